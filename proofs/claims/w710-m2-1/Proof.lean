import JvmDerived
import JvmDerived.Pilot.@@N@@Statement
import JvmDerived.Pilot.@@N@@Code
set_option linter.unusedVariables false
set_option linter.unusedSimpArgs false
namespace Jvm.Pilot.@@N@@
open Jvm Jvm.ClassFile Sem Op Lib Jvm.Free Jvm.Stand Jvm.LawKit Jvm.RoadKit Bundle Jvm.Pilot.@@N@@.Jvm.D
section OwnKit
variable {p : Program} {l : Launch} {e : Env} {R : Room} {s : State} {m : MethodId} {args : Array Value} {below : List Frame} {meth : Method} {c : Code} {T : State} {locs : List Loc} {cells slots : Nat} {Z : State} {a0 : Array Value} {h h0 : Heap}
/-- the run comes from S to an end of which Q speaks -/
def Gl (p : Program) (e : Env) (below : List Frame) (s : State) (Q : Option Value → Heap → List Loc → Prop) (cc kk : Nat) (S : State) : Prop :=
  ∃ t o, Steps p.tables e below S t ∧ t.status = .running ∧ Ended t below o ∧ ∃ v L, o = .returned v ∧ Q v t.heap L ∧ FrameEnd s o t L cc kk
theorem Gl.pre {Q : Option Value → Heap → List Loc → Prop} {cc kk : Nat} {S S' : State} (st : ∀ t, Steps p.tables e below S' t → Steps p.tables e below S t) (k : Gl p e below s Q cc kk S') : Gl p e below s Q cc kk S := by
  obtain ⟨t, o, h1, h2⟩ := k
  exact ⟨t, o, st _ h1, h2⟩
theorem Gl.ret {Q : Option Value → Heap → List Loc → Prop} {cc kk : Nat} {S : State} (X : Stand p l e R s m args below meth c T locs cells slots) {v : Option Value} (hv : meth.sig.returnType = none → v = none) (hlocks : meth.locks = false) (hQ : Q v T.heap locs) (hc : cells ≤ cc) (hk : slots ≤ kk)
    (st : ∀ fs, (∀ (f : JFrame) (acts : List Action), f.method = m → f.locked = none → f.entered = [] → (doReturn e (T.setTop f) acts v).1 = T.setFrames fs) → Steps p.tables e below S (T.setFrames fs)) : Gl p e below s Q cc kk S := by
  obtain ⟨fs, hr, hrun, hended, hW, hsame⟩ := X.leave (v := v) hv hlocks
  exact ⟨_, _, st fs hr, hrun, hended, _, _, rfl, hQ, ⟨_, rfl⟩, hW, hsame.mono hc hk⟩
theorem Gl.fin {Q : Option Value → Heap → List Loc → Prop} {cc kk : Nat} {S : State} (X : Stand p l e R s m args below meth c T locs cells slots) {v : Option Value} (hv : meth.sig.returnType = none → v = none) (hlocks : meth.locks = false) (hQ : Q v h locs) (eT : T.heap = h) (hc : cells ≤ cc) (hk : slots ≤ kk)
    (st : ∀ fs, (∀ (f : JFrame) (acts : List Action), f.method = m → f.locked = none → f.entered = [] → (doReturn e (T.setTop f) acts v).1 = T.setFrames fs) → Steps p.tables e below S (T.setFrames fs)) : Gl p e below s Q cc kk S :=
  Gl.ret X hv hlocks (by rw [eT]; exact hQ) hc hk st
abbrev OMet (l : Launch) (Z : State) (y : MethodName) (bytes : ByteArray) (maxL : Nat) (ret : Option FieldType) (ws : List Jvm.Cond) (rm : Room) (as' : Array Value) (h0 : Heap) (Q : Option Value → Heap → List Loc → Prop) : Prop :=
  MetFree l y (head1 (Jvm.Cond.code y bytes maxL ret :: ws) rm) (fun a U => a = as' ∧ Z.Warmed39 U.vm ∧ U.heap = h0) (fun _ _ _ _ _ => True) (fun _ U o U' => ∃ v L, o = .returned v ∧ Q v U'.heap L ∧ FrameEnd U o U' L rm.cells rm.slots)
theorem own_body {y : MethodName} {bytes : ByteArray} {maxL : Nat} {ret : Option FieldType} {ws : List Jvm.Cond} {rm : Room} {as' : Array Value} {Q : Option Value → Heap → List Loc → Prop} (hx : plainFor y = true)
    (H : ∀ p e s m below meth c s₁, BodyLoose p l y (head1 (Jvm.Cond.code y bytes maxL ret :: ws) rm) bytes maxL ret e s m as' below meth c s₁ → c.maxLocals = maxL → Z.Warmed39 s.vm → s₁.heap = h0 → Gl p e below s Q rm.cells rm.slots (s₁.setTop (entryFrame m as' maxL))) :
    OMet l Z y bytes maxL ret ws rm as' h0 Q := by
  refine MetFree.of_bodySF hx hisR ?_
  intro p e s m args below meth c s₁ Bd hml0 hP hK
  obtain ⟨rfl, hZ, hh⟩ := hP
  exact H p e s m below meth c s₁ Bd hml0 hZ (by rw [← hh, Bd.state]; rfl)
/-- an int is returned -/
theorem own_retI (X : Stand p l e R s m args below meth c T locs cells slots) (hx : p.tables.exec = Jvm.exec) {pc : Nat} {Ls : Array Slot} {z : Int32} {rest : List Value} (hret : meth.sig.returnType = some .int) (hd : decode c.code pc = .ok (.ireturn, 1)) {fs : List Frame}
    (hl : ∀ (f : JFrame) (acts : List Action), f.method = m → f.locked = none → f.entered = [] → (doReturn e (T.setTop f) acts (some (.int z))).1 = T.setFrames fs) : Steps p.tables e below (T.setTop (mkF m pc Ls (.int z :: rest))) (T.setFrames fs) :=
  retOut X hx hret rfl (Or.inl ⟨rfl, Or.inl rfl, z, rfl⟩) hd hl
theorem own_retJ (X : Stand p l e R s m args below meth c T locs cells slots) (hx : p.tables.exec = Jvm.exec) {pc : Nat} {Ls : Array Slot} {z : Int64} {rest : List Value} (hret : meth.sig.returnType = some .long) (hd : decode c.code pc = .ok (.lreturn, 1)) {fs : List Frame}
    (hl : ∀ (f : JFrame) (acts : List Action), f.method = m → f.locked = none → f.entered = [] → (doReturn e (T.setTop f) acts (some (.long z))).1 = T.setFrames fs) : Steps p.tables e below (T.setTop (mkF m pc Ls (.long z :: rest))) (T.setFrames fs) :=
  retOut X hx hret rfl (Or.inr (Or.inl ⟨rfl, rfl, z, rfl⟩)) hd hl
theorem own_retD (X : Stand p l e R s m args below meth c T locs cells slots) (hx : p.tables.exec = Jvm.exec) {pc : Nat} {Ls : Array Slot} {z : UInt64} {rest : List Value} (hret : meth.sig.returnType = some .double) (hd : decode c.code pc = .ok (.dreturn, 1)) {fs : List Frame}
    (hl : ∀ (f : JFrame) (acts : List Action), f.method = m → f.locked = none → f.entered = [] → (doReturn e (T.setTop f) acts (some (.double z))).1 = T.setFrames fs) : Steps p.tables e below (T.setTop (mkF m pc Ls (.double z :: rest))) (T.setFrames fs) :=
  retOut X hx hret rfl (Or.inr (Or.inr (Or.inl ⟨rfl, rfl, z, rfl⟩))) hd hl
theorem own_retR (X : Stand p l e R s m args below meth c T locs cells slots) (hx : p.tables.exec = Jvm.exec) {pc : Nat} {Ls : Array Slot} {w : Value} {t : FieldType} {rest : List Value} (hret : meth.sig.returnType = some t) (ht : t.isReference = true) (hn : narrow t w = w) (hw : w.isRef = true) (hd : decode c.code pc = .ok (.areturn, 1)) {fs : List Frame}
    (hl : ∀ (f : JFrame) (acts : List Action), f.method = m → f.locked = none → f.entered = [] → (doReturn e (T.setTop f) acts (some w)).1 = T.setFrames fs) : Steps p.tables e below (T.setTop (mkF m pc Ls (w :: rest))) (T.setFrames fs) :=
  retOut X hx hret hn (Or.inr (Or.inr (Or.inr (Or.inr ⟨rfl, ht, hw⟩)))) hd hl
/-- a static method by its contract -/
theorem own_callS (X : Stand p l e R s m args below meth c T locs cells slots) (hx : p.tables.exec = Jvm.exec) (hZ : Z.Warmed39 s.vm) {own : String} {index : Nat} {y : MethodName} {bytes : ByteArray} {maxL : Nat} {ret : Option FieldType} {rm : Room} {Q : Option Value → Heap → List Loc → Prop}
    (hown : s.vm.findClass own = some m.cls) (w1 : (Jvm.Cond.methodLink own index y).before a0 Z = true) (w2 : (Jvm.Cond.static y).before a0 Z = true) (w3 : (Jvm.Cond.initialized y.cls).before a0 Z = true) (w4 : (Jvm.Cond.code y bytes maxL ret).before a0 Z = true)
    (hy : y.cls ≠ "java/lang/invoke/MethodHandle" ∧ y.cls ≠ "java/lang/invoke/VarHandle") {argsL rest : List Value} (hM : OMet l Z y bytes maxL ret [] rm argsL.toArray h Q) {W : Nat} (hf : rm.frames + 1 ≤ R.frames) (hl : W + (maxL + 11) + rm.locals ≤ R.locals) (hc : cells + rm.cells ≤ R.cells) (hs : slots + rm.slots ≤ R.slots)
    (eT : T.heap = h) {pc : Nat} {Ls : Array Slot} (hsize : Ls.size = c.maxLocals) (hlen : ∀ sig, parseMethodDescriptor y.desc = some sig → argsL.length = sig.parameters.length) (hW : (rest.map fun v => v.category).sum ≤ W) (hd : decode c.code pc = .ok (.invokestatic index, 3)) :
    ∃ (v : Option Value) (T' : State) (L : List Loc), Stand p l e R s m args below meth c T' (locs ++ L) (cells + rm.cells) (slots + rm.slots) ∧ Q v T'.heap L ∧
      ∀ t, Steps p.tables e below (T'.setTop (mkF m (pc + 3) Ls (v.toList ++ rest))) t → Steps p.tables e below (T.setTop (mkF m pc Ls (argsL.reverse ++ rest))) t := by
  obtain ⟨v, _, ⟨T', L', k', n'⟩, -, X', ⟨L, hQ, hl', hy', hz'⟩, st⟩ := Jvm.LawKit.callS X hx (y := y) hown (mvT hZ w1) (mvT hZ w2) (mvT hZ w3) (mvT hZ w4) hy (backOf (W := W) hM hZ w4 w3 hf hl) (g := mkF m pc Ls (argsL.reverse ++ rest)) rfl hsize (argsL := argsL) (rest := rest) hlen rfl (by show 2 * 0 + _ ≤ _; omega) hd (fun _ _ => ⟨rfl, eT, hc, hs⟩)
  dsimp only [Pt.U, Pt.locs, Pt.cells, Pt.slots] at X' hl' hy' hz' st hQ
  subst hl' hy' hz'
  exact ⟨v, T', L, X', hQ, st⟩
/-- a constructor by its contract -/
theorem own_callI (X : Stand p l e R s m args below meth c T locs cells slots) (hx : p.tables.exec = Jvm.exec) (hZ : Z.Warmed39 s.vm) {own : String} {index : Nat} {y : MethodName} {bytes : ByteArray} {maxL : Nat} {rm : Room} {Q : Option Value → Heap → List Loc → Prop} (hy1 : y.name = "<init>")
    (hown : s.vm.findClass own = some m.cls) (w1 : (Jvm.Cond.methodLink own index y).before a0 Z = true) (w2 : (Jvm.Cond.instanceMethod y).before a0 Z = true) (w3 : (Jvm.Cond.initialized y.cls).before a0 Z = true) (w4 : (Jvm.Cond.code y bytes maxL none).before a0 Z = true)
    (hy : y.cls ≠ "java/lang/invoke/MethodHandle" ∧ y.cls ≠ "java/lang/invoke/VarHandle") {a : Addr} {argsL rest : List Value} (hM : OMet l Z y bytes maxL none [] rm (.ref a :: argsL).toArray h Q) {W : Nat} (hf : rm.frames + 1 ≤ R.frames) (hl : W + (maxL + 11) + rm.locals ≤ R.locals) (hc : cells + rm.cells ≤ R.cells) (hs : slots + rm.slots ≤ R.slots)
    (eT : T.heap = h) {pc : Nat} {Ls : Array Slot} (hsize : Ls.size = c.maxLocals) (hlen : ∀ sig, parseMethodDescriptor y.desc = some sig → argsL.length = sig.parameters.length) (hW : (rest.map fun v => v.category).sum ≤ W) (hd : decode c.code pc = .ok (.invokespecial index, 3)) :
    ∃ (v : Option Value) (T' : State) (L : List Loc), Stand p l e R s m args below meth c T' (locs ++ L) (cells + rm.cells) (slots + rm.slots) ∧ Q v T'.heap L ∧
      ∀ t, Steps p.tables e below (T'.setTop (mkF m (pc + 3) Ls (v.toList ++ rest))) t → Steps p.tables e below (T.setTop (mkF m pc Ls (argsL.reverse ++ .ref a :: rest))) t := by
  obtain ⟨v, _, ⟨T', L', k', n'⟩, -, X', ⟨L, hQ, hl', hy', hz'⟩, st⟩ := X.specialBack hx (y := y) hy1 hown (mvT hZ w1) (mvT hZ w2) (mvT hZ w4) hy (backOf (W := W) hM hZ w4 w3 hf hl) (g := mkF m pc Ls (argsL.reverse ++ .ref a :: rest)) rfl hsize (Steps.refl _) (a := a) (argsL := argsL) (rest := rest) hlen rfl (by show 2 * 0 + _ ≤ _; omega) hd (fun _ _ => ⟨rfl, eT, hc, hs⟩)
  dsimp only [Pt.U, Pt.locs, Pt.cells, Pt.slots] at X' hl' hy' hz' st hQ
  subst hl' hy' hz'
  exact ⟨v, T', L, X', hQ, fun t k => st.trans k⟩
/-- an instance method by its contract, the receiver's class known -/
theorem own_callV (X : Stand p l e R s m args below meth c T locs cells slots) (hx : p.tables.exec = Jvm.exec) (hZ : Z.Warmed39 s.vm) {own C : String} {index : Nat} {y z : MethodName} {bytes : ByteArray} {maxL : Nat} {ret : Option FieldType} {rm : Room} {Q : Option Value → Heap → List Loc → Prop}
    (hown : s.vm.findClass own = some m.cls) (w1 : (Jvm.Cond.methodLink own index y).before a0 Z = true) (wd : (Jvm.Cond.declares y).before a0 Z = true) (hnf : NotFace s y) (ws : (Jvm.Cond.selects C y z).before a0 Z = true) (w2 : (Jvm.Cond.instanceMethod z).before a0 Z = true) (w3 : (Jvm.Cond.initialized z.cls).before a0 Z = true) (w4 : (Jvm.Cond.code z bytes maxL ret).before a0 Z = true)
    (hy : y.cls ≠ "java/lang/invoke/MethodHandle" ∧ y.cls ≠ "java/lang/invoke/VarHandle") {a : Addr} (E : Exa Z h a C) {argsL rest : List Value} (hM : OMet l Z z bytes maxL ret [] rm (.ref a :: argsL).toArray h Q) {W : Nat} (hf : rm.frames + 1 ≤ R.frames) (hl : W + (maxL + 11) + rm.locals ≤ R.locals) (hc : cells + rm.cells ≤ R.cells) (hs : slots + rm.slots ≤ R.slots)
    (eT : T.heap = h) {pc : Nat} {Ls : Array Slot} (hsize : Ls.size = c.maxLocals) (hlen : ∀ sig, parseMethodDescriptor y.desc = some sig → argsL.length = sig.parameters.length) (hW : (rest.map fun v => v.category).sum ≤ W) (hd : decode c.code pc = .ok (.invokevirtual index, 3)) :
    ∃ (v : Option Value) (T' : State) (L : List Loc), Stand p l e R s m args below meth c T' (locs ++ L) (cells + rm.cells) (slots + rm.slots) ∧ Q v T'.heap L ∧
      ∀ t, Steps p.tables e below (T'.setTop (mkF m (pc + 3) Ls (v.toList ++ rest))) t → Steps p.tables e below (T.setTop (mkF m pc Ls (argsL.reverse ++ .ref a :: rest))) t := by
  obtain ⟨cB, kB, q1, q2, q3⟩ := isOf hZ eT E
  obtain ⟨v, _, ⟨T', L', k', n'⟩, -, X', ⟨L, hQ, hl', hy', hz'⟩, st⟩ := X.virtualBack hx (y := y) (z := z) hown (mvT hZ w1) (mvT hZ wd) hnf (mvT hZ ws) (mvT hZ w2) hy (backOf (W := W) hM hZ w4 w3 hf hl) q1 q3 (g := mkF m pc Ls (argsL.reverse ++ .ref a :: rest)) rfl hsize (Steps.refl _) (argsL := argsL) (rest := rest) hlen rfl (by show 2 * 0 + _ ≤ _; omega) hd (fun _ _ => ⟨rfl, eT, hc, hs⟩)
  dsimp only [Pt.U, Pt.locs, Pt.cells, Pt.slots] at X' hl' hy' hz' st hQ
  subst hl' hy' hz'
  exact ⟨v, T', L, X', hQ, fun t k => st.trans k⟩
/-- an inherited instance method: the link names a class that doesn't declare it -/
theorem own_callU (X : Stand p l e R s m args below meth c T locs cells slots) (hx : p.tables.exec = Jvm.exec) (hZ : Z.Warmed39 s.vm) {own C owner : String} {index : Nat} {y z : MethodName} {bytes : ByteArray} {maxL : Nat} {ret : Option FieldType} {rm : Room} {Q : Option Value → Heap → List Loc → Prop}
    (hown : s.vm.findClass own = some m.cls) (w1 : (Jvm.Cond.methodLink own index y).before a0 Z = true) (wm : (Jvm.Cond.sameMethod y.cls owner y.name y.desc).before a0 Z = true) (wd : (Jvm.Cond.declares ⟨owner, y.name, y.desc⟩).before a0 Z = true) (ws : (Jvm.Cond.selects C y z).before a0 Z = true) (w2 : (Jvm.Cond.instanceMethod z).before a0 Z = true) (w3 : (Jvm.Cond.initialized z.cls).before a0 Z = true) (w4 : (Jvm.Cond.code z bytes maxL ret).before a0 Z = true)
    (hy : owner ≠ "java/lang/invoke/MethodHandle" ∧ owner ≠ "java/lang/invoke/VarHandle") {a : Addr} (E : Exa Z h a C) {argsL rest : List Value} (hM : OMet l Z z bytes maxL ret [] rm (.ref a :: argsL).toArray h Q) {W : Nat} (hf : rm.frames + 1 ≤ R.frames) (hl : W + (maxL + 11) + rm.locals ≤ R.locals) (hc : cells + rm.cells ≤ R.cells) (hs : slots + rm.slots ≤ R.slots)
    (eT : T.heap = h) {pc : Nat} {Ls : Array Slot} (hsize : Ls.size = c.maxLocals) (hlen : ∀ sig, parseMethodDescriptor y.desc = some sig → argsL.length = sig.parameters.length) (hW : (rest.map fun v => v.category).sum ≤ W) (hd : decode c.code pc = .ok (.invokevirtual index, 3)) :
    ∃ (v : Option Value) (T' : State) (L : List Loc), Stand p l e R s m args below meth c T' (locs ++ L) (cells + rm.cells) (slots + rm.slots) ∧ Q v T'.heap L ∧
      ∀ t, Steps p.tables e below (T'.setTop (mkF m (pc + 3) Ls (v.toList ++ rest))) t → Steps p.tables e below (T.setTop (mkF m pc Ls (argsL.reverse ++ .ref a :: rest))) t := by
  obtain ⟨cB, kB, q1, q2, q3⟩ := isOf hZ eT E
  obtain ⟨v, _, ⟨T', L', k', n'⟩, -, X', ⟨L, hQ, hl', hy', hz'⟩, st⟩ := X.virtualBackUp hx (x := y) (y := z) (owner := owner) hown (mvT hZ w1) (mvT hZ wm) (mvT hZ wd) hy (mvT hZ ws) (mvT hZ w2) (backOf (W := W) hM hZ w4 w3 hf hl) q1 q3 (g := mkF m pc Ls (argsL.reverse ++ .ref a :: rest)) rfl hsize (Steps.refl _) (argsL := argsL) (rest := rest) hlen rfl (by show 2 * 0 + _ ≤ _; omega) hd (fun _ _ => ⟨rfl, eT, hc, hs⟩)
  dsimp only [Pt.U, Pt.locs, Pt.cells, Pt.slots] at X' hl' hy' hz' st hQ
  subst hl' hy' hz'
  exact ⟨v, T', L, X', hQ, fun t k => st.trans k⟩
/-- an interface's method by the contract of the body that the receiver's class selects -/
theorem own_callF (X : Stand p l e R s m args below meth c T locs cells slots) (hx : p.tables.exec = Jvm.exec) (hZ : Z.Warmed39 s.vm) {own C : String} {index count : Nat} {y z : MethodName} {bytes : ByteArray} {maxL : Nat} {ret : Option FieldType} {rm : Room} {Q : Option Value → Heap → List Loc → Prop}
    (hown : s.vm.findClass own = some m.cls) (w1 : (Jvm.Cond.methodLink own index y).before a0 Z = true) (wd : (Jvm.Cond.declares y).before a0 Z = true) (wf : (Jvm.Cond.interfaceMethod y.cls y.cls y.name y.desc).before args s = true) (ws : (Jvm.Cond.selects C y z).before a0 Z = true) (w2 : (Jvm.Cond.instanceMethod z).before a0 Z = true) (wp : (Jvm.Cond.publicMethod z).before a0 Z = true) (wu : (Jvm.Cond.unhidden C y.name y.desc).before a0 Z = true) (wc : (Jvm.Cond.castable C y.cls).before a0 Z = true) (w3 : (Jvm.Cond.initialized z.cls).before a0 Z = true) (w4 : (Jvm.Cond.code z bytes maxL ret).before a0 Z = true)
    (hy : y.cls ≠ "java/lang/invoke/MethodHandle" ∧ y.cls ≠ "java/lang/invoke/VarHandle") {a : Addr} (E : Exa Z h a C) {argsL rest : List Value} (hM : OMet l Z z bytes maxL ret [] rm (.ref a :: argsL).toArray h Q) {W : Nat} (hf : rm.frames + 1 ≤ R.frames) (hl : W + (maxL + 11) + rm.locals ≤ R.locals) (hc : cells + rm.cells ≤ R.cells) (hs : slots + rm.slots ≤ R.slots)
    (eT : T.heap = h) {pc : Nat} {Ls : Array Slot} (hsize : Ls.size = c.maxLocals) (hlen : ∀ sig, parseMethodDescriptor y.desc = some sig → argsL.length = sig.parameters.length) (hW : (rest.map fun v => v.category).sum ≤ W) (hd : decode c.code pc = .ok (.invokeinterface index count, 5)) :
    ∃ (v : Option Value) (T' : State) (L : List Loc), Stand p l e R s m args below meth c T' (locs ++ L) (cells + rm.cells) (slots + rm.slots) ∧ Q v T'.heap L ∧
      ∀ t, Steps p.tables e below (T'.setTop (mkF m (pc + 5) Ls (v.toList ++ rest))) t → Steps p.tables e below (T.setTop (mkF m pc Ls (argsL.reverse ++ .ref a :: rest))) t := by
  obtain ⟨cB, kB, q1, q2, q3⟩ := isOf hZ eT E
  obtain ⟨v, _, ⟨T', L', k', n'⟩, -, X', ⟨L, hQ, hl', hy', hz'⟩, st⟩ := X.interfaceBack hx (xi := y) (y := z) hown (mvT hZ w1) (mvT hZ wd) wf (mvT hZ ws) (mvT hZ w2) (mvT hZ wp) (mvT hZ wu) (mvT hZ wc) hy (backOf (W := W) hM hZ w4 w3 hf hl) q1 q2 q3 (g := mkF m pc Ls (argsL.reverse ++ .ref a :: rest)) rfl hsize (Steps.refl _) (argsL := argsL) (rest := rest) hlen rfl (by show 2 * 0 + _ ≤ _; omega) hd (fun _ _ => ⟨rfl, eT, hc, hs⟩)
  dsimp only [Pt.U, Pt.locs, Pt.cells, Pt.slots] at X' hl' hy' hz' st hQ
  subst hl' hy' hz'
  exact ⟨v, T', L, X', hQ, fun t k => st.trans k⟩
theorem own_hc {T : State} {h : Heap} {a : Addr} {cl : Cell} (q : T.heap = h) (r : h[a]? = some cl) : T.heap[a]? = some cl := by rw [q]; exact r
/-- what a Bool is as Java's int -/
def b2i (b : Bool) : Int32 := if b then 1 else 0
theorem b2i_t {b : Bool} (h : b = true) : b2i b = 1 := by simp [b2i, h]
theorem b2i_f {b : Bool} (h : b = false) : b2i b = 0 := by simp [b2i, h]
theorem b2i_inj {a b : Bool} : b2i a = b2i b ↔ a = b := by cases a <;> cases b <;> decide
/-- the branches' conditions in plain words -/
theorem ic_lt (x y : Int32) : if_icmp.holds .lt x y = decide (x < y) := by by_cases q : x < y <;> simp [q, tlt, flt]
theorem ic_ge (x y : Int32) : if_icmp.holds .ge x y = !decide (x < y) := by by_cases q : x < y <;> simp [q, tlt, flt]
theorem ic_gt (x y : Int32) : if_icmp.holds .gt x y = decide (y < x) := by by_cases q : y < x <;> simp [q, tlt, flt]
theorem ic_le (x y : Int32) : if_icmp.holds .le x y = !decide (y < x) := by by_cases q : y < x <;> simp [q, tlt, flt]
theorem ic_eq (x y : Int32) : if_icmp.holds .eq x y = decide (x = y) := by by_cases q : x = y <;> simp [q, teq, feq]
theorem ic_ne (x y : Int32) : if_icmp.holds .ne x y = !decide (x = y) := by by_cases q : x = y <;> simp [q, teq, feq]
theorem i0_lt (x : Int32) : ifCond.holds .lt x = decide (x < 0) := (if0 _ _).trans (ic_lt x 0)
theorem i0_ge (x : Int32) : ifCond.holds .ge x = !decide (x < 0) := (if0 _ _).trans (ic_ge x 0)
theorem i0_gt (x : Int32) : ifCond.holds .gt x = decide (0 < x) := (if0 _ _).trans (ic_gt x 0)
theorem i0_le (x : Int32) : ifCond.holds .le x = !decide (0 < x) := (if0 _ _).trans (ic_le x 0)
theorem i0_eq (x : Int32) : ifCond.holds .eq x = decide (x = 0) := (if0 _ _).trans (ic_eq x 0)
theorem i0_ne (x : Int32) : ifCond.holds .ne x = !decide (x = 0) := (if0 _ _).trans (ic_ne x 0)
theorem lw_lt (x y : Int64) : lcmpW x y < 0 ↔ x < y := by rw [lcW]; exact Jvm.RoadKit.lc_lt x y
theorem lw_gt (x y : Int64) : 0 < lcmpW x y ↔ y < x := by rw [lcW]; exact Jvm.RoadKit.lc_gt x y
theorem lw_eq (x y : Int64) : lcmpW x y = 0 ↔ x = y := by rw [lcW]; exact Jvm.RoadKit.lc_eq x y
theorem l0_lt (x y : Int64) : ifCond.holds .lt (lcmpW x y) = decide (x < y) := (i0_lt _).trans (by simp [lw_lt])
theorem l0_ge (x y : Int64) : ifCond.holds .ge (lcmpW x y) = !decide (x < y) := (i0_ge _).trans (by simp [lw_lt])
theorem l0_gt (x y : Int64) : ifCond.holds .gt (lcmpW x y) = decide (y < x) := (i0_gt _).trans (by simp [lw_gt])
theorem l0_le (x y : Int64) : ifCond.holds .le (lcmpW x y) = !decide (y < x) := (i0_le _).trans (by simp [lw_gt])
theorem l0_eq (x y : Int64) : ifCond.holds .eq (lcmpW x y) = decide (x = y) := (i0_eq _).trans (by simp [lw_eq])
theorem l0_ne (x y : Int64) : ifCond.holds .ne (lcmpW x y) = !decide (x = y) := (i0_ne _).trans (by simp [lw_eq])
theorem b0_eq (b : Bool) : ifCond.holds .eq (b2i b) = !b := by cases b <;> decide
theorem b0_ne (b : Bool) : ifCond.holds .ne (b2i b) = b := by cases b <;> decide
theorem own_t {P : Prop} [Decidable P] {u : Bool} (q : u = decide P) (hp : P) : u = true := by rw [q]; exact decide_eq_true hp
theorem own_f {P : Prop} [Decidable P] {u : Bool} (q : u = decide P) (hp : ¬ P) : u = false := by rw [q]; exact decide_eq_false hp
theorem own_nt {P : Prop} [Decidable P] {u : Bool} (q : u = !decide P) (hp : ¬ P) : u = true := by rw [q]; simp [hp]
theorem own_nf {P : Prop} [Decidable P] {u : Bool} (q : u = !decide P) (hp : P) : u = false := by rw [q]; simp [hp]
theorem own_bt {u b : Bool} (q : u = b) (hp : b = true) : u = true := q.trans hp
theorem own_bf {u b : Bool} (q : u = b) (hp : b = false) : u = false := q.trans hp
theorem own_nbt {u b : Bool} (q : u = !b) (hp : b = false) : u = true := by rw [q, hp]; rfl
theorem own_nbf {u b : Bool} (q : u = !b) (hp : b = true) : u = false := by rw [q, hp]; rfl
theorem own_retN (X : Stand p l e R s m args below meth c T locs cells slots) (hx : p.tables.exec = Jvm.exec) {pc : Nat} {Ls : Array Slot} {z z' : Int32} {t : FieldType} {rest : List Value} (hret : meth.sig.returnType = some t) (ht : t = .boolean ∨ t = .byte ∨ t = .char ∨ t = .short) (hn : nar t z = z')
    (hd : decode c.code pc = .ok (.ireturn, 1)) {fs : List Frame} (hl : ∀ (f : JFrame) (acts : List Action), f.method = m → f.locked = none → f.entered = [] → (doReturn e (T.setTop f) acts (some (.int z'))).1 = T.setFrames fs) :
    Steps p.tables e below (T.setTop (mkF m pc Ls (.int z :: rest))) (T.setFrames fs) := by
  subst hn
  exact retN X hx hret ht hd hl
theorem own_nar_b2i (b : Bool) : nar .boolean (b2i b) = b2i b := by cases b <;> decide
theorem own_narrow_b2i (b : Bool) : narrow .boolean (.int (b2i b)) = .int (b2i b) := by cases b <;> rfl
theorem own_fits_b2i (b : Bool) : fits .boolean (.int (b2i b)) = true := by cases b <;> rfl
theorem own_nar_i2b (x : Int32) : nar .byte x.toInt8.toInt32 = x.toInt8.toInt32 := by simp [nar]
theorem own_lrem (x y : Int64) : x - x / y * y = x % y := by
  apply Int64.toInt_inj.mp
  have h1 := Int64.le_toInt (x % y)
  have h2 := Int64.toInt_lt (x % y)
  have e : x.toInt - y.toInt * x.toInt.tdiv y.toInt = x.toInt.tmod y.toInt := (Int.tmod_def _ _).symm
  rw [Int64.toInt_sub, Int64.toInt_mul, Int64.toInt_div, Int.bmod_mul_bmod, Int.sub_bmod_bmod, Int.mul_comm (x.toInt.tdiv y.toInt), e, ← Int64.toInt_mod]
  exact Int.bmod_eq_of_le_mul_two (by omega) (by omega)
/-- getfield by an entry that is resolved already -/
theorem own_getFR (X : Stand p l e R s m args below meth c T locs cells slots) (hx : p.tables.exec = Jvm.exec) (hZ : Z.Warmed39 s.vm) {own O n d : String} {index : Nat} (hown : s.vm.findClass own = some m.cls) (w : (Jvm.Cond.fieldRef own index O n d).before a0 Z = true)
    (eT : T.heap = h) {a : Addr} {v : Value} (F : Fld Z h a O n d v) {g : JFrame} (hg : g.method = m) {rest : List Value} (hs : g.stack = .ref a :: rest) (hd : decode c.code g.pc = .ok (.getfield index, 3)) : ∃ T', Stand p l e R s m args below meth c T' locs cells slots ∧ T'.heap = h ∧ ∀ target, Steps p.tables e below (T'.setTop { g with pc := g.pc + 3, stack := v :: rest }) target → Steps p.tables e below (T.setTop g) target := by
  have hZT : Z.Warmed39 T.vm := wtrans hZ X.warmed
  have w' := Cond.fieldRef_warmed39 hZT w
  have hcur : (Z.setVm T.vm).vm.findClass own = some m.cls := (X.warmed.alike.findClass own _).trans hown
  obtain ⟨c', k', i', f', h1, hready⟩ := Cond.fieldRef_spec (s := Z.setVm T.vm) hcur w'
  obtain ⟨cell, cf, k, i, f, g1, g2, g3, g4, -, -, g7⟩ := F
  obtain ⟨k2, hi, -⟩ := State.fieldFound?_setVm (s := Z) hZT.alike g2
  have q := Option.some.inj (h1.symm.trans hi)
  simp only [Prod.mk.injEq] at q
  obtain ⟨rfl, -, -, rfl⟩ := q
  exact ⟨T, X, eT, fun target kt => (X.getfieldR hx hg hready g3 hs (by rw [eT]; exact g1) g4 g7 hd (Steps.refl _)).trans kt⟩
/-- the case's words on statics and fields, at the start -/
theorem own_sx {C n d K : String} (w1 : (Jvm.Cond.initialized C).before args s = true) (w2 : (Jvm.Cond.laysStatic C n d).before args s = true) (q : (Jvm.Cond.exactly (Term.static C n d) K).value args s none s [] = some true) : ∃ a : Addr, (Term.static C n d).eval args s none [] s = some (.ref a) ∧ Sta s s.heap C n d (.ref a) ∧ Exa s s.heap a K := by
  obtain ⟨a, ev⟩ := exa_v q
  exact ⟨a, ev, Sta.start ev (Or.inr ⟨w1, w2⟩), Exa.start ev q⟩
theorem own_fi {t : Term} {a : Addr} {C n d : String} {k : Int32} (ev : t.eval args s none [] s = some (.ref a)) (q : (Jvm.Cond.eq (Term.field t C n d) (Term.int k)).value args s none s [] = some true) : Fld s s.heap a C n d (.int k) := by
  obtain ⟨x, y, h1, h2, h3, h4⟩ := cmp_v (Or.inl q)
  have h5 : y = .int k := (Option.some.inj (h2.symm.trans (Term.int_eval k)) : _)
  subst h5
  obtain ⟨z, rfl⟩ : ∃ z, x = .int z := h4
  have e2 := h1
  rw [fld_at ev] at h1
  simp [Cond.value, e2, h2] at q
  subst q
  exact Fld.start h1
theorem own_fx {t : Term} {a : Addr} {C n d K : String} (ev : t.eval args s none [] s = some (.ref a)) (q : (Jvm.Cond.exactly (Term.field t C n d) K).value args s none s [] = some true) : ∃ b : Addr, (Term.field t C n d).eval args s none [] s = some (.ref b) ∧ Fld s s.heap a C n d (.ref b) ∧ Exa s s.heap b K := by
  obtain ⟨b, ev2⟩ := exa_v q
  exact ⟨b, ev2, Fld.start ((fld_at ev).symm.trans ev2), Exa.start ev2 q⟩
/-- a class that the chain of superclasses doesn't meet: its own word is 'instantiable' -/
theorem own_ns_root {Z : State} {a0 : Array Value} {O K : String} {n : Nat} (w : (Jvm.Cond.noSuperclass O).before a0 Z = true) (wi : (Jvm.Cond.instantiable K n).before a0 Z = true) (hn : O ≠ K) : NS Z O K := by
  obtain ⟨c, k, h1, h2, h3, -, -⟩ := Cond.noSuperclass_spec w
  obtain ⟨t, kt, g1, -⟩ := Cond.instantiable_spec wi
  have ne := ids_ne h1 g1 hn
  refine ⟨c, t, h1, g1, fun fuel => ?_⟩
  cases fuel with
  | zero => rfl
  | succ f => simp [Vm.isSubclassAux, ne, h2, h3]
theorem own_ns_no {Z : State} {a0 : Array Value} {C S K : String} {n : Nat} (w : (Jvm.Cond.superclass C S).before a0 Z = true) (wi : (Jvm.Cond.instantiable K n).before a0 Z = true) (q : NS Z C K) (hn : C ≠ K) : ∃ c t, Z.vm.findClass C = some c ∧ Z.vm.findClass K = some t ∧ Z.vm.assignable c t = false := by
  obtain ⟨c, t, h0, g0, n3⟩ := q
  obtain ⟨p, k, kp, h1, h2, h3, h4, h5, -, h7⟩ := Cond.superclass_spec h0 w
  obtain ⟨t', kt, g1, g2, g3, g4, -, -⟩ := Cond.instantiable_spec wi
  cases g0.symm.trans g1
  have g5 : kt.isInterface = false := by simp only [Bool.or_eq_false_iff] at g4; exact g4.1
  have ne := ids_ne h0 g0 hn
  refine ⟨c, t, h0, g0, ?_⟩
  show Z.vm.assignableAux (255 + 1) c t = false
  simp [Vm.assignableAux, ne, h2, g2, h5, g3, g5, Vm.isSubclass, n3]
/-- a static's cell isn't written by one who writes objects alone -/
theorem own_sta_keep {Z : State} {h h' : Heap} {C n d : String} {v : Value} {ws : List Addr} (F : Sta Z h C n d v) (K : Keep h h' ws) (q : ∀ x ∈ ws, ∃ C', Exa Z h x C') : Sta Z h' C n d v := by
  obtain ⟨cf, i, k, f, st, cell, h1, h2, h3, h4, h5, h6, h7⟩ := F
  refine ⟨cf, i, k, f, st, cell, h1, h2, h3, h4, K.2.1 st cell h5 (fun r => ?_), h6, h7⟩
  obtain ⟨C', c', k', g1, -, -, g4, -⟩ := q st r
  rw [h5] at g1
  cases g1
  rw [h6] at g4
  cases g4
theorem own_ne32 {x y : Int32} (h : x ≠ y) : Value.int x ≠ Value.int y := fun q => h (Value.int.inj q)
end OwnKit
theorem pn_java_lang_Record : plainName "java/lang/Record" = true := by first | (simp [plainName, overriddenIn]; done) | decide +kernel
theorem ef_rm2 (m : MethodId) (x0 : Addr) : entryFrame m #[(.ref x0)] 1 = mkF m 0 #[.val (.ref x0)] [] := by first | (simp [entryFrame, mkF, argsToLocals, Value.category]; done) | rfl
theorem d2_0 : decode jdk_30_method_1_code 0 = .ok (.aload_n 0, 1) := by decide +kernel
theorem d2_1 : decode jdk_30_method_1_code 1 = .ok (.invokespecial 1, 3) := by decide +kernel
theorem d2_4 : decode jdk_30_method_1_code 4 = .ok (.return_, 1) := by decide +kernel
def Q2 (Z : State) (a1 : Addr) (h0 : Heap) (n0 : Nat) (v : Option Value) (h : Heap) (L : List Loc) : Prop := v = none ∧ Fr n0 L ∧ h = h0
set_option maxRecDepth 65536 in
set_option maxHeartbeats 40000000 in
theorem rm2 (l : Launch) (Z : State) (a0 : Array Value) (hw : ∀ d ∈ tables_1, d.before a0 Z = true) (ws : List Jvm.Cond) (a1 : Addr) (h0 : Heap) (n0 : Nat) (Z0 : n0 ≤ h0.size) :
    OMet l Z (⟨"java/lang/Record", "<init>", "()V"⟩ : MethodName) jdk_30_method_1_code 1 none ws ({ frames := 1, cells := 0, slots := 0, locals := 12 } : Room) #[(.ref a1)] h0 (Q2 Z a1 h0 n0) := by
  refine own_body (plainFor_of_name pn_java_lang_Record) ?_
  intro p e s m below meth c s₁ Bd hml0 hZ e0
  have hx := Bd.exec
  have hby := Bd.bytes
  have hml : c.maxLocals = 1 := hml0
  have hown : s.vm.findClass "java/lang/Record" = some m.cls := findClass_of_methodNamed Bd.named
  have hnm := (name_of_methodNamed Bd.named Bd.method).1
  have X0 : Stand p l e ({ frames := 1, cells := 0, slots := 0, locals := 12 } : Room) s m #[(.ref a1)] below meth c s₁ [] 0 0 := Stand.of_body Bd
  have N0 := Fr.nil n0
  have K0 : Keep h0 h0 [] := Keep.refl _ _
  rw [ef_rm2]
  obtain ⟨T101, X101, e101, st101⟩ := initO X0 hx hZ hown (hw _ (List.mem_of_getElem? (i := 12) rfl)) (hw _ (List.mem_of_getElem? (i := 13) rfl)) (hw _ (List.mem_of_getElem? (i := 14) rfl)) e0 (g := (mkF m 1 #[.val (.ref a1)] [(.ref a1)])) rfl (by rw [hml]; rfl) rfl (hb hby d2_1) (by decide) (W := 0) (by show 2 * 0 + _ ≤ _; exact Nat.le_of_eq rfl) (by decide)
  refine Gl.fin X101 (v := none) (fun _ => rfl) Bd.notSynchronized ?_ e101 (by decide) (by decide) (fun fs hr => ?_)
  · exact ⟨rfl, N0, rfl⟩
  · show Steps p.tables e below (s₁.setTop (mkF m 0 #[.val (.ref a1)] [])) _
    refine XS.aloadN X0.here hx rfl (hb hby d2_0) rfl rfl ?_
    show Steps p.tables e below (s₁.setTop (mkF m 1 #[.val (.ref a1)] [(.ref a1)])) _
    refine st101 _ ?_
    show Steps p.tables e below (T101.setTop (mkF m 4 #[.val (.ref a1)] [])) _
    exact X101.returnOut hx Bd.returns (hb hby d2_4) hr
theorem pn_com_example_stackledger_stackledger_Cleanup_Chosen : plainName "com/example/stackledger/stackledger/Cleanup$Chosen" = true := by first | (simp [plainName, overriddenIn]; done) | decide +kernel
theorem ef_rm1 (m : MethodId) (x0 : Addr) (x1 : Int64) (x2 : Int64) (x4 : Int64) (x5 : Int32) (x6 : Int64) (x7 : Int64) (x8 : Int32) : entryFrame m #[(.ref x0), (.long x1), (.long x2), .null, (.long x4), (.int x5), (.long x6), (.long x7), (.int x8)] 14 = mkF m 0 #[.val (.ref x0), .val (.long x1), .second, .val (.long x2), .second, .val .null, .val (.long x4), .second, .val (.int x5), .val (.long x6), .second, .val (.long x7), .second, .val (.int x8)] [] := by first | (simp [entryFrame, mkF, argsToLocals, Value.category]; done) | rfl
theorem d1_0 : decode prog_5_method_1_code 0 = .ok (.aload_n 0, 1) := by decide +kernel
theorem d1_1 : decode prog_5_method_1_code 1 = .ok (.invokespecial 1, 3) := by decide +kernel
theorem pd___V : parseMethodDescriptor "()V" = some ⟨[], none⟩ := by decide +kernel
theorem d1_4 : decode prog_5_method_1_code 4 = .ok (.aload_n 0, 1) := by decide +kernel
theorem d1_5 : decode prog_5_method_1_code 5 = .ok (.lload_n 1, 1) := by decide +kernel
theorem d1_6 : decode prog_5_method_1_code 6 = .ok (.putfield 7, 3) := by decide +kernel
theorem d1_9 : decode prog_5_method_1_code 9 = .ok (.aload_n 0, 1) := by decide +kernel
theorem d1_10 : decode prog_5_method_1_code 10 = .ok (.lload_n 3, 1) := by decide +kernel
theorem d1_11 : decode prog_5_method_1_code 11 = .ok (.putfield 13, 3) := by decide +kernel
theorem d1_14 : decode prog_5_method_1_code 14 = .ok (.aload_n 0, 1) := by decide +kernel
theorem d1_15 : decode prog_5_method_1_code 15 = .ok (.aload 5, 2) := by decide +kernel
theorem d1_17 : decode prog_5_method_1_code 17 = .ok (.putfield 16, 3) := by decide +kernel
theorem d1_20 : decode prog_5_method_1_code 20 = .ok (.aload_n 0, 1) := by decide +kernel
theorem d1_21 : decode prog_5_method_1_code 21 = .ok (.lload 6, 2) := by decide +kernel
theorem d1_23 : decode prog_5_method_1_code 23 = .ok (.putfield 20, 3) := by decide +kernel
theorem d1_26 : decode prog_5_method_1_code 26 = .ok (.aload_n 0, 1) := by decide +kernel
theorem d1_27 : decode prog_5_method_1_code 27 = .ok (.iload 8, 2) := by decide +kernel
theorem d1_29 : decode prog_5_method_1_code 29 = .ok (.putfield 23, 3) := by decide +kernel
theorem d1_32 : decode prog_5_method_1_code 32 = .ok (.aload_n 0, 1) := by decide +kernel
theorem d1_33 : decode prog_5_method_1_code 33 = .ok (.lload 9, 2) := by decide +kernel
theorem d1_35 : decode prog_5_method_1_code 35 = .ok (.putfield 27, 3) := by decide +kernel
theorem d1_38 : decode prog_5_method_1_code 38 = .ok (.aload_n 0, 1) := by decide +kernel
theorem d1_39 : decode prog_5_method_1_code 39 = .ok (.lload 11, 2) := by decide +kernel
theorem d1_41 : decode prog_5_method_1_code 41 = .ok (.putfield 30, 3) := by decide +kernel
theorem d1_44 : decode prog_5_method_1_code 44 = .ok (.aload_n 0, 1) := by decide +kernel
theorem d1_45 : decode prog_5_method_1_code 45 = .ok (.iload 13, 2) := by decide +kernel
theorem d1_47 : decode prog_5_method_1_code 47 = .ok (.putfield 33, 3) := by decide +kernel
theorem d1_50 : decode prog_5_method_1_code 50 = .ok (.return_, 1) := by decide +kernel
def Q1 (Z : State) (a1 : Addr) (q1 : Int64) (q2 : Int64) (q3 : Int64) (q4 : Int64) (q5 : Int64) (bf : Bool) (bl : Bool) (h0 : Heap) (n0 : Nat) (v : Option Value) (h : Heap) (L : List Loc) : Prop := v = none ∧ Fr n0 L ∧ Keep h0 h [a1] ∧ Exa Z h a1 "com/example/stackledger/stackledger/Cleanup$Chosen" ∧ Fld Z h a1 "com/example/stackledger/stackledger/Cleanup$Chosen" "totalPaidCents" "J" (.long q4) ∧ Fld Z h a1 "com/example/stackledger/stackledger/Cleanup$Chosen" "balanceCents" "J" (.long q5) ∧ Fld Z h a1 "com/example/stackledger/stackledger/Cleanup$Chosen" "lost" "Z" (.int (b2i bl))
set_option maxRecDepth 65536 in
set_option maxHeartbeats 40000000 in
theorem rm1 (l : Launch) (Z : State) (a0 : Array Value) (hw : ∀ d ∈ tables_1, d.before a0 Z = true) (ws : List Jvm.Cond) (a1 : Addr) (q1 : Int64) (q2 : Int64) (q3 : Int64) (q4 : Int64) (q5 : Int64) (bf : Bool) (bl : Bool) (h0 : Heap) (n0 : Nat) (Z0 : n0 ≤ h0.size) (g_a1 : n0 ≤ a1) (E_a : Exa Z h0 a1 "com/example/stackledger/stackledger/Cleanup$Chosen") (F_transaction : Fld Z h0 a1 "com/example/stackledger/stackledger/Cleanup$Chosen" "transaction" "J" (.long (0 : Int64))) (F_patron : Fld Z h0 a1 "com/example/stackledger/stackledger/Cleanup$Chosen" "patron" "J" (.long (0 : Int64))) (F_org : Fld Z h0 a1 "com/example/stackledger/stackledger/Cleanup$Chosen" "org" "Ljava/lang/String;" .null) (F_startedAt : Fld Z h0 a1 "com/example/stackledger/stackledger/Cleanup$Chosen" "startedAt" "J" (.long (0 : Int64))) (F_finished : Fld Z h0 a1 "com/example/stackledger/stackledger/Cleanup$Chosen" "finished" "Z" (.int (0 : Int32))) (F_totalPaidCents : Fld Z h0 a1 "com/example/stackledger/stackledger/Cleanup$Chosen" "totalPaidCents" "J" (.long (0 : Int64))) (F_balanceCents : Fld Z h0 a1 "com/example/stackledger/stackledger/Cleanup$Chosen" "balanceCents" "J" (.long (0 : Int64))) (F_lost : Fld Z h0 a1 "com/example/stackledger/stackledger/Cleanup$Chosen" "lost" "Z" (.int (0 : Int32))) :
    OMet l Z (⟨"com/example/stackledger/stackledger/Cleanup$Chosen", "<init>", "(JJLjava/lang/String;JZJJZ)V"⟩ : MethodName) prog_5_method_1_code 14 none ws ({ frames := 2, cells := 0, slots := 0, locals := 24 } : Room) #[(.ref a1), (.long q1), (.long q2), .null, (.long q3), (.int (b2i bf)), (.long q4), (.long q5), (.int (b2i bl))] h0 (Q1 Z a1 q1 q2 q3 q4 q5 bf bl h0 n0) := by
  refine own_body (plainFor_of_name pn_com_example_stackledger_stackledger_Cleanup_Chosen) ?_
  intro p e s m below meth c s₁ Bd hml0 hZ e0
  have hx := Bd.exec
  have hby := Bd.bytes
  have hml : c.maxLocals = 14 := hml0
  have hown : s.vm.findClass "com/example/stackledger/stackledger/Cleanup$Chosen" = some m.cls := findClass_of_methodNamed Bd.named
  have hnm := (name_of_methodNamed Bd.named Bd.method).1
  have X0 : Stand p l e ({ frames := 2, cells := 0, slots := 0, locals := 24 } : Room) s m #[(.ref a1), (.long q1), (.long q2), .null, (.long q3), (.int (b2i bf)), (.long q4), (.long q5), (.int (b2i bl))] below meth c s₁ [] 0 0 := Stand.of_body Bd
  have N0 := Fr.nil n0
  have K0 : Keep h0 h0 [a1] := Keep.refl _ _
  rw [ef_rm1]
  obtain ⟨v101, T101, L101, X101, q101, st101⟩ := own_callI X0 hx hZ (y := (⟨"java/lang/Record", "<init>", "()V"⟩ : MethodName)) rfl hown (hw _ (List.mem_of_getElem? (i := 7) rfl)) (hw _ (List.mem_of_getElem? (i := 8) rfl)) (hw _ (List.mem_of_getElem? (i := 10) rfl)) (hw _ (List.mem_of_getElem? (i := 11) rfl)) (by decide) (a := a1) (hM := (rm2 l Z a0 hw [] a1 h0 n0 Z0)) (by decide) (by decide) (by decide) (by decide) e0 (argsL := []) (rest := []) (Ls := #[.val (.ref a1), .val (.long q1), .second, .val (.long q2), .second, .val .null, .val (.long q3), .second, .val (.int (b2i bf)), .val (.long q4), .second, .val (.long q5), .second, .val (.int (b2i bl))]) (by rw [hml]; rfl) (lenOf pd___V rfl) (W := 0) (Nat.le_of_eq rfl) (hb hby d1_1)
  obtain ⟨rfl, N101q, e101⟩ := q101
  have N101 := Fr.app N0 N101q
  obtain ⟨T102, h102, X102, e102, W102, st102⟩ := putF X101 hx hZ hown (host := "") (Or.inl (hw _ (List.mem_of_getElem? (i := 15) rfl))) Via.refl e101 F_transaction E_a (Or.inr ⟨(hw _ (List.mem_of_getElem? (i := 16) rfl)), rfl, hnm⟩) (hw _ (List.mem_of_getElem? (i := 1) rfl)) (ty := .long) (by decide) rfl rfl (g := (mkF m 6 #[.val (.ref a1), .val (.long q1), .second, .val (.long q2), .second, .val .null, .val (.long q3), .second, .val (.int (b2i bf)), .val (.long q4), .second, .val (.long q5), .second, .val (.int (b2i bl))] [(.long q1), (.ref a1)])) rfl rfl (hb hby d1_6)
  have Fw102 := F_transaction.same W102
  have K102 : Keep h0 h102 [a1] := K0.wr W102 (Or.inl (List.mem_of_getElem? (i := 0) rfl))
  have N102 := Fr.snoc X102 N101 g_a1
  have f103 := (F_patron.other W102 (Or.inr (slot_ne (Or.inr (hw _ (List.mem_of_getElem? (i := 18) rfl))) (Or.inr (hw _ (List.mem_of_getElem? (i := 16) rfl))) (by decide) (t := .long) (t' := .long) (by decide) (by decide))))
  have f104 := (E_a.wr W102)
  obtain ⟨T105, h105, X105, e105, W105, st105⟩ := putF X102 hx hZ hown (host := "") (Or.inl (hw _ (List.mem_of_getElem? (i := 17) rfl))) Via.refl e102 f103 f104 (Or.inr ⟨(hw _ (List.mem_of_getElem? (i := 18) rfl)), rfl, hnm⟩) (hw _ (List.mem_of_getElem? (i := 1) rfl)) (ty := .long) (by decide) rfl rfl (g := (mkF m 11 #[.val (.ref a1), .val (.long q1), .second, .val (.long q2), .second, .val .null, .val (.long q3), .second, .val (.int (b2i bf)), .val (.long q4), .second, .val (.long q5), .second, .val (.int (b2i bl))] [(.long q2), (.ref a1)])) rfl rfl (hb hby d1_11)
  have Fw105 := f103.same W105
  have K105 : Keep h0 h105 [a1] := K102.wr W105 (Or.inl (List.mem_of_getElem? (i := 0) rfl))
  have N105 := Fr.snoc X105 N102 g_a1
  have f106 := ((F_org.other W102 (Or.inr (slot_ne (Or.inr (hw _ (List.mem_of_getElem? (i := 20) rfl))) (Or.inr (hw _ (List.mem_of_getElem? (i := 16) rfl))) (by decide) (t := (.object "java/lang/String")) (t' := .long) (by decide) (by decide)))).other W105 (Or.inr (slot_ne (Or.inr (hw _ (List.mem_of_getElem? (i := 20) rfl))) (Or.inr (hw _ (List.mem_of_getElem? (i := 18) rfl))) (by decide) (t := (.object "java/lang/String")) (t' := .long) (by decide) (by decide))))
  have f107 := (f104.wr W105)
  obtain ⟨T108, h108, X108, e108, W108, st108⟩ := putF X105 hx hZ hown (host := "") (Or.inl (hw _ (List.mem_of_getElem? (i := 19) rfl))) Via.refl e105 f106 f107 (Or.inr ⟨(hw _ (List.mem_of_getElem? (i := 20) rfl)), rfl, hnm⟩) (hw _ (List.mem_of_getElem? (i := 1) rfl)) (ty := (.object "java/lang/String")) (by decide) rfl rfl (g := (mkF m 17 #[.val (.ref a1), .val (.long q1), .second, .val (.long q2), .second, .val .null, .val (.long q3), .second, .val (.int (b2i bf)), .val (.long q4), .second, .val (.long q5), .second, .val (.int (b2i bl))] [.null, (.ref a1)])) rfl rfl (hb hby d1_17)
  have Fw108 := f106.same W108
  have K108 : Keep h0 h108 [a1] := K105.wr W108 (Or.inl (List.mem_of_getElem? (i := 0) rfl))
  have N108 := Fr.snoc X108 N105 g_a1
  have f109 := (((F_startedAt.other W102 (Or.inr (slot_ne (Or.inr (hw _ (List.mem_of_getElem? (i := 22) rfl))) (Or.inr (hw _ (List.mem_of_getElem? (i := 16) rfl))) (by decide) (t := .long) (t' := .long) (by decide) (by decide)))).other W105 (Or.inr (slot_ne (Or.inr (hw _ (List.mem_of_getElem? (i := 22) rfl))) (Or.inr (hw _ (List.mem_of_getElem? (i := 18) rfl))) (by decide) (t := .long) (t' := .long) (by decide) (by decide)))).other W108 (Or.inr (slot_ne (Or.inr (hw _ (List.mem_of_getElem? (i := 22) rfl))) (Or.inr (hw _ (List.mem_of_getElem? (i := 20) rfl))) (by decide) (t := .long) (t' := (.object "java/lang/String")) (by decide) (by decide))))
  have f110 := (f107.wr W108)
  obtain ⟨T111, h111, X111, e111, W111, st111⟩ := putF X108 hx hZ hown (host := "") (Or.inl (hw _ (List.mem_of_getElem? (i := 21) rfl))) Via.refl e108 f109 f110 (Or.inr ⟨(hw _ (List.mem_of_getElem? (i := 22) rfl)), rfl, hnm⟩) (hw _ (List.mem_of_getElem? (i := 1) rfl)) (ty := .long) (by decide) rfl rfl (g := (mkF m 23 #[.val (.ref a1), .val (.long q1), .second, .val (.long q2), .second, .val .null, .val (.long q3), .second, .val (.int (b2i bf)), .val (.long q4), .second, .val (.long q5), .second, .val (.int (b2i bl))] [(.long q3), (.ref a1)])) rfl rfl (hb hby d1_23)
  have Fw111 := f109.same W111
  have K111 : Keep h0 h111 [a1] := K108.wr W111 (Or.inl (List.mem_of_getElem? (i := 0) rfl))
  have N111 := Fr.snoc X111 N108 g_a1
  have f112 := ((((F_finished.other W102 (Or.inr (slot_ne (Or.inr (hw _ (List.mem_of_getElem? (i := 24) rfl))) (Or.inr (hw _ (List.mem_of_getElem? (i := 16) rfl))) (by decide) (t := .boolean) (t' := .long) (by decide) (by decide)))).other W105 (Or.inr (slot_ne (Or.inr (hw _ (List.mem_of_getElem? (i := 24) rfl))) (Or.inr (hw _ (List.mem_of_getElem? (i := 18) rfl))) (by decide) (t := .boolean) (t' := .long) (by decide) (by decide)))).other W108 (Or.inr (slot_ne (Or.inr (hw _ (List.mem_of_getElem? (i := 24) rfl))) (Or.inr (hw _ (List.mem_of_getElem? (i := 20) rfl))) (by decide) (t := .boolean) (t' := (.object "java/lang/String")) (by decide) (by decide)))).other W111 (Or.inr (slot_ne (Or.inr (hw _ (List.mem_of_getElem? (i := 24) rfl))) (Or.inr (hw _ (List.mem_of_getElem? (i := 22) rfl))) (by decide) (t := .boolean) (t' := .long) (by decide) (by decide))))
  have f113 := (f110.wr W111)
  obtain ⟨T114, h114, X114, e114, W114, st114⟩ := putFN X111 hx hZ hown (hw _ (List.mem_of_getElem? (i := 23) rfl)) Via.refl e111 f112 f113 (Or.inr ⟨(hw _ (List.mem_of_getElem? (i := 24) rfl)), rfl, hnm⟩) (hw _ (List.mem_of_getElem? (i := 1) rfl)) (ty := .boolean) (v' := (.int (b2i bf))) (by decide) (own_narrow_b2i _) (own_fits_b2i _) (g := (mkF m 29 #[.val (.ref a1), .val (.long q1), .second, .val (.long q2), .second, .val .null, .val (.long q3), .second, .val (.int (b2i bf)), .val (.long q4), .second, .val (.long q5), .second, .val (.int (b2i bl))] [(.int (b2i bf)), (.ref a1)])) rfl rfl (hb hby d1_29)
  have Fw114 := f112.same W114
  have K114 : Keep h0 h114 [a1] := K111.wr W114 (Or.inl (List.mem_of_getElem? (i := 0) rfl))
  have N114 := Fr.snoc X114 N111 g_a1
  have f115 := (((((F_totalPaidCents.other W102 (Or.inr (slot_ne (Or.inr (hw _ (List.mem_of_getElem? (i := 26) rfl))) (Or.inr (hw _ (List.mem_of_getElem? (i := 16) rfl))) (by decide) (t := .long) (t' := .long) (by decide) (by decide)))).other W105 (Or.inr (slot_ne (Or.inr (hw _ (List.mem_of_getElem? (i := 26) rfl))) (Or.inr (hw _ (List.mem_of_getElem? (i := 18) rfl))) (by decide) (t := .long) (t' := .long) (by decide) (by decide)))).other W108 (Or.inr (slot_ne (Or.inr (hw _ (List.mem_of_getElem? (i := 26) rfl))) (Or.inr (hw _ (List.mem_of_getElem? (i := 20) rfl))) (by decide) (t := .long) (t' := (.object "java/lang/String")) (by decide) (by decide)))).other W111 (Or.inr (slot_ne (Or.inr (hw _ (List.mem_of_getElem? (i := 26) rfl))) (Or.inr (hw _ (List.mem_of_getElem? (i := 22) rfl))) (by decide) (t := .long) (t' := .long) (by decide) (by decide)))).other W114 (Or.inr (slot_ne (Or.inr (hw _ (List.mem_of_getElem? (i := 26) rfl))) (Or.inr (hw _ (List.mem_of_getElem? (i := 24) rfl))) (by decide) (t := .long) (t' := .boolean) (by decide) (by decide))))
  have f116 := (f113.wr W114)
  obtain ⟨T117, h117, X117, e117, W117, st117⟩ := putF X114 hx hZ hown (host := "") (Or.inl (hw _ (List.mem_of_getElem? (i := 25) rfl))) Via.refl e114 f115 f116 (Or.inr ⟨(hw _ (List.mem_of_getElem? (i := 26) rfl)), rfl, hnm⟩) (hw _ (List.mem_of_getElem? (i := 1) rfl)) (ty := .long) (by decide) rfl rfl (g := (mkF m 35 #[.val (.ref a1), .val (.long q1), .second, .val (.long q2), .second, .val .null, .val (.long q3), .second, .val (.int (b2i bf)), .val (.long q4), .second, .val (.long q5), .second, .val (.int (b2i bl))] [(.long q4), (.ref a1)])) rfl rfl (hb hby d1_35)
  have Fw117 := f115.same W117
  have K117 : Keep h0 h117 [a1] := K114.wr W117 (Or.inl (List.mem_of_getElem? (i := 0) rfl))
  have N117 := Fr.snoc X117 N114 g_a1
  have f118 := ((((((F_balanceCents.other W102 (Or.inr (slot_ne (Or.inr (hw _ (List.mem_of_getElem? (i := 28) rfl))) (Or.inr (hw _ (List.mem_of_getElem? (i := 16) rfl))) (by decide) (t := .long) (t' := .long) (by decide) (by decide)))).other W105 (Or.inr (slot_ne (Or.inr (hw _ (List.mem_of_getElem? (i := 28) rfl))) (Or.inr (hw _ (List.mem_of_getElem? (i := 18) rfl))) (by decide) (t := .long) (t' := .long) (by decide) (by decide)))).other W108 (Or.inr (slot_ne (Or.inr (hw _ (List.mem_of_getElem? (i := 28) rfl))) (Or.inr (hw _ (List.mem_of_getElem? (i := 20) rfl))) (by decide) (t := .long) (t' := (.object "java/lang/String")) (by decide) (by decide)))).other W111 (Or.inr (slot_ne (Or.inr (hw _ (List.mem_of_getElem? (i := 28) rfl))) (Or.inr (hw _ (List.mem_of_getElem? (i := 22) rfl))) (by decide) (t := .long) (t' := .long) (by decide) (by decide)))).other W114 (Or.inr (slot_ne (Or.inr (hw _ (List.mem_of_getElem? (i := 28) rfl))) (Or.inr (hw _ (List.mem_of_getElem? (i := 24) rfl))) (by decide) (t := .long) (t' := .boolean) (by decide) (by decide)))).other W117 (Or.inr (slot_ne (Or.inr (hw _ (List.mem_of_getElem? (i := 28) rfl))) (Or.inr (hw _ (List.mem_of_getElem? (i := 26) rfl))) (by decide) (t := .long) (t' := .long) (by decide) (by decide))))
  have f119 := (f116.wr W117)
  obtain ⟨T120, h120, X120, e120, W120, st120⟩ := putF X117 hx hZ hown (host := "") (Or.inl (hw _ (List.mem_of_getElem? (i := 27) rfl))) Via.refl e117 f118 f119 (Or.inr ⟨(hw _ (List.mem_of_getElem? (i := 28) rfl)), rfl, hnm⟩) (hw _ (List.mem_of_getElem? (i := 1) rfl)) (ty := .long) (by decide) rfl rfl (g := (mkF m 41 #[.val (.ref a1), .val (.long q1), .second, .val (.long q2), .second, .val .null, .val (.long q3), .second, .val (.int (b2i bf)), .val (.long q4), .second, .val (.long q5), .second, .val (.int (b2i bl))] [(.long q5), (.ref a1)])) rfl rfl (hb hby d1_41)
  have Fw120 := f118.same W120
  have K120 : Keep h0 h120 [a1] := K117.wr W120 (Or.inl (List.mem_of_getElem? (i := 0) rfl))
  have N120 := Fr.snoc X120 N117 g_a1
  have f121 := (((((((F_lost.other W102 (Or.inr (slot_ne (Or.inr (hw _ (List.mem_of_getElem? (i := 30) rfl))) (Or.inr (hw _ (List.mem_of_getElem? (i := 16) rfl))) (by decide) (t := .boolean) (t' := .long) (by decide) (by decide)))).other W105 (Or.inr (slot_ne (Or.inr (hw _ (List.mem_of_getElem? (i := 30) rfl))) (Or.inr (hw _ (List.mem_of_getElem? (i := 18) rfl))) (by decide) (t := .boolean) (t' := .long) (by decide) (by decide)))).other W108 (Or.inr (slot_ne (Or.inr (hw _ (List.mem_of_getElem? (i := 30) rfl))) (Or.inr (hw _ (List.mem_of_getElem? (i := 20) rfl))) (by decide) (t := .boolean) (t' := (.object "java/lang/String")) (by decide) (by decide)))).other W111 (Or.inr (slot_ne (Or.inr (hw _ (List.mem_of_getElem? (i := 30) rfl))) (Or.inr (hw _ (List.mem_of_getElem? (i := 22) rfl))) (by decide) (t := .boolean) (t' := .long) (by decide) (by decide)))).other W114 (Or.inr (slot_ne (Or.inr (hw _ (List.mem_of_getElem? (i := 30) rfl))) (Or.inr (hw _ (List.mem_of_getElem? (i := 24) rfl))) (by decide) (t := .boolean) (t' := .boolean) (by decide) (by decide)))).other W117 (Or.inr (slot_ne (Or.inr (hw _ (List.mem_of_getElem? (i := 30) rfl))) (Or.inr (hw _ (List.mem_of_getElem? (i := 26) rfl))) (by decide) (t := .boolean) (t' := .long) (by decide) (by decide)))).other W120 (Or.inr (slot_ne (Or.inr (hw _ (List.mem_of_getElem? (i := 30) rfl))) (Or.inr (hw _ (List.mem_of_getElem? (i := 28) rfl))) (by decide) (t := .boolean) (t' := .long) (by decide) (by decide))))
  have f122 := (f119.wr W120)
  obtain ⟨T123, h123, X123, e123, W123, st123⟩ := putFN X120 hx hZ hown (hw _ (List.mem_of_getElem? (i := 29) rfl)) Via.refl e120 f121 f122 (Or.inr ⟨(hw _ (List.mem_of_getElem? (i := 30) rfl)), rfl, hnm⟩) (hw _ (List.mem_of_getElem? (i := 1) rfl)) (ty := .boolean) (v' := (.int (b2i bl))) (by decide) (own_narrow_b2i _) (own_fits_b2i _) (g := (mkF m 47 #[.val (.ref a1), .val (.long q1), .second, .val (.long q2), .second, .val .null, .val (.long q3), .second, .val (.int (b2i bf)), .val (.long q4), .second, .val (.long q5), .second, .val (.int (b2i bl))] [(.int (b2i bl)), (.ref a1)])) rfl rfl (hb hby d1_47)
  have Fw123 := f121.same W123
  have K123 : Keep h0 h123 [a1] := K120.wr W123 (Or.inl (List.mem_of_getElem? (i := 0) rfl))
  have N123 := Fr.snoc X123 N120 g_a1
  have f124 := (f122.wr W123)
  have f125 := ((Fw117.other W120 (Or.inr (slot_ne (Or.inr (hw _ (List.mem_of_getElem? (i := 26) rfl))) (Or.inr (hw _ (List.mem_of_getElem? (i := 28) rfl))) (by decide) (t := .long) (t' := .long) (by decide) (by decide)))).other W123 (Or.inr (slot_ne (Or.inr (hw _ (List.mem_of_getElem? (i := 26) rfl))) (Or.inr (hw _ (List.mem_of_getElem? (i := 30) rfl))) (by decide) (t := .long) (t' := .boolean) (by decide) (by decide))))
  have f126 := (Fw120.other W123 (Or.inr (slot_ne (Or.inr (hw _ (List.mem_of_getElem? (i := 28) rfl))) (Or.inr (hw _ (List.mem_of_getElem? (i := 30) rfl))) (by decide) (t := .long) (t' := .boolean) (by decide) (by decide))))
  refine Gl.fin X123 (v := none) (fun _ => rfl) Bd.notSynchronized ?_ e123 (by decide) (by decide) (fun fs hr => ?_)
  · exact ⟨rfl, N123, K123, f124, f125, f126, Fw123⟩
  · show Steps p.tables e below (s₁.setTop (mkF m 0 #[.val (.ref a1), .val (.long q1), .second, .val (.long q2), .second, .val .null, .val (.long q3), .second, .val (.int (b2i bf)), .val (.long q4), .second, .val (.long q5), .second, .val (.int (b2i bl))] [])) _
    refine XS.aloadN X0.here hx rfl (hb hby d1_0) rfl rfl ?_
    show Steps p.tables e below (s₁.setTop (mkF m 1 #[.val (.ref a1), .val (.long q1), .second, .val (.long q2), .second, .val .null, .val (.long q3), .second, .val (.int (b2i bf)), .val (.long q4), .second, .val (.long q5), .second, .val (.int (b2i bl))] [(.ref a1)])) _
    refine st101 _ ?_
    show Steps p.tables e below (T101.setTop (mkF m 4 #[.val (.ref a1), .val (.long q1), .second, .val (.long q2), .second, .val .null, .val (.long q3), .second, .val (.int (b2i bf)), .val (.long q4), .second, .val (.long q5), .second, .val (.int (b2i bl))] [])) _
    refine XS.aloadN X101.here hx rfl (hb hby d1_4) rfl rfl ?_
    show Steps p.tables e below (T101.setTop (mkF m 5 #[.val (.ref a1), .val (.long q1), .second, .val (.long q2), .second, .val .null, .val (.long q3), .second, .val (.int (b2i bf)), .val (.long q4), .second, .val (.long q5), .second, .val (.int (b2i bl))] [(.ref a1)])) _
    refine XS.lloadN X101.here hx rfl (hb hby d1_5) rfl ?_
    show Steps p.tables e below (T101.setTop (mkF m 6 #[.val (.ref a1), .val (.long q1), .second, .val (.long q2), .second, .val .null, .val (.long q3), .second, .val (.int (b2i bf)), .val (.long q4), .second, .val (.long q5), .second, .val (.int (b2i bl))] [(.long q1), (.ref a1)])) _
    refine st102 _ ?_
    show Steps p.tables e below (T102.setTop (mkF m 9 #[.val (.ref a1), .val (.long q1), .second, .val (.long q2), .second, .val .null, .val (.long q3), .second, .val (.int (b2i bf)), .val (.long q4), .second, .val (.long q5), .second, .val (.int (b2i bl))] [])) _
    refine XS.aloadN X102.here hx rfl (hb hby d1_9) rfl rfl ?_
    show Steps p.tables e below (T102.setTop (mkF m 10 #[.val (.ref a1), .val (.long q1), .second, .val (.long q2), .second, .val .null, .val (.long q3), .second, .val (.int (b2i bf)), .val (.long q4), .second, .val (.long q5), .second, .val (.int (b2i bl))] [(.ref a1)])) _
    refine XS.lloadN X102.here hx rfl (hb hby d1_10) rfl ?_
    show Steps p.tables e below (T102.setTop (mkF m 11 #[.val (.ref a1), .val (.long q1), .second, .val (.long q2), .second, .val .null, .val (.long q3), .second, .val (.int (b2i bf)), .val (.long q4), .second, .val (.long q5), .second, .val (.int (b2i bl))] [(.long q2), (.ref a1)])) _
    refine st105 _ ?_
    show Steps p.tables e below (T105.setTop (mkF m 14 #[.val (.ref a1), .val (.long q1), .second, .val (.long q2), .second, .val .null, .val (.long q3), .second, .val (.int (b2i bf)), .val (.long q4), .second, .val (.long q5), .second, .val (.int (b2i bl))] [])) _
    refine XS.aloadN X105.here hx rfl (hb hby d1_14) rfl rfl ?_
    show Steps p.tables e below (T105.setTop (mkF m 15 #[.val (.ref a1), .val (.long q1), .second, .val (.long q2), .second, .val .null, .val (.long q3), .second, .val (.int (b2i bf)), .val (.long q4), .second, .val (.long q5), .second, .val (.int (b2i bl))] [(.ref a1)])) _
    refine XS.aload X105.here hx rfl (hb hby d1_15) rfl rfl ?_
    show Steps p.tables e below (T105.setTop (mkF m 17 #[.val (.ref a1), .val (.long q1), .second, .val (.long q2), .second, .val .null, .val (.long q3), .second, .val (.int (b2i bf)), .val (.long q4), .second, .val (.long q5), .second, .val (.int (b2i bl))] [.null, (.ref a1)])) _
    refine st108 _ ?_
    show Steps p.tables e below (T108.setTop (mkF m 20 #[.val (.ref a1), .val (.long q1), .second, .val (.long q2), .second, .val .null, .val (.long q3), .second, .val (.int (b2i bf)), .val (.long q4), .second, .val (.long q5), .second, .val (.int (b2i bl))] [])) _
    refine XS.aloadN X108.here hx rfl (hb hby d1_20) rfl rfl ?_
    show Steps p.tables e below (T108.setTop (mkF m 21 #[.val (.ref a1), .val (.long q1), .second, .val (.long q2), .second, .val .null, .val (.long q3), .second, .val (.int (b2i bf)), .val (.long q4), .second, .val (.long q5), .second, .val (.int (b2i bl))] [(.ref a1)])) _
    refine XS.lload X108.here hx rfl (hb hby d1_21) rfl ?_
    show Steps p.tables e below (T108.setTop (mkF m 23 #[.val (.ref a1), .val (.long q1), .second, .val (.long q2), .second, .val .null, .val (.long q3), .second, .val (.int (b2i bf)), .val (.long q4), .second, .val (.long q5), .second, .val (.int (b2i bl))] [(.long q3), (.ref a1)])) _
    refine st111 _ ?_
    show Steps p.tables e below (T111.setTop (mkF m 26 #[.val (.ref a1), .val (.long q1), .second, .val (.long q2), .second, .val .null, .val (.long q3), .second, .val (.int (b2i bf)), .val (.long q4), .second, .val (.long q5), .second, .val (.int (b2i bl))] [])) _
    refine XS.aloadN X111.here hx rfl (hb hby d1_26) rfl rfl ?_
    show Steps p.tables e below (T111.setTop (mkF m 27 #[.val (.ref a1), .val (.long q1), .second, .val (.long q2), .second, .val .null, .val (.long q3), .second, .val (.int (b2i bf)), .val (.long q4), .second, .val (.long q5), .second, .val (.int (b2i bl))] [(.ref a1)])) _
    refine XS.iload X111.here hx rfl (hb hby d1_27) rfl ?_
    show Steps p.tables e below (T111.setTop (mkF m 29 #[.val (.ref a1), .val (.long q1), .second, .val (.long q2), .second, .val .null, .val (.long q3), .second, .val (.int (b2i bf)), .val (.long q4), .second, .val (.long q5), .second, .val (.int (b2i bl))] [(.int (b2i bf)), (.ref a1)])) _
    refine st114 _ ?_
    show Steps p.tables e below (T114.setTop (mkF m 32 #[.val (.ref a1), .val (.long q1), .second, .val (.long q2), .second, .val .null, .val (.long q3), .second, .val (.int (b2i bf)), .val (.long q4), .second, .val (.long q5), .second, .val (.int (b2i bl))] [])) _
    refine XS.aloadN X114.here hx rfl (hb hby d1_32) rfl rfl ?_
    show Steps p.tables e below (T114.setTop (mkF m 33 #[.val (.ref a1), .val (.long q1), .second, .val (.long q2), .second, .val .null, .val (.long q3), .second, .val (.int (b2i bf)), .val (.long q4), .second, .val (.long q5), .second, .val (.int (b2i bl))] [(.ref a1)])) _
    refine XS.lload X114.here hx rfl (hb hby d1_33) rfl ?_
    show Steps p.tables e below (T114.setTop (mkF m 35 #[.val (.ref a1), .val (.long q1), .second, .val (.long q2), .second, .val .null, .val (.long q3), .second, .val (.int (b2i bf)), .val (.long q4), .second, .val (.long q5), .second, .val (.int (b2i bl))] [(.long q4), (.ref a1)])) _
    refine st117 _ ?_
    show Steps p.tables e below (T117.setTop (mkF m 38 #[.val (.ref a1), .val (.long q1), .second, .val (.long q2), .second, .val .null, .val (.long q3), .second, .val (.int (b2i bf)), .val (.long q4), .second, .val (.long q5), .second, .val (.int (b2i bl))] [])) _
    refine XS.aloadN X117.here hx rfl (hb hby d1_38) rfl rfl ?_
    show Steps p.tables e below (T117.setTop (mkF m 39 #[.val (.ref a1), .val (.long q1), .second, .val (.long q2), .second, .val .null, .val (.long q3), .second, .val (.int (b2i bf)), .val (.long q4), .second, .val (.long q5), .second, .val (.int (b2i bl))] [(.ref a1)])) _
    refine XS.lload X117.here hx rfl (hb hby d1_39) rfl ?_
    show Steps p.tables e below (T117.setTop (mkF m 41 #[.val (.ref a1), .val (.long q1), .second, .val (.long q2), .second, .val .null, .val (.long q3), .second, .val (.int (b2i bf)), .val (.long q4), .second, .val (.long q5), .second, .val (.int (b2i bl))] [(.long q5), (.ref a1)])) _
    refine st120 _ ?_
    show Steps p.tables e below (T120.setTop (mkF m 44 #[.val (.ref a1), .val (.long q1), .second, .val (.long q2), .second, .val .null, .val (.long q3), .second, .val (.int (b2i bf)), .val (.long q4), .second, .val (.long q5), .second, .val (.int (b2i bl))] [])) _
    refine XS.aloadN X120.here hx rfl (hb hby d1_44) rfl rfl ?_
    show Steps p.tables e below (T120.setTop (mkF m 45 #[.val (.ref a1), .val (.long q1), .second, .val (.long q2), .second, .val .null, .val (.long q3), .second, .val (.int (b2i bf)), .val (.long q4), .second, .val (.long q5), .second, .val (.int (b2i bl))] [(.ref a1)])) _
    refine XS.iload X120.here hx rfl (hb hby d1_45) rfl ?_
    show Steps p.tables e below (T120.setTop (mkF m 47 #[.val (.ref a1), .val (.long q1), .second, .val (.long q2), .second, .val .null, .val (.long q3), .second, .val (.int (b2i bf)), .val (.long q4), .second, .val (.long q5), .second, .val (.int (b2i bl))] [(.int (b2i bl)), (.ref a1)])) _
    refine st123 _ ?_
    show Steps p.tables e below (T123.setTop (mkF m 50 #[.val (.ref a1), .val (.long q1), .second, .val (.long q2), .second, .val .null, .val (.long q3), .second, .val (.int (b2i bf)), .val (.long q4), .second, .val (.long q5), .second, .val (.int (b2i bl))] [])) _
    exact X123.returnOut hx Bd.returns (hb hby d1_50) hr
theorem pn_com_example_stackledger_stackledger_Cleanup_Tally : plainName "com/example/stackledger/stackledger/Cleanup$Tally" = true := by first | (simp [plainName, overriddenIn]; done) | decide +kernel
theorem ef_rm4 (m : MethodId) (x0 : Addr) : entryFrame m #[(.ref x0)] 1 = mkF m 0 #[.val (.ref x0)] [] := by first | (simp [entryFrame, mkF, argsToLocals, Value.category]; done) | rfl
theorem d4_0 : decode prog_7_method_1_code 0 = .ok (.aload_n 0, 1) := by decide +kernel
theorem d4_1 : decode prog_7_method_1_code 1 = .ok (.invokespecial 1, 3) := by decide +kernel
theorem d4_4 : decode prog_7_method_1_code 4 = .ok (.return_, 1) := by decide +kernel
def Q4 (Z : State) (a1 : Addr) (h0 : Heap) (n0 : Nat) (v : Option Value) (h : Heap) (L : List Loc) : Prop := v = none ∧ Fr n0 L ∧ h = h0
set_option maxRecDepth 65536 in
set_option maxHeartbeats 40000000 in
theorem rm4 (l : Launch) (Z : State) (a0 : Array Value) (hw : ∀ d ∈ tables_1, d.before a0 Z = true) (ws : List Jvm.Cond) (a1 : Addr) (h0 : Heap) (n0 : Nat) (Z0 : n0 ≤ h0.size) :
    OMet l Z (⟨"com/example/stackledger/stackledger/Cleanup$Tally", "<init>", "()V"⟩ : MethodName) prog_7_method_1_code 1 none ws ({ frames := 1, cells := 0, slots := 0, locals := 12 } : Room) #[(.ref a1)] h0 (Q4 Z a1 h0 n0) := by
  refine own_body (plainFor_of_name pn_com_example_stackledger_stackledger_Cleanup_Tally) ?_
  intro p e s m below meth c s₁ Bd hml0 hZ e0
  have hx := Bd.exec
  have hby := Bd.bytes
  have hml : c.maxLocals = 1 := hml0
  have hown : s.vm.findClass "com/example/stackledger/stackledger/Cleanup$Tally" = some m.cls := findClass_of_methodNamed Bd.named
  have hnm := (name_of_methodNamed Bd.named Bd.method).1
  have X0 : Stand p l e ({ frames := 1, cells := 0, slots := 0, locals := 12 } : Room) s m #[(.ref a1)] below meth c s₁ [] 0 0 := Stand.of_body Bd
  have N0 := Fr.nil n0
  have K0 : Keep h0 h0 [] := Keep.refl _ _
  rw [ef_rm4]
  obtain ⟨T101, X101, e101, st101⟩ := initO X0 hx hZ hown (hw _ (List.mem_of_getElem? (i := 39) rfl)) (hw _ (List.mem_of_getElem? (i := 13) rfl)) (hw _ (List.mem_of_getElem? (i := 14) rfl)) e0 (g := (mkF m 1 #[.val (.ref a1)] [(.ref a1)])) rfl (by rw [hml]; rfl) rfl (hb hby d4_1) (by decide) (W := 0) (by show 2 * 0 + _ ≤ _; exact Nat.le_of_eq rfl) (by decide)
  refine Gl.fin X101 (v := none) (fun _ => rfl) Bd.notSynchronized ?_ e101 (by decide) (by decide) (fun fs hr => ?_)
  · exact ⟨rfl, N0, rfl⟩
  · show Steps p.tables e below (s₁.setTop (mkF m 0 #[.val (.ref a1)] [])) _
    refine XS.aloadN X0.here hx rfl (hb hby d4_0) rfl rfl ?_
    show Steps p.tables e below (s₁.setTop (mkF m 1 #[.val (.ref a1)] [(.ref a1)])) _
    refine st101 _ ?_
    show Steps p.tables e below (T101.setTop (mkF m 4 #[.val (.ref a1)] [])) _
    exact X101.returnOut hx Bd.returns (hb hby d4_4) hr
theorem ef_rm7 (m : MethodId) (x0 : Addr) : entryFrame m #[(.ref x0)] 1 = mkF m 0 #[.val (.ref x0)] [] := by first | (simp [entryFrame, mkF, argsToLocals, Value.category]; done) | rfl
theorem d7_0 : decode prog_7_method_3_code 0 = .ok (.aload_n 0, 1) := by decide +kernel
theorem d7_1 : decode prog_7_method_3_code 1 = .ok (.getfield 25, 3) := by decide +kernel
theorem d7_4 : decode prog_7_method_3_code 4 = .ok (.lreturn, 1) := by decide +kernel
def Q7 (Z : State) (a1 : Addr) (w1 : Int64) (h0 : Heap) (n0 : Nat) (v : Option Value) (h : Heap) (L : List Loc) : Prop := v = some (.long w1) ∧ Fr n0 L ∧ h = h0
set_option maxRecDepth 65536 in
set_option maxHeartbeats 40000000 in
theorem rm7 (l : Launch) (Z : State) (a0 : Array Value) (hw : ∀ d ∈ tables_1, d.before a0 Z = true) (ws : List Jvm.Cond) (a1 : Addr) (w1 : Int64) (h0 : Heap) (n0 : Nat) (Z0 : n0 ≤ h0.size) (F_f : Fld Z h0 a1 "com/example/stackledger/stackledger/Cleanup$Tally" "cleared" "J" (.long w1)) :
    OMet l Z (⟨"com/example/stackledger/stackledger/Cleanup$Tally", "cleared", "()J"⟩ : MethodName) prog_7_method_3_code 1 (some .long) ws ({ frames := 0, cells := 0, slots := 0, locals := 0 } : Room) #[(.ref a1)] h0 (Q7 Z a1 w1 h0 n0) := by
  refine own_body (plainFor_of_name pn_com_example_stackledger_stackledger_Cleanup_Tally) ?_
  intro p e s m below meth c s₁ Bd hml0 hZ e0
  have hx := Bd.exec
  have hby := Bd.bytes
  have hml : c.maxLocals = 1 := hml0
  have hown : s.vm.findClass "com/example/stackledger/stackledger/Cleanup$Tally" = some m.cls := findClass_of_methodNamed Bd.named
  have hnm := (name_of_methodNamed Bd.named Bd.method).1
  have X0 : Stand p l e ({ frames := 0, cells := 0, slots := 0, locals := 0 } : Room) s m #[(.ref a1)] below meth c s₁ [] 0 0 := Stand.of_body Bd
  have N0 := Fr.nil n0
  have K0 : Keep h0 h0 [] := Keep.refl _ _
  rw [ef_rm7]
  obtain ⟨T101, X101, e101, st101⟩ := getF X0 hx hZ hown (host := "") (Or.inl (hw _ (List.mem_of_getElem? (i := 61) rfl))) Via.refl e0 F_f (g := (mkF m 1 #[.val (.ref a1)] [(.ref a1)])) rfl rfl (hb hby d7_1)
  refine Gl.fin X101 (v := some (.long w1)) (fun h => by rw [Bd.returns] at h; cases h) Bd.notSynchronized ?_ e101 (by decide) (by decide) (fun fs hr => ?_)
  · exact ⟨rfl, N0, rfl⟩
  · show Steps p.tables e below (s₁.setTop (mkF m 0 #[.val (.ref a1)] [])) _
    refine XS.aloadN X0.here hx rfl (hb hby d7_0) rfl rfl ?_
    show Steps p.tables e below (s₁.setTop (mkF m 1 #[.val (.ref a1)] [(.ref a1)])) _
    refine st101 _ ?_
    show Steps p.tables e below (T101.setTop (mkF m 4 #[.val (.ref a1)] [(.long w1)])) _
    exact own_retJ X101 hx Bd.returns (hb hby d7_4) hr
theorem ef_rm8 (m : MethodId) (x0 : Addr) : entryFrame m #[(.ref x0)] 1 = mkF m 0 #[.val (.ref x0)] [] := by first | (simp [entryFrame, mkF, argsToLocals, Value.category]; done) | rfl
theorem d8_0 : decode prog_7_method_4_code 0 = .ok (.aload_n 0, 1) := by decide +kernel
theorem d8_1 : decode prog_7_method_4_code 1 = .ok (.getfield 19, 3) := by decide +kernel
theorem d8_4 : decode prog_7_method_4_code 4 = .ok (.lreturn, 1) := by decide +kernel
def Q8 (Z : State) (a1 : Addr) (w1 : Int64) (h0 : Heap) (n0 : Nat) (v : Option Value) (h : Heap) (L : List Loc) : Prop := v = some (.long w1) ∧ Fr n0 L ∧ h = h0
set_option maxRecDepth 65536 in
set_option maxHeartbeats 40000000 in
theorem rm8 (l : Launch) (Z : State) (a0 : Array Value) (hw : ∀ d ∈ tables_1, d.before a0 Z = true) (ws : List Jvm.Cond) (a1 : Addr) (w1 : Int64) (h0 : Heap) (n0 : Nat) (Z0 : n0 ≤ h0.size) (F_f : Fld Z h0 a1 "com/example/stackledger/stackledger/Cleanup$Tally" "skipped" "J" (.long w1)) :
    OMet l Z (⟨"com/example/stackledger/stackledger/Cleanup$Tally", "skipped", "()J"⟩ : MethodName) prog_7_method_4_code 1 (some .long) ws ({ frames := 0, cells := 0, slots := 0, locals := 0 } : Room) #[(.ref a1)] h0 (Q8 Z a1 w1 h0 n0) := by
  refine own_body (plainFor_of_name pn_com_example_stackledger_stackledger_Cleanup_Tally) ?_
  intro p e s m below meth c s₁ Bd hml0 hZ e0
  have hx := Bd.exec
  have hby := Bd.bytes
  have hml : c.maxLocals = 1 := hml0
  have hown : s.vm.findClass "com/example/stackledger/stackledger/Cleanup$Tally" = some m.cls := findClass_of_methodNamed Bd.named
  have hnm := (name_of_methodNamed Bd.named Bd.method).1
  have X0 : Stand p l e ({ frames := 0, cells := 0, slots := 0, locals := 0 } : Room) s m #[(.ref a1)] below meth c s₁ [] 0 0 := Stand.of_body Bd
  have N0 := Fr.nil n0
  have K0 : Keep h0 h0 [] := Keep.refl _ _
  rw [ef_rm8]
  obtain ⟨T101, X101, e101, st101⟩ := getF X0 hx hZ hown (host := "") (Or.inl (hw _ (List.mem_of_getElem? (i := 54) rfl))) Via.refl e0 F_f (g := (mkF m 1 #[.val (.ref a1)] [(.ref a1)])) rfl rfl (hb hby d8_1)
  refine Gl.fin X101 (v := some (.long w1)) (fun h => by rw [Bd.returns] at h; cases h) Bd.notSynchronized ?_ e101 (by decide) (by decide) (fun fs hr => ?_)
  · exact ⟨rfl, N0, rfl⟩
  · show Steps p.tables e below (s₁.setTop (mkF m 0 #[.val (.ref a1)] [])) _
    refine XS.aloadN X0.here hx rfl (hb hby d8_0) rfl rfl ?_
    show Steps p.tables e below (s₁.setTop (mkF m 1 #[.val (.ref a1)] [(.ref a1)])) _
    refine st101 _ ?_
    show Steps p.tables e below (T101.setTop (mkF m 4 #[.val (.ref a1)] [(.long w1)])) _
    exact own_retJ X101 hx Bd.returns (hb hby d8_4) hr
theorem ef_rm9 (m : MethodId) (x0 : Addr) : entryFrame m #[(.ref x0)] 1 = mkF m 0 #[.val (.ref x0)] [] := by first | (simp [entryFrame, mkF, argsToLocals, Value.category]; done) | rfl
theorem d9_0 : decode prog_7_method_5_code 0 = .ok (.aload_n 0, 1) := by decide +kernel
theorem d9_1 : decode prog_7_method_5_code 1 = .ok (.getfield 28, 3) := by decide +kernel
theorem d9_4 : decode prog_7_method_5_code 4 = .ok (.lreturn, 1) := by decide +kernel
def Q9 (Z : State) (a1 : Addr) (w1 : Int64) (h0 : Heap) (n0 : Nat) (v : Option Value) (h : Heap) (L : List Loc) : Prop := v = some (.long w1) ∧ Fr n0 L ∧ h = h0
set_option maxRecDepth 65536 in
set_option maxHeartbeats 40000000 in
theorem rm9 (l : Launch) (Z : State) (a0 : Array Value) (hw : ∀ d ∈ tables_1, d.before a0 Z = true) (ws : List Jvm.Cond) (a1 : Addr) (w1 : Int64) (h0 : Heap) (n0 : Nat) (Z0 : n0 ≤ h0.size) (F_f : Fld Z h0 a1 "com/example/stackledger/stackledger/Cleanup$Tally" "balanceCents" "J" (.long w1)) :
    OMet l Z (⟨"com/example/stackledger/stackledger/Cleanup$Tally", "balanceCents", "()J"⟩ : MethodName) prog_7_method_5_code 1 (some .long) ws ({ frames := 0, cells := 0, slots := 0, locals := 0 } : Room) #[(.ref a1)] h0 (Q9 Z a1 w1 h0 n0) := by
  refine own_body (plainFor_of_name pn_com_example_stackledger_stackledger_Cleanup_Tally) ?_
  intro p e s m below meth c s₁ Bd hml0 hZ e0
  have hx := Bd.exec
  have hby := Bd.bytes
  have hml : c.maxLocals = 1 := hml0
  have hown : s.vm.findClass "com/example/stackledger/stackledger/Cleanup$Tally" = some m.cls := findClass_of_methodNamed Bd.named
  have hnm := (name_of_methodNamed Bd.named Bd.method).1
  have X0 : Stand p l e ({ frames := 0, cells := 0, slots := 0, locals := 0 } : Room) s m #[(.ref a1)] below meth c s₁ [] 0 0 := Stand.of_body Bd
  have N0 := Fr.nil n0
  have K0 : Keep h0 h0 [] := Keep.refl _ _
  rw [ef_rm9]
  obtain ⟨T101, X101, e101, st101⟩ := getF X0 hx hZ hown (host := "") (Or.inl (hw _ (List.mem_of_getElem? (i := 73) rfl))) Via.refl e0 F_f (g := (mkF m 1 #[.val (.ref a1)] [(.ref a1)])) rfl rfl (hb hby d9_1)
  refine Gl.fin X101 (v := some (.long w1)) (fun h => by rw [Bd.returns] at h; cases h) Bd.notSynchronized ?_ e101 (by decide) (by decide) (fun fs hr => ?_)
  · exact ⟨rfl, N0, rfl⟩
  · show Steps p.tables e below (s₁.setTop (mkF m 0 #[.val (.ref a1)] [])) _
    refine XS.aloadN X0.here hx rfl (hb hby d9_0) rfl rfl ?_
    show Steps p.tables e below (s₁.setTop (mkF m 1 #[.val (.ref a1)] [(.ref a1)])) _
    refine st101 _ ?_
    show Steps p.tables e below (T101.setTop (mkF m 4 #[.val (.ref a1)] [(.long w1)])) _
    exact own_retJ X101 hx Bd.returns (hb hby d9_4) hr
theorem ef_rm10 (m : MethodId) (x0 : Addr) : entryFrame m #[(.ref x0)] 1 = mkF m 0 #[.val (.ref x0)] [] := by first | (simp [entryFrame, mkF, argsToLocals, Value.category]; done) | rfl
theorem d10_0 : decode prog_5_method_14_code 0 = .ok (.aload_n 0, 1) := by decide +kernel
theorem d10_1 : decode prog_5_method_14_code 1 = .ok (.getfield 30, 3) := by decide +kernel
theorem d10_4 : decode prog_5_method_14_code 4 = .ok (.lreturn, 1) := by decide +kernel
def Q10 (Z : State) (a1 : Addr) (w1 : Int64) (h0 : Heap) (n0 : Nat) (v : Option Value) (h : Heap) (L : List Loc) : Prop := v = some (.long w1) ∧ Fr n0 L ∧ h = h0
set_option maxRecDepth 65536 in
set_option maxHeartbeats 40000000 in
theorem rm10 (l : Launch) (Z : State) (a0 : Array Value) (hw : ∀ d ∈ tables_1, d.before a0 Z = true) (ws : List Jvm.Cond) (a1 : Addr) (w1 : Int64) (h0 : Heap) (n0 : Nat) (Z0 : n0 ≤ h0.size) (F_f : Fld Z h0 a1 "com/example/stackledger/stackledger/Cleanup$Chosen" "balanceCents" "J" (.long w1)) :
    OMet l Z (⟨"com/example/stackledger/stackledger/Cleanup$Chosen", "balanceCents", "()J"⟩ : MethodName) prog_5_method_14_code 1 (some .long) ws ({ frames := 0, cells := 0, slots := 0, locals := 0 } : Room) #[(.ref a1)] h0 (Q10 Z a1 w1 h0 n0) := by
  refine own_body (plainFor_of_name pn_com_example_stackledger_stackledger_Cleanup_Chosen) ?_
  intro p e s m below meth c s₁ Bd hml0 hZ e0
  have hx := Bd.exec
  have hby := Bd.bytes
  have hml : c.maxLocals = 1 := hml0
  have hown : s.vm.findClass "com/example/stackledger/stackledger/Cleanup$Chosen" = some m.cls := findClass_of_methodNamed Bd.named
  have hnm := (name_of_methodNamed Bd.named Bd.method).1
  have X0 : Stand p l e ({ frames := 0, cells := 0, slots := 0, locals := 0 } : Room) s m #[(.ref a1)] below meth c s₁ [] 0 0 := Stand.of_body Bd
  have N0 := Fr.nil n0
  have K0 : Keep h0 h0 [] := Keep.refl _ _
  rw [ef_rm10]
  obtain ⟨T101, X101, e101, st101⟩ := getF X0 hx hZ hown (host := "") (Or.inl (hw _ (List.mem_of_getElem? (i := 27) rfl))) Via.refl e0 F_f (g := (mkF m 1 #[.val (.ref a1)] [(.ref a1)])) rfl rfl (hb hby d10_1)
  refine Gl.fin X101 (v := some (.long w1)) (fun h => by rw [Bd.returns] at h; cases h) Bd.notSynchronized ?_ e101 (by decide) (by decide) (fun fs hr => ?_)
  · exact ⟨rfl, N0, rfl⟩
  · show Steps p.tables e below (s₁.setTop (mkF m 0 #[.val (.ref a1)] [])) _
    refine XS.aloadN X0.here hx rfl (hb hby d10_0) rfl rfl ?_
    show Steps p.tables e below (s₁.setTop (mkF m 1 #[.val (.ref a1)] [(.ref a1)])) _
    refine st101 _ ?_
    show Steps p.tables e below (T101.setTop (mkF m 4 #[.val (.ref a1)] [(.long w1)])) _
    exact own_retJ X101 hx Bd.returns (hb hby d10_4) hr
theorem ef_rm6l (m : MethodId) (x0 : Addr) : entryFrame m #[(.ref x0)] 1 = mkF m 0 #[.val (.ref x0)] [] := by first | (simp [entryFrame, mkF, argsToLocals, Value.category]; done) | rfl
theorem d6_0 : decode prog_5_method_2_code 0 = .ok (.aload_n 0, 1) := by decide +kernel
theorem d6_1 : decode prog_5_method_2_code 1 = .ok (.getfield 33, 3) := by decide +kernel
theorem d6_4 : decode prog_5_method_2_code 4 = .ok (.ifCond .eq 7, 3) := by decide +kernel
theorem d6_7 : decode prog_5_method_2_code 7 = .ok (.getstatic 36, 3) := by decide +kernel
theorem d6_10 : decode prog_5_method_2_code 10 = .ok (.areturn, 1) := by decide +kernel
def Q6l (Z : State) (a1 : Addr) (s1 : Addr) (h0 : Heap) (n0 : Nat) (v : Option Value) (h : Heap) (L : List Loc) : Prop := v = some (.ref s1) ∧ Fr n0 L ∧ h = h0
set_option maxRecDepth 65536 in
set_option maxHeartbeats 40000000 in
theorem rm6l (l : Launch) (Z : State) (a0 : Array Value) (hw : ∀ d ∈ tables_1, d.before a0 Z = true) (ws : List Jvm.Cond) (a1 : Addr) (s1 : Addr) (h0 : Heap) (n0 : Nat) (Z0 : n0 ≤ h0.size) (F_l : Fld Z h0 a1 "com/example/stackledger/stackledger/Cleanup$Chosen" "lost" "Z" (.int (1 : Int32))) (S_s : Sta Z h0 "com/example/stackledger/stackledger/Cleanup$Action" "SKIP_LOST" "Lcom/example/stackledger/stackledger/Cleanup$Action;" (.ref s1)) :
    OMet l Z (⟨"com/example/stackledger/stackledger/Cleanup$Chosen", "action", "()Lcom/example/stackledger/stackledger/Cleanup$Action;"⟩ : MethodName) prog_5_method_2_code 1 (some (.object "com/example/stackledger/stackledger/Cleanup$Action")) ws ({ frames := 0, cells := 0, slots := 0, locals := 0 } : Room) #[(.ref a1)] h0 (Q6l Z a1 s1 h0 n0) := by
  refine own_body (plainFor_of_name pn_com_example_stackledger_stackledger_Cleanup_Chosen) ?_
  intro p e s m below meth c s₁ Bd hml0 hZ e0
  have hx := Bd.exec
  have hby := Bd.bytes
  have hml : c.maxLocals = 1 := hml0
  have hown : s.vm.findClass "com/example/stackledger/stackledger/Cleanup$Chosen" = some m.cls := findClass_of_methodNamed Bd.named
  have hnm := (name_of_methodNamed Bd.named Bd.method).1
  have X0 : Stand p l e ({ frames := 0, cells := 0, slots := 0, locals := 0 } : Room) s m #[(.ref a1)] below meth c s₁ [] 0 0 := Stand.of_body Bd
  have N0 := Fr.nil n0
  have K0 : Keep h0 h0 [] := Keep.refl _ _
  rw [ef_rm6l]
  obtain ⟨T101, X101, e101, st101⟩ := getF X0 hx hZ hown (host := "") (Or.inl (hw _ (List.mem_of_getElem? (i := 29) rfl))) Via.refl e0 F_l (g := (mkF m 1 #[.val (.ref a1)] [(.ref a1)])) rfl rfl (hb hby d6_1)
  obtain ⟨T102, X102, e102, st102⟩ := getS2 X101 hx hZ hown (host := "") (Or.inl (hw _ (List.mem_of_getElem? (i := 50) rfl))) Via.refl e101 S_s (g := (mkF m 7 #[.val (.ref a1)] [])) rfl (hb hby d6_7)
  refine Gl.fin X102 (v := some (.ref s1)) (fun h => by rw [Bd.returns] at h; cases h) Bd.notSynchronized ?_ e102 (by decide) (by decide) (fun fs hr => ?_)
  · exact ⟨rfl, N0, rfl⟩
  · show Steps p.tables e below (s₁.setTop (mkF m 0 #[.val (.ref a1)] [])) _
    refine XS.aloadN X0.here hx rfl (hb hby d6_0) rfl rfl ?_
    show Steps p.tables e below (s₁.setTop (mkF m 1 #[.val (.ref a1)] [(.ref a1)])) _
    refine st101 _ ?_
    show Steps p.tables e below (T101.setTop (mkF m 4 #[.val (.ref a1)] [(.int (1 : Int32))])) _
    refine XS.ifNo X101.here hx rfl (hb hby d6_4) rfl (own_f (i0_eq _) (by decide)) ?_
    show Steps p.tables e below (T101.setTop (mkF m 7 #[.val (.ref a1)] [])) _
    refine st102 _ ?_
    show Steps p.tables e below (T102.setTop (mkF m 10 #[.val (.ref a1)] [(.ref s1)])) _
    exact own_retR X102 hx Bd.returns rfl rfl rfl (hb hby d6_10) hr
theorem ef_rm6n (m : MethodId) (x0 : Addr) : entryFrame m #[(.ref x0)] 1 = mkF m 0 #[.val (.ref x0)] [] := by first | (simp [entryFrame, mkF, argsToLocals, Value.category]; done) | rfl
theorem d6_11 : decode prog_5_method_2_code 11 = .ok (.aload_n 0, 1) := by decide +kernel
theorem d6_12 : decode prog_5_method_2_code 12 = .ok (.getfield 30, 3) := by decide +kernel
theorem d6_15 : decode prog_5_method_2_code 15 = .ok (.lconst 0, 1) := by decide +kernel
theorem d6_16 : decode prog_5_method_2_code 16 = .ok (.lcmp, 1) := by decide +kernel
theorem d6_17 : decode prog_5_method_2_code 17 = .ok (.ifCond .ge 7, 3) := by decide +kernel
theorem d6_20 : decode prog_5_method_2_code 20 = .ok (.getstatic 42, 3) := by decide +kernel
theorem d6_23 : decode prog_5_method_2_code 23 = .ok (.areturn, 1) := by decide +kernel
theorem d6_24 : decode prog_5_method_2_code 24 = .ok (.aload_n 0, 1) := by decide +kernel
theorem d6_25 : decode prog_5_method_2_code 25 = .ok (.getfield 27, 3) := by decide +kernel
theorem d6_28 : decode prog_5_method_2_code 28 = .ok (.lconst 0, 1) := by decide +kernel
theorem d6_29 : decode prog_5_method_2_code 29 = .ok (.lcmp, 1) := by decide +kernel
theorem d6_30 : decode prog_5_method_2_code 30 = .ok (.ifCond .ne 9, 3) := by decide +kernel
theorem d6_33 : decode prog_5_method_2_code 33 = .ok (.getstatic 45, 3) := by decide +kernel
theorem d6_36 : decode prog_5_method_2_code 36 = .ok (.goto 6, 3) := by decide +kernel
theorem d6_42 : decode prog_5_method_2_code 42 = .ok (.areturn, 1) := by decide +kernel
theorem d6_39 : decode prog_5_method_2_code 39 = .ok (.getstatic 48, 3) := by decide +kernel
def Q6n (Z : State) (a1 : Addr) (q1 : Int64) (q2 : Int64) (sk : Addr) (ov : Addr) (vo : Addr) (fo : Addr) (h0 : Heap) (n0 : Nat) (v : Option Value) (h : Heap) (L : List Loc) : Prop := ∃ r : Addr, r ≠ sk ∧ v = some (.ref r) ∧ Fr n0 L ∧ h = h0
set_option maxRecDepth 65536 in
set_option maxHeartbeats 40000000 in
theorem rm6n (l : Launch) (Z : State) (a0 : Array Value) (hw : ∀ d ∈ tables_1, d.before a0 Z = true) (ws : List Jvm.Cond) (a1 : Addr) (q1 : Int64) (q2 : Int64) (sk : Addr) (ov : Addr) (vo : Addr) (fo : Addr) (h0 : Heap) (n0 : Nat) (Z0 : n0 ≤ h0.size) (F_l : Fld Z h0 a1 "com/example/stackledger/stackledger/Cleanup$Chosen" "lost" "Z" (.int (0 : Int32))) (F_b : Fld Z h0 a1 "com/example/stackledger/stackledger/Cleanup$Chosen" "balanceCents" "J" (.long q1)) (F_p : Fld Z h0 a1 "com/example/stackledger/stackledger/Cleanup$Chosen" "totalPaidCents" "J" (.long q2)) (S_ov : Sta Z h0 "com/example/stackledger/stackledger/Cleanup$Action" "OVERPAYMENT" "Lcom/example/stackledger/stackledger/Cleanup$Action;" (.ref ov)) (S_vo : Sta Z h0 "com/example/stackledger/stackledger/Cleanup$Action" "VOID" "Lcom/example/stackledger/stackledger/Cleanup$Action;" (.ref vo)) (S_fo : Sta Z h0 "com/example/stackledger/stackledger/Cleanup$Action" "FORGIVE" "Lcom/example/stackledger/stackledger/Cleanup$Action;" (.ref fo)) (ne_ov : ov ≠ sk) (ne_vo : vo ≠ sk) (ne_fo : fo ≠ sk) :
    OMet l Z (⟨"com/example/stackledger/stackledger/Cleanup$Chosen", "action", "()Lcom/example/stackledger/stackledger/Cleanup$Action;"⟩ : MethodName) prog_5_method_2_code 1 (some (.object "com/example/stackledger/stackledger/Cleanup$Action")) ws ({ frames := 0, cells := 0, slots := 0, locals := 0 } : Room) #[(.ref a1)] h0 (Q6n Z a1 q1 q2 sk ov vo fo h0 n0) := by
  refine own_body (plainFor_of_name pn_com_example_stackledger_stackledger_Cleanup_Chosen) ?_
  intro p e s m below meth c s₁ Bd hml0 hZ e0
  have hx := Bd.exec
  have hby := Bd.bytes
  have hml : c.maxLocals = 1 := hml0
  have hown : s.vm.findClass "com/example/stackledger/stackledger/Cleanup$Chosen" = some m.cls := findClass_of_methodNamed Bd.named
  have hnm := (name_of_methodNamed Bd.named Bd.method).1
  have X0 : Stand p l e ({ frames := 0, cells := 0, slots := 0, locals := 0 } : Room) s m #[(.ref a1)] below meth c s₁ [] 0 0 := Stand.of_body Bd
  have N0 := Fr.nil n0
  have K0 : Keep h0 h0 [] := Keep.refl _ _
  rw [ef_rm6n]
  obtain ⟨T101, X101, e101, st101⟩ := getF X0 hx hZ hown (host := "") (Or.inl (hw _ (List.mem_of_getElem? (i := 29) rfl))) Via.refl e0 F_l (g := (mkF m 1 #[.val (.ref a1)] [(.ref a1)])) rfl rfl (hb hby d6_1)
  obtain ⟨T102, X102, e102, st102⟩ := getF X101 hx hZ hown (host := "") (Or.inl (hw _ (List.mem_of_getElem? (i := 27) rfl))) Via.refl e101 F_b (g := (mkF m 12 #[.val (.ref a1)] [(.ref a1)])) rfl rfl (hb hby d6_12)
  refine Gl.pre (S' := T102.setTop (mkF m 17 #[.val (.ref a1)] [(.int (lcmpW q1 (0 : Int64)))])) (fun t kt => ?_) ?_
  · show Steps p.tables e below (s₁.setTop (mkF m 0 #[.val (.ref a1)] [])) _
    refine XS.aloadN X0.here hx rfl (hb hby d6_0) rfl rfl ?_
    show Steps p.tables e below (s₁.setTop (mkF m 1 #[.val (.ref a1)] [(.ref a1)])) _
    refine st101 _ ?_
    show Steps p.tables e below (T101.setTop (mkF m 4 #[.val (.ref a1)] [(.int (0 : Int32))])) _
    refine XS.ifYes X101.here hx rfl (pc0 := 4) (pc' := 11) rfl (hb hby d6_4) rfl (own_t (i0_eq _) (by decide)) (by decide) (by decide) ?_
    show Steps p.tables e below (T101.setTop (mkF m 11 #[.val (.ref a1)] [])) _
    refine XS.aloadN X101.here hx rfl (hb hby d6_11) rfl rfl ?_
    show Steps p.tables e below (T101.setTop (mkF m 12 #[.val (.ref a1)] [(.ref a1)])) _
    refine st102 _ ?_
    show Steps p.tables e below (T102.setTop (mkF m 15 #[.val (.ref a1)] [(.long q1)])) _
    refine XS.lconst X102.here hx rfl (hb hby d6_15) ?_
    show Steps p.tables e below (T102.setTop (mkF m 16 #[.val (.ref a1)] [(.long (0 : Int64)), (.long q1)])) _
    refine XS.lcmp X102.here hx rfl (hb hby d6_16) rfl ?_
    exact kt
  by_cases hc17 : q1 < (0 : Int64)
  · obtain ⟨T103, X103, e103, st103⟩ := getS2 X102 hx hZ hown (host := "") (Or.inl (hw _ (List.mem_of_getElem? (i := 82) rfl))) Via.refl e102 S_ov (g := (mkF m 20 #[.val (.ref a1)] [])) rfl (hb hby d6_20)
    refine Gl.fin X103 (v := some (.ref ov)) (fun h => by rw [Bd.returns] at h; cases h) Bd.notSynchronized ?_ e103 (by decide) (by decide) (fun fs hr => ?_)
    · exact ⟨_, ne_ov, rfl, N0, rfl⟩
    · show Steps p.tables e below (T102.setTop (mkF m 17 #[.val (.ref a1)] [(.int (lcmpW q1 (0 : Int64)))])) _
      refine XS.ifNo X102.here hx rfl (hb hby d6_17) rfl (own_nf (l0_ge _ _) hc17) ?_
      show Steps p.tables e below (T102.setTop (mkF m 20 #[.val (.ref a1)] [])) _
      refine st103 _ ?_
      show Steps p.tables e below (T103.setTop (mkF m 23 #[.val (.ref a1)] [(.ref ov)])) _
      exact own_retR X103 hx Bd.returns rfl rfl rfl (hb hby d6_23) hr
  · obtain ⟨T104, X104, e104, st104⟩ := getF X102 hx hZ hown (host := "") (Or.inl (hw _ (List.mem_of_getElem? (i := 25) rfl))) Via.refl e102 F_p (g := (mkF m 25 #[.val (.ref a1)] [(.ref a1)])) rfl rfl (hb hby d6_25)
    refine Gl.pre (S' := T104.setTop (mkF m 30 #[.val (.ref a1)] [(.int (lcmpW q2 (0 : Int64)))])) (fun t kt => ?_) ?_
    · show Steps p.tables e below (T102.setTop (mkF m 17 #[.val (.ref a1)] [(.int (lcmpW q1 (0 : Int64)))])) _
      refine XS.ifYes X102.here hx rfl (pc0 := 17) (pc' := 24) rfl (hb hby d6_17) rfl (own_nt (l0_ge _ _) hc17) (by decide) (by decide) ?_
      show Steps p.tables e below (T102.setTop (mkF m 24 #[.val (.ref a1)] [])) _
      refine XS.aloadN X102.here hx rfl (hb hby d6_24) rfl rfl ?_
      show Steps p.tables e below (T102.setTop (mkF m 25 #[.val (.ref a1)] [(.ref a1)])) _
      refine st104 _ ?_
      show Steps p.tables e below (T104.setTop (mkF m 28 #[.val (.ref a1)] [(.long q2)])) _
      refine XS.lconst X104.here hx rfl (hb hby d6_28) ?_
      show Steps p.tables e below (T104.setTop (mkF m 29 #[.val (.ref a1)] [(.long (0 : Int64)), (.long q2)])) _
      refine XS.lcmp X104.here hx rfl (hb hby d6_29) rfl ?_
      exact kt
    by_cases hc30 : q2 = (0 : Int64)
    · obtain ⟨T105, X105, e105, st105⟩ := getS2 X104 hx hZ hown (host := "") (Or.inl (hw _ (List.mem_of_getElem? (i := 84) rfl))) Via.refl e104 S_vo (g := (mkF m 33 #[.val (.ref a1)] [])) rfl (hb hby d6_33)
      refine Gl.fin X105 (v := some (.ref vo)) (fun h => by rw [Bd.returns] at h; cases h) Bd.notSynchronized ?_ e105 (by decide) (by decide) (fun fs hr => ?_)
      · exact ⟨_, ne_vo, rfl, N0, rfl⟩
      · show Steps p.tables e below (T104.setTop (mkF m 30 #[.val (.ref a1)] [(.int (lcmpW q2 (0 : Int64)))])) _
        refine XS.ifNo X104.here hx rfl (hb hby d6_30) rfl (own_nf (l0_ne _ _) hc30) ?_
        show Steps p.tables e below (T104.setTop (mkF m 33 #[.val (.ref a1)] [])) _
        refine st105 _ ?_
        show Steps p.tables e below (T105.setTop (mkF m 36 #[.val (.ref a1)] [(.ref vo)])) _
        refine XS.goto X105.here hx rfl (pc0 := 36) (pc' := 42) rfl (hb hby d6_36) (by decide) (by decide) ?_
        show Steps p.tables e below (T105.setTop (mkF m 42 #[.val (.ref a1)] [(.ref vo)])) _
        exact own_retR X105 hx Bd.returns rfl rfl rfl (hb hby d6_42) hr
    · obtain ⟨T106, X106, e106, st106⟩ := getS2 X104 hx hZ hown (host := "") (Or.inl (hw _ (List.mem_of_getElem? (i := 75) rfl))) Via.refl e104 S_fo (g := (mkF m 39 #[.val (.ref a1)] [])) rfl (hb hby d6_39)
      refine Gl.fin X106 (v := some (.ref fo)) (fun h => by rw [Bd.returns] at h; cases h) Bd.notSynchronized ?_ e106 (by decide) (by decide) (fun fs hr => ?_)
      · exact ⟨_, ne_fo, rfl, N0, rfl⟩
      · show Steps p.tables e below (T104.setTop (mkF m 30 #[.val (.ref a1)] [(.int (lcmpW q2 (0 : Int64)))])) _
        refine XS.ifYes X104.here hx rfl (pc0 := 30) (pc' := 39) rfl (hb hby d6_30) rfl (own_nt (l0_ne _ _) hc30) (by decide) (by decide) ?_
        show Steps p.tables e below (T104.setTop (mkF m 39 #[.val (.ref a1)] [])) _
        refine st106 _ ?_
        show Steps p.tables e below (T106.setTop (mkF m 42 #[.val (.ref a1)] [(.ref fo)])) _
        exact own_retR X106 hx Bd.returns rfl rfl rfl (hb hby d6_42) hr
theorem ef_rm5l (m : MethodId) (x0 : Addr) (x1 : Addr) : entryFrame m #[(.ref x0), (.ref x1)] 2 = mkF m 0 #[.val (.ref x0), .val (.ref x1)] [] := by first | (simp [entryFrame, mkF, argsToLocals, Value.category]; done) | rfl
theorem d5_0 : decode prog_7_method_2_code 0 = .ok (.aload_n 1, 1) := by decide +kernel
theorem d5_1 : decode prog_7_method_2_code 1 = .ok (.invokevirtual 7, 3) := by decide +kernel
theorem pd___Lcom_example_stackledger_stackledger_Cleanup_Action_ : parseMethodDescriptor "()Lcom/example/stackledger/stackledger/Cleanup$Action;" = some ⟨[], some (.object "com/example/stackledger/stackledger/Cleanup$Action")⟩ := by decide +kernel
theorem d5_4 : decode prog_7_method_2_code 4 = .ok (.getstatic 13, 3) := by decide +kernel
theorem d5_7 : decode prog_7_method_2_code 7 = .ok (.if_acmp .ne 16, 3) := by decide +kernel
theorem d5_10 : decode prog_7_method_2_code 10 = .ok (.aload_n 0, 1) := by decide +kernel
theorem d5_11 : decode prog_7_method_2_code 11 = .ok (.dup, 1) := by decide +kernel
theorem d5_12 : decode prog_7_method_2_code 12 = .ok (.getfield 19, 3) := by decide +kernel
theorem d5_15 : decode prog_7_method_2_code 15 = .ok (.lconst 1, 1) := by decide +kernel
theorem d5_16 : decode prog_7_method_2_code 16 = .ok (.ladd, 1) := by decide +kernel
theorem d5_17 : decode prog_7_method_2_code 17 = .ok (.putfield 19, 3) := by decide +kernel
theorem d5_20 : decode prog_7_method_2_code 20 = .ok (.goto 26, 3) := by decide +kernel
theorem d5_46 : decode prog_7_method_2_code 46 = .ok (.return_, 1) := by decide +kernel
def Q5l (Z : State) (a1 : Addr) (a2 : Addr) (t1 : Int64) (t2 : Int64) (t3 : Int64) (q1 : Int64) (q2 : Int64) (sk : Addr) (h0 : Heap) (n0 : Nat) (v : Option Value) (h : Heap) (L : List Loc) : Prop := v = none ∧ Fr n0 L ∧ Keep h0 h [a1] ∧ Exa Z h a1 "com/example/stackledger/stackledger/Cleanup$Tally" ∧ Fld Z h a1 "com/example/stackledger/stackledger/Cleanup$Tally" "cleared" "J" (.long t1) ∧ Fld Z h a1 "com/example/stackledger/stackledger/Cleanup$Tally" "skipped" "J" (.long (t2 + (1 : Int64))) ∧ Fld Z h a1 "com/example/stackledger/stackledger/Cleanup$Tally" "balanceCents" "J" (.long t3)
set_option maxRecDepth 65536 in
set_option maxHeartbeats 40000000 in
theorem rm5l (l : Launch) (Z : State) (a0 : Array Value) (hw : ∀ d ∈ tables_1, d.before a0 Z = true) (ws : List Jvm.Cond) (a1 : Addr) (a2 : Addr) (t1 : Int64) (t2 : Int64) (t3 : Int64) (q1 : Int64) (q2 : Int64) (sk : Addr) (h0 : Heap) (n0 : Nat) (Z0 : n0 ≤ h0.size) (g_a1 : n0 ≤ a1) (E_a : Exa Z h0 a1 "com/example/stackledger/stackledger/Cleanup$Tally") (E_c : Exa Z h0 a2 "com/example/stackledger/stackledger/Cleanup$Chosen") (ne_a : a1 ≠ a2) (F_cleared : Fld Z h0 a1 "com/example/stackledger/stackledger/Cleanup$Tally" "cleared" "J" (.long t1)) (F_skipped : Fld Z h0 a1 "com/example/stackledger/stackledger/Cleanup$Tally" "skipped" "J" (.long t2)) (F_balanceCents : Fld Z h0 a1 "com/example/stackledger/stackledger/Cleanup$Tally" "balanceCents" "J" (.long t3)) (C_l : Fld Z h0 a2 "com/example/stackledger/stackledger/Cleanup$Chosen" "lost" "Z" (.int (1 : Int32))) (C_b : Fld Z h0 a2 "com/example/stackledger/stackledger/Cleanup$Chosen" "balanceCents" "J" (.long q1)) (C_p : Fld Z h0 a2 "com/example/stackledger/stackledger/Cleanup$Chosen" "totalPaidCents" "J" (.long q2)) (S_sk : Sta Z h0 "com/example/stackledger/stackledger/Cleanup$Action" "SKIP_LOST" "Lcom/example/stackledger/stackledger/Cleanup$Action;" (.ref sk)) :
    OMet l Z (⟨"com/example/stackledger/stackledger/Cleanup$Tally", "add", "(Lcom/example/stackledger/stackledger/Cleanup$Chosen;)V"⟩ : MethodName) prog_7_method_2_code 2 none ws ({ frames := 1, cells := 0, slots := 0, locals := 15 } : Room) #[(.ref a1), (.ref a2)] h0 (Q5l Z a1 a2 t1 t2 t3 q1 q2 sk h0 n0) := by
  refine own_body (plainFor_of_name pn_com_example_stackledger_stackledger_Cleanup_Tally) ?_
  intro p e s m below meth c s₁ Bd hml0 hZ e0
  have hx := Bd.exec
  have hby := Bd.bytes
  have hml : c.maxLocals = 2 := hml0
  have hown : s.vm.findClass "com/example/stackledger/stackledger/Cleanup$Tally" = some m.cls := findClass_of_methodNamed Bd.named
  have hnm := (name_of_methodNamed Bd.named Bd.method).1
  have X0 : Stand p l e ({ frames := 1, cells := 0, slots := 0, locals := 15 } : Room) s m #[(.ref a1), (.ref a2)] below meth c s₁ [] 0 0 := Stand.of_body Bd
  have N0 := Fr.nil n0
  have K0 : Keep h0 h0 [a1] := Keep.refl _ _
  rw [ef_rm5l]
  obtain ⟨v101, T101, L101, X101, q101, st101⟩ := own_callV X0 hx hZ (y := (⟨"com/example/stackledger/stackledger/Cleanup$Chosen", "action", "()Lcom/example/stackledger/stackledger/Cleanup$Action;"⟩ : MethodName)) (z := (⟨"com/example/stackledger/stackledger/Cleanup$Chosen", "action", "()Lcom/example/stackledger/stackledger/Cleanup$Action;"⟩ : MethodName)) hown (hw _ (List.mem_of_getElem? (i := 45) rfl)) (hw _ (List.mem_of_getElem? (i := 46) rfl)) (notFace_of_selects (args := #[]) (mvT hZ (hw _ (List.mem_of_getElem? (i := 48) rfl)))) (hw _ (List.mem_of_getElem? (i := 48) rfl)) (hw _ (List.mem_of_getElem? (i := 47) rfl)) (hw _ (List.mem_of_getElem? (i := 2) rfl)) (hw _ (List.mem_of_getElem? (i := 49) rfl)) (by decide) E_c (hM := (rm6l l Z a0 hw [] a2 sk h0 n0 Z0 C_l S_sk)) (by decide) (by decide) (by decide) (by decide) e0 (argsL := []) (rest := []) (Ls := #[.val (.ref a1), .val (.ref a2)]) (by rw [hml]; rfl) (lenOf pd___Lcom_example_stackledger_stackledger_Cleanup_Action_ rfl) (W := 0) (Nat.le_of_eq rfl) (hb hby d5_1)
  obtain ⟨rfl, N101q, e101⟩ := q101
  have N101 := Fr.app N0 N101q
  obtain ⟨T102, X102, e102, st102⟩ := getS2 X101 hx hZ hown (host := "") (Or.inl (hw _ (List.mem_of_getElem? (i := 53) rfl))) Via.refl e101 S_sk (g := (mkF m 4 #[.val (.ref a1), .val (.ref a2)] [(.ref sk)])) rfl (hb hby d5_4)
  obtain ⟨T103, X103, e103, st103⟩ := getF X102 hx hZ hown (host := "") (Or.inl (hw _ (List.mem_of_getElem? (i := 54) rfl))) Via.refl e102 F_skipped (g := (mkF m 12 #[.val (.ref a1), .val (.ref a2)] [(.ref a1), (.ref a1)])) rfl rfl (hb hby d5_12)
  obtain ⟨T104, h104, X104, e104, W104, st104⟩ := putF X103 hx hZ hown (host := "") (Or.inl (hw _ (List.mem_of_getElem? (i := 54) rfl))) Via.refl e103 F_skipped E_a (Or.inl (hw _ (List.mem_of_getElem? (i := 55) rfl))) (hw _ (List.mem_of_getElem? (i := 34) rfl)) (ty := .long) (by decide) rfl rfl (g := (mkF m 17 #[.val (.ref a1), .val (.ref a2)] [(.long (t2 + (1 : Int64))), (.ref a1)])) rfl rfl (hb hby d5_17)
  have Fw104 := F_skipped.same W104
  have K104 : Keep h0 h104 [a1] := K0.wr W104 (Or.inl (List.mem_of_getElem? (i := 0) rfl))
  have N104 := Fr.snoc X104 N101 g_a1
  have f105 := (E_a.wr W104)
  have f106 := (F_cleared.other W104 (Or.inr (slot_ne (Or.inl (hw _ (List.mem_of_getElem? (i := 62) rfl))) (Or.inl (hw _ (List.mem_of_getElem? (i := 55) rfl))) (by decide) (t := .long) (t' := .long) (by decide) (by decide))))
  have f107 := (F_balanceCents.other W104 (Or.inr (slot_ne (Or.inl (hw _ (List.mem_of_getElem? (i := 74) rfl))) (Or.inl (hw _ (List.mem_of_getElem? (i := 55) rfl))) (by decide) (t := .long) (t' := .long) (by decide) (by decide))))
  refine Gl.fin X104 (v := none) (fun _ => rfl) Bd.notSynchronized ?_ e104 (by decide) (by decide) (fun fs hr => ?_)
  · exact ⟨rfl, N104, K104, f105, f106, Fw104, f107⟩
  · show Steps p.tables e below (s₁.setTop (mkF m 0 #[.val (.ref a1), .val (.ref a2)] [])) _
    refine XS.aloadN X0.here hx rfl (hb hby d5_0) rfl rfl ?_
    show Steps p.tables e below (s₁.setTop (mkF m 1 #[.val (.ref a1), .val (.ref a2)] [(.ref a2)])) _
    refine st101 _ ?_
    show Steps p.tables e below (T101.setTop (mkF m 4 #[.val (.ref a1), .val (.ref a2)] [(.ref sk)])) _
    refine st102 _ ?_
    show Steps p.tables e below (T102.setTop (mkF m 7 #[.val (.ref a1), .val (.ref a2)] [(.ref sk), (.ref sk)])) _
    refine Jvm.RoadKit.acmp (g := (mkF m 7 #[.val (.ref a1), .val (.ref a2)] [(.ref sk), (.ref sk)])) X102 hx rfl rfl rfl (pc0 := 7) (pc' := 10) (same := true) rfl (hb hby d5_7) rfl (decide_eq_true rfl) (by decide) (by decide) ?_
    show Steps p.tables e below (T102.setTop (mkF m 10 #[.val (.ref a1), .val (.ref a2)] [])) _
    refine XS.aloadN X102.here hx rfl (hb hby d5_10) rfl rfl ?_
    show Steps p.tables e below (T102.setTop (mkF m 11 #[.val (.ref a1), .val (.ref a2)] [(.ref a1)])) _
    refine XS.dup X102.here hx rfl (hb hby d5_11) rfl rfl ?_
    show Steps p.tables e below (T102.setTop (mkF m 12 #[.val (.ref a1), .val (.ref a2)] [(.ref a1), (.ref a1)])) _
    refine st103 _ ?_
    show Steps p.tables e below (T103.setTop (mkF m 15 #[.val (.ref a1), .val (.ref a2)] [(.long t2), (.ref a1)])) _
    refine XS.lconst X103.here hx rfl (hb hby d5_15) ?_
    show Steps p.tables e below (T103.setTop (mkF m 16 #[.val (.ref a1), .val (.ref a2)] [(.long (1 : Int64)), (.long t2), (.ref a1)])) _
    refine XS.ladd X103.here hx rfl (hb hby d5_16) rfl ?_
    show Steps p.tables e below (T103.setTop (mkF m 17 #[.val (.ref a1), .val (.ref a2)] [(.long (t2 + (1 : Int64))), (.ref a1)])) _
    refine st104 _ ?_
    show Steps p.tables e below (T104.setTop (mkF m 20 #[.val (.ref a1), .val (.ref a2)] [])) _
    refine XS.goto X104.here hx rfl (pc0 := 20) (pc' := 46) rfl (hb hby d5_20) (by decide) (by decide) ?_
    show Steps p.tables e below (T104.setTop (mkF m 46 #[.val (.ref a1), .val (.ref a2)] [])) _
    exact X104.returnOut hx Bd.returns (hb hby d5_46) hr
theorem ef_rm5n (m : MethodId) (x0 : Addr) (x1 : Addr) : entryFrame m #[(.ref x0), (.ref x1)] 2 = mkF m 0 #[.val (.ref x0), .val (.ref x1)] [] := by first | (simp [entryFrame, mkF, argsToLocals, Value.category]; done) | rfl
theorem d5_23 : decode prog_7_method_2_code 23 = .ok (.aload_n 0, 1) := by decide +kernel
theorem d5_24 : decode prog_7_method_2_code 24 = .ok (.dup, 1) := by decide +kernel
theorem d5_25 : decode prog_7_method_2_code 25 = .ok (.getfield 25, 3) := by decide +kernel
theorem d5_28 : decode prog_7_method_2_code 28 = .ok (.lconst 1, 1) := by decide +kernel
theorem d5_29 : decode prog_7_method_2_code 29 = .ok (.ladd, 1) := by decide +kernel
theorem d5_30 : decode prog_7_method_2_code 30 = .ok (.putfield 25, 3) := by decide +kernel
theorem d5_33 : decode prog_7_method_2_code 33 = .ok (.aload_n 0, 1) := by decide +kernel
theorem d5_34 : decode prog_7_method_2_code 34 = .ok (.dup, 1) := by decide +kernel
theorem d5_35 : decode prog_7_method_2_code 35 = .ok (.getfield 28, 3) := by decide +kernel
theorem d5_38 : decode prog_7_method_2_code 38 = .ok (.aload_n 1, 1) := by decide +kernel
theorem d5_39 : decode prog_7_method_2_code 39 = .ok (.invokevirtual 31, 3) := by decide +kernel
theorem pd___J : parseMethodDescriptor "()J" = some ⟨[], some .long⟩ := by decide +kernel
theorem d5_42 : decode prog_7_method_2_code 42 = .ok (.ladd, 1) := by decide +kernel
theorem d5_43 : decode prog_7_method_2_code 43 = .ok (.putfield 28, 3) := by decide +kernel
def Q5n (Z : State) (a1 : Addr) (a2 : Addr) (t1 : Int64) (t2 : Int64) (t3 : Int64) (q1 : Int64) (q2 : Int64) (sk : Addr) (ov : Addr) (vo : Addr) (fo : Addr) (h0 : Heap) (n0 : Nat) (v : Option Value) (h : Heap) (L : List Loc) : Prop := v = none ∧ Fr n0 L ∧ Keep h0 h [a1] ∧ Exa Z h a1 "com/example/stackledger/stackledger/Cleanup$Tally" ∧ Fld Z h a1 "com/example/stackledger/stackledger/Cleanup$Tally" "cleared" "J" (.long (t1 + (1 : Int64))) ∧ Fld Z h a1 "com/example/stackledger/stackledger/Cleanup$Tally" "skipped" "J" (.long t2) ∧ Fld Z h a1 "com/example/stackledger/stackledger/Cleanup$Tally" "balanceCents" "J" (.long (t3 + q1))
set_option maxRecDepth 65536 in
set_option maxHeartbeats 40000000 in
theorem rm5n (l : Launch) (Z : State) (a0 : Array Value) (hw : ∀ d ∈ tables_1, d.before a0 Z = true) (ws : List Jvm.Cond) (a1 : Addr) (a2 : Addr) (t1 : Int64) (t2 : Int64) (t3 : Int64) (q1 : Int64) (q2 : Int64) (sk : Addr) (ov : Addr) (vo : Addr) (fo : Addr) (h0 : Heap) (n0 : Nat) (Z0 : n0 ≤ h0.size) (g_a1 : n0 ≤ a1) (E_a : Exa Z h0 a1 "com/example/stackledger/stackledger/Cleanup$Tally") (E_c : Exa Z h0 a2 "com/example/stackledger/stackledger/Cleanup$Chosen") (ne_a : a1 ≠ a2) (F_cleared : Fld Z h0 a1 "com/example/stackledger/stackledger/Cleanup$Tally" "cleared" "J" (.long t1)) (F_skipped : Fld Z h0 a1 "com/example/stackledger/stackledger/Cleanup$Tally" "skipped" "J" (.long t2)) (F_balanceCents : Fld Z h0 a1 "com/example/stackledger/stackledger/Cleanup$Tally" "balanceCents" "J" (.long t3)) (C_l : Fld Z h0 a2 "com/example/stackledger/stackledger/Cleanup$Chosen" "lost" "Z" (.int (0 : Int32))) (C_b : Fld Z h0 a2 "com/example/stackledger/stackledger/Cleanup$Chosen" "balanceCents" "J" (.long q1)) (C_p : Fld Z h0 a2 "com/example/stackledger/stackledger/Cleanup$Chosen" "totalPaidCents" "J" (.long q2)) (S_sk : Sta Z h0 "com/example/stackledger/stackledger/Cleanup$Action" "SKIP_LOST" "Lcom/example/stackledger/stackledger/Cleanup$Action;" (.ref sk)) (S_ov : Sta Z h0 "com/example/stackledger/stackledger/Cleanup$Action" "OVERPAYMENT" "Lcom/example/stackledger/stackledger/Cleanup$Action;" (.ref ov)) (S_vo : Sta Z h0 "com/example/stackledger/stackledger/Cleanup$Action" "VOID" "Lcom/example/stackledger/stackledger/Cleanup$Action;" (.ref vo)) (S_fo : Sta Z h0 "com/example/stackledger/stackledger/Cleanup$Action" "FORGIVE" "Lcom/example/stackledger/stackledger/Cleanup$Action;" (.ref fo)) (ne_ov : ov ≠ sk) (ne_vo : vo ≠ sk) (ne_fo : fo ≠ sk) :
    OMet l Z (⟨"com/example/stackledger/stackledger/Cleanup$Tally", "add", "(Lcom/example/stackledger/stackledger/Cleanup$Chosen;)V"⟩ : MethodName) prog_7_method_2_code 2 none ws ({ frames := 1, cells := 0, slots := 0, locals := 15 } : Room) #[(.ref a1), (.ref a2)] h0 (Q5n Z a1 a2 t1 t2 t3 q1 q2 sk ov vo fo h0 n0) := by
  refine own_body (plainFor_of_name pn_com_example_stackledger_stackledger_Cleanup_Tally) ?_
  intro p e s m below meth c s₁ Bd hml0 hZ e0
  have hx := Bd.exec
  have hby := Bd.bytes
  have hml : c.maxLocals = 2 := hml0
  have hown : s.vm.findClass "com/example/stackledger/stackledger/Cleanup$Tally" = some m.cls := findClass_of_methodNamed Bd.named
  have hnm := (name_of_methodNamed Bd.named Bd.method).1
  have X0 : Stand p l e ({ frames := 1, cells := 0, slots := 0, locals := 15 } : Room) s m #[(.ref a1), (.ref a2)] below meth c s₁ [] 0 0 := Stand.of_body Bd
  have N0 := Fr.nil n0
  have K0 : Keep h0 h0 [a1] := Keep.refl _ _
  rw [ef_rm5n]
  obtain ⟨v101, T101, L101, X101, q101, st101⟩ := own_callV X0 hx hZ (y := (⟨"com/example/stackledger/stackledger/Cleanup$Chosen", "action", "()Lcom/example/stackledger/stackledger/Cleanup$Action;"⟩ : MethodName)) (z := (⟨"com/example/stackledger/stackledger/Cleanup$Chosen", "action", "()Lcom/example/stackledger/stackledger/Cleanup$Action;"⟩ : MethodName)) hown (hw _ (List.mem_of_getElem? (i := 45) rfl)) (hw _ (List.mem_of_getElem? (i := 46) rfl)) (notFace_of_selects (args := #[]) (mvT hZ (hw _ (List.mem_of_getElem? (i := 48) rfl)))) (hw _ (List.mem_of_getElem? (i := 48) rfl)) (hw _ (List.mem_of_getElem? (i := 47) rfl)) (hw _ (List.mem_of_getElem? (i := 2) rfl)) (hw _ (List.mem_of_getElem? (i := 49) rfl)) (by decide) E_c (hM := (rm6n l Z a0 hw [] a2 q1 q2 sk ov vo fo h0 n0 Z0 C_l C_b C_p S_ov S_vo S_fo ne_ov ne_vo ne_fo)) (by decide) (by decide) (by decide) (by decide) e0 (argsL := []) (rest := []) (Ls := #[.val (.ref a1), .val (.ref a2)]) (by rw [hml]; rfl) (lenOf pd___Lcom_example_stackledger_stackledger_Cleanup_Action_ rfl) (W := 0) (Nat.le_of_eq rfl) (hb hby d5_1)
  obtain ⟨r101, hr101, rfl, N101q, e101⟩ := q101
  have N101 := Fr.app N0 N101q
  obtain ⟨T102, X102, e102, st102⟩ := getS2 X101 hx hZ hown (host := "") (Or.inl (hw _ (List.mem_of_getElem? (i := 53) rfl))) Via.refl e101 S_sk (g := (mkF m 4 #[.val (.ref a1), .val (.ref a2)] [(.ref r101)])) rfl (hb hby d5_4)
  obtain ⟨T103, X103, e103, st103⟩ := getF X102 hx hZ hown (host := "") (Or.inl (hw _ (List.mem_of_getElem? (i := 61) rfl))) Via.refl e102 F_cleared (g := (mkF m 25 #[.val (.ref a1), .val (.ref a2)] [(.ref a1), (.ref a1)])) rfl rfl (hb hby d5_25)
  obtain ⟨T104, h104, X104, e104, W104, st104⟩ := putF X103 hx hZ hown (host := "") (Or.inl (hw _ (List.mem_of_getElem? (i := 61) rfl))) Via.refl e103 F_cleared E_a (Or.inl (hw _ (List.mem_of_getElem? (i := 62) rfl))) (hw _ (List.mem_of_getElem? (i := 34) rfl)) (ty := .long) (by decide) rfl rfl (g := (mkF m 30 #[.val (.ref a1), .val (.ref a2)] [(.long (t1 + (1 : Int64))), (.ref a1)])) rfl rfl (hb hby d5_30)
  have Fw104 := F_cleared.same W104
  have K104 : Keep h0 h104 [a1] := K0.wr W104 (Or.inl (List.mem_of_getElem? (i := 0) rfl))
  have N104 := Fr.snoc X104 N101 g_a1
  have f105 := (F_balanceCents.other W104 (Or.inr (slot_ne (Or.inl (hw _ (List.mem_of_getElem? (i := 74) rfl))) (Or.inl (hw _ (List.mem_of_getElem? (i := 62) rfl))) (by decide) (t := .long) (t' := .long) (by decide) (by decide))))
  obtain ⟨T106, X106, e106, st106⟩ := getF X104 hx hZ hown (host := "") (Or.inl (hw _ (List.mem_of_getElem? (i := 73) rfl))) Via.refl e104 f105 (g := (mkF m 35 #[.val (.ref a1), .val (.ref a2)] [(.ref a1), (.ref a1)])) rfl rfl (hb hby d5_35)
  have f108 := (C_b.other W104 (Or.inl (Ne.symm ne_a)))
  have z109 : n0 ≤ h104.size := (Nat.le_trans Z0 (Keep.of_wr W104).1)
  have f110 := (E_c.wr W104)
  obtain ⟨v107, T107, L107, X107, q107, st107⟩ := own_callV X106 hx hZ (y := (⟨"com/example/stackledger/stackledger/Cleanup$Chosen", "balanceCents", "()J"⟩ : MethodName)) (z := (⟨"com/example/stackledger/stackledger/Cleanup$Chosen", "balanceCents", "()J"⟩ : MethodName)) hown (hw _ (List.mem_of_getElem? (i := 77) rfl)) (hw _ (List.mem_of_getElem? (i := 78) rfl)) (notFace_of_selects (args := #[]) (mvT hZ (hw _ (List.mem_of_getElem? (i := 80) rfl)))) (hw _ (List.mem_of_getElem? (i := 80) rfl)) (hw _ (List.mem_of_getElem? (i := 79) rfl)) (hw _ (List.mem_of_getElem? (i := 2) rfl)) (hw _ (List.mem_of_getElem? (i := 81) rfl)) (by decide) f110 (hM := (rm10 l Z a0 hw [] a2 q1 h104 n0 z109 f108)) (by decide) (by decide) (by decide) (by decide) e106 (argsL := []) (rest := [(.long t3), (.ref a1)]) (Ls := #[.val (.ref a1), .val (.ref a2)]) (by rw [hml]; rfl) (lenOf pd___J rfl) (W := 3) (Nat.le_of_eq rfl) (hb hby d5_39)
  obtain ⟨rfl, N107q, e107⟩ := q107
  have N107 := Fr.app N104 N107q
  have f111 := (E_a.wr W104)
  obtain ⟨T112, h112, X112, e112, W112, st112⟩ := putF X107 hx hZ hown (host := "") (Or.inl (hw _ (List.mem_of_getElem? (i := 73) rfl))) Via.refl e107 f105 f111 (Or.inl (hw _ (List.mem_of_getElem? (i := 74) rfl))) (hw _ (List.mem_of_getElem? (i := 34) rfl)) (ty := .long) (by decide) rfl rfl (g := (mkF m 43 #[.val (.ref a1), .val (.ref a2)] [(.long (t3 + q1)), (.ref a1)])) rfl rfl (hb hby d5_43)
  have Fw112 := f105.same W112
  have K112 : Keep h0 h112 [a1] := K104.wr W112 (Or.inl (List.mem_of_getElem? (i := 0) rfl))
  have N112 := Fr.snoc X112 N107 g_a1
  have f113 := (f111.wr W112)
  have f114 := (Fw104.other W112 (Or.inr (slot_ne (Or.inl (hw _ (List.mem_of_getElem? (i := 62) rfl))) (Or.inl (hw _ (List.mem_of_getElem? (i := 74) rfl))) (by decide) (t := .long) (t' := .long) (by decide) (by decide))))
  have f115 := ((F_skipped.other W104 (Or.inr (slot_ne (Or.inl (hw _ (List.mem_of_getElem? (i := 55) rfl))) (Or.inl (hw _ (List.mem_of_getElem? (i := 62) rfl))) (by decide) (t := .long) (t' := .long) (by decide) (by decide)))).other W112 (Or.inr (slot_ne (Or.inl (hw _ (List.mem_of_getElem? (i := 55) rfl))) (Or.inl (hw _ (List.mem_of_getElem? (i := 74) rfl))) (by decide) (t := .long) (t' := .long) (by decide) (by decide))))
  refine Gl.fin X112 (v := none) (fun _ => rfl) Bd.notSynchronized ?_ e112 (by decide) (by decide) (fun fs hr => ?_)
  · exact ⟨rfl, N112, K112, f113, f114, f115, Fw112⟩
  · show Steps p.tables e below (s₁.setTop (mkF m 0 #[.val (.ref a1), .val (.ref a2)] [])) _
    refine XS.aloadN X0.here hx rfl (hb hby d5_0) rfl rfl ?_
    show Steps p.tables e below (s₁.setTop (mkF m 1 #[.val (.ref a1), .val (.ref a2)] [(.ref a2)])) _
    refine st101 _ ?_
    show Steps p.tables e below (T101.setTop (mkF m 4 #[.val (.ref a1), .val (.ref a2)] [(.ref r101)])) _
    refine st102 _ ?_
    show Steps p.tables e below (T102.setTop (mkF m 7 #[.val (.ref a1), .val (.ref a2)] [(.ref sk), (.ref r101)])) _
    refine Jvm.RoadKit.acmp (g := (mkF m 7 #[.val (.ref a1), .val (.ref a2)] [(.ref sk), (.ref r101)])) X102 hx rfl rfl rfl (pc0 := 7) (pc' := 23) (same := false) rfl (hb hby d5_7) rfl (decide_eq_false fun q => hr101 (Value.ref.inj q)) (by decide) (by decide) ?_
    show Steps p.tables e below (T102.setTop (mkF m 23 #[.val (.ref a1), .val (.ref a2)] [])) _
    refine XS.aloadN X102.here hx rfl (hb hby d5_23) rfl rfl ?_
    show Steps p.tables e below (T102.setTop (mkF m 24 #[.val (.ref a1), .val (.ref a2)] [(.ref a1)])) _
    refine XS.dup X102.here hx rfl (hb hby d5_24) rfl rfl ?_
    show Steps p.tables e below (T102.setTop (mkF m 25 #[.val (.ref a1), .val (.ref a2)] [(.ref a1), (.ref a1)])) _
    refine st103 _ ?_
    show Steps p.tables e below (T103.setTop (mkF m 28 #[.val (.ref a1), .val (.ref a2)] [(.long t1), (.ref a1)])) _
    refine XS.lconst X103.here hx rfl (hb hby d5_28) ?_
    show Steps p.tables e below (T103.setTop (mkF m 29 #[.val (.ref a1), .val (.ref a2)] [(.long (1 : Int64)), (.long t1), (.ref a1)])) _
    refine XS.ladd X103.here hx rfl (hb hby d5_29) rfl ?_
    show Steps p.tables e below (T103.setTop (mkF m 30 #[.val (.ref a1), .val (.ref a2)] [(.long (t1 + (1 : Int64))), (.ref a1)])) _
    refine st104 _ ?_
    show Steps p.tables e below (T104.setTop (mkF m 33 #[.val (.ref a1), .val (.ref a2)] [])) _
    refine XS.aloadN X104.here hx rfl (hb hby d5_33) rfl rfl ?_
    show Steps p.tables e below (T104.setTop (mkF m 34 #[.val (.ref a1), .val (.ref a2)] [(.ref a1)])) _
    refine XS.dup X104.here hx rfl (hb hby d5_34) rfl rfl ?_
    show Steps p.tables e below (T104.setTop (mkF m 35 #[.val (.ref a1), .val (.ref a2)] [(.ref a1), (.ref a1)])) _
    refine st106 _ ?_
    show Steps p.tables e below (T106.setTop (mkF m 38 #[.val (.ref a1), .val (.ref a2)] [(.long t3), (.ref a1)])) _
    refine XS.aloadN X106.here hx rfl (hb hby d5_38) rfl rfl ?_
    show Steps p.tables e below (T106.setTop (mkF m 39 #[.val (.ref a1), .val (.ref a2)] [(.ref a2), (.long t3), (.ref a1)])) _
    refine st107 _ ?_
    show Steps p.tables e below (T107.setTop (mkF m 42 #[.val (.ref a1), .val (.ref a2)] [(.long q1), (.long t3), (.ref a1)])) _
    refine XS.ladd X107.here hx rfl (hb hby d5_42) rfl ?_
    show Steps p.tables e below (T107.setTop (mkF m 43 #[.val (.ref a1), .val (.ref a2)] [(.long (t3 + q1)), (.ref a1)])) _
    refine st112 _ ?_
    show Steps p.tables e below (T112.setTop (mkF m 46 #[.val (.ref a1), .val (.ref a2)] [])) _
    exact X112.returnOut hx Bd.returns (hb hby d5_46) hr
theorem pn_com_example_stackledger_stackledger_TallyAddPinLaw : plainName "com/example/stackledger/stackledger/TallyAddPinLaw" = true := by first | (simp [plainName, overriddenIn]; done) | decide +kernel
theorem ef_rm0 (m : MethodId) (x0 : Int64) (x1 : Int64) (x2 : Int64) (x3 : Int64) (x4 : Int32) : entryFrame m #[(.long x0), (.long x1), (.long x2), (.long x3), (.int x4)] maxLocals = mkF m 0 #[.val (.long x0), .second, .val (.long x1), .second, .val (.long x2), .second, .val (.long x3), .second, .val (.int x4), .unset, .unset, .unset, .unset, .unset, .unset, .unset, .unset, .unset, .unset, .unset, .unset, .unset] [] := by first | (simp [entryFrame, mkF, argsToLocals, Value.category, maxLocals]; done) | rfl
theorem pd__JJLjava_lang_String_JZJJZ_V : parseMethodDescriptor "(JJLjava/lang/String;JZJJZ)V" = some ⟨[.long, .long, (.object "java/lang/String"), .long, .boolean, .long, .long, .boolean], none⟩ := by decide +kernel
theorem pd__Lcom_example_stackledger_stackledger_Cleanup_Chosen__V : parseMethodDescriptor "(Lcom/example/stackledger/stackledger/Cleanup$Chosen;)V" = some ⟨[(.object "com/example/stackledger/stackledger/Cleanup$Chosen")], none⟩ := by decide +kernel
def Q0 (Z : State) (q0 : Int64) (q2 : Int64) (q4 : Int64) (q6 : Int64) (p8 : Int32) (sk : Addr) (ov : Addr) (vo : Addr) (fo : Addr) (h0 : Heap) (n0 : Nat) (v : Option Value) (h : Heap) (L : List Loc) : Prop := v = some (.int 1) ∧ Fr n0 L
set_option maxRecDepth 65536 in
set_option maxHeartbeats 40000000 in
theorem rm0 (l : Launch) (Z : State) (a0 : Array Value) (hw : ∀ d ∈ tables_1, d.before a0 Z = true) (ws : List Jvm.Cond) (q0 : Int64) (q2 : Int64) (q4 : Int64) (q6 : Int64) (p8 : Int32) (sk : Addr) (ov : Addr) (vo : Addr) (fo : Addr) (h0 : Heap) (n0 : Nat) (Z0 : n0 ≤ h0.size) (S_sk : Sta Z h0 "com/example/stackledger/stackledger/Cleanup$Action" "SKIP_LOST" "Lcom/example/stackledger/stackledger/Cleanup$Action;" (.ref sk)) (S_ov : Sta Z h0 "com/example/stackledger/stackledger/Cleanup$Action" "OVERPAYMENT" "Lcom/example/stackledger/stackledger/Cleanup$Action;" (.ref ov)) (S_vo : Sta Z h0 "com/example/stackledger/stackledger/Cleanup$Action" "VOID" "Lcom/example/stackledger/stackledger/Cleanup$Action;" (.ref vo)) (S_fo : Sta Z h0 "com/example/stackledger/stackledger/Cleanup$Action" "FORGIVE" "Lcom/example/stackledger/stackledger/Cleanup$Action;" (.ref fo)) (ne_ov : ov ≠ sk) (ne_vo : vo ≠ sk) (ne_fo : fo ≠ sk) :
    OMet l Z x code maxLocals ret ws room_1 #[(.long q0), (.long q2), (.long q4), (.long q6), (.int p8)] h0 (Q0 Z q0 q2 q4 q6 p8 sk ov vo fo h0 n0) := by
  refine own_body (plainFor_of_name pn_com_example_stackledger_stackledger_TallyAddPinLaw) ?_
  intro p e s m below meth c s₁ Bd hml0 hZ e0
  have hx := Bd.exec
  have hby := Bd.bytes
  have hml : c.maxLocals = 22 := hml0
  have hown : s.vm.findClass "com/example/stackledger/stackledger/TallyAddPinLaw" = some m.cls := findClass_of_methodNamed Bd.named
  have hnm := (name_of_methodNamed Bd.named Bd.method).1
  have X0 : Stand p l e room_1 s m #[(.long q0), (.long q2), (.long q4), (.long q6), (.int p8)] below meth c s₁ [] 0 0 := Stand.of_body Bd
  have N0 := Fr.nil n0
  have K0 : Keep h0 h0 [] := Keep.refl _ _
  rw [ef_rm0]
  refine Gl.pre (S' := s₁.setTop (mkF m 4 #[.val (.long q0), .second, .val (.long q2), .second, .val (.long q4), .second, .val (.long q6), .second, .val (.int p8), .unset, .unset, .unset, .unset, .unset, .unset, .unset, .unset, .unset, .unset, .unset, .unset, .unset] [(.int (p8 &&& (1 : Int32)))])) (fun t kt => ?_) ?_
  · show Steps p.tables e below (s₁.setTop (mkF m 0 #[.val (.long q0), .second, .val (.long q2), .second, .val (.long q4), .second, .val (.long q6), .second, .val (.int p8), .unset, .unset, .unset, .unset, .unset, .unset, .unset, .unset, .unset, .unset, .unset, .unset, .unset] [])) _
    refine XS.iload X0.here hx rfl (hb hby at_0) rfl ?_
    show Steps p.tables e below (s₁.setTop (mkF m 2 #[.val (.long q0), .second, .val (.long q2), .second, .val (.long q4), .second, .val (.long q6), .second, .val (.int p8), .unset, .unset, .unset, .unset, .unset, .unset, .unset, .unset, .unset, .unset, .unset, .unset, .unset] [(.int p8)])) _
    refine XS.iconst X0.here hx rfl (hb hby at_2) ?_
    show Steps p.tables e below (s₁.setTop (mkF m 3 #[.val (.long q0), .second, .val (.long q2), .second, .val (.long q4), .second, .val (.long q6), .second, .val (.int p8), .unset, .unset, .unset, .unset, .unset, .unset, .unset, .unset, .unset, .unset, .unset, .unset, .unset] [(.int (1 : Int32)), (.int p8)])) _
    refine XS.iand X0.here hx rfl (hb hby at_3) rfl ?_
    exact kt
  by_cases hc4 : (p8 &&& (1 : Int32)) = (0 : Int32)
  · refine Gl.pre (S' := s₁.setTop (mkF m 18 #[.val (.long q0), .second, .val (.long q2), .second, .val (.long q4), .second, .val (.long q6), .second, .val (.int p8), .val (.int (0 : Int32)), .unset, .unset, .unset, .unset, .unset, .unset, .unset, .unset, .unset, .unset, .unset, .unset] [(.int (p8 &&& (2 : Int32)))])) (fun t kt => ?_) ?_
    · show Steps p.tables e below (s₁.setTop (mkF m 4 #[.val (.long q0), .second, .val (.long q2), .second, .val (.long q4), .second, .val (.long q6), .second, .val (.int p8), .unset, .unset, .unset, .unset, .unset, .unset, .unset, .unset, .unset, .unset, .unset, .unset, .unset] [(.int (p8 &&& (1 : Int32)))])) _
      refine XS.ifYes X0.here hx rfl (pc0 := 4) (pc' := 11) rfl (hb hby at_4) rfl (own_t (i0_eq _) hc4) (by decide) (by decide) ?_
      show Steps p.tables e below (s₁.setTop (mkF m 11 #[.val (.long q0), .second, .val (.long q2), .second, .val (.long q4), .second, .val (.long q6), .second, .val (.int p8), .unset, .unset, .unset, .unset, .unset, .unset, .unset, .unset, .unset, .unset, .unset, .unset, .unset] [])) _
      refine XS.iconst X0.here hx rfl (hb hby at_11) ?_
      show Steps p.tables e below (s₁.setTop (mkF m 12 #[.val (.long q0), .second, .val (.long q2), .second, .val (.long q4), .second, .val (.long q6), .second, .val (.int p8), .unset, .unset, .unset, .unset, .unset, .unset, .unset, .unset, .unset, .unset, .unset, .unset, .unset] [(.int (0 : Int32))])) _
      refine XS.istore X0.here hx rfl (hb hby at_12) rfl (l' := #[.val (.long q0), .second, .val (.long q2), .second, .val (.long q4), .second, .val (.long q6), .second, .val (.int p8), .val (.int (0 : Int32)), .unset, .unset, .unset, .unset, .unset, .unset, .unset, .unset, .unset, .unset, .unset, .unset]) rfl ?_
      show Steps p.tables e below (s₁.setTop (mkF m 14 #[.val (.long q0), .second, .val (.long q2), .second, .val (.long q4), .second, .val (.long q6), .second, .val (.int p8), .val (.int (0 : Int32)), .unset, .unset, .unset, .unset, .unset, .unset, .unset, .unset, .unset, .unset, .unset, .unset] [])) _
      refine XS.iload X0.here hx rfl (hb hby at_14) rfl ?_
      show Steps p.tables e below (s₁.setTop (mkF m 16 #[.val (.long q0), .second, .val (.long q2), .second, .val (.long q4), .second, .val (.long q6), .second, .val (.int p8), .val (.int (0 : Int32)), .unset, .unset, .unset, .unset, .unset, .unset, .unset, .unset, .unset, .unset, .unset, .unset] [(.int p8)])) _
      refine XS.iconst X0.here hx rfl (hb hby at_16) ?_
      show Steps p.tables e below (s₁.setTop (mkF m 17 #[.val (.long q0), .second, .val (.long q2), .second, .val (.long q4), .second, .val (.long q6), .second, .val (.int p8), .val (.int (0 : Int32)), .unset, .unset, .unset, .unset, .unset, .unset, .unset, .unset, .unset, .unset, .unset, .unset] [(.int (2 : Int32)), (.int p8)])) _
      refine XS.iand X0.here hx rfl (hb hby at_17) rfl ?_
      exact kt
    by_cases hc18 : (p8 &&& (2 : Int32)) = (0 : Int32)
    · refine Gl.pre (S' := s₁.setTop (mkF m 32 #[.val (.long q0), .second, .val (.long q2), .second, .val (.long q4), .second, .val (.long q6), .second, .val (.int p8), .val (.int (0 : Int32)), .val (.int (0 : Int32)), .unset, .unset, .unset, .unset, .unset, .unset, .unset, .unset, .unset, .unset, .unset] [(.int (p8 &&& (4 : Int32)))])) (fun t kt => ?_) ?_
      · show Steps p.tables e below (s₁.setTop (mkF m 18 #[.val (.long q0), .second, .val (.long q2), .second, .val (.long q4), .second, .val (.long q6), .second, .val (.int p8), .val (.int (0 : Int32)), .unset, .unset, .unset, .unset, .unset, .unset, .unset, .unset, .unset, .unset, .unset, .unset] [(.int (p8 &&& (2 : Int32)))])) _
        refine XS.ifYes X0.here hx rfl (pc0 := 18) (pc' := 25) rfl (hb hby at_18) rfl (own_t (i0_eq _) hc18) (by decide) (by decide) ?_
        show Steps p.tables e below (s₁.setTop (mkF m 25 #[.val (.long q0), .second, .val (.long q2), .second, .val (.long q4), .second, .val (.long q6), .second, .val (.int p8), .val (.int (0 : Int32)), .unset, .unset, .unset, .unset, .unset, .unset, .unset, .unset, .unset, .unset, .unset, .unset] [])) _
        refine XS.iconst X0.here hx rfl (hb hby at_25) ?_
        show Steps p.tables e below (s₁.setTop (mkF m 26 #[.val (.long q0), .second, .val (.long q2), .second, .val (.long q4), .second, .val (.long q6), .second, .val (.int p8), .val (.int (0 : Int32)), .unset, .unset, .unset, .unset, .unset, .unset, .unset, .unset, .unset, .unset, .unset, .unset] [(.int (0 : Int32))])) _
        refine XS.istore X0.here hx rfl (hb hby at_26) rfl (l' := #[.val (.long q0), .second, .val (.long q2), .second, .val (.long q4), .second, .val (.long q6), .second, .val (.int p8), .val (.int (0 : Int32)), .val (.int (0 : Int32)), .unset, .unset, .unset, .unset, .unset, .unset, .unset, .unset, .unset, .unset, .unset]) rfl ?_
        show Steps p.tables e below (s₁.setTop (mkF m 28 #[.val (.long q0), .second, .val (.long q2), .second, .val (.long q4), .second, .val (.long q6), .second, .val (.int p8), .val (.int (0 : Int32)), .val (.int (0 : Int32)), .unset, .unset, .unset, .unset, .unset, .unset, .unset, .unset, .unset, .unset, .unset] [])) _
        refine XS.iload X0.here hx rfl (hb hby at_28) rfl ?_
        show Steps p.tables e below (s₁.setTop (mkF m 30 #[.val (.long q0), .second, .val (.long q2), .second, .val (.long q4), .second, .val (.long q6), .second, .val (.int p8), .val (.int (0 : Int32)), .val (.int (0 : Int32)), .unset, .unset, .unset, .unset, .unset, .unset, .unset, .unset, .unset, .unset, .unset] [(.int p8)])) _
        refine XS.iconst X0.here hx rfl (hb hby at_30) ?_
        show Steps p.tables e below (s₁.setTop (mkF m 31 #[.val (.long q0), .second, .val (.long q2), .second, .val (.long q4), .second, .val (.long q6), .second, .val (.int p8), .val (.int (0 : Int32)), .val (.int (0 : Int32)), .unset, .unset, .unset, .unset, .unset, .unset, .unset, .unset, .unset, .unset, .unset] [(.int (4 : Int32)), (.int p8)])) _
        refine XS.iand X0.here hx rfl (hb hby at_31) rfl ?_
        exact kt
      refine Gl.pre (S' := s₁.setTop (mkF m 40 #[.val (.long q0), .second, .val (.long q2), .second, .val (.long q4), .second, .val (.long q6), .second, .val (.int p8), .val (.int (0 : Int32)), .val (.int (0 : Int32)), .unset, .unset, .unset, .unset, .unset, .unset, .unset, .unset, .unset, .unset, .unset] [(.int (b2i (decide (¬ (p8 &&& (4 : Int32)) = (0 : Int32)))))])) (fun t kt => ?_) ?_
      · by_cases hc32 : (p8 &&& (4 : Int32)) = (0 : Int32)
        · show Steps p.tables e below (s₁.setTop (mkF m 32 #[.val (.long q0), .second, .val (.long q2), .second, .val (.long q4), .second, .val (.long q6), .second, .val (.int p8), .val (.int (0 : Int32)), .val (.int (0 : Int32)), .unset, .unset, .unset, .unset, .unset, .unset, .unset, .unset, .unset, .unset, .unset] [(.int (p8 &&& (4 : Int32)))])) _
          refine XS.ifYes X0.here hx rfl (pc0 := 32) (pc' := 39) rfl (hb hby at_32) rfl (own_t (i0_eq _) hc32) (by decide) (by decide) ?_
          show Steps p.tables e below (s₁.setTop (mkF m 39 #[.val (.long q0), .second, .val (.long q2), .second, .val (.long q4), .second, .val (.long q6), .second, .val (.int p8), .val (.int (0 : Int32)), .val (.int (0 : Int32)), .unset, .unset, .unset, .unset, .unset, .unset, .unset, .unset, .unset, .unset, .unset] [])) _
          refine XS.iconst X0.here hx rfl (hb hby at_39) ?_
          rw [(by simp [b2i, hc32] : (b2i (decide (¬ (p8 &&& (4 : Int32)) = (0 : Int32)))) = (0 : Int32))] at kt
          exact kt
        · show Steps p.tables e below (s₁.setTop (mkF m 32 #[.val (.long q0), .second, .val (.long q2), .second, .val (.long q4), .second, .val (.long q6), .second, .val (.int p8), .val (.int (0 : Int32)), .val (.int (0 : Int32)), .unset, .unset, .unset, .unset, .unset, .unset, .unset, .unset, .unset, .unset, .unset] [(.int (p8 &&& (4 : Int32)))])) _
          refine XS.ifNo X0.here hx rfl (hb hby at_32) rfl (own_f (i0_eq _) hc32) ?_
          show Steps p.tables e below (s₁.setTop (mkF m 35 #[.val (.long q0), .second, .val (.long q2), .second, .val (.long q4), .second, .val (.long q6), .second, .val (.int p8), .val (.int (0 : Int32)), .val (.int (0 : Int32)), .unset, .unset, .unset, .unset, .unset, .unset, .unset, .unset, .unset, .unset, .unset] [])) _
          refine XS.iconst X0.here hx rfl (hb hby at_35) ?_
          show Steps p.tables e below (s₁.setTop (mkF m 36 #[.val (.long q0), .second, .val (.long q2), .second, .val (.long q4), .second, .val (.long q6), .second, .val (.int p8), .val (.int (0 : Int32)), .val (.int (0 : Int32)), .unset, .unset, .unset, .unset, .unset, .unset, .unset, .unset, .unset, .unset, .unset] [(.int (1 : Int32))])) _
          refine XS.goto X0.here hx rfl (pc0 := 36) (pc' := 40) rfl (hb hby at_36) (by decide) (by decide) ?_
          rw [(by simp [b2i, hc32] : (b2i (decide (¬ (p8 &&& (4 : Int32)) = (0 : Int32)))) = (1 : Int32))] at kt
          exact kt
      obtain ⟨b3, h_b3⟩ : ∃ z : Bool, z = (decide (¬ (p8 &&& (4 : Int32)) = (0 : Int32))) := ⟨_, rfl⟩
      rw [← h_b3]
      refine Gl.pre (S' := s₁.setTop (mkF m 47 #[.val (.long q0), .second, .val (.long q2), .second, .val (.long q4), .second, .val (.long q6), .second, .val (.int p8), .val (.int (0 : Int32)), .val (.int (0 : Int32)), .val (.int (b2i b3)), .unset, .unset, .unset, .unset, .unset, .unset, .unset, .unset, .unset, .unset] [(.int (p8 &&& (8 : Int32)))])) (fun t kt => ?_) ?_
      · show Steps p.tables e below (s₁.setTop (mkF m 40 #[.val (.long q0), .second, .val (.long q2), .second, .val (.long q4), .second, .val (.long q6), .second, .val (.int p8), .val (.int (0 : Int32)), .val (.int (0 : Int32)), .unset, .unset, .unset, .unset, .unset, .unset, .unset, .unset, .unset, .unset, .unset] [(.int (b2i b3))])) _
        refine XS.istore X0.here hx rfl (hb hby at_40) rfl (l' := #[.val (.long q0), .second, .val (.long q2), .second, .val (.long q4), .second, .val (.long q6), .second, .val (.int p8), .val (.int (0 : Int32)), .val (.int (0 : Int32)), .val (.int (b2i b3)), .unset, .unset, .unset, .unset, .unset, .unset, .unset, .unset, .unset, .unset]) rfl ?_
        show Steps p.tables e below (s₁.setTop (mkF m 42 #[.val (.long q0), .second, .val (.long q2), .second, .val (.long q4), .second, .val (.long q6), .second, .val (.int p8), .val (.int (0 : Int32)), .val (.int (0 : Int32)), .val (.int (b2i b3)), .unset, .unset, .unset, .unset, .unset, .unset, .unset, .unset, .unset, .unset] [])) _
        refine XS.iload X0.here hx rfl (hb hby at_42) rfl ?_
        show Steps p.tables e below (s₁.setTop (mkF m 44 #[.val (.long q0), .second, .val (.long q2), .second, .val (.long q4), .second, .val (.long q6), .second, .val (.int p8), .val (.int (0 : Int32)), .val (.int (0 : Int32)), .val (.int (b2i b3)), .unset, .unset, .unset, .unset, .unset, .unset, .unset, .unset, .unset, .unset] [(.int p8)])) _
        refine XS.bipush X0.here hx rfl (hb hby at_44) ?_
        show Steps p.tables e below (s₁.setTop (mkF m 46 #[.val (.long q0), .second, .val (.long q2), .second, .val (.long q4), .second, .val (.long q6), .second, .val (.int p8), .val (.int (0 : Int32)), .val (.int (0 : Int32)), .val (.int (b2i b3)), .unset, .unset, .unset, .unset, .unset, .unset, .unset, .unset, .unset, .unset] [(.int (8 : Int32)), (.int p8)])) _
        refine XS.iand X0.here hx rfl (hb hby at_46) rfl ?_
        exact kt
      refine Gl.pre (S' := s₁.setTop (mkF m 55 #[.val (.long q0), .second, .val (.long q2), .second, .val (.long q4), .second, .val (.long q6), .second, .val (.int p8), .val (.int (0 : Int32)), .val (.int (0 : Int32)), .val (.int (b2i b3)), .unset, .unset, .unset, .unset, .unset, .unset, .unset, .unset, .unset, .unset] [(.int (b2i (decide (¬ (p8 &&& (8 : Int32)) = (0 : Int32)))))])) (fun t kt => ?_) ?_
      · by_cases hc47 : (p8 &&& (8 : Int32)) = (0 : Int32)
        · show Steps p.tables e below (s₁.setTop (mkF m 47 #[.val (.long q0), .second, .val (.long q2), .second, .val (.long q4), .second, .val (.long q6), .second, .val (.int p8), .val (.int (0 : Int32)), .val (.int (0 : Int32)), .val (.int (b2i b3)), .unset, .unset, .unset, .unset, .unset, .unset, .unset, .unset, .unset, .unset] [(.int (p8 &&& (8 : Int32)))])) _
          refine XS.ifYes X0.here hx rfl (pc0 := 47) (pc' := 54) rfl (hb hby at_47) rfl (own_t (i0_eq _) hc47) (by decide) (by decide) ?_
          show Steps p.tables e below (s₁.setTop (mkF m 54 #[.val (.long q0), .second, .val (.long q2), .second, .val (.long q4), .second, .val (.long q6), .second, .val (.int p8), .val (.int (0 : Int32)), .val (.int (0 : Int32)), .val (.int (b2i b3)), .unset, .unset, .unset, .unset, .unset, .unset, .unset, .unset, .unset, .unset] [])) _
          refine XS.iconst X0.here hx rfl (hb hby at_54) ?_
          rw [(by simp [b2i, hc47] : (b2i (decide (¬ (p8 &&& (8 : Int32)) = (0 : Int32)))) = (0 : Int32))] at kt
          exact kt
        · show Steps p.tables e below (s₁.setTop (mkF m 47 #[.val (.long q0), .second, .val (.long q2), .second, .val (.long q4), .second, .val (.long q6), .second, .val (.int p8), .val (.int (0 : Int32)), .val (.int (0 : Int32)), .val (.int (b2i b3)), .unset, .unset, .unset, .unset, .unset, .unset, .unset, .unset, .unset, .unset] [(.int (p8 &&& (8 : Int32)))])) _
          refine XS.ifNo X0.here hx rfl (hb hby at_47) rfl (own_f (i0_eq _) hc47) ?_
          show Steps p.tables e below (s₁.setTop (mkF m 50 #[.val (.long q0), .second, .val (.long q2), .second, .val (.long q4), .second, .val (.long q6), .second, .val (.int p8), .val (.int (0 : Int32)), .val (.int (0 : Int32)), .val (.int (b2i b3)), .unset, .unset, .unset, .unset, .unset, .unset, .unset, .unset, .unset, .unset] [])) _
          refine XS.iconst X0.here hx rfl (hb hby at_50) ?_
          show Steps p.tables e below (s₁.setTop (mkF m 51 #[.val (.long q0), .second, .val (.long q2), .second, .val (.long q4), .second, .val (.long q6), .second, .val (.int p8), .val (.int (0 : Int32)), .val (.int (0 : Int32)), .val (.int (b2i b3)), .unset, .unset, .unset, .unset, .unset, .unset, .unset, .unset, .unset, .unset] [(.int (1 : Int32))])) _
          refine XS.goto X0.here hx rfl (pc0 := 51) (pc' := 55) rfl (hb hby at_51) (by decide) (by decide) ?_
          rw [(by simp [b2i, hc47] : (b2i (decide (¬ (p8 &&& (8 : Int32)) = (0 : Int32)))) = (1 : Int32))] at kt
          exact kt
      obtain ⟨b4, h_b4⟩ : ∃ z : Bool, z = (decide (¬ (p8 &&& (8 : Int32)) = (0 : Int32))) := ⟨_, rfl⟩
      rw [← h_b4]
      obtain ⟨T101, h101, X101, e101, E101, A101, D101, -, st101⟩ := newO X0 hx hZ hown (hw _ (List.mem_of_getElem? (i := 0) rfl)) (hw _ (List.mem_of_getElem? (i := 1) rfl)) (hw _ (List.mem_of_getElem? (i := 2) rfl)) e0 (g := (mkF m 57 #[.val (.long q0), .second, .val (.long q2), .second, .val (.long q4), .second, .val (.long q6), .second, .val (.int p8), .val (.int (0 : Int32)), .val (.int (0 : Int32)), .val (.int (b2i b3)), .val (.int (b2i b4)), .unset, .unset, .unset, .unset, .unset, .unset, .unset, .unset, .unset] [])) rfl (hb hby at_57) (by decide) (by decide)
      obtain ⟨b101, g101⟩ : ∃ z, z = h0.size := ⟨_, rfl⟩
      have g_b101 : n0 ≤ b101 := Nat.le_trans Z0 (Nat.le_of_eq g101.symm)
      have sz_b101 : h0.size ≤ b101 := Nat.le_trans K0.1 (Nat.le_of_eq g101.symm)
      rw [← g101] at A101 D101 st101
      have K101 : Keep h0 h101 [] := K0.ext E101
      have F_transaction_b101 : Fld Z h101 b101 "com/example/stackledger/stackledger/Cleanup$Chosen" "transaction" "J" (.long (0 : Int64)) := D101 (Or.inr (hw _ (List.mem_of_getElem? (i := 16) rfl))) (ty := .long) (by decide)
      have F_patron_b101 : Fld Z h101 b101 "com/example/stackledger/stackledger/Cleanup$Chosen" "patron" "J" (.long (0 : Int64)) := D101 (Or.inr (hw _ (List.mem_of_getElem? (i := 18) rfl))) (ty := .long) (by decide)
      have F_org_b101 : Fld Z h101 b101 "com/example/stackledger/stackledger/Cleanup$Chosen" "org" "Ljava/lang/String;" .null := D101 (Or.inr (hw _ (List.mem_of_getElem? (i := 20) rfl))) (ty := (.object "java/lang/String")) (by decide)
      have F_startedAt_b101 : Fld Z h101 b101 "com/example/stackledger/stackledger/Cleanup$Chosen" "startedAt" "J" (.long (0 : Int64)) := D101 (Or.inr (hw _ (List.mem_of_getElem? (i := 22) rfl))) (ty := .long) (by decide)
      have F_finished_b101 : Fld Z h101 b101 "com/example/stackledger/stackledger/Cleanup$Chosen" "finished" "Z" (.int (0 : Int32)) := D101 (Or.inr (hw _ (List.mem_of_getElem? (i := 24) rfl))) (ty := .boolean) (by decide)
      have F_totalPaidCents_b101 : Fld Z h101 b101 "com/example/stackledger/stackledger/Cleanup$Chosen" "totalPaidCents" "J" (.long (0 : Int64)) := D101 (Or.inr (hw _ (List.mem_of_getElem? (i := 26) rfl))) (ty := .long) (by decide)
      have F_balanceCents_b101 : Fld Z h101 b101 "com/example/stackledger/stackledger/Cleanup$Chosen" "balanceCents" "J" (.long (0 : Int64)) := D101 (Or.inr (hw _ (List.mem_of_getElem? (i := 28) rfl))) (ty := .long) (by decide)
      have F_lost_b101 : Fld Z h101 b101 "com/example/stackledger/stackledger/Cleanup$Chosen" "lost" "Z" (.int (0 : Int32)) := D101 (Or.inr (hw _ (List.mem_of_getElem? (i := 30) rfl))) (ty := .boolean) (by decide)
      have z103 : n0 ≤ h101.size := (Nat.le_trans Z0 E101.1)
      obtain ⟨v102, T102, L102, X102, q102, st102⟩ := own_callI X101 hx hZ (y := (⟨"com/example/stackledger/stackledger/Cleanup$Chosen", "<init>", "(JJLjava/lang/String;JZJJZ)V"⟩ : MethodName)) rfl hown (hw _ (List.mem_of_getElem? (i := 4) rfl)) (hw _ (List.mem_of_getElem? (i := 5) rfl)) (hw _ (List.mem_of_getElem? (i := 2) rfl)) (hw _ (List.mem_of_getElem? (i := 6) rfl)) (by decide) (a := b101) (hM := (rm1 l Z a0 hw [] b101 (1 : Int64) (2 : Int64) q6 q4 q0 b3 false h101 n0 z103 g_b101 A101 F_transaction_b101 F_patron_b101 F_org_b101 F_startedAt_b101 F_finished_b101 F_totalPaidCents_b101 F_balanceCents_b101 F_lost_b101)) (by decide) (by decide) (by decide) (by decide) e101 (argsL := [(.long (1 : Int64)), (.long (2 : Int64)), .null, (.long q6), (.int (b2i b3)), (.long q4), (.long q0), (.int (0 : Int32))]) (rest := [(.ref b101)]) (Ls := #[.val (.long q0), .second, .val (.long q2), .second, .val (.long q4), .second, .val (.long q6), .second, .val (.int p8), .val (.int (0 : Int32)), .val (.int (0 : Int32)), .val (.int (b2i b3)), .val (.int (b2i b4)), .unset, .unset, .unset, .unset, .unset, .unset, .unset, .unset, .unset]) (by rw [hml]; rfl) (lenOf pd__JJLjava_lang_String_JZJJZ_V rfl) (W := 1) (Nat.le_of_eq rfl) (hb hby at_75)
      obtain ⟨rfl, N102q, K102q, E102q, P102q, B102q, O102q⟩ := q102
      have N102 := Fr.app N0 N102q
      have K102 : Keep h0 T102.heap [] := K101.trans K102q (allS (Or.inr sz_b101) all0)
      obtain ⟨T104, h104, X104, e104, E104, A104, D104, -, st104⟩ := newO X102 hx hZ hown (hw _ (List.mem_of_getElem? (i := 0) rfl)) (hw _ (List.mem_of_getElem? (i := 1) rfl)) (hw _ (List.mem_of_getElem? (i := 2) rfl)) rfl (g := (mkF m 80 #[.val (.long q0), .second, .val (.long q2), .second, .val (.long q4), .second, .val (.long q6), .second, .val (.int p8), .val (.int (0 : Int32)), .val (.int (0 : Int32)), .val (.int (b2i b3)), .val (.int (b2i b4)), .val (.ref b101), .unset, .unset, .unset, .unset, .unset, .unset, .unset, .unset] [])) rfl (hb hby at_80) (by decide) (by decide)
      obtain ⟨b104, g104⟩ : ∃ z, z = T102.heap.size := ⟨_, rfl⟩
      have z105 : n0 ≤ T102.heap.size := (Nat.le_trans z103 K102q.1)
      have g_b104 : n0 ≤ b104 := Nat.le_trans z105 (Nat.le_of_eq g104.symm)
      have sz_b104 : h0.size ≤ b104 := Nat.le_trans K102.1 (Nat.le_of_eq g104.symm)
      rw [← g104] at A104 D104 st104
      have K104 : Keep h0 h104 [] := K102.ext E104
      have F_transaction_b104 : Fld Z h104 b104 "com/example/stackledger/stackledger/Cleanup$Chosen" "transaction" "J" (.long (0 : Int64)) := D104 (Or.inr (hw _ (List.mem_of_getElem? (i := 16) rfl))) (ty := .long) (by decide)
      have F_patron_b104 : Fld Z h104 b104 "com/example/stackledger/stackledger/Cleanup$Chosen" "patron" "J" (.long (0 : Int64)) := D104 (Or.inr (hw _ (List.mem_of_getElem? (i := 18) rfl))) (ty := .long) (by decide)
      have F_org_b104 : Fld Z h104 b104 "com/example/stackledger/stackledger/Cleanup$Chosen" "org" "Ljava/lang/String;" .null := D104 (Or.inr (hw _ (List.mem_of_getElem? (i := 20) rfl))) (ty := (.object "java/lang/String")) (by decide)
      have F_startedAt_b104 : Fld Z h104 b104 "com/example/stackledger/stackledger/Cleanup$Chosen" "startedAt" "J" (.long (0 : Int64)) := D104 (Or.inr (hw _ (List.mem_of_getElem? (i := 22) rfl))) (ty := .long) (by decide)
      have F_finished_b104 : Fld Z h104 b104 "com/example/stackledger/stackledger/Cleanup$Chosen" "finished" "Z" (.int (0 : Int32)) := D104 (Or.inr (hw _ (List.mem_of_getElem? (i := 24) rfl))) (ty := .boolean) (by decide)
      have F_totalPaidCents_b104 : Fld Z h104 b104 "com/example/stackledger/stackledger/Cleanup$Chosen" "totalPaidCents" "J" (.long (0 : Int64)) := D104 (Or.inr (hw _ (List.mem_of_getElem? (i := 26) rfl))) (ty := .long) (by decide)
      have F_balanceCents_b104 : Fld Z h104 b104 "com/example/stackledger/stackledger/Cleanup$Chosen" "balanceCents" "J" (.long (0 : Int64)) := D104 (Or.inr (hw _ (List.mem_of_getElem? (i := 28) rfl))) (ty := .long) (by decide)
      have F_lost_b104 : Fld Z h104 b104 "com/example/stackledger/stackledger/Cleanup$Chosen" "lost" "Z" (.int (0 : Int32)) := D104 (Or.inr (hw _ (List.mem_of_getElem? (i := 30) rfl))) (ty := .boolean) (by decide)
      have z107 : n0 ≤ h104.size := (Nat.le_trans z105 E104.1)
      obtain ⟨v106, T106, L106, X106, q106, st106⟩ := own_callI X104 hx hZ (y := (⟨"com/example/stackledger/stackledger/Cleanup$Chosen", "<init>", "(JJLjava/lang/String;JZJJZ)V"⟩ : MethodName)) rfl hown (hw _ (List.mem_of_getElem? (i := 4) rfl)) (hw _ (List.mem_of_getElem? (i := 5) rfl)) (hw _ (List.mem_of_getElem? (i := 2) rfl)) (hw _ (List.mem_of_getElem? (i := 6) rfl)) (by decide) (a := b104) (hM := (rm1 l Z a0 hw [] b104 (3 : Int64) (4 : Int64) q4 q6 q2 b4 false h104 n0 z107 g_b104 A104 F_transaction_b104 F_patron_b104 F_org_b104 F_startedAt_b104 F_finished_b104 F_totalPaidCents_b104 F_balanceCents_b104 F_lost_b104)) (by decide) (by decide) (by decide) (by decide) e104 (argsL := [(.long (3 : Int64)), (.long (4 : Int64)), .null, (.long q4), (.int (b2i b4)), (.long q6), (.long q2), (.int (0 : Int32))]) (rest := [(.ref b104)]) (Ls := #[.val (.long q0), .second, .val (.long q2), .second, .val (.long q4), .second, .val (.long q6), .second, .val (.int p8), .val (.int (0 : Int32)), .val (.int (0 : Int32)), .val (.int (b2i b3)), .val (.int (b2i b4)), .val (.ref b101), .unset, .unset, .unset, .unset, .unset, .unset, .unset, .unset]) (by rw [hml]; rfl) (lenOf pd__JJLjava_lang_String_JZJJZ_V rfl) (W := 1) (Nat.le_of_eq rfl) (hb hby at_100)
      obtain ⟨rfl, N106q, K106q, E106q, P106q, B106q, O106q⟩ := q106
      have N106 := Fr.app N102 N106q
      have K106 : Keep h0 T106.heap [] := K104.trans K106q (allS (Or.inr sz_b104) all0)
      obtain ⟨T108, h108, X108, e108, E108, A108, D108, -, st108⟩ := newO X106 hx hZ hown (hw _ (List.mem_of_getElem? (i := 33) rfl)) (hw _ (List.mem_of_getElem? (i := 34) rfl)) (hw _ (List.mem_of_getElem? (i := 35) rfl)) rfl (g := (mkF m 105 #[.val (.long q0), .second, .val (.long q2), .second, .val (.long q4), .second, .val (.long q6), .second, .val (.int p8), .val (.int (0 : Int32)), .val (.int (0 : Int32)), .val (.int (b2i b3)), .val (.int (b2i b4)), .val (.ref b101), .val (.ref b104), .unset, .unset, .unset, .unset, .unset, .unset, .unset] [])) rfl (hb hby at_105) (by decide) (by decide)
      obtain ⟨b108, g108⟩ : ∃ z, z = T106.heap.size := ⟨_, rfl⟩
      have z109 : n0 ≤ T106.heap.size := (Nat.le_trans z107 K106q.1)
      have g_b108 : n0 ≤ b108 := Nat.le_trans z109 (Nat.le_of_eq g108.symm)
      have sz_b108 : h0.size ≤ b108 := Nat.le_trans K106.1 (Nat.le_of_eq g108.symm)
      rw [← g108] at A108 D108 st108
      have K108 : Keep h0 h108 [] := K106.ext E108
      have F_skipped_b108 : Fld Z h108 b108 "com/example/stackledger/stackledger/Cleanup$Tally" "skipped" "J" (.long (0 : Int64)) := D108 (Or.inl (hw _ (List.mem_of_getElem? (i := 55) rfl))) (ty := .long) (by decide)
      have F_cleared_b108 : Fld Z h108 b108 "com/example/stackledger/stackledger/Cleanup$Tally" "cleared" "J" (.long (0 : Int64)) := D108 (Or.inl (hw _ (List.mem_of_getElem? (i := 62) rfl))) (ty := .long) (by decide)
      have F_balanceCents_b108 : Fld Z h108 b108 "com/example/stackledger/stackledger/Cleanup$Tally" "balanceCents" "J" (.long (0 : Int64)) := D108 (Or.inl (hw _ (List.mem_of_getElem? (i := 74) rfl))) (ty := .long) (by decide)
      have z111 : n0 ≤ h108.size := (Nat.le_trans z109 E108.1)
      obtain ⟨v110, T110, L110, X110, q110, st110⟩ := own_callI X108 hx hZ (y := (⟨"com/example/stackledger/stackledger/Cleanup$Tally", "<init>", "()V"⟩ : MethodName)) rfl hown (hw _ (List.mem_of_getElem? (i := 36) rfl)) (hw _ (List.mem_of_getElem? (i := 37) rfl)) (hw _ (List.mem_of_getElem? (i := 35) rfl)) (hw _ (List.mem_of_getElem? (i := 38) rfl)) (by decide) (a := b108) (hM := (rm4 l Z a0 hw [] b108 h108 n0 z111)) (by decide) (by decide) (by decide) (by decide) e108 (argsL := []) (rest := [(.ref b108)]) (Ls := #[.val (.long q0), .second, .val (.long q2), .second, .val (.long q4), .second, .val (.long q6), .second, .val (.int p8), .val (.int (0 : Int32)), .val (.int (0 : Int32)), .val (.int (b2i b3)), .val (.int (b2i b4)), .val (.ref b101), .val (.ref b104), .unset, .unset, .unset, .unset, .unset, .unset, .unset]) (by rw [hml]; rfl) (lenOf pd___V rfl) (W := 1) (Nat.le_of_eq rfl) (hb hby at_109)
      obtain ⟨rfl, N110q, e110⟩ := q110
      have N110 := Fr.app N106 N110q
      refine Gl.pre (S' := T110.setTop (mkF m 118 #[.val (.long q0), .second, .val (.long q2), .second, .val (.long q4), .second, .val (.long q6), .second, .val (.int p8), .val (.int (0 : Int32)), .val (.int (0 : Int32)), .val (.int (b2i b3)), .val (.int (b2i b4)), .val (.ref b101), .val (.ref b104), .val (.ref b108), .unset, .unset, .unset, .unset, .unset, .unset] [(.ref b101), (.ref b108)])) (fun t kt => ?_) ?_
      · show Steps p.tables e below (s₁.setTop (mkF m 55 #[.val (.long q0), .second, .val (.long q2), .second, .val (.long q4), .second, .val (.long q6), .second, .val (.int p8), .val (.int (0 : Int32)), .val (.int (0 : Int32)), .val (.int (b2i b3)), .unset, .unset, .unset, .unset, .unset, .unset, .unset, .unset, .unset, .unset] [(.int (b2i b4))])) _
        refine XS.istore X0.here hx rfl (hb hby at_55) rfl (l' := #[.val (.long q0), .second, .val (.long q2), .second, .val (.long q4), .second, .val (.long q6), .second, .val (.int p8), .val (.int (0 : Int32)), .val (.int (0 : Int32)), .val (.int (b2i b3)), .val (.int (b2i b4)), .unset, .unset, .unset, .unset, .unset, .unset, .unset, .unset, .unset]) rfl ?_
        show Steps p.tables e below (s₁.setTop (mkF m 57 #[.val (.long q0), .second, .val (.long q2), .second, .val (.long q4), .second, .val (.long q6), .second, .val (.int p8), .val (.int (0 : Int32)), .val (.int (0 : Int32)), .val (.int (b2i b3)), .val (.int (b2i b4)), .unset, .unset, .unset, .unset, .unset, .unset, .unset, .unset, .unset] [])) _
        refine st101 _ ?_
        show Steps p.tables e below (T101.setTop (mkF m 60 #[.val (.long q0), .second, .val (.long q2), .second, .val (.long q4), .second, .val (.long q6), .second, .val (.int p8), .val (.int (0 : Int32)), .val (.int (0 : Int32)), .val (.int (b2i b3)), .val (.int (b2i b4)), .unset, .unset, .unset, .unset, .unset, .unset, .unset, .unset, .unset] [(.ref b101)])) _
        refine XS.dup X101.here hx rfl (hb hby at_60) rfl rfl ?_
        show Steps p.tables e below (T101.setTop (mkF m 61 #[.val (.long q0), .second, .val (.long q2), .second, .val (.long q4), .second, .val (.long q6), .second, .val (.int p8), .val (.int (0 : Int32)), .val (.int (0 : Int32)), .val (.int (b2i b3)), .val (.int (b2i b4)), .unset, .unset, .unset, .unset, .unset, .unset, .unset, .unset, .unset] [(.ref b101), (.ref b101)])) _
        refine XS.lconst X101.here hx rfl (hb hby at_61) ?_
        show Steps p.tables e below (T101.setTop (mkF m 62 #[.val (.long q0), .second, .val (.long q2), .second, .val (.long q4), .second, .val (.long q6), .second, .val (.int p8), .val (.int (0 : Int32)), .val (.int (0 : Int32)), .val (.int (b2i b3)), .val (.int (b2i b4)), .unset, .unset, .unset, .unset, .unset, .unset, .unset, .unset, .unset] [(.long (1 : Int64)), (.ref b101), (.ref b101)])) _
        refine X101.ldc2Long hx hown (mvT hZ (hw _ (List.mem_of_getElem? (i := 3) rfl))) (g := (mkF m 62 #[.val (.long q0), .second, .val (.long q2), .second, .val (.long q4), .second, .val (.long q6), .second, .val (.int p8), .val (.int (0 : Int32)), .val (.int (0 : Int32)), .val (.int (b2i b3)), .val (.int (b2i b4)), .unset, .unset, .unset, .unset, .unset, .unset, .unset, .unset, .unset] [(.long (1 : Int64)), (.ref b101), (.ref b101)])) rfl (hb hby at_62) _ ?_
        show Steps p.tables e below (T101.setTop (mkF m 65 #[.val (.long q0), .second, .val (.long q2), .second, .val (.long q4), .second, .val (.long q6), .second, .val (.int p8), .val (.int (0 : Int32)), .val (.int (0 : Int32)), .val (.int (b2i b3)), .val (.int (b2i b4)), .unset, .unset, .unset, .unset, .unset, .unset, .unset, .unset, .unset] [(.long (2 : Int64)), (.long (1 : Int64)), (.ref b101), (.ref b101)])) _
        refine XS.aconstNull X101.here hx rfl (hb hby at_65) ?_
        show Steps p.tables e below (T101.setTop (mkF m 66 #[.val (.long q0), .second, .val (.long q2), .second, .val (.long q4), .second, .val (.long q6), .second, .val (.int p8), .val (.int (0 : Int32)), .val (.int (0 : Int32)), .val (.int (b2i b3)), .val (.int (b2i b4)), .unset, .unset, .unset, .unset, .unset, .unset, .unset, .unset, .unset] [.null, (.long (2 : Int64)), (.long (1 : Int64)), (.ref b101), (.ref b101)])) _
        refine XS.lload X101.here hx rfl (hb hby at_66) rfl ?_
        show Steps p.tables e below (T101.setTop (mkF m 68 #[.val (.long q0), .second, .val (.long q2), .second, .val (.long q4), .second, .val (.long q6), .second, .val (.int p8), .val (.int (0 : Int32)), .val (.int (0 : Int32)), .val (.int (b2i b3)), .val (.int (b2i b4)), .unset, .unset, .unset, .unset, .unset, .unset, .unset, .unset, .unset] [(.long q6), .null, (.long (2 : Int64)), (.long (1 : Int64)), (.ref b101), (.ref b101)])) _
        refine XS.iload X101.here hx rfl (hb hby at_68) rfl ?_
        show Steps p.tables e below (T101.setTop (mkF m 70 #[.val (.long q0), .second, .val (.long q2), .second, .val (.long q4), .second, .val (.long q6), .second, .val (.int p8), .val (.int (0 : Int32)), .val (.int (0 : Int32)), .val (.int (b2i b3)), .val (.int (b2i b4)), .unset, .unset, .unset, .unset, .unset, .unset, .unset, .unset, .unset] [(.int (b2i b3)), (.long q6), .null, (.long (2 : Int64)), (.long (1 : Int64)), (.ref b101), (.ref b101)])) _
        refine XS.lload X101.here hx rfl (hb hby at_70) rfl ?_
        show Steps p.tables e below (T101.setTop (mkF m 72 #[.val (.long q0), .second, .val (.long q2), .second, .val (.long q4), .second, .val (.long q6), .second, .val (.int p8), .val (.int (0 : Int32)), .val (.int (0 : Int32)), .val (.int (b2i b3)), .val (.int (b2i b4)), .unset, .unset, .unset, .unset, .unset, .unset, .unset, .unset, .unset] [(.long q4), (.int (b2i b3)), (.long q6), .null, (.long (2 : Int64)), (.long (1 : Int64)), (.ref b101), (.ref b101)])) _
        refine XS.lloadN X101.here hx rfl (hb hby at_72) rfl ?_
        show Steps p.tables e below (T101.setTop (mkF m 73 #[.val (.long q0), .second, .val (.long q2), .second, .val (.long q4), .second, .val (.long q6), .second, .val (.int p8), .val (.int (0 : Int32)), .val (.int (0 : Int32)), .val (.int (b2i b3)), .val (.int (b2i b4)), .unset, .unset, .unset, .unset, .unset, .unset, .unset, .unset, .unset] [(.long q0), (.long q4), (.int (b2i b3)), (.long q6), .null, (.long (2 : Int64)), (.long (1 : Int64)), (.ref b101), (.ref b101)])) _
        refine XS.iload X101.here hx rfl (hb hby at_73) rfl ?_
        show Steps p.tables e below (T101.setTop (mkF m 75 #[.val (.long q0), .second, .val (.long q2), .second, .val (.long q4), .second, .val (.long q6), .second, .val (.int p8), .val (.int (0 : Int32)), .val (.int (0 : Int32)), .val (.int (b2i b3)), .val (.int (b2i b4)), .unset, .unset, .unset, .unset, .unset, .unset, .unset, .unset, .unset] [(.int (0 : Int32)), (.long q0), (.long q4), (.int (b2i b3)), (.long q6), .null, (.long (2 : Int64)), (.long (1 : Int64)), (.ref b101), (.ref b101)])) _
        refine st102 _ ?_
        show Steps p.tables e below (T102.setTop (mkF m 78 #[.val (.long q0), .second, .val (.long q2), .second, .val (.long q4), .second, .val (.long q6), .second, .val (.int p8), .val (.int (0 : Int32)), .val (.int (0 : Int32)), .val (.int (b2i b3)), .val (.int (b2i b4)), .unset, .unset, .unset, .unset, .unset, .unset, .unset, .unset, .unset] [(.ref b101)])) _
        refine XS.astore X102.here hx rfl (hb hby at_78) rfl rfl (l' := #[.val (.long q0), .second, .val (.long q2), .second, .val (.long q4), .second, .val (.long q6), .second, .val (.int p8), .val (.int (0 : Int32)), .val (.int (0 : Int32)), .val (.int (b2i b3)), .val (.int (b2i b4)), .val (.ref b101), .unset, .unset, .unset, .unset, .unset, .unset, .unset, .unset]) rfl ?_
        show Steps p.tables e below (T102.setTop (mkF m 80 #[.val (.long q0), .second, .val (.long q2), .second, .val (.long q4), .second, .val (.long q6), .second, .val (.int p8), .val (.int (0 : Int32)), .val (.int (0 : Int32)), .val (.int (b2i b3)), .val (.int (b2i b4)), .val (.ref b101), .unset, .unset, .unset, .unset, .unset, .unset, .unset, .unset] [])) _
        refine st104 _ ?_
        show Steps p.tables e below (T104.setTop (mkF m 83 #[.val (.long q0), .second, .val (.long q2), .second, .val (.long q4), .second, .val (.long q6), .second, .val (.int p8), .val (.int (0 : Int32)), .val (.int (0 : Int32)), .val (.int (b2i b3)), .val (.int (b2i b4)), .val (.ref b101), .unset, .unset, .unset, .unset, .unset, .unset, .unset, .unset] [(.ref b104)])) _
        refine XS.dup X104.here hx rfl (hb hby at_83) rfl rfl ?_
        show Steps p.tables e below (T104.setTop (mkF m 84 #[.val (.long q0), .second, .val (.long q2), .second, .val (.long q4), .second, .val (.long q6), .second, .val (.int p8), .val (.int (0 : Int32)), .val (.int (0 : Int32)), .val (.int (b2i b3)), .val (.int (b2i b4)), .val (.ref b101), .unset, .unset, .unset, .unset, .unset, .unset, .unset, .unset] [(.ref b104), (.ref b104)])) _
        refine X104.ldc2Long hx hown (mvT hZ (hw _ (List.mem_of_getElem? (i := 31) rfl))) (g := (mkF m 84 #[.val (.long q0), .second, .val (.long q2), .second, .val (.long q4), .second, .val (.long q6), .second, .val (.int p8), .val (.int (0 : Int32)), .val (.int (0 : Int32)), .val (.int (b2i b3)), .val (.int (b2i b4)), .val (.ref b101), .unset, .unset, .unset, .unset, .unset, .unset, .unset, .unset] [(.ref b104), (.ref b104)])) rfl (hb hby at_84) _ ?_
        show Steps p.tables e below (T104.setTop (mkF m 87 #[.val (.long q0), .second, .val (.long q2), .second, .val (.long q4), .second, .val (.long q6), .second, .val (.int p8), .val (.int (0 : Int32)), .val (.int (0 : Int32)), .val (.int (b2i b3)), .val (.int (b2i b4)), .val (.ref b101), .unset, .unset, .unset, .unset, .unset, .unset, .unset, .unset] [(.long (3 : Int64)), (.ref b104), (.ref b104)])) _
        refine X104.ldc2Long hx hown (mvT hZ (hw _ (List.mem_of_getElem? (i := 32) rfl))) (g := (mkF m 87 #[.val (.long q0), .second, .val (.long q2), .second, .val (.long q4), .second, .val (.long q6), .second, .val (.int p8), .val (.int (0 : Int32)), .val (.int (0 : Int32)), .val (.int (b2i b3)), .val (.int (b2i b4)), .val (.ref b101), .unset, .unset, .unset, .unset, .unset, .unset, .unset, .unset] [(.long (3 : Int64)), (.ref b104), (.ref b104)])) rfl (hb hby at_87) _ ?_
        show Steps p.tables e below (T104.setTop (mkF m 90 #[.val (.long q0), .second, .val (.long q2), .second, .val (.long q4), .second, .val (.long q6), .second, .val (.int p8), .val (.int (0 : Int32)), .val (.int (0 : Int32)), .val (.int (b2i b3)), .val (.int (b2i b4)), .val (.ref b101), .unset, .unset, .unset, .unset, .unset, .unset, .unset, .unset] [(.long (4 : Int64)), (.long (3 : Int64)), (.ref b104), (.ref b104)])) _
        refine XS.aconstNull X104.here hx rfl (hb hby at_90) ?_
        show Steps p.tables e below (T104.setTop (mkF m 91 #[.val (.long q0), .second, .val (.long q2), .second, .val (.long q4), .second, .val (.long q6), .second, .val (.int p8), .val (.int (0 : Int32)), .val (.int (0 : Int32)), .val (.int (b2i b3)), .val (.int (b2i b4)), .val (.ref b101), .unset, .unset, .unset, .unset, .unset, .unset, .unset, .unset] [.null, (.long (4 : Int64)), (.long (3 : Int64)), (.ref b104), (.ref b104)])) _
        refine XS.lload X104.here hx rfl (hb hby at_91) rfl ?_
        show Steps p.tables e below (T104.setTop (mkF m 93 #[.val (.long q0), .second, .val (.long q2), .second, .val (.long q4), .second, .val (.long q6), .second, .val (.int p8), .val (.int (0 : Int32)), .val (.int (0 : Int32)), .val (.int (b2i b3)), .val (.int (b2i b4)), .val (.ref b101), .unset, .unset, .unset, .unset, .unset, .unset, .unset, .unset] [(.long q4), .null, (.long (4 : Int64)), (.long (3 : Int64)), (.ref b104), (.ref b104)])) _
        refine XS.iload X104.here hx rfl (hb hby at_93) rfl ?_
        show Steps p.tables e below (T104.setTop (mkF m 95 #[.val (.long q0), .second, .val (.long q2), .second, .val (.long q4), .second, .val (.long q6), .second, .val (.int p8), .val (.int (0 : Int32)), .val (.int (0 : Int32)), .val (.int (b2i b3)), .val (.int (b2i b4)), .val (.ref b101), .unset, .unset, .unset, .unset, .unset, .unset, .unset, .unset] [(.int (b2i b4)), (.long q4), .null, (.long (4 : Int64)), (.long (3 : Int64)), (.ref b104), (.ref b104)])) _
        refine XS.lload X104.here hx rfl (hb hby at_95) rfl ?_
        show Steps p.tables e below (T104.setTop (mkF m 97 #[.val (.long q0), .second, .val (.long q2), .second, .val (.long q4), .second, .val (.long q6), .second, .val (.int p8), .val (.int (0 : Int32)), .val (.int (0 : Int32)), .val (.int (b2i b3)), .val (.int (b2i b4)), .val (.ref b101), .unset, .unset, .unset, .unset, .unset, .unset, .unset, .unset] [(.long q6), (.int (b2i b4)), (.long q4), .null, (.long (4 : Int64)), (.long (3 : Int64)), (.ref b104), (.ref b104)])) _
        refine XS.lloadN X104.here hx rfl (hb hby at_97) rfl ?_
        show Steps p.tables e below (T104.setTop (mkF m 98 #[.val (.long q0), .second, .val (.long q2), .second, .val (.long q4), .second, .val (.long q6), .second, .val (.int p8), .val (.int (0 : Int32)), .val (.int (0 : Int32)), .val (.int (b2i b3)), .val (.int (b2i b4)), .val (.ref b101), .unset, .unset, .unset, .unset, .unset, .unset, .unset, .unset] [(.long q2), (.long q6), (.int (b2i b4)), (.long q4), .null, (.long (4 : Int64)), (.long (3 : Int64)), (.ref b104), (.ref b104)])) _
        refine XS.iload X104.here hx rfl (hb hby at_98) rfl ?_
        show Steps p.tables e below (T104.setTop (mkF m 100 #[.val (.long q0), .second, .val (.long q2), .second, .val (.long q4), .second, .val (.long q6), .second, .val (.int p8), .val (.int (0 : Int32)), .val (.int (0 : Int32)), .val (.int (b2i b3)), .val (.int (b2i b4)), .val (.ref b101), .unset, .unset, .unset, .unset, .unset, .unset, .unset, .unset] [(.int (0 : Int32)), (.long q2), (.long q6), (.int (b2i b4)), (.long q4), .null, (.long (4 : Int64)), (.long (3 : Int64)), (.ref b104), (.ref b104)])) _
        refine st106 _ ?_
        show Steps p.tables e below (T106.setTop (mkF m 103 #[.val (.long q0), .second, .val (.long q2), .second, .val (.long q4), .second, .val (.long q6), .second, .val (.int p8), .val (.int (0 : Int32)), .val (.int (0 : Int32)), .val (.int (b2i b3)), .val (.int (b2i b4)), .val (.ref b101), .unset, .unset, .unset, .unset, .unset, .unset, .unset, .unset] [(.ref b104)])) _
        refine XS.astore X106.here hx rfl (hb hby at_103) rfl rfl (l' := #[.val (.long q0), .second, .val (.long q2), .second, .val (.long q4), .second, .val (.long q6), .second, .val (.int p8), .val (.int (0 : Int32)), .val (.int (0 : Int32)), .val (.int (b2i b3)), .val (.int (b2i b4)), .val (.ref b101), .val (.ref b104), .unset, .unset, .unset, .unset, .unset, .unset, .unset]) rfl ?_
        show Steps p.tables e below (T106.setTop (mkF m 105 #[.val (.long q0), .second, .val (.long q2), .second, .val (.long q4), .second, .val (.long q6), .second, .val (.int p8), .val (.int (0 : Int32)), .val (.int (0 : Int32)), .val (.int (b2i b3)), .val (.int (b2i b4)), .val (.ref b101), .val (.ref b104), .unset, .unset, .unset, .unset, .unset, .unset, .unset] [])) _
        refine st108 _ ?_
        show Steps p.tables e below (T108.setTop (mkF m 108 #[.val (.long q0), .second, .val (.long q2), .second, .val (.long q4), .second, .val (.long q6), .second, .val (.int p8), .val (.int (0 : Int32)), .val (.int (0 : Int32)), .val (.int (b2i b3)), .val (.int (b2i b4)), .val (.ref b101), .val (.ref b104), .unset, .unset, .unset, .unset, .unset, .unset, .unset] [(.ref b108)])) _
        refine XS.dup X108.here hx rfl (hb hby at_108) rfl rfl ?_
        show Steps p.tables e below (T108.setTop (mkF m 109 #[.val (.long q0), .second, .val (.long q2), .second, .val (.long q4), .second, .val (.long q6), .second, .val (.int p8), .val (.int (0 : Int32)), .val (.int (0 : Int32)), .val (.int (b2i b3)), .val (.int (b2i b4)), .val (.ref b101), .val (.ref b104), .unset, .unset, .unset, .unset, .unset, .unset, .unset] [(.ref b108), (.ref b108)])) _
        refine st110 _ ?_
        show Steps p.tables e below (T110.setTop (mkF m 112 #[.val (.long q0), .second, .val (.long q2), .second, .val (.long q4), .second, .val (.long q6), .second, .val (.int p8), .val (.int (0 : Int32)), .val (.int (0 : Int32)), .val (.int (b2i b3)), .val (.int (b2i b4)), .val (.ref b101), .val (.ref b104), .unset, .unset, .unset, .unset, .unset, .unset, .unset] [(.ref b108)])) _
        refine XS.astore X110.here hx rfl (hb hby at_112) rfl rfl (l' := #[.val (.long q0), .second, .val (.long q2), .second, .val (.long q4), .second, .val (.long q6), .second, .val (.int p8), .val (.int (0 : Int32)), .val (.int (0 : Int32)), .val (.int (b2i b3)), .val (.int (b2i b4)), .val (.ref b101), .val (.ref b104), .val (.ref b108), .unset, .unset, .unset, .unset, .unset, .unset]) rfl ?_
        show Steps p.tables e below (T110.setTop (mkF m 114 #[.val (.long q0), .second, .val (.long q2), .second, .val (.long q4), .second, .val (.long q6), .second, .val (.int p8), .val (.int (0 : Int32)), .val (.int (0 : Int32)), .val (.int (b2i b3)), .val (.int (b2i b4)), .val (.ref b101), .val (.ref b104), .val (.ref b108), .unset, .unset, .unset, .unset, .unset, .unset] [])) _
        refine XS.aload X110.here hx rfl (hb hby at_114) rfl rfl ?_
        show Steps p.tables e below (T110.setTop (mkF m 116 #[.val (.long q0), .second, .val (.long q2), .second, .val (.long q4), .second, .val (.long q6), .second, .val (.int p8), .val (.int (0 : Int32)), .val (.int (0 : Int32)), .val (.int (b2i b3)), .val (.int (b2i b4)), .val (.ref b101), .val (.ref b104), .val (.ref b108), .unset, .unset, .unset, .unset, .unset, .unset] [(.ref b108)])) _
        refine XS.aload X110.here hx rfl (hb hby at_116) rfl rfl ?_
        exact kt
      have f113 := (((E102q.ext E104).keep K106q).ext E108)
      have f114 := (((O102q.ext E104).keep K106q (ninS (Nat.ne_of_lt (Nat.lt_of_lt_of_le (Nat.lt_of_lt_of_le A101.lt K102q.1) (Nat.le_of_eq g104.symm))) nin0)).ext E108)
      have f115 := (((B102q.ext E104).keep K106q (ninS (Nat.ne_of_lt (Nat.lt_of_lt_of_le (Nat.lt_of_lt_of_le A101.lt K102q.1) (Nat.le_of_eq g104.symm))) nin0)).ext E108)
      have f116 := (((P102q.ext E104).keep K106q (ninS (Nat.ne_of_lt (Nat.lt_of_lt_of_le (Nat.lt_of_lt_of_le A101.lt K102q.1) (Nat.le_of_eq g104.symm))) nin0)).ext E108)
      have f117 := ((own_sta_keep ((own_sta_keep (S_sk.ext E101) K102q (allS ⟨_, A101⟩ all0)).ext E104) K106q (allS ⟨_, A104⟩ all0)).ext E108)
      have f118 := ((own_sta_keep ((own_sta_keep (S_ov.ext E101) K102q (allS ⟨_, A101⟩ all0)).ext E104) K106q (allS ⟨_, A104⟩ all0)).ext E108)
      have f119 := ((own_sta_keep ((own_sta_keep (S_vo.ext E101) K102q (allS ⟨_, A101⟩ all0)).ext E104) K106q (allS ⟨_, A104⟩ all0)).ext E108)
      have f120 := ((own_sta_keep ((own_sta_keep (S_fo.ext E101) K102q (allS ⟨_, A101⟩ all0)).ext E104) K106q (allS ⟨_, A104⟩ all0)).ext E108)
      obtain ⟨v112, T112, L112, X112, q112, st112⟩ := own_callV X110 hx hZ (y := (⟨"com/example/stackledger/stackledger/Cleanup$Tally", "add", "(Lcom/example/stackledger/stackledger/Cleanup$Chosen;)V"⟩ : MethodName)) (z := (⟨"com/example/stackledger/stackledger/Cleanup$Tally", "add", "(Lcom/example/stackledger/stackledger/Cleanup$Chosen;)V"⟩ : MethodName)) hown (hw _ (List.mem_of_getElem? (i := 40) rfl)) (hw _ (List.mem_of_getElem? (i := 41) rfl)) (notFace_of_selects (args := #[]) (mvT hZ (hw _ (List.mem_of_getElem? (i := 43) rfl)))) (hw _ (List.mem_of_getElem? (i := 43) rfl)) (hw _ (List.mem_of_getElem? (i := 42) rfl)) (hw _ (List.mem_of_getElem? (i := 35) rfl)) (hw _ (List.mem_of_getElem? (i := 44) rfl)) (by decide) A108 (hM := (rm5n l Z a0 hw [] b108 b101 (0 : Int64) (0 : Int64) (0 : Int64) q0 q4 sk ov vo fo h108 n0 z111 g_b108 A108 f113 (Ne.symm (Nat.ne_of_lt (Nat.lt_of_lt_of_le (Nat.lt_of_lt_of_le (Nat.lt_of_lt_of_le (Nat.lt_of_lt_of_le A101.lt K102q.1) E104.1) K106q.1) (Nat.le_of_eq g108.symm)))) F_cleared_b108 F_skipped_b108 F_balanceCents_b108 f114 f115 f116 f117 f118 f119 f120 ne_ov ne_vo ne_fo)) (by decide) (by decide) (by decide) (by decide) e110 (argsL := [(.ref b101)]) (rest := []) (Ls := #[.val (.long q0), .second, .val (.long q2), .second, .val (.long q4), .second, .val (.long q6), .second, .val (.int p8), .val (.int (0 : Int32)), .val (.int (0 : Int32)), .val (.int (b2i b3)), .val (.int (b2i b4)), .val (.ref b101), .val (.ref b104), .val (.ref b108), .unset, .unset, .unset, .unset, .unset, .unset]) (by rw [hml]; rfl) (lenOf pd__Lcom_example_stackledger_stackledger_Cleanup_Chosen__V rfl) (W := 0) (Nat.le_of_eq rfl) (hb hby at_118)
      obtain ⟨rfl, N112q, K112q, E112q, A112q, B112q, C112q⟩ := q112
      have N112 := Fr.app N110 N112q
      have K112 : Keep h0 T112.heap [] := K108.trans K112q (allS (Or.inr sz_b108) all0)
      have f122 := ((E106q.ext E108).keep K112q)
      have f123 := ((O106q.ext E108).keep K112q (ninS (Nat.ne_of_lt (Nat.lt_of_lt_of_le (Nat.lt_of_lt_of_le A104.lt K106q.1) (Nat.le_of_eq g108.symm))) nin0))
      have f124 := ((B106q.ext E108).keep K112q (ninS (Nat.ne_of_lt (Nat.lt_of_lt_of_le (Nat.lt_of_lt_of_le A104.lt K106q.1) (Nat.le_of_eq g108.symm))) nin0))
      have f125 := ((P106q.ext E108).keep K112q (ninS (Nat.ne_of_lt (Nat.lt_of_lt_of_le (Nat.lt_of_lt_of_le A104.lt K106q.1) (Nat.le_of_eq g108.symm))) nin0))
      have f126 := (own_sta_keep f117 K112q (allS ⟨_, A108⟩ all0))
      have f127 := (own_sta_keep f118 K112q (allS ⟨_, A108⟩ all0))
      have f128 := (own_sta_keep f119 K112q (allS ⟨_, A108⟩ all0))
      have f129 := (own_sta_keep f120 K112q (allS ⟨_, A108⟩ all0))
      have z130 : n0 ≤ T112.heap.size := (Nat.le_trans z111 K112q.1)
      obtain ⟨v121, T121, L121, X121, q121, st121⟩ := own_callV X112 hx hZ (y := (⟨"com/example/stackledger/stackledger/Cleanup$Tally", "add", "(Lcom/example/stackledger/stackledger/Cleanup$Chosen;)V"⟩ : MethodName)) (z := (⟨"com/example/stackledger/stackledger/Cleanup$Tally", "add", "(Lcom/example/stackledger/stackledger/Cleanup$Chosen;)V"⟩ : MethodName)) hown (hw _ (List.mem_of_getElem? (i := 40) rfl)) (hw _ (List.mem_of_getElem? (i := 41) rfl)) (notFace_of_selects (args := #[]) (mvT hZ (hw _ (List.mem_of_getElem? (i := 43) rfl)))) (hw _ (List.mem_of_getElem? (i := 43) rfl)) (hw _ (List.mem_of_getElem? (i := 42) rfl)) (hw _ (List.mem_of_getElem? (i := 35) rfl)) (hw _ (List.mem_of_getElem? (i := 44) rfl)) (by decide) E112q (hM := (rm5n l Z a0 hw [] b108 b104 ((0 : Int64) + (1 : Int64)) (0 : Int64) ((0 : Int64) + q0) q2 q6 sk ov vo fo T112.heap n0 z130 g_b108 E112q f122 (Ne.symm (Nat.ne_of_lt (Nat.lt_of_lt_of_le (Nat.lt_of_lt_of_le A104.lt K106q.1) (Nat.le_of_eq g108.symm)))) A112q B112q C112q f123 f124 f125 f126 f127 f128 f129 ne_ov ne_vo ne_fo)) (by decide) (by decide) (by decide) (by decide) rfl (argsL := [(.ref b104)]) (rest := []) (Ls := #[.val (.long q0), .second, .val (.long q2), .second, .val (.long q4), .second, .val (.long q6), .second, .val (.int p8), .val (.int (0 : Int32)), .val (.int (0 : Int32)), .val (.int (b2i b3)), .val (.int (b2i b4)), .val (.ref b101), .val (.ref b104), .val (.ref b108), .unset, .unset, .unset, .unset, .unset, .unset]) (by rw [hml]; rfl) (lenOf pd__Lcom_example_stackledger_stackledger_Cleanup_Chosen__V rfl) (W := 0) (Nat.le_of_eq rfl) (hb hby at_125)
      obtain ⟨rfl, N121q, K121q, E121q, A121q, B121q, C121q⟩ := q121
      have N121 := Fr.app N112 N121q
      have K121 : Keep h0 T121.heap [] := K112.trans K121q (allS (Or.inr sz_b108) all0)
      refine Gl.pre (S' := T121.setTop (mkF m 191 #[.val (.long q0), .second, .val (.long q2), .second, .val (.long q4), .second, .val (.long q6), .second, .val (.int p8), .val (.int (0 : Int32)), .val (.int (0 : Int32)), .val (.int (b2i b3)), .val (.int (b2i b4)), .val (.ref b101), .val (.ref b104), .val (.ref b108), .val (.long (((0 : Int64) + (1 : Int64)) + (1 : Int64))), .second, .val (.long (0 : Int64)), .second, .val (.long (((0 : Int64) + q0) + q2)), .second] [(.ref b108)])) (fun t kt => ?_) ?_
      · show Steps p.tables e below (T110.setTop (mkF m 118 #[.val (.long q0), .second, .val (.long q2), .second, .val (.long q4), .second, .val (.long q6), .second, .val (.int p8), .val (.int (0 : Int32)), .val (.int (0 : Int32)), .val (.int (b2i b3)), .val (.int (b2i b4)), .val (.ref b101), .val (.ref b104), .val (.ref b108), .unset, .unset, .unset, .unset, .unset, .unset] [(.ref b101), (.ref b108)])) _
        refine st112 _ ?_
        show Steps p.tables e below (T112.setTop (mkF m 121 #[.val (.long q0), .second, .val (.long q2), .second, .val (.long q4), .second, .val (.long q6), .second, .val (.int p8), .val (.int (0 : Int32)), .val (.int (0 : Int32)), .val (.int (b2i b3)), .val (.int (b2i b4)), .val (.ref b101), .val (.ref b104), .val (.ref b108), .unset, .unset, .unset, .unset, .unset, .unset] [])) _
        refine XS.aload X112.here hx rfl (hb hby at_121) rfl rfl ?_
        show Steps p.tables e below (T112.setTop (mkF m 123 #[.val (.long q0), .second, .val (.long q2), .second, .val (.long q4), .second, .val (.long q6), .second, .val (.int p8), .val (.int (0 : Int32)), .val (.int (0 : Int32)), .val (.int (b2i b3)), .val (.int (b2i b4)), .val (.ref b101), .val (.ref b104), .val (.ref b108), .unset, .unset, .unset, .unset, .unset, .unset] [(.ref b108)])) _
        refine XS.aload X112.here hx rfl (hb hby at_123) rfl rfl ?_
        show Steps p.tables e below (T112.setTop (mkF m 125 #[.val (.long q0), .second, .val (.long q2), .second, .val (.long q4), .second, .val (.long q6), .second, .val (.int p8), .val (.int (0 : Int32)), .val (.int (0 : Int32)), .val (.int (b2i b3)), .val (.int (b2i b4)), .val (.ref b101), .val (.ref b104), .val (.ref b108), .unset, .unset, .unset, .unset, .unset, .unset] [(.ref b104), (.ref b108)])) _
        refine st121 _ ?_
        show Steps p.tables e below (T121.setTop (mkF m 128 #[.val (.long q0), .second, .val (.long q2), .second, .val (.long q4), .second, .val (.long q6), .second, .val (.int p8), .val (.int (0 : Int32)), .val (.int (0 : Int32)), .val (.int (b2i b3)), .val (.int (b2i b4)), .val (.ref b101), .val (.ref b104), .val (.ref b108), .unset, .unset, .unset, .unset, .unset, .unset] [])) _
        refine XS.lconst X121.here hx rfl (hb hby at_128) ?_
        show Steps p.tables e below (T121.setTop (mkF m 129 #[.val (.long q0), .second, .val (.long q2), .second, .val (.long q4), .second, .val (.long q6), .second, .val (.int p8), .val (.int (0 : Int32)), .val (.int (0 : Int32)), .val (.int (b2i b3)), .val (.int (b2i b4)), .val (.ref b101), .val (.ref b104), .val (.ref b108), .unset, .unset, .unset, .unset, .unset, .unset] [(.long (0 : Int64))])) _
        refine XS.lstore X121.here hx rfl (hb hby at_129) rfl (l' := #[.val (.long q0), .second, .val (.long q2), .second, .val (.long q4), .second, .val (.long q6), .second, .val (.int p8), .val (.int (0 : Int32)), .val (.int (0 : Int32)), .val (.int (b2i b3)), .val (.int (b2i b4)), .val (.ref b101), .val (.ref b104), .val (.ref b108), .val (.long (0 : Int64)), .second, .unset, .unset, .unset, .unset]) rfl ?_
        show Steps p.tables e below (T121.setTop (mkF m 131 #[.val (.long q0), .second, .val (.long q2), .second, .val (.long q4), .second, .val (.long q6), .second, .val (.int p8), .val (.int (0 : Int32)), .val (.int (0 : Int32)), .val (.int (b2i b3)), .val (.int (b2i b4)), .val (.ref b101), .val (.ref b104), .val (.ref b108), .val (.long (0 : Int64)), .second, .unset, .unset, .unset, .unset] [])) _
        refine XS.lconst X121.here hx rfl (hb hby at_131) ?_
        show Steps p.tables e below (T121.setTop (mkF m 132 #[.val (.long q0), .second, .val (.long q2), .second, .val (.long q4), .second, .val (.long q6), .second, .val (.int p8), .val (.int (0 : Int32)), .val (.int (0 : Int32)), .val (.int (b2i b3)), .val (.int (b2i b4)), .val (.ref b101), .val (.ref b104), .val (.ref b108), .val (.long (0 : Int64)), .second, .unset, .unset, .unset, .unset] [(.long (0 : Int64))])) _
        refine XS.lstore X121.here hx rfl (hb hby at_132) rfl (l' := #[.val (.long q0), .second, .val (.long q2), .second, .val (.long q4), .second, .val (.long q6), .second, .val (.int p8), .val (.int (0 : Int32)), .val (.int (0 : Int32)), .val (.int (b2i b3)), .val (.int (b2i b4)), .val (.ref b101), .val (.ref b104), .val (.ref b108), .val (.long (0 : Int64)), .second, .val (.long (0 : Int64)), .second, .unset, .unset]) rfl ?_
        show Steps p.tables e below (T121.setTop (mkF m 134 #[.val (.long q0), .second, .val (.long q2), .second, .val (.long q4), .second, .val (.long q6), .second, .val (.int p8), .val (.int (0 : Int32)), .val (.int (0 : Int32)), .val (.int (b2i b3)), .val (.int (b2i b4)), .val (.ref b101), .val (.ref b104), .val (.ref b108), .val (.long (0 : Int64)), .second, .val (.long (0 : Int64)), .second, .unset, .unset] [])) _
        refine XS.lconst X121.here hx rfl (hb hby at_134) ?_
        show Steps p.tables e below (T121.setTop (mkF m 135 #[.val (.long q0), .second, .val (.long q2), .second, .val (.long q4), .second, .val (.long q6), .second, .val (.int p8), .val (.int (0 : Int32)), .val (.int (0 : Int32)), .val (.int (b2i b3)), .val (.int (b2i b4)), .val (.ref b101), .val (.ref b104), .val (.ref b108), .val (.long (0 : Int64)), .second, .val (.long (0 : Int64)), .second, .unset, .unset] [(.long (0 : Int64))])) _
        refine XS.lstore X121.here hx rfl (hb hby at_135) rfl (l' := #[.val (.long q0), .second, .val (.long q2), .second, .val (.long q4), .second, .val (.long q6), .second, .val (.int p8), .val (.int (0 : Int32)), .val (.int (0 : Int32)), .val (.int (b2i b3)), .val (.int (b2i b4)), .val (.ref b101), .val (.ref b104), .val (.ref b108), .val (.long (0 : Int64)), .second, .val (.long (0 : Int64)), .second, .val (.long (0 : Int64)), .second]) rfl ?_
        show Steps p.tables e below (T121.setTop (mkF m 137 #[.val (.long q0), .second, .val (.long q2), .second, .val (.long q4), .second, .val (.long q6), .second, .val (.int p8), .val (.int (0 : Int32)), .val (.int (0 : Int32)), .val (.int (b2i b3)), .val (.int (b2i b4)), .val (.ref b101), .val (.ref b104), .val (.ref b108), .val (.long (0 : Int64)), .second, .val (.long (0 : Int64)), .second, .val (.long (0 : Int64)), .second] [])) _
        refine XS.iload X121.here hx rfl (hb hby at_137) rfl ?_
        show Steps p.tables e below (T121.setTop (mkF m 139 #[.val (.long q0), .second, .val (.long q2), .second, .val (.long q4), .second, .val (.long q6), .second, .val (.int p8), .val (.int (0 : Int32)), .val (.int (0 : Int32)), .val (.int (b2i b3)), .val (.int (b2i b4)), .val (.ref b101), .val (.ref b104), .val (.ref b108), .val (.long (0 : Int64)), .second, .val (.long (0 : Int64)), .second, .val (.long (0 : Int64)), .second] [(.int (0 : Int32))])) _
        refine XS.ifYes X121.here hx rfl (pc0 := 139) (pc' := 151) rfl (hb hby at_139) rfl (own_t (i0_eq _) (by decide)) (by decide) (by decide) ?_
        show Steps p.tables e below (T121.setTop (mkF m 151 #[.val (.long q0), .second, .val (.long q2), .second, .val (.long q4), .second, .val (.long q6), .second, .val (.int p8), .val (.int (0 : Int32)), .val (.int (0 : Int32)), .val (.int (b2i b3)), .val (.int (b2i b4)), .val (.ref b101), .val (.ref b104), .val (.ref b108), .val (.long (0 : Int64)), .second, .val (.long (0 : Int64)), .second, .val (.long (0 : Int64)), .second] [])) _
        refine XS.lload X121.here hx rfl (hb hby at_151) rfl ?_
        show Steps p.tables e below (T121.setTop (mkF m 153 #[.val (.long q0), .second, .val (.long q2), .second, .val (.long q4), .second, .val (.long q6), .second, .val (.int p8), .val (.int (0 : Int32)), .val (.int (0 : Int32)), .val (.int (b2i b3)), .val (.int (b2i b4)), .val (.ref b101), .val (.ref b104), .val (.ref b108), .val (.long (0 : Int64)), .second, .val (.long (0 : Int64)), .second, .val (.long (0 : Int64)), .second] [(.long (0 : Int64))])) _
        refine XS.lconst X121.here hx rfl (hb hby at_153) ?_
        show Steps p.tables e below (T121.setTop (mkF m 154 #[.val (.long q0), .second, .val (.long q2), .second, .val (.long q4), .second, .val (.long q6), .second, .val (.int p8), .val (.int (0 : Int32)), .val (.int (0 : Int32)), .val (.int (b2i b3)), .val (.int (b2i b4)), .val (.ref b101), .val (.ref b104), .val (.ref b108), .val (.long (0 : Int64)), .second, .val (.long (0 : Int64)), .second, .val (.long (0 : Int64)), .second] [(.long (1 : Int64)), (.long (0 : Int64))])) _
        refine XS.ladd X121.here hx rfl (hb hby at_154) rfl ?_
        show Steps p.tables e below (T121.setTop (mkF m 155 #[.val (.long q0), .second, .val (.long q2), .second, .val (.long q4), .second, .val (.long q6), .second, .val (.int p8), .val (.int (0 : Int32)), .val (.int (0 : Int32)), .val (.int (b2i b3)), .val (.int (b2i b4)), .val (.ref b101), .val (.ref b104), .val (.ref b108), .val (.long (0 : Int64)), .second, .val (.long (0 : Int64)), .second, .val (.long (0 : Int64)), .second] [(.long ((0 : Int64) + (1 : Int64)))])) _
        refine XS.lstore X121.here hx rfl (hb hby at_155) rfl (l' := #[.val (.long q0), .second, .val (.long q2), .second, .val (.long q4), .second, .val (.long q6), .second, .val (.int p8), .val (.int (0 : Int32)), .val (.int (0 : Int32)), .val (.int (b2i b3)), .val (.int (b2i b4)), .val (.ref b101), .val (.ref b104), .val (.ref b108), .val (.long ((0 : Int64) + (1 : Int64))), .second, .val (.long (0 : Int64)), .second, .val (.long (0 : Int64)), .second]) rfl ?_
        show Steps p.tables e below (T121.setTop (mkF m 157 #[.val (.long q0), .second, .val (.long q2), .second, .val (.long q4), .second, .val (.long q6), .second, .val (.int p8), .val (.int (0 : Int32)), .val (.int (0 : Int32)), .val (.int (b2i b3)), .val (.int (b2i b4)), .val (.ref b101), .val (.ref b104), .val (.ref b108), .val (.long ((0 : Int64) + (1 : Int64))), .second, .val (.long (0 : Int64)), .second, .val (.long (0 : Int64)), .second] [])) _
        refine XS.lload X121.here hx rfl (hb hby at_157) rfl ?_
        show Steps p.tables e below (T121.setTop (mkF m 159 #[.val (.long q0), .second, .val (.long q2), .second, .val (.long q4), .second, .val (.long q6), .second, .val (.int p8), .val (.int (0 : Int32)), .val (.int (0 : Int32)), .val (.int (b2i b3)), .val (.int (b2i b4)), .val (.ref b101), .val (.ref b104), .val (.ref b108), .val (.long ((0 : Int64) + (1 : Int64))), .second, .val (.long (0 : Int64)), .second, .val (.long (0 : Int64)), .second] [(.long (0 : Int64))])) _
        refine XS.lloadN X121.here hx rfl (hb hby at_159) rfl ?_
        show Steps p.tables e below (T121.setTop (mkF m 160 #[.val (.long q0), .second, .val (.long q2), .second, .val (.long q4), .second, .val (.long q6), .second, .val (.int p8), .val (.int (0 : Int32)), .val (.int (0 : Int32)), .val (.int (b2i b3)), .val (.int (b2i b4)), .val (.ref b101), .val (.ref b104), .val (.ref b108), .val (.long ((0 : Int64) + (1 : Int64))), .second, .val (.long (0 : Int64)), .second, .val (.long (0 : Int64)), .second] [(.long q0), (.long (0 : Int64))])) _
        refine XS.ladd X121.here hx rfl (hb hby at_160) rfl ?_
        show Steps p.tables e below (T121.setTop (mkF m 161 #[.val (.long q0), .second, .val (.long q2), .second, .val (.long q4), .second, .val (.long q6), .second, .val (.int p8), .val (.int (0 : Int32)), .val (.int (0 : Int32)), .val (.int (b2i b3)), .val (.int (b2i b4)), .val (.ref b101), .val (.ref b104), .val (.ref b108), .val (.long ((0 : Int64) + (1 : Int64))), .second, .val (.long (0 : Int64)), .second, .val (.long (0 : Int64)), .second] [(.long ((0 : Int64) + q0))])) _
        refine XS.lstore X121.here hx rfl (hb hby at_161) rfl (l' := #[.val (.long q0), .second, .val (.long q2), .second, .val (.long q4), .second, .val (.long q6), .second, .val (.int p8), .val (.int (0 : Int32)), .val (.int (0 : Int32)), .val (.int (b2i b3)), .val (.int (b2i b4)), .val (.ref b101), .val (.ref b104), .val (.ref b108), .val (.long ((0 : Int64) + (1 : Int64))), .second, .val (.long (0 : Int64)), .second, .val (.long ((0 : Int64) + q0)), .second]) rfl ?_
        show Steps p.tables e below (T121.setTop (mkF m 163 #[.val (.long q0), .second, .val (.long q2), .second, .val (.long q4), .second, .val (.long q6), .second, .val (.int p8), .val (.int (0 : Int32)), .val (.int (0 : Int32)), .val (.int (b2i b3)), .val (.int (b2i b4)), .val (.ref b101), .val (.ref b104), .val (.ref b108), .val (.long ((0 : Int64) + (1 : Int64))), .second, .val (.long (0 : Int64)), .second, .val (.long ((0 : Int64) + q0)), .second] [])) _
        refine XS.iload X121.here hx rfl (hb hby at_163) rfl ?_
        show Steps p.tables e below (T121.setTop (mkF m 165 #[.val (.long q0), .second, .val (.long q2), .second, .val (.long q4), .second, .val (.long q6), .second, .val (.int p8), .val (.int (0 : Int32)), .val (.int (0 : Int32)), .val (.int (b2i b3)), .val (.int (b2i b4)), .val (.ref b101), .val (.ref b104), .val (.ref b108), .val (.long ((0 : Int64) + (1 : Int64))), .second, .val (.long (0 : Int64)), .second, .val (.long ((0 : Int64) + q0)), .second] [(.int (0 : Int32))])) _
        refine XS.ifYes X121.here hx rfl (pc0 := 165) (pc' := 177) rfl (hb hby at_165) rfl (own_t (i0_eq _) (by decide)) (by decide) (by decide) ?_
        show Steps p.tables e below (T121.setTop (mkF m 177 #[.val (.long q0), .second, .val (.long q2), .second, .val (.long q4), .second, .val (.long q6), .second, .val (.int p8), .val (.int (0 : Int32)), .val (.int (0 : Int32)), .val (.int (b2i b3)), .val (.int (b2i b4)), .val (.ref b101), .val (.ref b104), .val (.ref b108), .val (.long ((0 : Int64) + (1 : Int64))), .second, .val (.long (0 : Int64)), .second, .val (.long ((0 : Int64) + q0)), .second] [])) _
        refine XS.lload X121.here hx rfl (hb hby at_177) rfl ?_
        show Steps p.tables e below (T121.setTop (mkF m 179 #[.val (.long q0), .second, .val (.long q2), .second, .val (.long q4), .second, .val (.long q6), .second, .val (.int p8), .val (.int (0 : Int32)), .val (.int (0 : Int32)), .val (.int (b2i b3)), .val (.int (b2i b4)), .val (.ref b101), .val (.ref b104), .val (.ref b108), .val (.long ((0 : Int64) + (1 : Int64))), .second, .val (.long (0 : Int64)), .second, .val (.long ((0 : Int64) + q0)), .second] [(.long ((0 : Int64) + (1 : Int64)))])) _
        refine XS.lconst X121.here hx rfl (hb hby at_179) ?_
        show Steps p.tables e below (T121.setTop (mkF m 180 #[.val (.long q0), .second, .val (.long q2), .second, .val (.long q4), .second, .val (.long q6), .second, .val (.int p8), .val (.int (0 : Int32)), .val (.int (0 : Int32)), .val (.int (b2i b3)), .val (.int (b2i b4)), .val (.ref b101), .val (.ref b104), .val (.ref b108), .val (.long ((0 : Int64) + (1 : Int64))), .second, .val (.long (0 : Int64)), .second, .val (.long ((0 : Int64) + q0)), .second] [(.long (1 : Int64)), (.long ((0 : Int64) + (1 : Int64)))])) _
        refine XS.ladd X121.here hx rfl (hb hby at_180) rfl ?_
        show Steps p.tables e below (T121.setTop (mkF m 181 #[.val (.long q0), .second, .val (.long q2), .second, .val (.long q4), .second, .val (.long q6), .second, .val (.int p8), .val (.int (0 : Int32)), .val (.int (0 : Int32)), .val (.int (b2i b3)), .val (.int (b2i b4)), .val (.ref b101), .val (.ref b104), .val (.ref b108), .val (.long ((0 : Int64) + (1 : Int64))), .second, .val (.long (0 : Int64)), .second, .val (.long ((0 : Int64) + q0)), .second] [(.long (((0 : Int64) + (1 : Int64)) + (1 : Int64)))])) _
        refine XS.lstore X121.here hx rfl (hb hby at_181) rfl (l' := #[.val (.long q0), .second, .val (.long q2), .second, .val (.long q4), .second, .val (.long q6), .second, .val (.int p8), .val (.int (0 : Int32)), .val (.int (0 : Int32)), .val (.int (b2i b3)), .val (.int (b2i b4)), .val (.ref b101), .val (.ref b104), .val (.ref b108), .val (.long (((0 : Int64) + (1 : Int64)) + (1 : Int64))), .second, .val (.long (0 : Int64)), .second, .val (.long ((0 : Int64) + q0)), .second]) rfl ?_
        show Steps p.tables e below (T121.setTop (mkF m 183 #[.val (.long q0), .second, .val (.long q2), .second, .val (.long q4), .second, .val (.long q6), .second, .val (.int p8), .val (.int (0 : Int32)), .val (.int (0 : Int32)), .val (.int (b2i b3)), .val (.int (b2i b4)), .val (.ref b101), .val (.ref b104), .val (.ref b108), .val (.long (((0 : Int64) + (1 : Int64)) + (1 : Int64))), .second, .val (.long (0 : Int64)), .second, .val (.long ((0 : Int64) + q0)), .second] [])) _
        refine XS.lload X121.here hx rfl (hb hby at_183) rfl ?_
        show Steps p.tables e below (T121.setTop (mkF m 185 #[.val (.long q0), .second, .val (.long q2), .second, .val (.long q4), .second, .val (.long q6), .second, .val (.int p8), .val (.int (0 : Int32)), .val (.int (0 : Int32)), .val (.int (b2i b3)), .val (.int (b2i b4)), .val (.ref b101), .val (.ref b104), .val (.ref b108), .val (.long (((0 : Int64) + (1 : Int64)) + (1 : Int64))), .second, .val (.long (0 : Int64)), .second, .val (.long ((0 : Int64) + q0)), .second] [(.long ((0 : Int64) + q0))])) _
        refine XS.lloadN X121.here hx rfl (hb hby at_185) rfl ?_
        show Steps p.tables e below (T121.setTop (mkF m 186 #[.val (.long q0), .second, .val (.long q2), .second, .val (.long q4), .second, .val (.long q6), .second, .val (.int p8), .val (.int (0 : Int32)), .val (.int (0 : Int32)), .val (.int (b2i b3)), .val (.int (b2i b4)), .val (.ref b101), .val (.ref b104), .val (.ref b108), .val (.long (((0 : Int64) + (1 : Int64)) + (1 : Int64))), .second, .val (.long (0 : Int64)), .second, .val (.long ((0 : Int64) + q0)), .second] [(.long q2), (.long ((0 : Int64) + q0))])) _
        refine XS.ladd X121.here hx rfl (hb hby at_186) rfl ?_
        show Steps p.tables e below (T121.setTop (mkF m 187 #[.val (.long q0), .second, .val (.long q2), .second, .val (.long q4), .second, .val (.long q6), .second, .val (.int p8), .val (.int (0 : Int32)), .val (.int (0 : Int32)), .val (.int (b2i b3)), .val (.int (b2i b4)), .val (.ref b101), .val (.ref b104), .val (.ref b108), .val (.long (((0 : Int64) + (1 : Int64)) + (1 : Int64))), .second, .val (.long (0 : Int64)), .second, .val (.long ((0 : Int64) + q0)), .second] [(.long (((0 : Int64) + q0) + q2))])) _
        refine XS.lstore X121.here hx rfl (hb hby at_187) rfl (l' := #[.val (.long q0), .second, .val (.long q2), .second, .val (.long q4), .second, .val (.long q6), .second, .val (.int p8), .val (.int (0 : Int32)), .val (.int (0 : Int32)), .val (.int (b2i b3)), .val (.int (b2i b4)), .val (.ref b101), .val (.ref b104), .val (.ref b108), .val (.long (((0 : Int64) + (1 : Int64)) + (1 : Int64))), .second, .val (.long (0 : Int64)), .second, .val (.long (((0 : Int64) + q0) + q2)), .second]) rfl ?_
        show Steps p.tables e below (T121.setTop (mkF m 189 #[.val (.long q0), .second, .val (.long q2), .second, .val (.long q4), .second, .val (.long q6), .second, .val (.int p8), .val (.int (0 : Int32)), .val (.int (0 : Int32)), .val (.int (b2i b3)), .val (.int (b2i b4)), .val (.ref b101), .val (.ref b104), .val (.ref b108), .val (.long (((0 : Int64) + (1 : Int64)) + (1 : Int64))), .second, .val (.long (0 : Int64)), .second, .val (.long (((0 : Int64) + q0) + q2)), .second] [])) _
        refine XS.aload X121.here hx rfl (hb hby at_189) rfl rfl ?_
        exact kt
      have z132 : n0 ≤ T121.heap.size := (Nat.le_trans z130 K121q.1)
      obtain ⟨v131, T131, L131, X131, q131, st131⟩ := own_callV X121 hx hZ (y := (⟨"com/example/stackledger/stackledger/Cleanup$Tally", "cleared", "()J"⟩ : MethodName)) (z := (⟨"com/example/stackledger/stackledger/Cleanup$Tally", "cleared", "()J"⟩ : MethodName)) hown (hw _ (List.mem_of_getElem? (i := 56) rfl)) (hw _ (List.mem_of_getElem? (i := 57) rfl)) (notFace_of_selects (args := #[]) (mvT hZ (hw _ (List.mem_of_getElem? (i := 59) rfl)))) (hw _ (List.mem_of_getElem? (i := 59) rfl)) (hw _ (List.mem_of_getElem? (i := 58) rfl)) (hw _ (List.mem_of_getElem? (i := 35) rfl)) (hw _ (List.mem_of_getElem? (i := 60) rfl)) (by decide) E121q (hM := (rm7 l Z a0 hw [] b108 (((0 : Int64) + (1 : Int64)) + (1 : Int64)) T121.heap n0 z132 A121q)) (by decide) (by decide) (by decide) (by decide) rfl (argsL := []) (rest := []) (Ls := #[.val (.long q0), .second, .val (.long q2), .second, .val (.long q4), .second, .val (.long q6), .second, .val (.int p8), .val (.int (0 : Int32)), .val (.int (0 : Int32)), .val (.int (b2i b3)), .val (.int (b2i b4)), .val (.ref b101), .val (.ref b104), .val (.ref b108), .val (.long (((0 : Int64) + (1 : Int64)) + (1 : Int64))), .second, .val (.long (0 : Int64)), .second, .val (.long (((0 : Int64) + q0) + q2)), .second]) (by rw [hml]; rfl) (lenOf pd___J rfl) (W := 0) (Nat.le_of_eq rfl) (hb hby at_191)
      obtain ⟨rfl, N131q, e131⟩ := q131
      have N131 := Fr.app N121 N131q
      obtain ⟨v133, T133, L133, X133, q133, st133⟩ := own_callV X131 hx hZ (y := (⟨"com/example/stackledger/stackledger/Cleanup$Tally", "skipped", "()J"⟩ : MethodName)) (z := (⟨"com/example/stackledger/stackledger/Cleanup$Tally", "skipped", "()J"⟩ : MethodName)) hown (hw _ (List.mem_of_getElem? (i := 63) rfl)) (hw _ (List.mem_of_getElem? (i := 64) rfl)) (notFace_of_selects (args := #[]) (mvT hZ (hw _ (List.mem_of_getElem? (i := 66) rfl)))) (hw _ (List.mem_of_getElem? (i := 66) rfl)) (hw _ (List.mem_of_getElem? (i := 65) rfl)) (hw _ (List.mem_of_getElem? (i := 35) rfl)) (hw _ (List.mem_of_getElem? (i := 67) rfl)) (by decide) E121q (hM := (rm8 l Z a0 hw [] b108 (0 : Int64) T121.heap n0 z132 B121q)) (by decide) (by decide) (by decide) (by decide) e131 (argsL := []) (rest := []) (Ls := #[.val (.long q0), .second, .val (.long q2), .second, .val (.long q4), .second, .val (.long q6), .second, .val (.int p8), .val (.int (0 : Int32)), .val (.int (0 : Int32)), .val (.int (b2i b3)), .val (.int (b2i b4)), .val (.ref b101), .val (.ref b104), .val (.ref b108), .val (.long (((0 : Int64) + (1 : Int64)) + (1 : Int64))), .second, .val (.long (0 : Int64)), .second, .val (.long (((0 : Int64) + q0) + q2)), .second]) (by rw [hml]; rfl) (lenOf pd___J rfl) (W := 0) (Nat.le_of_eq rfl) (hb hby at_202)
      obtain ⟨rfl, N133q, e133⟩ := q133
      have N133 := Fr.app N131 N133q
      obtain ⟨v134, T134, L134, X134, q134, st134⟩ := own_callV X133 hx hZ (y := (⟨"com/example/stackledger/stackledger/Cleanup$Tally", "balanceCents", "()J"⟩ : MethodName)) (z := (⟨"com/example/stackledger/stackledger/Cleanup$Tally", "balanceCents", "()J"⟩ : MethodName)) hown (hw _ (List.mem_of_getElem? (i := 68) rfl)) (hw _ (List.mem_of_getElem? (i := 69) rfl)) (notFace_of_selects (args := #[]) (mvT hZ (hw _ (List.mem_of_getElem? (i := 71) rfl)))) (hw _ (List.mem_of_getElem? (i := 71) rfl)) (hw _ (List.mem_of_getElem? (i := 70) rfl)) (hw _ (List.mem_of_getElem? (i := 35) rfl)) (hw _ (List.mem_of_getElem? (i := 72) rfl)) (by decide) E121q (hM := (rm9 l Z a0 hw [] b108 (((0 : Int64) + q0) + q2) T121.heap n0 z132 C121q)) (by decide) (by decide) (by decide) (by decide) e133 (argsL := []) (rest := []) (Ls := #[.val (.long q0), .second, .val (.long q2), .second, .val (.long q4), .second, .val (.long q6), .second, .val (.int p8), .val (.int (0 : Int32)), .val (.int (0 : Int32)), .val (.int (b2i b3)), .val (.int (b2i b4)), .val (.ref b101), .val (.ref b104), .val (.ref b108), .val (.long (((0 : Int64) + (1 : Int64)) + (1 : Int64))), .second, .val (.long (0 : Int64)), .second, .val (.long (((0 : Int64) + q0) + q2)), .second]) (by rw [hml]; rfl) (lenOf pd___J rfl) (W := 0) (Nat.le_of_eq rfl) (hb hby at_213)
      obtain ⟨rfl, N134q, e134⟩ := q134
      have N134 := Fr.app N133 N134q
      refine Gl.fin X134 (v := some (.int (1 : Int32))) (fun h => by rw [Bd.returns] at h; cases h) Bd.notSynchronized ?_ e134 (by decide) (by decide) (fun fs hr => ?_)
      · exact ⟨rfl, N134⟩
      · show Steps p.tables e below (T121.setTop (mkF m 191 #[.val (.long q0), .second, .val (.long q2), .second, .val (.long q4), .second, .val (.long q6), .second, .val (.int p8), .val (.int (0 : Int32)), .val (.int (0 : Int32)), .val (.int (b2i b3)), .val (.int (b2i b4)), .val (.ref b101), .val (.ref b104), .val (.ref b108), .val (.long (((0 : Int64) + (1 : Int64)) + (1 : Int64))), .second, .val (.long (0 : Int64)), .second, .val (.long (((0 : Int64) + q0) + q2)), .second] [(.ref b108)])) _
        refine st131 _ ?_
        show Steps p.tables e below (T131.setTop (mkF m 194 #[.val (.long q0), .second, .val (.long q2), .second, .val (.long q4), .second, .val (.long q6), .second, .val (.int p8), .val (.int (0 : Int32)), .val (.int (0 : Int32)), .val (.int (b2i b3)), .val (.int (b2i b4)), .val (.ref b101), .val (.ref b104), .val (.ref b108), .val (.long (((0 : Int64) + (1 : Int64)) + (1 : Int64))), .second, .val (.long (0 : Int64)), .second, .val (.long (((0 : Int64) + q0) + q2)), .second] [(.long (((0 : Int64) + (1 : Int64)) + (1 : Int64)))])) _
        refine XS.lload X131.here hx rfl (hb hby at_194) rfl ?_
        show Steps p.tables e below (T131.setTop (mkF m 196 #[.val (.long q0), .second, .val (.long q2), .second, .val (.long q4), .second, .val (.long q6), .second, .val (.int p8), .val (.int (0 : Int32)), .val (.int (0 : Int32)), .val (.int (b2i b3)), .val (.int (b2i b4)), .val (.ref b101), .val (.ref b104), .val (.ref b108), .val (.long (((0 : Int64) + (1 : Int64)) + (1 : Int64))), .second, .val (.long (0 : Int64)), .second, .val (.long (((0 : Int64) + q0) + q2)), .second] [(.long (((0 : Int64) + (1 : Int64)) + (1 : Int64))), (.long (((0 : Int64) + (1 : Int64)) + (1 : Int64)))])) _
        refine XS.lcmp X131.here hx rfl (hb hby at_196) rfl ?_
        show Steps p.tables e below (T131.setTop (mkF m 197 #[.val (.long q0), .second, .val (.long q2), .second, .val (.long q4), .second, .val (.long q6), .second, .val (.int p8), .val (.int (0 : Int32)), .val (.int (0 : Int32)), .val (.int (b2i b3)), .val (.int (b2i b4)), .val (.ref b101), .val (.ref b104), .val (.ref b108), .val (.long (((0 : Int64) + (1 : Int64)) + (1 : Int64))), .second, .val (.long (0 : Int64)), .second, .val (.long (((0 : Int64) + q0) + q2)), .second] [(.int (lcmpW (((0 : Int64) + (1 : Int64)) + (1 : Int64)) (((0 : Int64) + (1 : Int64)) + (1 : Int64))))])) _
        refine XS.ifNo X131.here hx rfl (hb hby at_197) rfl (own_nf (l0_ne _ _) rfl) ?_
        show Steps p.tables e below (T131.setTop (mkF m 200 #[.val (.long q0), .second, .val (.long q2), .second, .val (.long q4), .second, .val (.long q6), .second, .val (.int p8), .val (.int (0 : Int32)), .val (.int (0 : Int32)), .val (.int (b2i b3)), .val (.int (b2i b4)), .val (.ref b101), .val (.ref b104), .val (.ref b108), .val (.long (((0 : Int64) + (1 : Int64)) + (1 : Int64))), .second, .val (.long (0 : Int64)), .second, .val (.long (((0 : Int64) + q0) + q2)), .second] [])) _
        refine XS.aload X131.here hx rfl (hb hby at_200) rfl rfl ?_
        show Steps p.tables e below (T131.setTop (mkF m 202 #[.val (.long q0), .second, .val (.long q2), .second, .val (.long q4), .second, .val (.long q6), .second, .val (.int p8), .val (.int (0 : Int32)), .val (.int (0 : Int32)), .val (.int (b2i b3)), .val (.int (b2i b4)), .val (.ref b101), .val (.ref b104), .val (.ref b108), .val (.long (((0 : Int64) + (1 : Int64)) + (1 : Int64))), .second, .val (.long (0 : Int64)), .second, .val (.long (((0 : Int64) + q0) + q2)), .second] [(.ref b108)])) _
        refine st133 _ ?_
        show Steps p.tables e below (T133.setTop (mkF m 205 #[.val (.long q0), .second, .val (.long q2), .second, .val (.long q4), .second, .val (.long q6), .second, .val (.int p8), .val (.int (0 : Int32)), .val (.int (0 : Int32)), .val (.int (b2i b3)), .val (.int (b2i b4)), .val (.ref b101), .val (.ref b104), .val (.ref b108), .val (.long (((0 : Int64) + (1 : Int64)) + (1 : Int64))), .second, .val (.long (0 : Int64)), .second, .val (.long (((0 : Int64) + q0) + q2)), .second] [(.long (0 : Int64))])) _
        refine XS.lload X133.here hx rfl (hb hby at_205) rfl ?_
        show Steps p.tables e below (T133.setTop (mkF m 207 #[.val (.long q0), .second, .val (.long q2), .second, .val (.long q4), .second, .val (.long q6), .second, .val (.int p8), .val (.int (0 : Int32)), .val (.int (0 : Int32)), .val (.int (b2i b3)), .val (.int (b2i b4)), .val (.ref b101), .val (.ref b104), .val (.ref b108), .val (.long (((0 : Int64) + (1 : Int64)) + (1 : Int64))), .second, .val (.long (0 : Int64)), .second, .val (.long (((0 : Int64) + q0) + q2)), .second] [(.long (0 : Int64)), (.long (0 : Int64))])) _
        refine XS.lcmp X133.here hx rfl (hb hby at_207) rfl ?_
        show Steps p.tables e below (T133.setTop (mkF m 208 #[.val (.long q0), .second, .val (.long q2), .second, .val (.long q4), .second, .val (.long q6), .second, .val (.int p8), .val (.int (0 : Int32)), .val (.int (0 : Int32)), .val (.int (b2i b3)), .val (.int (b2i b4)), .val (.ref b101), .val (.ref b104), .val (.ref b108), .val (.long (((0 : Int64) + (1 : Int64)) + (1 : Int64))), .second, .val (.long (0 : Int64)), .second, .val (.long (((0 : Int64) + q0) + q2)), .second] [(.int (lcmpW (0 : Int64) (0 : Int64)))])) _
        refine XS.ifNo X133.here hx rfl (hb hby at_208) rfl (own_nf (l0_ne _ _) rfl) ?_
        show Steps p.tables e below (T133.setTop (mkF m 211 #[.val (.long q0), .second, .val (.long q2), .second, .val (.long q4), .second, .val (.long q6), .second, .val (.int p8), .val (.int (0 : Int32)), .val (.int (0 : Int32)), .val (.int (b2i b3)), .val (.int (b2i b4)), .val (.ref b101), .val (.ref b104), .val (.ref b108), .val (.long (((0 : Int64) + (1 : Int64)) + (1 : Int64))), .second, .val (.long (0 : Int64)), .second, .val (.long (((0 : Int64) + q0) + q2)), .second] [])) _
        refine XS.aload X133.here hx rfl (hb hby at_211) rfl rfl ?_
        show Steps p.tables e below (T133.setTop (mkF m 213 #[.val (.long q0), .second, .val (.long q2), .second, .val (.long q4), .second, .val (.long q6), .second, .val (.int p8), .val (.int (0 : Int32)), .val (.int (0 : Int32)), .val (.int (b2i b3)), .val (.int (b2i b4)), .val (.ref b101), .val (.ref b104), .val (.ref b108), .val (.long (((0 : Int64) + (1 : Int64)) + (1 : Int64))), .second, .val (.long (0 : Int64)), .second, .val (.long (((0 : Int64) + q0) + q2)), .second] [(.ref b108)])) _
        refine st134 _ ?_
        show Steps p.tables e below (T134.setTop (mkF m 216 #[.val (.long q0), .second, .val (.long q2), .second, .val (.long q4), .second, .val (.long q6), .second, .val (.int p8), .val (.int (0 : Int32)), .val (.int (0 : Int32)), .val (.int (b2i b3)), .val (.int (b2i b4)), .val (.ref b101), .val (.ref b104), .val (.ref b108), .val (.long (((0 : Int64) + (1 : Int64)) + (1 : Int64))), .second, .val (.long (0 : Int64)), .second, .val (.long (((0 : Int64) + q0) + q2)), .second] [(.long (((0 : Int64) + q0) + q2))])) _
        refine XS.lload X134.here hx rfl (hb hby at_216) rfl ?_
        show Steps p.tables e below (T134.setTop (mkF m 218 #[.val (.long q0), .second, .val (.long q2), .second, .val (.long q4), .second, .val (.long q6), .second, .val (.int p8), .val (.int (0 : Int32)), .val (.int (0 : Int32)), .val (.int (b2i b3)), .val (.int (b2i b4)), .val (.ref b101), .val (.ref b104), .val (.ref b108), .val (.long (((0 : Int64) + (1 : Int64)) + (1 : Int64))), .second, .val (.long (0 : Int64)), .second, .val (.long (((0 : Int64) + q0) + q2)), .second] [(.long (((0 : Int64) + q0) + q2)), (.long (((0 : Int64) + q0) + q2))])) _
        refine XS.lcmp X134.here hx rfl (hb hby at_218) rfl ?_
        show Steps p.tables e below (T134.setTop (mkF m 219 #[.val (.long q0), .second, .val (.long q2), .second, .val (.long q4), .second, .val (.long q6), .second, .val (.int p8), .val (.int (0 : Int32)), .val (.int (0 : Int32)), .val (.int (b2i b3)), .val (.int (b2i b4)), .val (.ref b101), .val (.ref b104), .val (.ref b108), .val (.long (((0 : Int64) + (1 : Int64)) + (1 : Int64))), .second, .val (.long (0 : Int64)), .second, .val (.long (((0 : Int64) + q0) + q2)), .second] [(.int (lcmpW (((0 : Int64) + q0) + q2) (((0 : Int64) + q0) + q2)))])) _
        refine XS.ifNo X134.here hx rfl (hb hby at_219) rfl (own_nf (l0_ne _ _) rfl) ?_
        show Steps p.tables e below (T134.setTop (mkF m 222 #[.val (.long q0), .second, .val (.long q2), .second, .val (.long q4), .second, .val (.long q6), .second, .val (.int p8), .val (.int (0 : Int32)), .val (.int (0 : Int32)), .val (.int (b2i b3)), .val (.int (b2i b4)), .val (.ref b101), .val (.ref b104), .val (.ref b108), .val (.long (((0 : Int64) + (1 : Int64)) + (1 : Int64))), .second, .val (.long (0 : Int64)), .second, .val (.long (((0 : Int64) + q0) + q2)), .second] [])) _
        refine XS.iconst X134.here hx rfl (hb hby at_222) ?_
        show Steps p.tables e below (T134.setTop (mkF m 223 #[.val (.long q0), .second, .val (.long q2), .second, .val (.long q4), .second, .val (.long q6), .second, .val (.int p8), .val (.int (0 : Int32)), .val (.int (0 : Int32)), .val (.int (b2i b3)), .val (.int (b2i b4)), .val (.ref b101), .val (.ref b104), .val (.ref b108), .val (.long (((0 : Int64) + (1 : Int64)) + (1 : Int64))), .second, .val (.long (0 : Int64)), .second, .val (.long (((0 : Int64) + q0) + q2)), .second] [(.int (1 : Int32))])) _
        refine XS.goto X134.here hx rfl (pc0 := 223) (pc' := 227) rfl (hb hby at_223) (by decide) (by decide) ?_
        show Steps p.tables e below (T134.setTop (mkF m 227 #[.val (.long q0), .second, .val (.long q2), .second, .val (.long q4), .second, .val (.long q6), .second, .val (.int p8), .val (.int (0 : Int32)), .val (.int (0 : Int32)), .val (.int (b2i b3)), .val (.int (b2i b4)), .val (.ref b101), .val (.ref b104), .val (.ref b108), .val (.long (((0 : Int64) + (1 : Int64)) + (1 : Int64))), .second, .val (.long (0 : Int64)), .second, .val (.long (((0 : Int64) + q0) + q2)), .second] [(.int (1 : Int32))])) _
        exact retN X134 hx (t := .boolean) Bd.returns (by simp) (hb hby at_227) hr
    · refine Gl.pre (S' := s₁.setTop (mkF m 32 #[.val (.long q0), .second, .val (.long q2), .second, .val (.long q4), .second, .val (.long q6), .second, .val (.int p8), .val (.int (0 : Int32)), .val (.int (1 : Int32)), .unset, .unset, .unset, .unset, .unset, .unset, .unset, .unset, .unset, .unset, .unset] [(.int (p8 &&& (4 : Int32)))])) (fun t kt => ?_) ?_
      · show Steps p.tables e below (s₁.setTop (mkF m 18 #[.val (.long q0), .second, .val (.long q2), .second, .val (.long q4), .second, .val (.long q6), .second, .val (.int p8), .val (.int (0 : Int32)), .unset, .unset, .unset, .unset, .unset, .unset, .unset, .unset, .unset, .unset, .unset, .unset] [(.int (p8 &&& (2 : Int32)))])) _
        refine XS.ifNo X0.here hx rfl (hb hby at_18) rfl (own_f (i0_eq _) hc18) ?_
        show Steps p.tables e below (s₁.setTop (mkF m 21 #[.val (.long q0), .second, .val (.long q2), .second, .val (.long q4), .second, .val (.long q6), .second, .val (.int p8), .val (.int (0 : Int32)), .unset, .unset, .unset, .unset, .unset, .unset, .unset, .unset, .unset, .unset, .unset, .unset] [])) _
        refine XS.iconst X0.here hx rfl (hb hby at_21) ?_
        show Steps p.tables e below (s₁.setTop (mkF m 22 #[.val (.long q0), .second, .val (.long q2), .second, .val (.long q4), .second, .val (.long q6), .second, .val (.int p8), .val (.int (0 : Int32)), .unset, .unset, .unset, .unset, .unset, .unset, .unset, .unset, .unset, .unset, .unset, .unset] [(.int (1 : Int32))])) _
        refine XS.goto X0.here hx rfl (pc0 := 22) (pc' := 26) rfl (hb hby at_22) (by decide) (by decide) ?_
        show Steps p.tables e below (s₁.setTop (mkF m 26 #[.val (.long q0), .second, .val (.long q2), .second, .val (.long q4), .second, .val (.long q6), .second, .val (.int p8), .val (.int (0 : Int32)), .unset, .unset, .unset, .unset, .unset, .unset, .unset, .unset, .unset, .unset, .unset, .unset] [(.int (1 : Int32))])) _
        refine XS.istore X0.here hx rfl (hb hby at_26) rfl (l' := #[.val (.long q0), .second, .val (.long q2), .second, .val (.long q4), .second, .val (.long q6), .second, .val (.int p8), .val (.int (0 : Int32)), .val (.int (1 : Int32)), .unset, .unset, .unset, .unset, .unset, .unset, .unset, .unset, .unset, .unset, .unset]) rfl ?_
        show Steps p.tables e below (s₁.setTop (mkF m 28 #[.val (.long q0), .second, .val (.long q2), .second, .val (.long q4), .second, .val (.long q6), .second, .val (.int p8), .val (.int (0 : Int32)), .val (.int (1 : Int32)), .unset, .unset, .unset, .unset, .unset, .unset, .unset, .unset, .unset, .unset, .unset] [])) _
        refine XS.iload X0.here hx rfl (hb hby at_28) rfl ?_
        show Steps p.tables e below (s₁.setTop (mkF m 30 #[.val (.long q0), .second, .val (.long q2), .second, .val (.long q4), .second, .val (.long q6), .second, .val (.int p8), .val (.int (0 : Int32)), .val (.int (1 : Int32)), .unset, .unset, .unset, .unset, .unset, .unset, .unset, .unset, .unset, .unset, .unset] [(.int p8)])) _
        refine XS.iconst X0.here hx rfl (hb hby at_30) ?_
        show Steps p.tables e below (s₁.setTop (mkF m 31 #[.val (.long q0), .second, .val (.long q2), .second, .val (.long q4), .second, .val (.long q6), .second, .val (.int p8), .val (.int (0 : Int32)), .val (.int (1 : Int32)), .unset, .unset, .unset, .unset, .unset, .unset, .unset, .unset, .unset, .unset, .unset] [(.int (4 : Int32)), (.int p8)])) _
        refine XS.iand X0.here hx rfl (hb hby at_31) rfl ?_
        exact kt
      refine Gl.pre (S' := s₁.setTop (mkF m 40 #[.val (.long q0), .second, .val (.long q2), .second, .val (.long q4), .second, .val (.long q6), .second, .val (.int p8), .val (.int (0 : Int32)), .val (.int (1 : Int32)), .unset, .unset, .unset, .unset, .unset, .unset, .unset, .unset, .unset, .unset, .unset] [(.int (b2i (decide (¬ (p8 &&& (4 : Int32)) = (0 : Int32)))))])) (fun t kt => ?_) ?_
      · by_cases hc32 : (p8 &&& (4 : Int32)) = (0 : Int32)
        · show Steps p.tables e below (s₁.setTop (mkF m 32 #[.val (.long q0), .second, .val (.long q2), .second, .val (.long q4), .second, .val (.long q6), .second, .val (.int p8), .val (.int (0 : Int32)), .val (.int (1 : Int32)), .unset, .unset, .unset, .unset, .unset, .unset, .unset, .unset, .unset, .unset, .unset] [(.int (p8 &&& (4 : Int32)))])) _
          refine XS.ifYes X0.here hx rfl (pc0 := 32) (pc' := 39) rfl (hb hby at_32) rfl (own_t (i0_eq _) hc32) (by decide) (by decide) ?_
          show Steps p.tables e below (s₁.setTop (mkF m 39 #[.val (.long q0), .second, .val (.long q2), .second, .val (.long q4), .second, .val (.long q6), .second, .val (.int p8), .val (.int (0 : Int32)), .val (.int (1 : Int32)), .unset, .unset, .unset, .unset, .unset, .unset, .unset, .unset, .unset, .unset, .unset] [])) _
          refine XS.iconst X0.here hx rfl (hb hby at_39) ?_
          rw [(by simp [b2i, hc32] : (b2i (decide (¬ (p8 &&& (4 : Int32)) = (0 : Int32)))) = (0 : Int32))] at kt
          exact kt
        · show Steps p.tables e below (s₁.setTop (mkF m 32 #[.val (.long q0), .second, .val (.long q2), .second, .val (.long q4), .second, .val (.long q6), .second, .val (.int p8), .val (.int (0 : Int32)), .val (.int (1 : Int32)), .unset, .unset, .unset, .unset, .unset, .unset, .unset, .unset, .unset, .unset, .unset] [(.int (p8 &&& (4 : Int32)))])) _
          refine XS.ifNo X0.here hx rfl (hb hby at_32) rfl (own_f (i0_eq _) hc32) ?_
          show Steps p.tables e below (s₁.setTop (mkF m 35 #[.val (.long q0), .second, .val (.long q2), .second, .val (.long q4), .second, .val (.long q6), .second, .val (.int p8), .val (.int (0 : Int32)), .val (.int (1 : Int32)), .unset, .unset, .unset, .unset, .unset, .unset, .unset, .unset, .unset, .unset, .unset] [])) _
          refine XS.iconst X0.here hx rfl (hb hby at_35) ?_
          show Steps p.tables e below (s₁.setTop (mkF m 36 #[.val (.long q0), .second, .val (.long q2), .second, .val (.long q4), .second, .val (.long q6), .second, .val (.int p8), .val (.int (0 : Int32)), .val (.int (1 : Int32)), .unset, .unset, .unset, .unset, .unset, .unset, .unset, .unset, .unset, .unset, .unset] [(.int (1 : Int32))])) _
          refine XS.goto X0.here hx rfl (pc0 := 36) (pc' := 40) rfl (hb hby at_36) (by decide) (by decide) ?_
          rw [(by simp [b2i, hc32] : (b2i (decide (¬ (p8 &&& (4 : Int32)) = (0 : Int32)))) = (1 : Int32))] at kt
          exact kt
      obtain ⟨b3, h_b3⟩ : ∃ z : Bool, z = (decide (¬ (p8 &&& (4 : Int32)) = (0 : Int32))) := ⟨_, rfl⟩
      rw [← h_b3]
      refine Gl.pre (S' := s₁.setTop (mkF m 47 #[.val (.long q0), .second, .val (.long q2), .second, .val (.long q4), .second, .val (.long q6), .second, .val (.int p8), .val (.int (0 : Int32)), .val (.int (1 : Int32)), .val (.int (b2i b3)), .unset, .unset, .unset, .unset, .unset, .unset, .unset, .unset, .unset, .unset] [(.int (p8 &&& (8 : Int32)))])) (fun t kt => ?_) ?_
      · show Steps p.tables e below (s₁.setTop (mkF m 40 #[.val (.long q0), .second, .val (.long q2), .second, .val (.long q4), .second, .val (.long q6), .second, .val (.int p8), .val (.int (0 : Int32)), .val (.int (1 : Int32)), .unset, .unset, .unset, .unset, .unset, .unset, .unset, .unset, .unset, .unset, .unset] [(.int (b2i b3))])) _
        refine XS.istore X0.here hx rfl (hb hby at_40) rfl (l' := #[.val (.long q0), .second, .val (.long q2), .second, .val (.long q4), .second, .val (.long q6), .second, .val (.int p8), .val (.int (0 : Int32)), .val (.int (1 : Int32)), .val (.int (b2i b3)), .unset, .unset, .unset, .unset, .unset, .unset, .unset, .unset, .unset, .unset]) rfl ?_
        show Steps p.tables e below (s₁.setTop (mkF m 42 #[.val (.long q0), .second, .val (.long q2), .second, .val (.long q4), .second, .val (.long q6), .second, .val (.int p8), .val (.int (0 : Int32)), .val (.int (1 : Int32)), .val (.int (b2i b3)), .unset, .unset, .unset, .unset, .unset, .unset, .unset, .unset, .unset, .unset] [])) _
        refine XS.iload X0.here hx rfl (hb hby at_42) rfl ?_
        show Steps p.tables e below (s₁.setTop (mkF m 44 #[.val (.long q0), .second, .val (.long q2), .second, .val (.long q4), .second, .val (.long q6), .second, .val (.int p8), .val (.int (0 : Int32)), .val (.int (1 : Int32)), .val (.int (b2i b3)), .unset, .unset, .unset, .unset, .unset, .unset, .unset, .unset, .unset, .unset] [(.int p8)])) _
        refine XS.bipush X0.here hx rfl (hb hby at_44) ?_
        show Steps p.tables e below (s₁.setTop (mkF m 46 #[.val (.long q0), .second, .val (.long q2), .second, .val (.long q4), .second, .val (.long q6), .second, .val (.int p8), .val (.int (0 : Int32)), .val (.int (1 : Int32)), .val (.int (b2i b3)), .unset, .unset, .unset, .unset, .unset, .unset, .unset, .unset, .unset, .unset] [(.int (8 : Int32)), (.int p8)])) _
        refine XS.iand X0.here hx rfl (hb hby at_46) rfl ?_
        exact kt
      refine Gl.pre (S' := s₁.setTop (mkF m 55 #[.val (.long q0), .second, .val (.long q2), .second, .val (.long q4), .second, .val (.long q6), .second, .val (.int p8), .val (.int (0 : Int32)), .val (.int (1 : Int32)), .val (.int (b2i b3)), .unset, .unset, .unset, .unset, .unset, .unset, .unset, .unset, .unset, .unset] [(.int (b2i (decide (¬ (p8 &&& (8 : Int32)) = (0 : Int32)))))])) (fun t kt => ?_) ?_
      · by_cases hc47 : (p8 &&& (8 : Int32)) = (0 : Int32)
        · show Steps p.tables e below (s₁.setTop (mkF m 47 #[.val (.long q0), .second, .val (.long q2), .second, .val (.long q4), .second, .val (.long q6), .second, .val (.int p8), .val (.int (0 : Int32)), .val (.int (1 : Int32)), .val (.int (b2i b3)), .unset, .unset, .unset, .unset, .unset, .unset, .unset, .unset, .unset, .unset] [(.int (p8 &&& (8 : Int32)))])) _
          refine XS.ifYes X0.here hx rfl (pc0 := 47) (pc' := 54) rfl (hb hby at_47) rfl (own_t (i0_eq _) hc47) (by decide) (by decide) ?_
          show Steps p.tables e below (s₁.setTop (mkF m 54 #[.val (.long q0), .second, .val (.long q2), .second, .val (.long q4), .second, .val (.long q6), .second, .val (.int p8), .val (.int (0 : Int32)), .val (.int (1 : Int32)), .val (.int (b2i b3)), .unset, .unset, .unset, .unset, .unset, .unset, .unset, .unset, .unset, .unset] [])) _
          refine XS.iconst X0.here hx rfl (hb hby at_54) ?_
          rw [(by simp [b2i, hc47] : (b2i (decide (¬ (p8 &&& (8 : Int32)) = (0 : Int32)))) = (0 : Int32))] at kt
          exact kt
        · show Steps p.tables e below (s₁.setTop (mkF m 47 #[.val (.long q0), .second, .val (.long q2), .second, .val (.long q4), .second, .val (.long q6), .second, .val (.int p8), .val (.int (0 : Int32)), .val (.int (1 : Int32)), .val (.int (b2i b3)), .unset, .unset, .unset, .unset, .unset, .unset, .unset, .unset, .unset, .unset] [(.int (p8 &&& (8 : Int32)))])) _
          refine XS.ifNo X0.here hx rfl (hb hby at_47) rfl (own_f (i0_eq _) hc47) ?_
          show Steps p.tables e below (s₁.setTop (mkF m 50 #[.val (.long q0), .second, .val (.long q2), .second, .val (.long q4), .second, .val (.long q6), .second, .val (.int p8), .val (.int (0 : Int32)), .val (.int (1 : Int32)), .val (.int (b2i b3)), .unset, .unset, .unset, .unset, .unset, .unset, .unset, .unset, .unset, .unset] [])) _
          refine XS.iconst X0.here hx rfl (hb hby at_50) ?_
          show Steps p.tables e below (s₁.setTop (mkF m 51 #[.val (.long q0), .second, .val (.long q2), .second, .val (.long q4), .second, .val (.long q6), .second, .val (.int p8), .val (.int (0 : Int32)), .val (.int (1 : Int32)), .val (.int (b2i b3)), .unset, .unset, .unset, .unset, .unset, .unset, .unset, .unset, .unset, .unset] [(.int (1 : Int32))])) _
          refine XS.goto X0.here hx rfl (pc0 := 51) (pc' := 55) rfl (hb hby at_51) (by decide) (by decide) ?_
          rw [(by simp [b2i, hc47] : (b2i (decide (¬ (p8 &&& (8 : Int32)) = (0 : Int32)))) = (1 : Int32))] at kt
          exact kt
      obtain ⟨b4, h_b4⟩ : ∃ z : Bool, z = (decide (¬ (p8 &&& (8 : Int32)) = (0 : Int32))) := ⟨_, rfl⟩
      rw [← h_b4]
      obtain ⟨T135, h135, X135, e135, E135, A135, D135, -, st135⟩ := newO X0 hx hZ hown (hw _ (List.mem_of_getElem? (i := 0) rfl)) (hw _ (List.mem_of_getElem? (i := 1) rfl)) (hw _ (List.mem_of_getElem? (i := 2) rfl)) e0 (g := (mkF m 57 #[.val (.long q0), .second, .val (.long q2), .second, .val (.long q4), .second, .val (.long q6), .second, .val (.int p8), .val (.int (0 : Int32)), .val (.int (1 : Int32)), .val (.int (b2i b3)), .val (.int (b2i b4)), .unset, .unset, .unset, .unset, .unset, .unset, .unset, .unset, .unset] [])) rfl (hb hby at_57) (by decide) (by decide)
      obtain ⟨b135, g135⟩ : ∃ z, z = h0.size := ⟨_, rfl⟩
      have g_b135 : n0 ≤ b135 := Nat.le_trans Z0 (Nat.le_of_eq g135.symm)
      have sz_b135 : h0.size ≤ b135 := Nat.le_trans K0.1 (Nat.le_of_eq g135.symm)
      rw [← g135] at A135 D135 st135
      have K135 : Keep h0 h135 [] := K0.ext E135
      have F_transaction_b135 : Fld Z h135 b135 "com/example/stackledger/stackledger/Cleanup$Chosen" "transaction" "J" (.long (0 : Int64)) := D135 (Or.inr (hw _ (List.mem_of_getElem? (i := 16) rfl))) (ty := .long) (by decide)
      have F_patron_b135 : Fld Z h135 b135 "com/example/stackledger/stackledger/Cleanup$Chosen" "patron" "J" (.long (0 : Int64)) := D135 (Or.inr (hw _ (List.mem_of_getElem? (i := 18) rfl))) (ty := .long) (by decide)
      have F_org_b135 : Fld Z h135 b135 "com/example/stackledger/stackledger/Cleanup$Chosen" "org" "Ljava/lang/String;" .null := D135 (Or.inr (hw _ (List.mem_of_getElem? (i := 20) rfl))) (ty := (.object "java/lang/String")) (by decide)
      have F_startedAt_b135 : Fld Z h135 b135 "com/example/stackledger/stackledger/Cleanup$Chosen" "startedAt" "J" (.long (0 : Int64)) := D135 (Or.inr (hw _ (List.mem_of_getElem? (i := 22) rfl))) (ty := .long) (by decide)
      have F_finished_b135 : Fld Z h135 b135 "com/example/stackledger/stackledger/Cleanup$Chosen" "finished" "Z" (.int (0 : Int32)) := D135 (Or.inr (hw _ (List.mem_of_getElem? (i := 24) rfl))) (ty := .boolean) (by decide)
      have F_totalPaidCents_b135 : Fld Z h135 b135 "com/example/stackledger/stackledger/Cleanup$Chosen" "totalPaidCents" "J" (.long (0 : Int64)) := D135 (Or.inr (hw _ (List.mem_of_getElem? (i := 26) rfl))) (ty := .long) (by decide)
      have F_balanceCents_b135 : Fld Z h135 b135 "com/example/stackledger/stackledger/Cleanup$Chosen" "balanceCents" "J" (.long (0 : Int64)) := D135 (Or.inr (hw _ (List.mem_of_getElem? (i := 28) rfl))) (ty := .long) (by decide)
      have F_lost_b135 : Fld Z h135 b135 "com/example/stackledger/stackledger/Cleanup$Chosen" "lost" "Z" (.int (0 : Int32)) := D135 (Or.inr (hw _ (List.mem_of_getElem? (i := 30) rfl))) (ty := .boolean) (by decide)
      have z137 : n0 ≤ h135.size := (Nat.le_trans Z0 E135.1)
      obtain ⟨v136, T136, L136, X136, q136, st136⟩ := own_callI X135 hx hZ (y := (⟨"com/example/stackledger/stackledger/Cleanup$Chosen", "<init>", "(JJLjava/lang/String;JZJJZ)V"⟩ : MethodName)) rfl hown (hw _ (List.mem_of_getElem? (i := 4) rfl)) (hw _ (List.mem_of_getElem? (i := 5) rfl)) (hw _ (List.mem_of_getElem? (i := 2) rfl)) (hw _ (List.mem_of_getElem? (i := 6) rfl)) (by decide) (a := b135) (hM := (rm1 l Z a0 hw [] b135 (1 : Int64) (2 : Int64) q6 q4 q0 b3 false h135 n0 z137 g_b135 A135 F_transaction_b135 F_patron_b135 F_org_b135 F_startedAt_b135 F_finished_b135 F_totalPaidCents_b135 F_balanceCents_b135 F_lost_b135)) (by decide) (by decide) (by decide) (by decide) e135 (argsL := [(.long (1 : Int64)), (.long (2 : Int64)), .null, (.long q6), (.int (b2i b3)), (.long q4), (.long q0), (.int (0 : Int32))]) (rest := [(.ref b135)]) (Ls := #[.val (.long q0), .second, .val (.long q2), .second, .val (.long q4), .second, .val (.long q6), .second, .val (.int p8), .val (.int (0 : Int32)), .val (.int (1 : Int32)), .val (.int (b2i b3)), .val (.int (b2i b4)), .unset, .unset, .unset, .unset, .unset, .unset, .unset, .unset, .unset]) (by rw [hml]; rfl) (lenOf pd__JJLjava_lang_String_JZJJZ_V rfl) (W := 1) (Nat.le_of_eq rfl) (hb hby at_75)
      obtain ⟨rfl, N136q, K136q, E136q, P136q, B136q, O136q⟩ := q136
      have N136 := Fr.app N0 N136q
      have K136 : Keep h0 T136.heap [] := K135.trans K136q (allS (Or.inr sz_b135) all0)
      obtain ⟨T138, h138, X138, e138, E138, A138, D138, -, st138⟩ := newO X136 hx hZ hown (hw _ (List.mem_of_getElem? (i := 0) rfl)) (hw _ (List.mem_of_getElem? (i := 1) rfl)) (hw _ (List.mem_of_getElem? (i := 2) rfl)) rfl (g := (mkF m 80 #[.val (.long q0), .second, .val (.long q2), .second, .val (.long q4), .second, .val (.long q6), .second, .val (.int p8), .val (.int (0 : Int32)), .val (.int (1 : Int32)), .val (.int (b2i b3)), .val (.int (b2i b4)), .val (.ref b135), .unset, .unset, .unset, .unset, .unset, .unset, .unset, .unset] [])) rfl (hb hby at_80) (by decide) (by decide)
      obtain ⟨b138, g138⟩ : ∃ z, z = T136.heap.size := ⟨_, rfl⟩
      have z139 : n0 ≤ T136.heap.size := (Nat.le_trans z137 K136q.1)
      have g_b138 : n0 ≤ b138 := Nat.le_trans z139 (Nat.le_of_eq g138.symm)
      have sz_b138 : h0.size ≤ b138 := Nat.le_trans K136.1 (Nat.le_of_eq g138.symm)
      rw [← g138] at A138 D138 st138
      have K138 : Keep h0 h138 [] := K136.ext E138
      have F_transaction_b138 : Fld Z h138 b138 "com/example/stackledger/stackledger/Cleanup$Chosen" "transaction" "J" (.long (0 : Int64)) := D138 (Or.inr (hw _ (List.mem_of_getElem? (i := 16) rfl))) (ty := .long) (by decide)
      have F_patron_b138 : Fld Z h138 b138 "com/example/stackledger/stackledger/Cleanup$Chosen" "patron" "J" (.long (0 : Int64)) := D138 (Or.inr (hw _ (List.mem_of_getElem? (i := 18) rfl))) (ty := .long) (by decide)
      have F_org_b138 : Fld Z h138 b138 "com/example/stackledger/stackledger/Cleanup$Chosen" "org" "Ljava/lang/String;" .null := D138 (Or.inr (hw _ (List.mem_of_getElem? (i := 20) rfl))) (ty := (.object "java/lang/String")) (by decide)
      have F_startedAt_b138 : Fld Z h138 b138 "com/example/stackledger/stackledger/Cleanup$Chosen" "startedAt" "J" (.long (0 : Int64)) := D138 (Or.inr (hw _ (List.mem_of_getElem? (i := 22) rfl))) (ty := .long) (by decide)
      have F_finished_b138 : Fld Z h138 b138 "com/example/stackledger/stackledger/Cleanup$Chosen" "finished" "Z" (.int (0 : Int32)) := D138 (Or.inr (hw _ (List.mem_of_getElem? (i := 24) rfl))) (ty := .boolean) (by decide)
      have F_totalPaidCents_b138 : Fld Z h138 b138 "com/example/stackledger/stackledger/Cleanup$Chosen" "totalPaidCents" "J" (.long (0 : Int64)) := D138 (Or.inr (hw _ (List.mem_of_getElem? (i := 26) rfl))) (ty := .long) (by decide)
      have F_balanceCents_b138 : Fld Z h138 b138 "com/example/stackledger/stackledger/Cleanup$Chosen" "balanceCents" "J" (.long (0 : Int64)) := D138 (Or.inr (hw _ (List.mem_of_getElem? (i := 28) rfl))) (ty := .long) (by decide)
      have F_lost_b138 : Fld Z h138 b138 "com/example/stackledger/stackledger/Cleanup$Chosen" "lost" "Z" (.int (0 : Int32)) := D138 (Or.inr (hw _ (List.mem_of_getElem? (i := 30) rfl))) (ty := .boolean) (by decide)
      have z141 : n0 ≤ h138.size := (Nat.le_trans z139 E138.1)
      obtain ⟨v140, T140, L140, X140, q140, st140⟩ := own_callI X138 hx hZ (y := (⟨"com/example/stackledger/stackledger/Cleanup$Chosen", "<init>", "(JJLjava/lang/String;JZJJZ)V"⟩ : MethodName)) rfl hown (hw _ (List.mem_of_getElem? (i := 4) rfl)) (hw _ (List.mem_of_getElem? (i := 5) rfl)) (hw _ (List.mem_of_getElem? (i := 2) rfl)) (hw _ (List.mem_of_getElem? (i := 6) rfl)) (by decide) (a := b138) (hM := (rm1 l Z a0 hw [] b138 (3 : Int64) (4 : Int64) q4 q6 q2 b4 true h138 n0 z141 g_b138 A138 F_transaction_b138 F_patron_b138 F_org_b138 F_startedAt_b138 F_finished_b138 F_totalPaidCents_b138 F_balanceCents_b138 F_lost_b138)) (by decide) (by decide) (by decide) (by decide) e138 (argsL := [(.long (3 : Int64)), (.long (4 : Int64)), .null, (.long q4), (.int (b2i b4)), (.long q6), (.long q2), (.int (1 : Int32))]) (rest := [(.ref b138)]) (Ls := #[.val (.long q0), .second, .val (.long q2), .second, .val (.long q4), .second, .val (.long q6), .second, .val (.int p8), .val (.int (0 : Int32)), .val (.int (1 : Int32)), .val (.int (b2i b3)), .val (.int (b2i b4)), .val (.ref b135), .unset, .unset, .unset, .unset, .unset, .unset, .unset, .unset]) (by rw [hml]; rfl) (lenOf pd__JJLjava_lang_String_JZJJZ_V rfl) (W := 1) (Nat.le_of_eq rfl) (hb hby at_100)
      obtain ⟨rfl, N140q, K140q, E140q, P140q, B140q, O140q⟩ := q140
      have N140 := Fr.app N136 N140q
      have K140 : Keep h0 T140.heap [] := K138.trans K140q (allS (Or.inr sz_b138) all0)
      obtain ⟨T142, h142, X142, e142, E142, A142, D142, -, st142⟩ := newO X140 hx hZ hown (hw _ (List.mem_of_getElem? (i := 33) rfl)) (hw _ (List.mem_of_getElem? (i := 34) rfl)) (hw _ (List.mem_of_getElem? (i := 35) rfl)) rfl (g := (mkF m 105 #[.val (.long q0), .second, .val (.long q2), .second, .val (.long q4), .second, .val (.long q6), .second, .val (.int p8), .val (.int (0 : Int32)), .val (.int (1 : Int32)), .val (.int (b2i b3)), .val (.int (b2i b4)), .val (.ref b135), .val (.ref b138), .unset, .unset, .unset, .unset, .unset, .unset, .unset] [])) rfl (hb hby at_105) (by decide) (by decide)
      obtain ⟨b142, g142⟩ : ∃ z, z = T140.heap.size := ⟨_, rfl⟩
      have z143 : n0 ≤ T140.heap.size := (Nat.le_trans z141 K140q.1)
      have g_b142 : n0 ≤ b142 := Nat.le_trans z143 (Nat.le_of_eq g142.symm)
      have sz_b142 : h0.size ≤ b142 := Nat.le_trans K140.1 (Nat.le_of_eq g142.symm)
      rw [← g142] at A142 D142 st142
      have K142 : Keep h0 h142 [] := K140.ext E142
      have F_skipped_b142 : Fld Z h142 b142 "com/example/stackledger/stackledger/Cleanup$Tally" "skipped" "J" (.long (0 : Int64)) := D142 (Or.inl (hw _ (List.mem_of_getElem? (i := 55) rfl))) (ty := .long) (by decide)
      have F_cleared_b142 : Fld Z h142 b142 "com/example/stackledger/stackledger/Cleanup$Tally" "cleared" "J" (.long (0 : Int64)) := D142 (Or.inl (hw _ (List.mem_of_getElem? (i := 62) rfl))) (ty := .long) (by decide)
      have F_balanceCents_b142 : Fld Z h142 b142 "com/example/stackledger/stackledger/Cleanup$Tally" "balanceCents" "J" (.long (0 : Int64)) := D142 (Or.inl (hw _ (List.mem_of_getElem? (i := 74) rfl))) (ty := .long) (by decide)
      have z145 : n0 ≤ h142.size := (Nat.le_trans z143 E142.1)
      obtain ⟨v144, T144, L144, X144, q144, st144⟩ := own_callI X142 hx hZ (y := (⟨"com/example/stackledger/stackledger/Cleanup$Tally", "<init>", "()V"⟩ : MethodName)) rfl hown (hw _ (List.mem_of_getElem? (i := 36) rfl)) (hw _ (List.mem_of_getElem? (i := 37) rfl)) (hw _ (List.mem_of_getElem? (i := 35) rfl)) (hw _ (List.mem_of_getElem? (i := 38) rfl)) (by decide) (a := b142) (hM := (rm4 l Z a0 hw [] b142 h142 n0 z145)) (by decide) (by decide) (by decide) (by decide) e142 (argsL := []) (rest := [(.ref b142)]) (Ls := #[.val (.long q0), .second, .val (.long q2), .second, .val (.long q4), .second, .val (.long q6), .second, .val (.int p8), .val (.int (0 : Int32)), .val (.int (1 : Int32)), .val (.int (b2i b3)), .val (.int (b2i b4)), .val (.ref b135), .val (.ref b138), .unset, .unset, .unset, .unset, .unset, .unset, .unset]) (by rw [hml]; rfl) (lenOf pd___V rfl) (W := 1) (Nat.le_of_eq rfl) (hb hby at_109)
      obtain ⟨rfl, N144q, e144⟩ := q144
      have N144 := Fr.app N140 N144q
      refine Gl.pre (S' := T144.setTop (mkF m 118 #[.val (.long q0), .second, .val (.long q2), .second, .val (.long q4), .second, .val (.long q6), .second, .val (.int p8), .val (.int (0 : Int32)), .val (.int (1 : Int32)), .val (.int (b2i b3)), .val (.int (b2i b4)), .val (.ref b135), .val (.ref b138), .val (.ref b142), .unset, .unset, .unset, .unset, .unset, .unset] [(.ref b135), (.ref b142)])) (fun t kt => ?_) ?_
      · show Steps p.tables e below (s₁.setTop (mkF m 55 #[.val (.long q0), .second, .val (.long q2), .second, .val (.long q4), .second, .val (.long q6), .second, .val (.int p8), .val (.int (0 : Int32)), .val (.int (1 : Int32)), .val (.int (b2i b3)), .unset, .unset, .unset, .unset, .unset, .unset, .unset, .unset, .unset, .unset] [(.int (b2i b4))])) _
        refine XS.istore X0.here hx rfl (hb hby at_55) rfl (l' := #[.val (.long q0), .second, .val (.long q2), .second, .val (.long q4), .second, .val (.long q6), .second, .val (.int p8), .val (.int (0 : Int32)), .val (.int (1 : Int32)), .val (.int (b2i b3)), .val (.int (b2i b4)), .unset, .unset, .unset, .unset, .unset, .unset, .unset, .unset, .unset]) rfl ?_
        show Steps p.tables e below (s₁.setTop (mkF m 57 #[.val (.long q0), .second, .val (.long q2), .second, .val (.long q4), .second, .val (.long q6), .second, .val (.int p8), .val (.int (0 : Int32)), .val (.int (1 : Int32)), .val (.int (b2i b3)), .val (.int (b2i b4)), .unset, .unset, .unset, .unset, .unset, .unset, .unset, .unset, .unset] [])) _
        refine st135 _ ?_
        show Steps p.tables e below (T135.setTop (mkF m 60 #[.val (.long q0), .second, .val (.long q2), .second, .val (.long q4), .second, .val (.long q6), .second, .val (.int p8), .val (.int (0 : Int32)), .val (.int (1 : Int32)), .val (.int (b2i b3)), .val (.int (b2i b4)), .unset, .unset, .unset, .unset, .unset, .unset, .unset, .unset, .unset] [(.ref b135)])) _
        refine XS.dup X135.here hx rfl (hb hby at_60) rfl rfl ?_
        show Steps p.tables e below (T135.setTop (mkF m 61 #[.val (.long q0), .second, .val (.long q2), .second, .val (.long q4), .second, .val (.long q6), .second, .val (.int p8), .val (.int (0 : Int32)), .val (.int (1 : Int32)), .val (.int (b2i b3)), .val (.int (b2i b4)), .unset, .unset, .unset, .unset, .unset, .unset, .unset, .unset, .unset] [(.ref b135), (.ref b135)])) _
        refine XS.lconst X135.here hx rfl (hb hby at_61) ?_
        show Steps p.tables e below (T135.setTop (mkF m 62 #[.val (.long q0), .second, .val (.long q2), .second, .val (.long q4), .second, .val (.long q6), .second, .val (.int p8), .val (.int (0 : Int32)), .val (.int (1 : Int32)), .val (.int (b2i b3)), .val (.int (b2i b4)), .unset, .unset, .unset, .unset, .unset, .unset, .unset, .unset, .unset] [(.long (1 : Int64)), (.ref b135), (.ref b135)])) _
        refine X135.ldc2Long hx hown (mvT hZ (hw _ (List.mem_of_getElem? (i := 3) rfl))) (g := (mkF m 62 #[.val (.long q0), .second, .val (.long q2), .second, .val (.long q4), .second, .val (.long q6), .second, .val (.int p8), .val (.int (0 : Int32)), .val (.int (1 : Int32)), .val (.int (b2i b3)), .val (.int (b2i b4)), .unset, .unset, .unset, .unset, .unset, .unset, .unset, .unset, .unset] [(.long (1 : Int64)), (.ref b135), (.ref b135)])) rfl (hb hby at_62) _ ?_
        show Steps p.tables e below (T135.setTop (mkF m 65 #[.val (.long q0), .second, .val (.long q2), .second, .val (.long q4), .second, .val (.long q6), .second, .val (.int p8), .val (.int (0 : Int32)), .val (.int (1 : Int32)), .val (.int (b2i b3)), .val (.int (b2i b4)), .unset, .unset, .unset, .unset, .unset, .unset, .unset, .unset, .unset] [(.long (2 : Int64)), (.long (1 : Int64)), (.ref b135), (.ref b135)])) _
        refine XS.aconstNull X135.here hx rfl (hb hby at_65) ?_
        show Steps p.tables e below (T135.setTop (mkF m 66 #[.val (.long q0), .second, .val (.long q2), .second, .val (.long q4), .second, .val (.long q6), .second, .val (.int p8), .val (.int (0 : Int32)), .val (.int (1 : Int32)), .val (.int (b2i b3)), .val (.int (b2i b4)), .unset, .unset, .unset, .unset, .unset, .unset, .unset, .unset, .unset] [.null, (.long (2 : Int64)), (.long (1 : Int64)), (.ref b135), (.ref b135)])) _
        refine XS.lload X135.here hx rfl (hb hby at_66) rfl ?_
        show Steps p.tables e below (T135.setTop (mkF m 68 #[.val (.long q0), .second, .val (.long q2), .second, .val (.long q4), .second, .val (.long q6), .second, .val (.int p8), .val (.int (0 : Int32)), .val (.int (1 : Int32)), .val (.int (b2i b3)), .val (.int (b2i b4)), .unset, .unset, .unset, .unset, .unset, .unset, .unset, .unset, .unset] [(.long q6), .null, (.long (2 : Int64)), (.long (1 : Int64)), (.ref b135), (.ref b135)])) _
        refine XS.iload X135.here hx rfl (hb hby at_68) rfl ?_
        show Steps p.tables e below (T135.setTop (mkF m 70 #[.val (.long q0), .second, .val (.long q2), .second, .val (.long q4), .second, .val (.long q6), .second, .val (.int p8), .val (.int (0 : Int32)), .val (.int (1 : Int32)), .val (.int (b2i b3)), .val (.int (b2i b4)), .unset, .unset, .unset, .unset, .unset, .unset, .unset, .unset, .unset] [(.int (b2i b3)), (.long q6), .null, (.long (2 : Int64)), (.long (1 : Int64)), (.ref b135), (.ref b135)])) _
        refine XS.lload X135.here hx rfl (hb hby at_70) rfl ?_
        show Steps p.tables e below (T135.setTop (mkF m 72 #[.val (.long q0), .second, .val (.long q2), .second, .val (.long q4), .second, .val (.long q6), .second, .val (.int p8), .val (.int (0 : Int32)), .val (.int (1 : Int32)), .val (.int (b2i b3)), .val (.int (b2i b4)), .unset, .unset, .unset, .unset, .unset, .unset, .unset, .unset, .unset] [(.long q4), (.int (b2i b3)), (.long q6), .null, (.long (2 : Int64)), (.long (1 : Int64)), (.ref b135), (.ref b135)])) _
        refine XS.lloadN X135.here hx rfl (hb hby at_72) rfl ?_
        show Steps p.tables e below (T135.setTop (mkF m 73 #[.val (.long q0), .second, .val (.long q2), .second, .val (.long q4), .second, .val (.long q6), .second, .val (.int p8), .val (.int (0 : Int32)), .val (.int (1 : Int32)), .val (.int (b2i b3)), .val (.int (b2i b4)), .unset, .unset, .unset, .unset, .unset, .unset, .unset, .unset, .unset] [(.long q0), (.long q4), (.int (b2i b3)), (.long q6), .null, (.long (2 : Int64)), (.long (1 : Int64)), (.ref b135), (.ref b135)])) _
        refine XS.iload X135.here hx rfl (hb hby at_73) rfl ?_
        show Steps p.tables e below (T135.setTop (mkF m 75 #[.val (.long q0), .second, .val (.long q2), .second, .val (.long q4), .second, .val (.long q6), .second, .val (.int p8), .val (.int (0 : Int32)), .val (.int (1 : Int32)), .val (.int (b2i b3)), .val (.int (b2i b4)), .unset, .unset, .unset, .unset, .unset, .unset, .unset, .unset, .unset] [(.int (0 : Int32)), (.long q0), (.long q4), (.int (b2i b3)), (.long q6), .null, (.long (2 : Int64)), (.long (1 : Int64)), (.ref b135), (.ref b135)])) _
        refine st136 _ ?_
        show Steps p.tables e below (T136.setTop (mkF m 78 #[.val (.long q0), .second, .val (.long q2), .second, .val (.long q4), .second, .val (.long q6), .second, .val (.int p8), .val (.int (0 : Int32)), .val (.int (1 : Int32)), .val (.int (b2i b3)), .val (.int (b2i b4)), .unset, .unset, .unset, .unset, .unset, .unset, .unset, .unset, .unset] [(.ref b135)])) _
        refine XS.astore X136.here hx rfl (hb hby at_78) rfl rfl (l' := #[.val (.long q0), .second, .val (.long q2), .second, .val (.long q4), .second, .val (.long q6), .second, .val (.int p8), .val (.int (0 : Int32)), .val (.int (1 : Int32)), .val (.int (b2i b3)), .val (.int (b2i b4)), .val (.ref b135), .unset, .unset, .unset, .unset, .unset, .unset, .unset, .unset]) rfl ?_
        show Steps p.tables e below (T136.setTop (mkF m 80 #[.val (.long q0), .second, .val (.long q2), .second, .val (.long q4), .second, .val (.long q6), .second, .val (.int p8), .val (.int (0 : Int32)), .val (.int (1 : Int32)), .val (.int (b2i b3)), .val (.int (b2i b4)), .val (.ref b135), .unset, .unset, .unset, .unset, .unset, .unset, .unset, .unset] [])) _
        refine st138 _ ?_
        show Steps p.tables e below (T138.setTop (mkF m 83 #[.val (.long q0), .second, .val (.long q2), .second, .val (.long q4), .second, .val (.long q6), .second, .val (.int p8), .val (.int (0 : Int32)), .val (.int (1 : Int32)), .val (.int (b2i b3)), .val (.int (b2i b4)), .val (.ref b135), .unset, .unset, .unset, .unset, .unset, .unset, .unset, .unset] [(.ref b138)])) _
        refine XS.dup X138.here hx rfl (hb hby at_83) rfl rfl ?_
        show Steps p.tables e below (T138.setTop (mkF m 84 #[.val (.long q0), .second, .val (.long q2), .second, .val (.long q4), .second, .val (.long q6), .second, .val (.int p8), .val (.int (0 : Int32)), .val (.int (1 : Int32)), .val (.int (b2i b3)), .val (.int (b2i b4)), .val (.ref b135), .unset, .unset, .unset, .unset, .unset, .unset, .unset, .unset] [(.ref b138), (.ref b138)])) _
        refine X138.ldc2Long hx hown (mvT hZ (hw _ (List.mem_of_getElem? (i := 31) rfl))) (g := (mkF m 84 #[.val (.long q0), .second, .val (.long q2), .second, .val (.long q4), .second, .val (.long q6), .second, .val (.int p8), .val (.int (0 : Int32)), .val (.int (1 : Int32)), .val (.int (b2i b3)), .val (.int (b2i b4)), .val (.ref b135), .unset, .unset, .unset, .unset, .unset, .unset, .unset, .unset] [(.ref b138), (.ref b138)])) rfl (hb hby at_84) _ ?_
        show Steps p.tables e below (T138.setTop (mkF m 87 #[.val (.long q0), .second, .val (.long q2), .second, .val (.long q4), .second, .val (.long q6), .second, .val (.int p8), .val (.int (0 : Int32)), .val (.int (1 : Int32)), .val (.int (b2i b3)), .val (.int (b2i b4)), .val (.ref b135), .unset, .unset, .unset, .unset, .unset, .unset, .unset, .unset] [(.long (3 : Int64)), (.ref b138), (.ref b138)])) _
        refine X138.ldc2Long hx hown (mvT hZ (hw _ (List.mem_of_getElem? (i := 32) rfl))) (g := (mkF m 87 #[.val (.long q0), .second, .val (.long q2), .second, .val (.long q4), .second, .val (.long q6), .second, .val (.int p8), .val (.int (0 : Int32)), .val (.int (1 : Int32)), .val (.int (b2i b3)), .val (.int (b2i b4)), .val (.ref b135), .unset, .unset, .unset, .unset, .unset, .unset, .unset, .unset] [(.long (3 : Int64)), (.ref b138), (.ref b138)])) rfl (hb hby at_87) _ ?_
        show Steps p.tables e below (T138.setTop (mkF m 90 #[.val (.long q0), .second, .val (.long q2), .second, .val (.long q4), .second, .val (.long q6), .second, .val (.int p8), .val (.int (0 : Int32)), .val (.int (1 : Int32)), .val (.int (b2i b3)), .val (.int (b2i b4)), .val (.ref b135), .unset, .unset, .unset, .unset, .unset, .unset, .unset, .unset] [(.long (4 : Int64)), (.long (3 : Int64)), (.ref b138), (.ref b138)])) _
        refine XS.aconstNull X138.here hx rfl (hb hby at_90) ?_
        show Steps p.tables e below (T138.setTop (mkF m 91 #[.val (.long q0), .second, .val (.long q2), .second, .val (.long q4), .second, .val (.long q6), .second, .val (.int p8), .val (.int (0 : Int32)), .val (.int (1 : Int32)), .val (.int (b2i b3)), .val (.int (b2i b4)), .val (.ref b135), .unset, .unset, .unset, .unset, .unset, .unset, .unset, .unset] [.null, (.long (4 : Int64)), (.long (3 : Int64)), (.ref b138), (.ref b138)])) _
        refine XS.lload X138.here hx rfl (hb hby at_91) rfl ?_
        show Steps p.tables e below (T138.setTop (mkF m 93 #[.val (.long q0), .second, .val (.long q2), .second, .val (.long q4), .second, .val (.long q6), .second, .val (.int p8), .val (.int (0 : Int32)), .val (.int (1 : Int32)), .val (.int (b2i b3)), .val (.int (b2i b4)), .val (.ref b135), .unset, .unset, .unset, .unset, .unset, .unset, .unset, .unset] [(.long q4), .null, (.long (4 : Int64)), (.long (3 : Int64)), (.ref b138), (.ref b138)])) _
        refine XS.iload X138.here hx rfl (hb hby at_93) rfl ?_
        show Steps p.tables e below (T138.setTop (mkF m 95 #[.val (.long q0), .second, .val (.long q2), .second, .val (.long q4), .second, .val (.long q6), .second, .val (.int p8), .val (.int (0 : Int32)), .val (.int (1 : Int32)), .val (.int (b2i b3)), .val (.int (b2i b4)), .val (.ref b135), .unset, .unset, .unset, .unset, .unset, .unset, .unset, .unset] [(.int (b2i b4)), (.long q4), .null, (.long (4 : Int64)), (.long (3 : Int64)), (.ref b138), (.ref b138)])) _
        refine XS.lload X138.here hx rfl (hb hby at_95) rfl ?_
        show Steps p.tables e below (T138.setTop (mkF m 97 #[.val (.long q0), .second, .val (.long q2), .second, .val (.long q4), .second, .val (.long q6), .second, .val (.int p8), .val (.int (0 : Int32)), .val (.int (1 : Int32)), .val (.int (b2i b3)), .val (.int (b2i b4)), .val (.ref b135), .unset, .unset, .unset, .unset, .unset, .unset, .unset, .unset] [(.long q6), (.int (b2i b4)), (.long q4), .null, (.long (4 : Int64)), (.long (3 : Int64)), (.ref b138), (.ref b138)])) _
        refine XS.lloadN X138.here hx rfl (hb hby at_97) rfl ?_
        show Steps p.tables e below (T138.setTop (mkF m 98 #[.val (.long q0), .second, .val (.long q2), .second, .val (.long q4), .second, .val (.long q6), .second, .val (.int p8), .val (.int (0 : Int32)), .val (.int (1 : Int32)), .val (.int (b2i b3)), .val (.int (b2i b4)), .val (.ref b135), .unset, .unset, .unset, .unset, .unset, .unset, .unset, .unset] [(.long q2), (.long q6), (.int (b2i b4)), (.long q4), .null, (.long (4 : Int64)), (.long (3 : Int64)), (.ref b138), (.ref b138)])) _
        refine XS.iload X138.here hx rfl (hb hby at_98) rfl ?_
        show Steps p.tables e below (T138.setTop (mkF m 100 #[.val (.long q0), .second, .val (.long q2), .second, .val (.long q4), .second, .val (.long q6), .second, .val (.int p8), .val (.int (0 : Int32)), .val (.int (1 : Int32)), .val (.int (b2i b3)), .val (.int (b2i b4)), .val (.ref b135), .unset, .unset, .unset, .unset, .unset, .unset, .unset, .unset] [(.int (1 : Int32)), (.long q2), (.long q6), (.int (b2i b4)), (.long q4), .null, (.long (4 : Int64)), (.long (3 : Int64)), (.ref b138), (.ref b138)])) _
        refine st140 _ ?_
        show Steps p.tables e below (T140.setTop (mkF m 103 #[.val (.long q0), .second, .val (.long q2), .second, .val (.long q4), .second, .val (.long q6), .second, .val (.int p8), .val (.int (0 : Int32)), .val (.int (1 : Int32)), .val (.int (b2i b3)), .val (.int (b2i b4)), .val (.ref b135), .unset, .unset, .unset, .unset, .unset, .unset, .unset, .unset] [(.ref b138)])) _
        refine XS.astore X140.here hx rfl (hb hby at_103) rfl rfl (l' := #[.val (.long q0), .second, .val (.long q2), .second, .val (.long q4), .second, .val (.long q6), .second, .val (.int p8), .val (.int (0 : Int32)), .val (.int (1 : Int32)), .val (.int (b2i b3)), .val (.int (b2i b4)), .val (.ref b135), .val (.ref b138), .unset, .unset, .unset, .unset, .unset, .unset, .unset]) rfl ?_
        show Steps p.tables e below (T140.setTop (mkF m 105 #[.val (.long q0), .second, .val (.long q2), .second, .val (.long q4), .second, .val (.long q6), .second, .val (.int p8), .val (.int (0 : Int32)), .val (.int (1 : Int32)), .val (.int (b2i b3)), .val (.int (b2i b4)), .val (.ref b135), .val (.ref b138), .unset, .unset, .unset, .unset, .unset, .unset, .unset] [])) _
        refine st142 _ ?_
        show Steps p.tables e below (T142.setTop (mkF m 108 #[.val (.long q0), .second, .val (.long q2), .second, .val (.long q4), .second, .val (.long q6), .second, .val (.int p8), .val (.int (0 : Int32)), .val (.int (1 : Int32)), .val (.int (b2i b3)), .val (.int (b2i b4)), .val (.ref b135), .val (.ref b138), .unset, .unset, .unset, .unset, .unset, .unset, .unset] [(.ref b142)])) _
        refine XS.dup X142.here hx rfl (hb hby at_108) rfl rfl ?_
        show Steps p.tables e below (T142.setTop (mkF m 109 #[.val (.long q0), .second, .val (.long q2), .second, .val (.long q4), .second, .val (.long q6), .second, .val (.int p8), .val (.int (0 : Int32)), .val (.int (1 : Int32)), .val (.int (b2i b3)), .val (.int (b2i b4)), .val (.ref b135), .val (.ref b138), .unset, .unset, .unset, .unset, .unset, .unset, .unset] [(.ref b142), (.ref b142)])) _
        refine st144 _ ?_
        show Steps p.tables e below (T144.setTop (mkF m 112 #[.val (.long q0), .second, .val (.long q2), .second, .val (.long q4), .second, .val (.long q6), .second, .val (.int p8), .val (.int (0 : Int32)), .val (.int (1 : Int32)), .val (.int (b2i b3)), .val (.int (b2i b4)), .val (.ref b135), .val (.ref b138), .unset, .unset, .unset, .unset, .unset, .unset, .unset] [(.ref b142)])) _
        refine XS.astore X144.here hx rfl (hb hby at_112) rfl rfl (l' := #[.val (.long q0), .second, .val (.long q2), .second, .val (.long q4), .second, .val (.long q6), .second, .val (.int p8), .val (.int (0 : Int32)), .val (.int (1 : Int32)), .val (.int (b2i b3)), .val (.int (b2i b4)), .val (.ref b135), .val (.ref b138), .val (.ref b142), .unset, .unset, .unset, .unset, .unset, .unset]) rfl ?_
        show Steps p.tables e below (T144.setTop (mkF m 114 #[.val (.long q0), .second, .val (.long q2), .second, .val (.long q4), .second, .val (.long q6), .second, .val (.int p8), .val (.int (0 : Int32)), .val (.int (1 : Int32)), .val (.int (b2i b3)), .val (.int (b2i b4)), .val (.ref b135), .val (.ref b138), .val (.ref b142), .unset, .unset, .unset, .unset, .unset, .unset] [])) _
        refine XS.aload X144.here hx rfl (hb hby at_114) rfl rfl ?_
        show Steps p.tables e below (T144.setTop (mkF m 116 #[.val (.long q0), .second, .val (.long q2), .second, .val (.long q4), .second, .val (.long q6), .second, .val (.int p8), .val (.int (0 : Int32)), .val (.int (1 : Int32)), .val (.int (b2i b3)), .val (.int (b2i b4)), .val (.ref b135), .val (.ref b138), .val (.ref b142), .unset, .unset, .unset, .unset, .unset, .unset] [(.ref b142)])) _
        refine XS.aload X144.here hx rfl (hb hby at_116) rfl rfl ?_
        exact kt
      have f147 := (((E136q.ext E138).keep K140q).ext E142)
      have f148 := (((O136q.ext E138).keep K140q (ninS (Nat.ne_of_lt (Nat.lt_of_lt_of_le (Nat.lt_of_lt_of_le A135.lt K136q.1) (Nat.le_of_eq g138.symm))) nin0)).ext E142)
      have f149 := (((B136q.ext E138).keep K140q (ninS (Nat.ne_of_lt (Nat.lt_of_lt_of_le (Nat.lt_of_lt_of_le A135.lt K136q.1) (Nat.le_of_eq g138.symm))) nin0)).ext E142)
      have f150 := (((P136q.ext E138).keep K140q (ninS (Nat.ne_of_lt (Nat.lt_of_lt_of_le (Nat.lt_of_lt_of_le A135.lt K136q.1) (Nat.le_of_eq g138.symm))) nin0)).ext E142)
      have f151 := ((own_sta_keep ((own_sta_keep (S_sk.ext E135) K136q (allS ⟨_, A135⟩ all0)).ext E138) K140q (allS ⟨_, A138⟩ all0)).ext E142)
      have f152 := ((own_sta_keep ((own_sta_keep (S_ov.ext E135) K136q (allS ⟨_, A135⟩ all0)).ext E138) K140q (allS ⟨_, A138⟩ all0)).ext E142)
      have f153 := ((own_sta_keep ((own_sta_keep (S_vo.ext E135) K136q (allS ⟨_, A135⟩ all0)).ext E138) K140q (allS ⟨_, A138⟩ all0)).ext E142)
      have f154 := ((own_sta_keep ((own_sta_keep (S_fo.ext E135) K136q (allS ⟨_, A135⟩ all0)).ext E138) K140q (allS ⟨_, A138⟩ all0)).ext E142)
      obtain ⟨v146, T146, L146, X146, q146, st146⟩ := own_callV X144 hx hZ (y := (⟨"com/example/stackledger/stackledger/Cleanup$Tally", "add", "(Lcom/example/stackledger/stackledger/Cleanup$Chosen;)V"⟩ : MethodName)) (z := (⟨"com/example/stackledger/stackledger/Cleanup$Tally", "add", "(Lcom/example/stackledger/stackledger/Cleanup$Chosen;)V"⟩ : MethodName)) hown (hw _ (List.mem_of_getElem? (i := 40) rfl)) (hw _ (List.mem_of_getElem? (i := 41) rfl)) (notFace_of_selects (args := #[]) (mvT hZ (hw _ (List.mem_of_getElem? (i := 43) rfl)))) (hw _ (List.mem_of_getElem? (i := 43) rfl)) (hw _ (List.mem_of_getElem? (i := 42) rfl)) (hw _ (List.mem_of_getElem? (i := 35) rfl)) (hw _ (List.mem_of_getElem? (i := 44) rfl)) (by decide) A142 (hM := (rm5n l Z a0 hw [] b142 b135 (0 : Int64) (0 : Int64) (0 : Int64) q0 q4 sk ov vo fo h142 n0 z145 g_b142 A142 f147 (Ne.symm (Nat.ne_of_lt (Nat.lt_of_lt_of_le (Nat.lt_of_lt_of_le (Nat.lt_of_lt_of_le (Nat.lt_of_lt_of_le A135.lt K136q.1) E138.1) K140q.1) (Nat.le_of_eq g142.symm)))) F_cleared_b142 F_skipped_b142 F_balanceCents_b142 f148 f149 f150 f151 f152 f153 f154 ne_ov ne_vo ne_fo)) (by decide) (by decide) (by decide) (by decide) e144 (argsL := [(.ref b135)]) (rest := []) (Ls := #[.val (.long q0), .second, .val (.long q2), .second, .val (.long q4), .second, .val (.long q6), .second, .val (.int p8), .val (.int (0 : Int32)), .val (.int (1 : Int32)), .val (.int (b2i b3)), .val (.int (b2i b4)), .val (.ref b135), .val (.ref b138), .val (.ref b142), .unset, .unset, .unset, .unset, .unset, .unset]) (by rw [hml]; rfl) (lenOf pd__Lcom_example_stackledger_stackledger_Cleanup_Chosen__V rfl) (W := 0) (Nat.le_of_eq rfl) (hb hby at_118)
      obtain ⟨rfl, N146q, K146q, E146q, A146q, B146q, C146q⟩ := q146
      have N146 := Fr.app N144 N146q
      have K146 : Keep h0 T146.heap [] := K142.trans K146q (allS (Or.inr sz_b142) all0)
      have f156 := ((E140q.ext E142).keep K146q)
      have f157 := ((O140q.ext E142).keep K146q (ninS (Nat.ne_of_lt (Nat.lt_of_lt_of_le (Nat.lt_of_lt_of_le A138.lt K140q.1) (Nat.le_of_eq g142.symm))) nin0))
      have f158 := ((B140q.ext E142).keep K146q (ninS (Nat.ne_of_lt (Nat.lt_of_lt_of_le (Nat.lt_of_lt_of_le A138.lt K140q.1) (Nat.le_of_eq g142.symm))) nin0))
      have f159 := ((P140q.ext E142).keep K146q (ninS (Nat.ne_of_lt (Nat.lt_of_lt_of_le (Nat.lt_of_lt_of_le A138.lt K140q.1) (Nat.le_of_eq g142.symm))) nin0))
      have f160 := (own_sta_keep f151 K146q (allS ⟨_, A142⟩ all0))
      have z161 : n0 ≤ T146.heap.size := (Nat.le_trans z145 K146q.1)
      obtain ⟨v155, T155, L155, X155, q155, st155⟩ := own_callV X146 hx hZ (y := (⟨"com/example/stackledger/stackledger/Cleanup$Tally", "add", "(Lcom/example/stackledger/stackledger/Cleanup$Chosen;)V"⟩ : MethodName)) (z := (⟨"com/example/stackledger/stackledger/Cleanup$Tally", "add", "(Lcom/example/stackledger/stackledger/Cleanup$Chosen;)V"⟩ : MethodName)) hown (hw _ (List.mem_of_getElem? (i := 40) rfl)) (hw _ (List.mem_of_getElem? (i := 41) rfl)) (notFace_of_selects (args := #[]) (mvT hZ (hw _ (List.mem_of_getElem? (i := 43) rfl)))) (hw _ (List.mem_of_getElem? (i := 43) rfl)) (hw _ (List.mem_of_getElem? (i := 42) rfl)) (hw _ (List.mem_of_getElem? (i := 35) rfl)) (hw _ (List.mem_of_getElem? (i := 44) rfl)) (by decide) E146q (hM := (rm5l l Z a0 hw [] b142 b138 ((0 : Int64) + (1 : Int64)) (0 : Int64) ((0 : Int64) + q0) q2 q6 sk T146.heap n0 z161 g_b142 E146q f156 (Ne.symm (Nat.ne_of_lt (Nat.lt_of_lt_of_le (Nat.lt_of_lt_of_le A138.lt K140q.1) (Nat.le_of_eq g142.symm)))) A146q B146q C146q f157 f158 f159 f160)) (by decide) (by decide) (by decide) (by decide) rfl (argsL := [(.ref b138)]) (rest := []) (Ls := #[.val (.long q0), .second, .val (.long q2), .second, .val (.long q4), .second, .val (.long q6), .second, .val (.int p8), .val (.int (0 : Int32)), .val (.int (1 : Int32)), .val (.int (b2i b3)), .val (.int (b2i b4)), .val (.ref b135), .val (.ref b138), .val (.ref b142), .unset, .unset, .unset, .unset, .unset, .unset]) (by rw [hml]; rfl) (lenOf pd__Lcom_example_stackledger_stackledger_Cleanup_Chosen__V rfl) (W := 0) (Nat.le_of_eq rfl) (hb hby at_125)
      obtain ⟨rfl, N155q, K155q, E155q, A155q, B155q, C155q⟩ := q155
      have N155 := Fr.app N146 N155q
      have K155 : Keep h0 T155.heap [] := K146.trans K155q (allS (Or.inr sz_b142) all0)
      have z163 : n0 ≤ T155.heap.size := (Nat.le_trans z161 K155q.1)
      obtain ⟨v162, T162, L162, X162, q162, st162⟩ := own_callV X155 hx hZ (y := (⟨"com/example/stackledger/stackledger/Cleanup$Tally", "cleared", "()J"⟩ : MethodName)) (z := (⟨"com/example/stackledger/stackledger/Cleanup$Tally", "cleared", "()J"⟩ : MethodName)) hown (hw _ (List.mem_of_getElem? (i := 56) rfl)) (hw _ (List.mem_of_getElem? (i := 57) rfl)) (notFace_of_selects (args := #[]) (mvT hZ (hw _ (List.mem_of_getElem? (i := 59) rfl)))) (hw _ (List.mem_of_getElem? (i := 59) rfl)) (hw _ (List.mem_of_getElem? (i := 58) rfl)) (hw _ (List.mem_of_getElem? (i := 35) rfl)) (hw _ (List.mem_of_getElem? (i := 60) rfl)) (by decide) E155q (hM := (rm7 l Z a0 hw [] b142 ((0 : Int64) + (1 : Int64)) T155.heap n0 z163 A155q)) (by decide) (by decide) (by decide) (by decide) rfl (argsL := []) (rest := []) (Ls := #[.val (.long q0), .second, .val (.long q2), .second, .val (.long q4), .second, .val (.long q6), .second, .val (.int p8), .val (.int (0 : Int32)), .val (.int (1 : Int32)), .val (.int (b2i b3)), .val (.int (b2i b4)), .val (.ref b135), .val (.ref b138), .val (.ref b142), .val (.long ((0 : Int64) + (1 : Int64))), .second, .val (.long ((0 : Int64) + (1 : Int64))), .second, .val (.long ((0 : Int64) + q0)), .second]) (by rw [hml]; rfl) (lenOf pd___J rfl) (W := 0) (Nat.le_of_eq rfl) (hb hby at_191)
      obtain ⟨rfl, N162q, e162⟩ := q162
      have N162 := Fr.app N155 N162q
      refine Gl.pre (S' := T162.setTop (mkF m 197 #[.val (.long q0), .second, .val (.long q2), .second, .val (.long q4), .second, .val (.long q6), .second, .val (.int p8), .val (.int (0 : Int32)), .val (.int (1 : Int32)), .val (.int (b2i b3)), .val (.int (b2i b4)), .val (.ref b135), .val (.ref b138), .val (.ref b142), .val (.long ((0 : Int64) + (1 : Int64))), .second, .val (.long ((0 : Int64) + (1 : Int64))), .second, .val (.long ((0 : Int64) + q0)), .second] [(.int (lcmpW ((0 : Int64) + (1 : Int64)) ((0 : Int64) + (1 : Int64))))])) (fun t kt => ?_) ?_
      · show Steps p.tables e below (T144.setTop (mkF m 118 #[.val (.long q0), .second, .val (.long q2), .second, .val (.long q4), .second, .val (.long q6), .second, .val (.int p8), .val (.int (0 : Int32)), .val (.int (1 : Int32)), .val (.int (b2i b3)), .val (.int (b2i b4)), .val (.ref b135), .val (.ref b138), .val (.ref b142), .unset, .unset, .unset, .unset, .unset, .unset] [(.ref b135), (.ref b142)])) _
        refine st146 _ ?_
        show Steps p.tables e below (T146.setTop (mkF m 121 #[.val (.long q0), .second, .val (.long q2), .second, .val (.long q4), .second, .val (.long q6), .second, .val (.int p8), .val (.int (0 : Int32)), .val (.int (1 : Int32)), .val (.int (b2i b3)), .val (.int (b2i b4)), .val (.ref b135), .val (.ref b138), .val (.ref b142), .unset, .unset, .unset, .unset, .unset, .unset] [])) _
        refine XS.aload X146.here hx rfl (hb hby at_121) rfl rfl ?_
        show Steps p.tables e below (T146.setTop (mkF m 123 #[.val (.long q0), .second, .val (.long q2), .second, .val (.long q4), .second, .val (.long q6), .second, .val (.int p8), .val (.int (0 : Int32)), .val (.int (1 : Int32)), .val (.int (b2i b3)), .val (.int (b2i b4)), .val (.ref b135), .val (.ref b138), .val (.ref b142), .unset, .unset, .unset, .unset, .unset, .unset] [(.ref b142)])) _
        refine XS.aload X146.here hx rfl (hb hby at_123) rfl rfl ?_
        show Steps p.tables e below (T146.setTop (mkF m 125 #[.val (.long q0), .second, .val (.long q2), .second, .val (.long q4), .second, .val (.long q6), .second, .val (.int p8), .val (.int (0 : Int32)), .val (.int (1 : Int32)), .val (.int (b2i b3)), .val (.int (b2i b4)), .val (.ref b135), .val (.ref b138), .val (.ref b142), .unset, .unset, .unset, .unset, .unset, .unset] [(.ref b138), (.ref b142)])) _
        refine st155 _ ?_
        show Steps p.tables e below (T155.setTop (mkF m 128 #[.val (.long q0), .second, .val (.long q2), .second, .val (.long q4), .second, .val (.long q6), .second, .val (.int p8), .val (.int (0 : Int32)), .val (.int (1 : Int32)), .val (.int (b2i b3)), .val (.int (b2i b4)), .val (.ref b135), .val (.ref b138), .val (.ref b142), .unset, .unset, .unset, .unset, .unset, .unset] [])) _
        refine XS.lconst X155.here hx rfl (hb hby at_128) ?_
        show Steps p.tables e below (T155.setTop (mkF m 129 #[.val (.long q0), .second, .val (.long q2), .second, .val (.long q4), .second, .val (.long q6), .second, .val (.int p8), .val (.int (0 : Int32)), .val (.int (1 : Int32)), .val (.int (b2i b3)), .val (.int (b2i b4)), .val (.ref b135), .val (.ref b138), .val (.ref b142), .unset, .unset, .unset, .unset, .unset, .unset] [(.long (0 : Int64))])) _
        refine XS.lstore X155.here hx rfl (hb hby at_129) rfl (l' := #[.val (.long q0), .second, .val (.long q2), .second, .val (.long q4), .second, .val (.long q6), .second, .val (.int p8), .val (.int (0 : Int32)), .val (.int (1 : Int32)), .val (.int (b2i b3)), .val (.int (b2i b4)), .val (.ref b135), .val (.ref b138), .val (.ref b142), .val (.long (0 : Int64)), .second, .unset, .unset, .unset, .unset]) rfl ?_
        show Steps p.tables e below (T155.setTop (mkF m 131 #[.val (.long q0), .second, .val (.long q2), .second, .val (.long q4), .second, .val (.long q6), .second, .val (.int p8), .val (.int (0 : Int32)), .val (.int (1 : Int32)), .val (.int (b2i b3)), .val (.int (b2i b4)), .val (.ref b135), .val (.ref b138), .val (.ref b142), .val (.long (0 : Int64)), .second, .unset, .unset, .unset, .unset] [])) _
        refine XS.lconst X155.here hx rfl (hb hby at_131) ?_
        show Steps p.tables e below (T155.setTop (mkF m 132 #[.val (.long q0), .second, .val (.long q2), .second, .val (.long q4), .second, .val (.long q6), .second, .val (.int p8), .val (.int (0 : Int32)), .val (.int (1 : Int32)), .val (.int (b2i b3)), .val (.int (b2i b4)), .val (.ref b135), .val (.ref b138), .val (.ref b142), .val (.long (0 : Int64)), .second, .unset, .unset, .unset, .unset] [(.long (0 : Int64))])) _
        refine XS.lstore X155.here hx rfl (hb hby at_132) rfl (l' := #[.val (.long q0), .second, .val (.long q2), .second, .val (.long q4), .second, .val (.long q6), .second, .val (.int p8), .val (.int (0 : Int32)), .val (.int (1 : Int32)), .val (.int (b2i b3)), .val (.int (b2i b4)), .val (.ref b135), .val (.ref b138), .val (.ref b142), .val (.long (0 : Int64)), .second, .val (.long (0 : Int64)), .second, .unset, .unset]) rfl ?_
        show Steps p.tables e below (T155.setTop (mkF m 134 #[.val (.long q0), .second, .val (.long q2), .second, .val (.long q4), .second, .val (.long q6), .second, .val (.int p8), .val (.int (0 : Int32)), .val (.int (1 : Int32)), .val (.int (b2i b3)), .val (.int (b2i b4)), .val (.ref b135), .val (.ref b138), .val (.ref b142), .val (.long (0 : Int64)), .second, .val (.long (0 : Int64)), .second, .unset, .unset] [])) _
        refine XS.lconst X155.here hx rfl (hb hby at_134) ?_
        show Steps p.tables e below (T155.setTop (mkF m 135 #[.val (.long q0), .second, .val (.long q2), .second, .val (.long q4), .second, .val (.long q6), .second, .val (.int p8), .val (.int (0 : Int32)), .val (.int (1 : Int32)), .val (.int (b2i b3)), .val (.int (b2i b4)), .val (.ref b135), .val (.ref b138), .val (.ref b142), .val (.long (0 : Int64)), .second, .val (.long (0 : Int64)), .second, .unset, .unset] [(.long (0 : Int64))])) _
        refine XS.lstore X155.here hx rfl (hb hby at_135) rfl (l' := #[.val (.long q0), .second, .val (.long q2), .second, .val (.long q4), .second, .val (.long q6), .second, .val (.int p8), .val (.int (0 : Int32)), .val (.int (1 : Int32)), .val (.int (b2i b3)), .val (.int (b2i b4)), .val (.ref b135), .val (.ref b138), .val (.ref b142), .val (.long (0 : Int64)), .second, .val (.long (0 : Int64)), .second, .val (.long (0 : Int64)), .second]) rfl ?_
        show Steps p.tables e below (T155.setTop (mkF m 137 #[.val (.long q0), .second, .val (.long q2), .second, .val (.long q4), .second, .val (.long q6), .second, .val (.int p8), .val (.int (0 : Int32)), .val (.int (1 : Int32)), .val (.int (b2i b3)), .val (.int (b2i b4)), .val (.ref b135), .val (.ref b138), .val (.ref b142), .val (.long (0 : Int64)), .second, .val (.long (0 : Int64)), .second, .val (.long (0 : Int64)), .second] [])) _
        refine XS.iload X155.here hx rfl (hb hby at_137) rfl ?_
        show Steps p.tables e below (T155.setTop (mkF m 139 #[.val (.long q0), .second, .val (.long q2), .second, .val (.long q4), .second, .val (.long q6), .second, .val (.int p8), .val (.int (0 : Int32)), .val (.int (1 : Int32)), .val (.int (b2i b3)), .val (.int (b2i b4)), .val (.ref b135), .val (.ref b138), .val (.ref b142), .val (.long (0 : Int64)), .second, .val (.long (0 : Int64)), .second, .val (.long (0 : Int64)), .second] [(.int (0 : Int32))])) _
        refine XS.ifYes X155.here hx rfl (pc0 := 139) (pc' := 151) rfl (hb hby at_139) rfl (own_t (i0_eq _) (by decide)) (by decide) (by decide) ?_
        show Steps p.tables e below (T155.setTop (mkF m 151 #[.val (.long q0), .second, .val (.long q2), .second, .val (.long q4), .second, .val (.long q6), .second, .val (.int p8), .val (.int (0 : Int32)), .val (.int (1 : Int32)), .val (.int (b2i b3)), .val (.int (b2i b4)), .val (.ref b135), .val (.ref b138), .val (.ref b142), .val (.long (0 : Int64)), .second, .val (.long (0 : Int64)), .second, .val (.long (0 : Int64)), .second] [])) _
        refine XS.lload X155.here hx rfl (hb hby at_151) rfl ?_
        show Steps p.tables e below (T155.setTop (mkF m 153 #[.val (.long q0), .second, .val (.long q2), .second, .val (.long q4), .second, .val (.long q6), .second, .val (.int p8), .val (.int (0 : Int32)), .val (.int (1 : Int32)), .val (.int (b2i b3)), .val (.int (b2i b4)), .val (.ref b135), .val (.ref b138), .val (.ref b142), .val (.long (0 : Int64)), .second, .val (.long (0 : Int64)), .second, .val (.long (0 : Int64)), .second] [(.long (0 : Int64))])) _
        refine XS.lconst X155.here hx rfl (hb hby at_153) ?_
        show Steps p.tables e below (T155.setTop (mkF m 154 #[.val (.long q0), .second, .val (.long q2), .second, .val (.long q4), .second, .val (.long q6), .second, .val (.int p8), .val (.int (0 : Int32)), .val (.int (1 : Int32)), .val (.int (b2i b3)), .val (.int (b2i b4)), .val (.ref b135), .val (.ref b138), .val (.ref b142), .val (.long (0 : Int64)), .second, .val (.long (0 : Int64)), .second, .val (.long (0 : Int64)), .second] [(.long (1 : Int64)), (.long (0 : Int64))])) _
        refine XS.ladd X155.here hx rfl (hb hby at_154) rfl ?_
        show Steps p.tables e below (T155.setTop (mkF m 155 #[.val (.long q0), .second, .val (.long q2), .second, .val (.long q4), .second, .val (.long q6), .second, .val (.int p8), .val (.int (0 : Int32)), .val (.int (1 : Int32)), .val (.int (b2i b3)), .val (.int (b2i b4)), .val (.ref b135), .val (.ref b138), .val (.ref b142), .val (.long (0 : Int64)), .second, .val (.long (0 : Int64)), .second, .val (.long (0 : Int64)), .second] [(.long ((0 : Int64) + (1 : Int64)))])) _
        refine XS.lstore X155.here hx rfl (hb hby at_155) rfl (l' := #[.val (.long q0), .second, .val (.long q2), .second, .val (.long q4), .second, .val (.long q6), .second, .val (.int p8), .val (.int (0 : Int32)), .val (.int (1 : Int32)), .val (.int (b2i b3)), .val (.int (b2i b4)), .val (.ref b135), .val (.ref b138), .val (.ref b142), .val (.long ((0 : Int64) + (1 : Int64))), .second, .val (.long (0 : Int64)), .second, .val (.long (0 : Int64)), .second]) rfl ?_
        show Steps p.tables e below (T155.setTop (mkF m 157 #[.val (.long q0), .second, .val (.long q2), .second, .val (.long q4), .second, .val (.long q6), .second, .val (.int p8), .val (.int (0 : Int32)), .val (.int (1 : Int32)), .val (.int (b2i b3)), .val (.int (b2i b4)), .val (.ref b135), .val (.ref b138), .val (.ref b142), .val (.long ((0 : Int64) + (1 : Int64))), .second, .val (.long (0 : Int64)), .second, .val (.long (0 : Int64)), .second] [])) _
        refine XS.lload X155.here hx rfl (hb hby at_157) rfl ?_
        show Steps p.tables e below (T155.setTop (mkF m 159 #[.val (.long q0), .second, .val (.long q2), .second, .val (.long q4), .second, .val (.long q6), .second, .val (.int p8), .val (.int (0 : Int32)), .val (.int (1 : Int32)), .val (.int (b2i b3)), .val (.int (b2i b4)), .val (.ref b135), .val (.ref b138), .val (.ref b142), .val (.long ((0 : Int64) + (1 : Int64))), .second, .val (.long (0 : Int64)), .second, .val (.long (0 : Int64)), .second] [(.long (0 : Int64))])) _
        refine XS.lloadN X155.here hx rfl (hb hby at_159) rfl ?_
        show Steps p.tables e below (T155.setTop (mkF m 160 #[.val (.long q0), .second, .val (.long q2), .second, .val (.long q4), .second, .val (.long q6), .second, .val (.int p8), .val (.int (0 : Int32)), .val (.int (1 : Int32)), .val (.int (b2i b3)), .val (.int (b2i b4)), .val (.ref b135), .val (.ref b138), .val (.ref b142), .val (.long ((0 : Int64) + (1 : Int64))), .second, .val (.long (0 : Int64)), .second, .val (.long (0 : Int64)), .second] [(.long q0), (.long (0 : Int64))])) _
        refine XS.ladd X155.here hx rfl (hb hby at_160) rfl ?_
        show Steps p.tables e below (T155.setTop (mkF m 161 #[.val (.long q0), .second, .val (.long q2), .second, .val (.long q4), .second, .val (.long q6), .second, .val (.int p8), .val (.int (0 : Int32)), .val (.int (1 : Int32)), .val (.int (b2i b3)), .val (.int (b2i b4)), .val (.ref b135), .val (.ref b138), .val (.ref b142), .val (.long ((0 : Int64) + (1 : Int64))), .second, .val (.long (0 : Int64)), .second, .val (.long (0 : Int64)), .second] [(.long ((0 : Int64) + q0))])) _
        refine XS.lstore X155.here hx rfl (hb hby at_161) rfl (l' := #[.val (.long q0), .second, .val (.long q2), .second, .val (.long q4), .second, .val (.long q6), .second, .val (.int p8), .val (.int (0 : Int32)), .val (.int (1 : Int32)), .val (.int (b2i b3)), .val (.int (b2i b4)), .val (.ref b135), .val (.ref b138), .val (.ref b142), .val (.long ((0 : Int64) + (1 : Int64))), .second, .val (.long (0 : Int64)), .second, .val (.long ((0 : Int64) + q0)), .second]) rfl ?_
        show Steps p.tables e below (T155.setTop (mkF m 163 #[.val (.long q0), .second, .val (.long q2), .second, .val (.long q4), .second, .val (.long q6), .second, .val (.int p8), .val (.int (0 : Int32)), .val (.int (1 : Int32)), .val (.int (b2i b3)), .val (.int (b2i b4)), .val (.ref b135), .val (.ref b138), .val (.ref b142), .val (.long ((0 : Int64) + (1 : Int64))), .second, .val (.long (0 : Int64)), .second, .val (.long ((0 : Int64) + q0)), .second] [])) _
        refine XS.iload X155.here hx rfl (hb hby at_163) rfl ?_
        show Steps p.tables e below (T155.setTop (mkF m 165 #[.val (.long q0), .second, .val (.long q2), .second, .val (.long q4), .second, .val (.long q6), .second, .val (.int p8), .val (.int (0 : Int32)), .val (.int (1 : Int32)), .val (.int (b2i b3)), .val (.int (b2i b4)), .val (.ref b135), .val (.ref b138), .val (.ref b142), .val (.long ((0 : Int64) + (1 : Int64))), .second, .val (.long (0 : Int64)), .second, .val (.long ((0 : Int64) + q0)), .second] [(.int (1 : Int32))])) _
        refine XS.ifNo X155.here hx rfl (hb hby at_165) rfl (own_f (i0_eq _) (by decide)) ?_
        show Steps p.tables e below (T155.setTop (mkF m 168 #[.val (.long q0), .second, .val (.long q2), .second, .val (.long q4), .second, .val (.long q6), .second, .val (.int p8), .val (.int (0 : Int32)), .val (.int (1 : Int32)), .val (.int (b2i b3)), .val (.int (b2i b4)), .val (.ref b135), .val (.ref b138), .val (.ref b142), .val (.long ((0 : Int64) + (1 : Int64))), .second, .val (.long (0 : Int64)), .second, .val (.long ((0 : Int64) + q0)), .second] [])) _
        refine XS.lload X155.here hx rfl (hb hby at_168) rfl ?_
        show Steps p.tables e below (T155.setTop (mkF m 170 #[.val (.long q0), .second, .val (.long q2), .second, .val (.long q4), .second, .val (.long q6), .second, .val (.int p8), .val (.int (0 : Int32)), .val (.int (1 : Int32)), .val (.int (b2i b3)), .val (.int (b2i b4)), .val (.ref b135), .val (.ref b138), .val (.ref b142), .val (.long ((0 : Int64) + (1 : Int64))), .second, .val (.long (0 : Int64)), .second, .val (.long ((0 : Int64) + q0)), .second] [(.long (0 : Int64))])) _
        refine XS.lconst X155.here hx rfl (hb hby at_170) ?_
        show Steps p.tables e below (T155.setTop (mkF m 171 #[.val (.long q0), .second, .val (.long q2), .second, .val (.long q4), .second, .val (.long q6), .second, .val (.int p8), .val (.int (0 : Int32)), .val (.int (1 : Int32)), .val (.int (b2i b3)), .val (.int (b2i b4)), .val (.ref b135), .val (.ref b138), .val (.ref b142), .val (.long ((0 : Int64) + (1 : Int64))), .second, .val (.long (0 : Int64)), .second, .val (.long ((0 : Int64) + q0)), .second] [(.long (1 : Int64)), (.long (0 : Int64))])) _
        refine XS.ladd X155.here hx rfl (hb hby at_171) rfl ?_
        show Steps p.tables e below (T155.setTop (mkF m 172 #[.val (.long q0), .second, .val (.long q2), .second, .val (.long q4), .second, .val (.long q6), .second, .val (.int p8), .val (.int (0 : Int32)), .val (.int (1 : Int32)), .val (.int (b2i b3)), .val (.int (b2i b4)), .val (.ref b135), .val (.ref b138), .val (.ref b142), .val (.long ((0 : Int64) + (1 : Int64))), .second, .val (.long (0 : Int64)), .second, .val (.long ((0 : Int64) + q0)), .second] [(.long ((0 : Int64) + (1 : Int64)))])) _
        refine XS.lstore X155.here hx rfl (hb hby at_172) rfl (l' := #[.val (.long q0), .second, .val (.long q2), .second, .val (.long q4), .second, .val (.long q6), .second, .val (.int p8), .val (.int (0 : Int32)), .val (.int (1 : Int32)), .val (.int (b2i b3)), .val (.int (b2i b4)), .val (.ref b135), .val (.ref b138), .val (.ref b142), .val (.long ((0 : Int64) + (1 : Int64))), .second, .val (.long ((0 : Int64) + (1 : Int64))), .second, .val (.long ((0 : Int64) + q0)), .second]) rfl ?_
        show Steps p.tables e below (T155.setTop (mkF m 174 #[.val (.long q0), .second, .val (.long q2), .second, .val (.long q4), .second, .val (.long q6), .second, .val (.int p8), .val (.int (0 : Int32)), .val (.int (1 : Int32)), .val (.int (b2i b3)), .val (.int (b2i b4)), .val (.ref b135), .val (.ref b138), .val (.ref b142), .val (.long ((0 : Int64) + (1 : Int64))), .second, .val (.long ((0 : Int64) + (1 : Int64))), .second, .val (.long ((0 : Int64) + q0)), .second] [])) _
        refine XS.goto X155.here hx rfl (pc0 := 174) (pc' := 189) rfl (hb hby at_174) (by decide) (by decide) ?_
        show Steps p.tables e below (T155.setTop (mkF m 189 #[.val (.long q0), .second, .val (.long q2), .second, .val (.long q4), .second, .val (.long q6), .second, .val (.int p8), .val (.int (0 : Int32)), .val (.int (1 : Int32)), .val (.int (b2i b3)), .val (.int (b2i b4)), .val (.ref b135), .val (.ref b138), .val (.ref b142), .val (.long ((0 : Int64) + (1 : Int64))), .second, .val (.long ((0 : Int64) + (1 : Int64))), .second, .val (.long ((0 : Int64) + q0)), .second] [])) _
        refine XS.aload X155.here hx rfl (hb hby at_189) rfl rfl ?_
        show Steps p.tables e below (T155.setTop (mkF m 191 #[.val (.long q0), .second, .val (.long q2), .second, .val (.long q4), .second, .val (.long q6), .second, .val (.int p8), .val (.int (0 : Int32)), .val (.int (1 : Int32)), .val (.int (b2i b3)), .val (.int (b2i b4)), .val (.ref b135), .val (.ref b138), .val (.ref b142), .val (.long ((0 : Int64) + (1 : Int64))), .second, .val (.long ((0 : Int64) + (1 : Int64))), .second, .val (.long ((0 : Int64) + q0)), .second] [(.ref b142)])) _
        refine st162 _ ?_
        show Steps p.tables e below (T162.setTop (mkF m 194 #[.val (.long q0), .second, .val (.long q2), .second, .val (.long q4), .second, .val (.long q6), .second, .val (.int p8), .val (.int (0 : Int32)), .val (.int (1 : Int32)), .val (.int (b2i b3)), .val (.int (b2i b4)), .val (.ref b135), .val (.ref b138), .val (.ref b142), .val (.long ((0 : Int64) + (1 : Int64))), .second, .val (.long ((0 : Int64) + (1 : Int64))), .second, .val (.long ((0 : Int64) + q0)), .second] [(.long ((0 : Int64) + (1 : Int64)))])) _
        refine XS.lload X162.here hx rfl (hb hby at_194) rfl ?_
        show Steps p.tables e below (T162.setTop (mkF m 196 #[.val (.long q0), .second, .val (.long q2), .second, .val (.long q4), .second, .val (.long q6), .second, .val (.int p8), .val (.int (0 : Int32)), .val (.int (1 : Int32)), .val (.int (b2i b3)), .val (.int (b2i b4)), .val (.ref b135), .val (.ref b138), .val (.ref b142), .val (.long ((0 : Int64) + (1 : Int64))), .second, .val (.long ((0 : Int64) + (1 : Int64))), .second, .val (.long ((0 : Int64) + q0)), .second] [(.long ((0 : Int64) + (1 : Int64))), (.long ((0 : Int64) + (1 : Int64)))])) _
        refine XS.lcmp X162.here hx rfl (hb hby at_196) rfl ?_
        exact kt
      obtain ⟨v164, T164, L164, X164, q164, st164⟩ := own_callV X162 hx hZ (y := (⟨"com/example/stackledger/stackledger/Cleanup$Tally", "skipped", "()J"⟩ : MethodName)) (z := (⟨"com/example/stackledger/stackledger/Cleanup$Tally", "skipped", "()J"⟩ : MethodName)) hown (hw _ (List.mem_of_getElem? (i := 63) rfl)) (hw _ (List.mem_of_getElem? (i := 64) rfl)) (notFace_of_selects (args := #[]) (mvT hZ (hw _ (List.mem_of_getElem? (i := 66) rfl)))) (hw _ (List.mem_of_getElem? (i := 66) rfl)) (hw _ (List.mem_of_getElem? (i := 65) rfl)) (hw _ (List.mem_of_getElem? (i := 35) rfl)) (hw _ (List.mem_of_getElem? (i := 67) rfl)) (by decide) E155q (hM := (rm8 l Z a0 hw [] b142 ((0 : Int64) + (1 : Int64)) T155.heap n0 z163 B155q)) (by decide) (by decide) (by decide) (by decide) e162 (argsL := []) (rest := []) (Ls := #[.val (.long q0), .second, .val (.long q2), .second, .val (.long q4), .second, .val (.long q6), .second, .val (.int p8), .val (.int (0 : Int32)), .val (.int (1 : Int32)), .val (.int (b2i b3)), .val (.int (b2i b4)), .val (.ref b135), .val (.ref b138), .val (.ref b142), .val (.long ((0 : Int64) + (1 : Int64))), .second, .val (.long ((0 : Int64) + (1 : Int64))), .second, .val (.long ((0 : Int64) + q0)), .second]) (by rw [hml]; rfl) (lenOf pd___J rfl) (W := 0) (Nat.le_of_eq rfl) (hb hby at_202)
      obtain ⟨rfl, N164q, e164⟩ := q164
      have N164 := Fr.app N162 N164q
      obtain ⟨v165, T165, L165, X165, q165, st165⟩ := own_callV X164 hx hZ (y := (⟨"com/example/stackledger/stackledger/Cleanup$Tally", "balanceCents", "()J"⟩ : MethodName)) (z := (⟨"com/example/stackledger/stackledger/Cleanup$Tally", "balanceCents", "()J"⟩ : MethodName)) hown (hw _ (List.mem_of_getElem? (i := 68) rfl)) (hw _ (List.mem_of_getElem? (i := 69) rfl)) (notFace_of_selects (args := #[]) (mvT hZ (hw _ (List.mem_of_getElem? (i := 71) rfl)))) (hw _ (List.mem_of_getElem? (i := 71) rfl)) (hw _ (List.mem_of_getElem? (i := 70) rfl)) (hw _ (List.mem_of_getElem? (i := 35) rfl)) (hw _ (List.mem_of_getElem? (i := 72) rfl)) (by decide) E155q (hM := (rm9 l Z a0 hw [] b142 ((0 : Int64) + q0) T155.heap n0 z163 C155q)) (by decide) (by decide) (by decide) (by decide) e164 (argsL := []) (rest := []) (Ls := #[.val (.long q0), .second, .val (.long q2), .second, .val (.long q4), .second, .val (.long q6), .second, .val (.int p8), .val (.int (0 : Int32)), .val (.int (1 : Int32)), .val (.int (b2i b3)), .val (.int (b2i b4)), .val (.ref b135), .val (.ref b138), .val (.ref b142), .val (.long ((0 : Int64) + (1 : Int64))), .second, .val (.long ((0 : Int64) + (1 : Int64))), .second, .val (.long ((0 : Int64) + q0)), .second]) (by rw [hml]; rfl) (lenOf pd___J rfl) (W := 0) (Nat.le_of_eq rfl) (hb hby at_213)
      obtain ⟨rfl, N165q, e165⟩ := q165
      have N165 := Fr.app N164 N165q
      refine Gl.fin X165 (v := some (.int (1 : Int32))) (fun h => by rw [Bd.returns] at h; cases h) Bd.notSynchronized ?_ e165 (by decide) (by decide) (fun fs hr => ?_)
      · exact ⟨rfl, N165⟩
      · show Steps p.tables e below (T162.setTop (mkF m 197 #[.val (.long q0), .second, .val (.long q2), .second, .val (.long q4), .second, .val (.long q6), .second, .val (.int p8), .val (.int (0 : Int32)), .val (.int (1 : Int32)), .val (.int (b2i b3)), .val (.int (b2i b4)), .val (.ref b135), .val (.ref b138), .val (.ref b142), .val (.long ((0 : Int64) + (1 : Int64))), .second, .val (.long ((0 : Int64) + (1 : Int64))), .second, .val (.long ((0 : Int64) + q0)), .second] [(.int (lcmpW ((0 : Int64) + (1 : Int64)) ((0 : Int64) + (1 : Int64))))])) _
        refine XS.ifNo X162.here hx rfl (hb hby at_197) rfl (own_nf (l0_ne _ _) rfl) ?_
        show Steps p.tables e below (T162.setTop (mkF m 200 #[.val (.long q0), .second, .val (.long q2), .second, .val (.long q4), .second, .val (.long q6), .second, .val (.int p8), .val (.int (0 : Int32)), .val (.int (1 : Int32)), .val (.int (b2i b3)), .val (.int (b2i b4)), .val (.ref b135), .val (.ref b138), .val (.ref b142), .val (.long ((0 : Int64) + (1 : Int64))), .second, .val (.long ((0 : Int64) + (1 : Int64))), .second, .val (.long ((0 : Int64) + q0)), .second] [])) _
        refine XS.aload X162.here hx rfl (hb hby at_200) rfl rfl ?_
        show Steps p.tables e below (T162.setTop (mkF m 202 #[.val (.long q0), .second, .val (.long q2), .second, .val (.long q4), .second, .val (.long q6), .second, .val (.int p8), .val (.int (0 : Int32)), .val (.int (1 : Int32)), .val (.int (b2i b3)), .val (.int (b2i b4)), .val (.ref b135), .val (.ref b138), .val (.ref b142), .val (.long ((0 : Int64) + (1 : Int64))), .second, .val (.long ((0 : Int64) + (1 : Int64))), .second, .val (.long ((0 : Int64) + q0)), .second] [(.ref b142)])) _
        refine st164 _ ?_
        show Steps p.tables e below (T164.setTop (mkF m 205 #[.val (.long q0), .second, .val (.long q2), .second, .val (.long q4), .second, .val (.long q6), .second, .val (.int p8), .val (.int (0 : Int32)), .val (.int (1 : Int32)), .val (.int (b2i b3)), .val (.int (b2i b4)), .val (.ref b135), .val (.ref b138), .val (.ref b142), .val (.long ((0 : Int64) + (1 : Int64))), .second, .val (.long ((0 : Int64) + (1 : Int64))), .second, .val (.long ((0 : Int64) + q0)), .second] [(.long ((0 : Int64) + (1 : Int64)))])) _
        refine XS.lload X164.here hx rfl (hb hby at_205) rfl ?_
        show Steps p.tables e below (T164.setTop (mkF m 207 #[.val (.long q0), .second, .val (.long q2), .second, .val (.long q4), .second, .val (.long q6), .second, .val (.int p8), .val (.int (0 : Int32)), .val (.int (1 : Int32)), .val (.int (b2i b3)), .val (.int (b2i b4)), .val (.ref b135), .val (.ref b138), .val (.ref b142), .val (.long ((0 : Int64) + (1 : Int64))), .second, .val (.long ((0 : Int64) + (1 : Int64))), .second, .val (.long ((0 : Int64) + q0)), .second] [(.long ((0 : Int64) + (1 : Int64))), (.long ((0 : Int64) + (1 : Int64)))])) _
        refine XS.lcmp X164.here hx rfl (hb hby at_207) rfl ?_
        show Steps p.tables e below (T164.setTop (mkF m 208 #[.val (.long q0), .second, .val (.long q2), .second, .val (.long q4), .second, .val (.long q6), .second, .val (.int p8), .val (.int (0 : Int32)), .val (.int (1 : Int32)), .val (.int (b2i b3)), .val (.int (b2i b4)), .val (.ref b135), .val (.ref b138), .val (.ref b142), .val (.long ((0 : Int64) + (1 : Int64))), .second, .val (.long ((0 : Int64) + (1 : Int64))), .second, .val (.long ((0 : Int64) + q0)), .second] [(.int (lcmpW ((0 : Int64) + (1 : Int64)) ((0 : Int64) + (1 : Int64))))])) _
        refine XS.ifNo X164.here hx rfl (hb hby at_208) rfl (own_nf (l0_ne _ _) rfl) ?_
        show Steps p.tables e below (T164.setTop (mkF m 211 #[.val (.long q0), .second, .val (.long q2), .second, .val (.long q4), .second, .val (.long q6), .second, .val (.int p8), .val (.int (0 : Int32)), .val (.int (1 : Int32)), .val (.int (b2i b3)), .val (.int (b2i b4)), .val (.ref b135), .val (.ref b138), .val (.ref b142), .val (.long ((0 : Int64) + (1 : Int64))), .second, .val (.long ((0 : Int64) + (1 : Int64))), .second, .val (.long ((0 : Int64) + q0)), .second] [])) _
        refine XS.aload X164.here hx rfl (hb hby at_211) rfl rfl ?_
        show Steps p.tables e below (T164.setTop (mkF m 213 #[.val (.long q0), .second, .val (.long q2), .second, .val (.long q4), .second, .val (.long q6), .second, .val (.int p8), .val (.int (0 : Int32)), .val (.int (1 : Int32)), .val (.int (b2i b3)), .val (.int (b2i b4)), .val (.ref b135), .val (.ref b138), .val (.ref b142), .val (.long ((0 : Int64) + (1 : Int64))), .second, .val (.long ((0 : Int64) + (1 : Int64))), .second, .val (.long ((0 : Int64) + q0)), .second] [(.ref b142)])) _
        refine st165 _ ?_
        show Steps p.tables e below (T165.setTop (mkF m 216 #[.val (.long q0), .second, .val (.long q2), .second, .val (.long q4), .second, .val (.long q6), .second, .val (.int p8), .val (.int (0 : Int32)), .val (.int (1 : Int32)), .val (.int (b2i b3)), .val (.int (b2i b4)), .val (.ref b135), .val (.ref b138), .val (.ref b142), .val (.long ((0 : Int64) + (1 : Int64))), .second, .val (.long ((0 : Int64) + (1 : Int64))), .second, .val (.long ((0 : Int64) + q0)), .second] [(.long ((0 : Int64) + q0))])) _
        refine XS.lload X165.here hx rfl (hb hby at_216) rfl ?_
        show Steps p.tables e below (T165.setTop (mkF m 218 #[.val (.long q0), .second, .val (.long q2), .second, .val (.long q4), .second, .val (.long q6), .second, .val (.int p8), .val (.int (0 : Int32)), .val (.int (1 : Int32)), .val (.int (b2i b3)), .val (.int (b2i b4)), .val (.ref b135), .val (.ref b138), .val (.ref b142), .val (.long ((0 : Int64) + (1 : Int64))), .second, .val (.long ((0 : Int64) + (1 : Int64))), .second, .val (.long ((0 : Int64) + q0)), .second] [(.long ((0 : Int64) + q0)), (.long ((0 : Int64) + q0))])) _
        refine XS.lcmp X165.here hx rfl (hb hby at_218) rfl ?_
        show Steps p.tables e below (T165.setTop (mkF m 219 #[.val (.long q0), .second, .val (.long q2), .second, .val (.long q4), .second, .val (.long q6), .second, .val (.int p8), .val (.int (0 : Int32)), .val (.int (1 : Int32)), .val (.int (b2i b3)), .val (.int (b2i b4)), .val (.ref b135), .val (.ref b138), .val (.ref b142), .val (.long ((0 : Int64) + (1 : Int64))), .second, .val (.long ((0 : Int64) + (1 : Int64))), .second, .val (.long ((0 : Int64) + q0)), .second] [(.int (lcmpW ((0 : Int64) + q0) ((0 : Int64) + q0)))])) _
        refine XS.ifNo X165.here hx rfl (hb hby at_219) rfl (own_nf (l0_ne _ _) rfl) ?_
        show Steps p.tables e below (T165.setTop (mkF m 222 #[.val (.long q0), .second, .val (.long q2), .second, .val (.long q4), .second, .val (.long q6), .second, .val (.int p8), .val (.int (0 : Int32)), .val (.int (1 : Int32)), .val (.int (b2i b3)), .val (.int (b2i b4)), .val (.ref b135), .val (.ref b138), .val (.ref b142), .val (.long ((0 : Int64) + (1 : Int64))), .second, .val (.long ((0 : Int64) + (1 : Int64))), .second, .val (.long ((0 : Int64) + q0)), .second] [])) _
        refine XS.iconst X165.here hx rfl (hb hby at_222) ?_
        show Steps p.tables e below (T165.setTop (mkF m 223 #[.val (.long q0), .second, .val (.long q2), .second, .val (.long q4), .second, .val (.long q6), .second, .val (.int p8), .val (.int (0 : Int32)), .val (.int (1 : Int32)), .val (.int (b2i b3)), .val (.int (b2i b4)), .val (.ref b135), .val (.ref b138), .val (.ref b142), .val (.long ((0 : Int64) + (1 : Int64))), .second, .val (.long ((0 : Int64) + (1 : Int64))), .second, .val (.long ((0 : Int64) + q0)), .second] [(.int (1 : Int32))])) _
        refine XS.goto X165.here hx rfl (pc0 := 223) (pc' := 227) rfl (hb hby at_223) (by decide) (by decide) ?_
        show Steps p.tables e below (T165.setTop (mkF m 227 #[.val (.long q0), .second, .val (.long q2), .second, .val (.long q4), .second, .val (.long q6), .second, .val (.int p8), .val (.int (0 : Int32)), .val (.int (1 : Int32)), .val (.int (b2i b3)), .val (.int (b2i b4)), .val (.ref b135), .val (.ref b138), .val (.ref b142), .val (.long ((0 : Int64) + (1 : Int64))), .second, .val (.long ((0 : Int64) + (1 : Int64))), .second, .val (.long ((0 : Int64) + q0)), .second] [(.int (1 : Int32))])) _
        exact retN X165 hx (t := .boolean) Bd.returns (by simp) (hb hby at_227) hr
  · refine Gl.pre (S' := s₁.setTop (mkF m 18 #[.val (.long q0), .second, .val (.long q2), .second, .val (.long q4), .second, .val (.long q6), .second, .val (.int p8), .val (.int (1 : Int32)), .unset, .unset, .unset, .unset, .unset, .unset, .unset, .unset, .unset, .unset, .unset, .unset] [(.int (p8 &&& (2 : Int32)))])) (fun t kt => ?_) ?_
    · show Steps p.tables e below (s₁.setTop (mkF m 4 #[.val (.long q0), .second, .val (.long q2), .second, .val (.long q4), .second, .val (.long q6), .second, .val (.int p8), .unset, .unset, .unset, .unset, .unset, .unset, .unset, .unset, .unset, .unset, .unset, .unset, .unset] [(.int (p8 &&& (1 : Int32)))])) _
      refine XS.ifNo X0.here hx rfl (hb hby at_4) rfl (own_f (i0_eq _) hc4) ?_
      show Steps p.tables e below (s₁.setTop (mkF m 7 #[.val (.long q0), .second, .val (.long q2), .second, .val (.long q4), .second, .val (.long q6), .second, .val (.int p8), .unset, .unset, .unset, .unset, .unset, .unset, .unset, .unset, .unset, .unset, .unset, .unset, .unset] [])) _
      refine XS.iconst X0.here hx rfl (hb hby at_7) ?_
      show Steps p.tables e below (s₁.setTop (mkF m 8 #[.val (.long q0), .second, .val (.long q2), .second, .val (.long q4), .second, .val (.long q6), .second, .val (.int p8), .unset, .unset, .unset, .unset, .unset, .unset, .unset, .unset, .unset, .unset, .unset, .unset, .unset] [(.int (1 : Int32))])) _
      refine XS.goto X0.here hx rfl (pc0 := 8) (pc' := 12) rfl (hb hby at_8) (by decide) (by decide) ?_
      show Steps p.tables e below (s₁.setTop (mkF m 12 #[.val (.long q0), .second, .val (.long q2), .second, .val (.long q4), .second, .val (.long q6), .second, .val (.int p8), .unset, .unset, .unset, .unset, .unset, .unset, .unset, .unset, .unset, .unset, .unset, .unset, .unset] [(.int (1 : Int32))])) _
      refine XS.istore X0.here hx rfl (hb hby at_12) rfl (l' := #[.val (.long q0), .second, .val (.long q2), .second, .val (.long q4), .second, .val (.long q6), .second, .val (.int p8), .val (.int (1 : Int32)), .unset, .unset, .unset, .unset, .unset, .unset, .unset, .unset, .unset, .unset, .unset, .unset]) rfl ?_
      show Steps p.tables e below (s₁.setTop (mkF m 14 #[.val (.long q0), .second, .val (.long q2), .second, .val (.long q4), .second, .val (.long q6), .second, .val (.int p8), .val (.int (1 : Int32)), .unset, .unset, .unset, .unset, .unset, .unset, .unset, .unset, .unset, .unset, .unset, .unset] [])) _
      refine XS.iload X0.here hx rfl (hb hby at_14) rfl ?_
      show Steps p.tables e below (s₁.setTop (mkF m 16 #[.val (.long q0), .second, .val (.long q2), .second, .val (.long q4), .second, .val (.long q6), .second, .val (.int p8), .val (.int (1 : Int32)), .unset, .unset, .unset, .unset, .unset, .unset, .unset, .unset, .unset, .unset, .unset, .unset] [(.int p8)])) _
      refine XS.iconst X0.here hx rfl (hb hby at_16) ?_
      show Steps p.tables e below (s₁.setTop (mkF m 17 #[.val (.long q0), .second, .val (.long q2), .second, .val (.long q4), .second, .val (.long q6), .second, .val (.int p8), .val (.int (1 : Int32)), .unset, .unset, .unset, .unset, .unset, .unset, .unset, .unset, .unset, .unset, .unset, .unset] [(.int (2 : Int32)), (.int p8)])) _
      refine XS.iand X0.here hx rfl (hb hby at_17) rfl ?_
      exact kt
    by_cases hc18 : (p8 &&& (2 : Int32)) = (0 : Int32)
    · refine Gl.pre (S' := s₁.setTop (mkF m 32 #[.val (.long q0), .second, .val (.long q2), .second, .val (.long q4), .second, .val (.long q6), .second, .val (.int p8), .val (.int (1 : Int32)), .val (.int (0 : Int32)), .unset, .unset, .unset, .unset, .unset, .unset, .unset, .unset, .unset, .unset, .unset] [(.int (p8 &&& (4 : Int32)))])) (fun t kt => ?_) ?_
      · show Steps p.tables e below (s₁.setTop (mkF m 18 #[.val (.long q0), .second, .val (.long q2), .second, .val (.long q4), .second, .val (.long q6), .second, .val (.int p8), .val (.int (1 : Int32)), .unset, .unset, .unset, .unset, .unset, .unset, .unset, .unset, .unset, .unset, .unset, .unset] [(.int (p8 &&& (2 : Int32)))])) _
        refine XS.ifYes X0.here hx rfl (pc0 := 18) (pc' := 25) rfl (hb hby at_18) rfl (own_t (i0_eq _) hc18) (by decide) (by decide) ?_
        show Steps p.tables e below (s₁.setTop (mkF m 25 #[.val (.long q0), .second, .val (.long q2), .second, .val (.long q4), .second, .val (.long q6), .second, .val (.int p8), .val (.int (1 : Int32)), .unset, .unset, .unset, .unset, .unset, .unset, .unset, .unset, .unset, .unset, .unset, .unset] [])) _
        refine XS.iconst X0.here hx rfl (hb hby at_25) ?_
        show Steps p.tables e below (s₁.setTop (mkF m 26 #[.val (.long q0), .second, .val (.long q2), .second, .val (.long q4), .second, .val (.long q6), .second, .val (.int p8), .val (.int (1 : Int32)), .unset, .unset, .unset, .unset, .unset, .unset, .unset, .unset, .unset, .unset, .unset, .unset] [(.int (0 : Int32))])) _
        refine XS.istore X0.here hx rfl (hb hby at_26) rfl (l' := #[.val (.long q0), .second, .val (.long q2), .second, .val (.long q4), .second, .val (.long q6), .second, .val (.int p8), .val (.int (1 : Int32)), .val (.int (0 : Int32)), .unset, .unset, .unset, .unset, .unset, .unset, .unset, .unset, .unset, .unset, .unset]) rfl ?_
        show Steps p.tables e below (s₁.setTop (mkF m 28 #[.val (.long q0), .second, .val (.long q2), .second, .val (.long q4), .second, .val (.long q6), .second, .val (.int p8), .val (.int (1 : Int32)), .val (.int (0 : Int32)), .unset, .unset, .unset, .unset, .unset, .unset, .unset, .unset, .unset, .unset, .unset] [])) _
        refine XS.iload X0.here hx rfl (hb hby at_28) rfl ?_
        show Steps p.tables e below (s₁.setTop (mkF m 30 #[.val (.long q0), .second, .val (.long q2), .second, .val (.long q4), .second, .val (.long q6), .second, .val (.int p8), .val (.int (1 : Int32)), .val (.int (0 : Int32)), .unset, .unset, .unset, .unset, .unset, .unset, .unset, .unset, .unset, .unset, .unset] [(.int p8)])) _
        refine XS.iconst X0.here hx rfl (hb hby at_30) ?_
        show Steps p.tables e below (s₁.setTop (mkF m 31 #[.val (.long q0), .second, .val (.long q2), .second, .val (.long q4), .second, .val (.long q6), .second, .val (.int p8), .val (.int (1 : Int32)), .val (.int (0 : Int32)), .unset, .unset, .unset, .unset, .unset, .unset, .unset, .unset, .unset, .unset, .unset] [(.int (4 : Int32)), (.int p8)])) _
        refine XS.iand X0.here hx rfl (hb hby at_31) rfl ?_
        exact kt
      refine Gl.pre (S' := s₁.setTop (mkF m 40 #[.val (.long q0), .second, .val (.long q2), .second, .val (.long q4), .second, .val (.long q6), .second, .val (.int p8), .val (.int (1 : Int32)), .val (.int (0 : Int32)), .unset, .unset, .unset, .unset, .unset, .unset, .unset, .unset, .unset, .unset, .unset] [(.int (b2i (decide (¬ (p8 &&& (4 : Int32)) = (0 : Int32)))))])) (fun t kt => ?_) ?_
      · by_cases hc32 : (p8 &&& (4 : Int32)) = (0 : Int32)
        · show Steps p.tables e below (s₁.setTop (mkF m 32 #[.val (.long q0), .second, .val (.long q2), .second, .val (.long q4), .second, .val (.long q6), .second, .val (.int p8), .val (.int (1 : Int32)), .val (.int (0 : Int32)), .unset, .unset, .unset, .unset, .unset, .unset, .unset, .unset, .unset, .unset, .unset] [(.int (p8 &&& (4 : Int32)))])) _
          refine XS.ifYes X0.here hx rfl (pc0 := 32) (pc' := 39) rfl (hb hby at_32) rfl (own_t (i0_eq _) hc32) (by decide) (by decide) ?_
          show Steps p.tables e below (s₁.setTop (mkF m 39 #[.val (.long q0), .second, .val (.long q2), .second, .val (.long q4), .second, .val (.long q6), .second, .val (.int p8), .val (.int (1 : Int32)), .val (.int (0 : Int32)), .unset, .unset, .unset, .unset, .unset, .unset, .unset, .unset, .unset, .unset, .unset] [])) _
          refine XS.iconst X0.here hx rfl (hb hby at_39) ?_
          rw [(by simp [b2i, hc32] : (b2i (decide (¬ (p8 &&& (4 : Int32)) = (0 : Int32)))) = (0 : Int32))] at kt
          exact kt
        · show Steps p.tables e below (s₁.setTop (mkF m 32 #[.val (.long q0), .second, .val (.long q2), .second, .val (.long q4), .second, .val (.long q6), .second, .val (.int p8), .val (.int (1 : Int32)), .val (.int (0 : Int32)), .unset, .unset, .unset, .unset, .unset, .unset, .unset, .unset, .unset, .unset, .unset] [(.int (p8 &&& (4 : Int32)))])) _
          refine XS.ifNo X0.here hx rfl (hb hby at_32) rfl (own_f (i0_eq _) hc32) ?_
          show Steps p.tables e below (s₁.setTop (mkF m 35 #[.val (.long q0), .second, .val (.long q2), .second, .val (.long q4), .second, .val (.long q6), .second, .val (.int p8), .val (.int (1 : Int32)), .val (.int (0 : Int32)), .unset, .unset, .unset, .unset, .unset, .unset, .unset, .unset, .unset, .unset, .unset] [])) _
          refine XS.iconst X0.here hx rfl (hb hby at_35) ?_
          show Steps p.tables e below (s₁.setTop (mkF m 36 #[.val (.long q0), .second, .val (.long q2), .second, .val (.long q4), .second, .val (.long q6), .second, .val (.int p8), .val (.int (1 : Int32)), .val (.int (0 : Int32)), .unset, .unset, .unset, .unset, .unset, .unset, .unset, .unset, .unset, .unset, .unset] [(.int (1 : Int32))])) _
          refine XS.goto X0.here hx rfl (pc0 := 36) (pc' := 40) rfl (hb hby at_36) (by decide) (by decide) ?_
          rw [(by simp [b2i, hc32] : (b2i (decide (¬ (p8 &&& (4 : Int32)) = (0 : Int32)))) = (1 : Int32))] at kt
          exact kt
      obtain ⟨b3, h_b3⟩ : ∃ z : Bool, z = (decide (¬ (p8 &&& (4 : Int32)) = (0 : Int32))) := ⟨_, rfl⟩
      rw [← h_b3]
      refine Gl.pre (S' := s₁.setTop (mkF m 47 #[.val (.long q0), .second, .val (.long q2), .second, .val (.long q4), .second, .val (.long q6), .second, .val (.int p8), .val (.int (1 : Int32)), .val (.int (0 : Int32)), .val (.int (b2i b3)), .unset, .unset, .unset, .unset, .unset, .unset, .unset, .unset, .unset, .unset] [(.int (p8 &&& (8 : Int32)))])) (fun t kt => ?_) ?_
      · show Steps p.tables e below (s₁.setTop (mkF m 40 #[.val (.long q0), .second, .val (.long q2), .second, .val (.long q4), .second, .val (.long q6), .second, .val (.int p8), .val (.int (1 : Int32)), .val (.int (0 : Int32)), .unset, .unset, .unset, .unset, .unset, .unset, .unset, .unset, .unset, .unset, .unset] [(.int (b2i b3))])) _
        refine XS.istore X0.here hx rfl (hb hby at_40) rfl (l' := #[.val (.long q0), .second, .val (.long q2), .second, .val (.long q4), .second, .val (.long q6), .second, .val (.int p8), .val (.int (1 : Int32)), .val (.int (0 : Int32)), .val (.int (b2i b3)), .unset, .unset, .unset, .unset, .unset, .unset, .unset, .unset, .unset, .unset]) rfl ?_
        show Steps p.tables e below (s₁.setTop (mkF m 42 #[.val (.long q0), .second, .val (.long q2), .second, .val (.long q4), .second, .val (.long q6), .second, .val (.int p8), .val (.int (1 : Int32)), .val (.int (0 : Int32)), .val (.int (b2i b3)), .unset, .unset, .unset, .unset, .unset, .unset, .unset, .unset, .unset, .unset] [])) _
        refine XS.iload X0.here hx rfl (hb hby at_42) rfl ?_
        show Steps p.tables e below (s₁.setTop (mkF m 44 #[.val (.long q0), .second, .val (.long q2), .second, .val (.long q4), .second, .val (.long q6), .second, .val (.int p8), .val (.int (1 : Int32)), .val (.int (0 : Int32)), .val (.int (b2i b3)), .unset, .unset, .unset, .unset, .unset, .unset, .unset, .unset, .unset, .unset] [(.int p8)])) _
        refine XS.bipush X0.here hx rfl (hb hby at_44) ?_
        show Steps p.tables e below (s₁.setTop (mkF m 46 #[.val (.long q0), .second, .val (.long q2), .second, .val (.long q4), .second, .val (.long q6), .second, .val (.int p8), .val (.int (1 : Int32)), .val (.int (0 : Int32)), .val (.int (b2i b3)), .unset, .unset, .unset, .unset, .unset, .unset, .unset, .unset, .unset, .unset] [(.int (8 : Int32)), (.int p8)])) _
        refine XS.iand X0.here hx rfl (hb hby at_46) rfl ?_
        exact kt
      refine Gl.pre (S' := s₁.setTop (mkF m 55 #[.val (.long q0), .second, .val (.long q2), .second, .val (.long q4), .second, .val (.long q6), .second, .val (.int p8), .val (.int (1 : Int32)), .val (.int (0 : Int32)), .val (.int (b2i b3)), .unset, .unset, .unset, .unset, .unset, .unset, .unset, .unset, .unset, .unset] [(.int (b2i (decide (¬ (p8 &&& (8 : Int32)) = (0 : Int32)))))])) (fun t kt => ?_) ?_
      · by_cases hc47 : (p8 &&& (8 : Int32)) = (0 : Int32)
        · show Steps p.tables e below (s₁.setTop (mkF m 47 #[.val (.long q0), .second, .val (.long q2), .second, .val (.long q4), .second, .val (.long q6), .second, .val (.int p8), .val (.int (1 : Int32)), .val (.int (0 : Int32)), .val (.int (b2i b3)), .unset, .unset, .unset, .unset, .unset, .unset, .unset, .unset, .unset, .unset] [(.int (p8 &&& (8 : Int32)))])) _
          refine XS.ifYes X0.here hx rfl (pc0 := 47) (pc' := 54) rfl (hb hby at_47) rfl (own_t (i0_eq _) hc47) (by decide) (by decide) ?_
          show Steps p.tables e below (s₁.setTop (mkF m 54 #[.val (.long q0), .second, .val (.long q2), .second, .val (.long q4), .second, .val (.long q6), .second, .val (.int p8), .val (.int (1 : Int32)), .val (.int (0 : Int32)), .val (.int (b2i b3)), .unset, .unset, .unset, .unset, .unset, .unset, .unset, .unset, .unset, .unset] [])) _
          refine XS.iconst X0.here hx rfl (hb hby at_54) ?_
          rw [(by simp [b2i, hc47] : (b2i (decide (¬ (p8 &&& (8 : Int32)) = (0 : Int32)))) = (0 : Int32))] at kt
          exact kt
        · show Steps p.tables e below (s₁.setTop (mkF m 47 #[.val (.long q0), .second, .val (.long q2), .second, .val (.long q4), .second, .val (.long q6), .second, .val (.int p8), .val (.int (1 : Int32)), .val (.int (0 : Int32)), .val (.int (b2i b3)), .unset, .unset, .unset, .unset, .unset, .unset, .unset, .unset, .unset, .unset] [(.int (p8 &&& (8 : Int32)))])) _
          refine XS.ifNo X0.here hx rfl (hb hby at_47) rfl (own_f (i0_eq _) hc47) ?_
          show Steps p.tables e below (s₁.setTop (mkF m 50 #[.val (.long q0), .second, .val (.long q2), .second, .val (.long q4), .second, .val (.long q6), .second, .val (.int p8), .val (.int (1 : Int32)), .val (.int (0 : Int32)), .val (.int (b2i b3)), .unset, .unset, .unset, .unset, .unset, .unset, .unset, .unset, .unset, .unset] [])) _
          refine XS.iconst X0.here hx rfl (hb hby at_50) ?_
          show Steps p.tables e below (s₁.setTop (mkF m 51 #[.val (.long q0), .second, .val (.long q2), .second, .val (.long q4), .second, .val (.long q6), .second, .val (.int p8), .val (.int (1 : Int32)), .val (.int (0 : Int32)), .val (.int (b2i b3)), .unset, .unset, .unset, .unset, .unset, .unset, .unset, .unset, .unset, .unset] [(.int (1 : Int32))])) _
          refine XS.goto X0.here hx rfl (pc0 := 51) (pc' := 55) rfl (hb hby at_51) (by decide) (by decide) ?_
          rw [(by simp [b2i, hc47] : (b2i (decide (¬ (p8 &&& (8 : Int32)) = (0 : Int32)))) = (1 : Int32))] at kt
          exact kt
      obtain ⟨b4, h_b4⟩ : ∃ z : Bool, z = (decide (¬ (p8 &&& (8 : Int32)) = (0 : Int32))) := ⟨_, rfl⟩
      rw [← h_b4]
      obtain ⟨T166, h166, X166, e166, E166, A166, D166, -, st166⟩ := newO X0 hx hZ hown (hw _ (List.mem_of_getElem? (i := 0) rfl)) (hw _ (List.mem_of_getElem? (i := 1) rfl)) (hw _ (List.mem_of_getElem? (i := 2) rfl)) e0 (g := (mkF m 57 #[.val (.long q0), .second, .val (.long q2), .second, .val (.long q4), .second, .val (.long q6), .second, .val (.int p8), .val (.int (1 : Int32)), .val (.int (0 : Int32)), .val (.int (b2i b3)), .val (.int (b2i b4)), .unset, .unset, .unset, .unset, .unset, .unset, .unset, .unset, .unset] [])) rfl (hb hby at_57) (by decide) (by decide)
      obtain ⟨b166, g166⟩ : ∃ z, z = h0.size := ⟨_, rfl⟩
      have g_b166 : n0 ≤ b166 := Nat.le_trans Z0 (Nat.le_of_eq g166.symm)
      have sz_b166 : h0.size ≤ b166 := Nat.le_trans K0.1 (Nat.le_of_eq g166.symm)
      rw [← g166] at A166 D166 st166
      have K166 : Keep h0 h166 [] := K0.ext E166
      have F_transaction_b166 : Fld Z h166 b166 "com/example/stackledger/stackledger/Cleanup$Chosen" "transaction" "J" (.long (0 : Int64)) := D166 (Or.inr (hw _ (List.mem_of_getElem? (i := 16) rfl))) (ty := .long) (by decide)
      have F_patron_b166 : Fld Z h166 b166 "com/example/stackledger/stackledger/Cleanup$Chosen" "patron" "J" (.long (0 : Int64)) := D166 (Or.inr (hw _ (List.mem_of_getElem? (i := 18) rfl))) (ty := .long) (by decide)
      have F_org_b166 : Fld Z h166 b166 "com/example/stackledger/stackledger/Cleanup$Chosen" "org" "Ljava/lang/String;" .null := D166 (Or.inr (hw _ (List.mem_of_getElem? (i := 20) rfl))) (ty := (.object "java/lang/String")) (by decide)
      have F_startedAt_b166 : Fld Z h166 b166 "com/example/stackledger/stackledger/Cleanup$Chosen" "startedAt" "J" (.long (0 : Int64)) := D166 (Or.inr (hw _ (List.mem_of_getElem? (i := 22) rfl))) (ty := .long) (by decide)
      have F_finished_b166 : Fld Z h166 b166 "com/example/stackledger/stackledger/Cleanup$Chosen" "finished" "Z" (.int (0 : Int32)) := D166 (Or.inr (hw _ (List.mem_of_getElem? (i := 24) rfl))) (ty := .boolean) (by decide)
      have F_totalPaidCents_b166 : Fld Z h166 b166 "com/example/stackledger/stackledger/Cleanup$Chosen" "totalPaidCents" "J" (.long (0 : Int64)) := D166 (Or.inr (hw _ (List.mem_of_getElem? (i := 26) rfl))) (ty := .long) (by decide)
      have F_balanceCents_b166 : Fld Z h166 b166 "com/example/stackledger/stackledger/Cleanup$Chosen" "balanceCents" "J" (.long (0 : Int64)) := D166 (Or.inr (hw _ (List.mem_of_getElem? (i := 28) rfl))) (ty := .long) (by decide)
      have F_lost_b166 : Fld Z h166 b166 "com/example/stackledger/stackledger/Cleanup$Chosen" "lost" "Z" (.int (0 : Int32)) := D166 (Or.inr (hw _ (List.mem_of_getElem? (i := 30) rfl))) (ty := .boolean) (by decide)
      have z168 : n0 ≤ h166.size := (Nat.le_trans Z0 E166.1)
      obtain ⟨v167, T167, L167, X167, q167, st167⟩ := own_callI X166 hx hZ (y := (⟨"com/example/stackledger/stackledger/Cleanup$Chosen", "<init>", "(JJLjava/lang/String;JZJJZ)V"⟩ : MethodName)) rfl hown (hw _ (List.mem_of_getElem? (i := 4) rfl)) (hw _ (List.mem_of_getElem? (i := 5) rfl)) (hw _ (List.mem_of_getElem? (i := 2) rfl)) (hw _ (List.mem_of_getElem? (i := 6) rfl)) (by decide) (a := b166) (hM := (rm1 l Z a0 hw [] b166 (1 : Int64) (2 : Int64) q6 q4 q0 b3 true h166 n0 z168 g_b166 A166 F_transaction_b166 F_patron_b166 F_org_b166 F_startedAt_b166 F_finished_b166 F_totalPaidCents_b166 F_balanceCents_b166 F_lost_b166)) (by decide) (by decide) (by decide) (by decide) e166 (argsL := [(.long (1 : Int64)), (.long (2 : Int64)), .null, (.long q6), (.int (b2i b3)), (.long q4), (.long q0), (.int (1 : Int32))]) (rest := [(.ref b166)]) (Ls := #[.val (.long q0), .second, .val (.long q2), .second, .val (.long q4), .second, .val (.long q6), .second, .val (.int p8), .val (.int (1 : Int32)), .val (.int (0 : Int32)), .val (.int (b2i b3)), .val (.int (b2i b4)), .unset, .unset, .unset, .unset, .unset, .unset, .unset, .unset, .unset]) (by rw [hml]; rfl) (lenOf pd__JJLjava_lang_String_JZJJZ_V rfl) (W := 1) (Nat.le_of_eq rfl) (hb hby at_75)
      obtain ⟨rfl, N167q, K167q, E167q, P167q, B167q, O167q⟩ := q167
      have N167 := Fr.app N0 N167q
      have K167 : Keep h0 T167.heap [] := K166.trans K167q (allS (Or.inr sz_b166) all0)
      obtain ⟨T169, h169, X169, e169, E169, A169, D169, -, st169⟩ := newO X167 hx hZ hown (hw _ (List.mem_of_getElem? (i := 0) rfl)) (hw _ (List.mem_of_getElem? (i := 1) rfl)) (hw _ (List.mem_of_getElem? (i := 2) rfl)) rfl (g := (mkF m 80 #[.val (.long q0), .second, .val (.long q2), .second, .val (.long q4), .second, .val (.long q6), .second, .val (.int p8), .val (.int (1 : Int32)), .val (.int (0 : Int32)), .val (.int (b2i b3)), .val (.int (b2i b4)), .val (.ref b166), .unset, .unset, .unset, .unset, .unset, .unset, .unset, .unset] [])) rfl (hb hby at_80) (by decide) (by decide)
      obtain ⟨b169, g169⟩ : ∃ z, z = T167.heap.size := ⟨_, rfl⟩
      have z170 : n0 ≤ T167.heap.size := (Nat.le_trans z168 K167q.1)
      have g_b169 : n0 ≤ b169 := Nat.le_trans z170 (Nat.le_of_eq g169.symm)
      have sz_b169 : h0.size ≤ b169 := Nat.le_trans K167.1 (Nat.le_of_eq g169.symm)
      rw [← g169] at A169 D169 st169
      have K169 : Keep h0 h169 [] := K167.ext E169
      have F_transaction_b169 : Fld Z h169 b169 "com/example/stackledger/stackledger/Cleanup$Chosen" "transaction" "J" (.long (0 : Int64)) := D169 (Or.inr (hw _ (List.mem_of_getElem? (i := 16) rfl))) (ty := .long) (by decide)
      have F_patron_b169 : Fld Z h169 b169 "com/example/stackledger/stackledger/Cleanup$Chosen" "patron" "J" (.long (0 : Int64)) := D169 (Or.inr (hw _ (List.mem_of_getElem? (i := 18) rfl))) (ty := .long) (by decide)
      have F_org_b169 : Fld Z h169 b169 "com/example/stackledger/stackledger/Cleanup$Chosen" "org" "Ljava/lang/String;" .null := D169 (Or.inr (hw _ (List.mem_of_getElem? (i := 20) rfl))) (ty := (.object "java/lang/String")) (by decide)
      have F_startedAt_b169 : Fld Z h169 b169 "com/example/stackledger/stackledger/Cleanup$Chosen" "startedAt" "J" (.long (0 : Int64)) := D169 (Or.inr (hw _ (List.mem_of_getElem? (i := 22) rfl))) (ty := .long) (by decide)
      have F_finished_b169 : Fld Z h169 b169 "com/example/stackledger/stackledger/Cleanup$Chosen" "finished" "Z" (.int (0 : Int32)) := D169 (Or.inr (hw _ (List.mem_of_getElem? (i := 24) rfl))) (ty := .boolean) (by decide)
      have F_totalPaidCents_b169 : Fld Z h169 b169 "com/example/stackledger/stackledger/Cleanup$Chosen" "totalPaidCents" "J" (.long (0 : Int64)) := D169 (Or.inr (hw _ (List.mem_of_getElem? (i := 26) rfl))) (ty := .long) (by decide)
      have F_balanceCents_b169 : Fld Z h169 b169 "com/example/stackledger/stackledger/Cleanup$Chosen" "balanceCents" "J" (.long (0 : Int64)) := D169 (Or.inr (hw _ (List.mem_of_getElem? (i := 28) rfl))) (ty := .long) (by decide)
      have F_lost_b169 : Fld Z h169 b169 "com/example/stackledger/stackledger/Cleanup$Chosen" "lost" "Z" (.int (0 : Int32)) := D169 (Or.inr (hw _ (List.mem_of_getElem? (i := 30) rfl))) (ty := .boolean) (by decide)
      have z172 : n0 ≤ h169.size := (Nat.le_trans z170 E169.1)
      obtain ⟨v171, T171, L171, X171, q171, st171⟩ := own_callI X169 hx hZ (y := (⟨"com/example/stackledger/stackledger/Cleanup$Chosen", "<init>", "(JJLjava/lang/String;JZJJZ)V"⟩ : MethodName)) rfl hown (hw _ (List.mem_of_getElem? (i := 4) rfl)) (hw _ (List.mem_of_getElem? (i := 5) rfl)) (hw _ (List.mem_of_getElem? (i := 2) rfl)) (hw _ (List.mem_of_getElem? (i := 6) rfl)) (by decide) (a := b169) (hM := (rm1 l Z a0 hw [] b169 (3 : Int64) (4 : Int64) q4 q6 q2 b4 false h169 n0 z172 g_b169 A169 F_transaction_b169 F_patron_b169 F_org_b169 F_startedAt_b169 F_finished_b169 F_totalPaidCents_b169 F_balanceCents_b169 F_lost_b169)) (by decide) (by decide) (by decide) (by decide) e169 (argsL := [(.long (3 : Int64)), (.long (4 : Int64)), .null, (.long q4), (.int (b2i b4)), (.long q6), (.long q2), (.int (0 : Int32))]) (rest := [(.ref b169)]) (Ls := #[.val (.long q0), .second, .val (.long q2), .second, .val (.long q4), .second, .val (.long q6), .second, .val (.int p8), .val (.int (1 : Int32)), .val (.int (0 : Int32)), .val (.int (b2i b3)), .val (.int (b2i b4)), .val (.ref b166), .unset, .unset, .unset, .unset, .unset, .unset, .unset, .unset]) (by rw [hml]; rfl) (lenOf pd__JJLjava_lang_String_JZJJZ_V rfl) (W := 1) (Nat.le_of_eq rfl) (hb hby at_100)
      obtain ⟨rfl, N171q, K171q, E171q, P171q, B171q, O171q⟩ := q171
      have N171 := Fr.app N167 N171q
      have K171 : Keep h0 T171.heap [] := K169.trans K171q (allS (Or.inr sz_b169) all0)
      obtain ⟨T173, h173, X173, e173, E173, A173, D173, -, st173⟩ := newO X171 hx hZ hown (hw _ (List.mem_of_getElem? (i := 33) rfl)) (hw _ (List.mem_of_getElem? (i := 34) rfl)) (hw _ (List.mem_of_getElem? (i := 35) rfl)) rfl (g := (mkF m 105 #[.val (.long q0), .second, .val (.long q2), .second, .val (.long q4), .second, .val (.long q6), .second, .val (.int p8), .val (.int (1 : Int32)), .val (.int (0 : Int32)), .val (.int (b2i b3)), .val (.int (b2i b4)), .val (.ref b166), .val (.ref b169), .unset, .unset, .unset, .unset, .unset, .unset, .unset] [])) rfl (hb hby at_105) (by decide) (by decide)
      obtain ⟨b173, g173⟩ : ∃ z, z = T171.heap.size := ⟨_, rfl⟩
      have z174 : n0 ≤ T171.heap.size := (Nat.le_trans z172 K171q.1)
      have g_b173 : n0 ≤ b173 := Nat.le_trans z174 (Nat.le_of_eq g173.symm)
      have sz_b173 : h0.size ≤ b173 := Nat.le_trans K171.1 (Nat.le_of_eq g173.symm)
      rw [← g173] at A173 D173 st173
      have K173 : Keep h0 h173 [] := K171.ext E173
      have F_skipped_b173 : Fld Z h173 b173 "com/example/stackledger/stackledger/Cleanup$Tally" "skipped" "J" (.long (0 : Int64)) := D173 (Or.inl (hw _ (List.mem_of_getElem? (i := 55) rfl))) (ty := .long) (by decide)
      have F_cleared_b173 : Fld Z h173 b173 "com/example/stackledger/stackledger/Cleanup$Tally" "cleared" "J" (.long (0 : Int64)) := D173 (Or.inl (hw _ (List.mem_of_getElem? (i := 62) rfl))) (ty := .long) (by decide)
      have F_balanceCents_b173 : Fld Z h173 b173 "com/example/stackledger/stackledger/Cleanup$Tally" "balanceCents" "J" (.long (0 : Int64)) := D173 (Or.inl (hw _ (List.mem_of_getElem? (i := 74) rfl))) (ty := .long) (by decide)
      have z176 : n0 ≤ h173.size := (Nat.le_trans z174 E173.1)
      obtain ⟨v175, T175, L175, X175, q175, st175⟩ := own_callI X173 hx hZ (y := (⟨"com/example/stackledger/stackledger/Cleanup$Tally", "<init>", "()V"⟩ : MethodName)) rfl hown (hw _ (List.mem_of_getElem? (i := 36) rfl)) (hw _ (List.mem_of_getElem? (i := 37) rfl)) (hw _ (List.mem_of_getElem? (i := 35) rfl)) (hw _ (List.mem_of_getElem? (i := 38) rfl)) (by decide) (a := b173) (hM := (rm4 l Z a0 hw [] b173 h173 n0 z176)) (by decide) (by decide) (by decide) (by decide) e173 (argsL := []) (rest := [(.ref b173)]) (Ls := #[.val (.long q0), .second, .val (.long q2), .second, .val (.long q4), .second, .val (.long q6), .second, .val (.int p8), .val (.int (1 : Int32)), .val (.int (0 : Int32)), .val (.int (b2i b3)), .val (.int (b2i b4)), .val (.ref b166), .val (.ref b169), .unset, .unset, .unset, .unset, .unset, .unset, .unset]) (by rw [hml]; rfl) (lenOf pd___V rfl) (W := 1) (Nat.le_of_eq rfl) (hb hby at_109)
      obtain ⟨rfl, N175q, e175⟩ := q175
      have N175 := Fr.app N171 N175q
      refine Gl.pre (S' := T175.setTop (mkF m 118 #[.val (.long q0), .second, .val (.long q2), .second, .val (.long q4), .second, .val (.long q6), .second, .val (.int p8), .val (.int (1 : Int32)), .val (.int (0 : Int32)), .val (.int (b2i b3)), .val (.int (b2i b4)), .val (.ref b166), .val (.ref b169), .val (.ref b173), .unset, .unset, .unset, .unset, .unset, .unset] [(.ref b166), (.ref b173)])) (fun t kt => ?_) ?_
      · show Steps p.tables e below (s₁.setTop (mkF m 55 #[.val (.long q0), .second, .val (.long q2), .second, .val (.long q4), .second, .val (.long q6), .second, .val (.int p8), .val (.int (1 : Int32)), .val (.int (0 : Int32)), .val (.int (b2i b3)), .unset, .unset, .unset, .unset, .unset, .unset, .unset, .unset, .unset, .unset] [(.int (b2i b4))])) _
        refine XS.istore X0.here hx rfl (hb hby at_55) rfl (l' := #[.val (.long q0), .second, .val (.long q2), .second, .val (.long q4), .second, .val (.long q6), .second, .val (.int p8), .val (.int (1 : Int32)), .val (.int (0 : Int32)), .val (.int (b2i b3)), .val (.int (b2i b4)), .unset, .unset, .unset, .unset, .unset, .unset, .unset, .unset, .unset]) rfl ?_
        show Steps p.tables e below (s₁.setTop (mkF m 57 #[.val (.long q0), .second, .val (.long q2), .second, .val (.long q4), .second, .val (.long q6), .second, .val (.int p8), .val (.int (1 : Int32)), .val (.int (0 : Int32)), .val (.int (b2i b3)), .val (.int (b2i b4)), .unset, .unset, .unset, .unset, .unset, .unset, .unset, .unset, .unset] [])) _
        refine st166 _ ?_
        show Steps p.tables e below (T166.setTop (mkF m 60 #[.val (.long q0), .second, .val (.long q2), .second, .val (.long q4), .second, .val (.long q6), .second, .val (.int p8), .val (.int (1 : Int32)), .val (.int (0 : Int32)), .val (.int (b2i b3)), .val (.int (b2i b4)), .unset, .unset, .unset, .unset, .unset, .unset, .unset, .unset, .unset] [(.ref b166)])) _
        refine XS.dup X166.here hx rfl (hb hby at_60) rfl rfl ?_
        show Steps p.tables e below (T166.setTop (mkF m 61 #[.val (.long q0), .second, .val (.long q2), .second, .val (.long q4), .second, .val (.long q6), .second, .val (.int p8), .val (.int (1 : Int32)), .val (.int (0 : Int32)), .val (.int (b2i b3)), .val (.int (b2i b4)), .unset, .unset, .unset, .unset, .unset, .unset, .unset, .unset, .unset] [(.ref b166), (.ref b166)])) _
        refine XS.lconst X166.here hx rfl (hb hby at_61) ?_
        show Steps p.tables e below (T166.setTop (mkF m 62 #[.val (.long q0), .second, .val (.long q2), .second, .val (.long q4), .second, .val (.long q6), .second, .val (.int p8), .val (.int (1 : Int32)), .val (.int (0 : Int32)), .val (.int (b2i b3)), .val (.int (b2i b4)), .unset, .unset, .unset, .unset, .unset, .unset, .unset, .unset, .unset] [(.long (1 : Int64)), (.ref b166), (.ref b166)])) _
        refine X166.ldc2Long hx hown (mvT hZ (hw _ (List.mem_of_getElem? (i := 3) rfl))) (g := (mkF m 62 #[.val (.long q0), .second, .val (.long q2), .second, .val (.long q4), .second, .val (.long q6), .second, .val (.int p8), .val (.int (1 : Int32)), .val (.int (0 : Int32)), .val (.int (b2i b3)), .val (.int (b2i b4)), .unset, .unset, .unset, .unset, .unset, .unset, .unset, .unset, .unset] [(.long (1 : Int64)), (.ref b166), (.ref b166)])) rfl (hb hby at_62) _ ?_
        show Steps p.tables e below (T166.setTop (mkF m 65 #[.val (.long q0), .second, .val (.long q2), .second, .val (.long q4), .second, .val (.long q6), .second, .val (.int p8), .val (.int (1 : Int32)), .val (.int (0 : Int32)), .val (.int (b2i b3)), .val (.int (b2i b4)), .unset, .unset, .unset, .unset, .unset, .unset, .unset, .unset, .unset] [(.long (2 : Int64)), (.long (1 : Int64)), (.ref b166), (.ref b166)])) _
        refine XS.aconstNull X166.here hx rfl (hb hby at_65) ?_
        show Steps p.tables e below (T166.setTop (mkF m 66 #[.val (.long q0), .second, .val (.long q2), .second, .val (.long q4), .second, .val (.long q6), .second, .val (.int p8), .val (.int (1 : Int32)), .val (.int (0 : Int32)), .val (.int (b2i b3)), .val (.int (b2i b4)), .unset, .unset, .unset, .unset, .unset, .unset, .unset, .unset, .unset] [.null, (.long (2 : Int64)), (.long (1 : Int64)), (.ref b166), (.ref b166)])) _
        refine XS.lload X166.here hx rfl (hb hby at_66) rfl ?_
        show Steps p.tables e below (T166.setTop (mkF m 68 #[.val (.long q0), .second, .val (.long q2), .second, .val (.long q4), .second, .val (.long q6), .second, .val (.int p8), .val (.int (1 : Int32)), .val (.int (0 : Int32)), .val (.int (b2i b3)), .val (.int (b2i b4)), .unset, .unset, .unset, .unset, .unset, .unset, .unset, .unset, .unset] [(.long q6), .null, (.long (2 : Int64)), (.long (1 : Int64)), (.ref b166), (.ref b166)])) _
        refine XS.iload X166.here hx rfl (hb hby at_68) rfl ?_
        show Steps p.tables e below (T166.setTop (mkF m 70 #[.val (.long q0), .second, .val (.long q2), .second, .val (.long q4), .second, .val (.long q6), .second, .val (.int p8), .val (.int (1 : Int32)), .val (.int (0 : Int32)), .val (.int (b2i b3)), .val (.int (b2i b4)), .unset, .unset, .unset, .unset, .unset, .unset, .unset, .unset, .unset] [(.int (b2i b3)), (.long q6), .null, (.long (2 : Int64)), (.long (1 : Int64)), (.ref b166), (.ref b166)])) _
        refine XS.lload X166.here hx rfl (hb hby at_70) rfl ?_
        show Steps p.tables e below (T166.setTop (mkF m 72 #[.val (.long q0), .second, .val (.long q2), .second, .val (.long q4), .second, .val (.long q6), .second, .val (.int p8), .val (.int (1 : Int32)), .val (.int (0 : Int32)), .val (.int (b2i b3)), .val (.int (b2i b4)), .unset, .unset, .unset, .unset, .unset, .unset, .unset, .unset, .unset] [(.long q4), (.int (b2i b3)), (.long q6), .null, (.long (2 : Int64)), (.long (1 : Int64)), (.ref b166), (.ref b166)])) _
        refine XS.lloadN X166.here hx rfl (hb hby at_72) rfl ?_
        show Steps p.tables e below (T166.setTop (mkF m 73 #[.val (.long q0), .second, .val (.long q2), .second, .val (.long q4), .second, .val (.long q6), .second, .val (.int p8), .val (.int (1 : Int32)), .val (.int (0 : Int32)), .val (.int (b2i b3)), .val (.int (b2i b4)), .unset, .unset, .unset, .unset, .unset, .unset, .unset, .unset, .unset] [(.long q0), (.long q4), (.int (b2i b3)), (.long q6), .null, (.long (2 : Int64)), (.long (1 : Int64)), (.ref b166), (.ref b166)])) _
        refine XS.iload X166.here hx rfl (hb hby at_73) rfl ?_
        show Steps p.tables e below (T166.setTop (mkF m 75 #[.val (.long q0), .second, .val (.long q2), .second, .val (.long q4), .second, .val (.long q6), .second, .val (.int p8), .val (.int (1 : Int32)), .val (.int (0 : Int32)), .val (.int (b2i b3)), .val (.int (b2i b4)), .unset, .unset, .unset, .unset, .unset, .unset, .unset, .unset, .unset] [(.int (1 : Int32)), (.long q0), (.long q4), (.int (b2i b3)), (.long q6), .null, (.long (2 : Int64)), (.long (1 : Int64)), (.ref b166), (.ref b166)])) _
        refine st167 _ ?_
        show Steps p.tables e below (T167.setTop (mkF m 78 #[.val (.long q0), .second, .val (.long q2), .second, .val (.long q4), .second, .val (.long q6), .second, .val (.int p8), .val (.int (1 : Int32)), .val (.int (0 : Int32)), .val (.int (b2i b3)), .val (.int (b2i b4)), .unset, .unset, .unset, .unset, .unset, .unset, .unset, .unset, .unset] [(.ref b166)])) _
        refine XS.astore X167.here hx rfl (hb hby at_78) rfl rfl (l' := #[.val (.long q0), .second, .val (.long q2), .second, .val (.long q4), .second, .val (.long q6), .second, .val (.int p8), .val (.int (1 : Int32)), .val (.int (0 : Int32)), .val (.int (b2i b3)), .val (.int (b2i b4)), .val (.ref b166), .unset, .unset, .unset, .unset, .unset, .unset, .unset, .unset]) rfl ?_
        show Steps p.tables e below (T167.setTop (mkF m 80 #[.val (.long q0), .second, .val (.long q2), .second, .val (.long q4), .second, .val (.long q6), .second, .val (.int p8), .val (.int (1 : Int32)), .val (.int (0 : Int32)), .val (.int (b2i b3)), .val (.int (b2i b4)), .val (.ref b166), .unset, .unset, .unset, .unset, .unset, .unset, .unset, .unset] [])) _
        refine st169 _ ?_
        show Steps p.tables e below (T169.setTop (mkF m 83 #[.val (.long q0), .second, .val (.long q2), .second, .val (.long q4), .second, .val (.long q6), .second, .val (.int p8), .val (.int (1 : Int32)), .val (.int (0 : Int32)), .val (.int (b2i b3)), .val (.int (b2i b4)), .val (.ref b166), .unset, .unset, .unset, .unset, .unset, .unset, .unset, .unset] [(.ref b169)])) _
        refine XS.dup X169.here hx rfl (hb hby at_83) rfl rfl ?_
        show Steps p.tables e below (T169.setTop (mkF m 84 #[.val (.long q0), .second, .val (.long q2), .second, .val (.long q4), .second, .val (.long q6), .second, .val (.int p8), .val (.int (1 : Int32)), .val (.int (0 : Int32)), .val (.int (b2i b3)), .val (.int (b2i b4)), .val (.ref b166), .unset, .unset, .unset, .unset, .unset, .unset, .unset, .unset] [(.ref b169), (.ref b169)])) _
        refine X169.ldc2Long hx hown (mvT hZ (hw _ (List.mem_of_getElem? (i := 31) rfl))) (g := (mkF m 84 #[.val (.long q0), .second, .val (.long q2), .second, .val (.long q4), .second, .val (.long q6), .second, .val (.int p8), .val (.int (1 : Int32)), .val (.int (0 : Int32)), .val (.int (b2i b3)), .val (.int (b2i b4)), .val (.ref b166), .unset, .unset, .unset, .unset, .unset, .unset, .unset, .unset] [(.ref b169), (.ref b169)])) rfl (hb hby at_84) _ ?_
        show Steps p.tables e below (T169.setTop (mkF m 87 #[.val (.long q0), .second, .val (.long q2), .second, .val (.long q4), .second, .val (.long q6), .second, .val (.int p8), .val (.int (1 : Int32)), .val (.int (0 : Int32)), .val (.int (b2i b3)), .val (.int (b2i b4)), .val (.ref b166), .unset, .unset, .unset, .unset, .unset, .unset, .unset, .unset] [(.long (3 : Int64)), (.ref b169), (.ref b169)])) _
        refine X169.ldc2Long hx hown (mvT hZ (hw _ (List.mem_of_getElem? (i := 32) rfl))) (g := (mkF m 87 #[.val (.long q0), .second, .val (.long q2), .second, .val (.long q4), .second, .val (.long q6), .second, .val (.int p8), .val (.int (1 : Int32)), .val (.int (0 : Int32)), .val (.int (b2i b3)), .val (.int (b2i b4)), .val (.ref b166), .unset, .unset, .unset, .unset, .unset, .unset, .unset, .unset] [(.long (3 : Int64)), (.ref b169), (.ref b169)])) rfl (hb hby at_87) _ ?_
        show Steps p.tables e below (T169.setTop (mkF m 90 #[.val (.long q0), .second, .val (.long q2), .second, .val (.long q4), .second, .val (.long q6), .second, .val (.int p8), .val (.int (1 : Int32)), .val (.int (0 : Int32)), .val (.int (b2i b3)), .val (.int (b2i b4)), .val (.ref b166), .unset, .unset, .unset, .unset, .unset, .unset, .unset, .unset] [(.long (4 : Int64)), (.long (3 : Int64)), (.ref b169), (.ref b169)])) _
        refine XS.aconstNull X169.here hx rfl (hb hby at_90) ?_
        show Steps p.tables e below (T169.setTop (mkF m 91 #[.val (.long q0), .second, .val (.long q2), .second, .val (.long q4), .second, .val (.long q6), .second, .val (.int p8), .val (.int (1 : Int32)), .val (.int (0 : Int32)), .val (.int (b2i b3)), .val (.int (b2i b4)), .val (.ref b166), .unset, .unset, .unset, .unset, .unset, .unset, .unset, .unset] [.null, (.long (4 : Int64)), (.long (3 : Int64)), (.ref b169), (.ref b169)])) _
        refine XS.lload X169.here hx rfl (hb hby at_91) rfl ?_
        show Steps p.tables e below (T169.setTop (mkF m 93 #[.val (.long q0), .second, .val (.long q2), .second, .val (.long q4), .second, .val (.long q6), .second, .val (.int p8), .val (.int (1 : Int32)), .val (.int (0 : Int32)), .val (.int (b2i b3)), .val (.int (b2i b4)), .val (.ref b166), .unset, .unset, .unset, .unset, .unset, .unset, .unset, .unset] [(.long q4), .null, (.long (4 : Int64)), (.long (3 : Int64)), (.ref b169), (.ref b169)])) _
        refine XS.iload X169.here hx rfl (hb hby at_93) rfl ?_
        show Steps p.tables e below (T169.setTop (mkF m 95 #[.val (.long q0), .second, .val (.long q2), .second, .val (.long q4), .second, .val (.long q6), .second, .val (.int p8), .val (.int (1 : Int32)), .val (.int (0 : Int32)), .val (.int (b2i b3)), .val (.int (b2i b4)), .val (.ref b166), .unset, .unset, .unset, .unset, .unset, .unset, .unset, .unset] [(.int (b2i b4)), (.long q4), .null, (.long (4 : Int64)), (.long (3 : Int64)), (.ref b169), (.ref b169)])) _
        refine XS.lload X169.here hx rfl (hb hby at_95) rfl ?_
        show Steps p.tables e below (T169.setTop (mkF m 97 #[.val (.long q0), .second, .val (.long q2), .second, .val (.long q4), .second, .val (.long q6), .second, .val (.int p8), .val (.int (1 : Int32)), .val (.int (0 : Int32)), .val (.int (b2i b3)), .val (.int (b2i b4)), .val (.ref b166), .unset, .unset, .unset, .unset, .unset, .unset, .unset, .unset] [(.long q6), (.int (b2i b4)), (.long q4), .null, (.long (4 : Int64)), (.long (3 : Int64)), (.ref b169), (.ref b169)])) _
        refine XS.lloadN X169.here hx rfl (hb hby at_97) rfl ?_
        show Steps p.tables e below (T169.setTop (mkF m 98 #[.val (.long q0), .second, .val (.long q2), .second, .val (.long q4), .second, .val (.long q6), .second, .val (.int p8), .val (.int (1 : Int32)), .val (.int (0 : Int32)), .val (.int (b2i b3)), .val (.int (b2i b4)), .val (.ref b166), .unset, .unset, .unset, .unset, .unset, .unset, .unset, .unset] [(.long q2), (.long q6), (.int (b2i b4)), (.long q4), .null, (.long (4 : Int64)), (.long (3 : Int64)), (.ref b169), (.ref b169)])) _
        refine XS.iload X169.here hx rfl (hb hby at_98) rfl ?_
        show Steps p.tables e below (T169.setTop (mkF m 100 #[.val (.long q0), .second, .val (.long q2), .second, .val (.long q4), .second, .val (.long q6), .second, .val (.int p8), .val (.int (1 : Int32)), .val (.int (0 : Int32)), .val (.int (b2i b3)), .val (.int (b2i b4)), .val (.ref b166), .unset, .unset, .unset, .unset, .unset, .unset, .unset, .unset] [(.int (0 : Int32)), (.long q2), (.long q6), (.int (b2i b4)), (.long q4), .null, (.long (4 : Int64)), (.long (3 : Int64)), (.ref b169), (.ref b169)])) _
        refine st171 _ ?_
        show Steps p.tables e below (T171.setTop (mkF m 103 #[.val (.long q0), .second, .val (.long q2), .second, .val (.long q4), .second, .val (.long q6), .second, .val (.int p8), .val (.int (1 : Int32)), .val (.int (0 : Int32)), .val (.int (b2i b3)), .val (.int (b2i b4)), .val (.ref b166), .unset, .unset, .unset, .unset, .unset, .unset, .unset, .unset] [(.ref b169)])) _
        refine XS.astore X171.here hx rfl (hb hby at_103) rfl rfl (l' := #[.val (.long q0), .second, .val (.long q2), .second, .val (.long q4), .second, .val (.long q6), .second, .val (.int p8), .val (.int (1 : Int32)), .val (.int (0 : Int32)), .val (.int (b2i b3)), .val (.int (b2i b4)), .val (.ref b166), .val (.ref b169), .unset, .unset, .unset, .unset, .unset, .unset, .unset]) rfl ?_
        show Steps p.tables e below (T171.setTop (mkF m 105 #[.val (.long q0), .second, .val (.long q2), .second, .val (.long q4), .second, .val (.long q6), .second, .val (.int p8), .val (.int (1 : Int32)), .val (.int (0 : Int32)), .val (.int (b2i b3)), .val (.int (b2i b4)), .val (.ref b166), .val (.ref b169), .unset, .unset, .unset, .unset, .unset, .unset, .unset] [])) _
        refine st173 _ ?_
        show Steps p.tables e below (T173.setTop (mkF m 108 #[.val (.long q0), .second, .val (.long q2), .second, .val (.long q4), .second, .val (.long q6), .second, .val (.int p8), .val (.int (1 : Int32)), .val (.int (0 : Int32)), .val (.int (b2i b3)), .val (.int (b2i b4)), .val (.ref b166), .val (.ref b169), .unset, .unset, .unset, .unset, .unset, .unset, .unset] [(.ref b173)])) _
        refine XS.dup X173.here hx rfl (hb hby at_108) rfl rfl ?_
        show Steps p.tables e below (T173.setTop (mkF m 109 #[.val (.long q0), .second, .val (.long q2), .second, .val (.long q4), .second, .val (.long q6), .second, .val (.int p8), .val (.int (1 : Int32)), .val (.int (0 : Int32)), .val (.int (b2i b3)), .val (.int (b2i b4)), .val (.ref b166), .val (.ref b169), .unset, .unset, .unset, .unset, .unset, .unset, .unset] [(.ref b173), (.ref b173)])) _
        refine st175 _ ?_
        show Steps p.tables e below (T175.setTop (mkF m 112 #[.val (.long q0), .second, .val (.long q2), .second, .val (.long q4), .second, .val (.long q6), .second, .val (.int p8), .val (.int (1 : Int32)), .val (.int (0 : Int32)), .val (.int (b2i b3)), .val (.int (b2i b4)), .val (.ref b166), .val (.ref b169), .unset, .unset, .unset, .unset, .unset, .unset, .unset] [(.ref b173)])) _
        refine XS.astore X175.here hx rfl (hb hby at_112) rfl rfl (l' := #[.val (.long q0), .second, .val (.long q2), .second, .val (.long q4), .second, .val (.long q6), .second, .val (.int p8), .val (.int (1 : Int32)), .val (.int (0 : Int32)), .val (.int (b2i b3)), .val (.int (b2i b4)), .val (.ref b166), .val (.ref b169), .val (.ref b173), .unset, .unset, .unset, .unset, .unset, .unset]) rfl ?_
        show Steps p.tables e below (T175.setTop (mkF m 114 #[.val (.long q0), .second, .val (.long q2), .second, .val (.long q4), .second, .val (.long q6), .second, .val (.int p8), .val (.int (1 : Int32)), .val (.int (0 : Int32)), .val (.int (b2i b3)), .val (.int (b2i b4)), .val (.ref b166), .val (.ref b169), .val (.ref b173), .unset, .unset, .unset, .unset, .unset, .unset] [])) _
        refine XS.aload X175.here hx rfl (hb hby at_114) rfl rfl ?_
        show Steps p.tables e below (T175.setTop (mkF m 116 #[.val (.long q0), .second, .val (.long q2), .second, .val (.long q4), .second, .val (.long q6), .second, .val (.int p8), .val (.int (1 : Int32)), .val (.int (0 : Int32)), .val (.int (b2i b3)), .val (.int (b2i b4)), .val (.ref b166), .val (.ref b169), .val (.ref b173), .unset, .unset, .unset, .unset, .unset, .unset] [(.ref b173)])) _
        refine XS.aload X175.here hx rfl (hb hby at_116) rfl rfl ?_
        exact kt
      have f178 := (((E167q.ext E169).keep K171q).ext E173)
      have f179 := (((O167q.ext E169).keep K171q (ninS (Nat.ne_of_lt (Nat.lt_of_lt_of_le (Nat.lt_of_lt_of_le A166.lt K167q.1) (Nat.le_of_eq g169.symm))) nin0)).ext E173)
      have f180 := (((B167q.ext E169).keep K171q (ninS (Nat.ne_of_lt (Nat.lt_of_lt_of_le (Nat.lt_of_lt_of_le A166.lt K167q.1) (Nat.le_of_eq g169.symm))) nin0)).ext E173)
      have f181 := (((P167q.ext E169).keep K171q (ninS (Nat.ne_of_lt (Nat.lt_of_lt_of_le (Nat.lt_of_lt_of_le A166.lt K167q.1) (Nat.le_of_eq g169.symm))) nin0)).ext E173)
      have f182 := ((own_sta_keep ((own_sta_keep (S_sk.ext E166) K167q (allS ⟨_, A166⟩ all0)).ext E169) K171q (allS ⟨_, A169⟩ all0)).ext E173)
      obtain ⟨v177, T177, L177, X177, q177, st177⟩ := own_callV X175 hx hZ (y := (⟨"com/example/stackledger/stackledger/Cleanup$Tally", "add", "(Lcom/example/stackledger/stackledger/Cleanup$Chosen;)V"⟩ : MethodName)) (z := (⟨"com/example/stackledger/stackledger/Cleanup$Tally", "add", "(Lcom/example/stackledger/stackledger/Cleanup$Chosen;)V"⟩ : MethodName)) hown (hw _ (List.mem_of_getElem? (i := 40) rfl)) (hw _ (List.mem_of_getElem? (i := 41) rfl)) (notFace_of_selects (args := #[]) (mvT hZ (hw _ (List.mem_of_getElem? (i := 43) rfl)))) (hw _ (List.mem_of_getElem? (i := 43) rfl)) (hw _ (List.mem_of_getElem? (i := 42) rfl)) (hw _ (List.mem_of_getElem? (i := 35) rfl)) (hw _ (List.mem_of_getElem? (i := 44) rfl)) (by decide) A173 (hM := (rm5l l Z a0 hw [] b173 b166 (0 : Int64) (0 : Int64) (0 : Int64) q0 q4 sk h173 n0 z176 g_b173 A173 f178 (Ne.symm (Nat.ne_of_lt (Nat.lt_of_lt_of_le (Nat.lt_of_lt_of_le (Nat.lt_of_lt_of_le (Nat.lt_of_lt_of_le A166.lt K167q.1) E169.1) K171q.1) (Nat.le_of_eq g173.symm)))) F_cleared_b173 F_skipped_b173 F_balanceCents_b173 f179 f180 f181 f182)) (by decide) (by decide) (by decide) (by decide) e175 (argsL := [(.ref b166)]) (rest := []) (Ls := #[.val (.long q0), .second, .val (.long q2), .second, .val (.long q4), .second, .val (.long q6), .second, .val (.int p8), .val (.int (1 : Int32)), .val (.int (0 : Int32)), .val (.int (b2i b3)), .val (.int (b2i b4)), .val (.ref b166), .val (.ref b169), .val (.ref b173), .unset, .unset, .unset, .unset, .unset, .unset]) (by rw [hml]; rfl) (lenOf pd__Lcom_example_stackledger_stackledger_Cleanup_Chosen__V rfl) (W := 0) (Nat.le_of_eq rfl) (hb hby at_118)
      obtain ⟨rfl, N177q, K177q, E177q, A177q, B177q, C177q⟩ := q177
      have N177 := Fr.app N175 N177q
      have K177 : Keep h0 T177.heap [] := K173.trans K177q (allS (Or.inr sz_b173) all0)
      have f184 := ((E171q.ext E173).keep K177q)
      have f185 := ((O171q.ext E173).keep K177q (ninS (Nat.ne_of_lt (Nat.lt_of_lt_of_le (Nat.lt_of_lt_of_le A169.lt K171q.1) (Nat.le_of_eq g173.symm))) nin0))
      have f186 := ((B171q.ext E173).keep K177q (ninS (Nat.ne_of_lt (Nat.lt_of_lt_of_le (Nat.lt_of_lt_of_le A169.lt K171q.1) (Nat.le_of_eq g173.symm))) nin0))
      have f187 := ((P171q.ext E173).keep K177q (ninS (Nat.ne_of_lt (Nat.lt_of_lt_of_le (Nat.lt_of_lt_of_le A169.lt K171q.1) (Nat.le_of_eq g173.symm))) nin0))
      have f188 := (own_sta_keep f182 K177q (allS ⟨_, A173⟩ all0))
      have f189 := (own_sta_keep ((own_sta_keep ((own_sta_keep (S_ov.ext E166) K167q (allS ⟨_, A166⟩ all0)).ext E169) K171q (allS ⟨_, A169⟩ all0)).ext E173) K177q (allS ⟨_, A173⟩ all0))
      have f190 := (own_sta_keep ((own_sta_keep ((own_sta_keep (S_vo.ext E166) K167q (allS ⟨_, A166⟩ all0)).ext E169) K171q (allS ⟨_, A169⟩ all0)).ext E173) K177q (allS ⟨_, A173⟩ all0))
      have f191 := (own_sta_keep ((own_sta_keep ((own_sta_keep (S_fo.ext E166) K167q (allS ⟨_, A166⟩ all0)).ext E169) K171q (allS ⟨_, A169⟩ all0)).ext E173) K177q (allS ⟨_, A173⟩ all0))
      have z192 : n0 ≤ T177.heap.size := (Nat.le_trans z176 K177q.1)
      obtain ⟨v183, T183, L183, X183, q183, st183⟩ := own_callV X177 hx hZ (y := (⟨"com/example/stackledger/stackledger/Cleanup$Tally", "add", "(Lcom/example/stackledger/stackledger/Cleanup$Chosen;)V"⟩ : MethodName)) (z := (⟨"com/example/stackledger/stackledger/Cleanup$Tally", "add", "(Lcom/example/stackledger/stackledger/Cleanup$Chosen;)V"⟩ : MethodName)) hown (hw _ (List.mem_of_getElem? (i := 40) rfl)) (hw _ (List.mem_of_getElem? (i := 41) rfl)) (notFace_of_selects (args := #[]) (mvT hZ (hw _ (List.mem_of_getElem? (i := 43) rfl)))) (hw _ (List.mem_of_getElem? (i := 43) rfl)) (hw _ (List.mem_of_getElem? (i := 42) rfl)) (hw _ (List.mem_of_getElem? (i := 35) rfl)) (hw _ (List.mem_of_getElem? (i := 44) rfl)) (by decide) E177q (hM := (rm5n l Z a0 hw [] b173 b169 (0 : Int64) ((0 : Int64) + (1 : Int64)) (0 : Int64) q2 q6 sk ov vo fo T177.heap n0 z192 g_b173 E177q f184 (Ne.symm (Nat.ne_of_lt (Nat.lt_of_lt_of_le (Nat.lt_of_lt_of_le A169.lt K171q.1) (Nat.le_of_eq g173.symm)))) A177q B177q C177q f185 f186 f187 f188 f189 f190 f191 ne_ov ne_vo ne_fo)) (by decide) (by decide) (by decide) (by decide) rfl (argsL := [(.ref b169)]) (rest := []) (Ls := #[.val (.long q0), .second, .val (.long q2), .second, .val (.long q4), .second, .val (.long q6), .second, .val (.int p8), .val (.int (1 : Int32)), .val (.int (0 : Int32)), .val (.int (b2i b3)), .val (.int (b2i b4)), .val (.ref b166), .val (.ref b169), .val (.ref b173), .unset, .unset, .unset, .unset, .unset, .unset]) (by rw [hml]; rfl) (lenOf pd__Lcom_example_stackledger_stackledger_Cleanup_Chosen__V rfl) (W := 0) (Nat.le_of_eq rfl) (hb hby at_125)
      obtain ⟨rfl, N183q, K183q, E183q, A183q, B183q, C183q⟩ := q183
      have N183 := Fr.app N177 N183q
      have K183 : Keep h0 T183.heap [] := K177.trans K183q (allS (Or.inr sz_b173) all0)
      have z194 : n0 ≤ T183.heap.size := (Nat.le_trans z192 K183q.1)
      obtain ⟨v193, T193, L193, X193, q193, st193⟩ := own_callV X183 hx hZ (y := (⟨"com/example/stackledger/stackledger/Cleanup$Tally", "cleared", "()J"⟩ : MethodName)) (z := (⟨"com/example/stackledger/stackledger/Cleanup$Tally", "cleared", "()J"⟩ : MethodName)) hown (hw _ (List.mem_of_getElem? (i := 56) rfl)) (hw _ (List.mem_of_getElem? (i := 57) rfl)) (notFace_of_selects (args := #[]) (mvT hZ (hw _ (List.mem_of_getElem? (i := 59) rfl)))) (hw _ (List.mem_of_getElem? (i := 59) rfl)) (hw _ (List.mem_of_getElem? (i := 58) rfl)) (hw _ (List.mem_of_getElem? (i := 35) rfl)) (hw _ (List.mem_of_getElem? (i := 60) rfl)) (by decide) E183q (hM := (rm7 l Z a0 hw [] b173 ((0 : Int64) + (1 : Int64)) T183.heap n0 z194 A183q)) (by decide) (by decide) (by decide) (by decide) rfl (argsL := []) (rest := []) (Ls := #[.val (.long q0), .second, .val (.long q2), .second, .val (.long q4), .second, .val (.long q6), .second, .val (.int p8), .val (.int (1 : Int32)), .val (.int (0 : Int32)), .val (.int (b2i b3)), .val (.int (b2i b4)), .val (.ref b166), .val (.ref b169), .val (.ref b173), .val (.long ((0 : Int64) + (1 : Int64))), .second, .val (.long ((0 : Int64) + (1 : Int64))), .second, .val (.long ((0 : Int64) + q2)), .second]) (by rw [hml]; rfl) (lenOf pd___J rfl) (W := 0) (Nat.le_of_eq rfl) (hb hby at_191)
      obtain ⟨rfl, N193q, e193⟩ := q193
      have N193 := Fr.app N183 N193q
      refine Gl.pre (S' := T193.setTop (mkF m 197 #[.val (.long q0), .second, .val (.long q2), .second, .val (.long q4), .second, .val (.long q6), .second, .val (.int p8), .val (.int (1 : Int32)), .val (.int (0 : Int32)), .val (.int (b2i b3)), .val (.int (b2i b4)), .val (.ref b166), .val (.ref b169), .val (.ref b173), .val (.long ((0 : Int64) + (1 : Int64))), .second, .val (.long ((0 : Int64) + (1 : Int64))), .second, .val (.long ((0 : Int64) + q2)), .second] [(.int (lcmpW ((0 : Int64) + (1 : Int64)) ((0 : Int64) + (1 : Int64))))])) (fun t kt => ?_) ?_
      · show Steps p.tables e below (T175.setTop (mkF m 118 #[.val (.long q0), .second, .val (.long q2), .second, .val (.long q4), .second, .val (.long q6), .second, .val (.int p8), .val (.int (1 : Int32)), .val (.int (0 : Int32)), .val (.int (b2i b3)), .val (.int (b2i b4)), .val (.ref b166), .val (.ref b169), .val (.ref b173), .unset, .unset, .unset, .unset, .unset, .unset] [(.ref b166), (.ref b173)])) _
        refine st177 _ ?_
        show Steps p.tables e below (T177.setTop (mkF m 121 #[.val (.long q0), .second, .val (.long q2), .second, .val (.long q4), .second, .val (.long q6), .second, .val (.int p8), .val (.int (1 : Int32)), .val (.int (0 : Int32)), .val (.int (b2i b3)), .val (.int (b2i b4)), .val (.ref b166), .val (.ref b169), .val (.ref b173), .unset, .unset, .unset, .unset, .unset, .unset] [])) _
        refine XS.aload X177.here hx rfl (hb hby at_121) rfl rfl ?_
        show Steps p.tables e below (T177.setTop (mkF m 123 #[.val (.long q0), .second, .val (.long q2), .second, .val (.long q4), .second, .val (.long q6), .second, .val (.int p8), .val (.int (1 : Int32)), .val (.int (0 : Int32)), .val (.int (b2i b3)), .val (.int (b2i b4)), .val (.ref b166), .val (.ref b169), .val (.ref b173), .unset, .unset, .unset, .unset, .unset, .unset] [(.ref b173)])) _
        refine XS.aload X177.here hx rfl (hb hby at_123) rfl rfl ?_
        show Steps p.tables e below (T177.setTop (mkF m 125 #[.val (.long q0), .second, .val (.long q2), .second, .val (.long q4), .second, .val (.long q6), .second, .val (.int p8), .val (.int (1 : Int32)), .val (.int (0 : Int32)), .val (.int (b2i b3)), .val (.int (b2i b4)), .val (.ref b166), .val (.ref b169), .val (.ref b173), .unset, .unset, .unset, .unset, .unset, .unset] [(.ref b169), (.ref b173)])) _
        refine st183 _ ?_
        show Steps p.tables e below (T183.setTop (mkF m 128 #[.val (.long q0), .second, .val (.long q2), .second, .val (.long q4), .second, .val (.long q6), .second, .val (.int p8), .val (.int (1 : Int32)), .val (.int (0 : Int32)), .val (.int (b2i b3)), .val (.int (b2i b4)), .val (.ref b166), .val (.ref b169), .val (.ref b173), .unset, .unset, .unset, .unset, .unset, .unset] [])) _
        refine XS.lconst X183.here hx rfl (hb hby at_128) ?_
        show Steps p.tables e below (T183.setTop (mkF m 129 #[.val (.long q0), .second, .val (.long q2), .second, .val (.long q4), .second, .val (.long q6), .second, .val (.int p8), .val (.int (1 : Int32)), .val (.int (0 : Int32)), .val (.int (b2i b3)), .val (.int (b2i b4)), .val (.ref b166), .val (.ref b169), .val (.ref b173), .unset, .unset, .unset, .unset, .unset, .unset] [(.long (0 : Int64))])) _
        refine XS.lstore X183.here hx rfl (hb hby at_129) rfl (l' := #[.val (.long q0), .second, .val (.long q2), .second, .val (.long q4), .second, .val (.long q6), .second, .val (.int p8), .val (.int (1 : Int32)), .val (.int (0 : Int32)), .val (.int (b2i b3)), .val (.int (b2i b4)), .val (.ref b166), .val (.ref b169), .val (.ref b173), .val (.long (0 : Int64)), .second, .unset, .unset, .unset, .unset]) rfl ?_
        show Steps p.tables e below (T183.setTop (mkF m 131 #[.val (.long q0), .second, .val (.long q2), .second, .val (.long q4), .second, .val (.long q6), .second, .val (.int p8), .val (.int (1 : Int32)), .val (.int (0 : Int32)), .val (.int (b2i b3)), .val (.int (b2i b4)), .val (.ref b166), .val (.ref b169), .val (.ref b173), .val (.long (0 : Int64)), .second, .unset, .unset, .unset, .unset] [])) _
        refine XS.lconst X183.here hx rfl (hb hby at_131) ?_
        show Steps p.tables e below (T183.setTop (mkF m 132 #[.val (.long q0), .second, .val (.long q2), .second, .val (.long q4), .second, .val (.long q6), .second, .val (.int p8), .val (.int (1 : Int32)), .val (.int (0 : Int32)), .val (.int (b2i b3)), .val (.int (b2i b4)), .val (.ref b166), .val (.ref b169), .val (.ref b173), .val (.long (0 : Int64)), .second, .unset, .unset, .unset, .unset] [(.long (0 : Int64))])) _
        refine XS.lstore X183.here hx rfl (hb hby at_132) rfl (l' := #[.val (.long q0), .second, .val (.long q2), .second, .val (.long q4), .second, .val (.long q6), .second, .val (.int p8), .val (.int (1 : Int32)), .val (.int (0 : Int32)), .val (.int (b2i b3)), .val (.int (b2i b4)), .val (.ref b166), .val (.ref b169), .val (.ref b173), .val (.long (0 : Int64)), .second, .val (.long (0 : Int64)), .second, .unset, .unset]) rfl ?_
        show Steps p.tables e below (T183.setTop (mkF m 134 #[.val (.long q0), .second, .val (.long q2), .second, .val (.long q4), .second, .val (.long q6), .second, .val (.int p8), .val (.int (1 : Int32)), .val (.int (0 : Int32)), .val (.int (b2i b3)), .val (.int (b2i b4)), .val (.ref b166), .val (.ref b169), .val (.ref b173), .val (.long (0 : Int64)), .second, .val (.long (0 : Int64)), .second, .unset, .unset] [])) _
        refine XS.lconst X183.here hx rfl (hb hby at_134) ?_
        show Steps p.tables e below (T183.setTop (mkF m 135 #[.val (.long q0), .second, .val (.long q2), .second, .val (.long q4), .second, .val (.long q6), .second, .val (.int p8), .val (.int (1 : Int32)), .val (.int (0 : Int32)), .val (.int (b2i b3)), .val (.int (b2i b4)), .val (.ref b166), .val (.ref b169), .val (.ref b173), .val (.long (0 : Int64)), .second, .val (.long (0 : Int64)), .second, .unset, .unset] [(.long (0 : Int64))])) _
        refine XS.lstore X183.here hx rfl (hb hby at_135) rfl (l' := #[.val (.long q0), .second, .val (.long q2), .second, .val (.long q4), .second, .val (.long q6), .second, .val (.int p8), .val (.int (1 : Int32)), .val (.int (0 : Int32)), .val (.int (b2i b3)), .val (.int (b2i b4)), .val (.ref b166), .val (.ref b169), .val (.ref b173), .val (.long (0 : Int64)), .second, .val (.long (0 : Int64)), .second, .val (.long (0 : Int64)), .second]) rfl ?_
        show Steps p.tables e below (T183.setTop (mkF m 137 #[.val (.long q0), .second, .val (.long q2), .second, .val (.long q4), .second, .val (.long q6), .second, .val (.int p8), .val (.int (1 : Int32)), .val (.int (0 : Int32)), .val (.int (b2i b3)), .val (.int (b2i b4)), .val (.ref b166), .val (.ref b169), .val (.ref b173), .val (.long (0 : Int64)), .second, .val (.long (0 : Int64)), .second, .val (.long (0 : Int64)), .second] [])) _
        refine XS.iload X183.here hx rfl (hb hby at_137) rfl ?_
        show Steps p.tables e below (T183.setTop (mkF m 139 #[.val (.long q0), .second, .val (.long q2), .second, .val (.long q4), .second, .val (.long q6), .second, .val (.int p8), .val (.int (1 : Int32)), .val (.int (0 : Int32)), .val (.int (b2i b3)), .val (.int (b2i b4)), .val (.ref b166), .val (.ref b169), .val (.ref b173), .val (.long (0 : Int64)), .second, .val (.long (0 : Int64)), .second, .val (.long (0 : Int64)), .second] [(.int (1 : Int32))])) _
        refine XS.ifNo X183.here hx rfl (hb hby at_139) rfl (own_f (i0_eq _) (by decide)) ?_
        show Steps p.tables e below (T183.setTop (mkF m 142 #[.val (.long q0), .second, .val (.long q2), .second, .val (.long q4), .second, .val (.long q6), .second, .val (.int p8), .val (.int (1 : Int32)), .val (.int (0 : Int32)), .val (.int (b2i b3)), .val (.int (b2i b4)), .val (.ref b166), .val (.ref b169), .val (.ref b173), .val (.long (0 : Int64)), .second, .val (.long (0 : Int64)), .second, .val (.long (0 : Int64)), .second] [])) _
        refine XS.lload X183.here hx rfl (hb hby at_142) rfl ?_
        show Steps p.tables e below (T183.setTop (mkF m 144 #[.val (.long q0), .second, .val (.long q2), .second, .val (.long q4), .second, .val (.long q6), .second, .val (.int p8), .val (.int (1 : Int32)), .val (.int (0 : Int32)), .val (.int (b2i b3)), .val (.int (b2i b4)), .val (.ref b166), .val (.ref b169), .val (.ref b173), .val (.long (0 : Int64)), .second, .val (.long (0 : Int64)), .second, .val (.long (0 : Int64)), .second] [(.long (0 : Int64))])) _
        refine XS.lconst X183.here hx rfl (hb hby at_144) ?_
        show Steps p.tables e below (T183.setTop (mkF m 145 #[.val (.long q0), .second, .val (.long q2), .second, .val (.long q4), .second, .val (.long q6), .second, .val (.int p8), .val (.int (1 : Int32)), .val (.int (0 : Int32)), .val (.int (b2i b3)), .val (.int (b2i b4)), .val (.ref b166), .val (.ref b169), .val (.ref b173), .val (.long (0 : Int64)), .second, .val (.long (0 : Int64)), .second, .val (.long (0 : Int64)), .second] [(.long (1 : Int64)), (.long (0 : Int64))])) _
        refine XS.ladd X183.here hx rfl (hb hby at_145) rfl ?_
        show Steps p.tables e below (T183.setTop (mkF m 146 #[.val (.long q0), .second, .val (.long q2), .second, .val (.long q4), .second, .val (.long q6), .second, .val (.int p8), .val (.int (1 : Int32)), .val (.int (0 : Int32)), .val (.int (b2i b3)), .val (.int (b2i b4)), .val (.ref b166), .val (.ref b169), .val (.ref b173), .val (.long (0 : Int64)), .second, .val (.long (0 : Int64)), .second, .val (.long (0 : Int64)), .second] [(.long ((0 : Int64) + (1 : Int64)))])) _
        refine XS.lstore X183.here hx rfl (hb hby at_146) rfl (l' := #[.val (.long q0), .second, .val (.long q2), .second, .val (.long q4), .second, .val (.long q6), .second, .val (.int p8), .val (.int (1 : Int32)), .val (.int (0 : Int32)), .val (.int (b2i b3)), .val (.int (b2i b4)), .val (.ref b166), .val (.ref b169), .val (.ref b173), .val (.long (0 : Int64)), .second, .val (.long ((0 : Int64) + (1 : Int64))), .second, .val (.long (0 : Int64)), .second]) rfl ?_
        show Steps p.tables e below (T183.setTop (mkF m 148 #[.val (.long q0), .second, .val (.long q2), .second, .val (.long q4), .second, .val (.long q6), .second, .val (.int p8), .val (.int (1 : Int32)), .val (.int (0 : Int32)), .val (.int (b2i b3)), .val (.int (b2i b4)), .val (.ref b166), .val (.ref b169), .val (.ref b173), .val (.long (0 : Int64)), .second, .val (.long ((0 : Int64) + (1 : Int64))), .second, .val (.long (0 : Int64)), .second] [])) _
        refine XS.goto X183.here hx rfl (pc0 := 148) (pc' := 163) rfl (hb hby at_148) (by decide) (by decide) ?_
        show Steps p.tables e below (T183.setTop (mkF m 163 #[.val (.long q0), .second, .val (.long q2), .second, .val (.long q4), .second, .val (.long q6), .second, .val (.int p8), .val (.int (1 : Int32)), .val (.int (0 : Int32)), .val (.int (b2i b3)), .val (.int (b2i b4)), .val (.ref b166), .val (.ref b169), .val (.ref b173), .val (.long (0 : Int64)), .second, .val (.long ((0 : Int64) + (1 : Int64))), .second, .val (.long (0 : Int64)), .second] [])) _
        refine XS.iload X183.here hx rfl (hb hby at_163) rfl ?_
        show Steps p.tables e below (T183.setTop (mkF m 165 #[.val (.long q0), .second, .val (.long q2), .second, .val (.long q4), .second, .val (.long q6), .second, .val (.int p8), .val (.int (1 : Int32)), .val (.int (0 : Int32)), .val (.int (b2i b3)), .val (.int (b2i b4)), .val (.ref b166), .val (.ref b169), .val (.ref b173), .val (.long (0 : Int64)), .second, .val (.long ((0 : Int64) + (1 : Int64))), .second, .val (.long (0 : Int64)), .second] [(.int (0 : Int32))])) _
        refine XS.ifYes X183.here hx rfl (pc0 := 165) (pc' := 177) rfl (hb hby at_165) rfl (own_t (i0_eq _) (by decide)) (by decide) (by decide) ?_
        show Steps p.tables e below (T183.setTop (mkF m 177 #[.val (.long q0), .second, .val (.long q2), .second, .val (.long q4), .second, .val (.long q6), .second, .val (.int p8), .val (.int (1 : Int32)), .val (.int (0 : Int32)), .val (.int (b2i b3)), .val (.int (b2i b4)), .val (.ref b166), .val (.ref b169), .val (.ref b173), .val (.long (0 : Int64)), .second, .val (.long ((0 : Int64) + (1 : Int64))), .second, .val (.long (0 : Int64)), .second] [])) _
        refine XS.lload X183.here hx rfl (hb hby at_177) rfl ?_
        show Steps p.tables e below (T183.setTop (mkF m 179 #[.val (.long q0), .second, .val (.long q2), .second, .val (.long q4), .second, .val (.long q6), .second, .val (.int p8), .val (.int (1 : Int32)), .val (.int (0 : Int32)), .val (.int (b2i b3)), .val (.int (b2i b4)), .val (.ref b166), .val (.ref b169), .val (.ref b173), .val (.long (0 : Int64)), .second, .val (.long ((0 : Int64) + (1 : Int64))), .second, .val (.long (0 : Int64)), .second] [(.long (0 : Int64))])) _
        refine XS.lconst X183.here hx rfl (hb hby at_179) ?_
        show Steps p.tables e below (T183.setTop (mkF m 180 #[.val (.long q0), .second, .val (.long q2), .second, .val (.long q4), .second, .val (.long q6), .second, .val (.int p8), .val (.int (1 : Int32)), .val (.int (0 : Int32)), .val (.int (b2i b3)), .val (.int (b2i b4)), .val (.ref b166), .val (.ref b169), .val (.ref b173), .val (.long (0 : Int64)), .second, .val (.long ((0 : Int64) + (1 : Int64))), .second, .val (.long (0 : Int64)), .second] [(.long (1 : Int64)), (.long (0 : Int64))])) _
        refine XS.ladd X183.here hx rfl (hb hby at_180) rfl ?_
        show Steps p.tables e below (T183.setTop (mkF m 181 #[.val (.long q0), .second, .val (.long q2), .second, .val (.long q4), .second, .val (.long q6), .second, .val (.int p8), .val (.int (1 : Int32)), .val (.int (0 : Int32)), .val (.int (b2i b3)), .val (.int (b2i b4)), .val (.ref b166), .val (.ref b169), .val (.ref b173), .val (.long (0 : Int64)), .second, .val (.long ((0 : Int64) + (1 : Int64))), .second, .val (.long (0 : Int64)), .second] [(.long ((0 : Int64) + (1 : Int64)))])) _
        refine XS.lstore X183.here hx rfl (hb hby at_181) rfl (l' := #[.val (.long q0), .second, .val (.long q2), .second, .val (.long q4), .second, .val (.long q6), .second, .val (.int p8), .val (.int (1 : Int32)), .val (.int (0 : Int32)), .val (.int (b2i b3)), .val (.int (b2i b4)), .val (.ref b166), .val (.ref b169), .val (.ref b173), .val (.long ((0 : Int64) + (1 : Int64))), .second, .val (.long ((0 : Int64) + (1 : Int64))), .second, .val (.long (0 : Int64)), .second]) rfl ?_
        show Steps p.tables e below (T183.setTop (mkF m 183 #[.val (.long q0), .second, .val (.long q2), .second, .val (.long q4), .second, .val (.long q6), .second, .val (.int p8), .val (.int (1 : Int32)), .val (.int (0 : Int32)), .val (.int (b2i b3)), .val (.int (b2i b4)), .val (.ref b166), .val (.ref b169), .val (.ref b173), .val (.long ((0 : Int64) + (1 : Int64))), .second, .val (.long ((0 : Int64) + (1 : Int64))), .second, .val (.long (0 : Int64)), .second] [])) _
        refine XS.lload X183.here hx rfl (hb hby at_183) rfl ?_
        show Steps p.tables e below (T183.setTop (mkF m 185 #[.val (.long q0), .second, .val (.long q2), .second, .val (.long q4), .second, .val (.long q6), .second, .val (.int p8), .val (.int (1 : Int32)), .val (.int (0 : Int32)), .val (.int (b2i b3)), .val (.int (b2i b4)), .val (.ref b166), .val (.ref b169), .val (.ref b173), .val (.long ((0 : Int64) + (1 : Int64))), .second, .val (.long ((0 : Int64) + (1 : Int64))), .second, .val (.long (0 : Int64)), .second] [(.long (0 : Int64))])) _
        refine XS.lloadN X183.here hx rfl (hb hby at_185) rfl ?_
        show Steps p.tables e below (T183.setTop (mkF m 186 #[.val (.long q0), .second, .val (.long q2), .second, .val (.long q4), .second, .val (.long q6), .second, .val (.int p8), .val (.int (1 : Int32)), .val (.int (0 : Int32)), .val (.int (b2i b3)), .val (.int (b2i b4)), .val (.ref b166), .val (.ref b169), .val (.ref b173), .val (.long ((0 : Int64) + (1 : Int64))), .second, .val (.long ((0 : Int64) + (1 : Int64))), .second, .val (.long (0 : Int64)), .second] [(.long q2), (.long (0 : Int64))])) _
        refine XS.ladd X183.here hx rfl (hb hby at_186) rfl ?_
        show Steps p.tables e below (T183.setTop (mkF m 187 #[.val (.long q0), .second, .val (.long q2), .second, .val (.long q4), .second, .val (.long q6), .second, .val (.int p8), .val (.int (1 : Int32)), .val (.int (0 : Int32)), .val (.int (b2i b3)), .val (.int (b2i b4)), .val (.ref b166), .val (.ref b169), .val (.ref b173), .val (.long ((0 : Int64) + (1 : Int64))), .second, .val (.long ((0 : Int64) + (1 : Int64))), .second, .val (.long (0 : Int64)), .second] [(.long ((0 : Int64) + q2))])) _
        refine XS.lstore X183.here hx rfl (hb hby at_187) rfl (l' := #[.val (.long q0), .second, .val (.long q2), .second, .val (.long q4), .second, .val (.long q6), .second, .val (.int p8), .val (.int (1 : Int32)), .val (.int (0 : Int32)), .val (.int (b2i b3)), .val (.int (b2i b4)), .val (.ref b166), .val (.ref b169), .val (.ref b173), .val (.long ((0 : Int64) + (1 : Int64))), .second, .val (.long ((0 : Int64) + (1 : Int64))), .second, .val (.long ((0 : Int64) + q2)), .second]) rfl ?_
        show Steps p.tables e below (T183.setTop (mkF m 189 #[.val (.long q0), .second, .val (.long q2), .second, .val (.long q4), .second, .val (.long q6), .second, .val (.int p8), .val (.int (1 : Int32)), .val (.int (0 : Int32)), .val (.int (b2i b3)), .val (.int (b2i b4)), .val (.ref b166), .val (.ref b169), .val (.ref b173), .val (.long ((0 : Int64) + (1 : Int64))), .second, .val (.long ((0 : Int64) + (1 : Int64))), .second, .val (.long ((0 : Int64) + q2)), .second] [])) _
        refine XS.aload X183.here hx rfl (hb hby at_189) rfl rfl ?_
        show Steps p.tables e below (T183.setTop (mkF m 191 #[.val (.long q0), .second, .val (.long q2), .second, .val (.long q4), .second, .val (.long q6), .second, .val (.int p8), .val (.int (1 : Int32)), .val (.int (0 : Int32)), .val (.int (b2i b3)), .val (.int (b2i b4)), .val (.ref b166), .val (.ref b169), .val (.ref b173), .val (.long ((0 : Int64) + (1 : Int64))), .second, .val (.long ((0 : Int64) + (1 : Int64))), .second, .val (.long ((0 : Int64) + q2)), .second] [(.ref b173)])) _
        refine st193 _ ?_
        show Steps p.tables e below (T193.setTop (mkF m 194 #[.val (.long q0), .second, .val (.long q2), .second, .val (.long q4), .second, .val (.long q6), .second, .val (.int p8), .val (.int (1 : Int32)), .val (.int (0 : Int32)), .val (.int (b2i b3)), .val (.int (b2i b4)), .val (.ref b166), .val (.ref b169), .val (.ref b173), .val (.long ((0 : Int64) + (1 : Int64))), .second, .val (.long ((0 : Int64) + (1 : Int64))), .second, .val (.long ((0 : Int64) + q2)), .second] [(.long ((0 : Int64) + (1 : Int64)))])) _
        refine XS.lload X193.here hx rfl (hb hby at_194) rfl ?_
        show Steps p.tables e below (T193.setTop (mkF m 196 #[.val (.long q0), .second, .val (.long q2), .second, .val (.long q4), .second, .val (.long q6), .second, .val (.int p8), .val (.int (1 : Int32)), .val (.int (0 : Int32)), .val (.int (b2i b3)), .val (.int (b2i b4)), .val (.ref b166), .val (.ref b169), .val (.ref b173), .val (.long ((0 : Int64) + (1 : Int64))), .second, .val (.long ((0 : Int64) + (1 : Int64))), .second, .val (.long ((0 : Int64) + q2)), .second] [(.long ((0 : Int64) + (1 : Int64))), (.long ((0 : Int64) + (1 : Int64)))])) _
        refine XS.lcmp X193.here hx rfl (hb hby at_196) rfl ?_
        exact kt
      obtain ⟨v195, T195, L195, X195, q195, st195⟩ := own_callV X193 hx hZ (y := (⟨"com/example/stackledger/stackledger/Cleanup$Tally", "skipped", "()J"⟩ : MethodName)) (z := (⟨"com/example/stackledger/stackledger/Cleanup$Tally", "skipped", "()J"⟩ : MethodName)) hown (hw _ (List.mem_of_getElem? (i := 63) rfl)) (hw _ (List.mem_of_getElem? (i := 64) rfl)) (notFace_of_selects (args := #[]) (mvT hZ (hw _ (List.mem_of_getElem? (i := 66) rfl)))) (hw _ (List.mem_of_getElem? (i := 66) rfl)) (hw _ (List.mem_of_getElem? (i := 65) rfl)) (hw _ (List.mem_of_getElem? (i := 35) rfl)) (hw _ (List.mem_of_getElem? (i := 67) rfl)) (by decide) E183q (hM := (rm8 l Z a0 hw [] b173 ((0 : Int64) + (1 : Int64)) T183.heap n0 z194 B183q)) (by decide) (by decide) (by decide) (by decide) e193 (argsL := []) (rest := []) (Ls := #[.val (.long q0), .second, .val (.long q2), .second, .val (.long q4), .second, .val (.long q6), .second, .val (.int p8), .val (.int (1 : Int32)), .val (.int (0 : Int32)), .val (.int (b2i b3)), .val (.int (b2i b4)), .val (.ref b166), .val (.ref b169), .val (.ref b173), .val (.long ((0 : Int64) + (1 : Int64))), .second, .val (.long ((0 : Int64) + (1 : Int64))), .second, .val (.long ((0 : Int64) + q2)), .second]) (by rw [hml]; rfl) (lenOf pd___J rfl) (W := 0) (Nat.le_of_eq rfl) (hb hby at_202)
      obtain ⟨rfl, N195q, e195⟩ := q195
      have N195 := Fr.app N193 N195q
      obtain ⟨v196, T196, L196, X196, q196, st196⟩ := own_callV X195 hx hZ (y := (⟨"com/example/stackledger/stackledger/Cleanup$Tally", "balanceCents", "()J"⟩ : MethodName)) (z := (⟨"com/example/stackledger/stackledger/Cleanup$Tally", "balanceCents", "()J"⟩ : MethodName)) hown (hw _ (List.mem_of_getElem? (i := 68) rfl)) (hw _ (List.mem_of_getElem? (i := 69) rfl)) (notFace_of_selects (args := #[]) (mvT hZ (hw _ (List.mem_of_getElem? (i := 71) rfl)))) (hw _ (List.mem_of_getElem? (i := 71) rfl)) (hw _ (List.mem_of_getElem? (i := 70) rfl)) (hw _ (List.mem_of_getElem? (i := 35) rfl)) (hw _ (List.mem_of_getElem? (i := 72) rfl)) (by decide) E183q (hM := (rm9 l Z a0 hw [] b173 ((0 : Int64) + q2) T183.heap n0 z194 C183q)) (by decide) (by decide) (by decide) (by decide) e195 (argsL := []) (rest := []) (Ls := #[.val (.long q0), .second, .val (.long q2), .second, .val (.long q4), .second, .val (.long q6), .second, .val (.int p8), .val (.int (1 : Int32)), .val (.int (0 : Int32)), .val (.int (b2i b3)), .val (.int (b2i b4)), .val (.ref b166), .val (.ref b169), .val (.ref b173), .val (.long ((0 : Int64) + (1 : Int64))), .second, .val (.long ((0 : Int64) + (1 : Int64))), .second, .val (.long ((0 : Int64) + q2)), .second]) (by rw [hml]; rfl) (lenOf pd___J rfl) (W := 0) (Nat.le_of_eq rfl) (hb hby at_213)
      obtain ⟨rfl, N196q, e196⟩ := q196
      have N196 := Fr.app N195 N196q
      refine Gl.fin X196 (v := some (.int (1 : Int32))) (fun h => by rw [Bd.returns] at h; cases h) Bd.notSynchronized ?_ e196 (by decide) (by decide) (fun fs hr => ?_)
      · exact ⟨rfl, N196⟩
      · show Steps p.tables e below (T193.setTop (mkF m 197 #[.val (.long q0), .second, .val (.long q2), .second, .val (.long q4), .second, .val (.long q6), .second, .val (.int p8), .val (.int (1 : Int32)), .val (.int (0 : Int32)), .val (.int (b2i b3)), .val (.int (b2i b4)), .val (.ref b166), .val (.ref b169), .val (.ref b173), .val (.long ((0 : Int64) + (1 : Int64))), .second, .val (.long ((0 : Int64) + (1 : Int64))), .second, .val (.long ((0 : Int64) + q2)), .second] [(.int (lcmpW ((0 : Int64) + (1 : Int64)) ((0 : Int64) + (1 : Int64))))])) _
        refine XS.ifNo X193.here hx rfl (hb hby at_197) rfl (own_nf (l0_ne _ _) rfl) ?_
        show Steps p.tables e below (T193.setTop (mkF m 200 #[.val (.long q0), .second, .val (.long q2), .second, .val (.long q4), .second, .val (.long q6), .second, .val (.int p8), .val (.int (1 : Int32)), .val (.int (0 : Int32)), .val (.int (b2i b3)), .val (.int (b2i b4)), .val (.ref b166), .val (.ref b169), .val (.ref b173), .val (.long ((0 : Int64) + (1 : Int64))), .second, .val (.long ((0 : Int64) + (1 : Int64))), .second, .val (.long ((0 : Int64) + q2)), .second] [])) _
        refine XS.aload X193.here hx rfl (hb hby at_200) rfl rfl ?_
        show Steps p.tables e below (T193.setTop (mkF m 202 #[.val (.long q0), .second, .val (.long q2), .second, .val (.long q4), .second, .val (.long q6), .second, .val (.int p8), .val (.int (1 : Int32)), .val (.int (0 : Int32)), .val (.int (b2i b3)), .val (.int (b2i b4)), .val (.ref b166), .val (.ref b169), .val (.ref b173), .val (.long ((0 : Int64) + (1 : Int64))), .second, .val (.long ((0 : Int64) + (1 : Int64))), .second, .val (.long ((0 : Int64) + q2)), .second] [(.ref b173)])) _
        refine st195 _ ?_
        show Steps p.tables e below (T195.setTop (mkF m 205 #[.val (.long q0), .second, .val (.long q2), .second, .val (.long q4), .second, .val (.long q6), .second, .val (.int p8), .val (.int (1 : Int32)), .val (.int (0 : Int32)), .val (.int (b2i b3)), .val (.int (b2i b4)), .val (.ref b166), .val (.ref b169), .val (.ref b173), .val (.long ((0 : Int64) + (1 : Int64))), .second, .val (.long ((0 : Int64) + (1 : Int64))), .second, .val (.long ((0 : Int64) + q2)), .second] [(.long ((0 : Int64) + (1 : Int64)))])) _
        refine XS.lload X195.here hx rfl (hb hby at_205) rfl ?_
        show Steps p.tables e below (T195.setTop (mkF m 207 #[.val (.long q0), .second, .val (.long q2), .second, .val (.long q4), .second, .val (.long q6), .second, .val (.int p8), .val (.int (1 : Int32)), .val (.int (0 : Int32)), .val (.int (b2i b3)), .val (.int (b2i b4)), .val (.ref b166), .val (.ref b169), .val (.ref b173), .val (.long ((0 : Int64) + (1 : Int64))), .second, .val (.long ((0 : Int64) + (1 : Int64))), .second, .val (.long ((0 : Int64) + q2)), .second] [(.long ((0 : Int64) + (1 : Int64))), (.long ((0 : Int64) + (1 : Int64)))])) _
        refine XS.lcmp X195.here hx rfl (hb hby at_207) rfl ?_
        show Steps p.tables e below (T195.setTop (mkF m 208 #[.val (.long q0), .second, .val (.long q2), .second, .val (.long q4), .second, .val (.long q6), .second, .val (.int p8), .val (.int (1 : Int32)), .val (.int (0 : Int32)), .val (.int (b2i b3)), .val (.int (b2i b4)), .val (.ref b166), .val (.ref b169), .val (.ref b173), .val (.long ((0 : Int64) + (1 : Int64))), .second, .val (.long ((0 : Int64) + (1 : Int64))), .second, .val (.long ((0 : Int64) + q2)), .second] [(.int (lcmpW ((0 : Int64) + (1 : Int64)) ((0 : Int64) + (1 : Int64))))])) _
        refine XS.ifNo X195.here hx rfl (hb hby at_208) rfl (own_nf (l0_ne _ _) rfl) ?_
        show Steps p.tables e below (T195.setTop (mkF m 211 #[.val (.long q0), .second, .val (.long q2), .second, .val (.long q4), .second, .val (.long q6), .second, .val (.int p8), .val (.int (1 : Int32)), .val (.int (0 : Int32)), .val (.int (b2i b3)), .val (.int (b2i b4)), .val (.ref b166), .val (.ref b169), .val (.ref b173), .val (.long ((0 : Int64) + (1 : Int64))), .second, .val (.long ((0 : Int64) + (1 : Int64))), .second, .val (.long ((0 : Int64) + q2)), .second] [])) _
        refine XS.aload X195.here hx rfl (hb hby at_211) rfl rfl ?_
        show Steps p.tables e below (T195.setTop (mkF m 213 #[.val (.long q0), .second, .val (.long q2), .second, .val (.long q4), .second, .val (.long q6), .second, .val (.int p8), .val (.int (1 : Int32)), .val (.int (0 : Int32)), .val (.int (b2i b3)), .val (.int (b2i b4)), .val (.ref b166), .val (.ref b169), .val (.ref b173), .val (.long ((0 : Int64) + (1 : Int64))), .second, .val (.long ((0 : Int64) + (1 : Int64))), .second, .val (.long ((0 : Int64) + q2)), .second] [(.ref b173)])) _
        refine st196 _ ?_
        show Steps p.tables e below (T196.setTop (mkF m 216 #[.val (.long q0), .second, .val (.long q2), .second, .val (.long q4), .second, .val (.long q6), .second, .val (.int p8), .val (.int (1 : Int32)), .val (.int (0 : Int32)), .val (.int (b2i b3)), .val (.int (b2i b4)), .val (.ref b166), .val (.ref b169), .val (.ref b173), .val (.long ((0 : Int64) + (1 : Int64))), .second, .val (.long ((0 : Int64) + (1 : Int64))), .second, .val (.long ((0 : Int64) + q2)), .second] [(.long ((0 : Int64) + q2))])) _
        refine XS.lload X196.here hx rfl (hb hby at_216) rfl ?_
        show Steps p.tables e below (T196.setTop (mkF m 218 #[.val (.long q0), .second, .val (.long q2), .second, .val (.long q4), .second, .val (.long q6), .second, .val (.int p8), .val (.int (1 : Int32)), .val (.int (0 : Int32)), .val (.int (b2i b3)), .val (.int (b2i b4)), .val (.ref b166), .val (.ref b169), .val (.ref b173), .val (.long ((0 : Int64) + (1 : Int64))), .second, .val (.long ((0 : Int64) + (1 : Int64))), .second, .val (.long ((0 : Int64) + q2)), .second] [(.long ((0 : Int64) + q2)), (.long ((0 : Int64) + q2))])) _
        refine XS.lcmp X196.here hx rfl (hb hby at_218) rfl ?_
        show Steps p.tables e below (T196.setTop (mkF m 219 #[.val (.long q0), .second, .val (.long q2), .second, .val (.long q4), .second, .val (.long q6), .second, .val (.int p8), .val (.int (1 : Int32)), .val (.int (0 : Int32)), .val (.int (b2i b3)), .val (.int (b2i b4)), .val (.ref b166), .val (.ref b169), .val (.ref b173), .val (.long ((0 : Int64) + (1 : Int64))), .second, .val (.long ((0 : Int64) + (1 : Int64))), .second, .val (.long ((0 : Int64) + q2)), .second] [(.int (lcmpW ((0 : Int64) + q2) ((0 : Int64) + q2)))])) _
        refine XS.ifNo X196.here hx rfl (hb hby at_219) rfl (own_nf (l0_ne _ _) rfl) ?_
        show Steps p.tables e below (T196.setTop (mkF m 222 #[.val (.long q0), .second, .val (.long q2), .second, .val (.long q4), .second, .val (.long q6), .second, .val (.int p8), .val (.int (1 : Int32)), .val (.int (0 : Int32)), .val (.int (b2i b3)), .val (.int (b2i b4)), .val (.ref b166), .val (.ref b169), .val (.ref b173), .val (.long ((0 : Int64) + (1 : Int64))), .second, .val (.long ((0 : Int64) + (1 : Int64))), .second, .val (.long ((0 : Int64) + q2)), .second] [])) _
        refine XS.iconst X196.here hx rfl (hb hby at_222) ?_
        show Steps p.tables e below (T196.setTop (mkF m 223 #[.val (.long q0), .second, .val (.long q2), .second, .val (.long q4), .second, .val (.long q6), .second, .val (.int p8), .val (.int (1 : Int32)), .val (.int (0 : Int32)), .val (.int (b2i b3)), .val (.int (b2i b4)), .val (.ref b166), .val (.ref b169), .val (.ref b173), .val (.long ((0 : Int64) + (1 : Int64))), .second, .val (.long ((0 : Int64) + (1 : Int64))), .second, .val (.long ((0 : Int64) + q2)), .second] [(.int (1 : Int32))])) _
        refine XS.goto X196.here hx rfl (pc0 := 223) (pc' := 227) rfl (hb hby at_223) (by decide) (by decide) ?_
        show Steps p.tables e below (T196.setTop (mkF m 227 #[.val (.long q0), .second, .val (.long q2), .second, .val (.long q4), .second, .val (.long q6), .second, .val (.int p8), .val (.int (1 : Int32)), .val (.int (0 : Int32)), .val (.int (b2i b3)), .val (.int (b2i b4)), .val (.ref b166), .val (.ref b169), .val (.ref b173), .val (.long ((0 : Int64) + (1 : Int64))), .second, .val (.long ((0 : Int64) + (1 : Int64))), .second, .val (.long ((0 : Int64) + q2)), .second] [(.int (1 : Int32))])) _
        exact retN X196 hx (t := .boolean) Bd.returns (by simp) (hb hby at_227) hr
    · refine Gl.pre (S' := s₁.setTop (mkF m 32 #[.val (.long q0), .second, .val (.long q2), .second, .val (.long q4), .second, .val (.long q6), .second, .val (.int p8), .val (.int (1 : Int32)), .val (.int (1 : Int32)), .unset, .unset, .unset, .unset, .unset, .unset, .unset, .unset, .unset, .unset, .unset] [(.int (p8 &&& (4 : Int32)))])) (fun t kt => ?_) ?_
      · show Steps p.tables e below (s₁.setTop (mkF m 18 #[.val (.long q0), .second, .val (.long q2), .second, .val (.long q4), .second, .val (.long q6), .second, .val (.int p8), .val (.int (1 : Int32)), .unset, .unset, .unset, .unset, .unset, .unset, .unset, .unset, .unset, .unset, .unset, .unset] [(.int (p8 &&& (2 : Int32)))])) _
        refine XS.ifNo X0.here hx rfl (hb hby at_18) rfl (own_f (i0_eq _) hc18) ?_
        show Steps p.tables e below (s₁.setTop (mkF m 21 #[.val (.long q0), .second, .val (.long q2), .second, .val (.long q4), .second, .val (.long q6), .second, .val (.int p8), .val (.int (1 : Int32)), .unset, .unset, .unset, .unset, .unset, .unset, .unset, .unset, .unset, .unset, .unset, .unset] [])) _
        refine XS.iconst X0.here hx rfl (hb hby at_21) ?_
        show Steps p.tables e below (s₁.setTop (mkF m 22 #[.val (.long q0), .second, .val (.long q2), .second, .val (.long q4), .second, .val (.long q6), .second, .val (.int p8), .val (.int (1 : Int32)), .unset, .unset, .unset, .unset, .unset, .unset, .unset, .unset, .unset, .unset, .unset, .unset] [(.int (1 : Int32))])) _
        refine XS.goto X0.here hx rfl (pc0 := 22) (pc' := 26) rfl (hb hby at_22) (by decide) (by decide) ?_
        show Steps p.tables e below (s₁.setTop (mkF m 26 #[.val (.long q0), .second, .val (.long q2), .second, .val (.long q4), .second, .val (.long q6), .second, .val (.int p8), .val (.int (1 : Int32)), .unset, .unset, .unset, .unset, .unset, .unset, .unset, .unset, .unset, .unset, .unset, .unset] [(.int (1 : Int32))])) _
        refine XS.istore X0.here hx rfl (hb hby at_26) rfl (l' := #[.val (.long q0), .second, .val (.long q2), .second, .val (.long q4), .second, .val (.long q6), .second, .val (.int p8), .val (.int (1 : Int32)), .val (.int (1 : Int32)), .unset, .unset, .unset, .unset, .unset, .unset, .unset, .unset, .unset, .unset, .unset]) rfl ?_
        show Steps p.tables e below (s₁.setTop (mkF m 28 #[.val (.long q0), .second, .val (.long q2), .second, .val (.long q4), .second, .val (.long q6), .second, .val (.int p8), .val (.int (1 : Int32)), .val (.int (1 : Int32)), .unset, .unset, .unset, .unset, .unset, .unset, .unset, .unset, .unset, .unset, .unset] [])) _
        refine XS.iload X0.here hx rfl (hb hby at_28) rfl ?_
        show Steps p.tables e below (s₁.setTop (mkF m 30 #[.val (.long q0), .second, .val (.long q2), .second, .val (.long q4), .second, .val (.long q6), .second, .val (.int p8), .val (.int (1 : Int32)), .val (.int (1 : Int32)), .unset, .unset, .unset, .unset, .unset, .unset, .unset, .unset, .unset, .unset, .unset] [(.int p8)])) _
        refine XS.iconst X0.here hx rfl (hb hby at_30) ?_
        show Steps p.tables e below (s₁.setTop (mkF m 31 #[.val (.long q0), .second, .val (.long q2), .second, .val (.long q4), .second, .val (.long q6), .second, .val (.int p8), .val (.int (1 : Int32)), .val (.int (1 : Int32)), .unset, .unset, .unset, .unset, .unset, .unset, .unset, .unset, .unset, .unset, .unset] [(.int (4 : Int32)), (.int p8)])) _
        refine XS.iand X0.here hx rfl (hb hby at_31) rfl ?_
        exact kt
      refine Gl.pre (S' := s₁.setTop (mkF m 40 #[.val (.long q0), .second, .val (.long q2), .second, .val (.long q4), .second, .val (.long q6), .second, .val (.int p8), .val (.int (1 : Int32)), .val (.int (1 : Int32)), .unset, .unset, .unset, .unset, .unset, .unset, .unset, .unset, .unset, .unset, .unset] [(.int (b2i (decide (¬ (p8 &&& (4 : Int32)) = (0 : Int32)))))])) (fun t kt => ?_) ?_
      · by_cases hc32 : (p8 &&& (4 : Int32)) = (0 : Int32)
        · show Steps p.tables e below (s₁.setTop (mkF m 32 #[.val (.long q0), .second, .val (.long q2), .second, .val (.long q4), .second, .val (.long q6), .second, .val (.int p8), .val (.int (1 : Int32)), .val (.int (1 : Int32)), .unset, .unset, .unset, .unset, .unset, .unset, .unset, .unset, .unset, .unset, .unset] [(.int (p8 &&& (4 : Int32)))])) _
          refine XS.ifYes X0.here hx rfl (pc0 := 32) (pc' := 39) rfl (hb hby at_32) rfl (own_t (i0_eq _) hc32) (by decide) (by decide) ?_
          show Steps p.tables e below (s₁.setTop (mkF m 39 #[.val (.long q0), .second, .val (.long q2), .second, .val (.long q4), .second, .val (.long q6), .second, .val (.int p8), .val (.int (1 : Int32)), .val (.int (1 : Int32)), .unset, .unset, .unset, .unset, .unset, .unset, .unset, .unset, .unset, .unset, .unset] [])) _
          refine XS.iconst X0.here hx rfl (hb hby at_39) ?_
          rw [(by simp [b2i, hc32] : (b2i (decide (¬ (p8 &&& (4 : Int32)) = (0 : Int32)))) = (0 : Int32))] at kt
          exact kt
        · show Steps p.tables e below (s₁.setTop (mkF m 32 #[.val (.long q0), .second, .val (.long q2), .second, .val (.long q4), .second, .val (.long q6), .second, .val (.int p8), .val (.int (1 : Int32)), .val (.int (1 : Int32)), .unset, .unset, .unset, .unset, .unset, .unset, .unset, .unset, .unset, .unset, .unset] [(.int (p8 &&& (4 : Int32)))])) _
          refine XS.ifNo X0.here hx rfl (hb hby at_32) rfl (own_f (i0_eq _) hc32) ?_
          show Steps p.tables e below (s₁.setTop (mkF m 35 #[.val (.long q0), .second, .val (.long q2), .second, .val (.long q4), .second, .val (.long q6), .second, .val (.int p8), .val (.int (1 : Int32)), .val (.int (1 : Int32)), .unset, .unset, .unset, .unset, .unset, .unset, .unset, .unset, .unset, .unset, .unset] [])) _
          refine XS.iconst X0.here hx rfl (hb hby at_35) ?_
          show Steps p.tables e below (s₁.setTop (mkF m 36 #[.val (.long q0), .second, .val (.long q2), .second, .val (.long q4), .second, .val (.long q6), .second, .val (.int p8), .val (.int (1 : Int32)), .val (.int (1 : Int32)), .unset, .unset, .unset, .unset, .unset, .unset, .unset, .unset, .unset, .unset, .unset] [(.int (1 : Int32))])) _
          refine XS.goto X0.here hx rfl (pc0 := 36) (pc' := 40) rfl (hb hby at_36) (by decide) (by decide) ?_
          rw [(by simp [b2i, hc32] : (b2i (decide (¬ (p8 &&& (4 : Int32)) = (0 : Int32)))) = (1 : Int32))] at kt
          exact kt
      obtain ⟨b3, h_b3⟩ : ∃ z : Bool, z = (decide (¬ (p8 &&& (4 : Int32)) = (0 : Int32))) := ⟨_, rfl⟩
      rw [← h_b3]
      refine Gl.pre (S' := s₁.setTop (mkF m 47 #[.val (.long q0), .second, .val (.long q2), .second, .val (.long q4), .second, .val (.long q6), .second, .val (.int p8), .val (.int (1 : Int32)), .val (.int (1 : Int32)), .val (.int (b2i b3)), .unset, .unset, .unset, .unset, .unset, .unset, .unset, .unset, .unset, .unset] [(.int (p8 &&& (8 : Int32)))])) (fun t kt => ?_) ?_
      · show Steps p.tables e below (s₁.setTop (mkF m 40 #[.val (.long q0), .second, .val (.long q2), .second, .val (.long q4), .second, .val (.long q6), .second, .val (.int p8), .val (.int (1 : Int32)), .val (.int (1 : Int32)), .unset, .unset, .unset, .unset, .unset, .unset, .unset, .unset, .unset, .unset, .unset] [(.int (b2i b3))])) _
        refine XS.istore X0.here hx rfl (hb hby at_40) rfl (l' := #[.val (.long q0), .second, .val (.long q2), .second, .val (.long q4), .second, .val (.long q6), .second, .val (.int p8), .val (.int (1 : Int32)), .val (.int (1 : Int32)), .val (.int (b2i b3)), .unset, .unset, .unset, .unset, .unset, .unset, .unset, .unset, .unset, .unset]) rfl ?_
        show Steps p.tables e below (s₁.setTop (mkF m 42 #[.val (.long q0), .second, .val (.long q2), .second, .val (.long q4), .second, .val (.long q6), .second, .val (.int p8), .val (.int (1 : Int32)), .val (.int (1 : Int32)), .val (.int (b2i b3)), .unset, .unset, .unset, .unset, .unset, .unset, .unset, .unset, .unset, .unset] [])) _
        refine XS.iload X0.here hx rfl (hb hby at_42) rfl ?_
        show Steps p.tables e below (s₁.setTop (mkF m 44 #[.val (.long q0), .second, .val (.long q2), .second, .val (.long q4), .second, .val (.long q6), .second, .val (.int p8), .val (.int (1 : Int32)), .val (.int (1 : Int32)), .val (.int (b2i b3)), .unset, .unset, .unset, .unset, .unset, .unset, .unset, .unset, .unset, .unset] [(.int p8)])) _
        refine XS.bipush X0.here hx rfl (hb hby at_44) ?_
        show Steps p.tables e below (s₁.setTop (mkF m 46 #[.val (.long q0), .second, .val (.long q2), .second, .val (.long q4), .second, .val (.long q6), .second, .val (.int p8), .val (.int (1 : Int32)), .val (.int (1 : Int32)), .val (.int (b2i b3)), .unset, .unset, .unset, .unset, .unset, .unset, .unset, .unset, .unset, .unset] [(.int (8 : Int32)), (.int p8)])) _
        refine XS.iand X0.here hx rfl (hb hby at_46) rfl ?_
        exact kt
      refine Gl.pre (S' := s₁.setTop (mkF m 55 #[.val (.long q0), .second, .val (.long q2), .second, .val (.long q4), .second, .val (.long q6), .second, .val (.int p8), .val (.int (1 : Int32)), .val (.int (1 : Int32)), .val (.int (b2i b3)), .unset, .unset, .unset, .unset, .unset, .unset, .unset, .unset, .unset, .unset] [(.int (b2i (decide (¬ (p8 &&& (8 : Int32)) = (0 : Int32)))))])) (fun t kt => ?_) ?_
      · by_cases hc47 : (p8 &&& (8 : Int32)) = (0 : Int32)
        · show Steps p.tables e below (s₁.setTop (mkF m 47 #[.val (.long q0), .second, .val (.long q2), .second, .val (.long q4), .second, .val (.long q6), .second, .val (.int p8), .val (.int (1 : Int32)), .val (.int (1 : Int32)), .val (.int (b2i b3)), .unset, .unset, .unset, .unset, .unset, .unset, .unset, .unset, .unset, .unset] [(.int (p8 &&& (8 : Int32)))])) _
          refine XS.ifYes X0.here hx rfl (pc0 := 47) (pc' := 54) rfl (hb hby at_47) rfl (own_t (i0_eq _) hc47) (by decide) (by decide) ?_
          show Steps p.tables e below (s₁.setTop (mkF m 54 #[.val (.long q0), .second, .val (.long q2), .second, .val (.long q4), .second, .val (.long q6), .second, .val (.int p8), .val (.int (1 : Int32)), .val (.int (1 : Int32)), .val (.int (b2i b3)), .unset, .unset, .unset, .unset, .unset, .unset, .unset, .unset, .unset, .unset] [])) _
          refine XS.iconst X0.here hx rfl (hb hby at_54) ?_
          rw [(by simp [b2i, hc47] : (b2i (decide (¬ (p8 &&& (8 : Int32)) = (0 : Int32)))) = (0 : Int32))] at kt
          exact kt
        · show Steps p.tables e below (s₁.setTop (mkF m 47 #[.val (.long q0), .second, .val (.long q2), .second, .val (.long q4), .second, .val (.long q6), .second, .val (.int p8), .val (.int (1 : Int32)), .val (.int (1 : Int32)), .val (.int (b2i b3)), .unset, .unset, .unset, .unset, .unset, .unset, .unset, .unset, .unset, .unset] [(.int (p8 &&& (8 : Int32)))])) _
          refine XS.ifNo X0.here hx rfl (hb hby at_47) rfl (own_f (i0_eq _) hc47) ?_
          show Steps p.tables e below (s₁.setTop (mkF m 50 #[.val (.long q0), .second, .val (.long q2), .second, .val (.long q4), .second, .val (.long q6), .second, .val (.int p8), .val (.int (1 : Int32)), .val (.int (1 : Int32)), .val (.int (b2i b3)), .unset, .unset, .unset, .unset, .unset, .unset, .unset, .unset, .unset, .unset] [])) _
          refine XS.iconst X0.here hx rfl (hb hby at_50) ?_
          show Steps p.tables e below (s₁.setTop (mkF m 51 #[.val (.long q0), .second, .val (.long q2), .second, .val (.long q4), .second, .val (.long q6), .second, .val (.int p8), .val (.int (1 : Int32)), .val (.int (1 : Int32)), .val (.int (b2i b3)), .unset, .unset, .unset, .unset, .unset, .unset, .unset, .unset, .unset, .unset] [(.int (1 : Int32))])) _
          refine XS.goto X0.here hx rfl (pc0 := 51) (pc' := 55) rfl (hb hby at_51) (by decide) (by decide) ?_
          rw [(by simp [b2i, hc47] : (b2i (decide (¬ (p8 &&& (8 : Int32)) = (0 : Int32)))) = (1 : Int32))] at kt
          exact kt
      obtain ⟨b4, h_b4⟩ : ∃ z : Bool, z = (decide (¬ (p8 &&& (8 : Int32)) = (0 : Int32))) := ⟨_, rfl⟩
      rw [← h_b4]
      obtain ⟨T197, h197, X197, e197, E197, A197, D197, -, st197⟩ := newO X0 hx hZ hown (hw _ (List.mem_of_getElem? (i := 0) rfl)) (hw _ (List.mem_of_getElem? (i := 1) rfl)) (hw _ (List.mem_of_getElem? (i := 2) rfl)) e0 (g := (mkF m 57 #[.val (.long q0), .second, .val (.long q2), .second, .val (.long q4), .second, .val (.long q6), .second, .val (.int p8), .val (.int (1 : Int32)), .val (.int (1 : Int32)), .val (.int (b2i b3)), .val (.int (b2i b4)), .unset, .unset, .unset, .unset, .unset, .unset, .unset, .unset, .unset] [])) rfl (hb hby at_57) (by decide) (by decide)
      obtain ⟨b197, g197⟩ : ∃ z, z = h0.size := ⟨_, rfl⟩
      have g_b197 : n0 ≤ b197 := Nat.le_trans Z0 (Nat.le_of_eq g197.symm)
      have sz_b197 : h0.size ≤ b197 := Nat.le_trans K0.1 (Nat.le_of_eq g197.symm)
      rw [← g197] at A197 D197 st197
      have K197 : Keep h0 h197 [] := K0.ext E197
      have F_transaction_b197 : Fld Z h197 b197 "com/example/stackledger/stackledger/Cleanup$Chosen" "transaction" "J" (.long (0 : Int64)) := D197 (Or.inr (hw _ (List.mem_of_getElem? (i := 16) rfl))) (ty := .long) (by decide)
      have F_patron_b197 : Fld Z h197 b197 "com/example/stackledger/stackledger/Cleanup$Chosen" "patron" "J" (.long (0 : Int64)) := D197 (Or.inr (hw _ (List.mem_of_getElem? (i := 18) rfl))) (ty := .long) (by decide)
      have F_org_b197 : Fld Z h197 b197 "com/example/stackledger/stackledger/Cleanup$Chosen" "org" "Ljava/lang/String;" .null := D197 (Or.inr (hw _ (List.mem_of_getElem? (i := 20) rfl))) (ty := (.object "java/lang/String")) (by decide)
      have F_startedAt_b197 : Fld Z h197 b197 "com/example/stackledger/stackledger/Cleanup$Chosen" "startedAt" "J" (.long (0 : Int64)) := D197 (Or.inr (hw _ (List.mem_of_getElem? (i := 22) rfl))) (ty := .long) (by decide)
      have F_finished_b197 : Fld Z h197 b197 "com/example/stackledger/stackledger/Cleanup$Chosen" "finished" "Z" (.int (0 : Int32)) := D197 (Or.inr (hw _ (List.mem_of_getElem? (i := 24) rfl))) (ty := .boolean) (by decide)
      have F_totalPaidCents_b197 : Fld Z h197 b197 "com/example/stackledger/stackledger/Cleanup$Chosen" "totalPaidCents" "J" (.long (0 : Int64)) := D197 (Or.inr (hw _ (List.mem_of_getElem? (i := 26) rfl))) (ty := .long) (by decide)
      have F_balanceCents_b197 : Fld Z h197 b197 "com/example/stackledger/stackledger/Cleanup$Chosen" "balanceCents" "J" (.long (0 : Int64)) := D197 (Or.inr (hw _ (List.mem_of_getElem? (i := 28) rfl))) (ty := .long) (by decide)
      have F_lost_b197 : Fld Z h197 b197 "com/example/stackledger/stackledger/Cleanup$Chosen" "lost" "Z" (.int (0 : Int32)) := D197 (Or.inr (hw _ (List.mem_of_getElem? (i := 30) rfl))) (ty := .boolean) (by decide)
      have z199 : n0 ≤ h197.size := (Nat.le_trans Z0 E197.1)
      obtain ⟨v198, T198, L198, X198, q198, st198⟩ := own_callI X197 hx hZ (y := (⟨"com/example/stackledger/stackledger/Cleanup$Chosen", "<init>", "(JJLjava/lang/String;JZJJZ)V"⟩ : MethodName)) rfl hown (hw _ (List.mem_of_getElem? (i := 4) rfl)) (hw _ (List.mem_of_getElem? (i := 5) rfl)) (hw _ (List.mem_of_getElem? (i := 2) rfl)) (hw _ (List.mem_of_getElem? (i := 6) rfl)) (by decide) (a := b197) (hM := (rm1 l Z a0 hw [] b197 (1 : Int64) (2 : Int64) q6 q4 q0 b3 true h197 n0 z199 g_b197 A197 F_transaction_b197 F_patron_b197 F_org_b197 F_startedAt_b197 F_finished_b197 F_totalPaidCents_b197 F_balanceCents_b197 F_lost_b197)) (by decide) (by decide) (by decide) (by decide) e197 (argsL := [(.long (1 : Int64)), (.long (2 : Int64)), .null, (.long q6), (.int (b2i b3)), (.long q4), (.long q0), (.int (1 : Int32))]) (rest := [(.ref b197)]) (Ls := #[.val (.long q0), .second, .val (.long q2), .second, .val (.long q4), .second, .val (.long q6), .second, .val (.int p8), .val (.int (1 : Int32)), .val (.int (1 : Int32)), .val (.int (b2i b3)), .val (.int (b2i b4)), .unset, .unset, .unset, .unset, .unset, .unset, .unset, .unset, .unset]) (by rw [hml]; rfl) (lenOf pd__JJLjava_lang_String_JZJJZ_V rfl) (W := 1) (Nat.le_of_eq rfl) (hb hby at_75)
      obtain ⟨rfl, N198q, K198q, E198q, P198q, B198q, O198q⟩ := q198
      have N198 := Fr.app N0 N198q
      have K198 : Keep h0 T198.heap [] := K197.trans K198q (allS (Or.inr sz_b197) all0)
      obtain ⟨T200, h200, X200, e200, E200, A200, D200, -, st200⟩ := newO X198 hx hZ hown (hw _ (List.mem_of_getElem? (i := 0) rfl)) (hw _ (List.mem_of_getElem? (i := 1) rfl)) (hw _ (List.mem_of_getElem? (i := 2) rfl)) rfl (g := (mkF m 80 #[.val (.long q0), .second, .val (.long q2), .second, .val (.long q4), .second, .val (.long q6), .second, .val (.int p8), .val (.int (1 : Int32)), .val (.int (1 : Int32)), .val (.int (b2i b3)), .val (.int (b2i b4)), .val (.ref b197), .unset, .unset, .unset, .unset, .unset, .unset, .unset, .unset] [])) rfl (hb hby at_80) (by decide) (by decide)
      obtain ⟨b200, g200⟩ : ∃ z, z = T198.heap.size := ⟨_, rfl⟩
      have z201 : n0 ≤ T198.heap.size := (Nat.le_trans z199 K198q.1)
      have g_b200 : n0 ≤ b200 := Nat.le_trans z201 (Nat.le_of_eq g200.symm)
      have sz_b200 : h0.size ≤ b200 := Nat.le_trans K198.1 (Nat.le_of_eq g200.symm)
      rw [← g200] at A200 D200 st200
      have K200 : Keep h0 h200 [] := K198.ext E200
      have F_transaction_b200 : Fld Z h200 b200 "com/example/stackledger/stackledger/Cleanup$Chosen" "transaction" "J" (.long (0 : Int64)) := D200 (Or.inr (hw _ (List.mem_of_getElem? (i := 16) rfl))) (ty := .long) (by decide)
      have F_patron_b200 : Fld Z h200 b200 "com/example/stackledger/stackledger/Cleanup$Chosen" "patron" "J" (.long (0 : Int64)) := D200 (Or.inr (hw _ (List.mem_of_getElem? (i := 18) rfl))) (ty := .long) (by decide)
      have F_org_b200 : Fld Z h200 b200 "com/example/stackledger/stackledger/Cleanup$Chosen" "org" "Ljava/lang/String;" .null := D200 (Or.inr (hw _ (List.mem_of_getElem? (i := 20) rfl))) (ty := (.object "java/lang/String")) (by decide)
      have F_startedAt_b200 : Fld Z h200 b200 "com/example/stackledger/stackledger/Cleanup$Chosen" "startedAt" "J" (.long (0 : Int64)) := D200 (Or.inr (hw _ (List.mem_of_getElem? (i := 22) rfl))) (ty := .long) (by decide)
      have F_finished_b200 : Fld Z h200 b200 "com/example/stackledger/stackledger/Cleanup$Chosen" "finished" "Z" (.int (0 : Int32)) := D200 (Or.inr (hw _ (List.mem_of_getElem? (i := 24) rfl))) (ty := .boolean) (by decide)
      have F_totalPaidCents_b200 : Fld Z h200 b200 "com/example/stackledger/stackledger/Cleanup$Chosen" "totalPaidCents" "J" (.long (0 : Int64)) := D200 (Or.inr (hw _ (List.mem_of_getElem? (i := 26) rfl))) (ty := .long) (by decide)
      have F_balanceCents_b200 : Fld Z h200 b200 "com/example/stackledger/stackledger/Cleanup$Chosen" "balanceCents" "J" (.long (0 : Int64)) := D200 (Or.inr (hw _ (List.mem_of_getElem? (i := 28) rfl))) (ty := .long) (by decide)
      have F_lost_b200 : Fld Z h200 b200 "com/example/stackledger/stackledger/Cleanup$Chosen" "lost" "Z" (.int (0 : Int32)) := D200 (Or.inr (hw _ (List.mem_of_getElem? (i := 30) rfl))) (ty := .boolean) (by decide)
      have z203 : n0 ≤ h200.size := (Nat.le_trans z201 E200.1)
      obtain ⟨v202, T202, L202, X202, q202, st202⟩ := own_callI X200 hx hZ (y := (⟨"com/example/stackledger/stackledger/Cleanup$Chosen", "<init>", "(JJLjava/lang/String;JZJJZ)V"⟩ : MethodName)) rfl hown (hw _ (List.mem_of_getElem? (i := 4) rfl)) (hw _ (List.mem_of_getElem? (i := 5) rfl)) (hw _ (List.mem_of_getElem? (i := 2) rfl)) (hw _ (List.mem_of_getElem? (i := 6) rfl)) (by decide) (a := b200) (hM := (rm1 l Z a0 hw [] b200 (3 : Int64) (4 : Int64) q4 q6 q2 b4 true h200 n0 z203 g_b200 A200 F_transaction_b200 F_patron_b200 F_org_b200 F_startedAt_b200 F_finished_b200 F_totalPaidCents_b200 F_balanceCents_b200 F_lost_b200)) (by decide) (by decide) (by decide) (by decide) e200 (argsL := [(.long (3 : Int64)), (.long (4 : Int64)), .null, (.long q4), (.int (b2i b4)), (.long q6), (.long q2), (.int (1 : Int32))]) (rest := [(.ref b200)]) (Ls := #[.val (.long q0), .second, .val (.long q2), .second, .val (.long q4), .second, .val (.long q6), .second, .val (.int p8), .val (.int (1 : Int32)), .val (.int (1 : Int32)), .val (.int (b2i b3)), .val (.int (b2i b4)), .val (.ref b197), .unset, .unset, .unset, .unset, .unset, .unset, .unset, .unset]) (by rw [hml]; rfl) (lenOf pd__JJLjava_lang_String_JZJJZ_V rfl) (W := 1) (Nat.le_of_eq rfl) (hb hby at_100)
      obtain ⟨rfl, N202q, K202q, E202q, P202q, B202q, O202q⟩ := q202
      have N202 := Fr.app N198 N202q
      have K202 : Keep h0 T202.heap [] := K200.trans K202q (allS (Or.inr sz_b200) all0)
      obtain ⟨T204, h204, X204, e204, E204, A204, D204, -, st204⟩ := newO X202 hx hZ hown (hw _ (List.mem_of_getElem? (i := 33) rfl)) (hw _ (List.mem_of_getElem? (i := 34) rfl)) (hw _ (List.mem_of_getElem? (i := 35) rfl)) rfl (g := (mkF m 105 #[.val (.long q0), .second, .val (.long q2), .second, .val (.long q4), .second, .val (.long q6), .second, .val (.int p8), .val (.int (1 : Int32)), .val (.int (1 : Int32)), .val (.int (b2i b3)), .val (.int (b2i b4)), .val (.ref b197), .val (.ref b200), .unset, .unset, .unset, .unset, .unset, .unset, .unset] [])) rfl (hb hby at_105) (by decide) (by decide)
      obtain ⟨b204, g204⟩ : ∃ z, z = T202.heap.size := ⟨_, rfl⟩
      have z205 : n0 ≤ T202.heap.size := (Nat.le_trans z203 K202q.1)
      have g_b204 : n0 ≤ b204 := Nat.le_trans z205 (Nat.le_of_eq g204.symm)
      have sz_b204 : h0.size ≤ b204 := Nat.le_trans K202.1 (Nat.le_of_eq g204.symm)
      rw [← g204] at A204 D204 st204
      have K204 : Keep h0 h204 [] := K202.ext E204
      have F_skipped_b204 : Fld Z h204 b204 "com/example/stackledger/stackledger/Cleanup$Tally" "skipped" "J" (.long (0 : Int64)) := D204 (Or.inl (hw _ (List.mem_of_getElem? (i := 55) rfl))) (ty := .long) (by decide)
      have F_cleared_b204 : Fld Z h204 b204 "com/example/stackledger/stackledger/Cleanup$Tally" "cleared" "J" (.long (0 : Int64)) := D204 (Or.inl (hw _ (List.mem_of_getElem? (i := 62) rfl))) (ty := .long) (by decide)
      have F_balanceCents_b204 : Fld Z h204 b204 "com/example/stackledger/stackledger/Cleanup$Tally" "balanceCents" "J" (.long (0 : Int64)) := D204 (Or.inl (hw _ (List.mem_of_getElem? (i := 74) rfl))) (ty := .long) (by decide)
      have z207 : n0 ≤ h204.size := (Nat.le_trans z205 E204.1)
      obtain ⟨v206, T206, L206, X206, q206, st206⟩ := own_callI X204 hx hZ (y := (⟨"com/example/stackledger/stackledger/Cleanup$Tally", "<init>", "()V"⟩ : MethodName)) rfl hown (hw _ (List.mem_of_getElem? (i := 36) rfl)) (hw _ (List.mem_of_getElem? (i := 37) rfl)) (hw _ (List.mem_of_getElem? (i := 35) rfl)) (hw _ (List.mem_of_getElem? (i := 38) rfl)) (by decide) (a := b204) (hM := (rm4 l Z a0 hw [] b204 h204 n0 z207)) (by decide) (by decide) (by decide) (by decide) e204 (argsL := []) (rest := [(.ref b204)]) (Ls := #[.val (.long q0), .second, .val (.long q2), .second, .val (.long q4), .second, .val (.long q6), .second, .val (.int p8), .val (.int (1 : Int32)), .val (.int (1 : Int32)), .val (.int (b2i b3)), .val (.int (b2i b4)), .val (.ref b197), .val (.ref b200), .unset, .unset, .unset, .unset, .unset, .unset, .unset]) (by rw [hml]; rfl) (lenOf pd___V rfl) (W := 1) (Nat.le_of_eq rfl) (hb hby at_109)
      obtain ⟨rfl, N206q, e206⟩ := q206
      have N206 := Fr.app N202 N206q
      refine Gl.pre (S' := T206.setTop (mkF m 118 #[.val (.long q0), .second, .val (.long q2), .second, .val (.long q4), .second, .val (.long q6), .second, .val (.int p8), .val (.int (1 : Int32)), .val (.int (1 : Int32)), .val (.int (b2i b3)), .val (.int (b2i b4)), .val (.ref b197), .val (.ref b200), .val (.ref b204), .unset, .unset, .unset, .unset, .unset, .unset] [(.ref b197), (.ref b204)])) (fun t kt => ?_) ?_
      · show Steps p.tables e below (s₁.setTop (mkF m 55 #[.val (.long q0), .second, .val (.long q2), .second, .val (.long q4), .second, .val (.long q6), .second, .val (.int p8), .val (.int (1 : Int32)), .val (.int (1 : Int32)), .val (.int (b2i b3)), .unset, .unset, .unset, .unset, .unset, .unset, .unset, .unset, .unset, .unset] [(.int (b2i b4))])) _
        refine XS.istore X0.here hx rfl (hb hby at_55) rfl (l' := #[.val (.long q0), .second, .val (.long q2), .second, .val (.long q4), .second, .val (.long q6), .second, .val (.int p8), .val (.int (1 : Int32)), .val (.int (1 : Int32)), .val (.int (b2i b3)), .val (.int (b2i b4)), .unset, .unset, .unset, .unset, .unset, .unset, .unset, .unset, .unset]) rfl ?_
        show Steps p.tables e below (s₁.setTop (mkF m 57 #[.val (.long q0), .second, .val (.long q2), .second, .val (.long q4), .second, .val (.long q6), .second, .val (.int p8), .val (.int (1 : Int32)), .val (.int (1 : Int32)), .val (.int (b2i b3)), .val (.int (b2i b4)), .unset, .unset, .unset, .unset, .unset, .unset, .unset, .unset, .unset] [])) _
        refine st197 _ ?_
        show Steps p.tables e below (T197.setTop (mkF m 60 #[.val (.long q0), .second, .val (.long q2), .second, .val (.long q4), .second, .val (.long q6), .second, .val (.int p8), .val (.int (1 : Int32)), .val (.int (1 : Int32)), .val (.int (b2i b3)), .val (.int (b2i b4)), .unset, .unset, .unset, .unset, .unset, .unset, .unset, .unset, .unset] [(.ref b197)])) _
        refine XS.dup X197.here hx rfl (hb hby at_60) rfl rfl ?_
        show Steps p.tables e below (T197.setTop (mkF m 61 #[.val (.long q0), .second, .val (.long q2), .second, .val (.long q4), .second, .val (.long q6), .second, .val (.int p8), .val (.int (1 : Int32)), .val (.int (1 : Int32)), .val (.int (b2i b3)), .val (.int (b2i b4)), .unset, .unset, .unset, .unset, .unset, .unset, .unset, .unset, .unset] [(.ref b197), (.ref b197)])) _
        refine XS.lconst X197.here hx rfl (hb hby at_61) ?_
        show Steps p.tables e below (T197.setTop (mkF m 62 #[.val (.long q0), .second, .val (.long q2), .second, .val (.long q4), .second, .val (.long q6), .second, .val (.int p8), .val (.int (1 : Int32)), .val (.int (1 : Int32)), .val (.int (b2i b3)), .val (.int (b2i b4)), .unset, .unset, .unset, .unset, .unset, .unset, .unset, .unset, .unset] [(.long (1 : Int64)), (.ref b197), (.ref b197)])) _
        refine X197.ldc2Long hx hown (mvT hZ (hw _ (List.mem_of_getElem? (i := 3) rfl))) (g := (mkF m 62 #[.val (.long q0), .second, .val (.long q2), .second, .val (.long q4), .second, .val (.long q6), .second, .val (.int p8), .val (.int (1 : Int32)), .val (.int (1 : Int32)), .val (.int (b2i b3)), .val (.int (b2i b4)), .unset, .unset, .unset, .unset, .unset, .unset, .unset, .unset, .unset] [(.long (1 : Int64)), (.ref b197), (.ref b197)])) rfl (hb hby at_62) _ ?_
        show Steps p.tables e below (T197.setTop (mkF m 65 #[.val (.long q0), .second, .val (.long q2), .second, .val (.long q4), .second, .val (.long q6), .second, .val (.int p8), .val (.int (1 : Int32)), .val (.int (1 : Int32)), .val (.int (b2i b3)), .val (.int (b2i b4)), .unset, .unset, .unset, .unset, .unset, .unset, .unset, .unset, .unset] [(.long (2 : Int64)), (.long (1 : Int64)), (.ref b197), (.ref b197)])) _
        refine XS.aconstNull X197.here hx rfl (hb hby at_65) ?_
        show Steps p.tables e below (T197.setTop (mkF m 66 #[.val (.long q0), .second, .val (.long q2), .second, .val (.long q4), .second, .val (.long q6), .second, .val (.int p8), .val (.int (1 : Int32)), .val (.int (1 : Int32)), .val (.int (b2i b3)), .val (.int (b2i b4)), .unset, .unset, .unset, .unset, .unset, .unset, .unset, .unset, .unset] [.null, (.long (2 : Int64)), (.long (1 : Int64)), (.ref b197), (.ref b197)])) _
        refine XS.lload X197.here hx rfl (hb hby at_66) rfl ?_
        show Steps p.tables e below (T197.setTop (mkF m 68 #[.val (.long q0), .second, .val (.long q2), .second, .val (.long q4), .second, .val (.long q6), .second, .val (.int p8), .val (.int (1 : Int32)), .val (.int (1 : Int32)), .val (.int (b2i b3)), .val (.int (b2i b4)), .unset, .unset, .unset, .unset, .unset, .unset, .unset, .unset, .unset] [(.long q6), .null, (.long (2 : Int64)), (.long (1 : Int64)), (.ref b197), (.ref b197)])) _
        refine XS.iload X197.here hx rfl (hb hby at_68) rfl ?_
        show Steps p.tables e below (T197.setTop (mkF m 70 #[.val (.long q0), .second, .val (.long q2), .second, .val (.long q4), .second, .val (.long q6), .second, .val (.int p8), .val (.int (1 : Int32)), .val (.int (1 : Int32)), .val (.int (b2i b3)), .val (.int (b2i b4)), .unset, .unset, .unset, .unset, .unset, .unset, .unset, .unset, .unset] [(.int (b2i b3)), (.long q6), .null, (.long (2 : Int64)), (.long (1 : Int64)), (.ref b197), (.ref b197)])) _
        refine XS.lload X197.here hx rfl (hb hby at_70) rfl ?_
        show Steps p.tables e below (T197.setTop (mkF m 72 #[.val (.long q0), .second, .val (.long q2), .second, .val (.long q4), .second, .val (.long q6), .second, .val (.int p8), .val (.int (1 : Int32)), .val (.int (1 : Int32)), .val (.int (b2i b3)), .val (.int (b2i b4)), .unset, .unset, .unset, .unset, .unset, .unset, .unset, .unset, .unset] [(.long q4), (.int (b2i b3)), (.long q6), .null, (.long (2 : Int64)), (.long (1 : Int64)), (.ref b197), (.ref b197)])) _
        refine XS.lloadN X197.here hx rfl (hb hby at_72) rfl ?_
        show Steps p.tables e below (T197.setTop (mkF m 73 #[.val (.long q0), .second, .val (.long q2), .second, .val (.long q4), .second, .val (.long q6), .second, .val (.int p8), .val (.int (1 : Int32)), .val (.int (1 : Int32)), .val (.int (b2i b3)), .val (.int (b2i b4)), .unset, .unset, .unset, .unset, .unset, .unset, .unset, .unset, .unset] [(.long q0), (.long q4), (.int (b2i b3)), (.long q6), .null, (.long (2 : Int64)), (.long (1 : Int64)), (.ref b197), (.ref b197)])) _
        refine XS.iload X197.here hx rfl (hb hby at_73) rfl ?_
        show Steps p.tables e below (T197.setTop (mkF m 75 #[.val (.long q0), .second, .val (.long q2), .second, .val (.long q4), .second, .val (.long q6), .second, .val (.int p8), .val (.int (1 : Int32)), .val (.int (1 : Int32)), .val (.int (b2i b3)), .val (.int (b2i b4)), .unset, .unset, .unset, .unset, .unset, .unset, .unset, .unset, .unset] [(.int (1 : Int32)), (.long q0), (.long q4), (.int (b2i b3)), (.long q6), .null, (.long (2 : Int64)), (.long (1 : Int64)), (.ref b197), (.ref b197)])) _
        refine st198 _ ?_
        show Steps p.tables e below (T198.setTop (mkF m 78 #[.val (.long q0), .second, .val (.long q2), .second, .val (.long q4), .second, .val (.long q6), .second, .val (.int p8), .val (.int (1 : Int32)), .val (.int (1 : Int32)), .val (.int (b2i b3)), .val (.int (b2i b4)), .unset, .unset, .unset, .unset, .unset, .unset, .unset, .unset, .unset] [(.ref b197)])) _
        refine XS.astore X198.here hx rfl (hb hby at_78) rfl rfl (l' := #[.val (.long q0), .second, .val (.long q2), .second, .val (.long q4), .second, .val (.long q6), .second, .val (.int p8), .val (.int (1 : Int32)), .val (.int (1 : Int32)), .val (.int (b2i b3)), .val (.int (b2i b4)), .val (.ref b197), .unset, .unset, .unset, .unset, .unset, .unset, .unset, .unset]) rfl ?_
        show Steps p.tables e below (T198.setTop (mkF m 80 #[.val (.long q0), .second, .val (.long q2), .second, .val (.long q4), .second, .val (.long q6), .second, .val (.int p8), .val (.int (1 : Int32)), .val (.int (1 : Int32)), .val (.int (b2i b3)), .val (.int (b2i b4)), .val (.ref b197), .unset, .unset, .unset, .unset, .unset, .unset, .unset, .unset] [])) _
        refine st200 _ ?_
        show Steps p.tables e below (T200.setTop (mkF m 83 #[.val (.long q0), .second, .val (.long q2), .second, .val (.long q4), .second, .val (.long q6), .second, .val (.int p8), .val (.int (1 : Int32)), .val (.int (1 : Int32)), .val (.int (b2i b3)), .val (.int (b2i b4)), .val (.ref b197), .unset, .unset, .unset, .unset, .unset, .unset, .unset, .unset] [(.ref b200)])) _
        refine XS.dup X200.here hx rfl (hb hby at_83) rfl rfl ?_
        show Steps p.tables e below (T200.setTop (mkF m 84 #[.val (.long q0), .second, .val (.long q2), .second, .val (.long q4), .second, .val (.long q6), .second, .val (.int p8), .val (.int (1 : Int32)), .val (.int (1 : Int32)), .val (.int (b2i b3)), .val (.int (b2i b4)), .val (.ref b197), .unset, .unset, .unset, .unset, .unset, .unset, .unset, .unset] [(.ref b200), (.ref b200)])) _
        refine X200.ldc2Long hx hown (mvT hZ (hw _ (List.mem_of_getElem? (i := 31) rfl))) (g := (mkF m 84 #[.val (.long q0), .second, .val (.long q2), .second, .val (.long q4), .second, .val (.long q6), .second, .val (.int p8), .val (.int (1 : Int32)), .val (.int (1 : Int32)), .val (.int (b2i b3)), .val (.int (b2i b4)), .val (.ref b197), .unset, .unset, .unset, .unset, .unset, .unset, .unset, .unset] [(.ref b200), (.ref b200)])) rfl (hb hby at_84) _ ?_
        show Steps p.tables e below (T200.setTop (mkF m 87 #[.val (.long q0), .second, .val (.long q2), .second, .val (.long q4), .second, .val (.long q6), .second, .val (.int p8), .val (.int (1 : Int32)), .val (.int (1 : Int32)), .val (.int (b2i b3)), .val (.int (b2i b4)), .val (.ref b197), .unset, .unset, .unset, .unset, .unset, .unset, .unset, .unset] [(.long (3 : Int64)), (.ref b200), (.ref b200)])) _
        refine X200.ldc2Long hx hown (mvT hZ (hw _ (List.mem_of_getElem? (i := 32) rfl))) (g := (mkF m 87 #[.val (.long q0), .second, .val (.long q2), .second, .val (.long q4), .second, .val (.long q6), .second, .val (.int p8), .val (.int (1 : Int32)), .val (.int (1 : Int32)), .val (.int (b2i b3)), .val (.int (b2i b4)), .val (.ref b197), .unset, .unset, .unset, .unset, .unset, .unset, .unset, .unset] [(.long (3 : Int64)), (.ref b200), (.ref b200)])) rfl (hb hby at_87) _ ?_
        show Steps p.tables e below (T200.setTop (mkF m 90 #[.val (.long q0), .second, .val (.long q2), .second, .val (.long q4), .second, .val (.long q6), .second, .val (.int p8), .val (.int (1 : Int32)), .val (.int (1 : Int32)), .val (.int (b2i b3)), .val (.int (b2i b4)), .val (.ref b197), .unset, .unset, .unset, .unset, .unset, .unset, .unset, .unset] [(.long (4 : Int64)), (.long (3 : Int64)), (.ref b200), (.ref b200)])) _
        refine XS.aconstNull X200.here hx rfl (hb hby at_90) ?_
        show Steps p.tables e below (T200.setTop (mkF m 91 #[.val (.long q0), .second, .val (.long q2), .second, .val (.long q4), .second, .val (.long q6), .second, .val (.int p8), .val (.int (1 : Int32)), .val (.int (1 : Int32)), .val (.int (b2i b3)), .val (.int (b2i b4)), .val (.ref b197), .unset, .unset, .unset, .unset, .unset, .unset, .unset, .unset] [.null, (.long (4 : Int64)), (.long (3 : Int64)), (.ref b200), (.ref b200)])) _
        refine XS.lload X200.here hx rfl (hb hby at_91) rfl ?_
        show Steps p.tables e below (T200.setTop (mkF m 93 #[.val (.long q0), .second, .val (.long q2), .second, .val (.long q4), .second, .val (.long q6), .second, .val (.int p8), .val (.int (1 : Int32)), .val (.int (1 : Int32)), .val (.int (b2i b3)), .val (.int (b2i b4)), .val (.ref b197), .unset, .unset, .unset, .unset, .unset, .unset, .unset, .unset] [(.long q4), .null, (.long (4 : Int64)), (.long (3 : Int64)), (.ref b200), (.ref b200)])) _
        refine XS.iload X200.here hx rfl (hb hby at_93) rfl ?_
        show Steps p.tables e below (T200.setTop (mkF m 95 #[.val (.long q0), .second, .val (.long q2), .second, .val (.long q4), .second, .val (.long q6), .second, .val (.int p8), .val (.int (1 : Int32)), .val (.int (1 : Int32)), .val (.int (b2i b3)), .val (.int (b2i b4)), .val (.ref b197), .unset, .unset, .unset, .unset, .unset, .unset, .unset, .unset] [(.int (b2i b4)), (.long q4), .null, (.long (4 : Int64)), (.long (3 : Int64)), (.ref b200), (.ref b200)])) _
        refine XS.lload X200.here hx rfl (hb hby at_95) rfl ?_
        show Steps p.tables e below (T200.setTop (mkF m 97 #[.val (.long q0), .second, .val (.long q2), .second, .val (.long q4), .second, .val (.long q6), .second, .val (.int p8), .val (.int (1 : Int32)), .val (.int (1 : Int32)), .val (.int (b2i b3)), .val (.int (b2i b4)), .val (.ref b197), .unset, .unset, .unset, .unset, .unset, .unset, .unset, .unset] [(.long q6), (.int (b2i b4)), (.long q4), .null, (.long (4 : Int64)), (.long (3 : Int64)), (.ref b200), (.ref b200)])) _
        refine XS.lloadN X200.here hx rfl (hb hby at_97) rfl ?_
        show Steps p.tables e below (T200.setTop (mkF m 98 #[.val (.long q0), .second, .val (.long q2), .second, .val (.long q4), .second, .val (.long q6), .second, .val (.int p8), .val (.int (1 : Int32)), .val (.int (1 : Int32)), .val (.int (b2i b3)), .val (.int (b2i b4)), .val (.ref b197), .unset, .unset, .unset, .unset, .unset, .unset, .unset, .unset] [(.long q2), (.long q6), (.int (b2i b4)), (.long q4), .null, (.long (4 : Int64)), (.long (3 : Int64)), (.ref b200), (.ref b200)])) _
        refine XS.iload X200.here hx rfl (hb hby at_98) rfl ?_
        show Steps p.tables e below (T200.setTop (mkF m 100 #[.val (.long q0), .second, .val (.long q2), .second, .val (.long q4), .second, .val (.long q6), .second, .val (.int p8), .val (.int (1 : Int32)), .val (.int (1 : Int32)), .val (.int (b2i b3)), .val (.int (b2i b4)), .val (.ref b197), .unset, .unset, .unset, .unset, .unset, .unset, .unset, .unset] [(.int (1 : Int32)), (.long q2), (.long q6), (.int (b2i b4)), (.long q4), .null, (.long (4 : Int64)), (.long (3 : Int64)), (.ref b200), (.ref b200)])) _
        refine st202 _ ?_
        show Steps p.tables e below (T202.setTop (mkF m 103 #[.val (.long q0), .second, .val (.long q2), .second, .val (.long q4), .second, .val (.long q6), .second, .val (.int p8), .val (.int (1 : Int32)), .val (.int (1 : Int32)), .val (.int (b2i b3)), .val (.int (b2i b4)), .val (.ref b197), .unset, .unset, .unset, .unset, .unset, .unset, .unset, .unset] [(.ref b200)])) _
        refine XS.astore X202.here hx rfl (hb hby at_103) rfl rfl (l' := #[.val (.long q0), .second, .val (.long q2), .second, .val (.long q4), .second, .val (.long q6), .second, .val (.int p8), .val (.int (1 : Int32)), .val (.int (1 : Int32)), .val (.int (b2i b3)), .val (.int (b2i b4)), .val (.ref b197), .val (.ref b200), .unset, .unset, .unset, .unset, .unset, .unset, .unset]) rfl ?_
        show Steps p.tables e below (T202.setTop (mkF m 105 #[.val (.long q0), .second, .val (.long q2), .second, .val (.long q4), .second, .val (.long q6), .second, .val (.int p8), .val (.int (1 : Int32)), .val (.int (1 : Int32)), .val (.int (b2i b3)), .val (.int (b2i b4)), .val (.ref b197), .val (.ref b200), .unset, .unset, .unset, .unset, .unset, .unset, .unset] [])) _
        refine st204 _ ?_
        show Steps p.tables e below (T204.setTop (mkF m 108 #[.val (.long q0), .second, .val (.long q2), .second, .val (.long q4), .second, .val (.long q6), .second, .val (.int p8), .val (.int (1 : Int32)), .val (.int (1 : Int32)), .val (.int (b2i b3)), .val (.int (b2i b4)), .val (.ref b197), .val (.ref b200), .unset, .unset, .unset, .unset, .unset, .unset, .unset] [(.ref b204)])) _
        refine XS.dup X204.here hx rfl (hb hby at_108) rfl rfl ?_
        show Steps p.tables e below (T204.setTop (mkF m 109 #[.val (.long q0), .second, .val (.long q2), .second, .val (.long q4), .second, .val (.long q6), .second, .val (.int p8), .val (.int (1 : Int32)), .val (.int (1 : Int32)), .val (.int (b2i b3)), .val (.int (b2i b4)), .val (.ref b197), .val (.ref b200), .unset, .unset, .unset, .unset, .unset, .unset, .unset] [(.ref b204), (.ref b204)])) _
        refine st206 _ ?_
        show Steps p.tables e below (T206.setTop (mkF m 112 #[.val (.long q0), .second, .val (.long q2), .second, .val (.long q4), .second, .val (.long q6), .second, .val (.int p8), .val (.int (1 : Int32)), .val (.int (1 : Int32)), .val (.int (b2i b3)), .val (.int (b2i b4)), .val (.ref b197), .val (.ref b200), .unset, .unset, .unset, .unset, .unset, .unset, .unset] [(.ref b204)])) _
        refine XS.astore X206.here hx rfl (hb hby at_112) rfl rfl (l' := #[.val (.long q0), .second, .val (.long q2), .second, .val (.long q4), .second, .val (.long q6), .second, .val (.int p8), .val (.int (1 : Int32)), .val (.int (1 : Int32)), .val (.int (b2i b3)), .val (.int (b2i b4)), .val (.ref b197), .val (.ref b200), .val (.ref b204), .unset, .unset, .unset, .unset, .unset, .unset]) rfl ?_
        show Steps p.tables e below (T206.setTop (mkF m 114 #[.val (.long q0), .second, .val (.long q2), .second, .val (.long q4), .second, .val (.long q6), .second, .val (.int p8), .val (.int (1 : Int32)), .val (.int (1 : Int32)), .val (.int (b2i b3)), .val (.int (b2i b4)), .val (.ref b197), .val (.ref b200), .val (.ref b204), .unset, .unset, .unset, .unset, .unset, .unset] [])) _
        refine XS.aload X206.here hx rfl (hb hby at_114) rfl rfl ?_
        show Steps p.tables e below (T206.setTop (mkF m 116 #[.val (.long q0), .second, .val (.long q2), .second, .val (.long q4), .second, .val (.long q6), .second, .val (.int p8), .val (.int (1 : Int32)), .val (.int (1 : Int32)), .val (.int (b2i b3)), .val (.int (b2i b4)), .val (.ref b197), .val (.ref b200), .val (.ref b204), .unset, .unset, .unset, .unset, .unset, .unset] [(.ref b204)])) _
        refine XS.aload X206.here hx rfl (hb hby at_116) rfl rfl ?_
        exact kt
      have f209 := (((E198q.ext E200).keep K202q).ext E204)
      have f210 := (((O198q.ext E200).keep K202q (ninS (Nat.ne_of_lt (Nat.lt_of_lt_of_le (Nat.lt_of_lt_of_le A197.lt K198q.1) (Nat.le_of_eq g200.symm))) nin0)).ext E204)
      have f211 := (((B198q.ext E200).keep K202q (ninS (Nat.ne_of_lt (Nat.lt_of_lt_of_le (Nat.lt_of_lt_of_le A197.lt K198q.1) (Nat.le_of_eq g200.symm))) nin0)).ext E204)
      have f212 := (((P198q.ext E200).keep K202q (ninS (Nat.ne_of_lt (Nat.lt_of_lt_of_le (Nat.lt_of_lt_of_le A197.lt K198q.1) (Nat.le_of_eq g200.symm))) nin0)).ext E204)
      have f213 := ((own_sta_keep ((own_sta_keep (S_sk.ext E197) K198q (allS ⟨_, A197⟩ all0)).ext E200) K202q (allS ⟨_, A200⟩ all0)).ext E204)
      obtain ⟨v208, T208, L208, X208, q208, st208⟩ := own_callV X206 hx hZ (y := (⟨"com/example/stackledger/stackledger/Cleanup$Tally", "add", "(Lcom/example/stackledger/stackledger/Cleanup$Chosen;)V"⟩ : MethodName)) (z := (⟨"com/example/stackledger/stackledger/Cleanup$Tally", "add", "(Lcom/example/stackledger/stackledger/Cleanup$Chosen;)V"⟩ : MethodName)) hown (hw _ (List.mem_of_getElem? (i := 40) rfl)) (hw _ (List.mem_of_getElem? (i := 41) rfl)) (notFace_of_selects (args := #[]) (mvT hZ (hw _ (List.mem_of_getElem? (i := 43) rfl)))) (hw _ (List.mem_of_getElem? (i := 43) rfl)) (hw _ (List.mem_of_getElem? (i := 42) rfl)) (hw _ (List.mem_of_getElem? (i := 35) rfl)) (hw _ (List.mem_of_getElem? (i := 44) rfl)) (by decide) A204 (hM := (rm5l l Z a0 hw [] b204 b197 (0 : Int64) (0 : Int64) (0 : Int64) q0 q4 sk h204 n0 z207 g_b204 A204 f209 (Ne.symm (Nat.ne_of_lt (Nat.lt_of_lt_of_le (Nat.lt_of_lt_of_le (Nat.lt_of_lt_of_le (Nat.lt_of_lt_of_le A197.lt K198q.1) E200.1) K202q.1) (Nat.le_of_eq g204.symm)))) F_cleared_b204 F_skipped_b204 F_balanceCents_b204 f210 f211 f212 f213)) (by decide) (by decide) (by decide) (by decide) e206 (argsL := [(.ref b197)]) (rest := []) (Ls := #[.val (.long q0), .second, .val (.long q2), .second, .val (.long q4), .second, .val (.long q6), .second, .val (.int p8), .val (.int (1 : Int32)), .val (.int (1 : Int32)), .val (.int (b2i b3)), .val (.int (b2i b4)), .val (.ref b197), .val (.ref b200), .val (.ref b204), .unset, .unset, .unset, .unset, .unset, .unset]) (by rw [hml]; rfl) (lenOf pd__Lcom_example_stackledger_stackledger_Cleanup_Chosen__V rfl) (W := 0) (Nat.le_of_eq rfl) (hb hby at_118)
      obtain ⟨rfl, N208q, K208q, E208q, A208q, B208q, C208q⟩ := q208
      have N208 := Fr.app N206 N208q
      have K208 : Keep h0 T208.heap [] := K204.trans K208q (allS (Or.inr sz_b204) all0)
      have f215 := ((E202q.ext E204).keep K208q)
      have f216 := ((O202q.ext E204).keep K208q (ninS (Nat.ne_of_lt (Nat.lt_of_lt_of_le (Nat.lt_of_lt_of_le A200.lt K202q.1) (Nat.le_of_eq g204.symm))) nin0))
      have f217 := ((B202q.ext E204).keep K208q (ninS (Nat.ne_of_lt (Nat.lt_of_lt_of_le (Nat.lt_of_lt_of_le A200.lt K202q.1) (Nat.le_of_eq g204.symm))) nin0))
      have f218 := ((P202q.ext E204).keep K208q (ninS (Nat.ne_of_lt (Nat.lt_of_lt_of_le (Nat.lt_of_lt_of_le A200.lt K202q.1) (Nat.le_of_eq g204.symm))) nin0))
      have f219 := (own_sta_keep f213 K208q (allS ⟨_, A204⟩ all0))
      have z220 : n0 ≤ T208.heap.size := (Nat.le_trans z207 K208q.1)
      obtain ⟨v214, T214, L214, X214, q214, st214⟩ := own_callV X208 hx hZ (y := (⟨"com/example/stackledger/stackledger/Cleanup$Tally", "add", "(Lcom/example/stackledger/stackledger/Cleanup$Chosen;)V"⟩ : MethodName)) (z := (⟨"com/example/stackledger/stackledger/Cleanup$Tally", "add", "(Lcom/example/stackledger/stackledger/Cleanup$Chosen;)V"⟩ : MethodName)) hown (hw _ (List.mem_of_getElem? (i := 40) rfl)) (hw _ (List.mem_of_getElem? (i := 41) rfl)) (notFace_of_selects (args := #[]) (mvT hZ (hw _ (List.mem_of_getElem? (i := 43) rfl)))) (hw _ (List.mem_of_getElem? (i := 43) rfl)) (hw _ (List.mem_of_getElem? (i := 42) rfl)) (hw _ (List.mem_of_getElem? (i := 35) rfl)) (hw _ (List.mem_of_getElem? (i := 44) rfl)) (by decide) E208q (hM := (rm5l l Z a0 hw [] b204 b200 (0 : Int64) ((0 : Int64) + (1 : Int64)) (0 : Int64) q2 q6 sk T208.heap n0 z220 g_b204 E208q f215 (Ne.symm (Nat.ne_of_lt (Nat.lt_of_lt_of_le (Nat.lt_of_lt_of_le A200.lt K202q.1) (Nat.le_of_eq g204.symm)))) A208q B208q C208q f216 f217 f218 f219)) (by decide) (by decide) (by decide) (by decide) rfl (argsL := [(.ref b200)]) (rest := []) (Ls := #[.val (.long q0), .second, .val (.long q2), .second, .val (.long q4), .second, .val (.long q6), .second, .val (.int p8), .val (.int (1 : Int32)), .val (.int (1 : Int32)), .val (.int (b2i b3)), .val (.int (b2i b4)), .val (.ref b197), .val (.ref b200), .val (.ref b204), .unset, .unset, .unset, .unset, .unset, .unset]) (by rw [hml]; rfl) (lenOf pd__Lcom_example_stackledger_stackledger_Cleanup_Chosen__V rfl) (W := 0) (Nat.le_of_eq rfl) (hb hby at_125)
      obtain ⟨rfl, N214q, K214q, E214q, A214q, B214q, C214q⟩ := q214
      have N214 := Fr.app N208 N214q
      have K214 : Keep h0 T214.heap [] := K208.trans K214q (allS (Or.inr sz_b204) all0)
      have z222 : n0 ≤ T214.heap.size := (Nat.le_trans z220 K214q.1)
      obtain ⟨v221, T221, L221, X221, q221, st221⟩ := own_callV X214 hx hZ (y := (⟨"com/example/stackledger/stackledger/Cleanup$Tally", "cleared", "()J"⟩ : MethodName)) (z := (⟨"com/example/stackledger/stackledger/Cleanup$Tally", "cleared", "()J"⟩ : MethodName)) hown (hw _ (List.mem_of_getElem? (i := 56) rfl)) (hw _ (List.mem_of_getElem? (i := 57) rfl)) (notFace_of_selects (args := #[]) (mvT hZ (hw _ (List.mem_of_getElem? (i := 59) rfl)))) (hw _ (List.mem_of_getElem? (i := 59) rfl)) (hw _ (List.mem_of_getElem? (i := 58) rfl)) (hw _ (List.mem_of_getElem? (i := 35) rfl)) (hw _ (List.mem_of_getElem? (i := 60) rfl)) (by decide) E214q (hM := (rm7 l Z a0 hw [] b204 (0 : Int64) T214.heap n0 z222 A214q)) (by decide) (by decide) (by decide) (by decide) rfl (argsL := []) (rest := []) (Ls := #[.val (.long q0), .second, .val (.long q2), .second, .val (.long q4), .second, .val (.long q6), .second, .val (.int p8), .val (.int (1 : Int32)), .val (.int (1 : Int32)), .val (.int (b2i b3)), .val (.int (b2i b4)), .val (.ref b197), .val (.ref b200), .val (.ref b204), .val (.long (0 : Int64)), .second, .val (.long (((0 : Int64) + (1 : Int64)) + (1 : Int64))), .second, .val (.long (0 : Int64)), .second]) (by rw [hml]; rfl) (lenOf pd___J rfl) (W := 0) (Nat.le_of_eq rfl) (hb hby at_191)
      obtain ⟨rfl, N221q, e221⟩ := q221
      have N221 := Fr.app N214 N221q
      obtain ⟨v223, T223, L223, X223, q223, st223⟩ := own_callV X221 hx hZ (y := (⟨"com/example/stackledger/stackledger/Cleanup$Tally", "skipped", "()J"⟩ : MethodName)) (z := (⟨"com/example/stackledger/stackledger/Cleanup$Tally", "skipped", "()J"⟩ : MethodName)) hown (hw _ (List.mem_of_getElem? (i := 63) rfl)) (hw _ (List.mem_of_getElem? (i := 64) rfl)) (notFace_of_selects (args := #[]) (mvT hZ (hw _ (List.mem_of_getElem? (i := 66) rfl)))) (hw _ (List.mem_of_getElem? (i := 66) rfl)) (hw _ (List.mem_of_getElem? (i := 65) rfl)) (hw _ (List.mem_of_getElem? (i := 35) rfl)) (hw _ (List.mem_of_getElem? (i := 67) rfl)) (by decide) E214q (hM := (rm8 l Z a0 hw [] b204 (((0 : Int64) + (1 : Int64)) + (1 : Int64)) T214.heap n0 z222 B214q)) (by decide) (by decide) (by decide) (by decide) e221 (argsL := []) (rest := []) (Ls := #[.val (.long q0), .second, .val (.long q2), .second, .val (.long q4), .second, .val (.long q6), .second, .val (.int p8), .val (.int (1 : Int32)), .val (.int (1 : Int32)), .val (.int (b2i b3)), .val (.int (b2i b4)), .val (.ref b197), .val (.ref b200), .val (.ref b204), .val (.long (0 : Int64)), .second, .val (.long (((0 : Int64) + (1 : Int64)) + (1 : Int64))), .second, .val (.long (0 : Int64)), .second]) (by rw [hml]; rfl) (lenOf pd___J rfl) (W := 0) (Nat.le_of_eq rfl) (hb hby at_202)
      obtain ⟨rfl, N223q, e223⟩ := q223
      have N223 := Fr.app N221 N223q
      refine Gl.pre (S' := T223.setTop (mkF m 205 #[.val (.long q0), .second, .val (.long q2), .second, .val (.long q4), .second, .val (.long q6), .second, .val (.int p8), .val (.int (1 : Int32)), .val (.int (1 : Int32)), .val (.int (b2i b3)), .val (.int (b2i b4)), .val (.ref b197), .val (.ref b200), .val (.ref b204), .val (.long (0 : Int64)), .second, .val (.long (((0 : Int64) + (1 : Int64)) + (1 : Int64))), .second, .val (.long (0 : Int64)), .second] [(.long (((0 : Int64) + (1 : Int64)) + (1 : Int64)))])) (fun t kt => ?_) ?_
      · show Steps p.tables e below (T206.setTop (mkF m 118 #[.val (.long q0), .second, .val (.long q2), .second, .val (.long q4), .second, .val (.long q6), .second, .val (.int p8), .val (.int (1 : Int32)), .val (.int (1 : Int32)), .val (.int (b2i b3)), .val (.int (b2i b4)), .val (.ref b197), .val (.ref b200), .val (.ref b204), .unset, .unset, .unset, .unset, .unset, .unset] [(.ref b197), (.ref b204)])) _
        refine st208 _ ?_
        show Steps p.tables e below (T208.setTop (mkF m 121 #[.val (.long q0), .second, .val (.long q2), .second, .val (.long q4), .second, .val (.long q6), .second, .val (.int p8), .val (.int (1 : Int32)), .val (.int (1 : Int32)), .val (.int (b2i b3)), .val (.int (b2i b4)), .val (.ref b197), .val (.ref b200), .val (.ref b204), .unset, .unset, .unset, .unset, .unset, .unset] [])) _
        refine XS.aload X208.here hx rfl (hb hby at_121) rfl rfl ?_
        show Steps p.tables e below (T208.setTop (mkF m 123 #[.val (.long q0), .second, .val (.long q2), .second, .val (.long q4), .second, .val (.long q6), .second, .val (.int p8), .val (.int (1 : Int32)), .val (.int (1 : Int32)), .val (.int (b2i b3)), .val (.int (b2i b4)), .val (.ref b197), .val (.ref b200), .val (.ref b204), .unset, .unset, .unset, .unset, .unset, .unset] [(.ref b204)])) _
        refine XS.aload X208.here hx rfl (hb hby at_123) rfl rfl ?_
        show Steps p.tables e below (T208.setTop (mkF m 125 #[.val (.long q0), .second, .val (.long q2), .second, .val (.long q4), .second, .val (.long q6), .second, .val (.int p8), .val (.int (1 : Int32)), .val (.int (1 : Int32)), .val (.int (b2i b3)), .val (.int (b2i b4)), .val (.ref b197), .val (.ref b200), .val (.ref b204), .unset, .unset, .unset, .unset, .unset, .unset] [(.ref b200), (.ref b204)])) _
        refine st214 _ ?_
        show Steps p.tables e below (T214.setTop (mkF m 128 #[.val (.long q0), .second, .val (.long q2), .second, .val (.long q4), .second, .val (.long q6), .second, .val (.int p8), .val (.int (1 : Int32)), .val (.int (1 : Int32)), .val (.int (b2i b3)), .val (.int (b2i b4)), .val (.ref b197), .val (.ref b200), .val (.ref b204), .unset, .unset, .unset, .unset, .unset, .unset] [])) _
        refine XS.lconst X214.here hx rfl (hb hby at_128) ?_
        show Steps p.tables e below (T214.setTop (mkF m 129 #[.val (.long q0), .second, .val (.long q2), .second, .val (.long q4), .second, .val (.long q6), .second, .val (.int p8), .val (.int (1 : Int32)), .val (.int (1 : Int32)), .val (.int (b2i b3)), .val (.int (b2i b4)), .val (.ref b197), .val (.ref b200), .val (.ref b204), .unset, .unset, .unset, .unset, .unset, .unset] [(.long (0 : Int64))])) _
        refine XS.lstore X214.here hx rfl (hb hby at_129) rfl (l' := #[.val (.long q0), .second, .val (.long q2), .second, .val (.long q4), .second, .val (.long q6), .second, .val (.int p8), .val (.int (1 : Int32)), .val (.int (1 : Int32)), .val (.int (b2i b3)), .val (.int (b2i b4)), .val (.ref b197), .val (.ref b200), .val (.ref b204), .val (.long (0 : Int64)), .second, .unset, .unset, .unset, .unset]) rfl ?_
        show Steps p.tables e below (T214.setTop (mkF m 131 #[.val (.long q0), .second, .val (.long q2), .second, .val (.long q4), .second, .val (.long q6), .second, .val (.int p8), .val (.int (1 : Int32)), .val (.int (1 : Int32)), .val (.int (b2i b3)), .val (.int (b2i b4)), .val (.ref b197), .val (.ref b200), .val (.ref b204), .val (.long (0 : Int64)), .second, .unset, .unset, .unset, .unset] [])) _
        refine XS.lconst X214.here hx rfl (hb hby at_131) ?_
        show Steps p.tables e below (T214.setTop (mkF m 132 #[.val (.long q0), .second, .val (.long q2), .second, .val (.long q4), .second, .val (.long q6), .second, .val (.int p8), .val (.int (1 : Int32)), .val (.int (1 : Int32)), .val (.int (b2i b3)), .val (.int (b2i b4)), .val (.ref b197), .val (.ref b200), .val (.ref b204), .val (.long (0 : Int64)), .second, .unset, .unset, .unset, .unset] [(.long (0 : Int64))])) _
        refine XS.lstore X214.here hx rfl (hb hby at_132) rfl (l' := #[.val (.long q0), .second, .val (.long q2), .second, .val (.long q4), .second, .val (.long q6), .second, .val (.int p8), .val (.int (1 : Int32)), .val (.int (1 : Int32)), .val (.int (b2i b3)), .val (.int (b2i b4)), .val (.ref b197), .val (.ref b200), .val (.ref b204), .val (.long (0 : Int64)), .second, .val (.long (0 : Int64)), .second, .unset, .unset]) rfl ?_
        show Steps p.tables e below (T214.setTop (mkF m 134 #[.val (.long q0), .second, .val (.long q2), .second, .val (.long q4), .second, .val (.long q6), .second, .val (.int p8), .val (.int (1 : Int32)), .val (.int (1 : Int32)), .val (.int (b2i b3)), .val (.int (b2i b4)), .val (.ref b197), .val (.ref b200), .val (.ref b204), .val (.long (0 : Int64)), .second, .val (.long (0 : Int64)), .second, .unset, .unset] [])) _
        refine XS.lconst X214.here hx rfl (hb hby at_134) ?_
        show Steps p.tables e below (T214.setTop (mkF m 135 #[.val (.long q0), .second, .val (.long q2), .second, .val (.long q4), .second, .val (.long q6), .second, .val (.int p8), .val (.int (1 : Int32)), .val (.int (1 : Int32)), .val (.int (b2i b3)), .val (.int (b2i b4)), .val (.ref b197), .val (.ref b200), .val (.ref b204), .val (.long (0 : Int64)), .second, .val (.long (0 : Int64)), .second, .unset, .unset] [(.long (0 : Int64))])) _
        refine XS.lstore X214.here hx rfl (hb hby at_135) rfl (l' := #[.val (.long q0), .second, .val (.long q2), .second, .val (.long q4), .second, .val (.long q6), .second, .val (.int p8), .val (.int (1 : Int32)), .val (.int (1 : Int32)), .val (.int (b2i b3)), .val (.int (b2i b4)), .val (.ref b197), .val (.ref b200), .val (.ref b204), .val (.long (0 : Int64)), .second, .val (.long (0 : Int64)), .second, .val (.long (0 : Int64)), .second]) rfl ?_
        show Steps p.tables e below (T214.setTop (mkF m 137 #[.val (.long q0), .second, .val (.long q2), .second, .val (.long q4), .second, .val (.long q6), .second, .val (.int p8), .val (.int (1 : Int32)), .val (.int (1 : Int32)), .val (.int (b2i b3)), .val (.int (b2i b4)), .val (.ref b197), .val (.ref b200), .val (.ref b204), .val (.long (0 : Int64)), .second, .val (.long (0 : Int64)), .second, .val (.long (0 : Int64)), .second] [])) _
        refine XS.iload X214.here hx rfl (hb hby at_137) rfl ?_
        show Steps p.tables e below (T214.setTop (mkF m 139 #[.val (.long q0), .second, .val (.long q2), .second, .val (.long q4), .second, .val (.long q6), .second, .val (.int p8), .val (.int (1 : Int32)), .val (.int (1 : Int32)), .val (.int (b2i b3)), .val (.int (b2i b4)), .val (.ref b197), .val (.ref b200), .val (.ref b204), .val (.long (0 : Int64)), .second, .val (.long (0 : Int64)), .second, .val (.long (0 : Int64)), .second] [(.int (1 : Int32))])) _
        refine XS.ifNo X214.here hx rfl (hb hby at_139) rfl (own_f (i0_eq _) (by decide)) ?_
        show Steps p.tables e below (T214.setTop (mkF m 142 #[.val (.long q0), .second, .val (.long q2), .second, .val (.long q4), .second, .val (.long q6), .second, .val (.int p8), .val (.int (1 : Int32)), .val (.int (1 : Int32)), .val (.int (b2i b3)), .val (.int (b2i b4)), .val (.ref b197), .val (.ref b200), .val (.ref b204), .val (.long (0 : Int64)), .second, .val (.long (0 : Int64)), .second, .val (.long (0 : Int64)), .second] [])) _
        refine XS.lload X214.here hx rfl (hb hby at_142) rfl ?_
        show Steps p.tables e below (T214.setTop (mkF m 144 #[.val (.long q0), .second, .val (.long q2), .second, .val (.long q4), .second, .val (.long q6), .second, .val (.int p8), .val (.int (1 : Int32)), .val (.int (1 : Int32)), .val (.int (b2i b3)), .val (.int (b2i b4)), .val (.ref b197), .val (.ref b200), .val (.ref b204), .val (.long (0 : Int64)), .second, .val (.long (0 : Int64)), .second, .val (.long (0 : Int64)), .second] [(.long (0 : Int64))])) _
        refine XS.lconst X214.here hx rfl (hb hby at_144) ?_
        show Steps p.tables e below (T214.setTop (mkF m 145 #[.val (.long q0), .second, .val (.long q2), .second, .val (.long q4), .second, .val (.long q6), .second, .val (.int p8), .val (.int (1 : Int32)), .val (.int (1 : Int32)), .val (.int (b2i b3)), .val (.int (b2i b4)), .val (.ref b197), .val (.ref b200), .val (.ref b204), .val (.long (0 : Int64)), .second, .val (.long (0 : Int64)), .second, .val (.long (0 : Int64)), .second] [(.long (1 : Int64)), (.long (0 : Int64))])) _
        refine XS.ladd X214.here hx rfl (hb hby at_145) rfl ?_
        show Steps p.tables e below (T214.setTop (mkF m 146 #[.val (.long q0), .second, .val (.long q2), .second, .val (.long q4), .second, .val (.long q6), .second, .val (.int p8), .val (.int (1 : Int32)), .val (.int (1 : Int32)), .val (.int (b2i b3)), .val (.int (b2i b4)), .val (.ref b197), .val (.ref b200), .val (.ref b204), .val (.long (0 : Int64)), .second, .val (.long (0 : Int64)), .second, .val (.long (0 : Int64)), .second] [(.long ((0 : Int64) + (1 : Int64)))])) _
        refine XS.lstore X214.here hx rfl (hb hby at_146) rfl (l' := #[.val (.long q0), .second, .val (.long q2), .second, .val (.long q4), .second, .val (.long q6), .second, .val (.int p8), .val (.int (1 : Int32)), .val (.int (1 : Int32)), .val (.int (b2i b3)), .val (.int (b2i b4)), .val (.ref b197), .val (.ref b200), .val (.ref b204), .val (.long (0 : Int64)), .second, .val (.long ((0 : Int64) + (1 : Int64))), .second, .val (.long (0 : Int64)), .second]) rfl ?_
        show Steps p.tables e below (T214.setTop (mkF m 148 #[.val (.long q0), .second, .val (.long q2), .second, .val (.long q4), .second, .val (.long q6), .second, .val (.int p8), .val (.int (1 : Int32)), .val (.int (1 : Int32)), .val (.int (b2i b3)), .val (.int (b2i b4)), .val (.ref b197), .val (.ref b200), .val (.ref b204), .val (.long (0 : Int64)), .second, .val (.long ((0 : Int64) + (1 : Int64))), .second, .val (.long (0 : Int64)), .second] [])) _
        refine XS.goto X214.here hx rfl (pc0 := 148) (pc' := 163) rfl (hb hby at_148) (by decide) (by decide) ?_
        show Steps p.tables e below (T214.setTop (mkF m 163 #[.val (.long q0), .second, .val (.long q2), .second, .val (.long q4), .second, .val (.long q6), .second, .val (.int p8), .val (.int (1 : Int32)), .val (.int (1 : Int32)), .val (.int (b2i b3)), .val (.int (b2i b4)), .val (.ref b197), .val (.ref b200), .val (.ref b204), .val (.long (0 : Int64)), .second, .val (.long ((0 : Int64) + (1 : Int64))), .second, .val (.long (0 : Int64)), .second] [])) _
        refine XS.iload X214.here hx rfl (hb hby at_163) rfl ?_
        show Steps p.tables e below (T214.setTop (mkF m 165 #[.val (.long q0), .second, .val (.long q2), .second, .val (.long q4), .second, .val (.long q6), .second, .val (.int p8), .val (.int (1 : Int32)), .val (.int (1 : Int32)), .val (.int (b2i b3)), .val (.int (b2i b4)), .val (.ref b197), .val (.ref b200), .val (.ref b204), .val (.long (0 : Int64)), .second, .val (.long ((0 : Int64) + (1 : Int64))), .second, .val (.long (0 : Int64)), .second] [(.int (1 : Int32))])) _
        refine XS.ifNo X214.here hx rfl (hb hby at_165) rfl (own_f (i0_eq _) (by decide)) ?_
        show Steps p.tables e below (T214.setTop (mkF m 168 #[.val (.long q0), .second, .val (.long q2), .second, .val (.long q4), .second, .val (.long q6), .second, .val (.int p8), .val (.int (1 : Int32)), .val (.int (1 : Int32)), .val (.int (b2i b3)), .val (.int (b2i b4)), .val (.ref b197), .val (.ref b200), .val (.ref b204), .val (.long (0 : Int64)), .second, .val (.long ((0 : Int64) + (1 : Int64))), .second, .val (.long (0 : Int64)), .second] [])) _
        refine XS.lload X214.here hx rfl (hb hby at_168) rfl ?_
        show Steps p.tables e below (T214.setTop (mkF m 170 #[.val (.long q0), .second, .val (.long q2), .second, .val (.long q4), .second, .val (.long q6), .second, .val (.int p8), .val (.int (1 : Int32)), .val (.int (1 : Int32)), .val (.int (b2i b3)), .val (.int (b2i b4)), .val (.ref b197), .val (.ref b200), .val (.ref b204), .val (.long (0 : Int64)), .second, .val (.long ((0 : Int64) + (1 : Int64))), .second, .val (.long (0 : Int64)), .second] [(.long ((0 : Int64) + (1 : Int64)))])) _
        refine XS.lconst X214.here hx rfl (hb hby at_170) ?_
        show Steps p.tables e below (T214.setTop (mkF m 171 #[.val (.long q0), .second, .val (.long q2), .second, .val (.long q4), .second, .val (.long q6), .second, .val (.int p8), .val (.int (1 : Int32)), .val (.int (1 : Int32)), .val (.int (b2i b3)), .val (.int (b2i b4)), .val (.ref b197), .val (.ref b200), .val (.ref b204), .val (.long (0 : Int64)), .second, .val (.long ((0 : Int64) + (1 : Int64))), .second, .val (.long (0 : Int64)), .second] [(.long (1 : Int64)), (.long ((0 : Int64) + (1 : Int64)))])) _
        refine XS.ladd X214.here hx rfl (hb hby at_171) rfl ?_
        show Steps p.tables e below (T214.setTop (mkF m 172 #[.val (.long q0), .second, .val (.long q2), .second, .val (.long q4), .second, .val (.long q6), .second, .val (.int p8), .val (.int (1 : Int32)), .val (.int (1 : Int32)), .val (.int (b2i b3)), .val (.int (b2i b4)), .val (.ref b197), .val (.ref b200), .val (.ref b204), .val (.long (0 : Int64)), .second, .val (.long ((0 : Int64) + (1 : Int64))), .second, .val (.long (0 : Int64)), .second] [(.long (((0 : Int64) + (1 : Int64)) + (1 : Int64)))])) _
        refine XS.lstore X214.here hx rfl (hb hby at_172) rfl (l' := #[.val (.long q0), .second, .val (.long q2), .second, .val (.long q4), .second, .val (.long q6), .second, .val (.int p8), .val (.int (1 : Int32)), .val (.int (1 : Int32)), .val (.int (b2i b3)), .val (.int (b2i b4)), .val (.ref b197), .val (.ref b200), .val (.ref b204), .val (.long (0 : Int64)), .second, .val (.long (((0 : Int64) + (1 : Int64)) + (1 : Int64))), .second, .val (.long (0 : Int64)), .second]) rfl ?_
        show Steps p.tables e below (T214.setTop (mkF m 174 #[.val (.long q0), .second, .val (.long q2), .second, .val (.long q4), .second, .val (.long q6), .second, .val (.int p8), .val (.int (1 : Int32)), .val (.int (1 : Int32)), .val (.int (b2i b3)), .val (.int (b2i b4)), .val (.ref b197), .val (.ref b200), .val (.ref b204), .val (.long (0 : Int64)), .second, .val (.long (((0 : Int64) + (1 : Int64)) + (1 : Int64))), .second, .val (.long (0 : Int64)), .second] [])) _
        refine XS.goto X214.here hx rfl (pc0 := 174) (pc' := 189) rfl (hb hby at_174) (by decide) (by decide) ?_
        show Steps p.tables e below (T214.setTop (mkF m 189 #[.val (.long q0), .second, .val (.long q2), .second, .val (.long q4), .second, .val (.long q6), .second, .val (.int p8), .val (.int (1 : Int32)), .val (.int (1 : Int32)), .val (.int (b2i b3)), .val (.int (b2i b4)), .val (.ref b197), .val (.ref b200), .val (.ref b204), .val (.long (0 : Int64)), .second, .val (.long (((0 : Int64) + (1 : Int64)) + (1 : Int64))), .second, .val (.long (0 : Int64)), .second] [])) _
        refine XS.aload X214.here hx rfl (hb hby at_189) rfl rfl ?_
        show Steps p.tables e below (T214.setTop (mkF m 191 #[.val (.long q0), .second, .val (.long q2), .second, .val (.long q4), .second, .val (.long q6), .second, .val (.int p8), .val (.int (1 : Int32)), .val (.int (1 : Int32)), .val (.int (b2i b3)), .val (.int (b2i b4)), .val (.ref b197), .val (.ref b200), .val (.ref b204), .val (.long (0 : Int64)), .second, .val (.long (((0 : Int64) + (1 : Int64)) + (1 : Int64))), .second, .val (.long (0 : Int64)), .second] [(.ref b204)])) _
        refine st221 _ ?_
        show Steps p.tables e below (T221.setTop (mkF m 194 #[.val (.long q0), .second, .val (.long q2), .second, .val (.long q4), .second, .val (.long q6), .second, .val (.int p8), .val (.int (1 : Int32)), .val (.int (1 : Int32)), .val (.int (b2i b3)), .val (.int (b2i b4)), .val (.ref b197), .val (.ref b200), .val (.ref b204), .val (.long (0 : Int64)), .second, .val (.long (((0 : Int64) + (1 : Int64)) + (1 : Int64))), .second, .val (.long (0 : Int64)), .second] [(.long (0 : Int64))])) _
        refine XS.lload X221.here hx rfl (hb hby at_194) rfl ?_
        show Steps p.tables e below (T221.setTop (mkF m 196 #[.val (.long q0), .second, .val (.long q2), .second, .val (.long q4), .second, .val (.long q6), .second, .val (.int p8), .val (.int (1 : Int32)), .val (.int (1 : Int32)), .val (.int (b2i b3)), .val (.int (b2i b4)), .val (.ref b197), .val (.ref b200), .val (.ref b204), .val (.long (0 : Int64)), .second, .val (.long (((0 : Int64) + (1 : Int64)) + (1 : Int64))), .second, .val (.long (0 : Int64)), .second] [(.long (0 : Int64)), (.long (0 : Int64))])) _
        refine XS.lcmp X221.here hx rfl (hb hby at_196) rfl ?_
        show Steps p.tables e below (T221.setTop (mkF m 197 #[.val (.long q0), .second, .val (.long q2), .second, .val (.long q4), .second, .val (.long q6), .second, .val (.int p8), .val (.int (1 : Int32)), .val (.int (1 : Int32)), .val (.int (b2i b3)), .val (.int (b2i b4)), .val (.ref b197), .val (.ref b200), .val (.ref b204), .val (.long (0 : Int64)), .second, .val (.long (((0 : Int64) + (1 : Int64)) + (1 : Int64))), .second, .val (.long (0 : Int64)), .second] [(.int (lcmpW (0 : Int64) (0 : Int64)))])) _
        refine XS.ifNo X221.here hx rfl (hb hby at_197) rfl (own_nf (l0_ne _ _) rfl) ?_
        show Steps p.tables e below (T221.setTop (mkF m 200 #[.val (.long q0), .second, .val (.long q2), .second, .val (.long q4), .second, .val (.long q6), .second, .val (.int p8), .val (.int (1 : Int32)), .val (.int (1 : Int32)), .val (.int (b2i b3)), .val (.int (b2i b4)), .val (.ref b197), .val (.ref b200), .val (.ref b204), .val (.long (0 : Int64)), .second, .val (.long (((0 : Int64) + (1 : Int64)) + (1 : Int64))), .second, .val (.long (0 : Int64)), .second] [])) _
        refine XS.aload X221.here hx rfl (hb hby at_200) rfl rfl ?_
        show Steps p.tables e below (T221.setTop (mkF m 202 #[.val (.long q0), .second, .val (.long q2), .second, .val (.long q4), .second, .val (.long q6), .second, .val (.int p8), .val (.int (1 : Int32)), .val (.int (1 : Int32)), .val (.int (b2i b3)), .val (.int (b2i b4)), .val (.ref b197), .val (.ref b200), .val (.ref b204), .val (.long (0 : Int64)), .second, .val (.long (((0 : Int64) + (1 : Int64)) + (1 : Int64))), .second, .val (.long (0 : Int64)), .second] [(.ref b204)])) _
        refine st223 _ ?_
        exact kt
      obtain ⟨v224, T224, L224, X224, q224, st224⟩ := own_callV X223 hx hZ (y := (⟨"com/example/stackledger/stackledger/Cleanup$Tally", "balanceCents", "()J"⟩ : MethodName)) (z := (⟨"com/example/stackledger/stackledger/Cleanup$Tally", "balanceCents", "()J"⟩ : MethodName)) hown (hw _ (List.mem_of_getElem? (i := 68) rfl)) (hw _ (List.mem_of_getElem? (i := 69) rfl)) (notFace_of_selects (args := #[]) (mvT hZ (hw _ (List.mem_of_getElem? (i := 71) rfl)))) (hw _ (List.mem_of_getElem? (i := 71) rfl)) (hw _ (List.mem_of_getElem? (i := 70) rfl)) (hw _ (List.mem_of_getElem? (i := 35) rfl)) (hw _ (List.mem_of_getElem? (i := 72) rfl)) (by decide) E214q (hM := (rm9 l Z a0 hw [] b204 (0 : Int64) T214.heap n0 z222 C214q)) (by decide) (by decide) (by decide) (by decide) e223 (argsL := []) (rest := []) (Ls := #[.val (.long q0), .second, .val (.long q2), .second, .val (.long q4), .second, .val (.long q6), .second, .val (.int p8), .val (.int (1 : Int32)), .val (.int (1 : Int32)), .val (.int (b2i b3)), .val (.int (b2i b4)), .val (.ref b197), .val (.ref b200), .val (.ref b204), .val (.long (0 : Int64)), .second, .val (.long (((0 : Int64) + (1 : Int64)) + (1 : Int64))), .second, .val (.long (0 : Int64)), .second]) (by rw [hml]; rfl) (lenOf pd___J rfl) (W := 0) (Nat.le_of_eq rfl) (hb hby at_213)
      obtain ⟨rfl, N224q, e224⟩ := q224
      have N224 := Fr.app N223 N224q
      refine Gl.fin X224 (v := some (.int (1 : Int32))) (fun h => by rw [Bd.returns] at h; cases h) Bd.notSynchronized ?_ e224 (by decide) (by decide) (fun fs hr => ?_)
      · exact ⟨rfl, N224⟩
      · show Steps p.tables e below (T223.setTop (mkF m 205 #[.val (.long q0), .second, .val (.long q2), .second, .val (.long q4), .second, .val (.long q6), .second, .val (.int p8), .val (.int (1 : Int32)), .val (.int (1 : Int32)), .val (.int (b2i b3)), .val (.int (b2i b4)), .val (.ref b197), .val (.ref b200), .val (.ref b204), .val (.long (0 : Int64)), .second, .val (.long (((0 : Int64) + (1 : Int64)) + (1 : Int64))), .second, .val (.long (0 : Int64)), .second] [(.long (((0 : Int64) + (1 : Int64)) + (1 : Int64)))])) _
        refine XS.lload X223.here hx rfl (hb hby at_205) rfl ?_
        show Steps p.tables e below (T223.setTop (mkF m 207 #[.val (.long q0), .second, .val (.long q2), .second, .val (.long q4), .second, .val (.long q6), .second, .val (.int p8), .val (.int (1 : Int32)), .val (.int (1 : Int32)), .val (.int (b2i b3)), .val (.int (b2i b4)), .val (.ref b197), .val (.ref b200), .val (.ref b204), .val (.long (0 : Int64)), .second, .val (.long (((0 : Int64) + (1 : Int64)) + (1 : Int64))), .second, .val (.long (0 : Int64)), .second] [(.long (((0 : Int64) + (1 : Int64)) + (1 : Int64))), (.long (((0 : Int64) + (1 : Int64)) + (1 : Int64)))])) _
        refine XS.lcmp X223.here hx rfl (hb hby at_207) rfl ?_
        show Steps p.tables e below (T223.setTop (mkF m 208 #[.val (.long q0), .second, .val (.long q2), .second, .val (.long q4), .second, .val (.long q6), .second, .val (.int p8), .val (.int (1 : Int32)), .val (.int (1 : Int32)), .val (.int (b2i b3)), .val (.int (b2i b4)), .val (.ref b197), .val (.ref b200), .val (.ref b204), .val (.long (0 : Int64)), .second, .val (.long (((0 : Int64) + (1 : Int64)) + (1 : Int64))), .second, .val (.long (0 : Int64)), .second] [(.int (lcmpW (((0 : Int64) + (1 : Int64)) + (1 : Int64)) (((0 : Int64) + (1 : Int64)) + (1 : Int64))))])) _
        refine XS.ifNo X223.here hx rfl (hb hby at_208) rfl (own_nf (l0_ne _ _) rfl) ?_
        show Steps p.tables e below (T223.setTop (mkF m 211 #[.val (.long q0), .second, .val (.long q2), .second, .val (.long q4), .second, .val (.long q6), .second, .val (.int p8), .val (.int (1 : Int32)), .val (.int (1 : Int32)), .val (.int (b2i b3)), .val (.int (b2i b4)), .val (.ref b197), .val (.ref b200), .val (.ref b204), .val (.long (0 : Int64)), .second, .val (.long (((0 : Int64) + (1 : Int64)) + (1 : Int64))), .second, .val (.long (0 : Int64)), .second] [])) _
        refine XS.aload X223.here hx rfl (hb hby at_211) rfl rfl ?_
        show Steps p.tables e below (T223.setTop (mkF m 213 #[.val (.long q0), .second, .val (.long q2), .second, .val (.long q4), .second, .val (.long q6), .second, .val (.int p8), .val (.int (1 : Int32)), .val (.int (1 : Int32)), .val (.int (b2i b3)), .val (.int (b2i b4)), .val (.ref b197), .val (.ref b200), .val (.ref b204), .val (.long (0 : Int64)), .second, .val (.long (((0 : Int64) + (1 : Int64)) + (1 : Int64))), .second, .val (.long (0 : Int64)), .second] [(.ref b204)])) _
        refine st224 _ ?_
        show Steps p.tables e below (T224.setTop (mkF m 216 #[.val (.long q0), .second, .val (.long q2), .second, .val (.long q4), .second, .val (.long q6), .second, .val (.int p8), .val (.int (1 : Int32)), .val (.int (1 : Int32)), .val (.int (b2i b3)), .val (.int (b2i b4)), .val (.ref b197), .val (.ref b200), .val (.ref b204), .val (.long (0 : Int64)), .second, .val (.long (((0 : Int64) + (1 : Int64)) + (1 : Int64))), .second, .val (.long (0 : Int64)), .second] [(.long (0 : Int64))])) _
        refine XS.lload X224.here hx rfl (hb hby at_216) rfl ?_
        show Steps p.tables e below (T224.setTop (mkF m 218 #[.val (.long q0), .second, .val (.long q2), .second, .val (.long q4), .second, .val (.long q6), .second, .val (.int p8), .val (.int (1 : Int32)), .val (.int (1 : Int32)), .val (.int (b2i b3)), .val (.int (b2i b4)), .val (.ref b197), .val (.ref b200), .val (.ref b204), .val (.long (0 : Int64)), .second, .val (.long (((0 : Int64) + (1 : Int64)) + (1 : Int64))), .second, .val (.long (0 : Int64)), .second] [(.long (0 : Int64)), (.long (0 : Int64))])) _
        refine XS.lcmp X224.here hx rfl (hb hby at_218) rfl ?_
        show Steps p.tables e below (T224.setTop (mkF m 219 #[.val (.long q0), .second, .val (.long q2), .second, .val (.long q4), .second, .val (.long q6), .second, .val (.int p8), .val (.int (1 : Int32)), .val (.int (1 : Int32)), .val (.int (b2i b3)), .val (.int (b2i b4)), .val (.ref b197), .val (.ref b200), .val (.ref b204), .val (.long (0 : Int64)), .second, .val (.long (((0 : Int64) + (1 : Int64)) + (1 : Int64))), .second, .val (.long (0 : Int64)), .second] [(.int (lcmpW (0 : Int64) (0 : Int64)))])) _
        refine XS.ifNo X224.here hx rfl (hb hby at_219) rfl (own_nf (l0_ne _ _) rfl) ?_
        show Steps p.tables e below (T224.setTop (mkF m 222 #[.val (.long q0), .second, .val (.long q2), .second, .val (.long q4), .second, .val (.long q6), .second, .val (.int p8), .val (.int (1 : Int32)), .val (.int (1 : Int32)), .val (.int (b2i b3)), .val (.int (b2i b4)), .val (.ref b197), .val (.ref b200), .val (.ref b204), .val (.long (0 : Int64)), .second, .val (.long (((0 : Int64) + (1 : Int64)) + (1 : Int64))), .second, .val (.long (0 : Int64)), .second] [])) _
        refine XS.iconst X224.here hx rfl (hb hby at_222) ?_
        show Steps p.tables e below (T224.setTop (mkF m 223 #[.val (.long q0), .second, .val (.long q2), .second, .val (.long q4), .second, .val (.long q6), .second, .val (.int p8), .val (.int (1 : Int32)), .val (.int (1 : Int32)), .val (.int (b2i b3)), .val (.int (b2i b4)), .val (.ref b197), .val (.ref b200), .val (.ref b204), .val (.long (0 : Int64)), .second, .val (.long (((0 : Int64) + (1 : Int64)) + (1 : Int64))), .second, .val (.long (0 : Int64)), .second] [(.int (1 : Int32))])) _
        refine XS.goto X224.here hx rfl (pc0 := 223) (pc' := 227) rfl (hb hby at_223) (by decide) (by decide) ?_
        show Steps p.tables e below (T224.setTop (mkF m 227 #[.val (.long q0), .second, .val (.long q2), .second, .val (.long q4), .second, .val (.long q6), .second, .val (.int p8), .val (.int (1 : Int32)), .val (.int (1 : Int32)), .val (.int (b2i b3)), .val (.int (b2i b4)), .val (.ref b197), .val (.ref b200), .val (.ref b204), .val (.long (0 : Int64)), .second, .val (.long (((0 : Int64) + (1 : Int64)) + (1 : Int64))), .second, .val (.long (0 : Int64)), .second] [(.int (1 : Int32))])) _
        exact retN X224 hx (t := .boolean) Bd.returns (by simp) (hb hby at_227) hr
set_option maxRecDepth 65536 in
set_option maxHeartbeats 40000000 in
theorem comes_1 {Post : Tables → Env → Array Value → State → Outcome → State → Prop} (hpost : ∀ tb e args s v u, (limb_1_1.after args s (.returned v) u = true ∧ limb_1_2.after args s (.returned v) u = true ∧ True) → FrameEnd s (.returned v) u (Jvm.fieldLocs frame_1_writes args s ++ Jvm.arrayLocs frame_1_arrays args s ++ Jvm.staticLocs frame_1_statics s) 16 128 → Post tb e args s (.returned v) u) :
    ArmFor flags0 classFile x code maxLocals ret World_1 tables_1 room_1 Calls_1 rest_1 Pre_1 Post := by
  intro l hfl _ _ p e ha hc hk s m args below hf hA hF happ hP
  obtain ⟨hcalls, hrest, hpre⟩ := hP
  obtain ⟨-, -, -, hnamed, -, -, -, hat⟩ := (Spec.applies_iff hf).mp happ
  obtain ⟨hg, hn⟩ := and_e (Cond.before_iff.mp (show (Jvm.Cond.and given_1 narrow_1).before args s = true from hpre))
  obtain ⟨hq0, hr0⟩ := and_e hg
  obtain ⟨hq1, hr1⟩ := and_e hr0
  obtain ⟨hq2, hr2⟩ := and_e hr1
  obtain ⟨hq3, hr3⟩ := and_e hr2
  obtain ⟨hq4, hr4⟩ := and_e hr3
  obtain ⟨w0, w1, w2, w3, w4, rfl⟩ : ∃ w0 w1 w2 w3 w4 : Value, args = #[w0, w1, w2, w3, w4] := by
    have hs : args.size = 5 := by simpa [Cond.value, given_1] using hq0
    obtain ⟨L⟩ := args
    match L, hs with
    | [w0, w1, w2, w3, w4], _ => exact ⟨w0, w1, w2, w3, w4, rfl⟩
  have hw := fun d (hd : d ∈ tables_1) => atoms_spec (ws := Jvm.Cond.code x code maxLocals ret :: tables_1) hat d (List.mem_cons_of_mem _ hd)
  have hfit : Fit s := fun {y c} hc i hi => by
    obtain ⟨ha, rfl⟩ := Array.getElem?_eq_some_iff.mp hc
    have q := List.all_eq_true.mp ((Array.all_eq_true_iff_forall_mem.mp hF) _ (Array.getElem_mem ha)) i (List.mem_range.mpr hi)
    simpa [Array.getElem?_eq_getElem hi] using q
  obtain ⟨i0, ei0⟩ := isL_v hq1
  obtain rfl : w0 = (.long i0) := Option.some.inj ei0
  obtain ⟨i1, ei1⟩ := isL_v hq2
  obtain rfl : w1 = (.long i1) := Option.some.inj ei1
  obtain ⟨i2, ei2⟩ := isL_v hq3
  obtain rfl : w2 = (.long i2) := Option.some.inj ei2
  obtain ⟨i3, ei3⟩ := isL_v hq4
  obtain rfl : w3 = (.long i3) := Option.some.inj ei3
  obtain ⟨i4, ei4⟩ := is_v hr4
  obtain rfl : w4 = (.int i4) := Option.some.inj ei4
  obtain ⟨m_sk, hn0⟩ := and_e hn
  obtain ⟨m_fo, hn1⟩ := and_e hn0
  obtain ⟨mo_fo, hn2⟩ := and_e hn1
  obtain ⟨mo_sk, hn3⟩ := and_e hn2
  obtain ⟨m_ov, hn4⟩ := and_e hn3
  obtain ⟨mo_ov, hn5⟩ := and_e hn4
  obtain ⟨m_vo, hn6⟩ := and_e hn5
  have mo_vo := hn6
  obtain ⟨sk, ev_sk, S_sk, E_sk⟩ := own_sx (hw _ (List.mem_of_getElem? (i := 51) rfl)) (hw _ (List.mem_of_getElem? (i := 52) rfl)) m_sk
  obtain ⟨ov, ev_ov, S_ov, E_ov⟩ := own_sx (hw _ (List.mem_of_getElem? (i := 51) rfl)) (hw _ (List.mem_of_getElem? (i := 83) rfl)) m_ov
  obtain ⟨vo, ev_vo, S_vo, E_vo⟩ := own_sx (hw _ (List.mem_of_getElem? (i := 51) rfl)) (hw _ (List.mem_of_getElem? (i := 85) rfl)) m_vo
  obtain ⟨fo, ev_fo, S_fo, E_fo⟩ := own_sx (hw _ (List.mem_of_getElem? (i := 51) rfl)) (hw _ (List.mem_of_getElem? (i := 76) rfl)) m_fo
  have F_sk := own_fi ev_sk mo_sk
  have F_ov := own_fi ev_ov mo_ov
  have F_vo := own_fi ev_vo mo_vo
  have F_fo := own_fi ev_fo mo_fo
  have ne_ov := F_ov.ne F_sk (own_ne32 (by decide))
  have ne_vo := F_vo.ne F_sk (own_ne32 (by decide))
  have ne_fo := F_fo.ne F_sk (own_ne32 (by decide))
  obtain ⟨n, o, h1, h2, h3, _, L, rfl, ⟨rfl, N⟩, hq⟩ := rm0 l s _ hw tables_1 i0 i1 i2 i3 i4 sk ov vo fo s.heap s.heap.size (Nat.le_refl _) S_sk S_ov S_vo S_fo ne_ov ne_vo ne_fo p e ha hc hk s m _ below hf ((Spec.applies_iff_loose hf).mp happ).1 ⟨rfl, State.Warmed39.refl s, rfl⟩ trivial
  refine ⟨n, _, h1, h2, h3, hpost _ _ _ _ _ _ ⟨Cond.after_iff.mpr rfl, Cond.after_iff.mpr (eq_i res_at (Term.int_eval (1)) rfl), trivial⟩ ⟨hq.1, hq.2.1, (hq.2.2.sift fun y hy => Or.inr (N y hy)).mono (by decide) (by decide)⟩⟩
theorem main_1_1 : Claimed_1_1 := comes_1 fun _ _ _ _ _ _ h hF => ⟨h.1, hF⟩
theorem main_1_2 : Claimed_1_2 := comes_1 fun _ _ _ _ _ _ h hF => ⟨h.2.1, hF⟩
end Jvm.Pilot.@@N@@
namespace Jvm.Pilot.@@N@@
open Jvm Jvm.ClassFile Sem Op Lib Jvm.Free Jvm.Stand Jvm.Pilot.@@N@@.Jvm.D
/-! MADE BY PROGRAM (witnessworld.py) out of the Statement's table words and the real class files: 15 classes; the members and pool entries that the words name. The judged class is class 1, her method 1. -/
namespace start1
open Jvm.ClassFile
def u (s : String) : CpInfo := .utf8 (stringToUtf16 s)
/-- a pool by its gaps: so many unusable entries, then the entry; so many at the end -/
def gap : Nat → List CpInfo → List CpInfo
  | 0, r => r
  | n + 1, r => .unusable :: gap n r
def poolList (es : List (Nat × CpInfo)) (last : Nat) : List CpInfo := es.foldr (fun e r => gap e.1 (e.2 :: r)) (gap last [])
def pool (es : List (Nat × CpInfo)) (last : Nat) : Array CpInfo := ⟨poolList es last⟩
def fileOf (pool : Array CpInfo) (this : Nat) (attrs : Array Attribute := #[]) (ms : Array MethodInfo := #[]) (fl : Nat := 33) (sup : Nat := 0) (ifs : Array Nat := #[]) (fds : Array FieldInfo := #[]) : ClassFile where
  minorVersion := 0
  majorVersion := 65
  constantPool := pool
  accessFlags := fl
  thisClass := this
  superClass := sup
  interfaces := ifs
  fields := fds
  methods := ms
  attributes := attrs
def plain (name : String) (sup : Option ClassId) : Class where
  name := name
  kind := .ordinary
  loader := none
  accessFlags := 33
  super := sup
  interfaces := #[]
  cf := none
  fields := #[]
  methods := #[]
  instanceTypes := #[]
  staticTypes := #[]
  resolved := #[]
  callSites := []
  init := .initialized
  statics := none
  mirror := none

def pool0 : Array CpInfo := pool [(5, u "<init>"), (0, u "()V"), (1, .class_ 10), (1, u "java/lang/Object")] 113

def k0c0 : Code := { maxStack := 0, maxLocals := 1, code := object_method_1_code, exceptionTable := #[], attributes := #[] }
def k0m0 : Method := { name := "<init>", desc := "()V", sig := { parameters := [], returnType := none }, accessFlags := 1, code := some k0c0 }
/-- java/lang/Object -/
def k0 : Class := { plain "java/lang/Object" none with
  accessFlags := 33
  interfaces := #[]
  cf := some (fileOf pool0 8 #[] #[{ accessFlags := 1, nameIndex := 5, descriptorIndex := 6, attributes := #[] }] 33 0 #[] #[])
  fields := #[]
  methods := #[k0m0]
  instanceTypes := #[]
  staticTypes := #[]
  resolved := Array.replicate 124 none
  statics := none }

def pool1 : Array CpInfo := pool [(2, .class_ 4), (0, .nameAndType 5 6), (0, u "java/lang/Object"), (0, u "<init>"), (0, u "()V"), (0, .class_ 8), (0, u "com/example/stackledger/stackledger/Cleanup$Chosen"), (0, .long 2), (1, .methodref 7 12), (0, .nameAndType 5 13), (0, u "(JJLjava/lang/String;JZJJZ)V"), (0, .long 3), (1, .long 4), (1, .class_ 19), (0, u "com/example/stackledger/stackledger/Cleanup$Tally"), (0, .methodref 18 3), (0, .methodref 18 22), (0, .nameAndType 23 24), (0, u "add"), (0, u "(Lcom/example/stackledger/stackledger/Cleanup$Chosen;)V"), (0, .methodref 18 26), (0, .nameAndType 27 28), (0, u "cleared"), (0, u "()J"), (0, .methodref 18 30), (0, .nameAndType 31 28), (0, u "skipped"), (0, .methodref 18 33), (0, .nameAndType 34 28), (0, u "balanceCents"), (0, .class_ 36), (0, u "com/example/stackledger/stackledger/TallyAddPinLaw"), (2, u "law"), (0, u "(JJJJI)Z")] 8

def k1m0 : Method := { name := "<init>", desc := "()V", sig := { parameters := [], returnType := none }, accessFlags := 1, code := none }
def k1c1 : Code := { maxStack := 15, maxLocals := 22, code := code, exceptionTable := #[], attributes := #[] }
def k1m1 : Method := { name := "law", desc := "(JJJJI)Z", sig := { parameters := [.long, .long, .long, .long, .int], returnType := some .boolean }, accessFlags := 9, code := some k1c1 }
/-- com/example/stackledger/stackledger/TallyAddPinLaw -/
def k1 : Class := { plain "com/example/stackledger/stackledger/TallyAddPinLaw" (some 0) with
  accessFlags := 49
  interfaces := #[]
  cf := some (fileOf pool1 35 #[] #[{ accessFlags := 1, nameIndex := 5, descriptorIndex := 6, attributes := #[] }, { accessFlags := 9, nameIndex := 39, descriptorIndex := 40, attributes := #[] }] 49 2 #[] #[])
  fields := #[]
  methods := #[k1m0, k1m1]
  instanceTypes := #[]
  staticTypes := #[]
  resolved := Array.replicate 49 none
  statics := none }

def pool2 : Array CpInfo := pool [(1, .methodref 2 3), (0, .class_ 4), (0, .nameAndType 5 6), (0, u "java/lang/Object"), (0, u "<init>"), (0, u "()V"), (0, .class_ 8), (0, u "java/lang/Record")] 13

def k2c0 : Code := { maxStack := 1, maxLocals := 1, code := jdk_30_method_1_code, exceptionTable := #[], attributes := #[] }
def k2m0 : Method := { name := "<init>", desc := "()V", sig := { parameters := [], returnType := none }, accessFlags := 4, code := some k2c0 }
/-- java/lang/Record -/
def k2 : Class := { plain "java/lang/Record" (some 0) with
  accessFlags := 1057
  interfaces := #[]
  cf := some (fileOf pool2 7 #[] #[{ accessFlags := 4, nameIndex := 5, descriptorIndex := 6, attributes := #[] }] 1057 2 #[] #[])
  fields := #[]
  methods := #[k2m0]
  instanceTypes := #[]
  staticTypes := #[]
  resolved := Array.replicate 22 none
  statics := none }

def pool3 : Array CpInfo := pool [(1, .methodref 2 3), (0, .class_ 4), (0, .nameAndType 5 6), (0, u "java/lang/Record"), (0, u "<init>"), (0, u "()V"), (0, .fieldref 8 9), (0, .class_ 10), (0, .nameAndType 11 12), (0, u "com/example/stackledger/stackledger/Cleanup$Chosen"), (0, u "transaction"), (0, u "J"), (0, .fieldref 8 14), (0, .nameAndType 15 12), (0, u "patron"), (0, .fieldref 8 17), (0, .nameAndType 18 19), (0, u "org"), (0, u "Ljava/lang/String;"), (0, .fieldref 8 21), (0, .nameAndType 22 12), (0, u "startedAt"), (0, .fieldref 8 24), (0, .nameAndType 25 26), (0, u "finished"), (0, u "Z"), (0, .fieldref 8 28), (0, .nameAndType 29 12), (0, u "totalPaidCents"), (0, .fieldref 8 31), (0, .nameAndType 32 12), (0, u "balanceCents"), (0, .fieldref 8 34), (0, .nameAndType 35 26), (0, u "lost"), (0, .fieldref 37 38), (0, .class_ 39), (0, .nameAndType 40 41), (0, u "com/example/stackledger/stackledger/Cleanup$Action"), (0, u "SKIP_LOST"), (0, u "Lcom/example/stackledger/stackledger/Cleanup$Action;"), (0, .fieldref 37 43), (0, .nameAndType 44 41), (0, u "OVERPAYMENT"), (0, .fieldref 37 46), (0, .nameAndType 47 41), (0, u "VOID"), (0, .fieldref 37 49), (0, .nameAndType 50 41), (0, u "FORGIVE"), (2, u "action"), (0, u "()Lcom/example/stackledger/stackledger/Cleanup$Action;"), (12, u "()J"), (12, u "(JJLjava/lang/String;JZJJZ)V"), (11, .class_ 93), (0, u "com/example/stackledger/stackledger/Cleanup")] 27

def k3c0 : Code := { maxStack := 3, maxLocals := 14, code := prog_5_method_1_code, exceptionTable := #[], attributes := #[] }
def k3m0 : Method := { name := "<init>", desc := "(JJLjava/lang/String;JZJJZ)V", sig := { parameters := [.long, .long, (.object "java/lang/String"), .long, .boolean, .long, .long, .boolean], returnType := none }, accessFlags := 0, code := some k3c0 }
def k3c1 : Code := { maxStack := 4, maxLocals := 1, code := prog_5_method_2_code, exceptionTable := #[], attributes := #[] }
def k3m1 : Method := { name := "action", desc := "()Lcom/example/stackledger/stackledger/Cleanup$Action;", sig := { parameters := [], returnType := some (.object "com/example/stackledger/stackledger/Cleanup$Action") }, accessFlags := 0, code := some k3c1 }
def k3c2 : Code := { maxStack := 2, maxLocals := 1, code := prog_5_method_14_code, exceptionTable := #[], attributes := #[] }
def k3m2 : Method := { name := "balanceCents", desc := "()J", sig := { parameters := [], returnType := some .long }, accessFlags := 1, code := some k3c2 }
/-- com/example/stackledger/stackledger/Cleanup$Chosen -/
def k3 : Class := { plain "com/example/stackledger/stackledger/Cleanup$Chosen" (some 2) with
  accessFlags := 48
  interfaces := #[]
  cf := some (fileOf pool3 8 #[.nestHost 92] #[{ accessFlags := 0, nameIndex := 5, descriptorIndex := 80, attributes := #[] }, { accessFlags := 0, nameIndex := 53, descriptorIndex := 54, attributes := #[] }, { accessFlags := 1, nameIndex := 32, descriptorIndex := 67, attributes := #[] }] 48 2 #[] #[{ accessFlags := 18, nameIndex := 11, descriptorIndex := 12, attributes := #[] }, { accessFlags := 18, nameIndex := 15, descriptorIndex := 12, attributes := #[] }, { accessFlags := 18, nameIndex := 18, descriptorIndex := 19, attributes := #[] }, { accessFlags := 18, nameIndex := 22, descriptorIndex := 12, attributes := #[] }, { accessFlags := 18, nameIndex := 25, descriptorIndex := 26, attributes := #[] }, { accessFlags := 18, nameIndex := 29, descriptorIndex := 12, attributes := #[] }, { accessFlags := 18, nameIndex := 32, descriptorIndex := 12, attributes := #[] }, { accessFlags := 18, nameIndex := 35, descriptorIndex := 26, attributes := #[] }])
  fields := #[{ name := "transaction", type := .long, accessFlags := 18, slot := 0, constantValue := 0 }, { name := "patron", type := .long, accessFlags := 18, slot := 1, constantValue := 0 }, { name := "org", type := (.object "java/lang/String"), accessFlags := 18, slot := 2, constantValue := 0 }, { name := "startedAt", type := .long, accessFlags := 18, slot := 3, constantValue := 0 }, { name := "finished", type := .boolean, accessFlags := 18, slot := 4, constantValue := 0 }, { name := "totalPaidCents", type := .long, accessFlags := 18, slot := 5, constantValue := 0 }, { name := "balanceCents", type := .long, accessFlags := 18, slot := 6, constantValue := 0 }, { name := "lost", type := .boolean, accessFlags := 18, slot := 7, constantValue := 0 }]
  methods := #[k3m0, k3m1, k3m2]
  instanceTypes := #[.long, .long, (.object "java/lang/String"), .long, .boolean, .long, .long, .boolean]
  staticTypes := #[]
  resolved := Array.replicate 121 none
  statics := none }

def pool4 : Array CpInfo := pool [(1, .methodref 2 3), (0, .class_ 4), (0, .nameAndType 5 6), (0, u "java/lang/Object"), (0, u "<init>"), (0, u "()V"), (0, .methodref 8 9), (0, .class_ 10), (0, .nameAndType 11 12), (0, u "com/example/stackledger/stackledger/Cleanup$Chosen"), (0, u "action"), (0, u "()Lcom/example/stackledger/stackledger/Cleanup$Action;"), (0, .fieldref 14 15), (0, .class_ 16), (0, .nameAndType 17 18), (0, u "com/example/stackledger/stackledger/Cleanup$Action"), (0, u "SKIP_LOST"), (0, u "Lcom/example/stackledger/stackledger/Cleanup$Action;"), (0, .fieldref 20 21), (0, .class_ 22), (0, .nameAndType 23 24), (0, u "com/example/stackledger/stackledger/Cleanup$Tally"), (0, u "skipped"), (0, u "J"), (0, .fieldref 20 26), (0, .nameAndType 27 24), (0, u "cleared"), (0, .fieldref 20 29), (0, .nameAndType 30 24), (0, u "balanceCents"), (0, .methodref 8 32), (0, .nameAndType 30 33), (0, u "()J"), (2, u "add"), (0, u "(Lcom/example/stackledger/stackledger/Cleanup$Chosen;)V"), (4, .class_ 43), (0, u "com/example/stackledger/stackledger/Cleanup")] 4

def k4c0 : Code := { maxStack := 1, maxLocals := 1, code := prog_7_method_1_code, exceptionTable := #[], attributes := #[] }
def k4m0 : Method := { name := "<init>", desc := "()V", sig := { parameters := [], returnType := none }, accessFlags := 0, code := some k4c0 }
def k4c1 : Code := { maxStack := 5, maxLocals := 2, code := prog_7_method_2_code, exceptionTable := #[], attributes := #[] }
def k4m1 : Method := { name := "add", desc := "(Lcom/example/stackledger/stackledger/Cleanup$Chosen;)V", sig := { parameters := [(.object "com/example/stackledger/stackledger/Cleanup$Chosen")], returnType := none }, accessFlags := 0, code := some k4c1 }
def k4c2 : Code := { maxStack := 2, maxLocals := 1, code := prog_7_method_3_code, exceptionTable := #[], attributes := #[] }
def k4m2 : Method := { name := "cleared", desc := "()J", sig := { parameters := [], returnType := some .long }, accessFlags := 0, code := some k4c2 }
def k4c3 : Code := { maxStack := 2, maxLocals := 1, code := prog_7_method_4_code, exceptionTable := #[], attributes := #[] }
def k4m3 : Method := { name := "skipped", desc := "()J", sig := { parameters := [], returnType := some .long }, accessFlags := 0, code := some k4c3 }
def k4c4 : Code := { maxStack := 2, maxLocals := 1, code := prog_7_method_5_code, exceptionTable := #[], attributes := #[] }
def k4m4 : Method := { name := "balanceCents", desc := "()J", sig := { parameters := [], returnType := some .long }, accessFlags := 0, code := some k4c4 }
/-- com/example/stackledger/stackledger/Cleanup$Tally -/
def k4 : Class := { plain "com/example/stackledger/stackledger/Cleanup$Tally" (some 0) with
  accessFlags := 48
  interfaces := #[]
  cf := some (fileOf pool4 20 #[.nestHost 42] #[{ accessFlags := 0, nameIndex := 5, descriptorIndex := 6, attributes := #[] }, { accessFlags := 0, nameIndex := 36, descriptorIndex := 37, attributes := #[] }, { accessFlags := 0, nameIndex := 27, descriptorIndex := 33, attributes := #[] }, { accessFlags := 0, nameIndex := 23, descriptorIndex := 33, attributes := #[] }, { accessFlags := 0, nameIndex := 30, descriptorIndex := 33, attributes := #[] }] 48 2 #[] #[{ accessFlags := 2, nameIndex := 27, descriptorIndex := 24, attributes := #[] }, { accessFlags := 2, nameIndex := 23, descriptorIndex := 24, attributes := #[] }, { accessFlags := 2, nameIndex := 30, descriptorIndex := 24, attributes := #[] }])
  fields := #[{ name := "cleared", type := .long, accessFlags := 2, slot := 0, constantValue := 0 }, { name := "skipped", type := .long, accessFlags := 2, slot := 1, constantValue := 0 }, { name := "balanceCents", type := .long, accessFlags := 2, slot := 2, constantValue := 0 }]
  methods := #[k4m0, k4m1, k4m2, k4m3, k4m4]
  instanceTypes := #[.long, .long, .long]
  staticTypes := #[]
  resolved := Array.replicate 48 none
  statics := none }

def pool5 : Array CpInfo := pool [(1, .class_ 2), (0, u "java/lang/constant/Constable"), (0, .class_ 4), (0, u "java/lang/Object")] 6

/-- java/lang/constant/Constable -/
def k5 : Class := { plain "java/lang/constant/Constable" (some 0) with
  accessFlags := 1537
  interfaces := #[]
  cf := some (fileOf pool5 1 #[] #[] 1537 3 #[] #[])
  fields := #[]
  methods := #[]
  instanceTypes := #[]
  staticTypes := #[]
  resolved := Array.replicate 11 none
  statics := none }

def pool6 : Array CpInfo := pool [(1, .class_ 2), (0, u "java/lang/Comparable"), (0, .class_ 4), (0, u "java/lang/Object")] 7

/-- java/lang/Comparable -/
def k6 : Class := { plain "java/lang/Comparable" (some 0) with
  accessFlags := 1537
  interfaces := #[]
  cf := some (fileOf pool6 1 #[] #[] 1537 3 #[] #[])
  fields := #[]
  methods := #[]
  instanceTypes := #[]
  staticTypes := #[]
  resolved := Array.replicate 12 none
  statics := none }

def pool7 : Array CpInfo := pool [(1, .class_ 2), (0, u "java/io/Serializable"), (0, .class_ 4), (0, u "java/lang/Object")] 2

/-- java/io/Serializable -/
def k7 : Class := { plain "java/io/Serializable" (some 0) with
  accessFlags := 1537
  interfaces := #[]
  cf := some (fileOf pool7 1 #[] #[] 1537 3 #[] #[])
  fields := #[]
  methods := #[]
  instanceTypes := #[]
  staticTypes := #[]
  resolved := Array.replicate 7 none
  statics := none }

def pool8 : Array CpInfo := pool [(2, .class_ 4), (1, u "java/lang/Enum"), (0, u "name"), (0, u "Ljava/lang/String;"), (2, u "ordinal"), (0, u "I"), (1, .class_ 14), (1, u "java/lang/Object"), (4, u "hash"), (86, .class_ 108), (1, u "java/lang/Enum$EnumDesc"), (2, .class_ 112), (0, u "java/lang/constant/Constable"), (0, .class_ 114), (0, u "java/lang/Comparable"), (0, .class_ 116), (0, u "java/io/Serializable")] 87

/-- java/lang/Enum -/
def k8 : Class := { plain "java/lang/Enum" (some 0) with
  accessFlags := 1057
  interfaces := #[5, 6, 7]
  cf := some (fileOf pool8 2 #[.nestMembers #[106]] #[] 1057 12 #[111, 113, 115] #[{ accessFlags := 18, nameIndex := 5, descriptorIndex := 6, attributes := #[] }, { accessFlags := 18, nameIndex := 9, descriptorIndex := 10, attributes := #[] }, { accessFlags := 2, nameIndex := 19, descriptorIndex := 10, attributes := #[] }])
  fields := #[{ name := "name", type := (.object "java/lang/String"), accessFlags := 18, slot := 0, constantValue := 0 }, { name := "ordinal", type := .int, accessFlags := 18, slot := 1, constantValue := 0 }, { name := "hash", type := .int, accessFlags := 2, slot := 2, constantValue := 0 }]
  methods := #[]
  instanceTypes := #[(.object "java/lang/String"), .int, .int]
  staticTypes := #[]
  resolved := Array.replicate 204 none
  statics := none }

def pool9 : Array CpInfo := pool [(1, .class_ 2), (0, u "com/example/stackledger/stackledger/Cleanup$Action"), (2, u "VOID"), (0, u "Lcom/example/stackledger/stackledger/Cleanup$Action;"), (2, u "FORGIVE"), (2, u "OVERPAYMENT"), (2, u "SKIP_LOST"), (2, u "$VALUES"), (0, u "[Lcom/example/stackledger/stackledger/Cleanup$Action;"), (6, .class_ 28), (1, u "java/lang/Enum"), (8, u "word"), (0, u "Ljava/lang/String;"), (33, .class_ 73), (0, u "com/example/stackledger/stackledger/Cleanup")] 2

/-- com/example/stackledger/stackledger/Cleanup$Action -/
def k9 : Class := { plain "com/example/stackledger/stackledger/Cleanup$Action" (some 8) with
  accessFlags := 16432
  interfaces := #[]
  cf := some (fileOf pool9 1 #[.nestHost 72] #[] 16432 26 #[] #[{ accessFlags := 16409, nameIndex := 5, descriptorIndex := 6, attributes := #[] }, { accessFlags := 16409, nameIndex := 9, descriptorIndex := 6, attributes := #[] }, { accessFlags := 16409, nameIndex := 12, descriptorIndex := 6, attributes := #[] }, { accessFlags := 16409, nameIndex := 15, descriptorIndex := 6, attributes := #[] }, { accessFlags := 18, nameIndex := 37, descriptorIndex := 38, attributes := #[] }, { accessFlags := 4122, nameIndex := 18, descriptorIndex := 19, attributes := #[] }])
  fields := #[{ name := "VOID", type := (.object "com/example/stackledger/stackledger/Cleanup$Action"), accessFlags := 16409, slot := 0, constantValue := 0 }, { name := "FORGIVE", type := (.object "com/example/stackledger/stackledger/Cleanup$Action"), accessFlags := 16409, slot := 1, constantValue := 0 }, { name := "OVERPAYMENT", type := (.object "com/example/stackledger/stackledger/Cleanup$Action"), accessFlags := 16409, slot := 2, constantValue := 0 }, { name := "SKIP_LOST", type := (.object "com/example/stackledger/stackledger/Cleanup$Action"), accessFlags := 16409, slot := 3, constantValue := 0 }, { name := "word", type := (.object "java/lang/String"), accessFlags := 18, slot := 3, constantValue := 0 }, { name := "$VALUES", type := (.array (.object "com/example/stackledger/stackledger/Cleanup$Action")), accessFlags := 4122, slot := 4, constantValue := 0 }]
  methods := #[]
  instanceTypes := #[(.object "java/lang/String"), .int, .int, (.object "java/lang/String")]
  staticTypes := #[(.object "com/example/stackledger/stackledger/Cleanup$Action"), (.object "com/example/stackledger/stackledger/Cleanup$Action"), (.object "com/example/stackledger/stackledger/Cleanup$Action"), (.object "com/example/stackledger/stackledger/Cleanup$Action"), (.array (.object "com/example/stackledger/stackledger/Cleanup$Action"))]
  resolved := Array.replicate 76 none
  statics := some 0 }

def pool10 : Array CpInfo := pool [(1, u "java/lang/Cloneable"), (0, .class_ 1), (0, u "java/lang/Object"), (0, .class_ 3)] 3

/-- java/lang/Cloneable -/
def k10 : Class := { plain "java/lang/Cloneable" (some 0) with
  accessFlags := 1537
  interfaces := #[]
  cf := some (fileOf pool10 2 #[] #[] 1537 4 #[] #[])
  fields := #[]
  methods := #[]
  instanceTypes := #[]
  staticTypes := #[]
  resolved := Array.replicate 8 none
  statics := none }

/-- the primitive byte -/
def k11 : Class := { plain "byte" none with kind := .primitive 'B', accessFlags := 0x411 }
/-- [B -/
def k12 : Class := { plain "[B" (some 0) with kind := .array 11 .byte, interfaces := #[10, 7], accessFlags := 1041 }

/-- the primitive int -/
def k13 : Class := { plain "int" none with kind := .primitive 'I', accessFlags := 0x411 }
/-- [I -/
def k14 : Class := { plain "[I" (some 0) with kind := .array 13 .int, interfaces := #[10, 7], accessFlags := 1041 }

def heap : Heap := #[{ cls := 9, slots := #[.ref 1, .ref 2, .ref 3, .ref 4, .null], vm := .statics 9 },
  { cls := 9, slots := #[.null, .int 0, .int 0, .null], vm := .none },
  { cls := 9, slots := #[.null, .int 1, .int 0, .null], vm := .none },
  { cls := 9, slots := #[.null, .int 2, .int 0, .null], vm := .none },
  { cls := 9, slots := #[.null, .int 3, .int 0, .null], vm := .none }]
def classes : Array Class := #[k0, k1, k2, k3, k4, k5, k6, k7, k8, k9, k10, k11, k12, k13, k14]
def interned : List (Array UInt16 × Addr) := []
def slotsUsed : Nat := 21
def theMethod : MethodId := ⟨1, 1⟩
def args0 : Array Value := #[.long 5, .long 7, .long 0, .long 3, .int 1]
def aboutOver (below : List Frame) : State where
  vm := { classes := classes, interned := interned.toArray }
  heap := heap
  slotsUsed := slotsUsed
  threads := #[{ frames := .invoking theMethod args0 :: below }]
def below0 : List Frame := [.native { method := ⟨0, 0⟩, args := #[] }]
def about1 : State := aboutOver below0
def p0 : Program := .bare "" "" ""
def e0 : Env := launch0.env 0 0 0
theorem w_frames : about1.frames = Frame.invoking theMethod args0 :: below0 := rfl
set_option maxRecDepth 65536 in
theorem w_args : argsFit about1.vm theMethod args0 = true := by decide +kernel
set_option maxRecDepth 65536 in
theorem w_heap : heapFits about1 = true := by decide +kernel
set_option maxRecDepth 65536 in
theorem w_runnable : about1.curStatus? = some .runnable := by decide +kernel
set_option maxRecDepth 65536 in
theorem w_alone : about1.alone = true := by decide +kernel
set_option maxRecDepth 65536 in
theorem w_named : about1.methodNamed? x = some theMethod := by decide +kernel
set_option maxRecDepth 65536 in
theorem w_hears : about1.hears theMethod below0 = true := by decide +kernel
set_option maxRecDepth 65536 in
theorem w_ripe : about1.ripe theMethod args0 below0 = true := by decide +kernel
theorem w_running : about1.status = .running := rfl
set_option maxRecDepth 65536 in
theorem w_room : about1.hasRoom e0.platform room_1 = true :=
  launch0.hasRoom_least _ room_1 (by decide +kernel) (by decide +kernel) (by decide +kernel) (by decide +kernel) (by decide +kernel) (by decide +kernel)
theorem allAtoms_all (ts : List Jvm.Cond) (a : Array Jvm.Value) (st : Jvm.State) : (allAtoms ts).before a st = ts.all (fun c => c.before a st) := by
  induction ts with
  | nil => rfl
  | cons c t ih =>
    show (Jvm.Cond.and c (allAtoms t)).before a st = _
    rw [Jvm.Cond.before_and, ih, List.all_cons]
def words1 : List Jvm.Cond := Jvm.Cond.code x code maxLocals ret :: tables_1
/-- a 'code' word, met by the world's own term for the bytes: nothing is compared byte by byte -/
theorem code_word {y : MethodName} {bytes : ByteArray} {mx : Nat} {rt : Option FieldType} {a : Array Value} {s : State} {m : MethodId} {meth : Method} {c : Code} (h1 : s.methodNamed? y = some m) (h2 : s.vm.method? m = some meth) (h3 : meth.code = some c) (h4 : c.code = bytes)
    (h5 : (c.maxLocals == mx && c.exceptionTable.isEmpty && decide (c.maxStack ≤ mostOperands) && decide (meth.sig.returnType = rt) && !meth.locks && decide (parseMethodDescriptor y.desc = some meth.sig)) = true) : (Jvm.Cond.code y bytes mx rt).before a s = true := by
  simp only [Bool.and_eq_true, beq_iff_eq, Bool.not_eq_true', decide_eq_true_eq] at h5
  obtain ⟨⟨⟨⟨⟨g1, g2⟩, g3⟩, g4⟩, g5⟩, g6⟩ := h5
  simp [Cond.before, Cond.holds, Cond.value, h1, h2, h3, h4, g1, g2, g3, g4, g5, g6]
def isCode : Jvm.Cond → Bool
  | .code _ _ _ _ => true
  | _ => false
theorem all_split {L : List Jvm.Cond} {P : Jvm.Cond → Bool} (h1 : L.all (fun c => isCode c || P c) = true) (h2 : ∀ c ∈ L.filter isCode, P c = true) : L.all P = true := by
  refine List.all_eq_true.mpr fun c hc => ?_
  have h := List.all_eq_true.mp h1 c hc
  rcases Bool.eq_false_or_eq_true (isCode c) with hi | hi
  · exact h2 c (List.mem_filter.mpr ⟨hc, hi⟩)
  · simpa [hi] using h
set_option maxRecDepth 65536 in
theorem w_c0 : (Jvm.Cond.code x code maxLocals ret).before args0 about1 = true := code_word (m := ⟨1, 1⟩) (meth := k1m1) (c := k1c1) (by decide +kernel) rfl rfl rfl (by decide +kernel)
set_option maxRecDepth 65536 in
theorem w_c1 : (Jvm.Cond.code ({ cls := "com/example/stackledger/stackledger/Cleanup$Chosen", name := "<init>", desc := "(JJLjava/lang/String;JZJJZ)V" } : Jvm.MethodName) prog_5_method_1_code (14 : Nat) (Option.none : Option Jvm.ClassFile.FieldType)).before args0 about1 = true := code_word (m := ⟨3, 0⟩) (meth := k3m0) (c := k3c0) (by decide +kernel) rfl rfl rfl (by decide +kernel)
set_option maxRecDepth 65536 in
theorem w_c2 : (Jvm.Cond.code ({ cls := "java/lang/Record", name := "<init>", desc := "()V" } : Jvm.MethodName) jdk_30_method_1_code (1 : Nat) (Option.none : Option Jvm.ClassFile.FieldType)).before args0 about1 = true := code_word (m := ⟨2, 0⟩) (meth := k2m0) (c := k2c0) (by decide +kernel) rfl rfl rfl (by decide +kernel)
set_option maxRecDepth 65536 in
theorem w_c3 : (Jvm.Cond.code ({ cls := "java/lang/Object", name := "<init>", desc := "()V" } : Jvm.MethodName) object_method_1_code (1 : Nat) (Option.none : Option Jvm.ClassFile.FieldType)).before args0 about1 = true := code_word (m := ⟨0, 0⟩) (meth := k0m0) (c := k0c0) (by decide +kernel) rfl rfl rfl (by decide +kernel)
set_option maxRecDepth 65536 in
theorem w_c4 : (Jvm.Cond.code ({ cls := "com/example/stackledger/stackledger/Cleanup$Tally", name := "<init>", desc := "()V" } : Jvm.MethodName) prog_7_method_1_code (1 : Nat) (Option.none : Option Jvm.ClassFile.FieldType)).before args0 about1 = true := code_word (m := ⟨4, 0⟩) (meth := k4m0) (c := k4c0) (by decide +kernel) rfl rfl rfl (by decide +kernel)
set_option maxRecDepth 65536 in
theorem w_c5 : (Jvm.Cond.code ({ cls := "com/example/stackledger/stackledger/Cleanup$Tally", name := "add", desc := "(Lcom/example/stackledger/stackledger/Cleanup$Chosen;)V" } : Jvm.MethodName) prog_7_method_2_code (2 : Nat) (Option.none : Option Jvm.ClassFile.FieldType)).before args0 about1 = true := code_word (m := ⟨4, 1⟩) (meth := k4m1) (c := k4c1) (by decide +kernel) rfl rfl rfl (by decide +kernel)
set_option maxRecDepth 65536 in
theorem w_c6 : (Jvm.Cond.code ({ cls := "com/example/stackledger/stackledger/Cleanup$Chosen", name := "action", desc := "()Lcom/example/stackledger/stackledger/Cleanup$Action;" } : Jvm.MethodName) prog_5_method_2_code (1 : Nat) (Option.some (Jvm.ClassFile.FieldType.object "com/example/stackledger/stackledger/Cleanup$Action"))).before args0 about1 = true := code_word (m := ⟨3, 1⟩) (meth := k3m1) (c := k3c1) (by decide +kernel) rfl rfl rfl (by decide +kernel)
set_option maxRecDepth 65536 in
theorem w_c7 : (Jvm.Cond.code ({ cls := "com/example/stackledger/stackledger/Cleanup$Tally", name := "cleared", desc := "()J" } : Jvm.MethodName) prog_7_method_3_code (1 : Nat) (Option.some Jvm.ClassFile.FieldType.long)).before args0 about1 = true := code_word (m := ⟨4, 2⟩) (meth := k4m2) (c := k4c2) (by decide +kernel) rfl rfl rfl (by decide +kernel)
set_option maxRecDepth 65536 in
theorem w_c8 : (Jvm.Cond.code ({ cls := "com/example/stackledger/stackledger/Cleanup$Tally", name := "skipped", desc := "()J" } : Jvm.MethodName) prog_7_method_4_code (1 : Nat) (Option.some Jvm.ClassFile.FieldType.long)).before args0 about1 = true := code_word (m := ⟨4, 3⟩) (meth := k4m3) (c := k4c3) (by decide +kernel) rfl rfl rfl (by decide +kernel)
set_option maxRecDepth 65536 in
theorem w_c9 : (Jvm.Cond.code ({ cls := "com/example/stackledger/stackledger/Cleanup$Tally", name := "balanceCents", desc := "()J" } : Jvm.MethodName) prog_7_method_5_code (1 : Nat) (Option.some Jvm.ClassFile.FieldType.long)).before args0 about1 = true := code_word (m := ⟨4, 4⟩) (meth := k4m4) (c := k4c4) (by decide +kernel) rfl rfl rfl (by decide +kernel)
set_option maxRecDepth 65536 in
theorem w_c10 : (Jvm.Cond.code ({ cls := "com/example/stackledger/stackledger/Cleanup$Chosen", name := "balanceCents", desc := "()J" } : Jvm.MethodName) prog_5_method_14_code (1 : Nat) (Option.some Jvm.ClassFile.FieldType.long)).before args0 about1 = true := code_word (m := ⟨3, 2⟩) (meth := k3m2) (c := k3c2) (by decide +kernel) rfl rfl rfl (by decide +kernel)
def codes1 : List Jvm.Cond := [Jvm.Cond.code x code maxLocals ret, Jvm.Cond.code ({ cls := "com/example/stackledger/stackledger/Cleanup$Chosen", name := "<init>", desc := "(JJLjava/lang/String;JZJJZ)V" } : Jvm.MethodName) prog_5_method_1_code (14 : Nat) (Option.none : Option Jvm.ClassFile.FieldType), Jvm.Cond.code ({ cls := "java/lang/Record", name := "<init>", desc := "()V" } : Jvm.MethodName) jdk_30_method_1_code (1 : Nat) (Option.none : Option Jvm.ClassFile.FieldType), Jvm.Cond.code ({ cls := "java/lang/Object", name := "<init>", desc := "()V" } : Jvm.MethodName) object_method_1_code (1 : Nat) (Option.none : Option Jvm.ClassFile.FieldType), Jvm.Cond.code ({ cls := "com/example/stackledger/stackledger/Cleanup$Tally", name := "<init>", desc := "()V" } : Jvm.MethodName) prog_7_method_1_code (1 : Nat) (Option.none : Option Jvm.ClassFile.FieldType), Jvm.Cond.code ({ cls := "com/example/stackledger/stackledger/Cleanup$Tally", name := "add", desc := "(Lcom/example/stackledger/stackledger/Cleanup$Chosen;)V" } : Jvm.MethodName) prog_7_method_2_code (2 : Nat) (Option.none : Option Jvm.ClassFile.FieldType), Jvm.Cond.code ({ cls := "com/example/stackledger/stackledger/Cleanup$Chosen", name := "action", desc := "()Lcom/example/stackledger/stackledger/Cleanup$Action;" } : Jvm.MethodName) prog_5_method_2_code (1 : Nat) (Option.some (Jvm.ClassFile.FieldType.object "com/example/stackledger/stackledger/Cleanup$Action")), Jvm.Cond.code ({ cls := "com/example/stackledger/stackledger/Cleanup$Tally", name := "cleared", desc := "()J" } : Jvm.MethodName) prog_7_method_3_code (1 : Nat) (Option.some Jvm.ClassFile.FieldType.long), Jvm.Cond.code ({ cls := "com/example/stackledger/stackledger/Cleanup$Tally", name := "skipped", desc := "()J" } : Jvm.MethodName) prog_7_method_4_code (1 : Nat) (Option.some Jvm.ClassFile.FieldType.long), Jvm.Cond.code ({ cls := "com/example/stackledger/stackledger/Cleanup$Tally", name := "balanceCents", desc := "()J" } : Jvm.MethodName) prog_7_method_5_code (1 : Nat) (Option.some Jvm.ClassFile.FieldType.long), Jvm.Cond.code ({ cls := "com/example/stackledger/stackledger/Cleanup$Chosen", name := "balanceCents", desc := "()J" } : Jvm.MethodName) prog_5_method_14_code (1 : Nat) (Option.some Jvm.ClassFile.FieldType.long)]
set_option maxRecDepth 65536 in
theorem codes_eq : words1.filter isCode = codes1 := rfl
theorem w_codes : ∀ c ∈ words1.filter isCode, c.before args0 about1 = true := by
  rw [codes_eq]
  intro c hc
  simp only [codes1, List.mem_cons, List.not_mem_nil, or_false] at hc
  rcases hc with rfl | rfl | rfl | rfl | rfl | rfl | rfl | rfl | rfl | rfl | rfl
  · exact w_c0
  · exact w_c1
  · exact w_c2
  · exact w_c3
  · exact w_c4
  · exact w_c5
  · exact w_c6
  · exact w_c7
  · exact w_c8
  · exact w_c9
  · exact w_c10
set_option maxRecDepth 65536 in
theorem w_t1 : (words1.take 24).all (fun c => isCode c || c.before args0 about1) = true := by decide +kernel
set_option maxRecDepth 65536 in
theorem w_t2 : ((words1.drop 24).take 24).all (fun c => isCode c || c.before args0 about1) = true := by decide +kernel
set_option maxRecDepth 65536 in
theorem w_t3 : (((words1.drop 24).drop 24).take 24).all (fun c => isCode c || c.before args0 about1) = true := by decide +kernel
set_option maxRecDepth 65536 in
theorem w_t4 : (((words1.drop 24).drop 24).drop 24).all (fun c => isCode c || c.before args0 about1) = true := by decide +kernel
theorem w_tables : (allAtoms (Jvm.Cond.code x code maxLocals ret :: tables_1)).before args0 about1 = true := by
  rw [allAtoms_all]
  show words1.all (fun c => c.before args0 about1) = true
  refine all_split ?_ w_codes
  rw [← List.take_append_drop 24 words1, List.all_append, w_t1, ← List.take_append_drop 24 (words1.drop 24), List.all_append, w_t2, ← List.take_append_drop 24 ((words1.drop 24).drop 24), List.all_append, w_t3, w_t4]
  rfl
set_option maxRecDepth 65536 in
theorem w_case : (Jvm.Cond.and given_1 narrow_1).before args0 about1 = true := by decide +kernel
theorem w_applies : (headSpec (Jvm.Cond.code x code maxLocals ret :: tables_1) room_1).applies x e0.platform about1 = true :=
  (Spec.applies_iff w_frames).mpr ⟨w_running, w_runnable, w_alone, w_named, w_hears, w_ripe, w_room, w_tables⟩
theorem atStart : AtStart classFile x code maxLocals ret World_1 tables_1 room_1 Calls_1 rest_1 Pre_1 launch0 p0 e0 about1 theMethod args0 below0 :=
  ⟨lists_1, trivial, launch0.admits_env _ _ _, launch0.least_env, fairChoices_fair.cas, fairChoices_fair.clock, w_frames, w_args, w_heap, w_applies, trivial, trivial, w_case⟩
end start1
theorem witness_1 : WitnessClaimed_1 := ⟨start1.p0, start1.e0, start1.about1, start1.theMethod, start1.args0, start1.below0, start1.atStart⟩
end Jvm.Pilot.@@N@@
