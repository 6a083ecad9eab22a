import JvmDerived
import JvmDerived.Pilot.@@N@@Statement
import JvmDerived.Pilot.@@N@@Code
set_option linter.unusedVariables false
set_option linter.unusedSimpArgs false
namespace Jvm.Pilot.@@N@@
open Jvm Jvm.ClassFile Sem Op Lib Jvm.Free Jvm.Stand Jvm.LawKit Jvm.RoadKit Bundle Jvm.Pilot.@@N@@.Jvm.D
section OwnKit
variable {p : Program} {l : Launch} {e : Env} {R : Room} {s : State} {m : MethodId} {args : Array Value} {below : List Frame} {meth : Method} {c : Code} {T : State} {locs : List Loc} {cells slots : Nat} {Z : State} {a0 : Array Value} {h h0 : Heap}
/-- the run comes from S to an end of which Q speaks -/
def Gl (p : Program) (e : Env) (below : List Frame) (s : State) (Q : Option Value → Heap → List Loc → Prop) (cc kk : Nat) (S : State) : Prop :=
  ∃ t o, Steps p.tables e below S t ∧ t.status = .running ∧ Ended t below o ∧ ∃ v L, o = .returned v ∧ Q v t.heap L ∧ FrameEnd s o t L cc kk
theorem Gl.pre {Q : Option Value → Heap → List Loc → Prop} {cc kk : Nat} {S S' : State} (st : ∀ t, Steps p.tables e below S' t → Steps p.tables e below S t) (k : Gl p e below s Q cc kk S') : Gl p e below s Q cc kk S := by
  obtain ⟨t, o, h1, h2⟩ := k
  exact ⟨t, o, st _ h1, h2⟩
theorem Gl.ret {Q : Option Value → Heap → List Loc → Prop} {cc kk : Nat} {S : State} (X : Stand p l e R s m args below meth c T locs cells slots) {v : Option Value} (hv : meth.sig.returnType = none → v = none) (hlocks : meth.locks = false) (hQ : Q v T.heap locs) (hc : cells ≤ cc) (hk : slots ≤ kk)
    (st : ∀ fs, (∀ (f : JFrame) (acts : List Action), f.method = m → f.locked = none → f.entered = [] → (doReturn e (T.setTop f) acts v).1 = T.setFrames fs) → Steps p.tables e below S (T.setFrames fs)) : Gl p e below s Q cc kk S := by
  obtain ⟨fs, hr, hrun, hended, hW, hsame⟩ := X.leave (v := v) hv hlocks
  exact ⟨_, _, st fs hr, hrun, hended, _, _, rfl, hQ, ⟨_, rfl⟩, hW, hsame.mono hc hk⟩
theorem Gl.fin {Q : Option Value → Heap → List Loc → Prop} {cc kk : Nat} {S : State} (X : Stand p l e R s m args below meth c T locs cells slots) {v : Option Value} (hv : meth.sig.returnType = none → v = none) (hlocks : meth.locks = false) (hQ : Q v h locs) (eT : T.heap = h) (hc : cells ≤ cc) (hk : slots ≤ kk)
    (st : ∀ fs, (∀ (f : JFrame) (acts : List Action), f.method = m → f.locked = none → f.entered = [] → (doReturn e (T.setTop f) acts v).1 = T.setFrames fs) → Steps p.tables e below S (T.setFrames fs)) : Gl p e below s Q cc kk S :=
  Gl.ret X hv hlocks (by rw [eT]; exact hQ) hc hk st
abbrev OMet (l : Launch) (Z : State) (y : MethodName) (bytes : ByteArray) (maxL : Nat) (ret : Option FieldType) (ws : List Jvm.Cond) (rm : Room) (as' : Array Value) (h0 : Heap) (Q : Option Value → Heap → List Loc → Prop) : Prop :=
  MetFree l y (head1 (Jvm.Cond.code y bytes maxL ret :: ws) rm) (fun a U => a = as' ∧ Z.Warmed39 U.vm ∧ U.heap = h0) (fun _ _ _ _ _ => True) (fun _ U o U' => ∃ v L, o = .returned v ∧ Q v U'.heap L ∧ FrameEnd U o U' L rm.cells rm.slots)
theorem own_body {y : MethodName} {bytes : ByteArray} {maxL : Nat} {ret : Option FieldType} {ws : List Jvm.Cond} {rm : Room} {as' : Array Value} {Q : Option Value → Heap → List Loc → Prop} (hx : plainFor y = true)
    (H : ∀ p e s m below meth c s₁, BodyLoose p l y (head1 (Jvm.Cond.code y bytes maxL ret :: ws) rm) bytes maxL ret e s m as' below meth c s₁ → c.maxLocals = maxL → Z.Warmed39 s.vm → s₁.heap = h0 → Gl p e below s Q rm.cells rm.slots (s₁.setTop (entryFrame m as' maxL))) :
    OMet l Z y bytes maxL ret ws rm as' h0 Q := by
  refine MetFree.of_bodySF hx hisR ?_
  intro p e s m args below meth c s₁ Bd hml0 hP hK
  obtain ⟨rfl, hZ, hh⟩ := hP
  exact H p e s m below meth c s₁ Bd hml0 hZ (by rw [← hh, Bd.state]; rfl)
/-- an int is returned -/
theorem own_retI (X : Stand p l e R s m args below meth c T locs cells slots) (hx : p.tables.exec = Jvm.exec) {pc : Nat} {Ls : Array Slot} {z : Int32} {rest : List Value} (hret : meth.sig.returnType = some .int) (hd : decode c.code pc = .ok (.ireturn, 1)) {fs : List Frame}
    (hl : ∀ (f : JFrame) (acts : List Action), f.method = m → f.locked = none → f.entered = [] → (doReturn e (T.setTop f) acts (some (.int z))).1 = T.setFrames fs) : Steps p.tables e below (T.setTop (mkF m pc Ls (.int z :: rest))) (T.setFrames fs) :=
  retOut X hx hret rfl (Or.inl ⟨rfl, Or.inl rfl, z, rfl⟩) hd hl
theorem own_retJ (X : Stand p l e R s m args below meth c T locs cells slots) (hx : p.tables.exec = Jvm.exec) {pc : Nat} {Ls : Array Slot} {z : Int64} {rest : List Value} (hret : meth.sig.returnType = some .long) (hd : decode c.code pc = .ok (.lreturn, 1)) {fs : List Frame}
    (hl : ∀ (f : JFrame) (acts : List Action), f.method = m → f.locked = none → f.entered = [] → (doReturn e (T.setTop f) acts (some (.long z))).1 = T.setFrames fs) : Steps p.tables e below (T.setTop (mkF m pc Ls (.long z :: rest))) (T.setFrames fs) :=
  retOut X hx hret rfl (Or.inr (Or.inl ⟨rfl, rfl, z, rfl⟩)) hd hl
theorem own_retD (X : Stand p l e R s m args below meth c T locs cells slots) (hx : p.tables.exec = Jvm.exec) {pc : Nat} {Ls : Array Slot} {z : UInt64} {rest : List Value} (hret : meth.sig.returnType = some .double) (hd : decode c.code pc = .ok (.dreturn, 1)) {fs : List Frame}
    (hl : ∀ (f : JFrame) (acts : List Action), f.method = m → f.locked = none → f.entered = [] → (doReturn e (T.setTop f) acts (some (.double z))).1 = T.setFrames fs) : Steps p.tables e below (T.setTop (mkF m pc Ls (.double z :: rest))) (T.setFrames fs) :=
  retOut X hx hret rfl (Or.inr (Or.inr (Or.inl ⟨rfl, rfl, z, rfl⟩))) hd hl
theorem own_retR (X : Stand p l e R s m args below meth c T locs cells slots) (hx : p.tables.exec = Jvm.exec) {pc : Nat} {Ls : Array Slot} {w : Value} {t : FieldType} {rest : List Value} (hret : meth.sig.returnType = some t) (ht : t.isReference = true) (hn : narrow t w = w) (hw : w.isRef = true) (hd : decode c.code pc = .ok (.areturn, 1)) {fs : List Frame}
    (hl : ∀ (f : JFrame) (acts : List Action), f.method = m → f.locked = none → f.entered = [] → (doReturn e (T.setTop f) acts (some w)).1 = T.setFrames fs) : Steps p.tables e below (T.setTop (mkF m pc Ls (w :: rest))) (T.setFrames fs) :=
  retOut X hx hret hn (Or.inr (Or.inr (Or.inr (Or.inr ⟨rfl, ht, hw⟩)))) hd hl
/-- a static method by its contract -/
theorem own_callS (X : Stand p l e R s m args below meth c T locs cells slots) (hx : p.tables.exec = Jvm.exec) (hZ : Z.Warmed39 s.vm) {own : String} {index : Nat} {y : MethodName} {bytes : ByteArray} {maxL : Nat} {ret : Option FieldType} {rm : Room} {Q : Option Value → Heap → List Loc → Prop}
    (hown : s.vm.findClass own = some m.cls) (w1 : (Jvm.Cond.methodLink own index y).before a0 Z = true) (w2 : (Jvm.Cond.static y).before a0 Z = true) (w3 : (Jvm.Cond.initialized y.cls).before a0 Z = true) (w4 : (Jvm.Cond.code y bytes maxL ret).before a0 Z = true)
    (hy : y.cls ≠ "java/lang/invoke/MethodHandle" ∧ y.cls ≠ "java/lang/invoke/VarHandle") {argsL rest : List Value} (hM : OMet l Z y bytes maxL ret [] rm argsL.toArray h Q) {W : Nat} (hf : rm.frames + 1 ≤ R.frames) (hl : W + (maxL + 11) + rm.locals ≤ R.locals) (hc : cells + rm.cells ≤ R.cells) (hs : slots + rm.slots ≤ R.slots)
    (eT : T.heap = h) {pc : Nat} {Ls : Array Slot} (hsize : Ls.size = c.maxLocals) (hlen : ∀ sig, parseMethodDescriptor y.desc = some sig → argsL.length = sig.parameters.length) (hW : (rest.map fun v => v.category).sum ≤ W) (hd : decode c.code pc = .ok (.invokestatic index, 3)) :
    ∃ (v : Option Value) (T' : State) (L : List Loc), Stand p l e R s m args below meth c T' (locs ++ L) (cells + rm.cells) (slots + rm.slots) ∧ Q v T'.heap L ∧
      ∀ t, Steps p.tables e below (T'.setTop (mkF m (pc + 3) Ls (v.toList ++ rest))) t → Steps p.tables e below (T.setTop (mkF m pc Ls (argsL.reverse ++ rest))) t := by
  obtain ⟨v, _, ⟨T', L', k', n'⟩, -, X', ⟨L, hQ, hl', hy', hz'⟩, st⟩ := Jvm.LawKit.callS X hx (y := y) hown (mvT hZ w1) (mvT hZ w2) (mvT hZ w3) (mvT hZ w4) hy (backOf (W := W) hM hZ w4 w3 hf hl) (g := mkF m pc Ls (argsL.reverse ++ rest)) rfl hsize (argsL := argsL) (rest := rest) hlen rfl (by show 2 * 0 + _ ≤ _; omega) hd (fun _ _ => ⟨rfl, eT, hc, hs⟩)
  dsimp only [Pt.U, Pt.locs, Pt.cells, Pt.slots] at X' hl' hy' hz' st hQ
  subst hl' hy' hz'
  exact ⟨v, T', L, X', hQ, st⟩
/-- a constructor by its contract -/
theorem own_callI (X : Stand p l e R s m args below meth c T locs cells slots) (hx : p.tables.exec = Jvm.exec) (hZ : Z.Warmed39 s.vm) {own : String} {index : Nat} {y : MethodName} {bytes : ByteArray} {maxL : Nat} {rm : Room} {Q : Option Value → Heap → List Loc → Prop} (hy1 : y.name = "<init>")
    (hown : s.vm.findClass own = some m.cls) (w1 : (Jvm.Cond.methodLink own index y).before a0 Z = true) (w2 : (Jvm.Cond.instanceMethod y).before a0 Z = true) (w3 : (Jvm.Cond.initialized y.cls).before a0 Z = true) (w4 : (Jvm.Cond.code y bytes maxL none).before a0 Z = true)
    (hy : y.cls ≠ "java/lang/invoke/MethodHandle" ∧ y.cls ≠ "java/lang/invoke/VarHandle") {a : Addr} {argsL rest : List Value} (hM : OMet l Z y bytes maxL none [] rm (.ref a :: argsL).toArray h Q) {W : Nat} (hf : rm.frames + 1 ≤ R.frames) (hl : W + (maxL + 11) + rm.locals ≤ R.locals) (hc : cells + rm.cells ≤ R.cells) (hs : slots + rm.slots ≤ R.slots)
    (eT : T.heap = h) {pc : Nat} {Ls : Array Slot} (hsize : Ls.size = c.maxLocals) (hlen : ∀ sig, parseMethodDescriptor y.desc = some sig → argsL.length = sig.parameters.length) (hW : (rest.map fun v => v.category).sum ≤ W) (hd : decode c.code pc = .ok (.invokespecial index, 3)) :
    ∃ (v : Option Value) (T' : State) (L : List Loc), Stand p l e R s m args below meth c T' (locs ++ L) (cells + rm.cells) (slots + rm.slots) ∧ Q v T'.heap L ∧
      ∀ t, Steps p.tables e below (T'.setTop (mkF m (pc + 3) Ls (v.toList ++ rest))) t → Steps p.tables e below (T.setTop (mkF m pc Ls (argsL.reverse ++ .ref a :: rest))) t := by
  obtain ⟨v, _, ⟨T', L', k', n'⟩, -, X', ⟨L, hQ, hl', hy', hz'⟩, st⟩ := X.specialBack hx (y := y) hy1 hown (mvT hZ w1) (mvT hZ w2) (mvT hZ w4) hy (backOf (W := W) hM hZ w4 w3 hf hl) (g := mkF m pc Ls (argsL.reverse ++ .ref a :: rest)) rfl hsize (Steps.refl _) (a := a) (argsL := argsL) (rest := rest) hlen rfl (by show 2 * 0 + _ ≤ _; omega) hd (fun _ _ => ⟨rfl, eT, hc, hs⟩)
  dsimp only [Pt.U, Pt.locs, Pt.cells, Pt.slots] at X' hl' hy' hz' st hQ
  subst hl' hy' hz'
  exact ⟨v, T', L, X', hQ, fun t k => st.trans k⟩
/-- an instance method by its contract, the receiver's class known -/
theorem own_callV (X : Stand p l e R s m args below meth c T locs cells slots) (hx : p.tables.exec = Jvm.exec) (hZ : Z.Warmed39 s.vm) {own C : String} {index : Nat} {y z : MethodName} {bytes : ByteArray} {maxL : Nat} {ret : Option FieldType} {rm : Room} {Q : Option Value → Heap → List Loc → Prop}
    (hown : s.vm.findClass own = some m.cls) (w1 : (Jvm.Cond.methodLink own index y).before a0 Z = true) (wd : (Jvm.Cond.declares y).before a0 Z = true) (hnf : NotFace s y) (ws : (Jvm.Cond.selects C y z).before a0 Z = true) (w2 : (Jvm.Cond.instanceMethod z).before a0 Z = true) (w3 : (Jvm.Cond.initialized z.cls).before a0 Z = true) (w4 : (Jvm.Cond.code z bytes maxL ret).before a0 Z = true)
    (hy : y.cls ≠ "java/lang/invoke/MethodHandle" ∧ y.cls ≠ "java/lang/invoke/VarHandle") {a : Addr} (E : Exa Z h a C) {argsL rest : List Value} (hM : OMet l Z z bytes maxL ret [] rm (.ref a :: argsL).toArray h Q) {W : Nat} (hf : rm.frames + 1 ≤ R.frames) (hl : W + (maxL + 11) + rm.locals ≤ R.locals) (hc : cells + rm.cells ≤ R.cells) (hs : slots + rm.slots ≤ R.slots)
    (eT : T.heap = h) {pc : Nat} {Ls : Array Slot} (hsize : Ls.size = c.maxLocals) (hlen : ∀ sig, parseMethodDescriptor y.desc = some sig → argsL.length = sig.parameters.length) (hW : (rest.map fun v => v.category).sum ≤ W) (hd : decode c.code pc = .ok (.invokevirtual index, 3)) :
    ∃ (v : Option Value) (T' : State) (L : List Loc), Stand p l e R s m args below meth c T' (locs ++ L) (cells + rm.cells) (slots + rm.slots) ∧ Q v T'.heap L ∧
      ∀ t, Steps p.tables e below (T'.setTop (mkF m (pc + 3) Ls (v.toList ++ rest))) t → Steps p.tables e below (T.setTop (mkF m pc Ls (argsL.reverse ++ .ref a :: rest))) t := by
  obtain ⟨cB, kB, q1, q2, q3⟩ := isOf hZ eT E
  obtain ⟨v, _, ⟨T', L', k', n'⟩, -, X', ⟨L, hQ, hl', hy', hz'⟩, st⟩ := X.virtualBack hx (y := y) (z := z) hown (mvT hZ w1) (mvT hZ wd) hnf (mvT hZ ws) (mvT hZ w2) hy (backOf (W := W) hM hZ w4 w3 hf hl) q1 q3 (g := mkF m pc Ls (argsL.reverse ++ .ref a :: rest)) rfl hsize (Steps.refl _) (argsL := argsL) (rest := rest) hlen rfl (by show 2 * 0 + _ ≤ _; omega) hd (fun _ _ => ⟨rfl, eT, hc, hs⟩)
  dsimp only [Pt.U, Pt.locs, Pt.cells, Pt.slots] at X' hl' hy' hz' st hQ
  subst hl' hy' hz'
  exact ⟨v, T', L, X', hQ, fun t k => st.trans k⟩
/-- an inherited instance method: the link names a class that doesn't declare it -/
theorem own_callU (X : Stand p l e R s m args below meth c T locs cells slots) (hx : p.tables.exec = Jvm.exec) (hZ : Z.Warmed39 s.vm) {own C owner : String} {index : Nat} {y z : MethodName} {bytes : ByteArray} {maxL : Nat} {ret : Option FieldType} {rm : Room} {Q : Option Value → Heap → List Loc → Prop}
    (hown : s.vm.findClass own = some m.cls) (w1 : (Jvm.Cond.methodLink own index y).before a0 Z = true) (wm : (Jvm.Cond.sameMethod y.cls owner y.name y.desc).before a0 Z = true) (wd : (Jvm.Cond.declares ⟨owner, y.name, y.desc⟩).before a0 Z = true) (ws : (Jvm.Cond.selects C y z).before a0 Z = true) (w2 : (Jvm.Cond.instanceMethod z).before a0 Z = true) (w3 : (Jvm.Cond.initialized z.cls).before a0 Z = true) (w4 : (Jvm.Cond.code z bytes maxL ret).before a0 Z = true)
    (hy : owner ≠ "java/lang/invoke/MethodHandle" ∧ owner ≠ "java/lang/invoke/VarHandle") {a : Addr} (E : Exa Z h a C) {argsL rest : List Value} (hM : OMet l Z z bytes maxL ret [] rm (.ref a :: argsL).toArray h Q) {W : Nat} (hf : rm.frames + 1 ≤ R.frames) (hl : W + (maxL + 11) + rm.locals ≤ R.locals) (hc : cells + rm.cells ≤ R.cells) (hs : slots + rm.slots ≤ R.slots)
    (eT : T.heap = h) {pc : Nat} {Ls : Array Slot} (hsize : Ls.size = c.maxLocals) (hlen : ∀ sig, parseMethodDescriptor y.desc = some sig → argsL.length = sig.parameters.length) (hW : (rest.map fun v => v.category).sum ≤ W) (hd : decode c.code pc = .ok (.invokevirtual index, 3)) :
    ∃ (v : Option Value) (T' : State) (L : List Loc), Stand p l e R s m args below meth c T' (locs ++ L) (cells + rm.cells) (slots + rm.slots) ∧ Q v T'.heap L ∧
      ∀ t, Steps p.tables e below (T'.setTop (mkF m (pc + 3) Ls (v.toList ++ rest))) t → Steps p.tables e below (T.setTop (mkF m pc Ls (argsL.reverse ++ .ref a :: rest))) t := by
  obtain ⟨cB, kB, q1, q2, q3⟩ := isOf hZ eT E
  obtain ⟨v, _, ⟨T', L', k', n'⟩, -, X', ⟨L, hQ, hl', hy', hz'⟩, st⟩ := X.virtualBackUp hx (x := y) (y := z) (owner := owner) hown (mvT hZ w1) (mvT hZ wm) (mvT hZ wd) hy (mvT hZ ws) (mvT hZ w2) (backOf (W := W) hM hZ w4 w3 hf hl) q1 q3 (g := mkF m pc Ls (argsL.reverse ++ .ref a :: rest)) rfl hsize (Steps.refl _) (argsL := argsL) (rest := rest) hlen rfl (by show 2 * 0 + _ ≤ _; omega) hd (fun _ _ => ⟨rfl, eT, hc, hs⟩)
  dsimp only [Pt.U, Pt.locs, Pt.cells, Pt.slots] at X' hl' hy' hz' st hQ
  subst hl' hy' hz'
  exact ⟨v, T', L, X', hQ, fun t k => st.trans k⟩
/-- an interface's method by the contract of the body that the receiver's class selects -/
theorem own_callF (X : Stand p l e R s m args below meth c T locs cells slots) (hx : p.tables.exec = Jvm.exec) (hZ : Z.Warmed39 s.vm) {own C : String} {index count : Nat} {y z : MethodName} {bytes : ByteArray} {maxL : Nat} {ret : Option FieldType} {rm : Room} {Q : Option Value → Heap → List Loc → Prop}
    (hown : s.vm.findClass own = some m.cls) (w1 : (Jvm.Cond.methodLink own index y).before a0 Z = true) (wd : (Jvm.Cond.declares y).before a0 Z = true) (wf : (Jvm.Cond.interfaceMethod y.cls y.cls y.name y.desc).before args s = true) (ws : (Jvm.Cond.selects C y z).before a0 Z = true) (w2 : (Jvm.Cond.instanceMethod z).before a0 Z = true) (wp : (Jvm.Cond.publicMethod z).before a0 Z = true) (wu : (Jvm.Cond.unhidden C y.name y.desc).before a0 Z = true) (wc : (Jvm.Cond.castable C y.cls).before a0 Z = true) (w3 : (Jvm.Cond.initialized z.cls).before a0 Z = true) (w4 : (Jvm.Cond.code z bytes maxL ret).before a0 Z = true)
    (hy : y.cls ≠ "java/lang/invoke/MethodHandle" ∧ y.cls ≠ "java/lang/invoke/VarHandle") {a : Addr} (E : Exa Z h a C) {argsL rest : List Value} (hM : OMet l Z z bytes maxL ret [] rm (.ref a :: argsL).toArray h Q) {W : Nat} (hf : rm.frames + 1 ≤ R.frames) (hl : W + (maxL + 11) + rm.locals ≤ R.locals) (hc : cells + rm.cells ≤ R.cells) (hs : slots + rm.slots ≤ R.slots)
    (eT : T.heap = h) {pc : Nat} {Ls : Array Slot} (hsize : Ls.size = c.maxLocals) (hlen : ∀ sig, parseMethodDescriptor y.desc = some sig → argsL.length = sig.parameters.length) (hW : (rest.map fun v => v.category).sum ≤ W) (hd : decode c.code pc = .ok (.invokeinterface index count, 5)) :
    ∃ (v : Option Value) (T' : State) (L : List Loc), Stand p l e R s m args below meth c T' (locs ++ L) (cells + rm.cells) (slots + rm.slots) ∧ Q v T'.heap L ∧
      ∀ t, Steps p.tables e below (T'.setTop (mkF m (pc + 5) Ls (v.toList ++ rest))) t → Steps p.tables e below (T.setTop (mkF m pc Ls (argsL.reverse ++ .ref a :: rest))) t := by
  obtain ⟨cB, kB, q1, q2, q3⟩ := isOf hZ eT E
  obtain ⟨v, _, ⟨T', L', k', n'⟩, -, X', ⟨L, hQ, hl', hy', hz'⟩, st⟩ := X.interfaceBack hx (xi := y) (y := z) hown (mvT hZ w1) (mvT hZ wd) wf (mvT hZ ws) (mvT hZ w2) (mvT hZ wp) (mvT hZ wu) (mvT hZ wc) hy (backOf (W := W) hM hZ w4 w3 hf hl) q1 q2 q3 (g := mkF m pc Ls (argsL.reverse ++ .ref a :: rest)) rfl hsize (Steps.refl _) (argsL := argsL) (rest := rest) hlen rfl (by show 2 * 0 + _ ≤ _; omega) hd (fun _ _ => ⟨rfl, eT, hc, hs⟩)
  dsimp only [Pt.U, Pt.locs, Pt.cells, Pt.slots] at X' hl' hy' hz' st hQ
  subst hl' hy' hz'
  exact ⟨v, T', L, X', hQ, fun t k => st.trans k⟩
theorem own_hc {T : State} {h : Heap} {a : Addr} {cl : Cell} (q : T.heap = h) (r : h[a]? = some cl) : T.heap[a]? = some cl := by rw [q]; exact r
/-- what a Bool is as Java's int -/
def b2i (b : Bool) : Int32 := if b then 1 else 0
theorem b2i_t {b : Bool} (h : b = true) : b2i b = 1 := by simp [b2i, h]
theorem b2i_f {b : Bool} (h : b = false) : b2i b = 0 := by simp [b2i, h]
theorem b2i_inj {a b : Bool} : b2i a = b2i b ↔ a = b := by cases a <;> cases b <;> decide
/-- the branches' conditions in plain words -/
theorem ic_lt (x y : Int32) : if_icmp.holds .lt x y = decide (x < y) := by by_cases q : x < y <;> simp [q, tlt, flt]
theorem ic_ge (x y : Int32) : if_icmp.holds .ge x y = !decide (x < y) := by by_cases q : x < y <;> simp [q, tlt, flt]
theorem ic_gt (x y : Int32) : if_icmp.holds .gt x y = decide (y < x) := by by_cases q : y < x <;> simp [q, tlt, flt]
theorem ic_le (x y : Int32) : if_icmp.holds .le x y = !decide (y < x) := by by_cases q : y < x <;> simp [q, tlt, flt]
theorem ic_eq (x y : Int32) : if_icmp.holds .eq x y = decide (x = y) := by by_cases q : x = y <;> simp [q, teq, feq]
theorem ic_ne (x y : Int32) : if_icmp.holds .ne x y = !decide (x = y) := by by_cases q : x = y <;> simp [q, teq, feq]
theorem i0_lt (x : Int32) : ifCond.holds .lt x = decide (x < 0) := (if0 _ _).trans (ic_lt x 0)
theorem i0_ge (x : Int32) : ifCond.holds .ge x = !decide (x < 0) := (if0 _ _).trans (ic_ge x 0)
theorem i0_gt (x : Int32) : ifCond.holds .gt x = decide (0 < x) := (if0 _ _).trans (ic_gt x 0)
theorem i0_le (x : Int32) : ifCond.holds .le x = !decide (0 < x) := (if0 _ _).trans (ic_le x 0)
theorem i0_eq (x : Int32) : ifCond.holds .eq x = decide (x = 0) := (if0 _ _).trans (ic_eq x 0)
theorem i0_ne (x : Int32) : ifCond.holds .ne x = !decide (x = 0) := (if0 _ _).trans (ic_ne x 0)
theorem lw_lt (x y : Int64) : lcmpW x y < 0 ↔ x < y := by rw [lcW]; exact Jvm.RoadKit.lc_lt x y
theorem lw_gt (x y : Int64) : 0 < lcmpW x y ↔ y < x := by rw [lcW]; exact Jvm.RoadKit.lc_gt x y
theorem lw_eq (x y : Int64) : lcmpW x y = 0 ↔ x = y := by rw [lcW]; exact Jvm.RoadKit.lc_eq x y
theorem l0_lt (x y : Int64) : ifCond.holds .lt (lcmpW x y) = decide (x < y) := (i0_lt _).trans (by simp [lw_lt])
theorem l0_ge (x y : Int64) : ifCond.holds .ge (lcmpW x y) = !decide (x < y) := (i0_ge _).trans (by simp [lw_lt])
theorem l0_gt (x y : Int64) : ifCond.holds .gt (lcmpW x y) = decide (y < x) := (i0_gt _).trans (by simp [lw_gt])
theorem l0_le (x y : Int64) : ifCond.holds .le (lcmpW x y) = !decide (y < x) := (i0_le _).trans (by simp [lw_gt])
theorem l0_eq (x y : Int64) : ifCond.holds .eq (lcmpW x y) = decide (x = y) := (i0_eq _).trans (by simp [lw_eq])
theorem l0_ne (x y : Int64) : ifCond.holds .ne (lcmpW x y) = !decide (x = y) := (i0_ne _).trans (by simp [lw_eq])
theorem b0_eq (b : Bool) : ifCond.holds .eq (b2i b) = !b := by cases b <;> decide
theorem b0_ne (b : Bool) : ifCond.holds .ne (b2i b) = b := by cases b <;> decide
theorem own_t {P : Prop} [Decidable P] {u : Bool} (q : u = decide P) (hp : P) : u = true := by rw [q]; exact decide_eq_true hp
theorem own_f {P : Prop} [Decidable P] {u : Bool} (q : u = decide P) (hp : ¬ P) : u = false := by rw [q]; exact decide_eq_false hp
theorem own_nt {P : Prop} [Decidable P] {u : Bool} (q : u = !decide P) (hp : ¬ P) : u = true := by rw [q]; simp [hp]
theorem own_nf {P : Prop} [Decidable P] {u : Bool} (q : u = !decide P) (hp : P) : u = false := by rw [q]; simp [hp]
theorem own_bt {u b : Bool} (q : u = b) (hp : b = true) : u = true := q.trans hp
theorem own_bf {u b : Bool} (q : u = b) (hp : b = false) : u = false := q.trans hp
theorem own_nbt {u b : Bool} (q : u = !b) (hp : b = false) : u = true := by rw [q, hp]; rfl
theorem own_nbf {u b : Bool} (q : u = !b) (hp : b = true) : u = false := by rw [q, hp]; rfl
theorem own_retN (X : Stand p l e R s m args below meth c T locs cells slots) (hx : p.tables.exec = Jvm.exec) {pc : Nat} {Ls : Array Slot} {z z' : Int32} {t : FieldType} {rest : List Value} (hret : meth.sig.returnType = some t) (ht : t = .boolean ∨ t = .byte ∨ t = .char ∨ t = .short) (hn : nar t z = z')
    (hd : decode c.code pc = .ok (.ireturn, 1)) {fs : List Frame} (hl : ∀ (f : JFrame) (acts : List Action), f.method = m → f.locked = none → f.entered = [] → (doReturn e (T.setTop f) acts (some (.int z'))).1 = T.setFrames fs) :
    Steps p.tables e below (T.setTop (mkF m pc Ls (.int z :: rest))) (T.setFrames fs) := by
  subst hn
  exact retN X hx hret ht hd hl
theorem own_nar_b2i (b : Bool) : nar .boolean (b2i b) = b2i b := by cases b <;> decide
theorem own_narrow_b2i (b : Bool) : narrow .boolean (.int (b2i b)) = .int (b2i b) := by cases b <;> rfl
theorem own_fits_b2i (b : Bool) : fits .boolean (.int (b2i b)) = true := by cases b <;> rfl
theorem own_nar_i2b (x : Int32) : nar .byte x.toInt8.toInt32 = x.toInt8.toInt32 := by simp [nar]
theorem own_lrem (x y : Int64) : x - x / y * y = x % y := by
  apply Int64.toInt_inj.mp
  have h1 := Int64.le_toInt (x % y)
  have h2 := Int64.toInt_lt (x % y)
  have e : x.toInt - y.toInt * x.toInt.tdiv y.toInt = x.toInt.tmod y.toInt := (Int.tmod_def _ _).symm
  rw [Int64.toInt_sub, Int64.toInt_mul, Int64.toInt_div, Int.bmod_mul_bmod, Int.sub_bmod_bmod, Int.mul_comm (x.toInt.tdiv y.toInt), e, ← Int64.toInt_mod]
  exact Int.bmod_eq_of_le_mul_two (by omega) (by omega)
/-- getfield by an entry that is resolved already -/
theorem own_getFR (X : Stand p l e R s m args below meth c T locs cells slots) (hx : p.tables.exec = Jvm.exec) (hZ : Z.Warmed39 s.vm) {own O n d : String} {index : Nat} (hown : s.vm.findClass own = some m.cls) (w : (Jvm.Cond.fieldRef own index O n d).before a0 Z = true)
    (eT : T.heap = h) {a : Addr} {v : Value} (F : Fld Z h a O n d v) {g : JFrame} (hg : g.method = m) {rest : List Value} (hs : g.stack = .ref a :: rest) (hd : decode c.code g.pc = .ok (.getfield index, 3)) : ∃ T', Stand p l e R s m args below meth c T' locs cells slots ∧ T'.heap = h ∧ ∀ target, Steps p.tables e below (T'.setTop { g with pc := g.pc + 3, stack := v :: rest }) target → Steps p.tables e below (T.setTop g) target := by
  have hZT : Z.Warmed39 T.vm := wtrans hZ X.warmed
  have w' := Cond.fieldRef_warmed39 hZT w
  have hcur : (Z.setVm T.vm).vm.findClass own = some m.cls := (X.warmed.alike.findClass own _).trans hown
  obtain ⟨c', k', i', f', h1, hready⟩ := Cond.fieldRef_spec (s := Z.setVm T.vm) hcur w'
  obtain ⟨cell, cf, k, i, f, g1, g2, g3, g4, -, -, g7⟩ := F
  obtain ⟨k2, hi, -⟩ := State.fieldFound?_setVm (s := Z) hZT.alike g2
  have q := Option.some.inj (h1.symm.trans hi)
  simp only [Prod.mk.injEq] at q
  obtain ⟨rfl, -, -, rfl⟩ := q
  exact ⟨T, X, eT, fun target kt => (X.getfieldR hx hg hready g3 hs (by rw [eT]; exact g1) g4 g7 hd (Steps.refl _)).trans kt⟩
/-- the case's words on statics and fields, at the start -/
theorem own_sx {C n d K : String} (w1 : (Jvm.Cond.initialized C).before args s = true) (w2 : (Jvm.Cond.laysStatic C n d).before args s = true) (q : (Jvm.Cond.exactly (Term.static C n d) K).value args s none s [] = some true) : ∃ a : Addr, (Term.static C n d).eval args s none [] s = some (.ref a) ∧ Sta s s.heap C n d (.ref a) ∧ Exa s s.heap a K := by
  obtain ⟨a, ev⟩ := exa_v q
  exact ⟨a, ev, Sta.start ev (Or.inr ⟨w1, w2⟩), Exa.start ev q⟩
theorem own_fi {t : Term} {a : Addr} {C n d : String} {k : Int32} (ev : t.eval args s none [] s = some (.ref a)) (q : (Jvm.Cond.eq (Term.field t C n d) (Term.int k)).value args s none s [] = some true) : Fld s s.heap a C n d (.int k) := by
  obtain ⟨x, y, h1, h2, h3, h4⟩ := cmp_v (Or.inl q)
  have h5 : y = .int k := (Option.some.inj (h2.symm.trans (Term.int_eval k)) : _)
  subst h5
  obtain ⟨z, rfl⟩ : ∃ z, x = .int z := h4
  have e2 := h1
  rw [fld_at ev] at h1
  simp [Cond.value, e2, h2] at q
  subst q
  exact Fld.start h1
theorem own_fx {t : Term} {a : Addr} {C n d K : String} (ev : t.eval args s none [] s = some (.ref a)) (q : (Jvm.Cond.exactly (Term.field t C n d) K).value args s none s [] = some true) : ∃ b : Addr, (Term.field t C n d).eval args s none [] s = some (.ref b) ∧ Fld s s.heap a C n d (.ref b) ∧ Exa s s.heap b K := by
  obtain ⟨b, ev2⟩ := exa_v q
  exact ⟨b, ev2, Fld.start ((fld_at ev).symm.trans ev2), Exa.start ev2 q⟩
/-- a class that the chain of superclasses doesn't meet: its own word is 'instantiable' -/
theorem own_ns_root {Z : State} {a0 : Array Value} {O K : String} {n : Nat} (w : (Jvm.Cond.noSuperclass O).before a0 Z = true) (wi : (Jvm.Cond.instantiable K n).before a0 Z = true) (hn : O ≠ K) : NS Z O K := by
  obtain ⟨c, k, h1, h2, h3, -, -⟩ := Cond.noSuperclass_spec w
  obtain ⟨t, kt, g1, -⟩ := Cond.instantiable_spec wi
  have ne := ids_ne h1 g1 hn
  refine ⟨c, t, h1, g1, fun fuel => ?_⟩
  cases fuel with
  | zero => rfl
  | succ f => simp [Vm.isSubclassAux, ne, h2, h3]
theorem own_ns_no {Z : State} {a0 : Array Value} {C S K : String} {n : Nat} (w : (Jvm.Cond.superclass C S).before a0 Z = true) (wi : (Jvm.Cond.instantiable K n).before a0 Z = true) (q : NS Z C K) (hn : C ≠ K) : ∃ c t, Z.vm.findClass C = some c ∧ Z.vm.findClass K = some t ∧ Z.vm.assignable c t = false := by
  obtain ⟨c, t, h0, g0, n3⟩ := q
  obtain ⟨p, k, kp, h1, h2, h3, h4, h5, -, h7⟩ := Cond.superclass_spec h0 w
  obtain ⟨t', kt, g1, g2, g3, g4, -, -⟩ := Cond.instantiable_spec wi
  cases g0.symm.trans g1
  have g5 : kt.isInterface = false := by simp only [Bool.or_eq_false_iff] at g4; exact g4.1
  have ne := ids_ne h0 g0 hn
  refine ⟨c, t, h0, g0, ?_⟩
  show Z.vm.assignableAux (255 + 1) c t = false
  simp [Vm.assignableAux, ne, h2, g2, h5, g3, g5, Vm.isSubclass, n3]
/-- a static's cell isn't written by one who writes objects alone -/
theorem own_sta_keep {Z : State} {h h' : Heap} {C n d : String} {v : Value} {ws : List Addr} (F : Sta Z h C n d v) (K : Keep h h' ws) (q : ∀ x ∈ ws, ∃ C', Exa Z h x C') : Sta Z h' C n d v := by
  obtain ⟨cf, i, k, f, st, cell, h1, h2, h3, h4, h5, h6, h7⟩ := F
  refine ⟨cf, i, k, f, st, cell, h1, h2, h3, h4, K.2.1 st cell h5 (fun r => ?_), h6, h7⟩
  obtain ⟨C', c', k', g1, -, -, g4, -⟩ := q st r
  rw [h5] at g1
  cases g1
  rw [h6] at g4
  cases g4
theorem own_ne32 {x y : Int32} (h : x ≠ y) : Value.int x ≠ Value.int y := fun q => h (Value.int.inj q)
end OwnKit
theorem own_and64_63 (p : Int64) : 0 ≤ (p &&& 9223372036854775807).toInt := by
  have h : (p &&& 9223372036854775807).toInt = (p &&& 9223372036854775807).toBitVec.toInt := rfl
  rw [h, Int64.toBitVec_and]
  have e : (9223372036854775807 : Int64).toBitVec = 9223372036854775807#64 := rfl
  rw [e, BitVec.toInt_eq_toNat_cond, BitVec.toNat_and]
  have : p.toBitVec.toNat &&& (9223372036854775807#64).toNat ≤ 9223372036854775807 := Nat.and_le_right
  split <;> omega
theorem pn_java_util_List : plainName "java/util/List" = true := by first | (simp [plainName, overriddenIn]; done) | decide +kernel
theorem ef_rm2 (m : MethodId)  : entryFrame m #[] 0 = mkF m 0 #[] [] := by first | (simp [entryFrame, mkF, argsToLocals, Value.category]; done) | rfl
theorem d2_0 : decode jdk_40_method_36_code 0 = .ok (.getstatic 90, 3) := by decide +kernel
theorem d2_3 : decode jdk_40_method_36_code 3 = .ok (.areturn, 1) := by decide +kernel
def Q2 (Z : State) (el : Addr) (h0 : Heap) (n0 : Nat) (v : Option Value) (h : Heap) (L : List Loc) : Prop := v = some (.ref el) ∧ Fr n0 L ∧ h = h0
set_option maxRecDepth 65536 in
set_option maxHeartbeats 40000000 in
theorem rm2 (l : Launch) (Z : State) (a0 : Array Value) (hw : ∀ d ∈ tables_1, d.before a0 Z = true) (ws : List Jvm.Cond) (el : Addr) (h0 : Heap) (n0 : Nat) (Z0 : n0 ≤ h0.size) (S_e : Sta Z h0 "java/util/ImmutableCollections" "EMPTY_LIST" "Ljava/util/ImmutableCollections$ListN;" (.ref el)) :
    OMet l Z (⟨"java/util/List", "of", "()Ljava/util/List;"⟩ : MethodName) jdk_40_method_36_code 0 (some (.object "java/util/List")) ws ({ frames := 0, cells := 0, slots := 0, locals := 0 } : Room) #[] h0 (Q2 Z el h0 n0) := by
  refine own_body (plainFor_of_name pn_java_util_List) ?_
  intro p e s m below meth c s₁ Bd hml0 hZ e0
  have hx := Bd.exec
  have hby := Bd.bytes
  have hml : c.maxLocals = 0 := hml0
  have hown : s.vm.findClass "java/util/List" = some m.cls := findClass_of_methodNamed Bd.named
  have hnm := (name_of_methodNamed Bd.named Bd.method).1
  have X0 : Stand p l e ({ frames := 0, cells := 0, slots := 0, locals := 0 } : Room) s m #[] below meth c s₁ [] 0 0 := Stand.of_body Bd
  have N0 := Fr.nil n0
  have K0 : Keep h0 h0 [] := Keep.refl _ _
  rw [ef_rm2]
  obtain ⟨T101, X101, e101, st101⟩ := getS2 X0 hx hZ hown (host := "") (Or.inl (hw _ (List.mem_of_getElem? (i := 11) rfl))) Via.refl e0 S_e (g := (mkF m 0 #[] [])) rfl (hb hby d2_0)
  refine Gl.fin X101 (v := some (.ref el)) (fun h => by rw [Bd.returns] at h; cases h) Bd.notSynchronized ?_ e101 (by decide) (by decide) (fun fs hr => ?_)
  · exact ⟨rfl, N0, rfl⟩
  · show Steps p.tables e below (s₁.setTop (mkF m 0 #[] [])) _
    refine st101 _ ?_
    show Steps p.tables e below (T101.setTop (mkF m 3 #[] [(.ref el)])) _
    exact own_retR X101 hx Bd.returns rfl rfl rfl (hb hby d2_3) hr
theorem pn_com_example_tiroir_tiroir_Query : plainName "com/example/tiroir/tiroir/Query" = true := by first | (simp [plainName, overriddenIn]; done) | decide +kernel
theorem ef_rm3 (m : MethodId) (x0 : Addr) (x2 : Addr) (x3 : Int64) (x4 : Int64) : entryFrame m #[(.ref x0), .null, (.ref x2), (.long x3), (.long x4)] 7 = mkF m 0 #[.val (.ref x0), .val .null, .val (.ref x2), .val (.long x3), .second, .val (.long x4), .second] [] := by first | (simp [entryFrame, mkF, argsToLocals, Value.category]; done) | rfl
theorem d3_0 : decode prog_26_method_1_code 0 = .ok (.aload_n 0, 1) := by decide +kernel
theorem d3_1 : decode prog_26_method_1_code 1 = .ok (.invokespecial 3, 3) := by decide +kernel
theorem d3_4 : decode prog_26_method_1_code 4 = .ok (.aload_n 0, 1) := by decide +kernel
theorem d3_5 : decode prog_26_method_1_code 5 = .ok (.aload_n 1, 1) := by decide +kernel
theorem d3_6 : decode prog_26_method_1_code 6 = .ok (.putfield 9, 3) := by decide +kernel
theorem d3_9 : decode prog_26_method_1_code 9 = .ok (.aload_n 0, 1) := by decide +kernel
theorem d3_10 : decode prog_26_method_1_code 10 = .ok (.aload_n 2, 1) := by decide +kernel
theorem d3_11 : decode prog_26_method_1_code 11 = .ok (.putfield 15, 3) := by decide +kernel
theorem d3_14 : decode prog_26_method_1_code 14 = .ok (.aload_n 0, 1) := by decide +kernel
theorem d3_15 : decode prog_26_method_1_code 15 = .ok (.lload_n 3, 1) := by decide +kernel
theorem d3_16 : decode prog_26_method_1_code 16 = .ok (.putfield 19, 3) := by decide +kernel
theorem d3_19 : decode prog_26_method_1_code 19 = .ok (.aload_n 0, 1) := by decide +kernel
theorem d3_20 : decode prog_26_method_1_code 20 = .ok (.lload 5, 2) := by decide +kernel
theorem d3_22 : decode prog_26_method_1_code 22 = .ok (.putfield 23, 3) := by decide +kernel
theorem d3_25 : decode prog_26_method_1_code 25 = .ok (.return_, 1) := by decide +kernel
def Q3 (Z : State) (a1 : Addr) (a3 : Addr) (q1 : Int64) (q2 : Int64) (h0 : Heap) (n0 : Nat) (v : Option Value) (h : Heap) (L : List Loc) : Prop := v = none ∧ Fr n0 L ∧ Keep h0 h [a1] ∧ Exa Z h a1 "com/example/tiroir/tiroir/Query" ∧ Fld Z h a1 "com/example/tiroir/tiroir/Query" "predicate" "Lcom/example/tiroir/tiroir/Predicate;" .null ∧ Fld Z h a1 "com/example/tiroir/tiroir/Query" "orderings" "Ljava/util/List;" (.ref a3) ∧ Fld Z h a1 "com/example/tiroir/tiroir/Query" "skip" "J" (.long q1) ∧ Fld Z h a1 "com/example/tiroir/tiroir/Query" "limit" "J" (.long q2)
set_option maxRecDepth 65536 in
set_option maxHeartbeats 40000000 in
theorem rm3 (l : Launch) (Z : State) (a0 : Array Value) (hw : ∀ d ∈ tables_1, d.before a0 Z = true) (ws : List Jvm.Cond) (a1 : Addr) (a3 : Addr) (q1 : Int64) (q2 : Int64) (h0 : Heap) (n0 : Nat) (Z0 : n0 ≤ h0.size) (g_a1 : n0 ≤ a1) (E_a : Exa Z h0 a1 "com/example/tiroir/tiroir/Query") (F_predicate : Fld Z h0 a1 "com/example/tiroir/tiroir/Query" "predicate" "Lcom/example/tiroir/tiroir/Predicate;" .null) (F_orderings : Fld Z h0 a1 "com/example/tiroir/tiroir/Query" "orderings" "Ljava/util/List;" .null) (F_skip : Fld Z h0 a1 "com/example/tiroir/tiroir/Query" "skip" "J" (.long (0 : Int64))) (F_limit : Fld Z h0 a1 "com/example/tiroir/tiroir/Query" "limit" "J" (.long (0 : Int64))) :
    OMet l Z (⟨"com/example/tiroir/tiroir/Query", "<init>", "(Lcom/example/tiroir/tiroir/Predicate;Ljava/util/List;JJ)V"⟩ : MethodName) prog_26_method_1_code 7 none ws ({ frames := 1, cells := 0, slots := 0, locals := 12 } : Room) #[(.ref a1), .null, (.ref a3), (.long q1), (.long q2)] h0 (Q3 Z a1 a3 q1 q2 h0 n0) := by
  refine own_body (plainFor_of_name pn_com_example_tiroir_tiroir_Query) ?_
  intro p e s m below meth c s₁ Bd hml0 hZ e0
  have hx := Bd.exec
  have hby := Bd.bytes
  have hml : c.maxLocals = 7 := hml0
  have hown : s.vm.findClass "com/example/tiroir/tiroir/Query" = some m.cls := findClass_of_methodNamed Bd.named
  have hnm := (name_of_methodNamed Bd.named Bd.method).1
  have X0 : Stand p l e ({ frames := 1, cells := 0, slots := 0, locals := 12 } : Room) s m #[(.ref a1), .null, (.ref a3), (.long q1), (.long q2)] below meth c s₁ [] 0 0 := Stand.of_body Bd
  have N0 := Fr.nil n0
  have K0 : Keep h0 h0 [a1] := Keep.refl _ _
  rw [ef_rm3]
  obtain ⟨T101, X101, e101, st101⟩ := initO X0 hx hZ hown (hw _ (List.mem_of_getElem? (i := 17) rfl)) (hw _ (List.mem_of_getElem? (i := 18) rfl)) (hw _ (List.mem_of_getElem? (i := 19) rfl)) e0 (g := (mkF m 1 #[.val (.ref a1), .val .null, .val (.ref a3), .val (.long q1), .second, .val (.long q2), .second] [(.ref a1)])) rfl (by rw [hml]; rfl) rfl (hb hby d3_1) (by decide) (W := 0) (by show 2 * 0 + _ ≤ _; exact Nat.le_of_eq rfl) (by decide)
  obtain ⟨T102, h102, X102, e102, W102, st102⟩ := putF X101 hx hZ hown (host := "") (Or.inl (hw _ (List.mem_of_getElem? (i := 20) rfl))) Via.refl e101 F_predicate E_a (Or.inr ⟨(hw _ (List.mem_of_getElem? (i := 21) rfl)), rfl, hnm⟩) (hw _ (List.mem_of_getElem? (i := 6) rfl)) (ty := (.object "com/example/tiroir/tiroir/Predicate")) (by decide) rfl rfl (g := (mkF m 6 #[.val (.ref a1), .val .null, .val (.ref a3), .val (.long q1), .second, .val (.long q2), .second] [.null, (.ref a1)])) rfl rfl (hb hby d3_6)
  have Fw102 := F_predicate.same W102
  have K102 : Keep h0 h102 [a1] := K0.wr W102 (Or.inl (List.mem_of_getElem? (i := 0) rfl))
  have N102 := Fr.snoc X102 N0 g_a1
  have f103 := (F_orderings.other W102 (Or.inr (slot_ne (Or.inr (hw _ (List.mem_of_getElem? (i := 23) rfl))) (Or.inr (hw _ (List.mem_of_getElem? (i := 21) rfl))) (by decide) (t := (.object "java/util/List")) (t' := (.object "com/example/tiroir/tiroir/Predicate")) (by decide) (by decide))))
  have f104 := (E_a.wr W102)
  obtain ⟨T105, h105, X105, e105, W105, st105⟩ := putF X102 hx hZ hown (host := "") (Or.inl (hw _ (List.mem_of_getElem? (i := 22) rfl))) Via.refl e102 f103 f104 (Or.inr ⟨(hw _ (List.mem_of_getElem? (i := 23) rfl)), rfl, hnm⟩) (hw _ (List.mem_of_getElem? (i := 6) rfl)) (ty := (.object "java/util/List")) (by decide) rfl rfl (g := (mkF m 11 #[.val (.ref a1), .val .null, .val (.ref a3), .val (.long q1), .second, .val (.long q2), .second] [(.ref a3), (.ref a1)])) rfl rfl (hb hby d3_11)
  have Fw105 := f103.same W105
  have K105 : Keep h0 h105 [a1] := K102.wr W105 (Or.inl (List.mem_of_getElem? (i := 0) rfl))
  have N105 := Fr.snoc X105 N102 g_a1
  have f106 := ((F_skip.other W102 (Or.inr (slot_ne (Or.inr (hw _ (List.mem_of_getElem? (i := 25) rfl))) (Or.inr (hw _ (List.mem_of_getElem? (i := 21) rfl))) (by decide) (t := .long) (t' := (.object "com/example/tiroir/tiroir/Predicate")) (by decide) (by decide)))).other W105 (Or.inr (slot_ne (Or.inr (hw _ (List.mem_of_getElem? (i := 25) rfl))) (Or.inr (hw _ (List.mem_of_getElem? (i := 23) rfl))) (by decide) (t := .long) (t' := (.object "java/util/List")) (by decide) (by decide))))
  have f107 := (f104.wr W105)
  obtain ⟨T108, h108, X108, e108, W108, st108⟩ := putF X105 hx hZ hown (host := "") (Or.inl (hw _ (List.mem_of_getElem? (i := 24) rfl))) Via.refl e105 f106 f107 (Or.inr ⟨(hw _ (List.mem_of_getElem? (i := 25) rfl)), rfl, hnm⟩) (hw _ (List.mem_of_getElem? (i := 6) rfl)) (ty := .long) (by decide) rfl rfl (g := (mkF m 16 #[.val (.ref a1), .val .null, .val (.ref a3), .val (.long q1), .second, .val (.long q2), .second] [(.long q1), (.ref a1)])) rfl rfl (hb hby d3_16)
  have Fw108 := f106.same W108
  have K108 : Keep h0 h108 [a1] := K105.wr W108 (Or.inl (List.mem_of_getElem? (i := 0) rfl))
  have N108 := Fr.snoc X108 N105 g_a1
  have f109 := (((F_limit.other W102 (Or.inr (slot_ne (Or.inr (hw _ (List.mem_of_getElem? (i := 27) rfl))) (Or.inr (hw _ (List.mem_of_getElem? (i := 21) rfl))) (by decide) (t := .long) (t' := (.object "com/example/tiroir/tiroir/Predicate")) (by decide) (by decide)))).other W105 (Or.inr (slot_ne (Or.inr (hw _ (List.mem_of_getElem? (i := 27) rfl))) (Or.inr (hw _ (List.mem_of_getElem? (i := 23) rfl))) (by decide) (t := .long) (t' := (.object "java/util/List")) (by decide) (by decide)))).other W108 (Or.inr (slot_ne (Or.inr (hw _ (List.mem_of_getElem? (i := 27) rfl))) (Or.inr (hw _ (List.mem_of_getElem? (i := 25) rfl))) (by decide) (t := .long) (t' := .long) (by decide) (by decide))))
  have f110 := (f107.wr W108)
  obtain ⟨T111, h111, X111, e111, W111, st111⟩ := putF X108 hx hZ hown (host := "") (Or.inl (hw _ (List.mem_of_getElem? (i := 26) rfl))) Via.refl e108 f109 f110 (Or.inr ⟨(hw _ (List.mem_of_getElem? (i := 27) rfl)), rfl, hnm⟩) (hw _ (List.mem_of_getElem? (i := 6) rfl)) (ty := .long) (by decide) rfl rfl (g := (mkF m 22 #[.val (.ref a1), .val .null, .val (.ref a3), .val (.long q1), .second, .val (.long q2), .second] [(.long q2), (.ref a1)])) rfl rfl (hb hby d3_22)
  have Fw111 := f109.same W111
  have K111 : Keep h0 h111 [a1] := K108.wr W111 (Or.inl (List.mem_of_getElem? (i := 0) rfl))
  have N111 := Fr.snoc X111 N108 g_a1
  have f112 := (f110.wr W111)
  have f113 := (((Fw102.other W105 (Or.inr (slot_ne (Or.inr (hw _ (List.mem_of_getElem? (i := 21) rfl))) (Or.inr (hw _ (List.mem_of_getElem? (i := 23) rfl))) (by decide) (t := (.object "com/example/tiroir/tiroir/Predicate")) (t' := (.object "java/util/List")) (by decide) (by decide)))).other W108 (Or.inr (slot_ne (Or.inr (hw _ (List.mem_of_getElem? (i := 21) rfl))) (Or.inr (hw _ (List.mem_of_getElem? (i := 25) rfl))) (by decide) (t := (.object "com/example/tiroir/tiroir/Predicate")) (t' := .long) (by decide) (by decide)))).other W111 (Or.inr (slot_ne (Or.inr (hw _ (List.mem_of_getElem? (i := 21) rfl))) (Or.inr (hw _ (List.mem_of_getElem? (i := 27) rfl))) (by decide) (t := (.object "com/example/tiroir/tiroir/Predicate")) (t' := .long) (by decide) (by decide))))
  have f114 := ((Fw105.other W108 (Or.inr (slot_ne (Or.inr (hw _ (List.mem_of_getElem? (i := 23) rfl))) (Or.inr (hw _ (List.mem_of_getElem? (i := 25) rfl))) (by decide) (t := (.object "java/util/List")) (t' := .long) (by decide) (by decide)))).other W111 (Or.inr (slot_ne (Or.inr (hw _ (List.mem_of_getElem? (i := 23) rfl))) (Or.inr (hw _ (List.mem_of_getElem? (i := 27) rfl))) (by decide) (t := (.object "java/util/List")) (t' := .long) (by decide) (by decide))))
  have f115 := (Fw108.other W111 (Or.inr (slot_ne (Or.inr (hw _ (List.mem_of_getElem? (i := 25) rfl))) (Or.inr (hw _ (List.mem_of_getElem? (i := 27) rfl))) (by decide) (t := .long) (t' := .long) (by decide) (by decide))))
  refine Gl.fin X111 (v := none) (fun _ => rfl) Bd.notSynchronized ?_ e111 (by decide) (by decide) (fun fs hr => ?_)
  · exact ⟨rfl, N111, K111, f112, f113, f114, f115, Fw111⟩
  · show Steps p.tables e below (s₁.setTop (mkF m 0 #[.val (.ref a1), .val .null, .val (.ref a3), .val (.long q1), .second, .val (.long q2), .second] [])) _
    refine XS.aloadN X0.here hx rfl (hb hby d3_0) rfl rfl ?_
    show Steps p.tables e below (s₁.setTop (mkF m 1 #[.val (.ref a1), .val .null, .val (.ref a3), .val (.long q1), .second, .val (.long q2), .second] [(.ref a1)])) _
    refine st101 _ ?_
    show Steps p.tables e below (T101.setTop (mkF m 4 #[.val (.ref a1), .val .null, .val (.ref a3), .val (.long q1), .second, .val (.long q2), .second] [])) _
    refine XS.aloadN X101.here hx rfl (hb hby d3_4) rfl rfl ?_
    show Steps p.tables e below (T101.setTop (mkF m 5 #[.val (.ref a1), .val .null, .val (.ref a3), .val (.long q1), .second, .val (.long q2), .second] [(.ref a1)])) _
    refine XS.aloadN X101.here hx rfl (hb hby d3_5) rfl rfl ?_
    show Steps p.tables e below (T101.setTop (mkF m 6 #[.val (.ref a1), .val .null, .val (.ref a3), .val (.long q1), .second, .val (.long q2), .second] [.null, (.ref a1)])) _
    refine st102 _ ?_
    show Steps p.tables e below (T102.setTop (mkF m 9 #[.val (.ref a1), .val .null, .val (.ref a3), .val (.long q1), .second, .val (.long q2), .second] [])) _
    refine XS.aloadN X102.here hx rfl (hb hby d3_9) rfl rfl ?_
    show Steps p.tables e below (T102.setTop (mkF m 10 #[.val (.ref a1), .val .null, .val (.ref a3), .val (.long q1), .second, .val (.long q2), .second] [(.ref a1)])) _
    refine XS.aloadN X102.here hx rfl (hb hby d3_10) rfl rfl ?_
    show Steps p.tables e below (T102.setTop (mkF m 11 #[.val (.ref a1), .val .null, .val (.ref a3), .val (.long q1), .second, .val (.long q2), .second] [(.ref a3), (.ref a1)])) _
    refine st105 _ ?_
    show Steps p.tables e below (T105.setTop (mkF m 14 #[.val (.ref a1), .val .null, .val (.ref a3), .val (.long q1), .second, .val (.long q2), .second] [])) _
    refine XS.aloadN X105.here hx rfl (hb hby d3_14) rfl rfl ?_
    show Steps p.tables e below (T105.setTop (mkF m 15 #[.val (.ref a1), .val .null, .val (.ref a3), .val (.long q1), .second, .val (.long q2), .second] [(.ref a1)])) _
    refine XS.lloadN X105.here hx rfl (hb hby d3_15) rfl ?_
    show Steps p.tables e below (T105.setTop (mkF m 16 #[.val (.ref a1), .val .null, .val (.ref a3), .val (.long q1), .second, .val (.long q2), .second] [(.long q1), (.ref a1)])) _
    refine st108 _ ?_
    show Steps p.tables e below (T108.setTop (mkF m 19 #[.val (.ref a1), .val .null, .val (.ref a3), .val (.long q1), .second, .val (.long q2), .second] [])) _
    refine XS.aloadN X108.here hx rfl (hb hby d3_19) rfl rfl ?_
    show Steps p.tables e below (T108.setTop (mkF m 20 #[.val (.ref a1), .val .null, .val (.ref a3), .val (.long q1), .second, .val (.long q2), .second] [(.ref a1)])) _
    refine XS.lload X108.here hx rfl (hb hby d3_20) rfl ?_
    show Steps p.tables e below (T108.setTop (mkF m 22 #[.val (.ref a1), .val .null, .val (.ref a3), .val (.long q1), .second, .val (.long q2), .second] [(.long q2), (.ref a1)])) _
    refine st111 _ ?_
    show Steps p.tables e below (T111.setTop (mkF m 25 #[.val (.ref a1), .val .null, .val (.ref a3), .val (.long q1), .second, .val (.long q2), .second] [])) _
    exact X111.returnOut hx Bd.returns (hb hby d3_25) hr
theorem ef_rm1 (m : MethodId)  : entryFrame m #[] 0 = mkF m 0 #[] [] := by first | (simp [entryFrame, mkF, argsToLocals, Value.category]; done) | rfl
theorem d1_0 : decode prog_26_method_2_code 0 = .ok (.new 10, 3) := by decide +kernel
theorem d1_3 : decode prog_26_method_2_code 3 = .ok (.dup, 1) := by decide +kernel
theorem d1_4 : decode prog_26_method_2_code 4 = .ok (.aconst_null, 1) := by decide +kernel
theorem d1_5 : decode prog_26_method_2_code 5 = .ok (.invokestatic 26, 3) := by decide +kernel
theorem pd___Ljava_util_List_ : parseMethodDescriptor "()Ljava/util/List;" = some ⟨[], some (.object "java/util/List")⟩ := by decide +kernel
theorem d1_8 : decode prog_26_method_2_code 8 = .ok (.lconst 0, 1) := by decide +kernel
theorem d1_9 : decode prog_26_method_2_code 9 = .ok (.ldc2_w 32, 3) := by decide +kernel
theorem d1_12 : decode prog_26_method_2_code 12 = .ok (.invokespecial 34, 3) := by decide +kernel
theorem pd__Lcom_example_tiroir_tiroir_Predicate_Ljava_util_List_JJ_V : parseMethodDescriptor "(Lcom/example/tiroir/tiroir/Predicate;Ljava/util/List;JJ)V" = some ⟨[(.object "com/example/tiroir/tiroir/Predicate"), (.object "java/util/List"), .long, .long], none⟩ := by decide +kernel
theorem d1_15 : decode prog_26_method_2_code 15 = .ok (.areturn, 1) := by decide +kernel
def Q1 (Z : State) (el : Addr) (h0 : Heap) (n0 : Nat) (v : Option Value) (h : Heap) (L : List Loc) : Prop := ∃ r : Addr, h0.size ≤ r ∧ v = some (.ref r) ∧ Fr n0 L ∧ Keep h0 h [] ∧ Exa Z h r "com/example/tiroir/tiroir/Query" ∧ Fld Z h r "com/example/tiroir/tiroir/Query" "predicate" "Lcom/example/tiroir/tiroir/Predicate;" .null ∧ Fld Z h r "com/example/tiroir/tiroir/Query" "orderings" "Ljava/util/List;" (.ref el) ∧ Fld Z h r "com/example/tiroir/tiroir/Query" "skip" "J" (.long (0 : Int64)) ∧ Fld Z h r "com/example/tiroir/tiroir/Query" "limit" "J" (.long (9223372036854775807 : Int64))
set_option maxRecDepth 65536 in
set_option maxHeartbeats 40000000 in
theorem rm1 (l : Launch) (Z : State) (a0 : Array Value) (hw : ∀ d ∈ tables_1, d.before a0 Z = true) (ws : List Jvm.Cond) (el : Addr) (h0 : Heap) (n0 : Nat) (Z0 : n0 ≤ h0.size) (S_e : Sta Z h0 "java/util/ImmutableCollections" "EMPTY_LIST" "Ljava/util/ImmutableCollections$ListN;" (.ref el)) :
    OMet l Z (⟨"com/example/tiroir/tiroir/Query", "all", "()Lcom/example/tiroir/tiroir/Query;"⟩ : MethodName) prog_26_method_2_code 0 (some (.object "com/example/tiroir/tiroir/Query")) ws ({ frames := 2, cells := 1, slots := 4, locals := 31 } : Room) #[] h0 (Q1 Z el h0 n0) := by
  refine own_body (plainFor_of_name pn_com_example_tiroir_tiroir_Query) ?_
  intro p e s m below meth c s₁ Bd hml0 hZ e0
  have hx := Bd.exec
  have hby := Bd.bytes
  have hml : c.maxLocals = 0 := hml0
  have hown : s.vm.findClass "com/example/tiroir/tiroir/Query" = some m.cls := findClass_of_methodNamed Bd.named
  have hnm := (name_of_methodNamed Bd.named Bd.method).1
  have X0 : Stand p l e ({ frames := 2, cells := 1, slots := 4, locals := 31 } : Room) s m #[] below meth c s₁ [] 0 0 := Stand.of_body Bd
  have N0 := Fr.nil n0
  have K0 : Keep h0 h0 [] := Keep.refl _ _
  rw [ef_rm1]
  obtain ⟨T101, h101, X101, e101, E101, A101, D101, -, st101⟩ := newO X0 hx hZ hown (hw _ (List.mem_of_getElem? (i := 5) rfl)) (hw _ (List.mem_of_getElem? (i := 6) rfl)) (hw _ (List.mem_of_getElem? (i := 3) rfl)) e0 (g := (mkF m 0 #[] [])) rfl (hb hby d1_0) (by decide) (by decide)
  obtain ⟨b101, g101⟩ : ∃ z, z = h0.size := ⟨_, rfl⟩
  have g_b101 : n0 ≤ b101 := Nat.le_trans Z0 (Nat.le_of_eq g101.symm)
  have sz_b101 : h0.size ≤ b101 := Nat.le_trans K0.1 (Nat.le_of_eq g101.symm)
  rw [← g101] at A101 D101 st101
  have K101 : Keep h0 h101 [] := K0.ext E101
  have F_predicate_b101 : Fld Z h101 b101 "com/example/tiroir/tiroir/Query" "predicate" "Lcom/example/tiroir/tiroir/Predicate;" .null := D101 (Or.inr (hw _ (List.mem_of_getElem? (i := 21) rfl))) (ty := (.object "com/example/tiroir/tiroir/Predicate")) (by decide)
  have F_orderings_b101 : Fld Z h101 b101 "com/example/tiroir/tiroir/Query" "orderings" "Ljava/util/List;" .null := D101 (Or.inr (hw _ (List.mem_of_getElem? (i := 23) rfl))) (ty := (.object "java/util/List")) (by decide)
  have F_skip_b101 : Fld Z h101 b101 "com/example/tiroir/tiroir/Query" "skip" "J" (.long (0 : Int64)) := D101 (Or.inr (hw _ (List.mem_of_getElem? (i := 25) rfl))) (ty := .long) (by decide)
  have F_limit_b101 : Fld Z h101 b101 "com/example/tiroir/tiroir/Query" "limit" "J" (.long (0 : Int64)) := D101 (Or.inr (hw _ (List.mem_of_getElem? (i := 27) rfl))) (ty := .long) (by decide)
  have f103 := (S_e.ext E101)
  have z104 : n0 ≤ h101.size := (Nat.le_trans Z0 E101.1)
  obtain ⟨v102, T102, L102, X102, q102, st102⟩ := own_callS X101 hx hZ (y := (⟨"java/util/List", "of", "()Ljava/util/List;"⟩ : MethodName)) hown (hw _ (List.mem_of_getElem? (i := 7) rfl)) (hw _ (List.mem_of_getElem? (i := 8) rfl)) (hw _ (List.mem_of_getElem? (i := 9) rfl)) (hw _ (List.mem_of_getElem? (i := 10) rfl)) (by decide) (hM := (rm2 l Z a0 hw [] el h101 n0 z104 f103)) (by decide) (by decide) (by decide) (by decide) e101 (argsL := []) (rest := [.null, (.ref b101), (.ref b101)]) (Ls := #[]) (by rw [hml]; rfl) (lenOf pd___Ljava_util_List_ rfl) (W := 3) (Nat.le_of_eq rfl) (hb hby d1_5)
  obtain ⟨rfl, N102q, e102⟩ := q102
  have N102 := Fr.app N0 N102q
  obtain ⟨v105, T105, L105, X105, q105, st105⟩ := own_callI X102 hx hZ (y := (⟨"com/example/tiroir/tiroir/Query", "<init>", "(Lcom/example/tiroir/tiroir/Predicate;Ljava/util/List;JJ)V"⟩ : MethodName)) rfl hown (hw _ (List.mem_of_getElem? (i := 14) rfl)) (hw _ (List.mem_of_getElem? (i := 15) rfl)) (hw _ (List.mem_of_getElem? (i := 3) rfl)) (hw _ (List.mem_of_getElem? (i := 16) rfl)) (by decide) (a := b101) (hM := (rm3 l Z a0 hw [] b101 el (0 : Int64) (9223372036854775807 : Int64) h101 n0 z104 g_b101 A101 F_predicate_b101 F_orderings_b101 F_skip_b101 F_limit_b101)) (by decide) (by decide) (by decide) (by decide) e102 (argsL := [.null, (.ref el), (.long (0 : Int64)), (.long (9223372036854775807 : Int64))]) (rest := [(.ref b101)]) (Ls := #[]) (by rw [hml]; rfl) (lenOf pd__Lcom_example_tiroir_tiroir_Predicate_Ljava_util_List_JJ_V rfl) (W := 1) (Nat.le_of_eq rfl) (hb hby d1_12)
  obtain ⟨rfl, N105q, K105q, E105q, P105q, O105q, S105q, L105q⟩ := q105
  have N105 := Fr.app N102 N105q
  have K105 : Keep h0 T105.heap [] := K101.trans K105q (allS (Or.inr sz_b101) all0)
  refine Gl.fin X105 (v := some (.ref b101)) (fun h => by rw [Bd.returns] at h; cases h) Bd.notSynchronized ?_ rfl (by decide) (by decide) (fun fs hr => ?_)
  · exact ⟨_, sz_b101, rfl, N105, K105, E105q, P105q, O105q, S105q, L105q⟩
  · show Steps p.tables e below (s₁.setTop (mkF m 0 #[] [])) _
    refine st101 _ ?_
    show Steps p.tables e below (T101.setTop (mkF m 3 #[] [(.ref b101)])) _
    refine XS.dup X101.here hx rfl (hb hby d1_3) rfl rfl ?_
    show Steps p.tables e below (T101.setTop (mkF m 4 #[] [(.ref b101), (.ref b101)])) _
    refine XS.aconstNull X101.here hx rfl (hb hby d1_4) ?_
    show Steps p.tables e below (T101.setTop (mkF m 5 #[] [.null, (.ref b101), (.ref b101)])) _
    refine st102 _ ?_
    show Steps p.tables e below (T102.setTop (mkF m 8 #[] [(.ref el), .null, (.ref b101), (.ref b101)])) _
    refine XS.lconst X102.here hx rfl (hb hby d1_8) ?_
    show Steps p.tables e below (T102.setTop (mkF m 9 #[] [(.long (0 : Int64)), (.ref el), .null, (.ref b101), (.ref b101)])) _
    refine X102.ldc2Long hx hown (mvT hZ (hw _ (List.mem_of_getElem? (i := 13) rfl))) (g := (mkF m 9 #[] [(.long (0 : Int64)), (.ref el), .null, (.ref b101), (.ref b101)])) rfl (hb hby d1_9) _ ?_
    show Steps p.tables e below (T102.setTop (mkF m 12 #[] [(.long (9223372036854775807 : Int64)), (.long (0 : Int64)), (.ref el), .null, (.ref b101), (.ref b101)])) _
    refine st105 _ ?_
    show Steps p.tables e below (T105.setTop (mkF m 15 #[] [(.ref b101)])) _
    exact own_retR X105 hx Bd.returns rfl rfl rfl (hb hby d1_15) hr
theorem ef_rm5 (m : MethodId) (x0 : Addr) : entryFrame m #[(.ref x0)] 1 = mkF m 0 #[.val (.ref x0)] [] := by first | (simp [entryFrame, mkF, argsToLocals, Value.category]; done) | rfl
theorem d5_0 : decode prog_26_method_7_code 0 = .ok (.aload_n 0, 1) := by decide +kernel
theorem d5_1 : decode prog_26_method_7_code 1 = .ok (.getfield 9, 3) := by decide +kernel
theorem d5_4 : decode prog_26_method_7_code 4 = .ok (.areturn, 1) := by decide +kernel
def Q5 (Z : State) (a1 : Addr) (h0 : Heap) (n0 : Nat) (v : Option Value) (h : Heap) (L : List Loc) : Prop := v = some .null ∧ Fr n0 L ∧ h = h0
set_option maxRecDepth 65536 in
set_option maxHeartbeats 40000000 in
theorem rm5 (l : Launch) (Z : State) (a0 : Array Value) (hw : ∀ d ∈ tables_1, d.before a0 Z = true) (ws : List Jvm.Cond) (a1 : Addr) (h0 : Heap) (n0 : Nat) (Z0 : n0 ≤ h0.size) (F_f : Fld Z h0 a1 "com/example/tiroir/tiroir/Query" "predicate" "Lcom/example/tiroir/tiroir/Predicate;" .null) :
    OMet l Z (⟨"com/example/tiroir/tiroir/Query", "predicate", "()Lcom/example/tiroir/tiroir/Predicate;"⟩ : MethodName) prog_26_method_7_code 1 (some (.object "com/example/tiroir/tiroir/Predicate")) ws ({ frames := 0, cells := 0, slots := 0, locals := 0 } : Room) #[(.ref a1)] h0 (Q5 Z a1 h0 n0) := by
  refine own_body (plainFor_of_name pn_com_example_tiroir_tiroir_Query) ?_
  intro p e s m below meth c s₁ Bd hml0 hZ e0
  have hx := Bd.exec
  have hby := Bd.bytes
  have hml : c.maxLocals = 1 := hml0
  have hown : s.vm.findClass "com/example/tiroir/tiroir/Query" = some m.cls := findClass_of_methodNamed Bd.named
  have hnm := (name_of_methodNamed Bd.named Bd.method).1
  have X0 : Stand p l e ({ frames := 0, cells := 0, slots := 0, locals := 0 } : Room) s m #[(.ref a1)] below meth c s₁ [] 0 0 := Stand.of_body Bd
  have N0 := Fr.nil n0
  have K0 : Keep h0 h0 [] := Keep.refl _ _
  rw [ef_rm5]
  obtain ⟨T101, X101, e101, st101⟩ := getF X0 hx hZ hown (host := "") (Or.inl (hw _ (List.mem_of_getElem? (i := 20) rfl))) Via.refl e0 F_f (g := (mkF m 1 #[.val (.ref a1)] [(.ref a1)])) rfl rfl (hb hby d5_1)
  refine Gl.fin X101 (v := some .null) (fun h => by rw [Bd.returns] at h; cases h) Bd.notSynchronized ?_ e101 (by decide) (by decide) (fun fs hr => ?_)
  · exact ⟨rfl, N0, rfl⟩
  · show Steps p.tables e below (s₁.setTop (mkF m 0 #[.val (.ref a1)] [])) _
    refine XS.aloadN X0.here hx rfl (hb hby d5_0) rfl rfl ?_
    show Steps p.tables e below (s₁.setTop (mkF m 1 #[.val (.ref a1)] [(.ref a1)])) _
    refine st101 _ ?_
    show Steps p.tables e below (T101.setTop (mkF m 4 #[.val (.ref a1)] [.null])) _
    exact own_retR X101 hx Bd.returns rfl rfl rfl (hb hby d5_4) hr
theorem ef_rm6 (m : MethodId) (x0 : Addr) : entryFrame m #[(.ref x0)] 1 = mkF m 0 #[.val (.ref x0)] [] := by first | (simp [entryFrame, mkF, argsToLocals, Value.category]; done) | rfl
theorem d6_0 : decode prog_26_method_8_code 0 = .ok (.aload_n 0, 1) := by decide +kernel
theorem d6_1 : decode prog_26_method_8_code 1 = .ok (.getfield 15, 3) := by decide +kernel
theorem d6_4 : decode prog_26_method_8_code 4 = .ok (.areturn, 1) := by decide +kernel
def Q6 (Z : State) (a1 : Addr) (w1 : Addr) (h0 : Heap) (n0 : Nat) (v : Option Value) (h : Heap) (L : List Loc) : Prop := v = some (.ref w1) ∧ Fr n0 L ∧ h = h0
set_option maxRecDepth 65536 in
set_option maxHeartbeats 40000000 in
theorem rm6 (l : Launch) (Z : State) (a0 : Array Value) (hw : ∀ d ∈ tables_1, d.before a0 Z = true) (ws : List Jvm.Cond) (a1 : Addr) (w1 : Addr) (h0 : Heap) (n0 : Nat) (Z0 : n0 ≤ h0.size) (F_f : Fld Z h0 a1 "com/example/tiroir/tiroir/Query" "orderings" "Ljava/util/List;" (.ref w1)) :
    OMet l Z (⟨"com/example/tiroir/tiroir/Query", "orderings", "()Ljava/util/List;"⟩ : MethodName) prog_26_method_8_code 1 (some (.object "java/util/List")) ws ({ frames := 0, cells := 0, slots := 0, locals := 0 } : Room) #[(.ref a1)] h0 (Q6 Z a1 w1 h0 n0) := by
  refine own_body (plainFor_of_name pn_com_example_tiroir_tiroir_Query) ?_
  intro p e s m below meth c s₁ Bd hml0 hZ e0
  have hx := Bd.exec
  have hby := Bd.bytes
  have hml : c.maxLocals = 1 := hml0
  have hown : s.vm.findClass "com/example/tiroir/tiroir/Query" = some m.cls := findClass_of_methodNamed Bd.named
  have hnm := (name_of_methodNamed Bd.named Bd.method).1
  have X0 : Stand p l e ({ frames := 0, cells := 0, slots := 0, locals := 0 } : Room) s m #[(.ref a1)] below meth c s₁ [] 0 0 := Stand.of_body Bd
  have N0 := Fr.nil n0
  have K0 : Keep h0 h0 [] := Keep.refl _ _
  rw [ef_rm6]
  obtain ⟨T101, X101, e101, st101⟩ := getF X0 hx hZ hown (host := "") (Or.inl (hw _ (List.mem_of_getElem? (i := 22) rfl))) Via.refl e0 F_f (g := (mkF m 1 #[.val (.ref a1)] [(.ref a1)])) rfl rfl (hb hby d6_1)
  refine Gl.fin X101 (v := some (.ref w1)) (fun h => by rw [Bd.returns] at h; cases h) Bd.notSynchronized ?_ e101 (by decide) (by decide) (fun fs hr => ?_)
  · exact ⟨rfl, N0, rfl⟩
  · show Steps p.tables e below (s₁.setTop (mkF m 0 #[.val (.ref a1)] [])) _
    refine XS.aloadN X0.here hx rfl (hb hby d6_0) rfl rfl ?_
    show Steps p.tables e below (s₁.setTop (mkF m 1 #[.val (.ref a1)] [(.ref a1)])) _
    refine st101 _ ?_
    show Steps p.tables e below (T101.setTop (mkF m 4 #[.val (.ref a1)] [(.ref w1)])) _
    exact own_retR X101 hx Bd.returns rfl rfl rfl (hb hby d6_4) hr
theorem ef_rm8 (m : MethodId) (x0 : Addr) : entryFrame m #[(.ref x0)] 1 = mkF m 0 #[.val (.ref x0)] [] := by first | (simp [entryFrame, mkF, argsToLocals, Value.category]; done) | rfl
theorem d8_0 : decode prog_26_method_10_code 0 = .ok (.aload_n 0, 1) := by decide +kernel
theorem d8_1 : decode prog_26_method_10_code 1 = .ok (.getfield 19, 3) := by decide +kernel
theorem d8_4 : decode prog_26_method_10_code 4 = .ok (.lreturn, 1) := by decide +kernel
def Q8 (Z : State) (a1 : Addr) (w1 : Int64) (h0 : Heap) (n0 : Nat) (v : Option Value) (h : Heap) (L : List Loc) : Prop := v = some (.long w1) ∧ Fr n0 L ∧ h = h0
set_option maxRecDepth 65536 in
set_option maxHeartbeats 40000000 in
theorem rm8 (l : Launch) (Z : State) (a0 : Array Value) (hw : ∀ d ∈ tables_1, d.before a0 Z = true) (ws : List Jvm.Cond) (a1 : Addr) (w1 : Int64) (h0 : Heap) (n0 : Nat) (Z0 : n0 ≤ h0.size) (F_f : Fld Z h0 a1 "com/example/tiroir/tiroir/Query" "skip" "J" (.long w1)) :
    OMet l Z (⟨"com/example/tiroir/tiroir/Query", "skipCount", "()J"⟩ : MethodName) prog_26_method_10_code 1 (some .long) ws ({ frames := 0, cells := 0, slots := 0, locals := 0 } : Room) #[(.ref a1)] h0 (Q8 Z a1 w1 h0 n0) := by
  refine own_body (plainFor_of_name pn_com_example_tiroir_tiroir_Query) ?_
  intro p e s m below meth c s₁ Bd hml0 hZ e0
  have hx := Bd.exec
  have hby := Bd.bytes
  have hml : c.maxLocals = 1 := hml0
  have hown : s.vm.findClass "com/example/tiroir/tiroir/Query" = some m.cls := findClass_of_methodNamed Bd.named
  have hnm := (name_of_methodNamed Bd.named Bd.method).1
  have X0 : Stand p l e ({ frames := 0, cells := 0, slots := 0, locals := 0 } : Room) s m #[(.ref a1)] below meth c s₁ [] 0 0 := Stand.of_body Bd
  have N0 := Fr.nil n0
  have K0 : Keep h0 h0 [] := Keep.refl _ _
  rw [ef_rm8]
  obtain ⟨T101, X101, e101, st101⟩ := getF X0 hx hZ hown (host := "") (Or.inl (hw _ (List.mem_of_getElem? (i := 24) rfl))) Via.refl e0 F_f (g := (mkF m 1 #[.val (.ref a1)] [(.ref a1)])) rfl rfl (hb hby d8_1)
  refine Gl.fin X101 (v := some (.long w1)) (fun h => by rw [Bd.returns] at h; cases h) Bd.notSynchronized ?_ e101 (by decide) (by decide) (fun fs hr => ?_)
  · exact ⟨rfl, N0, rfl⟩
  · show Steps p.tables e below (s₁.setTop (mkF m 0 #[.val (.ref a1)] [])) _
    refine XS.aloadN X0.here hx rfl (hb hby d8_0) rfl rfl ?_
    show Steps p.tables e below (s₁.setTop (mkF m 1 #[.val (.ref a1)] [(.ref a1)])) _
    refine st101 _ ?_
    show Steps p.tables e below (T101.setTop (mkF m 4 #[.val (.ref a1)] [(.long w1)])) _
    exact own_retJ X101 hx Bd.returns (hb hby d8_4) hr
theorem ef_rm9 (m : MethodId) (x0 : Addr) : entryFrame m #[(.ref x0)] 1 = mkF m 0 #[.val (.ref x0)] [] := by first | (simp [entryFrame, mkF, argsToLocals, Value.category]; done) | rfl
theorem d9_0 : decode prog_26_method_11_code 0 = .ok (.aload_n 0, 1) := by decide +kernel
theorem d9_1 : decode prog_26_method_11_code 1 = .ok (.getfield 23, 3) := by decide +kernel
theorem d9_4 : decode prog_26_method_11_code 4 = .ok (.lreturn, 1) := by decide +kernel
def Q9 (Z : State) (a1 : Addr) (w1 : Int64) (h0 : Heap) (n0 : Nat) (v : Option Value) (h : Heap) (L : List Loc) : Prop := v = some (.long w1) ∧ Fr n0 L ∧ h = h0
set_option maxRecDepth 65536 in
set_option maxHeartbeats 40000000 in
theorem rm9 (l : Launch) (Z : State) (a0 : Array Value) (hw : ∀ d ∈ tables_1, d.before a0 Z = true) (ws : List Jvm.Cond) (a1 : Addr) (w1 : Int64) (h0 : Heap) (n0 : Nat) (Z0 : n0 ≤ h0.size) (F_f : Fld Z h0 a1 "com/example/tiroir/tiroir/Query" "limit" "J" (.long w1)) :
    OMet l Z (⟨"com/example/tiroir/tiroir/Query", "limitCount", "()J"⟩ : MethodName) prog_26_method_11_code 1 (some .long) ws ({ frames := 0, cells := 0, slots := 0, locals := 0 } : Room) #[(.ref a1)] h0 (Q9 Z a1 w1 h0 n0) := by
  refine own_body (plainFor_of_name pn_com_example_tiroir_tiroir_Query) ?_
  intro p e s m below meth c s₁ Bd hml0 hZ e0
  have hx := Bd.exec
  have hby := Bd.bytes
  have hml : c.maxLocals = 1 := hml0
  have hown : s.vm.findClass "com/example/tiroir/tiroir/Query" = some m.cls := findClass_of_methodNamed Bd.named
  have hnm := (name_of_methodNamed Bd.named Bd.method).1
  have X0 : Stand p l e ({ frames := 0, cells := 0, slots := 0, locals := 0 } : Room) s m #[(.ref a1)] below meth c s₁ [] 0 0 := Stand.of_body Bd
  have N0 := Fr.nil n0
  have K0 : Keep h0 h0 [] := Keep.refl _ _
  rw [ef_rm9]
  obtain ⟨T101, X101, e101, st101⟩ := getF X0 hx hZ hown (host := "") (Or.inl (hw _ (List.mem_of_getElem? (i := 26) rfl))) Via.refl e0 F_f (g := (mkF m 1 #[.val (.ref a1)] [(.ref a1)])) rfl rfl (hb hby d9_1)
  refine Gl.fin X101 (v := some (.long w1)) (fun h => by rw [Bd.returns] at h; cases h) Bd.notSynchronized ?_ e101 (by decide) (by decide) (fun fs hr => ?_)
  · exact ⟨rfl, N0, rfl⟩
  · show Steps p.tables e below (s₁.setTop (mkF m 0 #[.val (.ref a1)] [])) _
    refine XS.aloadN X0.here hx rfl (hb hby d9_0) rfl rfl ?_
    show Steps p.tables e below (s₁.setTop (mkF m 1 #[.val (.ref a1)] [(.ref a1)])) _
    refine st101 _ ?_
    show Steps p.tables e below (T101.setTop (mkF m 4 #[.val (.ref a1)] [(.long w1)])) _
    exact own_retJ X101 hx Bd.returns (hb hby d9_4) hr
theorem pn_java_util_ImmutableCollections_ListN : plainName "java/util/ImmutableCollections$ListN" = true := by first | (simp [plainName, overriddenIn]; done) | decide +kernel
theorem ef_rm7 (m : MethodId) (x0 : Addr) : entryFrame m #[(.ref x0)] 1 = mkF m 0 #[.val (.ref x0)] [] := by first | (simp [entryFrame, mkF, argsToLocals, Value.category]; done) | rfl
theorem d7_0 : decode jdk_45_method_3_code 0 = .ok (.aload_n 0, 1) := by decide +kernel
theorem d7_1 : decode jdk_45_method_3_code 1 = .ok (.getfield 7, 3) := by decide +kernel
theorem d7_4 : decode jdk_45_method_3_code 4 = .ok (.arraylength, 1) := by decide +kernel
theorem d7_5 : decode jdk_45_method_3_code 5 = .ok (.ireturn, 1) := by decide +kernel
def Q7 (Z : State) (el : Addr) (ea : Addr) (ek : ClassId) (h0 : Heap) (n0 : Nat) (v : Option Value) (h : Heap) (L : List Loc) : Prop := v = some (.int 0) ∧ Fr n0 L ∧ h = h0
set_option maxRecDepth 65536 in
set_option maxHeartbeats 40000000 in
theorem rm7 (l : Launch) (Z : State) (a0 : Array Value) (hw : ∀ d ∈ tables_1, d.before a0 Z = true) (ws : List Jvm.Cond) (el : Addr) (ea : Addr) (ek : ClassId) (h0 : Heap) (n0 : Nat) (Z0 : n0 ≤ h0.size) (F_l : Fld Z h0 el "java/util/ImmutableCollections$ListN" "elements" "[Ljava/lang/Object;" (.ref ea)) (V_l : Arv Z h0 ea ek (.object "java/lang/Object") (0 : Int32) [] .null) :
    OMet l Z (⟨"java/util/ImmutableCollections$ListN", "size", "()I"⟩ : MethodName) jdk_45_method_3_code 1 (some .int) ws ({ frames := 0, cells := 0, slots := 0, locals := 0 } : Room) #[(.ref el)] h0 (Q7 Z el ea ek h0 n0) := by
  refine own_body (plainFor_of_name pn_java_util_ImmutableCollections_ListN) ?_
  intro p e s m below meth c s₁ Bd hml0 hZ e0
  have hx := Bd.exec
  have hby := Bd.bytes
  have hml : c.maxLocals = 1 := hml0
  have hown : s.vm.findClass "java/util/ImmutableCollections$ListN" = some m.cls := findClass_of_methodNamed Bd.named
  have hnm := (name_of_methodNamed Bd.named Bd.method).1
  have X0 : Stand p l e ({ frames := 0, cells := 0, slots := 0, locals := 0 } : Room) s m #[(.ref el)] below meth c s₁ [] 0 0 := Stand.of_body Bd
  have N0 := Fr.nil n0
  have K0 : Keep h0 h0 [] := Keep.refl _ _
  rw [ef_rm7]
  obtain ⟨T101, X101, e101, st101⟩ := getF X0 hx hZ hown (host := "") (Or.inl (hw _ (List.mem_of_getElem? (i := 48) rfl))) Via.refl e0 F_l (g := (mkF m 1 #[.val (.ref el)] [(.ref el)])) rfl rfl (hb hby d7_1)
  obtain ⟨cl102, Ar102, qa102, Sa102, Na102, Ha102, Ga102⟩ := id V_l
  refine Gl.fin X101 (v := some (.int (0 : Int32))) (fun h => by rw [Bd.returns] at h; cases h) Bd.notSynchronized ?_ e101 (by decide) (by decide) (fun fs hr => ?_)
  · exact ⟨rfl, N0, rfl⟩
  · show Steps p.tables e below (s₁.setTop (mkF m 0 #[.val (.ref el)] [])) _
    refine XS.aloadN X0.here hx rfl (hb hby d7_0) rfl rfl ?_
    show Steps p.tables e below (s₁.setTop (mkF m 1 #[.val (.ref el)] [(.ref el)])) _
    refine st101 _ ?_
    show Steps p.tables e below (T101.setTop (mkF m 4 #[.val (.ref el)] [(.ref ea)])) _
    refine X101.arraylength hx (own_hc e101 Ar102.1) (State.isArrayOf_alike hZ.alike Ar102.2.1) (g := (mkF m 4 #[.val (.ref el)] [(.ref ea)])) rfl rfl (hb hby d7_4) _ ?_
    rw [len_of Sa102 Na102]
    show Steps p.tables e below (T101.setTop (mkF m 5 #[.val (.ref el)] [(.int (0 : Int32))])) _
    exact own_retI X101 hx Bd.returns (hb hby d7_5) hr
theorem ef_rm10 (m : MethodId) (x0 : Addr) : entryFrame m #[(.ref x0)] 1 = mkF m 0 #[.val (.ref x0)] [] := by first | (simp [entryFrame, mkF, argsToLocals, Value.category]; done) | rfl
theorem d10_0 : decode prog_26_method_12_code 0 = .ok (.aload_n 0, 1) := by decide +kernel
theorem d10_1 : decode prog_26_method_12_code 1 = .ok (.getfield 19, 3) := by decide +kernel
theorem d10_4 : decode prog_26_method_12_code 4 = .ok (.lconst 0, 1) := by decide +kernel
theorem d10_5 : decode prog_26_method_12_code 5 = .ok (.lcmp, 1) := by decide +kernel
theorem d10_6 : decode prog_26_method_12_code 6 = .ok (.ifCond .gt 14, 3) := by decide +kernel
theorem d10_20 : decode prog_26_method_12_code 20 = .ok (.iconst 1, 1) := by decide +kernel
theorem d10_21 : decode prog_26_method_12_code 21 = .ok (.goto 4, 3) := by decide +kernel
theorem d10_25 : decode prog_26_method_12_code 25 = .ok (.ireturn, 1) := by decide +kernel
theorem d10_9 : decode prog_26_method_12_code 9 = .ok (.aload_n 0, 1) := by decide +kernel
theorem d10_10 : decode prog_26_method_12_code 10 = .ok (.getfield 23, 3) := by decide +kernel
theorem d10_13 : decode prog_26_method_12_code 13 = .ok (.ldc2_w 32, 3) := by decide +kernel
theorem d10_16 : decode prog_26_method_12_code 16 = .ok (.lcmp, 1) := by decide +kernel
theorem d10_17 : decode prog_26_method_12_code 17 = .ok (.ifCond .eq 7, 3) := by decide +kernel
theorem d10_24 : decode prog_26_method_12_code 24 = .ok (.iconst 0, 1) := by decide +kernel
def Q10 (Z : State) (a1 : Addr) (q1 : Int64) (q2 : Int64) (h0 : Heap) (n0 : Nat) (v : Option Value) (h : Heap) (L : List Loc) : Prop := v = some (.int (b2i (decide ((0 : Int64) < q1 ∨ ¬ q2 = (9223372036854775807 : Int64))))) ∧ Fr n0 L ∧ h = h0
set_option maxRecDepth 65536 in
set_option maxHeartbeats 40000000 in
theorem rm10 (l : Launch) (Z : State) (a0 : Array Value) (hw : ∀ d ∈ tables_1, d.before a0 Z = true) (ws : List Jvm.Cond) (a1 : Addr) (q1 : Int64) (q2 : Int64) (h0 : Heap) (n0 : Nat) (Z0 : n0 ≤ h0.size) (F_s : Fld Z h0 a1 "com/example/tiroir/tiroir/Query" "skip" "J" (.long q1)) (F_l : Fld Z h0 a1 "com/example/tiroir/tiroir/Query" "limit" "J" (.long q2)) :
    OMet l Z (⟨"com/example/tiroir/tiroir/Query", "isPaged", "()Z"⟩ : MethodName) prog_26_method_12_code 1 (some .boolean) ws ({ frames := 0, cells := 0, slots := 0, locals := 0 } : Room) #[(.ref a1)] h0 (Q10 Z a1 q1 q2 h0 n0) := by
  refine own_body (plainFor_of_name pn_com_example_tiroir_tiroir_Query) ?_
  intro p e s m below meth c s₁ Bd hml0 hZ e0
  have hx := Bd.exec
  have hby := Bd.bytes
  have hml : c.maxLocals = 1 := hml0
  have hown : s.vm.findClass "com/example/tiroir/tiroir/Query" = some m.cls := findClass_of_methodNamed Bd.named
  have hnm := (name_of_methodNamed Bd.named Bd.method).1
  have X0 : Stand p l e ({ frames := 0, cells := 0, slots := 0, locals := 0 } : Room) s m #[(.ref a1)] below meth c s₁ [] 0 0 := Stand.of_body Bd
  have N0 := Fr.nil n0
  have K0 : Keep h0 h0 [] := Keep.refl _ _
  rw [ef_rm10]
  obtain ⟨T101, X101, e101, st101⟩ := getF X0 hx hZ hown (host := "") (Or.inl (hw _ (List.mem_of_getElem? (i := 24) rfl))) Via.refl e0 F_s (g := (mkF m 1 #[.val (.ref a1)] [(.ref a1)])) rfl rfl (hb hby d10_1)
  refine Gl.pre (S' := T101.setTop (mkF m 6 #[.val (.ref a1)] [(.int (lcmpW q1 (0 : Int64)))])) (fun t kt => ?_) ?_
  · show Steps p.tables e below (s₁.setTop (mkF m 0 #[.val (.ref a1)] [])) _
    refine XS.aloadN X0.here hx rfl (hb hby d10_0) rfl rfl ?_
    show Steps p.tables e below (s₁.setTop (mkF m 1 #[.val (.ref a1)] [(.ref a1)])) _
    refine st101 _ ?_
    show Steps p.tables e below (T101.setTop (mkF m 4 #[.val (.ref a1)] [(.long q1)])) _
    refine XS.lconst X101.here hx rfl (hb hby d10_4) ?_
    show Steps p.tables e below (T101.setTop (mkF m 5 #[.val (.ref a1)] [(.long (0 : Int64)), (.long q1)])) _
    refine XS.lcmp X101.here hx rfl (hb hby d10_5) rfl ?_
    exact kt
  by_cases hc6 : (0 : Int64) < q1
  · refine Gl.fin X101 (v := some (.int (1 : Int32))) (fun h => by rw [Bd.returns] at h; cases h) Bd.notSynchronized ?_ e101 (by decide) (by decide) (fun fs hr => ?_)
    · exact ⟨by simp [b2i, hc6], N0, rfl⟩
    · show Steps p.tables e below (T101.setTop (mkF m 6 #[.val (.ref a1)] [(.int (lcmpW q1 (0 : Int64)))])) _
      refine XS.ifYes X101.here hx rfl (pc0 := 6) (pc' := 20) rfl (hb hby d10_6) rfl (own_t (l0_gt _ _) hc6) (by decide) (by decide) ?_
      show Steps p.tables e below (T101.setTop (mkF m 20 #[.val (.ref a1)] [])) _
      refine XS.iconst X101.here hx rfl (hb hby d10_20) ?_
      show Steps p.tables e below (T101.setTop (mkF m 21 #[.val (.ref a1)] [(.int (1 : Int32))])) _
      refine XS.goto X101.here hx rfl (pc0 := 21) (pc' := 25) rfl (hb hby d10_21) (by decide) (by decide) ?_
      show Steps p.tables e below (T101.setTop (mkF m 25 #[.val (.ref a1)] [(.int (1 : Int32))])) _
      exact retN X101 hx (t := .boolean) Bd.returns (by simp) (hb hby d10_25) hr
  · obtain ⟨T102, X102, e102, st102⟩ := getF X101 hx hZ hown (host := "") (Or.inl (hw _ (List.mem_of_getElem? (i := 26) rfl))) Via.refl e101 F_l (g := (mkF m 10 #[.val (.ref a1)] [(.ref a1)])) rfl rfl (hb hby d10_10)
    refine Gl.pre (S' := T102.setTop (mkF m 17 #[.val (.ref a1)] [(.int (lcmpW q2 (9223372036854775807 : Int64)))])) (fun t kt => ?_) ?_
    · show Steps p.tables e below (T101.setTop (mkF m 6 #[.val (.ref a1)] [(.int (lcmpW q1 (0 : Int64)))])) _
      refine XS.ifNo X101.here hx rfl (hb hby d10_6) rfl (own_f (l0_gt _ _) hc6) ?_
      show Steps p.tables e below (T101.setTop (mkF m 9 #[.val (.ref a1)] [])) _
      refine XS.aloadN X101.here hx rfl (hb hby d10_9) rfl rfl ?_
      show Steps p.tables e below (T101.setTop (mkF m 10 #[.val (.ref a1)] [(.ref a1)])) _
      refine st102 _ ?_
      show Steps p.tables e below (T102.setTop (mkF m 13 #[.val (.ref a1)] [(.long q2)])) _
      refine X102.ldc2Long hx hown (mvT hZ (hw _ (List.mem_of_getElem? (i := 13) rfl))) (g := (mkF m 13 #[.val (.ref a1)] [(.long q2)])) rfl (hb hby d10_13) _ ?_
      show Steps p.tables e below (T102.setTop (mkF m 16 #[.val (.ref a1)] [(.long (9223372036854775807 : Int64)), (.long q2)])) _
      refine XS.lcmp X102.here hx rfl (hb hby d10_16) rfl ?_
      exact kt
    by_cases hc17 : q2 = (9223372036854775807 : Int64)
    · refine Gl.fin X102 (v := some (.int (0 : Int32))) (fun h => by rw [Bd.returns] at h; cases h) Bd.notSynchronized ?_ e102 (by decide) (by decide) (fun fs hr => ?_)
      · exact ⟨by simp [b2i, hc6, hc17], N0, rfl⟩
      · show Steps p.tables e below (T102.setTop (mkF m 17 #[.val (.ref a1)] [(.int (lcmpW q2 (9223372036854775807 : Int64)))])) _
        refine XS.ifYes X102.here hx rfl (pc0 := 17) (pc' := 24) rfl (hb hby d10_17) rfl (own_t (l0_eq _ _) hc17) (by decide) (by decide) ?_
        show Steps p.tables e below (T102.setTop (mkF m 24 #[.val (.ref a1)] [])) _
        refine XS.iconst X102.here hx rfl (hb hby d10_24) ?_
        show Steps p.tables e below (T102.setTop (mkF m 25 #[.val (.ref a1)] [(.int (0 : Int32))])) _
        exact retN X102 hx (t := .boolean) Bd.returns (by simp) (hb hby d10_25) hr
    · refine Gl.fin X102 (v := some (.int (1 : Int32))) (fun h => by rw [Bd.returns] at h; cases h) Bd.notSynchronized ?_ e102 (by decide) (by decide) (fun fs hr => ?_)
      · exact ⟨by simp [b2i, hc6, hc17], N0, rfl⟩
      · show Steps p.tables e below (T102.setTop (mkF m 17 #[.val (.ref a1)] [(.int (lcmpW q2 (9223372036854775807 : Int64)))])) _
        refine XS.ifNo X102.here hx rfl (hb hby d10_17) rfl (own_f (l0_eq _ _) hc17) ?_
        show Steps p.tables e below (T102.setTop (mkF m 20 #[.val (.ref a1)] [])) _
        refine XS.iconst X102.here hx rfl (hb hby d10_20) ?_
        show Steps p.tables e below (T102.setTop (mkF m 21 #[.val (.ref a1)] [(.int (1 : Int32))])) _
        refine XS.goto X102.here hx rfl (pc0 := 21) (pc' := 25) rfl (hb hby d10_21) (by decide) (by decide) ?_
        show Steps p.tables e below (T102.setTop (mkF m 25 #[.val (.ref a1)] [(.int (1 : Int32))])) _
        exact retN X102 hx (t := .boolean) Bd.returns (by simp) (hb hby d10_25) hr
theorem ef_rm11 (m : MethodId) (x0 : Addr) (x1 : Int64) : entryFrame m #[(.ref x0), (.long x1)] 3 = mkF m 0 #[.val (.ref x0), .val (.long x1), .second] [] := by first | (simp [entryFrame, mkF, argsToLocals, Value.category]; done) | rfl
theorem d11_0 : decode prog_26_method_5_code 0 = .ok (.lload_n 1, 1) := by decide +kernel
theorem d11_1 : decode prog_26_method_5_code 1 = .ok (.lconst 0, 1) := by decide +kernel
theorem d11_2 : decode prog_26_method_5_code 2 = .ok (.lcmp, 1) := by decide +kernel
theorem d11_3 : decode prog_26_method_5_code 3 = .ok (.ifCond .ge 17, 3) := by decide +kernel
theorem d11_20 : decode prog_26_method_5_code 20 = .ok (.new 10, 3) := by decide +kernel
theorem d11_23 : decode prog_26_method_5_code 23 = .ok (.dup, 1) := by decide +kernel
theorem d11_24 : decode prog_26_method_5_code 24 = .ok (.aload_n 0, 1) := by decide +kernel
theorem d11_25 : decode prog_26_method_5_code 25 = .ok (.getfield 9, 3) := by decide +kernel
theorem d11_28 : decode prog_26_method_5_code 28 = .ok (.aload_n 0, 1) := by decide +kernel
theorem d11_29 : decode prog_26_method_5_code 29 = .ok (.getfield 15, 3) := by decide +kernel
theorem d11_32 : decode prog_26_method_5_code 32 = .ok (.lload_n 1, 1) := by decide +kernel
theorem d11_33 : decode prog_26_method_5_code 33 = .ok (.aload_n 0, 1) := by decide +kernel
theorem d11_34 : decode prog_26_method_5_code 34 = .ok (.getfield 23, 3) := by decide +kernel
theorem d11_37 : decode prog_26_method_5_code 37 = .ok (.invokespecial 34, 3) := by decide +kernel
theorem d11_40 : decode prog_26_method_5_code 40 = .ok (.areturn, 1) := by decide +kernel
def Q11 (Z : State) (a1 : Addr) (q1 : Int64) (el : Addr) (q2 : Int64) (q3 : Int64) (h0 : Heap) (n0 : Nat) (v : Option Value) (h : Heap) (L : List Loc) : Prop := ∃ r : Addr, h0.size ≤ r ∧ v = some (.ref r) ∧ Fr n0 L ∧ Keep h0 h [] ∧ Exa Z h r "com/example/tiroir/tiroir/Query" ∧ Fld Z h r "com/example/tiroir/tiroir/Query" "predicate" "Lcom/example/tiroir/tiroir/Predicate;" .null ∧ Fld Z h r "com/example/tiroir/tiroir/Query" "orderings" "Ljava/util/List;" (.ref el) ∧ Fld Z h r "com/example/tiroir/tiroir/Query" "skip" "J" (.long q1) ∧ Fld Z h r "com/example/tiroir/tiroir/Query" "limit" "J" (.long q3)
set_option maxRecDepth 65536 in
set_option maxHeartbeats 40000000 in
theorem rm11 (l : Launch) (Z : State) (a0 : Array Value) (hw : ∀ d ∈ tables_1, d.before a0 Z = true) (ws : List Jvm.Cond) (a1 : Addr) (q1 : Int64) (el : Addr) (q2 : Int64) (q3 : Int64) (h0 : Heap) (n0 : Nat) (Z0 : n0 ≤ h0.size) (F_predicate : Fld Z h0 a1 "com/example/tiroir/tiroir/Query" "predicate" "Lcom/example/tiroir/tiroir/Predicate;" .null) (F_orderings : Fld Z h0 a1 "com/example/tiroir/tiroir/Query" "orderings" "Ljava/util/List;" (.ref el)) (F_skip : Fld Z h0 a1 "com/example/tiroir/tiroir/Query" "skip" "J" (.long q2)) (F_limit : Fld Z h0 a1 "com/example/tiroir/tiroir/Query" "limit" "J" (.long q3)) (hge : ¬ q1 < (0 : Int64)) :
    OMet l Z (⟨"com/example/tiroir/tiroir/Query", "skip", "(J)Lcom/example/tiroir/tiroir/Query;"⟩ : MethodName) prog_26_method_5_code 3 (some (.object "com/example/tiroir/tiroir/Query")) ws ({ frames := 2, cells := 1, slots := 4, locals := 31 } : Room) #[(.ref a1), (.long q1)] h0 (Q11 Z a1 q1 el q2 q3 h0 n0) := by
  refine own_body (plainFor_of_name pn_com_example_tiroir_tiroir_Query) ?_
  intro p e s m below meth c s₁ Bd hml0 hZ e0
  have hx := Bd.exec
  have hby := Bd.bytes
  have hml : c.maxLocals = 3 := hml0
  have hown : s.vm.findClass "com/example/tiroir/tiroir/Query" = some m.cls := findClass_of_methodNamed Bd.named
  have hnm := (name_of_methodNamed Bd.named Bd.method).1
  have X0 : Stand p l e ({ frames := 2, cells := 1, slots := 4, locals := 31 } : Room) s m #[(.ref a1), (.long q1)] below meth c s₁ [] 0 0 := Stand.of_body Bd
  have N0 := Fr.nil n0
  have K0 : Keep h0 h0 [] := Keep.refl _ _
  rw [ef_rm11]
  obtain ⟨T101, h101, X101, e101, E101, A101, D101, -, st101⟩ := newO X0 hx hZ hown (hw _ (List.mem_of_getElem? (i := 5) rfl)) (hw _ (List.mem_of_getElem? (i := 6) rfl)) (hw _ (List.mem_of_getElem? (i := 3) rfl)) e0 (g := (mkF m 20 #[.val (.ref a1), .val (.long q1), .second] [])) rfl (hb hby d11_20) (by decide) (by decide)
  obtain ⟨b101, g101⟩ : ∃ z, z = h0.size := ⟨_, rfl⟩
  have g_b101 : n0 ≤ b101 := Nat.le_trans Z0 (Nat.le_of_eq g101.symm)
  have sz_b101 : h0.size ≤ b101 := Nat.le_trans K0.1 (Nat.le_of_eq g101.symm)
  rw [← g101] at A101 D101 st101
  have K101 : Keep h0 h101 [] := K0.ext E101
  have F_predicate_b101 : Fld Z h101 b101 "com/example/tiroir/tiroir/Query" "predicate" "Lcom/example/tiroir/tiroir/Predicate;" .null := D101 (Or.inr (hw _ (List.mem_of_getElem? (i := 21) rfl))) (ty := (.object "com/example/tiroir/tiroir/Predicate")) (by decide)
  have F_orderings_b101 : Fld Z h101 b101 "com/example/tiroir/tiroir/Query" "orderings" "Ljava/util/List;" .null := D101 (Or.inr (hw _ (List.mem_of_getElem? (i := 23) rfl))) (ty := (.object "java/util/List")) (by decide)
  have F_skip_b101 : Fld Z h101 b101 "com/example/tiroir/tiroir/Query" "skip" "J" (.long (0 : Int64)) := D101 (Or.inr (hw _ (List.mem_of_getElem? (i := 25) rfl))) (ty := .long) (by decide)
  have F_limit_b101 : Fld Z h101 b101 "com/example/tiroir/tiroir/Query" "limit" "J" (.long (0 : Int64)) := D101 (Or.inr (hw _ (List.mem_of_getElem? (i := 27) rfl))) (ty := .long) (by decide)
  have f102 := (F_predicate.ext E101)
  obtain ⟨T103, X103, e103, st103⟩ := getF X101 hx hZ hown (host := "") (Or.inl (hw _ (List.mem_of_getElem? (i := 20) rfl))) Via.refl e101 f102 (g := (mkF m 25 #[.val (.ref a1), .val (.long q1), .second] [(.ref a1), (.ref b101), (.ref b101)])) rfl rfl (hb hby d11_25)
  have f104 := (F_orderings.ext E101)
  obtain ⟨T105, X105, e105, st105⟩ := getF X103 hx hZ hown (host := "") (Or.inl (hw _ (List.mem_of_getElem? (i := 22) rfl))) Via.refl e103 f104 (g := (mkF m 29 #[.val (.ref a1), .val (.long q1), .second] [(.ref a1), .null, (.ref b101), (.ref b101)])) rfl rfl (hb hby d11_29)
  have f106 := (F_limit.ext E101)
  obtain ⟨T107, X107, e107, st107⟩ := getF X105 hx hZ hown (host := "") (Or.inl (hw _ (List.mem_of_getElem? (i := 26) rfl))) Via.refl e105 f106 (g := (mkF m 34 #[.val (.ref a1), .val (.long q1), .second] [(.ref a1), (.long q1), (.ref el), .null, (.ref b101), (.ref b101)])) rfl rfl (hb hby d11_34)
  have z109 : n0 ≤ h101.size := (Nat.le_trans Z0 E101.1)
  obtain ⟨v108, T108, L108, X108, q108, st108⟩ := own_callI X107 hx hZ (y := (⟨"com/example/tiroir/tiroir/Query", "<init>", "(Lcom/example/tiroir/tiroir/Predicate;Ljava/util/List;JJ)V"⟩ : MethodName)) rfl hown (hw _ (List.mem_of_getElem? (i := 14) rfl)) (hw _ (List.mem_of_getElem? (i := 15) rfl)) (hw _ (List.mem_of_getElem? (i := 3) rfl)) (hw _ (List.mem_of_getElem? (i := 16) rfl)) (by decide) (a := b101) (hM := (rm3 l Z a0 hw [] b101 el q1 q3 h101 n0 z109 g_b101 A101 F_predicate_b101 F_orderings_b101 F_skip_b101 F_limit_b101)) (by decide) (by decide) (by decide) (by decide) e107 (argsL := [.null, (.ref el), (.long q1), (.long q3)]) (rest := [(.ref b101)]) (Ls := #[.val (.ref a1), .val (.long q1), .second]) (by rw [hml]; rfl) (lenOf pd__Lcom_example_tiroir_tiroir_Predicate_Ljava_util_List_JJ_V rfl) (W := 1) (Nat.le_of_eq rfl) (hb hby d11_37)
  obtain ⟨rfl, N108q, K108q, E108q, P108q, O108q, S108q, L108q⟩ := q108
  have N108 := Fr.app N0 N108q
  have K108 : Keep h0 T108.heap [] := K101.trans K108q (allS (Or.inr sz_b101) all0)
  refine Gl.fin X108 (v := some (.ref b101)) (fun h => by rw [Bd.returns] at h; cases h) Bd.notSynchronized ?_ rfl (by decide) (by decide) (fun fs hr => ?_)
  · exact ⟨_, sz_b101, rfl, N108, K108, E108q, P108q, O108q, S108q, L108q⟩
  · show Steps p.tables e below (s₁.setTop (mkF m 0 #[.val (.ref a1), .val (.long q1), .second] [])) _
    refine XS.lloadN X0.here hx rfl (hb hby d11_0) rfl ?_
    show Steps p.tables e below (s₁.setTop (mkF m 1 #[.val (.ref a1), .val (.long q1), .second] [(.long q1)])) _
    refine XS.lconst X0.here hx rfl (hb hby d11_1) ?_
    show Steps p.tables e below (s₁.setTop (mkF m 2 #[.val (.ref a1), .val (.long q1), .second] [(.long (0 : Int64)), (.long q1)])) _
    refine XS.lcmp X0.here hx rfl (hb hby d11_2) rfl ?_
    show Steps p.tables e below (s₁.setTop (mkF m 3 #[.val (.ref a1), .val (.long q1), .second] [(.int (lcmpW q1 (0 : Int64)))])) _
    refine XS.ifYes X0.here hx rfl (pc0 := 3) (pc' := 20) rfl (hb hby d11_3) rfl (own_nt (l0_ge _ _) hge) (by decide) (by decide) ?_
    show Steps p.tables e below (s₁.setTop (mkF m 20 #[.val (.ref a1), .val (.long q1), .second] [])) _
    refine st101 _ ?_
    show Steps p.tables e below (T101.setTop (mkF m 23 #[.val (.ref a1), .val (.long q1), .second] [(.ref b101)])) _
    refine XS.dup X101.here hx rfl (hb hby d11_23) rfl rfl ?_
    show Steps p.tables e below (T101.setTop (mkF m 24 #[.val (.ref a1), .val (.long q1), .second] [(.ref b101), (.ref b101)])) _
    refine XS.aloadN X101.here hx rfl (hb hby d11_24) rfl rfl ?_
    show Steps p.tables e below (T101.setTop (mkF m 25 #[.val (.ref a1), .val (.long q1), .second] [(.ref a1), (.ref b101), (.ref b101)])) _
    refine st103 _ ?_
    show Steps p.tables e below (T103.setTop (mkF m 28 #[.val (.ref a1), .val (.long q1), .second] [.null, (.ref b101), (.ref b101)])) _
    refine XS.aloadN X103.here hx rfl (hb hby d11_28) rfl rfl ?_
    show Steps p.tables e below (T103.setTop (mkF m 29 #[.val (.ref a1), .val (.long q1), .second] [(.ref a1), .null, (.ref b101), (.ref b101)])) _
    refine st105 _ ?_
    show Steps p.tables e below (T105.setTop (mkF m 32 #[.val (.ref a1), .val (.long q1), .second] [(.ref el), .null, (.ref b101), (.ref b101)])) _
    refine XS.lloadN X105.here hx rfl (hb hby d11_32) rfl ?_
    show Steps p.tables e below (T105.setTop (mkF m 33 #[.val (.ref a1), .val (.long q1), .second] [(.long q1), (.ref el), .null, (.ref b101), (.ref b101)])) _
    refine XS.aloadN X105.here hx rfl (hb hby d11_33) rfl rfl ?_
    show Steps p.tables e below (T105.setTop (mkF m 34 #[.val (.ref a1), .val (.long q1), .second] [(.ref a1), (.long q1), (.ref el), .null, (.ref b101), (.ref b101)])) _
    refine st107 _ ?_
    show Steps p.tables e below (T107.setTop (mkF m 37 #[.val (.ref a1), .val (.long q1), .second] [(.long q3), (.long q1), (.ref el), .null, (.ref b101), (.ref b101)])) _
    refine st108 _ ?_
    show Steps p.tables e below (T108.setTop (mkF m 40 #[.val (.ref a1), .val (.long q1), .second] [(.ref b101)])) _
    exact own_retR X108 hx Bd.returns rfl rfl rfl (hb hby d11_40) hr
theorem ef_rm12 (m : MethodId) (x0 : Addr) (x1 : Int64) : entryFrame m #[(.ref x0), (.long x1)] 3 = mkF m 0 #[.val (.ref x0), .val (.long x1), .second] [] := by first | (simp [entryFrame, mkF, argsToLocals, Value.category]; done) | rfl
theorem d12_0 : decode prog_26_method_6_code 0 = .ok (.lload_n 1, 1) := by decide +kernel
theorem d12_1 : decode prog_26_method_6_code 1 = .ok (.lconst 0, 1) := by decide +kernel
theorem d12_2 : decode prog_26_method_6_code 2 = .ok (.lcmp, 1) := by decide +kernel
theorem d12_3 : decode prog_26_method_6_code 3 = .ok (.ifCond .ge 17, 3) := by decide +kernel
theorem d12_20 : decode prog_26_method_6_code 20 = .ok (.new 10, 3) := by decide +kernel
theorem d12_23 : decode prog_26_method_6_code 23 = .ok (.dup, 1) := by decide +kernel
theorem d12_24 : decode prog_26_method_6_code 24 = .ok (.aload_n 0, 1) := by decide +kernel
theorem d12_25 : decode prog_26_method_6_code 25 = .ok (.getfield 9, 3) := by decide +kernel
theorem d12_28 : decode prog_26_method_6_code 28 = .ok (.aload_n 0, 1) := by decide +kernel
theorem d12_29 : decode prog_26_method_6_code 29 = .ok (.getfield 15, 3) := by decide +kernel
theorem d12_32 : decode prog_26_method_6_code 32 = .ok (.aload_n 0, 1) := by decide +kernel
theorem d12_33 : decode prog_26_method_6_code 33 = .ok (.getfield 19, 3) := by decide +kernel
theorem d12_36 : decode prog_26_method_6_code 36 = .ok (.lload_n 1, 1) := by decide +kernel
theorem d12_37 : decode prog_26_method_6_code 37 = .ok (.invokespecial 34, 3) := by decide +kernel
theorem d12_40 : decode prog_26_method_6_code 40 = .ok (.areturn, 1) := by decide +kernel
def Q12 (Z : State) (a1 : Addr) (q1 : Int64) (el : Addr) (q2 : Int64) (q3 : Int64) (h0 : Heap) (n0 : Nat) (v : Option Value) (h : Heap) (L : List Loc) : Prop := ∃ r : Addr, h0.size ≤ r ∧ v = some (.ref r) ∧ Fr n0 L ∧ Keep h0 h [] ∧ Exa Z h r "com/example/tiroir/tiroir/Query" ∧ Fld Z h r "com/example/tiroir/tiroir/Query" "predicate" "Lcom/example/tiroir/tiroir/Predicate;" .null ∧ Fld Z h r "com/example/tiroir/tiroir/Query" "orderings" "Ljava/util/List;" (.ref el) ∧ Fld Z h r "com/example/tiroir/tiroir/Query" "skip" "J" (.long q2) ∧ Fld Z h r "com/example/tiroir/tiroir/Query" "limit" "J" (.long q1)
set_option maxRecDepth 65536 in
set_option maxHeartbeats 40000000 in
theorem rm12 (l : Launch) (Z : State) (a0 : Array Value) (hw : ∀ d ∈ tables_1, d.before a0 Z = true) (ws : List Jvm.Cond) (a1 : Addr) (q1 : Int64) (el : Addr) (q2 : Int64) (q3 : Int64) (h0 : Heap) (n0 : Nat) (Z0 : n0 ≤ h0.size) (F_predicate : Fld Z h0 a1 "com/example/tiroir/tiroir/Query" "predicate" "Lcom/example/tiroir/tiroir/Predicate;" .null) (F_orderings : Fld Z h0 a1 "com/example/tiroir/tiroir/Query" "orderings" "Ljava/util/List;" (.ref el)) (F_skip : Fld Z h0 a1 "com/example/tiroir/tiroir/Query" "skip" "J" (.long q2)) (F_limit : Fld Z h0 a1 "com/example/tiroir/tiroir/Query" "limit" "J" (.long q3)) (hge : ¬ q1 < (0 : Int64)) :
    OMet l Z (⟨"com/example/tiroir/tiroir/Query", "limit", "(J)Lcom/example/tiroir/tiroir/Query;"⟩ : MethodName) prog_26_method_6_code 3 (some (.object "com/example/tiroir/tiroir/Query")) ws ({ frames := 2, cells := 1, slots := 4, locals := 31 } : Room) #[(.ref a1), (.long q1)] h0 (Q12 Z a1 q1 el q2 q3 h0 n0) := by
  refine own_body (plainFor_of_name pn_com_example_tiroir_tiroir_Query) ?_
  intro p e s m below meth c s₁ Bd hml0 hZ e0
  have hx := Bd.exec
  have hby := Bd.bytes
  have hml : c.maxLocals = 3 := hml0
  have hown : s.vm.findClass "com/example/tiroir/tiroir/Query" = some m.cls := findClass_of_methodNamed Bd.named
  have hnm := (name_of_methodNamed Bd.named Bd.method).1
  have X0 : Stand p l e ({ frames := 2, cells := 1, slots := 4, locals := 31 } : Room) s m #[(.ref a1), (.long q1)] below meth c s₁ [] 0 0 := Stand.of_body Bd
  have N0 := Fr.nil n0
  have K0 : Keep h0 h0 [] := Keep.refl _ _
  rw [ef_rm12]
  obtain ⟨T101, h101, X101, e101, E101, A101, D101, -, st101⟩ := newO X0 hx hZ hown (hw _ (List.mem_of_getElem? (i := 5) rfl)) (hw _ (List.mem_of_getElem? (i := 6) rfl)) (hw _ (List.mem_of_getElem? (i := 3) rfl)) e0 (g := (mkF m 20 #[.val (.ref a1), .val (.long q1), .second] [])) rfl (hb hby d12_20) (by decide) (by decide)
  obtain ⟨b101, g101⟩ : ∃ z, z = h0.size := ⟨_, rfl⟩
  have g_b101 : n0 ≤ b101 := Nat.le_trans Z0 (Nat.le_of_eq g101.symm)
  have sz_b101 : h0.size ≤ b101 := Nat.le_trans K0.1 (Nat.le_of_eq g101.symm)
  rw [← g101] at A101 D101 st101
  have K101 : Keep h0 h101 [] := K0.ext E101
  have F_predicate_b101 : Fld Z h101 b101 "com/example/tiroir/tiroir/Query" "predicate" "Lcom/example/tiroir/tiroir/Predicate;" .null := D101 (Or.inr (hw _ (List.mem_of_getElem? (i := 21) rfl))) (ty := (.object "com/example/tiroir/tiroir/Predicate")) (by decide)
  have F_orderings_b101 : Fld Z h101 b101 "com/example/tiroir/tiroir/Query" "orderings" "Ljava/util/List;" .null := D101 (Or.inr (hw _ (List.mem_of_getElem? (i := 23) rfl))) (ty := (.object "java/util/List")) (by decide)
  have F_skip_b101 : Fld Z h101 b101 "com/example/tiroir/tiroir/Query" "skip" "J" (.long (0 : Int64)) := D101 (Or.inr (hw _ (List.mem_of_getElem? (i := 25) rfl))) (ty := .long) (by decide)
  have F_limit_b101 : Fld Z h101 b101 "com/example/tiroir/tiroir/Query" "limit" "J" (.long (0 : Int64)) := D101 (Or.inr (hw _ (List.mem_of_getElem? (i := 27) rfl))) (ty := .long) (by decide)
  have f102 := (F_predicate.ext E101)
  obtain ⟨T103, X103, e103, st103⟩ := getF X101 hx hZ hown (host := "") (Or.inl (hw _ (List.mem_of_getElem? (i := 20) rfl))) Via.refl e101 f102 (g := (mkF m 25 #[.val (.ref a1), .val (.long q1), .second] [(.ref a1), (.ref b101), (.ref b101)])) rfl rfl (hb hby d12_25)
  have f104 := (F_orderings.ext E101)
  obtain ⟨T105, X105, e105, st105⟩ := getF X103 hx hZ hown (host := "") (Or.inl (hw _ (List.mem_of_getElem? (i := 22) rfl))) Via.refl e103 f104 (g := (mkF m 29 #[.val (.ref a1), .val (.long q1), .second] [(.ref a1), .null, (.ref b101), (.ref b101)])) rfl rfl (hb hby d12_29)
  have f106 := (F_skip.ext E101)
  obtain ⟨T107, X107, e107, st107⟩ := getF X105 hx hZ hown (host := "") (Or.inl (hw _ (List.mem_of_getElem? (i := 24) rfl))) Via.refl e105 f106 (g := (mkF m 33 #[.val (.ref a1), .val (.long q1), .second] [(.ref a1), (.ref el), .null, (.ref b101), (.ref b101)])) rfl rfl (hb hby d12_33)
  have z109 : n0 ≤ h101.size := (Nat.le_trans Z0 E101.1)
  obtain ⟨v108, T108, L108, X108, q108, st108⟩ := own_callI X107 hx hZ (y := (⟨"com/example/tiroir/tiroir/Query", "<init>", "(Lcom/example/tiroir/tiroir/Predicate;Ljava/util/List;JJ)V"⟩ : MethodName)) rfl hown (hw _ (List.mem_of_getElem? (i := 14) rfl)) (hw _ (List.mem_of_getElem? (i := 15) rfl)) (hw _ (List.mem_of_getElem? (i := 3) rfl)) (hw _ (List.mem_of_getElem? (i := 16) rfl)) (by decide) (a := b101) (hM := (rm3 l Z a0 hw [] b101 el q2 q1 h101 n0 z109 g_b101 A101 F_predicate_b101 F_orderings_b101 F_skip_b101 F_limit_b101)) (by decide) (by decide) (by decide) (by decide) e107 (argsL := [.null, (.ref el), (.long q2), (.long q1)]) (rest := [(.ref b101)]) (Ls := #[.val (.ref a1), .val (.long q1), .second]) (by rw [hml]; rfl) (lenOf pd__Lcom_example_tiroir_tiroir_Predicate_Ljava_util_List_JJ_V rfl) (W := 1) (Nat.le_of_eq rfl) (hb hby d12_37)
  obtain ⟨rfl, N108q, K108q, E108q, P108q, O108q, S108q, L108q⟩ := q108
  have N108 := Fr.app N0 N108q
  have K108 : Keep h0 T108.heap [] := K101.trans K108q (allS (Or.inr sz_b101) all0)
  refine Gl.fin X108 (v := some (.ref b101)) (fun h => by rw [Bd.returns] at h; cases h) Bd.notSynchronized ?_ rfl (by decide) (by decide) (fun fs hr => ?_)
  · exact ⟨_, sz_b101, rfl, N108, K108, E108q, P108q, O108q, S108q, L108q⟩
  · show Steps p.tables e below (s₁.setTop (mkF m 0 #[.val (.ref a1), .val (.long q1), .second] [])) _
    refine XS.lloadN X0.here hx rfl (hb hby d12_0) rfl ?_
    show Steps p.tables e below (s₁.setTop (mkF m 1 #[.val (.ref a1), .val (.long q1), .second] [(.long q1)])) _
    refine XS.lconst X0.here hx rfl (hb hby d12_1) ?_
    show Steps p.tables e below (s₁.setTop (mkF m 2 #[.val (.ref a1), .val (.long q1), .second] [(.long (0 : Int64)), (.long q1)])) _
    refine XS.lcmp X0.here hx rfl (hb hby d12_2) rfl ?_
    show Steps p.tables e below (s₁.setTop (mkF m 3 #[.val (.ref a1), .val (.long q1), .second] [(.int (lcmpW q1 (0 : Int64)))])) _
    refine XS.ifYes X0.here hx rfl (pc0 := 3) (pc' := 20) rfl (hb hby d12_3) rfl (own_nt (l0_ge _ _) hge) (by decide) (by decide) ?_
    show Steps p.tables e below (s₁.setTop (mkF m 20 #[.val (.ref a1), .val (.long q1), .second] [])) _
    refine st101 _ ?_
    show Steps p.tables e below (T101.setTop (mkF m 23 #[.val (.ref a1), .val (.long q1), .second] [(.ref b101)])) _
    refine XS.dup X101.here hx rfl (hb hby d12_23) rfl rfl ?_
    show Steps p.tables e below (T101.setTop (mkF m 24 #[.val (.ref a1), .val (.long q1), .second] [(.ref b101), (.ref b101)])) _
    refine XS.aloadN X101.here hx rfl (hb hby d12_24) rfl rfl ?_
    show Steps p.tables e below (T101.setTop (mkF m 25 #[.val (.ref a1), .val (.long q1), .second] [(.ref a1), (.ref b101), (.ref b101)])) _
    refine st103 _ ?_
    show Steps p.tables e below (T103.setTop (mkF m 28 #[.val (.ref a1), .val (.long q1), .second] [.null, (.ref b101), (.ref b101)])) _
    refine XS.aloadN X103.here hx rfl (hb hby d12_28) rfl rfl ?_
    show Steps p.tables e below (T103.setTop (mkF m 29 #[.val (.ref a1), .val (.long q1), .second] [(.ref a1), .null, (.ref b101), (.ref b101)])) _
    refine st105 _ ?_
    show Steps p.tables e below (T105.setTop (mkF m 32 #[.val (.ref a1), .val (.long q1), .second] [(.ref el), .null, (.ref b101), (.ref b101)])) _
    refine XS.aloadN X105.here hx rfl (hb hby d12_32) rfl rfl ?_
    show Steps p.tables e below (T105.setTop (mkF m 33 #[.val (.ref a1), .val (.long q1), .second] [(.ref a1), (.ref el), .null, (.ref b101), (.ref b101)])) _
    refine st107 _ ?_
    show Steps p.tables e below (T107.setTop (mkF m 36 #[.val (.ref a1), .val (.long q1), .second] [(.long q2), (.ref el), .null, (.ref b101), (.ref b101)])) _
    refine XS.lloadN X107.here hx rfl (hb hby d12_36) rfl ?_
    show Steps p.tables e below (T107.setTop (mkF m 37 #[.val (.ref a1), .val (.long q1), .second] [(.long q1), (.long q2), (.ref el), .null, (.ref b101), (.ref b101)])) _
    refine st108 _ ?_
    show Steps p.tables e below (T108.setTop (mkF m 40 #[.val (.ref a1), .val (.long q1), .second] [(.ref b101)])) _
    exact own_retR X108 hx Bd.returns rfl rfl rfl (hb hby d12_40) hr
theorem pn_com_example_tiroir_tiroir_QueryAllPinLaw : plainName "com/example/tiroir/tiroir/QueryAllPinLaw" = true := by first | (simp [plainName, overriddenIn]; done) | decide +kernel
theorem ef_rm0 (m : MethodId) (x0 : Int64) (x1 : Int64) : entryFrame m #[(.long x0), (.long x1)] maxLocals = mkF m 0 #[.val (.long x0), .second, .val (.long x1), .second, .unset, .unset, .unset, .unset, .unset, .unset, .unset, .unset, .unset, .unset] [] := by first | (simp [entryFrame, mkF, argsToLocals, Value.category, maxLocals]; done) | rfl
theorem pd___Lcom_example_tiroir_tiroir_Query_ : parseMethodDescriptor "()Lcom/example/tiroir/tiroir/Query;" = some ⟨[], some (.object "com/example/tiroir/tiroir/Query")⟩ := by decide +kernel
theorem pd___Lcom_example_tiroir_tiroir_Predicate_ : parseMethodDescriptor "()Lcom/example/tiroir/tiroir/Predicate;" = some ⟨[], some (.object "com/example/tiroir/tiroir/Predicate")⟩ := by decide +kernel
theorem pd___I : parseMethodDescriptor "()I" = some ⟨[], some .int⟩ := by decide +kernel
theorem pd___J : parseMethodDescriptor "()J" = some ⟨[], some .long⟩ := by decide +kernel
theorem pd___Z : parseMethodDescriptor "()Z" = some ⟨[], some .boolean⟩ := by decide +kernel
theorem pd__J_Lcom_example_tiroir_tiroir_Query_ : parseMethodDescriptor "(J)Lcom/example/tiroir/tiroir/Query;" = some ⟨[.long], some (.object "com/example/tiroir/tiroir/Query")⟩ := by decide +kernel
def Q0 (Z : State) (q0 : Int64) (q2 : Int64) (el : Addr) (ea : Addr) (ek : ClassId) (h0 : Heap) (n0 : Nat) (v : Option Value) (h : Heap) (L : List Loc) : Prop := v = some (.int 1) ∧ Fr n0 L
set_option maxRecDepth 65536 in
set_option maxHeartbeats 40000000 in
theorem rm0 (l : Launch) (Z : State) (a0 : Array Value) (hw : ∀ d ∈ tables_1, d.before a0 Z = true) (ws : List Jvm.Cond) (q0 : Int64) (q2 : Int64) (el : Addr) (ea : Addr) (ek : ClassId) (h0 : Heap) (n0 : Nat) (Z0 : n0 ≤ h0.size) (S_e : Sta Z h0 "java/util/ImmutableCollections" "EMPTY_LIST" "Ljava/util/ImmutableCollections$ListN;" (.ref el)) (E_e : Exa Z h0 el "java/util/ImmutableCollections$ListN") (F_l : Fld Z h0 el "java/util/ImmutableCollections$ListN" "elements" "[Ljava/lang/Object;" (.ref ea)) (V_l : Arv Z h0 ea ek (.object "java/lang/Object") (0 : Int32) [] .null) :
    OMet l Z x code maxLocals ret ws room_1 #[(.long q0), (.long q2)] h0 (Q0 Z q0 q2 el ea ek h0 n0) := by
  refine own_body (plainFor_of_name pn_com_example_tiroir_tiroir_QueryAllPinLaw) ?_
  intro p e s m below meth c s₁ Bd hml0 hZ e0
  have hx := Bd.exec
  have hby := Bd.bytes
  have hml : c.maxLocals = 14 := hml0
  have hown : s.vm.findClass "com/example/tiroir/tiroir/QueryAllPinLaw" = some m.cls := findClass_of_methodNamed Bd.named
  have hnm := (name_of_methodNamed Bd.named Bd.method).1
  have X0 : Stand p l e room_1 s m #[(.long q0), (.long q2)] below meth c s₁ [] 0 0 := Stand.of_body Bd
  have N0 := Fr.nil n0
  have K0 : Keep h0 h0 [] := Keep.refl _ _
  rw [ef_rm0]
  refine Gl.pre (S' := s₁.setTop (mkF m 7 #[.val (.long q0), .second, .val (.long q2), .second, .val (.long (q0 &&& (9223372036854775807 : Int64))), .second, .unset, .unset, .unset, .unset, .unset, .unset, .unset, .unset] [])) (fun t kt => ?_) ?_
  · show Steps p.tables e below (s₁.setTop (mkF m 0 #[.val (.long q0), .second, .val (.long q2), .second, .unset, .unset, .unset, .unset, .unset, .unset, .unset, .unset, .unset, .unset] [])) _
    refine XS.lloadN X0.here hx rfl (hb hby at_0) rfl ?_
    show Steps p.tables e below (s₁.setTop (mkF m 1 #[.val (.long q0), .second, .val (.long q2), .second, .unset, .unset, .unset, .unset, .unset, .unset, .unset, .unset, .unset, .unset] [(.long q0)])) _
    refine X0.ldc2Long hx hown (mvT hZ (hw _ (List.mem_of_getElem? (i := 0) rfl))) (g := (mkF m 1 #[.val (.long q0), .second, .val (.long q2), .second, .unset, .unset, .unset, .unset, .unset, .unset, .unset, .unset, .unset, .unset] [(.long q0)])) rfl (hb hby at_1) _ ?_
    show Steps p.tables e below (s₁.setTop (mkF m 4 #[.val (.long q0), .second, .val (.long q2), .second, .unset, .unset, .unset, .unset, .unset, .unset, .unset, .unset, .unset, .unset] [(.long (9223372036854775807 : Int64)), (.long q0)])) _
    refine XS.land X0.here hx rfl (hb hby at_4) rfl ?_
    show Steps p.tables e below (s₁.setTop (mkF m 5 #[.val (.long q0), .second, .val (.long q2), .second, .unset, .unset, .unset, .unset, .unset, .unset, .unset, .unset, .unset, .unset] [(.long (q0 &&& (9223372036854775807 : Int64)))])) _
    refine XS.lstore X0.here hx rfl (hb hby at_5) rfl (l' := #[.val (.long q0), .second, .val (.long q2), .second, .val (.long (q0 &&& (9223372036854775807 : Int64))), .second, .unset, .unset, .unset, .unset, .unset, .unset, .unset, .unset]) rfl ?_
    exact kt
  obtain ⟨sk, h_sk⟩ : ∃ z : Int64, z = (q0 &&& (9223372036854775807 : Int64)) := ⟨_, rfl⟩
  rw [← h_sk]
  have hg_sk : ¬ sk < (0 : Int64) := by rw [h_sk, Int64.lt_iff_toInt_lt]; have := own_and64_63 q0; exact Int.not_lt.mpr this
  refine Gl.pre (S' := s₁.setTop (mkF m 14 #[.val (.long q0), .second, .val (.long q2), .second, .val (.long sk), .second, .val (.long (q2 &&& (9223372036854775807 : Int64))), .second, .unset, .unset, .unset, .unset, .unset, .unset] [])) (fun t kt => ?_) ?_
  · show Steps p.tables e below (s₁.setTop (mkF m 7 #[.val (.long q0), .second, .val (.long q2), .second, .val (.long sk), .second, .unset, .unset, .unset, .unset, .unset, .unset, .unset, .unset] [])) _
    refine XS.lloadN X0.here hx rfl (hb hby at_7) rfl ?_
    show Steps p.tables e below (s₁.setTop (mkF m 8 #[.val (.long q0), .second, .val (.long q2), .second, .val (.long sk), .second, .unset, .unset, .unset, .unset, .unset, .unset, .unset, .unset] [(.long q2)])) _
    refine X0.ldc2Long hx hown (mvT hZ (hw _ (List.mem_of_getElem? (i := 0) rfl))) (g := (mkF m 8 #[.val (.long q0), .second, .val (.long q2), .second, .val (.long sk), .second, .unset, .unset, .unset, .unset, .unset, .unset, .unset, .unset] [(.long q2)])) rfl (hb hby at_8) _ ?_
    show Steps p.tables e below (s₁.setTop (mkF m 11 #[.val (.long q0), .second, .val (.long q2), .second, .val (.long sk), .second, .unset, .unset, .unset, .unset, .unset, .unset, .unset, .unset] [(.long (9223372036854775807 : Int64)), (.long q2)])) _
    refine XS.land X0.here hx rfl (hb hby at_11) rfl ?_
    show Steps p.tables e below (s₁.setTop (mkF m 12 #[.val (.long q0), .second, .val (.long q2), .second, .val (.long sk), .second, .unset, .unset, .unset, .unset, .unset, .unset, .unset, .unset] [(.long (q2 &&& (9223372036854775807 : Int64)))])) _
    refine XS.lstore X0.here hx rfl (hb hby at_12) rfl (l' := #[.val (.long q0), .second, .val (.long q2), .second, .val (.long sk), .second, .val (.long (q2 &&& (9223372036854775807 : Int64))), .second, .unset, .unset, .unset, .unset, .unset, .unset]) rfl ?_
    exact kt
  obtain ⟨lm, h_lm⟩ : ∃ z : Int64, z = (q2 &&& (9223372036854775807 : Int64)) := ⟨_, rfl⟩
  rw [← h_lm]
  have hg_lm : ¬ lm < (0 : Int64) := by rw [h_lm, Int64.lt_iff_toInt_lt]; have := own_and64_63 q2; exact Int.not_lt.mpr this
  obtain ⟨v101, T101, L101, X101, q101, st101⟩ := own_callS X0 hx hZ (y := (⟨"com/example/tiroir/tiroir/Query", "all", "()Lcom/example/tiroir/tiroir/Query;"⟩ : MethodName)) hown (hw _ (List.mem_of_getElem? (i := 1) rfl)) (hw _ (List.mem_of_getElem? (i := 2) rfl)) (hw _ (List.mem_of_getElem? (i := 3) rfl)) (hw _ (List.mem_of_getElem? (i := 4) rfl)) (by decide) (hM := (rm1 l Z a0 hw [] el h0 n0 Z0 S_e)) (by decide) (by decide) (by decide) (by decide) e0 (argsL := []) (rest := []) (Ls := #[.val (.long q0), .second, .val (.long q2), .second, .val (.long sk), .second, .val (.long lm), .second, .unset, .unset, .unset, .unset, .unset, .unset]) (by rw [hml]; rfl) (lenOf pd___Lcom_example_tiroir_tiroir_Query_ rfl) (W := 0) (Nat.le_of_eq rfl) (hb hby at_14)
  obtain ⟨r101, szq_r101, rfl, N101q, K101q, E101q, P101q, O101q, S101q, L101q⟩ := q101
  have N101 := Fr.app N0 N101q
  have K101 : Keep h0 T101.heap [] := K0.trans K101q all0
  have g_r101 : n0 ≤ r101 := Nat.le_trans Z0 szq_r101
  have sz_r101 : h0.size ≤ r101 := Nat.le_trans K0.1 szq_r101
  have z103 : n0 ≤ T101.heap.size := (Nat.le_trans Z0 K101q.1)
  obtain ⟨v102, T102, L102, X102, q102, st102⟩ := own_callV X101 hx hZ (y := (⟨"com/example/tiroir/tiroir/Query", "predicate", "()Lcom/example/tiroir/tiroir/Predicate;"⟩ : MethodName)) (z := (⟨"com/example/tiroir/tiroir/Query", "predicate", "()Lcom/example/tiroir/tiroir/Predicate;"⟩ : MethodName)) hown (hw _ (List.mem_of_getElem? (i := 28) rfl)) (hw _ (List.mem_of_getElem? (i := 29) rfl)) (notFace_of_selects (args := #[]) (mvT hZ (hw _ (List.mem_of_getElem? (i := 31) rfl)))) (hw _ (List.mem_of_getElem? (i := 31) rfl)) (hw _ (List.mem_of_getElem? (i := 30) rfl)) (hw _ (List.mem_of_getElem? (i := 3) rfl)) (hw _ (List.mem_of_getElem? (i := 32) rfl)) (by decide) E101q (hM := (rm5 l Z a0 hw [] r101 T101.heap n0 z103 P101q)) (by decide) (by decide) (by decide) (by decide) rfl (argsL := []) (rest := []) (Ls := #[.val (.long q0), .second, .val (.long q2), .second, .val (.long sk), .second, .val (.long lm), .second, .val (.ref r101), .unset, .unset, .unset, .unset, .unset]) (by rw [hml]; rfl) (lenOf pd___Lcom_example_tiroir_tiroir_Predicate_ rfl) (W := 0) (Nat.le_of_eq rfl) (hb hby at_21)
  obtain ⟨rfl, N102q, e102⟩ := q102
  have N102 := Fr.app N101 N102q
  obtain ⟨v104, T104, L104, X104, q104, st104⟩ := own_callV X102 hx hZ (y := (⟨"com/example/tiroir/tiroir/Query", "orderings", "()Ljava/util/List;"⟩ : MethodName)) (z := (⟨"com/example/tiroir/tiroir/Query", "orderings", "()Ljava/util/List;"⟩ : MethodName)) hown (hw _ (List.mem_of_getElem? (i := 33) rfl)) (hw _ (List.mem_of_getElem? (i := 34) rfl)) (notFace_of_selects (args := #[]) (mvT hZ (hw _ (List.mem_of_getElem? (i := 36) rfl)))) (hw _ (List.mem_of_getElem? (i := 36) rfl)) (hw _ (List.mem_of_getElem? (i := 35) rfl)) (hw _ (List.mem_of_getElem? (i := 3) rfl)) (hw _ (List.mem_of_getElem? (i := 37) rfl)) (by decide) E101q (hM := (rm6 l Z a0 hw [] r101 el T101.heap n0 z103 O101q)) (by decide) (by decide) (by decide) (by decide) e102 (argsL := []) (rest := []) (Ls := #[.val (.long q0), .second, .val (.long q2), .second, .val (.long sk), .second, .val (.long lm), .second, .val (.ref r101), .unset, .unset, .unset, .unset, .unset]) (by rw [hml]; rfl) (lenOf pd___Ljava_util_List_ rfl) (W := 0) (Nat.le_of_eq rfl) (hb hby at_29)
  obtain ⟨rfl, N104q, e104⟩ := q104
  have N104 := Fr.app N102 N104q
  have f106 := (F_l.keep K101q nin0)
  have f107 := (V_l.keep K101q nin0)
  have f108 := (E_e.keep K101q)
  obtain ⟨v105, T105, L105, X105, q105, st105⟩ := own_callF X104 hx hZ (y := (⟨"java/util/List", "size", "()I"⟩ : MethodName)) (z := (⟨"java/util/ImmutableCollections$ListN", "size", "()I"⟩ : MethodName)) hown (hw _ (List.mem_of_getElem? (i := 38) rfl)) (hw _ (List.mem_of_getElem? (i := 39) rfl)) (mvT hZ (hw _ (List.mem_of_getElem? (i := 40) rfl))) (hw _ (List.mem_of_getElem? (i := 41) rfl)) (hw _ (List.mem_of_getElem? (i := 42) rfl)) (hw _ (List.mem_of_getElem? (i := 43) rfl)) (hw _ (List.mem_of_getElem? (i := 44) rfl)) (hw _ (List.mem_of_getElem? (i := 45) rfl)) (hw _ (List.mem_of_getElem? (i := 46) rfl)) (hw _ (List.mem_of_getElem? (i := 47) rfl)) (by decide) f108 (hM := (rm7 l Z a0 hw [] el ea ek T101.heap n0 z103 f106 f107)) (by decide) (by decide) (by decide) (by decide) e104 (argsL := []) (rest := []) (Ls := #[.val (.long q0), .second, .val (.long q2), .second, .val (.long sk), .second, .val (.long lm), .second, .val (.ref r101), .unset, .unset, .unset, .unset, .unset]) (by rw [hml]; rfl) (lenOf pd___I rfl) (W := 0) (Nat.le_of_eq rfl) (hb hby at_32)
  obtain ⟨rfl, N105q, e105⟩ := q105
  have N105 := Fr.app N104 N105q
  obtain ⟨v109, T109, L109, X109, q109, st109⟩ := own_callV X105 hx hZ (y := (⟨"com/example/tiroir/tiroir/Query", "skipCount", "()J"⟩ : MethodName)) (z := (⟨"com/example/tiroir/tiroir/Query", "skipCount", "()J"⟩ : MethodName)) hown (hw _ (List.mem_of_getElem? (i := 50) rfl)) (hw _ (List.mem_of_getElem? (i := 51) rfl)) (notFace_of_selects (args := #[]) (mvT hZ (hw _ (List.mem_of_getElem? (i := 53) rfl)))) (hw _ (List.mem_of_getElem? (i := 53) rfl)) (hw _ (List.mem_of_getElem? (i := 52) rfl)) (hw _ (List.mem_of_getElem? (i := 3) rfl)) (hw _ (List.mem_of_getElem? (i := 54) rfl)) (by decide) E101q (hM := (rm8 l Z a0 hw [] r101 (0 : Int64) T101.heap n0 z103 S101q)) (by decide) (by decide) (by decide) (by decide) e105 (argsL := []) (rest := []) (Ls := #[.val (.long q0), .second, .val (.long q2), .second, .val (.long sk), .second, .val (.long lm), .second, .val (.ref r101), .unset, .unset, .unset, .unset, .unset]) (by rw [hml]; rfl) (lenOf pd___J rfl) (W := 0) (Nat.le_of_eq rfl) (hb hby at_42)
  obtain ⟨rfl, N109q, e109⟩ := q109
  have N109 := Fr.app N105 N109q
  obtain ⟨v110, T110, L110, X110, q110, st110⟩ := own_callV X109 hx hZ (y := (⟨"com/example/tiroir/tiroir/Query", "limitCount", "()J"⟩ : MethodName)) (z := (⟨"com/example/tiroir/tiroir/Query", "limitCount", "()J"⟩ : MethodName)) hown (hw _ (List.mem_of_getElem? (i := 55) rfl)) (hw _ (List.mem_of_getElem? (i := 56) rfl)) (notFace_of_selects (args := #[]) (mvT hZ (hw _ (List.mem_of_getElem? (i := 58) rfl)))) (hw _ (List.mem_of_getElem? (i := 58) rfl)) (hw _ (List.mem_of_getElem? (i := 57) rfl)) (hw _ (List.mem_of_getElem? (i := 3) rfl)) (hw _ (List.mem_of_getElem? (i := 59) rfl)) (by decide) E101q (hM := (rm9 l Z a0 hw [] r101 (9223372036854775807 : Int64) T101.heap n0 z103 L101q)) (by decide) (by decide) (by decide) (by decide) e109 (argsL := []) (rest := []) (Ls := #[.val (.long q0), .second, .val (.long q2), .second, .val (.long sk), .second, .val (.long lm), .second, .val (.ref r101), .unset, .unset, .unset, .unset, .unset]) (by rw [hml]; rfl) (lenOf pd___J rfl) (W := 0) (Nat.le_of_eq rfl) (hb hby at_52)
  obtain ⟨rfl, N110q, e110⟩ := q110
  have N110 := Fr.app N109 N110q
  obtain ⟨v111, T111, L111, X111, q111, st111⟩ := own_callV X110 hx hZ (y := (⟨"com/example/tiroir/tiroir/Query", "isPaged", "()Z"⟩ : MethodName)) (z := (⟨"com/example/tiroir/tiroir/Query", "isPaged", "()Z"⟩ : MethodName)) hown (hw _ (List.mem_of_getElem? (i := 60) rfl)) (hw _ (List.mem_of_getElem? (i := 61) rfl)) (notFace_of_selects (args := #[]) (mvT hZ (hw _ (List.mem_of_getElem? (i := 63) rfl)))) (hw _ (List.mem_of_getElem? (i := 63) rfl)) (hw _ (List.mem_of_getElem? (i := 62) rfl)) (hw _ (List.mem_of_getElem? (i := 3) rfl)) (hw _ (List.mem_of_getElem? (i := 64) rfl)) (by decide) E101q (hM := (rm10 l Z a0 hw [] r101 (0 : Int64) (9223372036854775807 : Int64) T101.heap n0 z103 S101q L101q)) (by decide) (by decide) (by decide) (by decide) e110 (argsL := []) (rest := []) (Ls := #[.val (.long q0), .second, .val (.long q2), .second, .val (.long sk), .second, .val (.long lm), .second, .val (.ref r101), .unset, .unset, .unset, .unset, .unset]) (by rw [hml]; rfl) (lenOf pd___Z rfl) (W := 0) (Nat.le_of_eq rfl) (hb hby at_64)
  obtain ⟨rfl, N111q, e111⟩ := q111
  have N111 := Fr.app N110 N111q
  obtain ⟨v112, T112, L112, X112, q112, st112⟩ := own_callV X111 hx hZ (y := (⟨"com/example/tiroir/tiroir/Query", "skip", "(J)Lcom/example/tiroir/tiroir/Query;"⟩ : MethodName)) (z := (⟨"com/example/tiroir/tiroir/Query", "skip", "(J)Lcom/example/tiroir/tiroir/Query;"⟩ : MethodName)) hown (hw _ (List.mem_of_getElem? (i := 65) rfl)) (hw _ (List.mem_of_getElem? (i := 66) rfl)) (notFace_of_selects (args := #[]) (mvT hZ (hw _ (List.mem_of_getElem? (i := 68) rfl)))) (hw _ (List.mem_of_getElem? (i := 68) rfl)) (hw _ (List.mem_of_getElem? (i := 67) rfl)) (hw _ (List.mem_of_getElem? (i := 3) rfl)) (hw _ (List.mem_of_getElem? (i := 69) rfl)) (by decide) E101q (hM := (rm11 l Z a0 hw [] r101 sk el (0 : Int64) (9223372036854775807 : Int64) T101.heap n0 z103 P101q O101q S101q L101q hg_sk)) (by decide) (by decide) (by decide) (by decide) e111 (argsL := [(.long sk)]) (rest := []) (Ls := #[.val (.long q0), .second, .val (.long q2), .second, .val (.long sk), .second, .val (.long lm), .second, .val (.ref r101), .val (.int (1 : Int32)), .unset, .unset, .unset, .unset]) (by rw [hml]; rfl) (lenOf pd__J_Lcom_example_tiroir_tiroir_Query_ rfl) (W := 0) (Nat.le_of_eq rfl) (hb hby at_81)
  obtain ⟨r112, szq_r112, rfl, N112q, K112q, E112q, P112q, O112q, S112q, L112q⟩ := q112
  have N112 := Fr.app N111 N112q
  have K112 : Keep h0 T112.heap [] := K101.trans K112q all0
  have g_r112 : n0 ≤ r112 := Nat.le_trans z103 szq_r112
  have sz_r112 : h0.size ≤ r112 := Nat.le_trans K101.1 szq_r112
  have z114 : n0 ≤ T112.heap.size := (Nat.le_trans z103 K112q.1)
  obtain ⟨v113, T113, L113, X113, q113, st113⟩ := own_callV X112 hx hZ (y := (⟨"com/example/tiroir/tiroir/Query", "limitCount", "()J"⟩ : MethodName)) (z := (⟨"com/example/tiroir/tiroir/Query", "limitCount", "()J"⟩ : MethodName)) hown (hw _ (List.mem_of_getElem? (i := 55) rfl)) (hw _ (List.mem_of_getElem? (i := 56) rfl)) (notFace_of_selects (args := #[]) (mvT hZ (hw _ (List.mem_of_getElem? (i := 58) rfl)))) (hw _ (List.mem_of_getElem? (i := 58) rfl)) (hw _ (List.mem_of_getElem? (i := 57) rfl)) (hw _ (List.mem_of_getElem? (i := 3) rfl)) (hw _ (List.mem_of_getElem? (i := 59) rfl)) (by decide) E112q (hM := (rm9 l Z a0 hw [] r112 (9223372036854775807 : Int64) T112.heap n0 z114 L112q)) (by decide) (by decide) (by decide) (by decide) rfl (argsL := []) (rest := []) (Ls := #[.val (.long q0), .second, .val (.long q2), .second, .val (.long sk), .second, .val (.long lm), .second, .val (.ref r101), .val (.int (1 : Int32)), .val (.ref r112), .unset, .unset, .unset]) (by rw [hml]; rfl) (lenOf pd___J rfl) (W := 0) (Nat.le_of_eq rfl) (hb hby at_88)
  obtain ⟨rfl, N113q, e113⟩ := q113
  have N113 := Fr.app N112 N113q
  refine Gl.pre (S' := T113.setTop (mkF m 91 #[.val (.long q0), .second, .val (.long q2), .second, .val (.long sk), .second, .val (.long lm), .second, .val (.ref r101), .val (.int (1 : Int32)), .val (.ref r112), .unset, .unset, .unset] [(.long (9223372036854775807 : Int64))])) (fun t kt => ?_) ?_
  · show Steps p.tables e below (s₁.setTop (mkF m 14 #[.val (.long q0), .second, .val (.long q2), .second, .val (.long sk), .second, .val (.long lm), .second, .unset, .unset, .unset, .unset, .unset, .unset] [])) _
    refine st101 _ ?_
    show Steps p.tables e below (T101.setTop (mkF m 17 #[.val (.long q0), .second, .val (.long q2), .second, .val (.long sk), .second, .val (.long lm), .second, .unset, .unset, .unset, .unset, .unset, .unset] [(.ref r101)])) _
    refine XS.astore X101.here hx rfl (hb hby at_17) rfl rfl (l' := #[.val (.long q0), .second, .val (.long q2), .second, .val (.long sk), .second, .val (.long lm), .second, .val (.ref r101), .unset, .unset, .unset, .unset, .unset]) rfl ?_
    show Steps p.tables e below (T101.setTop (mkF m 19 #[.val (.long q0), .second, .val (.long q2), .second, .val (.long sk), .second, .val (.long lm), .second, .val (.ref r101), .unset, .unset, .unset, .unset, .unset] [])) _
    refine XS.aload X101.here hx rfl (hb hby at_19) rfl rfl ?_
    show Steps p.tables e below (T101.setTop (mkF m 21 #[.val (.long q0), .second, .val (.long q2), .second, .val (.long sk), .second, .val (.long lm), .second, .val (.ref r101), .unset, .unset, .unset, .unset, .unset] [(.ref r101)])) _
    refine st102 _ ?_
    show Steps p.tables e below (T102.setTop (mkF m 24 #[.val (.long q0), .second, .val (.long q2), .second, .val (.long sk), .second, .val (.long lm), .second, .val (.ref r101), .unset, .unset, .unset, .unset, .unset] [.null])) _
    refine XS.ifnonnullNo X102.here hx rfl (hb hby at_24) rfl ?_
    show Steps p.tables e below (T102.setTop (mkF m 27 #[.val (.long q0), .second, .val (.long q2), .second, .val (.long sk), .second, .val (.long lm), .second, .val (.ref r101), .unset, .unset, .unset, .unset, .unset] [])) _
    refine XS.aload X102.here hx rfl (hb hby at_27) rfl rfl ?_
    show Steps p.tables e below (T102.setTop (mkF m 29 #[.val (.long q0), .second, .val (.long q2), .second, .val (.long sk), .second, .val (.long lm), .second, .val (.ref r101), .unset, .unset, .unset, .unset, .unset] [(.ref r101)])) _
    refine st104 _ ?_
    show Steps p.tables e below (T104.setTop (mkF m 32 #[.val (.long q0), .second, .val (.long q2), .second, .val (.long sk), .second, .val (.long lm), .second, .val (.ref r101), .unset, .unset, .unset, .unset, .unset] [(.ref el)])) _
    refine st105 _ ?_
    show Steps p.tables e below (T105.setTop (mkF m 37 #[.val (.long q0), .second, .val (.long q2), .second, .val (.long sk), .second, .val (.long lm), .second, .val (.ref r101), .unset, .unset, .unset, .unset, .unset] [(.int (0 : Int32))])) _
    refine XS.ifNo X105.here hx rfl (hb hby at_37) rfl (own_nf (i0_ne _) (by decide)) ?_
    show Steps p.tables e below (T105.setTop (mkF m 40 #[.val (.long q0), .second, .val (.long q2), .second, .val (.long sk), .second, .val (.long lm), .second, .val (.ref r101), .unset, .unset, .unset, .unset, .unset] [])) _
    refine XS.aload X105.here hx rfl (hb hby at_40) rfl rfl ?_
    show Steps p.tables e below (T105.setTop (mkF m 42 #[.val (.long q0), .second, .val (.long q2), .second, .val (.long sk), .second, .val (.long lm), .second, .val (.ref r101), .unset, .unset, .unset, .unset, .unset] [(.ref r101)])) _
    refine st109 _ ?_
    show Steps p.tables e below (T109.setTop (mkF m 45 #[.val (.long q0), .second, .val (.long q2), .second, .val (.long sk), .second, .val (.long lm), .second, .val (.ref r101), .unset, .unset, .unset, .unset, .unset] [(.long (0 : Int64))])) _
    refine XS.lconst X109.here hx rfl (hb hby at_45) ?_
    show Steps p.tables e below (T109.setTop (mkF m 46 #[.val (.long q0), .second, .val (.long q2), .second, .val (.long sk), .second, .val (.long lm), .second, .val (.ref r101), .unset, .unset, .unset, .unset, .unset] [(.long (0 : Int64)), (.long (0 : Int64))])) _
    refine XS.lcmp X109.here hx rfl (hb hby at_46) rfl ?_
    show Steps p.tables e below (T109.setTop (mkF m 47 #[.val (.long q0), .second, .val (.long q2), .second, .val (.long sk), .second, .val (.long lm), .second, .val (.ref r101), .unset, .unset, .unset, .unset, .unset] [(.int (lcmpW (0 : Int64) (0 : Int64)))])) _
    refine XS.ifNo X109.here hx rfl (hb hby at_47) rfl (own_nf (l0_ne _ _) rfl) ?_
    show Steps p.tables e below (T109.setTop (mkF m 50 #[.val (.long q0), .second, .val (.long q2), .second, .val (.long sk), .second, .val (.long lm), .second, .val (.ref r101), .unset, .unset, .unset, .unset, .unset] [])) _
    refine XS.aload X109.here hx rfl (hb hby at_50) rfl rfl ?_
    show Steps p.tables e below (T109.setTop (mkF m 52 #[.val (.long q0), .second, .val (.long q2), .second, .val (.long sk), .second, .val (.long lm), .second, .val (.ref r101), .unset, .unset, .unset, .unset, .unset] [(.ref r101)])) _
    refine st110 _ ?_
    show Steps p.tables e below (T110.setTop (mkF m 55 #[.val (.long q0), .second, .val (.long q2), .second, .val (.long sk), .second, .val (.long lm), .second, .val (.ref r101), .unset, .unset, .unset, .unset, .unset] [(.long (9223372036854775807 : Int64))])) _
    refine X110.ldc2Long hx hown (mvT hZ (hw _ (List.mem_of_getElem? (i := 0) rfl))) (g := (mkF m 55 #[.val (.long q0), .second, .val (.long q2), .second, .val (.long sk), .second, .val (.long lm), .second, .val (.ref r101), .unset, .unset, .unset, .unset, .unset] [(.long (9223372036854775807 : Int64))])) rfl (hb hby at_55) _ ?_
    show Steps p.tables e below (T110.setTop (mkF m 58 #[.val (.long q0), .second, .val (.long q2), .second, .val (.long sk), .second, .val (.long lm), .second, .val (.ref r101), .unset, .unset, .unset, .unset, .unset] [(.long (9223372036854775807 : Int64)), (.long (9223372036854775807 : Int64))])) _
    refine XS.lcmp X110.here hx rfl (hb hby at_58) rfl ?_
    show Steps p.tables e below (T110.setTop (mkF m 59 #[.val (.long q0), .second, .val (.long q2), .second, .val (.long sk), .second, .val (.long lm), .second, .val (.ref r101), .unset, .unset, .unset, .unset, .unset] [(.int (lcmpW (9223372036854775807 : Int64) (9223372036854775807 : Int64)))])) _
    refine XS.ifNo X110.here hx rfl (hb hby at_59) rfl (own_nf (l0_ne _ _) rfl) ?_
    show Steps p.tables e below (T110.setTop (mkF m 62 #[.val (.long q0), .second, .val (.long q2), .second, .val (.long sk), .second, .val (.long lm), .second, .val (.ref r101), .unset, .unset, .unset, .unset, .unset] [])) _
    refine XS.aload X110.here hx rfl (hb hby at_62) rfl rfl ?_
    show Steps p.tables e below (T110.setTop (mkF m 64 #[.val (.long q0), .second, .val (.long q2), .second, .val (.long sk), .second, .val (.long lm), .second, .val (.ref r101), .unset, .unset, .unset, .unset, .unset] [(.ref r101)])) _
    refine st111 _ ?_
    show Steps p.tables e below (T111.setTop (mkF m 67 #[.val (.long q0), .second, .val (.long q2), .second, .val (.long sk), .second, .val (.long lm), .second, .val (.ref r101), .unset, .unset, .unset, .unset, .unset] [(.int (b2i (decide ((0 : Int64) < (0 : Int64) ∨ ¬ (9223372036854775807 : Int64) = (9223372036854775807 : Int64)))))])) _
    refine XS.ifNo X111.here hx rfl (hb hby at_67) rfl (own_bf (b0_ne _) (by decide)) ?_
    show Steps p.tables e below (T111.setTop (mkF m 70 #[.val (.long q0), .second, .val (.long q2), .second, .val (.long sk), .second, .val (.long lm), .second, .val (.ref r101), .unset, .unset, .unset, .unset, .unset] [])) _
    refine XS.iconst X111.here hx rfl (hb hby at_70) ?_
    show Steps p.tables e below (T111.setTop (mkF m 71 #[.val (.long q0), .second, .val (.long q2), .second, .val (.long sk), .second, .val (.long lm), .second, .val (.ref r101), .unset, .unset, .unset, .unset, .unset] [(.int (1 : Int32))])) _
    refine XS.goto X111.here hx rfl (pc0 := 71) (pc' := 75) rfl (hb hby at_71) (by decide) (by decide) ?_
    show Steps p.tables e below (T111.setTop (mkF m 75 #[.val (.long q0), .second, .val (.long q2), .second, .val (.long sk), .second, .val (.long lm), .second, .val (.ref r101), .unset, .unset, .unset, .unset, .unset] [(.int (1 : Int32))])) _
    refine XS.istore X111.here hx rfl (hb hby at_75) rfl (l' := #[.val (.long q0), .second, .val (.long q2), .second, .val (.long sk), .second, .val (.long lm), .second, .val (.ref r101), .val (.int (1 : Int32)), .unset, .unset, .unset, .unset]) rfl ?_
    show Steps p.tables e below (T111.setTop (mkF m 77 #[.val (.long q0), .second, .val (.long q2), .second, .val (.long sk), .second, .val (.long lm), .second, .val (.ref r101), .val (.int (1 : Int32)), .unset, .unset, .unset, .unset] [])) _
    refine XS.aload X111.here hx rfl (hb hby at_77) rfl rfl ?_
    show Steps p.tables e below (T111.setTop (mkF m 79 #[.val (.long q0), .second, .val (.long q2), .second, .val (.long sk), .second, .val (.long lm), .second, .val (.ref r101), .val (.int (1 : Int32)), .unset, .unset, .unset, .unset] [(.ref r101)])) _
    refine XS.lload X111.here hx rfl (hb hby at_79) rfl ?_
    show Steps p.tables e below (T111.setTop (mkF m 81 #[.val (.long q0), .second, .val (.long q2), .second, .val (.long sk), .second, .val (.long lm), .second, .val (.ref r101), .val (.int (1 : Int32)), .unset, .unset, .unset, .unset] [(.long sk), (.ref r101)])) _
    refine st112 _ ?_
    show Steps p.tables e below (T112.setTop (mkF m 84 #[.val (.long q0), .second, .val (.long q2), .second, .val (.long sk), .second, .val (.long lm), .second, .val (.ref r101), .val (.int (1 : Int32)), .unset, .unset, .unset, .unset] [(.ref r112)])) _
    refine XS.astore X112.here hx rfl (hb hby at_84) rfl rfl (l' := #[.val (.long q0), .second, .val (.long q2), .second, .val (.long sk), .second, .val (.long lm), .second, .val (.ref r101), .val (.int (1 : Int32)), .val (.ref r112), .unset, .unset, .unset]) rfl ?_
    show Steps p.tables e below (T112.setTop (mkF m 86 #[.val (.long q0), .second, .val (.long q2), .second, .val (.long sk), .second, .val (.long lm), .second, .val (.ref r101), .val (.int (1 : Int32)), .val (.ref r112), .unset, .unset, .unset] [])) _
    refine XS.aload X112.here hx rfl (hb hby at_86) rfl rfl ?_
    show Steps p.tables e below (T112.setTop (mkF m 88 #[.val (.long q0), .second, .val (.long q2), .second, .val (.long sk), .second, .val (.long lm), .second, .val (.ref r101), .val (.int (1 : Int32)), .val (.ref r112), .unset, .unset, .unset] [(.ref r112)])) _
    refine st113 _ ?_
    exact kt
  obtain ⟨v115, T115, L115, X115, q115, st115⟩ := own_callV X113 hx hZ (y := (⟨"com/example/tiroir/tiroir/Query", "isPaged", "()Z"⟩ : MethodName)) (z := (⟨"com/example/tiroir/tiroir/Query", "isPaged", "()Z"⟩ : MethodName)) hown (hw _ (List.mem_of_getElem? (i := 60) rfl)) (hw _ (List.mem_of_getElem? (i := 61) rfl)) (notFace_of_selects (args := #[]) (mvT hZ (hw _ (List.mem_of_getElem? (i := 63) rfl)))) (hw _ (List.mem_of_getElem? (i := 63) rfl)) (hw _ (List.mem_of_getElem? (i := 62) rfl)) (hw _ (List.mem_of_getElem? (i := 3) rfl)) (hw _ (List.mem_of_getElem? (i := 64) rfl)) (by decide) E112q (hM := (rm10 l Z a0 hw [] r112 sk (9223372036854775807 : Int64) T112.heap n0 z114 S112q L112q)) (by decide) (by decide) (by decide) (by decide) e113 (argsL := []) (rest := []) (Ls := #[.val (.long q0), .second, .val (.long q2), .second, .val (.long sk), .second, .val (.long lm), .second, .val (.ref r101), .val (.int (1 : Int32)), .val (.ref r112), .unset, .unset, .unset]) (by rw [hml]; rfl) (lenOf pd___Z rfl) (W := 0) (Nat.le_of_eq rfl) (hb hby at_100)
  obtain ⟨rfl, N115q, e115⟩ := q115
  have N115 := Fr.app N113 N115q
  refine Gl.pre (S' := T115.setTop (mkF m 107 #[.val (.long q0), .second, .val (.long q2), .second, .val (.long sk), .second, .val (.long lm), .second, .val (.ref r101), .val (.int (1 : Int32)), .val (.ref r112), .unset, .unset, .unset] [(.int (lcmpW sk (0 : Int64))), (.int (b2i (decide ((0 : Int64) < sk ∨ ¬ (9223372036854775807 : Int64) = (9223372036854775807 : Int64)))))])) (fun t kt => ?_) ?_
  · show Steps p.tables e below (T113.setTop (mkF m 91 #[.val (.long q0), .second, .val (.long q2), .second, .val (.long sk), .second, .val (.long lm), .second, .val (.ref r101), .val (.int (1 : Int32)), .val (.ref r112), .unset, .unset, .unset] [(.long (9223372036854775807 : Int64))])) _
    refine X113.ldc2Long hx hown (mvT hZ (hw _ (List.mem_of_getElem? (i := 0) rfl))) (g := (mkF m 91 #[.val (.long q0), .second, .val (.long q2), .second, .val (.long sk), .second, .val (.long lm), .second, .val (.ref r101), .val (.int (1 : Int32)), .val (.ref r112), .unset, .unset, .unset] [(.long (9223372036854775807 : Int64))])) rfl (hb hby at_91) _ ?_
    show Steps p.tables e below (T113.setTop (mkF m 94 #[.val (.long q0), .second, .val (.long q2), .second, .val (.long sk), .second, .val (.long lm), .second, .val (.ref r101), .val (.int (1 : Int32)), .val (.ref r112), .unset, .unset, .unset] [(.long (9223372036854775807 : Int64)), (.long (9223372036854775807 : Int64))])) _
    refine XS.lcmp X113.here hx rfl (hb hby at_94) rfl ?_
    show Steps p.tables e below (T113.setTop (mkF m 95 #[.val (.long q0), .second, .val (.long q2), .second, .val (.long sk), .second, .val (.long lm), .second, .val (.ref r101), .val (.int (1 : Int32)), .val (.ref r112), .unset, .unset, .unset] [(.int (lcmpW (9223372036854775807 : Int64) (9223372036854775807 : Int64)))])) _
    refine XS.ifNo X113.here hx rfl (hb hby at_95) rfl (own_nf (l0_ne _ _) rfl) ?_
    show Steps p.tables e below (T113.setTop (mkF m 98 #[.val (.long q0), .second, .val (.long q2), .second, .val (.long sk), .second, .val (.long lm), .second, .val (.ref r101), .val (.int (1 : Int32)), .val (.ref r112), .unset, .unset, .unset] [])) _
    refine XS.aload X113.here hx rfl (hb hby at_98) rfl rfl ?_
    show Steps p.tables e below (T113.setTop (mkF m 100 #[.val (.long q0), .second, .val (.long q2), .second, .val (.long sk), .second, .val (.long lm), .second, .val (.ref r101), .val (.int (1 : Int32)), .val (.ref r112), .unset, .unset, .unset] [(.ref r112)])) _
    refine st115 _ ?_
    show Steps p.tables e below (T115.setTop (mkF m 103 #[.val (.long q0), .second, .val (.long q2), .second, .val (.long sk), .second, .val (.long lm), .second, .val (.ref r101), .val (.int (1 : Int32)), .val (.ref r112), .unset, .unset, .unset] [(.int (b2i (decide ((0 : Int64) < sk ∨ ¬ (9223372036854775807 : Int64) = (9223372036854775807 : Int64)))))])) _
    refine XS.lload X115.here hx rfl (hb hby at_103) rfl ?_
    show Steps p.tables e below (T115.setTop (mkF m 105 #[.val (.long q0), .second, .val (.long q2), .second, .val (.long sk), .second, .val (.long lm), .second, .val (.ref r101), .val (.int (1 : Int32)), .val (.ref r112), .unset, .unset, .unset] [(.long sk), (.int (b2i (decide ((0 : Int64) < sk ∨ ¬ (9223372036854775807 : Int64) = (9223372036854775807 : Int64)))))])) _
    refine XS.lconst X115.here hx rfl (hb hby at_105) ?_
    show Steps p.tables e below (T115.setTop (mkF m 106 #[.val (.long q0), .second, .val (.long q2), .second, .val (.long sk), .second, .val (.long lm), .second, .val (.ref r101), .val (.int (1 : Int32)), .val (.ref r112), .unset, .unset, .unset] [(.long (0 : Int64)), (.long sk), (.int (b2i (decide ((0 : Int64) < sk ∨ ¬ (9223372036854775807 : Int64) = (9223372036854775807 : Int64)))))])) _
    refine XS.lcmp X115.here hx rfl (hb hby at_106) rfl ?_
    exact kt
  refine Gl.pre (S' := T115.setTop (mkF m 115 #[.val (.long q0), .second, .val (.long q2), .second, .val (.long sk), .second, .val (.long lm), .second, .val (.ref r101), .val (.int (1 : Int32)), .val (.ref r112), .unset, .unset, .unset] [(.int (b2i (decide ((0 : Int64) < sk)))), (.int (b2i (decide ((0 : Int64) < sk ∨ ¬ (9223372036854775807 : Int64) = (9223372036854775807 : Int64)))))])) (fun t kt => ?_) ?_
  · by_cases hc107 : (0 : Int64) < sk
    · show Steps p.tables e below (T115.setTop (mkF m 107 #[.val (.long q0), .second, .val (.long q2), .second, .val (.long sk), .second, .val (.long lm), .second, .val (.ref r101), .val (.int (1 : Int32)), .val (.ref r112), .unset, .unset, .unset] [(.int (lcmpW sk (0 : Int64))), (.int (b2i (decide ((0 : Int64) < sk ∨ ¬ (9223372036854775807 : Int64) = (9223372036854775807 : Int64)))))])) _
      refine XS.ifNo X115.here hx rfl (hb hby at_107) rfl (own_nf (l0_le _ _) hc107) ?_
      show Steps p.tables e below (T115.setTop (mkF m 110 #[.val (.long q0), .second, .val (.long q2), .second, .val (.long sk), .second, .val (.long lm), .second, .val (.ref r101), .val (.int (1 : Int32)), .val (.ref r112), .unset, .unset, .unset] [(.int (b2i (decide ((0 : Int64) < sk ∨ ¬ (9223372036854775807 : Int64) = (9223372036854775807 : Int64)))))])) _
      refine XS.iconst X115.here hx rfl (hb hby at_110) ?_
      show Steps p.tables e below (T115.setTop (mkF m 111 #[.val (.long q0), .second, .val (.long q2), .second, .val (.long sk), .second, .val (.long lm), .second, .val (.ref r101), .val (.int (1 : Int32)), .val (.ref r112), .unset, .unset, .unset] [(.int (1 : Int32)), (.int (b2i (decide ((0 : Int64) < sk ∨ ¬ (9223372036854775807 : Int64) = (9223372036854775807 : Int64)))))])) _
      refine XS.goto X115.here hx rfl (pc0 := 111) (pc' := 115) rfl (hb hby at_111) (by decide) (by decide) ?_
      rw [(by simp [b2i, hc107] : (b2i (decide ((0 : Int64) < sk))) = (1 : Int32))] at kt
      exact kt
    · show Steps p.tables e below (T115.setTop (mkF m 107 #[.val (.long q0), .second, .val (.long q2), .second, .val (.long sk), .second, .val (.long lm), .second, .val (.ref r101), .val (.int (1 : Int32)), .val (.ref r112), .unset, .unset, .unset] [(.int (lcmpW sk (0 : Int64))), (.int (b2i (decide ((0 : Int64) < sk ∨ ¬ (9223372036854775807 : Int64) = (9223372036854775807 : Int64)))))])) _
      refine XS.ifYes X115.here hx rfl (pc0 := 107) (pc' := 114) rfl (hb hby at_107) rfl (own_nt (l0_le _ _) hc107) (by decide) (by decide) ?_
      show Steps p.tables e below (T115.setTop (mkF m 114 #[.val (.long q0), .second, .val (.long q2), .second, .val (.long sk), .second, .val (.long lm), .second, .val (.ref r101), .val (.int (1 : Int32)), .val (.ref r112), .unset, .unset, .unset] [(.int (b2i (decide ((0 : Int64) < sk ∨ ¬ (9223372036854775807 : Int64) = (9223372036854775807 : Int64)))))])) _
      refine XS.iconst X115.here hx rfl (hb hby at_114) ?_
      rw [(by simp [b2i, hc107] : (b2i (decide ((0 : Int64) < sk))) = (0 : Int32))] at kt
      exact kt
  have f117 := (P101q.keep K112q nin0)
  have f118 := (O101q.keep K112q nin0)
  have f119 := (S101q.keep K112q nin0)
  have f120 := (L101q.keep K112q nin0)
  have f121 := (E101q.keep K112q)
  obtain ⟨v116, T116, L116, X116, q116, st116⟩ := own_callV X115 hx hZ (y := (⟨"com/example/tiroir/tiroir/Query", "limit", "(J)Lcom/example/tiroir/tiroir/Query;"⟩ : MethodName)) (z := (⟨"com/example/tiroir/tiroir/Query", "limit", "(J)Lcom/example/tiroir/tiroir/Query;"⟩ : MethodName)) hown (hw _ (List.mem_of_getElem? (i := 70) rfl)) (hw _ (List.mem_of_getElem? (i := 71) rfl)) (notFace_of_selects (args := #[]) (mvT hZ (hw _ (List.mem_of_getElem? (i := 73) rfl)))) (hw _ (List.mem_of_getElem? (i := 73) rfl)) (hw _ (List.mem_of_getElem? (i := 72) rfl)) (hw _ (List.mem_of_getElem? (i := 3) rfl)) (hw _ (List.mem_of_getElem? (i := 74) rfl)) (by decide) f121 (hM := (rm12 l Z a0 hw [] r101 lm el (0 : Int64) (9223372036854775807 : Int64) T112.heap n0 z114 f117 f118 f119 f120 hg_lm)) (by decide) (by decide) (by decide) (by decide) e115 (argsL := [(.long lm)]) (rest := []) (Ls := #[.val (.long q0), .second, .val (.long q2), .second, .val (.long sk), .second, .val (.long lm), .second, .val (.ref r101), .val (.int (1 : Int32)), .val (.ref r112), .val (.int (1 : Int32)), .unset, .unset]) (by rw [hml]; rfl) (lenOf pd__J_Lcom_example_tiroir_tiroir_Query_ rfl) (W := 0) (Nat.le_of_eq rfl) (hb hby at_129)
  obtain ⟨r116, szq_r116, rfl, N116q, K116q, E116q, P116q, O116q, S116q, L116q⟩ := q116
  have N116 := Fr.app N115 N116q
  have K116 : Keep h0 T116.heap [] := K112.trans K116q all0
  have g_r116 : n0 ≤ r116 := Nat.le_trans z114 szq_r116
  have sz_r116 : h0.size ≤ r116 := Nat.le_trans K112.1 szq_r116
  have z123 : n0 ≤ T116.heap.size := (Nat.le_trans z114 K116q.1)
  obtain ⟨v122, T122, L122, X122, q122, st122⟩ := own_callV X116 hx hZ (y := (⟨"com/example/tiroir/tiroir/Query", "isPaged", "()Z"⟩ : MethodName)) (z := (⟨"com/example/tiroir/tiroir/Query", "isPaged", "()Z"⟩ : MethodName)) hown (hw _ (List.mem_of_getElem? (i := 60) rfl)) (hw _ (List.mem_of_getElem? (i := 61) rfl)) (notFace_of_selects (args := #[]) (mvT hZ (hw _ (List.mem_of_getElem? (i := 63) rfl)))) (hw _ (List.mem_of_getElem? (i := 63) rfl)) (hw _ (List.mem_of_getElem? (i := 62) rfl)) (hw _ (List.mem_of_getElem? (i := 3) rfl)) (hw _ (List.mem_of_getElem? (i := 64) rfl)) (by decide) E116q (hM := (rm10 l Z a0 hw [] r116 (0 : Int64) lm T116.heap n0 z123 S116q L116q)) (by decide) (by decide) (by decide) (by decide) rfl (argsL := []) (rest := []) (Ls := #[.val (.long q0), .second, .val (.long q2), .second, .val (.long sk), .second, .val (.long lm), .second, .val (.ref r101), .val (.int (1 : Int32)), .val (.ref r112), .val (.int (1 : Int32)), .val (.ref r116), .unset]) (by rw [hml]; rfl) (lenOf pd___Z rfl) (W := 0) (Nat.le_of_eq rfl) (hb hby at_136)
  obtain ⟨rfl, N122q, e122⟩ := q122
  have N122 := Fr.app N116 N122q
  refine Gl.pre (S' := T122.setTop (mkF m 145 #[.val (.long q0), .second, .val (.long q2), .second, .val (.long sk), .second, .val (.long lm), .second, .val (.ref r101), .val (.int (1 : Int32)), .val (.ref r112), .val (.int (1 : Int32)), .val (.ref r116), .unset] [(.int (lcmpW lm (9223372036854775807 : Int64))), (.int (b2i (decide ((0 : Int64) < (0 : Int64) ∨ ¬ lm = (9223372036854775807 : Int64)))))])) (fun t kt => ?_) ?_
  · show Steps p.tables e below (T115.setTop (mkF m 115 #[.val (.long q0), .second, .val (.long q2), .second, .val (.long sk), .second, .val (.long lm), .second, .val (.ref r101), .val (.int (1 : Int32)), .val (.ref r112), .unset, .unset, .unset] [(.int (b2i (decide ((0 : Int64) < sk)))), (.int (b2i (decide ((0 : Int64) < sk ∨ ¬ (9223372036854775807 : Int64) = (9223372036854775807 : Int64)))))])) _
    refine XS.icmpNo X115.here hx rfl (hb hby at_115) rfl (own_nf (ic_ne _ _) (by rw [b2i_inj]; simp)) ?_
    show Steps p.tables e below (T115.setTop (mkF m 118 #[.val (.long q0), .second, .val (.long q2), .second, .val (.long sk), .second, .val (.long lm), .second, .val (.ref r101), .val (.int (1 : Int32)), .val (.ref r112), .unset, .unset, .unset] [])) _
    refine XS.iconst X115.here hx rfl (hb hby at_118) ?_
    show Steps p.tables e below (T115.setTop (mkF m 119 #[.val (.long q0), .second, .val (.long q2), .second, .val (.long sk), .second, .val (.long lm), .second, .val (.ref r101), .val (.int (1 : Int32)), .val (.ref r112), .unset, .unset, .unset] [(.int (1 : Int32))])) _
    refine XS.goto X115.here hx rfl (pc0 := 119) (pc' := 123) rfl (hb hby at_119) (by decide) (by decide) ?_
    show Steps p.tables e below (T115.setTop (mkF m 123 #[.val (.long q0), .second, .val (.long q2), .second, .val (.long sk), .second, .val (.long lm), .second, .val (.ref r101), .val (.int (1 : Int32)), .val (.ref r112), .unset, .unset, .unset] [(.int (1 : Int32))])) _
    refine XS.istore X115.here hx rfl (hb hby at_123) rfl (l' := #[.val (.long q0), .second, .val (.long q2), .second, .val (.long sk), .second, .val (.long lm), .second, .val (.ref r101), .val (.int (1 : Int32)), .val (.ref r112), .val (.int (1 : Int32)), .unset, .unset]) rfl ?_
    show Steps p.tables e below (T115.setTop (mkF m 125 #[.val (.long q0), .second, .val (.long q2), .second, .val (.long sk), .second, .val (.long lm), .second, .val (.ref r101), .val (.int (1 : Int32)), .val (.ref r112), .val (.int (1 : Int32)), .unset, .unset] [])) _
    refine XS.aload X115.here hx rfl (hb hby at_125) rfl rfl ?_
    show Steps p.tables e below (T115.setTop (mkF m 127 #[.val (.long q0), .second, .val (.long q2), .second, .val (.long sk), .second, .val (.long lm), .second, .val (.ref r101), .val (.int (1 : Int32)), .val (.ref r112), .val (.int (1 : Int32)), .unset, .unset] [(.ref r101)])) _
    refine XS.lload X115.here hx rfl (hb hby at_127) rfl ?_
    show Steps p.tables e below (T115.setTop (mkF m 129 #[.val (.long q0), .second, .val (.long q2), .second, .val (.long sk), .second, .val (.long lm), .second, .val (.ref r101), .val (.int (1 : Int32)), .val (.ref r112), .val (.int (1 : Int32)), .unset, .unset] [(.long lm), (.ref r101)])) _
    refine st116 _ ?_
    show Steps p.tables e below (T116.setTop (mkF m 132 #[.val (.long q0), .second, .val (.long q2), .second, .val (.long sk), .second, .val (.long lm), .second, .val (.ref r101), .val (.int (1 : Int32)), .val (.ref r112), .val (.int (1 : Int32)), .unset, .unset] [(.ref r116)])) _
    refine XS.astore X116.here hx rfl (hb hby at_132) rfl rfl (l' := #[.val (.long q0), .second, .val (.long q2), .second, .val (.long sk), .second, .val (.long lm), .second, .val (.ref r101), .val (.int (1 : Int32)), .val (.ref r112), .val (.int (1 : Int32)), .val (.ref r116), .unset]) rfl ?_
    show Steps p.tables e below (T116.setTop (mkF m 134 #[.val (.long q0), .second, .val (.long q2), .second, .val (.long sk), .second, .val (.long lm), .second, .val (.ref r101), .val (.int (1 : Int32)), .val (.ref r112), .val (.int (1 : Int32)), .val (.ref r116), .unset] [])) _
    refine XS.aload X116.here hx rfl (hb hby at_134) rfl rfl ?_
    show Steps p.tables e below (T116.setTop (mkF m 136 #[.val (.long q0), .second, .val (.long q2), .second, .val (.long sk), .second, .val (.long lm), .second, .val (.ref r101), .val (.int (1 : Int32)), .val (.ref r112), .val (.int (1 : Int32)), .val (.ref r116), .unset] [(.ref r116)])) _
    refine st122 _ ?_
    show Steps p.tables e below (T122.setTop (mkF m 139 #[.val (.long q0), .second, .val (.long q2), .second, .val (.long sk), .second, .val (.long lm), .second, .val (.ref r101), .val (.int (1 : Int32)), .val (.ref r112), .val (.int (1 : Int32)), .val (.ref r116), .unset] [(.int (b2i (decide ((0 : Int64) < (0 : Int64) ∨ ¬ lm = (9223372036854775807 : Int64)))))])) _
    refine XS.lload X122.here hx rfl (hb hby at_139) rfl ?_
    show Steps p.tables e below (T122.setTop (mkF m 141 #[.val (.long q0), .second, .val (.long q2), .second, .val (.long sk), .second, .val (.long lm), .second, .val (.ref r101), .val (.int (1 : Int32)), .val (.ref r112), .val (.int (1 : Int32)), .val (.ref r116), .unset] [(.long lm), (.int (b2i (decide ((0 : Int64) < (0 : Int64) ∨ ¬ lm = (9223372036854775807 : Int64)))))])) _
    refine X122.ldc2Long hx hown (mvT hZ (hw _ (List.mem_of_getElem? (i := 0) rfl))) (g := (mkF m 141 #[.val (.long q0), .second, .val (.long q2), .second, .val (.long sk), .second, .val (.long lm), .second, .val (.ref r101), .val (.int (1 : Int32)), .val (.ref r112), .val (.int (1 : Int32)), .val (.ref r116), .unset] [(.long lm), (.int (b2i (decide ((0 : Int64) < (0 : Int64) ∨ ¬ lm = (9223372036854775807 : Int64)))))])) rfl (hb hby at_141) _ ?_
    show Steps p.tables e below (T122.setTop (mkF m 144 #[.val (.long q0), .second, .val (.long q2), .second, .val (.long sk), .second, .val (.long lm), .second, .val (.ref r101), .val (.int (1 : Int32)), .val (.ref r112), .val (.int (1 : Int32)), .val (.ref r116), .unset] [(.long (9223372036854775807 : Int64)), (.long lm), (.int (b2i (decide ((0 : Int64) < (0 : Int64) ∨ ¬ lm = (9223372036854775807 : Int64)))))])) _
    refine XS.lcmp X122.here hx rfl (hb hby at_144) rfl ?_
    exact kt
  refine Gl.pre (S' := T122.setTop (mkF m 153 #[.val (.long q0), .second, .val (.long q2), .second, .val (.long sk), .second, .val (.long lm), .second, .val (.ref r101), .val (.int (1 : Int32)), .val (.ref r112), .val (.int (1 : Int32)), .val (.ref r116), .unset] [(.int (b2i (decide (¬ lm = (9223372036854775807 : Int64))))), (.int (b2i (decide ((0 : Int64) < (0 : Int64) ∨ ¬ lm = (9223372036854775807 : Int64)))))])) (fun t kt => ?_) ?_
  · by_cases hc145 : lm = (9223372036854775807 : Int64)
    · show Steps p.tables e below (T122.setTop (mkF m 145 #[.val (.long q0), .second, .val (.long q2), .second, .val (.long sk), .second, .val (.long lm), .second, .val (.ref r101), .val (.int (1 : Int32)), .val (.ref r112), .val (.int (1 : Int32)), .val (.ref r116), .unset] [(.int (lcmpW lm (9223372036854775807 : Int64))), (.int (b2i (decide ((0 : Int64) < (0 : Int64) ∨ ¬ lm = (9223372036854775807 : Int64)))))])) _
      refine XS.ifYes X122.here hx rfl (pc0 := 145) (pc' := 152) rfl (hb hby at_145) rfl (own_t (l0_eq _ _) hc145) (by decide) (by decide) ?_
      show Steps p.tables e below (T122.setTop (mkF m 152 #[.val (.long q0), .second, .val (.long q2), .second, .val (.long sk), .second, .val (.long lm), .second, .val (.ref r101), .val (.int (1 : Int32)), .val (.ref r112), .val (.int (1 : Int32)), .val (.ref r116), .unset] [(.int (b2i (decide ((0 : Int64) < (0 : Int64) ∨ ¬ lm = (9223372036854775807 : Int64)))))])) _
      refine XS.iconst X122.here hx rfl (hb hby at_152) ?_
      rw [(by simp [b2i, hc145] : (b2i (decide (¬ lm = (9223372036854775807 : Int64)))) = (0 : Int32))] at kt
      exact kt
    · show Steps p.tables e below (T122.setTop (mkF m 145 #[.val (.long q0), .second, .val (.long q2), .second, .val (.long sk), .second, .val (.long lm), .second, .val (.ref r101), .val (.int (1 : Int32)), .val (.ref r112), .val (.int (1 : Int32)), .val (.ref r116), .unset] [(.int (lcmpW lm (9223372036854775807 : Int64))), (.int (b2i (decide ((0 : Int64) < (0 : Int64) ∨ ¬ lm = (9223372036854775807 : Int64)))))])) _
      refine XS.ifNo X122.here hx rfl (hb hby at_145) rfl (own_f (l0_eq _ _) hc145) ?_
      show Steps p.tables e below (T122.setTop (mkF m 148 #[.val (.long q0), .second, .val (.long q2), .second, .val (.long sk), .second, .val (.long lm), .second, .val (.ref r101), .val (.int (1 : Int32)), .val (.ref r112), .val (.int (1 : Int32)), .val (.ref r116), .unset] [(.int (b2i (decide ((0 : Int64) < (0 : Int64) ∨ ¬ lm = (9223372036854775807 : Int64)))))])) _
      refine XS.iconst X122.here hx rfl (hb hby at_148) ?_
      show Steps p.tables e below (T122.setTop (mkF m 149 #[.val (.long q0), .second, .val (.long q2), .second, .val (.long sk), .second, .val (.long lm), .second, .val (.ref r101), .val (.int (1 : Int32)), .val (.ref r112), .val (.int (1 : Int32)), .val (.ref r116), .unset] [(.int (1 : Int32)), (.int (b2i (decide ((0 : Int64) < (0 : Int64) ∨ ¬ lm = (9223372036854775807 : Int64)))))])) _
      refine XS.goto X122.here hx rfl (pc0 := 149) (pc' := 153) rfl (hb hby at_149) (by decide) (by decide) ?_
      rw [(by simp [b2i, hc145] : (b2i (decide (¬ lm = (9223372036854775807 : Int64)))) = (1 : Int32))] at kt
      exact kt
  refine Gl.fin X122 (v := some (.int (1 : Int32))) (fun h => by rw [Bd.returns] at h; cases h) Bd.notSynchronized ?_ e122 (by decide) (by decide) (fun fs hr => ?_)
  · exact ⟨rfl, N122⟩
  · show Steps p.tables e below (T122.setTop (mkF m 153 #[.val (.long q0), .second, .val (.long q2), .second, .val (.long sk), .second, .val (.long lm), .second, .val (.ref r101), .val (.int (1 : Int32)), .val (.ref r112), .val (.int (1 : Int32)), .val (.ref r116), .unset] [(.int (b2i (decide (¬ lm = (9223372036854775807 : Int64))))), (.int (b2i (decide ((0 : Int64) < (0 : Int64) ∨ ¬ lm = (9223372036854775807 : Int64)))))])) _
    refine XS.icmpNo X122.here hx rfl (hb hby at_153) rfl (own_nf (ic_ne _ _) (by rw [b2i_inj]; simp)) ?_
    show Steps p.tables e below (T122.setTop (mkF m 156 #[.val (.long q0), .second, .val (.long q2), .second, .val (.long sk), .second, .val (.long lm), .second, .val (.ref r101), .val (.int (1 : Int32)), .val (.ref r112), .val (.int (1 : Int32)), .val (.ref r116), .unset] [])) _
    refine XS.iconst X122.here hx rfl (hb hby at_156) ?_
    show Steps p.tables e below (T122.setTop (mkF m 157 #[.val (.long q0), .second, .val (.long q2), .second, .val (.long sk), .second, .val (.long lm), .second, .val (.ref r101), .val (.int (1 : Int32)), .val (.ref r112), .val (.int (1 : Int32)), .val (.ref r116), .unset] [(.int (1 : Int32))])) _
    refine XS.goto X122.here hx rfl (pc0 := 157) (pc' := 161) rfl (hb hby at_157) (by decide) (by decide) ?_
    show Steps p.tables e below (T122.setTop (mkF m 161 #[.val (.long q0), .second, .val (.long q2), .second, .val (.long sk), .second, .val (.long lm), .second, .val (.ref r101), .val (.int (1 : Int32)), .val (.ref r112), .val (.int (1 : Int32)), .val (.ref r116), .unset] [(.int (1 : Int32))])) _
    refine XS.istore X122.here hx rfl (hb hby at_161) rfl (l' := #[.val (.long q0), .second, .val (.long q2), .second, .val (.long sk), .second, .val (.long lm), .second, .val (.ref r101), .val (.int (1 : Int32)), .val (.ref r112), .val (.int (1 : Int32)), .val (.ref r116), .val (.int (1 : Int32))]) rfl ?_
    show Steps p.tables e below (T122.setTop (mkF m 163 #[.val (.long q0), .second, .val (.long q2), .second, .val (.long sk), .second, .val (.long lm), .second, .val (.ref r101), .val (.int (1 : Int32)), .val (.ref r112), .val (.int (1 : Int32)), .val (.ref r116), .val (.int (1 : Int32))] [])) _
    refine XS.iload X122.here hx rfl (hb hby at_163) rfl ?_
    show Steps p.tables e below (T122.setTop (mkF m 165 #[.val (.long q0), .second, .val (.long q2), .second, .val (.long sk), .second, .val (.long lm), .second, .val (.ref r101), .val (.int (1 : Int32)), .val (.ref r112), .val (.int (1 : Int32)), .val (.ref r116), .val (.int (1 : Int32))] [(.int (1 : Int32))])) _
    refine XS.ifNo X122.here hx rfl (hb hby at_165) rfl (own_f (i0_eq _) (by decide)) ?_
    show Steps p.tables e below (T122.setTop (mkF m 168 #[.val (.long q0), .second, .val (.long q2), .second, .val (.long sk), .second, .val (.long lm), .second, .val (.ref r101), .val (.int (1 : Int32)), .val (.ref r112), .val (.int (1 : Int32)), .val (.ref r116), .val (.int (1 : Int32))] [])) _
    refine XS.iload X122.here hx rfl (hb hby at_168) rfl ?_
    show Steps p.tables e below (T122.setTop (mkF m 170 #[.val (.long q0), .second, .val (.long q2), .second, .val (.long sk), .second, .val (.long lm), .second, .val (.ref r101), .val (.int (1 : Int32)), .val (.ref r112), .val (.int (1 : Int32)), .val (.ref r116), .val (.int (1 : Int32))] [(.int (1 : Int32))])) _
    refine XS.ifNo X122.here hx rfl (hb hby at_170) rfl (own_f (i0_eq _) (by decide)) ?_
    show Steps p.tables e below (T122.setTop (mkF m 173 #[.val (.long q0), .second, .val (.long q2), .second, .val (.long sk), .second, .val (.long lm), .second, .val (.ref r101), .val (.int (1 : Int32)), .val (.ref r112), .val (.int (1 : Int32)), .val (.ref r116), .val (.int (1 : Int32))] [])) _
    refine XS.iload X122.here hx rfl (hb hby at_173) rfl ?_
    show Steps p.tables e below (T122.setTop (mkF m 175 #[.val (.long q0), .second, .val (.long q2), .second, .val (.long sk), .second, .val (.long lm), .second, .val (.ref r101), .val (.int (1 : Int32)), .val (.ref r112), .val (.int (1 : Int32)), .val (.ref r116), .val (.int (1 : Int32))] [(.int (1 : Int32))])) _
    refine XS.ifNo X122.here hx rfl (hb hby at_175) rfl (own_f (i0_eq _) (by decide)) ?_
    show Steps p.tables e below (T122.setTop (mkF m 178 #[.val (.long q0), .second, .val (.long q2), .second, .val (.long sk), .second, .val (.long lm), .second, .val (.ref r101), .val (.int (1 : Int32)), .val (.ref r112), .val (.int (1 : Int32)), .val (.ref r116), .val (.int (1 : Int32))] [])) _
    refine XS.iconst X122.here hx rfl (hb hby at_178) ?_
    show Steps p.tables e below (T122.setTop (mkF m 179 #[.val (.long q0), .second, .val (.long q2), .second, .val (.long sk), .second, .val (.long lm), .second, .val (.ref r101), .val (.int (1 : Int32)), .val (.ref r112), .val (.int (1 : Int32)), .val (.ref r116), .val (.int (1 : Int32))] [(.int (1 : Int32))])) _
    refine XS.goto X122.here hx rfl (pc0 := 179) (pc' := 183) rfl (hb hby at_179) (by decide) (by decide) ?_
    show Steps p.tables e below (T122.setTop (mkF m 183 #[.val (.long q0), .second, .val (.long q2), .second, .val (.long sk), .second, .val (.long lm), .second, .val (.ref r101), .val (.int (1 : Int32)), .val (.ref r112), .val (.int (1 : Int32)), .val (.ref r116), .val (.int (1 : Int32))] [(.int (1 : Int32))])) _
    exact retN X122 hx (t := .boolean) Bd.returns (by simp) (hb hby at_183) hr
theorem own_len {args : Array Value} {s : State} {t : Term} {a : Addr} {cl : Cell} {ty : FieldType} {n : Int32} (ev : t.eval args s none [] s = some (.ref a)) (A : Arr s s.heap a cl ty) (q : (Term.length t).eval args s none [] s = some (.int n)) : cl.slots.size < 2 ^ 31 ∧ cl.slots.size.toInt32 = n := by
  have ha := A.fin (Vm.Alike.refl _)
  simp [Term.eval, ev, ha] at q
  exact ⟨by have := q.1; omega, q.2⟩
set_option maxRecDepth 65536 in
set_option maxHeartbeats 40000000 in
theorem comes_1 {Post : Tables → Env → Array Value → State → Outcome → State → Prop} (hpost : ∀ tb e args s v u, (limb_1_1.after args s (.returned v) u = true ∧ limb_1_2.after args s (.returned v) u = true ∧ True) → FrameEnd s (.returned v) u (Jvm.fieldLocs frame_1_writes args s ++ Jvm.arrayLocs frame_1_arrays args s ++ Jvm.staticLocs frame_1_statics s) 16 128 → Post tb e args s (.returned v) u) :
    ArmFor flags0 classFile x code maxLocals ret World_1 tables_1 room_1 Calls_1 rest_1 Pre_1 Post := by
  intro l hfl _ _ p e ha hc hk s m args below hf hA hF happ hP
  obtain ⟨hcalls, hrest, hpre⟩ := hP
  obtain ⟨-, -, -, hnamed, -, -, -, hat⟩ := (Spec.applies_iff hf).mp happ
  obtain ⟨hg, hn⟩ := and_e (Cond.before_iff.mp (show (Jvm.Cond.and given_1 narrow_1).before args s = true from hpre))
  obtain ⟨hq0, hr0⟩ := and_e hg
  obtain ⟨hq1, hr1⟩ := and_e hr0
  obtain ⟨w0, w1, rfl⟩ : ∃ w0 w1 : Value, args = #[w0, w1] := by
    have hs : args.size = 2 := by simpa [Cond.value, given_1] using hq0
    obtain ⟨L⟩ := args
    match L, hs with
    | [w0, w1], _ => exact ⟨w0, w1, rfl⟩
  have hw := fun d (hd : d ∈ tables_1) => atoms_spec (ws := Jvm.Cond.code x code maxLocals ret :: tables_1) hat d (List.mem_cons_of_mem _ hd)
  have hfit : Fit s := fun {y c} hc i hi => by
    obtain ⟨ha, rfl⟩ := Array.getElem?_eq_some_iff.mp hc
    have q := List.all_eq_true.mp ((Array.all_eq_true_iff_forall_mem.mp hF) _ (Array.getElem_mem ha)) i (List.mem_range.mpr hi)
    simpa [Array.getElem?_eq_getElem hi] using q
  obtain ⟨hsets, hown0⟩ := atoms_of _ (rest_1_c_eq ▸ (show rest_1_c.before _ s = true from hrest))
  obtain ⟨i0, ei0⟩ := isL_v hq1
  obtain rfl : w0 = (.long i0) := Option.some.inj ei0
  obtain ⟨i1, ei1⟩ := isL_v hr1
  obtain rfl : w1 = (.long i1) := Option.some.inj ei1
  obtain ⟨el, ev_e, S_e, E_e⟩ := own_sx (hw _ (List.mem_of_getElem? (i := 12) rfl)) (hsets _ (List.mem_of_getElem? (i := 0) rfl)) (Cond.before_iff.mp (hsets _ (List.mem_of_getElem? (i := 2) rfl)))
  obtain ⟨ea, ev_a⟩ := arr_v (Cond.before_iff.mp (hsets _ (List.mem_of_getElem? (i := 3) rfl)))
  have F_l := Fld.start ((fld_at ev_e).symm.trans ev_a)
  obtain ⟨cl, A_l⟩ := Arr.start ev_a (Cond.before_iff.mp (hsets _ (List.mem_of_getElem? (i := 3) rfl)))
  obtain ⟨ql, el2⟩ := own_len ev_a A_l (eqv_i (Term.int_eval (0)) (Cond.before_iff.mp (hsets _ (List.mem_of_getElem? (i := 5) rfl))))
  have V_l := Arv.start (dv := .null) (vs := []) hfit A_l ql el2 (by decide) rfl trivial
  obtain ⟨n, o, h1, h2, h3, _, L, rfl, ⟨rfl, N⟩, hq⟩ := rm0 l s _ hw tables_1 i0 i1 el ea cl.cls s.heap s.heap.size (Nat.le_refl _) S_e E_e F_l V_l p e ha hc hk s m _ below hf ((Spec.applies_iff_loose hf).mp happ).1 ⟨rfl, State.Warmed39.refl s, rfl⟩ trivial
  refine ⟨n, _, h1, h2, h3, hpost _ _ _ _ _ _ ⟨Cond.after_iff.mpr rfl, Cond.after_iff.mpr (eq_i res_at (Term.int_eval (1)) rfl), trivial⟩ ⟨hq.1, hq.2.1, (hq.2.2.sift fun y hy => Or.inr (N y hy)).mono (by decide) (by decide)⟩⟩
theorem main_1_1 : Claimed_1_1 := comes_1 fun _ _ _ _ _ _ h hF => ⟨h.1, hF⟩
theorem main_1_2 : Claimed_1_2 := comes_1 fun _ _ _ _ _ _ h hF => ⟨h.2.1, hF⟩
end Jvm.Pilot.@@N@@
namespace Jvm.Pilot.@@N@@
open Jvm Jvm.ClassFile Sem Op Lib Jvm.Free Jvm.Stand Jvm.Pilot.@@N@@.Jvm.D
/-! MADE BY PROGRAM (witnessworld.py) out of the Statement's table words and the real class files: 20 classes; the members and pool entries that the words name. The judged class is class 1, her method 1. -/
namespace start1
open Jvm.ClassFile
def u (s : String) : CpInfo := .utf8 (stringToUtf16 s)
/-- a pool by its gaps: so many unusable entries, then the entry; so many at the end -/
def gap : Nat → List CpInfo → List CpInfo
  | 0, r => r
  | n + 1, r => .unusable :: gap n r
def poolList (es : List (Nat × CpInfo)) (last : Nat) : List CpInfo := es.foldr (fun e r => gap e.1 (e.2 :: r)) (gap last [])
def pool (es : List (Nat × CpInfo)) (last : Nat) : Array CpInfo := ⟨poolList es last⟩
def fileOf (pool : Array CpInfo) (this : Nat) (attrs : Array Attribute := #[]) (ms : Array MethodInfo := #[]) (fl : Nat := 33) (sup : Nat := 0) (ifs : Array Nat := #[]) (fds : Array FieldInfo := #[]) : ClassFile where
  minorVersion := 0
  majorVersion := 65
  constantPool := pool
  accessFlags := fl
  thisClass := this
  superClass := sup
  interfaces := ifs
  fields := fds
  methods := ms
  attributes := attrs
def plain (name : String) (sup : Option ClassId) : Class where
  name := name
  kind := .ordinary
  loader := none
  accessFlags := 33
  super := sup
  interfaces := #[]
  cf := none
  fields := #[]
  methods := #[]
  instanceTypes := #[]
  staticTypes := #[]
  resolved := #[]
  callSites := []
  init := .initialized
  statics := none
  mirror := none

def pool0 : Array CpInfo := pool [(5, u "<init>"), (0, u "()V"), (1, .class_ 10), (1, u "java/lang/Object")] 113

def k0c0 : Code := { maxStack := 0, maxLocals := 1, code := object_method_1_code, exceptionTable := #[], attributes := #[] }
def k0m0 : Method := { name := "<init>", desc := "()V", sig := { parameters := [], returnType := none }, accessFlags := 1, code := some k0c0 }
/-- java/lang/Object -/
def k0 : Class := { plain "java/lang/Object" none with
  accessFlags := 33
  interfaces := #[]
  cf := some (fileOf pool0 8 #[] #[{ accessFlags := 1, nameIndex := 5, descriptorIndex := 6, attributes := #[] }] 33 0 #[] #[])
  fields := #[]
  methods := #[k0m0]
  instanceTypes := #[]
  staticTypes := #[]
  resolved := Array.replicate 124 none
  statics := none }

def pool1 : Array CpInfo := pool [(2, .class_ 4), (1, u "java/lang/Object"), (0, u "<init>"), (0, u "()V"), (2, .long 9223372036854775807), (1, .methodref 12 13), (0, .class_ 14), (0, .nameAndType 15 16), (0, u "com/example/tiroir/tiroir/Query"), (0, u "all"), (0, u "()Lcom/example/tiroir/tiroir/Query;"), (0, .methodref 12 18), (0, .nameAndType 19 20), (0, u "predicate"), (0, u "()Lcom/example/tiroir/tiroir/Predicate;"), (0, .methodref 12 22), (0, .nameAndType 23 24), (0, u "orderings"), (0, u "()Ljava/util/List;"), (0, .interfaceMethodref 26 27), (0, .class_ 28), (0, .nameAndType 29 30), (0, u "java/util/List"), (0, u "size"), (0, u "()I"), (0, .methodref 12 32), (0, .nameAndType 33 34), (0, u "skipCount"), (0, u "()J"), (0, .methodref 12 36), (0, .nameAndType 37 34), (0, u "limitCount"), (0, .methodref 12 39), (0, .nameAndType 40 41), (0, u "isPaged"), (0, u "()Z"), (0, .methodref 12 43), (0, .nameAndType 44 45), (0, u "skip"), (0, u "(J)Lcom/example/tiroir/tiroir/Query;"), (0, .methodref 12 47), (0, .nameAndType 48 45), (0, u "limit"), (0, .class_ 50), (0, u "com/example/tiroir/tiroir/QueryAllPinLaw"), (2, u "law"), (0, u "(JJ)Z")] 3

def k1m0 : Method := { name := "<init>", desc := "()V", sig := { parameters := [], returnType := none }, accessFlags := 2, code := none }
def k1c1 : Code := { maxStack := 5, maxLocals := 14, code := code, exceptionTable := #[], attributes := #[] }
def k1m1 : Method := { name := "law", desc := "(JJ)Z", sig := { parameters := [.long, .long], returnType := some .boolean }, accessFlags := 9, code := some k1c1 }
/-- com/example/tiroir/tiroir/QueryAllPinLaw -/
def k1 : Class := { plain "com/example/tiroir/tiroir/QueryAllPinLaw" (some 0) with
  accessFlags := 49
  interfaces := #[]
  cf := some (fileOf pool1 49 #[] #[{ accessFlags := 2, nameIndex := 5, descriptorIndex := 6, attributes := #[] }, { accessFlags := 9, nameIndex := 53, descriptorIndex := 54, attributes := #[] }] 49 2 #[] #[])
  fields := #[]
  methods := #[k1m0, k1m1]
  instanceTypes := #[]
  staticTypes := #[]
  resolved := Array.replicate 58 none
  statics := none }

def pool2 : Array CpInfo := pool [(3, .methodref 4 5), (0, .class_ 6), (0, .nameAndType 7 8), (0, u "java/lang/Object"), (0, u "<init>"), (0, u "()V"), (0, .fieldref 10 11), (0, .class_ 12), (0, .nameAndType 13 14), (0, u "com/example/tiroir/tiroir/Query"), (0, u "predicate"), (0, u "Lcom/example/tiroir/tiroir/Predicate;"), (0, .fieldref 10 16), (0, .nameAndType 17 18), (0, u "orderings"), (0, u "Ljava/util/List;"), (0, .fieldref 10 20), (0, .nameAndType 21 22), (0, u "skip"), (0, u "J"), (0, .fieldref 10 24), (0, .nameAndType 25 22), (0, u "limit"), (0, .interfaceMethodref 27 28), (0, .class_ 29), (0, .nameAndType 30 31), (0, u "java/util/List"), (0, u "of"), (0, u "()Ljava/util/List;"), (0, .long 9223372036854775807), (1, .methodref 10 35), (0, .nameAndType 7 36), (0, u "(Lcom/example/tiroir/tiroir/Predicate;Ljava/util/List;JJ)V"), (42, u "NO_LIMIT"), (7, u "all"), (0, u "()Lcom/example/tiroir/tiroir/Query;"), (8, u "(J)Lcom/example/tiroir/tiroir/Query;"), (1, u "()Lcom/example/tiroir/tiroir/Predicate;"), (5, u "skipCount"), (0, u "()J"), (0, u "limitCount"), (0, u "isPaged"), (0, u "()Z")] 20

def k2c0 : Code := { maxStack := 3, maxLocals := 7, code := prog_26_method_1_code, exceptionTable := #[], attributes := #[] }
def k2m0 : Method := { name := "<init>", desc := "(Lcom/example/tiroir/tiroir/Predicate;Ljava/util/List;JJ)V", sig := { parameters := [(.object "com/example/tiroir/tiroir/Predicate"), (.object "java/util/List"), .long, .long], returnType := none }, accessFlags := 2, code := some k2c0 }
def k2c1 : Code := { maxStack := 8, maxLocals := 0, code := prog_26_method_2_code, exceptionTable := #[], attributes := #[] }
def k2m1 : Method := { name := "all", desc := "()Lcom/example/tiroir/tiroir/Query;", sig := { parameters := [], returnType := some (.object "com/example/tiroir/tiroir/Query") }, accessFlags := 8, code := some k2c1 }
def k2c2 : Code := { maxStack := 8, maxLocals := 3, code := prog_26_method_5_code, exceptionTable := #[], attributes := #[] }
def k2m2 : Method := { name := "skip", desc := "(J)Lcom/example/tiroir/tiroir/Query;", sig := { parameters := [.long], returnType := some (.object "com/example/tiroir/tiroir/Query") }, accessFlags := 0, code := some k2c2 }
def k2c3 : Code := { maxStack := 8, maxLocals := 3, code := prog_26_method_6_code, exceptionTable := #[], attributes := #[] }
def k2m3 : Method := { name := "limit", desc := "(J)Lcom/example/tiroir/tiroir/Query;", sig := { parameters := [.long], returnType := some (.object "com/example/tiroir/tiroir/Query") }, accessFlags := 0, code := some k2c3 }
def k2c4 : Code := { maxStack := 1, maxLocals := 1, code := prog_26_method_7_code, exceptionTable := #[], attributes := #[] }
def k2m4 : Method := { name := "predicate", desc := "()Lcom/example/tiroir/tiroir/Predicate;", sig := { parameters := [], returnType := some (.object "com/example/tiroir/tiroir/Predicate") }, accessFlags := 0, code := some k2c4 }
def k2c5 : Code := { maxStack := 1, maxLocals := 1, code := prog_26_method_8_code, exceptionTable := #[], attributes := #[] }
def k2m5 : Method := { name := "orderings", desc := "()Ljava/util/List;", sig := { parameters := [], returnType := some (.object "java/util/List") }, accessFlags := 0, code := some k2c5 }
def k2c6 : Code := { maxStack := 2, maxLocals := 1, code := prog_26_method_10_code, exceptionTable := #[], attributes := #[] }
def k2m6 : Method := { name := "skipCount", desc := "()J", sig := { parameters := [], returnType := some .long }, accessFlags := 0, code := some k2c6 }
def k2c7 : Code := { maxStack := 2, maxLocals := 1, code := prog_26_method_11_code, exceptionTable := #[], attributes := #[] }
def k2m7 : Method := { name := "limitCount", desc := "()J", sig := { parameters := [], returnType := some .long }, accessFlags := 0, code := some k2c7 }
def k2c8 : Code := { maxStack := 4, maxLocals := 1, code := prog_26_method_12_code, exceptionTable := #[], attributes := #[] }
def k2m8 : Method := { name := "isPaged", desc := "()Z", sig := { parameters := [], returnType := some .boolean }, accessFlags := 0, code := some k2c8 }
/-- com/example/tiroir/tiroir/Query -/
def k2 : Class := { plain "com/example/tiroir/tiroir/Query" (some 0) with
  accessFlags := 48
  interfaces := #[]
  cf := some (fileOf pool2 10 #[] #[{ accessFlags := 2, nameIndex := 7, descriptorIndex := 36, attributes := #[] }, { accessFlags := 8, nameIndex := 87, descriptorIndex := 88, attributes := #[] }, { accessFlags := 0, nameIndex := 21, descriptorIndex := 97, attributes := #[] }, { accessFlags := 0, nameIndex := 25, descriptorIndex := 97, attributes := #[] }, { accessFlags := 0, nameIndex := 13, descriptorIndex := 99, attributes := #[] }, { accessFlags := 0, nameIndex := 17, descriptorIndex := 31, attributes := #[] }, { accessFlags := 0, nameIndex := 105, descriptorIndex := 106, attributes := #[] }, { accessFlags := 0, nameIndex := 107, descriptorIndex := 106, attributes := #[] }, { accessFlags := 0, nameIndex := 108, descriptorIndex := 109, attributes := #[] }] 48 4 #[] #[{ accessFlags := 24, nameIndex := 79, descriptorIndex := 22, attributes := #[] }, { accessFlags := 18, nameIndex := 13, descriptorIndex := 14, attributes := #[] }, { accessFlags := 18, nameIndex := 17, descriptorIndex := 18, attributes := #[] }, { accessFlags := 18, nameIndex := 21, descriptorIndex := 22, attributes := #[] }, { accessFlags := 18, nameIndex := 25, descriptorIndex := 22, attributes := #[] }])
  fields := #[{ name := "NO_LIMIT", type := .long, accessFlags := 24, slot := 0, constantValue := 0 }, { name := "predicate", type := (.object "com/example/tiroir/tiroir/Predicate"), accessFlags := 18, slot := 0, constantValue := 0 }, { name := "orderings", type := (.object "java/util/List"), accessFlags := 18, slot := 1, constantValue := 0 }, { name := "skip", type := .long, accessFlags := 18, slot := 2, constantValue := 0 }, { name := "limit", type := .long, accessFlags := 18, slot := 3, constantValue := 0 }]
  methods := #[k2m0, k2m1, k2m2, k2m3, k2m4, k2m5, k2m6, k2m7, k2m8]
  instanceTypes := #[(.object "com/example/tiroir/tiroir/Predicate"), (.object "java/util/List"), .long, .long]
  staticTypes := #[.long]
  resolved := Array.replicate 130 none
  statics := none }

def pool3 : Array CpInfo := pool [(8, .class_ 10), (1, u "java/lang/Iterable"), (24, .class_ 36), (0, u "java/lang/Object")] 25

/-- java/lang/Iterable -/
def k3 : Class := { plain "java/lang/Iterable" (some 0) with
  accessFlags := 1537
  interfaces := #[]
  cf := some (fileOf pool3 8 #[] #[] 1537 35 #[] #[])
  fields := #[]
  methods := #[]
  instanceTypes := #[]
  staticTypes := #[]
  resolved := Array.replicate 62 none
  statics := none }

def pool4 : Array CpInfo := pool [(10, .class_ 12), (1, u "java/util/Collection"), (47, .class_ 61), (0, u "java/lang/Object"), (0, .class_ 63), (0, u "java/lang/Iterable")] 51

/-- java/util/Collection -/
def k4 : Class := { plain "java/util/Collection" (some 0) with
  accessFlags := 1537
  interfaces := #[3]
  cf := some (fileOf pool4 10 #[] #[] 1537 60 #[62] #[])
  fields := #[]
  methods := #[]
  instanceTypes := #[]
  staticTypes := #[]
  resolved := Array.replicate 115 none
  statics := none }

def pool5 : Array CpInfo := pool [(8, .class_ 10), (1, u "java/util/SequencedCollection"), (15, .class_ 27), (0, u "java/lang/Object"), (0, .class_ 29), (0, u "java/util/Collection")] 27

/-- java/util/SequencedCollection -/
def k5 : Class := { plain "java/util/SequencedCollection" (some 0) with
  accessFlags := 1537
  interfaces := #[4]
  cf := some (fileOf pool5 8 #[] #[] 1537 26 #[28] #[])
  fields := #[]
  methods := #[]
  instanceTypes := #[]
  staticTypes := #[]
  resolved := Array.replicate 57 none
  statics := none }

def pool6 : Array CpInfo := pool [(8, .class_ 10), (1, u "java/util/List"), (68, u "size"), (0, u "()I"), (7, u "of"), (1, .fieldref 91 92), (0, .class_ 93), (0, .nameAndType 94 95), (0, u "java/util/ImmutableCollections"), (0, u "EMPTY_LIST"), (0, u "Ljava/util/ImmutableCollections$ListN;"), (7, .class_ 104), (0, u "java/lang/Object"), (14, u "()Ljava/util/List;"), (0, .class_ 121), (0, u "java/util/SequencedCollection")] 129

def k6m0 : Method := { name := "size", desc := "()I", sig := { parameters := [], returnType := some .int }, accessFlags := 1025, code := none }
def k6c1 : Code := { maxStack := 1, maxLocals := 0, code := jdk_40_method_36_code, exceptionTable := #[], attributes := #[] }
def k6m1 : Method := { name := "of", desc := "()Ljava/util/List;", sig := { parameters := [], returnType := some (.object "java/util/List") }, accessFlags := 9, code := some k6c1 }
/-- java/util/List -/
def k6 : Class := { plain "java/util/List" (some 0) with
  accessFlags := 1537
  interfaces := #[5]
  cf := some (fileOf pool6 8 #[] #[{ accessFlags := 1025, nameIndex := 79, descriptorIndex := 80, attributes := #[] }, { accessFlags := 9, nameIndex := 88, descriptorIndex := 119, attributes := #[] }] 1537 103 #[120] #[])
  fields := #[]
  methods := #[k6m0, k6m1]
  instanceTypes := #[]
  staticTypes := #[]
  resolved := Array.replicate 251 none
  statics := none }

def pool7 : Array CpInfo := pool [(2, .class_ 4), (1, u "java/lang/Object"), (0, u "<init>"), (0, u "()V"), (3, .class_ 11), (0, u "java/util/ImmutableCollections$List12"), (0, .class_ 13), (0, u "java/util/ImmutableCollections$ListN"), (3, u "Z"), (29, .class_ 49), (1, u "java/util/ImmutableCollections"), (0, u "$assertionsDisabled"), (5, u "[Ljava/lang/Object;"), (5, u "EMPTY_LIST"), (0, u "Ljava/util/ImmutableCollections$ListN;"), (8, u "EMPTY_LIST_NULLS"), (22, u "SALT32L"), (0, u "J"), (2, u "REVERSE"), (6, u "archivedObjects"), (2, u "EMPTY"), (0, u "Ljava/lang/Object;"), (0, .class_ 112), (0, u "java/util/ImmutableCollections$SetN"), (5, u "EMPTY_SET"), (0, u "Ljava/util/ImmutableCollections$SetN;"), (0, .class_ 121), (0, u "java/util/ImmutableCollections$MapN"), (3, u "EMPTY_MAP"), (0, u "Ljava/util/ImmutableCollections$MapN;"), (4, u "EXPAND_FACTOR"), (0, u "I"), (36, .class_ 170), (0, u "java/util/ImmutableCollections$MapN$MapNIterator"), (0, .class_ 172), (0, u "java/util/ImmutableCollections$MapN$1"), (0, .class_ 174), (0, u "java/util/ImmutableCollections$Map1"), (0, .class_ 176), (0, u "java/util/ImmutableCollections$AbstractImmutableMap"), (0, .class_ 178), (0, u "java/util/ImmutableCollections$SetN$SetNIterator"), (0, .class_ 180), (0, u "java/util/ImmutableCollections$Set12"), (0, .class_ 182), (0, u "java/util/ImmutableCollections$Set12$1"), (0, .class_ 184), (0, u "java/util/ImmutableCollections$AbstractImmutableSet"), (0, .class_ 186), (0, u "java/util/ImmutableCollections$SubList"), (0, .class_ 188), (0, u "java/util/ImmutableCollections$ListItr"), (0, .class_ 190), (0, u "java/util/ImmutableCollections$AbstractImmutableList"), (0, .class_ 192), (0, u "java/util/ImmutableCollections$AbstractImmutableCollection"), (0, .class_ 194), (0, u "java/util/ImmutableCollections$Access"), (0, .class_ 196), (0, u "java/util/ImmutableCollections$Access$1")] 16

def k7m0 : Method := { name := "<init>", desc := "()V", sig := { parameters := [], returnType := none }, accessFlags := 2, code := none }
/-- java/util/ImmutableCollections -/
def k7 : Class := { plain "java/util/ImmutableCollections" (some 0) with
  accessFlags := 32
  interfaces := #[]
  cf := some (fileOf pool7 47 #[.nestMembers #[120, 169, 171, 173, 175, 111, 177, 179, 181, 183, 12, 10, 185, 187, 189, 191, 193, 195]] #[{ accessFlags := 2, nameIndex := 5, descriptorIndex := 6, attributes := #[] }] 32 2 #[] #[{ accessFlags := 26, nameIndex := 95, descriptorIndex := 96, attributes := #[] }, { accessFlags := 26, nameIndex := 99, descriptorIndex := 17, attributes := #[] }, { accessFlags := 10, nameIndex := 106, descriptorIndex := 56, attributes := #[] }, { accessFlags := 26, nameIndex := 109, descriptorIndex := 110, attributes := #[] }, { accessFlags := 24, nameIndex := 62, descriptorIndex := 63, attributes := #[] }, { accessFlags := 24, nameIndex := 72, descriptorIndex := 63, attributes := #[] }, { accessFlags := 24, nameIndex := 118, descriptorIndex := 119, attributes := #[] }, { accessFlags := 24, nameIndex := 125, descriptorIndex := 126, attributes := #[] }, { accessFlags := 24, nameIndex := 131, descriptorIndex := 132, attributes := #[] }, { accessFlags := 4120, nameIndex := 50, descriptorIndex := 17, attributes := #[] }])
  fields := #[{ name := "SALT32L", type := .long, accessFlags := 26, slot := 0, constantValue := 0 }, { name := "REVERSE", type := .boolean, accessFlags := 26, slot := 1, constantValue := 0 }, { name := "archivedObjects", type := (.array (.object "java/lang/Object")), accessFlags := 10, slot := 2, constantValue := 0 }, { name := "EMPTY", type := (.object "java/lang/Object"), accessFlags := 26, slot := 3, constantValue := 0 }, { name := "EMPTY_LIST", type := (.object "java/util/ImmutableCollections$ListN"), accessFlags := 24, slot := 4, constantValue := 0 }, { name := "EMPTY_LIST_NULLS", type := (.object "java/util/ImmutableCollections$ListN"), accessFlags := 24, slot := 5, constantValue := 0 }, { name := "EMPTY_SET", type := (.object "java/util/ImmutableCollections$SetN"), accessFlags := 24, slot := 6, constantValue := 0 }, { name := "EMPTY_MAP", type := (.object "java/util/ImmutableCollections$MapN"), accessFlags := 24, slot := 7, constantValue := 0 }, { name := "EXPAND_FACTOR", type := .int, accessFlags := 24, slot := 8, constantValue := 0 }, { name := "$assertionsDisabled", type := .boolean, accessFlags := 4120, slot := 9, constantValue := 0 }]
  methods := #[k7m0]
  instanceTypes := #[]
  staticTypes := #[.long, .boolean, (.array (.object "java/lang/Object")), (.object "java/lang/Object"), (.object "java/util/ImmutableCollections$ListN"), (.object "java/util/ImmutableCollections$ListN"), (.object "java/util/ImmutableCollections$SetN"), (.object "java/util/ImmutableCollections$MapN"), .int, .boolean]
  resolved := Array.replicate 213 none
  statics := some 0 }

def pool8 : Array CpInfo := pool [(2, .class_ 4), (1, u "java/lang/Object"), (0, u "<init>"), (0, u "()V"), (1, .class_ 10), (1, u "java/util/AbstractCollection"), (66, .class_ 78), (0, u "java/util/Collection")] 81

def k8m0 : Method := { name := "<init>", desc := "()V", sig := { parameters := [], returnType := none }, accessFlags := 4, code := none }
/-- java/util/AbstractCollection -/
def k8 : Class := { plain "java/util/AbstractCollection" (some 0) with
  accessFlags := 1057
  interfaces := #[4]
  cf := some (fileOf pool8 8 #[] #[{ accessFlags := 4, nameIndex := 5, descriptorIndex := 6, attributes := #[] }] 1057 2 #[77] #[])
  fields := #[]
  methods := #[k8m0]
  instanceTypes := #[]
  staticTypes := #[]
  resolved := Array.replicate 160 none
  statics := none }

def pool9 : Array CpInfo := pool [(2, .class_ 4), (1, u "java/util/AbstractCollection"), (0, u "<init>"), (0, u "()V"), (1, .class_ 10), (1, u "java/util/ImmutableCollections"), (2, .class_ 14), (0, u "java/util/ImmutableCollections$AbstractImmutableCollection")] 41

def k9m0 : Method := { name := "<init>", desc := "()V", sig := { parameters := [], returnType := none }, accessFlags := 0, code := none }
/-- java/util/ImmutableCollections$AbstractImmutableCollection -/
def k9 : Class := { plain "java/util/ImmutableCollections$AbstractImmutableCollection" (some 8) with
  accessFlags := 1056
  interfaces := #[]
  cf := some (fileOf pool9 13 #[.nestHost 8] #[{ accessFlags := 0, nameIndex := 5, descriptorIndex := 6, attributes := #[] }] 1056 2 #[] #[])
  fields := #[]
  methods := #[k9m0]
  instanceTypes := #[]
  staticTypes := #[]
  resolved := Array.replicate 56 none
  statics := none }

def pool10 : Array CpInfo := pool [(1, .class_ 2), (0, u "java/util/RandomAccess"), (0, .class_ 4), (0, u "java/lang/Object")] 2

/-- java/util/RandomAccess -/
def k10 : Class := { plain "java/util/RandomAccess" (some 0) with
  accessFlags := 1537
  interfaces := #[]
  cf := some (fileOf pool10 1 #[] #[] 1537 3 #[] #[])
  fields := #[]
  methods := #[]
  instanceTypes := #[]
  staticTypes := #[]
  resolved := Array.replicate 7 none
  statics := none }

def pool11 : Array CpInfo := pool [(2, .class_ 4), (1, u "java/util/ImmutableCollections$AbstractImmutableCollection"), (0, u "<init>"), (0, u "()V"), (1, .class_ 10), (1, u "java/util/ImmutableCollections"), (3, .class_ 16), (1, u "java/util/ImmutableCollections$AbstractImmutableList"), (60, .class_ 78), (0, u "java/util/List"), (45, .class_ 125), (0, u "java/util/RandomAccess")] 70

def k11m0 : Method := { name := "<init>", desc := "()V", sig := { parameters := [], returnType := none }, accessFlags := 0, code := none }
/-- java/util/ImmutableCollections$AbstractImmutableList -/
def k11 : Class := { plain "java/util/ImmutableCollections$AbstractImmutableList" (some 9) with
  accessFlags := 1056
  interfaces := #[6, 10]
  cf := some (fileOf pool11 14 #[.nestHost 8] #[{ accessFlags := 0, nameIndex := 5, descriptorIndex := 6, attributes := #[] }] 1056 2 #[77, 124] #[])
  fields := #[]
  methods := #[k11m0]
  instanceTypes := #[]
  staticTypes := #[]
  resolved := Array.replicate 196 none
  statics := none }

def pool12 : Array CpInfo := pool [(1, .class_ 2), (0, u "java/io/Serializable"), (0, .class_ 4), (0, u "java/lang/Object")] 2

/-- java/io/Serializable -/
def k12 : Class := { plain "java/io/Serializable" (some 0) with
  accessFlags := 1537
  interfaces := #[]
  cf := some (fileOf pool12 1 #[] #[] 1537 3 #[] #[])
  fields := #[]
  methods := #[]
  instanceTypes := #[]
  staticTypes := #[]
  resolved := Array.replicate 7 none
  statics := none }

def pool13 : Array CpInfo := pool [(2, .class_ 4), (1, u "java/util/ImmutableCollections$AbstractImmutableList"), (2, .fieldref 8 9), (0, .class_ 10), (0, .nameAndType 11 12), (0, u "java/util/ImmutableCollections$ListN"), (0, u "elements"), (0, u "[Ljava/lang/Object;"), (2, u "allowNulls"), (0, u "Z"), (42, .class_ 60), (0, u "java/io/Serializable"), (16, u "size"), (0, u "()I"), (35, .class_ 115), (0, u "java/util/ImmutableCollections")] 3

def k13c0 : Code := { maxStack := 1, maxLocals := 1, code := jdk_45_method_3_code, exceptionTable := #[], attributes := #[] }
def k13m0 : Method := { name := "size", desc := "()I", sig := { parameters := [], returnType := some .int }, accessFlags := 1, code := some k13c0 }
/-- java/util/ImmutableCollections$ListN -/
def k13 : Class := { plain "java/util/ImmutableCollections$ListN" (some 11) with
  accessFlags := 48
  interfaces := #[12]
  cf := some (fileOf pool13 8 #[.nestHost 114] #[{ accessFlags := 1, nameIndex := 77, descriptorIndex := 78, attributes := #[] }] 48 2 #[59] #[{ accessFlags := 18, nameIndex := 11, descriptorIndex := 12, attributes := #[] }, { accessFlags := 18, nameIndex := 15, descriptorIndex := 16, attributes := #[] }])
  fields := #[{ name := "elements", type := (.array (.object "java/lang/Object")), accessFlags := 18, slot := 0, constantValue := 0 }, { name := "allowNulls", type := .boolean, accessFlags := 18, slot := 1, constantValue := 0 }]
  methods := #[k13m0]
  instanceTypes := #[(.array (.object "java/lang/Object")), .boolean]
  staticTypes := #[]
  resolved := Array.replicate 119 none
  statics := none }

def pool14 : Array CpInfo := pool [(1, u "java/lang/Cloneable"), (0, .class_ 1), (0, u "java/lang/Object"), (0, .class_ 3)] 3

/-- java/lang/Cloneable -/
def k14 : Class := { plain "java/lang/Cloneable" (some 0) with
  accessFlags := 1537
  interfaces := #[]
  cf := some (fileOf pool14 2 #[] #[] 1537 4 #[] #[])
  fields := #[]
  methods := #[]
  instanceTypes := #[]
  staticTypes := #[]
  resolved := Array.replicate 8 none
  statics := none }

/-- the primitive byte -/
def k15 : Class := { plain "byte" none with kind := .primitive 'B', accessFlags := 0x411 }
/-- [B -/
def k16 : Class := { plain "[B" (some 0) with kind := .array 15 .byte, interfaces := #[14, 12], accessFlags := 1041 }

/-- the primitive int -/
def k17 : Class := { plain "int" none with kind := .primitive 'I', accessFlags := 0x411 }
/-- [I -/
def k18 : Class := { plain "[I" (some 0) with kind := .array 17 .int, interfaces := #[14, 12], accessFlags := 1041 }

/-- [Ljava/lang/Object; -/
def k19 : Class := { plain "[Ljava/lang/Object;" (some 0) with kind := .array 0 (.object "java/lang/Object"), interfaces := #[14, 12], accessFlags := 1041 }

def heap : Heap := #[{ cls := 7, slots := #[.long 0, .int 0, .null, .null, .ref 2, .null, .null, .null, .int 0, .int 0], vm := .statics 7 },
  { cls := 19, slots := #[], vm := .none },
  { cls := 13, slots := #[.ref 1, .int 0], vm := .none }]
def classes : Array Class := #[k0, k1, k2, k3, k4, k5, k6, k7, k8, k9, k10, k11, k12, k13, k14, k15, k16, k17, k18, k19]
def interned : List (Array UInt16 × Addr) := []
def slotsUsed : Nat := 12
def theMethod : MethodId := ⟨1, 1⟩
def args0 : Array Value := #[.long 5, .long 7]
def aboutOver (below : List Frame) : State where
  vm := { classes := classes, interned := interned.toArray }
  heap := heap
  slotsUsed := slotsUsed
  threads := #[{ frames := .invoking theMethod args0 :: below }]
def below0 : List Frame := [.native { method := ⟨0, 0⟩, args := #[] }]
def about1 : State := aboutOver below0
def p0 : Program := .bare "" "" ""
def e0 : Env := launch0.env 0 0 0
theorem w_frames : about1.frames = Frame.invoking theMethod args0 :: below0 := rfl
set_option maxRecDepth 65536 in
theorem w_args : argsFit about1.vm theMethod args0 = true := by decide +kernel
set_option maxRecDepth 65536 in
theorem w_heap : heapFits about1 = true := by decide +kernel
set_option maxRecDepth 65536 in
theorem w_runnable : about1.curStatus? = some .runnable := by decide +kernel
set_option maxRecDepth 65536 in
theorem w_alone : about1.alone = true := by decide +kernel
set_option maxRecDepth 65536 in
theorem w_named : about1.methodNamed? x = some theMethod := by decide +kernel
set_option maxRecDepth 65536 in
theorem w_hears : about1.hears theMethod below0 = true := by decide +kernel
set_option maxRecDepth 65536 in
theorem w_ripe : about1.ripe theMethod args0 below0 = true := by decide +kernel
theorem w_running : about1.status = .running := rfl
set_option maxRecDepth 65536 in
theorem w_room : about1.hasRoom e0.platform room_1 = true :=
  launch0.hasRoom_least _ room_1 (by decide +kernel) (by decide +kernel) (by decide +kernel) (by decide +kernel) (by decide +kernel) (by decide +kernel)
theorem allAtoms_all (ts : List Jvm.Cond) (a : Array Jvm.Value) (st : Jvm.State) : (allAtoms ts).before a st = ts.all (fun c => c.before a st) := by
  induction ts with
  | nil => rfl
  | cons c t ih =>
    show (Jvm.Cond.and c (allAtoms t)).before a st = _
    rw [Jvm.Cond.before_and, ih, List.all_cons]
def words1 : List Jvm.Cond := Jvm.Cond.code x code maxLocals ret :: tables_1
/-- a 'code' word, met by the world's own term for the bytes: nothing is compared byte by byte -/
theorem code_word {y : MethodName} {bytes : ByteArray} {mx : Nat} {rt : Option FieldType} {a : Array Value} {s : State} {m : MethodId} {meth : Method} {c : Code} (h1 : s.methodNamed? y = some m) (h2 : s.vm.method? m = some meth) (h3 : meth.code = some c) (h4 : c.code = bytes)
    (h5 : (c.maxLocals == mx && c.exceptionTable.isEmpty && decide (c.maxStack ≤ mostOperands) && decide (meth.sig.returnType = rt) && !meth.locks && decide (parseMethodDescriptor y.desc = some meth.sig)) = true) : (Jvm.Cond.code y bytes mx rt).before a s = true := by
  simp only [Bool.and_eq_true, beq_iff_eq, Bool.not_eq_true', decide_eq_true_eq] at h5
  obtain ⟨⟨⟨⟨⟨g1, g2⟩, g3⟩, g4⟩, g5⟩, g6⟩ := h5
  simp [Cond.before, Cond.holds, Cond.value, h1, h2, h3, h4, g1, g2, g3, g4, g5, g6]
def isCode : Jvm.Cond → Bool
  | .code _ _ _ _ => true
  | _ => false
theorem all_split {L : List Jvm.Cond} {P : Jvm.Cond → Bool} (h1 : L.all (fun c => isCode c || P c) = true) (h2 : ∀ c ∈ L.filter isCode, P c = true) : L.all P = true := by
  refine List.all_eq_true.mpr fun c hc => ?_
  have h := List.all_eq_true.mp h1 c hc
  rcases Bool.eq_false_or_eq_true (isCode c) with hi | hi
  · exact h2 c (List.mem_filter.mpr ⟨hc, hi⟩)
  · simpa [hi] using h
set_option maxRecDepth 65536 in
theorem w_c0 : (Jvm.Cond.code x code maxLocals ret).before args0 about1 = true := code_word (m := ⟨1, 1⟩) (meth := k1m1) (c := k1c1) (by decide +kernel) rfl rfl rfl (by decide +kernel)
set_option maxRecDepth 65536 in
theorem w_c1 : (Jvm.Cond.code ({ cls := "com/example/tiroir/tiroir/Query", name := "all", desc := "()Lcom/example/tiroir/tiroir/Query;" } : Jvm.MethodName) prog_26_method_2_code (0 : Nat) (Option.some (Jvm.ClassFile.FieldType.object "com/example/tiroir/tiroir/Query"))).before args0 about1 = true := code_word (m := ⟨2, 1⟩) (meth := k2m1) (c := k2c1) (by decide +kernel) rfl rfl rfl (by decide +kernel)
set_option maxRecDepth 65536 in
theorem w_c2 : (Jvm.Cond.code ({ cls := "java/util/List", name := "of", desc := "()Ljava/util/List;" } : Jvm.MethodName) jdk_40_method_36_code (0 : Nat) (Option.some (Jvm.ClassFile.FieldType.object "java/util/List"))).before args0 about1 = true := code_word (m := ⟨6, 1⟩) (meth := k6m1) (c := k6c1) (by decide +kernel) rfl rfl rfl (by decide +kernel)
set_option maxRecDepth 65536 in
theorem w_c3 : (Jvm.Cond.code ({ cls := "com/example/tiroir/tiroir/Query", name := "<init>", desc := "(Lcom/example/tiroir/tiroir/Predicate;Ljava/util/List;JJ)V" } : Jvm.MethodName) prog_26_method_1_code (7 : Nat) (Option.none : Option Jvm.ClassFile.FieldType)).before args0 about1 = true := code_word (m := ⟨2, 0⟩) (meth := k2m0) (c := k2c0) (by decide +kernel) rfl rfl rfl (by decide +kernel)
set_option maxRecDepth 65536 in
theorem w_c4 : (Jvm.Cond.code ({ cls := "java/lang/Object", name := "<init>", desc := "()V" } : Jvm.MethodName) object_method_1_code (1 : Nat) (Option.none : Option Jvm.ClassFile.FieldType)).before args0 about1 = true := code_word (m := ⟨0, 0⟩) (meth := k0m0) (c := k0c0) (by decide +kernel) rfl rfl rfl (by decide +kernel)
set_option maxRecDepth 65536 in
theorem w_c5 : (Jvm.Cond.code ({ cls := "com/example/tiroir/tiroir/Query", name := "predicate", desc := "()Lcom/example/tiroir/tiroir/Predicate;" } : Jvm.MethodName) prog_26_method_7_code (1 : Nat) (Option.some (Jvm.ClassFile.FieldType.object "com/example/tiroir/tiroir/Predicate"))).before args0 about1 = true := code_word (m := ⟨2, 4⟩) (meth := k2m4) (c := k2c4) (by decide +kernel) rfl rfl rfl (by decide +kernel)
set_option maxRecDepth 65536 in
theorem w_c6 : (Jvm.Cond.code ({ cls := "com/example/tiroir/tiroir/Query", name := "orderings", desc := "()Ljava/util/List;" } : Jvm.MethodName) prog_26_method_8_code (1 : Nat) (Option.some (Jvm.ClassFile.FieldType.object "java/util/List"))).before args0 about1 = true := code_word (m := ⟨2, 5⟩) (meth := k2m5) (c := k2c5) (by decide +kernel) rfl rfl rfl (by decide +kernel)
set_option maxRecDepth 65536 in
theorem w_c7 : (Jvm.Cond.code ({ cls := "java/util/ImmutableCollections$ListN", name := "size", desc := "()I" } : Jvm.MethodName) jdk_45_method_3_code (1 : Nat) (Option.some Jvm.ClassFile.FieldType.int)).before args0 about1 = true := code_word (m := ⟨13, 0⟩) (meth := k13m0) (c := k13c0) (by decide +kernel) rfl rfl rfl (by decide +kernel)
set_option maxRecDepth 65536 in
theorem w_c8 : (Jvm.Cond.code ({ cls := "com/example/tiroir/tiroir/Query", name := "skipCount", desc := "()J" } : Jvm.MethodName) prog_26_method_10_code (1 : Nat) (Option.some Jvm.ClassFile.FieldType.long)).before args0 about1 = true := code_word (m := ⟨2, 6⟩) (meth := k2m6) (c := k2c6) (by decide +kernel) rfl rfl rfl (by decide +kernel)
set_option maxRecDepth 65536 in
theorem w_c9 : (Jvm.Cond.code ({ cls := "com/example/tiroir/tiroir/Query", name := "limitCount", desc := "()J" } : Jvm.MethodName) prog_26_method_11_code (1 : Nat) (Option.some Jvm.ClassFile.FieldType.long)).before args0 about1 = true := code_word (m := ⟨2, 7⟩) (meth := k2m7) (c := k2c7) (by decide +kernel) rfl rfl rfl (by decide +kernel)
set_option maxRecDepth 65536 in
theorem w_c10 : (Jvm.Cond.code ({ cls := "com/example/tiroir/tiroir/Query", name := "isPaged", desc := "()Z" } : Jvm.MethodName) prog_26_method_12_code (1 : Nat) (Option.some Jvm.ClassFile.FieldType.boolean)).before args0 about1 = true := code_word (m := ⟨2, 8⟩) (meth := k2m8) (c := k2c8) (by decide +kernel) rfl rfl rfl (by decide +kernel)
set_option maxRecDepth 65536 in
theorem w_c11 : (Jvm.Cond.code ({ cls := "com/example/tiroir/tiroir/Query", name := "skip", desc := "(J)Lcom/example/tiroir/tiroir/Query;" } : Jvm.MethodName) prog_26_method_5_code (3 : Nat) (Option.some (Jvm.ClassFile.FieldType.object "com/example/tiroir/tiroir/Query"))).before args0 about1 = true := code_word (m := ⟨2, 2⟩) (meth := k2m2) (c := k2c2) (by decide +kernel) rfl rfl rfl (by decide +kernel)
set_option maxRecDepth 65536 in
theorem w_c12 : (Jvm.Cond.code ({ cls := "com/example/tiroir/tiroir/Query", name := "limit", desc := "(J)Lcom/example/tiroir/tiroir/Query;" } : Jvm.MethodName) prog_26_method_6_code (3 : Nat) (Option.some (Jvm.ClassFile.FieldType.object "com/example/tiroir/tiroir/Query"))).before args0 about1 = true := code_word (m := ⟨2, 3⟩) (meth := k2m3) (c := k2c3) (by decide +kernel) rfl rfl rfl (by decide +kernel)
def codes1 : List Jvm.Cond := [Jvm.Cond.code x code maxLocals ret, Jvm.Cond.code ({ cls := "com/example/tiroir/tiroir/Query", name := "all", desc := "()Lcom/example/tiroir/tiroir/Query;" } : Jvm.MethodName) prog_26_method_2_code (0 : Nat) (Option.some (Jvm.ClassFile.FieldType.object "com/example/tiroir/tiroir/Query")), Jvm.Cond.code ({ cls := "java/util/List", name := "of", desc := "()Ljava/util/List;" } : Jvm.MethodName) jdk_40_method_36_code (0 : Nat) (Option.some (Jvm.ClassFile.FieldType.object "java/util/List")), Jvm.Cond.code ({ cls := "com/example/tiroir/tiroir/Query", name := "<init>", desc := "(Lcom/example/tiroir/tiroir/Predicate;Ljava/util/List;JJ)V" } : Jvm.MethodName) prog_26_method_1_code (7 : Nat) (Option.none : Option Jvm.ClassFile.FieldType), Jvm.Cond.code ({ cls := "java/lang/Object", name := "<init>", desc := "()V" } : Jvm.MethodName) object_method_1_code (1 : Nat) (Option.none : Option Jvm.ClassFile.FieldType), Jvm.Cond.code ({ cls := "com/example/tiroir/tiroir/Query", name := "predicate", desc := "()Lcom/example/tiroir/tiroir/Predicate;" } : Jvm.MethodName) prog_26_method_7_code (1 : Nat) (Option.some (Jvm.ClassFile.FieldType.object "com/example/tiroir/tiroir/Predicate")), Jvm.Cond.code ({ cls := "com/example/tiroir/tiroir/Query", name := "orderings", desc := "()Ljava/util/List;" } : Jvm.MethodName) prog_26_method_8_code (1 : Nat) (Option.some (Jvm.ClassFile.FieldType.object "java/util/List")), Jvm.Cond.code ({ cls := "java/util/ImmutableCollections$ListN", name := "size", desc := "()I" } : Jvm.MethodName) jdk_45_method_3_code (1 : Nat) (Option.some Jvm.ClassFile.FieldType.int), Jvm.Cond.code ({ cls := "com/example/tiroir/tiroir/Query", name := "skipCount", desc := "()J" } : Jvm.MethodName) prog_26_method_10_code (1 : Nat) (Option.some Jvm.ClassFile.FieldType.long), Jvm.Cond.code ({ cls := "com/example/tiroir/tiroir/Query", name := "limitCount", desc := "()J" } : Jvm.MethodName) prog_26_method_11_code (1 : Nat) (Option.some Jvm.ClassFile.FieldType.long), Jvm.Cond.code ({ cls := "com/example/tiroir/tiroir/Query", name := "isPaged", desc := "()Z" } : Jvm.MethodName) prog_26_method_12_code (1 : Nat) (Option.some Jvm.ClassFile.FieldType.boolean), Jvm.Cond.code ({ cls := "com/example/tiroir/tiroir/Query", name := "skip", desc := "(J)Lcom/example/tiroir/tiroir/Query;" } : Jvm.MethodName) prog_26_method_5_code (3 : Nat) (Option.some (Jvm.ClassFile.FieldType.object "com/example/tiroir/tiroir/Query")), Jvm.Cond.code ({ cls := "com/example/tiroir/tiroir/Query", name := "limit", desc := "(J)Lcom/example/tiroir/tiroir/Query;" } : Jvm.MethodName) prog_26_method_6_code (3 : Nat) (Option.some (Jvm.ClassFile.FieldType.object "com/example/tiroir/tiroir/Query"))]
set_option maxRecDepth 65536 in
theorem codes_eq : words1.filter isCode = codes1 := rfl
theorem w_codes : ∀ c ∈ words1.filter isCode, c.before args0 about1 = true := by
  rw [codes_eq]
  intro c hc
  simp only [codes1, List.mem_cons, List.not_mem_nil, or_false] at hc
  rcases hc with rfl | rfl | rfl | rfl | rfl | rfl | rfl | rfl | rfl | rfl | rfl | rfl | rfl
  · exact w_c0
  · exact w_c1
  · exact w_c2
  · exact w_c3
  · exact w_c4
  · exact w_c5
  · exact w_c6
  · exact w_c7
  · exact w_c8
  · exact w_c9
  · exact w_c10
  · exact w_c11
  · exact w_c12
set_option maxRecDepth 65536 in
theorem w_t1 : (words1.take 24).all (fun c => isCode c || c.before args0 about1) = true := by decide +kernel
set_option maxRecDepth 65536 in
theorem w_t2 : ((words1.drop 24).take 24).all (fun c => isCode c || c.before args0 about1) = true := by decide +kernel
set_option maxRecDepth 65536 in
theorem w_t3 : (((words1.drop 24).drop 24).take 24).all (fun c => isCode c || c.before args0 about1) = true := by decide +kernel
set_option maxRecDepth 65536 in
theorem w_t4 : (((words1.drop 24).drop 24).drop 24).all (fun c => isCode c || c.before args0 about1) = true := by decide +kernel
theorem w_tables : (allAtoms (Jvm.Cond.code x code maxLocals ret :: tables_1)).before args0 about1 = true := by
  rw [allAtoms_all]
  show words1.all (fun c => c.before args0 about1) = true
  refine all_split ?_ w_codes
  rw [← List.take_append_drop 24 words1, List.all_append, w_t1, ← List.take_append_drop 24 (words1.drop 24), List.all_append, w_t2, ← List.take_append_drop 24 ((words1.drop 24).drop 24), List.all_append, w_t3, w_t4]
  rfl
set_option maxRecDepth 65536 in
theorem w_rest : rest_1_c.before args0 about1 = true := by decide +kernel
set_option maxRecDepth 65536 in
theorem w_case : (Jvm.Cond.and given_1 narrow_1).before args0 about1 = true := by decide +kernel
theorem w_applies : (headSpec (Jvm.Cond.code x code maxLocals ret :: tables_1) room_1).applies x e0.platform about1 = true :=
  (Spec.applies_iff w_frames).mpr ⟨w_running, w_runnable, w_alone, w_named, w_hears, w_ripe, w_room, w_tables⟩
theorem atStart : AtStart classFile x code maxLocals ret World_1 tables_1 room_1 Calls_1 rest_1 Pre_1 launch0 p0 e0 about1 theMethod args0 below0 :=
  ⟨lists_1, trivial, launch0.admits_env _ _ _, launch0.least_env, fairChoices_fair.cas, fairChoices_fair.clock, w_frames, w_args, w_heap, w_applies, trivial, w_rest, w_case⟩
end start1
theorem witness_1 : WitnessClaimed_1 := ⟨start1.p0, start1.e0, start1.about1, start1.theMethod, start1.args0, start1.below0, start1.atStart⟩
end Jvm.Pilot.@@N@@
