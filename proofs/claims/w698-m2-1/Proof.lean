import JvmDerived
import JvmDerived.Pilot.@@N@@Statement
import JvmDerived.Pilot.@@N@@Code
set_option linter.unusedVariables false
set_option linter.unusedSimpArgs false
namespace Jvm.Pilot.@@N@@
open Jvm Jvm.ClassFile Sem Op Lib Jvm.Free Jvm.Stand Jvm.LawKit Jvm.RoadKit Bundle Jvm.Pilot.@@N@@.Jvm.D
section OwnKit
variable {p : Program} {l : Launch} {e : Env} {R : Room} {s : State} {m : MethodId} {args : Array Value} {below : List Frame} {meth : Method} {c : Code} {T : State} {locs : List Loc} {cells slots : Nat} {Z : State} {a0 : Array Value} {h h0 : Heap}
/-- the run comes from S to an end of which Q speaks -/
def Gl (p : Program) (e : Env) (below : List Frame) (s : State) (Q : Option Value → Heap → List Loc → Prop) (cc kk : Nat) (S : State) : Prop :=
  ∃ t o, Steps p.tables e below S t ∧ t.status = .running ∧ Ended t below o ∧ ∃ v L, o = .returned v ∧ Q v t.heap L ∧ FrameEnd s o t L cc kk
theorem Gl.pre {Q : Option Value → Heap → List Loc → Prop} {cc kk : Nat} {S S' : State} (st : ∀ t, Steps p.tables e below S' t → Steps p.tables e below S t) (k : Gl p e below s Q cc kk S') : Gl p e below s Q cc kk S := by
  obtain ⟨t, o, h1, h2⟩ := k
  exact ⟨t, o, st _ h1, h2⟩
theorem Gl.ret {Q : Option Value → Heap → List Loc → Prop} {cc kk : Nat} {S : State} (X : Stand p l e R s m args below meth c T locs cells slots) {v : Option Value} (hv : meth.sig.returnType = none → v = none) (hlocks : meth.locks = false) (hQ : Q v T.heap locs) (hc : cells ≤ cc) (hk : slots ≤ kk)
    (st : ∀ fs, (∀ (f : JFrame) (acts : List Action), f.method = m → f.locked = none → f.entered = [] → (doReturn e (T.setTop f) acts v).1 = T.setFrames fs) → Steps p.tables e below S (T.setFrames fs)) : Gl p e below s Q cc kk S := by
  obtain ⟨fs, hr, hrun, hended, hW, hsame⟩ := X.leave (v := v) hv hlocks
  exact ⟨_, _, st fs hr, hrun, hended, _, _, rfl, hQ, ⟨_, rfl⟩, hW, hsame.mono hc hk⟩
theorem Gl.fin {Q : Option Value → Heap → List Loc → Prop} {cc kk : Nat} {S : State} (X : Stand p l e R s m args below meth c T locs cells slots) {v : Option Value} (hv : meth.sig.returnType = none → v = none) (hlocks : meth.locks = false) (hQ : Q v h locs) (eT : T.heap = h) (hc : cells ≤ cc) (hk : slots ≤ kk)
    (st : ∀ fs, (∀ (f : JFrame) (acts : List Action), f.method = m → f.locked = none → f.entered = [] → (doReturn e (T.setTop f) acts v).1 = T.setFrames fs) → Steps p.tables e below S (T.setFrames fs)) : Gl p e below s Q cc kk S :=
  Gl.ret X hv hlocks (by rw [eT]; exact hQ) hc hk st
abbrev OMet (l : Launch) (Z : State) (y : MethodName) (bytes : ByteArray) (maxL : Nat) (ret : Option FieldType) (ws : List Jvm.Cond) (rm : Room) (as' : Array Value) (h0 : Heap) (Q : Option Value → Heap → List Loc → Prop) : Prop :=
  MetFree l y (head1 (Jvm.Cond.code y bytes maxL ret :: ws) rm) (fun a U => a = as' ∧ Z.Warmed39 U.vm ∧ U.heap = h0) (fun _ _ _ _ _ => True) (fun _ U o U' => ∃ v L, o = .returned v ∧ Q v U'.heap L ∧ FrameEnd U o U' L rm.cells rm.slots)
theorem own_body {y : MethodName} {bytes : ByteArray} {maxL : Nat} {ret : Option FieldType} {ws : List Jvm.Cond} {rm : Room} {as' : Array Value} {Q : Option Value → Heap → List Loc → Prop} (hx : plainFor y = true)
    (H : ∀ p e s m below meth c s₁, BodyLoose p l y (head1 (Jvm.Cond.code y bytes maxL ret :: ws) rm) bytes maxL ret e s m as' below meth c s₁ → c.maxLocals = maxL → Z.Warmed39 s.vm → s₁.heap = h0 → Gl p e below s Q rm.cells rm.slots (s₁.setTop (entryFrame m as' maxL))) :
    OMet l Z y bytes maxL ret ws rm as' h0 Q := by
  refine MetFree.of_bodySF hx hisR ?_
  intro p e s m args below meth c s₁ Bd hml0 hP hK
  obtain ⟨rfl, hZ, hh⟩ := hP
  exact H p e s m below meth c s₁ Bd hml0 hZ (by rw [← hh, Bd.state]; rfl)
/-- an int is returned -/
theorem own_retI (X : Stand p l e R s m args below meth c T locs cells slots) (hx : p.tables.exec = Jvm.exec) {pc : Nat} {Ls : Array Slot} {z : Int32} {rest : List Value} (hret : meth.sig.returnType = some .int) (hd : decode c.code pc = .ok (.ireturn, 1)) {fs : List Frame}
    (hl : ∀ (f : JFrame) (acts : List Action), f.method = m → f.locked = none → f.entered = [] → (doReturn e (T.setTop f) acts (some (.int z))).1 = T.setFrames fs) : Steps p.tables e below (T.setTop (mkF m pc Ls (.int z :: rest))) (T.setFrames fs) :=
  retOut X hx hret rfl (Or.inl ⟨rfl, Or.inl rfl, z, rfl⟩) hd hl
theorem own_retJ (X : Stand p l e R s m args below meth c T locs cells slots) (hx : p.tables.exec = Jvm.exec) {pc : Nat} {Ls : Array Slot} {z : Int64} {rest : List Value} (hret : meth.sig.returnType = some .long) (hd : decode c.code pc = .ok (.lreturn, 1)) {fs : List Frame}
    (hl : ∀ (f : JFrame) (acts : List Action), f.method = m → f.locked = none → f.entered = [] → (doReturn e (T.setTop f) acts (some (.long z))).1 = T.setFrames fs) : Steps p.tables e below (T.setTop (mkF m pc Ls (.long z :: rest))) (T.setFrames fs) :=
  retOut X hx hret rfl (Or.inr (Or.inl ⟨rfl, rfl, z, rfl⟩)) hd hl
theorem own_retD (X : Stand p l e R s m args below meth c T locs cells slots) (hx : p.tables.exec = Jvm.exec) {pc : Nat} {Ls : Array Slot} {z : UInt64} {rest : List Value} (hret : meth.sig.returnType = some .double) (hd : decode c.code pc = .ok (.dreturn, 1)) {fs : List Frame}
    (hl : ∀ (f : JFrame) (acts : List Action), f.method = m → f.locked = none → f.entered = [] → (doReturn e (T.setTop f) acts (some (.double z))).1 = T.setFrames fs) : Steps p.tables e below (T.setTop (mkF m pc Ls (.double z :: rest))) (T.setFrames fs) :=
  retOut X hx hret rfl (Or.inr (Or.inr (Or.inl ⟨rfl, rfl, z, rfl⟩))) hd hl
theorem own_retR (X : Stand p l e R s m args below meth c T locs cells slots) (hx : p.tables.exec = Jvm.exec) {pc : Nat} {Ls : Array Slot} {w : Value} {t : FieldType} {rest : List Value} (hret : meth.sig.returnType = some t) (ht : t.isReference = true) (hn : narrow t w = w) (hw : w.isRef = true) (hd : decode c.code pc = .ok (.areturn, 1)) {fs : List Frame}
    (hl : ∀ (f : JFrame) (acts : List Action), f.method = m → f.locked = none → f.entered = [] → (doReturn e (T.setTop f) acts (some w)).1 = T.setFrames fs) : Steps p.tables e below (T.setTop (mkF m pc Ls (w :: rest))) (T.setFrames fs) :=
  retOut X hx hret hn (Or.inr (Or.inr (Or.inr (Or.inr ⟨rfl, ht, hw⟩)))) hd hl
/-- a static method by its contract -/
theorem own_callS (X : Stand p l e R s m args below meth c T locs cells slots) (hx : p.tables.exec = Jvm.exec) (hZ : Z.Warmed39 s.vm) {own : String} {index : Nat} {y : MethodName} {bytes : ByteArray} {maxL : Nat} {ret : Option FieldType} {rm : Room} {Q : Option Value → Heap → List Loc → Prop}
    (hown : s.vm.findClass own = some m.cls) (w1 : (Jvm.Cond.methodLink own index y).before a0 Z = true) (w2 : (Jvm.Cond.static y).before a0 Z = true) (w3 : (Jvm.Cond.initialized y.cls).before a0 Z = true) (w4 : (Jvm.Cond.code y bytes maxL ret).before a0 Z = true)
    (hy : y.cls ≠ "java/lang/invoke/MethodHandle" ∧ y.cls ≠ "java/lang/invoke/VarHandle") {argsL rest : List Value} (hM : OMet l Z y bytes maxL ret [] rm argsL.toArray h Q) {W : Nat} (hf : rm.frames + 1 ≤ R.frames) (hl : W + (maxL + 11) + rm.locals ≤ R.locals) (hc : cells + rm.cells ≤ R.cells) (hs : slots + rm.slots ≤ R.slots)
    (eT : T.heap = h) {pc : Nat} {Ls : Array Slot} (hsize : Ls.size = c.maxLocals) (hlen : ∀ sig, parseMethodDescriptor y.desc = some sig → argsL.length = sig.parameters.length) (hW : (rest.map fun v => v.category).sum ≤ W) (hd : decode c.code pc = .ok (.invokestatic index, 3)) :
    ∃ (v : Option Value) (T' : State) (L : List Loc), Stand p l e R s m args below meth c T' (locs ++ L) (cells + rm.cells) (slots + rm.slots) ∧ Q v T'.heap L ∧
      ∀ t, Steps p.tables e below (T'.setTop (mkF m (pc + 3) Ls (v.toList ++ rest))) t → Steps p.tables e below (T.setTop (mkF m pc Ls (argsL.reverse ++ rest))) t := by
  obtain ⟨v, _, ⟨T', L', k', n'⟩, -, X', ⟨L, hQ, hl', hy', hz'⟩, st⟩ := Jvm.LawKit.callS X hx (y := y) hown (mvT hZ w1) (mvT hZ w2) (mvT hZ w3) (mvT hZ w4) hy (backOf (W := W) hM hZ w4 w3 hf hl) (g := mkF m pc Ls (argsL.reverse ++ rest)) rfl hsize (argsL := argsL) (rest := rest) hlen rfl (by show 2 * 0 + _ ≤ _; omega) hd (fun _ _ => ⟨rfl, eT, hc, hs⟩)
  dsimp only [Pt.U, Pt.locs, Pt.cells, Pt.slots] at X' hl' hy' hz' st hQ
  subst hl' hy' hz'
  exact ⟨v, T', L, X', hQ, st⟩
/-- a constructor by its contract -/
theorem own_callI (X : Stand p l e R s m args below meth c T locs cells slots) (hx : p.tables.exec = Jvm.exec) (hZ : Z.Warmed39 s.vm) {own : String} {index : Nat} {y : MethodName} {bytes : ByteArray} {maxL : Nat} {rm : Room} {Q : Option Value → Heap → List Loc → Prop} (hy1 : y.name = "<init>")
    (hown : s.vm.findClass own = some m.cls) (w1 : (Jvm.Cond.methodLink own index y).before a0 Z = true) (w2 : (Jvm.Cond.instanceMethod y).before a0 Z = true) (w3 : (Jvm.Cond.initialized y.cls).before a0 Z = true) (w4 : (Jvm.Cond.code y bytes maxL none).before a0 Z = true)
    (hy : y.cls ≠ "java/lang/invoke/MethodHandle" ∧ y.cls ≠ "java/lang/invoke/VarHandle") {a : Addr} {argsL rest : List Value} (hM : OMet l Z y bytes maxL none [] rm (.ref a :: argsL).toArray h Q) {W : Nat} (hf : rm.frames + 1 ≤ R.frames) (hl : W + (maxL + 11) + rm.locals ≤ R.locals) (hc : cells + rm.cells ≤ R.cells) (hs : slots + rm.slots ≤ R.slots)
    (eT : T.heap = h) {pc : Nat} {Ls : Array Slot} (hsize : Ls.size = c.maxLocals) (hlen : ∀ sig, parseMethodDescriptor y.desc = some sig → argsL.length = sig.parameters.length) (hW : (rest.map fun v => v.category).sum ≤ W) (hd : decode c.code pc = .ok (.invokespecial index, 3)) :
    ∃ (v : Option Value) (T' : State) (L : List Loc), Stand p l e R s m args below meth c T' (locs ++ L) (cells + rm.cells) (slots + rm.slots) ∧ Q v T'.heap L ∧
      ∀ t, Steps p.tables e below (T'.setTop (mkF m (pc + 3) Ls (v.toList ++ rest))) t → Steps p.tables e below (T.setTop (mkF m pc Ls (argsL.reverse ++ .ref a :: rest))) t := by
  obtain ⟨v, _, ⟨T', L', k', n'⟩, -, X', ⟨L, hQ, hl', hy', hz'⟩, st⟩ := X.specialBack hx (y := y) hy1 hown (mvT hZ w1) (mvT hZ w2) (mvT hZ w4) hy (backOf (W := W) hM hZ w4 w3 hf hl) (g := mkF m pc Ls (argsL.reverse ++ .ref a :: rest)) rfl hsize (Steps.refl _) (a := a) (argsL := argsL) (rest := rest) hlen rfl (by show 2 * 0 + _ ≤ _; omega) hd (fun _ _ => ⟨rfl, eT, hc, hs⟩)
  dsimp only [Pt.U, Pt.locs, Pt.cells, Pt.slots] at X' hl' hy' hz' st hQ
  subst hl' hy' hz'
  exact ⟨v, T', L, X', hQ, fun t k => st.trans k⟩
/-- an instance method by its contract, the receiver's class known -/
theorem own_callV (X : Stand p l e R s m args below meth c T locs cells slots) (hx : p.tables.exec = Jvm.exec) (hZ : Z.Warmed39 s.vm) {own C : String} {index : Nat} {y z : MethodName} {bytes : ByteArray} {maxL : Nat} {ret : Option FieldType} {rm : Room} {Q : Option Value → Heap → List Loc → Prop}
    (hown : s.vm.findClass own = some m.cls) (w1 : (Jvm.Cond.methodLink own index y).before a0 Z = true) (wd : (Jvm.Cond.declares y).before a0 Z = true) (hnf : NotFace s y) (ws : (Jvm.Cond.selects C y z).before a0 Z = true) (w2 : (Jvm.Cond.instanceMethod z).before a0 Z = true) (w3 : (Jvm.Cond.initialized z.cls).before a0 Z = true) (w4 : (Jvm.Cond.code z bytes maxL ret).before a0 Z = true)
    (hy : y.cls ≠ "java/lang/invoke/MethodHandle" ∧ y.cls ≠ "java/lang/invoke/VarHandle") {a : Addr} (E : Exa Z h a C) {argsL rest : List Value} (hM : OMet l Z z bytes maxL ret [] rm (.ref a :: argsL).toArray h Q) {W : Nat} (hf : rm.frames + 1 ≤ R.frames) (hl : W + (maxL + 11) + rm.locals ≤ R.locals) (hc : cells + rm.cells ≤ R.cells) (hs : slots + rm.slots ≤ R.slots)
    (eT : T.heap = h) {pc : Nat} {Ls : Array Slot} (hsize : Ls.size = c.maxLocals) (hlen : ∀ sig, parseMethodDescriptor y.desc = some sig → argsL.length = sig.parameters.length) (hW : (rest.map fun v => v.category).sum ≤ W) (hd : decode c.code pc = .ok (.invokevirtual index, 3)) :
    ∃ (v : Option Value) (T' : State) (L : List Loc), Stand p l e R s m args below meth c T' (locs ++ L) (cells + rm.cells) (slots + rm.slots) ∧ Q v T'.heap L ∧
      ∀ t, Steps p.tables e below (T'.setTop (mkF m (pc + 3) Ls (v.toList ++ rest))) t → Steps p.tables e below (T.setTop (mkF m pc Ls (argsL.reverse ++ .ref a :: rest))) t := by
  obtain ⟨cB, kB, q1, q2, q3⟩ := isOf hZ eT E
  obtain ⟨v, _, ⟨T', L', k', n'⟩, -, X', ⟨L, hQ, hl', hy', hz'⟩, st⟩ := X.virtualBack hx (y := y) (z := z) hown (mvT hZ w1) (mvT hZ wd) hnf (mvT hZ ws) (mvT hZ w2) hy (backOf (W := W) hM hZ w4 w3 hf hl) q1 q3 (g := mkF m pc Ls (argsL.reverse ++ .ref a :: rest)) rfl hsize (Steps.refl _) (argsL := argsL) (rest := rest) hlen rfl (by show 2 * 0 + _ ≤ _; omega) hd (fun _ _ => ⟨rfl, eT, hc, hs⟩)
  dsimp only [Pt.U, Pt.locs, Pt.cells, Pt.slots] at X' hl' hy' hz' st hQ
  subst hl' hy' hz'
  exact ⟨v, T', L, X', hQ, fun t k => st.trans k⟩
/-- an inherited instance method: the link names a class that doesn't declare it -/
theorem own_callU (X : Stand p l e R s m args below meth c T locs cells slots) (hx : p.tables.exec = Jvm.exec) (hZ : Z.Warmed39 s.vm) {own C owner : String} {index : Nat} {y z : MethodName} {bytes : ByteArray} {maxL : Nat} {ret : Option FieldType} {rm : Room} {Q : Option Value → Heap → List Loc → Prop}
    (hown : s.vm.findClass own = some m.cls) (w1 : (Jvm.Cond.methodLink own index y).before a0 Z = true) (wm : (Jvm.Cond.sameMethod y.cls owner y.name y.desc).before a0 Z = true) (wd : (Jvm.Cond.declares ⟨owner, y.name, y.desc⟩).before a0 Z = true) (ws : (Jvm.Cond.selects C y z).before a0 Z = true) (w2 : (Jvm.Cond.instanceMethod z).before a0 Z = true) (w3 : (Jvm.Cond.initialized z.cls).before a0 Z = true) (w4 : (Jvm.Cond.code z bytes maxL ret).before a0 Z = true)
    (hy : owner ≠ "java/lang/invoke/MethodHandle" ∧ owner ≠ "java/lang/invoke/VarHandle") {a : Addr} (E : Exa Z h a C) {argsL rest : List Value} (hM : OMet l Z z bytes maxL ret [] rm (.ref a :: argsL).toArray h Q) {W : Nat} (hf : rm.frames + 1 ≤ R.frames) (hl : W + (maxL + 11) + rm.locals ≤ R.locals) (hc : cells + rm.cells ≤ R.cells) (hs : slots + rm.slots ≤ R.slots)
    (eT : T.heap = h) {pc : Nat} {Ls : Array Slot} (hsize : Ls.size = c.maxLocals) (hlen : ∀ sig, parseMethodDescriptor y.desc = some sig → argsL.length = sig.parameters.length) (hW : (rest.map fun v => v.category).sum ≤ W) (hd : decode c.code pc = .ok (.invokevirtual index, 3)) :
    ∃ (v : Option Value) (T' : State) (L : List Loc), Stand p l e R s m args below meth c T' (locs ++ L) (cells + rm.cells) (slots + rm.slots) ∧ Q v T'.heap L ∧
      ∀ t, Steps p.tables e below (T'.setTop (mkF m (pc + 3) Ls (v.toList ++ rest))) t → Steps p.tables e below (T.setTop (mkF m pc Ls (argsL.reverse ++ .ref a :: rest))) t := by
  obtain ⟨cB, kB, q1, q2, q3⟩ := isOf hZ eT E
  obtain ⟨v, _, ⟨T', L', k', n'⟩, -, X', ⟨L, hQ, hl', hy', hz'⟩, st⟩ := X.virtualBackUp hx (x := y) (y := z) (owner := owner) hown (mvT hZ w1) (mvT hZ wm) (mvT hZ wd) hy (mvT hZ ws) (mvT hZ w2) (backOf (W := W) hM hZ w4 w3 hf hl) q1 q3 (g := mkF m pc Ls (argsL.reverse ++ .ref a :: rest)) rfl hsize (Steps.refl _) (argsL := argsL) (rest := rest) hlen rfl (by show 2 * 0 + _ ≤ _; omega) hd (fun _ _ => ⟨rfl, eT, hc, hs⟩)
  dsimp only [Pt.U, Pt.locs, Pt.cells, Pt.slots] at X' hl' hy' hz' st hQ
  subst hl' hy' hz'
  exact ⟨v, T', L, X', hQ, fun t k => st.trans k⟩
/-- an interface's method by the contract of the body that the receiver's class selects -/
theorem own_callF (X : Stand p l e R s m args below meth c T locs cells slots) (hx : p.tables.exec = Jvm.exec) (hZ : Z.Warmed39 s.vm) {own C : String} {index count : Nat} {y z : MethodName} {bytes : ByteArray} {maxL : Nat} {ret : Option FieldType} {rm : Room} {Q : Option Value → Heap → List Loc → Prop}
    (hown : s.vm.findClass own = some m.cls) (w1 : (Jvm.Cond.methodLink own index y).before a0 Z = true) (wd : (Jvm.Cond.declares y).before a0 Z = true) (wf : (Jvm.Cond.interfaceMethod y.cls y.cls y.name y.desc).before args s = true) (ws : (Jvm.Cond.selects C y z).before a0 Z = true) (w2 : (Jvm.Cond.instanceMethod z).before a0 Z = true) (wp : (Jvm.Cond.publicMethod z).before a0 Z = true) (wu : (Jvm.Cond.unhidden C y.name y.desc).before a0 Z = true) (wc : (Jvm.Cond.castable C y.cls).before a0 Z = true) (w3 : (Jvm.Cond.initialized z.cls).before a0 Z = true) (w4 : (Jvm.Cond.code z bytes maxL ret).before a0 Z = true)
    (hy : y.cls ≠ "java/lang/invoke/MethodHandle" ∧ y.cls ≠ "java/lang/invoke/VarHandle") {a : Addr} (E : Exa Z h a C) {argsL rest : List Value} (hM : OMet l Z z bytes maxL ret [] rm (.ref a :: argsL).toArray h Q) {W : Nat} (hf : rm.frames + 1 ≤ R.frames) (hl : W + (maxL + 11) + rm.locals ≤ R.locals) (hc : cells + rm.cells ≤ R.cells) (hs : slots + rm.slots ≤ R.slots)
    (eT : T.heap = h) {pc : Nat} {Ls : Array Slot} (hsize : Ls.size = c.maxLocals) (hlen : ∀ sig, parseMethodDescriptor y.desc = some sig → argsL.length = sig.parameters.length) (hW : (rest.map fun v => v.category).sum ≤ W) (hd : decode c.code pc = .ok (.invokeinterface index count, 5)) :
    ∃ (v : Option Value) (T' : State) (L : List Loc), Stand p l e R s m args below meth c T' (locs ++ L) (cells + rm.cells) (slots + rm.slots) ∧ Q v T'.heap L ∧
      ∀ t, Steps p.tables e below (T'.setTop (mkF m (pc + 5) Ls (v.toList ++ rest))) t → Steps p.tables e below (T.setTop (mkF m pc Ls (argsL.reverse ++ .ref a :: rest))) t := by
  obtain ⟨cB, kB, q1, q2, q3⟩ := isOf hZ eT E
  obtain ⟨v, _, ⟨T', L', k', n'⟩, -, X', ⟨L, hQ, hl', hy', hz'⟩, st⟩ := X.interfaceBack hx (xi := y) (y := z) hown (mvT hZ w1) (mvT hZ wd) wf (mvT hZ ws) (mvT hZ w2) (mvT hZ wp) (mvT hZ wu) (mvT hZ wc) hy (backOf (W := W) hM hZ w4 w3 hf hl) q1 q2 q3 (g := mkF m pc Ls (argsL.reverse ++ .ref a :: rest)) rfl hsize (Steps.refl _) (argsL := argsL) (rest := rest) hlen rfl (by show 2 * 0 + _ ≤ _; omega) hd (fun _ _ => ⟨rfl, eT, hc, hs⟩)
  dsimp only [Pt.U, Pt.locs, Pt.cells, Pt.slots] at X' hl' hy' hz' st hQ
  subst hl' hy' hz'
  exact ⟨v, T', L, X', hQ, fun t k => st.trans k⟩
theorem own_hc {T : State} {h : Heap} {a : Addr} {cl : Cell} (q : T.heap = h) (r : h[a]? = some cl) : T.heap[a]? = some cl := by rw [q]; exact r
/-- what a Bool is as Java's int -/
def b2i (b : Bool) : Int32 := if b then 1 else 0
theorem b2i_t {b : Bool} (h : b = true) : b2i b = 1 := by simp [b2i, h]
theorem b2i_f {b : Bool} (h : b = false) : b2i b = 0 := by simp [b2i, h]
theorem b2i_inj {a b : Bool} : b2i a = b2i b ↔ a = b := by cases a <;> cases b <;> decide
/-- the branches' conditions in plain words -/
theorem ic_lt (x y : Int32) : if_icmp.holds .lt x y = decide (x < y) := by by_cases q : x < y <;> simp [q, tlt, flt]
theorem ic_ge (x y : Int32) : if_icmp.holds .ge x y = !decide (x < y) := by by_cases q : x < y <;> simp [q, tlt, flt]
theorem ic_gt (x y : Int32) : if_icmp.holds .gt x y = decide (y < x) := by by_cases q : y < x <;> simp [q, tlt, flt]
theorem ic_le (x y : Int32) : if_icmp.holds .le x y = !decide (y < x) := by by_cases q : y < x <;> simp [q, tlt, flt]
theorem ic_eq (x y : Int32) : if_icmp.holds .eq x y = decide (x = y) := by by_cases q : x = y <;> simp [q, teq, feq]
theorem ic_ne (x y : Int32) : if_icmp.holds .ne x y = !decide (x = y) := by by_cases q : x = y <;> simp [q, teq, feq]
theorem i0_lt (x : Int32) : ifCond.holds .lt x = decide (x < 0) := (if0 _ _).trans (ic_lt x 0)
theorem i0_ge (x : Int32) : ifCond.holds .ge x = !decide (x < 0) := (if0 _ _).trans (ic_ge x 0)
theorem i0_gt (x : Int32) : ifCond.holds .gt x = decide (0 < x) := (if0 _ _).trans (ic_gt x 0)
theorem i0_le (x : Int32) : ifCond.holds .le x = !decide (0 < x) := (if0 _ _).trans (ic_le x 0)
theorem i0_eq (x : Int32) : ifCond.holds .eq x = decide (x = 0) := (if0 _ _).trans (ic_eq x 0)
theorem i0_ne (x : Int32) : ifCond.holds .ne x = !decide (x = 0) := (if0 _ _).trans (ic_ne x 0)
theorem lw_lt (x y : Int64) : lcmpW x y < 0 ↔ x < y := by rw [lcW]; exact Jvm.RoadKit.lc_lt x y
theorem lw_gt (x y : Int64) : 0 < lcmpW x y ↔ y < x := by rw [lcW]; exact Jvm.RoadKit.lc_gt x y
theorem lw_eq (x y : Int64) : lcmpW x y = 0 ↔ x = y := by rw [lcW]; exact Jvm.RoadKit.lc_eq x y
theorem l0_lt (x y : Int64) : ifCond.holds .lt (lcmpW x y) = decide (x < y) := (i0_lt _).trans (by simp [lw_lt])
theorem l0_ge (x y : Int64) : ifCond.holds .ge (lcmpW x y) = !decide (x < y) := (i0_ge _).trans (by simp [lw_lt])
theorem l0_gt (x y : Int64) : ifCond.holds .gt (lcmpW x y) = decide (y < x) := (i0_gt _).trans (by simp [lw_gt])
theorem l0_le (x y : Int64) : ifCond.holds .le (lcmpW x y) = !decide (y < x) := (i0_le _).trans (by simp [lw_gt])
theorem l0_eq (x y : Int64) : ifCond.holds .eq (lcmpW x y) = decide (x = y) := (i0_eq _).trans (by simp [lw_eq])
theorem l0_ne (x y : Int64) : ifCond.holds .ne (lcmpW x y) = !decide (x = y) := (i0_ne _).trans (by simp [lw_eq])
theorem b0_eq (b : Bool) : ifCond.holds .eq (b2i b) = !b := by cases b <;> decide
theorem b0_ne (b : Bool) : ifCond.holds .ne (b2i b) = b := by cases b <;> decide
theorem own_t {P : Prop} [Decidable P] {u : Bool} (q : u = decide P) (hp : P) : u = true := by rw [q]; exact decide_eq_true hp
theorem own_f {P : Prop} [Decidable P] {u : Bool} (q : u = decide P) (hp : ¬ P) : u = false := by rw [q]; exact decide_eq_false hp
theorem own_nt {P : Prop} [Decidable P] {u : Bool} (q : u = !decide P) (hp : ¬ P) : u = true := by rw [q]; simp [hp]
theorem own_nf {P : Prop} [Decidable P] {u : Bool} (q : u = !decide P) (hp : P) : u = false := by rw [q]; simp [hp]
theorem own_bt {u b : Bool} (q : u = b) (hp : b = true) : u = true := q.trans hp
theorem own_bf {u b : Bool} (q : u = b) (hp : b = false) : u = false := q.trans hp
theorem own_nbt {u b : Bool} (q : u = !b) (hp : b = false) : u = true := by rw [q, hp]; rfl
theorem own_nbf {u b : Bool} (q : u = !b) (hp : b = true) : u = false := by rw [q, hp]; rfl
theorem own_retN (X : Stand p l e R s m args below meth c T locs cells slots) (hx : p.tables.exec = Jvm.exec) {pc : Nat} {Ls : Array Slot} {z z' : Int32} {t : FieldType} {rest : List Value} (hret : meth.sig.returnType = some t) (ht : t = .boolean ∨ t = .byte ∨ t = .char ∨ t = .short) (hn : nar t z = z')
    (hd : decode c.code pc = .ok (.ireturn, 1)) {fs : List Frame} (hl : ∀ (f : JFrame) (acts : List Action), f.method = m → f.locked = none → f.entered = [] → (doReturn e (T.setTop f) acts (some (.int z'))).1 = T.setFrames fs) :
    Steps p.tables e below (T.setTop (mkF m pc Ls (.int z :: rest))) (T.setFrames fs) := by
  subst hn
  exact retN X hx hret ht hd hl
theorem own_nar_b2i (b : Bool) : nar .boolean (b2i b) = b2i b := by cases b <;> decide
theorem own_narrow_b2i (b : Bool) : narrow .boolean (.int (b2i b)) = .int (b2i b) := by cases b <;> rfl
theorem own_fits_b2i (b : Bool) : fits .boolean (.int (b2i b)) = true := by cases b <;> rfl
theorem own_nar_i2b (x : Int32) : nar .byte x.toInt8.toInt32 = x.toInt8.toInt32 := by simp [nar]
theorem own_lrem (x y : Int64) : x - x / y * y = x % y := by
  apply Int64.toInt_inj.mp
  have h1 := Int64.le_toInt (x % y)
  have h2 := Int64.toInt_lt (x % y)
  have e : x.toInt - y.toInt * x.toInt.tdiv y.toInt = x.toInt.tmod y.toInt := (Int.tmod_def _ _).symm
  rw [Int64.toInt_sub, Int64.toInt_mul, Int64.toInt_div, Int.bmod_mul_bmod, Int.sub_bmod_bmod, Int.mul_comm (x.toInt.tdiv y.toInt), e, ← Int64.toInt_mod]
  exact Int.bmod_eq_of_le_mul_two (by omega) (by omega)
/-- getfield by an entry that is resolved already -/
theorem own_getFR (X : Stand p l e R s m args below meth c T locs cells slots) (hx : p.tables.exec = Jvm.exec) (hZ : Z.Warmed39 s.vm) {own O n d : String} {index : Nat} (hown : s.vm.findClass own = some m.cls) (w : (Jvm.Cond.fieldRef own index O n d).before a0 Z = true)
    (eT : T.heap = h) {a : Addr} {v : Value} (F : Fld Z h a O n d v) {g : JFrame} (hg : g.method = m) {rest : List Value} (hs : g.stack = .ref a :: rest) (hd : decode c.code g.pc = .ok (.getfield index, 3)) : ∃ T', Stand p l e R s m args below meth c T' locs cells slots ∧ T'.heap = h ∧ ∀ target, Steps p.tables e below (T'.setTop { g with pc := g.pc + 3, stack := v :: rest }) target → Steps p.tables e below (T.setTop g) target := by
  have hZT : Z.Warmed39 T.vm := wtrans hZ X.warmed
  have w' := Cond.fieldRef_warmed39 hZT w
  have hcur : (Z.setVm T.vm).vm.findClass own = some m.cls := (X.warmed.alike.findClass own _).trans hown
  obtain ⟨c', k', i', f', h1, hready⟩ := Cond.fieldRef_spec (s := Z.setVm T.vm) hcur w'
  obtain ⟨cell, cf, k, i, f, g1, g2, g3, g4, -, -, g7⟩ := F
  obtain ⟨k2, hi, -⟩ := State.fieldFound?_setVm (s := Z) hZT.alike g2
  have q := Option.some.inj (h1.symm.trans hi)
  simp only [Prod.mk.injEq] at q
  obtain ⟨rfl, -, -, rfl⟩ := q
  exact ⟨T, X, eT, fun target kt => (X.getfieldR hx hg hready g3 hs (by rw [eT]; exact g1) g4 g7 hd (Steps.refl _)).trans kt⟩
/-- the case's words on statics and fields, at the start -/
theorem own_sx {C n d K : String} (w1 : (Jvm.Cond.initialized C).before args s = true) (w2 : (Jvm.Cond.laysStatic C n d).before args s = true) (q : (Jvm.Cond.exactly (Term.static C n d) K).value args s none s [] = some true) : ∃ a : Addr, (Term.static C n d).eval args s none [] s = some (.ref a) ∧ Sta s s.heap C n d (.ref a) ∧ Exa s s.heap a K := by
  obtain ⟨a, ev⟩ := exa_v q
  exact ⟨a, ev, Sta.start ev (Or.inr ⟨w1, w2⟩), Exa.start ev q⟩
theorem own_fi {t : Term} {a : Addr} {C n d : String} {k : Int32} (ev : t.eval args s none [] s = some (.ref a)) (q : (Jvm.Cond.eq (Term.field t C n d) (Term.int k)).value args s none s [] = some true) : Fld s s.heap a C n d (.int k) := by
  obtain ⟨x, y, h1, h2, h3, h4⟩ := cmp_v (Or.inl q)
  have h5 : y = .int k := (Option.some.inj (h2.symm.trans (Term.int_eval k)) : _)
  subst h5
  obtain ⟨z, rfl⟩ : ∃ z, x = .int z := h4
  have e2 := h1
  rw [fld_at ev] at h1
  simp [Cond.value, e2, h2] at q
  subst q
  exact Fld.start h1
theorem own_fx {t : Term} {a : Addr} {C n d K : String} (ev : t.eval args s none [] s = some (.ref a)) (q : (Jvm.Cond.exactly (Term.field t C n d) K).value args s none s [] = some true) : ∃ b : Addr, (Term.field t C n d).eval args s none [] s = some (.ref b) ∧ Fld s s.heap a C n d (.ref b) ∧ Exa s s.heap b K := by
  obtain ⟨b, ev2⟩ := exa_v q
  exact ⟨b, ev2, Fld.start ((fld_at ev).symm.trans ev2), Exa.start ev2 q⟩
/-- a class that the chain of superclasses doesn't meet: its own word is 'instantiable' -/
theorem own_ns_root {Z : State} {a0 : Array Value} {O K : String} {n : Nat} (w : (Jvm.Cond.noSuperclass O).before a0 Z = true) (wi : (Jvm.Cond.instantiable K n).before a0 Z = true) (hn : O ≠ K) : NS Z O K := by
  obtain ⟨c, k, h1, h2, h3, -, -⟩ := Cond.noSuperclass_spec w
  obtain ⟨t, kt, g1, -⟩ := Cond.instantiable_spec wi
  have ne := ids_ne h1 g1 hn
  refine ⟨c, t, h1, g1, fun fuel => ?_⟩
  cases fuel with
  | zero => rfl
  | succ f => simp [Vm.isSubclassAux, ne, h2, h3]
theorem own_ns_no {Z : State} {a0 : Array Value} {C S K : String} {n : Nat} (w : (Jvm.Cond.superclass C S).before a0 Z = true) (wi : (Jvm.Cond.instantiable K n).before a0 Z = true) (q : NS Z C K) (hn : C ≠ K) : ∃ c t, Z.vm.findClass C = some c ∧ Z.vm.findClass K = some t ∧ Z.vm.assignable c t = false := by
  obtain ⟨c, t, h0, g0, n3⟩ := q
  obtain ⟨p, k, kp, h1, h2, h3, h4, h5, -, h7⟩ := Cond.superclass_spec h0 w
  obtain ⟨t', kt, g1, g2, g3, g4, -, -⟩ := Cond.instantiable_spec wi
  cases g0.symm.trans g1
  have g5 : kt.isInterface = false := by simp only [Bool.or_eq_false_iff] at g4; exact g4.1
  have ne := ids_ne h0 g0 hn
  refine ⟨c, t, h0, g0, ?_⟩
  show Z.vm.assignableAux (255 + 1) c t = false
  simp [Vm.assignableAux, ne, h2, g2, h5, g3, g5, Vm.isSubclass, n3]
/-- a static's cell isn't written by one who writes objects alone -/
theorem own_sta_keep {Z : State} {h h' : Heap} {C n d : String} {v : Value} {ws : List Addr} (F : Sta Z h C n d v) (K : Keep h h' ws) (q : ∀ x ∈ ws, ∃ C', Exa Z h x C') : Sta Z h' C n d v := by
  obtain ⟨cf, i, k, f, st, cell, h1, h2, h3, h4, h5, h6, h7⟩ := F
  refine ⟨cf, i, k, f, st, cell, h1, h2, h3, h4, K.2.1 st cell h5 (fun r => ?_), h6, h7⟩
  obtain ⟨C', c', k', g1, -, -, g4, -⟩ := q st r
  rw [h5] at g1
  cases g1
  rw [h6] at g4
  cases g4
theorem own_ne32 {x y : Int32} (h : x ≠ y) : Value.int x ≠ Value.int y := fun q => h (Value.int.inj q)
end OwnKit
theorem pn_com_example_mutual_consent_mutualconsent_engine_SignatureCheck : plainName "com/example/mutual_consent/mutualconsent/engine/SignatureCheck" = true := by first | (simp [plainName, overriddenIn]; done) | decide +kernel
theorem ef_rm1n (m : MethodId) (x0 : Addr) : entryFrame m #[(.ref x0)] 1 = mkF m 0 #[.val (.ref x0)] [] := by first | (simp [entryFrame, mkF, argsToLocals, Value.category]; done) | rfl
theorem d1_0 : decode prog_20_method_4_code 0 = .ok (.aload_n 0, 1) := by decide +kernel
theorem d1_1 : decode prog_20_method_4_code 1 = .ok (.getstatic 10, 3) := by decide +kernel
theorem d1_4 : decode prog_20_method_4_code 4 = .ok (.if_acmp .eq 10, 3) := by decide +kernel
theorem d1_7 : decode prog_20_method_4_code 7 = .ok (.aload_n 0, 1) := by decide +kernel
theorem d1_8 : decode prog_20_method_4_code 8 = .ok (.getstatic 13, 3) := by decide +kernel
theorem d1_11 : decode prog_20_method_4_code 11 = .ok (.if_acmp .ne 7, 3) := by decide +kernel
theorem d1_18 : decode prog_20_method_4_code 18 = .ok (.iconst 0, 1) := by decide +kernel
theorem d1_19 : decode prog_20_method_4_code 19 = .ok (.ireturn, 1) := by decide +kernel
def Q1n (Z : State) (a1 : Addr) (u1 : Addr) (b1 : Addr) (h0 : Heap) (n0 : Nat) (v : Option Value) (h : Heap) (L : List Loc) : Prop := v = some (.int 0) ∧ Fr n0 L ∧ h = h0
set_option maxRecDepth 65536 in
set_option maxHeartbeats 40000000 in
theorem rm1n (l : Launch) (Z : State) (a0 : Array Value) (hw : ∀ d ∈ tables_1, d.before a0 Z = true) (ws : List Jvm.Cond) (a1 : Addr) (u1 : Addr) (b1 : Addr) (h0 : Heap) (n0 : Nat) (Z0 : n0 ≤ h0.size) (S_u : Sta Z h0 "com/example/mutual_consent/mutualconsent/engine/SignatureCheck" "UNSIGNED" "Lcom/example/mutual_consent/mutualconsent/engine/SignatureCheck;" (.ref u1)) (S_b : Sta Z h0 "com/example/mutual_consent/mutualconsent/engine/SignatureCheck" "BAD_SIGNATURE" "Lcom/example/mutual_consent/mutualconsent/engine/SignatureCheck;" (.ref b1)) (ne_a1_u1 : a1 ≠ u1) (ne_a1_b1 : a1 ≠ b1) :
    OMet l Z (⟨"com/example/mutual_consent/mutualconsent/engine/SignatureCheck", "refuses", "()Z"⟩ : MethodName) prog_20_method_4_code 1 (some .boolean) ws ({ frames := 0, cells := 0, slots := 0, locals := 0 } : Room) #[(.ref a1)] h0 (Q1n Z a1 u1 b1 h0 n0) := by
  refine own_body (plainFor_of_name pn_com_example_mutual_consent_mutualconsent_engine_SignatureCheck) ?_
  intro p e s m below meth c s₁ Bd hml0 hZ e0
  have hx := Bd.exec
  have hby := Bd.bytes
  have hml : c.maxLocals = 1 := hml0
  have hown : s.vm.findClass "com/example/mutual_consent/mutualconsent/engine/SignatureCheck" = some m.cls := findClass_of_methodNamed Bd.named
  have hnm := (name_of_methodNamed Bd.named Bd.method).1
  have X0 : Stand p l e ({ frames := 0, cells := 0, slots := 0, locals := 0 } : Room) s m #[(.ref a1)] below meth c s₁ [] 0 0 := Stand.of_body Bd
  have N0 := Fr.nil n0
  have K0 : Keep h0 h0 [] := Keep.refl _ _
  rw [ef_rm1n]
  obtain ⟨T101, X101, e101, st101⟩ := getS2 X0 hx hZ hown (host := "") (Or.inl (hw _ (List.mem_of_getElem? (i := 8) rfl))) Via.refl e0 S_u (g := (mkF m 1 #[.val (.ref a1)] [(.ref a1)])) rfl (hb hby d1_1)
  obtain ⟨T102, X102, e102, st102⟩ := getS2 X101 hx hZ hown (host := "") (Or.inl (hw _ (List.mem_of_getElem? (i := 10) rfl))) Via.refl e101 S_b (g := (mkF m 8 #[.val (.ref a1)] [(.ref a1)])) rfl (hb hby d1_8)
  refine Gl.fin X102 (v := some (.int (0 : Int32))) (fun h => by rw [Bd.returns] at h; cases h) Bd.notSynchronized ?_ e102 (by decide) (by decide) (fun fs hr => ?_)
  · exact ⟨rfl, N0, rfl⟩
  · show Steps p.tables e below (s₁.setTop (mkF m 0 #[.val (.ref a1)] [])) _
    refine XS.aloadN X0.here hx rfl (hb hby d1_0) rfl rfl ?_
    show Steps p.tables e below (s₁.setTop (mkF m 1 #[.val (.ref a1)] [(.ref a1)])) _
    refine st101 _ ?_
    show Steps p.tables e below (T101.setTop (mkF m 4 #[.val (.ref a1)] [(.ref u1), (.ref a1)])) _
    refine Jvm.RoadKit.acmp (g := (mkF m 4 #[.val (.ref a1)] [(.ref u1), (.ref a1)])) X101 hx rfl rfl rfl (pc0 := 4) (pc' := 7) (same := false) rfl (hb hby d1_4) rfl (decide_eq_false fun q => ne_a1_u1 (Value.ref.inj q)) (by decide) (by decide) ?_
    show Steps p.tables e below (T101.setTop (mkF m 7 #[.val (.ref a1)] [])) _
    refine XS.aloadN X101.here hx rfl (hb hby d1_7) rfl rfl ?_
    show Steps p.tables e below (T101.setTop (mkF m 8 #[.val (.ref a1)] [(.ref a1)])) _
    refine st102 _ ?_
    show Steps p.tables e below (T102.setTop (mkF m 11 #[.val (.ref a1)] [(.ref b1), (.ref a1)])) _
    refine Jvm.RoadKit.acmp (g := (mkF m 11 #[.val (.ref a1)] [(.ref b1), (.ref a1)])) X102 hx rfl rfl rfl (pc0 := 11) (pc' := 18) (same := false) rfl (hb hby d1_11) rfl (decide_eq_false fun q => ne_a1_b1 (Value.ref.inj q)) (by decide) (by decide) ?_
    show Steps p.tables e below (T102.setTop (mkF m 18 #[.val (.ref a1)] [])) _
    refine XS.iconst X102.here hx rfl (hb hby d1_18) ?_
    show Steps p.tables e below (T102.setTop (mkF m 19 #[.val (.ref a1)] [(.int (0 : Int32))])) _
    exact retN X102 hx (t := .boolean) Bd.returns (by simp) (hb hby d1_19) hr
theorem ef_rm1u (m : MethodId) (x0 : Addr) : entryFrame m #[(.ref x0)] 1 = mkF m 0 #[.val (.ref x0)] [] := by first | (simp [entryFrame, mkF, argsToLocals, Value.category]; done) | rfl
theorem d1_14 : decode prog_20_method_4_code 14 = .ok (.iconst 1, 1) := by decide +kernel
theorem d1_15 : decode prog_20_method_4_code 15 = .ok (.goto 4, 3) := by decide +kernel
def Q1u (Z : State) (u1 : Addr) (b1 : Addr) (h0 : Heap) (n0 : Nat) (v : Option Value) (h : Heap) (L : List Loc) : Prop := v = some (.int 1) ∧ Fr n0 L ∧ h = h0
set_option maxRecDepth 65536 in
set_option maxHeartbeats 40000000 in
theorem rm1u (l : Launch) (Z : State) (a0 : Array Value) (hw : ∀ d ∈ tables_1, d.before a0 Z = true) (ws : List Jvm.Cond) (u1 : Addr) (b1 : Addr) (h0 : Heap) (n0 : Nat) (Z0 : n0 ≤ h0.size) (S_u : Sta Z h0 "com/example/mutual_consent/mutualconsent/engine/SignatureCheck" "UNSIGNED" "Lcom/example/mutual_consent/mutualconsent/engine/SignatureCheck;" (.ref u1)) (S_b : Sta Z h0 "com/example/mutual_consent/mutualconsent/engine/SignatureCheck" "BAD_SIGNATURE" "Lcom/example/mutual_consent/mutualconsent/engine/SignatureCheck;" (.ref b1)) :
    OMet l Z (⟨"com/example/mutual_consent/mutualconsent/engine/SignatureCheck", "refuses", "()Z"⟩ : MethodName) prog_20_method_4_code 1 (some .boolean) ws ({ frames := 0, cells := 0, slots := 0, locals := 0 } : Room) #[(.ref u1)] h0 (Q1u Z u1 b1 h0 n0) := by
  refine own_body (plainFor_of_name pn_com_example_mutual_consent_mutualconsent_engine_SignatureCheck) ?_
  intro p e s m below meth c s₁ Bd hml0 hZ e0
  have hx := Bd.exec
  have hby := Bd.bytes
  have hml : c.maxLocals = 1 := hml0
  have hown : s.vm.findClass "com/example/mutual_consent/mutualconsent/engine/SignatureCheck" = some m.cls := findClass_of_methodNamed Bd.named
  have hnm := (name_of_methodNamed Bd.named Bd.method).1
  have X0 : Stand p l e ({ frames := 0, cells := 0, slots := 0, locals := 0 } : Room) s m #[(.ref u1)] below meth c s₁ [] 0 0 := Stand.of_body Bd
  have N0 := Fr.nil n0
  have K0 : Keep h0 h0 [] := Keep.refl _ _
  rw [ef_rm1u]
  obtain ⟨T101, X101, e101, st101⟩ := getS2 X0 hx hZ hown (host := "") (Or.inl (hw _ (List.mem_of_getElem? (i := 8) rfl))) Via.refl e0 S_u (g := (mkF m 1 #[.val (.ref u1)] [(.ref u1)])) rfl (hb hby d1_1)
  refine Gl.fin X101 (v := some (.int (1 : Int32))) (fun h => by rw [Bd.returns] at h; cases h) Bd.notSynchronized ?_ e101 (by decide) (by decide) (fun fs hr => ?_)
  · exact ⟨rfl, N0, rfl⟩
  · show Steps p.tables e below (s₁.setTop (mkF m 0 #[.val (.ref u1)] [])) _
    refine XS.aloadN X0.here hx rfl (hb hby d1_0) rfl rfl ?_
    show Steps p.tables e below (s₁.setTop (mkF m 1 #[.val (.ref u1)] [(.ref u1)])) _
    refine st101 _ ?_
    show Steps p.tables e below (T101.setTop (mkF m 4 #[.val (.ref u1)] [(.ref u1), (.ref u1)])) _
    refine Jvm.RoadKit.acmp (g := (mkF m 4 #[.val (.ref u1)] [(.ref u1), (.ref u1)])) X101 hx rfl rfl rfl (pc0 := 4) (pc' := 14) (same := true) rfl (hb hby d1_4) rfl (decide_eq_true rfl) (by decide) (by decide) ?_
    show Steps p.tables e below (T101.setTop (mkF m 14 #[.val (.ref u1)] [])) _
    refine XS.iconst X101.here hx rfl (hb hby d1_14) ?_
    show Steps p.tables e below (T101.setTop (mkF m 15 #[.val (.ref u1)] [(.int (1 : Int32))])) _
    refine XS.goto X101.here hx rfl (pc0 := 15) (pc' := 19) rfl (hb hby d1_15) (by decide) (by decide) ?_
    show Steps p.tables e below (T101.setTop (mkF m 19 #[.val (.ref u1)] [(.int (1 : Int32))])) _
    exact retN X101 hx (t := .boolean) Bd.returns (by simp) (hb hby d1_19) hr
theorem ef_rm1b (m : MethodId) (x0 : Addr) : entryFrame m #[(.ref x0)] 1 = mkF m 0 #[.val (.ref x0)] [] := by first | (simp [entryFrame, mkF, argsToLocals, Value.category]; done) | rfl
def Q1b (Z : State) (b1 : Addr) (u1 : Addr) (h0 : Heap) (n0 : Nat) (v : Option Value) (h : Heap) (L : List Loc) : Prop := v = some (.int 1) ∧ Fr n0 L ∧ h = h0
set_option maxRecDepth 65536 in
set_option maxHeartbeats 40000000 in
theorem rm1b (l : Launch) (Z : State) (a0 : Array Value) (hw : ∀ d ∈ tables_1, d.before a0 Z = true) (ws : List Jvm.Cond) (b1 : Addr) (u1 : Addr) (h0 : Heap) (n0 : Nat) (Z0 : n0 ≤ h0.size) (S_u : Sta Z h0 "com/example/mutual_consent/mutualconsent/engine/SignatureCheck" "UNSIGNED" "Lcom/example/mutual_consent/mutualconsent/engine/SignatureCheck;" (.ref u1)) (S_b : Sta Z h0 "com/example/mutual_consent/mutualconsent/engine/SignatureCheck" "BAD_SIGNATURE" "Lcom/example/mutual_consent/mutualconsent/engine/SignatureCheck;" (.ref b1)) (ne_b1_u1 : b1 ≠ u1) :
    OMet l Z (⟨"com/example/mutual_consent/mutualconsent/engine/SignatureCheck", "refuses", "()Z"⟩ : MethodName) prog_20_method_4_code 1 (some .boolean) ws ({ frames := 0, cells := 0, slots := 0, locals := 0 } : Room) #[(.ref b1)] h0 (Q1b Z b1 u1 h0 n0) := by
  refine own_body (plainFor_of_name pn_com_example_mutual_consent_mutualconsent_engine_SignatureCheck) ?_
  intro p e s m below meth c s₁ Bd hml0 hZ e0
  have hx := Bd.exec
  have hby := Bd.bytes
  have hml : c.maxLocals = 1 := hml0
  have hown : s.vm.findClass "com/example/mutual_consent/mutualconsent/engine/SignatureCheck" = some m.cls := findClass_of_methodNamed Bd.named
  have hnm := (name_of_methodNamed Bd.named Bd.method).1
  have X0 : Stand p l e ({ frames := 0, cells := 0, slots := 0, locals := 0 } : Room) s m #[(.ref b1)] below meth c s₁ [] 0 0 := Stand.of_body Bd
  have N0 := Fr.nil n0
  have K0 : Keep h0 h0 [] := Keep.refl _ _
  rw [ef_rm1b]
  obtain ⟨T101, X101, e101, st101⟩ := getS2 X0 hx hZ hown (host := "") (Or.inl (hw _ (List.mem_of_getElem? (i := 8) rfl))) Via.refl e0 S_u (g := (mkF m 1 #[.val (.ref b1)] [(.ref b1)])) rfl (hb hby d1_1)
  obtain ⟨T102, X102, e102, st102⟩ := getS2 X101 hx hZ hown (host := "") (Or.inl (hw _ (List.mem_of_getElem? (i := 10) rfl))) Via.refl e101 S_b (g := (mkF m 8 #[.val (.ref b1)] [(.ref b1)])) rfl (hb hby d1_8)
  refine Gl.fin X102 (v := some (.int (1 : Int32))) (fun h => by rw [Bd.returns] at h; cases h) Bd.notSynchronized ?_ e102 (by decide) (by decide) (fun fs hr => ?_)
  · exact ⟨rfl, N0, rfl⟩
  · show Steps p.tables e below (s₁.setTop (mkF m 0 #[.val (.ref b1)] [])) _
    refine XS.aloadN X0.here hx rfl (hb hby d1_0) rfl rfl ?_
    show Steps p.tables e below (s₁.setTop (mkF m 1 #[.val (.ref b1)] [(.ref b1)])) _
    refine st101 _ ?_
    show Steps p.tables e below (T101.setTop (mkF m 4 #[.val (.ref b1)] [(.ref u1), (.ref b1)])) _
    refine Jvm.RoadKit.acmp (g := (mkF m 4 #[.val (.ref b1)] [(.ref u1), (.ref b1)])) X101 hx rfl rfl rfl (pc0 := 4) (pc' := 7) (same := false) rfl (hb hby d1_4) rfl (decide_eq_false fun q => ne_b1_u1 (Value.ref.inj q)) (by decide) (by decide) ?_
    show Steps p.tables e below (T101.setTop (mkF m 7 #[.val (.ref b1)] [])) _
    refine XS.aloadN X101.here hx rfl (hb hby d1_7) rfl rfl ?_
    show Steps p.tables e below (T101.setTop (mkF m 8 #[.val (.ref b1)] [(.ref b1)])) _
    refine st102 _ ?_
    show Steps p.tables e below (T102.setTop (mkF m 11 #[.val (.ref b1)] [(.ref b1), (.ref b1)])) _
    refine Jvm.RoadKit.acmp (g := (mkF m 11 #[.val (.ref b1)] [(.ref b1), (.ref b1)])) X102 hx rfl rfl rfl (pc0 := 11) (pc' := 14) (same := true) rfl (hb hby d1_11) rfl (decide_eq_true rfl) (by decide) (by decide) ?_
    show Steps p.tables e below (T102.setTop (mkF m 14 #[.val (.ref b1)] [])) _
    refine XS.iconst X102.here hx rfl (hb hby d1_14) ?_
    show Steps p.tables e below (T102.setTop (mkF m 15 #[.val (.ref b1)] [(.int (1 : Int32))])) _
    refine XS.goto X102.here hx rfl (pc0 := 15) (pc' := 19) rfl (hb hby d1_15) (by decide) (by decide) ?_
    show Steps p.tables e below (T102.setTop (mkF m 19 #[.val (.ref b1)] [(.int (1 : Int32))])) _
    exact retN X102 hx (t := .boolean) Bd.returns (by simp) (hb hby d1_19) hr
theorem pn_com_example_mutual_consent_mutualconsent_engine_SignatureCheckRefusesPinLaw : plainName "com/example/mutual_consent/mutualconsent/engine/SignatureCheckRefusesPinLaw" = true := by first | (simp [plainName, overriddenIn]; done) | decide +kernel
theorem ef_rm0 (m : MethodId) (x0 : Int32) : entryFrame m #[(.int x0)] maxLocals = mkF m 0 #[.val (.int x0), .unset, .unset, .unset] [] := by first | (simp [entryFrame, mkF, argsToLocals, Value.category, maxLocals]; done) | rfl
theorem pd___Z : parseMethodDescriptor "()Z" = some ⟨[], some .boolean⟩ := by decide +kernel
def Q0 (Z : State) (p0 : Int32) (nr : Addr) (un : Addr) (ba : Addr) (ve : Addr) (h0 : Heap) (n0 : Nat) (v : Option Value) (h : Heap) (L : List Loc) : Prop := v = some (.int 1) ∧ Fr n0 L
set_option maxRecDepth 65536 in
set_option maxHeartbeats 40000000 in
theorem rm0 (l : Launch) (Z : State) (a0 : Array Value) (hw : ∀ d ∈ tables_1, d.before a0 Z = true) (ws : List Jvm.Cond) (p0 : Int32) (nr : Addr) (un : Addr) (ba : Addr) (ve : Addr) (h0 : Heap) (n0 : Nat) (Z0 : n0 ≤ h0.size) (S_nr : Sta Z h0 "com/example/mutual_consent/mutualconsent/engine/SignatureCheck" "NOT_REQUIRED" "Lcom/example/mutual_consent/mutualconsent/engine/SignatureCheck;" (.ref nr)) (S_un : Sta Z h0 "com/example/mutual_consent/mutualconsent/engine/SignatureCheck" "UNSIGNED" "Lcom/example/mutual_consent/mutualconsent/engine/SignatureCheck;" (.ref un)) (S_ba : Sta Z h0 "com/example/mutual_consent/mutualconsent/engine/SignatureCheck" "BAD_SIGNATURE" "Lcom/example/mutual_consent/mutualconsent/engine/SignatureCheck;" (.ref ba)) (S_ve : Sta Z h0 "com/example/mutual_consent/mutualconsent/engine/SignatureCheck" "VERIFIED" "Lcom/example/mutual_consent/mutualconsent/engine/SignatureCheck;" (.ref ve)) (E_nr : Exa Z h0 nr "com/example/mutual_consent/mutualconsent/engine/SignatureCheck") (E_un : Exa Z h0 un "com/example/mutual_consent/mutualconsent/engine/SignatureCheck") (E_ba : Exa Z h0 ba "com/example/mutual_consent/mutualconsent/engine/SignatureCheck") (E_ve : Exa Z h0 ve "com/example/mutual_consent/mutualconsent/engine/SignatureCheck") (ne_nr_un : nr ≠ un) (ne_nr_ba : nr ≠ ba) (ne_ve_un : ve ≠ un) (ne_ve_ba : ve ≠ ba) (ne_ba_un : ba ≠ un) :
    OMet l Z x code maxLocals ret ws room_1 #[(.int p0)] h0 (Q0 Z p0 nr un ba ve h0 n0) := by
  refine own_body (plainFor_of_name pn_com_example_mutual_consent_mutualconsent_engine_SignatureCheckRefusesPinLaw) ?_
  intro p e s m below meth c s₁ Bd hml0 hZ e0
  have hx := Bd.exec
  have hby := Bd.bytes
  have hml : c.maxLocals = 4 := hml0
  have hown : s.vm.findClass "com/example/mutual_consent/mutualconsent/engine/SignatureCheckRefusesPinLaw" = some m.cls := findClass_of_methodNamed Bd.named
  have hnm := (name_of_methodNamed Bd.named Bd.method).1
  have X0 : Stand p l e room_1 s m #[(.int p0)] below meth c s₁ [] 0 0 := Stand.of_body Bd
  have N0 := Fr.nil n0
  have K0 : Keep h0 h0 [] := Keep.refl _ _
  rw [ef_rm0]
  refine Gl.pre (S' := s₁.setTop (mkF m 5 #[.val (.int p0), .val (.int (p0 &&& (3 : Int32))), .unset, .unset] [(.int (p0 &&& (3 : Int32)))])) (fun t kt => ?_) ?_
  · show Steps p.tables e below (s₁.setTop (mkF m 0 #[.val (.int p0), .unset, .unset, .unset] [])) _
    refine XS.iloadN X0.here hx rfl (hb hby at_0) rfl ?_
    show Steps p.tables e below (s₁.setTop (mkF m 1 #[.val (.int p0), .unset, .unset, .unset] [(.int p0)])) _
    refine XS.iconst X0.here hx rfl (hb hby at_1) ?_
    show Steps p.tables e below (s₁.setTop (mkF m 2 #[.val (.int p0), .unset, .unset, .unset] [(.int (3 : Int32)), (.int p0)])) _
    refine XS.iand X0.here hx rfl (hb hby at_2) rfl ?_
    show Steps p.tables e below (s₁.setTop (mkF m 3 #[.val (.int p0), .unset, .unset, .unset] [(.int (p0 &&& (3 : Int32)))])) _
    refine XS.istoreN X0.here hx rfl (hb hby at_3) rfl (l' := #[.val (.int p0), .val (.int (p0 &&& (3 : Int32))), .unset, .unset]) rfl ?_
    show Steps p.tables e below (s₁.setTop (mkF m 4 #[.val (.int p0), .val (.int (p0 &&& (3 : Int32))), .unset, .unset] [])) _
    refine XS.iloadN X0.here hx rfl (hb hby at_4) rfl ?_
    exact kt
  by_cases hc5 : (p0 &&& (3 : Int32)) = (0 : Int32)
  · obtain ⟨T101, X101, e101, st101⟩ := getS2 X0 hx hZ hown (host := "") (Or.inl (hw _ (List.mem_of_getElem? (i := 0) rfl))) Via.refl e0 S_nr (g := (mkF m 8 #[.val (.int p0), .val (.int (p0 &&& (3 : Int32))), .unset, .unset] [])) rfl (hb hby at_8)
    obtain ⟨v102, T102, L102, X102, q102, st102⟩ := own_callV X101 hx hZ (y := (⟨"com/example/mutual_consent/mutualconsent/engine/SignatureCheck", "refuses", "()Z"⟩ : MethodName)) (z := (⟨"com/example/mutual_consent/mutualconsent/engine/SignatureCheck", "refuses", "()Z"⟩ : MethodName)) hown (hw _ (List.mem_of_getElem? (i := 3) rfl)) (hw _ (List.mem_of_getElem? (i := 4) rfl)) (notFace_of_selects (args := #[]) (mvT hZ (hw _ (List.mem_of_getElem? (i := 6) rfl)))) (hw _ (List.mem_of_getElem? (i := 6) rfl)) (hw _ (List.mem_of_getElem? (i := 5) rfl)) (hw _ (List.mem_of_getElem? (i := 1) rfl)) (hw _ (List.mem_of_getElem? (i := 7) rfl)) (by decide) E_nr (hM := (rm1n l Z a0 hw [] nr un ba h0 n0 Z0 S_un S_ba ne_nr_un ne_nr_ba)) (by decide) (by decide) (by decide) (by decide) e101 (argsL := []) (rest := []) (Ls := #[.val (.int p0), .val (.int (p0 &&& (3 : Int32))), .val (.ref nr), .val (.int (0 : Int32))]) (by rw [hml]; rfl) (lenOf pd___Z rfl) (W := 0) (Nat.le_of_eq rfl) (hb hby at_52)
    obtain ⟨rfl, N102q, e102⟩ := q102
    have N102 := Fr.app N0 N102q
    refine Gl.fin X102 (v := some (.int (1 : Int32))) (fun h => by rw [Bd.returns] at h; cases h) Bd.notSynchronized ?_ e102 (by decide) (by decide) (fun fs hr => ?_)
    · exact ⟨rfl, N102⟩
    · show Steps p.tables e below (s₁.setTop (mkF m 5 #[.val (.int p0), .val (.int (p0 &&& (3 : Int32))), .unset, .unset] [(.int (p0 &&& (3 : Int32)))])) _
      refine XS.ifNo X0.here hx rfl (hb hby at_5) rfl (own_nf (i0_ne _) hc5) ?_
      show Steps p.tables e below (s₁.setTop (mkF m 8 #[.val (.int p0), .val (.int (p0 &&& (3 : Int32))), .unset, .unset] [])) _
      refine st101 _ ?_
      show Steps p.tables e below (T101.setTop (mkF m 11 #[.val (.int p0), .val (.int (p0 &&& (3 : Int32))), .unset, .unset] [(.ref nr)])) _
      refine XS.astoreN X101.here hx rfl (hb hby at_11) rfl rfl (l' := #[.val (.int p0), .val (.int (p0 &&& (3 : Int32))), .val (.ref nr), .unset]) rfl ?_
      show Steps p.tables e below (T101.setTop (mkF m 12 #[.val (.int p0), .val (.int (p0 &&& (3 : Int32))), .val (.ref nr), .unset] [])) _
      refine XS.iconst X101.here hx rfl (hb hby at_12) ?_
      show Steps p.tables e below (T101.setTop (mkF m 13 #[.val (.int p0), .val (.int (p0 &&& (3 : Int32))), .val (.ref nr), .unset] [(.int (0 : Int32))])) _
      refine XS.istoreN X101.here hx rfl (hb hby at_13) rfl (l' := #[.val (.int p0), .val (.int (p0 &&& (3 : Int32))), .val (.ref nr), .val (.int (0 : Int32))]) rfl ?_
      show Steps p.tables e below (T101.setTop (mkF m 14 #[.val (.int p0), .val (.int (p0 &&& (3 : Int32))), .val (.ref nr), .val (.int (0 : Int32))] [])) _
      refine XS.goto X101.here hx rfl (pc0 := 14) (pc' := 51) rfl (hb hby at_14) (by decide) (by decide) ?_
      show Steps p.tables e below (T101.setTop (mkF m 51 #[.val (.int p0), .val (.int (p0 &&& (3 : Int32))), .val (.ref nr), .val (.int (0 : Int32))] [])) _
      refine XS.aloadN X101.here hx rfl (hb hby at_51) rfl rfl ?_
      show Steps p.tables e below (T101.setTop (mkF m 52 #[.val (.int p0), .val (.int (p0 &&& (3 : Int32))), .val (.ref nr), .val (.int (0 : Int32))] [(.ref nr)])) _
      refine st102 _ ?_
      show Steps p.tables e below (T102.setTop (mkF m 55 #[.val (.int p0), .val (.int (p0 &&& (3 : Int32))), .val (.ref nr), .val (.int (0 : Int32))] [(.int (0 : Int32))])) _
      refine XS.iloadN X102.here hx rfl (hb hby at_55) rfl ?_
      show Steps p.tables e below (T102.setTop (mkF m 56 #[.val (.int p0), .val (.int (p0 &&& (3 : Int32))), .val (.ref nr), .val (.int (0 : Int32))] [(.int (0 : Int32)), (.int (0 : Int32))])) _
      refine XS.icmpNo X102.here hx rfl (hb hby at_56) rfl (own_nf (ic_ne _ _) (by decide)) ?_
      show Steps p.tables e below (T102.setTop (mkF m 59 #[.val (.int p0), .val (.int (p0 &&& (3 : Int32))), .val (.ref nr), .val (.int (0 : Int32))] [])) _
      refine XS.iconst X102.here hx rfl (hb hby at_59) ?_
      show Steps p.tables e below (T102.setTop (mkF m 60 #[.val (.int p0), .val (.int (p0 &&& (3 : Int32))), .val (.ref nr), .val (.int (0 : Int32))] [(.int (1 : Int32))])) _
      refine XS.goto X102.here hx rfl (pc0 := 60) (pc' := 64) rfl (hb hby at_60) (by decide) (by decide) ?_
      show Steps p.tables e below (T102.setTop (mkF m 64 #[.val (.int p0), .val (.int (p0 &&& (3 : Int32))), .val (.ref nr), .val (.int (0 : Int32))] [(.int (1 : Int32))])) _
      exact retN X102 hx (t := .boolean) Bd.returns (by simp) (hb hby at_64) hr
  · refine Gl.pre (S' := s₁.setTop (mkF m 19 #[.val (.int p0), .val (.int (p0 &&& (3 : Int32))), .unset, .unset] [(.int (1 : Int32)), (.int (p0 &&& (3 : Int32)))])) (fun t kt => ?_) ?_
    · show Steps p.tables e below (s₁.setTop (mkF m 5 #[.val (.int p0), .val (.int (p0 &&& (3 : Int32))), .unset, .unset] [(.int (p0 &&& (3 : Int32)))])) _
      refine XS.ifYes X0.here hx rfl (pc0 := 5) (pc' := 17) rfl (hb hby at_5) rfl (own_nt (i0_ne _) hc5) (by decide) (by decide) ?_
      show Steps p.tables e below (s₁.setTop (mkF m 17 #[.val (.int p0), .val (.int (p0 &&& (3 : Int32))), .unset, .unset] [])) _
      refine XS.iloadN X0.here hx rfl (hb hby at_17) rfl ?_
      show Steps p.tables e below (s₁.setTop (mkF m 18 #[.val (.int p0), .val (.int (p0 &&& (3 : Int32))), .unset, .unset] [(.int (p0 &&& (3 : Int32)))])) _
      refine XS.iconst X0.here hx rfl (hb hby at_18) ?_
      exact kt
    by_cases hc19 : (p0 &&& (3 : Int32)) = (1 : Int32)
    · obtain ⟨T103, X103, e103, st103⟩ := getS2 X0 hx hZ hown (host := "") (Or.inl (hw _ (List.mem_of_getElem? (i := 14) rfl))) Via.refl e0 S_ve (g := (mkF m 22 #[.val (.int p0), .val (.int (p0 &&& (3 : Int32))), .unset, .unset] [])) rfl (hb hby at_22)
      obtain ⟨v104, T104, L104, X104, q104, st104⟩ := own_callV X103 hx hZ (y := (⟨"com/example/mutual_consent/mutualconsent/engine/SignatureCheck", "refuses", "()Z"⟩ : MethodName)) (z := (⟨"com/example/mutual_consent/mutualconsent/engine/SignatureCheck", "refuses", "()Z"⟩ : MethodName)) hown (hw _ (List.mem_of_getElem? (i := 3) rfl)) (hw _ (List.mem_of_getElem? (i := 4) rfl)) (notFace_of_selects (args := #[]) (mvT hZ (hw _ (List.mem_of_getElem? (i := 6) rfl)))) (hw _ (List.mem_of_getElem? (i := 6) rfl)) (hw _ (List.mem_of_getElem? (i := 5) rfl)) (hw _ (List.mem_of_getElem? (i := 1) rfl)) (hw _ (List.mem_of_getElem? (i := 7) rfl)) (by decide) E_ve (hM := (rm1n l Z a0 hw [] ve un ba h0 n0 Z0 S_un S_ba ne_ve_un ne_ve_ba)) (by decide) (by decide) (by decide) (by decide) e103 (argsL := []) (rest := []) (Ls := #[.val (.int p0), .val (.int (p0 &&& (3 : Int32))), .val (.ref ve), .val (.int (0 : Int32))]) (by rw [hml]; rfl) (lenOf pd___Z rfl) (W := 0) (Nat.le_of_eq rfl) (hb hby at_52)
      obtain ⟨rfl, N104q, e104⟩ := q104
      have N104 := Fr.app N0 N104q
      refine Gl.fin X104 (v := some (.int (1 : Int32))) (fun h => by rw [Bd.returns] at h; cases h) Bd.notSynchronized ?_ e104 (by decide) (by decide) (fun fs hr => ?_)
      · exact ⟨rfl, N104⟩
      · show Steps p.tables e below (s₁.setTop (mkF m 19 #[.val (.int p0), .val (.int (p0 &&& (3 : Int32))), .unset, .unset] [(.int (1 : Int32)), (.int (p0 &&& (3 : Int32)))])) _
        refine XS.icmpNo X0.here hx rfl (hb hby at_19) rfl (own_nf (ic_ne _ _) hc19) ?_
        show Steps p.tables e below (s₁.setTop (mkF m 22 #[.val (.int p0), .val (.int (p0 &&& (3 : Int32))), .unset, .unset] [])) _
        refine st103 _ ?_
        show Steps p.tables e below (T103.setTop (mkF m 25 #[.val (.int p0), .val (.int (p0 &&& (3 : Int32))), .unset, .unset] [(.ref ve)])) _
        refine XS.astoreN X103.here hx rfl (hb hby at_25) rfl rfl (l' := #[.val (.int p0), .val (.int (p0 &&& (3 : Int32))), .val (.ref ve), .unset]) rfl ?_
        show Steps p.tables e below (T103.setTop (mkF m 26 #[.val (.int p0), .val (.int (p0 &&& (3 : Int32))), .val (.ref ve), .unset] [])) _
        refine XS.iconst X103.here hx rfl (hb hby at_26) ?_
        show Steps p.tables e below (T103.setTop (mkF m 27 #[.val (.int p0), .val (.int (p0 &&& (3 : Int32))), .val (.ref ve), .unset] [(.int (0 : Int32))])) _
        refine XS.istoreN X103.here hx rfl (hb hby at_27) rfl (l' := #[.val (.int p0), .val (.int (p0 &&& (3 : Int32))), .val (.ref ve), .val (.int (0 : Int32))]) rfl ?_
        show Steps p.tables e below (T103.setTop (mkF m 28 #[.val (.int p0), .val (.int (p0 &&& (3 : Int32))), .val (.ref ve), .val (.int (0 : Int32))] [])) _
        refine XS.goto X103.here hx rfl (pc0 := 28) (pc' := 51) rfl (hb hby at_28) (by decide) (by decide) ?_
        show Steps p.tables e below (T103.setTop (mkF m 51 #[.val (.int p0), .val (.int (p0 &&& (3 : Int32))), .val (.ref ve), .val (.int (0 : Int32))] [])) _
        refine XS.aloadN X103.here hx rfl (hb hby at_51) rfl rfl ?_
        show Steps p.tables e below (T103.setTop (mkF m 52 #[.val (.int p0), .val (.int (p0 &&& (3 : Int32))), .val (.ref ve), .val (.int (0 : Int32))] [(.ref ve)])) _
        refine st104 _ ?_
        show Steps p.tables e below (T104.setTop (mkF m 55 #[.val (.int p0), .val (.int (p0 &&& (3 : Int32))), .val (.ref ve), .val (.int (0 : Int32))] [(.int (0 : Int32))])) _
        refine XS.iloadN X104.here hx rfl (hb hby at_55) rfl ?_
        show Steps p.tables e below (T104.setTop (mkF m 56 #[.val (.int p0), .val (.int (p0 &&& (3 : Int32))), .val (.ref ve), .val (.int (0 : Int32))] [(.int (0 : Int32)), (.int (0 : Int32))])) _
        refine XS.icmpNo X104.here hx rfl (hb hby at_56) rfl (own_nf (ic_ne _ _) (by decide)) ?_
        show Steps p.tables e below (T104.setTop (mkF m 59 #[.val (.int p0), .val (.int (p0 &&& (3 : Int32))), .val (.ref ve), .val (.int (0 : Int32))] [])) _
        refine XS.iconst X104.here hx rfl (hb hby at_59) ?_
        show Steps p.tables e below (T104.setTop (mkF m 60 #[.val (.int p0), .val (.int (p0 &&& (3 : Int32))), .val (.ref ve), .val (.int (0 : Int32))] [(.int (1 : Int32))])) _
        refine XS.goto X104.here hx rfl (pc0 := 60) (pc' := 64) rfl (hb hby at_60) (by decide) (by decide) ?_
        show Steps p.tables e below (T104.setTop (mkF m 64 #[.val (.int p0), .val (.int (p0 &&& (3 : Int32))), .val (.ref ve), .val (.int (0 : Int32))] [(.int (1 : Int32))])) _
        exact retN X104 hx (t := .boolean) Bd.returns (by simp) (hb hby at_64) hr
    · refine Gl.pre (S' := s₁.setTop (mkF m 33 #[.val (.int p0), .val (.int (p0 &&& (3 : Int32))), .unset, .unset] [(.int (2 : Int32)), (.int (p0 &&& (3 : Int32)))])) (fun t kt => ?_) ?_
      · show Steps p.tables e below (s₁.setTop (mkF m 19 #[.val (.int p0), .val (.int (p0 &&& (3 : Int32))), .unset, .unset] [(.int (1 : Int32)), (.int (p0 &&& (3 : Int32)))])) _
        refine XS.icmpYes X0.here hx rfl (pc0 := 19) (pc' := 31) rfl (hb hby at_19) rfl (own_nt (ic_ne _ _) hc19) (by decide) (by decide) ?_
        show Steps p.tables e below (s₁.setTop (mkF m 31 #[.val (.int p0), .val (.int (p0 &&& (3 : Int32))), .unset, .unset] [])) _
        refine XS.iloadN X0.here hx rfl (hb hby at_31) rfl ?_
        show Steps p.tables e below (s₁.setTop (mkF m 32 #[.val (.int p0), .val (.int (p0 &&& (3 : Int32))), .unset, .unset] [(.int (p0 &&& (3 : Int32)))])) _
        refine XS.iconst X0.here hx rfl (hb hby at_32) ?_
        exact kt
      by_cases hc33 : (p0 &&& (3 : Int32)) = (2 : Int32)
      · obtain ⟨T105, X105, e105, st105⟩ := getS2 X0 hx hZ hown (host := "") (Or.inl (hw _ (List.mem_of_getElem? (i := 13) rfl))) Via.refl e0 S_un (g := (mkF m 36 #[.val (.int p0), .val (.int (p0 &&& (3 : Int32))), .unset, .unset] [])) rfl (hb hby at_36)
        obtain ⟨v106, T106, L106, X106, q106, st106⟩ := own_callV X105 hx hZ (y := (⟨"com/example/mutual_consent/mutualconsent/engine/SignatureCheck", "refuses", "()Z"⟩ : MethodName)) (z := (⟨"com/example/mutual_consent/mutualconsent/engine/SignatureCheck", "refuses", "()Z"⟩ : MethodName)) hown (hw _ (List.mem_of_getElem? (i := 3) rfl)) (hw _ (List.mem_of_getElem? (i := 4) rfl)) (notFace_of_selects (args := #[]) (mvT hZ (hw _ (List.mem_of_getElem? (i := 6) rfl)))) (hw _ (List.mem_of_getElem? (i := 6) rfl)) (hw _ (List.mem_of_getElem? (i := 5) rfl)) (hw _ (List.mem_of_getElem? (i := 1) rfl)) (hw _ (List.mem_of_getElem? (i := 7) rfl)) (by decide) E_un (hM := (rm1u l Z a0 hw [] un ba h0 n0 Z0 S_un S_ba)) (by decide) (by decide) (by decide) (by decide) e105 (argsL := []) (rest := []) (Ls := #[.val (.int p0), .val (.int (p0 &&& (3 : Int32))), .val (.ref un), .val (.int (1 : Int32))]) (by rw [hml]; rfl) (lenOf pd___Z rfl) (W := 0) (Nat.le_of_eq rfl) (hb hby at_52)
        obtain ⟨rfl, N106q, e106⟩ := q106
        have N106 := Fr.app N0 N106q
        refine Gl.fin X106 (v := some (.int (1 : Int32))) (fun h => by rw [Bd.returns] at h; cases h) Bd.notSynchronized ?_ e106 (by decide) (by decide) (fun fs hr => ?_)
        · exact ⟨rfl, N106⟩
        · show Steps p.tables e below (s₁.setTop (mkF m 33 #[.val (.int p0), .val (.int (p0 &&& (3 : Int32))), .unset, .unset] [(.int (2 : Int32)), (.int (p0 &&& (3 : Int32)))])) _
          refine XS.icmpNo X0.here hx rfl (hb hby at_33) rfl (own_nf (ic_ne _ _) hc33) ?_
          show Steps p.tables e below (s₁.setTop (mkF m 36 #[.val (.int p0), .val (.int (p0 &&& (3 : Int32))), .unset, .unset] [])) _
          refine st105 _ ?_
          show Steps p.tables e below (T105.setTop (mkF m 39 #[.val (.int p0), .val (.int (p0 &&& (3 : Int32))), .unset, .unset] [(.ref un)])) _
          refine XS.astoreN X105.here hx rfl (hb hby at_39) rfl rfl (l' := #[.val (.int p0), .val (.int (p0 &&& (3 : Int32))), .val (.ref un), .unset]) rfl ?_
          show Steps p.tables e below (T105.setTop (mkF m 40 #[.val (.int p0), .val (.int (p0 &&& (3 : Int32))), .val (.ref un), .unset] [])) _
          refine XS.iconst X105.here hx rfl (hb hby at_40) ?_
          show Steps p.tables e below (T105.setTop (mkF m 41 #[.val (.int p0), .val (.int (p0 &&& (3 : Int32))), .val (.ref un), .unset] [(.int (1 : Int32))])) _
          refine XS.istoreN X105.here hx rfl (hb hby at_41) rfl (l' := #[.val (.int p0), .val (.int (p0 &&& (3 : Int32))), .val (.ref un), .val (.int (1 : Int32))]) rfl ?_
          show Steps p.tables e below (T105.setTop (mkF m 42 #[.val (.int p0), .val (.int (p0 &&& (3 : Int32))), .val (.ref un), .val (.int (1 : Int32))] [])) _
          refine XS.goto X105.here hx rfl (pc0 := 42) (pc' := 51) rfl (hb hby at_42) (by decide) (by decide) ?_
          show Steps p.tables e below (T105.setTop (mkF m 51 #[.val (.int p0), .val (.int (p0 &&& (3 : Int32))), .val (.ref un), .val (.int (1 : Int32))] [])) _
          refine XS.aloadN X105.here hx rfl (hb hby at_51) rfl rfl ?_
          show Steps p.tables e below (T105.setTop (mkF m 52 #[.val (.int p0), .val (.int (p0 &&& (3 : Int32))), .val (.ref un), .val (.int (1 : Int32))] [(.ref un)])) _
          refine st106 _ ?_
          show Steps p.tables e below (T106.setTop (mkF m 55 #[.val (.int p0), .val (.int (p0 &&& (3 : Int32))), .val (.ref un), .val (.int (1 : Int32))] [(.int (1 : Int32))])) _
          refine XS.iloadN X106.here hx rfl (hb hby at_55) rfl ?_
          show Steps p.tables e below (T106.setTop (mkF m 56 #[.val (.int p0), .val (.int (p0 &&& (3 : Int32))), .val (.ref un), .val (.int (1 : Int32))] [(.int (1 : Int32)), (.int (1 : Int32))])) _
          refine XS.icmpNo X106.here hx rfl (hb hby at_56) rfl (own_nf (ic_ne _ _) (by decide)) ?_
          show Steps p.tables e below (T106.setTop (mkF m 59 #[.val (.int p0), .val (.int (p0 &&& (3 : Int32))), .val (.ref un), .val (.int (1 : Int32))] [])) _
          refine XS.iconst X106.here hx rfl (hb hby at_59) ?_
          show Steps p.tables e below (T106.setTop (mkF m 60 #[.val (.int p0), .val (.int (p0 &&& (3 : Int32))), .val (.ref un), .val (.int (1 : Int32))] [(.int (1 : Int32))])) _
          refine XS.goto X106.here hx rfl (pc0 := 60) (pc' := 64) rfl (hb hby at_60) (by decide) (by decide) ?_
          show Steps p.tables e below (T106.setTop (mkF m 64 #[.val (.int p0), .val (.int (p0 &&& (3 : Int32))), .val (.ref un), .val (.int (1 : Int32))] [(.int (1 : Int32))])) _
          exact retN X106 hx (t := .boolean) Bd.returns (by simp) (hb hby at_64) hr
      · obtain ⟨T107, X107, e107, st107⟩ := getS2 X0 hx hZ hown (host := "") (Or.inl (hw _ (List.mem_of_getElem? (i := 12) rfl))) Via.refl e0 S_ba (g := (mkF m 45 #[.val (.int p0), .val (.int (p0 &&& (3 : Int32))), .unset, .unset] [])) rfl (hb hby at_45)
        obtain ⟨v108, T108, L108, X108, q108, st108⟩ := own_callV X107 hx hZ (y := (⟨"com/example/mutual_consent/mutualconsent/engine/SignatureCheck", "refuses", "()Z"⟩ : MethodName)) (z := (⟨"com/example/mutual_consent/mutualconsent/engine/SignatureCheck", "refuses", "()Z"⟩ : MethodName)) hown (hw _ (List.mem_of_getElem? (i := 3) rfl)) (hw _ (List.mem_of_getElem? (i := 4) rfl)) (notFace_of_selects (args := #[]) (mvT hZ (hw _ (List.mem_of_getElem? (i := 6) rfl)))) (hw _ (List.mem_of_getElem? (i := 6) rfl)) (hw _ (List.mem_of_getElem? (i := 5) rfl)) (hw _ (List.mem_of_getElem? (i := 1) rfl)) (hw _ (List.mem_of_getElem? (i := 7) rfl)) (by decide) E_ba (hM := (rm1b l Z a0 hw [] ba un h0 n0 Z0 S_un S_ba ne_ba_un)) (by decide) (by decide) (by decide) (by decide) e107 (argsL := []) (rest := []) (Ls := #[.val (.int p0), .val (.int (p0 &&& (3 : Int32))), .val (.ref ba), .val (.int (1 : Int32))]) (by rw [hml]; rfl) (lenOf pd___Z rfl) (W := 0) (Nat.le_of_eq rfl) (hb hby at_52)
        obtain ⟨rfl, N108q, e108⟩ := q108
        have N108 := Fr.app N0 N108q
        refine Gl.fin X108 (v := some (.int (1 : Int32))) (fun h => by rw [Bd.returns] at h; cases h) Bd.notSynchronized ?_ e108 (by decide) (by decide) (fun fs hr => ?_)
        · exact ⟨rfl, N108⟩
        · show Steps p.tables e below (s₁.setTop (mkF m 33 #[.val (.int p0), .val (.int (p0 &&& (3 : Int32))), .unset, .unset] [(.int (2 : Int32)), (.int (p0 &&& (3 : Int32)))])) _
          refine XS.icmpYes X0.here hx rfl (pc0 := 33) (pc' := 45) rfl (hb hby at_33) rfl (own_nt (ic_ne _ _) hc33) (by decide) (by decide) ?_
          show Steps p.tables e below (s₁.setTop (mkF m 45 #[.val (.int p0), .val (.int (p0 &&& (3 : Int32))), .unset, .unset] [])) _
          refine st107 _ ?_
          show Steps p.tables e below (T107.setTop (mkF m 48 #[.val (.int p0), .val (.int (p0 &&& (3 : Int32))), .unset, .unset] [(.ref ba)])) _
          refine XS.astoreN X107.here hx rfl (hb hby at_48) rfl rfl (l' := #[.val (.int p0), .val (.int (p0 &&& (3 : Int32))), .val (.ref ba), .unset]) rfl ?_
          show Steps p.tables e below (T107.setTop (mkF m 49 #[.val (.int p0), .val (.int (p0 &&& (3 : Int32))), .val (.ref ba), .unset] [])) _
          refine XS.iconst X107.here hx rfl (hb hby at_49) ?_
          show Steps p.tables e below (T107.setTop (mkF m 50 #[.val (.int p0), .val (.int (p0 &&& (3 : Int32))), .val (.ref ba), .unset] [(.int (1 : Int32))])) _
          refine XS.istoreN X107.here hx rfl (hb hby at_50) rfl (l' := #[.val (.int p0), .val (.int (p0 &&& (3 : Int32))), .val (.ref ba), .val (.int (1 : Int32))]) rfl ?_
          show Steps p.tables e below (T107.setTop (mkF m 51 #[.val (.int p0), .val (.int (p0 &&& (3 : Int32))), .val (.ref ba), .val (.int (1 : Int32))] [])) _
          refine XS.aloadN X107.here hx rfl (hb hby at_51) rfl rfl ?_
          show Steps p.tables e below (T107.setTop (mkF m 52 #[.val (.int p0), .val (.int (p0 &&& (3 : Int32))), .val (.ref ba), .val (.int (1 : Int32))] [(.ref ba)])) _
          refine st108 _ ?_
          show Steps p.tables e below (T108.setTop (mkF m 55 #[.val (.int p0), .val (.int (p0 &&& (3 : Int32))), .val (.ref ba), .val (.int (1 : Int32))] [(.int (1 : Int32))])) _
          refine XS.iloadN X108.here hx rfl (hb hby at_55) rfl ?_
          show Steps p.tables e below (T108.setTop (mkF m 56 #[.val (.int p0), .val (.int (p0 &&& (3 : Int32))), .val (.ref ba), .val (.int (1 : Int32))] [(.int (1 : Int32)), (.int (1 : Int32))])) _
          refine XS.icmpNo X108.here hx rfl (hb hby at_56) rfl (own_nf (ic_ne _ _) (by decide)) ?_
          show Steps p.tables e below (T108.setTop (mkF m 59 #[.val (.int p0), .val (.int (p0 &&& (3 : Int32))), .val (.ref ba), .val (.int (1 : Int32))] [])) _
          refine XS.iconst X108.here hx rfl (hb hby at_59) ?_
          show Steps p.tables e below (T108.setTop (mkF m 60 #[.val (.int p0), .val (.int (p0 &&& (3 : Int32))), .val (.ref ba), .val (.int (1 : Int32))] [(.int (1 : Int32))])) _
          refine XS.goto X108.here hx rfl (pc0 := 60) (pc' := 64) rfl (hb hby at_60) (by decide) (by decide) ?_
          show Steps p.tables e below (T108.setTop (mkF m 64 #[.val (.int p0), .val (.int (p0 &&& (3 : Int32))), .val (.ref ba), .val (.int (1 : Int32))] [(.int (1 : Int32))])) _
          exact retN X108 hx (t := .boolean) Bd.returns (by simp) (hb hby at_64) hr
set_option maxRecDepth 65536 in
set_option maxHeartbeats 40000000 in
theorem comes_1 {Post : Tables → Env → Array Value → State → Outcome → State → Prop} (hpost : ∀ tb e args s v u, (limb_1_1.after args s (.returned v) u = true ∧ limb_1_2.after args s (.returned v) u = true ∧ True) → FrameEnd s (.returned v) u (Jvm.fieldLocs frame_1_writes args s ++ Jvm.arrayLocs frame_1_arrays args s ++ Jvm.staticLocs frame_1_statics s) 0 0 → Post tb e args s (.returned v) u) :
    ArmFor flags0 classFile x code maxLocals ret World_1 tables_1 room_1 Calls_1 rest_1 Pre_1 Post := by
  intro l hfl _ _ p e ha hc hk s m args below hf hA hF happ hP
  obtain ⟨hcalls, hrest, hpre⟩ := hP
  obtain ⟨-, -, -, hnamed, -, -, -, hat⟩ := (Spec.applies_iff hf).mp happ
  obtain ⟨hg, hn⟩ := and_e (Cond.before_iff.mp (show (Jvm.Cond.and given_1 narrow_1).before args s = true from hpre))
  obtain ⟨hq0, hr0⟩ := and_e hg
  obtain ⟨w0, rfl⟩ : ∃ w0 : Value, args = #[w0] := by
    have hs : args.size = 1 := by simpa [Cond.value, given_1] using hq0
    obtain ⟨L⟩ := args
    match L, hs with
    | [w0], _ => exact ⟨w0, rfl⟩
  have hw := fun d (hd : d ∈ tables_1) => atoms_spec (ws := Jvm.Cond.code x code maxLocals ret :: tables_1) hat d (List.mem_cons_of_mem _ hd)
  have hfit : Fit s := fun {y c} hc i hi => by
    obtain ⟨ha, rfl⟩ := Array.getElem?_eq_some_iff.mp hc
    have q := List.all_eq_true.mp ((Array.all_eq_true_iff_forall_mem.mp hF) _ (Array.getElem_mem ha)) i (List.mem_range.mpr hi)
    simpa [Array.getElem?_eq_getElem hi] using q
  obtain ⟨i0, ei0⟩ := is_v hr0
  obtain rfl : w0 = (.int i0) := Option.some.inj ei0
  obtain ⟨m_nr, hn0⟩ := and_e hn
  obtain ⟨m_un, hn1⟩ := and_e hn0
  obtain ⟨m_o_nr, hn2⟩ := and_e hn1
  obtain ⟨m_o_un, hn3⟩ := and_e hn2
  obtain ⟨m_ba, hn4⟩ := and_e hn3
  obtain ⟨m_o_ba, hn5⟩ := and_e hn4
  obtain ⟨m_ve, hn6⟩ := and_e hn5
  have m_o_ve := hn6
  obtain ⟨nr, ev_nr, S_nr, E_nr⟩ := own_sx (hw _ (List.mem_of_getElem? (i := 1) rfl)) (hw _ (List.mem_of_getElem? (i := 2) rfl)) m_nr
  obtain ⟨un, ev_un, S_un, E_un⟩ := own_sx (hw _ (List.mem_of_getElem? (i := 1) rfl)) (hw _ (List.mem_of_getElem? (i := 9) rfl)) m_un
  obtain ⟨ba, ev_ba, S_ba, E_ba⟩ := own_sx (hw _ (List.mem_of_getElem? (i := 1) rfl)) (hw _ (List.mem_of_getElem? (i := 11) rfl)) m_ba
  obtain ⟨ve, ev_ve, S_ve, E_ve⟩ := own_sx (hw _ (List.mem_of_getElem? (i := 1) rfl)) (hw _ (List.mem_of_getElem? (i := 15) rfl)) m_ve
  have F_nr := own_fi ev_nr m_o_nr
  have F_un := own_fi ev_un m_o_un
  have F_ba := own_fi ev_ba m_o_ba
  have F_ve := own_fi ev_ve m_o_ve
  have ne_nr_un := F_nr.ne F_un (own_ne32 (by decide))
  have ne_nr_ba := F_nr.ne F_ba (own_ne32 (by decide))
  have ne_ve_un := F_ve.ne F_un (own_ne32 (by decide))
  have ne_ve_ba := F_ve.ne F_ba (own_ne32 (by decide))
  have ne_ba_un := F_ba.ne F_un (own_ne32 (by decide))
  obtain ⟨n, o, h1, h2, h3, _, L, rfl, ⟨rfl, N⟩, hq⟩ := rm0 l s _ hw tables_1 i0 nr un ba ve s.heap s.heap.size (Nat.le_refl _) S_nr S_un S_ba S_ve E_nr E_un E_ba E_ve ne_nr_un ne_nr_ba ne_ve_un ne_ve_ba ne_ba_un p e ha hc hk s m _ below hf ((Spec.applies_iff_loose hf).mp happ).1 ⟨rfl, State.Warmed39.refl s, rfl⟩ trivial
  refine ⟨n, _, h1, h2, h3, hpost _ _ _ _ _ _ ⟨Cond.after_iff.mpr rfl, Cond.after_iff.mpr (eq_i res_at (Term.int_eval (1)) rfl), trivial⟩ ⟨hq.1, hq.2.1, (hq.2.2.sift fun y hy => Or.inr (N y hy)).mono (by decide) (by decide)⟩⟩
theorem main_1_1 : Claimed_1_1 := comes_1 fun _ _ _ _ _ _ h hF => ⟨h.1, hF⟩
theorem main_1_2 : Claimed_1_2 := comes_1 fun _ _ _ _ _ _ h hF => ⟨h.2.1, hF⟩
end Jvm.Pilot.@@N@@
namespace Jvm.Pilot.@@N@@
open Jvm Jvm.ClassFile Sem Op Lib Jvm.Free Jvm.Stand Jvm.Pilot.@@N@@.Jvm.D
/-! MADE BY PROGRAM (witnessworld.py) out of the Statement's table words and the real class files: 12 classes; the members and pool entries that the words name. The judged class is class 1, her method 1. -/
namespace start1
open Jvm.ClassFile
def u (s : String) : CpInfo := .utf8 (stringToUtf16 s)
/-- a pool by its gaps: so many unusable entries, then the entry; so many at the end -/
def gap : Nat → List CpInfo → List CpInfo
  | 0, r => r
  | n + 1, r => .unusable :: gap n r
def poolList (es : List (Nat × CpInfo)) (last : Nat) : List CpInfo := es.foldr (fun e r => gap e.1 (e.2 :: r)) (gap last [])
def pool (es : List (Nat × CpInfo)) (last : Nat) : Array CpInfo := ⟨poolList es last⟩
def fileOf (pool : Array CpInfo) (this : Nat) (attrs : Array Attribute := #[]) (ms : Array MethodInfo := #[]) (fl : Nat := 33) (sup : Nat := 0) (ifs : Array Nat := #[]) (fds : Array FieldInfo := #[]) : ClassFile where
  minorVersion := 0
  majorVersion := 65
  constantPool := pool
  accessFlags := fl
  thisClass := this
  superClass := sup
  interfaces := ifs
  fields := fds
  methods := ms
  attributes := attrs
def plain (name : String) (sup : Option ClassId) : Class where
  name := name
  kind := .ordinary
  loader := none
  accessFlags := 33
  super := sup
  interfaces := #[]
  cf := none
  fields := #[]
  methods := #[]
  instanceTypes := #[]
  staticTypes := #[]
  resolved := #[]
  callSites := []
  init := .initialized
  statics := none
  mirror := none

def pool0 : Array CpInfo := pool [(5, u "<init>"), (0, u "()V"), (1, .class_ 10), (1, u "java/lang/Object")] 113

def k0m0 : Method := { name := "<init>", desc := "()V", sig := { parameters := [], returnType := none }, accessFlags := 1, code := none }
/-- java/lang/Object -/
def k0 : Class := { plain "java/lang/Object" none with
  accessFlags := 33
  interfaces := #[]
  cf := some (fileOf pool0 8 #[] #[{ accessFlags := 1, nameIndex := 5, descriptorIndex := 6, attributes := #[] }] 33 0 #[] #[])
  fields := #[]
  methods := #[k0m0]
  instanceTypes := #[]
  staticTypes := #[]
  resolved := Array.replicate 124 none
  statics := none }

def pool1 : Array CpInfo := pool [(2, .class_ 4), (1, u "java/lang/Object"), (0, u "<init>"), (0, u "()V"), (0, .fieldref 8 9), (0, .class_ 10), (0, .nameAndType 11 12), (0, u "com/example/mutual_consent/mutualconsent/engine/SignatureCheck"), (0, u "NOT_REQUIRED"), (0, u "Lcom/example/mutual_consent/mutualconsent/engine/SignatureCheck;"), (0, .fieldref 8 14), (0, .nameAndType 15 12), (0, u "VERIFIED"), (0, .fieldref 8 17), (0, .nameAndType 18 12), (0, u "UNSIGNED"), (0, .fieldref 8 20), (0, .nameAndType 21 12), (0, u "BAD_SIGNATURE"), (0, .methodref 8 23), (0, .nameAndType 24 25), (0, u "refuses"), (0, u "()Z"), (0, .class_ 27), (0, u "com/example/mutual_consent/mutualconsent/engine/SignatureCheckRefusesPinLaw"), (2, u "law"), (0, u "(I)Z")] 3

def k1m0 : Method := { name := "<init>", desc := "()V", sig := { parameters := [], returnType := none }, accessFlags := 1, code := none }
def k1c1 : Code := { maxStack := 2, maxLocals := 4, code := code, exceptionTable := #[], attributes := #[] }
def k1m1 : Method := { name := "law", desc := "(I)Z", sig := { parameters := [.int], returnType := some .boolean }, accessFlags := 9, code := some k1c1 }
/-- com/example/mutual_consent/mutualconsent/engine/SignatureCheckRefusesPinLaw -/
def k1 : Class := { plain "com/example/mutual_consent/mutualconsent/engine/SignatureCheckRefusesPinLaw" (some 0) with
  accessFlags := 49
  interfaces := #[]
  cf := some (fileOf pool1 26 #[] #[{ accessFlags := 1, nameIndex := 5, descriptorIndex := 6, attributes := #[] }, { accessFlags := 9, nameIndex := 30, descriptorIndex := 31, attributes := #[] }] 49 2 #[] #[])
  fields := #[]
  methods := #[k1m0, k1m1]
  instanceTypes := #[]
  staticTypes := #[]
  resolved := Array.replicate 35 none
  statics := none }

def pool2 : Array CpInfo := pool [(1, .class_ 2), (0, u "java/lang/constant/Constable"), (0, .class_ 4), (0, u "java/lang/Object")] 6

/-- java/lang/constant/Constable -/
def k2 : Class := { plain "java/lang/constant/Constable" (some 0) with
  accessFlags := 1537
  interfaces := #[]
  cf := some (fileOf pool2 1 #[] #[] 1537 3 #[] #[])
  fields := #[]
  methods := #[]
  instanceTypes := #[]
  staticTypes := #[]
  resolved := Array.replicate 11 none
  statics := none }

def pool3 : Array CpInfo := pool [(1, .class_ 2), (0, u "java/lang/Comparable"), (0, .class_ 4), (0, u "java/lang/Object")] 7

/-- java/lang/Comparable -/
def k3 : Class := { plain "java/lang/Comparable" (some 0) with
  accessFlags := 1537
  interfaces := #[]
  cf := some (fileOf pool3 1 #[] #[] 1537 3 #[] #[])
  fields := #[]
  methods := #[]
  instanceTypes := #[]
  staticTypes := #[]
  resolved := Array.replicate 12 none
  statics := none }

def pool4 : Array CpInfo := pool [(1, .class_ 2), (0, u "java/io/Serializable"), (0, .class_ 4), (0, u "java/lang/Object")] 2

/-- java/io/Serializable -/
def k4 : Class := { plain "java/io/Serializable" (some 0) with
  accessFlags := 1537
  interfaces := #[]
  cf := some (fileOf pool4 1 #[] #[] 1537 3 #[] #[])
  fields := #[]
  methods := #[]
  instanceTypes := #[]
  staticTypes := #[]
  resolved := Array.replicate 7 none
  statics := none }

def pool5 : Array CpInfo := pool [(2, .class_ 4), (1, u "java/lang/Enum"), (0, u "name"), (0, u "Ljava/lang/String;"), (2, u "ordinal"), (0, u "I"), (1, .class_ 14), (1, u "java/lang/Object"), (4, u "hash"), (86, .class_ 108), (1, u "java/lang/Enum$EnumDesc"), (2, .class_ 112), (0, u "java/lang/constant/Constable"), (0, .class_ 114), (0, u "java/lang/Comparable"), (0, .class_ 116), (0, u "java/io/Serializable")] 87

/-- java/lang/Enum -/
def k5 : Class := { plain "java/lang/Enum" (some 0) with
  accessFlags := 1057
  interfaces := #[2, 3, 4]
  cf := some (fileOf pool5 2 #[.nestMembers #[106]] #[] 1057 12 #[111, 113, 115] #[{ accessFlags := 18, nameIndex := 5, descriptorIndex := 6, attributes := #[] }, { accessFlags := 18, nameIndex := 9, descriptorIndex := 10, attributes := #[] }, { accessFlags := 2, nameIndex := 19, descriptorIndex := 10, attributes := #[] }])
  fields := #[{ name := "name", type := (.object "java/lang/String"), accessFlags := 18, slot := 0, constantValue := 0 }, { name := "ordinal", type := .int, accessFlags := 18, slot := 1, constantValue := 0 }, { name := "hash", type := .int, accessFlags := 2, slot := 2, constantValue := 0 }]
  methods := #[]
  instanceTypes := #[(.object "java/lang/String"), .int, .int]
  staticTypes := #[]
  resolved := Array.replicate 204 none
  statics := none }

def pool6 : Array CpInfo := pool [(1, .class_ 2), (0, u "com/example/mutual_consent/mutualconsent/engine/SignatureCheck"), (2, u "NOT_REQUIRED"), (0, u "Lcom/example/mutual_consent/mutualconsent/engine/SignatureCheck;"), (2, u "VERIFIED"), (0, .fieldref 1 11), (0, .nameAndType 12 6), (0, u "UNSIGNED"), (0, .fieldref 1 14), (0, .nameAndType 15 6), (0, u "BAD_SIGNATURE"), (2, u "$VALUES"), (0, u "[Lcom/example/mutual_consent/mutualconsent/engine/SignatureCheck;"), (6, .class_ 28), (1, u "java/lang/Enum"), (8, u "word"), (0, u "Ljava/lang/String;"), (26, u "refuses"), (0, u "()Z")] 8

def k6c0 : Code := { maxStack := 2, maxLocals := 1, code := prog_20_method_4_code, exceptionTable := #[], attributes := #[] }
def k6m0 : Method := { name := "refuses", desc := "()Z", sig := { parameters := [], returnType := some .boolean }, accessFlags := 1, code := some k6c0 }
/-- com/example/mutual_consent/mutualconsent/engine/SignatureCheck -/
def k6 : Class := { plain "com/example/mutual_consent/mutualconsent/engine/SignatureCheck" (some 5) with
  accessFlags := 16433
  interfaces := #[]
  cf := some (fileOf pool6 1 #[] #[{ accessFlags := 1, nameIndex := 65, descriptorIndex := 66, attributes := #[] }] 16433 26 #[] #[{ accessFlags := 16409, nameIndex := 5, descriptorIndex := 6, attributes := #[] }, { accessFlags := 16409, nameIndex := 9, descriptorIndex := 6, attributes := #[] }, { accessFlags := 16409, nameIndex := 12, descriptorIndex := 6, attributes := #[] }, { accessFlags := 16409, nameIndex := 15, descriptorIndex := 6, attributes := #[] }, { accessFlags := 18, nameIndex := 37, descriptorIndex := 38, attributes := #[] }, { accessFlags := 4122, nameIndex := 18, descriptorIndex := 19, attributes := #[] }])
  fields := #[{ name := "NOT_REQUIRED", type := (.object "com/example/mutual_consent/mutualconsent/engine/SignatureCheck"), accessFlags := 16409, slot := 0, constantValue := 0 }, { name := "VERIFIED", type := (.object "com/example/mutual_consent/mutualconsent/engine/SignatureCheck"), accessFlags := 16409, slot := 1, constantValue := 0 }, { name := "UNSIGNED", type := (.object "com/example/mutual_consent/mutualconsent/engine/SignatureCheck"), accessFlags := 16409, slot := 2, constantValue := 0 }, { name := "BAD_SIGNATURE", type := (.object "com/example/mutual_consent/mutualconsent/engine/SignatureCheck"), accessFlags := 16409, slot := 3, constantValue := 0 }, { name := "word", type := (.object "java/lang/String"), accessFlags := 18, slot := 3, constantValue := 0 }, { name := "$VALUES", type := (.array (.object "com/example/mutual_consent/mutualconsent/engine/SignatureCheck")), accessFlags := 4122, slot := 4, constantValue := 0 }]
  methods := #[k6m0]
  instanceTypes := #[(.object "java/lang/String"), .int, .int, (.object "java/lang/String")]
  staticTypes := #[(.object "com/example/mutual_consent/mutualconsent/engine/SignatureCheck"), (.object "com/example/mutual_consent/mutualconsent/engine/SignatureCheck"), (.object "com/example/mutual_consent/mutualconsent/engine/SignatureCheck"), (.object "com/example/mutual_consent/mutualconsent/engine/SignatureCheck"), (.array (.object "com/example/mutual_consent/mutualconsent/engine/SignatureCheck"))]
  resolved := Array.replicate 75 none
  statics := some 0 }

def pool7 : Array CpInfo := pool [(1, u "java/lang/Cloneable"), (0, .class_ 1), (0, u "java/lang/Object"), (0, .class_ 3)] 3

/-- java/lang/Cloneable -/
def k7 : Class := { plain "java/lang/Cloneable" (some 0) with
  accessFlags := 1537
  interfaces := #[]
  cf := some (fileOf pool7 2 #[] #[] 1537 4 #[] #[])
  fields := #[]
  methods := #[]
  instanceTypes := #[]
  staticTypes := #[]
  resolved := Array.replicate 8 none
  statics := none }

/-- the primitive byte -/
def k8 : Class := { plain "byte" none with kind := .primitive 'B', accessFlags := 0x411 }
/-- [B -/
def k9 : Class := { plain "[B" (some 0) with kind := .array 8 .byte, interfaces := #[7, 4], accessFlags := 1041 }

/-- the primitive int -/
def k10 : Class := { plain "int" none with kind := .primitive 'I', accessFlags := 0x411 }
/-- [I -/
def k11 : Class := { plain "[I" (some 0) with kind := .array 10 .int, interfaces := #[7, 4], accessFlags := 1041 }

def heap : Heap := #[{ cls := 6, slots := #[.ref 1, .ref 2, .ref 3, .ref 4, .null], vm := .statics 6 },
  { cls := 6, slots := #[.null, .int 0, .int 0, .null], vm := .none },
  { cls := 6, slots := #[.null, .int 1, .int 0, .null], vm := .none },
  { cls := 6, slots := #[.null, .int 2, .int 0, .null], vm := .none },
  { cls := 6, slots := #[.null, .int 3, .int 0, .null], vm := .none }]
def classes : Array Class := #[k0, k1, k2, k3, k4, k5, k6, k7, k8, k9, k10, k11]
def interned : List (Array UInt16 × Addr) := []
def slotsUsed : Nat := 21
def theMethod : MethodId := ⟨1, 1⟩
def args0 : Array Value := #[.int 2]
def aboutOver (below : List Frame) : State where
  vm := { classes := classes, interned := interned.toArray }
  heap := heap
  slotsUsed := slotsUsed
  threads := #[{ frames := .invoking theMethod args0 :: below }]
def below0 : List Frame := [.native { method := ⟨0, 0⟩, args := #[] }]
def about1 : State := aboutOver below0
def p0 : Program := .bare "" "" ""
def e0 : Env := launch0.env 0 0 0
theorem w_frames : about1.frames = Frame.invoking theMethod args0 :: below0 := rfl
set_option maxRecDepth 65536 in
theorem w_args : argsFit about1.vm theMethod args0 = true := by decide +kernel
set_option maxRecDepth 65536 in
theorem w_heap : heapFits about1 = true := by decide +kernel
set_option maxRecDepth 65536 in
theorem w_runnable : about1.curStatus? = some .runnable := by decide +kernel
set_option maxRecDepth 65536 in
theorem w_alone : about1.alone = true := by decide +kernel
set_option maxRecDepth 65536 in
theorem w_named : about1.methodNamed? x = some theMethod := by decide +kernel
set_option maxRecDepth 65536 in
theorem w_hears : about1.hears theMethod below0 = true := by decide +kernel
set_option maxRecDepth 65536 in
theorem w_ripe : about1.ripe theMethod args0 below0 = true := by decide +kernel
theorem w_running : about1.status = .running := rfl
set_option maxRecDepth 65536 in
theorem w_room : about1.hasRoom e0.platform room_1 = true :=
  launch0.hasRoom_least _ room_1 (by decide +kernel) (by decide +kernel) (by decide +kernel) (by decide +kernel) (by decide +kernel) (by decide +kernel)
theorem allAtoms_all (ts : List Jvm.Cond) (a : Array Jvm.Value) (st : Jvm.State) : (allAtoms ts).before a st = ts.all (fun c => c.before a st) := by
  induction ts with
  | nil => rfl
  | cons c t ih =>
    show (Jvm.Cond.and c (allAtoms t)).before a st = _
    rw [Jvm.Cond.before_and, ih, List.all_cons]
def words1 : List Jvm.Cond := Jvm.Cond.code x code maxLocals ret :: tables_1
/-- a 'code' word, met by the world's own term for the bytes: nothing is compared byte by byte -/
theorem code_word {y : MethodName} {bytes : ByteArray} {mx : Nat} {rt : Option FieldType} {a : Array Value} {s : State} {m : MethodId} {meth : Method} {c : Code} (h1 : s.methodNamed? y = some m) (h2 : s.vm.method? m = some meth) (h3 : meth.code = some c) (h4 : c.code = bytes)
    (h5 : (c.maxLocals == mx && c.exceptionTable.isEmpty && decide (c.maxStack ≤ mostOperands) && decide (meth.sig.returnType = rt) && !meth.locks && decide (parseMethodDescriptor y.desc = some meth.sig)) = true) : (Jvm.Cond.code y bytes mx rt).before a s = true := by
  simp only [Bool.and_eq_true, beq_iff_eq, Bool.not_eq_true', decide_eq_true_eq] at h5
  obtain ⟨⟨⟨⟨⟨g1, g2⟩, g3⟩, g4⟩, g5⟩, g6⟩ := h5
  simp [Cond.before, Cond.holds, Cond.value, h1, h2, h3, h4, g1, g2, g3, g4, g5, g6]
def isCode : Jvm.Cond → Bool
  | .code _ _ _ _ => true
  | _ => false
theorem all_split {L : List Jvm.Cond} {P : Jvm.Cond → Bool} (h1 : L.all (fun c => isCode c || P c) = true) (h2 : ∀ c ∈ L.filter isCode, P c = true) : L.all P = true := by
  refine List.all_eq_true.mpr fun c hc => ?_
  have h := List.all_eq_true.mp h1 c hc
  rcases Bool.eq_false_or_eq_true (isCode c) with hi | hi
  · exact h2 c (List.mem_filter.mpr ⟨hc, hi⟩)
  · simpa [hi] using h
set_option maxRecDepth 65536 in
theorem w_c0 : (Jvm.Cond.code x code maxLocals ret).before args0 about1 = true := code_word (m := ⟨1, 1⟩) (meth := k1m1) (c := k1c1) (by decide +kernel) rfl rfl rfl (by decide +kernel)
set_option maxRecDepth 65536 in
theorem w_c1 : (Jvm.Cond.code ({ cls := "com/example/mutual_consent/mutualconsent/engine/SignatureCheck", name := "refuses", desc := "()Z" } : Jvm.MethodName) prog_20_method_4_code (1 : Nat) (Option.some Jvm.ClassFile.FieldType.boolean)).before args0 about1 = true := code_word (m := ⟨6, 0⟩) (meth := k6m0) (c := k6c0) (by decide +kernel) rfl rfl rfl (by decide +kernel)
def codes1 : List Jvm.Cond := [Jvm.Cond.code x code maxLocals ret, Jvm.Cond.code ({ cls := "com/example/mutual_consent/mutualconsent/engine/SignatureCheck", name := "refuses", desc := "()Z" } : Jvm.MethodName) prog_20_method_4_code (1 : Nat) (Option.some Jvm.ClassFile.FieldType.boolean)]
set_option maxRecDepth 65536 in
theorem codes_eq : words1.filter isCode = codes1 := rfl
theorem w_codes : ∀ c ∈ words1.filter isCode, c.before args0 about1 = true := by
  rw [codes_eq]
  intro c hc
  simp only [codes1, List.mem_cons, List.not_mem_nil, or_false] at hc
  rcases hc with rfl | rfl
  · exact w_c0
  · exact w_c1
set_option maxRecDepth 65536 in
theorem w_t1 : words1.all (fun c => isCode c || c.before args0 about1) = true := by decide +kernel
theorem w_tables : (allAtoms (Jvm.Cond.code x code maxLocals ret :: tables_1)).before args0 about1 = true := by
  rw [allAtoms_all]
  show words1.all (fun c => c.before args0 about1) = true
  refine all_split ?_ w_codes
  rw [w_t1]
set_option maxRecDepth 65536 in
theorem w_case : (Jvm.Cond.and given_1 narrow_1).before args0 about1 = true := by decide +kernel
theorem w_applies : (headSpec (Jvm.Cond.code x code maxLocals ret :: tables_1) room_1).applies x e0.platform about1 = true :=
  (Spec.applies_iff w_frames).mpr ⟨w_running, w_runnable, w_alone, w_named, w_hears, w_ripe, w_room, w_tables⟩
theorem atStart : AtStart classFile x code maxLocals ret World_1 tables_1 room_1 Calls_1 rest_1 Pre_1 launch0 p0 e0 about1 theMethod args0 below0 :=
  ⟨lists_1, trivial, launch0.admits_env _ _ _, launch0.least_env, fairChoices_fair.cas, fairChoices_fair.clock, w_frames, w_args, w_heap, w_applies, trivial, trivial, w_case⟩
end start1
theorem witness_1 : WitnessClaimed_1 := ⟨start1.p0, start1.e0, start1.about1, start1.theMethod, start1.args0, start1.below0, start1.atStart⟩
end Jvm.Pilot.@@N@@
