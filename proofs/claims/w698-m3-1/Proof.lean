import JvmDerived
import JvmDerived.Pilot.@@N@@Statement
import JvmDerived.Pilot.@@N@@Code
set_option linter.unusedVariables false
set_option linter.unusedSimpArgs false
namespace Jvm.Pilot.@@N@@
open Jvm Jvm.ClassFile Sem Op Lib Jvm.Free Jvm.Stand Jvm.LawKit Jvm.RoadKit Bundle Jvm.Pilot.@@N@@.Jvm.D
section OwnKit
variable {p : Program} {l : Launch} {e : Env} {R : Room} {s : State} {m : MethodId} {args : Array Value} {below : List Frame} {meth : Method} {c : Code} {T : State} {locs : List Loc} {cells slots : Nat} {Z : State} {a0 : Array Value} {h h0 : Heap}
/-- the run comes from S to an end of which Q speaks -/
def Gl (p : Program) (e : Env) (below : List Frame) (s : State) (Q : Option Value → Heap → List Loc → Prop) (cc kk : Nat) (S : State) : Prop :=
  ∃ t o, Steps p.tables e below S t ∧ t.status = .running ∧ Ended t below o ∧ ∃ v L, o = .returned v ∧ Q v t.heap L ∧ FrameEnd s o t L cc kk
theorem Gl.pre {Q : Option Value → Heap → List Loc → Prop} {cc kk : Nat} {S S' : State} (st : ∀ t, Steps p.tables e below S' t → Steps p.tables e below S t) (k : Gl p e below s Q cc kk S') : Gl p e below s Q cc kk S := by
  obtain ⟨t, o, h1, h2⟩ := k
  exact ⟨t, o, st _ h1, h2⟩
theorem Gl.ret {Q : Option Value → Heap → List Loc → Prop} {cc kk : Nat} {S : State} (X : Stand p l e R s m args below meth c T locs cells slots) {v : Option Value} (hv : meth.sig.returnType = none → v = none) (hlocks : meth.locks = false) (hQ : Q v T.heap locs) (hc : cells ≤ cc) (hk : slots ≤ kk)
    (st : ∀ fs, (∀ (f : JFrame) (acts : List Action), f.method = m → f.locked = none → f.entered = [] → (doReturn e (T.setTop f) acts v).1 = T.setFrames fs) → Steps p.tables e below S (T.setFrames fs)) : Gl p e below s Q cc kk S := by
  obtain ⟨fs, hr, hrun, hended, hW, hsame⟩ := X.leave (v := v) hv hlocks
  exact ⟨_, _, st fs hr, hrun, hended, _, _, rfl, hQ, ⟨_, rfl⟩, hW, hsame.mono hc hk⟩
theorem Gl.fin {Q : Option Value → Heap → List Loc → Prop} {cc kk : Nat} {S : State} (X : Stand p l e R s m args below meth c T locs cells slots) {v : Option Value} (hv : meth.sig.returnType = none → v = none) (hlocks : meth.locks = false) (hQ : Q v h locs) (eT : T.heap = h) (hc : cells ≤ cc) (hk : slots ≤ kk)
    (st : ∀ fs, (∀ (f : JFrame) (acts : List Action), f.method = m → f.locked = none → f.entered = [] → (doReturn e (T.setTop f) acts v).1 = T.setFrames fs) → Steps p.tables e below S (T.setFrames fs)) : Gl p e below s Q cc kk S :=
  Gl.ret X hv hlocks (by rw [eT]; exact hQ) hc hk st
abbrev OMet (l : Launch) (Z : State) (y : MethodName) (bytes : ByteArray) (maxL : Nat) (ret : Option FieldType) (ws : List Jvm.Cond) (rm : Room) (as' : Array Value) (h0 : Heap) (Q : Option Value → Heap → List Loc → Prop) : Prop :=
  MetFree l y (head1 (Jvm.Cond.code y bytes maxL ret :: ws) rm) (fun a U => a = as' ∧ Z.Warmed39 U.vm ∧ U.heap = h0) (fun _ _ _ _ _ => True) (fun _ U o U' => ∃ v L, o = .returned v ∧ Q v U'.heap L ∧ FrameEnd U o U' L rm.cells rm.slots)
theorem own_body {y : MethodName} {bytes : ByteArray} {maxL : Nat} {ret : Option FieldType} {ws : List Jvm.Cond} {rm : Room} {as' : Array Value} {Q : Option Value → Heap → List Loc → Prop} (hx : plainFor y = true)
    (H : ∀ p e s m below meth c s₁, BodyLoose p l y (head1 (Jvm.Cond.code y bytes maxL ret :: ws) rm) bytes maxL ret e s m as' below meth c s₁ → c.maxLocals = maxL → Z.Warmed39 s.vm → s₁.heap = h0 → Gl p e below s Q rm.cells rm.slots (s₁.setTop (entryFrame m as' maxL))) :
    OMet l Z y bytes maxL ret ws rm as' h0 Q := by
  refine MetFree.of_bodySF hx hisR ?_
  intro p e s m args below meth c s₁ Bd hml0 hP hK
  obtain ⟨rfl, hZ, hh⟩ := hP
  exact H p e s m below meth c s₁ Bd hml0 hZ (by rw [← hh, Bd.state]; rfl)
/-- an int is returned -/
theorem own_retI (X : Stand p l e R s m args below meth c T locs cells slots) (hx : p.tables.exec = Jvm.exec) {pc : Nat} {Ls : Array Slot} {z : Int32} {rest : List Value} (hret : meth.sig.returnType = some .int) (hd : decode c.code pc = .ok (.ireturn, 1)) {fs : List Frame}
    (hl : ∀ (f : JFrame) (acts : List Action), f.method = m → f.locked = none → f.entered = [] → (doReturn e (T.setTop f) acts (some (.int z))).1 = T.setFrames fs) : Steps p.tables e below (T.setTop (mkF m pc Ls (.int z :: rest))) (T.setFrames fs) :=
  retOut X hx hret rfl (Or.inl ⟨rfl, Or.inl rfl, z, rfl⟩) hd hl
theorem own_retJ (X : Stand p l e R s m args below meth c T locs cells slots) (hx : p.tables.exec = Jvm.exec) {pc : Nat} {Ls : Array Slot} {z : Int64} {rest : List Value} (hret : meth.sig.returnType = some .long) (hd : decode c.code pc = .ok (.lreturn, 1)) {fs : List Frame}
    (hl : ∀ (f : JFrame) (acts : List Action), f.method = m → f.locked = none → f.entered = [] → (doReturn e (T.setTop f) acts (some (.long z))).1 = T.setFrames fs) : Steps p.tables e below (T.setTop (mkF m pc Ls (.long z :: rest))) (T.setFrames fs) :=
  retOut X hx hret rfl (Or.inr (Or.inl ⟨rfl, rfl, z, rfl⟩)) hd hl
theorem own_retD (X : Stand p l e R s m args below meth c T locs cells slots) (hx : p.tables.exec = Jvm.exec) {pc : Nat} {Ls : Array Slot} {z : UInt64} {rest : List Value} (hret : meth.sig.returnType = some .double) (hd : decode c.code pc = .ok (.dreturn, 1)) {fs : List Frame}
    (hl : ∀ (f : JFrame) (acts : List Action), f.method = m → f.locked = none → f.entered = [] → (doReturn e (T.setTop f) acts (some (.double z))).1 = T.setFrames fs) : Steps p.tables e below (T.setTop (mkF m pc Ls (.double z :: rest))) (T.setFrames fs) :=
  retOut X hx hret rfl (Or.inr (Or.inr (Or.inl ⟨rfl, rfl, z, rfl⟩))) hd hl
theorem own_retR (X : Stand p l e R s m args below meth c T locs cells slots) (hx : p.tables.exec = Jvm.exec) {pc : Nat} {Ls : Array Slot} {w : Value} {t : FieldType} {rest : List Value} (hret : meth.sig.returnType = some t) (ht : t.isReference = true) (hn : narrow t w = w) (hw : w.isRef = true) (hd : decode c.code pc = .ok (.areturn, 1)) {fs : List Frame}
    (hl : ∀ (f : JFrame) (acts : List Action), f.method = m → f.locked = none → f.entered = [] → (doReturn e (T.setTop f) acts (some w)).1 = T.setFrames fs) : Steps p.tables e below (T.setTop (mkF m pc Ls (w :: rest))) (T.setFrames fs) :=
  retOut X hx hret hn (Or.inr (Or.inr (Or.inr (Or.inr ⟨rfl, ht, hw⟩)))) hd hl
/-- a static method by its contract -/
theorem own_callS (X : Stand p l e R s m args below meth c T locs cells slots) (hx : p.tables.exec = Jvm.exec) (hZ : Z.Warmed39 s.vm) {own : String} {index : Nat} {y : MethodName} {bytes : ByteArray} {maxL : Nat} {ret : Option FieldType} {rm : Room} {Q : Option Value → Heap → List Loc → Prop}
    (hown : s.vm.findClass own = some m.cls) (w1 : (Jvm.Cond.methodLink own index y).before a0 Z = true) (w2 : (Jvm.Cond.static y).before a0 Z = true) (w3 : (Jvm.Cond.initialized y.cls).before a0 Z = true) (w4 : (Jvm.Cond.code y bytes maxL ret).before a0 Z = true)
    (hy : y.cls ≠ "java/lang/invoke/MethodHandle" ∧ y.cls ≠ "java/lang/invoke/VarHandle") {argsL rest : List Value} (hM : OMet l Z y bytes maxL ret [] rm argsL.toArray h Q) {W : Nat} (hf : rm.frames + 1 ≤ R.frames) (hl : W + (maxL + 11) + rm.locals ≤ R.locals) (hc : cells + rm.cells ≤ R.cells) (hs : slots + rm.slots ≤ R.slots)
    (eT : T.heap = h) {pc : Nat} {Ls : Array Slot} (hsize : Ls.size = c.maxLocals) (hlen : ∀ sig, parseMethodDescriptor y.desc = some sig → argsL.length = sig.parameters.length) (hW : (rest.map fun v => v.category).sum ≤ W) (hd : decode c.code pc = .ok (.invokestatic index, 3)) :
    ∃ (v : Option Value) (T' : State) (L : List Loc), Stand p l e R s m args below meth c T' (locs ++ L) (cells + rm.cells) (slots + rm.slots) ∧ Q v T'.heap L ∧
      ∀ t, Steps p.tables e below (T'.setTop (mkF m (pc + 3) Ls (v.toList ++ rest))) t → Steps p.tables e below (T.setTop (mkF m pc Ls (argsL.reverse ++ rest))) t := by
  obtain ⟨v, _, ⟨T', L', k', n'⟩, -, X', ⟨L, hQ, hl', hy', hz'⟩, st⟩ := Jvm.LawKit.callS X hx (y := y) hown (mvT hZ w1) (mvT hZ w2) (mvT hZ w3) (mvT hZ w4) hy (backOf (W := W) hM hZ w4 w3 hf hl) (g := mkF m pc Ls (argsL.reverse ++ rest)) rfl hsize (argsL := argsL) (rest := rest) hlen rfl (by show 2 * 0 + _ ≤ _; omega) hd (fun _ _ => ⟨rfl, eT, hc, hs⟩)
  dsimp only [Pt.U, Pt.locs, Pt.cells, Pt.slots] at X' hl' hy' hz' st hQ
  subst hl' hy' hz'
  exact ⟨v, T', L, X', hQ, st⟩
/-- a constructor by its contract -/
theorem own_callI (X : Stand p l e R s m args below meth c T locs cells slots) (hx : p.tables.exec = Jvm.exec) (hZ : Z.Warmed39 s.vm) {own : String} {index : Nat} {y : MethodName} {bytes : ByteArray} {maxL : Nat} {rm : Room} {Q : Option Value → Heap → List Loc → Prop} (hy1 : y.name = "<init>")
    (hown : s.vm.findClass own = some m.cls) (w1 : (Jvm.Cond.methodLink own index y).before a0 Z = true) (w2 : (Jvm.Cond.instanceMethod y).before a0 Z = true) (w3 : (Jvm.Cond.initialized y.cls).before a0 Z = true) (w4 : (Jvm.Cond.code y bytes maxL none).before a0 Z = true)
    (hy : y.cls ≠ "java/lang/invoke/MethodHandle" ∧ y.cls ≠ "java/lang/invoke/VarHandle") {a : Addr} {argsL rest : List Value} (hM : OMet l Z y bytes maxL none [] rm (.ref a :: argsL).toArray h Q) {W : Nat} (hf : rm.frames + 1 ≤ R.frames) (hl : W + (maxL + 11) + rm.locals ≤ R.locals) (hc : cells + rm.cells ≤ R.cells) (hs : slots + rm.slots ≤ R.slots)
    (eT : T.heap = h) {pc : Nat} {Ls : Array Slot} (hsize : Ls.size = c.maxLocals) (hlen : ∀ sig, parseMethodDescriptor y.desc = some sig → argsL.length = sig.parameters.length) (hW : (rest.map fun v => v.category).sum ≤ W) (hd : decode c.code pc = .ok (.invokespecial index, 3)) :
    ∃ (v : Option Value) (T' : State) (L : List Loc), Stand p l e R s m args below meth c T' (locs ++ L) (cells + rm.cells) (slots + rm.slots) ∧ Q v T'.heap L ∧
      ∀ t, Steps p.tables e below (T'.setTop (mkF m (pc + 3) Ls (v.toList ++ rest))) t → Steps p.tables e below (T.setTop (mkF m pc Ls (argsL.reverse ++ .ref a :: rest))) t := by
  obtain ⟨v, _, ⟨T', L', k', n'⟩, -, X', ⟨L, hQ, hl', hy', hz'⟩, st⟩ := X.specialBack hx (y := y) hy1 hown (mvT hZ w1) (mvT hZ w2) (mvT hZ w4) hy (backOf (W := W) hM hZ w4 w3 hf hl) (g := mkF m pc Ls (argsL.reverse ++ .ref a :: rest)) rfl hsize (Steps.refl _) (a := a) (argsL := argsL) (rest := rest) hlen rfl (by show 2 * 0 + _ ≤ _; omega) hd (fun _ _ => ⟨rfl, eT, hc, hs⟩)
  dsimp only [Pt.U, Pt.locs, Pt.cells, Pt.slots] at X' hl' hy' hz' st hQ
  subst hl' hy' hz'
  exact ⟨v, T', L, X', hQ, fun t k => st.trans k⟩
/-- an instance method by its contract, the receiver's class known -/
theorem own_callV (X : Stand p l e R s m args below meth c T locs cells slots) (hx : p.tables.exec = Jvm.exec) (hZ : Z.Warmed39 s.vm) {own C : String} {index : Nat} {y z : MethodName} {bytes : ByteArray} {maxL : Nat} {ret : Option FieldType} {rm : Room} {Q : Option Value → Heap → List Loc → Prop}
    (hown : s.vm.findClass own = some m.cls) (w1 : (Jvm.Cond.methodLink own index y).before a0 Z = true) (wd : (Jvm.Cond.declares y).before a0 Z = true) (hnf : NotFace s y) (ws : (Jvm.Cond.selects C y z).before a0 Z = true) (w2 : (Jvm.Cond.instanceMethod z).before a0 Z = true) (w3 : (Jvm.Cond.initialized z.cls).before a0 Z = true) (w4 : (Jvm.Cond.code z bytes maxL ret).before a0 Z = true)
    (hy : y.cls ≠ "java/lang/invoke/MethodHandle" ∧ y.cls ≠ "java/lang/invoke/VarHandle") {a : Addr} (E : Exa Z h a C) {argsL rest : List Value} (hM : OMet l Z z bytes maxL ret [] rm (.ref a :: argsL).toArray h Q) {W : Nat} (hf : rm.frames + 1 ≤ R.frames) (hl : W + (maxL + 11) + rm.locals ≤ R.locals) (hc : cells + rm.cells ≤ R.cells) (hs : slots + rm.slots ≤ R.slots)
    (eT : T.heap = h) {pc : Nat} {Ls : Array Slot} (hsize : Ls.size = c.maxLocals) (hlen : ∀ sig, parseMethodDescriptor y.desc = some sig → argsL.length = sig.parameters.length) (hW : (rest.map fun v => v.category).sum ≤ W) (hd : decode c.code pc = .ok (.invokevirtual index, 3)) :
    ∃ (v : Option Value) (T' : State) (L : List Loc), Stand p l e R s m args below meth c T' (locs ++ L) (cells + rm.cells) (slots + rm.slots) ∧ Q v T'.heap L ∧
      ∀ t, Steps p.tables e below (T'.setTop (mkF m (pc + 3) Ls (v.toList ++ rest))) t → Steps p.tables e below (T.setTop (mkF m pc Ls (argsL.reverse ++ .ref a :: rest))) t := by
  obtain ⟨cB, kB, q1, q2, q3⟩ := isOf hZ eT E
  obtain ⟨v, _, ⟨T', L', k', n'⟩, -, X', ⟨L, hQ, hl', hy', hz'⟩, st⟩ := X.virtualBack hx (y := y) (z := z) hown (mvT hZ w1) (mvT hZ wd) hnf (mvT hZ ws) (mvT hZ w2) hy (backOf (W := W) hM hZ w4 w3 hf hl) q1 q3 (g := mkF m pc Ls (argsL.reverse ++ .ref a :: rest)) rfl hsize (Steps.refl _) (argsL := argsL) (rest := rest) hlen rfl (by show 2 * 0 + _ ≤ _; omega) hd (fun _ _ => ⟨rfl, eT, hc, hs⟩)
  dsimp only [Pt.U, Pt.locs, Pt.cells, Pt.slots] at X' hl' hy' hz' st hQ
  subst hl' hy' hz'
  exact ⟨v, T', L, X', hQ, fun t k => st.trans k⟩
/-- an inherited instance method: the link names a class that doesn't declare it -/
theorem own_callU (X : Stand p l e R s m args below meth c T locs cells slots) (hx : p.tables.exec = Jvm.exec) (hZ : Z.Warmed39 s.vm) {own C owner : String} {index : Nat} {y z : MethodName} {bytes : ByteArray} {maxL : Nat} {ret : Option FieldType} {rm : Room} {Q : Option Value → Heap → List Loc → Prop}
    (hown : s.vm.findClass own = some m.cls) (w1 : (Jvm.Cond.methodLink own index y).before a0 Z = true) (wm : (Jvm.Cond.sameMethod y.cls owner y.name y.desc).before a0 Z = true) (wd : (Jvm.Cond.declares ⟨owner, y.name, y.desc⟩).before a0 Z = true) (ws : (Jvm.Cond.selects C y z).before a0 Z = true) (w2 : (Jvm.Cond.instanceMethod z).before a0 Z = true) (w3 : (Jvm.Cond.initialized z.cls).before a0 Z = true) (w4 : (Jvm.Cond.code z bytes maxL ret).before a0 Z = true)
    (hy : owner ≠ "java/lang/invoke/MethodHandle" ∧ owner ≠ "java/lang/invoke/VarHandle") {a : Addr} (E : Exa Z h a C) {argsL rest : List Value} (hM : OMet l Z z bytes maxL ret [] rm (.ref a :: argsL).toArray h Q) {W : Nat} (hf : rm.frames + 1 ≤ R.frames) (hl : W + (maxL + 11) + rm.locals ≤ R.locals) (hc : cells + rm.cells ≤ R.cells) (hs : slots + rm.slots ≤ R.slots)
    (eT : T.heap = h) {pc : Nat} {Ls : Array Slot} (hsize : Ls.size = c.maxLocals) (hlen : ∀ sig, parseMethodDescriptor y.desc = some sig → argsL.length = sig.parameters.length) (hW : (rest.map fun v => v.category).sum ≤ W) (hd : decode c.code pc = .ok (.invokevirtual index, 3)) :
    ∃ (v : Option Value) (T' : State) (L : List Loc), Stand p l e R s m args below meth c T' (locs ++ L) (cells + rm.cells) (slots + rm.slots) ∧ Q v T'.heap L ∧
      ∀ t, Steps p.tables e below (T'.setTop (mkF m (pc + 3) Ls (v.toList ++ rest))) t → Steps p.tables e below (T.setTop (mkF m pc Ls (argsL.reverse ++ .ref a :: rest))) t := by
  obtain ⟨cB, kB, q1, q2, q3⟩ := isOf hZ eT E
  obtain ⟨v, _, ⟨T', L', k', n'⟩, -, X', ⟨L, hQ, hl', hy', hz'⟩, st⟩ := X.virtualBackUp hx (x := y) (y := z) (owner := owner) hown (mvT hZ w1) (mvT hZ wm) (mvT hZ wd) hy (mvT hZ ws) (mvT hZ w2) (backOf (W := W) hM hZ w4 w3 hf hl) q1 q3 (g := mkF m pc Ls (argsL.reverse ++ .ref a :: rest)) rfl hsize (Steps.refl _) (argsL := argsL) (rest := rest) hlen rfl (by show 2 * 0 + _ ≤ _; omega) hd (fun _ _ => ⟨rfl, eT, hc, hs⟩)
  dsimp only [Pt.U, Pt.locs, Pt.cells, Pt.slots] at X' hl' hy' hz' st hQ
  subst hl' hy' hz'
  exact ⟨v, T', L, X', hQ, fun t k => st.trans k⟩
/-- an interface's method by the contract of the body that the receiver's class selects -/
theorem own_callF (X : Stand p l e R s m args below meth c T locs cells slots) (hx : p.tables.exec = Jvm.exec) (hZ : Z.Warmed39 s.vm) {own C : String} {index count : Nat} {y z : MethodName} {bytes : ByteArray} {maxL : Nat} {ret : Option FieldType} {rm : Room} {Q : Option Value → Heap → List Loc → Prop}
    (hown : s.vm.findClass own = some m.cls) (w1 : (Jvm.Cond.methodLink own index y).before a0 Z = true) (wd : (Jvm.Cond.declares y).before a0 Z = true) (wf : (Jvm.Cond.interfaceMethod y.cls y.cls y.name y.desc).before args s = true) (ws : (Jvm.Cond.selects C y z).before a0 Z = true) (w2 : (Jvm.Cond.instanceMethod z).before a0 Z = true) (wp : (Jvm.Cond.publicMethod z).before a0 Z = true) (wu : (Jvm.Cond.unhidden C y.name y.desc).before a0 Z = true) (wc : (Jvm.Cond.castable C y.cls).before a0 Z = true) (w3 : (Jvm.Cond.initialized z.cls).before a0 Z = true) (w4 : (Jvm.Cond.code z bytes maxL ret).before a0 Z = true)
    (hy : y.cls ≠ "java/lang/invoke/MethodHandle" ∧ y.cls ≠ "java/lang/invoke/VarHandle") {a : Addr} (E : Exa Z h a C) {argsL rest : List Value} (hM : OMet l Z z bytes maxL ret [] rm (.ref a :: argsL).toArray h Q) {W : Nat} (hf : rm.frames + 1 ≤ R.frames) (hl : W + (maxL + 11) + rm.locals ≤ R.locals) (hc : cells + rm.cells ≤ R.cells) (hs : slots + rm.slots ≤ R.slots)
    (eT : T.heap = h) {pc : Nat} {Ls : Array Slot} (hsize : Ls.size = c.maxLocals) (hlen : ∀ sig, parseMethodDescriptor y.desc = some sig → argsL.length = sig.parameters.length) (hW : (rest.map fun v => v.category).sum ≤ W) (hd : decode c.code pc = .ok (.invokeinterface index count, 5)) :
    ∃ (v : Option Value) (T' : State) (L : List Loc), Stand p l e R s m args below meth c T' (locs ++ L) (cells + rm.cells) (slots + rm.slots) ∧ Q v T'.heap L ∧
      ∀ t, Steps p.tables e below (T'.setTop (mkF m (pc + 5) Ls (v.toList ++ rest))) t → Steps p.tables e below (T.setTop (mkF m pc Ls (argsL.reverse ++ .ref a :: rest))) t := by
  obtain ⟨cB, kB, q1, q2, q3⟩ := isOf hZ eT E
  obtain ⟨v, _, ⟨T', L', k', n'⟩, -, X', ⟨L, hQ, hl', hy', hz'⟩, st⟩ := X.interfaceBack hx (xi := y) (y := z) hown (mvT hZ w1) (mvT hZ wd) wf (mvT hZ ws) (mvT hZ w2) (mvT hZ wp) (mvT hZ wu) (mvT hZ wc) hy (backOf (W := W) hM hZ w4 w3 hf hl) q1 q2 q3 (g := mkF m pc Ls (argsL.reverse ++ .ref a :: rest)) rfl hsize (Steps.refl _) (argsL := argsL) (rest := rest) hlen rfl (by show 2 * 0 + _ ≤ _; omega) hd (fun _ _ => ⟨rfl, eT, hc, hs⟩)
  dsimp only [Pt.U, Pt.locs, Pt.cells, Pt.slots] at X' hl' hy' hz' st hQ
  subst hl' hy' hz'
  exact ⟨v, T', L, X', hQ, fun t k => st.trans k⟩
theorem own_hc {T : State} {h : Heap} {a : Addr} {cl : Cell} (q : T.heap = h) (r : h[a]? = some cl) : T.heap[a]? = some cl := by rw [q]; exact r
/-- what a Bool is as Java's int -/
def b2i (b : Bool) : Int32 := if b then 1 else 0
theorem b2i_t {b : Bool} (h : b = true) : b2i b = 1 := by simp [b2i, h]
theorem b2i_f {b : Bool} (h : b = false) : b2i b = 0 := by simp [b2i, h]
theorem b2i_inj {a b : Bool} : b2i a = b2i b ↔ a = b := by cases a <;> cases b <;> decide
/-- the branches' conditions in plain words -/
theorem ic_lt (x y : Int32) : if_icmp.holds .lt x y = decide (x < y) := by by_cases q : x < y <;> simp [q, tlt, flt]
theorem ic_ge (x y : Int32) : if_icmp.holds .ge x y = !decide (x < y) := by by_cases q : x < y <;> simp [q, tlt, flt]
theorem ic_gt (x y : Int32) : if_icmp.holds .gt x y = decide (y < x) := by by_cases q : y < x <;> simp [q, tlt, flt]
theorem ic_le (x y : Int32) : if_icmp.holds .le x y = !decide (y < x) := by by_cases q : y < x <;> simp [q, tlt, flt]
theorem ic_eq (x y : Int32) : if_icmp.holds .eq x y = decide (x = y) := by by_cases q : x = y <;> simp [q, teq, feq]
theorem ic_ne (x y : Int32) : if_icmp.holds .ne x y = !decide (x = y) := by by_cases q : x = y <;> simp [q, teq, feq]
theorem i0_lt (x : Int32) : ifCond.holds .lt x = decide (x < 0) := (if0 _ _).trans (ic_lt x 0)
theorem i0_ge (x : Int32) : ifCond.holds .ge x = !decide (x < 0) := (if0 _ _).trans (ic_ge x 0)
theorem i0_gt (x : Int32) : ifCond.holds .gt x = decide (0 < x) := (if0 _ _).trans (ic_gt x 0)
theorem i0_le (x : Int32) : ifCond.holds .le x = !decide (0 < x) := (if0 _ _).trans (ic_le x 0)
theorem i0_eq (x : Int32) : ifCond.holds .eq x = decide (x = 0) := (if0 _ _).trans (ic_eq x 0)
theorem i0_ne (x : Int32) : ifCond.holds .ne x = !decide (x = 0) := (if0 _ _).trans (ic_ne x 0)
theorem lw_lt (x y : Int64) : lcmpW x y < 0 ↔ x < y := by rw [lcW]; exact Jvm.RoadKit.lc_lt x y
theorem lw_gt (x y : Int64) : 0 < lcmpW x y ↔ y < x := by rw [lcW]; exact Jvm.RoadKit.lc_gt x y
theorem lw_eq (x y : Int64) : lcmpW x y = 0 ↔ x = y := by rw [lcW]; exact Jvm.RoadKit.lc_eq x y
theorem l0_lt (x y : Int64) : ifCond.holds .lt (lcmpW x y) = decide (x < y) := (i0_lt _).trans (by simp [lw_lt])
theorem l0_ge (x y : Int64) : ifCond.holds .ge (lcmpW x y) = !decide (x < y) := (i0_ge _).trans (by simp [lw_lt])
theorem l0_gt (x y : Int64) : ifCond.holds .gt (lcmpW x y) = decide (y < x) := (i0_gt _).trans (by simp [lw_gt])
theorem l0_le (x y : Int64) : ifCond.holds .le (lcmpW x y) = !decide (y < x) := (i0_le _).trans (by simp [lw_gt])
theorem l0_eq (x y : Int64) : ifCond.holds .eq (lcmpW x y) = decide (x = y) := (i0_eq _).trans (by simp [lw_eq])
theorem l0_ne (x y : Int64) : ifCond.holds .ne (lcmpW x y) = !decide (x = y) := (i0_ne _).trans (by simp [lw_eq])
theorem b0_eq (b : Bool) : ifCond.holds .eq (b2i b) = !b := by cases b <;> decide
theorem b0_ne (b : Bool) : ifCond.holds .ne (b2i b) = b := by cases b <;> decide
theorem own_t {P : Prop} [Decidable P] {u : Bool} (q : u = decide P) (hp : P) : u = true := by rw [q]; exact decide_eq_true hp
theorem own_f {P : Prop} [Decidable P] {u : Bool} (q : u = decide P) (hp : ¬ P) : u = false := by rw [q]; exact decide_eq_false hp
theorem own_nt {P : Prop} [Decidable P] {u : Bool} (q : u = !decide P) (hp : ¬ P) : u = true := by rw [q]; simp [hp]
theorem own_nf {P : Prop} [Decidable P] {u : Bool} (q : u = !decide P) (hp : P) : u = false := by rw [q]; simp [hp]
theorem own_bt {u b : Bool} (q : u = b) (hp : b = true) : u = true := q.trans hp
theorem own_bf {u b : Bool} (q : u = b) (hp : b = false) : u = false := q.trans hp
theorem own_nbt {u b : Bool} (q : u = !b) (hp : b = false) : u = true := by rw [q, hp]; rfl
theorem own_nbf {u b : Bool} (q : u = !b) (hp : b = true) : u = false := by rw [q, hp]; rfl
theorem own_retN (X : Stand p l e R s m args below meth c T locs cells slots) (hx : p.tables.exec = Jvm.exec) {pc : Nat} {Ls : Array Slot} {z z' : Int32} {t : FieldType} {rest : List Value} (hret : meth.sig.returnType = some t) (ht : t = .boolean ∨ t = .byte ∨ t = .char ∨ t = .short) (hn : nar t z = z')
    (hd : decode c.code pc = .ok (.ireturn, 1)) {fs : List Frame} (hl : ∀ (f : JFrame) (acts : List Action), f.method = m → f.locked = none → f.entered = [] → (doReturn e (T.setTop f) acts (some (.int z'))).1 = T.setFrames fs) :
    Steps p.tables e below (T.setTop (mkF m pc Ls (.int z :: rest))) (T.setFrames fs) := by
  subst hn
  exact retN X hx hret ht hd hl
theorem own_nar_b2i (b : Bool) : nar .boolean (b2i b) = b2i b := by cases b <;> decide
theorem own_narrow_b2i (b : Bool) : narrow .boolean (.int (b2i b)) = .int (b2i b) := by cases b <;> rfl
theorem own_fits_b2i (b : Bool) : fits .boolean (.int (b2i b)) = true := by cases b <;> rfl
theorem own_nar_i2b (x : Int32) : nar .byte x.toInt8.toInt32 = x.toInt8.toInt32 := by simp [nar]
theorem own_lrem (x y : Int64) : x - x / y * y = x % y := by
  apply Int64.toInt_inj.mp
  have h1 := Int64.le_toInt (x % y)
  have h2 := Int64.toInt_lt (x % y)
  have e : x.toInt - y.toInt * x.toInt.tdiv y.toInt = x.toInt.tmod y.toInt := (Int.tmod_def _ _).symm
  rw [Int64.toInt_sub, Int64.toInt_mul, Int64.toInt_div, Int.bmod_mul_bmod, Int.sub_bmod_bmod, Int.mul_comm (x.toInt.tdiv y.toInt), e, ← Int64.toInt_mod]
  exact Int.bmod_eq_of_le_mul_two (by omega) (by omega)
/-- getfield by an entry that is resolved already -/
theorem own_getFR (X : Stand p l e R s m args below meth c T locs cells slots) (hx : p.tables.exec = Jvm.exec) (hZ : Z.Warmed39 s.vm) {own O n d : String} {index : Nat} (hown : s.vm.findClass own = some m.cls) (w : (Jvm.Cond.fieldRef own index O n d).before a0 Z = true)
    (eT : T.heap = h) {a : Addr} {v : Value} (F : Fld Z h a O n d v) {g : JFrame} (hg : g.method = m) {rest : List Value} (hs : g.stack = .ref a :: rest) (hd : decode c.code g.pc = .ok (.getfield index, 3)) : ∃ T', Stand p l e R s m args below meth c T' locs cells slots ∧ T'.heap = h ∧ ∀ target, Steps p.tables e below (T'.setTop { g with pc := g.pc + 3, stack := v :: rest }) target → Steps p.tables e below (T.setTop g) target := by
  have hZT : Z.Warmed39 T.vm := wtrans hZ X.warmed
  have w' := Cond.fieldRef_warmed39 hZT w
  have hcur : (Z.setVm T.vm).vm.findClass own = some m.cls := (X.warmed.alike.findClass own _).trans hown
  obtain ⟨c', k', i', f', h1, hready⟩ := Cond.fieldRef_spec (s := Z.setVm T.vm) hcur w'
  obtain ⟨cell, cf, k, i, f, g1, g2, g3, g4, -, -, g7⟩ := F
  obtain ⟨k2, hi, -⟩ := State.fieldFound?_setVm (s := Z) hZT.alike g2
  have q := Option.some.inj (h1.symm.trans hi)
  simp only [Prod.mk.injEq] at q
  obtain ⟨rfl, -, -, rfl⟩ := q
  exact ⟨T, X, eT, fun target kt => (X.getfieldR hx hg hready g3 hs (by rw [eT]; exact g1) g4 g7 hd (Steps.refl _)).trans kt⟩
/-- the case's words on statics and fields, at the start -/
theorem own_sx {C n d K : String} (w1 : (Jvm.Cond.initialized C).before args s = true) (w2 : (Jvm.Cond.laysStatic C n d).before args s = true) (q : (Jvm.Cond.exactly (Term.static C n d) K).value args s none s [] = some true) : ∃ a : Addr, (Term.static C n d).eval args s none [] s = some (.ref a) ∧ Sta s s.heap C n d (.ref a) ∧ Exa s s.heap a K := by
  obtain ⟨a, ev⟩ := exa_v q
  exact ⟨a, ev, Sta.start ev (Or.inr ⟨w1, w2⟩), Exa.start ev q⟩
theorem own_fi {t : Term} {a : Addr} {C n d : String} {k : Int32} (ev : t.eval args s none [] s = some (.ref a)) (q : (Jvm.Cond.eq (Term.field t C n d) (Term.int k)).value args s none s [] = some true) : Fld s s.heap a C n d (.int k) := by
  obtain ⟨x, y, h1, h2, h3, h4⟩ := cmp_v (Or.inl q)
  have h5 : y = .int k := (Option.some.inj (h2.symm.trans (Term.int_eval k)) : _)
  subst h5
  obtain ⟨z, rfl⟩ : ∃ z, x = .int z := h4
  have e2 := h1
  rw [fld_at ev] at h1
  simp [Cond.value, e2, h2] at q
  subst q
  exact Fld.start h1
theorem own_fx {t : Term} {a : Addr} {C n d K : String} (ev : t.eval args s none [] s = some (.ref a)) (q : (Jvm.Cond.exactly (Term.field t C n d) K).value args s none s [] = some true) : ∃ b : Addr, (Term.field t C n d).eval args s none [] s = some (.ref b) ∧ Fld s s.heap a C n d (.ref b) ∧ Exa s s.heap b K := by
  obtain ⟨b, ev2⟩ := exa_v q
  exact ⟨b, ev2, Fld.start ((fld_at ev).symm.trans ev2), Exa.start ev2 q⟩
/-- a class that the chain of superclasses doesn't meet: its own word is 'instantiable' -/
theorem own_ns_root {Z : State} {a0 : Array Value} {O K : String} {n : Nat} (w : (Jvm.Cond.noSuperclass O).before a0 Z = true) (wi : (Jvm.Cond.instantiable K n).before a0 Z = true) (hn : O ≠ K) : NS Z O K := by
  obtain ⟨c, k, h1, h2, h3, -, -⟩ := Cond.noSuperclass_spec w
  obtain ⟨t, kt, g1, -⟩ := Cond.instantiable_spec wi
  have ne := ids_ne h1 g1 hn
  refine ⟨c, t, h1, g1, fun fuel => ?_⟩
  cases fuel with
  | zero => rfl
  | succ f => simp [Vm.isSubclassAux, ne, h2, h3]
theorem own_ns_no {Z : State} {a0 : Array Value} {C S K : String} {n : Nat} (w : (Jvm.Cond.superclass C S).before a0 Z = true) (wi : (Jvm.Cond.instantiable K n).before a0 Z = true) (q : NS Z C K) (hn : C ≠ K) : ∃ c t, Z.vm.findClass C = some c ∧ Z.vm.findClass K = some t ∧ Z.vm.assignable c t = false := by
  obtain ⟨c, t, h0, g0, n3⟩ := q
  obtain ⟨p, k, kp, h1, h2, h3, h4, h5, -, h7⟩ := Cond.superclass_spec h0 w
  obtain ⟨t', kt, g1, g2, g3, g4, -, -⟩ := Cond.instantiable_spec wi
  cases g0.symm.trans g1
  have g5 : kt.isInterface = false := by simp only [Bool.or_eq_false_iff] at g4; exact g4.1
  have ne := ids_ne h0 g0 hn
  refine ⟨c, t, h0, g0, ?_⟩
  show Z.vm.assignableAux (255 + 1) c t = false
  simp [Vm.assignableAux, ne, h2, g2, h5, g3, g5, Vm.isSubclass, n3]
/-- a static's cell isn't written by one who writes objects alone -/
theorem own_sta_keep {Z : State} {h h' : Heap} {C n d : String} {v : Value} {ws : List Addr} (F : Sta Z h C n d v) (K : Keep h h' ws) (q : ∀ x ∈ ws, ∃ C', Exa Z h x C') : Sta Z h' C n d v := by
  obtain ⟨cf, i, k, f, st, cell, h1, h2, h3, h4, h5, h6, h7⟩ := F
  refine ⟨cf, i, k, f, st, cell, h1, h2, h3, h4, K.2.1 st cell h5 (fun r => ?_), h6, h7⟩
  obtain ⟨C', c', k', g1, -, -, g4, -⟩ := q st r
  rw [h5] at g1
  cases g1
  rw [h6] at g4
  cases g4
theorem own_ne32 {x y : Int32} (h : x ≠ y) : Value.int x ≠ Value.int y := fun q => h (Value.int.inj q)
end OwnKit
theorem own_lt127 (c : Int32) : 126 < c ↔ ¬ c < 127 := by
  rw [Int32.lt_iff_toInt_lt, Int32.lt_iff_toInt_lt]
  have h6 : (126 : Int32).toInt = 126 := by decide
  have h7 : (127 : Int32).toInt = 127 := by decide
  omega
theorem pn_com_example_mutual_consent_mutualconsent_engine_Printable : plainName "com/example/mutual_consent/mutualconsent/engine/Printable" = true := by first | (simp [plainName, overriddenIn]; done) | decide +kernel
theorem ef_rm1 (m : MethodId) (x0 : Int32) : entryFrame m #[(.int x0)] 1 = mkF m 0 #[.val (.int x0)] [] := by first | (simp [entryFrame, mkF, argsToLocals, Value.category]; done) | rfl
theorem d1_0 : decode prog_16_method_2_code 0 = .ok (.iload_n 0, 1) := by decide +kernel
theorem d1_1 : decode prog_16_method_2_code 1 = .ok (.bipush 32, 2) := by decide +kernel
theorem d1_3 : decode prog_16_method_2_code 3 = .ok (.if_icmp .lt 13, 3) := by decide +kernel
theorem d1_16 : decode prog_16_method_2_code 16 = .ok (.iconst 0, 1) := by decide +kernel
theorem d1_17 : decode prog_16_method_2_code 17 = .ok (.ireturn, 1) := by decide +kernel
theorem d1_6 : decode prog_16_method_2_code 6 = .ok (.iload_n 0, 1) := by decide +kernel
theorem d1_7 : decode prog_16_method_2_code 7 = .ok (.bipush 126, 2) := by decide +kernel
theorem d1_9 : decode prog_16_method_2_code 9 = .ok (.if_icmp .gt 7, 3) := by decide +kernel
theorem d1_12 : decode prog_16_method_2_code 12 = .ok (.iconst 1, 1) := by decide +kernel
theorem d1_13 : decode prog_16_method_2_code 13 = .ok (.goto 4, 3) := by decide +kernel
def Q1 (Z : State) (p1 : Int32) (h0 : Heap) (n0 : Nat) (v : Option Value) (h : Heap) (L : List Loc) : Prop := v = some (.int (b2i (decide (¬ p1 < 32 ∧ ¬ 126 < p1)))) ∧ Fr n0 L ∧ h = h0
set_option maxRecDepth 65536 in
set_option maxHeartbeats 40000000 in
theorem rm1 (l : Launch) (Z : State) (a0 : Array Value) (hw : ∀ d ∈ tables_1, d.before a0 Z = true) (ws : List Jvm.Cond) (p1 : Int32) (h0 : Heap) (n0 : Nat) (Z0 : n0 ≤ h0.size) :
    OMet l Z (⟨"com/example/mutual_consent/mutualconsent/engine/Printable", "isPrintable", "(C)Z"⟩ : MethodName) prog_16_method_2_code 1 (some .boolean) ws ({ frames := 0, cells := 0, slots := 0, locals := 0 } : Room) #[(.int p1)] h0 (Q1 Z p1 h0 n0) := by
  refine own_body (plainFor_of_name pn_com_example_mutual_consent_mutualconsent_engine_Printable) ?_
  intro p e s m below meth c s₁ Bd hml0 hZ e0
  have hx := Bd.exec
  have hby := Bd.bytes
  have hml : c.maxLocals = 1 := hml0
  have hown : s.vm.findClass "com/example/mutual_consent/mutualconsent/engine/Printable" = some m.cls := findClass_of_methodNamed Bd.named
  have hnm := (name_of_methodNamed Bd.named Bd.method).1
  have X0 : Stand p l e ({ frames := 0, cells := 0, slots := 0, locals := 0 } : Room) s m #[(.int p1)] below meth c s₁ [] 0 0 := Stand.of_body Bd
  have N0 := Fr.nil n0
  have K0 : Keep h0 h0 [] := Keep.refl _ _
  rw [ef_rm1]
  refine Gl.pre (S' := s₁.setTop (mkF m 3 #[.val (.int p1)] [(.int (32 : Int32)), (.int p1)])) (fun t kt => ?_) ?_
  · show Steps p.tables e below (s₁.setTop (mkF m 0 #[.val (.int p1)] [])) _
    refine XS.iloadN X0.here hx rfl (hb hby d1_0) rfl ?_
    show Steps p.tables e below (s₁.setTop (mkF m 1 #[.val (.int p1)] [(.int p1)])) _
    refine XS.bipush X0.here hx rfl (hb hby d1_1) ?_
    exact kt
  by_cases hc3 : p1 < (32 : Int32)
  · refine Gl.fin X0 (v := some (.int (0 : Int32))) (fun h => by rw [Bd.returns] at h; cases h) Bd.notSynchronized ?_ e0 (by decide) (by decide) (fun fs hr => ?_)
    · exact ⟨by simp [b2i, hc3], N0, rfl⟩
    · show Steps p.tables e below (s₁.setTop (mkF m 3 #[.val (.int p1)] [(.int (32 : Int32)), (.int p1)])) _
      refine XS.icmpYes X0.here hx rfl (pc0 := 3) (pc' := 16) rfl (hb hby d1_3) rfl (own_t (ic_lt _ _) hc3) (by decide) (by decide) ?_
      show Steps p.tables e below (s₁.setTop (mkF m 16 #[.val (.int p1)] [])) _
      refine XS.iconst X0.here hx rfl (hb hby d1_16) ?_
      show Steps p.tables e below (s₁.setTop (mkF m 17 #[.val (.int p1)] [(.int (0 : Int32))])) _
      exact retN X0 hx (t := .boolean) Bd.returns (by simp) (hb hby d1_17) hr
  · refine Gl.pre (S' := s₁.setTop (mkF m 9 #[.val (.int p1)] [(.int (126 : Int32)), (.int p1)])) (fun t kt => ?_) ?_
    · show Steps p.tables e below (s₁.setTop (mkF m 3 #[.val (.int p1)] [(.int (32 : Int32)), (.int p1)])) _
      refine XS.icmpNo X0.here hx rfl (hb hby d1_3) rfl (own_f (ic_lt _ _) hc3) ?_
      show Steps p.tables e below (s₁.setTop (mkF m 6 #[.val (.int p1)] [])) _
      refine XS.iloadN X0.here hx rfl (hb hby d1_6) rfl ?_
      show Steps p.tables e below (s₁.setTop (mkF m 7 #[.val (.int p1)] [(.int p1)])) _
      refine XS.bipush X0.here hx rfl (hb hby d1_7) ?_
      exact kt
    by_cases hc9 : (126 : Int32) < p1
    · refine Gl.fin X0 (v := some (.int (0 : Int32))) (fun h => by rw [Bd.returns] at h; cases h) Bd.notSynchronized ?_ e0 (by decide) (by decide) (fun fs hr => ?_)
      · exact ⟨by simp [b2i, hc3, hc9], N0, rfl⟩
      · show Steps p.tables e below (s₁.setTop (mkF m 9 #[.val (.int p1)] [(.int (126 : Int32)), (.int p1)])) _
        refine XS.icmpYes X0.here hx rfl (pc0 := 9) (pc' := 16) rfl (hb hby d1_9) rfl (own_t (ic_gt _ _) hc9) (by decide) (by decide) ?_
        show Steps p.tables e below (s₁.setTop (mkF m 16 #[.val (.int p1)] [])) _
        refine XS.iconst X0.here hx rfl (hb hby d1_16) ?_
        show Steps p.tables e below (s₁.setTop (mkF m 17 #[.val (.int p1)] [(.int (0 : Int32))])) _
        exact retN X0 hx (t := .boolean) Bd.returns (by simp) (hb hby d1_17) hr
    · refine Gl.fin X0 (v := some (.int (1 : Int32))) (fun h => by rw [Bd.returns] at h; cases h) Bd.notSynchronized ?_ e0 (by decide) (by decide) (fun fs hr => ?_)
      · exact ⟨by simp [b2i, hc3, hc9], N0, rfl⟩
      · show Steps p.tables e below (s₁.setTop (mkF m 9 #[.val (.int p1)] [(.int (126 : Int32)), (.int p1)])) _
        refine XS.icmpNo X0.here hx rfl (hb hby d1_9) rfl (own_f (ic_gt _ _) hc9) ?_
        show Steps p.tables e below (s₁.setTop (mkF m 12 #[.val (.int p1)] [])) _
        refine XS.iconst X0.here hx rfl (hb hby d1_12) ?_
        show Steps p.tables e below (s₁.setTop (mkF m 13 #[.val (.int p1)] [(.int (1 : Int32))])) _
        refine XS.goto X0.here hx rfl (pc0 := 13) (pc' := 17) rfl (hb hby d1_13) (by decide) (by decide) ?_
        show Steps p.tables e below (s₁.setTop (mkF m 17 #[.val (.int p1)] [(.int (1 : Int32))])) _
        exact retN X0 hx (t := .boolean) Bd.returns (by simp) (hb hby d1_17) hr
theorem pn_com_example_mutual_consent_mutualconsent_engine_PrintableIsPrintablePinLaw : plainName "com/example/mutual_consent/mutualconsent/engine/PrintableIsPrintablePinLaw" = true := by first | (simp [plainName, overriddenIn]; done) | decide +kernel
theorem ef_rm0 (m : MethodId) (x0 : Int32) : entryFrame m #[(.int x0)] maxLocals = mkF m 0 #[.val (.int x0), .unset, .unset, .unset, .unset, .unset] [] := by first | (simp [entryFrame, mkF, argsToLocals, Value.category, maxLocals]; done) | rfl
theorem pd__C_Z : parseMethodDescriptor "(C)Z" = some ⟨[.char], some .boolean⟩ := by decide +kernel
def Q0 (Z : State) (p0 : Int32) (h0 : Heap) (n0 : Nat) (v : Option Value) (h : Heap) (L : List Loc) : Prop := v = some (.int 1) ∧ Fr n0 L
set_option maxRecDepth 65536 in
set_option maxHeartbeats 40000000 in
theorem rm0 (l : Launch) (Z : State) (a0 : Array Value) (hw : ∀ d ∈ tables_1, d.before a0 Z = true) (ws : List Jvm.Cond) (p0 : Int32) (h0 : Heap) (n0 : Nat) (Z0 : n0 ≤ h0.size) :
    OMet l Z x code maxLocals ret ws room_1 #[(.int p0)] h0 (Q0 Z p0 h0 n0) := by
  refine own_body (plainFor_of_name pn_com_example_mutual_consent_mutualconsent_engine_PrintableIsPrintablePinLaw) ?_
  intro p e s m below meth c s₁ Bd hml0 hZ e0
  have hx := Bd.exec
  have hby := Bd.bytes
  have hml : c.maxLocals = 6 := hml0
  have hown : s.vm.findClass "com/example/mutual_consent/mutualconsent/engine/PrintableIsPrintablePinLaw" = some m.cls := findClass_of_methodNamed Bd.named
  have hnm := (name_of_methodNamed Bd.named Bd.method).1
  have X0 : Stand p l e room_1 s m #[(.int p0)] below meth c s₁ [] 0 0 := Stand.of_body Bd
  have N0 := Fr.nil n0
  have K0 : Keep h0 h0 [] := Keep.refl _ _
  rw [ef_rm0]
  refine Gl.pre (S' := s₁.setTop (mkF m 3 #[.val (.int p0), .val (.int (p0.toUInt32.toUInt16.toUInt32.toInt32)), .unset, .unset, .unset, .unset] [])) (fun t kt => ?_) ?_
  · show Steps p.tables e below (s₁.setTop (mkF m 0 #[.val (.int p0), .unset, .unset, .unset, .unset, .unset] [])) _
    refine XS.iloadN X0.here hx rfl (hb hby at_0) rfl ?_
    show Steps p.tables e below (s₁.setTop (mkF m 1 #[.val (.int p0), .unset, .unset, .unset, .unset, .unset] [(.int p0)])) _
    refine XS.i2c X0.here hx rfl (hb hby at_1) rfl ?_
    show Steps p.tables e below (s₁.setTop (mkF m 2 #[.val (.int p0), .unset, .unset, .unset, .unset, .unset] [(.int (p0.toUInt32.toUInt16.toUInt32.toInt32))])) _
    refine XS.istoreN X0.here hx rfl (hb hby at_2) rfl (l' := #[.val (.int p0), .val (.int (p0.toUInt32.toUInt16.toUInt32.toInt32)), .unset, .unset, .unset, .unset]) rfl ?_
    exact kt
  obtain ⟨cc, h_cc⟩ : ∃ z : Int32, z = (p0.toUInt32.toUInt16.toUInt32.toInt32) := ⟨_, rfl⟩
  rw [← h_cc]
  refine Gl.pre (S' := s₁.setTop (mkF m 8 #[.val (.int p0), .val (.int cc), .val (.int cc), .unset, .unset, .unset] [(.int (32 : Int32)), (.int cc)])) (fun t kt => ?_) ?_
  · show Steps p.tables e below (s₁.setTop (mkF m 3 #[.val (.int p0), .val (.int cc), .unset, .unset, .unset, .unset] [])) _
    refine XS.iloadN X0.here hx rfl (hb hby at_3) rfl ?_
    show Steps p.tables e below (s₁.setTop (mkF m 4 #[.val (.int p0), .val (.int cc), .unset, .unset, .unset, .unset] [(.int cc)])) _
    refine XS.istoreN X0.here hx rfl (hb hby at_4) rfl (l' := #[.val (.int p0), .val (.int cc), .val (.int cc), .unset, .unset, .unset]) rfl ?_
    show Steps p.tables e below (s₁.setTop (mkF m 5 #[.val (.int p0), .val (.int cc), .val (.int cc), .unset, .unset, .unset] [])) _
    refine XS.iloadN X0.here hx rfl (hb hby at_5) rfl ?_
    show Steps p.tables e below (s₁.setTop (mkF m 6 #[.val (.int p0), .val (.int cc), .val (.int cc), .unset, .unset, .unset] [(.int cc)])) _
    refine XS.bipush X0.here hx rfl (hb hby at_6) ?_
    exact kt
  by_cases hc8 : cc < (32 : Int32)
  · obtain ⟨v101, T101, L101, X101, q101, st101⟩ := own_callS X0 hx hZ (y := (⟨"com/example/mutual_consent/mutualconsent/engine/Printable", "isPrintable", "(C)Z"⟩ : MethodName)) hown (hw _ (List.mem_of_getElem? (i := 0) rfl)) (hw _ (List.mem_of_getElem? (i := 1) rfl)) (hw _ (List.mem_of_getElem? (i := 2) rfl)) (hw _ (List.mem_of_getElem? (i := 3) rfl)) (by decide) (hM := (rm1 l Z a0 hw [] cc h0 n0 Z0)) (by decide) (by decide) (by decide) (by decide) e0 (argsL := [(.int cc)]) (rest := []) (Ls := #[.val (.int p0), .val (.int cc), .val (.int cc), .val (.int (0 : Int32)), .unset, .unset]) (by rw [hml]; rfl) (lenOf pd__C_Z rfl) (W := 0) (Nat.le_of_eq rfl) (hb hby at_24)
    obtain ⟨rfl, N101q, e101⟩ := q101
    have N101 := Fr.app N0 N101q
    obtain ⟨v102, T102, L102, X102, q102, st102⟩ := own_callS X101 hx hZ (y := (⟨"com/example/mutual_consent/mutualconsent/engine/Printable", "isPrintable", "(C)Z"⟩ : MethodName)) hown (hw _ (List.mem_of_getElem? (i := 0) rfl)) (hw _ (List.mem_of_getElem? (i := 1) rfl)) (hw _ (List.mem_of_getElem? (i := 2) rfl)) (hw _ (List.mem_of_getElem? (i := 3) rfl)) (by decide) (hM := (rm1 l Z a0 hw [] (31 : Int32) h0 n0 Z0)) (by decide) (by decide) (by decide) (by decide) e101 (argsL := [(.int (31 : Int32))]) (rest := []) (Ls := #[.val (.int p0), .val (.int cc), .val (.int cc), .val (.int (0 : Int32)), .val (.int (b2i (decide (¬ cc < 32 ∧ ¬ 126 < cc)))), .unset]) (by rw [hml]; rfl) (lenOf pd__C_Z rfl) (W := 0) (Nat.le_of_eq rfl) (hb hby at_31)
    obtain ⟨rfl, N102q, e102⟩ := q102
    have N102 := Fr.app N101 N102q
    obtain ⟨v103, T103, L103, X103, q103, st103⟩ := own_callS X102 hx hZ (y := (⟨"com/example/mutual_consent/mutualconsent/engine/Printable", "isPrintable", "(C)Z"⟩ : MethodName)) hown (hw _ (List.mem_of_getElem? (i := 0) rfl)) (hw _ (List.mem_of_getElem? (i := 1) rfl)) (hw _ (List.mem_of_getElem? (i := 2) rfl)) (hw _ (List.mem_of_getElem? (i := 3) rfl)) (by decide) (hM := (rm1 l Z a0 hw [] (32 : Int32) h0 n0 Z0)) (by decide) (by decide) (by decide) (by decide) e102 (argsL := [(.int (32 : Int32))]) (rest := []) (Ls := #[.val (.int p0), .val (.int cc), .val (.int cc), .val (.int (0 : Int32)), .val (.int (b2i (decide (¬ cc < 32 ∧ ¬ 126 < cc)))), .unset]) (by rw [hml]; rfl) (lenOf pd__C_Z rfl) (W := 0) (Nat.le_of_eq rfl) (hb hby at_39)
    obtain ⟨rfl, N103q, e103⟩ := q103
    have N103 := Fr.app N102 N103q
    obtain ⟨v104, T104, L104, X104, q104, st104⟩ := own_callS X103 hx hZ (y := (⟨"com/example/mutual_consent/mutualconsent/engine/Printable", "isPrintable", "(C)Z"⟩ : MethodName)) hown (hw _ (List.mem_of_getElem? (i := 0) rfl)) (hw _ (List.mem_of_getElem? (i := 1) rfl)) (hw _ (List.mem_of_getElem? (i := 2) rfl)) (hw _ (List.mem_of_getElem? (i := 3) rfl)) (by decide) (hM := (rm1 l Z a0 hw [] (126 : Int32) h0 n0 Z0)) (by decide) (by decide) (by decide) (by decide) e103 (argsL := [(.int (126 : Int32))]) (rest := []) (Ls := #[.val (.int p0), .val (.int cc), .val (.int cc), .val (.int (0 : Int32)), .val (.int (b2i (decide (¬ cc < 32 ∧ ¬ 126 < cc)))), .unset]) (by rw [hml]; rfl) (lenOf pd__C_Z rfl) (W := 0) (Nat.le_of_eq rfl) (hb hby at_47)
    obtain ⟨rfl, N104q, e104⟩ := q104
    have N104 := Fr.app N103 N104q
    obtain ⟨v105, T105, L105, X105, q105, st105⟩ := own_callS X104 hx hZ (y := (⟨"com/example/mutual_consent/mutualconsent/engine/Printable", "isPrintable", "(C)Z"⟩ : MethodName)) hown (hw _ (List.mem_of_getElem? (i := 0) rfl)) (hw _ (List.mem_of_getElem? (i := 1) rfl)) (hw _ (List.mem_of_getElem? (i := 2) rfl)) (hw _ (List.mem_of_getElem? (i := 3) rfl)) (by decide) (hM := (rm1 l Z a0 hw [] (127 : Int32) h0 n0 Z0)) (by decide) (by decide) (by decide) (by decide) e104 (argsL := [(.int (127 : Int32))]) (rest := []) (Ls := #[.val (.int p0), .val (.int cc), .val (.int cc), .val (.int (0 : Int32)), .val (.int (b2i (decide (¬ cc < 32 ∧ ¬ 126 < cc)))), .unset]) (by rw [hml]; rfl) (lenOf pd__C_Z rfl) (W := 0) (Nat.le_of_eq rfl) (hb hby at_55)
    obtain ⟨rfl, N105q, e105⟩ := q105
    have N105 := Fr.app N104 N105q
    refine Gl.fin X105 (v := some (.int (1 : Int32))) (fun h => by rw [Bd.returns] at h; cases h) Bd.notSynchronized ?_ e105 (by decide) (by decide) (fun fs hr => ?_)
    · exact ⟨rfl, N105⟩
    · show Steps p.tables e below (s₁.setTop (mkF m 8 #[.val (.int p0), .val (.int cc), .val (.int cc), .unset, .unset, .unset] [(.int (32 : Int32)), (.int cc)])) _
      refine XS.icmpYes X0.here hx rfl (pc0 := 8) (pc' := 21) rfl (hb hby at_8) rfl (own_t (ic_lt _ _) hc8) (by decide) (by decide) ?_
      show Steps p.tables e below (s₁.setTop (mkF m 21 #[.val (.int p0), .val (.int cc), .val (.int cc), .unset, .unset, .unset] [])) _
      refine XS.iconst X0.here hx rfl (hb hby at_21) ?_
      show Steps p.tables e below (s₁.setTop (mkF m 22 #[.val (.int p0), .val (.int cc), .val (.int cc), .unset, .unset, .unset] [(.int (0 : Int32))])) _
      refine XS.istoreN X0.here hx rfl (hb hby at_22) rfl (l' := #[.val (.int p0), .val (.int cc), .val (.int cc), .val (.int (0 : Int32)), .unset, .unset]) rfl ?_
      show Steps p.tables e below (s₁.setTop (mkF m 23 #[.val (.int p0), .val (.int cc), .val (.int cc), .val (.int (0 : Int32)), .unset, .unset] [])) _
      refine XS.iloadN X0.here hx rfl (hb hby at_23) rfl ?_
      show Steps p.tables e below (s₁.setTop (mkF m 24 #[.val (.int p0), .val (.int cc), .val (.int cc), .val (.int (0 : Int32)), .unset, .unset] [(.int cc)])) _
      refine st101 _ ?_
      show Steps p.tables e below (T101.setTop (mkF m 27 #[.val (.int p0), .val (.int cc), .val (.int cc), .val (.int (0 : Int32)), .unset, .unset] [(.int (b2i (decide (¬ cc < 32 ∧ ¬ 126 < cc))))])) _
      refine XS.istore X101.here hx rfl (hb hby at_27) rfl (l' := #[.val (.int p0), .val (.int cc), .val (.int cc), .val (.int (0 : Int32)), .val (.int (b2i (decide (¬ cc < 32 ∧ ¬ 126 < cc)))), .unset]) rfl ?_
      show Steps p.tables e below (T101.setTop (mkF m 29 #[.val (.int p0), .val (.int cc), .val (.int cc), .val (.int (0 : Int32)), .val (.int (b2i (decide (¬ cc < 32 ∧ ¬ 126 < cc)))), .unset] [])) _
      refine XS.bipush X101.here hx rfl (hb hby at_29) ?_
      show Steps p.tables e below (T101.setTop (mkF m 31 #[.val (.int p0), .val (.int cc), .val (.int cc), .val (.int (0 : Int32)), .val (.int (b2i (decide (¬ cc < 32 ∧ ¬ 126 < cc)))), .unset] [(.int (31 : Int32))])) _
      refine st102 _ ?_
      show Steps p.tables e below (T102.setTop (mkF m 34 #[.val (.int p0), .val (.int cc), .val (.int cc), .val (.int (0 : Int32)), .val (.int (b2i (decide (¬ cc < 32 ∧ ¬ 126 < cc)))), .unset] [(.int (b2i (decide (¬ (31 : Int32) < 32 ∧ ¬ 126 < (31 : Int32)))))])) _
      refine XS.ifNo X102.here hx rfl (hb hby at_34) rfl (own_bf (b0_ne _) (by decide)) ?_
      show Steps p.tables e below (T102.setTop (mkF m 37 #[.val (.int p0), .val (.int cc), .val (.int cc), .val (.int (0 : Int32)), .val (.int (b2i (decide (¬ cc < 32 ∧ ¬ 126 < cc)))), .unset] [])) _
      refine XS.bipush X102.here hx rfl (hb hby at_37) ?_
      show Steps p.tables e below (T102.setTop (mkF m 39 #[.val (.int p0), .val (.int cc), .val (.int cc), .val (.int (0 : Int32)), .val (.int (b2i (decide (¬ cc < 32 ∧ ¬ 126 < cc)))), .unset] [(.int (32 : Int32))])) _
      refine st103 _ ?_
      show Steps p.tables e below (T103.setTop (mkF m 42 #[.val (.int p0), .val (.int cc), .val (.int cc), .val (.int (0 : Int32)), .val (.int (b2i (decide (¬ cc < 32 ∧ ¬ 126 < cc)))), .unset] [(.int (b2i (decide (¬ (32 : Int32) < 32 ∧ ¬ 126 < (32 : Int32)))))])) _
      refine XS.ifNo X103.here hx rfl (hb hby at_42) rfl (own_nbf (b0_eq _) (by decide)) ?_
      show Steps p.tables e below (T103.setTop (mkF m 45 #[.val (.int p0), .val (.int cc), .val (.int cc), .val (.int (0 : Int32)), .val (.int (b2i (decide (¬ cc < 32 ∧ ¬ 126 < cc)))), .unset] [])) _
      refine XS.bipush X103.here hx rfl (hb hby at_45) ?_
      show Steps p.tables e below (T103.setTop (mkF m 47 #[.val (.int p0), .val (.int cc), .val (.int cc), .val (.int (0 : Int32)), .val (.int (b2i (decide (¬ cc < 32 ∧ ¬ 126 < cc)))), .unset] [(.int (126 : Int32))])) _
      refine st104 _ ?_
      show Steps p.tables e below (T104.setTop (mkF m 50 #[.val (.int p0), .val (.int cc), .val (.int cc), .val (.int (0 : Int32)), .val (.int (b2i (decide (¬ cc < 32 ∧ ¬ 126 < cc)))), .unset] [(.int (b2i (decide (¬ (126 : Int32) < 32 ∧ ¬ 126 < (126 : Int32)))))])) _
      refine XS.ifNo X104.here hx rfl (hb hby at_50) rfl (own_nbf (b0_eq _) (by decide)) ?_
      show Steps p.tables e below (T104.setTop (mkF m 53 #[.val (.int p0), .val (.int cc), .val (.int cc), .val (.int (0 : Int32)), .val (.int (b2i (decide (¬ cc < 32 ∧ ¬ 126 < cc)))), .unset] [])) _
      refine XS.bipush X104.here hx rfl (hb hby at_53) ?_
      show Steps p.tables e below (T104.setTop (mkF m 55 #[.val (.int p0), .val (.int cc), .val (.int cc), .val (.int (0 : Int32)), .val (.int (b2i (decide (¬ cc < 32 ∧ ¬ 126 < cc)))), .unset] [(.int (127 : Int32))])) _
      refine st105 _ ?_
      show Steps p.tables e below (T105.setTop (mkF m 58 #[.val (.int p0), .val (.int cc), .val (.int cc), .val (.int (0 : Int32)), .val (.int (b2i (decide (¬ cc < 32 ∧ ¬ 126 < cc)))), .unset] [(.int (b2i (decide (¬ (127 : Int32) < 32 ∧ ¬ 126 < (127 : Int32)))))])) _
      refine XS.ifNo X105.here hx rfl (hb hby at_58) rfl (own_bf (b0_ne _) (by decide)) ?_
      show Steps p.tables e below (T105.setTop (mkF m 61 #[.val (.int p0), .val (.int cc), .val (.int cc), .val (.int (0 : Int32)), .val (.int (b2i (decide (¬ cc < 32 ∧ ¬ 126 < cc)))), .unset] [])) _
      refine XS.iconst X105.here hx rfl (hb hby at_61) ?_
      show Steps p.tables e below (T105.setTop (mkF m 62 #[.val (.int p0), .val (.int cc), .val (.int cc), .val (.int (0 : Int32)), .val (.int (b2i (decide (¬ cc < 32 ∧ ¬ 126 < cc)))), .unset] [(.int (1 : Int32))])) _
      refine XS.goto X105.here hx rfl (pc0 := 62) (pc' := 66) rfl (hb hby at_62) (by decide) (by decide) ?_
      show Steps p.tables e below (T105.setTop (mkF m 66 #[.val (.int p0), .val (.int cc), .val (.int cc), .val (.int (0 : Int32)), .val (.int (b2i (decide (¬ cc < 32 ∧ ¬ 126 < cc)))), .unset] [(.int (1 : Int32))])) _
      refine XS.istore X105.here hx rfl (hb hby at_66) rfl (l' := #[.val (.int p0), .val (.int cc), .val (.int cc), .val (.int (0 : Int32)), .val (.int (b2i (decide (¬ cc < 32 ∧ ¬ 126 < cc)))), .val (.int (1 : Int32))]) rfl ?_
      show Steps p.tables e below (T105.setTop (mkF m 68 #[.val (.int p0), .val (.int cc), .val (.int cc), .val (.int (0 : Int32)), .val (.int (b2i (decide (¬ cc < 32 ∧ ¬ 126 < cc)))), .val (.int (1 : Int32))] [])) _
      refine XS.iload X105.here hx rfl (hb hby at_68) rfl ?_
      show Steps p.tables e below (T105.setTop (mkF m 70 #[.val (.int p0), .val (.int cc), .val (.int cc), .val (.int (0 : Int32)), .val (.int (b2i (decide (¬ cc < 32 ∧ ¬ 126 < cc)))), .val (.int (1 : Int32))] [(.int (b2i (decide (¬ cc < 32 ∧ ¬ 126 < cc))))])) _
      refine XS.iloadN X105.here hx rfl (hb hby at_70) rfl ?_
      show Steps p.tables e below (T105.setTop (mkF m 71 #[.val (.int p0), .val (.int cc), .val (.int cc), .val (.int (0 : Int32)), .val (.int (b2i (decide (¬ cc < 32 ∧ ¬ 126 < cc)))), .val (.int (1 : Int32))] [(.int (0 : Int32)), (.int (b2i (decide (¬ cc < 32 ∧ ¬ 126 < cc))))])) _
      refine XS.icmpNo X105.here hx rfl (hb hby at_71) rfl (own_nf (ic_ne _ _) (by simp [b2i, own_lt127, hc8])) ?_
      show Steps p.tables e below (T105.setTop (mkF m 74 #[.val (.int p0), .val (.int cc), .val (.int cc), .val (.int (0 : Int32)), .val (.int (b2i (decide (¬ cc < 32 ∧ ¬ 126 < cc)))), .val (.int (1 : Int32))] [])) _
      refine XS.iload X105.here hx rfl (hb hby at_74) rfl ?_
      show Steps p.tables e below (T105.setTop (mkF m 76 #[.val (.int p0), .val (.int cc), .val (.int cc), .val (.int (0 : Int32)), .val (.int (b2i (decide (¬ cc < 32 ∧ ¬ 126 < cc)))), .val (.int (1 : Int32))] [(.int (1 : Int32))])) _
      refine XS.ifNo X105.here hx rfl (hb hby at_76) rfl (own_f (i0_eq _) (by decide)) ?_
      show Steps p.tables e below (T105.setTop (mkF m 79 #[.val (.int p0), .val (.int cc), .val (.int cc), .val (.int (0 : Int32)), .val (.int (b2i (decide (¬ cc < 32 ∧ ¬ 126 < cc)))), .val (.int (1 : Int32))] [])) _
      refine XS.iconst X105.here hx rfl (hb hby at_79) ?_
      show Steps p.tables e below (T105.setTop (mkF m 80 #[.val (.int p0), .val (.int cc), .val (.int cc), .val (.int (0 : Int32)), .val (.int (b2i (decide (¬ cc < 32 ∧ ¬ 126 < cc)))), .val (.int (1 : Int32))] [(.int (1 : Int32))])) _
      refine XS.goto X105.here hx rfl (pc0 := 80) (pc' := 84) rfl (hb hby at_80) (by decide) (by decide) ?_
      show Steps p.tables e below (T105.setTop (mkF m 84 #[.val (.int p0), .val (.int cc), .val (.int cc), .val (.int (0 : Int32)), .val (.int (b2i (decide (¬ cc < 32 ∧ ¬ 126 < cc)))), .val (.int (1 : Int32))] [(.int (1 : Int32))])) _
      exact retN X105 hx (t := .boolean) Bd.returns (by simp) (hb hby at_84) hr
  · refine Gl.pre (S' := s₁.setTop (mkF m 14 #[.val (.int p0), .val (.int cc), .val (.int cc), .unset, .unset, .unset] [(.int (127 : Int32)), (.int cc)])) (fun t kt => ?_) ?_
    · show Steps p.tables e below (s₁.setTop (mkF m 8 #[.val (.int p0), .val (.int cc), .val (.int cc), .unset, .unset, .unset] [(.int (32 : Int32)), (.int cc)])) _
      refine XS.icmpNo X0.here hx rfl (hb hby at_8) rfl (own_f (ic_lt _ _) hc8) ?_
      show Steps p.tables e below (s₁.setTop (mkF m 11 #[.val (.int p0), .val (.int cc), .val (.int cc), .unset, .unset, .unset] [])) _
      refine XS.iloadN X0.here hx rfl (hb hby at_11) rfl ?_
      show Steps p.tables e below (s₁.setTop (mkF m 12 #[.val (.int p0), .val (.int cc), .val (.int cc), .unset, .unset, .unset] [(.int cc)])) _
      refine XS.bipush X0.here hx rfl (hb hby at_12) ?_
      exact kt
    by_cases hc14 : cc < (127 : Int32)
    · obtain ⟨v106, T106, L106, X106, q106, st106⟩ := own_callS X0 hx hZ (y := (⟨"com/example/mutual_consent/mutualconsent/engine/Printable", "isPrintable", "(C)Z"⟩ : MethodName)) hown (hw _ (List.mem_of_getElem? (i := 0) rfl)) (hw _ (List.mem_of_getElem? (i := 1) rfl)) (hw _ (List.mem_of_getElem? (i := 2) rfl)) (hw _ (List.mem_of_getElem? (i := 3) rfl)) (by decide) (hM := (rm1 l Z a0 hw [] cc h0 n0 Z0)) (by decide) (by decide) (by decide) (by decide) e0 (argsL := [(.int cc)]) (rest := []) (Ls := #[.val (.int p0), .val (.int cc), .val (.int cc), .val (.int (1 : Int32)), .unset, .unset]) (by rw [hml]; rfl) (lenOf pd__C_Z rfl) (W := 0) (Nat.le_of_eq rfl) (hb hby at_24)
      obtain ⟨rfl, N106q, e106⟩ := q106
      have N106 := Fr.app N0 N106q
      obtain ⟨v107, T107, L107, X107, q107, st107⟩ := own_callS X106 hx hZ (y := (⟨"com/example/mutual_consent/mutualconsent/engine/Printable", "isPrintable", "(C)Z"⟩ : MethodName)) hown (hw _ (List.mem_of_getElem? (i := 0) rfl)) (hw _ (List.mem_of_getElem? (i := 1) rfl)) (hw _ (List.mem_of_getElem? (i := 2) rfl)) (hw _ (List.mem_of_getElem? (i := 3) rfl)) (by decide) (hM := (rm1 l Z a0 hw [] (31 : Int32) h0 n0 Z0)) (by decide) (by decide) (by decide) (by decide) e106 (argsL := [(.int (31 : Int32))]) (rest := []) (Ls := #[.val (.int p0), .val (.int cc), .val (.int cc), .val (.int (1 : Int32)), .val (.int (b2i (decide (¬ cc < 32 ∧ ¬ 126 < cc)))), .unset]) (by rw [hml]; rfl) (lenOf pd__C_Z rfl) (W := 0) (Nat.le_of_eq rfl) (hb hby at_31)
      obtain ⟨rfl, N107q, e107⟩ := q107
      have N107 := Fr.app N106 N107q
      obtain ⟨v108, T108, L108, X108, q108, st108⟩ := own_callS X107 hx hZ (y := (⟨"com/example/mutual_consent/mutualconsent/engine/Printable", "isPrintable", "(C)Z"⟩ : MethodName)) hown (hw _ (List.mem_of_getElem? (i := 0) rfl)) (hw _ (List.mem_of_getElem? (i := 1) rfl)) (hw _ (List.mem_of_getElem? (i := 2) rfl)) (hw _ (List.mem_of_getElem? (i := 3) rfl)) (by decide) (hM := (rm1 l Z a0 hw [] (32 : Int32) h0 n0 Z0)) (by decide) (by decide) (by decide) (by decide) e107 (argsL := [(.int (32 : Int32))]) (rest := []) (Ls := #[.val (.int p0), .val (.int cc), .val (.int cc), .val (.int (1 : Int32)), .val (.int (b2i (decide (¬ cc < 32 ∧ ¬ 126 < cc)))), .unset]) (by rw [hml]; rfl) (lenOf pd__C_Z rfl) (W := 0) (Nat.le_of_eq rfl) (hb hby at_39)
      obtain ⟨rfl, N108q, e108⟩ := q108
      have N108 := Fr.app N107 N108q
      obtain ⟨v109, T109, L109, X109, q109, st109⟩ := own_callS X108 hx hZ (y := (⟨"com/example/mutual_consent/mutualconsent/engine/Printable", "isPrintable", "(C)Z"⟩ : MethodName)) hown (hw _ (List.mem_of_getElem? (i := 0) rfl)) (hw _ (List.mem_of_getElem? (i := 1) rfl)) (hw _ (List.mem_of_getElem? (i := 2) rfl)) (hw _ (List.mem_of_getElem? (i := 3) rfl)) (by decide) (hM := (rm1 l Z a0 hw [] (126 : Int32) h0 n0 Z0)) (by decide) (by decide) (by decide) (by decide) e108 (argsL := [(.int (126 : Int32))]) (rest := []) (Ls := #[.val (.int p0), .val (.int cc), .val (.int cc), .val (.int (1 : Int32)), .val (.int (b2i (decide (¬ cc < 32 ∧ ¬ 126 < cc)))), .unset]) (by rw [hml]; rfl) (lenOf pd__C_Z rfl) (W := 0) (Nat.le_of_eq rfl) (hb hby at_47)
      obtain ⟨rfl, N109q, e109⟩ := q109
      have N109 := Fr.app N108 N109q
      obtain ⟨v110, T110, L110, X110, q110, st110⟩ := own_callS X109 hx hZ (y := (⟨"com/example/mutual_consent/mutualconsent/engine/Printable", "isPrintable", "(C)Z"⟩ : MethodName)) hown (hw _ (List.mem_of_getElem? (i := 0) rfl)) (hw _ (List.mem_of_getElem? (i := 1) rfl)) (hw _ (List.mem_of_getElem? (i := 2) rfl)) (hw _ (List.mem_of_getElem? (i := 3) rfl)) (by decide) (hM := (rm1 l Z a0 hw [] (127 : Int32) h0 n0 Z0)) (by decide) (by decide) (by decide) (by decide) e109 (argsL := [(.int (127 : Int32))]) (rest := []) (Ls := #[.val (.int p0), .val (.int cc), .val (.int cc), .val (.int (1 : Int32)), .val (.int (b2i (decide (¬ cc < 32 ∧ ¬ 126 < cc)))), .unset]) (by rw [hml]; rfl) (lenOf pd__C_Z rfl) (W := 0) (Nat.le_of_eq rfl) (hb hby at_55)
      obtain ⟨rfl, N110q, e110⟩ := q110
      have N110 := Fr.app N109 N110q
      refine Gl.fin X110 (v := some (.int (1 : Int32))) (fun h => by rw [Bd.returns] at h; cases h) Bd.notSynchronized ?_ e110 (by decide) (by decide) (fun fs hr => ?_)
      · exact ⟨rfl, N110⟩
      · show Steps p.tables e below (s₁.setTop (mkF m 14 #[.val (.int p0), .val (.int cc), .val (.int cc), .unset, .unset, .unset] [(.int (127 : Int32)), (.int cc)])) _
        refine XS.icmpNo X0.here hx rfl (hb hby at_14) rfl (own_nf (ic_ge _ _) hc14) ?_
        show Steps p.tables e below (s₁.setTop (mkF m 17 #[.val (.int p0), .val (.int cc), .val (.int cc), .unset, .unset, .unset] [])) _
        refine XS.iconst X0.here hx rfl (hb hby at_17) ?_
        show Steps p.tables e below (s₁.setTop (mkF m 18 #[.val (.int p0), .val (.int cc), .val (.int cc), .unset, .unset, .unset] [(.int (1 : Int32))])) _
        refine XS.goto X0.here hx rfl (pc0 := 18) (pc' := 22) rfl (hb hby at_18) (by decide) (by decide) ?_
        show Steps p.tables e below (s₁.setTop (mkF m 22 #[.val (.int p0), .val (.int cc), .val (.int cc), .unset, .unset, .unset] [(.int (1 : Int32))])) _
        refine XS.istoreN X0.here hx rfl (hb hby at_22) rfl (l' := #[.val (.int p0), .val (.int cc), .val (.int cc), .val (.int (1 : Int32)), .unset, .unset]) rfl ?_
        show Steps p.tables e below (s₁.setTop (mkF m 23 #[.val (.int p0), .val (.int cc), .val (.int cc), .val (.int (1 : Int32)), .unset, .unset] [])) _
        refine XS.iloadN X0.here hx rfl (hb hby at_23) rfl ?_
        show Steps p.tables e below (s₁.setTop (mkF m 24 #[.val (.int p0), .val (.int cc), .val (.int cc), .val (.int (1 : Int32)), .unset, .unset] [(.int cc)])) _
        refine st106 _ ?_
        show Steps p.tables e below (T106.setTop (mkF m 27 #[.val (.int p0), .val (.int cc), .val (.int cc), .val (.int (1 : Int32)), .unset, .unset] [(.int (b2i (decide (¬ cc < 32 ∧ ¬ 126 < cc))))])) _
        refine XS.istore X106.here hx rfl (hb hby at_27) rfl (l' := #[.val (.int p0), .val (.int cc), .val (.int cc), .val (.int (1 : Int32)), .val (.int (b2i (decide (¬ cc < 32 ∧ ¬ 126 < cc)))), .unset]) rfl ?_
        show Steps p.tables e below (T106.setTop (mkF m 29 #[.val (.int p0), .val (.int cc), .val (.int cc), .val (.int (1 : Int32)), .val (.int (b2i (decide (¬ cc < 32 ∧ ¬ 126 < cc)))), .unset] [])) _
        refine XS.bipush X106.here hx rfl (hb hby at_29) ?_
        show Steps p.tables e below (T106.setTop (mkF m 31 #[.val (.int p0), .val (.int cc), .val (.int cc), .val (.int (1 : Int32)), .val (.int (b2i (decide (¬ cc < 32 ∧ ¬ 126 < cc)))), .unset] [(.int (31 : Int32))])) _
        refine st107 _ ?_
        show Steps p.tables e below (T107.setTop (mkF m 34 #[.val (.int p0), .val (.int cc), .val (.int cc), .val (.int (1 : Int32)), .val (.int (b2i (decide (¬ cc < 32 ∧ ¬ 126 < cc)))), .unset] [(.int (b2i (decide (¬ (31 : Int32) < 32 ∧ ¬ 126 < (31 : Int32)))))])) _
        refine XS.ifNo X107.here hx rfl (hb hby at_34) rfl (own_bf (b0_ne _) (by decide)) ?_
        show Steps p.tables e below (T107.setTop (mkF m 37 #[.val (.int p0), .val (.int cc), .val (.int cc), .val (.int (1 : Int32)), .val (.int (b2i (decide (¬ cc < 32 ∧ ¬ 126 < cc)))), .unset] [])) _
        refine XS.bipush X107.here hx rfl (hb hby at_37) ?_
        show Steps p.tables e below (T107.setTop (mkF m 39 #[.val (.int p0), .val (.int cc), .val (.int cc), .val (.int (1 : Int32)), .val (.int (b2i (decide (¬ cc < 32 ∧ ¬ 126 < cc)))), .unset] [(.int (32 : Int32))])) _
        refine st108 _ ?_
        show Steps p.tables e below (T108.setTop (mkF m 42 #[.val (.int p0), .val (.int cc), .val (.int cc), .val (.int (1 : Int32)), .val (.int (b2i (decide (¬ cc < 32 ∧ ¬ 126 < cc)))), .unset] [(.int (b2i (decide (¬ (32 : Int32) < 32 ∧ ¬ 126 < (32 : Int32)))))])) _
        refine XS.ifNo X108.here hx rfl (hb hby at_42) rfl (own_nbf (b0_eq _) (by decide)) ?_
        show Steps p.tables e below (T108.setTop (mkF m 45 #[.val (.int p0), .val (.int cc), .val (.int cc), .val (.int (1 : Int32)), .val (.int (b2i (decide (¬ cc < 32 ∧ ¬ 126 < cc)))), .unset] [])) _
        refine XS.bipush X108.here hx rfl (hb hby at_45) ?_
        show Steps p.tables e below (T108.setTop (mkF m 47 #[.val (.int p0), .val (.int cc), .val (.int cc), .val (.int (1 : Int32)), .val (.int (b2i (decide (¬ cc < 32 ∧ ¬ 126 < cc)))), .unset] [(.int (126 : Int32))])) _
        refine st109 _ ?_
        show Steps p.tables e below (T109.setTop (mkF m 50 #[.val (.int p0), .val (.int cc), .val (.int cc), .val (.int (1 : Int32)), .val (.int (b2i (decide (¬ cc < 32 ∧ ¬ 126 < cc)))), .unset] [(.int (b2i (decide (¬ (126 : Int32) < 32 ∧ ¬ 126 < (126 : Int32)))))])) _
        refine XS.ifNo X109.here hx rfl (hb hby at_50) rfl (own_nbf (b0_eq _) (by decide)) ?_
        show Steps p.tables e below (T109.setTop (mkF m 53 #[.val (.int p0), .val (.int cc), .val (.int cc), .val (.int (1 : Int32)), .val (.int (b2i (decide (¬ cc < 32 ∧ ¬ 126 < cc)))), .unset] [])) _
        refine XS.bipush X109.here hx rfl (hb hby at_53) ?_
        show Steps p.tables e below (T109.setTop (mkF m 55 #[.val (.int p0), .val (.int cc), .val (.int cc), .val (.int (1 : Int32)), .val (.int (b2i (decide (¬ cc < 32 ∧ ¬ 126 < cc)))), .unset] [(.int (127 : Int32))])) _
        refine st110 _ ?_
        show Steps p.tables e below (T110.setTop (mkF m 58 #[.val (.int p0), .val (.int cc), .val (.int cc), .val (.int (1 : Int32)), .val (.int (b2i (decide (¬ cc < 32 ∧ ¬ 126 < cc)))), .unset] [(.int (b2i (decide (¬ (127 : Int32) < 32 ∧ ¬ 126 < (127 : Int32)))))])) _
        refine XS.ifNo X110.here hx rfl (hb hby at_58) rfl (own_bf (b0_ne _) (by decide)) ?_
        show Steps p.tables e below (T110.setTop (mkF m 61 #[.val (.int p0), .val (.int cc), .val (.int cc), .val (.int (1 : Int32)), .val (.int (b2i (decide (¬ cc < 32 ∧ ¬ 126 < cc)))), .unset] [])) _
        refine XS.iconst X110.here hx rfl (hb hby at_61) ?_
        show Steps p.tables e below (T110.setTop (mkF m 62 #[.val (.int p0), .val (.int cc), .val (.int cc), .val (.int (1 : Int32)), .val (.int (b2i (decide (¬ cc < 32 ∧ ¬ 126 < cc)))), .unset] [(.int (1 : Int32))])) _
        refine XS.goto X110.here hx rfl (pc0 := 62) (pc' := 66) rfl (hb hby at_62) (by decide) (by decide) ?_
        show Steps p.tables e below (T110.setTop (mkF m 66 #[.val (.int p0), .val (.int cc), .val (.int cc), .val (.int (1 : Int32)), .val (.int (b2i (decide (¬ cc < 32 ∧ ¬ 126 < cc)))), .unset] [(.int (1 : Int32))])) _
        refine XS.istore X110.here hx rfl (hb hby at_66) rfl (l' := #[.val (.int p0), .val (.int cc), .val (.int cc), .val (.int (1 : Int32)), .val (.int (b2i (decide (¬ cc < 32 ∧ ¬ 126 < cc)))), .val (.int (1 : Int32))]) rfl ?_
        show Steps p.tables e below (T110.setTop (mkF m 68 #[.val (.int p0), .val (.int cc), .val (.int cc), .val (.int (1 : Int32)), .val (.int (b2i (decide (¬ cc < 32 ∧ ¬ 126 < cc)))), .val (.int (1 : Int32))] [])) _
        refine XS.iload X110.here hx rfl (hb hby at_68) rfl ?_
        show Steps p.tables e below (T110.setTop (mkF m 70 #[.val (.int p0), .val (.int cc), .val (.int cc), .val (.int (1 : Int32)), .val (.int (b2i (decide (¬ cc < 32 ∧ ¬ 126 < cc)))), .val (.int (1 : Int32))] [(.int (b2i (decide (¬ cc < 32 ∧ ¬ 126 < cc))))])) _
        refine XS.iloadN X110.here hx rfl (hb hby at_70) rfl ?_
        show Steps p.tables e below (T110.setTop (mkF m 71 #[.val (.int p0), .val (.int cc), .val (.int cc), .val (.int (1 : Int32)), .val (.int (b2i (decide (¬ cc < 32 ∧ ¬ 126 < cc)))), .val (.int (1 : Int32))] [(.int (1 : Int32)), (.int (b2i (decide (¬ cc < 32 ∧ ¬ 126 < cc))))])) _
        refine XS.icmpNo X110.here hx rfl (hb hby at_71) rfl (own_nf (ic_ne _ _) (by simp [b2i, own_lt127, hc8, hc14])) ?_
        show Steps p.tables e below (T110.setTop (mkF m 74 #[.val (.int p0), .val (.int cc), .val (.int cc), .val (.int (1 : Int32)), .val (.int (b2i (decide (¬ cc < 32 ∧ ¬ 126 < cc)))), .val (.int (1 : Int32))] [])) _
        refine XS.iload X110.here hx rfl (hb hby at_74) rfl ?_
        show Steps p.tables e below (T110.setTop (mkF m 76 #[.val (.int p0), .val (.int cc), .val (.int cc), .val (.int (1 : Int32)), .val (.int (b2i (decide (¬ cc < 32 ∧ ¬ 126 < cc)))), .val (.int (1 : Int32))] [(.int (1 : Int32))])) _
        refine XS.ifNo X110.here hx rfl (hb hby at_76) rfl (own_f (i0_eq _) (by decide)) ?_
        show Steps p.tables e below (T110.setTop (mkF m 79 #[.val (.int p0), .val (.int cc), .val (.int cc), .val (.int (1 : Int32)), .val (.int (b2i (decide (¬ cc < 32 ∧ ¬ 126 < cc)))), .val (.int (1 : Int32))] [])) _
        refine XS.iconst X110.here hx rfl (hb hby at_79) ?_
        show Steps p.tables e below (T110.setTop (mkF m 80 #[.val (.int p0), .val (.int cc), .val (.int cc), .val (.int (1 : Int32)), .val (.int (b2i (decide (¬ cc < 32 ∧ ¬ 126 < cc)))), .val (.int (1 : Int32))] [(.int (1 : Int32))])) _
        refine XS.goto X110.here hx rfl (pc0 := 80) (pc' := 84) rfl (hb hby at_80) (by decide) (by decide) ?_
        show Steps p.tables e below (T110.setTop (mkF m 84 #[.val (.int p0), .val (.int cc), .val (.int cc), .val (.int (1 : Int32)), .val (.int (b2i (decide (¬ cc < 32 ∧ ¬ 126 < cc)))), .val (.int (1 : Int32))] [(.int (1 : Int32))])) _
        exact retN X110 hx (t := .boolean) Bd.returns (by simp) (hb hby at_84) hr
    · obtain ⟨v111, T111, L111, X111, q111, st111⟩ := own_callS X0 hx hZ (y := (⟨"com/example/mutual_consent/mutualconsent/engine/Printable", "isPrintable", "(C)Z"⟩ : MethodName)) hown (hw _ (List.mem_of_getElem? (i := 0) rfl)) (hw _ (List.mem_of_getElem? (i := 1) rfl)) (hw _ (List.mem_of_getElem? (i := 2) rfl)) (hw _ (List.mem_of_getElem? (i := 3) rfl)) (by decide) (hM := (rm1 l Z a0 hw [] cc h0 n0 Z0)) (by decide) (by decide) (by decide) (by decide) e0 (argsL := [(.int cc)]) (rest := []) (Ls := #[.val (.int p0), .val (.int cc), .val (.int cc), .val (.int (0 : Int32)), .unset, .unset]) (by rw [hml]; rfl) (lenOf pd__C_Z rfl) (W := 0) (Nat.le_of_eq rfl) (hb hby at_24)
      obtain ⟨rfl, N111q, e111⟩ := q111
      have N111 := Fr.app N0 N111q
      obtain ⟨v112, T112, L112, X112, q112, st112⟩ := own_callS X111 hx hZ (y := (⟨"com/example/mutual_consent/mutualconsent/engine/Printable", "isPrintable", "(C)Z"⟩ : MethodName)) hown (hw _ (List.mem_of_getElem? (i := 0) rfl)) (hw _ (List.mem_of_getElem? (i := 1) rfl)) (hw _ (List.mem_of_getElem? (i := 2) rfl)) (hw _ (List.mem_of_getElem? (i := 3) rfl)) (by decide) (hM := (rm1 l Z a0 hw [] (31 : Int32) h0 n0 Z0)) (by decide) (by decide) (by decide) (by decide) e111 (argsL := [(.int (31 : Int32))]) (rest := []) (Ls := #[.val (.int p0), .val (.int cc), .val (.int cc), .val (.int (0 : Int32)), .val (.int (b2i (decide (¬ cc < 32 ∧ ¬ 126 < cc)))), .unset]) (by rw [hml]; rfl) (lenOf pd__C_Z rfl) (W := 0) (Nat.le_of_eq rfl) (hb hby at_31)
      obtain ⟨rfl, N112q, e112⟩ := q112
      have N112 := Fr.app N111 N112q
      obtain ⟨v113, T113, L113, X113, q113, st113⟩ := own_callS X112 hx hZ (y := (⟨"com/example/mutual_consent/mutualconsent/engine/Printable", "isPrintable", "(C)Z"⟩ : MethodName)) hown (hw _ (List.mem_of_getElem? (i := 0) rfl)) (hw _ (List.mem_of_getElem? (i := 1) rfl)) (hw _ (List.mem_of_getElem? (i := 2) rfl)) (hw _ (List.mem_of_getElem? (i := 3) rfl)) (by decide) (hM := (rm1 l Z a0 hw [] (32 : Int32) h0 n0 Z0)) (by decide) (by decide) (by decide) (by decide) e112 (argsL := [(.int (32 : Int32))]) (rest := []) (Ls := #[.val (.int p0), .val (.int cc), .val (.int cc), .val (.int (0 : Int32)), .val (.int (b2i (decide (¬ cc < 32 ∧ ¬ 126 < cc)))), .unset]) (by rw [hml]; rfl) (lenOf pd__C_Z rfl) (W := 0) (Nat.le_of_eq rfl) (hb hby at_39)
      obtain ⟨rfl, N113q, e113⟩ := q113
      have N113 := Fr.app N112 N113q
      obtain ⟨v114, T114, L114, X114, q114, st114⟩ := own_callS X113 hx hZ (y := (⟨"com/example/mutual_consent/mutualconsent/engine/Printable", "isPrintable", "(C)Z"⟩ : MethodName)) hown (hw _ (List.mem_of_getElem? (i := 0) rfl)) (hw _ (List.mem_of_getElem? (i := 1) rfl)) (hw _ (List.mem_of_getElem? (i := 2) rfl)) (hw _ (List.mem_of_getElem? (i := 3) rfl)) (by decide) (hM := (rm1 l Z a0 hw [] (126 : Int32) h0 n0 Z0)) (by decide) (by decide) (by decide) (by decide) e113 (argsL := [(.int (126 : Int32))]) (rest := []) (Ls := #[.val (.int p0), .val (.int cc), .val (.int cc), .val (.int (0 : Int32)), .val (.int (b2i (decide (¬ cc < 32 ∧ ¬ 126 < cc)))), .unset]) (by rw [hml]; rfl) (lenOf pd__C_Z rfl) (W := 0) (Nat.le_of_eq rfl) (hb hby at_47)
      obtain ⟨rfl, N114q, e114⟩ := q114
      have N114 := Fr.app N113 N114q
      obtain ⟨v115, T115, L115, X115, q115, st115⟩ := own_callS X114 hx hZ (y := (⟨"com/example/mutual_consent/mutualconsent/engine/Printable", "isPrintable", "(C)Z"⟩ : MethodName)) hown (hw _ (List.mem_of_getElem? (i := 0) rfl)) (hw _ (List.mem_of_getElem? (i := 1) rfl)) (hw _ (List.mem_of_getElem? (i := 2) rfl)) (hw _ (List.mem_of_getElem? (i := 3) rfl)) (by decide) (hM := (rm1 l Z a0 hw [] (127 : Int32) h0 n0 Z0)) (by decide) (by decide) (by decide) (by decide) e114 (argsL := [(.int (127 : Int32))]) (rest := []) (Ls := #[.val (.int p0), .val (.int cc), .val (.int cc), .val (.int (0 : Int32)), .val (.int (b2i (decide (¬ cc < 32 ∧ ¬ 126 < cc)))), .unset]) (by rw [hml]; rfl) (lenOf pd__C_Z rfl) (W := 0) (Nat.le_of_eq rfl) (hb hby at_55)
      obtain ⟨rfl, N115q, e115⟩ := q115
      have N115 := Fr.app N114 N115q
      refine Gl.fin X115 (v := some (.int (1 : Int32))) (fun h => by rw [Bd.returns] at h; cases h) Bd.notSynchronized ?_ e115 (by decide) (by decide) (fun fs hr => ?_)
      · exact ⟨rfl, N115⟩
      · show Steps p.tables e below (s₁.setTop (mkF m 14 #[.val (.int p0), .val (.int cc), .val (.int cc), .unset, .unset, .unset] [(.int (127 : Int32)), (.int cc)])) _
        refine XS.icmpYes X0.here hx rfl (pc0 := 14) (pc' := 21) rfl (hb hby at_14) rfl (own_nt (ic_ge _ _) hc14) (by decide) (by decide) ?_
        show Steps p.tables e below (s₁.setTop (mkF m 21 #[.val (.int p0), .val (.int cc), .val (.int cc), .unset, .unset, .unset] [])) _
        refine XS.iconst X0.here hx rfl (hb hby at_21) ?_
        show Steps p.tables e below (s₁.setTop (mkF m 22 #[.val (.int p0), .val (.int cc), .val (.int cc), .unset, .unset, .unset] [(.int (0 : Int32))])) _
        refine XS.istoreN X0.here hx rfl (hb hby at_22) rfl (l' := #[.val (.int p0), .val (.int cc), .val (.int cc), .val (.int (0 : Int32)), .unset, .unset]) rfl ?_
        show Steps p.tables e below (s₁.setTop (mkF m 23 #[.val (.int p0), .val (.int cc), .val (.int cc), .val (.int (0 : Int32)), .unset, .unset] [])) _
        refine XS.iloadN X0.here hx rfl (hb hby at_23) rfl ?_
        show Steps p.tables e below (s₁.setTop (mkF m 24 #[.val (.int p0), .val (.int cc), .val (.int cc), .val (.int (0 : Int32)), .unset, .unset] [(.int cc)])) _
        refine st111 _ ?_
        show Steps p.tables e below (T111.setTop (mkF m 27 #[.val (.int p0), .val (.int cc), .val (.int cc), .val (.int (0 : Int32)), .unset, .unset] [(.int (b2i (decide (¬ cc < 32 ∧ ¬ 126 < cc))))])) _
        refine XS.istore X111.here hx rfl (hb hby at_27) rfl (l' := #[.val (.int p0), .val (.int cc), .val (.int cc), .val (.int (0 : Int32)), .val (.int (b2i (decide (¬ cc < 32 ∧ ¬ 126 < cc)))), .unset]) rfl ?_
        show Steps p.tables e below (T111.setTop (mkF m 29 #[.val (.int p0), .val (.int cc), .val (.int cc), .val (.int (0 : Int32)), .val (.int (b2i (decide (¬ cc < 32 ∧ ¬ 126 < cc)))), .unset] [])) _
        refine XS.bipush X111.here hx rfl (hb hby at_29) ?_
        show Steps p.tables e below (T111.setTop (mkF m 31 #[.val (.int p0), .val (.int cc), .val (.int cc), .val (.int (0 : Int32)), .val (.int (b2i (decide (¬ cc < 32 ∧ ¬ 126 < cc)))), .unset] [(.int (31 : Int32))])) _
        refine st112 _ ?_
        show Steps p.tables e below (T112.setTop (mkF m 34 #[.val (.int p0), .val (.int cc), .val (.int cc), .val (.int (0 : Int32)), .val (.int (b2i (decide (¬ cc < 32 ∧ ¬ 126 < cc)))), .unset] [(.int (b2i (decide (¬ (31 : Int32) < 32 ∧ ¬ 126 < (31 : Int32)))))])) _
        refine XS.ifNo X112.here hx rfl (hb hby at_34) rfl (own_bf (b0_ne _) (by decide)) ?_
        show Steps p.tables e below (T112.setTop (mkF m 37 #[.val (.int p0), .val (.int cc), .val (.int cc), .val (.int (0 : Int32)), .val (.int (b2i (decide (¬ cc < 32 ∧ ¬ 126 < cc)))), .unset] [])) _
        refine XS.bipush X112.here hx rfl (hb hby at_37) ?_
        show Steps p.tables e below (T112.setTop (mkF m 39 #[.val (.int p0), .val (.int cc), .val (.int cc), .val (.int (0 : Int32)), .val (.int (b2i (decide (¬ cc < 32 ∧ ¬ 126 < cc)))), .unset] [(.int (32 : Int32))])) _
        refine st113 _ ?_
        show Steps p.tables e below (T113.setTop (mkF m 42 #[.val (.int p0), .val (.int cc), .val (.int cc), .val (.int (0 : Int32)), .val (.int (b2i (decide (¬ cc < 32 ∧ ¬ 126 < cc)))), .unset] [(.int (b2i (decide (¬ (32 : Int32) < 32 ∧ ¬ 126 < (32 : Int32)))))])) _
        refine XS.ifNo X113.here hx rfl (hb hby at_42) rfl (own_nbf (b0_eq _) (by decide)) ?_
        show Steps p.tables e below (T113.setTop (mkF m 45 #[.val (.int p0), .val (.int cc), .val (.int cc), .val (.int (0 : Int32)), .val (.int (b2i (decide (¬ cc < 32 ∧ ¬ 126 < cc)))), .unset] [])) _
        refine XS.bipush X113.here hx rfl (hb hby at_45) ?_
        show Steps p.tables e below (T113.setTop (mkF m 47 #[.val (.int p0), .val (.int cc), .val (.int cc), .val (.int (0 : Int32)), .val (.int (b2i (decide (¬ cc < 32 ∧ ¬ 126 < cc)))), .unset] [(.int (126 : Int32))])) _
        refine st114 _ ?_
        show Steps p.tables e below (T114.setTop (mkF m 50 #[.val (.int p0), .val (.int cc), .val (.int cc), .val (.int (0 : Int32)), .val (.int (b2i (decide (¬ cc < 32 ∧ ¬ 126 < cc)))), .unset] [(.int (b2i (decide (¬ (126 : Int32) < 32 ∧ ¬ 126 < (126 : Int32)))))])) _
        refine XS.ifNo X114.here hx rfl (hb hby at_50) rfl (own_nbf (b0_eq _) (by decide)) ?_
        show Steps p.tables e below (T114.setTop (mkF m 53 #[.val (.int p0), .val (.int cc), .val (.int cc), .val (.int (0 : Int32)), .val (.int (b2i (decide (¬ cc < 32 ∧ ¬ 126 < cc)))), .unset] [])) _
        refine XS.bipush X114.here hx rfl (hb hby at_53) ?_
        show Steps p.tables e below (T114.setTop (mkF m 55 #[.val (.int p0), .val (.int cc), .val (.int cc), .val (.int (0 : Int32)), .val (.int (b2i (decide (¬ cc < 32 ∧ ¬ 126 < cc)))), .unset] [(.int (127 : Int32))])) _
        refine st115 _ ?_
        show Steps p.tables e below (T115.setTop (mkF m 58 #[.val (.int p0), .val (.int cc), .val (.int cc), .val (.int (0 : Int32)), .val (.int (b2i (decide (¬ cc < 32 ∧ ¬ 126 < cc)))), .unset] [(.int (b2i (decide (¬ (127 : Int32) < 32 ∧ ¬ 126 < (127 : Int32)))))])) _
        refine XS.ifNo X115.here hx rfl (hb hby at_58) rfl (own_bf (b0_ne _) (by decide)) ?_
        show Steps p.tables e below (T115.setTop (mkF m 61 #[.val (.int p0), .val (.int cc), .val (.int cc), .val (.int (0 : Int32)), .val (.int (b2i (decide (¬ cc < 32 ∧ ¬ 126 < cc)))), .unset] [])) _
        refine XS.iconst X115.here hx rfl (hb hby at_61) ?_
        show Steps p.tables e below (T115.setTop (mkF m 62 #[.val (.int p0), .val (.int cc), .val (.int cc), .val (.int (0 : Int32)), .val (.int (b2i (decide (¬ cc < 32 ∧ ¬ 126 < cc)))), .unset] [(.int (1 : Int32))])) _
        refine XS.goto X115.here hx rfl (pc0 := 62) (pc' := 66) rfl (hb hby at_62) (by decide) (by decide) ?_
        show Steps p.tables e below (T115.setTop (mkF m 66 #[.val (.int p0), .val (.int cc), .val (.int cc), .val (.int (0 : Int32)), .val (.int (b2i (decide (¬ cc < 32 ∧ ¬ 126 < cc)))), .unset] [(.int (1 : Int32))])) _
        refine XS.istore X115.here hx rfl (hb hby at_66) rfl (l' := #[.val (.int p0), .val (.int cc), .val (.int cc), .val (.int (0 : Int32)), .val (.int (b2i (decide (¬ cc < 32 ∧ ¬ 126 < cc)))), .val (.int (1 : Int32))]) rfl ?_
        show Steps p.tables e below (T115.setTop (mkF m 68 #[.val (.int p0), .val (.int cc), .val (.int cc), .val (.int (0 : Int32)), .val (.int (b2i (decide (¬ cc < 32 ∧ ¬ 126 < cc)))), .val (.int (1 : Int32))] [])) _
        refine XS.iload X115.here hx rfl (hb hby at_68) rfl ?_
        show Steps p.tables e below (T115.setTop (mkF m 70 #[.val (.int p0), .val (.int cc), .val (.int cc), .val (.int (0 : Int32)), .val (.int (b2i (decide (¬ cc < 32 ∧ ¬ 126 < cc)))), .val (.int (1 : Int32))] [(.int (b2i (decide (¬ cc < 32 ∧ ¬ 126 < cc))))])) _
        refine XS.iloadN X115.here hx rfl (hb hby at_70) rfl ?_
        show Steps p.tables e below (T115.setTop (mkF m 71 #[.val (.int p0), .val (.int cc), .val (.int cc), .val (.int (0 : Int32)), .val (.int (b2i (decide (¬ cc < 32 ∧ ¬ 126 < cc)))), .val (.int (1 : Int32))] [(.int (0 : Int32)), (.int (b2i (decide (¬ cc < 32 ∧ ¬ 126 < cc))))])) _
        refine XS.icmpNo X115.here hx rfl (hb hby at_71) rfl (own_nf (ic_ne _ _) (by simp [b2i, own_lt127, hc8, hc14])) ?_
        show Steps p.tables e below (T115.setTop (mkF m 74 #[.val (.int p0), .val (.int cc), .val (.int cc), .val (.int (0 : Int32)), .val (.int (b2i (decide (¬ cc < 32 ∧ ¬ 126 < cc)))), .val (.int (1 : Int32))] [])) _
        refine XS.iload X115.here hx rfl (hb hby at_74) rfl ?_
        show Steps p.tables e below (T115.setTop (mkF m 76 #[.val (.int p0), .val (.int cc), .val (.int cc), .val (.int (0 : Int32)), .val (.int (b2i (decide (¬ cc < 32 ∧ ¬ 126 < cc)))), .val (.int (1 : Int32))] [(.int (1 : Int32))])) _
        refine XS.ifNo X115.here hx rfl (hb hby at_76) rfl (own_f (i0_eq _) (by decide)) ?_
        show Steps p.tables e below (T115.setTop (mkF m 79 #[.val (.int p0), .val (.int cc), .val (.int cc), .val (.int (0 : Int32)), .val (.int (b2i (decide (¬ cc < 32 ∧ ¬ 126 < cc)))), .val (.int (1 : Int32))] [])) _
        refine XS.iconst X115.here hx rfl (hb hby at_79) ?_
        show Steps p.tables e below (T115.setTop (mkF m 80 #[.val (.int p0), .val (.int cc), .val (.int cc), .val (.int (0 : Int32)), .val (.int (b2i (decide (¬ cc < 32 ∧ ¬ 126 < cc)))), .val (.int (1 : Int32))] [(.int (1 : Int32))])) _
        refine XS.goto X115.here hx rfl (pc0 := 80) (pc' := 84) rfl (hb hby at_80) (by decide) (by decide) ?_
        show Steps p.tables e below (T115.setTop (mkF m 84 #[.val (.int p0), .val (.int cc), .val (.int cc), .val (.int (0 : Int32)), .val (.int (b2i (decide (¬ cc < 32 ∧ ¬ 126 < cc)))), .val (.int (1 : Int32))] [(.int (1 : Int32))])) _
        exact retN X115 hx (t := .boolean) Bd.returns (by simp) (hb hby at_84) hr
set_option maxRecDepth 65536 in
set_option maxHeartbeats 40000000 in
theorem comes_1 {Post : Tables → Env → Array Value → State → Outcome → State → Prop} (hpost : ∀ tb e args s v u, (limb_1_1.after args s (.returned v) u = true ∧ limb_1_2.after args s (.returned v) u = true ∧ True) → FrameEnd s (.returned v) u (Jvm.fieldLocs frame_1_writes args s ++ Jvm.arrayLocs frame_1_arrays args s ++ Jvm.staticLocs frame_1_statics s) 0 0 → Post tb e args s (.returned v) u) :
    ArmFor flags0 classFile x code maxLocals ret World_1 tables_1 room_1 Calls_1 rest_1 Pre_1 Post := by
  intro l hfl _ _ p e ha hc hk s m args below hf hA hF happ hP
  obtain ⟨hcalls, hrest, hpre⟩ := hP
  obtain ⟨-, -, -, hnamed, -, -, -, hat⟩ := (Spec.applies_iff hf).mp happ
  obtain ⟨hg, hn⟩ := and_e (Cond.before_iff.mp (show (Jvm.Cond.and given_1 narrow_1).before args s = true from hpre))
  obtain ⟨hq0, hr0⟩ := and_e hg
  obtain ⟨w0, rfl⟩ : ∃ w0 : Value, args = #[w0] := by
    have hs : args.size = 1 := by simpa [Cond.value, given_1] using hq0
    obtain ⟨L⟩ := args
    match L, hs with
    | [w0], _ => exact ⟨w0, rfl⟩
  have hw := fun d (hd : d ∈ tables_1) => atoms_spec (ws := Jvm.Cond.code x code maxLocals ret :: tables_1) hat d (List.mem_cons_of_mem _ hd)
  have hfit : Fit s := fun {y c} hc i hi => by
    obtain ⟨ha, rfl⟩ := Array.getElem?_eq_some_iff.mp hc
    have q := List.all_eq_true.mp ((Array.all_eq_true_iff_forall_mem.mp hF) _ (Array.getElem_mem ha)) i (List.mem_range.mpr hi)
    simpa [Array.getElem?_eq_getElem hi] using q
  obtain ⟨i0, ei0⟩ := is_v hr0
  obtain rfl : w0 = (.int i0) := Option.some.inj ei0
  obtain ⟨n, o, h1, h2, h3, _, L, rfl, ⟨rfl, N⟩, hq⟩ := rm0 l s _ hw tables_1 i0 s.heap s.heap.size (Nat.le_refl _) p e ha hc hk s m _ below hf ((Spec.applies_iff_loose hf).mp happ).1 ⟨rfl, State.Warmed39.refl s, rfl⟩ trivial
  refine ⟨n, _, h1, h2, h3, hpost _ _ _ _ _ _ ⟨Cond.after_iff.mpr rfl, Cond.after_iff.mpr (eq_i res_at (Term.int_eval (1)) rfl), trivial⟩ ⟨hq.1, hq.2.1, (hq.2.2.sift fun y hy => Or.inr (N y hy)).mono (by decide) (by decide)⟩⟩
theorem main_1_1 : Claimed_1_1 := comes_1 fun _ _ _ _ _ _ h hF => ⟨h.1, hF⟩
theorem main_1_2 : Claimed_1_2 := comes_1 fun _ _ _ _ _ _ h hF => ⟨h.2.1, hF⟩
end Jvm.Pilot.@@N@@
namespace Jvm.Pilot.@@N@@
open Jvm Jvm.ClassFile Sem Op Lib Jvm.Free Jvm.Stand Jvm.Pilot.@@N@@.Jvm.D
/-! MADE BY PROGRAM (witnessworld.py) out of the Statement's table words and the real class files: 9 classes; the members and pool entries that the words name. The judged class is class 1, her method 1. -/
namespace start1
open Jvm.ClassFile
def u (s : String) : CpInfo := .utf8 (stringToUtf16 s)
/-- a pool by its gaps: so many unusable entries, then the entry; so many at the end -/
def gap : Nat → List CpInfo → List CpInfo
  | 0, r => r
  | n + 1, r => .unusable :: gap n r
def poolList (es : List (Nat × CpInfo)) (last : Nat) : List CpInfo := es.foldr (fun e r => gap e.1 (e.2 :: r)) (gap last [])
def pool (es : List (Nat × CpInfo)) (last : Nat) : Array CpInfo := ⟨poolList es last⟩
def fileOf (pool : Array CpInfo) (this : Nat) (attrs : Array Attribute := #[]) (ms : Array MethodInfo := #[]) (fl : Nat := 33) (sup : Nat := 0) (ifs : Array Nat := #[]) (fds : Array FieldInfo := #[]) : ClassFile where
  minorVersion := 0
  majorVersion := 65
  constantPool := pool
  accessFlags := fl
  thisClass := this
  superClass := sup
  interfaces := ifs
  fields := fds
  methods := ms
  attributes := attrs
def plain (name : String) (sup : Option ClassId) : Class where
  name := name
  kind := .ordinary
  loader := none
  accessFlags := 33
  super := sup
  interfaces := #[]
  cf := none
  fields := #[]
  methods := #[]
  instanceTypes := #[]
  staticTypes := #[]
  resolved := #[]
  callSites := []
  init := .initialized
  statics := none
  mirror := none

def pool0 : Array CpInfo := pool [(5, u "<init>"), (0, u "()V"), (1, .class_ 10), (1, u "java/lang/Object")] 113

def k0m0 : Method := { name := "<init>", desc := "()V", sig := { parameters := [], returnType := none }, accessFlags := 1, code := none }
/-- java/lang/Object -/
def k0 : Class := { plain "java/lang/Object" none with
  accessFlags := 33
  interfaces := #[]
  cf := some (fileOf pool0 8 #[] #[{ accessFlags := 1, nameIndex := 5, descriptorIndex := 6, attributes := #[] }] 33 0 #[] #[])
  fields := #[]
  methods := #[k0m0]
  instanceTypes := #[]
  staticTypes := #[]
  resolved := Array.replicate 124 none
  statics := none }

def pool1 : Array CpInfo := pool [(2, .class_ 4), (1, u "java/lang/Object"), (0, u "<init>"), (0, u "()V"), (0, .methodref 8 9), (0, .class_ 10), (0, .nameAndType 11 12), (0, u "com/example/mutual_consent/mutualconsent/engine/Printable"), (0, u "isPrintable"), (0, u "(C)Z"), (0, .class_ 14), (0, u "com/example/mutual_consent/mutualconsent/engine/PrintableIsPrintablePinLaw"), (2, u "law"), (0, u "(I)Z")] 3

def k1m0 : Method := { name := "<init>", desc := "()V", sig := { parameters := [], returnType := none }, accessFlags := 2, code := none }
def k1c1 : Code := { maxStack := 2, maxLocals := 6, code := code, exceptionTable := #[], attributes := #[] }
def k1m1 : Method := { name := "law", desc := "(I)Z", sig := { parameters := [.int], returnType := some .boolean }, accessFlags := 9, code := some k1c1 }
/-- com/example/mutual_consent/mutualconsent/engine/PrintableIsPrintablePinLaw -/
def k1 : Class := { plain "com/example/mutual_consent/mutualconsent/engine/PrintableIsPrintablePinLaw" (some 0) with
  accessFlags := 49
  interfaces := #[]
  cf := some (fileOf pool1 13 #[] #[{ accessFlags := 2, nameIndex := 5, descriptorIndex := 6, attributes := #[] }, { accessFlags := 9, nameIndex := 17, descriptorIndex := 18, attributes := #[] }] 49 2 #[] #[])
  fields := #[]
  methods := #[k1m0, k1m1]
  instanceTypes := #[]
  staticTypes := #[]
  resolved := Array.replicate 22 none
  statics := none }

def pool2 : Array CpInfo := pool [(2, .class_ 4), (1, u "java/lang/Object"), (0, u "<init>"), (0, u "()V"), (0, .class_ 8), (0, u "com/example/mutual_consent/mutualconsent/engine/Printable"), (40, u "isPrintable"), (0, u "(C)Z"), (7, u "HEX"), (0, u "Ljava/util/HexFormat;"), (10, u "FIRST"), (0, u "C"), (2, u "LAST")] 9

def k2m0 : Method := { name := "<init>", desc := "()V", sig := { parameters := [], returnType := none }, accessFlags := 2, code := none }
def k2c1 : Code := { maxStack := 2, maxLocals := 1, code := prog_16_method_2_code, exceptionTable := #[], attributes := #[] }
def k2m1 : Method := { name := "isPrintable", desc := "(C)Z", sig := { parameters := [.char], returnType := some .boolean }, accessFlags := 9, code := some k2c1 }
/-- com/example/mutual_consent/mutualconsent/engine/Printable -/
def k2 : Class := { plain "com/example/mutual_consent/mutualconsent/engine/Printable" (some 0) with
  accessFlags := 33
  interfaces := #[]
  cf := some (fileOf pool2 7 #[] #[{ accessFlags := 2, nameIndex := 5, descriptorIndex := 6, attributes := #[] }, { accessFlags := 9, nameIndex := 49, descriptorIndex := 50, attributes := #[] }] 33 2 #[] #[{ accessFlags := 26, nameIndex := 70, descriptorIndex := 71, attributes := #[] }, { accessFlags := 26, nameIndex := 74, descriptorIndex := 71, attributes := #[] }, { accessFlags := 26, nameIndex := 58, descriptorIndex := 59, attributes := #[] }])
  fields := #[{ name := "FIRST", type := .char, accessFlags := 26, slot := 0, constantValue := 0 }, { name := "LAST", type := .char, accessFlags := 26, slot := 1, constantValue := 0 }, { name := "HEX", type := (.object "java/util/HexFormat"), accessFlags := 26, slot := 2, constantValue := 0 }]
  methods := #[k2m0, k2m1]
  instanceTypes := #[]
  staticTypes := #[.char, .char, (.object "java/util/HexFormat")]
  resolved := Array.replicate 84 none
  statics := none }

def pool3 : Array CpInfo := pool [(1, u "java/lang/Cloneable"), (0, .class_ 1), (0, u "java/lang/Object"), (0, .class_ 3)] 3

/-- java/lang/Cloneable -/
def k3 : Class := { plain "java/lang/Cloneable" (some 0) with
  accessFlags := 1537
  interfaces := #[]
  cf := some (fileOf pool3 2 #[] #[] 1537 4 #[] #[])
  fields := #[]
  methods := #[]
  instanceTypes := #[]
  staticTypes := #[]
  resolved := Array.replicate 8 none
  statics := none }

def pool4 : Array CpInfo := pool [(1, u "java/io/Serializable"), (0, .class_ 1), (0, u "java/lang/Object"), (0, .class_ 3)] 3

/-- java/io/Serializable -/
def k4 : Class := { plain "java/io/Serializable" (some 0) with
  accessFlags := 1537
  interfaces := #[]
  cf := some (fileOf pool4 2 #[] #[] 1537 4 #[] #[])
  fields := #[]
  methods := #[]
  instanceTypes := #[]
  staticTypes := #[]
  resolved := Array.replicate 8 none
  statics := none }

/-- the primitive byte -/
def k5 : Class := { plain "byte" none with kind := .primitive 'B', accessFlags := 0x411 }
/-- [B -/
def k6 : Class := { plain "[B" (some 0) with kind := .array 5 .byte, interfaces := #[3, 4], accessFlags := 1041 }

/-- the primitive int -/
def k7 : Class := { plain "int" none with kind := .primitive 'I', accessFlags := 0x411 }
/-- [I -/
def k8 : Class := { plain "[I" (some 0) with kind := .array 7 .int, interfaces := #[3, 4], accessFlags := 1041 }

def heap : Heap := #[]
def classes : Array Class := #[k0, k1, k2, k3, k4, k5, k6, k7, k8]
def interned : List (Array UInt16 × Addr) := []
def slotsUsed : Nat := 0
def theMethod : MethodId := ⟨1, 1⟩
def args0 : Array Value := #[.int 65]
def aboutOver (below : List Frame) : State where
  vm := { classes := classes, interned := interned.toArray }
  heap := heap
  slotsUsed := slotsUsed
  threads := #[{ frames := .invoking theMethod args0 :: below }]
def below0 : List Frame := [.native { method := ⟨0, 0⟩, args := #[] }]
def about1 : State := aboutOver below0
def p0 : Program := .bare "" "" ""
def e0 : Env := launch0.env 0 0 0
theorem w_frames : about1.frames = Frame.invoking theMethod args0 :: below0 := rfl
set_option maxRecDepth 65536 in
theorem w_args : argsFit about1.vm theMethod args0 = true := by decide +kernel
set_option maxRecDepth 65536 in
theorem w_heap : heapFits about1 = true := by decide +kernel
set_option maxRecDepth 65536 in
theorem w_runnable : about1.curStatus? = some .runnable := by decide +kernel
set_option maxRecDepth 65536 in
theorem w_alone : about1.alone = true := by decide +kernel
set_option maxRecDepth 65536 in
theorem w_named : about1.methodNamed? x = some theMethod := by decide +kernel
set_option maxRecDepth 65536 in
theorem w_hears : about1.hears theMethod below0 = true := by decide +kernel
set_option maxRecDepth 65536 in
theorem w_ripe : about1.ripe theMethod args0 below0 = true := by decide +kernel
theorem w_running : about1.status = .running := rfl
set_option maxRecDepth 65536 in
theorem w_room : about1.hasRoom e0.platform room_1 = true :=
  launch0.hasRoom_least _ room_1 (by decide +kernel) (by decide +kernel) (by decide +kernel) (by decide +kernel) (by decide +kernel) (by decide +kernel)
theorem allAtoms_all (ts : List Jvm.Cond) (a : Array Jvm.Value) (st : Jvm.State) : (allAtoms ts).before a st = ts.all (fun c => c.before a st) := by
  induction ts with
  | nil => rfl
  | cons c t ih =>
    show (Jvm.Cond.and c (allAtoms t)).before a st = _
    rw [Jvm.Cond.before_and, ih, List.all_cons]
def words1 : List Jvm.Cond := Jvm.Cond.code x code maxLocals ret :: tables_1
/-- a 'code' word, met by the world's own term for the bytes: nothing is compared byte by byte -/
theorem code_word {y : MethodName} {bytes : ByteArray} {mx : Nat} {rt : Option FieldType} {a : Array Value} {s : State} {m : MethodId} {meth : Method} {c : Code} (h1 : s.methodNamed? y = some m) (h2 : s.vm.method? m = some meth) (h3 : meth.code = some c) (h4 : c.code = bytes)
    (h5 : (c.maxLocals == mx && c.exceptionTable.isEmpty && decide (c.maxStack ≤ mostOperands) && decide (meth.sig.returnType = rt) && !meth.locks && decide (parseMethodDescriptor y.desc = some meth.sig)) = true) : (Jvm.Cond.code y bytes mx rt).before a s = true := by
  simp only [Bool.and_eq_true, beq_iff_eq, Bool.not_eq_true', decide_eq_true_eq] at h5
  obtain ⟨⟨⟨⟨⟨g1, g2⟩, g3⟩, g4⟩, g5⟩, g6⟩ := h5
  simp [Cond.before, Cond.holds, Cond.value, h1, h2, h3, h4, g1, g2, g3, g4, g5, g6]
def isCode : Jvm.Cond → Bool
  | .code _ _ _ _ => true
  | _ => false
theorem all_split {L : List Jvm.Cond} {P : Jvm.Cond → Bool} (h1 : L.all (fun c => isCode c || P c) = true) (h2 : ∀ c ∈ L.filter isCode, P c = true) : L.all P = true := by
  refine List.all_eq_true.mpr fun c hc => ?_
  have h := List.all_eq_true.mp h1 c hc
  rcases Bool.eq_false_or_eq_true (isCode c) with hi | hi
  · exact h2 c (List.mem_filter.mpr ⟨hc, hi⟩)
  · simpa [hi] using h
set_option maxRecDepth 65536 in
theorem w_c0 : (Jvm.Cond.code x code maxLocals ret).before args0 about1 = true := code_word (m := ⟨1, 1⟩) (meth := k1m1) (c := k1c1) (by decide +kernel) rfl rfl rfl (by decide +kernel)
set_option maxRecDepth 65536 in
theorem w_c1 : (Jvm.Cond.code ({ cls := "com/example/mutual_consent/mutualconsent/engine/Printable", name := "isPrintable", desc := "(C)Z" } : Jvm.MethodName) prog_16_method_2_code (1 : Nat) (Option.some Jvm.ClassFile.FieldType.boolean)).before args0 about1 = true := code_word (m := ⟨2, 1⟩) (meth := k2m1) (c := k2c1) (by decide +kernel) rfl rfl rfl (by decide +kernel)
def codes1 : List Jvm.Cond := [Jvm.Cond.code x code maxLocals ret, Jvm.Cond.code ({ cls := "com/example/mutual_consent/mutualconsent/engine/Printable", name := "isPrintable", desc := "(C)Z" } : Jvm.MethodName) prog_16_method_2_code (1 : Nat) (Option.some Jvm.ClassFile.FieldType.boolean)]
set_option maxRecDepth 65536 in
theorem codes_eq : words1.filter isCode = codes1 := rfl
theorem w_codes : ∀ c ∈ words1.filter isCode, c.before args0 about1 = true := by
  rw [codes_eq]
  intro c hc
  simp only [codes1, List.mem_cons, List.not_mem_nil, or_false] at hc
  rcases hc with rfl | rfl
  · exact w_c0
  · exact w_c1
set_option maxRecDepth 65536 in
theorem w_t1 : words1.all (fun c => isCode c || c.before args0 about1) = true := by decide +kernel
theorem w_tables : (allAtoms (Jvm.Cond.code x code maxLocals ret :: tables_1)).before args0 about1 = true := by
  rw [allAtoms_all]
  show words1.all (fun c => c.before args0 about1) = true
  refine all_split ?_ w_codes
  rw [w_t1]
set_option maxRecDepth 65536 in
theorem w_case : (Jvm.Cond.and given_1 narrow_1).before args0 about1 = true := by decide +kernel
theorem w_applies : (headSpec (Jvm.Cond.code x code maxLocals ret :: tables_1) room_1).applies x e0.platform about1 = true :=
  (Spec.applies_iff w_frames).mpr ⟨w_running, w_runnable, w_alone, w_named, w_hears, w_ripe, w_room, w_tables⟩
theorem atStart : AtStart classFile x code maxLocals ret World_1 tables_1 room_1 Calls_1 rest_1 Pre_1 launch0 p0 e0 about1 theMethod args0 below0 :=
  ⟨lists_1, trivial, launch0.admits_env _ _ _, launch0.least_env, fairChoices_fair.cas, fairChoices_fair.clock, w_frames, w_args, w_heap, w_applies, trivial, trivial, w_case⟩
end start1
theorem witness_1 : WitnessClaimed_1 := ⟨start1.p0, start1.e0, start1.about1, start1.theMethod, start1.args0, start1.below0, start1.atStart⟩
end Jvm.Pilot.@@N@@
