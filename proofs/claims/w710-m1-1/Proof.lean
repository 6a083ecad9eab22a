import JvmDerived
import JvmDerived.Pilot.@@N@@Statement
import JvmDerived.Pilot.@@N@@Code
set_option linter.unusedVariables false
set_option linter.unusedSimpArgs false
namespace Jvm.Pilot.@@N@@
open Jvm Jvm.ClassFile Sem Op Lib Jvm.Free Jvm.Stand Jvm.LawKit Jvm.RoadKit Bundle Jvm.Pilot.@@N@@.Jvm.D
section OwnKit
variable {p : Program} {l : Launch} {e : Env} {R : Room} {s : State} {m : MethodId} {args : Array Value} {below : List Frame} {meth : Method} {c : Code} {T : State} {locs : List Loc} {cells slots : Nat} {Z : State} {a0 : Array Value} {h h0 : Heap}
/-- the run comes from S to an end of which Q speaks -/
def Gl (p : Program) (e : Env) (below : List Frame) (s : State) (Q : Option Value → Heap → List Loc → Prop) (cc kk : Nat) (S : State) : Prop :=
  ∃ t o, Steps p.tables e below S t ∧ t.status = .running ∧ Ended t below o ∧ ∃ v L, o = .returned v ∧ Q v t.heap L ∧ FrameEnd s o t L cc kk
theorem Gl.pre {Q : Option Value → Heap → List Loc → Prop} {cc kk : Nat} {S S' : State} (st : ∀ t, Steps p.tables e below S' t → Steps p.tables e below S t) (k : Gl p e below s Q cc kk S') : Gl p e below s Q cc kk S := by
  obtain ⟨t, o, h1, h2⟩ := k
  exact ⟨t, o, st _ h1, h2⟩
theorem Gl.ret {Q : Option Value → Heap → List Loc → Prop} {cc kk : Nat} {S : State} (X : Stand p l e R s m args below meth c T locs cells slots) {v : Option Value} (hv : meth.sig.returnType = none → v = none) (hlocks : meth.locks = false) (hQ : Q v T.heap locs) (hc : cells ≤ cc) (hk : slots ≤ kk)
    (st : ∀ fs, (∀ (f : JFrame) (acts : List Action), f.method = m → f.locked = none → f.entered = [] → (doReturn e (T.setTop f) acts v).1 = T.setFrames fs) → Steps p.tables e below S (T.setFrames fs)) : Gl p e below s Q cc kk S := by
  obtain ⟨fs, hr, hrun, hended, hW, hsame⟩ := X.leave (v := v) hv hlocks
  exact ⟨_, _, st fs hr, hrun, hended, _, _, rfl, hQ, ⟨_, rfl⟩, hW, hsame.mono hc hk⟩
theorem Gl.fin {Q : Option Value → Heap → List Loc → Prop} {cc kk : Nat} {S : State} (X : Stand p l e R s m args below meth c T locs cells slots) {v : Option Value} (hv : meth.sig.returnType = none → v = none) (hlocks : meth.locks = false) (hQ : Q v h locs) (eT : T.heap = h) (hc : cells ≤ cc) (hk : slots ≤ kk)
    (st : ∀ fs, (∀ (f : JFrame) (acts : List Action), f.method = m → f.locked = none → f.entered = [] → (doReturn e (T.setTop f) acts v).1 = T.setFrames fs) → Steps p.tables e below S (T.setFrames fs)) : Gl p e below s Q cc kk S :=
  Gl.ret X hv hlocks (by rw [eT]; exact hQ) hc hk st
abbrev OMet (l : Launch) (Z : State) (y : MethodName) (bytes : ByteArray) (maxL : Nat) (ret : Option FieldType) (ws : List Jvm.Cond) (rm : Room) (as' : Array Value) (h0 : Heap) (Q : Option Value → Heap → List Loc → Prop) : Prop :=
  MetFree l y (head1 (Jvm.Cond.code y bytes maxL ret :: ws) rm) (fun a U => a = as' ∧ Z.Warmed39 U.vm ∧ U.heap = h0) (fun _ _ _ _ _ => True) (fun _ U o U' => ∃ v L, o = .returned v ∧ Q v U'.heap L ∧ FrameEnd U o U' L rm.cells rm.slots)
theorem own_body {y : MethodName} {bytes : ByteArray} {maxL : Nat} {ret : Option FieldType} {ws : List Jvm.Cond} {rm : Room} {as' : Array Value} {Q : Option Value → Heap → List Loc → Prop} (hx : plainFor y = true)
    (H : ∀ p e s m below meth c s₁, BodyLoose p l y (head1 (Jvm.Cond.code y bytes maxL ret :: ws) rm) bytes maxL ret e s m as' below meth c s₁ → c.maxLocals = maxL → Z.Warmed39 s.vm → s₁.heap = h0 → Gl p e below s Q rm.cells rm.slots (s₁.setTop (entryFrame m as' maxL))) :
    OMet l Z y bytes maxL ret ws rm as' h0 Q := by
  refine MetFree.of_bodySF hx hisR ?_
  intro p e s m args below meth c s₁ Bd hml0 hP hK
  obtain ⟨rfl, hZ, hh⟩ := hP
  exact H p e s m below meth c s₁ Bd hml0 hZ (by rw [← hh, Bd.state]; rfl)
/-- an int is returned -/
theorem own_retI (X : Stand p l e R s m args below meth c T locs cells slots) (hx : p.tables.exec = Jvm.exec) {pc : Nat} {Ls : Array Slot} {z : Int32} {rest : List Value} (hret : meth.sig.returnType = some .int) (hd : decode c.code pc = .ok (.ireturn, 1)) {fs : List Frame}
    (hl : ∀ (f : JFrame) (acts : List Action), f.method = m → f.locked = none → f.entered = [] → (doReturn e (T.setTop f) acts (some (.int z))).1 = T.setFrames fs) : Steps p.tables e below (T.setTop (mkF m pc Ls (.int z :: rest))) (T.setFrames fs) :=
  retOut X hx hret rfl (Or.inl ⟨rfl, Or.inl rfl, z, rfl⟩) hd hl
theorem own_retJ (X : Stand p l e R s m args below meth c T locs cells slots) (hx : p.tables.exec = Jvm.exec) {pc : Nat} {Ls : Array Slot} {z : Int64} {rest : List Value} (hret : meth.sig.returnType = some .long) (hd : decode c.code pc = .ok (.lreturn, 1)) {fs : List Frame}
    (hl : ∀ (f : JFrame) (acts : List Action), f.method = m → f.locked = none → f.entered = [] → (doReturn e (T.setTop f) acts (some (.long z))).1 = T.setFrames fs) : Steps p.tables e below (T.setTop (mkF m pc Ls (.long z :: rest))) (T.setFrames fs) :=
  retOut X hx hret rfl (Or.inr (Or.inl ⟨rfl, rfl, z, rfl⟩)) hd hl
theorem own_retD (X : Stand p l e R s m args below meth c T locs cells slots) (hx : p.tables.exec = Jvm.exec) {pc : Nat} {Ls : Array Slot} {z : UInt64} {rest : List Value} (hret : meth.sig.returnType = some .double) (hd : decode c.code pc = .ok (.dreturn, 1)) {fs : List Frame}
    (hl : ∀ (f : JFrame) (acts : List Action), f.method = m → f.locked = none → f.entered = [] → (doReturn e (T.setTop f) acts (some (.double z))).1 = T.setFrames fs) : Steps p.tables e below (T.setTop (mkF m pc Ls (.double z :: rest))) (T.setFrames fs) :=
  retOut X hx hret rfl (Or.inr (Or.inr (Or.inl ⟨rfl, rfl, z, rfl⟩))) hd hl
theorem own_retR (X : Stand p l e R s m args below meth c T locs cells slots) (hx : p.tables.exec = Jvm.exec) {pc : Nat} {Ls : Array Slot} {w : Value} {t : FieldType} {rest : List Value} (hret : meth.sig.returnType = some t) (ht : t.isReference = true) (hn : narrow t w = w) (hw : w.isRef = true) (hd : decode c.code pc = .ok (.areturn, 1)) {fs : List Frame}
    (hl : ∀ (f : JFrame) (acts : List Action), f.method = m → f.locked = none → f.entered = [] → (doReturn e (T.setTop f) acts (some w)).1 = T.setFrames fs) : Steps p.tables e below (T.setTop (mkF m pc Ls (w :: rest))) (T.setFrames fs) :=
  retOut X hx hret hn (Or.inr (Or.inr (Or.inr (Or.inr ⟨rfl, ht, hw⟩)))) hd hl
/-- a static method by its contract -/
theorem own_callS (X : Stand p l e R s m args below meth c T locs cells slots) (hx : p.tables.exec = Jvm.exec) (hZ : Z.Warmed39 s.vm) {own : String} {index : Nat} {y : MethodName} {bytes : ByteArray} {maxL : Nat} {ret : Option FieldType} {rm : Room} {Q : Option Value → Heap → List Loc → Prop}
    (hown : s.vm.findClass own = some m.cls) (w1 : (Jvm.Cond.methodLink own index y).before a0 Z = true) (w2 : (Jvm.Cond.static y).before a0 Z = true) (w3 : (Jvm.Cond.initialized y.cls).before a0 Z = true) (w4 : (Jvm.Cond.code y bytes maxL ret).before a0 Z = true)
    (hy : y.cls ≠ "java/lang/invoke/MethodHandle" ∧ y.cls ≠ "java/lang/invoke/VarHandle") {argsL rest : List Value} (hM : OMet l Z y bytes maxL ret [] rm argsL.toArray h Q) {W : Nat} (hf : rm.frames + 1 ≤ R.frames) (hl : W + (maxL + 11) + rm.locals ≤ R.locals) (hc : cells + rm.cells ≤ R.cells) (hs : slots + rm.slots ≤ R.slots)
    (eT : T.heap = h) {pc : Nat} {Ls : Array Slot} (hsize : Ls.size = c.maxLocals) (hlen : ∀ sig, parseMethodDescriptor y.desc = some sig → argsL.length = sig.parameters.length) (hW : (rest.map fun v => v.category).sum ≤ W) (hd : decode c.code pc = .ok (.invokestatic index, 3)) :
    ∃ (v : Option Value) (T' : State) (L : List Loc), Stand p l e R s m args below meth c T' (locs ++ L) (cells + rm.cells) (slots + rm.slots) ∧ Q v T'.heap L ∧
      ∀ t, Steps p.tables e below (T'.setTop (mkF m (pc + 3) Ls (v.toList ++ rest))) t → Steps p.tables e below (T.setTop (mkF m pc Ls (argsL.reverse ++ rest))) t := by
  obtain ⟨v, _, ⟨T', L', k', n'⟩, -, X', ⟨L, hQ, hl', hy', hz'⟩, st⟩ := Jvm.LawKit.callS X hx (y := y) hown (mvT hZ w1) (mvT hZ w2) (mvT hZ w3) (mvT hZ w4) hy (backOf (W := W) hM hZ w4 w3 hf hl) (g := mkF m pc Ls (argsL.reverse ++ rest)) rfl hsize (argsL := argsL) (rest := rest) hlen rfl (by show 2 * 0 + _ ≤ _; omega) hd (fun _ _ => ⟨rfl, eT, hc, hs⟩)
  dsimp only [Pt.U, Pt.locs, Pt.cells, Pt.slots] at X' hl' hy' hz' st hQ
  subst hl' hy' hz'
  exact ⟨v, T', L, X', hQ, st⟩
/-- a constructor by its contract -/
theorem own_callI (X : Stand p l e R s m args below meth c T locs cells slots) (hx : p.tables.exec = Jvm.exec) (hZ : Z.Warmed39 s.vm) {own : String} {index : Nat} {y : MethodName} {bytes : ByteArray} {maxL : Nat} {rm : Room} {Q : Option Value → Heap → List Loc → Prop} (hy1 : y.name = "<init>")
    (hown : s.vm.findClass own = some m.cls) (w1 : (Jvm.Cond.methodLink own index y).before a0 Z = true) (w2 : (Jvm.Cond.instanceMethod y).before a0 Z = true) (w3 : (Jvm.Cond.initialized y.cls).before a0 Z = true) (w4 : (Jvm.Cond.code y bytes maxL none).before a0 Z = true)
    (hy : y.cls ≠ "java/lang/invoke/MethodHandle" ∧ y.cls ≠ "java/lang/invoke/VarHandle") {a : Addr} {argsL rest : List Value} (hM : OMet l Z y bytes maxL none [] rm (.ref a :: argsL).toArray h Q) {W : Nat} (hf : rm.frames + 1 ≤ R.frames) (hl : W + (maxL + 11) + rm.locals ≤ R.locals) (hc : cells + rm.cells ≤ R.cells) (hs : slots + rm.slots ≤ R.slots)
    (eT : T.heap = h) {pc : Nat} {Ls : Array Slot} (hsize : Ls.size = c.maxLocals) (hlen : ∀ sig, parseMethodDescriptor y.desc = some sig → argsL.length = sig.parameters.length) (hW : (rest.map fun v => v.category).sum ≤ W) (hd : decode c.code pc = .ok (.invokespecial index, 3)) :
    ∃ (v : Option Value) (T' : State) (L : List Loc), Stand p l e R s m args below meth c T' (locs ++ L) (cells + rm.cells) (slots + rm.slots) ∧ Q v T'.heap L ∧
      ∀ t, Steps p.tables e below (T'.setTop (mkF m (pc + 3) Ls (v.toList ++ rest))) t → Steps p.tables e below (T.setTop (mkF m pc Ls (argsL.reverse ++ .ref a :: rest))) t := by
  obtain ⟨v, _, ⟨T', L', k', n'⟩, -, X', ⟨L, hQ, hl', hy', hz'⟩, st⟩ := X.specialBack hx (y := y) hy1 hown (mvT hZ w1) (mvT hZ w2) (mvT hZ w4) hy (backOf (W := W) hM hZ w4 w3 hf hl) (g := mkF m pc Ls (argsL.reverse ++ .ref a :: rest)) rfl hsize (Steps.refl _) (a := a) (argsL := argsL) (rest := rest) hlen rfl (by show 2 * 0 + _ ≤ _; omega) hd (fun _ _ => ⟨rfl, eT, hc, hs⟩)
  dsimp only [Pt.U, Pt.locs, Pt.cells, Pt.slots] at X' hl' hy' hz' st hQ
  subst hl' hy' hz'
  exact ⟨v, T', L, X', hQ, fun t k => st.trans k⟩
/-- an instance method by its contract, the receiver's class known -/
theorem own_callV (X : Stand p l e R s m args below meth c T locs cells slots) (hx : p.tables.exec = Jvm.exec) (hZ : Z.Warmed39 s.vm) {own C : String} {index : Nat} {y z : MethodName} {bytes : ByteArray} {maxL : Nat} {ret : Option FieldType} {rm : Room} {Q : Option Value → Heap → List Loc → Prop}
    (hown : s.vm.findClass own = some m.cls) (w1 : (Jvm.Cond.methodLink own index y).before a0 Z = true) (wd : (Jvm.Cond.declares y).before a0 Z = true) (hnf : NotFace s y) (ws : (Jvm.Cond.selects C y z).before a0 Z = true) (w2 : (Jvm.Cond.instanceMethod z).before a0 Z = true) (w3 : (Jvm.Cond.initialized z.cls).before a0 Z = true) (w4 : (Jvm.Cond.code z bytes maxL ret).before a0 Z = true)
    (hy : y.cls ≠ "java/lang/invoke/MethodHandle" ∧ y.cls ≠ "java/lang/invoke/VarHandle") {a : Addr} (E : Exa Z h a C) {argsL rest : List Value} (hM : OMet l Z z bytes maxL ret [] rm (.ref a :: argsL).toArray h Q) {W : Nat} (hf : rm.frames + 1 ≤ R.frames) (hl : W + (maxL + 11) + rm.locals ≤ R.locals) (hc : cells + rm.cells ≤ R.cells) (hs : slots + rm.slots ≤ R.slots)
    (eT : T.heap = h) {pc : Nat} {Ls : Array Slot} (hsize : Ls.size = c.maxLocals) (hlen : ∀ sig, parseMethodDescriptor y.desc = some sig → argsL.length = sig.parameters.length) (hW : (rest.map fun v => v.category).sum ≤ W) (hd : decode c.code pc = .ok (.invokevirtual index, 3)) :
    ∃ (v : Option Value) (T' : State) (L : List Loc), Stand p l e R s m args below meth c T' (locs ++ L) (cells + rm.cells) (slots + rm.slots) ∧ Q v T'.heap L ∧
      ∀ t, Steps p.tables e below (T'.setTop (mkF m (pc + 3) Ls (v.toList ++ rest))) t → Steps p.tables e below (T.setTop (mkF m pc Ls (argsL.reverse ++ .ref a :: rest))) t := by
  obtain ⟨cB, kB, q1, q2, q3⟩ := isOf hZ eT E
  obtain ⟨v, _, ⟨T', L', k', n'⟩, -, X', ⟨L, hQ, hl', hy', hz'⟩, st⟩ := X.virtualBack hx (y := y) (z := z) hown (mvT hZ w1) (mvT hZ wd) hnf (mvT hZ ws) (mvT hZ w2) hy (backOf (W := W) hM hZ w4 w3 hf hl) q1 q3 (g := mkF m pc Ls (argsL.reverse ++ .ref a :: rest)) rfl hsize (Steps.refl _) (argsL := argsL) (rest := rest) hlen rfl (by show 2 * 0 + _ ≤ _; omega) hd (fun _ _ => ⟨rfl, eT, hc, hs⟩)
  dsimp only [Pt.U, Pt.locs, Pt.cells, Pt.slots] at X' hl' hy' hz' st hQ
  subst hl' hy' hz'
  exact ⟨v, T', L, X', hQ, fun t k => st.trans k⟩
/-- an inherited instance method: the link names a class that doesn't declare it -/
theorem own_callU (X : Stand p l e R s m args below meth c T locs cells slots) (hx : p.tables.exec = Jvm.exec) (hZ : Z.Warmed39 s.vm) {own C owner : String} {index : Nat} {y z : MethodName} {bytes : ByteArray} {maxL : Nat} {ret : Option FieldType} {rm : Room} {Q : Option Value → Heap → List Loc → Prop}
    (hown : s.vm.findClass own = some m.cls) (w1 : (Jvm.Cond.methodLink own index y).before a0 Z = true) (wm : (Jvm.Cond.sameMethod y.cls owner y.name y.desc).before a0 Z = true) (wd : (Jvm.Cond.declares ⟨owner, y.name, y.desc⟩).before a0 Z = true) (ws : (Jvm.Cond.selects C y z).before a0 Z = true) (w2 : (Jvm.Cond.instanceMethod z).before a0 Z = true) (w3 : (Jvm.Cond.initialized z.cls).before a0 Z = true) (w4 : (Jvm.Cond.code z bytes maxL ret).before a0 Z = true)
    (hy : owner ≠ "java/lang/invoke/MethodHandle" ∧ owner ≠ "java/lang/invoke/VarHandle") {a : Addr} (E : Exa Z h a C) {argsL rest : List Value} (hM : OMet l Z z bytes maxL ret [] rm (.ref a :: argsL).toArray h Q) {W : Nat} (hf : rm.frames + 1 ≤ R.frames) (hl : W + (maxL + 11) + rm.locals ≤ R.locals) (hc : cells + rm.cells ≤ R.cells) (hs : slots + rm.slots ≤ R.slots)
    (eT : T.heap = h) {pc : Nat} {Ls : Array Slot} (hsize : Ls.size = c.maxLocals) (hlen : ∀ sig, parseMethodDescriptor y.desc = some sig → argsL.length = sig.parameters.length) (hW : (rest.map fun v => v.category).sum ≤ W) (hd : decode c.code pc = .ok (.invokevirtual index, 3)) :
    ∃ (v : Option Value) (T' : State) (L : List Loc), Stand p l e R s m args below meth c T' (locs ++ L) (cells + rm.cells) (slots + rm.slots) ∧ Q v T'.heap L ∧
      ∀ t, Steps p.tables e below (T'.setTop (mkF m (pc + 3) Ls (v.toList ++ rest))) t → Steps p.tables e below (T.setTop (mkF m pc Ls (argsL.reverse ++ .ref a :: rest))) t := by
  obtain ⟨cB, kB, q1, q2, q3⟩ := isOf hZ eT E
  obtain ⟨v, _, ⟨T', L', k', n'⟩, -, X', ⟨L, hQ, hl', hy', hz'⟩, st⟩ := X.virtualBackUp hx (x := y) (y := z) (owner := owner) hown (mvT hZ w1) (mvT hZ wm) (mvT hZ wd) hy (mvT hZ ws) (mvT hZ w2) (backOf (W := W) hM hZ w4 w3 hf hl) q1 q3 (g := mkF m pc Ls (argsL.reverse ++ .ref a :: rest)) rfl hsize (Steps.refl _) (argsL := argsL) (rest := rest) hlen rfl (by show 2 * 0 + _ ≤ _; omega) hd (fun _ _ => ⟨rfl, eT, hc, hs⟩)
  dsimp only [Pt.U, Pt.locs, Pt.cells, Pt.slots] at X' hl' hy' hz' st hQ
  subst hl' hy' hz'
  exact ⟨v, T', L, X', hQ, fun t k => st.trans k⟩
/-- an interface's method by the contract of the body that the receiver's class selects -/
theorem own_callF (X : Stand p l e R s m args below meth c T locs cells slots) (hx : p.tables.exec = Jvm.exec) (hZ : Z.Warmed39 s.vm) {own C : String} {index count : Nat} {y z : MethodName} {bytes : ByteArray} {maxL : Nat} {ret : Option FieldType} {rm : Room} {Q : Option Value → Heap → List Loc → Prop}
    (hown : s.vm.findClass own = some m.cls) (w1 : (Jvm.Cond.methodLink own index y).before a0 Z = true) (wd : (Jvm.Cond.declares y).before a0 Z = true) (wf : (Jvm.Cond.interfaceMethod y.cls y.cls y.name y.desc).before args s = true) (ws : (Jvm.Cond.selects C y z).before a0 Z = true) (w2 : (Jvm.Cond.instanceMethod z).before a0 Z = true) (wp : (Jvm.Cond.publicMethod z).before a0 Z = true) (wu : (Jvm.Cond.unhidden C y.name y.desc).before a0 Z = true) (wc : (Jvm.Cond.castable C y.cls).before a0 Z = true) (w3 : (Jvm.Cond.initialized z.cls).before a0 Z = true) (w4 : (Jvm.Cond.code z bytes maxL ret).before a0 Z = true)
    (hy : y.cls ≠ "java/lang/invoke/MethodHandle" ∧ y.cls ≠ "java/lang/invoke/VarHandle") {a : Addr} (E : Exa Z h a C) {argsL rest : List Value} (hM : OMet l Z z bytes maxL ret [] rm (.ref a :: argsL).toArray h Q) {W : Nat} (hf : rm.frames + 1 ≤ R.frames) (hl : W + (maxL + 11) + rm.locals ≤ R.locals) (hc : cells + rm.cells ≤ R.cells) (hs : slots + rm.slots ≤ R.slots)
    (eT : T.heap = h) {pc : Nat} {Ls : Array Slot} (hsize : Ls.size = c.maxLocals) (hlen : ∀ sig, parseMethodDescriptor y.desc = some sig → argsL.length = sig.parameters.length) (hW : (rest.map fun v => v.category).sum ≤ W) (hd : decode c.code pc = .ok (.invokeinterface index count, 5)) :
    ∃ (v : Option Value) (T' : State) (L : List Loc), Stand p l e R s m args below meth c T' (locs ++ L) (cells + rm.cells) (slots + rm.slots) ∧ Q v T'.heap L ∧
      ∀ t, Steps p.tables e below (T'.setTop (mkF m (pc + 5) Ls (v.toList ++ rest))) t → Steps p.tables e below (T.setTop (mkF m pc Ls (argsL.reverse ++ .ref a :: rest))) t := by
  obtain ⟨cB, kB, q1, q2, q3⟩ := isOf hZ eT E
  obtain ⟨v, _, ⟨T', L', k', n'⟩, -, X', ⟨L, hQ, hl', hy', hz'⟩, st⟩ := X.interfaceBack hx (xi := y) (y := z) hown (mvT hZ w1) (mvT hZ wd) wf (mvT hZ ws) (mvT hZ w2) (mvT hZ wp) (mvT hZ wu) (mvT hZ wc) hy (backOf (W := W) hM hZ w4 w3 hf hl) q1 q2 q3 (g := mkF m pc Ls (argsL.reverse ++ .ref a :: rest)) rfl hsize (Steps.refl _) (argsL := argsL) (rest := rest) hlen rfl (by show 2 * 0 + _ ≤ _; omega) hd (fun _ _ => ⟨rfl, eT, hc, hs⟩)
  dsimp only [Pt.U, Pt.locs, Pt.cells, Pt.slots] at X' hl' hy' hz' st hQ
  subst hl' hy' hz'
  exact ⟨v, T', L, X', hQ, fun t k => st.trans k⟩
theorem own_hc {T : State} {h : Heap} {a : Addr} {cl : Cell} (q : T.heap = h) (r : h[a]? = some cl) : T.heap[a]? = some cl := by rw [q]; exact r
/-- what a Bool is as Java's int -/
def b2i (b : Bool) : Int32 := if b then 1 else 0
theorem b2i_t {b : Bool} (h : b = true) : b2i b = 1 := by simp [b2i, h]
theorem b2i_f {b : Bool} (h : b = false) : b2i b = 0 := by simp [b2i, h]
theorem b2i_inj {a b : Bool} : b2i a = b2i b ↔ a = b := by cases a <;> cases b <;> decide
/-- the branches' conditions in plain words -/
theorem ic_lt (x y : Int32) : if_icmp.holds .lt x y = decide (x < y) := by by_cases q : x < y <;> simp [q, tlt, flt]
theorem ic_ge (x y : Int32) : if_icmp.holds .ge x y = !decide (x < y) := by by_cases q : x < y <;> simp [q, tlt, flt]
theorem ic_gt (x y : Int32) : if_icmp.holds .gt x y = decide (y < x) := by by_cases q : y < x <;> simp [q, tlt, flt]
theorem ic_le (x y : Int32) : if_icmp.holds .le x y = !decide (y < x) := by by_cases q : y < x <;> simp [q, tlt, flt]
theorem ic_eq (x y : Int32) : if_icmp.holds .eq x y = decide (x = y) := by by_cases q : x = y <;> simp [q, teq, feq]
theorem ic_ne (x y : Int32) : if_icmp.holds .ne x y = !decide (x = y) := by by_cases q : x = y <;> simp [q, teq, feq]
theorem i0_lt (x : Int32) : ifCond.holds .lt x = decide (x < 0) := (if0 _ _).trans (ic_lt x 0)
theorem i0_ge (x : Int32) : ifCond.holds .ge x = !decide (x < 0) := (if0 _ _).trans (ic_ge x 0)
theorem i0_gt (x : Int32) : ifCond.holds .gt x = decide (0 < x) := (if0 _ _).trans (ic_gt x 0)
theorem i0_le (x : Int32) : ifCond.holds .le x = !decide (0 < x) := (if0 _ _).trans (ic_le x 0)
theorem i0_eq (x : Int32) : ifCond.holds .eq x = decide (x = 0) := (if0 _ _).trans (ic_eq x 0)
theorem i0_ne (x : Int32) : ifCond.holds .ne x = !decide (x = 0) := (if0 _ _).trans (ic_ne x 0)
theorem lw_lt (x y : Int64) : lcmpW x y < 0 ↔ x < y := by rw [lcW]; exact Jvm.RoadKit.lc_lt x y
theorem lw_gt (x y : Int64) : 0 < lcmpW x y ↔ y < x := by rw [lcW]; exact Jvm.RoadKit.lc_gt x y
theorem lw_eq (x y : Int64) : lcmpW x y = 0 ↔ x = y := by rw [lcW]; exact Jvm.RoadKit.lc_eq x y
theorem l0_lt (x y : Int64) : ifCond.holds .lt (lcmpW x y) = decide (x < y) := (i0_lt _).trans (by simp [lw_lt])
theorem l0_ge (x y : Int64) : ifCond.holds .ge (lcmpW x y) = !decide (x < y) := (i0_ge _).trans (by simp [lw_lt])
theorem l0_gt (x y : Int64) : ifCond.holds .gt (lcmpW x y) = decide (y < x) := (i0_gt _).trans (by simp [lw_gt])
theorem l0_le (x y : Int64) : ifCond.holds .le (lcmpW x y) = !decide (y < x) := (i0_le _).trans (by simp [lw_gt])
theorem l0_eq (x y : Int64) : ifCond.holds .eq (lcmpW x y) = decide (x = y) := (i0_eq _).trans (by simp [lw_eq])
theorem l0_ne (x y : Int64) : ifCond.holds .ne (lcmpW x y) = !decide (x = y) := (i0_ne _).trans (by simp [lw_eq])
theorem b0_eq (b : Bool) : ifCond.holds .eq (b2i b) = !b := by cases b <;> decide
theorem b0_ne (b : Bool) : ifCond.holds .ne (b2i b) = b := by cases b <;> decide
theorem own_t {P : Prop} [Decidable P] {u : Bool} (q : u = decide P) (hp : P) : u = true := by rw [q]; exact decide_eq_true hp
theorem own_f {P : Prop} [Decidable P] {u : Bool} (q : u = decide P) (hp : ¬ P) : u = false := by rw [q]; exact decide_eq_false hp
theorem own_nt {P : Prop} [Decidable P] {u : Bool} (q : u = !decide P) (hp : ¬ P) : u = true := by rw [q]; simp [hp]
theorem own_nf {P : Prop} [Decidable P] {u : Bool} (q : u = !decide P) (hp : P) : u = false := by rw [q]; simp [hp]
theorem own_bt {u b : Bool} (q : u = b) (hp : b = true) : u = true := q.trans hp
theorem own_bf {u b : Bool} (q : u = b) (hp : b = false) : u = false := q.trans hp
theorem own_nbt {u b : Bool} (q : u = !b) (hp : b = false) : u = true := by rw [q, hp]; rfl
theorem own_nbf {u b : Bool} (q : u = !b) (hp : b = true) : u = false := by rw [q, hp]; rfl
theorem own_retN (X : Stand p l e R s m args below meth c T locs cells slots) (hx : p.tables.exec = Jvm.exec) {pc : Nat} {Ls : Array Slot} {z z' : Int32} {t : FieldType} {rest : List Value} (hret : meth.sig.returnType = some t) (ht : t = .boolean ∨ t = .byte ∨ t = .char ∨ t = .short) (hn : nar t z = z')
    (hd : decode c.code pc = .ok (.ireturn, 1)) {fs : List Frame} (hl : ∀ (f : JFrame) (acts : List Action), f.method = m → f.locked = none → f.entered = [] → (doReturn e (T.setTop f) acts (some (.int z'))).1 = T.setFrames fs) :
    Steps p.tables e below (T.setTop (mkF m pc Ls (.int z :: rest))) (T.setFrames fs) := by
  subst hn
  exact retN X hx hret ht hd hl
theorem own_nar_b2i (b : Bool) : nar .boolean (b2i b) = b2i b := by cases b <;> decide
theorem own_narrow_b2i (b : Bool) : narrow .boolean (.int (b2i b)) = .int (b2i b) := by cases b <;> rfl
theorem own_fits_b2i (b : Bool) : fits .boolean (.int (b2i b)) = true := by cases b <;> rfl
theorem own_nar_i2b (x : Int32) : nar .byte x.toInt8.toInt32 = x.toInt8.toInt32 := by simp [nar]
theorem own_lrem (x y : Int64) : x - x / y * y = x % y := by
  apply Int64.toInt_inj.mp
  have h1 := Int64.le_toInt (x % y)
  have h2 := Int64.toInt_lt (x % y)
  have e : x.toInt - y.toInt * x.toInt.tdiv y.toInt = x.toInt.tmod y.toInt := (Int.tmod_def _ _).symm
  rw [Int64.toInt_sub, Int64.toInt_mul, Int64.toInt_div, Int.bmod_mul_bmod, Int.sub_bmod_bmod, Int.mul_comm (x.toInt.tdiv y.toInt), e, ← Int64.toInt_mod]
  exact Int.bmod_eq_of_le_mul_two (by omega) (by omega)
/-- getfield by an entry that is resolved already -/
theorem own_getFR (X : Stand p l e R s m args below meth c T locs cells slots) (hx : p.tables.exec = Jvm.exec) (hZ : Z.Warmed39 s.vm) {own O n d : String} {index : Nat} (hown : s.vm.findClass own = some m.cls) (w : (Jvm.Cond.fieldRef own index O n d).before a0 Z = true)
    (eT : T.heap = h) {a : Addr} {v : Value} (F : Fld Z h a O n d v) {g : JFrame} (hg : g.method = m) {rest : List Value} (hs : g.stack = .ref a :: rest) (hd : decode c.code g.pc = .ok (.getfield index, 3)) : ∃ T', Stand p l e R s m args below meth c T' locs cells slots ∧ T'.heap = h ∧ ∀ target, Steps p.tables e below (T'.setTop { g with pc := g.pc + 3, stack := v :: rest }) target → Steps p.tables e below (T.setTop g) target := by
  have hZT : Z.Warmed39 T.vm := wtrans hZ X.warmed
  have w' := Cond.fieldRef_warmed39 hZT w
  have hcur : (Z.setVm T.vm).vm.findClass own = some m.cls := (X.warmed.alike.findClass own _).trans hown
  obtain ⟨c', k', i', f', h1, hready⟩ := Cond.fieldRef_spec (s := Z.setVm T.vm) hcur w'
  obtain ⟨cell, cf, k, i, f, g1, g2, g3, g4, -, -, g7⟩ := F
  obtain ⟨k2, hi, -⟩ := State.fieldFound?_setVm (s := Z) hZT.alike g2
  have q := Option.some.inj (h1.symm.trans hi)
  simp only [Prod.mk.injEq] at q
  obtain ⟨rfl, -, -, rfl⟩ := q
  exact ⟨T, X, eT, fun target kt => (X.getfieldR hx hg hready g3 hs (by rw [eT]; exact g1) g4 g7 hd (Steps.refl _)).trans kt⟩
/-- the case's words on statics and fields, at the start -/
theorem own_sx {C n d K : String} (w1 : (Jvm.Cond.initialized C).before args s = true) (w2 : (Jvm.Cond.laysStatic C n d).before args s = true) (q : (Jvm.Cond.exactly (Term.static C n d) K).value args s none s [] = some true) : ∃ a : Addr, (Term.static C n d).eval args s none [] s = some (.ref a) ∧ Sta s s.heap C n d (.ref a) ∧ Exa s s.heap a K := by
  obtain ⟨a, ev⟩ := exa_v q
  exact ⟨a, ev, Sta.start ev (Or.inr ⟨w1, w2⟩), Exa.start ev q⟩
theorem own_fi {t : Term} {a : Addr} {C n d : String} {k : Int32} (ev : t.eval args s none [] s = some (.ref a)) (q : (Jvm.Cond.eq (Term.field t C n d) (Term.int k)).value args s none s [] = some true) : Fld s s.heap a C n d (.int k) := by
  obtain ⟨x, y, h1, h2, h3, h4⟩ := cmp_v (Or.inl q)
  have h5 : y = .int k := (Option.some.inj (h2.symm.trans (Term.int_eval k)) : _)
  subst h5
  obtain ⟨z, rfl⟩ : ∃ z, x = .int z := h4
  have e2 := h1
  rw [fld_at ev] at h1
  simp [Cond.value, e2, h2] at q
  subst q
  exact Fld.start h1
theorem own_fx {t : Term} {a : Addr} {C n d K : String} (ev : t.eval args s none [] s = some (.ref a)) (q : (Jvm.Cond.exactly (Term.field t C n d) K).value args s none s [] = some true) : ∃ b : Addr, (Term.field t C n d).eval args s none [] s = some (.ref b) ∧ Fld s s.heap a C n d (.ref b) ∧ Exa s s.heap b K := by
  obtain ⟨b, ev2⟩ := exa_v q
  exact ⟨b, ev2, Fld.start ((fld_at ev).symm.trans ev2), Exa.start ev2 q⟩
/-- a class that the chain of superclasses doesn't meet: its own word is 'instantiable' -/
theorem own_ns_root {Z : State} {a0 : Array Value} {O K : String} {n : Nat} (w : (Jvm.Cond.noSuperclass O).before a0 Z = true) (wi : (Jvm.Cond.instantiable K n).before a0 Z = true) (hn : O ≠ K) : NS Z O K := by
  obtain ⟨c, k, h1, h2, h3, -, -⟩ := Cond.noSuperclass_spec w
  obtain ⟨t, kt, g1, -⟩ := Cond.instantiable_spec wi
  have ne := ids_ne h1 g1 hn
  refine ⟨c, t, h1, g1, fun fuel => ?_⟩
  cases fuel with
  | zero => rfl
  | succ f => simp [Vm.isSubclassAux, ne, h2, h3]
theorem own_ns_no {Z : State} {a0 : Array Value} {C S K : String} {n : Nat} (w : (Jvm.Cond.superclass C S).before a0 Z = true) (wi : (Jvm.Cond.instantiable K n).before a0 Z = true) (q : NS Z C K) (hn : C ≠ K) : ∃ c t, Z.vm.findClass C = some c ∧ Z.vm.findClass K = some t ∧ Z.vm.assignable c t = false := by
  obtain ⟨c, t, h0, g0, n3⟩ := q
  obtain ⟨p, k, kp, h1, h2, h3, h4, h5, -, h7⟩ := Cond.superclass_spec h0 w
  obtain ⟨t', kt, g1, g2, g3, g4, -, -⟩ := Cond.instantiable_spec wi
  cases g0.symm.trans g1
  have g5 : kt.isInterface = false := by simp only [Bool.or_eq_false_iff] at g4; exact g4.1
  have ne := ids_ne h0 g0 hn
  refine ⟨c, t, h0, g0, ?_⟩
  show Z.vm.assignableAux (255 + 1) c t = false
  simp [Vm.assignableAux, ne, h2, g2, h5, g3, g5, Vm.isSubclass, n3]
/-- a static's cell isn't written by one who writes objects alone -/
theorem own_sta_keep {Z : State} {h h' : Heap} {C n d : String} {v : Value} {ws : List Addr} (F : Sta Z h C n d v) (K : Keep h h' ws) (q : ∀ x ∈ ws, ∃ C', Exa Z h x C') : Sta Z h' C n d v := by
  obtain ⟨cf, i, k, f, st, cell, h1, h2, h3, h4, h5, h6, h7⟩ := F
  refine ⟨cf, i, k, f, st, cell, h1, h2, h3, h4, K.2.1 st cell h5 (fun r => ?_), h6, h7⟩
  obtain ⟨C', c', k', g1, -, -, g4, -⟩ := q st r
  rw [h5] at g1
  cases g1
  rw [h6] at g4
  cases g4
theorem own_ne32 {x y : Int32} (h : x ≠ y) : Value.int x ≠ Value.int y := fun q => h (Value.int.inj q)
end OwnKit
theorem own_nat32 (x : Int32) (h : 0 ≤ x.toInt) : x.toUInt32.toNat = x.toInt.toNat := by
  have e : x.toInt = x.toBitVec.toInt := rfl
  have e2 : x.toUInt32.toNat = x.toBitVec.toNat := rfl
  rw [e2]
  rw [e, BitVec.toInt_eq_toNat_cond] at h ⊢
  have := x.toBitVec.isLt
  split at h <;> split <;> omega
theorem own_andm (x : Int32) (m : Nat) (hm : m < 2147483648) : 0 ≤ (x &&& Int32.ofNat m).toInt ∧ (x &&& Int32.ofNat m).toInt ≤ m := by
  have h : (x &&& Int32.ofNat m).toInt = (x.toBitVec &&& BitVec.ofNat 32 m).toInt := rfl
  rw [h, BitVec.toInt_eq_toNat_cond, BitVec.toNat_and, BitVec.toNat_ofNat]
  have e : m % 2 ^ 32 = m := Nat.mod_eq_of_lt (by omega)
  rw [e]
  have : x.toBitVec.toNat &&& m ≤ m := Nat.and_le_right
  split <;> omega
theorem own_and255 (x : Int32) : 0 ≤ (x &&& 255).toInt ∧ (x &&& 255).toInt ≤ 255 := own_andm x 255 (by decide)
theorem own_i2c (z : Int32) (h : 0 ≤ z.toInt) (h2 : z.toInt < 65536) : z.toUInt32.toUInt16.toUInt32.toInt32 = z := by
  have e : z.toUInt32.toUInt16.toUInt32 = z.toUInt32 := by
    rw [← UInt32.toNat_inj]
    simp only [UInt16.toNat_toUInt32, UInt32.toNat_toUInt16]
    have := own_nat32 z h
    omega
  rw [e]
  rfl
theorem own_c255 (x : Int32) : (x &&& 255).toUInt32.toUInt16.toUInt32.toInt32 = x &&& 255 := own_i2c _ (own_and255 x).1 (by have := (own_and255 x).2; omega)
theorem own_n255 (x : Int32) : ¬ 255 < (x &&& 255) := by
  rw [Int32.lt_iff_toInt_lt]
  have := (own_and255 x).2
  have e : (255 : Int32).toInt = 255 := by decide
  omega
theorem own_tri {x : Int64} (h1 : ¬ (0 : Int64) < x) (h2 : ¬ x = 0) : x < 0 := by
  rw [Int64.lt_iff_toInt_lt] at *
  have h3 : x.toInt ≠ (0 : Int64).toInt := fun q => h2 (Int64.toInt_inj.mp q)
  omega
theorem own_nlt {x : Int64} (h1 : (0 : Int64) < x) : ¬ x < 0 := by
  rw [Int64.lt_iff_toInt_lt] at *
  omega
theorem pn_java_lang_StringLatin1 : plainName "java/lang/StringLatin1" = true := by first | (simp [plainName, overriddenIn]; done) | decide +kernel
theorem ef_rm2 (m : MethodId) (x0 : Int32) : entryFrame m #[(.int x0)] 1 = mkF m 0 #[.val (.int x0)] [] := by first | (simp [entryFrame, mkF, argsToLocals, Value.category]; done) | rfl
theorem d2_0 : decode jdk_43_method_3_code 0 = .ok (.iload_n 0, 1) := by decide +kernel
theorem d2_1 : decode jdk_43_method_3_code 1 = .ok (.sipush 255, 3) := by decide +kernel
theorem d2_4 : decode jdk_43_method_3_code 4 = .ok (.if_icmp .gt 7, 3) := by decide +kernel
theorem d2_11 : decode jdk_43_method_3_code 11 = .ok (.iconst 0, 1) := by decide +kernel
theorem d2_12 : decode jdk_43_method_3_code 12 = .ok (.ireturn, 1) := by decide +kernel
theorem d2_7 : decode jdk_43_method_3_code 7 = .ok (.iconst 1, 1) := by decide +kernel
theorem d2_8 : decode jdk_43_method_3_code 8 = .ok (.goto 4, 3) := by decide +kernel
def Q2 (Z : State) (p1 : Int32) (h0 : Heap) (n0 : Nat) (v : Option Value) (h : Heap) (L : List Loc) : Prop := v = some (.int (b2i (decide (¬ (255 : Int32) < p1)))) ∧ Fr n0 L ∧ h = h0
set_option maxRecDepth 65536 in
set_option maxHeartbeats 40000000 in
theorem rm2 (l : Launch) (Z : State) (a0 : Array Value) (hw : ∀ d ∈ tables_1, d.before a0 Z = true) (ws : List Jvm.Cond) (p1 : Int32) (h0 : Heap) (n0 : Nat) (Z0 : n0 ≤ h0.size) :
    OMet l Z (⟨"java/lang/StringLatin1", "canEncode", "(C)Z"⟩ : MethodName) jdk_43_method_3_code 1 (some .boolean) ws ({ frames := 0, cells := 0, slots := 0, locals := 0 } : Room) #[(.int p1)] h0 (Q2 Z p1 h0 n0) := by
  refine own_body (plainFor_of_name pn_java_lang_StringLatin1) ?_
  intro p e s m below meth c s₁ Bd hml0 hZ e0
  have hx := Bd.exec
  have hby := Bd.bytes
  have hml : c.maxLocals = 1 := hml0
  have hown : s.vm.findClass "java/lang/StringLatin1" = some m.cls := findClass_of_methodNamed Bd.named
  have hnm := (name_of_methodNamed Bd.named Bd.method).1
  have X0 : Stand p l e ({ frames := 0, cells := 0, slots := 0, locals := 0 } : Room) s m #[(.int p1)] below meth c s₁ [] 0 0 := Stand.of_body Bd
  have N0 := Fr.nil n0
  have K0 : Keep h0 h0 [] := Keep.refl _ _
  rw [ef_rm2]
  refine Gl.pre (S' := s₁.setTop (mkF m 4 #[.val (.int p1)] [(.int (255 : Int32)), (.int p1)])) (fun t kt => ?_) ?_
  · show Steps p.tables e below (s₁.setTop (mkF m 0 #[.val (.int p1)] [])) _
    refine XS.iloadN X0.here hx rfl (hb hby d2_0) rfl ?_
    show Steps p.tables e below (s₁.setTop (mkF m 1 #[.val (.int p1)] [(.int p1)])) _
    refine XS.sipush X0.here hx rfl (hb hby d2_1) ?_
    exact kt
  by_cases hc4 : (255 : Int32) < p1
  · refine Gl.fin X0 (v := some (.int (0 : Int32))) (fun h => by rw [Bd.returns] at h; cases h) Bd.notSynchronized ?_ e0 (by decide) (by decide) (fun fs hr => ?_)
    · exact ⟨by simp [b2i, hc4], N0, rfl⟩
    · show Steps p.tables e below (s₁.setTop (mkF m 4 #[.val (.int p1)] [(.int (255 : Int32)), (.int p1)])) _
      refine XS.icmpYes X0.here hx rfl (pc0 := 4) (pc' := 11) rfl (hb hby d2_4) rfl (own_t (ic_gt _ _) hc4) (by decide) (by decide) ?_
      show Steps p.tables e below (s₁.setTop (mkF m 11 #[.val (.int p1)] [])) _
      refine XS.iconst X0.here hx rfl (hb hby d2_11) ?_
      show Steps p.tables e below (s₁.setTop (mkF m 12 #[.val (.int p1)] [(.int (0 : Int32))])) _
      exact retN X0 hx (t := .boolean) Bd.returns (by simp) (hb hby d2_12) hr
  · refine Gl.fin X0 (v := some (.int (1 : Int32))) (fun h => by rw [Bd.returns] at h; cases h) Bd.notSynchronized ?_ e0 (by decide) (by decide) (fun fs hr => ?_)
    · exact ⟨by simp [b2i, hc4], N0, rfl⟩
    · show Steps p.tables e below (s₁.setTop (mkF m 4 #[.val (.int p1)] [(.int (255 : Int32)), (.int p1)])) _
      refine XS.icmpNo X0.here hx rfl (hb hby d2_4) rfl (own_f (ic_gt _ _) hc4) ?_
      show Steps p.tables e below (s₁.setTop (mkF m 7 #[.val (.int p1)] [])) _
      refine XS.iconst X0.here hx rfl (hb hby d2_7) ?_
      show Steps p.tables e below (s₁.setTop (mkF m 8 #[.val (.int p1)] [(.int (1 : Int32))])) _
      refine XS.goto X0.here hx rfl (pc0 := 8) (pc' := 12) rfl (hb hby d2_8) (by decide) (by decide) ?_
      show Steps p.tables e below (s₁.setTop (mkF m 12 #[.val (.int p1)] [(.int (1 : Int32))])) _
      exact retN X0 hx (t := .boolean) Bd.returns (by simp) (hb hby d2_12) hr
theorem ef_rm3 (m : MethodId) (x0 : Int32) : entryFrame m #[(.int x0)] 1 = mkF m 0 #[.val (.int x0)] [] := by first | (simp [entryFrame, mkF, argsToLocals, Value.category]; done) | rfl
theorem d3_0 : decode jdk_43_method_46_code 0 = .ok (.iconst 1, 1) := by decide +kernel
theorem d3_1 : decode jdk_43_method_46_code 1 = .ok (.newarray .byte, 2) := by decide +kernel
theorem d3_3 : decode jdk_43_method_46_code 3 = .ok (.dup, 1) := by decide +kernel
theorem d3_4 : decode jdk_43_method_46_code 4 = .ok (.iconst 0, 1) := by decide +kernel
theorem d3_5 : decode jdk_43_method_46_code 5 = .ok (.iload_n 0, 1) := by decide +kernel
theorem d3_6 : decode jdk_43_method_46_code 6 = .ok (.i2b, 1) := by decide +kernel
theorem d3_7 : decode jdk_43_method_46_code 7 = .ok (.bastore, 1) := by decide +kernel
theorem d3_8 : decode jdk_43_method_46_code 8 = .ok (.areturn, 1) := by decide +kernel
def Q3 (Z : State) (p1 : Int32) (h0 : Heap) (n0 : Nat) (v : Option Value) (h : Heap) (L : List Loc) : Prop := ∃ (r : Addr) (k : ClassId), h0.size ≤ r ∧ v = some (.ref r) ∧ Fr n0 L ∧ Keep h0 h [] ∧ Arv Z h r k .byte (1 : Int32) [(.int p1.toInt8.toInt32)] (.int (0 : Int32))
set_option maxRecDepth 65536 in
set_option maxHeartbeats 40000000 in
theorem rm3 (l : Launch) (Z : State) (a0 : Array Value) (hw : ∀ d ∈ tables_1, d.before a0 Z = true) (ws : List Jvm.Cond) (p1 : Int32) (h0 : Heap) (n0 : Nat) (Z0 : n0 ≤ h0.size) :
    OMet l Z (⟨"java/lang/StringLatin1", "toBytes", "(C)[B"⟩ : MethodName) jdk_43_method_46_code 1 (some (.array .byte)) ws ({ frames := 0, cells := 1, slots := 1, locals := 0 } : Room) #[(.int p1)] h0 (Q3 Z p1 h0 n0) := by
  refine own_body (plainFor_of_name pn_java_lang_StringLatin1) ?_
  intro p e s m below meth c s₁ Bd hml0 hZ e0
  have hx := Bd.exec
  have hby := Bd.bytes
  have hml : c.maxLocals = 1 := hml0
  have hown : s.vm.findClass "java/lang/StringLatin1" = some m.cls := findClass_of_methodNamed Bd.named
  have hnm := (name_of_methodNamed Bd.named Bd.method).1
  have X0 : Stand p l e ({ frames := 0, cells := 1, slots := 1, locals := 0 } : Room) s m #[(.int p1)] below meth c s₁ [] 0 0 := Stand.of_body Bd
  have N0 := Fr.nil n0
  have K0 : Keep h0 h0 [] := Keep.refl _ _
  rw [ef_rm3]
  obtain ⟨T101, h101, k101, X101, e101, E101, A101, st101⟩ := newP X0 hx hZ (hw _ (List.mem_of_getElem? (i := 14) rfl)) e0 (g := (mkF m 1 #[.val (.int p1)] [(.int (1 : Int32))])) rfl (hb hby d3_1) rfl (by decide) (cap := 1) (by decide) (by decide) (by decide) (by decide)
  obtain ⟨b101, g101⟩ : ∃ z, z = h0.size := ⟨_, rfl⟩
  have g_b101 : n0 ≤ b101 := Nat.le_trans Z0 (Nat.le_of_eq g101.symm)
  have sz_b101 : h0.size ≤ b101 := Nat.le_trans K0.1 (Nat.le_of_eq g101.symm)
  rw [← g101] at A101 st101
  have K101 : Keep h0 h101 [] := K0.ext E101
  have V_b101 : Arv Z h101 b101 k101 .byte (1 : Int32) [(.int (0 : Int32))] (.int (0 : Int32)) := (Arv.new A101 (by decide)).pad (pad_rep [] (.int (0 : Int32)) 1)
  obtain ⟨cl102, Ar102, qa102, Sa102, Na102, Ha102, Ga102⟩ := id V_b101
  have hin102 : ¬ ((0 : Int32) < 0 ∨ cl102.slots.size ≤ ((0 : Int32)).toNatClampNeg) := inb_of Sa102 ⟨by decide, by decide⟩
  obtain ⟨T102, h102, X102, e102, W102, st102⟩ := stB X101 hx hZ e101 Ar102 (j := (0 : Int32)) hin102 (g := (mkF m 7 #[.val (.int p1)] [(.int (p1.toInt8.toInt32)), (.int (0 : Int32)), (.ref b101), (.ref b101)])) rfl rfl (hb hby d3_7)
  have V_b101_102 := Arv.set Ar102 qa102 Sa102 Na102 Ha102 Ga102 (fits_nar_byte _) W102 0 rfl (Nat.le_of_ble_eq_true rfl)
  have V102 : Arv Z h102 b101 k101 .byte (1 : Int32) [(.int (nar .byte (p1.toInt8.toInt32)))] (.int (0 : Int32)) := V_b101_102
  rw [(own_nar_i2b _ : nar .byte (p1.toInt8.toInt32) = (p1.toInt8.toInt32))] at V102
  have K102 : Keep h0 h102 [] := K101.wr W102 (Or.inr sz_b101)
  have N102 := Fr.snoc X102 N0 g_b101
  refine Gl.fin X102 (v := some (.ref b101)) (fun h => by rw [Bd.returns] at h; cases h) Bd.notSynchronized ?_ e102 (by decide) (by decide) (fun fs hr => ?_)
  · exact ⟨_, _, sz_b101, rfl, N102, K102, V102⟩
  · show Steps p.tables e below (s₁.setTop (mkF m 0 #[.val (.int p1)] [])) _
    refine XS.iconst X0.here hx rfl (hb hby d3_0) ?_
    show Steps p.tables e below (s₁.setTop (mkF m 1 #[.val (.int p1)] [(.int (1 : Int32))])) _
    refine st101 _ ?_
    show Steps p.tables e below (T101.setTop (mkF m 3 #[.val (.int p1)] [(.ref b101)])) _
    refine XS.dup X101.here hx rfl (hb hby d3_3) rfl rfl ?_
    show Steps p.tables e below (T101.setTop (mkF m 4 #[.val (.int p1)] [(.ref b101), (.ref b101)])) _
    refine XS.iconst X101.here hx rfl (hb hby d3_4) ?_
    show Steps p.tables e below (T101.setTop (mkF m 5 #[.val (.int p1)] [(.int (0 : Int32)), (.ref b101), (.ref b101)])) _
    refine XS.iloadN X101.here hx rfl (hb hby d3_5) rfl ?_
    show Steps p.tables e below (T101.setTop (mkF m 6 #[.val (.int p1)] [(.int p1), (.int (0 : Int32)), (.ref b101), (.ref b101)])) _
    refine XS.i2b X101.here hx rfl (hb hby d3_6) rfl ?_
    show Steps p.tables e below (T101.setTop (mkF m 7 #[.val (.int p1)] [(.int (p1.toInt8.toInt32)), (.int (0 : Int32)), (.ref b101), (.ref b101)])) _
    refine st102 _ ?_
    show Steps p.tables e below (T102.setTop (mkF m 8 #[.val (.int p1)] [(.ref b101)])) _
    exact own_retR X102 hx Bd.returns rfl rfl rfl (hb hby d3_8) hr
theorem pn_java_lang_String : plainName "java/lang/String" = true := by first | (simp [plainName, overriddenIn]; done) | decide +kernel
theorem ef_rm4 (m : MethodId) (x0 : Addr) (x1 : Addr) (x2 : Int32) : entryFrame m #[(.ref x0), (.ref x1), (.int x2)] 3 = mkF m 0 #[.val (.ref x0), .val (.ref x1), .val (.int x2)] [] := by first | (simp [entryFrame, mkF, argsToLocals, Value.category]; done) | rfl
theorem d4_0 : decode jdk_42_method_151_code 0 = .ok (.aload_n 0, 1) := by decide +kernel
theorem d4_1 : decode jdk_42_method_151_code 1 = .ok (.invokespecial 1, 3) := by decide +kernel
theorem d4_4 : decode jdk_42_method_151_code 4 = .ok (.aload_n 0, 1) := by decide +kernel
theorem d4_5 : decode jdk_42_method_151_code 5 = .ok (.aload_n 1, 1) := by decide +kernel
theorem d4_6 : decode jdk_42_method_151_code 6 = .ok (.putfield 9, 3) := by decide +kernel
theorem d4_9 : decode jdk_42_method_151_code 9 = .ok (.aload_n 0, 1) := by decide +kernel
theorem d4_10 : decode jdk_42_method_151_code 10 = .ok (.iload_n 2, 1) := by decide +kernel
theorem d4_11 : decode jdk_42_method_151_code 11 = .ok (.putfield 15, 3) := by decide +kernel
theorem d4_14 : decode jdk_42_method_151_code 14 = .ok (.return_, 1) := by decide +kernel
def Q4 (Z : State) (a1 : Addr) (a2 : Addr) (h0 : Heap) (n0 : Nat) (v : Option Value) (h : Heap) (L : List Loc) : Prop := v = none ∧ Fr n0 L ∧ Keep h0 h [a1] ∧ Exa Z h a1 "java/lang/String" ∧ Fld Z h a1 "java/lang/String" "value" "[B" (.ref a2) ∧ Fld Z h a1 "java/lang/String" "coder" "B" (.int (0 : Int32))
set_option maxRecDepth 65536 in
set_option maxHeartbeats 40000000 in
theorem rm4 (l : Launch) (Z : State) (a0 : Array Value) (hw : ∀ d ∈ tables_1, d.before a0 Z = true) (ws : List Jvm.Cond) (a1 : Addr) (a2 : Addr) (h0 : Heap) (n0 : Nat) (Z0 : n0 ≤ h0.size) (g_a1 : n0 ≤ a1) (E_a : Exa Z h0 a1 "java/lang/String") (F_v : Fld Z h0 a1 "java/lang/String" "value" "[B" .null) (F_c : Fld Z h0 a1 "java/lang/String" "coder" "B" (.int (0 : Int32))) :
    OMet l Z (⟨"java/lang/String", "<init>", "([BB)V"⟩ : MethodName) jdk_42_method_151_code 3 none ws ({ frames := 1, cells := 0, slots := 0, locals := 12 } : Room) #[(.ref a1), (.ref a2), (.int (0 : Int32))] h0 (Q4 Z a1 a2 h0 n0) := by
  refine own_body (plainFor_of_name pn_java_lang_String) ?_
  intro p e s m below meth c s₁ Bd hml0 hZ e0
  have hx := Bd.exec
  have hby := Bd.bytes
  have hml : c.maxLocals = 3 := hml0
  have hown : s.vm.findClass "java/lang/String" = some m.cls := findClass_of_methodNamed Bd.named
  have hnm := (name_of_methodNamed Bd.named Bd.method).1
  have X0 : Stand p l e ({ frames := 1, cells := 0, slots := 0, locals := 12 } : Room) s m #[(.ref a1), (.ref a2), (.int (0 : Int32))] below meth c s₁ [] 0 0 := Stand.of_body Bd
  have N0 := Fr.nil n0
  have K0 : Keep h0 h0 [a1] := Keep.refl _ _
  rw [ef_rm4]
  obtain ⟨T101, X101, e101, st101⟩ := initO X0 hx hZ hown (hw _ (List.mem_of_getElem? (i := 19) rfl)) (hw _ (List.mem_of_getElem? (i := 20) rfl)) (hw _ (List.mem_of_getElem? (i := 21) rfl)) e0 (g := (mkF m 1 #[.val (.ref a1), .val (.ref a2), .val (.int (0 : Int32))] [(.ref a1)])) rfl (by rw [hml]; rfl) rfl (hb hby d4_1) (by decide) (W := 0) (by show 2 * 0 + _ ≤ _; exact Nat.le_of_eq rfl) (by decide)
  obtain ⟨T102, h102, X102, e102, W102, st102⟩ := putF X101 hx hZ hown (host := "") (Or.inl (hw _ (List.mem_of_getElem? (i := 22) rfl))) Via.refl e101 F_v E_a (Or.inr ⟨(hw _ (List.mem_of_getElem? (i := 23) rfl)), rfl, hnm⟩) (hw _ (List.mem_of_getElem? (i := 10) rfl)) (ty := (.array .byte)) (by decide) rfl rfl (g := (mkF m 6 #[.val (.ref a1), .val (.ref a2), .val (.int (0 : Int32))] [(.ref a2), (.ref a1)])) rfl rfl (hb hby d4_6)
  have Fw102 := F_v.same W102
  have K102 : Keep h0 h102 [a1] := K0.wr W102 (Or.inl (List.mem_of_getElem? (i := 0) rfl))
  have N102 := Fr.snoc X102 N0 g_a1
  have f103 := (F_c.other W102 (Or.inr (slot_ne (Or.inr (hw _ (List.mem_of_getElem? (i := 25) rfl))) (Or.inr (hw _ (List.mem_of_getElem? (i := 23) rfl))) (by decide) (t := .byte) (t' := (.array .byte)) (by decide) (by decide))))
  have f104 := (E_a.wr W102)
  obtain ⟨T105, h105, X105, e105, W105, st105⟩ := putFN X102 hx hZ hown (hw _ (List.mem_of_getElem? (i := 24) rfl)) Via.refl e102 f103 f104 (Or.inr ⟨(hw _ (List.mem_of_getElem? (i := 25) rfl)), rfl, hnm⟩) (hw _ (List.mem_of_getElem? (i := 10) rfl)) (ty := .byte) (v' := (.int (0 : Int32))) (by decide) (rfl) (rfl) (g := (mkF m 11 #[.val (.ref a1), .val (.ref a2), .val (.int (0 : Int32))] [(.int (0 : Int32)), (.ref a1)])) rfl rfl (hb hby d4_11)
  have Fw105 := f103.same W105
  have K105 : Keep h0 h105 [a1] := K102.wr W105 (Or.inl (List.mem_of_getElem? (i := 0) rfl))
  have N105 := Fr.snoc X105 N102 g_a1
  have f106 := (f104.wr W105)
  have f107 := (Fw102.other W105 (Or.inr (slot_ne (Or.inr (hw _ (List.mem_of_getElem? (i := 23) rfl))) (Or.inr (hw _ (List.mem_of_getElem? (i := 25) rfl))) (by decide) (t := (.array .byte)) (t' := .byte) (by decide) (by decide))))
  refine Gl.fin X105 (v := none) (fun _ => rfl) Bd.notSynchronized ?_ e105 (by decide) (by decide) (fun fs hr => ?_)
  · exact ⟨rfl, N105, K105, f106, f107, Fw105⟩
  · show Steps p.tables e below (s₁.setTop (mkF m 0 #[.val (.ref a1), .val (.ref a2), .val (.int (0 : Int32))] [])) _
    refine XS.aloadN X0.here hx rfl (hb hby d4_0) rfl rfl ?_
    show Steps p.tables e below (s₁.setTop (mkF m 1 #[.val (.ref a1), .val (.ref a2), .val (.int (0 : Int32))] [(.ref a1)])) _
    refine st101 _ ?_
    show Steps p.tables e below (T101.setTop (mkF m 4 #[.val (.ref a1), .val (.ref a2), .val (.int (0 : Int32))] [])) _
    refine XS.aloadN X101.here hx rfl (hb hby d4_4) rfl rfl ?_
    show Steps p.tables e below (T101.setTop (mkF m 5 #[.val (.ref a1), .val (.ref a2), .val (.int (0 : Int32))] [(.ref a1)])) _
    refine XS.aloadN X101.here hx rfl (hb hby d4_5) rfl rfl ?_
    show Steps p.tables e below (T101.setTop (mkF m 6 #[.val (.ref a1), .val (.ref a2), .val (.int (0 : Int32))] [(.ref a2), (.ref a1)])) _
    refine st102 _ ?_
    show Steps p.tables e below (T102.setTop (mkF m 9 #[.val (.ref a1), .val (.ref a2), .val (.int (0 : Int32))] [])) _
    refine XS.aloadN X102.here hx rfl (hb hby d4_9) rfl rfl ?_
    show Steps p.tables e below (T102.setTop (mkF m 10 #[.val (.ref a1), .val (.ref a2), .val (.int (0 : Int32))] [(.ref a1)])) _
    refine XS.iloadN X102.here hx rfl (hb hby d4_10) rfl ?_
    show Steps p.tables e below (T102.setTop (mkF m 11 #[.val (.ref a1), .val (.ref a2), .val (.int (0 : Int32))] [(.int (0 : Int32)), (.ref a1)])) _
    refine st105 _ ?_
    show Steps p.tables e below (T105.setTop (mkF m 14 #[.val (.ref a1), .val (.ref a2), .val (.int (0 : Int32))] [])) _
    exact X105.returnOut hx Bd.returns (hb hby d4_14) hr
theorem ef_rm1 (m : MethodId) (x0 : Int32) : entryFrame m #[(.int x0)] 1 = mkF m 0 #[.val (.int x0)] [] := by first | (simp [entryFrame, mkF, argsToLocals, Value.category]; done) | rfl
theorem d1_0 : decode jdk_42_method_139_code 0 = .ok (.getstatic 38, 3) := by decide +kernel
theorem d1_3 : decode jdk_42_method_139_code 3 = .ok (.ifCond .eq 23, 3) := by decide +kernel
theorem d1_6 : decode jdk_42_method_139_code 6 = .ok (.iload_n 0, 1) := by decide +kernel
theorem d1_7 : decode jdk_42_method_139_code 7 = .ok (.invokestatic 1015, 3) := by decide +kernel
theorem pd__C_Z : parseMethodDescriptor "(C)Z" = some ⟨[.char], some .boolean⟩ := by decide +kernel
theorem d1_10 : decode jdk_42_method_139_code 10 = .ok (.ifCond .eq 16, 3) := by decide +kernel
theorem d1_13 : decode jdk_42_method_139_code 13 = .ok (.new 10, 3) := by decide +kernel
theorem d1_16 : decode jdk_42_method_139_code 16 = .ok (.dup, 1) := by decide +kernel
theorem d1_17 : decode jdk_42_method_139_code 17 = .ok (.iload_n 0, 1) := by decide +kernel
theorem d1_18 : decode jdk_42_method_139_code 18 = .ok (.invokestatic 1018, 3) := by decide +kernel
theorem pd__C__B : parseMethodDescriptor "(C)[B" = some ⟨[.char], some (.array .byte)⟩ := by decide +kernel
theorem d1_21 : decode jdk_42_method_139_code 21 = .ok (.iconst 0, 1) := by decide +kernel
theorem d1_22 : decode jdk_42_method_139_code 22 = .ok (.invokespecial 209, 3) := by decide +kernel
theorem pd___BB_V : parseMethodDescriptor "([BB)V" = some ⟨[(.array .byte), .byte], none⟩ := by decide +kernel
theorem d1_25 : decode jdk_42_method_139_code 25 = .ok (.areturn, 1) := by decide +kernel
def Q1 (Z : State) (p1 : Int32) (cs : Int32) (h0 : Heap) (n0 : Nat) (v : Option Value) (h : Heap) (L : List Loc) : Prop := ∃ (r b : Addr) (k : ClassId), h0.size ≤ r ∧ h0.size ≤ b ∧ r ≠ b ∧ v = some (.ref r) ∧ Fr n0 L ∧ Keep h0 h [] ∧ Exa Z h r "java/lang/String" ∧ Fld Z h r "java/lang/String" "value" "[B" (.ref b) ∧ Fld Z h r "java/lang/String" "coder" "B" (.int (0 : Int32)) ∧ Arv Z h b k .byte (1 : Int32) [(.int p1.toInt8.toInt32)] (.int (0 : Int32))
set_option maxRecDepth 65536 in
set_option maxHeartbeats 40000000 in
theorem rm1 (l : Launch) (Z : State) (a0 : Array Value) (hw : ∀ d ∈ tables_1, d.before a0 Z = true) (ws : List Jvm.Cond) (p1 : Int32) (cs : Int32) (h0 : Heap) (n0 : Nat) (Z0 : n0 ≤ h0.size) (S_c : Sta Z h0 "java/lang/String" "COMPACT_STRINGS" "Z" (.int cs)) (hcs : ¬ cs = 0) (hp : ¬ (255 : Int32) < p1) :
    OMet l Z (⟨"java/lang/String", "valueOf", "(C)Ljava/lang/String;"⟩ : MethodName) jdk_42_method_139_code 1 (some (.object "java/lang/String")) ws ({ frames := 2, cells := 2, slots := 5, locals := 29 } : Room) #[(.int p1)] h0 (Q1 Z p1 cs h0 n0) := by
  refine own_body (plainFor_of_name pn_java_lang_String) ?_
  intro p e s m below meth c s₁ Bd hml0 hZ e0
  have hx := Bd.exec
  have hby := Bd.bytes
  have hml : c.maxLocals = 1 := hml0
  have hown : s.vm.findClass "java/lang/String" = some m.cls := findClass_of_methodNamed Bd.named
  have hnm := (name_of_methodNamed Bd.named Bd.method).1
  have X0 : Stand p l e ({ frames := 2, cells := 2, slots := 5, locals := 29 } : Room) s m #[(.int p1)] below meth c s₁ [] 0 0 := Stand.of_body Bd
  have N0 := Fr.nil n0
  have K0 : Keep h0 h0 [] := Keep.refl _ _
  rw [ef_rm1]
  obtain ⟨T101, X101, e101, st101⟩ := getS2 X0 hx hZ hown (host := "") (Or.inl (hw _ (List.mem_of_getElem? (i := 4) rfl))) Via.refl e0 S_c (g := (mkF m 0 #[.val (.int p1)] [])) rfl (hb hby d1_0)
  obtain ⟨v102, T102, L102, X102, q102, st102⟩ := own_callS X101 hx hZ (y := (⟨"java/lang/StringLatin1", "canEncode", "(C)Z"⟩ : MethodName)) hown (hw _ (List.mem_of_getElem? (i := 5) rfl)) (hw _ (List.mem_of_getElem? (i := 6) rfl)) (hw _ (List.mem_of_getElem? (i := 7) rfl)) (hw _ (List.mem_of_getElem? (i := 8) rfl)) (by decide) (hM := (rm2 l Z a0 hw [] p1 h0 n0 Z0)) (by decide) (by decide) (by decide) (by decide) e101 (argsL := [(.int p1)]) (rest := []) (Ls := #[.val (.int p1)]) (by rw [hml]; rfl) (lenOf pd__C_Z rfl) (W := 0) (Nat.le_of_eq rfl) (hb hby d1_7)
  obtain ⟨rfl, N102q, e102⟩ := q102
  have N102 := Fr.app N0 N102q
  obtain ⟨T103, h103, X103, e103, E103, A103, D103, -, st103⟩ := newO X102 hx hZ hown (hw _ (List.mem_of_getElem? (i := 9) rfl)) (hw _ (List.mem_of_getElem? (i := 10) rfl)) (hw _ (List.mem_of_getElem? (i := 2) rfl)) e102 (g := (mkF m 13 #[.val (.int p1)] [])) rfl (hb hby d1_13) (by decide) (by decide)
  obtain ⟨b103, g103⟩ : ∃ z, z = h0.size := ⟨_, rfl⟩
  have g_b103 : n0 ≤ b103 := Nat.le_trans Z0 (Nat.le_of_eq g103.symm)
  have sz_b103 : h0.size ≤ b103 := Nat.le_trans K0.1 (Nat.le_of_eq g103.symm)
  rw [← g103] at A103 D103 st103
  have K103 : Keep h0 h103 [] := K0.ext E103
  have F_value_b103 : Fld Z h103 b103 "java/lang/String" "value" "[B" .null := D103 (Or.inr (hw _ (List.mem_of_getElem? (i := 23) rfl))) (ty := (.array .byte)) (by decide)
  have F_coder_b103 : Fld Z h103 b103 "java/lang/String" "coder" "B" (.int (0 : Int32)) := D103 (Or.inr (hw _ (List.mem_of_getElem? (i := 25) rfl))) (ty := .byte) (by decide)
  have z105 : n0 ≤ h103.size := (Nat.le_trans Z0 E103.1)
  obtain ⟨v104, T104, L104, X104, q104, st104⟩ := own_callS X103 hx hZ (y := (⟨"java/lang/StringLatin1", "toBytes", "(C)[B"⟩ : MethodName)) hown (hw _ (List.mem_of_getElem? (i := 11) rfl)) (hw _ (List.mem_of_getElem? (i := 12) rfl)) (hw _ (List.mem_of_getElem? (i := 7) rfl)) (hw _ (List.mem_of_getElem? (i := 13) rfl)) (by decide) (hM := (rm3 l Z a0 hw [] p1 h103 n0 z105)) (by decide) (by decide) (by decide) (by decide) e103 (argsL := [(.int p1)]) (rest := [(.ref b103), (.ref b103)]) (Ls := #[.val (.int p1)]) (by rw [hml]; rfl) (lenOf pd__C__B rfl) (W := 2) (Nat.le_of_eq rfl) (hb hby d1_18)
  obtain ⟨r104, k104, szq_r104, rfl, N104q, K104q, V104q⟩ := q104
  have N104 := Fr.app N102 N104q
  have K104 : Keep h0 T104.heap [] := K103.trans K104q all0
  have g_r104 : n0 ≤ r104 := Nat.le_trans z105 szq_r104
  have sz_r104 : h0.size ≤ r104 := Nat.le_trans K103.1 szq_r104
  have f107 := (A103.keep K104q)
  have f108 := (F_value_b103.keep K104q nin0)
  have f109 := (F_coder_b103.keep K104q nin0)
  have z110 : n0 ≤ T104.heap.size := (Nat.le_trans z105 K104q.1)
  obtain ⟨v106, T106, L106, X106, q106, st106⟩ := own_callI X104 hx hZ (y := (⟨"java/lang/String", "<init>", "([BB)V"⟩ : MethodName)) rfl hown (hw _ (List.mem_of_getElem? (i := 15) rfl)) (hw _ (List.mem_of_getElem? (i := 16) rfl)) (hw _ (List.mem_of_getElem? (i := 2) rfl)) (hw _ (List.mem_of_getElem? (i := 18) rfl)) (by decide) (a := b103) (hM := (rm4 l Z a0 hw [] b103 r104 T104.heap n0 z110 g_b103 f107 f108 f109)) (by decide) (by decide) (by decide) (by decide) rfl (argsL := [(.ref r104), (.int (0 : Int32))]) (rest := [(.ref b103)]) (Ls := #[.val (.int p1)]) (by rw [hml]; rfl) (lenOf pd___BB_V rfl) (W := 1) (Nat.le_of_eq rfl) (hb hby d1_22)
  obtain ⟨rfl, N106q, K106q, E106q, V106q, C106q⟩ := q106
  have N106 := Fr.app N104 N106q
  have K106 : Keep h0 T106.heap [] := K104.trans K106q (allS (Or.inr sz_b103) all0)
  have f111 := (V104q.keep K106q (ninS (Ne.symm (Nat.ne_of_lt (Nat.lt_of_lt_of_le A103.lt szq_r104))) nin0))
  refine Gl.fin X106 (v := some (.ref b103)) (fun h => by rw [Bd.returns] at h; cases h) Bd.notSynchronized ?_ rfl (by decide) (by decide) (fun fs hr => ?_)
  · exact ⟨_, _, _, sz_b103, sz_r104, (Nat.ne_of_lt (Nat.lt_of_lt_of_le A103.lt szq_r104)), rfl, N106, K106, E106q, V106q, C106q, f111⟩
  · show Steps p.tables e below (s₁.setTop (mkF m 0 #[.val (.int p1)] [])) _
    refine st101 _ ?_
    show Steps p.tables e below (T101.setTop (mkF m 3 #[.val (.int p1)] [(.int cs)])) _
    refine XS.ifNo X101.here hx rfl (hb hby d1_3) rfl (own_f (i0_eq _) hcs) ?_
    show Steps p.tables e below (T101.setTop (mkF m 6 #[.val (.int p1)] [])) _
    refine XS.iloadN X101.here hx rfl (hb hby d1_6) rfl ?_
    show Steps p.tables e below (T101.setTop (mkF m 7 #[.val (.int p1)] [(.int p1)])) _
    refine st102 _ ?_
    show Steps p.tables e below (T102.setTop (mkF m 10 #[.val (.int p1)] [(.int (b2i (decide (¬ (255 : Int32) < p1))))])) _
    refine XS.ifNo X102.here hx rfl (hb hby d1_10) rfl (own_nbf (b0_eq _) (decide_eq_true hp)) ?_
    show Steps p.tables e below (T102.setTop (mkF m 13 #[.val (.int p1)] [])) _
    refine st103 _ ?_
    show Steps p.tables e below (T103.setTop (mkF m 16 #[.val (.int p1)] [(.ref b103)])) _
    refine XS.dup X103.here hx rfl (hb hby d1_16) rfl rfl ?_
    show Steps p.tables e below (T103.setTop (mkF m 17 #[.val (.int p1)] [(.ref b103), (.ref b103)])) _
    refine XS.iloadN X103.here hx rfl (hb hby d1_17) rfl ?_
    show Steps p.tables e below (T103.setTop (mkF m 18 #[.val (.int p1)] [(.int p1), (.ref b103), (.ref b103)])) _
    refine st104 _ ?_
    show Steps p.tables e below (T104.setTop (mkF m 21 #[.val (.int p1)] [(.ref r104), (.ref b103), (.ref b103)])) _
    refine XS.iconst X104.here hx rfl (hb hby d1_21) ?_
    show Steps p.tables e below (T104.setTop (mkF m 22 #[.val (.int p1)] [(.int (0 : Int32)), (.ref r104), (.ref b103), (.ref b103)])) _
    refine st106 _ ?_
    show Steps p.tables e below (T106.setTop (mkF m 25 #[.val (.int p1)] [(.ref b103)])) _
    exact own_retR X106 hx Bd.returns rfl rfl rfl (hb hby d1_25) hr
theorem pn_java_lang_Record : plainName "java/lang/Record" = true := by first | (simp [plainName, overriddenIn]; done) | decide +kernel
theorem ef_rm7 (m : MethodId) (x0 : Addr) : entryFrame m #[(.ref x0)] 1 = mkF m 0 #[.val (.ref x0)] [] := by first | (simp [entryFrame, mkF, argsToLocals, Value.category]; done) | rfl
theorem d7_0 : decode jdk_30_method_1_code 0 = .ok (.aload_n 0, 1) := by decide +kernel
theorem d7_1 : decode jdk_30_method_1_code 1 = .ok (.invokespecial 1, 3) := by decide +kernel
theorem d7_4 : decode jdk_30_method_1_code 4 = .ok (.return_, 1) := by decide +kernel
def Q7 (Z : State) (a1 : Addr) (h0 : Heap) (n0 : Nat) (v : Option Value) (h : Heap) (L : List Loc) : Prop := v = none ∧ Fr n0 L ∧ h = h0
set_option maxRecDepth 65536 in
set_option maxHeartbeats 40000000 in
theorem rm7 (l : Launch) (Z : State) (a0 : Array Value) (hw : ∀ d ∈ tables_1, d.before a0 Z = true) (ws : List Jvm.Cond) (a1 : Addr) (h0 : Heap) (n0 : Nat) (Z0 : n0 ≤ h0.size) :
    OMet l Z (⟨"java/lang/Record", "<init>", "()V"⟩ : MethodName) jdk_30_method_1_code 1 none ws ({ frames := 1, cells := 0, slots := 0, locals := 12 } : Room) #[(.ref a1)] h0 (Q7 Z a1 h0 n0) := by
  refine own_body (plainFor_of_name pn_java_lang_Record) ?_
  intro p e s m below meth c s₁ Bd hml0 hZ e0
  have hx := Bd.exec
  have hby := Bd.bytes
  have hml : c.maxLocals = 1 := hml0
  have hown : s.vm.findClass "java/lang/Record" = some m.cls := findClass_of_methodNamed Bd.named
  have hnm := (name_of_methodNamed Bd.named Bd.method).1
  have X0 : Stand p l e ({ frames := 1, cells := 0, slots := 0, locals := 12 } : Room) s m #[(.ref a1)] below meth c s₁ [] 0 0 := Stand.of_body Bd
  have N0 := Fr.nil n0
  have K0 : Keep h0 h0 [] := Keep.refl _ _
  rw [ef_rm7]
  obtain ⟨T101, X101, e101, st101⟩ := initO X0 hx hZ hown (hw _ (List.mem_of_getElem? (i := 38) rfl)) (hw _ (List.mem_of_getElem? (i := 20) rfl)) (hw _ (List.mem_of_getElem? (i := 21) rfl)) e0 (g := (mkF m 1 #[.val (.ref a1)] [(.ref a1)])) rfl (by rw [hml]; rfl) rfl (hb hby d7_1) (by decide) (W := 0) (by show 2 * 0 + _ ≤ _; exact Nat.le_of_eq rfl) (by decide)
  refine Gl.fin X101 (v := none) (fun _ => rfl) Bd.notSynchronized ?_ e101 (by decide) (by decide) (fun fs hr => ?_)
  · exact ⟨rfl, N0, rfl⟩
  · show Steps p.tables e below (s₁.setTop (mkF m 0 #[.val (.ref a1)] [])) _
    refine XS.aloadN X0.here hx rfl (hb hby d7_0) rfl rfl ?_
    show Steps p.tables e below (s₁.setTop (mkF m 1 #[.val (.ref a1)] [(.ref a1)])) _
    refine st101 _ ?_
    show Steps p.tables e below (T101.setTop (mkF m 4 #[.val (.ref a1)] [])) _
    exact X101.returnOut hx Bd.returns (hb hby d7_4) hr
theorem pn_com_example_stackledger_stackledger_Cleanup_Chosen : plainName "com/example/stackledger/stackledger/Cleanup$Chosen" = true := by first | (simp [plainName, overriddenIn]; done) | decide +kernel
theorem ef_rm6n (m : MethodId) (x0 : Addr) (x1 : Int64) (x2 : Int64) (x4 : Int64) (x5 : Int32) (x6 : Int64) (x7 : Int64) (x8 : Int32) : entryFrame m #[(.ref x0), (.long x1), (.long x2), .null, (.long x4), (.int x5), (.long x6), (.long x7), (.int x8)] 14 = mkF m 0 #[.val (.ref x0), .val (.long x1), .second, .val (.long x2), .second, .val .null, .val (.long x4), .second, .val (.int x5), .val (.long x6), .second, .val (.long x7), .second, .val (.int x8)] [] := by first | (simp [entryFrame, mkF, argsToLocals, Value.category]; done) | rfl
theorem d6_0 : decode prog_6_method_1_code 0 = .ok (.aload_n 0, 1) := by decide +kernel
theorem d6_1 : decode prog_6_method_1_code 1 = .ok (.invokespecial 1, 3) := by decide +kernel
theorem pd___V : parseMethodDescriptor "()V" = some ⟨[], none⟩ := by decide +kernel
theorem d6_4 : decode prog_6_method_1_code 4 = .ok (.aload_n 0, 1) := by decide +kernel
theorem d6_5 : decode prog_6_method_1_code 5 = .ok (.lload_n 1, 1) := by decide +kernel
theorem d6_6 : decode prog_6_method_1_code 6 = .ok (.putfield 7, 3) := by decide +kernel
theorem d6_9 : decode prog_6_method_1_code 9 = .ok (.aload_n 0, 1) := by decide +kernel
theorem d6_10 : decode prog_6_method_1_code 10 = .ok (.lload_n 3, 1) := by decide +kernel
theorem d6_11 : decode prog_6_method_1_code 11 = .ok (.putfield 13, 3) := by decide +kernel
theorem d6_14 : decode prog_6_method_1_code 14 = .ok (.aload_n 0, 1) := by decide +kernel
theorem d6_15 : decode prog_6_method_1_code 15 = .ok (.aload 5, 2) := by decide +kernel
theorem d6_17 : decode prog_6_method_1_code 17 = .ok (.putfield 16, 3) := by decide +kernel
theorem d6_20 : decode prog_6_method_1_code 20 = .ok (.aload_n 0, 1) := by decide +kernel
theorem d6_21 : decode prog_6_method_1_code 21 = .ok (.lload 6, 2) := by decide +kernel
theorem d6_23 : decode prog_6_method_1_code 23 = .ok (.putfield 20, 3) := by decide +kernel
theorem d6_26 : decode prog_6_method_1_code 26 = .ok (.aload_n 0, 1) := by decide +kernel
theorem d6_27 : decode prog_6_method_1_code 27 = .ok (.iload 8, 2) := by decide +kernel
theorem d6_29 : decode prog_6_method_1_code 29 = .ok (.putfield 23, 3) := by decide +kernel
theorem d6_32 : decode prog_6_method_1_code 32 = .ok (.aload_n 0, 1) := by decide +kernel
theorem d6_33 : decode prog_6_method_1_code 33 = .ok (.lload 9, 2) := by decide +kernel
theorem d6_35 : decode prog_6_method_1_code 35 = .ok (.putfield 27, 3) := by decide +kernel
theorem d6_38 : decode prog_6_method_1_code 38 = .ok (.aload_n 0, 1) := by decide +kernel
theorem d6_39 : decode prog_6_method_1_code 39 = .ok (.lload 11, 2) := by decide +kernel
theorem d6_41 : decode prog_6_method_1_code 41 = .ok (.putfield 30, 3) := by decide +kernel
theorem d6_44 : decode prog_6_method_1_code 44 = .ok (.aload_n 0, 1) := by decide +kernel
theorem d6_45 : decode prog_6_method_1_code 45 = .ok (.iload 13, 2) := by decide +kernel
theorem d6_47 : decode prog_6_method_1_code 47 = .ok (.putfield 33, 3) := by decide +kernel
theorem d6_50 : decode prog_6_method_1_code 50 = .ok (.return_, 1) := by decide +kernel
def Q6n (Z : State) (a1 : Addr) (q1 : Int64) (q2 : Int64) (q3 : Int64) (q4 : Int64) (q5 : Int64) (bf : Bool) (bl : Bool) (h0 : Heap) (n0 : Nat) (v : Option Value) (h : Heap) (L : List Loc) : Prop := v = none ∧ Fr n0 L ∧ Keep h0 h [a1] ∧ Exa Z h a1 "com/example/stackledger/stackledger/Cleanup$Chosen" ∧ Fld Z h a1 "com/example/stackledger/stackledger/Cleanup$Chosen" "totalPaidCents" "J" (.long q4) ∧ Fld Z h a1 "com/example/stackledger/stackledger/Cleanup$Chosen" "balanceCents" "J" (.long q5) ∧ Fld Z h a1 "com/example/stackledger/stackledger/Cleanup$Chosen" "lost" "Z" (.int (b2i bl))
set_option maxRecDepth 65536 in
set_option maxHeartbeats 40000000 in
theorem rm6n (l : Launch) (Z : State) (a0 : Array Value) (hw : ∀ d ∈ tables_1, d.before a0 Z = true) (ws : List Jvm.Cond) (a1 : Addr) (q1 : Int64) (q2 : Int64) (q3 : Int64) (q4 : Int64) (q5 : Int64) (bf : Bool) (bl : Bool) (h0 : Heap) (n0 : Nat) (Z0 : n0 ≤ h0.size) (g_a1 : n0 ≤ a1) (E_a : Exa Z h0 a1 "com/example/stackledger/stackledger/Cleanup$Chosen") (F_transaction : Fld Z h0 a1 "com/example/stackledger/stackledger/Cleanup$Chosen" "transaction" "J" (.long (0 : Int64))) (F_patron : Fld Z h0 a1 "com/example/stackledger/stackledger/Cleanup$Chosen" "patron" "J" (.long (0 : Int64))) (F_org : Fld Z h0 a1 "com/example/stackledger/stackledger/Cleanup$Chosen" "org" "Ljava/lang/String;" .null) (F_startedAt : Fld Z h0 a1 "com/example/stackledger/stackledger/Cleanup$Chosen" "startedAt" "J" (.long (0 : Int64))) (F_finished : Fld Z h0 a1 "com/example/stackledger/stackledger/Cleanup$Chosen" "finished" "Z" (.int (0 : Int32))) (F_totalPaidCents : Fld Z h0 a1 "com/example/stackledger/stackledger/Cleanup$Chosen" "totalPaidCents" "J" (.long (0 : Int64))) (F_balanceCents : Fld Z h0 a1 "com/example/stackledger/stackledger/Cleanup$Chosen" "balanceCents" "J" (.long (0 : Int64))) (F_lost : Fld Z h0 a1 "com/example/stackledger/stackledger/Cleanup$Chosen" "lost" "Z" (.int (0 : Int32))) :
    OMet l Z (⟨"com/example/stackledger/stackledger/Cleanup$Chosen", "<init>", "(JJLjava/lang/String;JZJJZ)V"⟩ : MethodName) prog_6_method_1_code 14 none ws ({ frames := 2, cells := 0, slots := 0, locals := 24 } : Room) #[(.ref a1), (.long q1), (.long q2), .null, (.long q3), (.int (b2i bf)), (.long q4), (.long q5), (.int (b2i bl))] h0 (Q6n Z a1 q1 q2 q3 q4 q5 bf bl h0 n0) := by
  refine own_body (plainFor_of_name pn_com_example_stackledger_stackledger_Cleanup_Chosen) ?_
  intro p e s m below meth c s₁ Bd hml0 hZ e0
  have hx := Bd.exec
  have hby := Bd.bytes
  have hml : c.maxLocals = 14 := hml0
  have hown : s.vm.findClass "com/example/stackledger/stackledger/Cleanup$Chosen" = some m.cls := findClass_of_methodNamed Bd.named
  have hnm := (name_of_methodNamed Bd.named Bd.method).1
  have X0 : Stand p l e ({ frames := 2, cells := 0, slots := 0, locals := 24 } : Room) s m #[(.ref a1), (.long q1), (.long q2), .null, (.long q3), (.int (b2i bf)), (.long q4), (.long q5), (.int (b2i bl))] below meth c s₁ [] 0 0 := Stand.of_body Bd
  have N0 := Fr.nil n0
  have K0 : Keep h0 h0 [a1] := Keep.refl _ _
  rw [ef_rm6n]
  obtain ⟨v101, T101, L101, X101, q101, st101⟩ := own_callI X0 hx hZ (y := (⟨"java/lang/Record", "<init>", "()V"⟩ : MethodName)) rfl hown (hw _ (List.mem_of_getElem? (i := 33) rfl)) (hw _ (List.mem_of_getElem? (i := 34) rfl)) (hw _ (List.mem_of_getElem? (i := 36) rfl)) (hw _ (List.mem_of_getElem? (i := 37) rfl)) (by decide) (a := a1) (hM := (rm7 l Z a0 hw [] a1 h0 n0 Z0)) (by decide) (by decide) (by decide) (by decide) e0 (argsL := []) (rest := []) (Ls := #[.val (.ref a1), .val (.long q1), .second, .val (.long q2), .second, .val .null, .val (.long q3), .second, .val (.int (b2i bf)), .val (.long q4), .second, .val (.long q5), .second, .val (.int (b2i bl))]) (by rw [hml]; rfl) (lenOf pd___V rfl) (W := 0) (Nat.le_of_eq rfl) (hb hby d6_1)
  obtain ⟨rfl, N101q, e101⟩ := q101
  have N101 := Fr.app N0 N101q
  obtain ⟨T102, h102, X102, e102, W102, st102⟩ := putF X101 hx hZ hown (host := "") (Or.inl (hw _ (List.mem_of_getElem? (i := 39) rfl))) Via.refl e101 F_transaction E_a (Or.inr ⟨(hw _ (List.mem_of_getElem? (i := 40) rfl)), rfl, hnm⟩) (hw _ (List.mem_of_getElem? (i := 27) rfl)) (ty := .long) (by decide) rfl rfl (g := (mkF m 6 #[.val (.ref a1), .val (.long q1), .second, .val (.long q2), .second, .val .null, .val (.long q3), .second, .val (.int (b2i bf)), .val (.long q4), .second, .val (.long q5), .second, .val (.int (b2i bl))] [(.long q1), (.ref a1)])) rfl rfl (hb hby d6_6)
  have Fw102 := F_transaction.same W102
  have K102 : Keep h0 h102 [a1] := K0.wr W102 (Or.inl (List.mem_of_getElem? (i := 0) rfl))
  have N102 := Fr.snoc X102 N101 g_a1
  have f103 := (F_patron.other W102 (Or.inr (slot_ne (Or.inr (hw _ (List.mem_of_getElem? (i := 42) rfl))) (Or.inr (hw _ (List.mem_of_getElem? (i := 40) rfl))) (by decide) (t := .long) (t' := .long) (by decide) (by decide))))
  have f104 := (E_a.wr W102)
  obtain ⟨T105, h105, X105, e105, W105, st105⟩ := putF X102 hx hZ hown (host := "") (Or.inl (hw _ (List.mem_of_getElem? (i := 41) rfl))) Via.refl e102 f103 f104 (Or.inr ⟨(hw _ (List.mem_of_getElem? (i := 42) rfl)), rfl, hnm⟩) (hw _ (List.mem_of_getElem? (i := 27) rfl)) (ty := .long) (by decide) rfl rfl (g := (mkF m 11 #[.val (.ref a1), .val (.long q1), .second, .val (.long q2), .second, .val .null, .val (.long q3), .second, .val (.int (b2i bf)), .val (.long q4), .second, .val (.long q5), .second, .val (.int (b2i bl))] [(.long q2), (.ref a1)])) rfl rfl (hb hby d6_11)
  have Fw105 := f103.same W105
  have K105 : Keep h0 h105 [a1] := K102.wr W105 (Or.inl (List.mem_of_getElem? (i := 0) rfl))
  have N105 := Fr.snoc X105 N102 g_a1
  have f106 := ((F_org.other W102 (Or.inr (slot_ne (Or.inr (hw _ (List.mem_of_getElem? (i := 44) rfl))) (Or.inr (hw _ (List.mem_of_getElem? (i := 40) rfl))) (by decide) (t := (.object "java/lang/String")) (t' := .long) (by decide) (by decide)))).other W105 (Or.inr (slot_ne (Or.inr (hw _ (List.mem_of_getElem? (i := 44) rfl))) (Or.inr (hw _ (List.mem_of_getElem? (i := 42) rfl))) (by decide) (t := (.object "java/lang/String")) (t' := .long) (by decide) (by decide))))
  have f107 := (f104.wr W105)
  obtain ⟨T108, h108, X108, e108, W108, st108⟩ := putF X105 hx hZ hown (host := "") (Or.inl (hw _ (List.mem_of_getElem? (i := 43) rfl))) Via.refl e105 f106 f107 (Or.inr ⟨(hw _ (List.mem_of_getElem? (i := 44) rfl)), rfl, hnm⟩) (hw _ (List.mem_of_getElem? (i := 27) rfl)) (ty := (.object "java/lang/String")) (by decide) rfl rfl (g := (mkF m 17 #[.val (.ref a1), .val (.long q1), .second, .val (.long q2), .second, .val .null, .val (.long q3), .second, .val (.int (b2i bf)), .val (.long q4), .second, .val (.long q5), .second, .val (.int (b2i bl))] [.null, (.ref a1)])) rfl rfl (hb hby d6_17)
  have Fw108 := f106.same W108
  have K108 : Keep h0 h108 [a1] := K105.wr W108 (Or.inl (List.mem_of_getElem? (i := 0) rfl))
  have N108 := Fr.snoc X108 N105 g_a1
  have f109 := (((F_startedAt.other W102 (Or.inr (slot_ne (Or.inr (hw _ (List.mem_of_getElem? (i := 46) rfl))) (Or.inr (hw _ (List.mem_of_getElem? (i := 40) rfl))) (by decide) (t := .long) (t' := .long) (by decide) (by decide)))).other W105 (Or.inr (slot_ne (Or.inr (hw _ (List.mem_of_getElem? (i := 46) rfl))) (Or.inr (hw _ (List.mem_of_getElem? (i := 42) rfl))) (by decide) (t := .long) (t' := .long) (by decide) (by decide)))).other W108 (Or.inr (slot_ne (Or.inr (hw _ (List.mem_of_getElem? (i := 46) rfl))) (Or.inr (hw _ (List.mem_of_getElem? (i := 44) rfl))) (by decide) (t := .long) (t' := (.object "java/lang/String")) (by decide) (by decide))))
  have f110 := (f107.wr W108)
  obtain ⟨T111, h111, X111, e111, W111, st111⟩ := putF X108 hx hZ hown (host := "") (Or.inl (hw _ (List.mem_of_getElem? (i := 45) rfl))) Via.refl e108 f109 f110 (Or.inr ⟨(hw _ (List.mem_of_getElem? (i := 46) rfl)), rfl, hnm⟩) (hw _ (List.mem_of_getElem? (i := 27) rfl)) (ty := .long) (by decide) rfl rfl (g := (mkF m 23 #[.val (.ref a1), .val (.long q1), .second, .val (.long q2), .second, .val .null, .val (.long q3), .second, .val (.int (b2i bf)), .val (.long q4), .second, .val (.long q5), .second, .val (.int (b2i bl))] [(.long q3), (.ref a1)])) rfl rfl (hb hby d6_23)
  have Fw111 := f109.same W111
  have K111 : Keep h0 h111 [a1] := K108.wr W111 (Or.inl (List.mem_of_getElem? (i := 0) rfl))
  have N111 := Fr.snoc X111 N108 g_a1
  have f112 := ((((F_finished.other W102 (Or.inr (slot_ne (Or.inr (hw _ (List.mem_of_getElem? (i := 48) rfl))) (Or.inr (hw _ (List.mem_of_getElem? (i := 40) rfl))) (by decide) (t := .boolean) (t' := .long) (by decide) (by decide)))).other W105 (Or.inr (slot_ne (Or.inr (hw _ (List.mem_of_getElem? (i := 48) rfl))) (Or.inr (hw _ (List.mem_of_getElem? (i := 42) rfl))) (by decide) (t := .boolean) (t' := .long) (by decide) (by decide)))).other W108 (Or.inr (slot_ne (Or.inr (hw _ (List.mem_of_getElem? (i := 48) rfl))) (Or.inr (hw _ (List.mem_of_getElem? (i := 44) rfl))) (by decide) (t := .boolean) (t' := (.object "java/lang/String")) (by decide) (by decide)))).other W111 (Or.inr (slot_ne (Or.inr (hw _ (List.mem_of_getElem? (i := 48) rfl))) (Or.inr (hw _ (List.mem_of_getElem? (i := 46) rfl))) (by decide) (t := .boolean) (t' := .long) (by decide) (by decide))))
  have f113 := (f110.wr W111)
  obtain ⟨T114, h114, X114, e114, W114, st114⟩ := putFN X111 hx hZ hown (hw _ (List.mem_of_getElem? (i := 47) rfl)) Via.refl e111 f112 f113 (Or.inr ⟨(hw _ (List.mem_of_getElem? (i := 48) rfl)), rfl, hnm⟩) (hw _ (List.mem_of_getElem? (i := 27) rfl)) (ty := .boolean) (v' := (.int (b2i bf))) (by decide) (own_narrow_b2i _) (own_fits_b2i _) (g := (mkF m 29 #[.val (.ref a1), .val (.long q1), .second, .val (.long q2), .second, .val .null, .val (.long q3), .second, .val (.int (b2i bf)), .val (.long q4), .second, .val (.long q5), .second, .val (.int (b2i bl))] [(.int (b2i bf)), (.ref a1)])) rfl rfl (hb hby d6_29)
  have Fw114 := f112.same W114
  have K114 : Keep h0 h114 [a1] := K111.wr W114 (Or.inl (List.mem_of_getElem? (i := 0) rfl))
  have N114 := Fr.snoc X114 N111 g_a1
  have f115 := (((((F_totalPaidCents.other W102 (Or.inr (slot_ne (Or.inr (hw _ (List.mem_of_getElem? (i := 50) rfl))) (Or.inr (hw _ (List.mem_of_getElem? (i := 40) rfl))) (by decide) (t := .long) (t' := .long) (by decide) (by decide)))).other W105 (Or.inr (slot_ne (Or.inr (hw _ (List.mem_of_getElem? (i := 50) rfl))) (Or.inr (hw _ (List.mem_of_getElem? (i := 42) rfl))) (by decide) (t := .long) (t' := .long) (by decide) (by decide)))).other W108 (Or.inr (slot_ne (Or.inr (hw _ (List.mem_of_getElem? (i := 50) rfl))) (Or.inr (hw _ (List.mem_of_getElem? (i := 44) rfl))) (by decide) (t := .long) (t' := (.object "java/lang/String")) (by decide) (by decide)))).other W111 (Or.inr (slot_ne (Or.inr (hw _ (List.mem_of_getElem? (i := 50) rfl))) (Or.inr (hw _ (List.mem_of_getElem? (i := 46) rfl))) (by decide) (t := .long) (t' := .long) (by decide) (by decide)))).other W114 (Or.inr (slot_ne (Or.inr (hw _ (List.mem_of_getElem? (i := 50) rfl))) (Or.inr (hw _ (List.mem_of_getElem? (i := 48) rfl))) (by decide) (t := .long) (t' := .boolean) (by decide) (by decide))))
  have f116 := (f113.wr W114)
  obtain ⟨T117, h117, X117, e117, W117, st117⟩ := putF X114 hx hZ hown (host := "") (Or.inl (hw _ (List.mem_of_getElem? (i := 49) rfl))) Via.refl e114 f115 f116 (Or.inr ⟨(hw _ (List.mem_of_getElem? (i := 50) rfl)), rfl, hnm⟩) (hw _ (List.mem_of_getElem? (i := 27) rfl)) (ty := .long) (by decide) rfl rfl (g := (mkF m 35 #[.val (.ref a1), .val (.long q1), .second, .val (.long q2), .second, .val .null, .val (.long q3), .second, .val (.int (b2i bf)), .val (.long q4), .second, .val (.long q5), .second, .val (.int (b2i bl))] [(.long q4), (.ref a1)])) rfl rfl (hb hby d6_35)
  have Fw117 := f115.same W117
  have K117 : Keep h0 h117 [a1] := K114.wr W117 (Or.inl (List.mem_of_getElem? (i := 0) rfl))
  have N117 := Fr.snoc X117 N114 g_a1
  have f118 := ((((((F_balanceCents.other W102 (Or.inr (slot_ne (Or.inr (hw _ (List.mem_of_getElem? (i := 52) rfl))) (Or.inr (hw _ (List.mem_of_getElem? (i := 40) rfl))) (by decide) (t := .long) (t' := .long) (by decide) (by decide)))).other W105 (Or.inr (slot_ne (Or.inr (hw _ (List.mem_of_getElem? (i := 52) rfl))) (Or.inr (hw _ (List.mem_of_getElem? (i := 42) rfl))) (by decide) (t := .long) (t' := .long) (by decide) (by decide)))).other W108 (Or.inr (slot_ne (Or.inr (hw _ (List.mem_of_getElem? (i := 52) rfl))) (Or.inr (hw _ (List.mem_of_getElem? (i := 44) rfl))) (by decide) (t := .long) (t' := (.object "java/lang/String")) (by decide) (by decide)))).other W111 (Or.inr (slot_ne (Or.inr (hw _ (List.mem_of_getElem? (i := 52) rfl))) (Or.inr (hw _ (List.mem_of_getElem? (i := 46) rfl))) (by decide) (t := .long) (t' := .long) (by decide) (by decide)))).other W114 (Or.inr (slot_ne (Or.inr (hw _ (List.mem_of_getElem? (i := 52) rfl))) (Or.inr (hw _ (List.mem_of_getElem? (i := 48) rfl))) (by decide) (t := .long) (t' := .boolean) (by decide) (by decide)))).other W117 (Or.inr (slot_ne (Or.inr (hw _ (List.mem_of_getElem? (i := 52) rfl))) (Or.inr (hw _ (List.mem_of_getElem? (i := 50) rfl))) (by decide) (t := .long) (t' := .long) (by decide) (by decide))))
  have f119 := (f116.wr W117)
  obtain ⟨T120, h120, X120, e120, W120, st120⟩ := putF X117 hx hZ hown (host := "") (Or.inl (hw _ (List.mem_of_getElem? (i := 51) rfl))) Via.refl e117 f118 f119 (Or.inr ⟨(hw _ (List.mem_of_getElem? (i := 52) rfl)), rfl, hnm⟩) (hw _ (List.mem_of_getElem? (i := 27) rfl)) (ty := .long) (by decide) rfl rfl (g := (mkF m 41 #[.val (.ref a1), .val (.long q1), .second, .val (.long q2), .second, .val .null, .val (.long q3), .second, .val (.int (b2i bf)), .val (.long q4), .second, .val (.long q5), .second, .val (.int (b2i bl))] [(.long q5), (.ref a1)])) rfl rfl (hb hby d6_41)
  have Fw120 := f118.same W120
  have K120 : Keep h0 h120 [a1] := K117.wr W120 (Or.inl (List.mem_of_getElem? (i := 0) rfl))
  have N120 := Fr.snoc X120 N117 g_a1
  have f121 := (((((((F_lost.other W102 (Or.inr (slot_ne (Or.inr (hw _ (List.mem_of_getElem? (i := 54) rfl))) (Or.inr (hw _ (List.mem_of_getElem? (i := 40) rfl))) (by decide) (t := .boolean) (t' := .long) (by decide) (by decide)))).other W105 (Or.inr (slot_ne (Or.inr (hw _ (List.mem_of_getElem? (i := 54) rfl))) (Or.inr (hw _ (List.mem_of_getElem? (i := 42) rfl))) (by decide) (t := .boolean) (t' := .long) (by decide) (by decide)))).other W108 (Or.inr (slot_ne (Or.inr (hw _ (List.mem_of_getElem? (i := 54) rfl))) (Or.inr (hw _ (List.mem_of_getElem? (i := 44) rfl))) (by decide) (t := .boolean) (t' := (.object "java/lang/String")) (by decide) (by decide)))).other W111 (Or.inr (slot_ne (Or.inr (hw _ (List.mem_of_getElem? (i := 54) rfl))) (Or.inr (hw _ (List.mem_of_getElem? (i := 46) rfl))) (by decide) (t := .boolean) (t' := .long) (by decide) (by decide)))).other W114 (Or.inr (slot_ne (Or.inr (hw _ (List.mem_of_getElem? (i := 54) rfl))) (Or.inr (hw _ (List.mem_of_getElem? (i := 48) rfl))) (by decide) (t := .boolean) (t' := .boolean) (by decide) (by decide)))).other W117 (Or.inr (slot_ne (Or.inr (hw _ (List.mem_of_getElem? (i := 54) rfl))) (Or.inr (hw _ (List.mem_of_getElem? (i := 50) rfl))) (by decide) (t := .boolean) (t' := .long) (by decide) (by decide)))).other W120 (Or.inr (slot_ne (Or.inr (hw _ (List.mem_of_getElem? (i := 54) rfl))) (Or.inr (hw _ (List.mem_of_getElem? (i := 52) rfl))) (by decide) (t := .boolean) (t' := .long) (by decide) (by decide))))
  have f122 := (f119.wr W120)
  obtain ⟨T123, h123, X123, e123, W123, st123⟩ := putFN X120 hx hZ hown (hw _ (List.mem_of_getElem? (i := 53) rfl)) Via.refl e120 f121 f122 (Or.inr ⟨(hw _ (List.mem_of_getElem? (i := 54) rfl)), rfl, hnm⟩) (hw _ (List.mem_of_getElem? (i := 27) rfl)) (ty := .boolean) (v' := (.int (b2i bl))) (by decide) (own_narrow_b2i _) (own_fits_b2i _) (g := (mkF m 47 #[.val (.ref a1), .val (.long q1), .second, .val (.long q2), .second, .val .null, .val (.long q3), .second, .val (.int (b2i bf)), .val (.long q4), .second, .val (.long q5), .second, .val (.int (b2i bl))] [(.int (b2i bl)), (.ref a1)])) rfl rfl (hb hby d6_47)
  have Fw123 := f121.same W123
  have K123 : Keep h0 h123 [a1] := K120.wr W123 (Or.inl (List.mem_of_getElem? (i := 0) rfl))
  have N123 := Fr.snoc X123 N120 g_a1
  have f124 := (f122.wr W123)
  have f125 := ((Fw117.other W120 (Or.inr (slot_ne (Or.inr (hw _ (List.mem_of_getElem? (i := 50) rfl))) (Or.inr (hw _ (List.mem_of_getElem? (i := 52) rfl))) (by decide) (t := .long) (t' := .long) (by decide) (by decide)))).other W123 (Or.inr (slot_ne (Or.inr (hw _ (List.mem_of_getElem? (i := 50) rfl))) (Or.inr (hw _ (List.mem_of_getElem? (i := 54) rfl))) (by decide) (t := .long) (t' := .boolean) (by decide) (by decide))))
  have f126 := (Fw120.other W123 (Or.inr (slot_ne (Or.inr (hw _ (List.mem_of_getElem? (i := 52) rfl))) (Or.inr (hw _ (List.mem_of_getElem? (i := 54) rfl))) (by decide) (t := .long) (t' := .boolean) (by decide) (by decide))))
  refine Gl.fin X123 (v := none) (fun _ => rfl) Bd.notSynchronized ?_ e123 (by decide) (by decide) (fun fs hr => ?_)
  · exact ⟨rfl, N123, K123, f124, f125, f126, Fw123⟩
  · show Steps p.tables e below (s₁.setTop (mkF m 0 #[.val (.ref a1), .val (.long q1), .second, .val (.long q2), .second, .val .null, .val (.long q3), .second, .val (.int (b2i bf)), .val (.long q4), .second, .val (.long q5), .second, .val (.int (b2i bl))] [])) _
    refine XS.aloadN X0.here hx rfl (hb hby d6_0) rfl rfl ?_
    show Steps p.tables e below (s₁.setTop (mkF m 1 #[.val (.ref a1), .val (.long q1), .second, .val (.long q2), .second, .val .null, .val (.long q3), .second, .val (.int (b2i bf)), .val (.long q4), .second, .val (.long q5), .second, .val (.int (b2i bl))] [(.ref a1)])) _
    refine st101 _ ?_
    show Steps p.tables e below (T101.setTop (mkF m 4 #[.val (.ref a1), .val (.long q1), .second, .val (.long q2), .second, .val .null, .val (.long q3), .second, .val (.int (b2i bf)), .val (.long q4), .second, .val (.long q5), .second, .val (.int (b2i bl))] [])) _
    refine XS.aloadN X101.here hx rfl (hb hby d6_4) rfl rfl ?_
    show Steps p.tables e below (T101.setTop (mkF m 5 #[.val (.ref a1), .val (.long q1), .second, .val (.long q2), .second, .val .null, .val (.long q3), .second, .val (.int (b2i bf)), .val (.long q4), .second, .val (.long q5), .second, .val (.int (b2i bl))] [(.ref a1)])) _
    refine XS.lloadN X101.here hx rfl (hb hby d6_5) rfl ?_
    show Steps p.tables e below (T101.setTop (mkF m 6 #[.val (.ref a1), .val (.long q1), .second, .val (.long q2), .second, .val .null, .val (.long q3), .second, .val (.int (b2i bf)), .val (.long q4), .second, .val (.long q5), .second, .val (.int (b2i bl))] [(.long q1), (.ref a1)])) _
    refine st102 _ ?_
    show Steps p.tables e below (T102.setTop (mkF m 9 #[.val (.ref a1), .val (.long q1), .second, .val (.long q2), .second, .val .null, .val (.long q3), .second, .val (.int (b2i bf)), .val (.long q4), .second, .val (.long q5), .second, .val (.int (b2i bl))] [])) _
    refine XS.aloadN X102.here hx rfl (hb hby d6_9) rfl rfl ?_
    show Steps p.tables e below (T102.setTop (mkF m 10 #[.val (.ref a1), .val (.long q1), .second, .val (.long q2), .second, .val .null, .val (.long q3), .second, .val (.int (b2i bf)), .val (.long q4), .second, .val (.long q5), .second, .val (.int (b2i bl))] [(.ref a1)])) _
    refine XS.lloadN X102.here hx rfl (hb hby d6_10) rfl ?_
    show Steps p.tables e below (T102.setTop (mkF m 11 #[.val (.ref a1), .val (.long q1), .second, .val (.long q2), .second, .val .null, .val (.long q3), .second, .val (.int (b2i bf)), .val (.long q4), .second, .val (.long q5), .second, .val (.int (b2i bl))] [(.long q2), (.ref a1)])) _
    refine st105 _ ?_
    show Steps p.tables e below (T105.setTop (mkF m 14 #[.val (.ref a1), .val (.long q1), .second, .val (.long q2), .second, .val .null, .val (.long q3), .second, .val (.int (b2i bf)), .val (.long q4), .second, .val (.long q5), .second, .val (.int (b2i bl))] [])) _
    refine XS.aloadN X105.here hx rfl (hb hby d6_14) rfl rfl ?_
    show Steps p.tables e below (T105.setTop (mkF m 15 #[.val (.ref a1), .val (.long q1), .second, .val (.long q2), .second, .val .null, .val (.long q3), .second, .val (.int (b2i bf)), .val (.long q4), .second, .val (.long q5), .second, .val (.int (b2i bl))] [(.ref a1)])) _
    refine XS.aload X105.here hx rfl (hb hby d6_15) rfl rfl ?_
    show Steps p.tables e below (T105.setTop (mkF m 17 #[.val (.ref a1), .val (.long q1), .second, .val (.long q2), .second, .val .null, .val (.long q3), .second, .val (.int (b2i bf)), .val (.long q4), .second, .val (.long q5), .second, .val (.int (b2i bl))] [.null, (.ref a1)])) _
    refine st108 _ ?_
    show Steps p.tables e below (T108.setTop (mkF m 20 #[.val (.ref a1), .val (.long q1), .second, .val (.long q2), .second, .val .null, .val (.long q3), .second, .val (.int (b2i bf)), .val (.long q4), .second, .val (.long q5), .second, .val (.int (b2i bl))] [])) _
    refine XS.aloadN X108.here hx rfl (hb hby d6_20) rfl rfl ?_
    show Steps p.tables e below (T108.setTop (mkF m 21 #[.val (.ref a1), .val (.long q1), .second, .val (.long q2), .second, .val .null, .val (.long q3), .second, .val (.int (b2i bf)), .val (.long q4), .second, .val (.long q5), .second, .val (.int (b2i bl))] [(.ref a1)])) _
    refine XS.lload X108.here hx rfl (hb hby d6_21) rfl ?_
    show Steps p.tables e below (T108.setTop (mkF m 23 #[.val (.ref a1), .val (.long q1), .second, .val (.long q2), .second, .val .null, .val (.long q3), .second, .val (.int (b2i bf)), .val (.long q4), .second, .val (.long q5), .second, .val (.int (b2i bl))] [(.long q3), (.ref a1)])) _
    refine st111 _ ?_
    show Steps p.tables e below (T111.setTop (mkF m 26 #[.val (.ref a1), .val (.long q1), .second, .val (.long q2), .second, .val .null, .val (.long q3), .second, .val (.int (b2i bf)), .val (.long q4), .second, .val (.long q5), .second, .val (.int (b2i bl))] [])) _
    refine XS.aloadN X111.here hx rfl (hb hby d6_26) rfl rfl ?_
    show Steps p.tables e below (T111.setTop (mkF m 27 #[.val (.ref a1), .val (.long q1), .second, .val (.long q2), .second, .val .null, .val (.long q3), .second, .val (.int (b2i bf)), .val (.long q4), .second, .val (.long q5), .second, .val (.int (b2i bl))] [(.ref a1)])) _
    refine XS.iload X111.here hx rfl (hb hby d6_27) rfl ?_
    show Steps p.tables e below (T111.setTop (mkF m 29 #[.val (.ref a1), .val (.long q1), .second, .val (.long q2), .second, .val .null, .val (.long q3), .second, .val (.int (b2i bf)), .val (.long q4), .second, .val (.long q5), .second, .val (.int (b2i bl))] [(.int (b2i bf)), (.ref a1)])) _
    refine st114 _ ?_
    show Steps p.tables e below (T114.setTop (mkF m 32 #[.val (.ref a1), .val (.long q1), .second, .val (.long q2), .second, .val .null, .val (.long q3), .second, .val (.int (b2i bf)), .val (.long q4), .second, .val (.long q5), .second, .val (.int (b2i bl))] [])) _
    refine XS.aloadN X114.here hx rfl (hb hby d6_32) rfl rfl ?_
    show Steps p.tables e below (T114.setTop (mkF m 33 #[.val (.ref a1), .val (.long q1), .second, .val (.long q2), .second, .val .null, .val (.long q3), .second, .val (.int (b2i bf)), .val (.long q4), .second, .val (.long q5), .second, .val (.int (b2i bl))] [(.ref a1)])) _
    refine XS.lload X114.here hx rfl (hb hby d6_33) rfl ?_
    show Steps p.tables e below (T114.setTop (mkF m 35 #[.val (.ref a1), .val (.long q1), .second, .val (.long q2), .second, .val .null, .val (.long q3), .second, .val (.int (b2i bf)), .val (.long q4), .second, .val (.long q5), .second, .val (.int (b2i bl))] [(.long q4), (.ref a1)])) _
    refine st117 _ ?_
    show Steps p.tables e below (T117.setTop (mkF m 38 #[.val (.ref a1), .val (.long q1), .second, .val (.long q2), .second, .val .null, .val (.long q3), .second, .val (.int (b2i bf)), .val (.long q4), .second, .val (.long q5), .second, .val (.int (b2i bl))] [])) _
    refine XS.aloadN X117.here hx rfl (hb hby d6_38) rfl rfl ?_
    show Steps p.tables e below (T117.setTop (mkF m 39 #[.val (.ref a1), .val (.long q1), .second, .val (.long q2), .second, .val .null, .val (.long q3), .second, .val (.int (b2i bf)), .val (.long q4), .second, .val (.long q5), .second, .val (.int (b2i bl))] [(.ref a1)])) _
    refine XS.lload X117.here hx rfl (hb hby d6_39) rfl ?_
    show Steps p.tables e below (T117.setTop (mkF m 41 #[.val (.ref a1), .val (.long q1), .second, .val (.long q2), .second, .val .null, .val (.long q3), .second, .val (.int (b2i bf)), .val (.long q4), .second, .val (.long q5), .second, .val (.int (b2i bl))] [(.long q5), (.ref a1)])) _
    refine st120 _ ?_
    show Steps p.tables e below (T120.setTop (mkF m 44 #[.val (.ref a1), .val (.long q1), .second, .val (.long q2), .second, .val .null, .val (.long q3), .second, .val (.int (b2i bf)), .val (.long q4), .second, .val (.long q5), .second, .val (.int (b2i bl))] [])) _
    refine XS.aloadN X120.here hx rfl (hb hby d6_44) rfl rfl ?_
    show Steps p.tables e below (T120.setTop (mkF m 45 #[.val (.ref a1), .val (.long q1), .second, .val (.long q2), .second, .val .null, .val (.long q3), .second, .val (.int (b2i bf)), .val (.long q4), .second, .val (.long q5), .second, .val (.int (b2i bl))] [(.ref a1)])) _
    refine XS.iload X120.here hx rfl (hb hby d6_45) rfl ?_
    show Steps p.tables e below (T120.setTop (mkF m 47 #[.val (.ref a1), .val (.long q1), .second, .val (.long q2), .second, .val .null, .val (.long q3), .second, .val (.int (b2i bf)), .val (.long q4), .second, .val (.long q5), .second, .val (.int (b2i bl))] [(.int (b2i bl)), (.ref a1)])) _
    refine st123 _ ?_
    show Steps p.tables e below (T123.setTop (mkF m 50 #[.val (.ref a1), .val (.long q1), .second, .val (.long q2), .second, .val .null, .val (.long q3), .second, .val (.int (b2i bf)), .val (.long q4), .second, .val (.long q5), .second, .val (.int (b2i bl))] [])) _
    exact X123.returnOut hx Bd.returns (hb hby d6_50) hr
theorem ef_rm6r (m : MethodId) (x0 : Addr) (x1 : Int64) (x2 : Int64) (x3 : Addr) (x4 : Int64) (x5 : Int32) (x6 : Int64) (x7 : Int64) (x8 : Int32) : entryFrame m #[(.ref x0), (.long x1), (.long x2), (.ref x3), (.long x4), (.int x5), (.long x6), (.long x7), (.int x8)] 14 = mkF m 0 #[.val (.ref x0), .val (.long x1), .second, .val (.long x2), .second, .val (.ref x3), .val (.long x4), .second, .val (.int x5), .val (.long x6), .second, .val (.long x7), .second, .val (.int x8)] [] := by first | (simp [entryFrame, mkF, argsToLocals, Value.category]; done) | rfl
def Q6r (Z : State) (a1 : Addr) (q1 : Int64) (q2 : Int64) (a2 : Addr) (q3 : Int64) (q4 : Int64) (q5 : Int64) (bf : Bool) (bl : Bool) (h0 : Heap) (n0 : Nat) (v : Option Value) (h : Heap) (L : List Loc) : Prop := v = none ∧ Fr n0 L ∧ Keep h0 h [a1] ∧ Exa Z h a1 "com/example/stackledger/stackledger/Cleanup$Chosen" ∧ Fld Z h a1 "com/example/stackledger/stackledger/Cleanup$Chosen" "totalPaidCents" "J" (.long q4) ∧ Fld Z h a1 "com/example/stackledger/stackledger/Cleanup$Chosen" "balanceCents" "J" (.long q5) ∧ Fld Z h a1 "com/example/stackledger/stackledger/Cleanup$Chosen" "lost" "Z" (.int (b2i bl))
set_option maxRecDepth 65536 in
set_option maxHeartbeats 40000000 in
theorem rm6r (l : Launch) (Z : State) (a0 : Array Value) (hw : ∀ d ∈ tables_1, d.before a0 Z = true) (ws : List Jvm.Cond) (a1 : Addr) (q1 : Int64) (q2 : Int64) (a2 : Addr) (q3 : Int64) (q4 : Int64) (q5 : Int64) (bf : Bool) (bl : Bool) (h0 : Heap) (n0 : Nat) (Z0 : n0 ≤ h0.size) (g_a1 : n0 ≤ a1) (E_a : Exa Z h0 a1 "com/example/stackledger/stackledger/Cleanup$Chosen") (F_transaction : Fld Z h0 a1 "com/example/stackledger/stackledger/Cleanup$Chosen" "transaction" "J" (.long (0 : Int64))) (F_patron : Fld Z h0 a1 "com/example/stackledger/stackledger/Cleanup$Chosen" "patron" "J" (.long (0 : Int64))) (F_org : Fld Z h0 a1 "com/example/stackledger/stackledger/Cleanup$Chosen" "org" "Ljava/lang/String;" .null) (F_startedAt : Fld Z h0 a1 "com/example/stackledger/stackledger/Cleanup$Chosen" "startedAt" "J" (.long (0 : Int64))) (F_finished : Fld Z h0 a1 "com/example/stackledger/stackledger/Cleanup$Chosen" "finished" "Z" (.int (0 : Int32))) (F_totalPaidCents : Fld Z h0 a1 "com/example/stackledger/stackledger/Cleanup$Chosen" "totalPaidCents" "J" (.long (0 : Int64))) (F_balanceCents : Fld Z h0 a1 "com/example/stackledger/stackledger/Cleanup$Chosen" "balanceCents" "J" (.long (0 : Int64))) (F_lost : Fld Z h0 a1 "com/example/stackledger/stackledger/Cleanup$Chosen" "lost" "Z" (.int (0 : Int32))) :
    OMet l Z (⟨"com/example/stackledger/stackledger/Cleanup$Chosen", "<init>", "(JJLjava/lang/String;JZJJZ)V"⟩ : MethodName) prog_6_method_1_code 14 none ws ({ frames := 2, cells := 0, slots := 0, locals := 24 } : Room) #[(.ref a1), (.long q1), (.long q2), (.ref a2), (.long q3), (.int (b2i bf)), (.long q4), (.long q5), (.int (b2i bl))] h0 (Q6r Z a1 q1 q2 a2 q3 q4 q5 bf bl h0 n0) := by
  refine own_body (plainFor_of_name pn_com_example_stackledger_stackledger_Cleanup_Chosen) ?_
  intro p e s m below meth c s₁ Bd hml0 hZ e0
  have hx := Bd.exec
  have hby := Bd.bytes
  have hml : c.maxLocals = 14 := hml0
  have hown : s.vm.findClass "com/example/stackledger/stackledger/Cleanup$Chosen" = some m.cls := findClass_of_methodNamed Bd.named
  have hnm := (name_of_methodNamed Bd.named Bd.method).1
  have X0 : Stand p l e ({ frames := 2, cells := 0, slots := 0, locals := 24 } : Room) s m #[(.ref a1), (.long q1), (.long q2), (.ref a2), (.long q3), (.int (b2i bf)), (.long q4), (.long q5), (.int (b2i bl))] below meth c s₁ [] 0 0 := Stand.of_body Bd
  have N0 := Fr.nil n0
  have K0 : Keep h0 h0 [a1] := Keep.refl _ _
  rw [ef_rm6r]
  obtain ⟨v101, T101, L101, X101, q101, st101⟩ := own_callI X0 hx hZ (y := (⟨"java/lang/Record", "<init>", "()V"⟩ : MethodName)) rfl hown (hw _ (List.mem_of_getElem? (i := 33) rfl)) (hw _ (List.mem_of_getElem? (i := 34) rfl)) (hw _ (List.mem_of_getElem? (i := 36) rfl)) (hw _ (List.mem_of_getElem? (i := 37) rfl)) (by decide) (a := a1) (hM := (rm7 l Z a0 hw [] a1 h0 n0 Z0)) (by decide) (by decide) (by decide) (by decide) e0 (argsL := []) (rest := []) (Ls := #[.val (.ref a1), .val (.long q1), .second, .val (.long q2), .second, .val (.ref a2), .val (.long q3), .second, .val (.int (b2i bf)), .val (.long q4), .second, .val (.long q5), .second, .val (.int (b2i bl))]) (by rw [hml]; rfl) (lenOf pd___V rfl) (W := 0) (Nat.le_of_eq rfl) (hb hby d6_1)
  obtain ⟨rfl, N101q, e101⟩ := q101
  have N101 := Fr.app N0 N101q
  obtain ⟨T102, h102, X102, e102, W102, st102⟩ := putF X101 hx hZ hown (host := "") (Or.inl (hw _ (List.mem_of_getElem? (i := 39) rfl))) Via.refl e101 F_transaction E_a (Or.inr ⟨(hw _ (List.mem_of_getElem? (i := 40) rfl)), rfl, hnm⟩) (hw _ (List.mem_of_getElem? (i := 27) rfl)) (ty := .long) (by decide) rfl rfl (g := (mkF m 6 #[.val (.ref a1), .val (.long q1), .second, .val (.long q2), .second, .val (.ref a2), .val (.long q3), .second, .val (.int (b2i bf)), .val (.long q4), .second, .val (.long q5), .second, .val (.int (b2i bl))] [(.long q1), (.ref a1)])) rfl rfl (hb hby d6_6)
  have Fw102 := F_transaction.same W102
  have K102 : Keep h0 h102 [a1] := K0.wr W102 (Or.inl (List.mem_of_getElem? (i := 0) rfl))
  have N102 := Fr.snoc X102 N101 g_a1
  have f103 := (F_patron.other W102 (Or.inr (slot_ne (Or.inr (hw _ (List.mem_of_getElem? (i := 42) rfl))) (Or.inr (hw _ (List.mem_of_getElem? (i := 40) rfl))) (by decide) (t := .long) (t' := .long) (by decide) (by decide))))
  have f104 := (E_a.wr W102)
  obtain ⟨T105, h105, X105, e105, W105, st105⟩ := putF X102 hx hZ hown (host := "") (Or.inl (hw _ (List.mem_of_getElem? (i := 41) rfl))) Via.refl e102 f103 f104 (Or.inr ⟨(hw _ (List.mem_of_getElem? (i := 42) rfl)), rfl, hnm⟩) (hw _ (List.mem_of_getElem? (i := 27) rfl)) (ty := .long) (by decide) rfl rfl (g := (mkF m 11 #[.val (.ref a1), .val (.long q1), .second, .val (.long q2), .second, .val (.ref a2), .val (.long q3), .second, .val (.int (b2i bf)), .val (.long q4), .second, .val (.long q5), .second, .val (.int (b2i bl))] [(.long q2), (.ref a1)])) rfl rfl (hb hby d6_11)
  have Fw105 := f103.same W105
  have K105 : Keep h0 h105 [a1] := K102.wr W105 (Or.inl (List.mem_of_getElem? (i := 0) rfl))
  have N105 := Fr.snoc X105 N102 g_a1
  have f106 := ((F_org.other W102 (Or.inr (slot_ne (Or.inr (hw _ (List.mem_of_getElem? (i := 44) rfl))) (Or.inr (hw _ (List.mem_of_getElem? (i := 40) rfl))) (by decide) (t := (.object "java/lang/String")) (t' := .long) (by decide) (by decide)))).other W105 (Or.inr (slot_ne (Or.inr (hw _ (List.mem_of_getElem? (i := 44) rfl))) (Or.inr (hw _ (List.mem_of_getElem? (i := 42) rfl))) (by decide) (t := (.object "java/lang/String")) (t' := .long) (by decide) (by decide))))
  have f107 := (f104.wr W105)
  obtain ⟨T108, h108, X108, e108, W108, st108⟩ := putF X105 hx hZ hown (host := "") (Or.inl (hw _ (List.mem_of_getElem? (i := 43) rfl))) Via.refl e105 f106 f107 (Or.inr ⟨(hw _ (List.mem_of_getElem? (i := 44) rfl)), rfl, hnm⟩) (hw _ (List.mem_of_getElem? (i := 27) rfl)) (ty := (.object "java/lang/String")) (by decide) rfl rfl (g := (mkF m 17 #[.val (.ref a1), .val (.long q1), .second, .val (.long q2), .second, .val (.ref a2), .val (.long q3), .second, .val (.int (b2i bf)), .val (.long q4), .second, .val (.long q5), .second, .val (.int (b2i bl))] [(.ref a2), (.ref a1)])) rfl rfl (hb hby d6_17)
  have Fw108 := f106.same W108
  have K108 : Keep h0 h108 [a1] := K105.wr W108 (Or.inl (List.mem_of_getElem? (i := 0) rfl))
  have N108 := Fr.snoc X108 N105 g_a1
  have f109 := (((F_startedAt.other W102 (Or.inr (slot_ne (Or.inr (hw _ (List.mem_of_getElem? (i := 46) rfl))) (Or.inr (hw _ (List.mem_of_getElem? (i := 40) rfl))) (by decide) (t := .long) (t' := .long) (by decide) (by decide)))).other W105 (Or.inr (slot_ne (Or.inr (hw _ (List.mem_of_getElem? (i := 46) rfl))) (Or.inr (hw _ (List.mem_of_getElem? (i := 42) rfl))) (by decide) (t := .long) (t' := .long) (by decide) (by decide)))).other W108 (Or.inr (slot_ne (Or.inr (hw _ (List.mem_of_getElem? (i := 46) rfl))) (Or.inr (hw _ (List.mem_of_getElem? (i := 44) rfl))) (by decide) (t := .long) (t' := (.object "java/lang/String")) (by decide) (by decide))))
  have f110 := (f107.wr W108)
  obtain ⟨T111, h111, X111, e111, W111, st111⟩ := putF X108 hx hZ hown (host := "") (Or.inl (hw _ (List.mem_of_getElem? (i := 45) rfl))) Via.refl e108 f109 f110 (Or.inr ⟨(hw _ (List.mem_of_getElem? (i := 46) rfl)), rfl, hnm⟩) (hw _ (List.mem_of_getElem? (i := 27) rfl)) (ty := .long) (by decide) rfl rfl (g := (mkF m 23 #[.val (.ref a1), .val (.long q1), .second, .val (.long q2), .second, .val (.ref a2), .val (.long q3), .second, .val (.int (b2i bf)), .val (.long q4), .second, .val (.long q5), .second, .val (.int (b2i bl))] [(.long q3), (.ref a1)])) rfl rfl (hb hby d6_23)
  have Fw111 := f109.same W111
  have K111 : Keep h0 h111 [a1] := K108.wr W111 (Or.inl (List.mem_of_getElem? (i := 0) rfl))
  have N111 := Fr.snoc X111 N108 g_a1
  have f112 := ((((F_finished.other W102 (Or.inr (slot_ne (Or.inr (hw _ (List.mem_of_getElem? (i := 48) rfl))) (Or.inr (hw _ (List.mem_of_getElem? (i := 40) rfl))) (by decide) (t := .boolean) (t' := .long) (by decide) (by decide)))).other W105 (Or.inr (slot_ne (Or.inr (hw _ (List.mem_of_getElem? (i := 48) rfl))) (Or.inr (hw _ (List.mem_of_getElem? (i := 42) rfl))) (by decide) (t := .boolean) (t' := .long) (by decide) (by decide)))).other W108 (Or.inr (slot_ne (Or.inr (hw _ (List.mem_of_getElem? (i := 48) rfl))) (Or.inr (hw _ (List.mem_of_getElem? (i := 44) rfl))) (by decide) (t := .boolean) (t' := (.object "java/lang/String")) (by decide) (by decide)))).other W111 (Or.inr (slot_ne (Or.inr (hw _ (List.mem_of_getElem? (i := 48) rfl))) (Or.inr (hw _ (List.mem_of_getElem? (i := 46) rfl))) (by decide) (t := .boolean) (t' := .long) (by decide) (by decide))))
  have f113 := (f110.wr W111)
  obtain ⟨T114, h114, X114, e114, W114, st114⟩ := putFN X111 hx hZ hown (hw _ (List.mem_of_getElem? (i := 47) rfl)) Via.refl e111 f112 f113 (Or.inr ⟨(hw _ (List.mem_of_getElem? (i := 48) rfl)), rfl, hnm⟩) (hw _ (List.mem_of_getElem? (i := 27) rfl)) (ty := .boolean) (v' := (.int (b2i bf))) (by decide) (own_narrow_b2i _) (own_fits_b2i _) (g := (mkF m 29 #[.val (.ref a1), .val (.long q1), .second, .val (.long q2), .second, .val (.ref a2), .val (.long q3), .second, .val (.int (b2i bf)), .val (.long q4), .second, .val (.long q5), .second, .val (.int (b2i bl))] [(.int (b2i bf)), (.ref a1)])) rfl rfl (hb hby d6_29)
  have Fw114 := f112.same W114
  have K114 : Keep h0 h114 [a1] := K111.wr W114 (Or.inl (List.mem_of_getElem? (i := 0) rfl))
  have N114 := Fr.snoc X114 N111 g_a1
  have f115 := (((((F_totalPaidCents.other W102 (Or.inr (slot_ne (Or.inr (hw _ (List.mem_of_getElem? (i := 50) rfl))) (Or.inr (hw _ (List.mem_of_getElem? (i := 40) rfl))) (by decide) (t := .long) (t' := .long) (by decide) (by decide)))).other W105 (Or.inr (slot_ne (Or.inr (hw _ (List.mem_of_getElem? (i := 50) rfl))) (Or.inr (hw _ (List.mem_of_getElem? (i := 42) rfl))) (by decide) (t := .long) (t' := .long) (by decide) (by decide)))).other W108 (Or.inr (slot_ne (Or.inr (hw _ (List.mem_of_getElem? (i := 50) rfl))) (Or.inr (hw _ (List.mem_of_getElem? (i := 44) rfl))) (by decide) (t := .long) (t' := (.object "java/lang/String")) (by decide) (by decide)))).other W111 (Or.inr (slot_ne (Or.inr (hw _ (List.mem_of_getElem? (i := 50) rfl))) (Or.inr (hw _ (List.mem_of_getElem? (i := 46) rfl))) (by decide) (t := .long) (t' := .long) (by decide) (by decide)))).other W114 (Or.inr (slot_ne (Or.inr (hw _ (List.mem_of_getElem? (i := 50) rfl))) (Or.inr (hw _ (List.mem_of_getElem? (i := 48) rfl))) (by decide) (t := .long) (t' := .boolean) (by decide) (by decide))))
  have f116 := (f113.wr W114)
  obtain ⟨T117, h117, X117, e117, W117, st117⟩ := putF X114 hx hZ hown (host := "") (Or.inl (hw _ (List.mem_of_getElem? (i := 49) rfl))) Via.refl e114 f115 f116 (Or.inr ⟨(hw _ (List.mem_of_getElem? (i := 50) rfl)), rfl, hnm⟩) (hw _ (List.mem_of_getElem? (i := 27) rfl)) (ty := .long) (by decide) rfl rfl (g := (mkF m 35 #[.val (.ref a1), .val (.long q1), .second, .val (.long q2), .second, .val (.ref a2), .val (.long q3), .second, .val (.int (b2i bf)), .val (.long q4), .second, .val (.long q5), .second, .val (.int (b2i bl))] [(.long q4), (.ref a1)])) rfl rfl (hb hby d6_35)
  have Fw117 := f115.same W117
  have K117 : Keep h0 h117 [a1] := K114.wr W117 (Or.inl (List.mem_of_getElem? (i := 0) rfl))
  have N117 := Fr.snoc X117 N114 g_a1
  have f118 := ((((((F_balanceCents.other W102 (Or.inr (slot_ne (Or.inr (hw _ (List.mem_of_getElem? (i := 52) rfl))) (Or.inr (hw _ (List.mem_of_getElem? (i := 40) rfl))) (by decide) (t := .long) (t' := .long) (by decide) (by decide)))).other W105 (Or.inr (slot_ne (Or.inr (hw _ (List.mem_of_getElem? (i := 52) rfl))) (Or.inr (hw _ (List.mem_of_getElem? (i := 42) rfl))) (by decide) (t := .long) (t' := .long) (by decide) (by decide)))).other W108 (Or.inr (slot_ne (Or.inr (hw _ (List.mem_of_getElem? (i := 52) rfl))) (Or.inr (hw _ (List.mem_of_getElem? (i := 44) rfl))) (by decide) (t := .long) (t' := (.object "java/lang/String")) (by decide) (by decide)))).other W111 (Or.inr (slot_ne (Or.inr (hw _ (List.mem_of_getElem? (i := 52) rfl))) (Or.inr (hw _ (List.mem_of_getElem? (i := 46) rfl))) (by decide) (t := .long) (t' := .long) (by decide) (by decide)))).other W114 (Or.inr (slot_ne (Or.inr (hw _ (List.mem_of_getElem? (i := 52) rfl))) (Or.inr (hw _ (List.mem_of_getElem? (i := 48) rfl))) (by decide) (t := .long) (t' := .boolean) (by decide) (by decide)))).other W117 (Or.inr (slot_ne (Or.inr (hw _ (List.mem_of_getElem? (i := 52) rfl))) (Or.inr (hw _ (List.mem_of_getElem? (i := 50) rfl))) (by decide) (t := .long) (t' := .long) (by decide) (by decide))))
  have f119 := (f116.wr W117)
  obtain ⟨T120, h120, X120, e120, W120, st120⟩ := putF X117 hx hZ hown (host := "") (Or.inl (hw _ (List.mem_of_getElem? (i := 51) rfl))) Via.refl e117 f118 f119 (Or.inr ⟨(hw _ (List.mem_of_getElem? (i := 52) rfl)), rfl, hnm⟩) (hw _ (List.mem_of_getElem? (i := 27) rfl)) (ty := .long) (by decide) rfl rfl (g := (mkF m 41 #[.val (.ref a1), .val (.long q1), .second, .val (.long q2), .second, .val (.ref a2), .val (.long q3), .second, .val (.int (b2i bf)), .val (.long q4), .second, .val (.long q5), .second, .val (.int (b2i bl))] [(.long q5), (.ref a1)])) rfl rfl (hb hby d6_41)
  have Fw120 := f118.same W120
  have K120 : Keep h0 h120 [a1] := K117.wr W120 (Or.inl (List.mem_of_getElem? (i := 0) rfl))
  have N120 := Fr.snoc X120 N117 g_a1
  have f121 := (((((((F_lost.other W102 (Or.inr (slot_ne (Or.inr (hw _ (List.mem_of_getElem? (i := 54) rfl))) (Or.inr (hw _ (List.mem_of_getElem? (i := 40) rfl))) (by decide) (t := .boolean) (t' := .long) (by decide) (by decide)))).other W105 (Or.inr (slot_ne (Or.inr (hw _ (List.mem_of_getElem? (i := 54) rfl))) (Or.inr (hw _ (List.mem_of_getElem? (i := 42) rfl))) (by decide) (t := .boolean) (t' := .long) (by decide) (by decide)))).other W108 (Or.inr (slot_ne (Or.inr (hw _ (List.mem_of_getElem? (i := 54) rfl))) (Or.inr (hw _ (List.mem_of_getElem? (i := 44) rfl))) (by decide) (t := .boolean) (t' := (.object "java/lang/String")) (by decide) (by decide)))).other W111 (Or.inr (slot_ne (Or.inr (hw _ (List.mem_of_getElem? (i := 54) rfl))) (Or.inr (hw _ (List.mem_of_getElem? (i := 46) rfl))) (by decide) (t := .boolean) (t' := .long) (by decide) (by decide)))).other W114 (Or.inr (slot_ne (Or.inr (hw _ (List.mem_of_getElem? (i := 54) rfl))) (Or.inr (hw _ (List.mem_of_getElem? (i := 48) rfl))) (by decide) (t := .boolean) (t' := .boolean) (by decide) (by decide)))).other W117 (Or.inr (slot_ne (Or.inr (hw _ (List.mem_of_getElem? (i := 54) rfl))) (Or.inr (hw _ (List.mem_of_getElem? (i := 50) rfl))) (by decide) (t := .boolean) (t' := .long) (by decide) (by decide)))).other W120 (Or.inr (slot_ne (Or.inr (hw _ (List.mem_of_getElem? (i := 54) rfl))) (Or.inr (hw _ (List.mem_of_getElem? (i := 52) rfl))) (by decide) (t := .boolean) (t' := .long) (by decide) (by decide))))
  have f122 := (f119.wr W120)
  obtain ⟨T123, h123, X123, e123, W123, st123⟩ := putFN X120 hx hZ hown (hw _ (List.mem_of_getElem? (i := 53) rfl)) Via.refl e120 f121 f122 (Or.inr ⟨(hw _ (List.mem_of_getElem? (i := 54) rfl)), rfl, hnm⟩) (hw _ (List.mem_of_getElem? (i := 27) rfl)) (ty := .boolean) (v' := (.int (b2i bl))) (by decide) (own_narrow_b2i _) (own_fits_b2i _) (g := (mkF m 47 #[.val (.ref a1), .val (.long q1), .second, .val (.long q2), .second, .val (.ref a2), .val (.long q3), .second, .val (.int (b2i bf)), .val (.long q4), .second, .val (.long q5), .second, .val (.int (b2i bl))] [(.int (b2i bl)), (.ref a1)])) rfl rfl (hb hby d6_47)
  have Fw123 := f121.same W123
  have K123 : Keep h0 h123 [a1] := K120.wr W123 (Or.inl (List.mem_of_getElem? (i := 0) rfl))
  have N123 := Fr.snoc X123 N120 g_a1
  have f124 := (f122.wr W123)
  have f125 := ((Fw117.other W120 (Or.inr (slot_ne (Or.inr (hw _ (List.mem_of_getElem? (i := 50) rfl))) (Or.inr (hw _ (List.mem_of_getElem? (i := 52) rfl))) (by decide) (t := .long) (t' := .long) (by decide) (by decide)))).other W123 (Or.inr (slot_ne (Or.inr (hw _ (List.mem_of_getElem? (i := 50) rfl))) (Or.inr (hw _ (List.mem_of_getElem? (i := 54) rfl))) (by decide) (t := .long) (t' := .boolean) (by decide) (by decide))))
  have f126 := (Fw120.other W123 (Or.inr (slot_ne (Or.inr (hw _ (List.mem_of_getElem? (i := 52) rfl))) (Or.inr (hw _ (List.mem_of_getElem? (i := 54) rfl))) (by decide) (t := .long) (t' := .boolean) (by decide) (by decide))))
  refine Gl.fin X123 (v := none) (fun _ => rfl) Bd.notSynchronized ?_ e123 (by decide) (by decide) (fun fs hr => ?_)
  · exact ⟨rfl, N123, K123, f124, f125, f126, Fw123⟩
  · show Steps p.tables e below (s₁.setTop (mkF m 0 #[.val (.ref a1), .val (.long q1), .second, .val (.long q2), .second, .val (.ref a2), .val (.long q3), .second, .val (.int (b2i bf)), .val (.long q4), .second, .val (.long q5), .second, .val (.int (b2i bl))] [])) _
    refine XS.aloadN X0.here hx rfl (hb hby d6_0) rfl rfl ?_
    show Steps p.tables e below (s₁.setTop (mkF m 1 #[.val (.ref a1), .val (.long q1), .second, .val (.long q2), .second, .val (.ref a2), .val (.long q3), .second, .val (.int (b2i bf)), .val (.long q4), .second, .val (.long q5), .second, .val (.int (b2i bl))] [(.ref a1)])) _
    refine st101 _ ?_
    show Steps p.tables e below (T101.setTop (mkF m 4 #[.val (.ref a1), .val (.long q1), .second, .val (.long q2), .second, .val (.ref a2), .val (.long q3), .second, .val (.int (b2i bf)), .val (.long q4), .second, .val (.long q5), .second, .val (.int (b2i bl))] [])) _
    refine XS.aloadN X101.here hx rfl (hb hby d6_4) rfl rfl ?_
    show Steps p.tables e below (T101.setTop (mkF m 5 #[.val (.ref a1), .val (.long q1), .second, .val (.long q2), .second, .val (.ref a2), .val (.long q3), .second, .val (.int (b2i bf)), .val (.long q4), .second, .val (.long q5), .second, .val (.int (b2i bl))] [(.ref a1)])) _
    refine XS.lloadN X101.here hx rfl (hb hby d6_5) rfl ?_
    show Steps p.tables e below (T101.setTop (mkF m 6 #[.val (.ref a1), .val (.long q1), .second, .val (.long q2), .second, .val (.ref a2), .val (.long q3), .second, .val (.int (b2i bf)), .val (.long q4), .second, .val (.long q5), .second, .val (.int (b2i bl))] [(.long q1), (.ref a1)])) _
    refine st102 _ ?_
    show Steps p.tables e below (T102.setTop (mkF m 9 #[.val (.ref a1), .val (.long q1), .second, .val (.long q2), .second, .val (.ref a2), .val (.long q3), .second, .val (.int (b2i bf)), .val (.long q4), .second, .val (.long q5), .second, .val (.int (b2i bl))] [])) _
    refine XS.aloadN X102.here hx rfl (hb hby d6_9) rfl rfl ?_
    show Steps p.tables e below (T102.setTop (mkF m 10 #[.val (.ref a1), .val (.long q1), .second, .val (.long q2), .second, .val (.ref a2), .val (.long q3), .second, .val (.int (b2i bf)), .val (.long q4), .second, .val (.long q5), .second, .val (.int (b2i bl))] [(.ref a1)])) _
    refine XS.lloadN X102.here hx rfl (hb hby d6_10) rfl ?_
    show Steps p.tables e below (T102.setTop (mkF m 11 #[.val (.ref a1), .val (.long q1), .second, .val (.long q2), .second, .val (.ref a2), .val (.long q3), .second, .val (.int (b2i bf)), .val (.long q4), .second, .val (.long q5), .second, .val (.int (b2i bl))] [(.long q2), (.ref a1)])) _
    refine st105 _ ?_
    show Steps p.tables e below (T105.setTop (mkF m 14 #[.val (.ref a1), .val (.long q1), .second, .val (.long q2), .second, .val (.ref a2), .val (.long q3), .second, .val (.int (b2i bf)), .val (.long q4), .second, .val (.long q5), .second, .val (.int (b2i bl))] [])) _
    refine XS.aloadN X105.here hx rfl (hb hby d6_14) rfl rfl ?_
    show Steps p.tables e below (T105.setTop (mkF m 15 #[.val (.ref a1), .val (.long q1), .second, .val (.long q2), .second, .val (.ref a2), .val (.long q3), .second, .val (.int (b2i bf)), .val (.long q4), .second, .val (.long q5), .second, .val (.int (b2i bl))] [(.ref a1)])) _
    refine XS.aload X105.here hx rfl (hb hby d6_15) rfl rfl ?_
    show Steps p.tables e below (T105.setTop (mkF m 17 #[.val (.ref a1), .val (.long q1), .second, .val (.long q2), .second, .val (.ref a2), .val (.long q3), .second, .val (.int (b2i bf)), .val (.long q4), .second, .val (.long q5), .second, .val (.int (b2i bl))] [(.ref a2), (.ref a1)])) _
    refine st108 _ ?_
    show Steps p.tables e below (T108.setTop (mkF m 20 #[.val (.ref a1), .val (.long q1), .second, .val (.long q2), .second, .val (.ref a2), .val (.long q3), .second, .val (.int (b2i bf)), .val (.long q4), .second, .val (.long q5), .second, .val (.int (b2i bl))] [])) _
    refine XS.aloadN X108.here hx rfl (hb hby d6_20) rfl rfl ?_
    show Steps p.tables e below (T108.setTop (mkF m 21 #[.val (.ref a1), .val (.long q1), .second, .val (.long q2), .second, .val (.ref a2), .val (.long q3), .second, .val (.int (b2i bf)), .val (.long q4), .second, .val (.long q5), .second, .val (.int (b2i bl))] [(.ref a1)])) _
    refine XS.lload X108.here hx rfl (hb hby d6_21) rfl ?_
    show Steps p.tables e below (T108.setTop (mkF m 23 #[.val (.ref a1), .val (.long q1), .second, .val (.long q2), .second, .val (.ref a2), .val (.long q3), .second, .val (.int (b2i bf)), .val (.long q4), .second, .val (.long q5), .second, .val (.int (b2i bl))] [(.long q3), (.ref a1)])) _
    refine st111 _ ?_
    show Steps p.tables e below (T111.setTop (mkF m 26 #[.val (.ref a1), .val (.long q1), .second, .val (.long q2), .second, .val (.ref a2), .val (.long q3), .second, .val (.int (b2i bf)), .val (.long q4), .second, .val (.long q5), .second, .val (.int (b2i bl))] [])) _
    refine XS.aloadN X111.here hx rfl (hb hby d6_26) rfl rfl ?_
    show Steps p.tables e below (T111.setTop (mkF m 27 #[.val (.ref a1), .val (.long q1), .second, .val (.long q2), .second, .val (.ref a2), .val (.long q3), .second, .val (.int (b2i bf)), .val (.long q4), .second, .val (.long q5), .second, .val (.int (b2i bl))] [(.ref a1)])) _
    refine XS.iload X111.here hx rfl (hb hby d6_27) rfl ?_
    show Steps p.tables e below (T111.setTop (mkF m 29 #[.val (.ref a1), .val (.long q1), .second, .val (.long q2), .second, .val (.ref a2), .val (.long q3), .second, .val (.int (b2i bf)), .val (.long q4), .second, .val (.long q5), .second, .val (.int (b2i bl))] [(.int (b2i bf)), (.ref a1)])) _
    refine st114 _ ?_
    show Steps p.tables e below (T114.setTop (mkF m 32 #[.val (.ref a1), .val (.long q1), .second, .val (.long q2), .second, .val (.ref a2), .val (.long q3), .second, .val (.int (b2i bf)), .val (.long q4), .second, .val (.long q5), .second, .val (.int (b2i bl))] [])) _
    refine XS.aloadN X114.here hx rfl (hb hby d6_32) rfl rfl ?_
    show Steps p.tables e below (T114.setTop (mkF m 33 #[.val (.ref a1), .val (.long q1), .second, .val (.long q2), .second, .val (.ref a2), .val (.long q3), .second, .val (.int (b2i bf)), .val (.long q4), .second, .val (.long q5), .second, .val (.int (b2i bl))] [(.ref a1)])) _
    refine XS.lload X114.here hx rfl (hb hby d6_33) rfl ?_
    show Steps p.tables e below (T114.setTop (mkF m 35 #[.val (.ref a1), .val (.long q1), .second, .val (.long q2), .second, .val (.ref a2), .val (.long q3), .second, .val (.int (b2i bf)), .val (.long q4), .second, .val (.long q5), .second, .val (.int (b2i bl))] [(.long q4), (.ref a1)])) _
    refine st117 _ ?_
    show Steps p.tables e below (T117.setTop (mkF m 38 #[.val (.ref a1), .val (.long q1), .second, .val (.long q2), .second, .val (.ref a2), .val (.long q3), .second, .val (.int (b2i bf)), .val (.long q4), .second, .val (.long q5), .second, .val (.int (b2i bl))] [])) _
    refine XS.aloadN X117.here hx rfl (hb hby d6_38) rfl rfl ?_
    show Steps p.tables e below (T117.setTop (mkF m 39 #[.val (.ref a1), .val (.long q1), .second, .val (.long q2), .second, .val (.ref a2), .val (.long q3), .second, .val (.int (b2i bf)), .val (.long q4), .second, .val (.long q5), .second, .val (.int (b2i bl))] [(.ref a1)])) _
    refine XS.lload X117.here hx rfl (hb hby d6_39) rfl ?_
    show Steps p.tables e below (T117.setTop (mkF m 41 #[.val (.ref a1), .val (.long q1), .second, .val (.long q2), .second, .val (.ref a2), .val (.long q3), .second, .val (.int (b2i bf)), .val (.long q4), .second, .val (.long q5), .second, .val (.int (b2i bl))] [(.long q5), (.ref a1)])) _
    refine st120 _ ?_
    show Steps p.tables e below (T120.setTop (mkF m 44 #[.val (.ref a1), .val (.long q1), .second, .val (.long q2), .second, .val (.ref a2), .val (.long q3), .second, .val (.int (b2i bf)), .val (.long q4), .second, .val (.long q5), .second, .val (.int (b2i bl))] [])) _
    refine XS.aloadN X120.here hx rfl (hb hby d6_44) rfl rfl ?_
    show Steps p.tables e below (T120.setTop (mkF m 45 #[.val (.ref a1), .val (.long q1), .second, .val (.long q2), .second, .val (.ref a2), .val (.long q3), .second, .val (.int (b2i bf)), .val (.long q4), .second, .val (.long q5), .second, .val (.int (b2i bl))] [(.ref a1)])) _
    refine XS.iload X120.here hx rfl (hb hby d6_45) rfl ?_
    show Steps p.tables e below (T120.setTop (mkF m 47 #[.val (.ref a1), .val (.long q1), .second, .val (.long q2), .second, .val (.ref a2), .val (.long q3), .second, .val (.int (b2i bf)), .val (.long q4), .second, .val (.long q5), .second, .val (.int (b2i bl))] [(.int (b2i bl)), (.ref a1)])) _
    refine st123 _ ?_
    show Steps p.tables e below (T123.setTop (mkF m 50 #[.val (.ref a1), .val (.long q1), .second, .val (.long q2), .second, .val (.ref a2), .val (.long q3), .second, .val (.int (b2i bf)), .val (.long q4), .second, .val (.long q5), .second, .val (.int (b2i bl))] [])) _
    exact X123.returnOut hx Bd.returns (hb hby d6_50) hr
theorem ef_rm8 (m : MethodId) (x0 : Addr) : entryFrame m #[(.ref x0)] 1 = mkF m 0 #[.val (.ref x0)] [] := by first | (simp [entryFrame, mkF, argsToLocals, Value.category]; done) | rfl
theorem d8_0 : decode prog_6_method_2_code 0 = .ok (.aload_n 0, 1) := by decide +kernel
theorem d8_1 : decode prog_6_method_2_code 1 = .ok (.getfield 33, 3) := by decide +kernel
theorem d8_4 : decode prog_6_method_2_code 4 = .ok (.ifCond .eq 7, 3) := by decide +kernel
theorem d8_7 : decode prog_6_method_2_code 7 = .ok (.getstatic 36, 3) := by decide +kernel
theorem d8_10 : decode prog_6_method_2_code 10 = .ok (.areturn, 1) := by decide +kernel
theorem d8_11 : decode prog_6_method_2_code 11 = .ok (.aload_n 0, 1) := by decide +kernel
theorem d8_12 : decode prog_6_method_2_code 12 = .ok (.getfield 30, 3) := by decide +kernel
theorem d8_15 : decode prog_6_method_2_code 15 = .ok (.lconst 0, 1) := by decide +kernel
theorem d8_16 : decode prog_6_method_2_code 16 = .ok (.lcmp, 1) := by decide +kernel
theorem d8_17 : decode prog_6_method_2_code 17 = .ok (.ifCond .ge 7, 3) := by decide +kernel
theorem d8_20 : decode prog_6_method_2_code 20 = .ok (.getstatic 42, 3) := by decide +kernel
theorem d8_23 : decode prog_6_method_2_code 23 = .ok (.areturn, 1) := by decide +kernel
theorem d8_24 : decode prog_6_method_2_code 24 = .ok (.aload_n 0, 1) := by decide +kernel
theorem d8_25 : decode prog_6_method_2_code 25 = .ok (.getfield 27, 3) := by decide +kernel
theorem d8_28 : decode prog_6_method_2_code 28 = .ok (.lconst 0, 1) := by decide +kernel
theorem d8_29 : decode prog_6_method_2_code 29 = .ok (.lcmp, 1) := by decide +kernel
theorem d8_30 : decode prog_6_method_2_code 30 = .ok (.ifCond .ne 9, 3) := by decide +kernel
theorem d8_33 : decode prog_6_method_2_code 33 = .ok (.getstatic 45, 3) := by decide +kernel
theorem d8_36 : decode prog_6_method_2_code 36 = .ok (.goto 6, 3) := by decide +kernel
theorem d8_42 : decode prog_6_method_2_code 42 = .ok (.areturn, 1) := by decide +kernel
theorem d8_39 : decode prog_6_method_2_code 39 = .ok (.getstatic 48, 3) := by decide +kernel
def Q8 (Z : State) (a1 : Addr) (bl : Bool) (q1 : Int64) (q2 : Int64) (sk : Addr) (ov : Addr) (vo : Addr) (fo : Addr) (h0 : Heap) (n0 : Nat) (v : Option Value) (h : Heap) (L : List Loc) : Prop := v = some (.ref (if bl = true then sk else if q1 < (0 : Int64) then ov else if q2 = (0 : Int64) then vo else fo)) ∧ Fr n0 L ∧ h = h0
set_option maxRecDepth 65536 in
set_option maxHeartbeats 40000000 in
theorem rm8 (l : Launch) (Z : State) (a0 : Array Value) (hw : ∀ d ∈ tables_1, d.before a0 Z = true) (ws : List Jvm.Cond) (a1 : Addr) (bl : Bool) (q1 : Int64) (q2 : Int64) (sk : Addr) (ov : Addr) (vo : Addr) (fo : Addr) (h0 : Heap) (n0 : Nat) (Z0 : n0 ≤ h0.size) (F_l : Fld Z h0 a1 "com/example/stackledger/stackledger/Cleanup$Chosen" "lost" "Z" (.int (b2i bl))) (F_b : Fld Z h0 a1 "com/example/stackledger/stackledger/Cleanup$Chosen" "balanceCents" "J" (.long q1)) (F_p : Fld Z h0 a1 "com/example/stackledger/stackledger/Cleanup$Chosen" "totalPaidCents" "J" (.long q2)) (S_sk : Sta Z h0 "com/example/stackledger/stackledger/Cleanup$Action" "SKIP_LOST" "Lcom/example/stackledger/stackledger/Cleanup$Action;" (.ref sk)) (S_ov : Sta Z h0 "com/example/stackledger/stackledger/Cleanup$Action" "OVERPAYMENT" "Lcom/example/stackledger/stackledger/Cleanup$Action;" (.ref ov)) (S_vo : Sta Z h0 "com/example/stackledger/stackledger/Cleanup$Action" "VOID" "Lcom/example/stackledger/stackledger/Cleanup$Action;" (.ref vo)) (S_fo : Sta Z h0 "com/example/stackledger/stackledger/Cleanup$Action" "FORGIVE" "Lcom/example/stackledger/stackledger/Cleanup$Action;" (.ref fo)) :
    OMet l Z (⟨"com/example/stackledger/stackledger/Cleanup$Chosen", "action", "()Lcom/example/stackledger/stackledger/Cleanup$Action;"⟩ : MethodName) prog_6_method_2_code 1 (some (.object "com/example/stackledger/stackledger/Cleanup$Action")) ws ({ frames := 0, cells := 0, slots := 0, locals := 0 } : Room) #[(.ref a1)] h0 (Q8 Z a1 bl q1 q2 sk ov vo fo h0 n0) := by
  refine own_body (plainFor_of_name pn_com_example_stackledger_stackledger_Cleanup_Chosen) ?_
  intro p e s m below meth c s₁ Bd hml0 hZ e0
  have hx := Bd.exec
  have hby := Bd.bytes
  have hml : c.maxLocals = 1 := hml0
  have hown : s.vm.findClass "com/example/stackledger/stackledger/Cleanup$Chosen" = some m.cls := findClass_of_methodNamed Bd.named
  have hnm := (name_of_methodNamed Bd.named Bd.method).1
  have X0 : Stand p l e ({ frames := 0, cells := 0, slots := 0, locals := 0 } : Room) s m #[(.ref a1)] below meth c s₁ [] 0 0 := Stand.of_body Bd
  have N0 := Fr.nil n0
  have K0 : Keep h0 h0 [] := Keep.refl _ _
  rw [ef_rm8]
  obtain ⟨T101, X101, e101, st101⟩ := getF X0 hx hZ hown (host := "") (Or.inl (hw _ (List.mem_of_getElem? (i := 53) rfl))) Via.refl e0 F_l (g := (mkF m 1 #[.val (.ref a1)] [(.ref a1)])) rfl rfl (hb hby d8_1)
  refine Gl.pre (S' := T101.setTop (mkF m 4 #[.val (.ref a1)] [(.int (b2i bl))])) (fun t kt => ?_) ?_
  · show Steps p.tables e below (s₁.setTop (mkF m 0 #[.val (.ref a1)] [])) _
    refine XS.aloadN X0.here hx rfl (hb hby d8_0) rfl rfl ?_
    show Steps p.tables e below (s₁.setTop (mkF m 1 #[.val (.ref a1)] [(.ref a1)])) _
    refine st101 _ ?_
    exact kt
  by_cases hc4 : bl = true
  · obtain ⟨T102, X102, e102, st102⟩ := getS2 X101 hx hZ hown (host := "") (Or.inl (hw _ (List.mem_of_getElem? (i := 66) rfl))) Via.refl e101 S_sk (g := (mkF m 7 #[.val (.ref a1)] [])) rfl (hb hby d8_7)
    refine Gl.fin X102 (v := some (.ref sk)) (fun h => by rw [Bd.returns] at h; cases h) Bd.notSynchronized ?_ e102 (by decide) (by decide) (fun fs hr => ?_)
    · exact ⟨by simp [hc4], N0, rfl⟩
    · show Steps p.tables e below (T101.setTop (mkF m 4 #[.val (.ref a1)] [(.int (b2i bl))])) _
      refine XS.ifNo X101.here hx rfl (hb hby d8_4) rfl (own_nbf (b0_eq _) hc4) ?_
      show Steps p.tables e below (T101.setTop (mkF m 7 #[.val (.ref a1)] [])) _
      refine st102 _ ?_
      show Steps p.tables e below (T102.setTop (mkF m 10 #[.val (.ref a1)] [(.ref sk)])) _
      exact own_retR X102 hx Bd.returns rfl rfl rfl (hb hby d8_10) hr
  · obtain ⟨T103, X103, e103, st103⟩ := getF X101 hx hZ hown (host := "") (Or.inl (hw _ (List.mem_of_getElem? (i := 51) rfl))) Via.refl e101 F_b (g := (mkF m 12 #[.val (.ref a1)] [(.ref a1)])) rfl rfl (hb hby d8_12)
    refine Gl.pre (S' := T103.setTop (mkF m 17 #[.val (.ref a1)] [(.int (lcmpW q1 (0 : Int64)))])) (fun t kt => ?_) ?_
    · show Steps p.tables e below (T101.setTop (mkF m 4 #[.val (.ref a1)] [(.int (b2i bl))])) _
      refine XS.ifYes X101.here hx rfl (pc0 := 4) (pc' := 11) rfl (hb hby d8_4) rfl (own_nbt (b0_eq _) (Bool.eq_false_iff.mpr hc4)) (by decide) (by decide) ?_
      show Steps p.tables e below (T101.setTop (mkF m 11 #[.val (.ref a1)] [])) _
      refine XS.aloadN X101.here hx rfl (hb hby d8_11) rfl rfl ?_
      show Steps p.tables e below (T101.setTop (mkF m 12 #[.val (.ref a1)] [(.ref a1)])) _
      refine st103 _ ?_
      show Steps p.tables e below (T103.setTop (mkF m 15 #[.val (.ref a1)] [(.long q1)])) _
      refine XS.lconst X103.here hx rfl (hb hby d8_15) ?_
      show Steps p.tables e below (T103.setTop (mkF m 16 #[.val (.ref a1)] [(.long (0 : Int64)), (.long q1)])) _
      refine XS.lcmp X103.here hx rfl (hb hby d8_16) rfl ?_
      exact kt
    by_cases hc17 : q1 < (0 : Int64)
    · obtain ⟨T104, X104, e104, st104⟩ := getS2 X103 hx hZ hown (host := "") (Or.inl (hw _ (List.mem_of_getElem? (i := 69) rfl))) Via.refl e103 S_ov (g := (mkF m 20 #[.val (.ref a1)] [])) rfl (hb hby d8_20)
      refine Gl.fin X104 (v := some (.ref ov)) (fun h => by rw [Bd.returns] at h; cases h) Bd.notSynchronized ?_ e104 (by decide) (by decide) (fun fs hr => ?_)
      · exact ⟨by simp [hc4, hc17], N0, rfl⟩
      · show Steps p.tables e below (T103.setTop (mkF m 17 #[.val (.ref a1)] [(.int (lcmpW q1 (0 : Int64)))])) _
        refine XS.ifNo X103.here hx rfl (hb hby d8_17) rfl (own_nf (l0_ge _ _) hc17) ?_
        show Steps p.tables e below (T103.setTop (mkF m 20 #[.val (.ref a1)] [])) _
        refine st104 _ ?_
        show Steps p.tables e below (T104.setTop (mkF m 23 #[.val (.ref a1)] [(.ref ov)])) _
        exact own_retR X104 hx Bd.returns rfl rfl rfl (hb hby d8_23) hr
    · obtain ⟨T105, X105, e105, st105⟩ := getF X103 hx hZ hown (host := "") (Or.inl (hw _ (List.mem_of_getElem? (i := 49) rfl))) Via.refl e103 F_p (g := (mkF m 25 #[.val (.ref a1)] [(.ref a1)])) rfl rfl (hb hby d8_25)
      refine Gl.pre (S' := T105.setTop (mkF m 30 #[.val (.ref a1)] [(.int (lcmpW q2 (0 : Int64)))])) (fun t kt => ?_) ?_
      · show Steps p.tables e below (T103.setTop (mkF m 17 #[.val (.ref a1)] [(.int (lcmpW q1 (0 : Int64)))])) _
        refine XS.ifYes X103.here hx rfl (pc0 := 17) (pc' := 24) rfl (hb hby d8_17) rfl (own_nt (l0_ge _ _) hc17) (by decide) (by decide) ?_
        show Steps p.tables e below (T103.setTop (mkF m 24 #[.val (.ref a1)] [])) _
        refine XS.aloadN X103.here hx rfl (hb hby d8_24) rfl rfl ?_
        show Steps p.tables e below (T103.setTop (mkF m 25 #[.val (.ref a1)] [(.ref a1)])) _
        refine st105 _ ?_
        show Steps p.tables e below (T105.setTop (mkF m 28 #[.val (.ref a1)] [(.long q2)])) _
        refine XS.lconst X105.here hx rfl (hb hby d8_28) ?_
        show Steps p.tables e below (T105.setTop (mkF m 29 #[.val (.ref a1)] [(.long (0 : Int64)), (.long q2)])) _
        refine XS.lcmp X105.here hx rfl (hb hby d8_29) rfl ?_
        exact kt
      by_cases hc30 : q2 = (0 : Int64)
      · obtain ⟨T106, X106, e106, st106⟩ := getS2 X105 hx hZ hown (host := "") (Or.inl (hw _ (List.mem_of_getElem? (i := 72) rfl))) Via.refl e105 S_vo (g := (mkF m 33 #[.val (.ref a1)] [])) rfl (hb hby d8_33)
        refine Gl.fin X106 (v := some (.ref vo)) (fun h => by rw [Bd.returns] at h; cases h) Bd.notSynchronized ?_ e106 (by decide) (by decide) (fun fs hr => ?_)
        · exact ⟨by simp [hc4, hc17, hc30], N0, rfl⟩
        · show Steps p.tables e below (T105.setTop (mkF m 30 #[.val (.ref a1)] [(.int (lcmpW q2 (0 : Int64)))])) _
          refine XS.ifNo X105.here hx rfl (hb hby d8_30) rfl (own_nf (l0_ne _ _) hc30) ?_
          show Steps p.tables e below (T105.setTop (mkF m 33 #[.val (.ref a1)] [])) _
          refine st106 _ ?_
          show Steps p.tables e below (T106.setTop (mkF m 36 #[.val (.ref a1)] [(.ref vo)])) _
          refine XS.goto X106.here hx rfl (pc0 := 36) (pc' := 42) rfl (hb hby d8_36) (by decide) (by decide) ?_
          show Steps p.tables e below (T106.setTop (mkF m 42 #[.val (.ref a1)] [(.ref vo)])) _
          exact own_retR X106 hx Bd.returns rfl rfl rfl (hb hby d8_42) hr
      · obtain ⟨T107, X107, e107, st107⟩ := getS2 X105 hx hZ hown (host := "") (Or.inl (hw _ (List.mem_of_getElem? (i := 63) rfl))) Via.refl e105 S_fo (g := (mkF m 39 #[.val (.ref a1)] [])) rfl (hb hby d8_39)
        refine Gl.fin X107 (v := some (.ref fo)) (fun h => by rw [Bd.returns] at h; cases h) Bd.notSynchronized ?_ e107 (by decide) (by decide) (fun fs hr => ?_)
        · exact ⟨by simp [hc4, hc17, hc30], N0, rfl⟩
        · show Steps p.tables e below (T105.setTop (mkF m 30 #[.val (.ref a1)] [(.int (lcmpW q2 (0 : Int64)))])) _
          refine XS.ifYes X105.here hx rfl (pc0 := 30) (pc' := 39) rfl (hb hby d8_30) rfl (own_nt (l0_ne _ _) hc30) (by decide) (by decide) ?_
          show Steps p.tables e below (T105.setTop (mkF m 39 #[.val (.ref a1)] [])) _
          refine st107 _ ?_
          show Steps p.tables e below (T107.setTop (mkF m 42 #[.val (.ref a1)] [(.ref fo)])) _
          exact own_retR X107 hx Bd.returns rfl rfl rfl (hb hby d8_42) hr
theorem pn_com_example_stackledger_stackledger_ChosenActionPinLaw : plainName "com/example/stackledger/stackledger/ChosenActionPinLaw" = true := by first | (simp [plainName, overriddenIn]; done) | decide +kernel
theorem ef_rm0 (m : MethodId) (x0 : Int64) (x1 : Int64) (x2 : Int32) (x3 : Int64) : entryFrame m #[(.long x0), (.long x1), (.int x2), (.long x3)] maxLocals = mkF m 0 #[.val (.long x0), .second, .val (.long x1), .second, .val (.int x2), .val (.long x3), .second, .unset, .unset, .unset, .unset, .unset, .unset, .unset] [] := by first | (simp [entryFrame, mkF, argsToLocals, Value.category, maxLocals]; done) | rfl
theorem pd__C_Ljava_lang_String_ : parseMethodDescriptor "(C)Ljava/lang/String;" = some ⟨[.char], some (.object "java/lang/String")⟩ := by decide +kernel
theorem pd__JJLjava_lang_String_JZJJZ_V : parseMethodDescriptor "(JJLjava/lang/String;JZJJZ)V" = some ⟨[.long, .long, (.object "java/lang/String"), .long, .boolean, .long, .long, .boolean], none⟩ := by decide +kernel
theorem pd___Lcom_example_stackledger_stackledger_Cleanup_Action_ : parseMethodDescriptor "()Lcom/example/stackledger/stackledger/Cleanup$Action;" = some ⟨[], some (.object "com/example/stackledger/stackledger/Cleanup$Action")⟩ := by decide +kernel
def Q0 (Z : State) (q0 : Int64) (q2 : Int64) (p4 : Int32) (q5 : Int64) (cs : Int32) (sk : Addr) (ov : Addr) (vo : Addr) (fo : Addr) (h0 : Heap) (n0 : Nat) (v : Option Value) (h : Heap) (L : List Loc) : Prop := v = some (.int 1) ∧ Fr n0 L
set_option maxRecDepth 65536 in
set_option maxHeartbeats 40000000 in
theorem rm0 (l : Launch) (Z : State) (a0 : Array Value) (hw : ∀ d ∈ tables_1, d.before a0 Z = true) (ws : List Jvm.Cond) (q0 : Int64) (q2 : Int64) (p4 : Int32) (q5 : Int64) (cs : Int32) (sk : Addr) (ov : Addr) (vo : Addr) (fo : Addr) (h0 : Heap) (n0 : Nat) (Z0 : n0 ≤ h0.size) (S_c : Sta Z h0 "java/lang/String" "COMPACT_STRINGS" "Z" (.int cs)) (hcs : ¬ cs = 0) (S_sk : Sta Z h0 "com/example/stackledger/stackledger/Cleanup$Action" "SKIP_LOST" "Lcom/example/stackledger/stackledger/Cleanup$Action;" (.ref sk)) (S_ov : Sta Z h0 "com/example/stackledger/stackledger/Cleanup$Action" "OVERPAYMENT" "Lcom/example/stackledger/stackledger/Cleanup$Action;" (.ref ov)) (S_vo : Sta Z h0 "com/example/stackledger/stackledger/Cleanup$Action" "VOID" "Lcom/example/stackledger/stackledger/Cleanup$Action;" (.ref vo)) (S_fo : Sta Z h0 "com/example/stackledger/stackledger/Cleanup$Action" "FORGIVE" "Lcom/example/stackledger/stackledger/Cleanup$Action;" (.ref fo)) :
    OMet l Z x code maxLocals ret ws room_1 #[(.long q0), (.long q2), (.int p4), (.long q5)] h0 (Q0 Z q0 q2 p4 q5 cs sk ov vo fo h0 n0) := by
  refine own_body (plainFor_of_name pn_com_example_stackledger_stackledger_ChosenActionPinLaw) ?_
  intro p e s m below meth c s₁ Bd hml0 hZ e0
  have hx := Bd.exec
  have hby := Bd.bytes
  have hml : c.maxLocals = 14 := hml0
  have hown : s.vm.findClass "com/example/stackledger/stackledger/ChosenActionPinLaw" = some m.cls := findClass_of_methodNamed Bd.named
  have hnm := (name_of_methodNamed Bd.named Bd.method).1
  have X0 : Stand p l e room_1 s m #[(.long q0), (.long q2), (.int p4), (.long q5)] below meth c s₁ [] 0 0 := Stand.of_body Bd
  have N0 := Fr.nil n0
  have K0 : Keep h0 h0 [] := Keep.refl _ _
  rw [ef_rm0]
  refine Gl.pre (S' := s₁.setTop (mkF m 3 #[.val (.long q0), .second, .val (.long q2), .second, .val (.int p4), .val (.long q5), .second, .unset, .unset, .unset, .unset, .unset, .unset, .unset] [(.int (lcmpW q2 (0 : Int64)))])) (fun t kt => ?_) ?_
  · show Steps p.tables e below (s₁.setTop (mkF m 0 #[.val (.long q0), .second, .val (.long q2), .second, .val (.int p4), .val (.long q5), .second, .unset, .unset, .unset, .unset, .unset, .unset, .unset] [])) _
    refine XS.lloadN X0.here hx rfl (hb hby at_0) rfl ?_
    show Steps p.tables e below (s₁.setTop (mkF m 1 #[.val (.long q0), .second, .val (.long q2), .second, .val (.int p4), .val (.long q5), .second, .unset, .unset, .unset, .unset, .unset, .unset, .unset] [(.long q2)])) _
    refine XS.lconst X0.here hx rfl (hb hby at_1) ?_
    show Steps p.tables e below (s₁.setTop (mkF m 2 #[.val (.long q0), .second, .val (.long q2), .second, .val (.int p4), .val (.long q5), .second, .unset, .unset, .unset, .unset, .unset, .unset, .unset] [(.long (0 : Int64)), (.long q2)])) _
    refine XS.lcmp X0.here hx rfl (hb hby at_2) rfl ?_
    exact kt
  by_cases hc3 : q2 = (0 : Int64)
  · refine Gl.fin X0 (v := some (.int (1 : Int32))) (fun h => by rw [Bd.returns] at h; cases h) Bd.notSynchronized ?_ e0 (by decide) (by decide) (fun fs hr => ?_)
    · exact ⟨rfl, N0⟩
    · show Steps p.tables e below (s₁.setTop (mkF m 3 #[.val (.long q0), .second, .val (.long q2), .second, .val (.int p4), .val (.long q5), .second, .unset, .unset, .unset, .unset, .unset, .unset, .unset] [(.int (lcmpW q2 (0 : Int64)))])) _
      refine XS.ifNo X0.here hx rfl (hb hby at_3) rfl (own_nf (l0_ne _ _) hc3) ?_
      show Steps p.tables e below (s₁.setTop (mkF m 6 #[.val (.long q0), .second, .val (.long q2), .second, .val (.int p4), .val (.long q5), .second, .unset, .unset, .unset, .unset, .unset, .unset, .unset] [])) _
      refine XS.iconst X0.here hx rfl (hb hby at_6) ?_
      show Steps p.tables e below (s₁.setTop (mkF m 7 #[.val (.long q0), .second, .val (.long q2), .second, .val (.int p4), .val (.long q5), .second, .unset, .unset, .unset, .unset, .unset, .unset, .unset] [(.int (1 : Int32))])) _
      exact retN X0 hx (t := .boolean) Bd.returns (by simp) (hb hby at_7) hr
  · refine Gl.pre (S' := s₁.setTop (mkF m 12 #[.val (.long q0), .second, .val (.long q2), .second, .val (.int p4), .val (.long q5), .second, .unset, .unset, .unset, .unset, .unset, .unset, .unset] [(.int (p4 &&& (1 : Int32)))])) (fun t kt => ?_) ?_
    · show Steps p.tables e below (s₁.setTop (mkF m 3 #[.val (.long q0), .second, .val (.long q2), .second, .val (.int p4), .val (.long q5), .second, .unset, .unset, .unset, .unset, .unset, .unset, .unset] [(.int (lcmpW q2 (0 : Int64)))])) _
      refine XS.ifYes X0.here hx rfl (pc0 := 3) (pc' := 8) rfl (hb hby at_3) rfl (own_nt (l0_ne _ _) hc3) (by decide) (by decide) ?_
      show Steps p.tables e below (s₁.setTop (mkF m 8 #[.val (.long q0), .second, .val (.long q2), .second, .val (.int p4), .val (.long q5), .second, .unset, .unset, .unset, .unset, .unset, .unset, .unset] [])) _
      refine XS.iload X0.here hx rfl (hb hby at_8) rfl ?_
      show Steps p.tables e below (s₁.setTop (mkF m 10 #[.val (.long q0), .second, .val (.long q2), .second, .val (.int p4), .val (.long q5), .second, .unset, .unset, .unset, .unset, .unset, .unset, .unset] [(.int p4)])) _
      refine XS.iconst X0.here hx rfl (hb hby at_10) ?_
      show Steps p.tables e below (s₁.setTop (mkF m 11 #[.val (.long q0), .second, .val (.long q2), .second, .val (.int p4), .val (.long q5), .second, .unset, .unset, .unset, .unset, .unset, .unset, .unset] [(.int (1 : Int32)), (.int p4)])) _
      refine XS.iand X0.here hx rfl (hb hby at_11) rfl ?_
      exact kt
    refine Gl.pre (S' := s₁.setTop (mkF m 20 #[.val (.long q0), .second, .val (.long q2), .second, .val (.int p4), .val (.long q5), .second, .unset, .unset, .unset, .unset, .unset, .unset, .unset] [(.int (b2i (decide (¬ (p4 &&& (1 : Int32)) = (0 : Int32)))))])) (fun t kt => ?_) ?_
    · by_cases hc12 : (p4 &&& (1 : Int32)) = (0 : Int32)
      · show Steps p.tables e below (s₁.setTop (mkF m 12 #[.val (.long q0), .second, .val (.long q2), .second, .val (.int p4), .val (.long q5), .second, .unset, .unset, .unset, .unset, .unset, .unset, .unset] [(.int (p4 &&& (1 : Int32)))])) _
        refine XS.ifYes X0.here hx rfl (pc0 := 12) (pc' := 19) rfl (hb hby at_12) rfl (own_t (i0_eq _) hc12) (by decide) (by decide) ?_
        show Steps p.tables e below (s₁.setTop (mkF m 19 #[.val (.long q0), .second, .val (.long q2), .second, .val (.int p4), .val (.long q5), .second, .unset, .unset, .unset, .unset, .unset, .unset, .unset] [])) _
        refine XS.iconst X0.here hx rfl (hb hby at_19) ?_
        rw [(by simp [b2i, hc12] : (b2i (decide (¬ (p4 &&& (1 : Int32)) = (0 : Int32)))) = (0 : Int32))] at kt
        exact kt
      · show Steps p.tables e below (s₁.setTop (mkF m 12 #[.val (.long q0), .second, .val (.long q2), .second, .val (.int p4), .val (.long q5), .second, .unset, .unset, .unset, .unset, .unset, .unset, .unset] [(.int (p4 &&& (1 : Int32)))])) _
        refine XS.ifNo X0.here hx rfl (hb hby at_12) rfl (own_f (i0_eq _) hc12) ?_
        show Steps p.tables e below (s₁.setTop (mkF m 15 #[.val (.long q0), .second, .val (.long q2), .second, .val (.int p4), .val (.long q5), .second, .unset, .unset, .unset, .unset, .unset, .unset, .unset] [])) _
        refine XS.iconst X0.here hx rfl (hb hby at_15) ?_
        show Steps p.tables e below (s₁.setTop (mkF m 16 #[.val (.long q0), .second, .val (.long q2), .second, .val (.int p4), .val (.long q5), .second, .unset, .unset, .unset, .unset, .unset, .unset, .unset] [(.int (1 : Int32))])) _
        refine XS.goto X0.here hx rfl (pc0 := 16) (pc' := 20) rfl (hb hby at_16) (by decide) (by decide) ?_
        rw [(by simp [b2i, hc12] : (b2i (decide (¬ (p4 &&& (1 : Int32)) = (0 : Int32)))) = (1 : Int32))] at kt
        exact kt
    obtain ⟨b1, h_b1⟩ : ∃ z : Bool, z = (decide (¬ (p4 &&& (1 : Int32)) = (0 : Int32))) := ⟨_, rfl⟩
    rw [← h_b1]
    refine Gl.pre (S' := s₁.setTop (mkF m 26 #[.val (.long q0), .second, .val (.long q2), .second, .val (.int p4), .val (.long q5), .second, .val (.int (b2i b1)), .unset, .unset, .unset, .unset, .unset, .unset] [(.int (p4 &&& (2 : Int32)))])) (fun t kt => ?_) ?_
    · show Steps p.tables e below (s₁.setTop (mkF m 20 #[.val (.long q0), .second, .val (.long q2), .second, .val (.int p4), .val (.long q5), .second, .unset, .unset, .unset, .unset, .unset, .unset, .unset] [(.int (b2i b1))])) _
      refine XS.istore X0.here hx rfl (hb hby at_20) rfl (l' := #[.val (.long q0), .second, .val (.long q2), .second, .val (.int p4), .val (.long q5), .second, .val (.int (b2i b1)), .unset, .unset, .unset, .unset, .unset, .unset]) rfl ?_
      show Steps p.tables e below (s₁.setTop (mkF m 22 #[.val (.long q0), .second, .val (.long q2), .second, .val (.int p4), .val (.long q5), .second, .val (.int (b2i b1)), .unset, .unset, .unset, .unset, .unset, .unset] [])) _
      refine XS.iload X0.here hx rfl (hb hby at_22) rfl ?_
      show Steps p.tables e below (s₁.setTop (mkF m 24 #[.val (.long q0), .second, .val (.long q2), .second, .val (.int p4), .val (.long q5), .second, .val (.int (b2i b1)), .unset, .unset, .unset, .unset, .unset, .unset] [(.int p4)])) _
      refine XS.iconst X0.here hx rfl (hb hby at_24) ?_
      show Steps p.tables e below (s₁.setTop (mkF m 25 #[.val (.long q0), .second, .val (.long q2), .second, .val (.int p4), .val (.long q5), .second, .val (.int (b2i b1)), .unset, .unset, .unset, .unset, .unset, .unset] [(.int (2 : Int32)), (.int p4)])) _
      refine XS.iand X0.here hx rfl (hb hby at_25) rfl ?_
      exact kt
    refine Gl.pre (S' := s₁.setTop (mkF m 34 #[.val (.long q0), .second, .val (.long q2), .second, .val (.int p4), .val (.long q5), .second, .val (.int (b2i b1)), .unset, .unset, .unset, .unset, .unset, .unset] [(.int (b2i (decide (¬ (p4 &&& (2 : Int32)) = (0 : Int32)))))])) (fun t kt => ?_) ?_
    · by_cases hc26 : (p4 &&& (2 : Int32)) = (0 : Int32)
      · show Steps p.tables e below (s₁.setTop (mkF m 26 #[.val (.long q0), .second, .val (.long q2), .second, .val (.int p4), .val (.long q5), .second, .val (.int (b2i b1)), .unset, .unset, .unset, .unset, .unset, .unset] [(.int (p4 &&& (2 : Int32)))])) _
        refine XS.ifYes X0.here hx rfl (pc0 := 26) (pc' := 33) rfl (hb hby at_26) rfl (own_t (i0_eq _) hc26) (by decide) (by decide) ?_
        show Steps p.tables e below (s₁.setTop (mkF m 33 #[.val (.long q0), .second, .val (.long q2), .second, .val (.int p4), .val (.long q5), .second, .val (.int (b2i b1)), .unset, .unset, .unset, .unset, .unset, .unset] [])) _
        refine XS.iconst X0.here hx rfl (hb hby at_33) ?_
        rw [(by simp [b2i, hc26] : (b2i (decide (¬ (p4 &&& (2 : Int32)) = (0 : Int32)))) = (0 : Int32))] at kt
        exact kt
      · show Steps p.tables e below (s₁.setTop (mkF m 26 #[.val (.long q0), .second, .val (.long q2), .second, .val (.int p4), .val (.long q5), .second, .val (.int (b2i b1)), .unset, .unset, .unset, .unset, .unset, .unset] [(.int (p4 &&& (2 : Int32)))])) _
        refine XS.ifNo X0.here hx rfl (hb hby at_26) rfl (own_f (i0_eq _) hc26) ?_
        show Steps p.tables e below (s₁.setTop (mkF m 29 #[.val (.long q0), .second, .val (.long q2), .second, .val (.int p4), .val (.long q5), .second, .val (.int (b2i b1)), .unset, .unset, .unset, .unset, .unset, .unset] [])) _
        refine XS.iconst X0.here hx rfl (hb hby at_29) ?_
        show Steps p.tables e below (s₁.setTop (mkF m 30 #[.val (.long q0), .second, .val (.long q2), .second, .val (.int p4), .val (.long q5), .second, .val (.int (b2i b1)), .unset, .unset, .unset, .unset, .unset, .unset] [(.int (1 : Int32))])) _
        refine XS.goto X0.here hx rfl (pc0 := 30) (pc' := 34) rfl (hb hby at_30) (by decide) (by decide) ?_
        rw [(by simp [b2i, hc26] : (b2i (decide (¬ (p4 &&& (2 : Int32)) = (0 : Int32)))) = (1 : Int32))] at kt
        exact kt
    obtain ⟨b2, h_b2⟩ : ∃ z : Bool, z = (decide (¬ (p4 &&& (2 : Int32)) = (0 : Int32))) := ⟨_, rfl⟩
    rw [← h_b2]
    refine Gl.pre (S' := s₁.setTop (mkF m 40 #[.val (.long q0), .second, .val (.long q2), .second, .val (.int p4), .val (.long q5), .second, .val (.int (b2i b1)), .val (.int (b2i b2)), .unset, .unset, .unset, .unset, .unset] [(.int (p4 &&& (4 : Int32)))])) (fun t kt => ?_) ?_
    · show Steps p.tables e below (s₁.setTop (mkF m 34 #[.val (.long q0), .second, .val (.long q2), .second, .val (.int p4), .val (.long q5), .second, .val (.int (b2i b1)), .unset, .unset, .unset, .unset, .unset, .unset] [(.int (b2i b2))])) _
      refine XS.istore X0.here hx rfl (hb hby at_34) rfl (l' := #[.val (.long q0), .second, .val (.long q2), .second, .val (.int p4), .val (.long q5), .second, .val (.int (b2i b1)), .val (.int (b2i b2)), .unset, .unset, .unset, .unset, .unset]) rfl ?_
      show Steps p.tables e below (s₁.setTop (mkF m 36 #[.val (.long q0), .second, .val (.long q2), .second, .val (.int p4), .val (.long q5), .second, .val (.int (b2i b1)), .val (.int (b2i b2)), .unset, .unset, .unset, .unset, .unset] [])) _
      refine XS.iload X0.here hx rfl (hb hby at_36) rfl ?_
      show Steps p.tables e below (s₁.setTop (mkF m 38 #[.val (.long q0), .second, .val (.long q2), .second, .val (.int p4), .val (.long q5), .second, .val (.int (b2i b1)), .val (.int (b2i b2)), .unset, .unset, .unset, .unset, .unset] [(.int p4)])) _
      refine XS.iconst X0.here hx rfl (hb hby at_38) ?_
      show Steps p.tables e below (s₁.setTop (mkF m 39 #[.val (.long q0), .second, .val (.long q2), .second, .val (.int p4), .val (.long q5), .second, .val (.int (b2i b1)), .val (.int (b2i b2)), .unset, .unset, .unset, .unset, .unset] [(.int (4 : Int32)), (.int p4)])) _
      refine XS.iand X0.here hx rfl (hb hby at_39) rfl ?_
      exact kt
    by_cases hc40 : (p4 &&& (4 : Int32)) = (0 : Int32)
    · obtain ⟨v101, T101, L101, X101, q101, st101⟩ := own_callS X0 hx hZ (y := (⟨"java/lang/String", "valueOf", "(C)Ljava/lang/String;"⟩ : MethodName)) hown (hw _ (List.mem_of_getElem? (i := 0) rfl)) (hw _ (List.mem_of_getElem? (i := 1) rfl)) (hw _ (List.mem_of_getElem? (i := 2) rfl)) (hw _ (List.mem_of_getElem? (i := 3) rfl)) (by decide) (hM := (rm1 l Z a0 hw [] ((((p4.toUInt32 >>> ((8 : Int32) &&& 31).toUInt32).toInt32) &&& (255 : Int32)).toUInt32.toUInt16.toUInt32.toInt32) cs h0 n0 Z0 S_c hcs (by rw [own_c255]; exact own_n255 _))) (by decide) (by decide) (by decide) (by decide) e0 (argsL := [(.int ((((p4.toUInt32 >>> ((8 : Int32) &&& 31).toUInt32).toInt32) &&& (255 : Int32)).toUInt32.toUInt16.toUInt32.toInt32))]) (rest := []) (Ls := #[.val (.long q0), .second, .val (.long q2), .second, .val (.int p4), .val (.long q5), .second, .val (.int (b2i b1)), .val (.int (b2i b2)), .unset, .unset, .unset, .unset, .unset]) (by rw [hml]; rfl) (lenOf pd__C_Ljava_lang_String_ rfl) (W := 0) (Nat.le_of_eq rfl) (hb hby at_57)
      obtain ⟨r101, b101, k101, szq_r101, szq_b101, ne101, rfl, N101q, K101q, E101q, V101q, C101q, A101q⟩ := q101
      have N101 := Fr.app N0 N101q
      have K101 : Keep h0 T101.heap [] := K0.trans K101q all0
      have g_r101 : n0 ≤ r101 := Nat.le_trans Z0 szq_r101
      have sz_r101 : h0.size ≤ r101 := Nat.le_trans K0.1 szq_r101
      have g_b101 : n0 ≤ b101 := Nat.le_trans Z0 szq_b101
      have sz_b101 : h0.size ≤ b101 := Nat.le_trans K0.1 szq_b101
      refine Gl.pre (S' := T101.setTop (mkF m 67 #[.val (.long q0), .second, .val (.long q2), .second, .val (.int p4), .val (.long q5), .second, .val (.int (b2i b1)), .val (.int (b2i b2)), .val (.ref r101), .unset, .unset, .unset, .unset] [(.int (p4 &&& (8 : Int32)))])) (fun t kt => ?_) ?_
      · show Steps p.tables e below (s₁.setTop (mkF m 40 #[.val (.long q0), .second, .val (.long q2), .second, .val (.int p4), .val (.long q5), .second, .val (.int (b2i b1)), .val (.int (b2i b2)), .unset, .unset, .unset, .unset, .unset] [(.int (p4 &&& (4 : Int32)))])) _
        refine XS.ifYes X0.here hx rfl (pc0 := 40) (pc' := 47) rfl (hb hby at_40) rfl (own_t (i0_eq _) hc40) (by decide) (by decide) ?_
        show Steps p.tables e below (s₁.setTop (mkF m 47 #[.val (.long q0), .second, .val (.long q2), .second, .val (.int p4), .val (.long q5), .second, .val (.int (b2i b1)), .val (.int (b2i b2)), .unset, .unset, .unset, .unset, .unset] [])) _
        refine XS.iload X0.here hx rfl (hb hby at_47) rfl ?_
        show Steps p.tables e below (s₁.setTop (mkF m 49 #[.val (.long q0), .second, .val (.long q2), .second, .val (.int p4), .val (.long q5), .second, .val (.int (b2i b1)), .val (.int (b2i b2)), .unset, .unset, .unset, .unset, .unset] [(.int p4)])) _
        refine XS.bipush X0.here hx rfl (hb hby at_49) ?_
        show Steps p.tables e below (s₁.setTop (mkF m 51 #[.val (.long q0), .second, .val (.long q2), .second, .val (.int p4), .val (.long q5), .second, .val (.int (b2i b1)), .val (.int (b2i b2)), .unset, .unset, .unset, .unset, .unset] [(.int (8 : Int32)), (.int p4)])) _
        refine XS.iushr X0.here hx rfl (hb hby at_51) rfl ?_
        show Steps p.tables e below (s₁.setTop (mkF m 52 #[.val (.long q0), .second, .val (.long q2), .second, .val (.int p4), .val (.long q5), .second, .val (.int (b2i b1)), .val (.int (b2i b2)), .unset, .unset, .unset, .unset, .unset] [(.int ((p4.toUInt32 >>> ((8 : Int32) &&& 31).toUInt32).toInt32))])) _
        refine XS.sipush X0.here hx rfl (hb hby at_52) ?_
        show Steps p.tables e below (s₁.setTop (mkF m 55 #[.val (.long q0), .second, .val (.long q2), .second, .val (.int p4), .val (.long q5), .second, .val (.int (b2i b1)), .val (.int (b2i b2)), .unset, .unset, .unset, .unset, .unset] [(.int (255 : Int32)), (.int ((p4.toUInt32 >>> ((8 : Int32) &&& 31).toUInt32).toInt32))])) _
        refine XS.iand X0.here hx rfl (hb hby at_55) rfl ?_
        show Steps p.tables e below (s₁.setTop (mkF m 56 #[.val (.long q0), .second, .val (.long q2), .second, .val (.int p4), .val (.long q5), .second, .val (.int (b2i b1)), .val (.int (b2i b2)), .unset, .unset, .unset, .unset, .unset] [(.int (((p4.toUInt32 >>> ((8 : Int32) &&& 31).toUInt32).toInt32) &&& (255 : Int32)))])) _
        refine XS.i2c X0.here hx rfl (hb hby at_56) rfl ?_
        show Steps p.tables e below (s₁.setTop (mkF m 57 #[.val (.long q0), .second, .val (.long q2), .second, .val (.int p4), .val (.long q5), .second, .val (.int (b2i b1)), .val (.int (b2i b2)), .unset, .unset, .unset, .unset, .unset] [(.int ((((p4.toUInt32 >>> ((8 : Int32) &&& 31).toUInt32).toInt32) &&& (255 : Int32)).toUInt32.toUInt16.toUInt32.toInt32))])) _
        refine st101 _ ?_
        show Steps p.tables e below (T101.setTop (mkF m 60 #[.val (.long q0), .second, .val (.long q2), .second, .val (.int p4), .val (.long q5), .second, .val (.int (b2i b1)), .val (.int (b2i b2)), .unset, .unset, .unset, .unset, .unset] [(.ref r101)])) _
        refine XS.astore X101.here hx rfl (hb hby at_60) rfl rfl (l' := #[.val (.long q0), .second, .val (.long q2), .second, .val (.int p4), .val (.long q5), .second, .val (.int (b2i b1)), .val (.int (b2i b2)), .val (.ref r101), .unset, .unset, .unset, .unset]) rfl ?_
        show Steps p.tables e below (T101.setTop (mkF m 62 #[.val (.long q0), .second, .val (.long q2), .second, .val (.int p4), .val (.long q5), .second, .val (.int (b2i b1)), .val (.int (b2i b2)), .val (.ref r101), .unset, .unset, .unset, .unset] [])) _
        refine XS.iload X101.here hx rfl (hb hby at_62) rfl ?_
        show Steps p.tables e below (T101.setTop (mkF m 64 #[.val (.long q0), .second, .val (.long q2), .second, .val (.int p4), .val (.long q5), .second, .val (.int (b2i b1)), .val (.int (b2i b2)), .val (.ref r101), .unset, .unset, .unset, .unset] [(.int p4)])) _
        refine XS.bipush X101.here hx rfl (hb hby at_64) ?_
        show Steps p.tables e below (T101.setTop (mkF m 66 #[.val (.long q0), .second, .val (.long q2), .second, .val (.int p4), .val (.long q5), .second, .val (.int (b2i b1)), .val (.int (b2i b2)), .val (.ref r101), .unset, .unset, .unset, .unset] [(.int (8 : Int32)), (.int p4)])) _
        refine XS.iand X101.here hx rfl (hb hby at_66) rfl ?_
        exact kt
      by_cases hc67 : (p4 &&& (8 : Int32)) = (0 : Int32)
      · obtain ⟨T102, h102, X102, e102, E102, A102, D102, -, st102⟩ := newO X101 hx hZ hown (hw _ (List.mem_of_getElem? (i := 26) rfl)) (hw _ (List.mem_of_getElem? (i := 27) rfl)) (hw _ (List.mem_of_getElem? (i := 28) rfl)) rfl (g := (mkF m 77 #[.val (.long q0), .second, .val (.long q2), .second, .val (.int p4), .val (.long q5), .second, .val (.int (b2i b1)), .val (.int (b2i b2)), .val (.ref r101), .val (.long q0), .second, .unset, .unset] [])) rfl (hb hby at_77) (by decide) (by decide)
        obtain ⟨b102, g102⟩ : ∃ z, z = T101.heap.size := ⟨_, rfl⟩
        have z103 : n0 ≤ T101.heap.size := (Nat.le_trans Z0 K101q.1)
        have g_b102 : n0 ≤ b102 := Nat.le_trans z103 (Nat.le_of_eq g102.symm)
        have sz_b102 : h0.size ≤ b102 := Nat.le_trans K101.1 (Nat.le_of_eq g102.symm)
        rw [← g102] at A102 D102 st102
        have K102 : Keep h0 h102 [] := K101.ext E102
        have F_transaction_b102 : Fld Z h102 b102 "com/example/stackledger/stackledger/Cleanup$Chosen" "transaction" "J" (.long (0 : Int64)) := D102 (Or.inr (hw _ (List.mem_of_getElem? (i := 40) rfl))) (ty := .long) (by decide)
        have F_patron_b102 : Fld Z h102 b102 "com/example/stackledger/stackledger/Cleanup$Chosen" "patron" "J" (.long (0 : Int64)) := D102 (Or.inr (hw _ (List.mem_of_getElem? (i := 42) rfl))) (ty := .long) (by decide)
        have F_org_b102 : Fld Z h102 b102 "com/example/stackledger/stackledger/Cleanup$Chosen" "org" "Ljava/lang/String;" .null := D102 (Or.inr (hw _ (List.mem_of_getElem? (i := 44) rfl))) (ty := (.object "java/lang/String")) (by decide)
        have F_startedAt_b102 : Fld Z h102 b102 "com/example/stackledger/stackledger/Cleanup$Chosen" "startedAt" "J" (.long (0 : Int64)) := D102 (Or.inr (hw _ (List.mem_of_getElem? (i := 46) rfl))) (ty := .long) (by decide)
        have F_finished_b102 : Fld Z h102 b102 "com/example/stackledger/stackledger/Cleanup$Chosen" "finished" "Z" (.int (0 : Int32)) := D102 (Or.inr (hw _ (List.mem_of_getElem? (i := 48) rfl))) (ty := .boolean) (by decide)
        have F_totalPaidCents_b102 : Fld Z h102 b102 "com/example/stackledger/stackledger/Cleanup$Chosen" "totalPaidCents" "J" (.long (0 : Int64)) := D102 (Or.inr (hw _ (List.mem_of_getElem? (i := 50) rfl))) (ty := .long) (by decide)
        have F_balanceCents_b102 : Fld Z h102 b102 "com/example/stackledger/stackledger/Cleanup$Chosen" "balanceCents" "J" (.long (0 : Int64)) := D102 (Or.inr (hw _ (List.mem_of_getElem? (i := 52) rfl))) (ty := .long) (by decide)
        have F_lost_b102 : Fld Z h102 b102 "com/example/stackledger/stackledger/Cleanup$Chosen" "lost" "Z" (.int (0 : Int32)) := D102 (Or.inr (hw _ (List.mem_of_getElem? (i := 54) rfl))) (ty := .boolean) (by decide)
        have z105 : n0 ≤ h102.size := (Nat.le_trans z103 E102.1)
        obtain ⟨v104, T104, L104, X104, q104, st104⟩ := own_callI X102 hx hZ (y := (⟨"com/example/stackledger/stackledger/Cleanup$Chosen", "<init>", "(JJLjava/lang/String;JZJJZ)V"⟩ : MethodName)) rfl hown (hw _ (List.mem_of_getElem? (i := 30) rfl)) (hw _ (List.mem_of_getElem? (i := 31) rfl)) (hw _ (List.mem_of_getElem? (i := 28) rfl)) (hw _ (List.mem_of_getElem? (i := 32) rfl)) (by decide) (a := b102) (hM := (rm6r l Z a0 hw [] b102 q5 (q5 ^^^ (-1 : Int64)) r101 (q5 ^^^ q0) q0 q2 b2 b1 h102 n0 z105 g_b102 A102 F_transaction_b102 F_patron_b102 F_org_b102 F_startedAt_b102 F_finished_b102 F_totalPaidCents_b102 F_balanceCents_b102 F_lost_b102)) (by decide) (by decide) (by decide) (by decide) e102 (argsL := [(.long q5), (.long (q5 ^^^ (-1 : Int64))), (.ref r101), (.long (q5 ^^^ q0)), (.int (b2i b2)), (.long q0), (.long q2), (.int (b2i b1))]) (rest := [(.ref b102)]) (Ls := #[.val (.long q0), .second, .val (.long q2), .second, .val (.int p4), .val (.long q5), .second, .val (.int (b2i b1)), .val (.int (b2i b2)), .val (.ref r101), .val (.long q0), .second, .unset, .unset]) (by rw [hml]; rfl) (lenOf pd__JJLjava_lang_String_JZJJZ_V rfl) (W := 1) (Nat.le_of_eq rfl) (hb hby at_102)
        obtain ⟨rfl, N104q, K104q, E104q, P104q, B104q, O104q⟩ := q104
        have N104 := Fr.app N101 N104q
        have K104 : Keep h0 T104.heap [] := K102.trans K104q (allS (Or.inr sz_b102) all0)
        refine Gl.pre (S' := T104.setTop (mkF m 109 #[.val (.long q0), .second, .val (.long q2), .second, .val (.int p4), .val (.long q5), .second, .val (.int (b2i b1)), .val (.int (b2i b2)), .val (.ref r101), .val (.long q0), .second, .val (.ref b102), .unset] [(.int (b2i b1))])) (fun t kt => ?_) ?_
        · show Steps p.tables e below (T101.setTop (mkF m 67 #[.val (.long q0), .second, .val (.long q2), .second, .val (.int p4), .val (.long q5), .second, .val (.int (b2i b1)), .val (.int (b2i b2)), .val (.ref r101), .unset, .unset, .unset, .unset] [(.int (p4 &&& (8 : Int32)))])) _
          refine XS.ifYes X101.here hx rfl (pc0 := 67) (pc' := 74) rfl (hb hby at_67) rfl (own_t (i0_eq _) hc67) (by decide) (by decide) ?_
          show Steps p.tables e below (T101.setTop (mkF m 74 #[.val (.long q0), .second, .val (.long q2), .second, .val (.int p4), .val (.long q5), .second, .val (.int (b2i b1)), .val (.int (b2i b2)), .val (.ref r101), .unset, .unset, .unset, .unset] [])) _
          refine XS.lloadN X101.here hx rfl (hb hby at_74) rfl ?_
          show Steps p.tables e below (T101.setTop (mkF m 75 #[.val (.long q0), .second, .val (.long q2), .second, .val (.int p4), .val (.long q5), .second, .val (.int (b2i b1)), .val (.int (b2i b2)), .val (.ref r101), .unset, .unset, .unset, .unset] [(.long q0)])) _
          refine XS.lstore X101.here hx rfl (hb hby at_75) rfl (l' := #[.val (.long q0), .second, .val (.long q2), .second, .val (.int p4), .val (.long q5), .second, .val (.int (b2i b1)), .val (.int (b2i b2)), .val (.ref r101), .val (.long q0), .second, .unset, .unset]) rfl ?_
          show Steps p.tables e below (T101.setTop (mkF m 77 #[.val (.long q0), .second, .val (.long q2), .second, .val (.int p4), .val (.long q5), .second, .val (.int (b2i b1)), .val (.int (b2i b2)), .val (.ref r101), .val (.long q0), .second, .unset, .unset] [])) _
          refine st102 _ ?_
          show Steps p.tables e below (T102.setTop (mkF m 80 #[.val (.long q0), .second, .val (.long q2), .second, .val (.int p4), .val (.long q5), .second, .val (.int (b2i b1)), .val (.int (b2i b2)), .val (.ref r101), .val (.long q0), .second, .unset, .unset] [(.ref b102)])) _
          refine XS.dup X102.here hx rfl (hb hby at_80) rfl rfl ?_
          show Steps p.tables e below (T102.setTop (mkF m 81 #[.val (.long q0), .second, .val (.long q2), .second, .val (.int p4), .val (.long q5), .second, .val (.int (b2i b1)), .val (.int (b2i b2)), .val (.ref r101), .val (.long q0), .second, .unset, .unset] [(.ref b102), (.ref b102)])) _
          refine XS.lload X102.here hx rfl (hb hby at_81) rfl ?_
          show Steps p.tables e below (T102.setTop (mkF m 83 #[.val (.long q0), .second, .val (.long q2), .second, .val (.int p4), .val (.long q5), .second, .val (.int (b2i b1)), .val (.int (b2i b2)), .val (.ref r101), .val (.long q0), .second, .unset, .unset] [(.long q5), (.ref b102), (.ref b102)])) _
          refine XS.lload X102.here hx rfl (hb hby at_83) rfl ?_
          show Steps p.tables e below (T102.setTop (mkF m 85 #[.val (.long q0), .second, .val (.long q2), .second, .val (.int p4), .val (.long q5), .second, .val (.int (b2i b1)), .val (.int (b2i b2)), .val (.ref r101), .val (.long q0), .second, .unset, .unset] [(.long q5), (.long q5), (.ref b102), (.ref b102)])) _
          refine X102.ldc2Long hx hown (mvT hZ (hw _ (List.mem_of_getElem? (i := 29) rfl))) (g := (mkF m 85 #[.val (.long q0), .second, .val (.long q2), .second, .val (.int p4), .val (.long q5), .second, .val (.int (b2i b1)), .val (.int (b2i b2)), .val (.ref r101), .val (.long q0), .second, .unset, .unset] [(.long q5), (.long q5), (.ref b102), (.ref b102)])) rfl (hb hby at_85) _ ?_
          show Steps p.tables e below (T102.setTop (mkF m 88 #[.val (.long q0), .second, .val (.long q2), .second, .val (.int p4), .val (.long q5), .second, .val (.int (b2i b1)), .val (.int (b2i b2)), .val (.ref r101), .val (.long q0), .second, .unset, .unset] [(.long (-1 : Int64)), (.long q5), (.long q5), (.ref b102), (.ref b102)])) _
          refine XS.lxor X102.here hx rfl (hb hby at_88) rfl ?_
          show Steps p.tables e below (T102.setTop (mkF m 89 #[.val (.long q0), .second, .val (.long q2), .second, .val (.int p4), .val (.long q5), .second, .val (.int (b2i b1)), .val (.int (b2i b2)), .val (.ref r101), .val (.long q0), .second, .unset, .unset] [(.long (q5 ^^^ (-1 : Int64))), (.long q5), (.ref b102), (.ref b102)])) _
          refine XS.aload X102.here hx rfl (hb hby at_89) rfl rfl ?_
          show Steps p.tables e below (T102.setTop (mkF m 91 #[.val (.long q0), .second, .val (.long q2), .second, .val (.int p4), .val (.long q5), .second, .val (.int (b2i b1)), .val (.int (b2i b2)), .val (.ref r101), .val (.long q0), .second, .unset, .unset] [(.ref r101), (.long (q5 ^^^ (-1 : Int64))), (.long q5), (.ref b102), (.ref b102)])) _
          refine XS.lload X102.here hx rfl (hb hby at_91) rfl ?_
          show Steps p.tables e below (T102.setTop (mkF m 93 #[.val (.long q0), .second, .val (.long q2), .second, .val (.int p4), .val (.long q5), .second, .val (.int (b2i b1)), .val (.int (b2i b2)), .val (.ref r101), .val (.long q0), .second, .unset, .unset] [(.long q5), (.ref r101), (.long (q5 ^^^ (-1 : Int64))), (.long q5), (.ref b102), (.ref b102)])) _
          refine XS.lloadN X102.here hx rfl (hb hby at_93) rfl ?_
          show Steps p.tables e below (T102.setTop (mkF m 94 #[.val (.long q0), .second, .val (.long q2), .second, .val (.int p4), .val (.long q5), .second, .val (.int (b2i b1)), .val (.int (b2i b2)), .val (.ref r101), .val (.long q0), .second, .unset, .unset] [(.long q0), (.long q5), (.ref r101), (.long (q5 ^^^ (-1 : Int64))), (.long q5), (.ref b102), (.ref b102)])) _
          refine XS.lxor X102.here hx rfl (hb hby at_94) rfl ?_
          show Steps p.tables e below (T102.setTop (mkF m 95 #[.val (.long q0), .second, .val (.long q2), .second, .val (.int p4), .val (.long q5), .second, .val (.int (b2i b1)), .val (.int (b2i b2)), .val (.ref r101), .val (.long q0), .second, .unset, .unset] [(.long (q5 ^^^ q0)), (.ref r101), (.long (q5 ^^^ (-1 : Int64))), (.long q5), (.ref b102), (.ref b102)])) _
          refine XS.iload X102.here hx rfl (hb hby at_95) rfl ?_
          show Steps p.tables e below (T102.setTop (mkF m 97 #[.val (.long q0), .second, .val (.long q2), .second, .val (.int p4), .val (.long q5), .second, .val (.int (b2i b1)), .val (.int (b2i b2)), .val (.ref r101), .val (.long q0), .second, .unset, .unset] [(.int (b2i b2)), (.long (q5 ^^^ q0)), (.ref r101), (.long (q5 ^^^ (-1 : Int64))), (.long q5), (.ref b102), (.ref b102)])) _
          refine XS.lload X102.here hx rfl (hb hby at_97) rfl ?_
          show Steps p.tables e below (T102.setTop (mkF m 99 #[.val (.long q0), .second, .val (.long q2), .second, .val (.int p4), .val (.long q5), .second, .val (.int (b2i b1)), .val (.int (b2i b2)), .val (.ref r101), .val (.long q0), .second, .unset, .unset] [(.long q0), (.int (b2i b2)), (.long (q5 ^^^ q0)), (.ref r101), (.long (q5 ^^^ (-1 : Int64))), (.long q5), (.ref b102), (.ref b102)])) _
          refine XS.lloadN X102.here hx rfl (hb hby at_99) rfl ?_
          show Steps p.tables e below (T102.setTop (mkF m 100 #[.val (.long q0), .second, .val (.long q2), .second, .val (.int p4), .val (.long q5), .second, .val (.int (b2i b1)), .val (.int (b2i b2)), .val (.ref r101), .val (.long q0), .second, .unset, .unset] [(.long q2), (.long q0), (.int (b2i b2)), (.long (q5 ^^^ q0)), (.ref r101), (.long (q5 ^^^ (-1 : Int64))), (.long q5), (.ref b102), (.ref b102)])) _
          refine XS.iload X102.here hx rfl (hb hby at_100) rfl ?_
          show Steps p.tables e below (T102.setTop (mkF m 102 #[.val (.long q0), .second, .val (.long q2), .second, .val (.int p4), .val (.long q5), .second, .val (.int (b2i b1)), .val (.int (b2i b2)), .val (.ref r101), .val (.long q0), .second, .unset, .unset] [(.int (b2i b1)), (.long q2), (.long q0), (.int (b2i b2)), (.long (q5 ^^^ q0)), (.ref r101), (.long (q5 ^^^ (-1 : Int64))), (.long q5), (.ref b102), (.ref b102)])) _
          refine st104 _ ?_
          show Steps p.tables e below (T104.setTop (mkF m 105 #[.val (.long q0), .second, .val (.long q2), .second, .val (.int p4), .val (.long q5), .second, .val (.int (b2i b1)), .val (.int (b2i b2)), .val (.ref r101), .val (.long q0), .second, .unset, .unset] [(.ref b102)])) _
          refine XS.astore X104.here hx rfl (hb hby at_105) rfl rfl (l' := #[.val (.long q0), .second, .val (.long q2), .second, .val (.int p4), .val (.long q5), .second, .val (.int (b2i b1)), .val (.int (b2i b2)), .val (.ref r101), .val (.long q0), .second, .val (.ref b102), .unset]) rfl ?_
          show Steps p.tables e below (T104.setTop (mkF m 107 #[.val (.long q0), .second, .val (.long q2), .second, .val (.int p4), .val (.long q5), .second, .val (.int (b2i b1)), .val (.int (b2i b2)), .val (.ref r101), .val (.long q0), .second, .val (.ref b102), .unset] [])) _
          refine XS.iload X104.here hx rfl (hb hby at_107) rfl ?_
          exact kt
        by_cases hc109 : b1 = true
        · have f106 := (own_sta_keep ((own_sta_keep S_sk K101q all0).ext E102) K104q (allS ⟨_, A102⟩ all0))
          obtain ⟨T107, X107, e107, st107⟩ := getS2 X104 hx hZ hown (host := "") (Or.inl (hw _ (List.mem_of_getElem? (i := 64) rfl))) Via.refl rfl f106 (g := (mkF m 112 #[.val (.long q0), .second, .val (.long q2), .second, .val (.int p4), .val (.long q5), .second, .val (.int (b2i b1)), .val (.int (b2i b2)), .val (.ref r101), .val (.long q0), .second, .val (.ref b102), .unset] [])) rfl (hb hby at_112)
          have f109 := (own_sta_keep ((own_sta_keep S_ov K101q all0).ext E102) K104q (allS ⟨_, A102⟩ all0))
          have f110 := (own_sta_keep ((own_sta_keep S_vo K101q all0).ext E102) K104q (allS ⟨_, A102⟩ all0))
          have f111 := (own_sta_keep ((own_sta_keep S_fo K101q all0).ext E102) K104q (allS ⟨_, A102⟩ all0))
          have z112 : n0 ≤ T104.heap.size := (Nat.le_trans z105 K104q.1)
          obtain ⟨v108, T108, L108, X108, q108, st108⟩ := own_callV X107 hx hZ (y := (⟨"com/example/stackledger/stackledger/Cleanup$Chosen", "action", "()Lcom/example/stackledger/stackledger/Cleanup$Action;"⟩ : MethodName)) (z := (⟨"com/example/stackledger/stackledger/Cleanup$Chosen", "action", "()Lcom/example/stackledger/stackledger/Cleanup$Action;"⟩ : MethodName)) hown (hw _ (List.mem_of_getElem? (i := 58) rfl)) (hw _ (List.mem_of_getElem? (i := 59) rfl)) (notFace_of_selects (args := #[]) (mvT hZ (hw _ (List.mem_of_getElem? (i := 61) rfl)))) (hw _ (List.mem_of_getElem? (i := 61) rfl)) (hw _ (List.mem_of_getElem? (i := 60) rfl)) (hw _ (List.mem_of_getElem? (i := 28) rfl)) (hw _ (List.mem_of_getElem? (i := 62) rfl)) (by decide) E104q (hM := (rm8 l Z a0 hw [] b102 b1 q2 q0 sk ov vo fo T104.heap n0 z112 O104q B104q P104q f106 f109 f110 f111)) (by decide) (by decide) (by decide) (by decide) e107 (argsL := []) (rest := []) (Ls := #[.val (.long q0), .second, .val (.long q2), .second, .val (.int p4), .val (.long q5), .second, .val (.int (b2i b1)), .val (.int (b2i b2)), .val (.ref r101), .val (.long q0), .second, .val (.ref b102), .val (.ref sk)]) (by rw [hml]; rfl) (lenOf pd___Lcom_example_stackledger_stackledger_Cleanup_Action_ rfl) (W := 0) (Nat.le_of_eq rfl) (hb hby at_156)
          obtain ⟨rfl, N108q, e108⟩ := q108
          have N108 := Fr.app N104 N108q
          refine Gl.fin X108 (v := some (.int (1 : Int32))) (fun h => by rw [Bd.returns] at h; cases h) Bd.notSynchronized ?_ e108 (by decide) (by decide) (fun fs hr => ?_)
          · exact ⟨rfl, N108⟩
          · show Steps p.tables e below (T104.setTop (mkF m 109 #[.val (.long q0), .second, .val (.long q2), .second, .val (.int p4), .val (.long q5), .second, .val (.int (b2i b1)), .val (.int (b2i b2)), .val (.ref r101), .val (.long q0), .second, .val (.ref b102), .unset] [(.int (b2i b1))])) _
            refine XS.ifNo X104.here hx rfl (hb hby at_109) rfl (own_nbf (b0_eq _) hc109) ?_
            show Steps p.tables e below (T104.setTop (mkF m 112 #[.val (.long q0), .second, .val (.long q2), .second, .val (.int p4), .val (.long q5), .second, .val (.int (b2i b1)), .val (.int (b2i b2)), .val (.ref r101), .val (.long q0), .second, .val (.ref b102), .unset] [])) _
            refine st107 _ ?_
            show Steps p.tables e below (T107.setTop (mkF m 115 #[.val (.long q0), .second, .val (.long q2), .second, .val (.int p4), .val (.long q5), .second, .val (.int (b2i b1)), .val (.int (b2i b2)), .val (.ref r101), .val (.long q0), .second, .val (.ref b102), .unset] [(.ref sk)])) _
            refine XS.astore X107.here hx rfl (hb hby at_115) rfl rfl (l' := #[.val (.long q0), .second, .val (.long q2), .second, .val (.int p4), .val (.long q5), .second, .val (.int (b2i b1)), .val (.int (b2i b2)), .val (.ref r101), .val (.long q0), .second, .val (.ref b102), .val (.ref sk)]) rfl ?_
            show Steps p.tables e below (T107.setTop (mkF m 117 #[.val (.long q0), .second, .val (.long q2), .second, .val (.int p4), .val (.long q5), .second, .val (.int (b2i b1)), .val (.int (b2i b2)), .val (.ref r101), .val (.long q0), .second, .val (.ref b102), .val (.ref sk)] [])) _
            refine XS.goto X107.here hx rfl (pc0 := 117) (pc' := 154) rfl (hb hby at_117) (by decide) (by decide) ?_
            show Steps p.tables e below (T107.setTop (mkF m 154 #[.val (.long q0), .second, .val (.long q2), .second, .val (.int p4), .val (.long q5), .second, .val (.int (b2i b1)), .val (.int (b2i b2)), .val (.ref r101), .val (.long q0), .second, .val (.ref b102), .val (.ref sk)] [])) _
            refine XS.aload X107.here hx rfl (hb hby at_154) rfl rfl ?_
            show Steps p.tables e below (T107.setTop (mkF m 156 #[.val (.long q0), .second, .val (.long q2), .second, .val (.int p4), .val (.long q5), .second, .val (.int (b2i b1)), .val (.int (b2i b2)), .val (.ref r101), .val (.long q0), .second, .val (.ref b102), .val (.ref sk)] [(.ref b102)])) _
            refine st108 _ ?_
            show Steps p.tables e below (T108.setTop (mkF m 159 #[.val (.long q0), .second, .val (.long q2), .second, .val (.int p4), .val (.long q5), .second, .val (.int (b2i b1)), .val (.int (b2i b2)), .val (.ref r101), .val (.long q0), .second, .val (.ref b102), .val (.ref sk)] [(.ref (if b1 = true then sk else if q2 < (0 : Int64) then ov else if q0 = (0 : Int64) then vo else fo))])) _
            refine XS.aload X108.here hx rfl (hb hby at_159) rfl rfl ?_
            show Steps p.tables e below (T108.setTop (mkF m 161 #[.val (.long q0), .second, .val (.long q2), .second, .val (.int p4), .val (.long q5), .second, .val (.int (b2i b1)), .val (.int (b2i b2)), .val (.ref r101), .val (.long q0), .second, .val (.ref b102), .val (.ref sk)] [(.ref sk), (.ref (if b1 = true then sk else if q2 < (0 : Int64) then ov else if q0 = (0 : Int64) then vo else fo))])) _
            refine Jvm.RoadKit.acmp (g := (mkF m 161 #[.val (.long q0), .second, .val (.long q2), .second, .val (.int p4), .val (.long q5), .second, .val (.int (b2i b1)), .val (.int (b2i b2)), .val (.ref r101), .val (.long q0), .second, .val (.ref b102), .val (.ref sk)] [(.ref sk), (.ref (if b1 = true then sk else if q2 < (0 : Int64) then ov else if q0 = (0 : Int64) then vo else fo))])) X108 hx rfl rfl rfl (pc0 := 161) (pc' := 164) (same := true) rfl (hb hby at_161) rfl (decide_eq_true (congrArg Value.ref (by simp [hc109]))) (by decide) (by decide) ?_
            show Steps p.tables e below (T108.setTop (mkF m 164 #[.val (.long q0), .second, .val (.long q2), .second, .val (.int p4), .val (.long q5), .second, .val (.int (b2i b1)), .val (.int (b2i b2)), .val (.ref r101), .val (.long q0), .second, .val (.ref b102), .val (.ref sk)] [])) _
            refine XS.iconst X108.here hx rfl (hb hby at_164) ?_
            show Steps p.tables e below (T108.setTop (mkF m 165 #[.val (.long q0), .second, .val (.long q2), .second, .val (.int p4), .val (.long q5), .second, .val (.int (b2i b1)), .val (.int (b2i b2)), .val (.ref r101), .val (.long q0), .second, .val (.ref b102), .val (.ref sk)] [(.int (1 : Int32))])) _
            refine XS.goto X108.here hx rfl (pc0 := 165) (pc' := 169) rfl (hb hby at_165) (by decide) (by decide) ?_
            show Steps p.tables e below (T108.setTop (mkF m 169 #[.val (.long q0), .second, .val (.long q2), .second, .val (.int p4), .val (.long q5), .second, .val (.int (b2i b1)), .val (.int (b2i b2)), .val (.ref r101), .val (.long q0), .second, .val (.ref b102), .val (.ref sk)] [(.int (1 : Int32))])) _
            exact retN X108 hx (t := .boolean) Bd.returns (by simp) (hb hby at_169) hr
        · refine Gl.pre (S' := T104.setTop (mkF m 123 #[.val (.long q0), .second, .val (.long q2), .second, .val (.int p4), .val (.long q5), .second, .val (.int (b2i b1)), .val (.int (b2i b2)), .val (.ref r101), .val (.long q0), .second, .val (.ref b102), .unset] [(.int (lcmpW q2 (0 : Int64)))])) (fun t kt => ?_) ?_
          · show Steps p.tables e below (T104.setTop (mkF m 109 #[.val (.long q0), .second, .val (.long q2), .second, .val (.int p4), .val (.long q5), .second, .val (.int (b2i b1)), .val (.int (b2i b2)), .val (.ref r101), .val (.long q0), .second, .val (.ref b102), .unset] [(.int (b2i b1))])) _
            refine XS.ifYes X104.here hx rfl (pc0 := 109) (pc' := 120) rfl (hb hby at_109) rfl (own_nbt (b0_eq _) (Bool.eq_false_iff.mpr hc109)) (by decide) (by decide) ?_
            show Steps p.tables e below (T104.setTop (mkF m 120 #[.val (.long q0), .second, .val (.long q2), .second, .val (.int p4), .val (.long q5), .second, .val (.int (b2i b1)), .val (.int (b2i b2)), .val (.ref r101), .val (.long q0), .second, .val (.ref b102), .unset] [])) _
            refine XS.lloadN X104.here hx rfl (hb hby at_120) rfl ?_
            show Steps p.tables e below (T104.setTop (mkF m 121 #[.val (.long q0), .second, .val (.long q2), .second, .val (.int p4), .val (.long q5), .second, .val (.int (b2i b1)), .val (.int (b2i b2)), .val (.ref r101), .val (.long q0), .second, .val (.ref b102), .unset] [(.long q2)])) _
            refine XS.lconst X104.here hx rfl (hb hby at_121) ?_
            show Steps p.tables e below (T104.setTop (mkF m 122 #[.val (.long q0), .second, .val (.long q2), .second, .val (.int p4), .val (.long q5), .second, .val (.int (b2i b1)), .val (.int (b2i b2)), .val (.ref r101), .val (.long q0), .second, .val (.ref b102), .unset] [(.long (0 : Int64)), (.long q2)])) _
            refine XS.lcmp X104.here hx rfl (hb hby at_122) rfl ?_
            exact kt
          by_cases hc123 : (0 : Int64) < q2
          · refine Gl.pre (S' := T104.setTop (mkF m 130 #[.val (.long q0), .second, .val (.long q2), .second, .val (.int p4), .val (.long q5), .second, .val (.int (b2i b1)), .val (.int (b2i b2)), .val (.ref r101), .val (.long q0), .second, .val (.ref b102), .unset] [(.int (lcmpW q0 (0 : Int64)))])) (fun t kt => ?_) ?_
            · show Steps p.tables e below (T104.setTop (mkF m 123 #[.val (.long q0), .second, .val (.long q2), .second, .val (.int p4), .val (.long q5), .second, .val (.int (b2i b1)), .val (.int (b2i b2)), .val (.ref r101), .val (.long q0), .second, .val (.ref b102), .unset] [(.int (lcmpW q2 (0 : Int64)))])) _
              refine XS.ifNo X104.here hx rfl (hb hby at_123) rfl (own_nf (l0_le _ _) hc123) ?_
              show Steps p.tables e below (T104.setTop (mkF m 126 #[.val (.long q0), .second, .val (.long q2), .second, .val (.int p4), .val (.long q5), .second, .val (.int (b2i b1)), .val (.int (b2i b2)), .val (.ref r101), .val (.long q0), .second, .val (.ref b102), .unset] [])) _
              refine XS.lload X104.here hx rfl (hb hby at_126) rfl ?_
              show Steps p.tables e below (T104.setTop (mkF m 128 #[.val (.long q0), .second, .val (.long q2), .second, .val (.int p4), .val (.long q5), .second, .val (.int (b2i b1)), .val (.int (b2i b2)), .val (.ref r101), .val (.long q0), .second, .val (.ref b102), .unset] [(.long q0)])) _
              refine XS.lconst X104.here hx rfl (hb hby at_128) ?_
              show Steps p.tables e below (T104.setTop (mkF m 129 #[.val (.long q0), .second, .val (.long q2), .second, .val (.int p4), .val (.long q5), .second, .val (.int (b2i b1)), .val (.int (b2i b2)), .val (.ref r101), .val (.long q0), .second, .val (.ref b102), .unset] [(.long (0 : Int64)), (.long q0)])) _
              refine XS.lcmp X104.here hx rfl (hb hby at_129) rfl ?_
              exact kt
            by_cases hc130 : q0 = (0 : Int64)
            · have f113 := (own_sta_keep ((own_sta_keep S_vo K101q all0).ext E102) K104q (allS ⟨_, A102⟩ all0))
              obtain ⟨T114, X114, e114, st114⟩ := getS2 X104 hx hZ hown (host := "") (Or.inl (hw _ (List.mem_of_getElem? (i := 70) rfl))) Via.refl rfl f113 (g := (mkF m 133 #[.val (.long q0), .second, .val (.long q2), .second, .val (.int p4), .val (.long q5), .second, .val (.int (b2i b1)), .val (.int (b2i b2)), .val (.ref r101), .val (.long q0), .second, .val (.ref b102), .unset] [])) rfl (hb hby at_133)
              have f116 := (own_sta_keep ((own_sta_keep S_sk K101q all0).ext E102) K104q (allS ⟨_, A102⟩ all0))
              have f117 := (own_sta_keep ((own_sta_keep S_ov K101q all0).ext E102) K104q (allS ⟨_, A102⟩ all0))
              have f118 := (own_sta_keep ((own_sta_keep S_fo K101q all0).ext E102) K104q (allS ⟨_, A102⟩ all0))
              have z119 : n0 ≤ T104.heap.size := (Nat.le_trans z105 K104q.1)
              obtain ⟨v115, T115, L115, X115, q115, st115⟩ := own_callV X114 hx hZ (y := (⟨"com/example/stackledger/stackledger/Cleanup$Chosen", "action", "()Lcom/example/stackledger/stackledger/Cleanup$Action;"⟩ : MethodName)) (z := (⟨"com/example/stackledger/stackledger/Cleanup$Chosen", "action", "()Lcom/example/stackledger/stackledger/Cleanup$Action;"⟩ : MethodName)) hown (hw _ (List.mem_of_getElem? (i := 58) rfl)) (hw _ (List.mem_of_getElem? (i := 59) rfl)) (notFace_of_selects (args := #[]) (mvT hZ (hw _ (List.mem_of_getElem? (i := 61) rfl)))) (hw _ (List.mem_of_getElem? (i := 61) rfl)) (hw _ (List.mem_of_getElem? (i := 60) rfl)) (hw _ (List.mem_of_getElem? (i := 28) rfl)) (hw _ (List.mem_of_getElem? (i := 62) rfl)) (by decide) E104q (hM := (rm8 l Z a0 hw [] b102 b1 q2 q0 sk ov vo fo T104.heap n0 z119 O104q B104q P104q f116 f117 f113 f118)) (by decide) (by decide) (by decide) (by decide) e114 (argsL := []) (rest := []) (Ls := #[.val (.long q0), .second, .val (.long q2), .second, .val (.int p4), .val (.long q5), .second, .val (.int (b2i b1)), .val (.int (b2i b2)), .val (.ref r101), .val (.long q0), .second, .val (.ref b102), .val (.ref vo)]) (by rw [hml]; rfl) (lenOf pd___Lcom_example_stackledger_stackledger_Cleanup_Action_ rfl) (W := 0) (Nat.le_of_eq rfl) (hb hby at_156)
              obtain ⟨rfl, N115q, e115⟩ := q115
              have N115 := Fr.app N104 N115q
              refine Gl.fin X115 (v := some (.int (1 : Int32))) (fun h => by rw [Bd.returns] at h; cases h) Bd.notSynchronized ?_ e115 (by decide) (by decide) (fun fs hr => ?_)
              · exact ⟨rfl, N115⟩
              · show Steps p.tables e below (T104.setTop (mkF m 130 #[.val (.long q0), .second, .val (.long q2), .second, .val (.int p4), .val (.long q5), .second, .val (.int (b2i b1)), .val (.int (b2i b2)), .val (.ref r101), .val (.long q0), .second, .val (.ref b102), .unset] [(.int (lcmpW q0 (0 : Int64)))])) _
                refine XS.ifNo X104.here hx rfl (hb hby at_130) rfl (own_nf (l0_ne _ _) hc130) ?_
                show Steps p.tables e below (T104.setTop (mkF m 133 #[.val (.long q0), .second, .val (.long q2), .second, .val (.int p4), .val (.long q5), .second, .val (.int (b2i b1)), .val (.int (b2i b2)), .val (.ref r101), .val (.long q0), .second, .val (.ref b102), .unset] [])) _
                refine st114 _ ?_
                show Steps p.tables e below (T114.setTop (mkF m 136 #[.val (.long q0), .second, .val (.long q2), .second, .val (.int p4), .val (.long q5), .second, .val (.int (b2i b1)), .val (.int (b2i b2)), .val (.ref r101), .val (.long q0), .second, .val (.ref b102), .unset] [(.ref vo)])) _
                refine XS.astore X114.here hx rfl (hb hby at_136) rfl rfl (l' := #[.val (.long q0), .second, .val (.long q2), .second, .val (.int p4), .val (.long q5), .second, .val (.int (b2i b1)), .val (.int (b2i b2)), .val (.ref r101), .val (.long q0), .second, .val (.ref b102), .val (.ref vo)]) rfl ?_
                show Steps p.tables e below (T114.setTop (mkF m 138 #[.val (.long q0), .second, .val (.long q2), .second, .val (.int p4), .val (.long q5), .second, .val (.int (b2i b1)), .val (.int (b2i b2)), .val (.ref r101), .val (.long q0), .second, .val (.ref b102), .val (.ref vo)] [])) _
                refine XS.goto X114.here hx rfl (pc0 := 138) (pc' := 154) rfl (hb hby at_138) (by decide) (by decide) ?_
                show Steps p.tables e below (T114.setTop (mkF m 154 #[.val (.long q0), .second, .val (.long q2), .second, .val (.int p4), .val (.long q5), .second, .val (.int (b2i b1)), .val (.int (b2i b2)), .val (.ref r101), .val (.long q0), .second, .val (.ref b102), .val (.ref vo)] [])) _
                refine XS.aload X114.here hx rfl (hb hby at_154) rfl rfl ?_
                show Steps p.tables e below (T114.setTop (mkF m 156 #[.val (.long q0), .second, .val (.long q2), .second, .val (.int p4), .val (.long q5), .second, .val (.int (b2i b1)), .val (.int (b2i b2)), .val (.ref r101), .val (.long q0), .second, .val (.ref b102), .val (.ref vo)] [(.ref b102)])) _
                refine st115 _ ?_
                show Steps p.tables e below (T115.setTop (mkF m 159 #[.val (.long q0), .second, .val (.long q2), .second, .val (.int p4), .val (.long q5), .second, .val (.int (b2i b1)), .val (.int (b2i b2)), .val (.ref r101), .val (.long q0), .second, .val (.ref b102), .val (.ref vo)] [(.ref (if b1 = true then sk else if q2 < (0 : Int64) then ov else if q0 = (0 : Int64) then vo else fo))])) _
                refine XS.aload X115.here hx rfl (hb hby at_159) rfl rfl ?_
                show Steps p.tables e below (T115.setTop (mkF m 161 #[.val (.long q0), .second, .val (.long q2), .second, .val (.int p4), .val (.long q5), .second, .val (.int (b2i b1)), .val (.int (b2i b2)), .val (.ref r101), .val (.long q0), .second, .val (.ref b102), .val (.ref vo)] [(.ref vo), (.ref (if b1 = true then sk else if q2 < (0 : Int64) then ov else if q0 = (0 : Int64) then vo else fo))])) _
                refine Jvm.RoadKit.acmp (g := (mkF m 161 #[.val (.long q0), .second, .val (.long q2), .second, .val (.int p4), .val (.long q5), .second, .val (.int (b2i b1)), .val (.int (b2i b2)), .val (.ref r101), .val (.long q0), .second, .val (.ref b102), .val (.ref vo)] [(.ref vo), (.ref (if b1 = true then sk else if q2 < (0 : Int64) then ov else if q0 = (0 : Int64) then vo else fo))])) X115 hx rfl rfl rfl (pc0 := 161) (pc' := 164) (same := true) rfl (hb hby at_161) rfl (decide_eq_true (congrArg Value.ref (by simp [hc109, own_nlt hc123, hc130]))) (by decide) (by decide) ?_
                show Steps p.tables e below (T115.setTop (mkF m 164 #[.val (.long q0), .second, .val (.long q2), .second, .val (.int p4), .val (.long q5), .second, .val (.int (b2i b1)), .val (.int (b2i b2)), .val (.ref r101), .val (.long q0), .second, .val (.ref b102), .val (.ref vo)] [])) _
                refine XS.iconst X115.here hx rfl (hb hby at_164) ?_
                show Steps p.tables e below (T115.setTop (mkF m 165 #[.val (.long q0), .second, .val (.long q2), .second, .val (.int p4), .val (.long q5), .second, .val (.int (b2i b1)), .val (.int (b2i b2)), .val (.ref r101), .val (.long q0), .second, .val (.ref b102), .val (.ref vo)] [(.int (1 : Int32))])) _
                refine XS.goto X115.here hx rfl (pc0 := 165) (pc' := 169) rfl (hb hby at_165) (by decide) (by decide) ?_
                show Steps p.tables e below (T115.setTop (mkF m 169 #[.val (.long q0), .second, .val (.long q2), .second, .val (.int p4), .val (.long q5), .second, .val (.int (b2i b1)), .val (.int (b2i b2)), .val (.ref r101), .val (.long q0), .second, .val (.ref b102), .val (.ref vo)] [(.int (1 : Int32))])) _
                exact retN X115 hx (t := .boolean) Bd.returns (by simp) (hb hby at_169) hr
            · have f120 := (own_sta_keep ((own_sta_keep S_fo K101q all0).ext E102) K104q (allS ⟨_, A102⟩ all0))
              obtain ⟨T121, X121, e121, st121⟩ := getS2 X104 hx hZ hown (host := "") (Or.inl (hw _ (List.mem_of_getElem? (i := 55) rfl))) Via.refl rfl f120 (g := (mkF m 141 #[.val (.long q0), .second, .val (.long q2), .second, .val (.int p4), .val (.long q5), .second, .val (.int (b2i b1)), .val (.int (b2i b2)), .val (.ref r101), .val (.long q0), .second, .val (.ref b102), .unset] [])) rfl (hb hby at_141)
              have f123 := (own_sta_keep ((own_sta_keep S_sk K101q all0).ext E102) K104q (allS ⟨_, A102⟩ all0))
              have f124 := (own_sta_keep ((own_sta_keep S_ov K101q all0).ext E102) K104q (allS ⟨_, A102⟩ all0))
              have f125 := (own_sta_keep ((own_sta_keep S_vo K101q all0).ext E102) K104q (allS ⟨_, A102⟩ all0))
              have z126 : n0 ≤ T104.heap.size := (Nat.le_trans z105 K104q.1)
              obtain ⟨v122, T122, L122, X122, q122, st122⟩ := own_callV X121 hx hZ (y := (⟨"com/example/stackledger/stackledger/Cleanup$Chosen", "action", "()Lcom/example/stackledger/stackledger/Cleanup$Action;"⟩ : MethodName)) (z := (⟨"com/example/stackledger/stackledger/Cleanup$Chosen", "action", "()Lcom/example/stackledger/stackledger/Cleanup$Action;"⟩ : MethodName)) hown (hw _ (List.mem_of_getElem? (i := 58) rfl)) (hw _ (List.mem_of_getElem? (i := 59) rfl)) (notFace_of_selects (args := #[]) (mvT hZ (hw _ (List.mem_of_getElem? (i := 61) rfl)))) (hw _ (List.mem_of_getElem? (i := 61) rfl)) (hw _ (List.mem_of_getElem? (i := 60) rfl)) (hw _ (List.mem_of_getElem? (i := 28) rfl)) (hw _ (List.mem_of_getElem? (i := 62) rfl)) (by decide) E104q (hM := (rm8 l Z a0 hw [] b102 b1 q2 q0 sk ov vo fo T104.heap n0 z126 O104q B104q P104q f123 f124 f125 f120)) (by decide) (by decide) (by decide) (by decide) e121 (argsL := []) (rest := []) (Ls := #[.val (.long q0), .second, .val (.long q2), .second, .val (.int p4), .val (.long q5), .second, .val (.int (b2i b1)), .val (.int (b2i b2)), .val (.ref r101), .val (.long q0), .second, .val (.ref b102), .val (.ref fo)]) (by rw [hml]; rfl) (lenOf pd___Lcom_example_stackledger_stackledger_Cleanup_Action_ rfl) (W := 0) (Nat.le_of_eq rfl) (hb hby at_156)
              obtain ⟨rfl, N122q, e122⟩ := q122
              have N122 := Fr.app N104 N122q
              refine Gl.fin X122 (v := some (.int (1 : Int32))) (fun h => by rw [Bd.returns] at h; cases h) Bd.notSynchronized ?_ e122 (by decide) (by decide) (fun fs hr => ?_)
              · exact ⟨rfl, N122⟩
              · show Steps p.tables e below (T104.setTop (mkF m 130 #[.val (.long q0), .second, .val (.long q2), .second, .val (.int p4), .val (.long q5), .second, .val (.int (b2i b1)), .val (.int (b2i b2)), .val (.ref r101), .val (.long q0), .second, .val (.ref b102), .unset] [(.int (lcmpW q0 (0 : Int64)))])) _
                refine XS.ifYes X104.here hx rfl (pc0 := 130) (pc' := 141) rfl (hb hby at_130) rfl (own_nt (l0_ne _ _) hc130) (by decide) (by decide) ?_
                show Steps p.tables e below (T104.setTop (mkF m 141 #[.val (.long q0), .second, .val (.long q2), .second, .val (.int p4), .val (.long q5), .second, .val (.int (b2i b1)), .val (.int (b2i b2)), .val (.ref r101), .val (.long q0), .second, .val (.ref b102), .unset] [])) _
                refine st121 _ ?_
                show Steps p.tables e below (T121.setTop (mkF m 144 #[.val (.long q0), .second, .val (.long q2), .second, .val (.int p4), .val (.long q5), .second, .val (.int (b2i b1)), .val (.int (b2i b2)), .val (.ref r101), .val (.long q0), .second, .val (.ref b102), .unset] [(.ref fo)])) _
                refine XS.astore X121.here hx rfl (hb hby at_144) rfl rfl (l' := #[.val (.long q0), .second, .val (.long q2), .second, .val (.int p4), .val (.long q5), .second, .val (.int (b2i b1)), .val (.int (b2i b2)), .val (.ref r101), .val (.long q0), .second, .val (.ref b102), .val (.ref fo)]) rfl ?_
                show Steps p.tables e below (T121.setTop (mkF m 146 #[.val (.long q0), .second, .val (.long q2), .second, .val (.int p4), .val (.long q5), .second, .val (.int (b2i b1)), .val (.int (b2i b2)), .val (.ref r101), .val (.long q0), .second, .val (.ref b102), .val (.ref fo)] [])) _
                refine XS.goto X121.here hx rfl (pc0 := 146) (pc' := 154) rfl (hb hby at_146) (by decide) (by decide) ?_
                show Steps p.tables e below (T121.setTop (mkF m 154 #[.val (.long q0), .second, .val (.long q2), .second, .val (.int p4), .val (.long q5), .second, .val (.int (b2i b1)), .val (.int (b2i b2)), .val (.ref r101), .val (.long q0), .second, .val (.ref b102), .val (.ref fo)] [])) _
                refine XS.aload X121.here hx rfl (hb hby at_154) rfl rfl ?_
                show Steps p.tables e below (T121.setTop (mkF m 156 #[.val (.long q0), .second, .val (.long q2), .second, .val (.int p4), .val (.long q5), .second, .val (.int (b2i b1)), .val (.int (b2i b2)), .val (.ref r101), .val (.long q0), .second, .val (.ref b102), .val (.ref fo)] [(.ref b102)])) _
                refine st122 _ ?_
                show Steps p.tables e below (T122.setTop (mkF m 159 #[.val (.long q0), .second, .val (.long q2), .second, .val (.int p4), .val (.long q5), .second, .val (.int (b2i b1)), .val (.int (b2i b2)), .val (.ref r101), .val (.long q0), .second, .val (.ref b102), .val (.ref fo)] [(.ref (if b1 = true then sk else if q2 < (0 : Int64) then ov else if q0 = (0 : Int64) then vo else fo))])) _
                refine XS.aload X122.here hx rfl (hb hby at_159) rfl rfl ?_
                show Steps p.tables e below (T122.setTop (mkF m 161 #[.val (.long q0), .second, .val (.long q2), .second, .val (.int p4), .val (.long q5), .second, .val (.int (b2i b1)), .val (.int (b2i b2)), .val (.ref r101), .val (.long q0), .second, .val (.ref b102), .val (.ref fo)] [(.ref fo), (.ref (if b1 = true then sk else if q2 < (0 : Int64) then ov else if q0 = (0 : Int64) then vo else fo))])) _
                refine Jvm.RoadKit.acmp (g := (mkF m 161 #[.val (.long q0), .second, .val (.long q2), .second, .val (.int p4), .val (.long q5), .second, .val (.int (b2i b1)), .val (.int (b2i b2)), .val (.ref r101), .val (.long q0), .second, .val (.ref b102), .val (.ref fo)] [(.ref fo), (.ref (if b1 = true then sk else if q2 < (0 : Int64) then ov else if q0 = (0 : Int64) then vo else fo))])) X122 hx rfl rfl rfl (pc0 := 161) (pc' := 164) (same := true) rfl (hb hby at_161) rfl (decide_eq_true (congrArg Value.ref (by simp [hc109, own_nlt hc123, hc130]))) (by decide) (by decide) ?_
                show Steps p.tables e below (T122.setTop (mkF m 164 #[.val (.long q0), .second, .val (.long q2), .second, .val (.int p4), .val (.long q5), .second, .val (.int (b2i b1)), .val (.int (b2i b2)), .val (.ref r101), .val (.long q0), .second, .val (.ref b102), .val (.ref fo)] [])) _
                refine XS.iconst X122.here hx rfl (hb hby at_164) ?_
                show Steps p.tables e below (T122.setTop (mkF m 165 #[.val (.long q0), .second, .val (.long q2), .second, .val (.int p4), .val (.long q5), .second, .val (.int (b2i b1)), .val (.int (b2i b2)), .val (.ref r101), .val (.long q0), .second, .val (.ref b102), .val (.ref fo)] [(.int (1 : Int32))])) _
                refine XS.goto X122.here hx rfl (pc0 := 165) (pc' := 169) rfl (hb hby at_165) (by decide) (by decide) ?_
                show Steps p.tables e below (T122.setTop (mkF m 169 #[.val (.long q0), .second, .val (.long q2), .second, .val (.int p4), .val (.long q5), .second, .val (.int (b2i b1)), .val (.int (b2i b2)), .val (.ref r101), .val (.long q0), .second, .val (.ref b102), .val (.ref fo)] [(.int (1 : Int32))])) _
                exact retN X122 hx (t := .boolean) Bd.returns (by simp) (hb hby at_169) hr
          · have f127 := (own_sta_keep ((own_sta_keep S_ov K101q all0).ext E102) K104q (allS ⟨_, A102⟩ all0))
            obtain ⟨T128, X128, e128, st128⟩ := getS2 X104 hx hZ hown (host := "") (Or.inl (hw _ (List.mem_of_getElem? (i := 67) rfl))) Via.refl rfl f127 (g := (mkF m 149 #[.val (.long q0), .second, .val (.long q2), .second, .val (.int p4), .val (.long q5), .second, .val (.int (b2i b1)), .val (.int (b2i b2)), .val (.ref r101), .val (.long q0), .second, .val (.ref b102), .unset] [])) rfl (hb hby at_149)
            have f130 := (own_sta_keep ((own_sta_keep S_sk K101q all0).ext E102) K104q (allS ⟨_, A102⟩ all0))
            have f131 := (own_sta_keep ((own_sta_keep S_vo K101q all0).ext E102) K104q (allS ⟨_, A102⟩ all0))
            have f132 := (own_sta_keep ((own_sta_keep S_fo K101q all0).ext E102) K104q (allS ⟨_, A102⟩ all0))
            have z133 : n0 ≤ T104.heap.size := (Nat.le_trans z105 K104q.1)
            obtain ⟨v129, T129, L129, X129, q129, st129⟩ := own_callV X128 hx hZ (y := (⟨"com/example/stackledger/stackledger/Cleanup$Chosen", "action", "()Lcom/example/stackledger/stackledger/Cleanup$Action;"⟩ : MethodName)) (z := (⟨"com/example/stackledger/stackledger/Cleanup$Chosen", "action", "()Lcom/example/stackledger/stackledger/Cleanup$Action;"⟩ : MethodName)) hown (hw _ (List.mem_of_getElem? (i := 58) rfl)) (hw _ (List.mem_of_getElem? (i := 59) rfl)) (notFace_of_selects (args := #[]) (mvT hZ (hw _ (List.mem_of_getElem? (i := 61) rfl)))) (hw _ (List.mem_of_getElem? (i := 61) rfl)) (hw _ (List.mem_of_getElem? (i := 60) rfl)) (hw _ (List.mem_of_getElem? (i := 28) rfl)) (hw _ (List.mem_of_getElem? (i := 62) rfl)) (by decide) E104q (hM := (rm8 l Z a0 hw [] b102 b1 q2 q0 sk ov vo fo T104.heap n0 z133 O104q B104q P104q f130 f127 f131 f132)) (by decide) (by decide) (by decide) (by decide) e128 (argsL := []) (rest := []) (Ls := #[.val (.long q0), .second, .val (.long q2), .second, .val (.int p4), .val (.long q5), .second, .val (.int (b2i b1)), .val (.int (b2i b2)), .val (.ref r101), .val (.long q0), .second, .val (.ref b102), .val (.ref ov)]) (by rw [hml]; rfl) (lenOf pd___Lcom_example_stackledger_stackledger_Cleanup_Action_ rfl) (W := 0) (Nat.le_of_eq rfl) (hb hby at_156)
            obtain ⟨rfl, N129q, e129⟩ := q129
            have N129 := Fr.app N104 N129q
            refine Gl.fin X129 (v := some (.int (1 : Int32))) (fun h => by rw [Bd.returns] at h; cases h) Bd.notSynchronized ?_ e129 (by decide) (by decide) (fun fs hr => ?_)
            · exact ⟨rfl, N129⟩
            · show Steps p.tables e below (T104.setTop (mkF m 123 #[.val (.long q0), .second, .val (.long q2), .second, .val (.int p4), .val (.long q5), .second, .val (.int (b2i b1)), .val (.int (b2i b2)), .val (.ref r101), .val (.long q0), .second, .val (.ref b102), .unset] [(.int (lcmpW q2 (0 : Int64)))])) _
              refine XS.ifYes X104.here hx rfl (pc0 := 123) (pc' := 149) rfl (hb hby at_123) rfl (own_nt (l0_le _ _) hc123) (by decide) (by decide) ?_
              show Steps p.tables e below (T104.setTop (mkF m 149 #[.val (.long q0), .second, .val (.long q2), .second, .val (.int p4), .val (.long q5), .second, .val (.int (b2i b1)), .val (.int (b2i b2)), .val (.ref r101), .val (.long q0), .second, .val (.ref b102), .unset] [])) _
              refine st128 _ ?_
              show Steps p.tables e below (T128.setTop (mkF m 152 #[.val (.long q0), .second, .val (.long q2), .second, .val (.int p4), .val (.long q5), .second, .val (.int (b2i b1)), .val (.int (b2i b2)), .val (.ref r101), .val (.long q0), .second, .val (.ref b102), .unset] [(.ref ov)])) _
              refine XS.astore X128.here hx rfl (hb hby at_152) rfl rfl (l' := #[.val (.long q0), .second, .val (.long q2), .second, .val (.int p4), .val (.long q5), .second, .val (.int (b2i b1)), .val (.int (b2i b2)), .val (.ref r101), .val (.long q0), .second, .val (.ref b102), .val (.ref ov)]) rfl ?_
              show Steps p.tables e below (T128.setTop (mkF m 154 #[.val (.long q0), .second, .val (.long q2), .second, .val (.int p4), .val (.long q5), .second, .val (.int (b2i b1)), .val (.int (b2i b2)), .val (.ref r101), .val (.long q0), .second, .val (.ref b102), .val (.ref ov)] [])) _
              refine XS.aload X128.here hx rfl (hb hby at_154) rfl rfl ?_
              show Steps p.tables e below (T128.setTop (mkF m 156 #[.val (.long q0), .second, .val (.long q2), .second, .val (.int p4), .val (.long q5), .second, .val (.int (b2i b1)), .val (.int (b2i b2)), .val (.ref r101), .val (.long q0), .second, .val (.ref b102), .val (.ref ov)] [(.ref b102)])) _
              refine st129 _ ?_
              show Steps p.tables e below (T129.setTop (mkF m 159 #[.val (.long q0), .second, .val (.long q2), .second, .val (.int p4), .val (.long q5), .second, .val (.int (b2i b1)), .val (.int (b2i b2)), .val (.ref r101), .val (.long q0), .second, .val (.ref b102), .val (.ref ov)] [(.ref (if b1 = true then sk else if q2 < (0 : Int64) then ov else if q0 = (0 : Int64) then vo else fo))])) _
              refine XS.aload X129.here hx rfl (hb hby at_159) rfl rfl ?_
              show Steps p.tables e below (T129.setTop (mkF m 161 #[.val (.long q0), .second, .val (.long q2), .second, .val (.int p4), .val (.long q5), .second, .val (.int (b2i b1)), .val (.int (b2i b2)), .val (.ref r101), .val (.long q0), .second, .val (.ref b102), .val (.ref ov)] [(.ref ov), (.ref (if b1 = true then sk else if q2 < (0 : Int64) then ov else if q0 = (0 : Int64) then vo else fo))])) _
              refine Jvm.RoadKit.acmp (g := (mkF m 161 #[.val (.long q0), .second, .val (.long q2), .second, .val (.int p4), .val (.long q5), .second, .val (.int (b2i b1)), .val (.int (b2i b2)), .val (.ref r101), .val (.long q0), .second, .val (.ref b102), .val (.ref ov)] [(.ref ov), (.ref (if b1 = true then sk else if q2 < (0 : Int64) then ov else if q0 = (0 : Int64) then vo else fo))])) X129 hx rfl rfl rfl (pc0 := 161) (pc' := 164) (same := true) rfl (hb hby at_161) rfl (decide_eq_true (congrArg Value.ref (by simp [hc109, own_tri hc123 hc3]))) (by decide) (by decide) ?_
              show Steps p.tables e below (T129.setTop (mkF m 164 #[.val (.long q0), .second, .val (.long q2), .second, .val (.int p4), .val (.long q5), .second, .val (.int (b2i b1)), .val (.int (b2i b2)), .val (.ref r101), .val (.long q0), .second, .val (.ref b102), .val (.ref ov)] [])) _
              refine XS.iconst X129.here hx rfl (hb hby at_164) ?_
              show Steps p.tables e below (T129.setTop (mkF m 165 #[.val (.long q0), .second, .val (.long q2), .second, .val (.int p4), .val (.long q5), .second, .val (.int (b2i b1)), .val (.int (b2i b2)), .val (.ref r101), .val (.long q0), .second, .val (.ref b102), .val (.ref ov)] [(.int (1 : Int32))])) _
              refine XS.goto X129.here hx rfl (pc0 := 165) (pc' := 169) rfl (hb hby at_165) (by decide) (by decide) ?_
              show Steps p.tables e below (T129.setTop (mkF m 169 #[.val (.long q0), .second, .val (.long q2), .second, .val (.int p4), .val (.long q5), .second, .val (.int (b2i b1)), .val (.int (b2i b2)), .val (.ref r101), .val (.long q0), .second, .val (.ref b102), .val (.ref ov)] [(.int (1 : Int32))])) _
              exact retN X129 hx (t := .boolean) Bd.returns (by simp) (hb hby at_169) hr
      · obtain ⟨T134, h134, X134, e134, E134, A134, D134, -, st134⟩ := newO X101 hx hZ hown (hw _ (List.mem_of_getElem? (i := 26) rfl)) (hw _ (List.mem_of_getElem? (i := 27) rfl)) (hw _ (List.mem_of_getElem? (i := 28) rfl)) rfl (g := (mkF m 77 #[.val (.long q0), .second, .val (.long q2), .second, .val (.int p4), .val (.long q5), .second, .val (.int (b2i b1)), .val (.int (b2i b2)), .val (.ref r101), .val (.long (0 : Int64)), .second, .unset, .unset] [])) rfl (hb hby at_77) (by decide) (by decide)
        obtain ⟨b134, g134⟩ : ∃ z, z = T101.heap.size := ⟨_, rfl⟩
        have z135 : n0 ≤ T101.heap.size := (Nat.le_trans Z0 K101q.1)
        have g_b134 : n0 ≤ b134 := Nat.le_trans z135 (Nat.le_of_eq g134.symm)
        have sz_b134 : h0.size ≤ b134 := Nat.le_trans K101.1 (Nat.le_of_eq g134.symm)
        rw [← g134] at A134 D134 st134
        have K134 : Keep h0 h134 [] := K101.ext E134
        have F_transaction_b134 : Fld Z h134 b134 "com/example/stackledger/stackledger/Cleanup$Chosen" "transaction" "J" (.long (0 : Int64)) := D134 (Or.inr (hw _ (List.mem_of_getElem? (i := 40) rfl))) (ty := .long) (by decide)
        have F_patron_b134 : Fld Z h134 b134 "com/example/stackledger/stackledger/Cleanup$Chosen" "patron" "J" (.long (0 : Int64)) := D134 (Or.inr (hw _ (List.mem_of_getElem? (i := 42) rfl))) (ty := .long) (by decide)
        have F_org_b134 : Fld Z h134 b134 "com/example/stackledger/stackledger/Cleanup$Chosen" "org" "Ljava/lang/String;" .null := D134 (Or.inr (hw _ (List.mem_of_getElem? (i := 44) rfl))) (ty := (.object "java/lang/String")) (by decide)
        have F_startedAt_b134 : Fld Z h134 b134 "com/example/stackledger/stackledger/Cleanup$Chosen" "startedAt" "J" (.long (0 : Int64)) := D134 (Or.inr (hw _ (List.mem_of_getElem? (i := 46) rfl))) (ty := .long) (by decide)
        have F_finished_b134 : Fld Z h134 b134 "com/example/stackledger/stackledger/Cleanup$Chosen" "finished" "Z" (.int (0 : Int32)) := D134 (Or.inr (hw _ (List.mem_of_getElem? (i := 48) rfl))) (ty := .boolean) (by decide)
        have F_totalPaidCents_b134 : Fld Z h134 b134 "com/example/stackledger/stackledger/Cleanup$Chosen" "totalPaidCents" "J" (.long (0 : Int64)) := D134 (Or.inr (hw _ (List.mem_of_getElem? (i := 50) rfl))) (ty := .long) (by decide)
        have F_balanceCents_b134 : Fld Z h134 b134 "com/example/stackledger/stackledger/Cleanup$Chosen" "balanceCents" "J" (.long (0 : Int64)) := D134 (Or.inr (hw _ (List.mem_of_getElem? (i := 52) rfl))) (ty := .long) (by decide)
        have F_lost_b134 : Fld Z h134 b134 "com/example/stackledger/stackledger/Cleanup$Chosen" "lost" "Z" (.int (0 : Int32)) := D134 (Or.inr (hw _ (List.mem_of_getElem? (i := 54) rfl))) (ty := .boolean) (by decide)
        have z137 : n0 ≤ h134.size := (Nat.le_trans z135 E134.1)
        obtain ⟨v136, T136, L136, X136, q136, st136⟩ := own_callI X134 hx hZ (y := (⟨"com/example/stackledger/stackledger/Cleanup$Chosen", "<init>", "(JJLjava/lang/String;JZJJZ)V"⟩ : MethodName)) rfl hown (hw _ (List.mem_of_getElem? (i := 30) rfl)) (hw _ (List.mem_of_getElem? (i := 31) rfl)) (hw _ (List.mem_of_getElem? (i := 28) rfl)) (hw _ (List.mem_of_getElem? (i := 32) rfl)) (by decide) (a := b134) (hM := (rm6r l Z a0 hw [] b134 q5 (q5 ^^^ (-1 : Int64)) r101 (q5 ^^^ q0) (0 : Int64) q2 b2 b1 h134 n0 z137 g_b134 A134 F_transaction_b134 F_patron_b134 F_org_b134 F_startedAt_b134 F_finished_b134 F_totalPaidCents_b134 F_balanceCents_b134 F_lost_b134)) (by decide) (by decide) (by decide) (by decide) e134 (argsL := [(.long q5), (.long (q5 ^^^ (-1 : Int64))), (.ref r101), (.long (q5 ^^^ q0)), (.int (b2i b2)), (.long (0 : Int64)), (.long q2), (.int (b2i b1))]) (rest := [(.ref b134)]) (Ls := #[.val (.long q0), .second, .val (.long q2), .second, .val (.int p4), .val (.long q5), .second, .val (.int (b2i b1)), .val (.int (b2i b2)), .val (.ref r101), .val (.long (0 : Int64)), .second, .unset, .unset]) (by rw [hml]; rfl) (lenOf pd__JJLjava_lang_String_JZJJZ_V rfl) (W := 1) (Nat.le_of_eq rfl) (hb hby at_102)
        obtain ⟨rfl, N136q, K136q, E136q, P136q, B136q, O136q⟩ := q136
        have N136 := Fr.app N101 N136q
        have K136 : Keep h0 T136.heap [] := K134.trans K136q (allS (Or.inr sz_b134) all0)
        refine Gl.pre (S' := T136.setTop (mkF m 109 #[.val (.long q0), .second, .val (.long q2), .second, .val (.int p4), .val (.long q5), .second, .val (.int (b2i b1)), .val (.int (b2i b2)), .val (.ref r101), .val (.long (0 : Int64)), .second, .val (.ref b134), .unset] [(.int (b2i b1))])) (fun t kt => ?_) ?_
        · show Steps p.tables e below (T101.setTop (mkF m 67 #[.val (.long q0), .second, .val (.long q2), .second, .val (.int p4), .val (.long q5), .second, .val (.int (b2i b1)), .val (.int (b2i b2)), .val (.ref r101), .unset, .unset, .unset, .unset] [(.int (p4 &&& (8 : Int32)))])) _
          refine XS.ifNo X101.here hx rfl (hb hby at_67) rfl (own_f (i0_eq _) hc67) ?_
          show Steps p.tables e below (T101.setTop (mkF m 70 #[.val (.long q0), .second, .val (.long q2), .second, .val (.int p4), .val (.long q5), .second, .val (.int (b2i b1)), .val (.int (b2i b2)), .val (.ref r101), .unset, .unset, .unset, .unset] [])) _
          refine XS.lconst X101.here hx rfl (hb hby at_70) ?_
          show Steps p.tables e below (T101.setTop (mkF m 71 #[.val (.long q0), .second, .val (.long q2), .second, .val (.int p4), .val (.long q5), .second, .val (.int (b2i b1)), .val (.int (b2i b2)), .val (.ref r101), .unset, .unset, .unset, .unset] [(.long (0 : Int64))])) _
          refine XS.goto X101.here hx rfl (pc0 := 71) (pc' := 75) rfl (hb hby at_71) (by decide) (by decide) ?_
          show Steps p.tables e below (T101.setTop (mkF m 75 #[.val (.long q0), .second, .val (.long q2), .second, .val (.int p4), .val (.long q5), .second, .val (.int (b2i b1)), .val (.int (b2i b2)), .val (.ref r101), .unset, .unset, .unset, .unset] [(.long (0 : Int64))])) _
          refine XS.lstore X101.here hx rfl (hb hby at_75) rfl (l' := #[.val (.long q0), .second, .val (.long q2), .second, .val (.int p4), .val (.long q5), .second, .val (.int (b2i b1)), .val (.int (b2i b2)), .val (.ref r101), .val (.long (0 : Int64)), .second, .unset, .unset]) rfl ?_
          show Steps p.tables e below (T101.setTop (mkF m 77 #[.val (.long q0), .second, .val (.long q2), .second, .val (.int p4), .val (.long q5), .second, .val (.int (b2i b1)), .val (.int (b2i b2)), .val (.ref r101), .val (.long (0 : Int64)), .second, .unset, .unset] [])) _
          refine st134 _ ?_
          show Steps p.tables e below (T134.setTop (mkF m 80 #[.val (.long q0), .second, .val (.long q2), .second, .val (.int p4), .val (.long q5), .second, .val (.int (b2i b1)), .val (.int (b2i b2)), .val (.ref r101), .val (.long (0 : Int64)), .second, .unset, .unset] [(.ref b134)])) _
          refine XS.dup X134.here hx rfl (hb hby at_80) rfl rfl ?_
          show Steps p.tables e below (T134.setTop (mkF m 81 #[.val (.long q0), .second, .val (.long q2), .second, .val (.int p4), .val (.long q5), .second, .val (.int (b2i b1)), .val (.int (b2i b2)), .val (.ref r101), .val (.long (0 : Int64)), .second, .unset, .unset] [(.ref b134), (.ref b134)])) _
          refine XS.lload X134.here hx rfl (hb hby at_81) rfl ?_
          show Steps p.tables e below (T134.setTop (mkF m 83 #[.val (.long q0), .second, .val (.long q2), .second, .val (.int p4), .val (.long q5), .second, .val (.int (b2i b1)), .val (.int (b2i b2)), .val (.ref r101), .val (.long (0 : Int64)), .second, .unset, .unset] [(.long q5), (.ref b134), (.ref b134)])) _
          refine XS.lload X134.here hx rfl (hb hby at_83) rfl ?_
          show Steps p.tables e below (T134.setTop (mkF m 85 #[.val (.long q0), .second, .val (.long q2), .second, .val (.int p4), .val (.long q5), .second, .val (.int (b2i b1)), .val (.int (b2i b2)), .val (.ref r101), .val (.long (0 : Int64)), .second, .unset, .unset] [(.long q5), (.long q5), (.ref b134), (.ref b134)])) _
          refine X134.ldc2Long hx hown (mvT hZ (hw _ (List.mem_of_getElem? (i := 29) rfl))) (g := (mkF m 85 #[.val (.long q0), .second, .val (.long q2), .second, .val (.int p4), .val (.long q5), .second, .val (.int (b2i b1)), .val (.int (b2i b2)), .val (.ref r101), .val (.long (0 : Int64)), .second, .unset, .unset] [(.long q5), (.long q5), (.ref b134), (.ref b134)])) rfl (hb hby at_85) _ ?_
          show Steps p.tables e below (T134.setTop (mkF m 88 #[.val (.long q0), .second, .val (.long q2), .second, .val (.int p4), .val (.long q5), .second, .val (.int (b2i b1)), .val (.int (b2i b2)), .val (.ref r101), .val (.long (0 : Int64)), .second, .unset, .unset] [(.long (-1 : Int64)), (.long q5), (.long q5), (.ref b134), (.ref b134)])) _
          refine XS.lxor X134.here hx rfl (hb hby at_88) rfl ?_
          show Steps p.tables e below (T134.setTop (mkF m 89 #[.val (.long q0), .second, .val (.long q2), .second, .val (.int p4), .val (.long q5), .second, .val (.int (b2i b1)), .val (.int (b2i b2)), .val (.ref r101), .val (.long (0 : Int64)), .second, .unset, .unset] [(.long (q5 ^^^ (-1 : Int64))), (.long q5), (.ref b134), (.ref b134)])) _
          refine XS.aload X134.here hx rfl (hb hby at_89) rfl rfl ?_
          show Steps p.tables e below (T134.setTop (mkF m 91 #[.val (.long q0), .second, .val (.long q2), .second, .val (.int p4), .val (.long q5), .second, .val (.int (b2i b1)), .val (.int (b2i b2)), .val (.ref r101), .val (.long (0 : Int64)), .second, .unset, .unset] [(.ref r101), (.long (q5 ^^^ (-1 : Int64))), (.long q5), (.ref b134), (.ref b134)])) _
          refine XS.lload X134.here hx rfl (hb hby at_91) rfl ?_
          show Steps p.tables e below (T134.setTop (mkF m 93 #[.val (.long q0), .second, .val (.long q2), .second, .val (.int p4), .val (.long q5), .second, .val (.int (b2i b1)), .val (.int (b2i b2)), .val (.ref r101), .val (.long (0 : Int64)), .second, .unset, .unset] [(.long q5), (.ref r101), (.long (q5 ^^^ (-1 : Int64))), (.long q5), (.ref b134), (.ref b134)])) _
          refine XS.lloadN X134.here hx rfl (hb hby at_93) rfl ?_
          show Steps p.tables e below (T134.setTop (mkF m 94 #[.val (.long q0), .second, .val (.long q2), .second, .val (.int p4), .val (.long q5), .second, .val (.int (b2i b1)), .val (.int (b2i b2)), .val (.ref r101), .val (.long (0 : Int64)), .second, .unset, .unset] [(.long q0), (.long q5), (.ref r101), (.long (q5 ^^^ (-1 : Int64))), (.long q5), (.ref b134), (.ref b134)])) _
          refine XS.lxor X134.here hx rfl (hb hby at_94) rfl ?_
          show Steps p.tables e below (T134.setTop (mkF m 95 #[.val (.long q0), .second, .val (.long q2), .second, .val (.int p4), .val (.long q5), .second, .val (.int (b2i b1)), .val (.int (b2i b2)), .val (.ref r101), .val (.long (0 : Int64)), .second, .unset, .unset] [(.long (q5 ^^^ q0)), (.ref r101), (.long (q5 ^^^ (-1 : Int64))), (.long q5), (.ref b134), (.ref b134)])) _
          refine XS.iload X134.here hx rfl (hb hby at_95) rfl ?_
          show Steps p.tables e below (T134.setTop (mkF m 97 #[.val (.long q0), .second, .val (.long q2), .second, .val (.int p4), .val (.long q5), .second, .val (.int (b2i b1)), .val (.int (b2i b2)), .val (.ref r101), .val (.long (0 : Int64)), .second, .unset, .unset] [(.int (b2i b2)), (.long (q5 ^^^ q0)), (.ref r101), (.long (q5 ^^^ (-1 : Int64))), (.long q5), (.ref b134), (.ref b134)])) _
          refine XS.lload X134.here hx rfl (hb hby at_97) rfl ?_
          show Steps p.tables e below (T134.setTop (mkF m 99 #[.val (.long q0), .second, .val (.long q2), .second, .val (.int p4), .val (.long q5), .second, .val (.int (b2i b1)), .val (.int (b2i b2)), .val (.ref r101), .val (.long (0 : Int64)), .second, .unset, .unset] [(.long (0 : Int64)), (.int (b2i b2)), (.long (q5 ^^^ q0)), (.ref r101), (.long (q5 ^^^ (-1 : Int64))), (.long q5), (.ref b134), (.ref b134)])) _
          refine XS.lloadN X134.here hx rfl (hb hby at_99) rfl ?_
          show Steps p.tables e below (T134.setTop (mkF m 100 #[.val (.long q0), .second, .val (.long q2), .second, .val (.int p4), .val (.long q5), .second, .val (.int (b2i b1)), .val (.int (b2i b2)), .val (.ref r101), .val (.long (0 : Int64)), .second, .unset, .unset] [(.long q2), (.long (0 : Int64)), (.int (b2i b2)), (.long (q5 ^^^ q0)), (.ref r101), (.long (q5 ^^^ (-1 : Int64))), (.long q5), (.ref b134), (.ref b134)])) _
          refine XS.iload X134.here hx rfl (hb hby at_100) rfl ?_
          show Steps p.tables e below (T134.setTop (mkF m 102 #[.val (.long q0), .second, .val (.long q2), .second, .val (.int p4), .val (.long q5), .second, .val (.int (b2i b1)), .val (.int (b2i b2)), .val (.ref r101), .val (.long (0 : Int64)), .second, .unset, .unset] [(.int (b2i b1)), (.long q2), (.long (0 : Int64)), (.int (b2i b2)), (.long (q5 ^^^ q0)), (.ref r101), (.long (q5 ^^^ (-1 : Int64))), (.long q5), (.ref b134), (.ref b134)])) _
          refine st136 _ ?_
          show Steps p.tables e below (T136.setTop (mkF m 105 #[.val (.long q0), .second, .val (.long q2), .second, .val (.int p4), .val (.long q5), .second, .val (.int (b2i b1)), .val (.int (b2i b2)), .val (.ref r101), .val (.long (0 : Int64)), .second, .unset, .unset] [(.ref b134)])) _
          refine XS.astore X136.here hx rfl (hb hby at_105) rfl rfl (l' := #[.val (.long q0), .second, .val (.long q2), .second, .val (.int p4), .val (.long q5), .second, .val (.int (b2i b1)), .val (.int (b2i b2)), .val (.ref r101), .val (.long (0 : Int64)), .second, .val (.ref b134), .unset]) rfl ?_
          show Steps p.tables e below (T136.setTop (mkF m 107 #[.val (.long q0), .second, .val (.long q2), .second, .val (.int p4), .val (.long q5), .second, .val (.int (b2i b1)), .val (.int (b2i b2)), .val (.ref r101), .val (.long (0 : Int64)), .second, .val (.ref b134), .unset] [])) _
          refine XS.iload X136.here hx rfl (hb hby at_107) rfl ?_
          exact kt
        by_cases hc109 : b1 = true
        · have f138 := (own_sta_keep ((own_sta_keep S_sk K101q all0).ext E134) K136q (allS ⟨_, A134⟩ all0))
          obtain ⟨T139, X139, e139, st139⟩ := getS2 X136 hx hZ hown (host := "") (Or.inl (hw _ (List.mem_of_getElem? (i := 64) rfl))) Via.refl rfl f138 (g := (mkF m 112 #[.val (.long q0), .second, .val (.long q2), .second, .val (.int p4), .val (.long q5), .second, .val (.int (b2i b1)), .val (.int (b2i b2)), .val (.ref r101), .val (.long (0 : Int64)), .second, .val (.ref b134), .unset] [])) rfl (hb hby at_112)
          have f141 := (own_sta_keep ((own_sta_keep S_ov K101q all0).ext E134) K136q (allS ⟨_, A134⟩ all0))
          have f142 := (own_sta_keep ((own_sta_keep S_vo K101q all0).ext E134) K136q (allS ⟨_, A134⟩ all0))
          have f143 := (own_sta_keep ((own_sta_keep S_fo K101q all0).ext E134) K136q (allS ⟨_, A134⟩ all0))
          have z144 : n0 ≤ T136.heap.size := (Nat.le_trans z137 K136q.1)
          obtain ⟨v140, T140, L140, X140, q140, st140⟩ := own_callV X139 hx hZ (y := (⟨"com/example/stackledger/stackledger/Cleanup$Chosen", "action", "()Lcom/example/stackledger/stackledger/Cleanup$Action;"⟩ : MethodName)) (z := (⟨"com/example/stackledger/stackledger/Cleanup$Chosen", "action", "()Lcom/example/stackledger/stackledger/Cleanup$Action;"⟩ : MethodName)) hown (hw _ (List.mem_of_getElem? (i := 58) rfl)) (hw _ (List.mem_of_getElem? (i := 59) rfl)) (notFace_of_selects (args := #[]) (mvT hZ (hw _ (List.mem_of_getElem? (i := 61) rfl)))) (hw _ (List.mem_of_getElem? (i := 61) rfl)) (hw _ (List.mem_of_getElem? (i := 60) rfl)) (hw _ (List.mem_of_getElem? (i := 28) rfl)) (hw _ (List.mem_of_getElem? (i := 62) rfl)) (by decide) E136q (hM := (rm8 l Z a0 hw [] b134 b1 q2 (0 : Int64) sk ov vo fo T136.heap n0 z144 O136q B136q P136q f138 f141 f142 f143)) (by decide) (by decide) (by decide) (by decide) e139 (argsL := []) (rest := []) (Ls := #[.val (.long q0), .second, .val (.long q2), .second, .val (.int p4), .val (.long q5), .second, .val (.int (b2i b1)), .val (.int (b2i b2)), .val (.ref r101), .val (.long (0 : Int64)), .second, .val (.ref b134), .val (.ref sk)]) (by rw [hml]; rfl) (lenOf pd___Lcom_example_stackledger_stackledger_Cleanup_Action_ rfl) (W := 0) (Nat.le_of_eq rfl) (hb hby at_156)
          obtain ⟨rfl, N140q, e140⟩ := q140
          have N140 := Fr.app N136 N140q
          refine Gl.fin X140 (v := some (.int (1 : Int32))) (fun h => by rw [Bd.returns] at h; cases h) Bd.notSynchronized ?_ e140 (by decide) (by decide) (fun fs hr => ?_)
          · exact ⟨rfl, N140⟩
          · show Steps p.tables e below (T136.setTop (mkF m 109 #[.val (.long q0), .second, .val (.long q2), .second, .val (.int p4), .val (.long q5), .second, .val (.int (b2i b1)), .val (.int (b2i b2)), .val (.ref r101), .val (.long (0 : Int64)), .second, .val (.ref b134), .unset] [(.int (b2i b1))])) _
            refine XS.ifNo X136.here hx rfl (hb hby at_109) rfl (own_nbf (b0_eq _) hc109) ?_
            show Steps p.tables e below (T136.setTop (mkF m 112 #[.val (.long q0), .second, .val (.long q2), .second, .val (.int p4), .val (.long q5), .second, .val (.int (b2i b1)), .val (.int (b2i b2)), .val (.ref r101), .val (.long (0 : Int64)), .second, .val (.ref b134), .unset] [])) _
            refine st139 _ ?_
            show Steps p.tables e below (T139.setTop (mkF m 115 #[.val (.long q0), .second, .val (.long q2), .second, .val (.int p4), .val (.long q5), .second, .val (.int (b2i b1)), .val (.int (b2i b2)), .val (.ref r101), .val (.long (0 : Int64)), .second, .val (.ref b134), .unset] [(.ref sk)])) _
            refine XS.astore X139.here hx rfl (hb hby at_115) rfl rfl (l' := #[.val (.long q0), .second, .val (.long q2), .second, .val (.int p4), .val (.long q5), .second, .val (.int (b2i b1)), .val (.int (b2i b2)), .val (.ref r101), .val (.long (0 : Int64)), .second, .val (.ref b134), .val (.ref sk)]) rfl ?_
            show Steps p.tables e below (T139.setTop (mkF m 117 #[.val (.long q0), .second, .val (.long q2), .second, .val (.int p4), .val (.long q5), .second, .val (.int (b2i b1)), .val (.int (b2i b2)), .val (.ref r101), .val (.long (0 : Int64)), .second, .val (.ref b134), .val (.ref sk)] [])) _
            refine XS.goto X139.here hx rfl (pc0 := 117) (pc' := 154) rfl (hb hby at_117) (by decide) (by decide) ?_
            show Steps p.tables e below (T139.setTop (mkF m 154 #[.val (.long q0), .second, .val (.long q2), .second, .val (.int p4), .val (.long q5), .second, .val (.int (b2i b1)), .val (.int (b2i b2)), .val (.ref r101), .val (.long (0 : Int64)), .second, .val (.ref b134), .val (.ref sk)] [])) _
            refine XS.aload X139.here hx rfl (hb hby at_154) rfl rfl ?_
            show Steps p.tables e below (T139.setTop (mkF m 156 #[.val (.long q0), .second, .val (.long q2), .second, .val (.int p4), .val (.long q5), .second, .val (.int (b2i b1)), .val (.int (b2i b2)), .val (.ref r101), .val (.long (0 : Int64)), .second, .val (.ref b134), .val (.ref sk)] [(.ref b134)])) _
            refine st140 _ ?_
            show Steps p.tables e below (T140.setTop (mkF m 159 #[.val (.long q0), .second, .val (.long q2), .second, .val (.int p4), .val (.long q5), .second, .val (.int (b2i b1)), .val (.int (b2i b2)), .val (.ref r101), .val (.long (0 : Int64)), .second, .val (.ref b134), .val (.ref sk)] [(.ref (if b1 = true then sk else if q2 < (0 : Int64) then ov else if (0 : Int64) = (0 : Int64) then vo else fo))])) _
            refine XS.aload X140.here hx rfl (hb hby at_159) rfl rfl ?_
            show Steps p.tables e below (T140.setTop (mkF m 161 #[.val (.long q0), .second, .val (.long q2), .second, .val (.int p4), .val (.long q5), .second, .val (.int (b2i b1)), .val (.int (b2i b2)), .val (.ref r101), .val (.long (0 : Int64)), .second, .val (.ref b134), .val (.ref sk)] [(.ref sk), (.ref (if b1 = true then sk else if q2 < (0 : Int64) then ov else if (0 : Int64) = (0 : Int64) then vo else fo))])) _
            refine Jvm.RoadKit.acmp (g := (mkF m 161 #[.val (.long q0), .second, .val (.long q2), .second, .val (.int p4), .val (.long q5), .second, .val (.int (b2i b1)), .val (.int (b2i b2)), .val (.ref r101), .val (.long (0 : Int64)), .second, .val (.ref b134), .val (.ref sk)] [(.ref sk), (.ref (if b1 = true then sk else if q2 < (0 : Int64) then ov else if (0 : Int64) = (0 : Int64) then vo else fo))])) X140 hx rfl rfl rfl (pc0 := 161) (pc' := 164) (same := true) rfl (hb hby at_161) rfl (decide_eq_true (congrArg Value.ref (by simp [hc109]))) (by decide) (by decide) ?_
            show Steps p.tables e below (T140.setTop (mkF m 164 #[.val (.long q0), .second, .val (.long q2), .second, .val (.int p4), .val (.long q5), .second, .val (.int (b2i b1)), .val (.int (b2i b2)), .val (.ref r101), .val (.long (0 : Int64)), .second, .val (.ref b134), .val (.ref sk)] [])) _
            refine XS.iconst X140.here hx rfl (hb hby at_164) ?_
            show Steps p.tables e below (T140.setTop (mkF m 165 #[.val (.long q0), .second, .val (.long q2), .second, .val (.int p4), .val (.long q5), .second, .val (.int (b2i b1)), .val (.int (b2i b2)), .val (.ref r101), .val (.long (0 : Int64)), .second, .val (.ref b134), .val (.ref sk)] [(.int (1 : Int32))])) _
            refine XS.goto X140.here hx rfl (pc0 := 165) (pc' := 169) rfl (hb hby at_165) (by decide) (by decide) ?_
            show Steps p.tables e below (T140.setTop (mkF m 169 #[.val (.long q0), .second, .val (.long q2), .second, .val (.int p4), .val (.long q5), .second, .val (.int (b2i b1)), .val (.int (b2i b2)), .val (.ref r101), .val (.long (0 : Int64)), .second, .val (.ref b134), .val (.ref sk)] [(.int (1 : Int32))])) _
            exact retN X140 hx (t := .boolean) Bd.returns (by simp) (hb hby at_169) hr
        · refine Gl.pre (S' := T136.setTop (mkF m 123 #[.val (.long q0), .second, .val (.long q2), .second, .val (.int p4), .val (.long q5), .second, .val (.int (b2i b1)), .val (.int (b2i b2)), .val (.ref r101), .val (.long (0 : Int64)), .second, .val (.ref b134), .unset] [(.int (lcmpW q2 (0 : Int64)))])) (fun t kt => ?_) ?_
          · show Steps p.tables e below (T136.setTop (mkF m 109 #[.val (.long q0), .second, .val (.long q2), .second, .val (.int p4), .val (.long q5), .second, .val (.int (b2i b1)), .val (.int (b2i b2)), .val (.ref r101), .val (.long (0 : Int64)), .second, .val (.ref b134), .unset] [(.int (b2i b1))])) _
            refine XS.ifYes X136.here hx rfl (pc0 := 109) (pc' := 120) rfl (hb hby at_109) rfl (own_nbt (b0_eq _) (Bool.eq_false_iff.mpr hc109)) (by decide) (by decide) ?_
            show Steps p.tables e below (T136.setTop (mkF m 120 #[.val (.long q0), .second, .val (.long q2), .second, .val (.int p4), .val (.long q5), .second, .val (.int (b2i b1)), .val (.int (b2i b2)), .val (.ref r101), .val (.long (0 : Int64)), .second, .val (.ref b134), .unset] [])) _
            refine XS.lloadN X136.here hx rfl (hb hby at_120) rfl ?_
            show Steps p.tables e below (T136.setTop (mkF m 121 #[.val (.long q0), .second, .val (.long q2), .second, .val (.int p4), .val (.long q5), .second, .val (.int (b2i b1)), .val (.int (b2i b2)), .val (.ref r101), .val (.long (0 : Int64)), .second, .val (.ref b134), .unset] [(.long q2)])) _
            refine XS.lconst X136.here hx rfl (hb hby at_121) ?_
            show Steps p.tables e below (T136.setTop (mkF m 122 #[.val (.long q0), .second, .val (.long q2), .second, .val (.int p4), .val (.long q5), .second, .val (.int (b2i b1)), .val (.int (b2i b2)), .val (.ref r101), .val (.long (0 : Int64)), .second, .val (.ref b134), .unset] [(.long (0 : Int64)), (.long q2)])) _
            refine XS.lcmp X136.here hx rfl (hb hby at_122) rfl ?_
            exact kt
          by_cases hc123 : (0 : Int64) < q2
          · have f145 := (own_sta_keep ((own_sta_keep S_vo K101q all0).ext E134) K136q (allS ⟨_, A134⟩ all0))
            obtain ⟨T146, X146, e146, st146⟩ := getS2 X136 hx hZ hown (host := "") (Or.inl (hw _ (List.mem_of_getElem? (i := 70) rfl))) Via.refl rfl f145 (g := (mkF m 133 #[.val (.long q0), .second, .val (.long q2), .second, .val (.int p4), .val (.long q5), .second, .val (.int (b2i b1)), .val (.int (b2i b2)), .val (.ref r101), .val (.long (0 : Int64)), .second, .val (.ref b134), .unset] [])) rfl (hb hby at_133)
            have f148 := (own_sta_keep ((own_sta_keep S_sk K101q all0).ext E134) K136q (allS ⟨_, A134⟩ all0))
            have f149 := (own_sta_keep ((own_sta_keep S_ov K101q all0).ext E134) K136q (allS ⟨_, A134⟩ all0))
            have f150 := (own_sta_keep ((own_sta_keep S_fo K101q all0).ext E134) K136q (allS ⟨_, A134⟩ all0))
            have z151 : n0 ≤ T136.heap.size := (Nat.le_trans z137 K136q.1)
            obtain ⟨v147, T147, L147, X147, q147, st147⟩ := own_callV X146 hx hZ (y := (⟨"com/example/stackledger/stackledger/Cleanup$Chosen", "action", "()Lcom/example/stackledger/stackledger/Cleanup$Action;"⟩ : MethodName)) (z := (⟨"com/example/stackledger/stackledger/Cleanup$Chosen", "action", "()Lcom/example/stackledger/stackledger/Cleanup$Action;"⟩ : MethodName)) hown (hw _ (List.mem_of_getElem? (i := 58) rfl)) (hw _ (List.mem_of_getElem? (i := 59) rfl)) (notFace_of_selects (args := #[]) (mvT hZ (hw _ (List.mem_of_getElem? (i := 61) rfl)))) (hw _ (List.mem_of_getElem? (i := 61) rfl)) (hw _ (List.mem_of_getElem? (i := 60) rfl)) (hw _ (List.mem_of_getElem? (i := 28) rfl)) (hw _ (List.mem_of_getElem? (i := 62) rfl)) (by decide) E136q (hM := (rm8 l Z a0 hw [] b134 b1 q2 (0 : Int64) sk ov vo fo T136.heap n0 z151 O136q B136q P136q f148 f149 f145 f150)) (by decide) (by decide) (by decide) (by decide) e146 (argsL := []) (rest := []) (Ls := #[.val (.long q0), .second, .val (.long q2), .second, .val (.int p4), .val (.long q5), .second, .val (.int (b2i b1)), .val (.int (b2i b2)), .val (.ref r101), .val (.long (0 : Int64)), .second, .val (.ref b134), .val (.ref vo)]) (by rw [hml]; rfl) (lenOf pd___Lcom_example_stackledger_stackledger_Cleanup_Action_ rfl) (W := 0) (Nat.le_of_eq rfl) (hb hby at_156)
            obtain ⟨rfl, N147q, e147⟩ := q147
            have N147 := Fr.app N136 N147q
            refine Gl.fin X147 (v := some (.int (1 : Int32))) (fun h => by rw [Bd.returns] at h; cases h) Bd.notSynchronized ?_ e147 (by decide) (by decide) (fun fs hr => ?_)
            · exact ⟨rfl, N147⟩
            · show Steps p.tables e below (T136.setTop (mkF m 123 #[.val (.long q0), .second, .val (.long q2), .second, .val (.int p4), .val (.long q5), .second, .val (.int (b2i b1)), .val (.int (b2i b2)), .val (.ref r101), .val (.long (0 : Int64)), .second, .val (.ref b134), .unset] [(.int (lcmpW q2 (0 : Int64)))])) _
              refine XS.ifNo X136.here hx rfl (hb hby at_123) rfl (own_nf (l0_le _ _) hc123) ?_
              show Steps p.tables e below (T136.setTop (mkF m 126 #[.val (.long q0), .second, .val (.long q2), .second, .val (.int p4), .val (.long q5), .second, .val (.int (b2i b1)), .val (.int (b2i b2)), .val (.ref r101), .val (.long (0 : Int64)), .second, .val (.ref b134), .unset] [])) _
              refine XS.lload X136.here hx rfl (hb hby at_126) rfl ?_
              show Steps p.tables e below (T136.setTop (mkF m 128 #[.val (.long q0), .second, .val (.long q2), .second, .val (.int p4), .val (.long q5), .second, .val (.int (b2i b1)), .val (.int (b2i b2)), .val (.ref r101), .val (.long (0 : Int64)), .second, .val (.ref b134), .unset] [(.long (0 : Int64))])) _
              refine XS.lconst X136.here hx rfl (hb hby at_128) ?_
              show Steps p.tables e below (T136.setTop (mkF m 129 #[.val (.long q0), .second, .val (.long q2), .second, .val (.int p4), .val (.long q5), .second, .val (.int (b2i b1)), .val (.int (b2i b2)), .val (.ref r101), .val (.long (0 : Int64)), .second, .val (.ref b134), .unset] [(.long (0 : Int64)), (.long (0 : Int64))])) _
              refine XS.lcmp X136.here hx rfl (hb hby at_129) rfl ?_
              show Steps p.tables e below (T136.setTop (mkF m 130 #[.val (.long q0), .second, .val (.long q2), .second, .val (.int p4), .val (.long q5), .second, .val (.int (b2i b1)), .val (.int (b2i b2)), .val (.ref r101), .val (.long (0 : Int64)), .second, .val (.ref b134), .unset] [(.int (lcmpW (0 : Int64) (0 : Int64)))])) _
              refine XS.ifNo X136.here hx rfl (hb hby at_130) rfl (own_nf (l0_ne _ _) (by decide)) ?_
              show Steps p.tables e below (T136.setTop (mkF m 133 #[.val (.long q0), .second, .val (.long q2), .second, .val (.int p4), .val (.long q5), .second, .val (.int (b2i b1)), .val (.int (b2i b2)), .val (.ref r101), .val (.long (0 : Int64)), .second, .val (.ref b134), .unset] [])) _
              refine st146 _ ?_
              show Steps p.tables e below (T146.setTop (mkF m 136 #[.val (.long q0), .second, .val (.long q2), .second, .val (.int p4), .val (.long q5), .second, .val (.int (b2i b1)), .val (.int (b2i b2)), .val (.ref r101), .val (.long (0 : Int64)), .second, .val (.ref b134), .unset] [(.ref vo)])) _
              refine XS.astore X146.here hx rfl (hb hby at_136) rfl rfl (l' := #[.val (.long q0), .second, .val (.long q2), .second, .val (.int p4), .val (.long q5), .second, .val (.int (b2i b1)), .val (.int (b2i b2)), .val (.ref r101), .val (.long (0 : Int64)), .second, .val (.ref b134), .val (.ref vo)]) rfl ?_
              show Steps p.tables e below (T146.setTop (mkF m 138 #[.val (.long q0), .second, .val (.long q2), .second, .val (.int p4), .val (.long q5), .second, .val (.int (b2i b1)), .val (.int (b2i b2)), .val (.ref r101), .val (.long (0 : Int64)), .second, .val (.ref b134), .val (.ref vo)] [])) _
              refine XS.goto X146.here hx rfl (pc0 := 138) (pc' := 154) rfl (hb hby at_138) (by decide) (by decide) ?_
              show Steps p.tables e below (T146.setTop (mkF m 154 #[.val (.long q0), .second, .val (.long q2), .second, .val (.int p4), .val (.long q5), .second, .val (.int (b2i b1)), .val (.int (b2i b2)), .val (.ref r101), .val (.long (0 : Int64)), .second, .val (.ref b134), .val (.ref vo)] [])) _
              refine XS.aload X146.here hx rfl (hb hby at_154) rfl rfl ?_
              show Steps p.tables e below (T146.setTop (mkF m 156 #[.val (.long q0), .second, .val (.long q2), .second, .val (.int p4), .val (.long q5), .second, .val (.int (b2i b1)), .val (.int (b2i b2)), .val (.ref r101), .val (.long (0 : Int64)), .second, .val (.ref b134), .val (.ref vo)] [(.ref b134)])) _
              refine st147 _ ?_
              show Steps p.tables e below (T147.setTop (mkF m 159 #[.val (.long q0), .second, .val (.long q2), .second, .val (.int p4), .val (.long q5), .second, .val (.int (b2i b1)), .val (.int (b2i b2)), .val (.ref r101), .val (.long (0 : Int64)), .second, .val (.ref b134), .val (.ref vo)] [(.ref (if b1 = true then sk else if q2 < (0 : Int64) then ov else if (0 : Int64) = (0 : Int64) then vo else fo))])) _
              refine XS.aload X147.here hx rfl (hb hby at_159) rfl rfl ?_
              show Steps p.tables e below (T147.setTop (mkF m 161 #[.val (.long q0), .second, .val (.long q2), .second, .val (.int p4), .val (.long q5), .second, .val (.int (b2i b1)), .val (.int (b2i b2)), .val (.ref r101), .val (.long (0 : Int64)), .second, .val (.ref b134), .val (.ref vo)] [(.ref vo), (.ref (if b1 = true then sk else if q2 < (0 : Int64) then ov else if (0 : Int64) = (0 : Int64) then vo else fo))])) _
              refine Jvm.RoadKit.acmp (g := (mkF m 161 #[.val (.long q0), .second, .val (.long q2), .second, .val (.int p4), .val (.long q5), .second, .val (.int (b2i b1)), .val (.int (b2i b2)), .val (.ref r101), .val (.long (0 : Int64)), .second, .val (.ref b134), .val (.ref vo)] [(.ref vo), (.ref (if b1 = true then sk else if q2 < (0 : Int64) then ov else if (0 : Int64) = (0 : Int64) then vo else fo))])) X147 hx rfl rfl rfl (pc0 := 161) (pc' := 164) (same := true) rfl (hb hby at_161) rfl (decide_eq_true (congrArg Value.ref (by simp [hc109, own_nlt hc123]))) (by decide) (by decide) ?_
              show Steps p.tables e below (T147.setTop (mkF m 164 #[.val (.long q0), .second, .val (.long q2), .second, .val (.int p4), .val (.long q5), .second, .val (.int (b2i b1)), .val (.int (b2i b2)), .val (.ref r101), .val (.long (0 : Int64)), .second, .val (.ref b134), .val (.ref vo)] [])) _
              refine XS.iconst X147.here hx rfl (hb hby at_164) ?_
              show Steps p.tables e below (T147.setTop (mkF m 165 #[.val (.long q0), .second, .val (.long q2), .second, .val (.int p4), .val (.long q5), .second, .val (.int (b2i b1)), .val (.int (b2i b2)), .val (.ref r101), .val (.long (0 : Int64)), .second, .val (.ref b134), .val (.ref vo)] [(.int (1 : Int32))])) _
              refine XS.goto X147.here hx rfl (pc0 := 165) (pc' := 169) rfl (hb hby at_165) (by decide) (by decide) ?_
              show Steps p.tables e below (T147.setTop (mkF m 169 #[.val (.long q0), .second, .val (.long q2), .second, .val (.int p4), .val (.long q5), .second, .val (.int (b2i b1)), .val (.int (b2i b2)), .val (.ref r101), .val (.long (0 : Int64)), .second, .val (.ref b134), .val (.ref vo)] [(.int (1 : Int32))])) _
              exact retN X147 hx (t := .boolean) Bd.returns (by simp) (hb hby at_169) hr
          · have f152 := (own_sta_keep ((own_sta_keep S_ov K101q all0).ext E134) K136q (allS ⟨_, A134⟩ all0))
            obtain ⟨T153, X153, e153, st153⟩ := getS2 X136 hx hZ hown (host := "") (Or.inl (hw _ (List.mem_of_getElem? (i := 67) rfl))) Via.refl rfl f152 (g := (mkF m 149 #[.val (.long q0), .second, .val (.long q2), .second, .val (.int p4), .val (.long q5), .second, .val (.int (b2i b1)), .val (.int (b2i b2)), .val (.ref r101), .val (.long (0 : Int64)), .second, .val (.ref b134), .unset] [])) rfl (hb hby at_149)
            have f155 := (own_sta_keep ((own_sta_keep S_sk K101q all0).ext E134) K136q (allS ⟨_, A134⟩ all0))
            have f156 := (own_sta_keep ((own_sta_keep S_vo K101q all0).ext E134) K136q (allS ⟨_, A134⟩ all0))
            have f157 := (own_sta_keep ((own_sta_keep S_fo K101q all0).ext E134) K136q (allS ⟨_, A134⟩ all0))
            have z158 : n0 ≤ T136.heap.size := (Nat.le_trans z137 K136q.1)
            obtain ⟨v154, T154, L154, X154, q154, st154⟩ := own_callV X153 hx hZ (y := (⟨"com/example/stackledger/stackledger/Cleanup$Chosen", "action", "()Lcom/example/stackledger/stackledger/Cleanup$Action;"⟩ : MethodName)) (z := (⟨"com/example/stackledger/stackledger/Cleanup$Chosen", "action", "()Lcom/example/stackledger/stackledger/Cleanup$Action;"⟩ : MethodName)) hown (hw _ (List.mem_of_getElem? (i := 58) rfl)) (hw _ (List.mem_of_getElem? (i := 59) rfl)) (notFace_of_selects (args := #[]) (mvT hZ (hw _ (List.mem_of_getElem? (i := 61) rfl)))) (hw _ (List.mem_of_getElem? (i := 61) rfl)) (hw _ (List.mem_of_getElem? (i := 60) rfl)) (hw _ (List.mem_of_getElem? (i := 28) rfl)) (hw _ (List.mem_of_getElem? (i := 62) rfl)) (by decide) E136q (hM := (rm8 l Z a0 hw [] b134 b1 q2 (0 : Int64) sk ov vo fo T136.heap n0 z158 O136q B136q P136q f155 f152 f156 f157)) (by decide) (by decide) (by decide) (by decide) e153 (argsL := []) (rest := []) (Ls := #[.val (.long q0), .second, .val (.long q2), .second, .val (.int p4), .val (.long q5), .second, .val (.int (b2i b1)), .val (.int (b2i b2)), .val (.ref r101), .val (.long (0 : Int64)), .second, .val (.ref b134), .val (.ref ov)]) (by rw [hml]; rfl) (lenOf pd___Lcom_example_stackledger_stackledger_Cleanup_Action_ rfl) (W := 0) (Nat.le_of_eq rfl) (hb hby at_156)
            obtain ⟨rfl, N154q, e154⟩ := q154
            have N154 := Fr.app N136 N154q
            refine Gl.fin X154 (v := some (.int (1 : Int32))) (fun h => by rw [Bd.returns] at h; cases h) Bd.notSynchronized ?_ e154 (by decide) (by decide) (fun fs hr => ?_)
            · exact ⟨rfl, N154⟩
            · show Steps p.tables e below (T136.setTop (mkF m 123 #[.val (.long q0), .second, .val (.long q2), .second, .val (.int p4), .val (.long q5), .second, .val (.int (b2i b1)), .val (.int (b2i b2)), .val (.ref r101), .val (.long (0 : Int64)), .second, .val (.ref b134), .unset] [(.int (lcmpW q2 (0 : Int64)))])) _
              refine XS.ifYes X136.here hx rfl (pc0 := 123) (pc' := 149) rfl (hb hby at_123) rfl (own_nt (l0_le _ _) hc123) (by decide) (by decide) ?_
              show Steps p.tables e below (T136.setTop (mkF m 149 #[.val (.long q0), .second, .val (.long q2), .second, .val (.int p4), .val (.long q5), .second, .val (.int (b2i b1)), .val (.int (b2i b2)), .val (.ref r101), .val (.long (0 : Int64)), .second, .val (.ref b134), .unset] [])) _
              refine st153 _ ?_
              show Steps p.tables e below (T153.setTop (mkF m 152 #[.val (.long q0), .second, .val (.long q2), .second, .val (.int p4), .val (.long q5), .second, .val (.int (b2i b1)), .val (.int (b2i b2)), .val (.ref r101), .val (.long (0 : Int64)), .second, .val (.ref b134), .unset] [(.ref ov)])) _
              refine XS.astore X153.here hx rfl (hb hby at_152) rfl rfl (l' := #[.val (.long q0), .second, .val (.long q2), .second, .val (.int p4), .val (.long q5), .second, .val (.int (b2i b1)), .val (.int (b2i b2)), .val (.ref r101), .val (.long (0 : Int64)), .second, .val (.ref b134), .val (.ref ov)]) rfl ?_
              show Steps p.tables e below (T153.setTop (mkF m 154 #[.val (.long q0), .second, .val (.long q2), .second, .val (.int p4), .val (.long q5), .second, .val (.int (b2i b1)), .val (.int (b2i b2)), .val (.ref r101), .val (.long (0 : Int64)), .second, .val (.ref b134), .val (.ref ov)] [])) _
              refine XS.aload X153.here hx rfl (hb hby at_154) rfl rfl ?_
              show Steps p.tables e below (T153.setTop (mkF m 156 #[.val (.long q0), .second, .val (.long q2), .second, .val (.int p4), .val (.long q5), .second, .val (.int (b2i b1)), .val (.int (b2i b2)), .val (.ref r101), .val (.long (0 : Int64)), .second, .val (.ref b134), .val (.ref ov)] [(.ref b134)])) _
              refine st154 _ ?_
              show Steps p.tables e below (T154.setTop (mkF m 159 #[.val (.long q0), .second, .val (.long q2), .second, .val (.int p4), .val (.long q5), .second, .val (.int (b2i b1)), .val (.int (b2i b2)), .val (.ref r101), .val (.long (0 : Int64)), .second, .val (.ref b134), .val (.ref ov)] [(.ref (if b1 = true then sk else if q2 < (0 : Int64) then ov else if (0 : Int64) = (0 : Int64) then vo else fo))])) _
              refine XS.aload X154.here hx rfl (hb hby at_159) rfl rfl ?_
              show Steps p.tables e below (T154.setTop (mkF m 161 #[.val (.long q0), .second, .val (.long q2), .second, .val (.int p4), .val (.long q5), .second, .val (.int (b2i b1)), .val (.int (b2i b2)), .val (.ref r101), .val (.long (0 : Int64)), .second, .val (.ref b134), .val (.ref ov)] [(.ref ov), (.ref (if b1 = true then sk else if q2 < (0 : Int64) then ov else if (0 : Int64) = (0 : Int64) then vo else fo))])) _
              refine Jvm.RoadKit.acmp (g := (mkF m 161 #[.val (.long q0), .second, .val (.long q2), .second, .val (.int p4), .val (.long q5), .second, .val (.int (b2i b1)), .val (.int (b2i b2)), .val (.ref r101), .val (.long (0 : Int64)), .second, .val (.ref b134), .val (.ref ov)] [(.ref ov), (.ref (if b1 = true then sk else if q2 < (0 : Int64) then ov else if (0 : Int64) = (0 : Int64) then vo else fo))])) X154 hx rfl rfl rfl (pc0 := 161) (pc' := 164) (same := true) rfl (hb hby at_161) rfl (decide_eq_true (congrArg Value.ref (by simp [hc109, own_tri hc123 hc3]))) (by decide) (by decide) ?_
              show Steps p.tables e below (T154.setTop (mkF m 164 #[.val (.long q0), .second, .val (.long q2), .second, .val (.int p4), .val (.long q5), .second, .val (.int (b2i b1)), .val (.int (b2i b2)), .val (.ref r101), .val (.long (0 : Int64)), .second, .val (.ref b134), .val (.ref ov)] [])) _
              refine XS.iconst X154.here hx rfl (hb hby at_164) ?_
              show Steps p.tables e below (T154.setTop (mkF m 165 #[.val (.long q0), .second, .val (.long q2), .second, .val (.int p4), .val (.long q5), .second, .val (.int (b2i b1)), .val (.int (b2i b2)), .val (.ref r101), .val (.long (0 : Int64)), .second, .val (.ref b134), .val (.ref ov)] [(.int (1 : Int32))])) _
              refine XS.goto X154.here hx rfl (pc0 := 165) (pc' := 169) rfl (hb hby at_165) (by decide) (by decide) ?_
              show Steps p.tables e below (T154.setTop (mkF m 169 #[.val (.long q0), .second, .val (.long q2), .second, .val (.int p4), .val (.long q5), .second, .val (.int (b2i b1)), .val (.int (b2i b2)), .val (.ref r101), .val (.long (0 : Int64)), .second, .val (.ref b134), .val (.ref ov)] [(.int (1 : Int32))])) _
              exact retN X154 hx (t := .boolean) Bd.returns (by simp) (hb hby at_169) hr
    · refine Gl.pre (S' := s₁.setTop (mkF m 67 #[.val (.long q0), .second, .val (.long q2), .second, .val (.int p4), .val (.long q5), .second, .val (.int (b2i b1)), .val (.int (b2i b2)), .val .null, .unset, .unset, .unset, .unset] [(.int (p4 &&& (8 : Int32)))])) (fun t kt => ?_) ?_
      · show Steps p.tables e below (s₁.setTop (mkF m 40 #[.val (.long q0), .second, .val (.long q2), .second, .val (.int p4), .val (.long q5), .second, .val (.int (b2i b1)), .val (.int (b2i b2)), .unset, .unset, .unset, .unset, .unset] [(.int (p4 &&& (4 : Int32)))])) _
        refine XS.ifNo X0.here hx rfl (hb hby at_40) rfl (own_f (i0_eq _) hc40) ?_
        show Steps p.tables e below (s₁.setTop (mkF m 43 #[.val (.long q0), .second, .val (.long q2), .second, .val (.int p4), .val (.long q5), .second, .val (.int (b2i b1)), .val (.int (b2i b2)), .unset, .unset, .unset, .unset, .unset] [])) _
        refine XS.aconstNull X0.here hx rfl (hb hby at_43) ?_
        show Steps p.tables e below (s₁.setTop (mkF m 44 #[.val (.long q0), .second, .val (.long q2), .second, .val (.int p4), .val (.long q5), .second, .val (.int (b2i b1)), .val (.int (b2i b2)), .unset, .unset, .unset, .unset, .unset] [.null])) _
        refine XS.goto X0.here hx rfl (pc0 := 44) (pc' := 60) rfl (hb hby at_44) (by decide) (by decide) ?_
        show Steps p.tables e below (s₁.setTop (mkF m 60 #[.val (.long q0), .second, .val (.long q2), .second, .val (.int p4), .val (.long q5), .second, .val (.int (b2i b1)), .val (.int (b2i b2)), .unset, .unset, .unset, .unset, .unset] [.null])) _
        refine XS.astore X0.here hx rfl (hb hby at_60) rfl rfl (l' := #[.val (.long q0), .second, .val (.long q2), .second, .val (.int p4), .val (.long q5), .second, .val (.int (b2i b1)), .val (.int (b2i b2)), .val .null, .unset, .unset, .unset, .unset]) rfl ?_
        show Steps p.tables e below (s₁.setTop (mkF m 62 #[.val (.long q0), .second, .val (.long q2), .second, .val (.int p4), .val (.long q5), .second, .val (.int (b2i b1)), .val (.int (b2i b2)), .val .null, .unset, .unset, .unset, .unset] [])) _
        refine XS.iload X0.here hx rfl (hb hby at_62) rfl ?_
        show Steps p.tables e below (s₁.setTop (mkF m 64 #[.val (.long q0), .second, .val (.long q2), .second, .val (.int p4), .val (.long q5), .second, .val (.int (b2i b1)), .val (.int (b2i b2)), .val .null, .unset, .unset, .unset, .unset] [(.int p4)])) _
        refine XS.bipush X0.here hx rfl (hb hby at_64) ?_
        show Steps p.tables e below (s₁.setTop (mkF m 66 #[.val (.long q0), .second, .val (.long q2), .second, .val (.int p4), .val (.long q5), .second, .val (.int (b2i b1)), .val (.int (b2i b2)), .val .null, .unset, .unset, .unset, .unset] [(.int (8 : Int32)), (.int p4)])) _
        refine XS.iand X0.here hx rfl (hb hby at_66) rfl ?_
        exact kt
      by_cases hc67 : (p4 &&& (8 : Int32)) = (0 : Int32)
      · obtain ⟨T159, h159, X159, e159, E159, A159, D159, -, st159⟩ := newO X0 hx hZ hown (hw _ (List.mem_of_getElem? (i := 26) rfl)) (hw _ (List.mem_of_getElem? (i := 27) rfl)) (hw _ (List.mem_of_getElem? (i := 28) rfl)) e0 (g := (mkF m 77 #[.val (.long q0), .second, .val (.long q2), .second, .val (.int p4), .val (.long q5), .second, .val (.int (b2i b1)), .val (.int (b2i b2)), .val .null, .val (.long q0), .second, .unset, .unset] [])) rfl (hb hby at_77) (by decide) (by decide)
        obtain ⟨b159, g159⟩ : ∃ z, z = h0.size := ⟨_, rfl⟩
        have g_b159 : n0 ≤ b159 := Nat.le_trans Z0 (Nat.le_of_eq g159.symm)
        have sz_b159 : h0.size ≤ b159 := Nat.le_trans K0.1 (Nat.le_of_eq g159.symm)
        rw [← g159] at A159 D159 st159
        have K159 : Keep h0 h159 [] := K0.ext E159
        have F_transaction_b159 : Fld Z h159 b159 "com/example/stackledger/stackledger/Cleanup$Chosen" "transaction" "J" (.long (0 : Int64)) := D159 (Or.inr (hw _ (List.mem_of_getElem? (i := 40) rfl))) (ty := .long) (by decide)
        have F_patron_b159 : Fld Z h159 b159 "com/example/stackledger/stackledger/Cleanup$Chosen" "patron" "J" (.long (0 : Int64)) := D159 (Or.inr (hw _ (List.mem_of_getElem? (i := 42) rfl))) (ty := .long) (by decide)
        have F_org_b159 : Fld Z h159 b159 "com/example/stackledger/stackledger/Cleanup$Chosen" "org" "Ljava/lang/String;" .null := D159 (Or.inr (hw _ (List.mem_of_getElem? (i := 44) rfl))) (ty := (.object "java/lang/String")) (by decide)
        have F_startedAt_b159 : Fld Z h159 b159 "com/example/stackledger/stackledger/Cleanup$Chosen" "startedAt" "J" (.long (0 : Int64)) := D159 (Or.inr (hw _ (List.mem_of_getElem? (i := 46) rfl))) (ty := .long) (by decide)
        have F_finished_b159 : Fld Z h159 b159 "com/example/stackledger/stackledger/Cleanup$Chosen" "finished" "Z" (.int (0 : Int32)) := D159 (Or.inr (hw _ (List.mem_of_getElem? (i := 48) rfl))) (ty := .boolean) (by decide)
        have F_totalPaidCents_b159 : Fld Z h159 b159 "com/example/stackledger/stackledger/Cleanup$Chosen" "totalPaidCents" "J" (.long (0 : Int64)) := D159 (Or.inr (hw _ (List.mem_of_getElem? (i := 50) rfl))) (ty := .long) (by decide)
        have F_balanceCents_b159 : Fld Z h159 b159 "com/example/stackledger/stackledger/Cleanup$Chosen" "balanceCents" "J" (.long (0 : Int64)) := D159 (Or.inr (hw _ (List.mem_of_getElem? (i := 52) rfl))) (ty := .long) (by decide)
        have F_lost_b159 : Fld Z h159 b159 "com/example/stackledger/stackledger/Cleanup$Chosen" "lost" "Z" (.int (0 : Int32)) := D159 (Or.inr (hw _ (List.mem_of_getElem? (i := 54) rfl))) (ty := .boolean) (by decide)
        have z161 : n0 ≤ h159.size := (Nat.le_trans Z0 E159.1)
        obtain ⟨v160, T160, L160, X160, q160, st160⟩ := own_callI X159 hx hZ (y := (⟨"com/example/stackledger/stackledger/Cleanup$Chosen", "<init>", "(JJLjava/lang/String;JZJJZ)V"⟩ : MethodName)) rfl hown (hw _ (List.mem_of_getElem? (i := 30) rfl)) (hw _ (List.mem_of_getElem? (i := 31) rfl)) (hw _ (List.mem_of_getElem? (i := 28) rfl)) (hw _ (List.mem_of_getElem? (i := 32) rfl)) (by decide) (a := b159) (hM := (rm6n l Z a0 hw [] b159 q5 (q5 ^^^ (-1 : Int64)) (q5 ^^^ q0) q0 q2 b2 b1 h159 n0 z161 g_b159 A159 F_transaction_b159 F_patron_b159 F_org_b159 F_startedAt_b159 F_finished_b159 F_totalPaidCents_b159 F_balanceCents_b159 F_lost_b159)) (by decide) (by decide) (by decide) (by decide) e159 (argsL := [(.long q5), (.long (q5 ^^^ (-1 : Int64))), .null, (.long (q5 ^^^ q0)), (.int (b2i b2)), (.long q0), (.long q2), (.int (b2i b1))]) (rest := [(.ref b159)]) (Ls := #[.val (.long q0), .second, .val (.long q2), .second, .val (.int p4), .val (.long q5), .second, .val (.int (b2i b1)), .val (.int (b2i b2)), .val .null, .val (.long q0), .second, .unset, .unset]) (by rw [hml]; rfl) (lenOf pd__JJLjava_lang_String_JZJJZ_V rfl) (W := 1) (Nat.le_of_eq rfl) (hb hby at_102)
        obtain ⟨rfl, N160q, K160q, E160q, P160q, B160q, O160q⟩ := q160
        have N160 := Fr.app N0 N160q
        have K160 : Keep h0 T160.heap [] := K159.trans K160q (allS (Or.inr sz_b159) all0)
        refine Gl.pre (S' := T160.setTop (mkF m 109 #[.val (.long q0), .second, .val (.long q2), .second, .val (.int p4), .val (.long q5), .second, .val (.int (b2i b1)), .val (.int (b2i b2)), .val .null, .val (.long q0), .second, .val (.ref b159), .unset] [(.int (b2i b1))])) (fun t kt => ?_) ?_
        · show Steps p.tables e below (s₁.setTop (mkF m 67 #[.val (.long q0), .second, .val (.long q2), .second, .val (.int p4), .val (.long q5), .second, .val (.int (b2i b1)), .val (.int (b2i b2)), .val .null, .unset, .unset, .unset, .unset] [(.int (p4 &&& (8 : Int32)))])) _
          refine XS.ifYes X0.here hx rfl (pc0 := 67) (pc' := 74) rfl (hb hby at_67) rfl (own_t (i0_eq _) hc67) (by decide) (by decide) ?_
          show Steps p.tables e below (s₁.setTop (mkF m 74 #[.val (.long q0), .second, .val (.long q2), .second, .val (.int p4), .val (.long q5), .second, .val (.int (b2i b1)), .val (.int (b2i b2)), .val .null, .unset, .unset, .unset, .unset] [])) _
          refine XS.lloadN X0.here hx rfl (hb hby at_74) rfl ?_
          show Steps p.tables e below (s₁.setTop (mkF m 75 #[.val (.long q0), .second, .val (.long q2), .second, .val (.int p4), .val (.long q5), .second, .val (.int (b2i b1)), .val (.int (b2i b2)), .val .null, .unset, .unset, .unset, .unset] [(.long q0)])) _
          refine XS.lstore X0.here hx rfl (hb hby at_75) rfl (l' := #[.val (.long q0), .second, .val (.long q2), .second, .val (.int p4), .val (.long q5), .second, .val (.int (b2i b1)), .val (.int (b2i b2)), .val .null, .val (.long q0), .second, .unset, .unset]) rfl ?_
          show Steps p.tables e below (s₁.setTop (mkF m 77 #[.val (.long q0), .second, .val (.long q2), .second, .val (.int p4), .val (.long q5), .second, .val (.int (b2i b1)), .val (.int (b2i b2)), .val .null, .val (.long q0), .second, .unset, .unset] [])) _
          refine st159 _ ?_
          show Steps p.tables e below (T159.setTop (mkF m 80 #[.val (.long q0), .second, .val (.long q2), .second, .val (.int p4), .val (.long q5), .second, .val (.int (b2i b1)), .val (.int (b2i b2)), .val .null, .val (.long q0), .second, .unset, .unset] [(.ref b159)])) _
          refine XS.dup X159.here hx rfl (hb hby at_80) rfl rfl ?_
          show Steps p.tables e below (T159.setTop (mkF m 81 #[.val (.long q0), .second, .val (.long q2), .second, .val (.int p4), .val (.long q5), .second, .val (.int (b2i b1)), .val (.int (b2i b2)), .val .null, .val (.long q0), .second, .unset, .unset] [(.ref b159), (.ref b159)])) _
          refine XS.lload X159.here hx rfl (hb hby at_81) rfl ?_
          show Steps p.tables e below (T159.setTop (mkF m 83 #[.val (.long q0), .second, .val (.long q2), .second, .val (.int p4), .val (.long q5), .second, .val (.int (b2i b1)), .val (.int (b2i b2)), .val .null, .val (.long q0), .second, .unset, .unset] [(.long q5), (.ref b159), (.ref b159)])) _
          refine XS.lload X159.here hx rfl (hb hby at_83) rfl ?_
          show Steps p.tables e below (T159.setTop (mkF m 85 #[.val (.long q0), .second, .val (.long q2), .second, .val (.int p4), .val (.long q5), .second, .val (.int (b2i b1)), .val (.int (b2i b2)), .val .null, .val (.long q0), .second, .unset, .unset] [(.long q5), (.long q5), (.ref b159), (.ref b159)])) _
          refine X159.ldc2Long hx hown (mvT hZ (hw _ (List.mem_of_getElem? (i := 29) rfl))) (g := (mkF m 85 #[.val (.long q0), .second, .val (.long q2), .second, .val (.int p4), .val (.long q5), .second, .val (.int (b2i b1)), .val (.int (b2i b2)), .val .null, .val (.long q0), .second, .unset, .unset] [(.long q5), (.long q5), (.ref b159), (.ref b159)])) rfl (hb hby at_85) _ ?_
          show Steps p.tables e below (T159.setTop (mkF m 88 #[.val (.long q0), .second, .val (.long q2), .second, .val (.int p4), .val (.long q5), .second, .val (.int (b2i b1)), .val (.int (b2i b2)), .val .null, .val (.long q0), .second, .unset, .unset] [(.long (-1 : Int64)), (.long q5), (.long q5), (.ref b159), (.ref b159)])) _
          refine XS.lxor X159.here hx rfl (hb hby at_88) rfl ?_
          show Steps p.tables e below (T159.setTop (mkF m 89 #[.val (.long q0), .second, .val (.long q2), .second, .val (.int p4), .val (.long q5), .second, .val (.int (b2i b1)), .val (.int (b2i b2)), .val .null, .val (.long q0), .second, .unset, .unset] [(.long (q5 ^^^ (-1 : Int64))), (.long q5), (.ref b159), (.ref b159)])) _
          refine XS.aload X159.here hx rfl (hb hby at_89) rfl rfl ?_
          show Steps p.tables e below (T159.setTop (mkF m 91 #[.val (.long q0), .second, .val (.long q2), .second, .val (.int p4), .val (.long q5), .second, .val (.int (b2i b1)), .val (.int (b2i b2)), .val .null, .val (.long q0), .second, .unset, .unset] [.null, (.long (q5 ^^^ (-1 : Int64))), (.long q5), (.ref b159), (.ref b159)])) _
          refine XS.lload X159.here hx rfl (hb hby at_91) rfl ?_
          show Steps p.tables e below (T159.setTop (mkF m 93 #[.val (.long q0), .second, .val (.long q2), .second, .val (.int p4), .val (.long q5), .second, .val (.int (b2i b1)), .val (.int (b2i b2)), .val .null, .val (.long q0), .second, .unset, .unset] [(.long q5), .null, (.long (q5 ^^^ (-1 : Int64))), (.long q5), (.ref b159), (.ref b159)])) _
          refine XS.lloadN X159.here hx rfl (hb hby at_93) rfl ?_
          show Steps p.tables e below (T159.setTop (mkF m 94 #[.val (.long q0), .second, .val (.long q2), .second, .val (.int p4), .val (.long q5), .second, .val (.int (b2i b1)), .val (.int (b2i b2)), .val .null, .val (.long q0), .second, .unset, .unset] [(.long q0), (.long q5), .null, (.long (q5 ^^^ (-1 : Int64))), (.long q5), (.ref b159), (.ref b159)])) _
          refine XS.lxor X159.here hx rfl (hb hby at_94) rfl ?_
          show Steps p.tables e below (T159.setTop (mkF m 95 #[.val (.long q0), .second, .val (.long q2), .second, .val (.int p4), .val (.long q5), .second, .val (.int (b2i b1)), .val (.int (b2i b2)), .val .null, .val (.long q0), .second, .unset, .unset] [(.long (q5 ^^^ q0)), .null, (.long (q5 ^^^ (-1 : Int64))), (.long q5), (.ref b159), (.ref b159)])) _
          refine XS.iload X159.here hx rfl (hb hby at_95) rfl ?_
          show Steps p.tables e below (T159.setTop (mkF m 97 #[.val (.long q0), .second, .val (.long q2), .second, .val (.int p4), .val (.long q5), .second, .val (.int (b2i b1)), .val (.int (b2i b2)), .val .null, .val (.long q0), .second, .unset, .unset] [(.int (b2i b2)), (.long (q5 ^^^ q0)), .null, (.long (q5 ^^^ (-1 : Int64))), (.long q5), (.ref b159), (.ref b159)])) _
          refine XS.lload X159.here hx rfl (hb hby at_97) rfl ?_
          show Steps p.tables e below (T159.setTop (mkF m 99 #[.val (.long q0), .second, .val (.long q2), .second, .val (.int p4), .val (.long q5), .second, .val (.int (b2i b1)), .val (.int (b2i b2)), .val .null, .val (.long q0), .second, .unset, .unset] [(.long q0), (.int (b2i b2)), (.long (q5 ^^^ q0)), .null, (.long (q5 ^^^ (-1 : Int64))), (.long q5), (.ref b159), (.ref b159)])) _
          refine XS.lloadN X159.here hx rfl (hb hby at_99) rfl ?_
          show Steps p.tables e below (T159.setTop (mkF m 100 #[.val (.long q0), .second, .val (.long q2), .second, .val (.int p4), .val (.long q5), .second, .val (.int (b2i b1)), .val (.int (b2i b2)), .val .null, .val (.long q0), .second, .unset, .unset] [(.long q2), (.long q0), (.int (b2i b2)), (.long (q5 ^^^ q0)), .null, (.long (q5 ^^^ (-1 : Int64))), (.long q5), (.ref b159), (.ref b159)])) _
          refine XS.iload X159.here hx rfl (hb hby at_100) rfl ?_
          show Steps p.tables e below (T159.setTop (mkF m 102 #[.val (.long q0), .second, .val (.long q2), .second, .val (.int p4), .val (.long q5), .second, .val (.int (b2i b1)), .val (.int (b2i b2)), .val .null, .val (.long q0), .second, .unset, .unset] [(.int (b2i b1)), (.long q2), (.long q0), (.int (b2i b2)), (.long (q5 ^^^ q0)), .null, (.long (q5 ^^^ (-1 : Int64))), (.long q5), (.ref b159), (.ref b159)])) _
          refine st160 _ ?_
          show Steps p.tables e below (T160.setTop (mkF m 105 #[.val (.long q0), .second, .val (.long q2), .second, .val (.int p4), .val (.long q5), .second, .val (.int (b2i b1)), .val (.int (b2i b2)), .val .null, .val (.long q0), .second, .unset, .unset] [(.ref b159)])) _
          refine XS.astore X160.here hx rfl (hb hby at_105) rfl rfl (l' := #[.val (.long q0), .second, .val (.long q2), .second, .val (.int p4), .val (.long q5), .second, .val (.int (b2i b1)), .val (.int (b2i b2)), .val .null, .val (.long q0), .second, .val (.ref b159), .unset]) rfl ?_
          show Steps p.tables e below (T160.setTop (mkF m 107 #[.val (.long q0), .second, .val (.long q2), .second, .val (.int p4), .val (.long q5), .second, .val (.int (b2i b1)), .val (.int (b2i b2)), .val .null, .val (.long q0), .second, .val (.ref b159), .unset] [])) _
          refine XS.iload X160.here hx rfl (hb hby at_107) rfl ?_
          exact kt
        by_cases hc109 : b1 = true
        · have f162 := (own_sta_keep (S_sk.ext E159) K160q (allS ⟨_, A159⟩ all0))
          obtain ⟨T163, X163, e163, st163⟩ := getS2 X160 hx hZ hown (host := "") (Or.inl (hw _ (List.mem_of_getElem? (i := 64) rfl))) Via.refl rfl f162 (g := (mkF m 112 #[.val (.long q0), .second, .val (.long q2), .second, .val (.int p4), .val (.long q5), .second, .val (.int (b2i b1)), .val (.int (b2i b2)), .val .null, .val (.long q0), .second, .val (.ref b159), .unset] [])) rfl (hb hby at_112)
          have f165 := (own_sta_keep (S_ov.ext E159) K160q (allS ⟨_, A159⟩ all0))
          have f166 := (own_sta_keep (S_vo.ext E159) K160q (allS ⟨_, A159⟩ all0))
          have f167 := (own_sta_keep (S_fo.ext E159) K160q (allS ⟨_, A159⟩ all0))
          have z168 : n0 ≤ T160.heap.size := (Nat.le_trans z161 K160q.1)
          obtain ⟨v164, T164, L164, X164, q164, st164⟩ := own_callV X163 hx hZ (y := (⟨"com/example/stackledger/stackledger/Cleanup$Chosen", "action", "()Lcom/example/stackledger/stackledger/Cleanup$Action;"⟩ : MethodName)) (z := (⟨"com/example/stackledger/stackledger/Cleanup$Chosen", "action", "()Lcom/example/stackledger/stackledger/Cleanup$Action;"⟩ : MethodName)) hown (hw _ (List.mem_of_getElem? (i := 58) rfl)) (hw _ (List.mem_of_getElem? (i := 59) rfl)) (notFace_of_selects (args := #[]) (mvT hZ (hw _ (List.mem_of_getElem? (i := 61) rfl)))) (hw _ (List.mem_of_getElem? (i := 61) rfl)) (hw _ (List.mem_of_getElem? (i := 60) rfl)) (hw _ (List.mem_of_getElem? (i := 28) rfl)) (hw _ (List.mem_of_getElem? (i := 62) rfl)) (by decide) E160q (hM := (rm8 l Z a0 hw [] b159 b1 q2 q0 sk ov vo fo T160.heap n0 z168 O160q B160q P160q f162 f165 f166 f167)) (by decide) (by decide) (by decide) (by decide) e163 (argsL := []) (rest := []) (Ls := #[.val (.long q0), .second, .val (.long q2), .second, .val (.int p4), .val (.long q5), .second, .val (.int (b2i b1)), .val (.int (b2i b2)), .val .null, .val (.long q0), .second, .val (.ref b159), .val (.ref sk)]) (by rw [hml]; rfl) (lenOf pd___Lcom_example_stackledger_stackledger_Cleanup_Action_ rfl) (W := 0) (Nat.le_of_eq rfl) (hb hby at_156)
          obtain ⟨rfl, N164q, e164⟩ := q164
          have N164 := Fr.app N160 N164q
          refine Gl.fin X164 (v := some (.int (1 : Int32))) (fun h => by rw [Bd.returns] at h; cases h) Bd.notSynchronized ?_ e164 (by decide) (by decide) (fun fs hr => ?_)
          · exact ⟨rfl, N164⟩
          · show Steps p.tables e below (T160.setTop (mkF m 109 #[.val (.long q0), .second, .val (.long q2), .second, .val (.int p4), .val (.long q5), .second, .val (.int (b2i b1)), .val (.int (b2i b2)), .val .null, .val (.long q0), .second, .val (.ref b159), .unset] [(.int (b2i b1))])) _
            refine XS.ifNo X160.here hx rfl (hb hby at_109) rfl (own_nbf (b0_eq _) hc109) ?_
            show Steps p.tables e below (T160.setTop (mkF m 112 #[.val (.long q0), .second, .val (.long q2), .second, .val (.int p4), .val (.long q5), .second, .val (.int (b2i b1)), .val (.int (b2i b2)), .val .null, .val (.long q0), .second, .val (.ref b159), .unset] [])) _
            refine st163 _ ?_
            show Steps p.tables e below (T163.setTop (mkF m 115 #[.val (.long q0), .second, .val (.long q2), .second, .val (.int p4), .val (.long q5), .second, .val (.int (b2i b1)), .val (.int (b2i b2)), .val .null, .val (.long q0), .second, .val (.ref b159), .unset] [(.ref sk)])) _
            refine XS.astore X163.here hx rfl (hb hby at_115) rfl rfl (l' := #[.val (.long q0), .second, .val (.long q2), .second, .val (.int p4), .val (.long q5), .second, .val (.int (b2i b1)), .val (.int (b2i b2)), .val .null, .val (.long q0), .second, .val (.ref b159), .val (.ref sk)]) rfl ?_
            show Steps p.tables e below (T163.setTop (mkF m 117 #[.val (.long q0), .second, .val (.long q2), .second, .val (.int p4), .val (.long q5), .second, .val (.int (b2i b1)), .val (.int (b2i b2)), .val .null, .val (.long q0), .second, .val (.ref b159), .val (.ref sk)] [])) _
            refine XS.goto X163.here hx rfl (pc0 := 117) (pc' := 154) rfl (hb hby at_117) (by decide) (by decide) ?_
            show Steps p.tables e below (T163.setTop (mkF m 154 #[.val (.long q0), .second, .val (.long q2), .second, .val (.int p4), .val (.long q5), .second, .val (.int (b2i b1)), .val (.int (b2i b2)), .val .null, .val (.long q0), .second, .val (.ref b159), .val (.ref sk)] [])) _
            refine XS.aload X163.here hx rfl (hb hby at_154) rfl rfl ?_
            show Steps p.tables e below (T163.setTop (mkF m 156 #[.val (.long q0), .second, .val (.long q2), .second, .val (.int p4), .val (.long q5), .second, .val (.int (b2i b1)), .val (.int (b2i b2)), .val .null, .val (.long q0), .second, .val (.ref b159), .val (.ref sk)] [(.ref b159)])) _
            refine st164 _ ?_
            show Steps p.tables e below (T164.setTop (mkF m 159 #[.val (.long q0), .second, .val (.long q2), .second, .val (.int p4), .val (.long q5), .second, .val (.int (b2i b1)), .val (.int (b2i b2)), .val .null, .val (.long q0), .second, .val (.ref b159), .val (.ref sk)] [(.ref (if b1 = true then sk else if q2 < (0 : Int64) then ov else if q0 = (0 : Int64) then vo else fo))])) _
            refine XS.aload X164.here hx rfl (hb hby at_159) rfl rfl ?_
            show Steps p.tables e below (T164.setTop (mkF m 161 #[.val (.long q0), .second, .val (.long q2), .second, .val (.int p4), .val (.long q5), .second, .val (.int (b2i b1)), .val (.int (b2i b2)), .val .null, .val (.long q0), .second, .val (.ref b159), .val (.ref sk)] [(.ref sk), (.ref (if b1 = true then sk else if q2 < (0 : Int64) then ov else if q0 = (0 : Int64) then vo else fo))])) _
            refine Jvm.RoadKit.acmp (g := (mkF m 161 #[.val (.long q0), .second, .val (.long q2), .second, .val (.int p4), .val (.long q5), .second, .val (.int (b2i b1)), .val (.int (b2i b2)), .val .null, .val (.long q0), .second, .val (.ref b159), .val (.ref sk)] [(.ref sk), (.ref (if b1 = true then sk else if q2 < (0 : Int64) then ov else if q0 = (0 : Int64) then vo else fo))])) X164 hx rfl rfl rfl (pc0 := 161) (pc' := 164) (same := true) rfl (hb hby at_161) rfl (decide_eq_true (congrArg Value.ref (by simp [hc109]))) (by decide) (by decide) ?_
            show Steps p.tables e below (T164.setTop (mkF m 164 #[.val (.long q0), .second, .val (.long q2), .second, .val (.int p4), .val (.long q5), .second, .val (.int (b2i b1)), .val (.int (b2i b2)), .val .null, .val (.long q0), .second, .val (.ref b159), .val (.ref sk)] [])) _
            refine XS.iconst X164.here hx rfl (hb hby at_164) ?_
            show Steps p.tables e below (T164.setTop (mkF m 165 #[.val (.long q0), .second, .val (.long q2), .second, .val (.int p4), .val (.long q5), .second, .val (.int (b2i b1)), .val (.int (b2i b2)), .val .null, .val (.long q0), .second, .val (.ref b159), .val (.ref sk)] [(.int (1 : Int32))])) _
            refine XS.goto X164.here hx rfl (pc0 := 165) (pc' := 169) rfl (hb hby at_165) (by decide) (by decide) ?_
            show Steps p.tables e below (T164.setTop (mkF m 169 #[.val (.long q0), .second, .val (.long q2), .second, .val (.int p4), .val (.long q5), .second, .val (.int (b2i b1)), .val (.int (b2i b2)), .val .null, .val (.long q0), .second, .val (.ref b159), .val (.ref sk)] [(.int (1 : Int32))])) _
            exact retN X164 hx (t := .boolean) Bd.returns (by simp) (hb hby at_169) hr
        · refine Gl.pre (S' := T160.setTop (mkF m 123 #[.val (.long q0), .second, .val (.long q2), .second, .val (.int p4), .val (.long q5), .second, .val (.int (b2i b1)), .val (.int (b2i b2)), .val .null, .val (.long q0), .second, .val (.ref b159), .unset] [(.int (lcmpW q2 (0 : Int64)))])) (fun t kt => ?_) ?_
          · show Steps p.tables e below (T160.setTop (mkF m 109 #[.val (.long q0), .second, .val (.long q2), .second, .val (.int p4), .val (.long q5), .second, .val (.int (b2i b1)), .val (.int (b2i b2)), .val .null, .val (.long q0), .second, .val (.ref b159), .unset] [(.int (b2i b1))])) _
            refine XS.ifYes X160.here hx rfl (pc0 := 109) (pc' := 120) rfl (hb hby at_109) rfl (own_nbt (b0_eq _) (Bool.eq_false_iff.mpr hc109)) (by decide) (by decide) ?_
            show Steps p.tables e below (T160.setTop (mkF m 120 #[.val (.long q0), .second, .val (.long q2), .second, .val (.int p4), .val (.long q5), .second, .val (.int (b2i b1)), .val (.int (b2i b2)), .val .null, .val (.long q0), .second, .val (.ref b159), .unset] [])) _
            refine XS.lloadN X160.here hx rfl (hb hby at_120) rfl ?_
            show Steps p.tables e below (T160.setTop (mkF m 121 #[.val (.long q0), .second, .val (.long q2), .second, .val (.int p4), .val (.long q5), .second, .val (.int (b2i b1)), .val (.int (b2i b2)), .val .null, .val (.long q0), .second, .val (.ref b159), .unset] [(.long q2)])) _
            refine XS.lconst X160.here hx rfl (hb hby at_121) ?_
            show Steps p.tables e below (T160.setTop (mkF m 122 #[.val (.long q0), .second, .val (.long q2), .second, .val (.int p4), .val (.long q5), .second, .val (.int (b2i b1)), .val (.int (b2i b2)), .val .null, .val (.long q0), .second, .val (.ref b159), .unset] [(.long (0 : Int64)), (.long q2)])) _
            refine XS.lcmp X160.here hx rfl (hb hby at_122) rfl ?_
            exact kt
          by_cases hc123 : (0 : Int64) < q2
          · refine Gl.pre (S' := T160.setTop (mkF m 130 #[.val (.long q0), .second, .val (.long q2), .second, .val (.int p4), .val (.long q5), .second, .val (.int (b2i b1)), .val (.int (b2i b2)), .val .null, .val (.long q0), .second, .val (.ref b159), .unset] [(.int (lcmpW q0 (0 : Int64)))])) (fun t kt => ?_) ?_
            · show Steps p.tables e below (T160.setTop (mkF m 123 #[.val (.long q0), .second, .val (.long q2), .second, .val (.int p4), .val (.long q5), .second, .val (.int (b2i b1)), .val (.int (b2i b2)), .val .null, .val (.long q0), .second, .val (.ref b159), .unset] [(.int (lcmpW q2 (0 : Int64)))])) _
              refine XS.ifNo X160.here hx rfl (hb hby at_123) rfl (own_nf (l0_le _ _) hc123) ?_
              show Steps p.tables e below (T160.setTop (mkF m 126 #[.val (.long q0), .second, .val (.long q2), .second, .val (.int p4), .val (.long q5), .second, .val (.int (b2i b1)), .val (.int (b2i b2)), .val .null, .val (.long q0), .second, .val (.ref b159), .unset] [])) _
              refine XS.lload X160.here hx rfl (hb hby at_126) rfl ?_
              show Steps p.tables e below (T160.setTop (mkF m 128 #[.val (.long q0), .second, .val (.long q2), .second, .val (.int p4), .val (.long q5), .second, .val (.int (b2i b1)), .val (.int (b2i b2)), .val .null, .val (.long q0), .second, .val (.ref b159), .unset] [(.long q0)])) _
              refine XS.lconst X160.here hx rfl (hb hby at_128) ?_
              show Steps p.tables e below (T160.setTop (mkF m 129 #[.val (.long q0), .second, .val (.long q2), .second, .val (.int p4), .val (.long q5), .second, .val (.int (b2i b1)), .val (.int (b2i b2)), .val .null, .val (.long q0), .second, .val (.ref b159), .unset] [(.long (0 : Int64)), (.long q0)])) _
              refine XS.lcmp X160.here hx rfl (hb hby at_129) rfl ?_
              exact kt
            by_cases hc130 : q0 = (0 : Int64)
            · have f169 := (own_sta_keep (S_vo.ext E159) K160q (allS ⟨_, A159⟩ all0))
              obtain ⟨T170, X170, e170, st170⟩ := getS2 X160 hx hZ hown (host := "") (Or.inl (hw _ (List.mem_of_getElem? (i := 70) rfl))) Via.refl rfl f169 (g := (mkF m 133 #[.val (.long q0), .second, .val (.long q2), .second, .val (.int p4), .val (.long q5), .second, .val (.int (b2i b1)), .val (.int (b2i b2)), .val .null, .val (.long q0), .second, .val (.ref b159), .unset] [])) rfl (hb hby at_133)
              have f172 := (own_sta_keep (S_sk.ext E159) K160q (allS ⟨_, A159⟩ all0))
              have f173 := (own_sta_keep (S_ov.ext E159) K160q (allS ⟨_, A159⟩ all0))
              have f174 := (own_sta_keep (S_fo.ext E159) K160q (allS ⟨_, A159⟩ all0))
              have z175 : n0 ≤ T160.heap.size := (Nat.le_trans z161 K160q.1)
              obtain ⟨v171, T171, L171, X171, q171, st171⟩ := own_callV X170 hx hZ (y := (⟨"com/example/stackledger/stackledger/Cleanup$Chosen", "action", "()Lcom/example/stackledger/stackledger/Cleanup$Action;"⟩ : MethodName)) (z := (⟨"com/example/stackledger/stackledger/Cleanup$Chosen", "action", "()Lcom/example/stackledger/stackledger/Cleanup$Action;"⟩ : MethodName)) hown (hw _ (List.mem_of_getElem? (i := 58) rfl)) (hw _ (List.mem_of_getElem? (i := 59) rfl)) (notFace_of_selects (args := #[]) (mvT hZ (hw _ (List.mem_of_getElem? (i := 61) rfl)))) (hw _ (List.mem_of_getElem? (i := 61) rfl)) (hw _ (List.mem_of_getElem? (i := 60) rfl)) (hw _ (List.mem_of_getElem? (i := 28) rfl)) (hw _ (List.mem_of_getElem? (i := 62) rfl)) (by decide) E160q (hM := (rm8 l Z a0 hw [] b159 b1 q2 q0 sk ov vo fo T160.heap n0 z175 O160q B160q P160q f172 f173 f169 f174)) (by decide) (by decide) (by decide) (by decide) e170 (argsL := []) (rest := []) (Ls := #[.val (.long q0), .second, .val (.long q2), .second, .val (.int p4), .val (.long q5), .second, .val (.int (b2i b1)), .val (.int (b2i b2)), .val .null, .val (.long q0), .second, .val (.ref b159), .val (.ref vo)]) (by rw [hml]; rfl) (lenOf pd___Lcom_example_stackledger_stackledger_Cleanup_Action_ rfl) (W := 0) (Nat.le_of_eq rfl) (hb hby at_156)
              obtain ⟨rfl, N171q, e171⟩ := q171
              have N171 := Fr.app N160 N171q
              refine Gl.fin X171 (v := some (.int (1 : Int32))) (fun h => by rw [Bd.returns] at h; cases h) Bd.notSynchronized ?_ e171 (by decide) (by decide) (fun fs hr => ?_)
              · exact ⟨rfl, N171⟩
              · show Steps p.tables e below (T160.setTop (mkF m 130 #[.val (.long q0), .second, .val (.long q2), .second, .val (.int p4), .val (.long q5), .second, .val (.int (b2i b1)), .val (.int (b2i b2)), .val .null, .val (.long q0), .second, .val (.ref b159), .unset] [(.int (lcmpW q0 (0 : Int64)))])) _
                refine XS.ifNo X160.here hx rfl (hb hby at_130) rfl (own_nf (l0_ne _ _) hc130) ?_
                show Steps p.tables e below (T160.setTop (mkF m 133 #[.val (.long q0), .second, .val (.long q2), .second, .val (.int p4), .val (.long q5), .second, .val (.int (b2i b1)), .val (.int (b2i b2)), .val .null, .val (.long q0), .second, .val (.ref b159), .unset] [])) _
                refine st170 _ ?_
                show Steps p.tables e below (T170.setTop (mkF m 136 #[.val (.long q0), .second, .val (.long q2), .second, .val (.int p4), .val (.long q5), .second, .val (.int (b2i b1)), .val (.int (b2i b2)), .val .null, .val (.long q0), .second, .val (.ref b159), .unset] [(.ref vo)])) _
                refine XS.astore X170.here hx rfl (hb hby at_136) rfl rfl (l' := #[.val (.long q0), .second, .val (.long q2), .second, .val (.int p4), .val (.long q5), .second, .val (.int (b2i b1)), .val (.int (b2i b2)), .val .null, .val (.long q0), .second, .val (.ref b159), .val (.ref vo)]) rfl ?_
                show Steps p.tables e below (T170.setTop (mkF m 138 #[.val (.long q0), .second, .val (.long q2), .second, .val (.int p4), .val (.long q5), .second, .val (.int (b2i b1)), .val (.int (b2i b2)), .val .null, .val (.long q0), .second, .val (.ref b159), .val (.ref vo)] [])) _
                refine XS.goto X170.here hx rfl (pc0 := 138) (pc' := 154) rfl (hb hby at_138) (by decide) (by decide) ?_
                show Steps p.tables e below (T170.setTop (mkF m 154 #[.val (.long q0), .second, .val (.long q2), .second, .val (.int p4), .val (.long q5), .second, .val (.int (b2i b1)), .val (.int (b2i b2)), .val .null, .val (.long q0), .second, .val (.ref b159), .val (.ref vo)] [])) _
                refine XS.aload X170.here hx rfl (hb hby at_154) rfl rfl ?_
                show Steps p.tables e below (T170.setTop (mkF m 156 #[.val (.long q0), .second, .val (.long q2), .second, .val (.int p4), .val (.long q5), .second, .val (.int (b2i b1)), .val (.int (b2i b2)), .val .null, .val (.long q0), .second, .val (.ref b159), .val (.ref vo)] [(.ref b159)])) _
                refine st171 _ ?_
                show Steps p.tables e below (T171.setTop (mkF m 159 #[.val (.long q0), .second, .val (.long q2), .second, .val (.int p4), .val (.long q5), .second, .val (.int (b2i b1)), .val (.int (b2i b2)), .val .null, .val (.long q0), .second, .val (.ref b159), .val (.ref vo)] [(.ref (if b1 = true then sk else if q2 < (0 : Int64) then ov else if q0 = (0 : Int64) then vo else fo))])) _
                refine XS.aload X171.here hx rfl (hb hby at_159) rfl rfl ?_
                show Steps p.tables e below (T171.setTop (mkF m 161 #[.val (.long q0), .second, .val (.long q2), .second, .val (.int p4), .val (.long q5), .second, .val (.int (b2i b1)), .val (.int (b2i b2)), .val .null, .val (.long q0), .second, .val (.ref b159), .val (.ref vo)] [(.ref vo), (.ref (if b1 = true then sk else if q2 < (0 : Int64) then ov else if q0 = (0 : Int64) then vo else fo))])) _
                refine Jvm.RoadKit.acmp (g := (mkF m 161 #[.val (.long q0), .second, .val (.long q2), .second, .val (.int p4), .val (.long q5), .second, .val (.int (b2i b1)), .val (.int (b2i b2)), .val .null, .val (.long q0), .second, .val (.ref b159), .val (.ref vo)] [(.ref vo), (.ref (if b1 = true then sk else if q2 < (0 : Int64) then ov else if q0 = (0 : Int64) then vo else fo))])) X171 hx rfl rfl rfl (pc0 := 161) (pc' := 164) (same := true) rfl (hb hby at_161) rfl (decide_eq_true (congrArg Value.ref (by simp [hc109, own_nlt hc123, hc130]))) (by decide) (by decide) ?_
                show Steps p.tables e below (T171.setTop (mkF m 164 #[.val (.long q0), .second, .val (.long q2), .second, .val (.int p4), .val (.long q5), .second, .val (.int (b2i b1)), .val (.int (b2i b2)), .val .null, .val (.long q0), .second, .val (.ref b159), .val (.ref vo)] [])) _
                refine XS.iconst X171.here hx rfl (hb hby at_164) ?_
                show Steps p.tables e below (T171.setTop (mkF m 165 #[.val (.long q0), .second, .val (.long q2), .second, .val (.int p4), .val (.long q5), .second, .val (.int (b2i b1)), .val (.int (b2i b2)), .val .null, .val (.long q0), .second, .val (.ref b159), .val (.ref vo)] [(.int (1 : Int32))])) _
                refine XS.goto X171.here hx rfl (pc0 := 165) (pc' := 169) rfl (hb hby at_165) (by decide) (by decide) ?_
                show Steps p.tables e below (T171.setTop (mkF m 169 #[.val (.long q0), .second, .val (.long q2), .second, .val (.int p4), .val (.long q5), .second, .val (.int (b2i b1)), .val (.int (b2i b2)), .val .null, .val (.long q0), .second, .val (.ref b159), .val (.ref vo)] [(.int (1 : Int32))])) _
                exact retN X171 hx (t := .boolean) Bd.returns (by simp) (hb hby at_169) hr
            · have f176 := (own_sta_keep (S_fo.ext E159) K160q (allS ⟨_, A159⟩ all0))
              obtain ⟨T177, X177, e177, st177⟩ := getS2 X160 hx hZ hown (host := "") (Or.inl (hw _ (List.mem_of_getElem? (i := 55) rfl))) Via.refl rfl f176 (g := (mkF m 141 #[.val (.long q0), .second, .val (.long q2), .second, .val (.int p4), .val (.long q5), .second, .val (.int (b2i b1)), .val (.int (b2i b2)), .val .null, .val (.long q0), .second, .val (.ref b159), .unset] [])) rfl (hb hby at_141)
              have f179 := (own_sta_keep (S_sk.ext E159) K160q (allS ⟨_, A159⟩ all0))
              have f180 := (own_sta_keep (S_ov.ext E159) K160q (allS ⟨_, A159⟩ all0))
              have f181 := (own_sta_keep (S_vo.ext E159) K160q (allS ⟨_, A159⟩ all0))
              have z182 : n0 ≤ T160.heap.size := (Nat.le_trans z161 K160q.1)
              obtain ⟨v178, T178, L178, X178, q178, st178⟩ := own_callV X177 hx hZ (y := (⟨"com/example/stackledger/stackledger/Cleanup$Chosen", "action", "()Lcom/example/stackledger/stackledger/Cleanup$Action;"⟩ : MethodName)) (z := (⟨"com/example/stackledger/stackledger/Cleanup$Chosen", "action", "()Lcom/example/stackledger/stackledger/Cleanup$Action;"⟩ : MethodName)) hown (hw _ (List.mem_of_getElem? (i := 58) rfl)) (hw _ (List.mem_of_getElem? (i := 59) rfl)) (notFace_of_selects (args := #[]) (mvT hZ (hw _ (List.mem_of_getElem? (i := 61) rfl)))) (hw _ (List.mem_of_getElem? (i := 61) rfl)) (hw _ (List.mem_of_getElem? (i := 60) rfl)) (hw _ (List.mem_of_getElem? (i := 28) rfl)) (hw _ (List.mem_of_getElem? (i := 62) rfl)) (by decide) E160q (hM := (rm8 l Z a0 hw [] b159 b1 q2 q0 sk ov vo fo T160.heap n0 z182 O160q B160q P160q f179 f180 f181 f176)) (by decide) (by decide) (by decide) (by decide) e177 (argsL := []) (rest := []) (Ls := #[.val (.long q0), .second, .val (.long q2), .second, .val (.int p4), .val (.long q5), .second, .val (.int (b2i b1)), .val (.int (b2i b2)), .val .null, .val (.long q0), .second, .val (.ref b159), .val (.ref fo)]) (by rw [hml]; rfl) (lenOf pd___Lcom_example_stackledger_stackledger_Cleanup_Action_ rfl) (W := 0) (Nat.le_of_eq rfl) (hb hby at_156)
              obtain ⟨rfl, N178q, e178⟩ := q178
              have N178 := Fr.app N160 N178q
              refine Gl.fin X178 (v := some (.int (1 : Int32))) (fun h => by rw [Bd.returns] at h; cases h) Bd.notSynchronized ?_ e178 (by decide) (by decide) (fun fs hr => ?_)
              · exact ⟨rfl, N178⟩
              · show Steps p.tables e below (T160.setTop (mkF m 130 #[.val (.long q0), .second, .val (.long q2), .second, .val (.int p4), .val (.long q5), .second, .val (.int (b2i b1)), .val (.int (b2i b2)), .val .null, .val (.long q0), .second, .val (.ref b159), .unset] [(.int (lcmpW q0 (0 : Int64)))])) _
                refine XS.ifYes X160.here hx rfl (pc0 := 130) (pc' := 141) rfl (hb hby at_130) rfl (own_nt (l0_ne _ _) hc130) (by decide) (by decide) ?_
                show Steps p.tables e below (T160.setTop (mkF m 141 #[.val (.long q0), .second, .val (.long q2), .second, .val (.int p4), .val (.long q5), .second, .val (.int (b2i b1)), .val (.int (b2i b2)), .val .null, .val (.long q0), .second, .val (.ref b159), .unset] [])) _
                refine st177 _ ?_
                show Steps p.tables e below (T177.setTop (mkF m 144 #[.val (.long q0), .second, .val (.long q2), .second, .val (.int p4), .val (.long q5), .second, .val (.int (b2i b1)), .val (.int (b2i b2)), .val .null, .val (.long q0), .second, .val (.ref b159), .unset] [(.ref fo)])) _
                refine XS.astore X177.here hx rfl (hb hby at_144) rfl rfl (l' := #[.val (.long q0), .second, .val (.long q2), .second, .val (.int p4), .val (.long q5), .second, .val (.int (b2i b1)), .val (.int (b2i b2)), .val .null, .val (.long q0), .second, .val (.ref b159), .val (.ref fo)]) rfl ?_
                show Steps p.tables e below (T177.setTop (mkF m 146 #[.val (.long q0), .second, .val (.long q2), .second, .val (.int p4), .val (.long q5), .second, .val (.int (b2i b1)), .val (.int (b2i b2)), .val .null, .val (.long q0), .second, .val (.ref b159), .val (.ref fo)] [])) _
                refine XS.goto X177.here hx rfl (pc0 := 146) (pc' := 154) rfl (hb hby at_146) (by decide) (by decide) ?_
                show Steps p.tables e below (T177.setTop (mkF m 154 #[.val (.long q0), .second, .val (.long q2), .second, .val (.int p4), .val (.long q5), .second, .val (.int (b2i b1)), .val (.int (b2i b2)), .val .null, .val (.long q0), .second, .val (.ref b159), .val (.ref fo)] [])) _
                refine XS.aload X177.here hx rfl (hb hby at_154) rfl rfl ?_
                show Steps p.tables e below (T177.setTop (mkF m 156 #[.val (.long q0), .second, .val (.long q2), .second, .val (.int p4), .val (.long q5), .second, .val (.int (b2i b1)), .val (.int (b2i b2)), .val .null, .val (.long q0), .second, .val (.ref b159), .val (.ref fo)] [(.ref b159)])) _
                refine st178 _ ?_
                show Steps p.tables e below (T178.setTop (mkF m 159 #[.val (.long q0), .second, .val (.long q2), .second, .val (.int p4), .val (.long q5), .second, .val (.int (b2i b1)), .val (.int (b2i b2)), .val .null, .val (.long q0), .second, .val (.ref b159), .val (.ref fo)] [(.ref (if b1 = true then sk else if q2 < (0 : Int64) then ov else if q0 = (0 : Int64) then vo else fo))])) _
                refine XS.aload X178.here hx rfl (hb hby at_159) rfl rfl ?_
                show Steps p.tables e below (T178.setTop (mkF m 161 #[.val (.long q0), .second, .val (.long q2), .second, .val (.int p4), .val (.long q5), .second, .val (.int (b2i b1)), .val (.int (b2i b2)), .val .null, .val (.long q0), .second, .val (.ref b159), .val (.ref fo)] [(.ref fo), (.ref (if b1 = true then sk else if q2 < (0 : Int64) then ov else if q0 = (0 : Int64) then vo else fo))])) _
                refine Jvm.RoadKit.acmp (g := (mkF m 161 #[.val (.long q0), .second, .val (.long q2), .second, .val (.int p4), .val (.long q5), .second, .val (.int (b2i b1)), .val (.int (b2i b2)), .val .null, .val (.long q0), .second, .val (.ref b159), .val (.ref fo)] [(.ref fo), (.ref (if b1 = true then sk else if q2 < (0 : Int64) then ov else if q0 = (0 : Int64) then vo else fo))])) X178 hx rfl rfl rfl (pc0 := 161) (pc' := 164) (same := true) rfl (hb hby at_161) rfl (decide_eq_true (congrArg Value.ref (by simp [hc109, own_nlt hc123, hc130]))) (by decide) (by decide) ?_
                show Steps p.tables e below (T178.setTop (mkF m 164 #[.val (.long q0), .second, .val (.long q2), .second, .val (.int p4), .val (.long q5), .second, .val (.int (b2i b1)), .val (.int (b2i b2)), .val .null, .val (.long q0), .second, .val (.ref b159), .val (.ref fo)] [])) _
                refine XS.iconst X178.here hx rfl (hb hby at_164) ?_
                show Steps p.tables e below (T178.setTop (mkF m 165 #[.val (.long q0), .second, .val (.long q2), .second, .val (.int p4), .val (.long q5), .second, .val (.int (b2i b1)), .val (.int (b2i b2)), .val .null, .val (.long q0), .second, .val (.ref b159), .val (.ref fo)] [(.int (1 : Int32))])) _
                refine XS.goto X178.here hx rfl (pc0 := 165) (pc' := 169) rfl (hb hby at_165) (by decide) (by decide) ?_
                show Steps p.tables e below (T178.setTop (mkF m 169 #[.val (.long q0), .second, .val (.long q2), .second, .val (.int p4), .val (.long q5), .second, .val (.int (b2i b1)), .val (.int (b2i b2)), .val .null, .val (.long q0), .second, .val (.ref b159), .val (.ref fo)] [(.int (1 : Int32))])) _
                exact retN X178 hx (t := .boolean) Bd.returns (by simp) (hb hby at_169) hr
          · have f183 := (own_sta_keep (S_ov.ext E159) K160q (allS ⟨_, A159⟩ all0))
            obtain ⟨T184, X184, e184, st184⟩ := getS2 X160 hx hZ hown (host := "") (Or.inl (hw _ (List.mem_of_getElem? (i := 67) rfl))) Via.refl rfl f183 (g := (mkF m 149 #[.val (.long q0), .second, .val (.long q2), .second, .val (.int p4), .val (.long q5), .second, .val (.int (b2i b1)), .val (.int (b2i b2)), .val .null, .val (.long q0), .second, .val (.ref b159), .unset] [])) rfl (hb hby at_149)
            have f186 := (own_sta_keep (S_sk.ext E159) K160q (allS ⟨_, A159⟩ all0))
            have f187 := (own_sta_keep (S_vo.ext E159) K160q (allS ⟨_, A159⟩ all0))
            have f188 := (own_sta_keep (S_fo.ext E159) K160q (allS ⟨_, A159⟩ all0))
            have z189 : n0 ≤ T160.heap.size := (Nat.le_trans z161 K160q.1)
            obtain ⟨v185, T185, L185, X185, q185, st185⟩ := own_callV X184 hx hZ (y := (⟨"com/example/stackledger/stackledger/Cleanup$Chosen", "action", "()Lcom/example/stackledger/stackledger/Cleanup$Action;"⟩ : MethodName)) (z := (⟨"com/example/stackledger/stackledger/Cleanup$Chosen", "action", "()Lcom/example/stackledger/stackledger/Cleanup$Action;"⟩ : MethodName)) hown (hw _ (List.mem_of_getElem? (i := 58) rfl)) (hw _ (List.mem_of_getElem? (i := 59) rfl)) (notFace_of_selects (args := #[]) (mvT hZ (hw _ (List.mem_of_getElem? (i := 61) rfl)))) (hw _ (List.mem_of_getElem? (i := 61) rfl)) (hw _ (List.mem_of_getElem? (i := 60) rfl)) (hw _ (List.mem_of_getElem? (i := 28) rfl)) (hw _ (List.mem_of_getElem? (i := 62) rfl)) (by decide) E160q (hM := (rm8 l Z a0 hw [] b159 b1 q2 q0 sk ov vo fo T160.heap n0 z189 O160q B160q P160q f186 f183 f187 f188)) (by decide) (by decide) (by decide) (by decide) e184 (argsL := []) (rest := []) (Ls := #[.val (.long q0), .second, .val (.long q2), .second, .val (.int p4), .val (.long q5), .second, .val (.int (b2i b1)), .val (.int (b2i b2)), .val .null, .val (.long q0), .second, .val (.ref b159), .val (.ref ov)]) (by rw [hml]; rfl) (lenOf pd___Lcom_example_stackledger_stackledger_Cleanup_Action_ rfl) (W := 0) (Nat.le_of_eq rfl) (hb hby at_156)
            obtain ⟨rfl, N185q, e185⟩ := q185
            have N185 := Fr.app N160 N185q
            refine Gl.fin X185 (v := some (.int (1 : Int32))) (fun h => by rw [Bd.returns] at h; cases h) Bd.notSynchronized ?_ e185 (by decide) (by decide) (fun fs hr => ?_)
            · exact ⟨rfl, N185⟩
            · show Steps p.tables e below (T160.setTop (mkF m 123 #[.val (.long q0), .second, .val (.long q2), .second, .val (.int p4), .val (.long q5), .second, .val (.int (b2i b1)), .val (.int (b2i b2)), .val .null, .val (.long q0), .second, .val (.ref b159), .unset] [(.int (lcmpW q2 (0 : Int64)))])) _
              refine XS.ifYes X160.here hx rfl (pc0 := 123) (pc' := 149) rfl (hb hby at_123) rfl (own_nt (l0_le _ _) hc123) (by decide) (by decide) ?_
              show Steps p.tables e below (T160.setTop (mkF m 149 #[.val (.long q0), .second, .val (.long q2), .second, .val (.int p4), .val (.long q5), .second, .val (.int (b2i b1)), .val (.int (b2i b2)), .val .null, .val (.long q0), .second, .val (.ref b159), .unset] [])) _
              refine st184 _ ?_
              show Steps p.tables e below (T184.setTop (mkF m 152 #[.val (.long q0), .second, .val (.long q2), .second, .val (.int p4), .val (.long q5), .second, .val (.int (b2i b1)), .val (.int (b2i b2)), .val .null, .val (.long q0), .second, .val (.ref b159), .unset] [(.ref ov)])) _
              refine XS.astore X184.here hx rfl (hb hby at_152) rfl rfl (l' := #[.val (.long q0), .second, .val (.long q2), .second, .val (.int p4), .val (.long q5), .second, .val (.int (b2i b1)), .val (.int (b2i b2)), .val .null, .val (.long q0), .second, .val (.ref b159), .val (.ref ov)]) rfl ?_
              show Steps p.tables e below (T184.setTop (mkF m 154 #[.val (.long q0), .second, .val (.long q2), .second, .val (.int p4), .val (.long q5), .second, .val (.int (b2i b1)), .val (.int (b2i b2)), .val .null, .val (.long q0), .second, .val (.ref b159), .val (.ref ov)] [])) _
              refine XS.aload X184.here hx rfl (hb hby at_154) rfl rfl ?_
              show Steps p.tables e below (T184.setTop (mkF m 156 #[.val (.long q0), .second, .val (.long q2), .second, .val (.int p4), .val (.long q5), .second, .val (.int (b2i b1)), .val (.int (b2i b2)), .val .null, .val (.long q0), .second, .val (.ref b159), .val (.ref ov)] [(.ref b159)])) _
              refine st185 _ ?_
              show Steps p.tables e below (T185.setTop (mkF m 159 #[.val (.long q0), .second, .val (.long q2), .second, .val (.int p4), .val (.long q5), .second, .val (.int (b2i b1)), .val (.int (b2i b2)), .val .null, .val (.long q0), .second, .val (.ref b159), .val (.ref ov)] [(.ref (if b1 = true then sk else if q2 < (0 : Int64) then ov else if q0 = (0 : Int64) then vo else fo))])) _
              refine XS.aload X185.here hx rfl (hb hby at_159) rfl rfl ?_
              show Steps p.tables e below (T185.setTop (mkF m 161 #[.val (.long q0), .second, .val (.long q2), .second, .val (.int p4), .val (.long q5), .second, .val (.int (b2i b1)), .val (.int (b2i b2)), .val .null, .val (.long q0), .second, .val (.ref b159), .val (.ref ov)] [(.ref ov), (.ref (if b1 = true then sk else if q2 < (0 : Int64) then ov else if q0 = (0 : Int64) then vo else fo))])) _
              refine Jvm.RoadKit.acmp (g := (mkF m 161 #[.val (.long q0), .second, .val (.long q2), .second, .val (.int p4), .val (.long q5), .second, .val (.int (b2i b1)), .val (.int (b2i b2)), .val .null, .val (.long q0), .second, .val (.ref b159), .val (.ref ov)] [(.ref ov), (.ref (if b1 = true then sk else if q2 < (0 : Int64) then ov else if q0 = (0 : Int64) then vo else fo))])) X185 hx rfl rfl rfl (pc0 := 161) (pc' := 164) (same := true) rfl (hb hby at_161) rfl (decide_eq_true (congrArg Value.ref (by simp [hc109, own_tri hc123 hc3]))) (by decide) (by decide) ?_
              show Steps p.tables e below (T185.setTop (mkF m 164 #[.val (.long q0), .second, .val (.long q2), .second, .val (.int p4), .val (.long q5), .second, .val (.int (b2i b1)), .val (.int (b2i b2)), .val .null, .val (.long q0), .second, .val (.ref b159), .val (.ref ov)] [])) _
              refine XS.iconst X185.here hx rfl (hb hby at_164) ?_
              show Steps p.tables e below (T185.setTop (mkF m 165 #[.val (.long q0), .second, .val (.long q2), .second, .val (.int p4), .val (.long q5), .second, .val (.int (b2i b1)), .val (.int (b2i b2)), .val .null, .val (.long q0), .second, .val (.ref b159), .val (.ref ov)] [(.int (1 : Int32))])) _
              refine XS.goto X185.here hx rfl (pc0 := 165) (pc' := 169) rfl (hb hby at_165) (by decide) (by decide) ?_
              show Steps p.tables e below (T185.setTop (mkF m 169 #[.val (.long q0), .second, .val (.long q2), .second, .val (.int p4), .val (.long q5), .second, .val (.int (b2i b1)), .val (.int (b2i b2)), .val .null, .val (.long q0), .second, .val (.ref b159), .val (.ref ov)] [(.int (1 : Int32))])) _
              exact retN X185 hx (t := .boolean) Bd.returns (by simp) (hb hby at_169) hr
      · obtain ⟨T190, h190, X190, e190, E190, A190, D190, -, st190⟩ := newO X0 hx hZ hown (hw _ (List.mem_of_getElem? (i := 26) rfl)) (hw _ (List.mem_of_getElem? (i := 27) rfl)) (hw _ (List.mem_of_getElem? (i := 28) rfl)) e0 (g := (mkF m 77 #[.val (.long q0), .second, .val (.long q2), .second, .val (.int p4), .val (.long q5), .second, .val (.int (b2i b1)), .val (.int (b2i b2)), .val .null, .val (.long (0 : Int64)), .second, .unset, .unset] [])) rfl (hb hby at_77) (by decide) (by decide)
        obtain ⟨b190, g190⟩ : ∃ z, z = h0.size := ⟨_, rfl⟩
        have g_b190 : n0 ≤ b190 := Nat.le_trans Z0 (Nat.le_of_eq g190.symm)
        have sz_b190 : h0.size ≤ b190 := Nat.le_trans K0.1 (Nat.le_of_eq g190.symm)
        rw [← g190] at A190 D190 st190
        have K190 : Keep h0 h190 [] := K0.ext E190
        have F_transaction_b190 : Fld Z h190 b190 "com/example/stackledger/stackledger/Cleanup$Chosen" "transaction" "J" (.long (0 : Int64)) := D190 (Or.inr (hw _ (List.mem_of_getElem? (i := 40) rfl))) (ty := .long) (by decide)
        have F_patron_b190 : Fld Z h190 b190 "com/example/stackledger/stackledger/Cleanup$Chosen" "patron" "J" (.long (0 : Int64)) := D190 (Or.inr (hw _ (List.mem_of_getElem? (i := 42) rfl))) (ty := .long) (by decide)
        have F_org_b190 : Fld Z h190 b190 "com/example/stackledger/stackledger/Cleanup$Chosen" "org" "Ljava/lang/String;" .null := D190 (Or.inr (hw _ (List.mem_of_getElem? (i := 44) rfl))) (ty := (.object "java/lang/String")) (by decide)
        have F_startedAt_b190 : Fld Z h190 b190 "com/example/stackledger/stackledger/Cleanup$Chosen" "startedAt" "J" (.long (0 : Int64)) := D190 (Or.inr (hw _ (List.mem_of_getElem? (i := 46) rfl))) (ty := .long) (by decide)
        have F_finished_b190 : Fld Z h190 b190 "com/example/stackledger/stackledger/Cleanup$Chosen" "finished" "Z" (.int (0 : Int32)) := D190 (Or.inr (hw _ (List.mem_of_getElem? (i := 48) rfl))) (ty := .boolean) (by decide)
        have F_totalPaidCents_b190 : Fld Z h190 b190 "com/example/stackledger/stackledger/Cleanup$Chosen" "totalPaidCents" "J" (.long (0 : Int64)) := D190 (Or.inr (hw _ (List.mem_of_getElem? (i := 50) rfl))) (ty := .long) (by decide)
        have F_balanceCents_b190 : Fld Z h190 b190 "com/example/stackledger/stackledger/Cleanup$Chosen" "balanceCents" "J" (.long (0 : Int64)) := D190 (Or.inr (hw _ (List.mem_of_getElem? (i := 52) rfl))) (ty := .long) (by decide)
        have F_lost_b190 : Fld Z h190 b190 "com/example/stackledger/stackledger/Cleanup$Chosen" "lost" "Z" (.int (0 : Int32)) := D190 (Or.inr (hw _ (List.mem_of_getElem? (i := 54) rfl))) (ty := .boolean) (by decide)
        have z192 : n0 ≤ h190.size := (Nat.le_trans Z0 E190.1)
        obtain ⟨v191, T191, L191, X191, q191, st191⟩ := own_callI X190 hx hZ (y := (⟨"com/example/stackledger/stackledger/Cleanup$Chosen", "<init>", "(JJLjava/lang/String;JZJJZ)V"⟩ : MethodName)) rfl hown (hw _ (List.mem_of_getElem? (i := 30) rfl)) (hw _ (List.mem_of_getElem? (i := 31) rfl)) (hw _ (List.mem_of_getElem? (i := 28) rfl)) (hw _ (List.mem_of_getElem? (i := 32) rfl)) (by decide) (a := b190) (hM := (rm6n l Z a0 hw [] b190 q5 (q5 ^^^ (-1 : Int64)) (q5 ^^^ q0) (0 : Int64) q2 b2 b1 h190 n0 z192 g_b190 A190 F_transaction_b190 F_patron_b190 F_org_b190 F_startedAt_b190 F_finished_b190 F_totalPaidCents_b190 F_balanceCents_b190 F_lost_b190)) (by decide) (by decide) (by decide) (by decide) e190 (argsL := [(.long q5), (.long (q5 ^^^ (-1 : Int64))), .null, (.long (q5 ^^^ q0)), (.int (b2i b2)), (.long (0 : Int64)), (.long q2), (.int (b2i b1))]) (rest := [(.ref b190)]) (Ls := #[.val (.long q0), .second, .val (.long q2), .second, .val (.int p4), .val (.long q5), .second, .val (.int (b2i b1)), .val (.int (b2i b2)), .val .null, .val (.long (0 : Int64)), .second, .unset, .unset]) (by rw [hml]; rfl) (lenOf pd__JJLjava_lang_String_JZJJZ_V rfl) (W := 1) (Nat.le_of_eq rfl) (hb hby at_102)
        obtain ⟨rfl, N191q, K191q, E191q, P191q, B191q, O191q⟩ := q191
        have N191 := Fr.app N0 N191q
        have K191 : Keep h0 T191.heap [] := K190.trans K191q (allS (Or.inr sz_b190) all0)
        refine Gl.pre (S' := T191.setTop (mkF m 109 #[.val (.long q0), .second, .val (.long q2), .second, .val (.int p4), .val (.long q5), .second, .val (.int (b2i b1)), .val (.int (b2i b2)), .val .null, .val (.long (0 : Int64)), .second, .val (.ref b190), .unset] [(.int (b2i b1))])) (fun t kt => ?_) ?_
        · show Steps p.tables e below (s₁.setTop (mkF m 67 #[.val (.long q0), .second, .val (.long q2), .second, .val (.int p4), .val (.long q5), .second, .val (.int (b2i b1)), .val (.int (b2i b2)), .val .null, .unset, .unset, .unset, .unset] [(.int (p4 &&& (8 : Int32)))])) _
          refine XS.ifNo X0.here hx rfl (hb hby at_67) rfl (own_f (i0_eq _) hc67) ?_
          show Steps p.tables e below (s₁.setTop (mkF m 70 #[.val (.long q0), .second, .val (.long q2), .second, .val (.int p4), .val (.long q5), .second, .val (.int (b2i b1)), .val (.int (b2i b2)), .val .null, .unset, .unset, .unset, .unset] [])) _
          refine XS.lconst X0.here hx rfl (hb hby at_70) ?_
          show Steps p.tables e below (s₁.setTop (mkF m 71 #[.val (.long q0), .second, .val (.long q2), .second, .val (.int p4), .val (.long q5), .second, .val (.int (b2i b1)), .val (.int (b2i b2)), .val .null, .unset, .unset, .unset, .unset] [(.long (0 : Int64))])) _
          refine XS.goto X0.here hx rfl (pc0 := 71) (pc' := 75) rfl (hb hby at_71) (by decide) (by decide) ?_
          show Steps p.tables e below (s₁.setTop (mkF m 75 #[.val (.long q0), .second, .val (.long q2), .second, .val (.int p4), .val (.long q5), .second, .val (.int (b2i b1)), .val (.int (b2i b2)), .val .null, .unset, .unset, .unset, .unset] [(.long (0 : Int64))])) _
          refine XS.lstore X0.here hx rfl (hb hby at_75) rfl (l' := #[.val (.long q0), .second, .val (.long q2), .second, .val (.int p4), .val (.long q5), .second, .val (.int (b2i b1)), .val (.int (b2i b2)), .val .null, .val (.long (0 : Int64)), .second, .unset, .unset]) rfl ?_
          show Steps p.tables e below (s₁.setTop (mkF m 77 #[.val (.long q0), .second, .val (.long q2), .second, .val (.int p4), .val (.long q5), .second, .val (.int (b2i b1)), .val (.int (b2i b2)), .val .null, .val (.long (0 : Int64)), .second, .unset, .unset] [])) _
          refine st190 _ ?_
          show Steps p.tables e below (T190.setTop (mkF m 80 #[.val (.long q0), .second, .val (.long q2), .second, .val (.int p4), .val (.long q5), .second, .val (.int (b2i b1)), .val (.int (b2i b2)), .val .null, .val (.long (0 : Int64)), .second, .unset, .unset] [(.ref b190)])) _
          refine XS.dup X190.here hx rfl (hb hby at_80) rfl rfl ?_
          show Steps p.tables e below (T190.setTop (mkF m 81 #[.val (.long q0), .second, .val (.long q2), .second, .val (.int p4), .val (.long q5), .second, .val (.int (b2i b1)), .val (.int (b2i b2)), .val .null, .val (.long (0 : Int64)), .second, .unset, .unset] [(.ref b190), (.ref b190)])) _
          refine XS.lload X190.here hx rfl (hb hby at_81) rfl ?_
          show Steps p.tables e below (T190.setTop (mkF m 83 #[.val (.long q0), .second, .val (.long q2), .second, .val (.int p4), .val (.long q5), .second, .val (.int (b2i b1)), .val (.int (b2i b2)), .val .null, .val (.long (0 : Int64)), .second, .unset, .unset] [(.long q5), (.ref b190), (.ref b190)])) _
          refine XS.lload X190.here hx rfl (hb hby at_83) rfl ?_
          show Steps p.tables e below (T190.setTop (mkF m 85 #[.val (.long q0), .second, .val (.long q2), .second, .val (.int p4), .val (.long q5), .second, .val (.int (b2i b1)), .val (.int (b2i b2)), .val .null, .val (.long (0 : Int64)), .second, .unset, .unset] [(.long q5), (.long q5), (.ref b190), (.ref b190)])) _
          refine X190.ldc2Long hx hown (mvT hZ (hw _ (List.mem_of_getElem? (i := 29) rfl))) (g := (mkF m 85 #[.val (.long q0), .second, .val (.long q2), .second, .val (.int p4), .val (.long q5), .second, .val (.int (b2i b1)), .val (.int (b2i b2)), .val .null, .val (.long (0 : Int64)), .second, .unset, .unset] [(.long q5), (.long q5), (.ref b190), (.ref b190)])) rfl (hb hby at_85) _ ?_
          show Steps p.tables e below (T190.setTop (mkF m 88 #[.val (.long q0), .second, .val (.long q2), .second, .val (.int p4), .val (.long q5), .second, .val (.int (b2i b1)), .val (.int (b2i b2)), .val .null, .val (.long (0 : Int64)), .second, .unset, .unset] [(.long (-1 : Int64)), (.long q5), (.long q5), (.ref b190), (.ref b190)])) _
          refine XS.lxor X190.here hx rfl (hb hby at_88) rfl ?_
          show Steps p.tables e below (T190.setTop (mkF m 89 #[.val (.long q0), .second, .val (.long q2), .second, .val (.int p4), .val (.long q5), .second, .val (.int (b2i b1)), .val (.int (b2i b2)), .val .null, .val (.long (0 : Int64)), .second, .unset, .unset] [(.long (q5 ^^^ (-1 : Int64))), (.long q5), (.ref b190), (.ref b190)])) _
          refine XS.aload X190.here hx rfl (hb hby at_89) rfl rfl ?_
          show Steps p.tables e below (T190.setTop (mkF m 91 #[.val (.long q0), .second, .val (.long q2), .second, .val (.int p4), .val (.long q5), .second, .val (.int (b2i b1)), .val (.int (b2i b2)), .val .null, .val (.long (0 : Int64)), .second, .unset, .unset] [.null, (.long (q5 ^^^ (-1 : Int64))), (.long q5), (.ref b190), (.ref b190)])) _
          refine XS.lload X190.here hx rfl (hb hby at_91) rfl ?_
          show Steps p.tables e below (T190.setTop (mkF m 93 #[.val (.long q0), .second, .val (.long q2), .second, .val (.int p4), .val (.long q5), .second, .val (.int (b2i b1)), .val (.int (b2i b2)), .val .null, .val (.long (0 : Int64)), .second, .unset, .unset] [(.long q5), .null, (.long (q5 ^^^ (-1 : Int64))), (.long q5), (.ref b190), (.ref b190)])) _
          refine XS.lloadN X190.here hx rfl (hb hby at_93) rfl ?_
          show Steps p.tables e below (T190.setTop (mkF m 94 #[.val (.long q0), .second, .val (.long q2), .second, .val (.int p4), .val (.long q5), .second, .val (.int (b2i b1)), .val (.int (b2i b2)), .val .null, .val (.long (0 : Int64)), .second, .unset, .unset] [(.long q0), (.long q5), .null, (.long (q5 ^^^ (-1 : Int64))), (.long q5), (.ref b190), (.ref b190)])) _
          refine XS.lxor X190.here hx rfl (hb hby at_94) rfl ?_
          show Steps p.tables e below (T190.setTop (mkF m 95 #[.val (.long q0), .second, .val (.long q2), .second, .val (.int p4), .val (.long q5), .second, .val (.int (b2i b1)), .val (.int (b2i b2)), .val .null, .val (.long (0 : Int64)), .second, .unset, .unset] [(.long (q5 ^^^ q0)), .null, (.long (q5 ^^^ (-1 : Int64))), (.long q5), (.ref b190), (.ref b190)])) _
          refine XS.iload X190.here hx rfl (hb hby at_95) rfl ?_
          show Steps p.tables e below (T190.setTop (mkF m 97 #[.val (.long q0), .second, .val (.long q2), .second, .val (.int p4), .val (.long q5), .second, .val (.int (b2i b1)), .val (.int (b2i b2)), .val .null, .val (.long (0 : Int64)), .second, .unset, .unset] [(.int (b2i b2)), (.long (q5 ^^^ q0)), .null, (.long (q5 ^^^ (-1 : Int64))), (.long q5), (.ref b190), (.ref b190)])) _
          refine XS.lload X190.here hx rfl (hb hby at_97) rfl ?_
          show Steps p.tables e below (T190.setTop (mkF m 99 #[.val (.long q0), .second, .val (.long q2), .second, .val (.int p4), .val (.long q5), .second, .val (.int (b2i b1)), .val (.int (b2i b2)), .val .null, .val (.long (0 : Int64)), .second, .unset, .unset] [(.long (0 : Int64)), (.int (b2i b2)), (.long (q5 ^^^ q0)), .null, (.long (q5 ^^^ (-1 : Int64))), (.long q5), (.ref b190), (.ref b190)])) _
          refine XS.lloadN X190.here hx rfl (hb hby at_99) rfl ?_
          show Steps p.tables e below (T190.setTop (mkF m 100 #[.val (.long q0), .second, .val (.long q2), .second, .val (.int p4), .val (.long q5), .second, .val (.int (b2i b1)), .val (.int (b2i b2)), .val .null, .val (.long (0 : Int64)), .second, .unset, .unset] [(.long q2), (.long (0 : Int64)), (.int (b2i b2)), (.long (q5 ^^^ q0)), .null, (.long (q5 ^^^ (-1 : Int64))), (.long q5), (.ref b190), (.ref b190)])) _
          refine XS.iload X190.here hx rfl (hb hby at_100) rfl ?_
          show Steps p.tables e below (T190.setTop (mkF m 102 #[.val (.long q0), .second, .val (.long q2), .second, .val (.int p4), .val (.long q5), .second, .val (.int (b2i b1)), .val (.int (b2i b2)), .val .null, .val (.long (0 : Int64)), .second, .unset, .unset] [(.int (b2i b1)), (.long q2), (.long (0 : Int64)), (.int (b2i b2)), (.long (q5 ^^^ q0)), .null, (.long (q5 ^^^ (-1 : Int64))), (.long q5), (.ref b190), (.ref b190)])) _
          refine st191 _ ?_
          show Steps p.tables e below (T191.setTop (mkF m 105 #[.val (.long q0), .second, .val (.long q2), .second, .val (.int p4), .val (.long q5), .second, .val (.int (b2i b1)), .val (.int (b2i b2)), .val .null, .val (.long (0 : Int64)), .second, .unset, .unset] [(.ref b190)])) _
          refine XS.astore X191.here hx rfl (hb hby at_105) rfl rfl (l' := #[.val (.long q0), .second, .val (.long q2), .second, .val (.int p4), .val (.long q5), .second, .val (.int (b2i b1)), .val (.int (b2i b2)), .val .null, .val (.long (0 : Int64)), .second, .val (.ref b190), .unset]) rfl ?_
          show Steps p.tables e below (T191.setTop (mkF m 107 #[.val (.long q0), .second, .val (.long q2), .second, .val (.int p4), .val (.long q5), .second, .val (.int (b2i b1)), .val (.int (b2i b2)), .val .null, .val (.long (0 : Int64)), .second, .val (.ref b190), .unset] [])) _
          refine XS.iload X191.here hx rfl (hb hby at_107) rfl ?_
          exact kt
        by_cases hc109 : b1 = true
        · have f193 := (own_sta_keep (S_sk.ext E190) K191q (allS ⟨_, A190⟩ all0))
          obtain ⟨T194, X194, e194, st194⟩ := getS2 X191 hx hZ hown (host := "") (Or.inl (hw _ (List.mem_of_getElem? (i := 64) rfl))) Via.refl rfl f193 (g := (mkF m 112 #[.val (.long q0), .second, .val (.long q2), .second, .val (.int p4), .val (.long q5), .second, .val (.int (b2i b1)), .val (.int (b2i b2)), .val .null, .val (.long (0 : Int64)), .second, .val (.ref b190), .unset] [])) rfl (hb hby at_112)
          have f196 := (own_sta_keep (S_ov.ext E190) K191q (allS ⟨_, A190⟩ all0))
          have f197 := (own_sta_keep (S_vo.ext E190) K191q (allS ⟨_, A190⟩ all0))
          have f198 := (own_sta_keep (S_fo.ext E190) K191q (allS ⟨_, A190⟩ all0))
          have z199 : n0 ≤ T191.heap.size := (Nat.le_trans z192 K191q.1)
          obtain ⟨v195, T195, L195, X195, q195, st195⟩ := own_callV X194 hx hZ (y := (⟨"com/example/stackledger/stackledger/Cleanup$Chosen", "action", "()Lcom/example/stackledger/stackledger/Cleanup$Action;"⟩ : MethodName)) (z := (⟨"com/example/stackledger/stackledger/Cleanup$Chosen", "action", "()Lcom/example/stackledger/stackledger/Cleanup$Action;"⟩ : MethodName)) hown (hw _ (List.mem_of_getElem? (i := 58) rfl)) (hw _ (List.mem_of_getElem? (i := 59) rfl)) (notFace_of_selects (args := #[]) (mvT hZ (hw _ (List.mem_of_getElem? (i := 61) rfl)))) (hw _ (List.mem_of_getElem? (i := 61) rfl)) (hw _ (List.mem_of_getElem? (i := 60) rfl)) (hw _ (List.mem_of_getElem? (i := 28) rfl)) (hw _ (List.mem_of_getElem? (i := 62) rfl)) (by decide) E191q (hM := (rm8 l Z a0 hw [] b190 b1 q2 (0 : Int64) sk ov vo fo T191.heap n0 z199 O191q B191q P191q f193 f196 f197 f198)) (by decide) (by decide) (by decide) (by decide) e194 (argsL := []) (rest := []) (Ls := #[.val (.long q0), .second, .val (.long q2), .second, .val (.int p4), .val (.long q5), .second, .val (.int (b2i b1)), .val (.int (b2i b2)), .val .null, .val (.long (0 : Int64)), .second, .val (.ref b190), .val (.ref sk)]) (by rw [hml]; rfl) (lenOf pd___Lcom_example_stackledger_stackledger_Cleanup_Action_ rfl) (W := 0) (Nat.le_of_eq rfl) (hb hby at_156)
          obtain ⟨rfl, N195q, e195⟩ := q195
          have N195 := Fr.app N191 N195q
          refine Gl.fin X195 (v := some (.int (1 : Int32))) (fun h => by rw [Bd.returns] at h; cases h) Bd.notSynchronized ?_ e195 (by decide) (by decide) (fun fs hr => ?_)
          · exact ⟨rfl, N195⟩
          · show Steps p.tables e below (T191.setTop (mkF m 109 #[.val (.long q0), .second, .val (.long q2), .second, .val (.int p4), .val (.long q5), .second, .val (.int (b2i b1)), .val (.int (b2i b2)), .val .null, .val (.long (0 : Int64)), .second, .val (.ref b190), .unset] [(.int (b2i b1))])) _
            refine XS.ifNo X191.here hx rfl (hb hby at_109) rfl (own_nbf (b0_eq _) hc109) ?_
            show Steps p.tables e below (T191.setTop (mkF m 112 #[.val (.long q0), .second, .val (.long q2), .second, .val (.int p4), .val (.long q5), .second, .val (.int (b2i b1)), .val (.int (b2i b2)), .val .null, .val (.long (0 : Int64)), .second, .val (.ref b190), .unset] [])) _
            refine st194 _ ?_
            show Steps p.tables e below (T194.setTop (mkF m 115 #[.val (.long q0), .second, .val (.long q2), .second, .val (.int p4), .val (.long q5), .second, .val (.int (b2i b1)), .val (.int (b2i b2)), .val .null, .val (.long (0 : Int64)), .second, .val (.ref b190), .unset] [(.ref sk)])) _
            refine XS.astore X194.here hx rfl (hb hby at_115) rfl rfl (l' := #[.val (.long q0), .second, .val (.long q2), .second, .val (.int p4), .val (.long q5), .second, .val (.int (b2i b1)), .val (.int (b2i b2)), .val .null, .val (.long (0 : Int64)), .second, .val (.ref b190), .val (.ref sk)]) rfl ?_
            show Steps p.tables e below (T194.setTop (mkF m 117 #[.val (.long q0), .second, .val (.long q2), .second, .val (.int p4), .val (.long q5), .second, .val (.int (b2i b1)), .val (.int (b2i b2)), .val .null, .val (.long (0 : Int64)), .second, .val (.ref b190), .val (.ref sk)] [])) _
            refine XS.goto X194.here hx rfl (pc0 := 117) (pc' := 154) rfl (hb hby at_117) (by decide) (by decide) ?_
            show Steps p.tables e below (T194.setTop (mkF m 154 #[.val (.long q0), .second, .val (.long q2), .second, .val (.int p4), .val (.long q5), .second, .val (.int (b2i b1)), .val (.int (b2i b2)), .val .null, .val (.long (0 : Int64)), .second, .val (.ref b190), .val (.ref sk)] [])) _
            refine XS.aload X194.here hx rfl (hb hby at_154) rfl rfl ?_
            show Steps p.tables e below (T194.setTop (mkF m 156 #[.val (.long q0), .second, .val (.long q2), .second, .val (.int p4), .val (.long q5), .second, .val (.int (b2i b1)), .val (.int (b2i b2)), .val .null, .val (.long (0 : Int64)), .second, .val (.ref b190), .val (.ref sk)] [(.ref b190)])) _
            refine st195 _ ?_
            show Steps p.tables e below (T195.setTop (mkF m 159 #[.val (.long q0), .second, .val (.long q2), .second, .val (.int p4), .val (.long q5), .second, .val (.int (b2i b1)), .val (.int (b2i b2)), .val .null, .val (.long (0 : Int64)), .second, .val (.ref b190), .val (.ref sk)] [(.ref (if b1 = true then sk else if q2 < (0 : Int64) then ov else if (0 : Int64) = (0 : Int64) then vo else fo))])) _
            refine XS.aload X195.here hx rfl (hb hby at_159) rfl rfl ?_
            show Steps p.tables e below (T195.setTop (mkF m 161 #[.val (.long q0), .second, .val (.long q2), .second, .val (.int p4), .val (.long q5), .second, .val (.int (b2i b1)), .val (.int (b2i b2)), .val .null, .val (.long (0 : Int64)), .second, .val (.ref b190), .val (.ref sk)] [(.ref sk), (.ref (if b1 = true then sk else if q2 < (0 : Int64) then ov else if (0 : Int64) = (0 : Int64) then vo else fo))])) _
            refine Jvm.RoadKit.acmp (g := (mkF m 161 #[.val (.long q0), .second, .val (.long q2), .second, .val (.int p4), .val (.long q5), .second, .val (.int (b2i b1)), .val (.int (b2i b2)), .val .null, .val (.long (0 : Int64)), .second, .val (.ref b190), .val (.ref sk)] [(.ref sk), (.ref (if b1 = true then sk else if q2 < (0 : Int64) then ov else if (0 : Int64) = (0 : Int64) then vo else fo))])) X195 hx rfl rfl rfl (pc0 := 161) (pc' := 164) (same := true) rfl (hb hby at_161) rfl (decide_eq_true (congrArg Value.ref (by simp [hc109]))) (by decide) (by decide) ?_
            show Steps p.tables e below (T195.setTop (mkF m 164 #[.val (.long q0), .second, .val (.long q2), .second, .val (.int p4), .val (.long q5), .second, .val (.int (b2i b1)), .val (.int (b2i b2)), .val .null, .val (.long (0 : Int64)), .second, .val (.ref b190), .val (.ref sk)] [])) _
            refine XS.iconst X195.here hx rfl (hb hby at_164) ?_
            show Steps p.tables e below (T195.setTop (mkF m 165 #[.val (.long q0), .second, .val (.long q2), .second, .val (.int p4), .val (.long q5), .second, .val (.int (b2i b1)), .val (.int (b2i b2)), .val .null, .val (.long (0 : Int64)), .second, .val (.ref b190), .val (.ref sk)] [(.int (1 : Int32))])) _
            refine XS.goto X195.here hx rfl (pc0 := 165) (pc' := 169) rfl (hb hby at_165) (by decide) (by decide) ?_
            show Steps p.tables e below (T195.setTop (mkF m 169 #[.val (.long q0), .second, .val (.long q2), .second, .val (.int p4), .val (.long q5), .second, .val (.int (b2i b1)), .val (.int (b2i b2)), .val .null, .val (.long (0 : Int64)), .second, .val (.ref b190), .val (.ref sk)] [(.int (1 : Int32))])) _
            exact retN X195 hx (t := .boolean) Bd.returns (by simp) (hb hby at_169) hr
        · refine Gl.pre (S' := T191.setTop (mkF m 123 #[.val (.long q0), .second, .val (.long q2), .second, .val (.int p4), .val (.long q5), .second, .val (.int (b2i b1)), .val (.int (b2i b2)), .val .null, .val (.long (0 : Int64)), .second, .val (.ref b190), .unset] [(.int (lcmpW q2 (0 : Int64)))])) (fun t kt => ?_) ?_
          · show Steps p.tables e below (T191.setTop (mkF m 109 #[.val (.long q0), .second, .val (.long q2), .second, .val (.int p4), .val (.long q5), .second, .val (.int (b2i b1)), .val (.int (b2i b2)), .val .null, .val (.long (0 : Int64)), .second, .val (.ref b190), .unset] [(.int (b2i b1))])) _
            refine XS.ifYes X191.here hx rfl (pc0 := 109) (pc' := 120) rfl (hb hby at_109) rfl (own_nbt (b0_eq _) (Bool.eq_false_iff.mpr hc109)) (by decide) (by decide) ?_
            show Steps p.tables e below (T191.setTop (mkF m 120 #[.val (.long q0), .second, .val (.long q2), .second, .val (.int p4), .val (.long q5), .second, .val (.int (b2i b1)), .val (.int (b2i b2)), .val .null, .val (.long (0 : Int64)), .second, .val (.ref b190), .unset] [])) _
            refine XS.lloadN X191.here hx rfl (hb hby at_120) rfl ?_
            show Steps p.tables e below (T191.setTop (mkF m 121 #[.val (.long q0), .second, .val (.long q2), .second, .val (.int p4), .val (.long q5), .second, .val (.int (b2i b1)), .val (.int (b2i b2)), .val .null, .val (.long (0 : Int64)), .second, .val (.ref b190), .unset] [(.long q2)])) _
            refine XS.lconst X191.here hx rfl (hb hby at_121) ?_
            show Steps p.tables e below (T191.setTop (mkF m 122 #[.val (.long q0), .second, .val (.long q2), .second, .val (.int p4), .val (.long q5), .second, .val (.int (b2i b1)), .val (.int (b2i b2)), .val .null, .val (.long (0 : Int64)), .second, .val (.ref b190), .unset] [(.long (0 : Int64)), (.long q2)])) _
            refine XS.lcmp X191.here hx rfl (hb hby at_122) rfl ?_
            exact kt
          by_cases hc123 : (0 : Int64) < q2
          · have f200 := (own_sta_keep (S_vo.ext E190) K191q (allS ⟨_, A190⟩ all0))
            obtain ⟨T201, X201, e201, st201⟩ := getS2 X191 hx hZ hown (host := "") (Or.inl (hw _ (List.mem_of_getElem? (i := 70) rfl))) Via.refl rfl f200 (g := (mkF m 133 #[.val (.long q0), .second, .val (.long q2), .second, .val (.int p4), .val (.long q5), .second, .val (.int (b2i b1)), .val (.int (b2i b2)), .val .null, .val (.long (0 : Int64)), .second, .val (.ref b190), .unset] [])) rfl (hb hby at_133)
            have f203 := (own_sta_keep (S_sk.ext E190) K191q (allS ⟨_, A190⟩ all0))
            have f204 := (own_sta_keep (S_ov.ext E190) K191q (allS ⟨_, A190⟩ all0))
            have f205 := (own_sta_keep (S_fo.ext E190) K191q (allS ⟨_, A190⟩ all0))
            have z206 : n0 ≤ T191.heap.size := (Nat.le_trans z192 K191q.1)
            obtain ⟨v202, T202, L202, X202, q202, st202⟩ := own_callV X201 hx hZ (y := (⟨"com/example/stackledger/stackledger/Cleanup$Chosen", "action", "()Lcom/example/stackledger/stackledger/Cleanup$Action;"⟩ : MethodName)) (z := (⟨"com/example/stackledger/stackledger/Cleanup$Chosen", "action", "()Lcom/example/stackledger/stackledger/Cleanup$Action;"⟩ : MethodName)) hown (hw _ (List.mem_of_getElem? (i := 58) rfl)) (hw _ (List.mem_of_getElem? (i := 59) rfl)) (notFace_of_selects (args := #[]) (mvT hZ (hw _ (List.mem_of_getElem? (i := 61) rfl)))) (hw _ (List.mem_of_getElem? (i := 61) rfl)) (hw _ (List.mem_of_getElem? (i := 60) rfl)) (hw _ (List.mem_of_getElem? (i := 28) rfl)) (hw _ (List.mem_of_getElem? (i := 62) rfl)) (by decide) E191q (hM := (rm8 l Z a0 hw [] b190 b1 q2 (0 : Int64) sk ov vo fo T191.heap n0 z206 O191q B191q P191q f203 f204 f200 f205)) (by decide) (by decide) (by decide) (by decide) e201 (argsL := []) (rest := []) (Ls := #[.val (.long q0), .second, .val (.long q2), .second, .val (.int p4), .val (.long q5), .second, .val (.int (b2i b1)), .val (.int (b2i b2)), .val .null, .val (.long (0 : Int64)), .second, .val (.ref b190), .val (.ref vo)]) (by rw [hml]; rfl) (lenOf pd___Lcom_example_stackledger_stackledger_Cleanup_Action_ rfl) (W := 0) (Nat.le_of_eq rfl) (hb hby at_156)
            obtain ⟨rfl, N202q, e202⟩ := q202
            have N202 := Fr.app N191 N202q
            refine Gl.fin X202 (v := some (.int (1 : Int32))) (fun h => by rw [Bd.returns] at h; cases h) Bd.notSynchronized ?_ e202 (by decide) (by decide) (fun fs hr => ?_)
            · exact ⟨rfl, N202⟩
            · show Steps p.tables e below (T191.setTop (mkF m 123 #[.val (.long q0), .second, .val (.long q2), .second, .val (.int p4), .val (.long q5), .second, .val (.int (b2i b1)), .val (.int (b2i b2)), .val .null, .val (.long (0 : Int64)), .second, .val (.ref b190), .unset] [(.int (lcmpW q2 (0 : Int64)))])) _
              refine XS.ifNo X191.here hx rfl (hb hby at_123) rfl (own_nf (l0_le _ _) hc123) ?_
              show Steps p.tables e below (T191.setTop (mkF m 126 #[.val (.long q0), .second, .val (.long q2), .second, .val (.int p4), .val (.long q5), .second, .val (.int (b2i b1)), .val (.int (b2i b2)), .val .null, .val (.long (0 : Int64)), .second, .val (.ref b190), .unset] [])) _
              refine XS.lload X191.here hx rfl (hb hby at_126) rfl ?_
              show Steps p.tables e below (T191.setTop (mkF m 128 #[.val (.long q0), .second, .val (.long q2), .second, .val (.int p4), .val (.long q5), .second, .val (.int (b2i b1)), .val (.int (b2i b2)), .val .null, .val (.long (0 : Int64)), .second, .val (.ref b190), .unset] [(.long (0 : Int64))])) _
              refine XS.lconst X191.here hx rfl (hb hby at_128) ?_
              show Steps p.tables e below (T191.setTop (mkF m 129 #[.val (.long q0), .second, .val (.long q2), .second, .val (.int p4), .val (.long q5), .second, .val (.int (b2i b1)), .val (.int (b2i b2)), .val .null, .val (.long (0 : Int64)), .second, .val (.ref b190), .unset] [(.long (0 : Int64)), (.long (0 : Int64))])) _
              refine XS.lcmp X191.here hx rfl (hb hby at_129) rfl ?_
              show Steps p.tables e below (T191.setTop (mkF m 130 #[.val (.long q0), .second, .val (.long q2), .second, .val (.int p4), .val (.long q5), .second, .val (.int (b2i b1)), .val (.int (b2i b2)), .val .null, .val (.long (0 : Int64)), .second, .val (.ref b190), .unset] [(.int (lcmpW (0 : Int64) (0 : Int64)))])) _
              refine XS.ifNo X191.here hx rfl (hb hby at_130) rfl (own_nf (l0_ne _ _) (by decide)) ?_
              show Steps p.tables e below (T191.setTop (mkF m 133 #[.val (.long q0), .second, .val (.long q2), .second, .val (.int p4), .val (.long q5), .second, .val (.int (b2i b1)), .val (.int (b2i b2)), .val .null, .val (.long (0 : Int64)), .second, .val (.ref b190), .unset] [])) _
              refine st201 _ ?_
              show Steps p.tables e below (T201.setTop (mkF m 136 #[.val (.long q0), .second, .val (.long q2), .second, .val (.int p4), .val (.long q5), .second, .val (.int (b2i b1)), .val (.int (b2i b2)), .val .null, .val (.long (0 : Int64)), .second, .val (.ref b190), .unset] [(.ref vo)])) _
              refine XS.astore X201.here hx rfl (hb hby at_136) rfl rfl (l' := #[.val (.long q0), .second, .val (.long q2), .second, .val (.int p4), .val (.long q5), .second, .val (.int (b2i b1)), .val (.int (b2i b2)), .val .null, .val (.long (0 : Int64)), .second, .val (.ref b190), .val (.ref vo)]) rfl ?_
              show Steps p.tables e below (T201.setTop (mkF m 138 #[.val (.long q0), .second, .val (.long q2), .second, .val (.int p4), .val (.long q5), .second, .val (.int (b2i b1)), .val (.int (b2i b2)), .val .null, .val (.long (0 : Int64)), .second, .val (.ref b190), .val (.ref vo)] [])) _
              refine XS.goto X201.here hx rfl (pc0 := 138) (pc' := 154) rfl (hb hby at_138) (by decide) (by decide) ?_
              show Steps p.tables e below (T201.setTop (mkF m 154 #[.val (.long q0), .second, .val (.long q2), .second, .val (.int p4), .val (.long q5), .second, .val (.int (b2i b1)), .val (.int (b2i b2)), .val .null, .val (.long (0 : Int64)), .second, .val (.ref b190), .val (.ref vo)] [])) _
              refine XS.aload X201.here hx rfl (hb hby at_154) rfl rfl ?_
              show Steps p.tables e below (T201.setTop (mkF m 156 #[.val (.long q0), .second, .val (.long q2), .second, .val (.int p4), .val (.long q5), .second, .val (.int (b2i b1)), .val (.int (b2i b2)), .val .null, .val (.long (0 : Int64)), .second, .val (.ref b190), .val (.ref vo)] [(.ref b190)])) _
              refine st202 _ ?_
              show Steps p.tables e below (T202.setTop (mkF m 159 #[.val (.long q0), .second, .val (.long q2), .second, .val (.int p4), .val (.long q5), .second, .val (.int (b2i b1)), .val (.int (b2i b2)), .val .null, .val (.long (0 : Int64)), .second, .val (.ref b190), .val (.ref vo)] [(.ref (if b1 = true then sk else if q2 < (0 : Int64) then ov else if (0 : Int64) = (0 : Int64) then vo else fo))])) _
              refine XS.aload X202.here hx rfl (hb hby at_159) rfl rfl ?_
              show Steps p.tables e below (T202.setTop (mkF m 161 #[.val (.long q0), .second, .val (.long q2), .second, .val (.int p4), .val (.long q5), .second, .val (.int (b2i b1)), .val (.int (b2i b2)), .val .null, .val (.long (0 : Int64)), .second, .val (.ref b190), .val (.ref vo)] [(.ref vo), (.ref (if b1 = true then sk else if q2 < (0 : Int64) then ov else if (0 : Int64) = (0 : Int64) then vo else fo))])) _
              refine Jvm.RoadKit.acmp (g := (mkF m 161 #[.val (.long q0), .second, .val (.long q2), .second, .val (.int p4), .val (.long q5), .second, .val (.int (b2i b1)), .val (.int (b2i b2)), .val .null, .val (.long (0 : Int64)), .second, .val (.ref b190), .val (.ref vo)] [(.ref vo), (.ref (if b1 = true then sk else if q2 < (0 : Int64) then ov else if (0 : Int64) = (0 : Int64) then vo else fo))])) X202 hx rfl rfl rfl (pc0 := 161) (pc' := 164) (same := true) rfl (hb hby at_161) rfl (decide_eq_true (congrArg Value.ref (by simp [hc109, own_nlt hc123]))) (by decide) (by decide) ?_
              show Steps p.tables e below (T202.setTop (mkF m 164 #[.val (.long q0), .second, .val (.long q2), .second, .val (.int p4), .val (.long q5), .second, .val (.int (b2i b1)), .val (.int (b2i b2)), .val .null, .val (.long (0 : Int64)), .second, .val (.ref b190), .val (.ref vo)] [])) _
              refine XS.iconst X202.here hx rfl (hb hby at_164) ?_
              show Steps p.tables e below (T202.setTop (mkF m 165 #[.val (.long q0), .second, .val (.long q2), .second, .val (.int p4), .val (.long q5), .second, .val (.int (b2i b1)), .val (.int (b2i b2)), .val .null, .val (.long (0 : Int64)), .second, .val (.ref b190), .val (.ref vo)] [(.int (1 : Int32))])) _
              refine XS.goto X202.here hx rfl (pc0 := 165) (pc' := 169) rfl (hb hby at_165) (by decide) (by decide) ?_
              show Steps p.tables e below (T202.setTop (mkF m 169 #[.val (.long q0), .second, .val (.long q2), .second, .val (.int p4), .val (.long q5), .second, .val (.int (b2i b1)), .val (.int (b2i b2)), .val .null, .val (.long (0 : Int64)), .second, .val (.ref b190), .val (.ref vo)] [(.int (1 : Int32))])) _
              exact retN X202 hx (t := .boolean) Bd.returns (by simp) (hb hby at_169) hr
          · have f207 := (own_sta_keep (S_ov.ext E190) K191q (allS ⟨_, A190⟩ all0))
            obtain ⟨T208, X208, e208, st208⟩ := getS2 X191 hx hZ hown (host := "") (Or.inl (hw _ (List.mem_of_getElem? (i := 67) rfl))) Via.refl rfl f207 (g := (mkF m 149 #[.val (.long q0), .second, .val (.long q2), .second, .val (.int p4), .val (.long q5), .second, .val (.int (b2i b1)), .val (.int (b2i b2)), .val .null, .val (.long (0 : Int64)), .second, .val (.ref b190), .unset] [])) rfl (hb hby at_149)
            have f210 := (own_sta_keep (S_sk.ext E190) K191q (allS ⟨_, A190⟩ all0))
            have f211 := (own_sta_keep (S_vo.ext E190) K191q (allS ⟨_, A190⟩ all0))
            have f212 := (own_sta_keep (S_fo.ext E190) K191q (allS ⟨_, A190⟩ all0))
            have z213 : n0 ≤ T191.heap.size := (Nat.le_trans z192 K191q.1)
            obtain ⟨v209, T209, L209, X209, q209, st209⟩ := own_callV X208 hx hZ (y := (⟨"com/example/stackledger/stackledger/Cleanup$Chosen", "action", "()Lcom/example/stackledger/stackledger/Cleanup$Action;"⟩ : MethodName)) (z := (⟨"com/example/stackledger/stackledger/Cleanup$Chosen", "action", "()Lcom/example/stackledger/stackledger/Cleanup$Action;"⟩ : MethodName)) hown (hw _ (List.mem_of_getElem? (i := 58) rfl)) (hw _ (List.mem_of_getElem? (i := 59) rfl)) (notFace_of_selects (args := #[]) (mvT hZ (hw _ (List.mem_of_getElem? (i := 61) rfl)))) (hw _ (List.mem_of_getElem? (i := 61) rfl)) (hw _ (List.mem_of_getElem? (i := 60) rfl)) (hw _ (List.mem_of_getElem? (i := 28) rfl)) (hw _ (List.mem_of_getElem? (i := 62) rfl)) (by decide) E191q (hM := (rm8 l Z a0 hw [] b190 b1 q2 (0 : Int64) sk ov vo fo T191.heap n0 z213 O191q B191q P191q f210 f207 f211 f212)) (by decide) (by decide) (by decide) (by decide) e208 (argsL := []) (rest := []) (Ls := #[.val (.long q0), .second, .val (.long q2), .second, .val (.int p4), .val (.long q5), .second, .val (.int (b2i b1)), .val (.int (b2i b2)), .val .null, .val (.long (0 : Int64)), .second, .val (.ref b190), .val (.ref ov)]) (by rw [hml]; rfl) (lenOf pd___Lcom_example_stackledger_stackledger_Cleanup_Action_ rfl) (W := 0) (Nat.le_of_eq rfl) (hb hby at_156)
            obtain ⟨rfl, N209q, e209⟩ := q209
            have N209 := Fr.app N191 N209q
            refine Gl.fin X209 (v := some (.int (1 : Int32))) (fun h => by rw [Bd.returns] at h; cases h) Bd.notSynchronized ?_ e209 (by decide) (by decide) (fun fs hr => ?_)
            · exact ⟨rfl, N209⟩
            · show Steps p.tables e below (T191.setTop (mkF m 123 #[.val (.long q0), .second, .val (.long q2), .second, .val (.int p4), .val (.long q5), .second, .val (.int (b2i b1)), .val (.int (b2i b2)), .val .null, .val (.long (0 : Int64)), .second, .val (.ref b190), .unset] [(.int (lcmpW q2 (0 : Int64)))])) _
              refine XS.ifYes X191.here hx rfl (pc0 := 123) (pc' := 149) rfl (hb hby at_123) rfl (own_nt (l0_le _ _) hc123) (by decide) (by decide) ?_
              show Steps p.tables e below (T191.setTop (mkF m 149 #[.val (.long q0), .second, .val (.long q2), .second, .val (.int p4), .val (.long q5), .second, .val (.int (b2i b1)), .val (.int (b2i b2)), .val .null, .val (.long (0 : Int64)), .second, .val (.ref b190), .unset] [])) _
              refine st208 _ ?_
              show Steps p.tables e below (T208.setTop (mkF m 152 #[.val (.long q0), .second, .val (.long q2), .second, .val (.int p4), .val (.long q5), .second, .val (.int (b2i b1)), .val (.int (b2i b2)), .val .null, .val (.long (0 : Int64)), .second, .val (.ref b190), .unset] [(.ref ov)])) _
              refine XS.astore X208.here hx rfl (hb hby at_152) rfl rfl (l' := #[.val (.long q0), .second, .val (.long q2), .second, .val (.int p4), .val (.long q5), .second, .val (.int (b2i b1)), .val (.int (b2i b2)), .val .null, .val (.long (0 : Int64)), .second, .val (.ref b190), .val (.ref ov)]) rfl ?_
              show Steps p.tables e below (T208.setTop (mkF m 154 #[.val (.long q0), .second, .val (.long q2), .second, .val (.int p4), .val (.long q5), .second, .val (.int (b2i b1)), .val (.int (b2i b2)), .val .null, .val (.long (0 : Int64)), .second, .val (.ref b190), .val (.ref ov)] [])) _
              refine XS.aload X208.here hx rfl (hb hby at_154) rfl rfl ?_
              show Steps p.tables e below (T208.setTop (mkF m 156 #[.val (.long q0), .second, .val (.long q2), .second, .val (.int p4), .val (.long q5), .second, .val (.int (b2i b1)), .val (.int (b2i b2)), .val .null, .val (.long (0 : Int64)), .second, .val (.ref b190), .val (.ref ov)] [(.ref b190)])) _
              refine st209 _ ?_
              show Steps p.tables e below (T209.setTop (mkF m 159 #[.val (.long q0), .second, .val (.long q2), .second, .val (.int p4), .val (.long q5), .second, .val (.int (b2i b1)), .val (.int (b2i b2)), .val .null, .val (.long (0 : Int64)), .second, .val (.ref b190), .val (.ref ov)] [(.ref (if b1 = true then sk else if q2 < (0 : Int64) then ov else if (0 : Int64) = (0 : Int64) then vo else fo))])) _
              refine XS.aload X209.here hx rfl (hb hby at_159) rfl rfl ?_
              show Steps p.tables e below (T209.setTop (mkF m 161 #[.val (.long q0), .second, .val (.long q2), .second, .val (.int p4), .val (.long q5), .second, .val (.int (b2i b1)), .val (.int (b2i b2)), .val .null, .val (.long (0 : Int64)), .second, .val (.ref b190), .val (.ref ov)] [(.ref ov), (.ref (if b1 = true then sk else if q2 < (0 : Int64) then ov else if (0 : Int64) = (0 : Int64) then vo else fo))])) _
              refine Jvm.RoadKit.acmp (g := (mkF m 161 #[.val (.long q0), .second, .val (.long q2), .second, .val (.int p4), .val (.long q5), .second, .val (.int (b2i b1)), .val (.int (b2i b2)), .val .null, .val (.long (0 : Int64)), .second, .val (.ref b190), .val (.ref ov)] [(.ref ov), (.ref (if b1 = true then sk else if q2 < (0 : Int64) then ov else if (0 : Int64) = (0 : Int64) then vo else fo))])) X209 hx rfl rfl rfl (pc0 := 161) (pc' := 164) (same := true) rfl (hb hby at_161) rfl (decide_eq_true (congrArg Value.ref (by simp [hc109, own_tri hc123 hc3]))) (by decide) (by decide) ?_
              show Steps p.tables e below (T209.setTop (mkF m 164 #[.val (.long q0), .second, .val (.long q2), .second, .val (.int p4), .val (.long q5), .second, .val (.int (b2i b1)), .val (.int (b2i b2)), .val .null, .val (.long (0 : Int64)), .second, .val (.ref b190), .val (.ref ov)] [])) _
              refine XS.iconst X209.here hx rfl (hb hby at_164) ?_
              show Steps p.tables e below (T209.setTop (mkF m 165 #[.val (.long q0), .second, .val (.long q2), .second, .val (.int p4), .val (.long q5), .second, .val (.int (b2i b1)), .val (.int (b2i b2)), .val .null, .val (.long (0 : Int64)), .second, .val (.ref b190), .val (.ref ov)] [(.int (1 : Int32))])) _
              refine XS.goto X209.here hx rfl (pc0 := 165) (pc' := 169) rfl (hb hby at_165) (by decide) (by decide) ?_
              show Steps p.tables e below (T209.setTop (mkF m 169 #[.val (.long q0), .second, .val (.long q2), .second, .val (.int p4), .val (.long q5), .second, .val (.int (b2i b1)), .val (.int (b2i b2)), .val .null, .val (.long (0 : Int64)), .second, .val (.ref b190), .val (.ref ov)] [(.int (1 : Int32))])) _
              exact retN X209 hx (t := .boolean) Bd.returns (by simp) (hb hby at_169) hr
set_option maxRecDepth 65536 in
set_option maxHeartbeats 40000000 in
theorem comes_1 {Post : Tables → Env → Array Value → State → Outcome → State → Prop} (hpost : ∀ tb e args s v u, (limb_1_1.after args s (.returned v) u = true ∧ limb_1_2.after args s (.returned v) u = true ∧ True) → FrameEnd s (.returned v) u (Jvm.fieldLocs frame_1_writes args s ++ Jvm.arrayLocs frame_1_arrays args s ++ Jvm.staticLocs frame_1_statics s) 16 128 → Post tb e args s (.returned v) u) :
    ArmFor flags0 classFile x code maxLocals ret World_1 tables_1 room_1 Calls_1 rest_1 Pre_1 Post := by
  intro l hfl _ _ p e ha hc hk s m args below hf hA hF happ hP
  obtain ⟨hcalls, hrest, hpre⟩ := hP
  obtain ⟨-, -, -, hnamed, -, -, -, hat⟩ := (Spec.applies_iff hf).mp happ
  obtain ⟨hg, hn⟩ := and_e (Cond.before_iff.mp (show (Jvm.Cond.and given_1 narrow_1).before args s = true from hpre))
  obtain ⟨hq0, hr0⟩ := and_e hg
  obtain ⟨hq1, hr1⟩ := and_e hr0
  obtain ⟨hq2, hr2⟩ := and_e hr1
  obtain ⟨hq3, hr3⟩ := and_e hr2
  obtain ⟨w0, w1, w2, w3, rfl⟩ : ∃ w0 w1 w2 w3 : Value, args = #[w0, w1, w2, w3] := by
    have hs : args.size = 4 := by simpa [Cond.value, given_1] using hq0
    obtain ⟨L⟩ := args
    match L, hs with
    | [w0, w1, w2, w3], _ => exact ⟨w0, w1, w2, w3, rfl⟩
  have hw := fun d (hd : d ∈ tables_1) => atoms_spec (ws := Jvm.Cond.code x code maxLocals ret :: tables_1) hat d (List.mem_cons_of_mem _ hd)
  have hfit : Fit s := fun {y c} hc i hi => by
    obtain ⟨ha, rfl⟩ := Array.getElem?_eq_some_iff.mp hc
    have q := List.all_eq_true.mp ((Array.all_eq_true_iff_forall_mem.mp hF) _ (Array.getElem_mem ha)) i (List.mem_range.mpr hi)
    simpa [Array.getElem?_eq_getElem hi] using q
  obtain ⟨hsets, hown0⟩ := atoms_of _ (rest_1_c_eq ▸ (show rest_1_c.before _ s = true from hrest))
  obtain ⟨i0, ei0⟩ := isL_v hq1
  obtain rfl : w0 = (.long i0) := Option.some.inj ei0
  obtain ⟨i1, ei1⟩ := isL_v hq2
  obtain rfl : w1 = (.long i1) := Option.some.inj ei1
  obtain ⟨i2, ei2⟩ := is_v hq3
  obtain rfl : w2 = (.int i2) := Option.some.inj ei2
  obtain ⟨i3, ei3⟩ := isL_v hr3
  obtain rfl : w3 = (.long i3) := Option.some.inj ei3
  obtain ⟨m_fo, hn0⟩ := and_e hn
  obtain ⟨m_sk, hn1⟩ := and_e hn0
  obtain ⟨m_ov, hn2⟩ := and_e hn1
  have m_vo := hn2
  obtain ⟨sk, ev_sk, S_sk, E_sk⟩ := own_sx (hw _ (List.mem_of_getElem? (i := 56) rfl)) (hw _ (List.mem_of_getElem? (i := 65) rfl)) m_sk
  obtain ⟨ov, ev_ov, S_ov, E_ov⟩ := own_sx (hw _ (List.mem_of_getElem? (i := 56) rfl)) (hw _ (List.mem_of_getElem? (i := 68) rfl)) m_ov
  obtain ⟨vo, ev_vo, S_vo, E_vo⟩ := own_sx (hw _ (List.mem_of_getElem? (i := 56) rfl)) (hw _ (List.mem_of_getElem? (i := 71) rfl)) m_vo
  obtain ⟨fo, ev_fo, S_fo, E_fo⟩ := own_sx (hw _ (List.mem_of_getElem? (i := 56) rfl)) (hw _ (List.mem_of_getElem? (i := 57) rfl)) m_fo
  have n5 := not_v (Cond.before_iff.mp (hsets _ (List.mem_of_getElem? (i := 2) rfl)))
  obtain ⟨cs, ecs⟩ := is_v (Cond.before_iff.mp (hsets _ (List.mem_of_getElem? (i := 1) rfl)))
  have S_c : Sta s s.heap "java/lang/String" "COMPACT_STRINGS" "Z" (.int cs) := Sta.start ecs (Or.inl (hsets _ (List.mem_of_getElem? (i := 0) rfl)))
  have hcs : ¬ (cs = (0 : Int32)) := gotF (Cond.eq_ints ecs (Term.int_eval (0))) n5
  obtain ⟨n, o, h1, h2, h3, _, L, rfl, ⟨rfl, N⟩, hq⟩ := rm0 l s _ hw tables_1 i0 i1 i2 i3 cs sk ov vo fo s.heap s.heap.size (Nat.le_refl _) S_c hcs S_sk S_ov S_vo S_fo p e ha hc hk s m _ below hf ((Spec.applies_iff_loose hf).mp happ).1 ⟨rfl, State.Warmed39.refl s, rfl⟩ trivial
  refine ⟨n, _, h1, h2, h3, hpost _ _ _ _ _ _ ⟨Cond.after_iff.mpr rfl, Cond.after_iff.mpr (eq_i res_at (Term.int_eval (1)) rfl), trivial⟩ ⟨hq.1, hq.2.1, (hq.2.2.sift fun y hy => Or.inr (N y hy)).mono (by decide) (by decide)⟩⟩
theorem main_1_1 : Claimed_1_1 := comes_1 fun _ _ _ _ _ _ h hF => ⟨h.1, hF⟩
theorem main_1_2 : Claimed_1_2 := comes_1 fun _ _ _ _ _ _ h hF => ⟨h.2.1, hF⟩
end Jvm.Pilot.@@N@@
namespace Jvm.Pilot.@@N@@
open Jvm Jvm.ClassFile Sem Op Lib Jvm.Free Jvm.Stand Jvm.Pilot.@@N@@.Jvm.D
/-! MADE BY PROGRAM (witnessworld.py) out of the Statement's table words and the real class files: 20 classes; the members and pool entries that the words name. The judged class is class 1, her method 1. -/
namespace start1
open Jvm.ClassFile
def u (s : String) : CpInfo := .utf8 (stringToUtf16 s)
/-- a pool by its gaps: so many unusable entries, then the entry; so many at the end -/
def gap : Nat → List CpInfo → List CpInfo
  | 0, r => r
  | n + 1, r => .unusable :: gap n r
def poolList (es : List (Nat × CpInfo)) (last : Nat) : List CpInfo := es.foldr (fun e r => gap e.1 (e.2 :: r)) (gap last [])
def pool (es : List (Nat × CpInfo)) (last : Nat) : Array CpInfo := ⟨poolList es last⟩
def fileOf (pool : Array CpInfo) (this : Nat) (attrs : Array Attribute := #[]) (ms : Array MethodInfo := #[]) (fl : Nat := 33) (sup : Nat := 0) (ifs : Array Nat := #[]) (fds : Array FieldInfo := #[]) : ClassFile where
  minorVersion := 0
  majorVersion := 65
  constantPool := pool
  accessFlags := fl
  thisClass := this
  superClass := sup
  interfaces := ifs
  fields := fds
  methods := ms
  attributes := attrs
def plain (name : String) (sup : Option ClassId) : Class where
  name := name
  kind := .ordinary
  loader := none
  accessFlags := 33
  super := sup
  interfaces := #[]
  cf := none
  fields := #[]
  methods := #[]
  instanceTypes := #[]
  staticTypes := #[]
  resolved := #[]
  callSites := []
  init := .initialized
  statics := none
  mirror := none

def pool0 : Array CpInfo := pool [(5, u "<init>"), (0, u "()V"), (1, .class_ 10), (1, u "java/lang/Object")] 113

def k0c0 : Code := { maxStack := 0, maxLocals := 1, code := object_method_1_code, exceptionTable := #[], attributes := #[] }
def k0m0 : Method := { name := "<init>", desc := "()V", sig := { parameters := [], returnType := none }, accessFlags := 1, code := some k0c0 }
/-- java/lang/Object -/
def k0 : Class := { plain "java/lang/Object" none with
  accessFlags := 33
  interfaces := #[]
  cf := some (fileOf pool0 8 #[] #[{ accessFlags := 1, nameIndex := 5, descriptorIndex := 6, attributes := #[] }] 33 0 #[] #[])
  fields := #[]
  methods := #[k0m0]
  instanceTypes := #[]
  staticTypes := #[]
  resolved := Array.replicate 124 none
  statics := none }

def pool1 : Array CpInfo := pool [(2, .class_ 4), (1, u "java/lang/Object"), (0, u "<init>"), (0, u "()V"), (0, .methodref 8 9), (0, .class_ 10), (0, .nameAndType 11 12), (0, u "java/lang/String"), (0, u "valueOf"), (0, u "(C)Ljava/lang/String;"), (0, .class_ 14), (0, u "com/example/stackledger/stackledger/Cleanup$Chosen"), (0, .long 18446744073709551615), (1, .methodref 13 18), (0, .nameAndType 5 19), (0, u "(JJLjava/lang/String;JZJJZ)V"), (0, .fieldref 21 22), (0, .class_ 23), (0, .nameAndType 24 25), (0, u "com/example/stackledger/stackledger/Cleanup$Action"), (0, u "SKIP_LOST"), (0, u "Lcom/example/stackledger/stackledger/Cleanup$Action;"), (0, .fieldref 21 27), (0, .nameAndType 28 25), (0, u "VOID"), (0, .fieldref 21 30), (0, .nameAndType 31 25), (0, u "FORGIVE"), (0, .fieldref 21 33), (0, .nameAndType 34 25), (0, u "OVERPAYMENT"), (0, .methodref 13 36), (0, .nameAndType 37 38), (0, u "action"), (0, u "()Lcom/example/stackledger/stackledger/Cleanup$Action;"), (0, .class_ 40), (0, u "com/example/stackledger/stackledger/ChosenActionPinLaw"), (2, u "law"), (0, u "(JJIJ)Z")] 8

def k1m0 : Method := { name := "<init>", desc := "()V", sig := { parameters := [], returnType := none }, accessFlags := 2, code := none }
def k1c1 : Code := { maxStack := 15, maxLocals := 14, code := code, exceptionTable := #[], attributes := #[] }
def k1m1 : Method := { name := "law", desc := "(JJIJ)Z", sig := { parameters := [.long, .long, .int, .long], returnType := some .boolean }, accessFlags := 9, code := some k1c1 }
/-- com/example/stackledger/stackledger/ChosenActionPinLaw -/
def k1 : Class := { plain "com/example/stackledger/stackledger/ChosenActionPinLaw" (some 0) with
  accessFlags := 49
  interfaces := #[]
  cf := some (fileOf pool1 39 #[] #[{ accessFlags := 2, nameIndex := 5, descriptorIndex := 6, attributes := #[] }, { accessFlags := 9, nameIndex := 43, descriptorIndex := 44, attributes := #[] }] 49 2 #[] #[])
  fields := #[]
  methods := #[k1m0, k1m1]
  instanceTypes := #[]
  staticTypes := #[]
  resolved := Array.replicate 53 none
  statics := none }

def pool2 : Array CpInfo := pool [(1, .class_ 2), (0, u "java/io/Serializable"), (0, .class_ 4), (0, u "java/lang/Object")] 2

/-- java/io/Serializable -/
def k2 : Class := { plain "java/io/Serializable" (some 0) with
  accessFlags := 1537
  interfaces := #[]
  cf := some (fileOf pool2 1 #[] #[] 1537 3 #[] #[])
  fields := #[]
  methods := #[]
  instanceTypes := #[]
  staticTypes := #[]
  resolved := Array.replicate 7 none
  statics := none }

def pool3 : Array CpInfo := pool [(1, .class_ 2), (0, u "java/lang/Comparable"), (0, .class_ 4), (0, u "java/lang/Object")] 7

/-- java/lang/Comparable -/
def k3 : Class := { plain "java/lang/Comparable" (some 0) with
  accessFlags := 1537
  interfaces := #[]
  cf := some (fileOf pool3 1 #[] #[] 1537 3 #[] #[])
  fields := #[]
  methods := #[]
  instanceTypes := #[]
  staticTypes := #[]
  resolved := Array.replicate 12 none
  statics := none }

def pool4 : Array CpInfo := pool [(2, .class_ 4), (1, u "java/lang/CharSequence"), (42, .class_ 48), (0, u "java/lang/CharSequence$1CodePointIterator"), (10, .class_ 60), (0, u "java/lang/CharSequence$1CharIterator"), (5, .class_ 67), (0, u "java/lang/Object")] 63

/-- java/lang/CharSequence -/
def k4 : Class := { plain "java/lang/CharSequence" (some 0) with
  accessFlags := 1537
  interfaces := #[]
  cf := some (fileOf pool4 2 #[.nestMembers #[47, 59]] #[] 1537 66 #[] #[])
  fields := #[]
  methods := #[]
  instanceTypes := #[]
  staticTypes := #[]
  resolved := Array.replicate 131 none
  statics := none }

def pool5 : Array CpInfo := pool [(1, .class_ 2), (0, u "java/lang/constant/Constable"), (0, .class_ 4), (0, u "java/lang/Object")] 6

/-- java/lang/constant/Constable -/
def k5 : Class := { plain "java/lang/constant/Constable" (some 0) with
  accessFlags := 1537
  interfaces := #[]
  cf := some (fileOf pool5 1 #[] #[] 1537 3 #[] #[])
  fields := #[]
  methods := #[]
  instanceTypes := #[]
  staticTypes := #[]
  resolved := Array.replicate 11 none
  statics := none }

def pool6 : Array CpInfo := pool [(1, .class_ 2), (0, u "java/lang/constant/ConstantDesc"), (0, .class_ 4), (0, u "java/lang/Object")] 32

/-- java/lang/constant/ConstantDesc -/
def k6 : Class := { plain "java/lang/constant/ConstantDesc" (some 0) with
  accessFlags := 1537
  interfaces := #[]
  cf := some (fileOf pool6 1 #[] #[] 1537 3 #[] #[])
  fields := #[]
  methods := #[]
  instanceTypes := #[]
  staticTypes := #[]
  resolved := Array.replicate 37 none
  statics := none }

def pool7 : Array CpInfo := pool [(1, .methodref 2 3), (0, .class_ 4), (0, .nameAndType 5 6), (0, u "java/lang/Object"), (0, u "<init>"), (0, u "()V"), (2, .fieldref 10 11), (0, .class_ 12), (0, .nameAndType 13 14), (0, u "java/lang/String"), (0, u "value"), (0, u "[B"), (0, .fieldref 10 16), (0, .nameAndType 17 18), (0, u "coder"), (0, u "B"), (2, u "hash"), (0, u "I"), (2, u "hashIsZero"), (0, u "Z"), (11, .fieldref 10 39), (0, .nameAndType 40 26), (0, u "COMPACT_STRINGS"), (12, u "toBytes"), (53, .class_ 109), (1, u "java/lang/StringLatin1"), (99, .methodref 10 210), (0, .nameAndType 5 211), (0, u "([BB)V"), (157, u "(C)Z"), (205, .class_ 576), (0, u "java/lang/CharSequence"), (22, u "CASE_INSENSITIVE_ORDER"), (0, u "Ljava/util/Comparator;"), (181, u "valueOf"), (0, u "(C)Ljava/lang/String;"), (231, .methodref 107 1016), (0, .nameAndType 1017 369), (0, u "canEncode"), (0, .methodref 107 1019), (0, .nameAndType 53 1020), (0, u "(C)[B"), (80, u "serialPersistentFields"), (0, u "[Ljava/io/ObjectStreamField;"), (0, .class_ 1104), (0, u "java/lang/String$CaseInsensitiveComparator"), (1, .class_ 1107), (0, u "java/io/Serializable"), (0, .class_ 1109), (0, u "java/lang/Comparable"), (0, .class_ 1111), (0, u "java/lang/constant/Constable"), (0, .class_ 1113), (0, u "java/lang/constant/ConstantDesc"), (2, u "serialVersionUID"), (0, u "J"), (3, u "REPL"), (0, u "C"), (2, u "LATIN1"), (1, u "UTF16")] 323

def k7m0 : Method := { name := "<init>", desc := "()V", sig := { parameters := [], returnType := none }, accessFlags := 1, code := none }
def k7c1 : Code := { maxStack := 4, maxLocals := 1, code := jdk_42_method_139_code, exceptionTable := #[], attributes := #[] }
def k7m1 : Method := { name := "valueOf", desc := "(C)Ljava/lang/String;", sig := { parameters := [.char], returnType := some (.object "java/lang/String") }, accessFlags := 9, code := some k7c1 }
def k7c2 : Code := { maxStack := 2, maxLocals := 3, code := jdk_42_method_151_code, exceptionTable := #[], attributes := #[] }
def k7m2 : Method := { name := "<init>", desc := "([BB)V", sig := { parameters := [(.array .byte), .byte], returnType := none }, accessFlags := 0, code := some k7c2 }
/-- java/lang/String -/
def k7 : Class := { plain "java/lang/String" (some 0) with
  accessFlags := 49
  interfaces := #[2, 3, 4, 5, 6]
  cf := some (fileOf pool7 10 #[.nestMembers #[1103]] #[{ accessFlags := 1, nameIndex := 5, descriptorIndex := 6, attributes := #[] }, { accessFlags := 9, nameIndex := 782, descriptorIndex := 783, attributes := #[] }, { accessFlags := 0, nameIndex := 5, descriptorIndex := 211, attributes := #[] }] 49 2 #[1106, 1108, 575, 1110, 1112] #[{ accessFlags := 18, nameIndex := 13, descriptorIndex := 14, attributes := #[] }, { accessFlags := 18, nameIndex := 17, descriptorIndex := 18, attributes := #[] }, { accessFlags := 2, nameIndex := 21, descriptorIndex := 22, attributes := #[] }, { accessFlags := 2, nameIndex := 25, descriptorIndex := 26, attributes := #[] }, { accessFlags := 26, nameIndex := 1116, descriptorIndex := 1117, attributes := #[] }, { accessFlags := 24, nameIndex := 40, descriptorIndex := 26, attributes := #[] }, { accessFlags := 26, nameIndex := 1101, descriptorIndex := 1102, attributes := #[] }, { accessFlags := 26, nameIndex := 1121, descriptorIndex := 1122, attributes := #[] }, { accessFlags := 25, nameIndex := 599, descriptorIndex := 600, attributes := #[] }, { accessFlags := 24, nameIndex := 1125, descriptorIndex := 18, attributes := #[] }, { accessFlags := 24, nameIndex := 1127, descriptorIndex := 18, attributes := #[] }])
  fields := #[{ name := "value", type := (.array .byte), accessFlags := 18, slot := 0, constantValue := 0 }, { name := "coder", type := .byte, accessFlags := 18, slot := 1, constantValue := 0 }, { name := "hash", type := .int, accessFlags := 2, slot := 2, constantValue := 0 }, { name := "hashIsZero", type := .boolean, accessFlags := 2, slot := 3, constantValue := 0 }, { name := "serialVersionUID", type := .long, accessFlags := 26, slot := 0, constantValue := 0 }, { name := "COMPACT_STRINGS", type := .boolean, accessFlags := 24, slot := 1, constantValue := 0 }, { name := "serialPersistentFields", type := (.array (.object "java/io/ObjectStreamField")), accessFlags := 26, slot := 2, constantValue := 0 }, { name := "REPL", type := .char, accessFlags := 26, slot := 3, constantValue := 0 }, { name := "CASE_INSENSITIVE_ORDER", type := (.object "java/util/Comparator"), accessFlags := 25, slot := 4, constantValue := 0 }, { name := "LATIN1", type := .byte, accessFlags := 24, slot := 5, constantValue := 0 }, { name := "UTF16", type := .byte, accessFlags := 24, slot := 6, constantValue := 0 }]
  methods := #[k7m0, k7m1, k7m2]
  instanceTypes := #[(.array .byte), .byte, .int, .boolean]
  staticTypes := #[.long, .boolean, (.array (.object "java/io/ObjectStreamField")), .char, (.object "java/util/Comparator"), .byte, .byte]
  resolved := Array.replicate 1451 none
  statics := some 0 }

def pool8 : Array CpInfo := pool [(4, .class_ 6), (1, u "java/lang/Object"), (0, u "<init>"), (0, u "()V"), (5, .class_ 16), (1, u "java/lang/StringLatin1"), (73, u "canEncode"), (14, u "(C)Z"), (15, u "$assertionsDisabled"), (0, u "Z"), (98, .class_ 223), (1, u "java/lang/StringLatin1$LinesSpliterator"), (156, u "toBytes"), (1, u "(C)[B"), (7, .class_ 391), (0, u "java/lang/StringLatin1$CharsSpliterator")] 3

def k8m0 : Method := { name := "<init>", desc := "()V", sig := { parameters := [], returnType := none }, accessFlags := 0, code := none }
def k8c1 : Code := { maxStack := 2, maxLocals := 1, code := jdk_43_method_3_code, exceptionTable := #[], attributes := #[] }
def k8m1 : Method := { name := "canEncode", desc := "(C)Z", sig := { parameters := [.char], returnType := some .boolean }, accessFlags := 9, code := some k8c1 }
def k8c2 : Code := { maxStack := 4, maxLocals := 1, code := jdk_43_method_46_code, exceptionTable := #[], attributes := #[] }
def k8m2 : Method := { name := "toBytes", desc := "(C)[B", sig := { parameters := [.char], returnType := some (.array .byte) }, accessFlags := 9, code := some k8c2 }
/-- java/lang/StringLatin1 -/
def k8 : Class := { plain "java/lang/StringLatin1" (some 0) with
  accessFlags := 48
  interfaces := #[]
  cf := some (fileOf pool8 14 #[.nestMembers #[390, 221]] #[{ accessFlags := 0, nameIndex := 7, descriptorIndex := 8, attributes := #[] }, { accessFlags := 9, nameIndex := 90, descriptorIndex := 105, attributes := #[] }, { accessFlags := 9, nameIndex := 380, descriptorIndex := 382, attributes := #[] }] 48 4 #[] #[{ accessFlags := 4120, nameIndex := 121, descriptorIndex := 122, attributes := #[] }])
  fields := #[{ name := "$assertionsDisabled", type := .boolean, accessFlags := 4120, slot := 0, constantValue := 0 }]
  methods := #[k8m0, k8m1, k8m2]
  instanceTypes := #[]
  staticTypes := #[.boolean]
  resolved := Array.replicate 395 none
  statics := none }

def pool9 : Array CpInfo := pool [(1, .methodref 2 3), (0, .class_ 4), (0, .nameAndType 5 6), (0, u "java/lang/Object"), (0, u "<init>"), (0, u "()V"), (0, .class_ 8), (0, u "java/lang/Record")] 13

def k9c0 : Code := { maxStack := 1, maxLocals := 1, code := jdk_30_method_1_code, exceptionTable := #[], attributes := #[] }
def k9m0 : Method := { name := "<init>", desc := "()V", sig := { parameters := [], returnType := none }, accessFlags := 4, code := some k9c0 }
/-- java/lang/Record -/
def k9 : Class := { plain "java/lang/Record" (some 0) with
  accessFlags := 1057
  interfaces := #[]
  cf := some (fileOf pool9 7 #[] #[{ accessFlags := 4, nameIndex := 5, descriptorIndex := 6, attributes := #[] }] 1057 2 #[] #[])
  fields := #[]
  methods := #[k9m0]
  instanceTypes := #[]
  staticTypes := #[]
  resolved := Array.replicate 22 none
  statics := none }

def pool10 : Array CpInfo := pool [(1, .methodref 2 3), (0, .class_ 4), (0, .nameAndType 5 6), (0, u "java/lang/Record"), (0, u "<init>"), (0, u "()V"), (0, .fieldref 8 9), (0, .class_ 10), (0, .nameAndType 11 12), (0, u "com/example/stackledger/stackledger/Cleanup$Chosen"), (0, u "transaction"), (0, u "J"), (0, .fieldref 8 14), (0, .nameAndType 15 12), (0, u "patron"), (0, .fieldref 8 17), (0, .nameAndType 18 19), (0, u "org"), (0, u "Ljava/lang/String;"), (0, .fieldref 8 21), (0, .nameAndType 22 12), (0, u "startedAt"), (0, .fieldref 8 24), (0, .nameAndType 25 26), (0, u "finished"), (0, u "Z"), (0, .fieldref 8 28), (0, .nameAndType 29 12), (0, u "totalPaidCents"), (0, .fieldref 8 31), (0, .nameAndType 32 12), (0, u "balanceCents"), (0, .fieldref 8 34), (0, .nameAndType 35 26), (0, u "lost"), (0, .fieldref 37 38), (0, .class_ 39), (0, .nameAndType 40 41), (0, u "com/example/stackledger/stackledger/Cleanup$Action"), (0, u "SKIP_LOST"), (0, u "Lcom/example/stackledger/stackledger/Cleanup$Action;"), (0, .fieldref 37 43), (0, .nameAndType 44 41), (0, u "OVERPAYMENT"), (0, .fieldref 37 46), (0, .nameAndType 47 41), (0, u "VOID"), (0, .fieldref 37 49), (0, .nameAndType 50 41), (0, u "FORGIVE"), (2, u "action"), (0, u "()Lcom/example/stackledger/stackledger/Cleanup$Action;"), (25, u "(JJLjava/lang/String;JZJJZ)V"), (11, .class_ 93), (0, u "com/example/stackledger/stackledger/Cleanup")] 27

def k10c0 : Code := { maxStack := 3, maxLocals := 14, code := prog_6_method_1_code, exceptionTable := #[], attributes := #[] }
def k10m0 : Method := { name := "<init>", desc := "(JJLjava/lang/String;JZJJZ)V", sig := { parameters := [.long, .long, (.object "java/lang/String"), .long, .boolean, .long, .long, .boolean], returnType := none }, accessFlags := 0, code := some k10c0 }
def k10c1 : Code := { maxStack := 4, maxLocals := 1, code := prog_6_method_2_code, exceptionTable := #[], attributes := #[] }
def k10m1 : Method := { name := "action", desc := "()Lcom/example/stackledger/stackledger/Cleanup$Action;", sig := { parameters := [], returnType := some (.object "com/example/stackledger/stackledger/Cleanup$Action") }, accessFlags := 0, code := some k10c1 }
/-- com/example/stackledger/stackledger/Cleanup$Chosen -/
def k10 : Class := { plain "com/example/stackledger/stackledger/Cleanup$Chosen" (some 9) with
  accessFlags := 48
  interfaces := #[]
  cf := some (fileOf pool10 8 #[.nestHost 92] #[{ accessFlags := 0, nameIndex := 5, descriptorIndex := 80, attributes := #[] }, { accessFlags := 0, nameIndex := 53, descriptorIndex := 54, attributes := #[] }] 48 2 #[] #[{ accessFlags := 18, nameIndex := 11, descriptorIndex := 12, attributes := #[] }, { accessFlags := 18, nameIndex := 15, descriptorIndex := 12, attributes := #[] }, { accessFlags := 18, nameIndex := 18, descriptorIndex := 19, attributes := #[] }, { accessFlags := 18, nameIndex := 22, descriptorIndex := 12, attributes := #[] }, { accessFlags := 18, nameIndex := 25, descriptorIndex := 26, attributes := #[] }, { accessFlags := 18, nameIndex := 29, descriptorIndex := 12, attributes := #[] }, { accessFlags := 18, nameIndex := 32, descriptorIndex := 12, attributes := #[] }, { accessFlags := 18, nameIndex := 35, descriptorIndex := 26, attributes := #[] }])
  fields := #[{ name := "transaction", type := .long, accessFlags := 18, slot := 0, constantValue := 0 }, { name := "patron", type := .long, accessFlags := 18, slot := 1, constantValue := 0 }, { name := "org", type := (.object "java/lang/String"), accessFlags := 18, slot := 2, constantValue := 0 }, { name := "startedAt", type := .long, accessFlags := 18, slot := 3, constantValue := 0 }, { name := "finished", type := .boolean, accessFlags := 18, slot := 4, constantValue := 0 }, { name := "totalPaidCents", type := .long, accessFlags := 18, slot := 5, constantValue := 0 }, { name := "balanceCents", type := .long, accessFlags := 18, slot := 6, constantValue := 0 }, { name := "lost", type := .boolean, accessFlags := 18, slot := 7, constantValue := 0 }]
  methods := #[k10m0, k10m1]
  instanceTypes := #[.long, .long, (.object "java/lang/String"), .long, .boolean, .long, .long, .boolean]
  staticTypes := #[]
  resolved := Array.replicate 121 none
  statics := none }

def pool11 : Array CpInfo := pool [(2, .class_ 4), (1, u "java/lang/Enum"), (0, u "name"), (0, u "Ljava/lang/String;"), (2, u "ordinal"), (0, u "I"), (1, .class_ 14), (1, u "java/lang/Object"), (4, u "hash"), (86, .class_ 108), (1, u "java/lang/Enum$EnumDesc"), (2, .class_ 112), (0, u "java/lang/constant/Constable"), (0, .class_ 114), (0, u "java/lang/Comparable"), (0, .class_ 116), (0, u "java/io/Serializable")] 87

/-- java/lang/Enum -/
def k11 : Class := { plain "java/lang/Enum" (some 0) with
  accessFlags := 1057
  interfaces := #[5, 3, 2]
  cf := some (fileOf pool11 2 #[.nestMembers #[106]] #[] 1057 12 #[111, 113, 115] #[{ accessFlags := 18, nameIndex := 5, descriptorIndex := 6, attributes := #[] }, { accessFlags := 18, nameIndex := 9, descriptorIndex := 10, attributes := #[] }, { accessFlags := 2, nameIndex := 19, descriptorIndex := 10, attributes := #[] }])
  fields := #[{ name := "name", type := (.object "java/lang/String"), accessFlags := 18, slot := 0, constantValue := 0 }, { name := "ordinal", type := .int, accessFlags := 18, slot := 1, constantValue := 0 }, { name := "hash", type := .int, accessFlags := 2, slot := 2, constantValue := 0 }]
  methods := #[]
  instanceTypes := #[(.object "java/lang/String"), .int, .int]
  staticTypes := #[]
  resolved := Array.replicate 204 none
  statics := none }

def pool12 : Array CpInfo := pool [(1, .class_ 2), (0, u "com/example/stackledger/stackledger/Cleanup$Action"), (2, u "VOID"), (0, u "Lcom/example/stackledger/stackledger/Cleanup$Action;"), (2, u "FORGIVE"), (2, u "OVERPAYMENT"), (2, u "SKIP_LOST"), (2, u "$VALUES"), (0, u "[Lcom/example/stackledger/stackledger/Cleanup$Action;"), (6, .class_ 28), (1, u "java/lang/Enum"), (8, u "word"), (0, u "Ljava/lang/String;"), (33, .class_ 73), (0, u "com/example/stackledger/stackledger/Cleanup")] 2

/-- com/example/stackledger/stackledger/Cleanup$Action -/
def k12 : Class := { plain "com/example/stackledger/stackledger/Cleanup$Action" (some 11) with
  accessFlags := 16432
  interfaces := #[]
  cf := some (fileOf pool12 1 #[.nestHost 72] #[] 16432 26 #[] #[{ accessFlags := 16409, nameIndex := 5, descriptorIndex := 6, attributes := #[] }, { accessFlags := 16409, nameIndex := 9, descriptorIndex := 6, attributes := #[] }, { accessFlags := 16409, nameIndex := 12, descriptorIndex := 6, attributes := #[] }, { accessFlags := 16409, nameIndex := 15, descriptorIndex := 6, attributes := #[] }, { accessFlags := 18, nameIndex := 37, descriptorIndex := 38, attributes := #[] }, { accessFlags := 4122, nameIndex := 18, descriptorIndex := 19, attributes := #[] }])
  fields := #[{ name := "VOID", type := (.object "com/example/stackledger/stackledger/Cleanup$Action"), accessFlags := 16409, slot := 0, constantValue := 0 }, { name := "FORGIVE", type := (.object "com/example/stackledger/stackledger/Cleanup$Action"), accessFlags := 16409, slot := 1, constantValue := 0 }, { name := "OVERPAYMENT", type := (.object "com/example/stackledger/stackledger/Cleanup$Action"), accessFlags := 16409, slot := 2, constantValue := 0 }, { name := "SKIP_LOST", type := (.object "com/example/stackledger/stackledger/Cleanup$Action"), accessFlags := 16409, slot := 3, constantValue := 0 }, { name := "word", type := (.object "java/lang/String"), accessFlags := 18, slot := 3, constantValue := 0 }, { name := "$VALUES", type := (.array (.object "com/example/stackledger/stackledger/Cleanup$Action")), accessFlags := 4122, slot := 4, constantValue := 0 }]
  methods := #[]
  instanceTypes := #[(.object "java/lang/String"), .int, .int, (.object "java/lang/String")]
  staticTypes := #[(.object "com/example/stackledger/stackledger/Cleanup$Action"), (.object "com/example/stackledger/stackledger/Cleanup$Action"), (.object "com/example/stackledger/stackledger/Cleanup$Action"), (.object "com/example/stackledger/stackledger/Cleanup$Action"), (.array (.object "com/example/stackledger/stackledger/Cleanup$Action"))]
  resolved := Array.replicate 76 none
  statics := some 1 }

def pool13 : Array CpInfo := pool [(2, .class_ 4), (1, u "java/lang/Object"), (0, u "<init>"), (0, u "()V"), (17, .class_ 26), (1, u "jdk/internal/util/Preconditions"), (28, .class_ 56), (0, u "jdk/internal/util/Preconditions$4"), (57, .class_ 115), (0, u "jdk/internal/util/Preconditions$1"), (7, u "SIOOBE_FORMATTER"), (0, u "Ljava/util/function/BiFunction;"), (0, .class_ 126), (0, u "jdk/internal/util/Preconditions$2"), (3, u "AIOOBE_FORMATTER"), (0, .class_ 132), (0, u "jdk/internal/util/Preconditions$3"), (3, u "IOOBE_FORMATTER")] 57

def k13m0 : Method := { name := "<init>", desc := "()V", sig := { parameters := [], returnType := none }, accessFlags := 1, code := none }
/-- jdk/internal/util/Preconditions -/
def k13 : Class := { plain "jdk/internal/util/Preconditions" (some 0) with
  accessFlags := 33
  interfaces := #[]
  cf := some (fileOf pool13 24 #[.nestMembers #[55, 131, 125, 114]] #[{ accessFlags := 1, nameIndex := 5, descriptorIndex := 6, attributes := #[] }] 33 2 #[] #[{ accessFlags := 25, nameIndex := 123, descriptorIndex := 124, attributes := #[] }, { accessFlags := 25, nameIndex := 130, descriptorIndex := 124, attributes := #[] }, { accessFlags := 25, nameIndex := 136, descriptorIndex := 124, attributes := #[] }])
  fields := #[{ name := "SIOOBE_FORMATTER", type := (.object "java/util/function/BiFunction"), accessFlags := 25, slot := 0, constantValue := 0 }, { name := "AIOOBE_FORMATTER", type := (.object "java/util/function/BiFunction"), accessFlags := 25, slot := 1, constantValue := 0 }, { name := "IOOBE_FORMATTER", type := (.object "java/util/function/BiFunction"), accessFlags := 25, slot := 2, constantValue := 0 }]
  methods := #[k13m0]
  instanceTypes := #[]
  staticTypes := #[(.object "java/util/function/BiFunction"), (.object "java/util/function/BiFunction"), (.object "java/util/function/BiFunction")]
  resolved := Array.replicate 194 none
  statics := some 2 }

def pool14 : Array CpInfo := pool [(9, u "<init>"), (6, .class_ 18), (1, u "java/lang/Object"), (0, u "()V"), (1, .class_ 23), (1, u "jdk/internal/util/ArraysSupport"), (0, u "LOG2_ARRAY_LONG_INDEX_SCALE"), (0, u "I"), (2, u "U"), (0, u "Ljdk/internal/misc/Unsafe;"), (8, u "BIG_ENDIAN"), (0, u "Z"), (8, u "LOG2_BYTE_BIT_SIZE"), (4, u "LOG2_ARRAY_INT_INDEX_SCALE"), (54, u "JLA"), (0, u "Ljdk/internal/access/JavaLangAccess;"), (11, u "LOG2_ARRAY_BOOLEAN_INDEX_SCALE"), (9, u "LOG2_ARRAY_BYTE_INDEX_SCALE"), (5, u "LOG2_ARRAY_CHAR_INDEX_SCALE"), (5, u "LOG2_ARRAY_SHORT_INDEX_SCALE"), (18, u "LOG2_ARRAY_FLOAT_INDEX_SCALE"), (24, u "LOG2_ARRAY_DOUBLE_INDEX_SCALE"), (89, u "T_BOOLEAN"), (2, u "T_CHAR"), (1, u "T_FLOAT"), (1, u "T_DOUBLE"), (1, u "T_BYTE"), (1, u "T_SHORT"), (1, u "T_INT"), (1, u "T_LONG"), (1, u "SOFT_MAX_ARRAY_LENGTH")] 83

def k14m0 : Method := { name := "<init>", desc := "()V", sig := { parameters := [], returnType := none }, accessFlags := 2, code := none }
/-- jdk/internal/util/ArraysSupport -/
def k14 : Class := { plain "jdk/internal/util/ArraysSupport" (some 0) with
  accessFlags := 33
  interfaces := #[]
  cf := some (fileOf pool14 21 #[] #[{ accessFlags := 2, nameIndex := 9, descriptorIndex := 19, attributes := #[] }] 33 16 #[] #[{ accessFlags := 24, nameIndex := 28, descriptorIndex := 29, attributes := #[] }, { accessFlags := 26, nameIndex := 38, descriptorIndex := 39, attributes := #[] }, { accessFlags := 25, nameIndex := 121, descriptorIndex := 25, attributes := #[] }, { accessFlags := 25, nameIndex := 131, descriptorIndex := 25, attributes := #[] }, { accessFlags := 25, nameIndex := 137, descriptorIndex := 25, attributes := #[] }, { accessFlags := 25, nameIndex := 143, descriptorIndex := 25, attributes := #[] }, { accessFlags := 25, nameIndex := 53, descriptorIndex := 25, attributes := #[] }, { accessFlags := 25, nameIndex := 24, descriptorIndex := 25, attributes := #[] }, { accessFlags := 25, nameIndex := 162, descriptorIndex := 25, attributes := #[] }, { accessFlags := 25, nameIndex := 187, descriptorIndex := 25, attributes := #[] }, { accessFlags := 26, nameIndex := 48, descriptorIndex := 25, attributes := #[] }, { accessFlags := 25, nameIndex := 277, descriptorIndex := 25, attributes := #[] }, { accessFlags := 25, nameIndex := 280, descriptorIndex := 25, attributes := #[] }, { accessFlags := 25, nameIndex := 282, descriptorIndex := 25, attributes := #[] }, { accessFlags := 25, nameIndex := 284, descriptorIndex := 25, attributes := #[] }, { accessFlags := 25, nameIndex := 286, descriptorIndex := 25, attributes := #[] }, { accessFlags := 25, nameIndex := 288, descriptorIndex := 25, attributes := #[] }, { accessFlags := 25, nameIndex := 290, descriptorIndex := 25, attributes := #[] }, { accessFlags := 25, nameIndex := 292, descriptorIndex := 25, attributes := #[] }, { accessFlags := 26, nameIndex := 108, descriptorIndex := 109, attributes := #[] }, { accessFlags := 25, nameIndex := 294, descriptorIndex := 25, attributes := #[] }])
  fields := #[{ name := "U", type := (.object "jdk/internal/misc/Unsafe"), accessFlags := 24, slot := 0, constantValue := 0 }, { name := "BIG_ENDIAN", type := .boolean, accessFlags := 26, slot := 1, constantValue := 0 }, { name := "LOG2_ARRAY_BOOLEAN_INDEX_SCALE", type := .int, accessFlags := 25, slot := 2, constantValue := 0 }, { name := "LOG2_ARRAY_BYTE_INDEX_SCALE", type := .int, accessFlags := 25, slot := 3, constantValue := 0 }, { name := "LOG2_ARRAY_CHAR_INDEX_SCALE", type := .int, accessFlags := 25, slot := 4, constantValue := 0 }, { name := "LOG2_ARRAY_SHORT_INDEX_SCALE", type := .int, accessFlags := 25, slot := 5, constantValue := 0 }, { name := "LOG2_ARRAY_INT_INDEX_SCALE", type := .int, accessFlags := 25, slot := 6, constantValue := 0 }, { name := "LOG2_ARRAY_LONG_INDEX_SCALE", type := .int, accessFlags := 25, slot := 7, constantValue := 0 }, { name := "LOG2_ARRAY_FLOAT_INDEX_SCALE", type := .int, accessFlags := 25, slot := 8, constantValue := 0 }, { name := "LOG2_ARRAY_DOUBLE_INDEX_SCALE", type := .int, accessFlags := 25, slot := 9, constantValue := 0 }, { name := "LOG2_BYTE_BIT_SIZE", type := .int, accessFlags := 26, slot := 10, constantValue := 0 }, { name := "T_BOOLEAN", type := .int, accessFlags := 25, slot := 11, constantValue := 0 }, { name := "T_CHAR", type := .int, accessFlags := 25, slot := 12, constantValue := 0 }, { name := "T_FLOAT", type := .int, accessFlags := 25, slot := 13, constantValue := 0 }, { name := "T_DOUBLE", type := .int, accessFlags := 25, slot := 14, constantValue := 0 }, { name := "T_BYTE", type := .int, accessFlags := 25, slot := 15, constantValue := 0 }, { name := "T_SHORT", type := .int, accessFlags := 25, slot := 16, constantValue := 0 }, { name := "T_INT", type := .int, accessFlags := 25, slot := 17, constantValue := 0 }, { name := "T_LONG", type := .int, accessFlags := 25, slot := 18, constantValue := 0 }, { name := "JLA", type := (.object "jdk/internal/access/JavaLangAccess"), accessFlags := 26, slot := 19, constantValue := 0 }, { name := "SOFT_MAX_ARRAY_LENGTH", type := .int, accessFlags := 25, slot := 20, constantValue := 0 }]
  methods := #[k14m0]
  instanceTypes := #[]
  staticTypes := #[(.object "jdk/internal/misc/Unsafe"), .boolean, .int, .int, .int, .int, .int, .int, .int, .int, .int, .int, .int, .int, .int, .int, .int, .int, .int, (.object "jdk/internal/access/JavaLangAccess"), .int]
  resolved := Array.replicate 378 none
  statics := none }

def pool15 : Array CpInfo := pool [(1, u "java/lang/Cloneable"), (0, .class_ 1), (0, u "java/lang/Object"), (0, .class_ 3)] 3

/-- java/lang/Cloneable -/
def k15 : Class := { plain "java/lang/Cloneable" (some 0) with
  accessFlags := 1537
  interfaces := #[]
  cf := some (fileOf pool15 2 #[] #[] 1537 4 #[] #[])
  fields := #[]
  methods := #[]
  instanceTypes := #[]
  staticTypes := #[]
  resolved := Array.replicate 8 none
  statics := none }

/-- the primitive byte -/
def k16 : Class := { plain "byte" none with kind := .primitive 'B', accessFlags := 0x411 }
/-- [B -/
def k17 : Class := { plain "[B" (some 0) with kind := .array 16 .byte, interfaces := #[15, 2], accessFlags := 1041 }

/-- the primitive int -/
def k18 : Class := { plain "int" none with kind := .primitive 'I', accessFlags := 0x411 }
/-- [I -/
def k19 : Class := { plain "[I" (some 0) with kind := .array 18 .int, interfaces := #[15, 2], accessFlags := 1041 }

def heap : Heap := #[{ cls := 7, slots := #[.long 0, .int 1, .null, .int 0, .null, .int 0, .int 0], vm := .statics 7 },
  { cls := 12, slots := #[.ref 3, .ref 4, .ref 5, .ref 6, .null], vm := .statics 12 },
  { cls := 13, slots := #[.null, .null, .null], vm := .statics 13 },
  { cls := 12, slots := #[.null, .int 0, .int 0, .null], vm := .none },
  { cls := 12, slots := #[.null, .int 1, .int 0, .null], vm := .none },
  { cls := 12, slots := #[.null, .int 2, .int 0, .null], vm := .none },
  { cls := 12, slots := #[.null, .int 3, .int 0, .null], vm := .none }]
def classes : Array Class := #[k0, k1, k2, k3, k4, k5, k6, k7, k8, k9, k10, k11, k12, k13, k14, k15, k16, k17, k18, k19]
def interned : List (Array UInt16 × Addr) := []
def slotsUsed : Nat := 31
def theMethod : MethodId := ⟨1, 1⟩
def args0 : Array Value := #[.long 5, .long 7, .int 1, .long 3]
def aboutOver (below : List Frame) : State where
  vm := { classes := classes, interned := interned.toArray }
  heap := heap
  slotsUsed := slotsUsed
  threads := #[{ frames := .invoking theMethod args0 :: below }]
def below0 : List Frame := [.native { method := ⟨0, 0⟩, args := #[] }]
def about1 : State := aboutOver below0
def p0 : Program := .bare "" "" ""
def e0 : Env := launch0.env 0 0 0
theorem w_frames : about1.frames = Frame.invoking theMethod args0 :: below0 := rfl
set_option maxRecDepth 65536 in
theorem w_args : argsFit about1.vm theMethod args0 = true := by decide +kernel
set_option maxRecDepth 65536 in
theorem w_heap : heapFits about1 = true := by decide +kernel
set_option maxRecDepth 65536 in
theorem w_runnable : about1.curStatus? = some .runnable := by decide +kernel
set_option maxRecDepth 65536 in
theorem w_alone : about1.alone = true := by decide +kernel
set_option maxRecDepth 65536 in
theorem w_named : about1.methodNamed? x = some theMethod := by decide +kernel
set_option maxRecDepth 65536 in
theorem w_hears : about1.hears theMethod below0 = true := by decide +kernel
set_option maxRecDepth 65536 in
theorem w_ripe : about1.ripe theMethod args0 below0 = true := by decide +kernel
theorem w_running : about1.status = .running := rfl
set_option maxRecDepth 65536 in
theorem w_room : about1.hasRoom e0.platform room_1 = true :=
  launch0.hasRoom_least _ room_1 (by decide +kernel) (by decide +kernel) (by decide +kernel) (by decide +kernel) (by decide +kernel) (by decide +kernel)
theorem allAtoms_all (ts : List Jvm.Cond) (a : Array Jvm.Value) (st : Jvm.State) : (allAtoms ts).before a st = ts.all (fun c => c.before a st) := by
  induction ts with
  | nil => rfl
  | cons c t ih =>
    show (Jvm.Cond.and c (allAtoms t)).before a st = _
    rw [Jvm.Cond.before_and, ih, List.all_cons]
def words1 : List Jvm.Cond := Jvm.Cond.code x code maxLocals ret :: tables_1
/-- a 'code' word, met by the world's own term for the bytes: nothing is compared byte by byte -/
theorem code_word {y : MethodName} {bytes : ByteArray} {mx : Nat} {rt : Option FieldType} {a : Array Value} {s : State} {m : MethodId} {meth : Method} {c : Code} (h1 : s.methodNamed? y = some m) (h2 : s.vm.method? m = some meth) (h3 : meth.code = some c) (h4 : c.code = bytes)
    (h5 : (c.maxLocals == mx && c.exceptionTable.isEmpty && decide (c.maxStack ≤ mostOperands) && decide (meth.sig.returnType = rt) && !meth.locks && decide (parseMethodDescriptor y.desc = some meth.sig)) = true) : (Jvm.Cond.code y bytes mx rt).before a s = true := by
  simp only [Bool.and_eq_true, beq_iff_eq, Bool.not_eq_true', decide_eq_true_eq] at h5
  obtain ⟨⟨⟨⟨⟨g1, g2⟩, g3⟩, g4⟩, g5⟩, g6⟩ := h5
  simp [Cond.before, Cond.holds, Cond.value, h1, h2, h3, h4, g1, g2, g3, g4, g5, g6]
def isCode : Jvm.Cond → Bool
  | .code _ _ _ _ => true
  | _ => false
theorem all_split {L : List Jvm.Cond} {P : Jvm.Cond → Bool} (h1 : L.all (fun c => isCode c || P c) = true) (h2 : ∀ c ∈ L.filter isCode, P c = true) : L.all P = true := by
  refine List.all_eq_true.mpr fun c hc => ?_
  have h := List.all_eq_true.mp h1 c hc
  rcases Bool.eq_false_or_eq_true (isCode c) with hi | hi
  · exact h2 c (List.mem_filter.mpr ⟨hc, hi⟩)
  · simpa [hi] using h
set_option maxRecDepth 65536 in
theorem w_c0 : (Jvm.Cond.code x code maxLocals ret).before args0 about1 = true := code_word (m := ⟨1, 1⟩) (meth := k1m1) (c := k1c1) (by decide +kernel) rfl rfl rfl (by decide +kernel)
set_option maxRecDepth 65536 in
theorem w_c1 : (Jvm.Cond.code ({ cls := "java/lang/String", name := "valueOf", desc := "(C)Ljava/lang/String;" } : Jvm.MethodName) jdk_42_method_139_code (1 : Nat) (Option.some (Jvm.ClassFile.FieldType.object "java/lang/String"))).before args0 about1 = true := code_word (m := ⟨7, 1⟩) (meth := k7m1) (c := k7c1) (by decide +kernel) rfl rfl rfl (by decide +kernel)
set_option maxRecDepth 65536 in
theorem w_c2 : (Jvm.Cond.code ({ cls := "java/lang/StringLatin1", name := "canEncode", desc := "(C)Z" } : Jvm.MethodName) jdk_43_method_3_code (1 : Nat) (Option.some Jvm.ClassFile.FieldType.boolean)).before args0 about1 = true := code_word (m := ⟨8, 1⟩) (meth := k8m1) (c := k8c1) (by decide +kernel) rfl rfl rfl (by decide +kernel)
set_option maxRecDepth 65536 in
theorem w_c3 : (Jvm.Cond.code ({ cls := "java/lang/StringLatin1", name := "toBytes", desc := "(C)[B" } : Jvm.MethodName) jdk_43_method_46_code (1 : Nat) (Option.some (Jvm.ClassFile.FieldType.array Jvm.ClassFile.FieldType.byte))).before args0 about1 = true := code_word (m := ⟨8, 2⟩) (meth := k8m2) (c := k8c2) (by decide +kernel) rfl rfl rfl (by decide +kernel)
set_option maxRecDepth 65536 in
theorem w_c4 : (Jvm.Cond.code ({ cls := "java/lang/String", name := "<init>", desc := "([BB)V" } : Jvm.MethodName) jdk_42_method_151_code (3 : Nat) (Option.none : Option Jvm.ClassFile.FieldType)).before args0 about1 = true := code_word (m := ⟨7, 2⟩) (meth := k7m2) (c := k7c2) (by decide +kernel) rfl rfl rfl (by decide +kernel)
set_option maxRecDepth 65536 in
theorem w_c5 : (Jvm.Cond.code ({ cls := "java/lang/Object", name := "<init>", desc := "()V" } : Jvm.MethodName) object_method_1_code (1 : Nat) (Option.none : Option Jvm.ClassFile.FieldType)).before args0 about1 = true := code_word (m := ⟨0, 0⟩) (meth := k0m0) (c := k0c0) (by decide +kernel) rfl rfl rfl (by decide +kernel)
set_option maxRecDepth 65536 in
theorem w_c6 : (Jvm.Cond.code ({ cls := "com/example/stackledger/stackledger/Cleanup$Chosen", name := "<init>", desc := "(JJLjava/lang/String;JZJJZ)V" } : Jvm.MethodName) prog_6_method_1_code (14 : Nat) (Option.none : Option Jvm.ClassFile.FieldType)).before args0 about1 = true := code_word (m := ⟨10, 0⟩) (meth := k10m0) (c := k10c0) (by decide +kernel) rfl rfl rfl (by decide +kernel)
set_option maxRecDepth 65536 in
theorem w_c7 : (Jvm.Cond.code ({ cls := "java/lang/Record", name := "<init>", desc := "()V" } : Jvm.MethodName) jdk_30_method_1_code (1 : Nat) (Option.none : Option Jvm.ClassFile.FieldType)).before args0 about1 = true := code_word (m := ⟨9, 0⟩) (meth := k9m0) (c := k9c0) (by decide +kernel) rfl rfl rfl (by decide +kernel)
set_option maxRecDepth 65536 in
theorem w_c8 : (Jvm.Cond.code ({ cls := "com/example/stackledger/stackledger/Cleanup$Chosen", name := "action", desc := "()Lcom/example/stackledger/stackledger/Cleanup$Action;" } : Jvm.MethodName) prog_6_method_2_code (1 : Nat) (Option.some (Jvm.ClassFile.FieldType.object "com/example/stackledger/stackledger/Cleanup$Action"))).before args0 about1 = true := code_word (m := ⟨10, 1⟩) (meth := k10m1) (c := k10c1) (by decide +kernel) rfl rfl rfl (by decide +kernel)
def codes1 : List Jvm.Cond := [Jvm.Cond.code x code maxLocals ret, Jvm.Cond.code ({ cls := "java/lang/String", name := "valueOf", desc := "(C)Ljava/lang/String;" } : Jvm.MethodName) jdk_42_method_139_code (1 : Nat) (Option.some (Jvm.ClassFile.FieldType.object "java/lang/String")), Jvm.Cond.code ({ cls := "java/lang/StringLatin1", name := "canEncode", desc := "(C)Z" } : Jvm.MethodName) jdk_43_method_3_code (1 : Nat) (Option.some Jvm.ClassFile.FieldType.boolean), Jvm.Cond.code ({ cls := "java/lang/StringLatin1", name := "toBytes", desc := "(C)[B" } : Jvm.MethodName) jdk_43_method_46_code (1 : Nat) (Option.some (Jvm.ClassFile.FieldType.array Jvm.ClassFile.FieldType.byte)), Jvm.Cond.code ({ cls := "java/lang/String", name := "<init>", desc := "([BB)V" } : Jvm.MethodName) jdk_42_method_151_code (3 : Nat) (Option.none : Option Jvm.ClassFile.FieldType), Jvm.Cond.code ({ cls := "java/lang/Object", name := "<init>", desc := "()V" } : Jvm.MethodName) object_method_1_code (1 : Nat) (Option.none : Option Jvm.ClassFile.FieldType), Jvm.Cond.code ({ cls := "com/example/stackledger/stackledger/Cleanup$Chosen", name := "<init>", desc := "(JJLjava/lang/String;JZJJZ)V" } : Jvm.MethodName) prog_6_method_1_code (14 : Nat) (Option.none : Option Jvm.ClassFile.FieldType), Jvm.Cond.code ({ cls := "java/lang/Record", name := "<init>", desc := "()V" } : Jvm.MethodName) jdk_30_method_1_code (1 : Nat) (Option.none : Option Jvm.ClassFile.FieldType), Jvm.Cond.code ({ cls := "com/example/stackledger/stackledger/Cleanup$Chosen", name := "action", desc := "()Lcom/example/stackledger/stackledger/Cleanup$Action;" } : Jvm.MethodName) prog_6_method_2_code (1 : Nat) (Option.some (Jvm.ClassFile.FieldType.object "com/example/stackledger/stackledger/Cleanup$Action"))]
set_option maxRecDepth 65536 in
theorem codes_eq : words1.filter isCode = codes1 := rfl
theorem w_codes : ∀ c ∈ words1.filter isCode, c.before args0 about1 = true := by
  rw [codes_eq]
  intro c hc
  simp only [codes1, List.mem_cons, List.not_mem_nil, or_false] at hc
  rcases hc with rfl | rfl | rfl | rfl | rfl | rfl | rfl | rfl | rfl
  · exact w_c0
  · exact w_c1
  · exact w_c2
  · exact w_c3
  · exact w_c4
  · exact w_c5
  · exact w_c6
  · exact w_c7
  · exact w_c8
set_option maxRecDepth 65536 in
theorem w_t1 : (words1.take 24).all (fun c => isCode c || c.before args0 about1) = true := by decide +kernel
set_option maxRecDepth 65536 in
theorem w_t2 : ((words1.drop 24).take 24).all (fun c => isCode c || c.before args0 about1) = true := by decide +kernel
set_option maxRecDepth 65536 in
theorem w_t3 : (((words1.drop 24).drop 24).take 24).all (fun c => isCode c || c.before args0 about1) = true := by decide +kernel
set_option maxRecDepth 65536 in
theorem w_t4 : (((words1.drop 24).drop 24).drop 24).all (fun c => isCode c || c.before args0 about1) = true := by decide +kernel
theorem w_tables : (allAtoms (Jvm.Cond.code x code maxLocals ret :: tables_1)).before args0 about1 = true := by
  rw [allAtoms_all]
  show words1.all (fun c => c.before args0 about1) = true
  refine all_split ?_ w_codes
  rw [← List.take_append_drop 24 words1, List.all_append, w_t1, ← List.take_append_drop 24 (words1.drop 24), List.all_append, w_t2, ← List.take_append_drop 24 ((words1.drop 24).drop 24), List.all_append, w_t3, w_t4]
  rfl
set_option maxRecDepth 65536 in
theorem w_rest : rest_1_c.before args0 about1 = true := by decide +kernel
set_option maxRecDepth 65536 in
theorem w_case : (Jvm.Cond.and given_1 narrow_1).before args0 about1 = true := by decide +kernel
theorem w_applies : (headSpec (Jvm.Cond.code x code maxLocals ret :: tables_1) room_1).applies x e0.platform about1 = true :=
  (Spec.applies_iff w_frames).mpr ⟨w_running, w_runnable, w_alone, w_named, w_hears, w_ripe, w_room, w_tables⟩
theorem atStart : AtStart classFile x code maxLocals ret World_1 tables_1 room_1 Calls_1 rest_1 Pre_1 launch0 p0 e0 about1 theMethod args0 below0 :=
  ⟨lists_1, trivial, launch0.admits_env _ _ _, launch0.least_env, fairChoices_fair.cas, fairChoices_fair.clock, w_frames, w_args, w_heap, w_applies, trivial, w_rest, w_case⟩
end start1
theorem witness_1 : WitnessClaimed_1 := ⟨start1.p0, start1.e0, start1.about1, start1.theMethod, start1.args0, start1.below0, start1.atStart⟩
end Jvm.Pilot.@@N@@
