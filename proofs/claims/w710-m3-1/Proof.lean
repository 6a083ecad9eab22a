import JvmDerived
import JvmDerived.Pilot.@@N@@Statement
import JvmDerived.Pilot.@@N@@Code
set_option linter.unusedVariables false
set_option linter.unusedSimpArgs false
namespace Jvm.Pilot.@@N@@
open Jvm Jvm.ClassFile Sem Op Lib Jvm.Free Jvm.Stand Jvm.LawKit Jvm.RoadKit Bundle Jvm.Pilot.@@N@@.Jvm.D
section OwnKit
variable {p : Program} {l : Launch} {e : Env} {R : Room} {s : State} {m : MethodId} {args : Array Value} {below : List Frame} {meth : Method} {c : Code} {T : State} {locs : List Loc} {cells slots : Nat} {Z : State} {a0 : Array Value} {h h0 : Heap}
/-- the run comes from S to an end of which Q speaks -/
def Gl (p : Program) (e : Env) (below : List Frame) (s : State) (Q : Option Value → Heap → List Loc → Prop) (cc kk : Nat) (S : State) : Prop :=
  ∃ t o, Steps p.tables e below S t ∧ t.status = .running ∧ Ended t below o ∧ ∃ v L, o = .returned v ∧ Q v t.heap L ∧ FrameEnd s o t L cc kk
theorem Gl.pre {Q : Option Value → Heap → List Loc → Prop} {cc kk : Nat} {S S' : State} (st : ∀ t, Steps p.tables e below S' t → Steps p.tables e below S t) (k : Gl p e below s Q cc kk S') : Gl p e below s Q cc kk S := by
  obtain ⟨t, o, h1, h2⟩ := k
  exact ⟨t, o, st _ h1, h2⟩
theorem Gl.ret {Q : Option Value → Heap → List Loc → Prop} {cc kk : Nat} {S : State} (X : Stand p l e R s m args below meth c T locs cells slots) {v : Option Value} (hv : meth.sig.returnType = none → v = none) (hlocks : meth.locks = false) (hQ : Q v T.heap locs) (hc : cells ≤ cc) (hk : slots ≤ kk)
    (st : ∀ fs, (∀ (f : JFrame) (acts : List Action), f.method = m → f.locked = none → f.entered = [] → (doReturn e (T.setTop f) acts v).1 = T.setFrames fs) → Steps p.tables e below S (T.setFrames fs)) : Gl p e below s Q cc kk S := by
  obtain ⟨fs, hr, hrun, hended, hW, hsame⟩ := X.leave (v := v) hv hlocks
  exact ⟨_, _, st fs hr, hrun, hended, _, _, rfl, hQ, ⟨_, rfl⟩, hW, hsame.mono hc hk⟩
theorem Gl.fin {Q : Option Value → Heap → List Loc → Prop} {cc kk : Nat} {S : State} (X : Stand p l e R s m args below meth c T locs cells slots) {v : Option Value} (hv : meth.sig.returnType = none → v = none) (hlocks : meth.locks = false) (hQ : Q v h locs) (eT : T.heap = h) (hc : cells ≤ cc) (hk : slots ≤ kk)
    (st : ∀ fs, (∀ (f : JFrame) (acts : List Action), f.method = m → f.locked = none → f.entered = [] → (doReturn e (T.setTop f) acts v).1 = T.setFrames fs) → Steps p.tables e below S (T.setFrames fs)) : Gl p e below s Q cc kk S :=
  Gl.ret X hv hlocks (by rw [eT]; exact hQ) hc hk st
abbrev OMet (l : Launch) (Z : State) (y : MethodName) (bytes : ByteArray) (maxL : Nat) (ret : Option FieldType) (ws : List Jvm.Cond) (rm : Room) (as' : Array Value) (h0 : Heap) (Q : Option Value → Heap → List Loc → Prop) : Prop :=
  MetFree l y (head1 (Jvm.Cond.code y bytes maxL ret :: ws) rm) (fun a U => a = as' ∧ Z.Warmed39 U.vm ∧ U.heap = h0) (fun _ _ _ _ _ => True) (fun _ U o U' => ∃ v L, o = .returned v ∧ Q v U'.heap L ∧ FrameEnd U o U' L rm.cells rm.slots)
theorem own_body {y : MethodName} {bytes : ByteArray} {maxL : Nat} {ret : Option FieldType} {ws : List Jvm.Cond} {rm : Room} {as' : Array Value} {Q : Option Value → Heap → List Loc → Prop} (hx : plainFor y = true)
    (H : ∀ p e s m below meth c s₁, BodyLoose p l y (head1 (Jvm.Cond.code y bytes maxL ret :: ws) rm) bytes maxL ret e s m as' below meth c s₁ → c.maxLocals = maxL → Z.Warmed39 s.vm → s₁.heap = h0 → Gl p e below s Q rm.cells rm.slots (s₁.setTop (entryFrame m as' maxL))) :
    OMet l Z y bytes maxL ret ws rm as' h0 Q := by
  refine MetFree.of_bodySF hx hisR ?_
  intro p e s m args below meth c s₁ Bd hml0 hP hK
  obtain ⟨rfl, hZ, hh⟩ := hP
  exact H p e s m below meth c s₁ Bd hml0 hZ (by rw [← hh, Bd.state]; rfl)
/-- an int is returned -/
theorem own_retI (X : Stand p l e R s m args below meth c T locs cells slots) (hx : p.tables.exec = Jvm.exec) {pc : Nat} {Ls : Array Slot} {z : Int32} {rest : List Value} (hret : meth.sig.returnType = some .int) (hd : decode c.code pc = .ok (.ireturn, 1)) {fs : List Frame}
    (hl : ∀ (f : JFrame) (acts : List Action), f.method = m → f.locked = none → f.entered = [] → (doReturn e (T.setTop f) acts (some (.int z))).1 = T.setFrames fs) : Steps p.tables e below (T.setTop (mkF m pc Ls (.int z :: rest))) (T.setFrames fs) :=
  retOut X hx hret rfl (Or.inl ⟨rfl, Or.inl rfl, z, rfl⟩) hd hl
theorem own_retJ (X : Stand p l e R s m args below meth c T locs cells slots) (hx : p.tables.exec = Jvm.exec) {pc : Nat} {Ls : Array Slot} {z : Int64} {rest : List Value} (hret : meth.sig.returnType = some .long) (hd : decode c.code pc = .ok (.lreturn, 1)) {fs : List Frame}
    (hl : ∀ (f : JFrame) (acts : List Action), f.method = m → f.locked = none → f.entered = [] → (doReturn e (T.setTop f) acts (some (.long z))).1 = T.setFrames fs) : Steps p.tables e below (T.setTop (mkF m pc Ls (.long z :: rest))) (T.setFrames fs) :=
  retOut X hx hret rfl (Or.inr (Or.inl ⟨rfl, rfl, z, rfl⟩)) hd hl
theorem own_retD (X : Stand p l e R s m args below meth c T locs cells slots) (hx : p.tables.exec = Jvm.exec) {pc : Nat} {Ls : Array Slot} {z : UInt64} {rest : List Value} (hret : meth.sig.returnType = some .double) (hd : decode c.code pc = .ok (.dreturn, 1)) {fs : List Frame}
    (hl : ∀ (f : JFrame) (acts : List Action), f.method = m → f.locked = none → f.entered = [] → (doReturn e (T.setTop f) acts (some (.double z))).1 = T.setFrames fs) : Steps p.tables e below (T.setTop (mkF m pc Ls (.double z :: rest))) (T.setFrames fs) :=
  retOut X hx hret rfl (Or.inr (Or.inr (Or.inl ⟨rfl, rfl, z, rfl⟩))) hd hl
theorem own_retR (X : Stand p l e R s m args below meth c T locs cells slots) (hx : p.tables.exec = Jvm.exec) {pc : Nat} {Ls : Array Slot} {w : Value} {t : FieldType} {rest : List Value} (hret : meth.sig.returnType = some t) (ht : t.isReference = true) (hn : narrow t w = w) (hw : w.isRef = true) (hd : decode c.code pc = .ok (.areturn, 1)) {fs : List Frame}
    (hl : ∀ (f : JFrame) (acts : List Action), f.method = m → f.locked = none → f.entered = [] → (doReturn e (T.setTop f) acts (some w)).1 = T.setFrames fs) : Steps p.tables e below (T.setTop (mkF m pc Ls (w :: rest))) (T.setFrames fs) :=
  retOut X hx hret hn (Or.inr (Or.inr (Or.inr (Or.inr ⟨rfl, ht, hw⟩)))) hd hl
/-- a static method by its contract -/
theorem own_callS (X : Stand p l e R s m args below meth c T locs cells slots) (hx : p.tables.exec = Jvm.exec) (hZ : Z.Warmed39 s.vm) {own : String} {index : Nat} {y : MethodName} {bytes : ByteArray} {maxL : Nat} {ret : Option FieldType} {rm : Room} {Q : Option Value → Heap → List Loc → Prop}
    (hown : s.vm.findClass own = some m.cls) (w1 : (Jvm.Cond.methodLink own index y).before a0 Z = true) (w2 : (Jvm.Cond.static y).before a0 Z = true) (w3 : (Jvm.Cond.initialized y.cls).before a0 Z = true) (w4 : (Jvm.Cond.code y bytes maxL ret).before a0 Z = true)
    (hy : y.cls ≠ "java/lang/invoke/MethodHandle" ∧ y.cls ≠ "java/lang/invoke/VarHandle") {argsL rest : List Value} (hM : OMet l Z y bytes maxL ret [] rm argsL.toArray h Q) {W : Nat} (hf : rm.frames + 1 ≤ R.frames) (hl : W + (maxL + 11) + rm.locals ≤ R.locals) (hc : cells + rm.cells ≤ R.cells) (hs : slots + rm.slots ≤ R.slots)
    (eT : T.heap = h) {pc : Nat} {Ls : Array Slot} (hsize : Ls.size = c.maxLocals) (hlen : ∀ sig, parseMethodDescriptor y.desc = some sig → argsL.length = sig.parameters.length) (hW : (rest.map fun v => v.category).sum ≤ W) (hd : decode c.code pc = .ok (.invokestatic index, 3)) :
    ∃ (v : Option Value) (T' : State) (L : List Loc), Stand p l e R s m args below meth c T' (locs ++ L) (cells + rm.cells) (slots + rm.slots) ∧ Q v T'.heap L ∧
      ∀ t, Steps p.tables e below (T'.setTop (mkF m (pc + 3) Ls (v.toList ++ rest))) t → Steps p.tables e below (T.setTop (mkF m pc Ls (argsL.reverse ++ rest))) t := by
  obtain ⟨v, _, ⟨T', L', k', n'⟩, -, X', ⟨L, hQ, hl', hy', hz'⟩, st⟩ := Jvm.LawKit.callS X hx (y := y) hown (mvT hZ w1) (mvT hZ w2) (mvT hZ w3) (mvT hZ w4) hy (backOf (W := W) hM hZ w4 w3 hf hl) (g := mkF m pc Ls (argsL.reverse ++ rest)) rfl hsize (argsL := argsL) (rest := rest) hlen rfl (by show 2 * 0 + _ ≤ _; omega) hd (fun _ _ => ⟨rfl, eT, hc, hs⟩)
  dsimp only [Pt.U, Pt.locs, Pt.cells, Pt.slots] at X' hl' hy' hz' st hQ
  subst hl' hy' hz'
  exact ⟨v, T', L, X', hQ, st⟩
/-- a constructor by its contract -/
theorem own_callI (X : Stand p l e R s m args below meth c T locs cells slots) (hx : p.tables.exec = Jvm.exec) (hZ : Z.Warmed39 s.vm) {own : String} {index : Nat} {y : MethodName} {bytes : ByteArray} {maxL : Nat} {rm : Room} {Q : Option Value → Heap → List Loc → Prop} (hy1 : y.name = "<init>")
    (hown : s.vm.findClass own = some m.cls) (w1 : (Jvm.Cond.methodLink own index y).before a0 Z = true) (w2 : (Jvm.Cond.instanceMethod y).before a0 Z = true) (w3 : (Jvm.Cond.initialized y.cls).before a0 Z = true) (w4 : (Jvm.Cond.code y bytes maxL none).before a0 Z = true)
    (hy : y.cls ≠ "java/lang/invoke/MethodHandle" ∧ y.cls ≠ "java/lang/invoke/VarHandle") {a : Addr} {argsL rest : List Value} (hM : OMet l Z y bytes maxL none [] rm (.ref a :: argsL).toArray h Q) {W : Nat} (hf : rm.frames + 1 ≤ R.frames) (hl : W + (maxL + 11) + rm.locals ≤ R.locals) (hc : cells + rm.cells ≤ R.cells) (hs : slots + rm.slots ≤ R.slots)
    (eT : T.heap = h) {pc : Nat} {Ls : Array Slot} (hsize : Ls.size = c.maxLocals) (hlen : ∀ sig, parseMethodDescriptor y.desc = some sig → argsL.length = sig.parameters.length) (hW : (rest.map fun v => v.category).sum ≤ W) (hd : decode c.code pc = .ok (.invokespecial index, 3)) :
    ∃ (v : Option Value) (T' : State) (L : List Loc), Stand p l e R s m args below meth c T' (locs ++ L) (cells + rm.cells) (slots + rm.slots) ∧ Q v T'.heap L ∧
      ∀ t, Steps p.tables e below (T'.setTop (mkF m (pc + 3) Ls (v.toList ++ rest))) t → Steps p.tables e below (T.setTop (mkF m pc Ls (argsL.reverse ++ .ref a :: rest))) t := by
  obtain ⟨v, _, ⟨T', L', k', n'⟩, -, X', ⟨L, hQ, hl', hy', hz'⟩, st⟩ := X.specialBack hx (y := y) hy1 hown (mvT hZ w1) (mvT hZ w2) (mvT hZ w4) hy (backOf (W := W) hM hZ w4 w3 hf hl) (g := mkF m pc Ls (argsL.reverse ++ .ref a :: rest)) rfl hsize (Steps.refl _) (a := a) (argsL := argsL) (rest := rest) hlen rfl (by show 2 * 0 + _ ≤ _; omega) hd (fun _ _ => ⟨rfl, eT, hc, hs⟩)
  dsimp only [Pt.U, Pt.locs, Pt.cells, Pt.slots] at X' hl' hy' hz' st hQ
  subst hl' hy' hz'
  exact ⟨v, T', L, X', hQ, fun t k => st.trans k⟩
/-- an instance method by its contract, the receiver's class known -/
theorem own_callV (X : Stand p l e R s m args below meth c T locs cells slots) (hx : p.tables.exec = Jvm.exec) (hZ : Z.Warmed39 s.vm) {own C : String} {index : Nat} {y z : MethodName} {bytes : ByteArray} {maxL : Nat} {ret : Option FieldType} {rm : Room} {Q : Option Value → Heap → List Loc → Prop}
    (hown : s.vm.findClass own = some m.cls) (w1 : (Jvm.Cond.methodLink own index y).before a0 Z = true) (wd : (Jvm.Cond.declares y).before a0 Z = true) (hnf : NotFace s y) (ws : (Jvm.Cond.selects C y z).before a0 Z = true) (w2 : (Jvm.Cond.instanceMethod z).before a0 Z = true) (w3 : (Jvm.Cond.initialized z.cls).before a0 Z = true) (w4 : (Jvm.Cond.code z bytes maxL ret).before a0 Z = true)
    (hy : y.cls ≠ "java/lang/invoke/MethodHandle" ∧ y.cls ≠ "java/lang/invoke/VarHandle") {a : Addr} (E : Exa Z h a C) {argsL rest : List Value} (hM : OMet l Z z bytes maxL ret [] rm (.ref a :: argsL).toArray h Q) {W : Nat} (hf : rm.frames + 1 ≤ R.frames) (hl : W + (maxL + 11) + rm.locals ≤ R.locals) (hc : cells + rm.cells ≤ R.cells) (hs : slots + rm.slots ≤ R.slots)
    (eT : T.heap = h) {pc : Nat} {Ls : Array Slot} (hsize : Ls.size = c.maxLocals) (hlen : ∀ sig, parseMethodDescriptor y.desc = some sig → argsL.length = sig.parameters.length) (hW : (rest.map fun v => v.category).sum ≤ W) (hd : decode c.code pc = .ok (.invokevirtual index, 3)) :
    ∃ (v : Option Value) (T' : State) (L : List Loc), Stand p l e R s m args below meth c T' (locs ++ L) (cells + rm.cells) (slots + rm.slots) ∧ Q v T'.heap L ∧
      ∀ t, Steps p.tables e below (T'.setTop (mkF m (pc + 3) Ls (v.toList ++ rest))) t → Steps p.tables e below (T.setTop (mkF m pc Ls (argsL.reverse ++ .ref a :: rest))) t := by
  obtain ⟨cB, kB, q1, q2, q3⟩ := isOf hZ eT E
  obtain ⟨v, _, ⟨T', L', k', n'⟩, -, X', ⟨L, hQ, hl', hy', hz'⟩, st⟩ := X.virtualBack hx (y := y) (z := z) hown (mvT hZ w1) (mvT hZ wd) hnf (mvT hZ ws) (mvT hZ w2) hy (backOf (W := W) hM hZ w4 w3 hf hl) q1 q3 (g := mkF m pc Ls (argsL.reverse ++ .ref a :: rest)) rfl hsize (Steps.refl _) (argsL := argsL) (rest := rest) hlen rfl (by show 2 * 0 + _ ≤ _; omega) hd (fun _ _ => ⟨rfl, eT, hc, hs⟩)
  dsimp only [Pt.U, Pt.locs, Pt.cells, Pt.slots] at X' hl' hy' hz' st hQ
  subst hl' hy' hz'
  exact ⟨v, T', L, X', hQ, fun t k => st.trans k⟩
/-- an inherited instance method: the link names a class that doesn't declare it -/
theorem own_callU (X : Stand p l e R s m args below meth c T locs cells slots) (hx : p.tables.exec = Jvm.exec) (hZ : Z.Warmed39 s.vm) {own C owner : String} {index : Nat} {y z : MethodName} {bytes : ByteArray} {maxL : Nat} {ret : Option FieldType} {rm : Room} {Q : Option Value → Heap → List Loc → Prop}
    (hown : s.vm.findClass own = some m.cls) (w1 : (Jvm.Cond.methodLink own index y).before a0 Z = true) (wm : (Jvm.Cond.sameMethod y.cls owner y.name y.desc).before a0 Z = true) (wd : (Jvm.Cond.declares ⟨owner, y.name, y.desc⟩).before a0 Z = true) (ws : (Jvm.Cond.selects C y z).before a0 Z = true) (w2 : (Jvm.Cond.instanceMethod z).before a0 Z = true) (w3 : (Jvm.Cond.initialized z.cls).before a0 Z = true) (w4 : (Jvm.Cond.code z bytes maxL ret).before a0 Z = true)
    (hy : owner ≠ "java/lang/invoke/MethodHandle" ∧ owner ≠ "java/lang/invoke/VarHandle") {a : Addr} (E : Exa Z h a C) {argsL rest : List Value} (hM : OMet l Z z bytes maxL ret [] rm (.ref a :: argsL).toArray h Q) {W : Nat} (hf : rm.frames + 1 ≤ R.frames) (hl : W + (maxL + 11) + rm.locals ≤ R.locals) (hc : cells + rm.cells ≤ R.cells) (hs : slots + rm.slots ≤ R.slots)
    (eT : T.heap = h) {pc : Nat} {Ls : Array Slot} (hsize : Ls.size = c.maxLocals) (hlen : ∀ sig, parseMethodDescriptor y.desc = some sig → argsL.length = sig.parameters.length) (hW : (rest.map fun v => v.category).sum ≤ W) (hd : decode c.code pc = .ok (.invokevirtual index, 3)) :
    ∃ (v : Option Value) (T' : State) (L : List Loc), Stand p l e R s m args below meth c T' (locs ++ L) (cells + rm.cells) (slots + rm.slots) ∧ Q v T'.heap L ∧
      ∀ t, Steps p.tables e below (T'.setTop (mkF m (pc + 3) Ls (v.toList ++ rest))) t → Steps p.tables e below (T.setTop (mkF m pc Ls (argsL.reverse ++ .ref a :: rest))) t := by
  obtain ⟨cB, kB, q1, q2, q3⟩ := isOf hZ eT E
  obtain ⟨v, _, ⟨T', L', k', n'⟩, -, X', ⟨L, hQ, hl', hy', hz'⟩, st⟩ := X.virtualBackUp hx (x := y) (y := z) (owner := owner) hown (mvT hZ w1) (mvT hZ wm) (mvT hZ wd) hy (mvT hZ ws) (mvT hZ w2) (backOf (W := W) hM hZ w4 w3 hf hl) q1 q3 (g := mkF m pc Ls (argsL.reverse ++ .ref a :: rest)) rfl hsize (Steps.refl _) (argsL := argsL) (rest := rest) hlen rfl (by show 2 * 0 + _ ≤ _; omega) hd (fun _ _ => ⟨rfl, eT, hc, hs⟩)
  dsimp only [Pt.U, Pt.locs, Pt.cells, Pt.slots] at X' hl' hy' hz' st hQ
  subst hl' hy' hz'
  exact ⟨v, T', L, X', hQ, fun t k => st.trans k⟩
/-- an interface's method by the contract of the body that the receiver's class selects -/
theorem own_callF (X : Stand p l e R s m args below meth c T locs cells slots) (hx : p.tables.exec = Jvm.exec) (hZ : Z.Warmed39 s.vm) {own C : String} {index count : Nat} {y z : MethodName} {bytes : ByteArray} {maxL : Nat} {ret : Option FieldType} {rm : Room} {Q : Option Value → Heap → List Loc → Prop}
    (hown : s.vm.findClass own = some m.cls) (w1 : (Jvm.Cond.methodLink own index y).before a0 Z = true) (wd : (Jvm.Cond.declares y).before a0 Z = true) (wf : (Jvm.Cond.interfaceMethod y.cls y.cls y.name y.desc).before args s = true) (ws : (Jvm.Cond.selects C y z).before a0 Z = true) (w2 : (Jvm.Cond.instanceMethod z).before a0 Z = true) (wp : (Jvm.Cond.publicMethod z).before a0 Z = true) (wu : (Jvm.Cond.unhidden C y.name y.desc).before a0 Z = true) (wc : (Jvm.Cond.castable C y.cls).before a0 Z = true) (w3 : (Jvm.Cond.initialized z.cls).before a0 Z = true) (w4 : (Jvm.Cond.code z bytes maxL ret).before a0 Z = true)
    (hy : y.cls ≠ "java/lang/invoke/MethodHandle" ∧ y.cls ≠ "java/lang/invoke/VarHandle") {a : Addr} (E : Exa Z h a C) {argsL rest : List Value} (hM : OMet l Z z bytes maxL ret [] rm (.ref a :: argsL).toArray h Q) {W : Nat} (hf : rm.frames + 1 ≤ R.frames) (hl : W + (maxL + 11) + rm.locals ≤ R.locals) (hc : cells + rm.cells ≤ R.cells) (hs : slots + rm.slots ≤ R.slots)
    (eT : T.heap = h) {pc : Nat} {Ls : Array Slot} (hsize : Ls.size = c.maxLocals) (hlen : ∀ sig, parseMethodDescriptor y.desc = some sig → argsL.length = sig.parameters.length) (hW : (rest.map fun v => v.category).sum ≤ W) (hd : decode c.code pc = .ok (.invokeinterface index count, 5)) :
    ∃ (v : Option Value) (T' : State) (L : List Loc), Stand p l e R s m args below meth c T' (locs ++ L) (cells + rm.cells) (slots + rm.slots) ∧ Q v T'.heap L ∧
      ∀ t, Steps p.tables e below (T'.setTop (mkF m (pc + 5) Ls (v.toList ++ rest))) t → Steps p.tables e below (T.setTop (mkF m pc Ls (argsL.reverse ++ .ref a :: rest))) t := by
  obtain ⟨cB, kB, q1, q2, q3⟩ := isOf hZ eT E
  obtain ⟨v, _, ⟨T', L', k', n'⟩, -, X', ⟨L, hQ, hl', hy', hz'⟩, st⟩ := X.interfaceBack hx (xi := y) (y := z) hown (mvT hZ w1) (mvT hZ wd) wf (mvT hZ ws) (mvT hZ w2) (mvT hZ wp) (mvT hZ wu) (mvT hZ wc) hy (backOf (W := W) hM hZ w4 w3 hf hl) q1 q2 q3 (g := mkF m pc Ls (argsL.reverse ++ .ref a :: rest)) rfl hsize (Steps.refl _) (argsL := argsL) (rest := rest) hlen rfl (by show 2 * 0 + _ ≤ _; omega) hd (fun _ _ => ⟨rfl, eT, hc, hs⟩)
  dsimp only [Pt.U, Pt.locs, Pt.cells, Pt.slots] at X' hl' hy' hz' st hQ
  subst hl' hy' hz'
  exact ⟨v, T', L, X', hQ, fun t k => st.trans k⟩
theorem own_hc {T : State} {h : Heap} {a : Addr} {cl : Cell} (q : T.heap = h) (r : h[a]? = some cl) : T.heap[a]? = some cl := by rw [q]; exact r
/-- what a Bool is as Java's int -/
def b2i (b : Bool) : Int32 := if b then 1 else 0
theorem b2i_t {b : Bool} (h : b = true) : b2i b = 1 := by simp [b2i, h]
theorem b2i_f {b : Bool} (h : b = false) : b2i b = 0 := by simp [b2i, h]
theorem b2i_inj {a b : Bool} : b2i a = b2i b ↔ a = b := by cases a <;> cases b <;> decide
/-- the branches' conditions in plain words -/
theorem ic_lt (x y : Int32) : if_icmp.holds .lt x y = decide (x < y) := by by_cases q : x < y <;> simp [q, tlt, flt]
theorem ic_ge (x y : Int32) : if_icmp.holds .ge x y = !decide (x < y) := by by_cases q : x < y <;> simp [q, tlt, flt]
theorem ic_gt (x y : Int32) : if_icmp.holds .gt x y = decide (y < x) := by by_cases q : y < x <;> simp [q, tlt, flt]
theorem ic_le (x y : Int32) : if_icmp.holds .le x y = !decide (y < x) := by by_cases q : y < x <;> simp [q, tlt, flt]
theorem ic_eq (x y : Int32) : if_icmp.holds .eq x y = decide (x = y) := by by_cases q : x = y <;> simp [q, teq, feq]
theorem ic_ne (x y : Int32) : if_icmp.holds .ne x y = !decide (x = y) := by by_cases q : x = y <;> simp [q, teq, feq]
theorem i0_lt (x : Int32) : ifCond.holds .lt x = decide (x < 0) := (if0 _ _).trans (ic_lt x 0)
theorem i0_ge (x : Int32) : ifCond.holds .ge x = !decide (x < 0) := (if0 _ _).trans (ic_ge x 0)
theorem i0_gt (x : Int32) : ifCond.holds .gt x = decide (0 < x) := (if0 _ _).trans (ic_gt x 0)
theorem i0_le (x : Int32) : ifCond.holds .le x = !decide (0 < x) := (if0 _ _).trans (ic_le x 0)
theorem i0_eq (x : Int32) : ifCond.holds .eq x = decide (x = 0) := (if0 _ _).trans (ic_eq x 0)
theorem i0_ne (x : Int32) : ifCond.holds .ne x = !decide (x = 0) := (if0 _ _).trans (ic_ne x 0)
theorem lw_lt (x y : Int64) : lcmpW x y < 0 ↔ x < y := by rw [lcW]; exact Jvm.RoadKit.lc_lt x y
theorem lw_gt (x y : Int64) : 0 < lcmpW x y ↔ y < x := by rw [lcW]; exact Jvm.RoadKit.lc_gt x y
theorem lw_eq (x y : Int64) : lcmpW x y = 0 ↔ x = y := by rw [lcW]; exact Jvm.RoadKit.lc_eq x y
theorem l0_lt (x y : Int64) : ifCond.holds .lt (lcmpW x y) = decide (x < y) := (i0_lt _).trans (by simp [lw_lt])
theorem l0_ge (x y : Int64) : ifCond.holds .ge (lcmpW x y) = !decide (x < y) := (i0_ge _).trans (by simp [lw_lt])
theorem l0_gt (x y : Int64) : ifCond.holds .gt (lcmpW x y) = decide (y < x) := (i0_gt _).trans (by simp [lw_gt])
theorem l0_le (x y : Int64) : ifCond.holds .le (lcmpW x y) = !decide (y < x) := (i0_le _).trans (by simp [lw_gt])
theorem l0_eq (x y : Int64) : ifCond.holds .eq (lcmpW x y) = decide (x = y) := (i0_eq _).trans (by simp [lw_eq])
theorem l0_ne (x y : Int64) : ifCond.holds .ne (lcmpW x y) = !decide (x = y) := (i0_ne _).trans (by simp [lw_eq])
theorem b0_eq (b : Bool) : ifCond.holds .eq (b2i b) = !b := by cases b <;> decide
theorem b0_ne (b : Bool) : ifCond.holds .ne (b2i b) = b := by cases b <;> decide
theorem own_t {P : Prop} [Decidable P] {u : Bool} (q : u = decide P) (hp : P) : u = true := by rw [q]; exact decide_eq_true hp
theorem own_f {P : Prop} [Decidable P] {u : Bool} (q : u = decide P) (hp : ¬ P) : u = false := by rw [q]; exact decide_eq_false hp
theorem own_nt {P : Prop} [Decidable P] {u : Bool} (q : u = !decide P) (hp : ¬ P) : u = true := by rw [q]; simp [hp]
theorem own_nf {P : Prop} [Decidable P] {u : Bool} (q : u = !decide P) (hp : P) : u = false := by rw [q]; simp [hp]
theorem own_bt {u b : Bool} (q : u = b) (hp : b = true) : u = true := q.trans hp
theorem own_bf {u b : Bool} (q : u = b) (hp : b = false) : u = false := q.trans hp
theorem own_nbt {u b : Bool} (q : u = !b) (hp : b = false) : u = true := by rw [q, hp]; rfl
theorem own_nbf {u b : Bool} (q : u = !b) (hp : b = true) : u = false := by rw [q, hp]; rfl
theorem own_retN (X : Stand p l e R s m args below meth c T locs cells slots) (hx : p.tables.exec = Jvm.exec) {pc : Nat} {Ls : Array Slot} {z z' : Int32} {t : FieldType} {rest : List Value} (hret : meth.sig.returnType = some t) (ht : t = .boolean ∨ t = .byte ∨ t = .char ∨ t = .short) (hn : nar t z = z')
    (hd : decode c.code pc = .ok (.ireturn, 1)) {fs : List Frame} (hl : ∀ (f : JFrame) (acts : List Action), f.method = m → f.locked = none → f.entered = [] → (doReturn e (T.setTop f) acts (some (.int z'))).1 = T.setFrames fs) :
    Steps p.tables e below (T.setTop (mkF m pc Ls (.int z :: rest))) (T.setFrames fs) := by
  subst hn
  exact retN X hx hret ht hd hl
theorem own_nar_b2i (b : Bool) : nar .boolean (b2i b) = b2i b := by cases b <;> decide
theorem own_narrow_b2i (b : Bool) : narrow .boolean (.int (b2i b)) = .int (b2i b) := by cases b <;> rfl
theorem own_fits_b2i (b : Bool) : fits .boolean (.int (b2i b)) = true := by cases b <;> rfl
theorem own_nar_i2b (x : Int32) : nar .byte x.toInt8.toInt32 = x.toInt8.toInt32 := by simp [nar]
theorem own_lrem (x y : Int64) : x - x / y * y = x % y := by
  apply Int64.toInt_inj.mp
  have h1 := Int64.le_toInt (x % y)
  have h2 := Int64.toInt_lt (x % y)
  have e : x.toInt - y.toInt * x.toInt.tdiv y.toInt = x.toInt.tmod y.toInt := (Int.tmod_def _ _).symm
  rw [Int64.toInt_sub, Int64.toInt_mul, Int64.toInt_div, Int.bmod_mul_bmod, Int.sub_bmod_bmod, Int.mul_comm (x.toInt.tdiv y.toInt), e, ← Int64.toInt_mod]
  exact Int.bmod_eq_of_le_mul_two (by omega) (by omega)
/-- getfield by an entry that is resolved already -/
theorem own_getFR (X : Stand p l e R s m args below meth c T locs cells slots) (hx : p.tables.exec = Jvm.exec) (hZ : Z.Warmed39 s.vm) {own O n d : String} {index : Nat} (hown : s.vm.findClass own = some m.cls) (w : (Jvm.Cond.fieldRef own index O n d).before a0 Z = true)
    (eT : T.heap = h) {a : Addr} {v : Value} (F : Fld Z h a O n d v) {g : JFrame} (hg : g.method = m) {rest : List Value} (hs : g.stack = .ref a :: rest) (hd : decode c.code g.pc = .ok (.getfield index, 3)) : ∃ T', Stand p l e R s m args below meth c T' locs cells slots ∧ T'.heap = h ∧ ∀ target, Steps p.tables e below (T'.setTop { g with pc := g.pc + 3, stack := v :: rest }) target → Steps p.tables e below (T.setTop g) target := by
  have hZT : Z.Warmed39 T.vm := wtrans hZ X.warmed
  have w' := Cond.fieldRef_warmed39 hZT w
  have hcur : (Z.setVm T.vm).vm.findClass own = some m.cls := (X.warmed.alike.findClass own _).trans hown
  obtain ⟨c', k', i', f', h1, hready⟩ := Cond.fieldRef_spec (s := Z.setVm T.vm) hcur w'
  obtain ⟨cell, cf, k, i, f, g1, g2, g3, g4, -, -, g7⟩ := F
  obtain ⟨k2, hi, -⟩ := State.fieldFound?_setVm (s := Z) hZT.alike g2
  have q := Option.some.inj (h1.symm.trans hi)
  simp only [Prod.mk.injEq] at q
  obtain ⟨rfl, -, -, rfl⟩ := q
  exact ⟨T, X, eT, fun target kt => (X.getfieldR hx hg hready g3 hs (by rw [eT]; exact g1) g4 g7 hd (Steps.refl _)).trans kt⟩
/-- the case's words on statics and fields, at the start -/
theorem own_sx {C n d K : String} (w1 : (Jvm.Cond.initialized C).before args s = true) (w2 : (Jvm.Cond.laysStatic C n d).before args s = true) (q : (Jvm.Cond.exactly (Term.static C n d) K).value args s none s [] = some true) : ∃ a : Addr, (Term.static C n d).eval args s none [] s = some (.ref a) ∧ Sta s s.heap C n d (.ref a) ∧ Exa s s.heap a K := by
  obtain ⟨a, ev⟩ := exa_v q
  exact ⟨a, ev, Sta.start ev (Or.inr ⟨w1, w2⟩), Exa.start ev q⟩
theorem own_fi {t : Term} {a : Addr} {C n d : String} {k : Int32} (ev : t.eval args s none [] s = some (.ref a)) (q : (Jvm.Cond.eq (Term.field t C n d) (Term.int k)).value args s none s [] = some true) : Fld s s.heap a C n d (.int k) := by
  obtain ⟨x, y, h1, h2, h3, h4⟩ := cmp_v (Or.inl q)
  have h5 : y = .int k := (Option.some.inj (h2.symm.trans (Term.int_eval k)) : _)
  subst h5
  obtain ⟨z, rfl⟩ : ∃ z, x = .int z := h4
  have e2 := h1
  rw [fld_at ev] at h1
  simp [Cond.value, e2, h2] at q
  subst q
  exact Fld.start h1
theorem own_fx {t : Term} {a : Addr} {C n d K : String} (ev : t.eval args s none [] s = some (.ref a)) (q : (Jvm.Cond.exactly (Term.field t C n d) K).value args s none s [] = some true) : ∃ b : Addr, (Term.field t C n d).eval args s none [] s = some (.ref b) ∧ Fld s s.heap a C n d (.ref b) ∧ Exa s s.heap b K := by
  obtain ⟨b, ev2⟩ := exa_v q
  exact ⟨b, ev2, Fld.start ((fld_at ev).symm.trans ev2), Exa.start ev2 q⟩
/-- a class that the chain of superclasses doesn't meet: its own word is 'instantiable' -/
theorem own_ns_root {Z : State} {a0 : Array Value} {O K : String} {n : Nat} (w : (Jvm.Cond.noSuperclass O).before a0 Z = true) (wi : (Jvm.Cond.instantiable K n).before a0 Z = true) (hn : O ≠ K) : NS Z O K := by
  obtain ⟨c, k, h1, h2, h3, -, -⟩ := Cond.noSuperclass_spec w
  obtain ⟨t, kt, g1, -⟩ := Cond.instantiable_spec wi
  have ne := ids_ne h1 g1 hn
  refine ⟨c, t, h1, g1, fun fuel => ?_⟩
  cases fuel with
  | zero => rfl
  | succ f => simp [Vm.isSubclassAux, ne, h2, h3]
theorem own_ns_no {Z : State} {a0 : Array Value} {C S K : String} {n : Nat} (w : (Jvm.Cond.superclass C S).before a0 Z = true) (wi : (Jvm.Cond.instantiable K n).before a0 Z = true) (q : NS Z C K) (hn : C ≠ K) : ∃ c t, Z.vm.findClass C = some c ∧ Z.vm.findClass K = some t ∧ Z.vm.assignable c t = false := by
  obtain ⟨c, t, h0, g0, n3⟩ := q
  obtain ⟨p, k, kp, h1, h2, h3, h4, h5, -, h7⟩ := Cond.superclass_spec h0 w
  obtain ⟨t', kt, g1, g2, g3, g4, -, -⟩ := Cond.instantiable_spec wi
  cases g0.symm.trans g1
  have g5 : kt.isInterface = false := by simp only [Bool.or_eq_false_iff] at g4; exact g4.1
  have ne := ids_ne h0 g0 hn
  refine ⟨c, t, h0, g0, ?_⟩
  show Z.vm.assignableAux (255 + 1) c t = false
  simp [Vm.assignableAux, ne, h2, g2, h5, g3, g5, Vm.isSubclass, n3]
/-- a static's cell isn't written by one who writes objects alone -/
theorem own_sta_keep {Z : State} {h h' : Heap} {C n d : String} {v : Value} {ws : List Addr} (F : Sta Z h C n d v) (K : Keep h h' ws) (q : ∀ x ∈ ws, ∃ C', Exa Z h x C') : Sta Z h' C n d v := by
  obtain ⟨cf, i, k, f, st, cell, h1, h2, h3, h4, h5, h6, h7⟩ := F
  refine ⟨cf, i, k, f, st, cell, h1, h2, h3, h4, K.2.1 st cell h5 (fun r => ?_), h6, h7⟩
  obtain ⟨C', c', k', g1, -, -, g4, -⟩ := q st r
  rw [h5] at g1
  cases g1
  rw [h6] at g4
  cases g4
theorem own_ne32 {x y : Int32} (h : x ≠ y) : Value.int x ≠ Value.int y := fun q => h (Value.int.inj q)
end OwnKit
theorem own_and31 (p : Int32) : 0 ≤ (p &&& 2147483647).toInt := by
  have h : (p &&& 2147483647).toInt = (p &&& 2147483647).toBitVec.toInt := rfl
  rw [h, Int32.toBitVec_and]
  have e : (2147483647 : Int32).toBitVec = 2147483647#32 := rfl
  rw [e, BitVec.toInt_eq_toNat_cond, BitVec.toNat_and]
  have : p.toBitVec.toNat &&& (2147483647#32).toNat ≤ 2147483647 := Nat.and_le_right
  split <;> omega
theorem own_mod (p n : Int32) (hn : 0 < n.toInt) : 0 ≤ ((p &&& 2147483647) % n).toInt ∧ ((p &&& 2147483647) % n).toInt < n.toInt := by
  rw [Int32.toInt_mod]
  have h := own_and31 p
  rw [Int.tmod_eq_emod_of_nonneg h]
  exact ⟨Int.emod_nonneg _ (by omega), Int.emod_lt_of_pos _ hn⟩
theorem own_and64_63 (p : Int64) : 0 ≤ (p &&& 9223372036854775807).toInt := by
  have h : (p &&& 9223372036854775807).toInt = (p &&& 9223372036854775807).toBitVec.toInt := rfl
  rw [h, Int64.toBitVec_and]
  have e : (9223372036854775807 : Int64).toBitVec = 9223372036854775807#64 := rfl
  rw [e, BitVec.toInt_eq_toNat_cond, BitVec.toNat_and]
  have : p.toBitVec.toNat &&& (9223372036854775807#64).toNat ≤ 9223372036854775807 := Nat.and_le_right
  split <;> omega
theorem own_e99 : (99999999 : Int64).toInt = 99999999 := by decide
theorem own_e1 : (1 : Int64).toInt = 1 := by decide
theorem own_cents (q : Int64) : 1 ≤ (1 + (q &&& 9223372036854775807) % 1599999984).toInt ∧ (1 + (q &&& 9223372036854775807) % 1599999984).toInt ≤ 1599999984 := by
  have h := own_and64_63 q
  have e : (1599999984 : Int64).toInt = 1599999984 := by decide
  rw [Int64.toInt_add, Int64.toInt_mod, e, own_e1, Int.tmod_eq_emod_of_nonneg h]
  have h1 := Int.emod_nonneg (q &&& 9223372036854775807).toInt (show (1599999984 : Int) ≠ 0 by decide)
  have h2 := Int.emod_lt_of_pos (q &&& 9223372036854775807).toInt (show (0 : Int) < 1599999984 by decide)
  rw [Int.bmod_eq_of_le (by omega) (by omega)]
  omega
/-- how many amounts -/
def own_N (c : Int64) : Nat := ((c.toInt - 1) / 99999999).toNat + 1
theorem own_N_le {c : Int64} (h1 : 1 ≤ c.toInt) (h2 : c.toInt ≤ 1599999984) : 1 ≤ own_N c ∧ own_N c ≤ 16 := by
  unfold own_N
  omega
theorem own_div {c : Int64} (h1 : 0 ≤ c.toInt) (h2 : c.toInt ≤ 1599999984) : (c / 99999999).toInt = c.toInt / 99999999 := by
  rw [Int64.toInt_div, own_e99, Int.tdiv_eq_ediv_of_nonneg h1]
  exact Int.bmod_eq_of_le (by omega) (by omega)
theorem own_mod99 {c : Int64} (h1 : 0 ≤ c.toInt) : (c % 99999999).toInt = c.toInt % 99999999 := by
  rw [Int64.toInt_mod, own_e99, Int.tmod_eq_emod_of_nonneg h1]
theorem own_sub1 {c : Int64} (h1 : 1 ≤ c.toInt) : (c - 1).toInt = c.toInt - 1 := by
  have := c.toInt_lt
  rw [Int64.toInt_sub, own_e1]
  exact Int.bmod_eq_of_le (by omega) (by omega)
theorem own_n {c : Int64} (h1 : 1 ≤ c.toInt) (h2 : c.toInt ≤ 1599999984) : ((c - 1) / 99999999 + 1).toInt = own_N c := by
  have e := own_sub1 h1
  have e2 := own_div (c := c - 1) (by omega) (by omega)
  rw [Int64.toInt_add, e2, e, own_e1, Int.bmod_eq_of_le (by omega) (by omega)]
  unfold own_N
  omega
theorem own_o32 {n : Nat} (h : n ≤ 16) : (Int32.ofNat n).toInt = n := Int32.toInt_ofNat_of_lt (by omega)
theorem own_toI {x : Int64} {n : Nat} (h : n ≤ 16) (e : x.toInt = n) : x.toInt32 = Int32.ofNat n := by
  rw [← Int32.toInt_inj, own_o32 h, Int64.toInt_toInt32, e]
  exact Int.bmod_eq_of_le (by omega) (by omega)
theorem own_back {x : Int64} {n : Nat} (h : n ≤ 16) (e : x.toInt = n) : x.toInt32.toInt64 = x := by
  rw [own_toI h e, ← Int64.toInt_inj, Int32.toInt_toInt64, own_o32 h, e]
/-- the last amount -/
def own_last (c : Int64) : Int64 := c - (Int32.ofNat (own_N c) - 1).toInt64 * 99999999
theorem own_last_i {c : Int64} (h1 : 1 ≤ c.toInt) (h2 : c.toInt ≤ 1599999984) : (own_last c).toInt = c.toInt - ((own_N c : Int) - 1) * 99999999 := by
  have hN := own_N_le h1 h2
  have e32 : (1 : Int32).toInt = 1 := by decide
  have e : ((Int32.ofNat (own_N c) - 1).toInt64).toInt = (own_N c : Int) - 1 := by
    rw [Int32.toInt_toInt64, Int32.toInt_sub, own_o32 hN.2, e32]
    exact Int.bmod_eq_of_le (by omega) (by omega)
  unfold own_last
  rw [Int64.toInt_sub, Int64.toInt_mul, e, own_e99]
  have k : ((own_N c : Int) - 1) * 99999999 ≤ 1599999984 := by omega
  have k0 : 0 ≤ ((own_N c : Int) - 1) * 99999999 := by omega
  have k2 : (((own_N c : Int) - 1) * 99999999).bmod (2 ^ 64) = ((own_N c : Int) - 1) * 99999999 := Int.bmod_eq_of_le (by omega) (by omega)
  rw [k2]
  exact Int.bmod_eq_of_le (by omega) (by omega)
theorem own_r0 {c : Int64} (h1 : 1 ≤ c.toInt) (h2 : c.toInt ≤ 1599999984) (h : c % 99999999 = 0) : (c / 99999999).toInt32 = Int32.ofNat (own_N c) ∧ own_last c = 99999999 := by
  have hN := own_N_le h1 h2
  have e := congrArg Int64.toInt h
  rw [own_mod99 (by omega)] at e
  have e0 : (0 : Int64).toInt = 0 := by decide
  rw [e0] at e
  have d := own_div (c := c) (by omega) h2
  constructor
  · refine own_toI hN.2 ?_
    rw [d]; unfold own_N; omega
  · rw [← Int64.toInt_inj, own_last_i h1 h2, own_e99]; unfold own_N; omega
theorem own_r1 {c : Int64} (h1 : 1 ≤ c.toInt) (h2 : c.toInt ≤ 1599999984) (h : ¬ c % 99999999 = 0) : (c / 99999999).toInt32 + 1 = Int32.ofNat (own_N c) ∧ own_last c = c % 99999999 := by
  have hN := own_N_le h1 h2
  have e : (c % 99999999).toInt ≠ 0 := fun q => h (by rw [← Int64.toInt_inj, q]; decide)
  rw [own_mod99 (by omega)] at e
  have d := own_div (c := c) (by omega) h2
  have e32 : (1 : Int32).toInt = 1 := by decide
  constructor
  · have t := own_toI (x := c / 99999999) (n := own_N c - 1) (by omega) (by rw [d]; unfold own_N; omega)
    rw [t, ← Int32.toInt_inj, Int32.toInt_add, own_o32 hN.2, own_o32 (by omega), e32, Int.bmod_eq_of_le (by omega) (by omega)]
    omega
  · rw [← Int64.toInt_inj, own_last_i h1 h2, own_mod99 (by omega)]; unfold own_N; omega
theorem own_o_lt {i n : Nat} (hi : i ≤ 16) (hn : n ≤ 16) : Int32.ofNat i < Int32.ofNat n ↔ i < n := by
  rw [Int32.lt_iff_toInt_lt, own_o32 hi, own_o32 hn]; omega
theorem own_o_nat {i : Nat} (hi : i ≤ 16) : (Int32.ofNat i).toNatClampNeg = i := by
  simp only [Int32.toNatClampNeg, own_o32 hi]; omega
theorem own_o_sub {n : Nat} (h1 : 1 ≤ n) (hn : n ≤ 16) : Int32.ofNat n - 1 = Int32.ofNat (n - 1) := by
  have e32 : (1 : Int32).toInt = 1 := by decide
  rw [← Int32.toInt_inj, Int32.toInt_sub, own_o32 hn, own_o32 (by omega), e32, Int.bmod_eq_of_le (by omega) (by omega)]
  omega
theorem own_o_nn {n : Nat} (h : n ≤ 16) : ¬ Int32.ofNat n < 0 := by
  rw [Int32.lt_iff_toInt_lt, own_o32 h]
  have e : (0 : Int32).toInt = 0 := by decide
  omega
theorem own_o_ne {n : Nat} (h1 : 1 ≤ n) (h : n ≤ 16) : Int32.ofNat n ≠ 0 := fun q => by
  have := congrArg Int32.toInt q
  rw [own_o32 h] at this
  have e : (0 : Int32).toInt = 0 := by decide
  omega
def ArJ (Z : State) (h : Heap) (a : Addr) (n : Nat) (f : Nat → Int64) : Prop := ∃ c : Cell, Arr Z h a c .long ∧ c.slots.size = n ∧ ∀ i, i < n → c.slots[i]? = some (.long (f i))
theorem ArJ.new {Z : State} {h : Heap} {a : Addr} {k : ClassId} {z : Int32} {n : Nat} (F : Arv Z h a k .long z [] (.long (0 : Int64))) (e : z.toNatClampNeg = n) : ArJ Z h a n (fun _ => 0) := by
  obtain ⟨c, A, -, S, -, H, -⟩ := F
  exact ⟨c, A, S.trans e, fun i hi => by have := H i (by rw [S, e]; exact hi); simpa using this⟩
theorem ArJ.lt {Z : State} {h : Heap} {a : Addr} {n : Nat} {f : Nat → Int64} (F : ArJ Z h a n f) : a < h.size := by obtain ⟨c, A, -⟩ := F; exact A.lt
theorem ArJ.set {Z : State} {h h' : Heap} {a : Addr} {n : Nat} {f : Nat → Int64} {x : Int64} {j : Nat} {c : Cell} (A : Arr Z h a c .long) (S : c.slots.size = n) (H : ∀ i, i < n → c.slots[i]? = some (.long (f i))) (W : Wr h h' a j (.long x)) : ArJ Z h' a n (fun i => if i = j then x else f i) := by
  refine ⟨_, A.same W, by rw [sz_set]; exact S, fun i hi => ?_⟩
  by_cases u : i = j
  · subst u; simp [Cell.setSlot, S, hi]
  · have := H i hi
    simp only [Cell.setSlot, u, if_false]
    rw [Array.getElem?_setIfInBounds_ne (Ne.symm u)]; exact this
theorem ArJ.congr {Z : State} {h : Heap} {a : Addr} {n : Nat} {f g : Nat → Int64} (F : ArJ Z h a n f) (q : ∀ i, i < n → f i = g i) : ArJ Z h a n g := by
  obtain ⟨c, A, S, H⟩ := F
  exact ⟨c, A, S, fun i hi => by rw [← q i hi]; exact H i hi⟩
theorem own_in {c : Cell} {n i : Nat} (S : c.slots.size = n) (hi : i < n) (hn : n ≤ 16) : ¬ (Int32.ofNat i < 0 ∨ c.slots.size ≤ (Int32.ofNat i).toNatClampNeg) := by
  rw [own_o_nat (by omega), S]
  intro q
  rcases q with q | q
  · rw [Int32.lt_iff_toInt_lt, own_o32 (by omega)] at q
    have e : (0 : Int32).toInt = 0 := by decide
    omega
  · omega
theorem own_fill {q : Int64} {f : Nat → Int64} (i : Nat) : (fun j => if j = i then q else if j < i then q else f j) = (fun j => if j < i + 1 then q else f j) := by
  funext j
  by_cases u : j = i
  · subst u; simp
  · by_cases v : j < i
    · simp [u, v, show j < i + 1 by omega]
    · simp [u, v, show ¬ j < i + 1 by omega]
theorem ef_rm2 (m : MethodId) (x0 : Int64) : entryFrame m #[(.long x0)] 2 = mkF m 0 #[.val (.long x0), .second] [] := by first | (simp [entryFrame, mkF, argsToLocals, Value.category]; done) | rfl
theorem d2_0 : decode jdk_29_method_43_code 0 = .ok (.lload_n 0, 1) := by decide +kernel
theorem d2_1 : decode jdk_29_method_43_code 1 = .ok (.l2i, 1) := by decide +kernel
theorem d2_2 : decode jdk_29_method_43_code 2 = .ok (.i2l, 1) := by decide +kernel
theorem d2_3 : decode jdk_29_method_43_code 3 = .ok (.lload_n 0, 1) := by decide +kernel
theorem d2_4 : decode jdk_29_method_43_code 4 = .ok (.lcmp, 1) := by decide +kernel
theorem d2_5 : decode jdk_29_method_43_code 5 = .ok (.ifCond .eq 13, 3) := by decide +kernel
theorem d2_18 : decode jdk_29_method_43_code 18 = .ok (.lload_n 0, 1) := by decide +kernel
theorem d2_19 : decode jdk_29_method_43_code 19 = .ok (.l2i, 1) := by decide +kernel
theorem d2_20 : decode jdk_29_method_43_code 20 = .ok (.ireturn, 1) := by decide +kernel
def Q2 (Z : State) (q1 : Int64) (nn : Nat) (h0 : Heap) (n0 : Nat) (v : Option Value) (h : Heap) (L : List Loc) : Prop := v = some (.int (Int32.ofNat nn)) ∧ Fr n0 L ∧ h = h0
set_option maxRecDepth 65536 in
set_option maxHeartbeats 40000000 in
theorem rm2 (l : Launch) (Z : State) (a0 : Array Value) (hw : ∀ d ∈ tables_1, d.before a0 Z = true) (ws : List Jvm.Cond) (q1 : Int64) (nn : Nat) (h0 : Heap) (n0 : Nat) (Z0 : n0 ≤ h0.size) (hn : nn ≤ 16) (he : q1.toInt = nn) :
    OMet l Z (⟨"java/lang/Math", "toIntExact", "(J)I"⟩ : MethodName) jdk_29_method_43_code 2 (some .int) ws ({ frames := 0, cells := 0, slots := 0, locals := 0 } : Room) #[(.long q1)] h0 (Q2 Z q1 nn h0 n0) := by
  refine own_body (Jvm.Free.JP.mathPlain rfl (by decide +kernel)) ?_
  intro p e s m below meth c s₁ Bd hml0 hZ e0
  have hx := Bd.exec
  have hby := Bd.bytes
  have hml : c.maxLocals = 2 := hml0
  have hown : s.vm.findClass "java/lang/Math" = some m.cls := findClass_of_methodNamed Bd.named
  have hnm := (name_of_methodNamed Bd.named Bd.method).1
  have X0 : Stand p l e ({ frames := 0, cells := 0, slots := 0, locals := 0 } : Room) s m #[(.long q1)] below meth c s₁ [] 0 0 := Stand.of_body Bd
  have N0 := Fr.nil n0
  have K0 : Keep h0 h0 [] := Keep.refl _ _
  rw [ef_rm2]
  refine Gl.fin X0 (v := some (.int (q1.toInt32))) (fun h => by rw [Bd.returns] at h; cases h) Bd.notSynchronized ?_ e0 (by decide) (by decide) (fun fs hr => ?_)
  · exact ⟨by rw [own_toI hn he], N0, rfl⟩
  · show Steps p.tables e below (s₁.setTop (mkF m 0 #[.val (.long q1), .second] [])) _
    refine XS.lloadN X0.here hx rfl (hb hby d2_0) rfl ?_
    show Steps p.tables e below (s₁.setTop (mkF m 1 #[.val (.long q1), .second] [(.long q1)])) _
    refine XS.l2i X0.here hx rfl (hb hby d2_1) rfl ?_
    show Steps p.tables e below (s₁.setTop (mkF m 2 #[.val (.long q1), .second] [(.int (q1.toInt32))])) _
    refine XS.i2l X0.here hx rfl (hb hby d2_2) rfl ?_
    show Steps p.tables e below (s₁.setTop (mkF m 3 #[.val (.long q1), .second] [(.long ((q1.toInt32).toInt64))])) _
    refine XS.lloadN X0.here hx rfl (hb hby d2_3) rfl ?_
    show Steps p.tables e below (s₁.setTop (mkF m 4 #[.val (.long q1), .second] [(.long q1), (.long ((q1.toInt32).toInt64))])) _
    refine XS.lcmp X0.here hx rfl (hb hby d2_4) rfl ?_
    show Steps p.tables e below (s₁.setTop (mkF m 5 #[.val (.long q1), .second] [(.int (lcmpW ((q1.toInt32).toInt64) q1))])) _
    refine XS.ifYes X0.here hx rfl (pc0 := 5) (pc' := 18) rfl (hb hby d2_5) rfl (own_t (l0_eq _ _) (own_back hn he)) (by decide) (by decide) ?_
    show Steps p.tables e below (s₁.setTop (mkF m 18 #[.val (.long q1), .second] [])) _
    refine XS.lloadN X0.here hx rfl (hb hby d2_18) rfl ?_
    show Steps p.tables e below (s₁.setTop (mkF m 19 #[.val (.long q1), .second] [(.long q1)])) _
    refine XS.l2i X0.here hx rfl (hb hby d2_19) rfl ?_
    show Steps p.tables e below (s₁.setTop (mkF m 20 #[.val (.long q1), .second] [(.int (q1.toInt32))])) _
    exact own_retI X0 hx Bd.returns (hb hby d2_20) hr
theorem own_snoc {p : Program} {l : Launch} {e : Env} {R : Room} {s : State} {m : MethodId} {args : Array Value} {below : List Frame} {meth : Method} {c : Code} {T : State} {locs : List Loc} {cells slots : Nat} {k sl : Nat} {a : Addr} (X : Stand p l e R s m args below meth c T (locs ++ [⟨a, sl⟩]) cells slots) (N : Fr k locs) (q : k ≤ a) : Fr k (locs ++ [⟨a, sl⟩]) := Fr.snoc X N q
theorem pn_java_util_Arrays : plainName "java/util/Arrays" = true := by first | (simp [plainName, overriddenIn]; done) | decide +kernel
theorem ef_rm3 (m : MethodId) (x0 : Addr) (x1 : Int64) : entryFrame m #[(.ref x0), (.long x1)] 5 = mkF m 0 #[.val (.ref x0), .val (.long x1), .second, .unset, .unset] [] := by first | (simp [entryFrame, mkF, argsToLocals, Value.category]; done) | rfl
theorem d3_0 : decode jdk_65_method_101_code 0 = .ok (.iconst 0, 1) := by decide +kernel
theorem d3_1 : decode jdk_65_method_101_code 1 = .ok (.istore_n 3, 1) := by decide +kernel
theorem d3_2 : decode jdk_65_method_101_code 2 = .ok (.aload_n 0, 1) := by decide +kernel
theorem d3_3 : decode jdk_65_method_101_code 3 = .ok (.arraylength, 1) := by decide +kernel
theorem d3_4 : decode jdk_65_method_101_code 4 = .ok (.istore 4, 2) := by decide +kernel
theorem d3_6 : decode jdk_65_method_101_code 6 = .ok (.iload_n 3, 1) := by decide +kernel
theorem d3_7 : decode jdk_65_method_101_code 7 = .ok (.iload 4, 2) := by decide +kernel
theorem d3_9 : decode jdk_65_method_101_code 9 = .ok (.if_icmp .ge 13, 3) := by decide +kernel
theorem d3_22 : decode jdk_65_method_101_code 22 = .ok (.return_, 1) := by decide +kernel
theorem d3_12 : decode jdk_65_method_101_code 12 = .ok (.aload_n 0, 1) := by decide +kernel
theorem d3_13 : decode jdk_65_method_101_code 13 = .ok (.iload_n 3, 1) := by decide +kernel
theorem d3_14 : decode jdk_65_method_101_code 14 = .ok (.lload_n 1, 1) := by decide +kernel
theorem d3_15 : decode jdk_65_method_101_code 15 = .ok (.lastore, 1) := by decide +kernel
theorem d3_16 : decode jdk_65_method_101_code 16 = .ok (.iinc 3 1, 3) := by decide +kernel
theorem d3_19 : decode jdk_65_method_101_code 19 = .ok (.goto (-13), 3) := by decide +kernel
def Q3 (Z : State) (a1 : Addr) (q1 : Int64) (nn : Nat) (f : Nat → Int64) (h0 : Heap) (n0 : Nat) (v : Option Value) (h : Heap) (L : List Loc) : Prop := v = none ∧ Fr n0 L ∧ Keep h0 h [a1] ∧ ArJ Z h a1 nn (fun _ => q1)
set_option maxRecDepth 65536 in
set_option maxHeartbeats 40000000 in
theorem rm3 (l : Launch) (Z : State) (a0 : Array Value) (hw : ∀ d ∈ tables_1, d.before a0 Z = true) (ws : List Jvm.Cond) (a1 : Addr) (q1 : Int64) (nn : Nat) (f : Nat → Int64) (h0 : Heap) (n0 : Nat) (Z0 : n0 ≤ h0.size) (hn : nn ≤ 16) (g_a1 : n0 ≤ a1) (A_0 : ArJ Z h0 a1 nn f) :
    OMet l Z (⟨"java/util/Arrays", "fill", "([JJ)V"⟩ : MethodName) jdk_65_method_101_code 5 none ws ({ frames := 0, cells := 0, slots := 0, locals := 0 } : Room) #[(.ref a1), (.long q1)] h0 (Q3 Z a1 q1 nn f h0 n0) := by
  refine own_body (plainFor_of_name pn_java_util_Arrays) ?_
  intro p e s m below meth c s₁ Bd hml0 hZ e0
  have hx := Bd.exec
  have hby := Bd.bytes
  have hml : c.maxLocals = 5 := hml0
  have hown : s.vm.findClass "java/util/Arrays" = some m.cls := findClass_of_methodNamed Bd.named
  have hnm := (name_of_methodNamed Bd.named Bd.method).1
  have X0 : Stand p l e ({ frames := 0, cells := 0, slots := 0, locals := 0 } : Room) s m #[(.ref a1), (.long q1)] below meth c s₁ [] 0 0 := Stand.of_body Bd
  have N0 := Fr.nil n0
  have K0 : Keep h0 h0 [a1] := Keep.refl _ _
  rw [ef_rm3]
  obtain ⟨cl101, Ar101, Sa101, Ha101⟩ := id A_0
  refine Gl.pre (S' := s₁.setTop (mkF m 6 #[.val (.ref a1), .val (.long q1), .second, .val (.int (0 : Int32)), .val (.int (Int32.ofNat nn))] [])) (fun t kt => ?_) ?_
  · show Steps p.tables e below (s₁.setTop (mkF m 0 #[.val (.ref a1), .val (.long q1), .second, .unset, .unset] [])) _
    refine XS.iconst X0.here hx rfl (hb hby d3_0) ?_
    show Steps p.tables e below (s₁.setTop (mkF m 1 #[.val (.ref a1), .val (.long q1), .second, .unset, .unset] [(.int (0 : Int32))])) _
    refine XS.istoreN X0.here hx rfl (hb hby d3_1) rfl (l' := #[.val (.ref a1), .val (.long q1), .second, .val (.int (0 : Int32)), .unset]) rfl ?_
    show Steps p.tables e below (s₁.setTop (mkF m 2 #[.val (.ref a1), .val (.long q1), .second, .val (.int (0 : Int32)), .unset] [])) _
    refine XS.aloadN X0.here hx rfl (hb hby d3_2) rfl rfl ?_
    show Steps p.tables e below (s₁.setTop (mkF m 3 #[.val (.ref a1), .val (.long q1), .second, .val (.int (0 : Int32)), .unset] [(.ref a1)])) _
    refine X0.arraylength hx (own_hc e0 Ar101.1) (State.isArrayOf_alike hZ.alike Ar101.2.1) (g := (mkF m 3 #[.val (.ref a1), .val (.long q1), .second, .val (.int (0 : Int32)), .unset] [(.ref a1)])) rfl rfl (hb hby d3_3) _ ?_
    rw [show cl101.slots.size.toInt32 = (Int32.ofNat nn) from by rw [Sa101]]
    show Steps p.tables e below (s₁.setTop (mkF m 4 #[.val (.ref a1), .val (.long q1), .second, .val (.int (0 : Int32)), .unset] [(.int (Int32.ofNat nn))])) _
    refine XS.istore X0.here hx rfl (hb hby d3_4) rfl (l' := #[.val (.ref a1), .val (.long q1), .second, .val (.int (0 : Int32)), .val (.int (Int32.ofNat nn))]) rfl ?_
    exact kt
  have loop : ∀ (k i : Nat) (T6 : State) (lo6 : List Loc) (h6 : Heap) (X6 : Stand p l e ({ frames := 0, cells := 0, slots := 0, locals := 0 } : Room) s m #[(.ref a1), (.long q1)] below meth c T6 lo6 0 0) (e6 : T6.heap = h6) (N6 : Fr n0 lo6) (K6 : Keep h0 h6 [a1]) (A6 : ArJ Z h6 a1 nn (fun j => if j < i then q1 else f j)) (hik : i + k = nn), Gl p e below s (Q3 Z a1 q1 nn f h0 n0) ({ frames := 0, cells := 0, slots := 0, locals := 0 } : Room).cells ({ frames := 0, cells := 0, slots := 0, locals := 0 } : Room).slots (T6.setTop (mkF m 6 #[.val (.ref a1), .val (.long q1), .second, .val (.int (Int32.ofNat i)), .val (.int (Int32.ofNat nn))] [])) := by
    intro k
    induction k with
    | zero =>
        intro i T6 lo6 h6 X6 e6 N6 K6 A6 hik
        refine Gl.fin X6 (v := none) (fun _ => rfl) Bd.notSynchronized ?_ e6 (by decide) (by decide) (fun fs hr => ?_)
        · exact ⟨rfl, N6, K6, A6.congr (fun j hj => by simp [show j < i by omega])⟩
        · show Steps p.tables e below (T6.setTop (mkF m 6 #[.val (.ref a1), .val (.long q1), .second, .val (.int (Int32.ofNat i)), .val (.int (Int32.ofNat nn))] [])) _
          refine XS.iloadN X6.here hx rfl (hb hby d3_6) rfl ?_
          show Steps p.tables e below (T6.setTop (mkF m 7 #[.val (.ref a1), .val (.long q1), .second, .val (.int (Int32.ofNat i)), .val (.int (Int32.ofNat nn))] [(.int (Int32.ofNat i))])) _
          refine XS.iload X6.here hx rfl (hb hby d3_7) rfl ?_
          show Steps p.tables e below (T6.setTop (mkF m 9 #[.val (.ref a1), .val (.long q1), .second, .val (.int (Int32.ofNat i)), .val (.int (Int32.ofNat nn))] [(.int (Int32.ofNat nn)), (.int (Int32.ofNat i))])) _
          refine XS.icmpYes X6.here hx rfl (pc0 := 9) (pc' := 22) rfl (hb hby d3_9) rfl (own_nt (ic_ge _ _) (by rw [own_o_lt (by omega) (by omega)]; omega)) (by decide) (by decide) ?_
          show Steps p.tables e below (T6.setTop (mkF m 22 #[.val (.ref a1), .val (.long q1), .second, .val (.int (Int32.ofNat i)), .val (.int (Int32.ofNat nn))] [])) _
          exact X6.returnOut hx Bd.returns (hb hby d3_22) hr
    | succ k ih =>
        intro i T6 lo6 h6 X6 e6 N6 K6 A6 hik
        obtain ⟨cl102, Ar102, Sa102, Ha102⟩ := id A6
        have hin102 := own_in (i := i) Sa102 (by omega) hn
        obtain ⟨T102, h102, X102, e102, W102, st102⟩ := stJ X6 hx hZ e6 Ar102 (j := (Int32.ofNat i)) hin102 (g := (mkF m 15 #[.val (.ref a1), .val (.long q1), .second, .val (.int (Int32.ofNat i)), .val (.int (Int32.ofNat nn))] [(.long q1), (.int (Int32.ofNat i)), (.ref a1)])) rfl rfl (hb hby d3_15)
        rw [own_o_nat (by omega)] at W102
        have A102 : ArJ Z h102 a1 nn (fun j => if j < (i + 1) then q1 else f j) := own_fill (q := q1) (f := f) i ▸ ArJ.set Ar102 Sa102 Ha102 W102
        have K102 : Keep h0 h102 [a1] := K6.wr W102 (Or.inl (List.mem_of_getElem? (i := 0) rfl))
        have N102 := own_snoc X102 N6 g_a1
        refine Gl.pre (S' := T102.setTop (mkF m 6 #[.val (.ref a1), .val (.long q1), .second, .val (.int (Int32.ofNat (i + 1))), .val (.int (Int32.ofNat nn))] [])) (fun t kt => ?_) ?_
        · show Steps p.tables e below (T6.setTop (mkF m 6 #[.val (.ref a1), .val (.long q1), .second, .val (.int (Int32.ofNat i)), .val (.int (Int32.ofNat nn))] [])) _
          refine XS.iloadN X6.here hx rfl (hb hby d3_6) rfl ?_
          show Steps p.tables e below (T6.setTop (mkF m 7 #[.val (.ref a1), .val (.long q1), .second, .val (.int (Int32.ofNat i)), .val (.int (Int32.ofNat nn))] [(.int (Int32.ofNat i))])) _
          refine XS.iload X6.here hx rfl (hb hby d3_7) rfl ?_
          show Steps p.tables e below (T6.setTop (mkF m 9 #[.val (.ref a1), .val (.long q1), .second, .val (.int (Int32.ofNat i)), .val (.int (Int32.ofNat nn))] [(.int (Int32.ofNat nn)), (.int (Int32.ofNat i))])) _
          refine XS.icmpNo X6.here hx rfl (hb hby d3_9) rfl (own_nf (ic_ge _ _) ((own_o_lt (by omega) (by omega)).mpr (by omega))) ?_
          show Steps p.tables e below (T6.setTop (mkF m 12 #[.val (.ref a1), .val (.long q1), .second, .val (.int (Int32.ofNat i)), .val (.int (Int32.ofNat nn))] [])) _
          refine XS.aloadN X6.here hx rfl (hb hby d3_12) rfl rfl ?_
          show Steps p.tables e below (T6.setTop (mkF m 13 #[.val (.ref a1), .val (.long q1), .second, .val (.int (Int32.ofNat i)), .val (.int (Int32.ofNat nn))] [(.ref a1)])) _
          refine XS.iloadN X6.here hx rfl (hb hby d3_13) rfl ?_
          show Steps p.tables e below (T6.setTop (mkF m 14 #[.val (.ref a1), .val (.long q1), .second, .val (.int (Int32.ofNat i)), .val (.int (Int32.ofNat nn))] [(.int (Int32.ofNat i)), (.ref a1)])) _
          refine XS.lloadN X6.here hx rfl (hb hby d3_14) rfl ?_
          show Steps p.tables e below (T6.setTop (mkF m 15 #[.val (.ref a1), .val (.long q1), .second, .val (.int (Int32.ofNat i)), .val (.int (Int32.ofNat nn))] [(.long q1), (.int (Int32.ofNat i)), (.ref a1)])) _
          refine st102 _ ?_
          show Steps p.tables e below (T102.setTop (mkF m 16 #[.val (.ref a1), .val (.long q1), .second, .val (.int (Int32.ofNat i)), .val (.int (Int32.ofNat nn))] [])) _
          refine XS.iinc X102.here hx rfl (hb hby d3_16) rfl (l' := #[.val (.ref a1), .val (.long q1), .second, .val (.int ((Int32.ofNat i) + (1 : Int32))), .val (.int (Int32.ofNat nn))]) rfl ?_
          rw [show ((Int32.ofNat i) + (1 : Int32)) = (Int32.ofNat (i + 1)) from Int32.ofNat_succ i]
          show Steps p.tables e below (T102.setTop (mkF m 19 #[.val (.ref a1), .val (.long q1), .second, .val (.int (Int32.ofNat (i + 1))), .val (.int (Int32.ofNat nn))] [])) _
          refine XS.goto X102.here hx rfl (pc0 := 19) (pc' := 6) rfl (hb hby d3_19) (by decide) (by decide) ?_
          exact kt
        exact ih (i + 1) _ _ _ X102 e102 N102 K102 A102 (by omega)
  exact loop nn 0 _ _ _ X0 e0 N0 K0 (A_0.congr (fun i _ => by simp)) (by omega)
theorem pn_com_example_stackledger_stackledger_Money : plainName "com/example/stackledger/stackledger/Money" = true := by first | (simp [plainName, overriddenIn]; done) | decide +kernel
theorem ef_rm1 (m : MethodId) (x0 : Int64) : entryFrame m #[(.long x0)] 3 = mkF m 0 #[.val (.long x0), .second, .unset] [] := by first | (simp [entryFrame, mkF, argsToLocals, Value.category]; done) | rfl
theorem d1_0 : decode prog_13_method_3_code 0 = .ok (.lload_n 0, 1) := by decide +kernel
theorem d1_1 : decode prog_13_method_3_code 1 = .ok (.lconst 1, 1) := by decide +kernel
theorem d1_2 : decode prog_13_method_3_code 2 = .ok (.lsub, 1) := by decide +kernel
theorem d1_3 : decode prog_13_method_3_code 3 = .ok (.ldc2_w 25, 3) := by decide +kernel
theorem d1_6 : decode prog_13_method_3_code 6 = .ok (.ldiv, 1) := by decide +kernel
theorem d1_7 : decode prog_13_method_3_code 7 = .ok (.lconst 1, 1) := by decide +kernel
theorem d1_8 : decode prog_13_method_3_code 8 = .ok (.ladd, 1) := by decide +kernel
theorem d1_9 : decode prog_13_method_3_code 9 = .ok (.invokestatic 64, 3) := by decide +kernel
theorem pd__J_I : parseMethodDescriptor "(J)I" = some ⟨[.long], some .int⟩ := by decide +kernel
theorem d1_12 : decode prog_13_method_3_code 12 = .ok (.newarray .long, 2) := by decide +kernel
theorem d1_14 : decode prog_13_method_3_code 14 = .ok (.astore_n 2, 1) := by decide +kernel
theorem d1_15 : decode prog_13_method_3_code 15 = .ok (.aload_n 2, 1) := by decide +kernel
theorem d1_16 : decode prog_13_method_3_code 16 = .ok (.ldc2_w 25, 3) := by decide +kernel
theorem d1_19 : decode prog_13_method_3_code 19 = .ok (.invokestatic 70, 3) := by decide +kernel
theorem pd___JJ_V : parseMethodDescriptor "([JJ)V" = some ⟨[(.array .long), .long], none⟩ := by decide +kernel
theorem d1_22 : decode prog_13_method_3_code 22 = .ok (.aload_n 2, 1) := by decide +kernel
theorem d1_23 : decode prog_13_method_3_code 23 = .ok (.aload_n 2, 1) := by decide +kernel
theorem d1_24 : decode prog_13_method_3_code 24 = .ok (.arraylength, 1) := by decide +kernel
theorem d1_25 : decode prog_13_method_3_code 25 = .ok (.iconst 1, 1) := by decide +kernel
theorem d1_26 : decode prog_13_method_3_code 26 = .ok (.isub, 1) := by decide +kernel
theorem d1_27 : decode prog_13_method_3_code 27 = .ok (.lload_n 0, 1) := by decide +kernel
theorem d1_28 : decode prog_13_method_3_code 28 = .ok (.aload_n 2, 1) := by decide +kernel
theorem d1_29 : decode prog_13_method_3_code 29 = .ok (.arraylength, 1) := by decide +kernel
theorem d1_30 : decode prog_13_method_3_code 30 = .ok (.iconst 1, 1) := by decide +kernel
theorem d1_31 : decode prog_13_method_3_code 31 = .ok (.isub, 1) := by decide +kernel
theorem d1_32 : decode prog_13_method_3_code 32 = .ok (.i2l, 1) := by decide +kernel
theorem d1_33 : decode prog_13_method_3_code 33 = .ok (.ldc2_w 25, 3) := by decide +kernel
theorem d1_36 : decode prog_13_method_3_code 36 = .ok (.lmul, 1) := by decide +kernel
theorem d1_37 : decode prog_13_method_3_code 37 = .ok (.lsub, 1) := by decide +kernel
theorem d1_38 : decode prog_13_method_3_code 38 = .ok (.lastore, 1) := by decide +kernel
theorem d1_39 : decode prog_13_method_3_code 39 = .ok (.aload_n 2, 1) := by decide +kernel
theorem d1_40 : decode prog_13_method_3_code 40 = .ok (.areturn, 1) := by decide +kernel
def Q1 (Z : State) (q0 : Int64) (h0 : Heap) (n0 : Nat) (v : Option Value) (h : Heap) (L : List Loc) : Prop := ∃ r : Addr, h0.size ≤ r ∧ v = some (.ref r) ∧ Fr n0 L ∧ Keep h0 h [] ∧ ArJ Z h r (own_N q0) (fun j => if j = own_N q0 - 1 then own_last q0 else 99999999)
set_option maxRecDepth 65536 in
set_option maxHeartbeats 40000000 in
theorem rm1 (l : Launch) (Z : State) (a0 : Array Value) (hw : ∀ d ∈ tables_1, d.before a0 Z = true) (ws : List Jvm.Cond) (q0 : Int64) (h0 : Heap) (n0 : Nat) (Z0 : n0 ≤ h0.size) (hc1 : 1 ≤ q0.toInt) (hc2 : q0.toInt ≤ 1599999984) :
    OMet l Z (⟨"com/example/stackledger/stackledger/Money", "inSingleAmounts", "(J)[J"⟩ : MethodName) prog_13_method_3_code 3 (some (.array .long)) ws ({ frames := 1, cells := 1, slots := 16, locals := 20 } : Room) #[(.long q0)] h0 (Q1 Z q0 h0 n0) := by
  refine own_body (plainFor_of_name pn_com_example_stackledger_stackledger_Money) ?_
  intro p e s m below meth c s₁ Bd hml0 hZ e0
  have hx := Bd.exec
  have hby := Bd.bytes
  have hml : c.maxLocals = 3 := hml0
  have hown : s.vm.findClass "com/example/stackledger/stackledger/Money" = some m.cls := findClass_of_methodNamed Bd.named
  have hnm := (name_of_methodNamed Bd.named Bd.method).1
  have X0 : Stand p l e ({ frames := 1, cells := 1, slots := 16, locals := 20 } : Room) s m #[(.long q0)] below meth c s₁ [] 0 0 := Stand.of_body Bd
  have N0 := Fr.nil n0
  have K0 : Keep h0 h0 [] := Keep.refl _ _
  rw [ef_rm1]
  obtain ⟨nn, hnn0⟩ : ∃ n, n = own_N q0 := ⟨_, rfl⟩
  have hnn : 1 ≤ nn ∧ nn ≤ 16 := by rw [hnn0]; exact own_N_le hc1 hc2
  have hen : ((q0 - 1) / 99999999 + 1).toInt = nn := by rw [hnn0]; exact own_n hc1 hc2
  obtain ⟨v101, T101, L101, X101, q101, st101⟩ := own_callS X0 hx hZ (y := (⟨"java/lang/Math", "toIntExact", "(J)I"⟩ : MethodName)) hown (hw _ (List.mem_of_getElem? (i := 8) rfl)) (hw _ (List.mem_of_getElem? (i := 9) rfl)) (hw _ (List.mem_of_getElem? (i := 10) rfl)) (hw _ (List.mem_of_getElem? (i := 11) rfl)) (by decide) (hM := (rm2 l Z a0 hw [] (((q0 - (1 : Int64)) / (99999999 : Int64)) + (1 : Int64)) nn h0 n0 Z0 hnn.2 hen)) (by decide) (by decide) (by decide) (by decide) e0 (argsL := [(.long (((q0 - (1 : Int64)) / (99999999 : Int64)) + (1 : Int64)))]) (rest := []) (Ls := #[.val (.long q0), .second, .unset]) (by rw [hml]; rfl) (lenOf pd__J_I rfl) (W := 0) (Nat.le_of_eq rfl) (hb hby d1_9)
  obtain ⟨rfl, N101q, e101⟩ := q101
  have N101 := Fr.app N0 N101q
  obtain ⟨T102, h102, k102, X102, e102, E102, A102, st102⟩ := newP X101 hx hZ (hw _ (List.mem_of_getElem? (i := 12) rfl)) e101 (g := (mkF m 12 #[.val (.long q0), .second, .unset] [(.int (Int32.ofNat nn))])) rfl (hb hby d1_12) rfl (own_o_nn hnn.2) (cap := 16) (by rw [own_o_nat hnn.2]; exact hnn.2) (by decide) (by decide) (by decide)
  obtain ⟨b102, g102⟩ : ∃ z, z = h0.size := ⟨_, rfl⟩
  have g_b102 : n0 ≤ b102 := Nat.le_trans Z0 (Nat.le_of_eq g102.symm)
  have sz_b102 : h0.size ≤ b102 := Nat.le_trans K0.1 (Nat.le_of_eq g102.symm)
  rw [← g102] at A102 st102
  have K102 : Keep h0 h102 [] := K0.ext E102
  have V_b102 : Arv Z h102 b102 k102 .long (Int32.ofNat nn) [] (.long (0 : Int64)) := Arv.new A102 (own_o_nn hnn.2)
  have A_new := ArJ.new V_b102 (own_o_nat hnn.2)
  have z104 : n0 ≤ h102.size := (Nat.le_trans Z0 E102.1)
  obtain ⟨v103, T103, L103, X103, q103, st103⟩ := own_callS X102 hx hZ (y := (⟨"java/util/Arrays", "fill", "([JJ)V"⟩ : MethodName)) hown (hw _ (List.mem_of_getElem? (i := 13) rfl)) (hw _ (List.mem_of_getElem? (i := 14) rfl)) (hw _ (List.mem_of_getElem? (i := 15) rfl)) (hw _ (List.mem_of_getElem? (i := 16) rfl)) (by decide) (hM := (rm3 l Z a0 hw [] b102 (99999999 : Int64) nn (fun _ => 0) h102 n0 z104 hnn.2 g_b102 A_new)) (by decide) (by decide) (by decide) (by decide) e102 (argsL := [(.ref b102), (.long (99999999 : Int64))]) (rest := []) (Ls := #[.val (.long q0), .second, .val (.ref b102)]) (by rw [hml]; rfl) (lenOf pd___JJ_V rfl) (W := 0) (Nat.le_of_eq rfl) (hb hby d1_19)
  obtain ⟨rfl, N103q, K103q, A103q⟩ := q103
  have N103 := Fr.app N101 N103q
  have K103 : Keep h0 T103.heap [] := K102.trans K103q (allS (Or.inr sz_b102) all0)
  obtain ⟨cl105, Ar105, Sa105, Ha105⟩ := id A103q
  obtain ⟨cl106, Ar106, Sa106, Ha106⟩ := id A103q
  obtain ⟨cl107, Ar107, Sa107, Ha107⟩ := id A103q
  have hin107 : ¬ (((Int32.ofNat nn) - (1 : Int32)) < 0 ∨ cl107.slots.size ≤ (((Int32.ofNat nn) - (1 : Int32))).toNatClampNeg) := by rw [own_o_sub hnn.1 hnn.2]; exact own_in Sa107 (by omega) hnn.2
  obtain ⟨T107, h107, X107, e107, W107, st107⟩ := stJ X103 hx hZ rfl Ar107 (j := ((Int32.ofNat nn) - (1 : Int32))) hin107 (g := (mkF m 38 #[.val (.long q0), .second, .val (.ref b102)] [(.long (q0 - ((((Int32.ofNat nn) - (1 : Int32)).toInt64) * (99999999 : Int64)))), (.int ((Int32.ofNat nn) - (1 : Int32))), (.ref b102)])) rfl rfl (hb hby d1_38)
  have W107b := W107
  rw [own_o_sub hnn.1 hnn.2, own_o_nat (by omega)] at W107b
  have A107 := ArJ.set Ar107 Sa107 Ha107 W107b
  have K107 : Keep h0 h107 [] := K103.wr W107 (Or.inr sz_b102)
  have N107 := own_snoc X107 N103 g_b102
  refine Gl.fin X107 (v := some (.ref b102)) (fun h => by rw [Bd.returns] at h; cases h) Bd.notSynchronized ?_ e107 (by decide) (by decide) (fun fs hr => ?_)
  · refine ⟨_, sz_b102, rfl, N107, K107, ?_⟩
    rw [← hnn0]
    exact A107.congr (fun j _ => by rw [show own_last q0 = (q0 - (((Int32.ofNat nn) - (1 : Int32)).toInt64 * (99999999 : Int64))) from by rw [hnn0]; rfl, own_o_sub hnn.1 hnn.2])
  · show Steps p.tables e below (s₁.setTop (mkF m 0 #[.val (.long q0), .second, .unset] [])) _
    refine XS.lloadN X0.here hx rfl (hb hby d1_0) rfl ?_
    show Steps p.tables e below (s₁.setTop (mkF m 1 #[.val (.long q0), .second, .unset] [(.long q0)])) _
    refine XS.lconst X0.here hx rfl (hb hby d1_1) ?_
    show Steps p.tables e below (s₁.setTop (mkF m 2 #[.val (.long q0), .second, .unset] [(.long (1 : Int64)), (.long q0)])) _
    refine XS.lsub X0.here hx rfl (hb hby d1_2) rfl ?_
    show Steps p.tables e below (s₁.setTop (mkF m 3 #[.val (.long q0), .second, .unset] [(.long (q0 - (1 : Int64)))])) _
    refine X0.ldc2Long hx hown (mvT hZ (hw _ (List.mem_of_getElem? (i := 7) rfl))) (g := (mkF m 3 #[.val (.long q0), .second, .unset] [(.long (q0 - (1 : Int64)))])) rfl (hb hby d1_3) _ ?_
    show Steps p.tables e below (s₁.setTop (mkF m 6 #[.val (.long q0), .second, .unset] [(.long (99999999 : Int64)), (.long (q0 - (1 : Int64)))])) _
    refine XS.ldiv X0.here hx rfl (hb hby d1_6) rfl (by decide) ?_
    show Steps p.tables e below (s₁.setTop (mkF m 7 #[.val (.long q0), .second, .unset] [(.long ((q0 - (1 : Int64)) / (99999999 : Int64)))])) _
    refine XS.lconst X0.here hx rfl (hb hby d1_7) ?_
    show Steps p.tables e below (s₁.setTop (mkF m 8 #[.val (.long q0), .second, .unset] [(.long (1 : Int64)), (.long ((q0 - (1 : Int64)) / (99999999 : Int64)))])) _
    refine XS.ladd X0.here hx rfl (hb hby d1_8) rfl ?_
    show Steps p.tables e below (s₁.setTop (mkF m 9 #[.val (.long q0), .second, .unset] [(.long (((q0 - (1 : Int64)) / (99999999 : Int64)) + (1 : Int64)))])) _
    refine st101 _ ?_
    show Steps p.tables e below (T101.setTop (mkF m 12 #[.val (.long q0), .second, .unset] [(.int (Int32.ofNat nn))])) _
    refine st102 _ ?_
    show Steps p.tables e below (T102.setTop (mkF m 14 #[.val (.long q0), .second, .unset] [(.ref b102)])) _
    refine XS.astoreN X102.here hx rfl (hb hby d1_14) rfl rfl (l' := #[.val (.long q0), .second, .val (.ref b102)]) rfl ?_
    show Steps p.tables e below (T102.setTop (mkF m 15 #[.val (.long q0), .second, .val (.ref b102)] [])) _
    refine XS.aloadN X102.here hx rfl (hb hby d1_15) rfl rfl ?_
    show Steps p.tables e below (T102.setTop (mkF m 16 #[.val (.long q0), .second, .val (.ref b102)] [(.ref b102)])) _
    refine X102.ldc2Long hx hown (mvT hZ (hw _ (List.mem_of_getElem? (i := 7) rfl))) (g := (mkF m 16 #[.val (.long q0), .second, .val (.ref b102)] [(.ref b102)])) rfl (hb hby d1_16) _ ?_
    show Steps p.tables e below (T102.setTop (mkF m 19 #[.val (.long q0), .second, .val (.ref b102)] [(.long (99999999 : Int64)), (.ref b102)])) _
    refine st103 _ ?_
    show Steps p.tables e below (T103.setTop (mkF m 22 #[.val (.long q0), .second, .val (.ref b102)] [])) _
    refine XS.aloadN X103.here hx rfl (hb hby d1_22) rfl rfl ?_
    show Steps p.tables e below (T103.setTop (mkF m 23 #[.val (.long q0), .second, .val (.ref b102)] [(.ref b102)])) _
    refine XS.aloadN X103.here hx rfl (hb hby d1_23) rfl rfl ?_
    show Steps p.tables e below (T103.setTop (mkF m 24 #[.val (.long q0), .second, .val (.ref b102)] [(.ref b102), (.ref b102)])) _
    refine X103.arraylength hx (own_hc rfl Ar105.1) (State.isArrayOf_alike hZ.alike Ar105.2.1) (g := (mkF m 24 #[.val (.long q0), .second, .val (.ref b102)] [(.ref b102), (.ref b102)])) rfl rfl (hb hby d1_24) _ ?_
    rw [show cl105.slots.size.toInt32 = (Int32.ofNat nn) from by rw [Sa105]]
    show Steps p.tables e below (T103.setTop (mkF m 25 #[.val (.long q0), .second, .val (.ref b102)] [(.int (Int32.ofNat nn)), (.ref b102)])) _
    refine XS.iconst X103.here hx rfl (hb hby d1_25) ?_
    show Steps p.tables e below (T103.setTop (mkF m 26 #[.val (.long q0), .second, .val (.ref b102)] [(.int (1 : Int32)), (.int (Int32.ofNat nn)), (.ref b102)])) _
    refine XS.isub X103.here hx rfl (hb hby d1_26) rfl ?_
    show Steps p.tables e below (T103.setTop (mkF m 27 #[.val (.long q0), .second, .val (.ref b102)] [(.int ((Int32.ofNat nn) - (1 : Int32))), (.ref b102)])) _
    refine XS.lloadN X103.here hx rfl (hb hby d1_27) rfl ?_
    show Steps p.tables e below (T103.setTop (mkF m 28 #[.val (.long q0), .second, .val (.ref b102)] [(.long q0), (.int ((Int32.ofNat nn) - (1 : Int32))), (.ref b102)])) _
    refine XS.aloadN X103.here hx rfl (hb hby d1_28) rfl rfl ?_
    show Steps p.tables e below (T103.setTop (mkF m 29 #[.val (.long q0), .second, .val (.ref b102)] [(.ref b102), (.long q0), (.int ((Int32.ofNat nn) - (1 : Int32))), (.ref b102)])) _
    refine X103.arraylength hx (own_hc rfl Ar106.1) (State.isArrayOf_alike hZ.alike Ar106.2.1) (g := (mkF m 29 #[.val (.long q0), .second, .val (.ref b102)] [(.ref b102), (.long q0), (.int ((Int32.ofNat nn) - (1 : Int32))), (.ref b102)])) rfl rfl (hb hby d1_29) _ ?_
    rw [show cl106.slots.size.toInt32 = (Int32.ofNat nn) from by rw [Sa106]]
    show Steps p.tables e below (T103.setTop (mkF m 30 #[.val (.long q0), .second, .val (.ref b102)] [(.int (Int32.ofNat nn)), (.long q0), (.int ((Int32.ofNat nn) - (1 : Int32))), (.ref b102)])) _
    refine XS.iconst X103.here hx rfl (hb hby d1_30) ?_
    show Steps p.tables e below (T103.setTop (mkF m 31 #[.val (.long q0), .second, .val (.ref b102)] [(.int (1 : Int32)), (.int (Int32.ofNat nn)), (.long q0), (.int ((Int32.ofNat nn) - (1 : Int32))), (.ref b102)])) _
    refine XS.isub X103.here hx rfl (hb hby d1_31) rfl ?_
    show Steps p.tables e below (T103.setTop (mkF m 32 #[.val (.long q0), .second, .val (.ref b102)] [(.int ((Int32.ofNat nn) - (1 : Int32))), (.long q0), (.int ((Int32.ofNat nn) - (1 : Int32))), (.ref b102)])) _
    refine XS.i2l X103.here hx rfl (hb hby d1_32) rfl ?_
    show Steps p.tables e below (T103.setTop (mkF m 33 #[.val (.long q0), .second, .val (.ref b102)] [(.long (((Int32.ofNat nn) - (1 : Int32)).toInt64)), (.long q0), (.int ((Int32.ofNat nn) - (1 : Int32))), (.ref b102)])) _
    refine X103.ldc2Long hx hown (mvT hZ (hw _ (List.mem_of_getElem? (i := 7) rfl))) (g := (mkF m 33 #[.val (.long q0), .second, .val (.ref b102)] [(.long (((Int32.ofNat nn) - (1 : Int32)).toInt64)), (.long q0), (.int ((Int32.ofNat nn) - (1 : Int32))), (.ref b102)])) rfl (hb hby d1_33) _ ?_
    show Steps p.tables e below (T103.setTop (mkF m 36 #[.val (.long q0), .second, .val (.ref b102)] [(.long (99999999 : Int64)), (.long (((Int32.ofNat nn) - (1 : Int32)).toInt64)), (.long q0), (.int ((Int32.ofNat nn) - (1 : Int32))), (.ref b102)])) _
    refine XS.lmul X103.here hx rfl (hb hby d1_36) rfl ?_
    show Steps p.tables e below (T103.setTop (mkF m 37 #[.val (.long q0), .second, .val (.ref b102)] [(.long ((((Int32.ofNat nn) - (1 : Int32)).toInt64) * (99999999 : Int64))), (.long q0), (.int ((Int32.ofNat nn) - (1 : Int32))), (.ref b102)])) _
    refine XS.lsub X103.here hx rfl (hb hby d1_37) rfl ?_
    show Steps p.tables e below (T103.setTop (mkF m 38 #[.val (.long q0), .second, .val (.ref b102)] [(.long (q0 - ((((Int32.ofNat nn) - (1 : Int32)).toInt64) * (99999999 : Int64)))), (.int ((Int32.ofNat nn) - (1 : Int32))), (.ref b102)])) _
    refine st107 _ ?_
    show Steps p.tables e below (T107.setTop (mkF m 39 #[.val (.long q0), .second, .val (.ref b102)] [])) _
    refine XS.aloadN X107.here hx rfl (hb hby d1_39) rfl rfl ?_
    show Steps p.tables e below (T107.setTop (mkF m 40 #[.val (.long q0), .second, .val (.ref b102)] [(.ref b102)])) _
    exact own_retR X107 hx Bd.returns rfl rfl rfl (hb hby d1_40) hr
theorem own_cmp1 {N iN : Nat} {ii : Int32} {x y : Int64} (hnn : 1 ≤ N ∧ N ≤ 16) (hieq : ii = Int32.ofNat iN) (hiL : iN < N) (q : ii = Int32.ofNat N - 1) (hx : x = y) : (if iN = N - 1 then x else 99999999) = y := by
  rw [hieq, own_o_sub hnn.1 hnn.2, ← Int32.toInt_inj, own_o32 (by omega), own_o32 (by omega)] at q
  rw [if_pos (by omega)]; exact hx
theorem own_cmp0 {N iN : Nat} {ii : Int32} {x : Int64} (hnn : 1 ≤ N ∧ N ≤ 16) (hieq : ii = Int32.ofNat iN) (hiL : iN < N) (q : ¬ ii = Int32.ofNat N - 1) : (if iN = N - 1 then x else 99999999) = 99999999 := by
  rw [hieq, own_o_sub hnn.1 hnn.2, ← Int32.toInt_inj, own_o32 (by omega), own_o32 (by omega)] at q
  rw [if_neg (by omega)]
theorem own_cmpF1 {N : Nat} {x y : Int64} (hnn : 1 ≤ N ∧ N ≤ 16) (q : Int32.ofNat N = 1) (hx : x = y) : (if 0 = N - 1 then x else 99999999) = y := by
  have e : (1 : Int32).toInt = 1 := by decide
  rw [← Int32.toInt_inj, own_o32 hnn.2, e] at q
  rw [if_pos (by omega)]; exact hx
theorem own_cmpF0 {N : Nat} {x : Int64} (hnn : 1 ≤ N ∧ N ≤ 16) (q : ¬ Int32.ofNat N = 1) : (if 0 = N - 1 then x else 99999999) = 99999999 := by
  have e : (1 : Int32).toInt = 1 := by decide
  rw [← Int32.toInt_inj, own_o32 hnn.2, e] at q
  rw [if_neg (by omega)]
theorem pn_com_example_stackledger_stackledger_MoneyInSingleAmountsPinLaw : plainName "com/example/stackledger/stackledger/MoneyInSingleAmountsPinLaw" = true := by first | (simp [plainName, overriddenIn]; done) | decide +kernel
theorem ef_rm0 (m : MethodId) (x0 : Int64) (x1 : Int32) : entryFrame m #[(.long x0), (.int x1)] maxLocals = mkF m 0 #[.val (.long x0), .second, .val (.int x1), .unset, .unset, .unset, .unset, .unset, .unset, .unset, .unset, .unset, .unset, .unset, .unset, .unset, .unset, .unset] [] := by first | (simp [entryFrame, mkF, argsToLocals, Value.category, maxLocals]; done) | rfl
theorem pd__J__J : parseMethodDescriptor "(J)[J" = some ⟨[.long], some (.array .long)⟩ := by decide +kernel
def Q0 (Z : State) (q0 : Int64) (p2 : Int32) (h0 : Heap) (n0 : Nat) (v : Option Value) (h : Heap) (L : List Loc) : Prop := v = some (.int 1) ∧ Fr n0 L
set_option maxRecDepth 65536 in
set_option maxHeartbeats 40000000 in
theorem rm0 (l : Launch) (Z : State) (a0 : Array Value) (hw : ∀ d ∈ tables_1, d.before a0 Z = true) (ws : List Jvm.Cond) (q0 : Int64) (p2 : Int32) (h0 : Heap) (n0 : Nat) (Z0 : n0 ≤ h0.size) :
    OMet l Z x code maxLocals ret ws room_1 #[(.long q0), (.int p2)] h0 (Q0 Z q0 p2 h0 n0) := by
  refine own_body (plainFor_of_name pn_com_example_stackledger_stackledger_MoneyInSingleAmountsPinLaw) ?_
  intro p e s m below meth c s₁ Bd hml0 hZ e0
  have hx := Bd.exec
  have hby := Bd.bytes
  have hml : c.maxLocals = 18 := hml0
  have hown : s.vm.findClass "com/example/stackledger/stackledger/MoneyInSingleAmountsPinLaw" = some m.cls := findClass_of_methodNamed Bd.named
  have hnm := (name_of_methodNamed Bd.named Bd.method).1
  have X0 : Stand p l e room_1 s m #[(.long q0), (.int p2)] below meth c s₁ [] 0 0 := Stand.of_body Bd
  have N0 := Fr.nil n0
  have K0 : Keep h0 h0 [] := Keep.refl _ _
  rw [ef_rm0]
  refine Gl.pre (S' := s₁.setTop (mkF m 12 #[.val (.long q0), .second, .val (.int p2), .val (.long ((1 : Int64) + ((q0 &&& (9223372036854775807 : Int64)) % (1599999984 : Int64)))), .second, .unset, .unset, .unset, .unset, .unset, .unset, .unset, .unset, .unset, .unset, .unset, .unset, .unset] [])) (fun t kt => ?_) ?_
  · show Steps p.tables e below (s₁.setTop (mkF m 0 #[.val (.long q0), .second, .val (.int p2), .unset, .unset, .unset, .unset, .unset, .unset, .unset, .unset, .unset, .unset, .unset, .unset, .unset, .unset, .unset] [])) _
    refine XS.lconst X0.here hx rfl (hb hby at_0) ?_
    show Steps p.tables e below (s₁.setTop (mkF m 1 #[.val (.long q0), .second, .val (.int p2), .unset, .unset, .unset, .unset, .unset, .unset, .unset, .unset, .unset, .unset, .unset, .unset, .unset, .unset, .unset] [(.long (1 : Int64))])) _
    refine XS.lloadN X0.here hx rfl (hb hby at_1) rfl ?_
    show Steps p.tables e below (s₁.setTop (mkF m 2 #[.val (.long q0), .second, .val (.int p2), .unset, .unset, .unset, .unset, .unset, .unset, .unset, .unset, .unset, .unset, .unset, .unset, .unset, .unset, .unset] [(.long q0), (.long (1 : Int64))])) _
    refine X0.ldc2Long hx hown (mvT hZ (hw _ (List.mem_of_getElem? (i := 0) rfl))) (g := (mkF m 2 #[.val (.long q0), .second, .val (.int p2), .unset, .unset, .unset, .unset, .unset, .unset, .unset, .unset, .unset, .unset, .unset, .unset, .unset, .unset, .unset] [(.long q0), (.long (1 : Int64))])) rfl (hb hby at_2) _ ?_
    show Steps p.tables e below (s₁.setTop (mkF m 5 #[.val (.long q0), .second, .val (.int p2), .unset, .unset, .unset, .unset, .unset, .unset, .unset, .unset, .unset, .unset, .unset, .unset, .unset, .unset, .unset] [(.long (9223372036854775807 : Int64)), (.long q0), (.long (1 : Int64))])) _
    refine XS.land X0.here hx rfl (hb hby at_5) rfl ?_
    show Steps p.tables e below (s₁.setTop (mkF m 6 #[.val (.long q0), .second, .val (.int p2), .unset, .unset, .unset, .unset, .unset, .unset, .unset, .unset, .unset, .unset, .unset, .unset, .unset, .unset, .unset] [(.long (q0 &&& (9223372036854775807 : Int64))), (.long (1 : Int64))])) _
    refine X0.ldc2Long hx hown (mvT hZ (hw _ (List.mem_of_getElem? (i := 1) rfl))) (g := (mkF m 6 #[.val (.long q0), .second, .val (.int p2), .unset, .unset, .unset, .unset, .unset, .unset, .unset, .unset, .unset, .unset, .unset, .unset, .unset, .unset, .unset] [(.long (q0 &&& (9223372036854775807 : Int64))), (.long (1 : Int64))])) rfl (hb hby at_6) _ ?_
    show Steps p.tables e below (s₁.setTop (mkF m 9 #[.val (.long q0), .second, .val (.int p2), .unset, .unset, .unset, .unset, .unset, .unset, .unset, .unset, .unset, .unset, .unset, .unset, .unset, .unset, .unset] [(.long (1599999984 : Int64)), (.long (q0 &&& (9223372036854775807 : Int64))), (.long (1 : Int64))])) _
    refine XS.lrem X0.here hx rfl (hb hby at_9) rfl (by decide) ?_
    rw [own_lrem]
    show Steps p.tables e below (s₁.setTop (mkF m 10 #[.val (.long q0), .second, .val (.int p2), .unset, .unset, .unset, .unset, .unset, .unset, .unset, .unset, .unset, .unset, .unset, .unset, .unset, .unset, .unset] [(.long ((q0 &&& (9223372036854775807 : Int64)) % (1599999984 : Int64))), (.long (1 : Int64))])) _
    refine XS.ladd X0.here hx rfl (hb hby at_10) rfl ?_
    show Steps p.tables e below (s₁.setTop (mkF m 11 #[.val (.long q0), .second, .val (.int p2), .unset, .unset, .unset, .unset, .unset, .unset, .unset, .unset, .unset, .unset, .unset, .unset, .unset, .unset, .unset] [(.long ((1 : Int64) + ((q0 &&& (9223372036854775807 : Int64)) % (1599999984 : Int64))))])) _
    refine XS.lstoreN X0.here hx rfl (hb hby at_11) rfl (l' := #[.val (.long q0), .second, .val (.int p2), .val (.long ((1 : Int64) + ((q0 &&& (9223372036854775807 : Int64)) % (1599999984 : Int64)))), .second, .unset, .unset, .unset, .unset, .unset, .unset, .unset, .unset, .unset, .unset, .unset, .unset, .unset]) rfl ?_
    exact kt
  obtain ⟨cc, h_cc⟩ : ∃ z : Int64, z = ((1 : Int64) + ((q0 &&& (9223372036854775807 : Int64)) % (1599999984 : Int64))) := ⟨_, rfl⟩
  rw [← h_cc]
  have hc1 : 1 ≤ cc.toInt := by rw [h_cc]; exact (own_cents q0).1
  have hc2 : cc.toInt ≤ 1599999984 := by rw [h_cc]; exact (own_cents q0).2
  have hnn := own_N_le hc1 hc2
  refine Gl.pre (S' := s₁.setTop (mkF m 30 #[.val (.long q0), .second, .val (.int p2), .val (.long cc), .second, .val (.long (cc / (99999999 : Int64))), .second, .val (.long (cc % (99999999 : Int64))), .second, .unset, .unset, .unset, .unset, .unset, .unset, .unset, .unset, .unset] [(.int (lcmpW (cc % (99999999 : Int64)) (0 : Int64)))])) (fun t kt => ?_) ?_
  · show Steps p.tables e below (s₁.setTop (mkF m 12 #[.val (.long q0), .second, .val (.int p2), .val (.long cc), .second, .unset, .unset, .unset, .unset, .unset, .unset, .unset, .unset, .unset, .unset, .unset, .unset, .unset] [])) _
    refine XS.lloadN X0.here hx rfl (hb hby at_12) rfl ?_
    show Steps p.tables e below (s₁.setTop (mkF m 13 #[.val (.long q0), .second, .val (.int p2), .val (.long cc), .second, .unset, .unset, .unset, .unset, .unset, .unset, .unset, .unset, .unset, .unset, .unset, .unset, .unset] [(.long cc)])) _
    refine X0.ldc2Long hx hown (mvT hZ (hw _ (List.mem_of_getElem? (i := 2) rfl))) (g := (mkF m 13 #[.val (.long q0), .second, .val (.int p2), .val (.long cc), .second, .unset, .unset, .unset, .unset, .unset, .unset, .unset, .unset, .unset, .unset, .unset, .unset, .unset] [(.long cc)])) rfl (hb hby at_13) _ ?_
    show Steps p.tables e below (s₁.setTop (mkF m 16 #[.val (.long q0), .second, .val (.int p2), .val (.long cc), .second, .unset, .unset, .unset, .unset, .unset, .unset, .unset, .unset, .unset, .unset, .unset, .unset, .unset] [(.long (99999999 : Int64)), (.long cc)])) _
    refine XS.ldiv X0.here hx rfl (hb hby at_16) rfl (by decide) ?_
    show Steps p.tables e below (s₁.setTop (mkF m 17 #[.val (.long q0), .second, .val (.int p2), .val (.long cc), .second, .unset, .unset, .unset, .unset, .unset, .unset, .unset, .unset, .unset, .unset, .unset, .unset, .unset] [(.long (cc / (99999999 : Int64)))])) _
    refine XS.lstore X0.here hx rfl (hb hby at_17) rfl (l' := #[.val (.long q0), .second, .val (.int p2), .val (.long cc), .second, .val (.long (cc / (99999999 : Int64))), .second, .unset, .unset, .unset, .unset, .unset, .unset, .unset, .unset, .unset, .unset, .unset]) rfl ?_
    show Steps p.tables e below (s₁.setTop (mkF m 19 #[.val (.long q0), .second, .val (.int p2), .val (.long cc), .second, .val (.long (cc / (99999999 : Int64))), .second, .unset, .unset, .unset, .unset, .unset, .unset, .unset, .unset, .unset, .unset, .unset] [])) _
    refine XS.lloadN X0.here hx rfl (hb hby at_19) rfl ?_
    show Steps p.tables e below (s₁.setTop (mkF m 20 #[.val (.long q0), .second, .val (.int p2), .val (.long cc), .second, .val (.long (cc / (99999999 : Int64))), .second, .unset, .unset, .unset, .unset, .unset, .unset, .unset, .unset, .unset, .unset, .unset] [(.long cc)])) _
    refine X0.ldc2Long hx hown (mvT hZ (hw _ (List.mem_of_getElem? (i := 2) rfl))) (g := (mkF m 20 #[.val (.long q0), .second, .val (.int p2), .val (.long cc), .second, .val (.long (cc / (99999999 : Int64))), .second, .unset, .unset, .unset, .unset, .unset, .unset, .unset, .unset, .unset, .unset, .unset] [(.long cc)])) rfl (hb hby at_20) _ ?_
    show Steps p.tables e below (s₁.setTop (mkF m 23 #[.val (.long q0), .second, .val (.int p2), .val (.long cc), .second, .val (.long (cc / (99999999 : Int64))), .second, .unset, .unset, .unset, .unset, .unset, .unset, .unset, .unset, .unset, .unset, .unset] [(.long (99999999 : Int64)), (.long cc)])) _
    refine XS.lrem X0.here hx rfl (hb hby at_23) rfl (by decide) ?_
    rw [own_lrem]
    show Steps p.tables e below (s₁.setTop (mkF m 24 #[.val (.long q0), .second, .val (.int p2), .val (.long cc), .second, .val (.long (cc / (99999999 : Int64))), .second, .unset, .unset, .unset, .unset, .unset, .unset, .unset, .unset, .unset, .unset, .unset] [(.long (cc % (99999999 : Int64)))])) _
    refine XS.lstore X0.here hx rfl (hb hby at_24) rfl (l' := #[.val (.long q0), .second, .val (.int p2), .val (.long cc), .second, .val (.long (cc / (99999999 : Int64))), .second, .val (.long (cc % (99999999 : Int64))), .second, .unset, .unset, .unset, .unset, .unset, .unset, .unset, .unset, .unset]) rfl ?_
    show Steps p.tables e below (s₁.setTop (mkF m 26 #[.val (.long q0), .second, .val (.int p2), .val (.long cc), .second, .val (.long (cc / (99999999 : Int64))), .second, .val (.long (cc % (99999999 : Int64))), .second, .unset, .unset, .unset, .unset, .unset, .unset, .unset, .unset, .unset] [])) _
    refine XS.lload X0.here hx rfl (hb hby at_26) rfl ?_
    show Steps p.tables e below (s₁.setTop (mkF m 28 #[.val (.long q0), .second, .val (.int p2), .val (.long cc), .second, .val (.long (cc / (99999999 : Int64))), .second, .val (.long (cc % (99999999 : Int64))), .second, .unset, .unset, .unset, .unset, .unset, .unset, .unset, .unset, .unset] [(.long (cc % (99999999 : Int64)))])) _
    refine XS.lconst X0.here hx rfl (hb hby at_28) ?_
    show Steps p.tables e below (s₁.setTop (mkF m 29 #[.val (.long q0), .second, .val (.int p2), .val (.long cc), .second, .val (.long (cc / (99999999 : Int64))), .second, .val (.long (cc % (99999999 : Int64))), .second, .unset, .unset, .unset, .unset, .unset, .unset, .unset, .unset, .unset] [(.long (0 : Int64)), (.long (cc % (99999999 : Int64)))])) _
    refine XS.lcmp X0.here hx rfl (hb hby at_29) rfl ?_
    exact kt
  by_cases hc30 : (cc % (99999999 : Int64)) = (0 : Int64)
  · refine Gl.pre (S' := s₁.setTop (mkF m 57 #[.val (.long q0), .second, .val (.int p2), .val (.long cc), .second, .val (.long (cc / (99999999 : Int64))), .second, .val (.long (cc % (99999999 : Int64))), .second, .val (.int ((cc / (99999999 : Int64)).toInt32)), .val (.long (99999999 : Int64)), .second, .unset, .unset, .unset, .unset, .unset, .unset] [])) (fun t kt => ?_) ?_
    · show Steps p.tables e below (s₁.setTop (mkF m 30 #[.val (.long q0), .second, .val (.int p2), .val (.long cc), .second, .val (.long (cc / (99999999 : Int64))), .second, .val (.long (cc % (99999999 : Int64))), .second, .unset, .unset, .unset, .unset, .unset, .unset, .unset, .unset, .unset] [(.int (lcmpW (cc % (99999999 : Int64)) (0 : Int64)))])) _
      refine XS.ifNo X0.here hx rfl (hb hby at_30) rfl (own_nf (l0_ne _ _) hc30) ?_
      show Steps p.tables e below (s₁.setTop (mkF m 33 #[.val (.long q0), .second, .val (.int p2), .val (.long cc), .second, .val (.long (cc / (99999999 : Int64))), .second, .val (.long (cc % (99999999 : Int64))), .second, .unset, .unset, .unset, .unset, .unset, .unset, .unset, .unset, .unset] [])) _
      refine XS.lload X0.here hx rfl (hb hby at_33) rfl ?_
      show Steps p.tables e below (s₁.setTop (mkF m 35 #[.val (.long q0), .second, .val (.int p2), .val (.long cc), .second, .val (.long (cc / (99999999 : Int64))), .second, .val (.long (cc % (99999999 : Int64))), .second, .unset, .unset, .unset, .unset, .unset, .unset, .unset, .unset, .unset] [(.long (cc / (99999999 : Int64)))])) _
      refine XS.l2i X0.here hx rfl (hb hby at_35) rfl ?_
      show Steps p.tables e below (s₁.setTop (mkF m 36 #[.val (.long q0), .second, .val (.int p2), .val (.long cc), .second, .val (.long (cc / (99999999 : Int64))), .second, .val (.long (cc % (99999999 : Int64))), .second, .unset, .unset, .unset, .unset, .unset, .unset, .unset, .unset, .unset] [(.int ((cc / (99999999 : Int64)).toInt32))])) _
      refine XS.istore X0.here hx rfl (hb hby at_36) rfl (l' := #[.val (.long q0), .second, .val (.int p2), .val (.long cc), .second, .val (.long (cc / (99999999 : Int64))), .second, .val (.long (cc % (99999999 : Int64))), .second, .val (.int ((cc / (99999999 : Int64)).toInt32)), .unset, .unset, .unset, .unset, .unset, .unset, .unset, .unset]) rfl ?_
      show Steps p.tables e below (s₁.setTop (mkF m 38 #[.val (.long q0), .second, .val (.int p2), .val (.long cc), .second, .val (.long (cc / (99999999 : Int64))), .second, .val (.long (cc % (99999999 : Int64))), .second, .val (.int ((cc / (99999999 : Int64)).toInt32)), .unset, .unset, .unset, .unset, .unset, .unset, .unset, .unset] [])) _
      refine X0.ldc2Long hx hown (mvT hZ (hw _ (List.mem_of_getElem? (i := 2) rfl))) (g := (mkF m 38 #[.val (.long q0), .second, .val (.int p2), .val (.long cc), .second, .val (.long (cc / (99999999 : Int64))), .second, .val (.long (cc % (99999999 : Int64))), .second, .val (.int ((cc / (99999999 : Int64)).toInt32)), .unset, .unset, .unset, .unset, .unset, .unset, .unset, .unset] [])) rfl (hb hby at_38) _ ?_
      show Steps p.tables e below (s₁.setTop (mkF m 41 #[.val (.long q0), .second, .val (.int p2), .val (.long cc), .second, .val (.long (cc / (99999999 : Int64))), .second, .val (.long (cc % (99999999 : Int64))), .second, .val (.int ((cc / (99999999 : Int64)).toInt32)), .unset, .unset, .unset, .unset, .unset, .unset, .unset, .unset] [(.long (99999999 : Int64))])) _
      refine XS.lstore X0.here hx rfl (hb hby at_41) rfl (l' := #[.val (.long q0), .second, .val (.int p2), .val (.long cc), .second, .val (.long (cc / (99999999 : Int64))), .second, .val (.long (cc % (99999999 : Int64))), .second, .val (.int ((cc / (99999999 : Int64)).toInt32)), .val (.long (99999999 : Int64)), .second, .unset, .unset, .unset, .unset, .unset, .unset]) rfl ?_
      show Steps p.tables e below (s₁.setTop (mkF m 43 #[.val (.long q0), .second, .val (.int p2), .val (.long cc), .second, .val (.long (cc / (99999999 : Int64))), .second, .val (.long (cc % (99999999 : Int64))), .second, .val (.int ((cc / (99999999 : Int64)).toInt32)), .val (.long (99999999 : Int64)), .second, .unset, .unset, .unset, .unset, .unset, .unset] [])) _
      refine XS.goto X0.here hx rfl (pc0 := 43) (pc' := 57) rfl (hb hby at_43) (by decide) (by decide) ?_
      exact kt
    rw [(own_r0 hc1 hc2 hc30).1]
    have hlast := (own_r0 hc1 hc2 hc30).2
    obtain ⟨v101, T101, L101, X101, q101, st101⟩ := own_callS X0 hx hZ (y := (⟨"com/example/stackledger/stackledger/Money", "inSingleAmounts", "(J)[J"⟩ : MethodName)) hown (hw _ (List.mem_of_getElem? (i := 3) rfl)) (hw _ (List.mem_of_getElem? (i := 4) rfl)) (hw _ (List.mem_of_getElem? (i := 5) rfl)) (hw _ (List.mem_of_getElem? (i := 6) rfl)) (by decide) (hM := (rm1 l Z a0 hw [] cc h0 n0 Z0 hc1 hc2)) (by decide) (by decide) (by decide) (by decide) e0 (argsL := [(.long cc)]) (rest := []) (Ls := #[.val (.long q0), .second, .val (.int p2), .val (.long cc), .second, .val (.long (cc / (99999999 : Int64))), .second, .val (.long (cc % (99999999 : Int64))), .second, .val (.int (Int32.ofNat (own_N cc))), .val (.long (99999999 : Int64)), .second, .unset, .unset, .unset, .unset, .unset, .unset]) (by rw [hml]; rfl) (lenOf pd__J__J rfl) (W := 0) (Nat.le_of_eq rfl) (hb hby at_58)
    obtain ⟨r101, szq_r101, rfl, N101q, K101q, A101q⟩ := q101
    have N101 := Fr.app N0 N101q
    have K101 : Keep h0 T101.heap [] := K0.trans K101q all0
    have g_r101 : n0 ≤ r101 := Nat.le_trans Z0 szq_r101
    have sz_r101 : h0.size ≤ r101 := Nat.le_trans K0.1 szq_r101
    obtain ⟨cl102, Ar102, Sa102, Ha102⟩ := id A101q
    refine Gl.pre (S' := T101.setTop (mkF m 87 #[.val (.long q0), .second, .val (.int p2), .val (.long cc), .second, .val (.long (cc / (99999999 : Int64))), .second, .val (.long (cc % (99999999 : Int64))), .second, .val (.int (Int32.ofNat (own_N cc))), .val (.long (99999999 : Int64)), .second, .val (.ref r101), .val (.int ((p2 &&& (2147483647 : Int32)) % (Int32.ofNat (own_N cc)))), .unset, .unset, .unset, .unset] [])) (fun t kt => ?_) ?_
    · show Steps p.tables e below (s₁.setTop (mkF m 57 #[.val (.long q0), .second, .val (.int p2), .val (.long cc), .second, .val (.long (cc / (99999999 : Int64))), .second, .val (.long (cc % (99999999 : Int64))), .second, .val (.int (Int32.ofNat (own_N cc))), .val (.long (99999999 : Int64)), .second, .unset, .unset, .unset, .unset, .unset, .unset] [])) _
      refine XS.lloadN X0.here hx rfl (hb hby at_57) rfl ?_
      show Steps p.tables e below (s₁.setTop (mkF m 58 #[.val (.long q0), .second, .val (.int p2), .val (.long cc), .second, .val (.long (cc / (99999999 : Int64))), .second, .val (.long (cc % (99999999 : Int64))), .second, .val (.int (Int32.ofNat (own_N cc))), .val (.long (99999999 : Int64)), .second, .unset, .unset, .unset, .unset, .unset, .unset] [(.long cc)])) _
      refine st101 _ ?_
      show Steps p.tables e below (T101.setTop (mkF m 61 #[.val (.long q0), .second, .val (.int p2), .val (.long cc), .second, .val (.long (cc / (99999999 : Int64))), .second, .val (.long (cc % (99999999 : Int64))), .second, .val (.int (Int32.ofNat (own_N cc))), .val (.long (99999999 : Int64)), .second, .unset, .unset, .unset, .unset, .unset, .unset] [(.ref r101)])) _
      refine XS.astore X101.here hx rfl (hb hby at_61) rfl rfl (l' := #[.val (.long q0), .second, .val (.int p2), .val (.long cc), .second, .val (.long (cc / (99999999 : Int64))), .second, .val (.long (cc % (99999999 : Int64))), .second, .val (.int (Int32.ofNat (own_N cc))), .val (.long (99999999 : Int64)), .second, .val (.ref r101), .unset, .unset, .unset, .unset, .unset]) rfl ?_
      show Steps p.tables e below (T101.setTop (mkF m 63 #[.val (.long q0), .second, .val (.int p2), .val (.long cc), .second, .val (.long (cc / (99999999 : Int64))), .second, .val (.long (cc % (99999999 : Int64))), .second, .val (.int (Int32.ofNat (own_N cc))), .val (.long (99999999 : Int64)), .second, .val (.ref r101), .unset, .unset, .unset, .unset, .unset] [])) _
      refine XS.aload X101.here hx rfl (hb hby at_63) rfl rfl ?_
      show Steps p.tables e below (T101.setTop (mkF m 65 #[.val (.long q0), .second, .val (.int p2), .val (.long cc), .second, .val (.long (cc / (99999999 : Int64))), .second, .val (.long (cc % (99999999 : Int64))), .second, .val (.int (Int32.ofNat (own_N cc))), .val (.long (99999999 : Int64)), .second, .val (.ref r101), .unset, .unset, .unset, .unset, .unset] [(.ref r101)])) _
      refine XS.ifnullNo X101.here hx rfl (hb hby at_65) rfl ?_
      show Steps p.tables e below (T101.setTop (mkF m 68 #[.val (.long q0), .second, .val (.int p2), .val (.long cc), .second, .val (.long (cc / (99999999 : Int64))), .second, .val (.long (cc % (99999999 : Int64))), .second, .val (.int (Int32.ofNat (own_N cc))), .val (.long (99999999 : Int64)), .second, .val (.ref r101), .unset, .unset, .unset, .unset, .unset] [])) _
      refine XS.aload X101.here hx rfl (hb hby at_68) rfl rfl ?_
      show Steps p.tables e below (T101.setTop (mkF m 70 #[.val (.long q0), .second, .val (.int p2), .val (.long cc), .second, .val (.long (cc / (99999999 : Int64))), .second, .val (.long (cc % (99999999 : Int64))), .second, .val (.int (Int32.ofNat (own_N cc))), .val (.long (99999999 : Int64)), .second, .val (.ref r101), .unset, .unset, .unset, .unset, .unset] [(.ref r101)])) _
      refine X101.arraylength hx (own_hc rfl Ar102.1) (State.isArrayOf_alike hZ.alike Ar102.2.1) (g := (mkF m 70 #[.val (.long q0), .second, .val (.int p2), .val (.long cc), .second, .val (.long (cc / (99999999 : Int64))), .second, .val (.long (cc % (99999999 : Int64))), .second, .val (.int (Int32.ofNat (own_N cc))), .val (.long (99999999 : Int64)), .second, .val (.ref r101), .unset, .unset, .unset, .unset, .unset] [(.ref r101)])) rfl rfl (hb hby at_70) _ ?_
      rw [show cl102.slots.size.toInt32 = (Int32.ofNat (own_N cc)) from by rw [Sa102]]
      show Steps p.tables e below (T101.setTop (mkF m 71 #[.val (.long q0), .second, .val (.int p2), .val (.long cc), .second, .val (.long (cc / (99999999 : Int64))), .second, .val (.long (cc % (99999999 : Int64))), .second, .val (.int (Int32.ofNat (own_N cc))), .val (.long (99999999 : Int64)), .second, .val (.ref r101), .unset, .unset, .unset, .unset, .unset] [(.int (Int32.ofNat (own_N cc)))])) _
      refine XS.iload X101.here hx rfl (hb hby at_71) rfl ?_
      show Steps p.tables e below (T101.setTop (mkF m 73 #[.val (.long q0), .second, .val (.int p2), .val (.long cc), .second, .val (.long (cc / (99999999 : Int64))), .second, .val (.long (cc % (99999999 : Int64))), .second, .val (.int (Int32.ofNat (own_N cc))), .val (.long (99999999 : Int64)), .second, .val (.ref r101), .unset, .unset, .unset, .unset, .unset] [(.int (Int32.ofNat (own_N cc))), (.int (Int32.ofNat (own_N cc)))])) _
      refine XS.icmpYes X101.here hx rfl (pc0 := 73) (pc' := 78) rfl (hb hby at_73) rfl (own_t (ic_eq _ _) rfl) (by decide) (by decide) ?_
      show Steps p.tables e below (T101.setTop (mkF m 78 #[.val (.long q0), .second, .val (.int p2), .val (.long cc), .second, .val (.long (cc / (99999999 : Int64))), .second, .val (.long (cc % (99999999 : Int64))), .second, .val (.int (Int32.ofNat (own_N cc))), .val (.long (99999999 : Int64)), .second, .val (.ref r101), .unset, .unset, .unset, .unset, .unset] [])) _
      refine XS.iloadN X101.here hx rfl (hb hby at_78) rfl ?_
      show Steps p.tables e below (T101.setTop (mkF m 79 #[.val (.long q0), .second, .val (.int p2), .val (.long cc), .second, .val (.long (cc / (99999999 : Int64))), .second, .val (.long (cc % (99999999 : Int64))), .second, .val (.int (Int32.ofNat (own_N cc))), .val (.long (99999999 : Int64)), .second, .val (.ref r101), .unset, .unset, .unset, .unset, .unset] [(.int p2)])) _
      refine X101.ldcInt hx hown (mvT hZ (hw _ (List.mem_of_getElem? (i := 17) rfl))) (g := (mkF m 79 #[.val (.long q0), .second, .val (.int p2), .val (.long cc), .second, .val (.long (cc / (99999999 : Int64))), .second, .val (.long (cc % (99999999 : Int64))), .second, .val (.int (Int32.ofNat (own_N cc))), .val (.long (99999999 : Int64)), .second, .val (.ref r101), .unset, .unset, .unset, .unset, .unset] [(.int p2)])) rfl (hb hby at_79) _ ?_
      show Steps p.tables e below (T101.setTop (mkF m 81 #[.val (.long q0), .second, .val (.int p2), .val (.long cc), .second, .val (.long (cc / (99999999 : Int64))), .second, .val (.long (cc % (99999999 : Int64))), .second, .val (.int (Int32.ofNat (own_N cc))), .val (.long (99999999 : Int64)), .second, .val (.ref r101), .unset, .unset, .unset, .unset, .unset] [(.int (2147483647 : Int32)), (.int p2)])) _
      refine XS.iand X101.here hx rfl (hb hby at_81) rfl ?_
      show Steps p.tables e below (T101.setTop (mkF m 82 #[.val (.long q0), .second, .val (.int p2), .val (.long cc), .second, .val (.long (cc / (99999999 : Int64))), .second, .val (.long (cc % (99999999 : Int64))), .second, .val (.int (Int32.ofNat (own_N cc))), .val (.long (99999999 : Int64)), .second, .val (.ref r101), .unset, .unset, .unset, .unset, .unset] [(.int (p2 &&& (2147483647 : Int32)))])) _
      refine XS.iload X101.here hx rfl (hb hby at_82) rfl ?_
      show Steps p.tables e below (T101.setTop (mkF m 84 #[.val (.long q0), .second, .val (.int p2), .val (.long cc), .second, .val (.long (cc / (99999999 : Int64))), .second, .val (.long (cc % (99999999 : Int64))), .second, .val (.int (Int32.ofNat (own_N cc))), .val (.long (99999999 : Int64)), .second, .val (.ref r101), .unset, .unset, .unset, .unset, .unset] [(.int (Int32.ofNat (own_N cc))), (.int (p2 &&& (2147483647 : Int32)))])) _
      refine iremM X101 hx rfl (hb hby at_84) rfl (own_o_ne hnn.1 hnn.2) ?_
      show Steps p.tables e below (T101.setTop (mkF m 85 #[.val (.long q0), .second, .val (.int p2), .val (.long cc), .second, .val (.long (cc / (99999999 : Int64))), .second, .val (.long (cc % (99999999 : Int64))), .second, .val (.int (Int32.ofNat (own_N cc))), .val (.long (99999999 : Int64)), .second, .val (.ref r101), .unset, .unset, .unset, .unset, .unset] [(.int ((p2 &&& (2147483647 : Int32)) % (Int32.ofNat (own_N cc))))])) _
      refine XS.istore X101.here hx rfl (hb hby at_85) rfl (l' := #[.val (.long q0), .second, .val (.int p2), .val (.long cc), .second, .val (.long (cc / (99999999 : Int64))), .second, .val (.long (cc % (99999999 : Int64))), .second, .val (.int (Int32.ofNat (own_N cc))), .val (.long (99999999 : Int64)), .second, .val (.ref r101), .val (.int ((p2 &&& (2147483647 : Int32)) % (Int32.ofNat (own_N cc)))), .unset, .unset, .unset, .unset]) rfl ?_
      exact kt
    obtain ⟨ii, h_ii⟩ : ∃ z : Int32, z = ((p2 &&& (2147483647 : Int32)) % (Int32.ofNat (own_N cc))) := ⟨_, rfl⟩
    rw [← h_ii]
    have hii := own_mod p2 (Int32.ofNat (own_N cc)) (by rw [own_o32 hnn.2]; omega)
    rw [← h_ii, own_o32 hnn.2] at hii
    obtain ⟨iN, hiN⟩ : ∃ n : Nat, n = ii.toInt.toNat := ⟨_, rfl⟩
    have hiL : iN < own_N cc := by omega
    have hieq : ii = Int32.ofNat iN := by rw [← Int32.toInt_inj, own_o32 (by omega)]; omega
    refine Gl.pre (S' := T101.setTop (mkF m 93 #[.val (.long q0), .second, .val (.int p2), .val (.long cc), .second, .val (.long (cc / (99999999 : Int64))), .second, .val (.long (cc % (99999999 : Int64))), .second, .val (.int (Int32.ofNat (own_N cc))), .val (.long (99999999 : Int64)), .second, .val (.ref r101), .val (.int ii), .unset, .unset, .unset, .unset] [(.int ((Int32.ofNat (own_N cc)) - (1 : Int32))), (.int ii)])) (fun t kt => ?_) ?_
    · show Steps p.tables e below (T101.setTop (mkF m 87 #[.val (.long q0), .second, .val (.int p2), .val (.long cc), .second, .val (.long (cc / (99999999 : Int64))), .second, .val (.long (cc % (99999999 : Int64))), .second, .val (.int (Int32.ofNat (own_N cc))), .val (.long (99999999 : Int64)), .second, .val (.ref r101), .val (.int ii), .unset, .unset, .unset, .unset] [])) _
      refine XS.iload X101.here hx rfl (hb hby at_87) rfl ?_
      show Steps p.tables e below (T101.setTop (mkF m 89 #[.val (.long q0), .second, .val (.int p2), .val (.long cc), .second, .val (.long (cc / (99999999 : Int64))), .second, .val (.long (cc % (99999999 : Int64))), .second, .val (.int (Int32.ofNat (own_N cc))), .val (.long (99999999 : Int64)), .second, .val (.ref r101), .val (.int ii), .unset, .unset, .unset, .unset] [(.int ii)])) _
      refine XS.iload X101.here hx rfl (hb hby at_89) rfl ?_
      show Steps p.tables e below (T101.setTop (mkF m 91 #[.val (.long q0), .second, .val (.int p2), .val (.long cc), .second, .val (.long (cc / (99999999 : Int64))), .second, .val (.long (cc % (99999999 : Int64))), .second, .val (.int (Int32.ofNat (own_N cc))), .val (.long (99999999 : Int64)), .second, .val (.ref r101), .val (.int ii), .unset, .unset, .unset, .unset] [(.int (Int32.ofNat (own_N cc))), (.int ii)])) _
      refine XS.iconst X101.here hx rfl (hb hby at_91) ?_
      show Steps p.tables e below (T101.setTop (mkF m 92 #[.val (.long q0), .second, .val (.int p2), .val (.long cc), .second, .val (.long (cc / (99999999 : Int64))), .second, .val (.long (cc % (99999999 : Int64))), .second, .val (.int (Int32.ofNat (own_N cc))), .val (.long (99999999 : Int64)), .second, .val (.ref r101), .val (.int ii), .unset, .unset, .unset, .unset] [(.int (1 : Int32)), (.int (Int32.ofNat (own_N cc))), (.int ii)])) _
      refine XS.isub X101.here hx rfl (hb hby at_92) rfl ?_
      exact kt
    by_cases hc93 : ii = ((Int32.ofNat (own_N cc)) - (1 : Int32))
    · refine Gl.pre (S' := T101.setTop (mkF m 109 #[.val (.long q0), .second, .val (.int p2), .val (.long cc), .second, .val (.long (cc / (99999999 : Int64))), .second, .val (.long (cc % (99999999 : Int64))), .second, .val (.int (Int32.ofNat (own_N cc))), .val (.long (99999999 : Int64)), .second, .val (.ref r101), .val (.int ii), .val (.long (99999999 : Int64)), .second, .unset, .unset] [(.int (1 : Int32)), (.int (Int32.ofNat (own_N cc)))])) (fun t kt => ?_) ?_
      · show Steps p.tables e below (T101.setTop (mkF m 93 #[.val (.long q0), .second, .val (.int p2), .val (.long cc), .second, .val (.long (cc / (99999999 : Int64))), .second, .val (.long (cc % (99999999 : Int64))), .second, .val (.int (Int32.ofNat (own_N cc))), .val (.long (99999999 : Int64)), .second, .val (.ref r101), .val (.int ii), .unset, .unset, .unset, .unset] [(.int ((Int32.ofNat (own_N cc)) - (1 : Int32))), (.int ii)])) _
        refine XS.icmpNo X101.here hx rfl (hb hby at_93) rfl (own_nf (ic_ne _ _) hc93) ?_
        show Steps p.tables e below (T101.setTop (mkF m 96 #[.val (.long q0), .second, .val (.int p2), .val (.long cc), .second, .val (.long (cc / (99999999 : Int64))), .second, .val (.long (cc % (99999999 : Int64))), .second, .val (.int (Int32.ofNat (own_N cc))), .val (.long (99999999 : Int64)), .second, .val (.ref r101), .val (.int ii), .unset, .unset, .unset, .unset] [])) _
        refine XS.lload X101.here hx rfl (hb hby at_96) rfl ?_
        show Steps p.tables e below (T101.setTop (mkF m 98 #[.val (.long q0), .second, .val (.int p2), .val (.long cc), .second, .val (.long (cc / (99999999 : Int64))), .second, .val (.long (cc % (99999999 : Int64))), .second, .val (.int (Int32.ofNat (own_N cc))), .val (.long (99999999 : Int64)), .second, .val (.ref r101), .val (.int ii), .unset, .unset, .unset, .unset] [(.long (99999999 : Int64))])) _
        refine XS.goto X101.here hx rfl (pc0 := 98) (pc' := 104) rfl (hb hby at_98) (by decide) (by decide) ?_
        show Steps p.tables e below (T101.setTop (mkF m 104 #[.val (.long q0), .second, .val (.int p2), .val (.long cc), .second, .val (.long (cc / (99999999 : Int64))), .second, .val (.long (cc % (99999999 : Int64))), .second, .val (.int (Int32.ofNat (own_N cc))), .val (.long (99999999 : Int64)), .second, .val (.ref r101), .val (.int ii), .unset, .unset, .unset, .unset] [(.long (99999999 : Int64))])) _
        refine XS.lstore X101.here hx rfl (hb hby at_104) rfl (l' := #[.val (.long q0), .second, .val (.int p2), .val (.long cc), .second, .val (.long (cc / (99999999 : Int64))), .second, .val (.long (cc % (99999999 : Int64))), .second, .val (.int (Int32.ofNat (own_N cc))), .val (.long (99999999 : Int64)), .second, .val (.ref r101), .val (.int ii), .val (.long (99999999 : Int64)), .second, .unset, .unset]) rfl ?_
        show Steps p.tables e below (T101.setTop (mkF m 106 #[.val (.long q0), .second, .val (.int p2), .val (.long cc), .second, .val (.long (cc / (99999999 : Int64))), .second, .val (.long (cc % (99999999 : Int64))), .second, .val (.int (Int32.ofNat (own_N cc))), .val (.long (99999999 : Int64)), .second, .val (.ref r101), .val (.int ii), .val (.long (99999999 : Int64)), .second, .unset, .unset] [])) _
        refine XS.iload X101.here hx rfl (hb hby at_106) rfl ?_
        show Steps p.tables e below (T101.setTop (mkF m 108 #[.val (.long q0), .second, .val (.int p2), .val (.long cc), .second, .val (.long (cc / (99999999 : Int64))), .second, .val (.long (cc % (99999999 : Int64))), .second, .val (.int (Int32.ofNat (own_N cc))), .val (.long (99999999 : Int64)), .second, .val (.ref r101), .val (.int ii), .val (.long (99999999 : Int64)), .second, .unset, .unset] [(.int (Int32.ofNat (own_N cc)))])) _
        refine XS.iconst X101.here hx rfl (hb hby at_108) ?_
        exact kt
      by_cases hc109 : (Int32.ofNat (own_N cc)) = (1 : Int32)
      · have hin103 : ¬ (ii < 0 ∨ cl102.slots.size ≤ (ii).toNatClampNeg) := by rw [hieq]; exact own_in Sa102 (by omega) hnn.2
        have hat103 : cl102.slots[(ii).toNatClampNeg]? = some (.long (if iN = own_N cc - 1 then own_last cc else 99999999)) := by rw [hieq]; rw [own_o_nat (by omega)]; exact Ha102 _ (by omega)
        have hin104 : ¬ (((Int32.ofNat (own_N cc)) - (1 : Int32)) < 0 ∨ cl102.slots.size ≤ (((Int32.ofNat (own_N cc)) - (1 : Int32))).toNatClampNeg) := by rw [own_o_sub hnn.1 hnn.2]; exact own_in Sa102 (by omega) hnn.2
        have hat104 : cl102.slots[(((Int32.ofNat (own_N cc)) - (1 : Int32))).toNatClampNeg]? = some (.long (if own_N cc - 1 = own_N cc - 1 then own_last cc else 99999999)) := by rw [own_o_sub hnn.1 hnn.2]; rw [own_o_nat (by omega)]; exact Ha102 _ (by omega)
        have hin105 : ¬ ((0 : Int32) < 0 ∨ cl102.slots.size ≤ ((0 : Int32)).toNatClampNeg) := by rw [show (0 : Int32) = Int32.ofNat 0 from rfl]; exact own_in Sa102 (by omega) hnn.2
        have hat105 : cl102.slots[((0 : Int32)).toNatClampNeg]? = some (.long (if 0 = own_N cc - 1 then own_last cc else 99999999)) := by rw [show (0 : Int32) = Int32.ofNat 0 from rfl]; rw [own_o_nat (by omega)]; exact Ha102 _ (by omega)
        refine Gl.fin X101 (v := some (.int (1 : Int32))) (fun h => by rw [Bd.returns] at h; cases h) Bd.notSynchronized ?_ rfl (by decide) (by decide) (fun fs hr => ?_)
        · exact ⟨rfl, N101⟩
        · show Steps p.tables e below (T101.setTop (mkF m 109 #[.val (.long q0), .second, .val (.int p2), .val (.long cc), .second, .val (.long (cc / (99999999 : Int64))), .second, .val (.long (cc % (99999999 : Int64))), .second, .val (.int (Int32.ofNat (own_N cc))), .val (.long (99999999 : Int64)), .second, .val (.ref r101), .val (.int ii), .val (.long (99999999 : Int64)), .second, .unset, .unset] [(.int (1 : Int32)), (.int (Int32.ofNat (own_N cc)))])) _
          refine XS.icmpNo X101.here hx rfl (hb hby at_109) rfl (own_nf (ic_ne _ _) hc109) ?_
          show Steps p.tables e below (T101.setTop (mkF m 112 #[.val (.long q0), .second, .val (.int p2), .val (.long cc), .second, .val (.long (cc / (99999999 : Int64))), .second, .val (.long (cc % (99999999 : Int64))), .second, .val (.int (Int32.ofNat (own_N cc))), .val (.long (99999999 : Int64)), .second, .val (.ref r101), .val (.int ii), .val (.long (99999999 : Int64)), .second, .unset, .unset] [])) _
          refine XS.lload X101.here hx rfl (hb hby at_112) rfl ?_
          show Steps p.tables e below (T101.setTop (mkF m 114 #[.val (.long q0), .second, .val (.int p2), .val (.long cc), .second, .val (.long (cc / (99999999 : Int64))), .second, .val (.long (cc % (99999999 : Int64))), .second, .val (.int (Int32.ofNat (own_N cc))), .val (.long (99999999 : Int64)), .second, .val (.ref r101), .val (.int ii), .val (.long (99999999 : Int64)), .second, .unset, .unset] [(.long (99999999 : Int64))])) _
          refine XS.goto X101.here hx rfl (pc0 := 114) (pc' := 120) rfl (hb hby at_114) (by decide) (by decide) ?_
          show Steps p.tables e below (T101.setTop (mkF m 120 #[.val (.long q0), .second, .val (.int p2), .val (.long cc), .second, .val (.long (cc / (99999999 : Int64))), .second, .val (.long (cc % (99999999 : Int64))), .second, .val (.int (Int32.ofNat (own_N cc))), .val (.long (99999999 : Int64)), .second, .val (.ref r101), .val (.int ii), .val (.long (99999999 : Int64)), .second, .unset, .unset] [(.long (99999999 : Int64))])) _
          refine XS.lstore X101.here hx rfl (hb hby at_120) rfl (l' := #[.val (.long q0), .second, .val (.int p2), .val (.long cc), .second, .val (.long (cc / (99999999 : Int64))), .second, .val (.long (cc % (99999999 : Int64))), .second, .val (.int (Int32.ofNat (own_N cc))), .val (.long (99999999 : Int64)), .second, .val (.ref r101), .val (.int ii), .val (.long (99999999 : Int64)), .second, .val (.long (99999999 : Int64)), .second]) rfl ?_
          show Steps p.tables e below (T101.setTop (mkF m 122 #[.val (.long q0), .second, .val (.int p2), .val (.long cc), .second, .val (.long (cc / (99999999 : Int64))), .second, .val (.long (cc % (99999999 : Int64))), .second, .val (.int (Int32.ofNat (own_N cc))), .val (.long (99999999 : Int64)), .second, .val (.ref r101), .val (.int ii), .val (.long (99999999 : Int64)), .second, .val (.long (99999999 : Int64)), .second] [])) _
          refine XS.aload X101.here hx rfl (hb hby at_122) rfl rfl ?_
          show Steps p.tables e below (T101.setTop (mkF m 124 #[.val (.long q0), .second, .val (.int p2), .val (.long cc), .second, .val (.long (cc / (99999999 : Int64))), .second, .val (.long (cc % (99999999 : Int64))), .second, .val (.int (Int32.ofNat (own_N cc))), .val (.long (99999999 : Int64)), .second, .val (.ref r101), .val (.int ii), .val (.long (99999999 : Int64)), .second, .val (.long (99999999 : Int64)), .second] [(.ref r101)])) _
          refine XS.iload X101.here hx rfl (hb hby at_124) rfl ?_
          show Steps p.tables e below (T101.setTop (mkF m 126 #[.val (.long q0), .second, .val (.int p2), .val (.long cc), .second, .val (.long (cc / (99999999 : Int64))), .second, .val (.long (cc % (99999999 : Int64))), .second, .val (.int (Int32.ofNat (own_N cc))), .val (.long (99999999 : Int64)), .second, .val (.ref r101), .val (.int ii), .val (.long (99999999 : Int64)), .second, .val (.long (99999999 : Int64)), .second] [(.int ii), (.ref r101)])) _
          refine X101.laload hx (j := ii) (v := .long (if iN = own_N cc - 1 then own_last cc else 99999999)) (own_hc rfl Ar102.1) (State.isArrayOf_alike hZ.alike Ar102.2.1) Ar102.2.2 hin103 hat103 (g := (mkF m 126 #[.val (.long q0), .second, .val (.int p2), .val (.long cc), .second, .val (.long (cc / (99999999 : Int64))), .second, .val (.long (cc % (99999999 : Int64))), .second, .val (.int (Int32.ofNat (own_N cc))), .val (.long (99999999 : Int64)), .second, .val (.ref r101), .val (.int ii), .val (.long (99999999 : Int64)), .second, .val (.long (99999999 : Int64)), .second] [(.int ii), (.ref r101)])) rfl rfl (hb hby at_126) _ ?_
          show Steps p.tables e below (T101.setTop (mkF m 127 #[.val (.long q0), .second, .val (.int p2), .val (.long cc), .second, .val (.long (cc / (99999999 : Int64))), .second, .val (.long (cc % (99999999 : Int64))), .second, .val (.int (Int32.ofNat (own_N cc))), .val (.long (99999999 : Int64)), .second, .val (.ref r101), .val (.int ii), .val (.long (99999999 : Int64)), .second, .val (.long (99999999 : Int64)), .second] [(.long (if iN = own_N cc - 1 then own_last cc else 99999999))])) _
          refine XS.lload X101.here hx rfl (hb hby at_127) rfl ?_
          show Steps p.tables e below (T101.setTop (mkF m 129 #[.val (.long q0), .second, .val (.int p2), .val (.long cc), .second, .val (.long (cc / (99999999 : Int64))), .second, .val (.long (cc % (99999999 : Int64))), .second, .val (.int (Int32.ofNat (own_N cc))), .val (.long (99999999 : Int64)), .second, .val (.ref r101), .val (.int ii), .val (.long (99999999 : Int64)), .second, .val (.long (99999999 : Int64)), .second] [(.long (99999999 : Int64)), (.long (if iN = own_N cc - 1 then own_last cc else 99999999))])) _
          refine XS.lcmp X101.here hx rfl (hb hby at_129) rfl ?_
          show Steps p.tables e below (T101.setTop (mkF m 130 #[.val (.long q0), .second, .val (.int p2), .val (.long cc), .second, .val (.long (cc / (99999999 : Int64))), .second, .val (.long (cc % (99999999 : Int64))), .second, .val (.int (Int32.ofNat (own_N cc))), .val (.long (99999999 : Int64)), .second, .val (.ref r101), .val (.int ii), .val (.long (99999999 : Int64)), .second, .val (.long (99999999 : Int64)), .second] [(.int (lcmpW (if iN = own_N cc - 1 then own_last cc else 99999999) (99999999 : Int64)))])) _
          refine XS.ifNo X101.here hx rfl (hb hby at_130) rfl (own_nf (l0_ne _ _) (own_cmp1 hnn hieq hiL hc93 hlast)) ?_
          show Steps p.tables e below (T101.setTop (mkF m 133 #[.val (.long q0), .second, .val (.int p2), .val (.long cc), .second, .val (.long (cc / (99999999 : Int64))), .second, .val (.long (cc % (99999999 : Int64))), .second, .val (.int (Int32.ofNat (own_N cc))), .val (.long (99999999 : Int64)), .second, .val (.ref r101), .val (.int ii), .val (.long (99999999 : Int64)), .second, .val (.long (99999999 : Int64)), .second] [])) _
          refine XS.aload X101.here hx rfl (hb hby at_133) rfl rfl ?_
          show Steps p.tables e below (T101.setTop (mkF m 135 #[.val (.long q0), .second, .val (.int p2), .val (.long cc), .second, .val (.long (cc / (99999999 : Int64))), .second, .val (.long (cc % (99999999 : Int64))), .second, .val (.int (Int32.ofNat (own_N cc))), .val (.long (99999999 : Int64)), .second, .val (.ref r101), .val (.int ii), .val (.long (99999999 : Int64)), .second, .val (.long (99999999 : Int64)), .second] [(.ref r101)])) _
          refine XS.iload X101.here hx rfl (hb hby at_135) rfl ?_
          show Steps p.tables e below (T101.setTop (mkF m 137 #[.val (.long q0), .second, .val (.int p2), .val (.long cc), .second, .val (.long (cc / (99999999 : Int64))), .second, .val (.long (cc % (99999999 : Int64))), .second, .val (.int (Int32.ofNat (own_N cc))), .val (.long (99999999 : Int64)), .second, .val (.ref r101), .val (.int ii), .val (.long (99999999 : Int64)), .second, .val (.long (99999999 : Int64)), .second] [(.int (Int32.ofNat (own_N cc))), (.ref r101)])) _
          refine XS.iconst X101.here hx rfl (hb hby at_137) ?_
          show Steps p.tables e below (T101.setTop (mkF m 138 #[.val (.long q0), .second, .val (.int p2), .val (.long cc), .second, .val (.long (cc / (99999999 : Int64))), .second, .val (.long (cc % (99999999 : Int64))), .second, .val (.int (Int32.ofNat (own_N cc))), .val (.long (99999999 : Int64)), .second, .val (.ref r101), .val (.int ii), .val (.long (99999999 : Int64)), .second, .val (.long (99999999 : Int64)), .second] [(.int (1 : Int32)), (.int (Int32.ofNat (own_N cc))), (.ref r101)])) _
          refine XS.isub X101.here hx rfl (hb hby at_138) rfl ?_
          show Steps p.tables e below (T101.setTop (mkF m 139 #[.val (.long q0), .second, .val (.int p2), .val (.long cc), .second, .val (.long (cc / (99999999 : Int64))), .second, .val (.long (cc % (99999999 : Int64))), .second, .val (.int (Int32.ofNat (own_N cc))), .val (.long (99999999 : Int64)), .second, .val (.ref r101), .val (.int ii), .val (.long (99999999 : Int64)), .second, .val (.long (99999999 : Int64)), .second] [(.int ((Int32.ofNat (own_N cc)) - (1 : Int32))), (.ref r101)])) _
          refine X101.laload hx (j := ((Int32.ofNat (own_N cc)) - (1 : Int32))) (v := .long (if own_N cc - 1 = own_N cc - 1 then own_last cc else 99999999)) (own_hc rfl Ar102.1) (State.isArrayOf_alike hZ.alike Ar102.2.1) Ar102.2.2 hin104 hat104 (g := (mkF m 139 #[.val (.long q0), .second, .val (.int p2), .val (.long cc), .second, .val (.long (cc / (99999999 : Int64))), .second, .val (.long (cc % (99999999 : Int64))), .second, .val (.int (Int32.ofNat (own_N cc))), .val (.long (99999999 : Int64)), .second, .val (.ref r101), .val (.int ii), .val (.long (99999999 : Int64)), .second, .val (.long (99999999 : Int64)), .second] [(.int ((Int32.ofNat (own_N cc)) - (1 : Int32))), (.ref r101)])) rfl rfl (hb hby at_139) _ ?_
          show Steps p.tables e below (T101.setTop (mkF m 140 #[.val (.long q0), .second, .val (.int p2), .val (.long cc), .second, .val (.long (cc / (99999999 : Int64))), .second, .val (.long (cc % (99999999 : Int64))), .second, .val (.int (Int32.ofNat (own_N cc))), .val (.long (99999999 : Int64)), .second, .val (.ref r101), .val (.int ii), .val (.long (99999999 : Int64)), .second, .val (.long (99999999 : Int64)), .second] [(.long (if own_N cc - 1 = own_N cc - 1 then own_last cc else 99999999))])) _
          refine XS.lload X101.here hx rfl (hb hby at_140) rfl ?_
          show Steps p.tables e below (T101.setTop (mkF m 142 #[.val (.long q0), .second, .val (.int p2), .val (.long cc), .second, .val (.long (cc / (99999999 : Int64))), .second, .val (.long (cc % (99999999 : Int64))), .second, .val (.int (Int32.ofNat (own_N cc))), .val (.long (99999999 : Int64)), .second, .val (.ref r101), .val (.int ii), .val (.long (99999999 : Int64)), .second, .val (.long (99999999 : Int64)), .second] [(.long (99999999 : Int64)), (.long (if own_N cc - 1 = own_N cc - 1 then own_last cc else 99999999))])) _
          refine XS.lcmp X101.here hx rfl (hb hby at_142) rfl ?_
          show Steps p.tables e below (T101.setTop (mkF m 143 #[.val (.long q0), .second, .val (.int p2), .val (.long cc), .second, .val (.long (cc / (99999999 : Int64))), .second, .val (.long (cc % (99999999 : Int64))), .second, .val (.int (Int32.ofNat (own_N cc))), .val (.long (99999999 : Int64)), .second, .val (.ref r101), .val (.int ii), .val (.long (99999999 : Int64)), .second, .val (.long (99999999 : Int64)), .second] [(.int (lcmpW (if own_N cc - 1 = own_N cc - 1 then own_last cc else 99999999) (99999999 : Int64)))])) _
          refine XS.ifNo X101.here hx rfl (hb hby at_143) rfl (own_nf (l0_ne _ _) ((if_pos rfl).trans hlast)) ?_
          show Steps p.tables e below (T101.setTop (mkF m 146 #[.val (.long q0), .second, .val (.int p2), .val (.long cc), .second, .val (.long (cc / (99999999 : Int64))), .second, .val (.long (cc % (99999999 : Int64))), .second, .val (.int (Int32.ofNat (own_N cc))), .val (.long (99999999 : Int64)), .second, .val (.ref r101), .val (.int ii), .val (.long (99999999 : Int64)), .second, .val (.long (99999999 : Int64)), .second] [])) _
          refine XS.aload X101.here hx rfl (hb hby at_146) rfl rfl ?_
          show Steps p.tables e below (T101.setTop (mkF m 148 #[.val (.long q0), .second, .val (.int p2), .val (.long cc), .second, .val (.long (cc / (99999999 : Int64))), .second, .val (.long (cc % (99999999 : Int64))), .second, .val (.int (Int32.ofNat (own_N cc))), .val (.long (99999999 : Int64)), .second, .val (.ref r101), .val (.int ii), .val (.long (99999999 : Int64)), .second, .val (.long (99999999 : Int64)), .second] [(.ref r101)])) _
          refine XS.iconst X101.here hx rfl (hb hby at_148) ?_
          show Steps p.tables e below (T101.setTop (mkF m 149 #[.val (.long q0), .second, .val (.int p2), .val (.long cc), .second, .val (.long (cc / (99999999 : Int64))), .second, .val (.long (cc % (99999999 : Int64))), .second, .val (.int (Int32.ofNat (own_N cc))), .val (.long (99999999 : Int64)), .second, .val (.ref r101), .val (.int ii), .val (.long (99999999 : Int64)), .second, .val (.long (99999999 : Int64)), .second] [(.int (0 : Int32)), (.ref r101)])) _
          refine X101.laload hx (j := (0 : Int32)) (v := .long (if 0 = own_N cc - 1 then own_last cc else 99999999)) (own_hc rfl Ar102.1) (State.isArrayOf_alike hZ.alike Ar102.2.1) Ar102.2.2 hin105 hat105 (g := (mkF m 149 #[.val (.long q0), .second, .val (.int p2), .val (.long cc), .second, .val (.long (cc / (99999999 : Int64))), .second, .val (.long (cc % (99999999 : Int64))), .second, .val (.int (Int32.ofNat (own_N cc))), .val (.long (99999999 : Int64)), .second, .val (.ref r101), .val (.int ii), .val (.long (99999999 : Int64)), .second, .val (.long (99999999 : Int64)), .second] [(.int (0 : Int32)), (.ref r101)])) rfl rfl (hb hby at_149) _ ?_
          show Steps p.tables e below (T101.setTop (mkF m 150 #[.val (.long q0), .second, .val (.int p2), .val (.long cc), .second, .val (.long (cc / (99999999 : Int64))), .second, .val (.long (cc % (99999999 : Int64))), .second, .val (.int (Int32.ofNat (own_N cc))), .val (.long (99999999 : Int64)), .second, .val (.ref r101), .val (.int ii), .val (.long (99999999 : Int64)), .second, .val (.long (99999999 : Int64)), .second] [(.long (if 0 = own_N cc - 1 then own_last cc else 99999999))])) _
          refine XS.lload X101.here hx rfl (hb hby at_150) rfl ?_
          show Steps p.tables e below (T101.setTop (mkF m 152 #[.val (.long q0), .second, .val (.int p2), .val (.long cc), .second, .val (.long (cc / (99999999 : Int64))), .second, .val (.long (cc % (99999999 : Int64))), .second, .val (.int (Int32.ofNat (own_N cc))), .val (.long (99999999 : Int64)), .second, .val (.ref r101), .val (.int ii), .val (.long (99999999 : Int64)), .second, .val (.long (99999999 : Int64)), .second] [(.long (99999999 : Int64)), (.long (if 0 = own_N cc - 1 then own_last cc else 99999999))])) _
          refine XS.lcmp X101.here hx rfl (hb hby at_152) rfl ?_
          show Steps p.tables e below (T101.setTop (mkF m 153 #[.val (.long q0), .second, .val (.int p2), .val (.long cc), .second, .val (.long (cc / (99999999 : Int64))), .second, .val (.long (cc % (99999999 : Int64))), .second, .val (.int (Int32.ofNat (own_N cc))), .val (.long (99999999 : Int64)), .second, .val (.ref r101), .val (.int ii), .val (.long (99999999 : Int64)), .second, .val (.long (99999999 : Int64)), .second] [(.int (lcmpW (if 0 = own_N cc - 1 then own_last cc else 99999999) (99999999 : Int64)))])) _
          refine XS.ifNo X101.here hx rfl (hb hby at_153) rfl (own_nf (l0_ne _ _) (own_cmpF1 hnn hc109 hlast)) ?_
          show Steps p.tables e below (T101.setTop (mkF m 156 #[.val (.long q0), .second, .val (.int p2), .val (.long cc), .second, .val (.long (cc / (99999999 : Int64))), .second, .val (.long (cc % (99999999 : Int64))), .second, .val (.int (Int32.ofNat (own_N cc))), .val (.long (99999999 : Int64)), .second, .val (.ref r101), .val (.int ii), .val (.long (99999999 : Int64)), .second, .val (.long (99999999 : Int64)), .second] [])) _
          refine XS.iconst X101.here hx rfl (hb hby at_156) ?_
          show Steps p.tables e below (T101.setTop (mkF m 157 #[.val (.long q0), .second, .val (.int p2), .val (.long cc), .second, .val (.long (cc / (99999999 : Int64))), .second, .val (.long (cc % (99999999 : Int64))), .second, .val (.int (Int32.ofNat (own_N cc))), .val (.long (99999999 : Int64)), .second, .val (.ref r101), .val (.int ii), .val (.long (99999999 : Int64)), .second, .val (.long (99999999 : Int64)), .second] [(.int (1 : Int32))])) _
          refine XS.goto X101.here hx rfl (pc0 := 157) (pc' := 161) rfl (hb hby at_157) (by decide) (by decide) ?_
          show Steps p.tables e below (T101.setTop (mkF m 161 #[.val (.long q0), .second, .val (.int p2), .val (.long cc), .second, .val (.long (cc / (99999999 : Int64))), .second, .val (.long (cc % (99999999 : Int64))), .second, .val (.int (Int32.ofNat (own_N cc))), .val (.long (99999999 : Int64)), .second, .val (.ref r101), .val (.int ii), .val (.long (99999999 : Int64)), .second, .val (.long (99999999 : Int64)), .second] [(.int (1 : Int32))])) _
          exact retN X101 hx (t := .boolean) Bd.returns (by simp) (hb hby at_161) hr
      · have hin106 : ¬ (ii < 0 ∨ cl102.slots.size ≤ (ii).toNatClampNeg) := by rw [hieq]; exact own_in Sa102 (by omega) hnn.2
        have hat106 : cl102.slots[(ii).toNatClampNeg]? = some (.long (if iN = own_N cc - 1 then own_last cc else 99999999)) := by rw [hieq]; rw [own_o_nat (by omega)]; exact Ha102 _ (by omega)
        have hin107 : ¬ (((Int32.ofNat (own_N cc)) - (1 : Int32)) < 0 ∨ cl102.slots.size ≤ (((Int32.ofNat (own_N cc)) - (1 : Int32))).toNatClampNeg) := by rw [own_o_sub hnn.1 hnn.2]; exact own_in Sa102 (by omega) hnn.2
        have hat107 : cl102.slots[(((Int32.ofNat (own_N cc)) - (1 : Int32))).toNatClampNeg]? = some (.long (if own_N cc - 1 = own_N cc - 1 then own_last cc else 99999999)) := by rw [own_o_sub hnn.1 hnn.2]; rw [own_o_nat (by omega)]; exact Ha102 _ (by omega)
        have hin108 : ¬ ((0 : Int32) < 0 ∨ cl102.slots.size ≤ ((0 : Int32)).toNatClampNeg) := by rw [show (0 : Int32) = Int32.ofNat 0 from rfl]; exact own_in Sa102 (by omega) hnn.2
        have hat108 : cl102.slots[((0 : Int32)).toNatClampNeg]? = some (.long (if 0 = own_N cc - 1 then own_last cc else 99999999)) := by rw [show (0 : Int32) = Int32.ofNat 0 from rfl]; rw [own_o_nat (by omega)]; exact Ha102 _ (by omega)
        refine Gl.fin X101 (v := some (.int (1 : Int32))) (fun h => by rw [Bd.returns] at h; cases h) Bd.notSynchronized ?_ rfl (by decide) (by decide) (fun fs hr => ?_)
        · exact ⟨rfl, N101⟩
        · show Steps p.tables e below (T101.setTop (mkF m 109 #[.val (.long q0), .second, .val (.int p2), .val (.long cc), .second, .val (.long (cc / (99999999 : Int64))), .second, .val (.long (cc % (99999999 : Int64))), .second, .val (.int (Int32.ofNat (own_N cc))), .val (.long (99999999 : Int64)), .second, .val (.ref r101), .val (.int ii), .val (.long (99999999 : Int64)), .second, .unset, .unset] [(.int (1 : Int32)), (.int (Int32.ofNat (own_N cc)))])) _
          refine XS.icmpYes X101.here hx rfl (pc0 := 109) (pc' := 117) rfl (hb hby at_109) rfl (own_nt (ic_ne _ _) hc109) (by decide) (by decide) ?_
          show Steps p.tables e below (T101.setTop (mkF m 117 #[.val (.long q0), .second, .val (.int p2), .val (.long cc), .second, .val (.long (cc / (99999999 : Int64))), .second, .val (.long (cc % (99999999 : Int64))), .second, .val (.int (Int32.ofNat (own_N cc))), .val (.long (99999999 : Int64)), .second, .val (.ref r101), .val (.int ii), .val (.long (99999999 : Int64)), .second, .unset, .unset] [])) _
          refine X101.ldc2Long hx hown (mvT hZ (hw _ (List.mem_of_getElem? (i := 2) rfl))) (g := (mkF m 117 #[.val (.long q0), .second, .val (.int p2), .val (.long cc), .second, .val (.long (cc / (99999999 : Int64))), .second, .val (.long (cc % (99999999 : Int64))), .second, .val (.int (Int32.ofNat (own_N cc))), .val (.long (99999999 : Int64)), .second, .val (.ref r101), .val (.int ii), .val (.long (99999999 : Int64)), .second, .unset, .unset] [])) rfl (hb hby at_117) _ ?_
          show Steps p.tables e below (T101.setTop (mkF m 120 #[.val (.long q0), .second, .val (.int p2), .val (.long cc), .second, .val (.long (cc / (99999999 : Int64))), .second, .val (.long (cc % (99999999 : Int64))), .second, .val (.int (Int32.ofNat (own_N cc))), .val (.long (99999999 : Int64)), .second, .val (.ref r101), .val (.int ii), .val (.long (99999999 : Int64)), .second, .unset, .unset] [(.long (99999999 : Int64))])) _
          refine XS.lstore X101.here hx rfl (hb hby at_120) rfl (l' := #[.val (.long q0), .second, .val (.int p2), .val (.long cc), .second, .val (.long (cc / (99999999 : Int64))), .second, .val (.long (cc % (99999999 : Int64))), .second, .val (.int (Int32.ofNat (own_N cc))), .val (.long (99999999 : Int64)), .second, .val (.ref r101), .val (.int ii), .val (.long (99999999 : Int64)), .second, .val (.long (99999999 : Int64)), .second]) rfl ?_
          show Steps p.tables e below (T101.setTop (mkF m 122 #[.val (.long q0), .second, .val (.int p2), .val (.long cc), .second, .val (.long (cc / (99999999 : Int64))), .second, .val (.long (cc % (99999999 : Int64))), .second, .val (.int (Int32.ofNat (own_N cc))), .val (.long (99999999 : Int64)), .second, .val (.ref r101), .val (.int ii), .val (.long (99999999 : Int64)), .second, .val (.long (99999999 : Int64)), .second] [])) _
          refine XS.aload X101.here hx rfl (hb hby at_122) rfl rfl ?_
          show Steps p.tables e below (T101.setTop (mkF m 124 #[.val (.long q0), .second, .val (.int p2), .val (.long cc), .second, .val (.long (cc / (99999999 : Int64))), .second, .val (.long (cc % (99999999 : Int64))), .second, .val (.int (Int32.ofNat (own_N cc))), .val (.long (99999999 : Int64)), .second, .val (.ref r101), .val (.int ii), .val (.long (99999999 : Int64)), .second, .val (.long (99999999 : Int64)), .second] [(.ref r101)])) _
          refine XS.iload X101.here hx rfl (hb hby at_124) rfl ?_
          show Steps p.tables e below (T101.setTop (mkF m 126 #[.val (.long q0), .second, .val (.int p2), .val (.long cc), .second, .val (.long (cc / (99999999 : Int64))), .second, .val (.long (cc % (99999999 : Int64))), .second, .val (.int (Int32.ofNat (own_N cc))), .val (.long (99999999 : Int64)), .second, .val (.ref r101), .val (.int ii), .val (.long (99999999 : Int64)), .second, .val (.long (99999999 : Int64)), .second] [(.int ii), (.ref r101)])) _
          refine X101.laload hx (j := ii) (v := .long (if iN = own_N cc - 1 then own_last cc else 99999999)) (own_hc rfl Ar102.1) (State.isArrayOf_alike hZ.alike Ar102.2.1) Ar102.2.2 hin106 hat106 (g := (mkF m 126 #[.val (.long q0), .second, .val (.int p2), .val (.long cc), .second, .val (.long (cc / (99999999 : Int64))), .second, .val (.long (cc % (99999999 : Int64))), .second, .val (.int (Int32.ofNat (own_N cc))), .val (.long (99999999 : Int64)), .second, .val (.ref r101), .val (.int ii), .val (.long (99999999 : Int64)), .second, .val (.long (99999999 : Int64)), .second] [(.int ii), (.ref r101)])) rfl rfl (hb hby at_126) _ ?_
          show Steps p.tables e below (T101.setTop (mkF m 127 #[.val (.long q0), .second, .val (.int p2), .val (.long cc), .second, .val (.long (cc / (99999999 : Int64))), .second, .val (.long (cc % (99999999 : Int64))), .second, .val (.int (Int32.ofNat (own_N cc))), .val (.long (99999999 : Int64)), .second, .val (.ref r101), .val (.int ii), .val (.long (99999999 : Int64)), .second, .val (.long (99999999 : Int64)), .second] [(.long (if iN = own_N cc - 1 then own_last cc else 99999999))])) _
          refine XS.lload X101.here hx rfl (hb hby at_127) rfl ?_
          show Steps p.tables e below (T101.setTop (mkF m 129 #[.val (.long q0), .second, .val (.int p2), .val (.long cc), .second, .val (.long (cc / (99999999 : Int64))), .second, .val (.long (cc % (99999999 : Int64))), .second, .val (.int (Int32.ofNat (own_N cc))), .val (.long (99999999 : Int64)), .second, .val (.ref r101), .val (.int ii), .val (.long (99999999 : Int64)), .second, .val (.long (99999999 : Int64)), .second] [(.long (99999999 : Int64)), (.long (if iN = own_N cc - 1 then own_last cc else 99999999))])) _
          refine XS.lcmp X101.here hx rfl (hb hby at_129) rfl ?_
          show Steps p.tables e below (T101.setTop (mkF m 130 #[.val (.long q0), .second, .val (.int p2), .val (.long cc), .second, .val (.long (cc / (99999999 : Int64))), .second, .val (.long (cc % (99999999 : Int64))), .second, .val (.int (Int32.ofNat (own_N cc))), .val (.long (99999999 : Int64)), .second, .val (.ref r101), .val (.int ii), .val (.long (99999999 : Int64)), .second, .val (.long (99999999 : Int64)), .second] [(.int (lcmpW (if iN = own_N cc - 1 then own_last cc else 99999999) (99999999 : Int64)))])) _
          refine XS.ifNo X101.here hx rfl (hb hby at_130) rfl (own_nf (l0_ne _ _) (own_cmp1 hnn hieq hiL hc93 hlast)) ?_
          show Steps p.tables e below (T101.setTop (mkF m 133 #[.val (.long q0), .second, .val (.int p2), .val (.long cc), .second, .val (.long (cc / (99999999 : Int64))), .second, .val (.long (cc % (99999999 : Int64))), .second, .val (.int (Int32.ofNat (own_N cc))), .val (.long (99999999 : Int64)), .second, .val (.ref r101), .val (.int ii), .val (.long (99999999 : Int64)), .second, .val (.long (99999999 : Int64)), .second] [])) _
          refine XS.aload X101.here hx rfl (hb hby at_133) rfl rfl ?_
          show Steps p.tables e below (T101.setTop (mkF m 135 #[.val (.long q0), .second, .val (.int p2), .val (.long cc), .second, .val (.long (cc / (99999999 : Int64))), .second, .val (.long (cc % (99999999 : Int64))), .second, .val (.int (Int32.ofNat (own_N cc))), .val (.long (99999999 : Int64)), .second, .val (.ref r101), .val (.int ii), .val (.long (99999999 : Int64)), .second, .val (.long (99999999 : Int64)), .second] [(.ref r101)])) _
          refine XS.iload X101.here hx rfl (hb hby at_135) rfl ?_
          show Steps p.tables e below (T101.setTop (mkF m 137 #[.val (.long q0), .second, .val (.int p2), .val (.long cc), .second, .val (.long (cc / (99999999 : Int64))), .second, .val (.long (cc % (99999999 : Int64))), .second, .val (.int (Int32.ofNat (own_N cc))), .val (.long (99999999 : Int64)), .second, .val (.ref r101), .val (.int ii), .val (.long (99999999 : Int64)), .second, .val (.long (99999999 : Int64)), .second] [(.int (Int32.ofNat (own_N cc))), (.ref r101)])) _
          refine XS.iconst X101.here hx rfl (hb hby at_137) ?_
          show Steps p.tables e below (T101.setTop (mkF m 138 #[.val (.long q0), .second, .val (.int p2), .val (.long cc), .second, .val (.long (cc / (99999999 : Int64))), .second, .val (.long (cc % (99999999 : Int64))), .second, .val (.int (Int32.ofNat (own_N cc))), .val (.long (99999999 : Int64)), .second, .val (.ref r101), .val (.int ii), .val (.long (99999999 : Int64)), .second, .val (.long (99999999 : Int64)), .second] [(.int (1 : Int32)), (.int (Int32.ofNat (own_N cc))), (.ref r101)])) _
          refine XS.isub X101.here hx rfl (hb hby at_138) rfl ?_
          show Steps p.tables e below (T101.setTop (mkF m 139 #[.val (.long q0), .second, .val (.int p2), .val (.long cc), .second, .val (.long (cc / (99999999 : Int64))), .second, .val (.long (cc % (99999999 : Int64))), .second, .val (.int (Int32.ofNat (own_N cc))), .val (.long (99999999 : Int64)), .second, .val (.ref r101), .val (.int ii), .val (.long (99999999 : Int64)), .second, .val (.long (99999999 : Int64)), .second] [(.int ((Int32.ofNat (own_N cc)) - (1 : Int32))), (.ref r101)])) _
          refine X101.laload hx (j := ((Int32.ofNat (own_N cc)) - (1 : Int32))) (v := .long (if own_N cc - 1 = own_N cc - 1 then own_last cc else 99999999)) (own_hc rfl Ar102.1) (State.isArrayOf_alike hZ.alike Ar102.2.1) Ar102.2.2 hin107 hat107 (g := (mkF m 139 #[.val (.long q0), .second, .val (.int p2), .val (.long cc), .second, .val (.long (cc / (99999999 : Int64))), .second, .val (.long (cc % (99999999 : Int64))), .second, .val (.int (Int32.ofNat (own_N cc))), .val (.long (99999999 : Int64)), .second, .val (.ref r101), .val (.int ii), .val (.long (99999999 : Int64)), .second, .val (.long (99999999 : Int64)), .second] [(.int ((Int32.ofNat (own_N cc)) - (1 : Int32))), (.ref r101)])) rfl rfl (hb hby at_139) _ ?_
          show Steps p.tables e below (T101.setTop (mkF m 140 #[.val (.long q0), .second, .val (.int p2), .val (.long cc), .second, .val (.long (cc / (99999999 : Int64))), .second, .val (.long (cc % (99999999 : Int64))), .second, .val (.int (Int32.ofNat (own_N cc))), .val (.long (99999999 : Int64)), .second, .val (.ref r101), .val (.int ii), .val (.long (99999999 : Int64)), .second, .val (.long (99999999 : Int64)), .second] [(.long (if own_N cc - 1 = own_N cc - 1 then own_last cc else 99999999))])) _
          refine XS.lload X101.here hx rfl (hb hby at_140) rfl ?_
          show Steps p.tables e below (T101.setTop (mkF m 142 #[.val (.long q0), .second, .val (.int p2), .val (.long cc), .second, .val (.long (cc / (99999999 : Int64))), .second, .val (.long (cc % (99999999 : Int64))), .second, .val (.int (Int32.ofNat (own_N cc))), .val (.long (99999999 : Int64)), .second, .val (.ref r101), .val (.int ii), .val (.long (99999999 : Int64)), .second, .val (.long (99999999 : Int64)), .second] [(.long (99999999 : Int64)), (.long (if own_N cc - 1 = own_N cc - 1 then own_last cc else 99999999))])) _
          refine XS.lcmp X101.here hx rfl (hb hby at_142) rfl ?_
          show Steps p.tables e below (T101.setTop (mkF m 143 #[.val (.long q0), .second, .val (.int p2), .val (.long cc), .second, .val (.long (cc / (99999999 : Int64))), .second, .val (.long (cc % (99999999 : Int64))), .second, .val (.int (Int32.ofNat (own_N cc))), .val (.long (99999999 : Int64)), .second, .val (.ref r101), .val (.int ii), .val (.long (99999999 : Int64)), .second, .val (.long (99999999 : Int64)), .second] [(.int (lcmpW (if own_N cc - 1 = own_N cc - 1 then own_last cc else 99999999) (99999999 : Int64)))])) _
          refine XS.ifNo X101.here hx rfl (hb hby at_143) rfl (own_nf (l0_ne _ _) ((if_pos rfl).trans hlast)) ?_
          show Steps p.tables e below (T101.setTop (mkF m 146 #[.val (.long q0), .second, .val (.int p2), .val (.long cc), .second, .val (.long (cc / (99999999 : Int64))), .second, .val (.long (cc % (99999999 : Int64))), .second, .val (.int (Int32.ofNat (own_N cc))), .val (.long (99999999 : Int64)), .second, .val (.ref r101), .val (.int ii), .val (.long (99999999 : Int64)), .second, .val (.long (99999999 : Int64)), .second] [])) _
          refine XS.aload X101.here hx rfl (hb hby at_146) rfl rfl ?_
          show Steps p.tables e below (T101.setTop (mkF m 148 #[.val (.long q0), .second, .val (.int p2), .val (.long cc), .second, .val (.long (cc / (99999999 : Int64))), .second, .val (.long (cc % (99999999 : Int64))), .second, .val (.int (Int32.ofNat (own_N cc))), .val (.long (99999999 : Int64)), .second, .val (.ref r101), .val (.int ii), .val (.long (99999999 : Int64)), .second, .val (.long (99999999 : Int64)), .second] [(.ref r101)])) _
          refine XS.iconst X101.here hx rfl (hb hby at_148) ?_
          show Steps p.tables e below (T101.setTop (mkF m 149 #[.val (.long q0), .second, .val (.int p2), .val (.long cc), .second, .val (.long (cc / (99999999 : Int64))), .second, .val (.long (cc % (99999999 : Int64))), .second, .val (.int (Int32.ofNat (own_N cc))), .val (.long (99999999 : Int64)), .second, .val (.ref r101), .val (.int ii), .val (.long (99999999 : Int64)), .second, .val (.long (99999999 : Int64)), .second] [(.int (0 : Int32)), (.ref r101)])) _
          refine X101.laload hx (j := (0 : Int32)) (v := .long (if 0 = own_N cc - 1 then own_last cc else 99999999)) (own_hc rfl Ar102.1) (State.isArrayOf_alike hZ.alike Ar102.2.1) Ar102.2.2 hin108 hat108 (g := (mkF m 149 #[.val (.long q0), .second, .val (.int p2), .val (.long cc), .second, .val (.long (cc / (99999999 : Int64))), .second, .val (.long (cc % (99999999 : Int64))), .second, .val (.int (Int32.ofNat (own_N cc))), .val (.long (99999999 : Int64)), .second, .val (.ref r101), .val (.int ii), .val (.long (99999999 : Int64)), .second, .val (.long (99999999 : Int64)), .second] [(.int (0 : Int32)), (.ref r101)])) rfl rfl (hb hby at_149) _ ?_
          show Steps p.tables e below (T101.setTop (mkF m 150 #[.val (.long q0), .second, .val (.int p2), .val (.long cc), .second, .val (.long (cc / (99999999 : Int64))), .second, .val (.long (cc % (99999999 : Int64))), .second, .val (.int (Int32.ofNat (own_N cc))), .val (.long (99999999 : Int64)), .second, .val (.ref r101), .val (.int ii), .val (.long (99999999 : Int64)), .second, .val (.long (99999999 : Int64)), .second] [(.long (if 0 = own_N cc - 1 then own_last cc else 99999999))])) _
          refine XS.lload X101.here hx rfl (hb hby at_150) rfl ?_
          show Steps p.tables e below (T101.setTop (mkF m 152 #[.val (.long q0), .second, .val (.int p2), .val (.long cc), .second, .val (.long (cc / (99999999 : Int64))), .second, .val (.long (cc % (99999999 : Int64))), .second, .val (.int (Int32.ofNat (own_N cc))), .val (.long (99999999 : Int64)), .second, .val (.ref r101), .val (.int ii), .val (.long (99999999 : Int64)), .second, .val (.long (99999999 : Int64)), .second] [(.long (99999999 : Int64)), (.long (if 0 = own_N cc - 1 then own_last cc else 99999999))])) _
          refine XS.lcmp X101.here hx rfl (hb hby at_152) rfl ?_
          show Steps p.tables e below (T101.setTop (mkF m 153 #[.val (.long q0), .second, .val (.int p2), .val (.long cc), .second, .val (.long (cc / (99999999 : Int64))), .second, .val (.long (cc % (99999999 : Int64))), .second, .val (.int (Int32.ofNat (own_N cc))), .val (.long (99999999 : Int64)), .second, .val (.ref r101), .val (.int ii), .val (.long (99999999 : Int64)), .second, .val (.long (99999999 : Int64)), .second] [(.int (lcmpW (if 0 = own_N cc - 1 then own_last cc else 99999999) (99999999 : Int64)))])) _
          refine XS.ifNo X101.here hx rfl (hb hby at_153) rfl (own_nf (l0_ne _ _) (own_cmpF0 hnn hc109)) ?_
          show Steps p.tables e below (T101.setTop (mkF m 156 #[.val (.long q0), .second, .val (.int p2), .val (.long cc), .second, .val (.long (cc / (99999999 : Int64))), .second, .val (.long (cc % (99999999 : Int64))), .second, .val (.int (Int32.ofNat (own_N cc))), .val (.long (99999999 : Int64)), .second, .val (.ref r101), .val (.int ii), .val (.long (99999999 : Int64)), .second, .val (.long (99999999 : Int64)), .second] [])) _
          refine XS.iconst X101.here hx rfl (hb hby at_156) ?_
          show Steps p.tables e below (T101.setTop (mkF m 157 #[.val (.long q0), .second, .val (.int p2), .val (.long cc), .second, .val (.long (cc / (99999999 : Int64))), .second, .val (.long (cc % (99999999 : Int64))), .second, .val (.int (Int32.ofNat (own_N cc))), .val (.long (99999999 : Int64)), .second, .val (.ref r101), .val (.int ii), .val (.long (99999999 : Int64)), .second, .val (.long (99999999 : Int64)), .second] [(.int (1 : Int32))])) _
          refine XS.goto X101.here hx rfl (pc0 := 157) (pc' := 161) rfl (hb hby at_157) (by decide) (by decide) ?_
          show Steps p.tables e below (T101.setTop (mkF m 161 #[.val (.long q0), .second, .val (.int p2), .val (.long cc), .second, .val (.long (cc / (99999999 : Int64))), .second, .val (.long (cc % (99999999 : Int64))), .second, .val (.int (Int32.ofNat (own_N cc))), .val (.long (99999999 : Int64)), .second, .val (.ref r101), .val (.int ii), .val (.long (99999999 : Int64)), .second, .val (.long (99999999 : Int64)), .second] [(.int (1 : Int32))])) _
          exact retN X101 hx (t := .boolean) Bd.returns (by simp) (hb hby at_161) hr
    · refine Gl.pre (S' := T101.setTop (mkF m 109 #[.val (.long q0), .second, .val (.int p2), .val (.long cc), .second, .val (.long (cc / (99999999 : Int64))), .second, .val (.long (cc % (99999999 : Int64))), .second, .val (.int (Int32.ofNat (own_N cc))), .val (.long (99999999 : Int64)), .second, .val (.ref r101), .val (.int ii), .val (.long (99999999 : Int64)), .second, .unset, .unset] [(.int (1 : Int32)), (.int (Int32.ofNat (own_N cc)))])) (fun t kt => ?_) ?_
      · show Steps p.tables e below (T101.setTop (mkF m 93 #[.val (.long q0), .second, .val (.int p2), .val (.long cc), .second, .val (.long (cc / (99999999 : Int64))), .second, .val (.long (cc % (99999999 : Int64))), .second, .val (.int (Int32.ofNat (own_N cc))), .val (.long (99999999 : Int64)), .second, .val (.ref r101), .val (.int ii), .unset, .unset, .unset, .unset] [(.int ((Int32.ofNat (own_N cc)) - (1 : Int32))), (.int ii)])) _
        refine XS.icmpYes X101.here hx rfl (pc0 := 93) (pc' := 101) rfl (hb hby at_93) rfl (own_nt (ic_ne _ _) hc93) (by decide) (by decide) ?_
        show Steps p.tables e below (T101.setTop (mkF m 101 #[.val (.long q0), .second, .val (.int p2), .val (.long cc), .second, .val (.long (cc / (99999999 : Int64))), .second, .val (.long (cc % (99999999 : Int64))), .second, .val (.int (Int32.ofNat (own_N cc))), .val (.long (99999999 : Int64)), .second, .val (.ref r101), .val (.int ii), .unset, .unset, .unset, .unset] [])) _
        refine X101.ldc2Long hx hown (mvT hZ (hw _ (List.mem_of_getElem? (i := 2) rfl))) (g := (mkF m 101 #[.val (.long q0), .second, .val (.int p2), .val (.long cc), .second, .val (.long (cc / (99999999 : Int64))), .second, .val (.long (cc % (99999999 : Int64))), .second, .val (.int (Int32.ofNat (own_N cc))), .val (.long (99999999 : Int64)), .second, .val (.ref r101), .val (.int ii), .unset, .unset, .unset, .unset] [])) rfl (hb hby at_101) _ ?_
        show Steps p.tables e below (T101.setTop (mkF m 104 #[.val (.long q0), .second, .val (.int p2), .val (.long cc), .second, .val (.long (cc / (99999999 : Int64))), .second, .val (.long (cc % (99999999 : Int64))), .second, .val (.int (Int32.ofNat (own_N cc))), .val (.long (99999999 : Int64)), .second, .val (.ref r101), .val (.int ii), .unset, .unset, .unset, .unset] [(.long (99999999 : Int64))])) _
        refine XS.lstore X101.here hx rfl (hb hby at_104) rfl (l' := #[.val (.long q0), .second, .val (.int p2), .val (.long cc), .second, .val (.long (cc / (99999999 : Int64))), .second, .val (.long (cc % (99999999 : Int64))), .second, .val (.int (Int32.ofNat (own_N cc))), .val (.long (99999999 : Int64)), .second, .val (.ref r101), .val (.int ii), .val (.long (99999999 : Int64)), .second, .unset, .unset]) rfl ?_
        show Steps p.tables e below (T101.setTop (mkF m 106 #[.val (.long q0), .second, .val (.int p2), .val (.long cc), .second, .val (.long (cc / (99999999 : Int64))), .second, .val (.long (cc % (99999999 : Int64))), .second, .val (.int (Int32.ofNat (own_N cc))), .val (.long (99999999 : Int64)), .second, .val (.ref r101), .val (.int ii), .val (.long (99999999 : Int64)), .second, .unset, .unset] [])) _
        refine XS.iload X101.here hx rfl (hb hby at_106) rfl ?_
        show Steps p.tables e below (T101.setTop (mkF m 108 #[.val (.long q0), .second, .val (.int p2), .val (.long cc), .second, .val (.long (cc / (99999999 : Int64))), .second, .val (.long (cc % (99999999 : Int64))), .second, .val (.int (Int32.ofNat (own_N cc))), .val (.long (99999999 : Int64)), .second, .val (.ref r101), .val (.int ii), .val (.long (99999999 : Int64)), .second, .unset, .unset] [(.int (Int32.ofNat (own_N cc)))])) _
        refine XS.iconst X101.here hx rfl (hb hby at_108) ?_
        exact kt
      by_cases hc109 : (Int32.ofNat (own_N cc)) = (1 : Int32)
      · have hin109 : ¬ (ii < 0 ∨ cl102.slots.size ≤ (ii).toNatClampNeg) := by rw [hieq]; exact own_in Sa102 (by omega) hnn.2
        have hat109 : cl102.slots[(ii).toNatClampNeg]? = some (.long (if iN = own_N cc - 1 then own_last cc else 99999999)) := by rw [hieq]; rw [own_o_nat (by omega)]; exact Ha102 _ (by omega)
        have hin110 : ¬ (((Int32.ofNat (own_N cc)) - (1 : Int32)) < 0 ∨ cl102.slots.size ≤ (((Int32.ofNat (own_N cc)) - (1 : Int32))).toNatClampNeg) := by rw [own_o_sub hnn.1 hnn.2]; exact own_in Sa102 (by omega) hnn.2
        have hat110 : cl102.slots[(((Int32.ofNat (own_N cc)) - (1 : Int32))).toNatClampNeg]? = some (.long (if own_N cc - 1 = own_N cc - 1 then own_last cc else 99999999)) := by rw [own_o_sub hnn.1 hnn.2]; rw [own_o_nat (by omega)]; exact Ha102 _ (by omega)
        have hin111 : ¬ ((0 : Int32) < 0 ∨ cl102.slots.size ≤ ((0 : Int32)).toNatClampNeg) := by rw [show (0 : Int32) = Int32.ofNat 0 from rfl]; exact own_in Sa102 (by omega) hnn.2
        have hat111 : cl102.slots[((0 : Int32)).toNatClampNeg]? = some (.long (if 0 = own_N cc - 1 then own_last cc else 99999999)) := by rw [show (0 : Int32) = Int32.ofNat 0 from rfl]; rw [own_o_nat (by omega)]; exact Ha102 _ (by omega)
        refine Gl.fin X101 (v := some (.int (1 : Int32))) (fun h => by rw [Bd.returns] at h; cases h) Bd.notSynchronized ?_ rfl (by decide) (by decide) (fun fs hr => ?_)
        · exact ⟨rfl, N101⟩
        · show Steps p.tables e below (T101.setTop (mkF m 109 #[.val (.long q0), .second, .val (.int p2), .val (.long cc), .second, .val (.long (cc / (99999999 : Int64))), .second, .val (.long (cc % (99999999 : Int64))), .second, .val (.int (Int32.ofNat (own_N cc))), .val (.long (99999999 : Int64)), .second, .val (.ref r101), .val (.int ii), .val (.long (99999999 : Int64)), .second, .unset, .unset] [(.int (1 : Int32)), (.int (Int32.ofNat (own_N cc)))])) _
          refine XS.icmpNo X101.here hx rfl (hb hby at_109) rfl (own_nf (ic_ne _ _) hc109) ?_
          show Steps p.tables e below (T101.setTop (mkF m 112 #[.val (.long q0), .second, .val (.int p2), .val (.long cc), .second, .val (.long (cc / (99999999 : Int64))), .second, .val (.long (cc % (99999999 : Int64))), .second, .val (.int (Int32.ofNat (own_N cc))), .val (.long (99999999 : Int64)), .second, .val (.ref r101), .val (.int ii), .val (.long (99999999 : Int64)), .second, .unset, .unset] [])) _
          refine XS.lload X101.here hx rfl (hb hby at_112) rfl ?_
          show Steps p.tables e below (T101.setTop (mkF m 114 #[.val (.long q0), .second, .val (.int p2), .val (.long cc), .second, .val (.long (cc / (99999999 : Int64))), .second, .val (.long (cc % (99999999 : Int64))), .second, .val (.int (Int32.ofNat (own_N cc))), .val (.long (99999999 : Int64)), .second, .val (.ref r101), .val (.int ii), .val (.long (99999999 : Int64)), .second, .unset, .unset] [(.long (99999999 : Int64))])) _
          refine XS.goto X101.here hx rfl (pc0 := 114) (pc' := 120) rfl (hb hby at_114) (by decide) (by decide) ?_
          show Steps p.tables e below (T101.setTop (mkF m 120 #[.val (.long q0), .second, .val (.int p2), .val (.long cc), .second, .val (.long (cc / (99999999 : Int64))), .second, .val (.long (cc % (99999999 : Int64))), .second, .val (.int (Int32.ofNat (own_N cc))), .val (.long (99999999 : Int64)), .second, .val (.ref r101), .val (.int ii), .val (.long (99999999 : Int64)), .second, .unset, .unset] [(.long (99999999 : Int64))])) _
          refine XS.lstore X101.here hx rfl (hb hby at_120) rfl (l' := #[.val (.long q0), .second, .val (.int p2), .val (.long cc), .second, .val (.long (cc / (99999999 : Int64))), .second, .val (.long (cc % (99999999 : Int64))), .second, .val (.int (Int32.ofNat (own_N cc))), .val (.long (99999999 : Int64)), .second, .val (.ref r101), .val (.int ii), .val (.long (99999999 : Int64)), .second, .val (.long (99999999 : Int64)), .second]) rfl ?_
          show Steps p.tables e below (T101.setTop (mkF m 122 #[.val (.long q0), .second, .val (.int p2), .val (.long cc), .second, .val (.long (cc / (99999999 : Int64))), .second, .val (.long (cc % (99999999 : Int64))), .second, .val (.int (Int32.ofNat (own_N cc))), .val (.long (99999999 : Int64)), .second, .val (.ref r101), .val (.int ii), .val (.long (99999999 : Int64)), .second, .val (.long (99999999 : Int64)), .second] [])) _
          refine XS.aload X101.here hx rfl (hb hby at_122) rfl rfl ?_
          show Steps p.tables e below (T101.setTop (mkF m 124 #[.val (.long q0), .second, .val (.int p2), .val (.long cc), .second, .val (.long (cc / (99999999 : Int64))), .second, .val (.long (cc % (99999999 : Int64))), .second, .val (.int (Int32.ofNat (own_N cc))), .val (.long (99999999 : Int64)), .second, .val (.ref r101), .val (.int ii), .val (.long (99999999 : Int64)), .second, .val (.long (99999999 : Int64)), .second] [(.ref r101)])) _
          refine XS.iload X101.here hx rfl (hb hby at_124) rfl ?_
          show Steps p.tables e below (T101.setTop (mkF m 126 #[.val (.long q0), .second, .val (.int p2), .val (.long cc), .second, .val (.long (cc / (99999999 : Int64))), .second, .val (.long (cc % (99999999 : Int64))), .second, .val (.int (Int32.ofNat (own_N cc))), .val (.long (99999999 : Int64)), .second, .val (.ref r101), .val (.int ii), .val (.long (99999999 : Int64)), .second, .val (.long (99999999 : Int64)), .second] [(.int ii), (.ref r101)])) _
          refine X101.laload hx (j := ii) (v := .long (if iN = own_N cc - 1 then own_last cc else 99999999)) (own_hc rfl Ar102.1) (State.isArrayOf_alike hZ.alike Ar102.2.1) Ar102.2.2 hin109 hat109 (g := (mkF m 126 #[.val (.long q0), .second, .val (.int p2), .val (.long cc), .second, .val (.long (cc / (99999999 : Int64))), .second, .val (.long (cc % (99999999 : Int64))), .second, .val (.int (Int32.ofNat (own_N cc))), .val (.long (99999999 : Int64)), .second, .val (.ref r101), .val (.int ii), .val (.long (99999999 : Int64)), .second, .val (.long (99999999 : Int64)), .second] [(.int ii), (.ref r101)])) rfl rfl (hb hby at_126) _ ?_
          show Steps p.tables e below (T101.setTop (mkF m 127 #[.val (.long q0), .second, .val (.int p2), .val (.long cc), .second, .val (.long (cc / (99999999 : Int64))), .second, .val (.long (cc % (99999999 : Int64))), .second, .val (.int (Int32.ofNat (own_N cc))), .val (.long (99999999 : Int64)), .second, .val (.ref r101), .val (.int ii), .val (.long (99999999 : Int64)), .second, .val (.long (99999999 : Int64)), .second] [(.long (if iN = own_N cc - 1 then own_last cc else 99999999))])) _
          refine XS.lload X101.here hx rfl (hb hby at_127) rfl ?_
          show Steps p.tables e below (T101.setTop (mkF m 129 #[.val (.long q0), .second, .val (.int p2), .val (.long cc), .second, .val (.long (cc / (99999999 : Int64))), .second, .val (.long (cc % (99999999 : Int64))), .second, .val (.int (Int32.ofNat (own_N cc))), .val (.long (99999999 : Int64)), .second, .val (.ref r101), .val (.int ii), .val (.long (99999999 : Int64)), .second, .val (.long (99999999 : Int64)), .second] [(.long (99999999 : Int64)), (.long (if iN = own_N cc - 1 then own_last cc else 99999999))])) _
          refine XS.lcmp X101.here hx rfl (hb hby at_129) rfl ?_
          show Steps p.tables e below (T101.setTop (mkF m 130 #[.val (.long q0), .second, .val (.int p2), .val (.long cc), .second, .val (.long (cc / (99999999 : Int64))), .second, .val (.long (cc % (99999999 : Int64))), .second, .val (.int (Int32.ofNat (own_N cc))), .val (.long (99999999 : Int64)), .second, .val (.ref r101), .val (.int ii), .val (.long (99999999 : Int64)), .second, .val (.long (99999999 : Int64)), .second] [(.int (lcmpW (if iN = own_N cc - 1 then own_last cc else 99999999) (99999999 : Int64)))])) _
          refine XS.ifNo X101.here hx rfl (hb hby at_130) rfl (own_nf (l0_ne _ _) (own_cmp0 hnn hieq hiL hc93)) ?_
          show Steps p.tables e below (T101.setTop (mkF m 133 #[.val (.long q0), .second, .val (.int p2), .val (.long cc), .second, .val (.long (cc / (99999999 : Int64))), .second, .val (.long (cc % (99999999 : Int64))), .second, .val (.int (Int32.ofNat (own_N cc))), .val (.long (99999999 : Int64)), .second, .val (.ref r101), .val (.int ii), .val (.long (99999999 : Int64)), .second, .val (.long (99999999 : Int64)), .second] [])) _
          refine XS.aload X101.here hx rfl (hb hby at_133) rfl rfl ?_
          show Steps p.tables e below (T101.setTop (mkF m 135 #[.val (.long q0), .second, .val (.int p2), .val (.long cc), .second, .val (.long (cc / (99999999 : Int64))), .second, .val (.long (cc % (99999999 : Int64))), .second, .val (.int (Int32.ofNat (own_N cc))), .val (.long (99999999 : Int64)), .second, .val (.ref r101), .val (.int ii), .val (.long (99999999 : Int64)), .second, .val (.long (99999999 : Int64)), .second] [(.ref r101)])) _
          refine XS.iload X101.here hx rfl (hb hby at_135) rfl ?_
          show Steps p.tables e below (T101.setTop (mkF m 137 #[.val (.long q0), .second, .val (.int p2), .val (.long cc), .second, .val (.long (cc / (99999999 : Int64))), .second, .val (.long (cc % (99999999 : Int64))), .second, .val (.int (Int32.ofNat (own_N cc))), .val (.long (99999999 : Int64)), .second, .val (.ref r101), .val (.int ii), .val (.long (99999999 : Int64)), .second, .val (.long (99999999 : Int64)), .second] [(.int (Int32.ofNat (own_N cc))), (.ref r101)])) _
          refine XS.iconst X101.here hx rfl (hb hby at_137) ?_
          show Steps p.tables e below (T101.setTop (mkF m 138 #[.val (.long q0), .second, .val (.int p2), .val (.long cc), .second, .val (.long (cc / (99999999 : Int64))), .second, .val (.long (cc % (99999999 : Int64))), .second, .val (.int (Int32.ofNat (own_N cc))), .val (.long (99999999 : Int64)), .second, .val (.ref r101), .val (.int ii), .val (.long (99999999 : Int64)), .second, .val (.long (99999999 : Int64)), .second] [(.int (1 : Int32)), (.int (Int32.ofNat (own_N cc))), (.ref r101)])) _
          refine XS.isub X101.here hx rfl (hb hby at_138) rfl ?_
          show Steps p.tables e below (T101.setTop (mkF m 139 #[.val (.long q0), .second, .val (.int p2), .val (.long cc), .second, .val (.long (cc / (99999999 : Int64))), .second, .val (.long (cc % (99999999 : Int64))), .second, .val (.int (Int32.ofNat (own_N cc))), .val (.long (99999999 : Int64)), .second, .val (.ref r101), .val (.int ii), .val (.long (99999999 : Int64)), .second, .val (.long (99999999 : Int64)), .second] [(.int ((Int32.ofNat (own_N cc)) - (1 : Int32))), (.ref r101)])) _
          refine X101.laload hx (j := ((Int32.ofNat (own_N cc)) - (1 : Int32))) (v := .long (if own_N cc - 1 = own_N cc - 1 then own_last cc else 99999999)) (own_hc rfl Ar102.1) (State.isArrayOf_alike hZ.alike Ar102.2.1) Ar102.2.2 hin110 hat110 (g := (mkF m 139 #[.val (.long q0), .second, .val (.int p2), .val (.long cc), .second, .val (.long (cc / (99999999 : Int64))), .second, .val (.long (cc % (99999999 : Int64))), .second, .val (.int (Int32.ofNat (own_N cc))), .val (.long (99999999 : Int64)), .second, .val (.ref r101), .val (.int ii), .val (.long (99999999 : Int64)), .second, .val (.long (99999999 : Int64)), .second] [(.int ((Int32.ofNat (own_N cc)) - (1 : Int32))), (.ref r101)])) rfl rfl (hb hby at_139) _ ?_
          show Steps p.tables e below (T101.setTop (mkF m 140 #[.val (.long q0), .second, .val (.int p2), .val (.long cc), .second, .val (.long (cc / (99999999 : Int64))), .second, .val (.long (cc % (99999999 : Int64))), .second, .val (.int (Int32.ofNat (own_N cc))), .val (.long (99999999 : Int64)), .second, .val (.ref r101), .val (.int ii), .val (.long (99999999 : Int64)), .second, .val (.long (99999999 : Int64)), .second] [(.long (if own_N cc - 1 = own_N cc - 1 then own_last cc else 99999999))])) _
          refine XS.lload X101.here hx rfl (hb hby at_140) rfl ?_
          show Steps p.tables e below (T101.setTop (mkF m 142 #[.val (.long q0), .second, .val (.int p2), .val (.long cc), .second, .val (.long (cc / (99999999 : Int64))), .second, .val (.long (cc % (99999999 : Int64))), .second, .val (.int (Int32.ofNat (own_N cc))), .val (.long (99999999 : Int64)), .second, .val (.ref r101), .val (.int ii), .val (.long (99999999 : Int64)), .second, .val (.long (99999999 : Int64)), .second] [(.long (99999999 : Int64)), (.long (if own_N cc - 1 = own_N cc - 1 then own_last cc else 99999999))])) _
          refine XS.lcmp X101.here hx rfl (hb hby at_142) rfl ?_
          show Steps p.tables e below (T101.setTop (mkF m 143 #[.val (.long q0), .second, .val (.int p2), .val (.long cc), .second, .val (.long (cc / (99999999 : Int64))), .second, .val (.long (cc % (99999999 : Int64))), .second, .val (.int (Int32.ofNat (own_N cc))), .val (.long (99999999 : Int64)), .second, .val (.ref r101), .val (.int ii), .val (.long (99999999 : Int64)), .second, .val (.long (99999999 : Int64)), .second] [(.int (lcmpW (if own_N cc - 1 = own_N cc - 1 then own_last cc else 99999999) (99999999 : Int64)))])) _
          refine XS.ifNo X101.here hx rfl (hb hby at_143) rfl (own_nf (l0_ne _ _) ((if_pos rfl).trans hlast)) ?_
          show Steps p.tables e below (T101.setTop (mkF m 146 #[.val (.long q0), .second, .val (.int p2), .val (.long cc), .second, .val (.long (cc / (99999999 : Int64))), .second, .val (.long (cc % (99999999 : Int64))), .second, .val (.int (Int32.ofNat (own_N cc))), .val (.long (99999999 : Int64)), .second, .val (.ref r101), .val (.int ii), .val (.long (99999999 : Int64)), .second, .val (.long (99999999 : Int64)), .second] [])) _
          refine XS.aload X101.here hx rfl (hb hby at_146) rfl rfl ?_
          show Steps p.tables e below (T101.setTop (mkF m 148 #[.val (.long q0), .second, .val (.int p2), .val (.long cc), .second, .val (.long (cc / (99999999 : Int64))), .second, .val (.long (cc % (99999999 : Int64))), .second, .val (.int (Int32.ofNat (own_N cc))), .val (.long (99999999 : Int64)), .second, .val (.ref r101), .val (.int ii), .val (.long (99999999 : Int64)), .second, .val (.long (99999999 : Int64)), .second] [(.ref r101)])) _
          refine XS.iconst X101.here hx rfl (hb hby at_148) ?_
          show Steps p.tables e below (T101.setTop (mkF m 149 #[.val (.long q0), .second, .val (.int p2), .val (.long cc), .second, .val (.long (cc / (99999999 : Int64))), .second, .val (.long (cc % (99999999 : Int64))), .second, .val (.int (Int32.ofNat (own_N cc))), .val (.long (99999999 : Int64)), .second, .val (.ref r101), .val (.int ii), .val (.long (99999999 : Int64)), .second, .val (.long (99999999 : Int64)), .second] [(.int (0 : Int32)), (.ref r101)])) _
          refine X101.laload hx (j := (0 : Int32)) (v := .long (if 0 = own_N cc - 1 then own_last cc else 99999999)) (own_hc rfl Ar102.1) (State.isArrayOf_alike hZ.alike Ar102.2.1) Ar102.2.2 hin111 hat111 (g := (mkF m 149 #[.val (.long q0), .second, .val (.int p2), .val (.long cc), .second, .val (.long (cc / (99999999 : Int64))), .second, .val (.long (cc % (99999999 : Int64))), .second, .val (.int (Int32.ofNat (own_N cc))), .val (.long (99999999 : Int64)), .second, .val (.ref r101), .val (.int ii), .val (.long (99999999 : Int64)), .second, .val (.long (99999999 : Int64)), .second] [(.int (0 : Int32)), (.ref r101)])) rfl rfl (hb hby at_149) _ ?_
          show Steps p.tables e below (T101.setTop (mkF m 150 #[.val (.long q0), .second, .val (.int p2), .val (.long cc), .second, .val (.long (cc / (99999999 : Int64))), .second, .val (.long (cc % (99999999 : Int64))), .second, .val (.int (Int32.ofNat (own_N cc))), .val (.long (99999999 : Int64)), .second, .val (.ref r101), .val (.int ii), .val (.long (99999999 : Int64)), .second, .val (.long (99999999 : Int64)), .second] [(.long (if 0 = own_N cc - 1 then own_last cc else 99999999))])) _
          refine XS.lload X101.here hx rfl (hb hby at_150) rfl ?_
          show Steps p.tables e below (T101.setTop (mkF m 152 #[.val (.long q0), .second, .val (.int p2), .val (.long cc), .second, .val (.long (cc / (99999999 : Int64))), .second, .val (.long (cc % (99999999 : Int64))), .second, .val (.int (Int32.ofNat (own_N cc))), .val (.long (99999999 : Int64)), .second, .val (.ref r101), .val (.int ii), .val (.long (99999999 : Int64)), .second, .val (.long (99999999 : Int64)), .second] [(.long (99999999 : Int64)), (.long (if 0 = own_N cc - 1 then own_last cc else 99999999))])) _
          refine XS.lcmp X101.here hx rfl (hb hby at_152) rfl ?_
          show Steps p.tables e below (T101.setTop (mkF m 153 #[.val (.long q0), .second, .val (.int p2), .val (.long cc), .second, .val (.long (cc / (99999999 : Int64))), .second, .val (.long (cc % (99999999 : Int64))), .second, .val (.int (Int32.ofNat (own_N cc))), .val (.long (99999999 : Int64)), .second, .val (.ref r101), .val (.int ii), .val (.long (99999999 : Int64)), .second, .val (.long (99999999 : Int64)), .second] [(.int (lcmpW (if 0 = own_N cc - 1 then own_last cc else 99999999) (99999999 : Int64)))])) _
          refine XS.ifNo X101.here hx rfl (hb hby at_153) rfl (own_nf (l0_ne _ _) (own_cmpF1 hnn hc109 hlast)) ?_
          show Steps p.tables e below (T101.setTop (mkF m 156 #[.val (.long q0), .second, .val (.int p2), .val (.long cc), .second, .val (.long (cc / (99999999 : Int64))), .second, .val (.long (cc % (99999999 : Int64))), .second, .val (.int (Int32.ofNat (own_N cc))), .val (.long (99999999 : Int64)), .second, .val (.ref r101), .val (.int ii), .val (.long (99999999 : Int64)), .second, .val (.long (99999999 : Int64)), .second] [])) _
          refine XS.iconst X101.here hx rfl (hb hby at_156) ?_
          show Steps p.tables e below (T101.setTop (mkF m 157 #[.val (.long q0), .second, .val (.int p2), .val (.long cc), .second, .val (.long (cc / (99999999 : Int64))), .second, .val (.long (cc % (99999999 : Int64))), .second, .val (.int (Int32.ofNat (own_N cc))), .val (.long (99999999 : Int64)), .second, .val (.ref r101), .val (.int ii), .val (.long (99999999 : Int64)), .second, .val (.long (99999999 : Int64)), .second] [(.int (1 : Int32))])) _
          refine XS.goto X101.here hx rfl (pc0 := 157) (pc' := 161) rfl (hb hby at_157) (by decide) (by decide) ?_
          show Steps p.tables e below (T101.setTop (mkF m 161 #[.val (.long q0), .second, .val (.int p2), .val (.long cc), .second, .val (.long (cc / (99999999 : Int64))), .second, .val (.long (cc % (99999999 : Int64))), .second, .val (.int (Int32.ofNat (own_N cc))), .val (.long (99999999 : Int64)), .second, .val (.ref r101), .val (.int ii), .val (.long (99999999 : Int64)), .second, .val (.long (99999999 : Int64)), .second] [(.int (1 : Int32))])) _
          exact retN X101 hx (t := .boolean) Bd.returns (by simp) (hb hby at_161) hr
      · have hin112 : ¬ (ii < 0 ∨ cl102.slots.size ≤ (ii).toNatClampNeg) := by rw [hieq]; exact own_in Sa102 (by omega) hnn.2
        have hat112 : cl102.slots[(ii).toNatClampNeg]? = some (.long (if iN = own_N cc - 1 then own_last cc else 99999999)) := by rw [hieq]; rw [own_o_nat (by omega)]; exact Ha102 _ (by omega)
        have hin113 : ¬ (((Int32.ofNat (own_N cc)) - (1 : Int32)) < 0 ∨ cl102.slots.size ≤ (((Int32.ofNat (own_N cc)) - (1 : Int32))).toNatClampNeg) := by rw [own_o_sub hnn.1 hnn.2]; exact own_in Sa102 (by omega) hnn.2
        have hat113 : cl102.slots[(((Int32.ofNat (own_N cc)) - (1 : Int32))).toNatClampNeg]? = some (.long (if own_N cc - 1 = own_N cc - 1 then own_last cc else 99999999)) := by rw [own_o_sub hnn.1 hnn.2]; rw [own_o_nat (by omega)]; exact Ha102 _ (by omega)
        have hin114 : ¬ ((0 : Int32) < 0 ∨ cl102.slots.size ≤ ((0 : Int32)).toNatClampNeg) := by rw [show (0 : Int32) = Int32.ofNat 0 from rfl]; exact own_in Sa102 (by omega) hnn.2
        have hat114 : cl102.slots[((0 : Int32)).toNatClampNeg]? = some (.long (if 0 = own_N cc - 1 then own_last cc else 99999999)) := by rw [show (0 : Int32) = Int32.ofNat 0 from rfl]; rw [own_o_nat (by omega)]; exact Ha102 _ (by omega)
        refine Gl.fin X101 (v := some (.int (1 : Int32))) (fun h => by rw [Bd.returns] at h; cases h) Bd.notSynchronized ?_ rfl (by decide) (by decide) (fun fs hr => ?_)
        · exact ⟨rfl, N101⟩
        · show Steps p.tables e below (T101.setTop (mkF m 109 #[.val (.long q0), .second, .val (.int p2), .val (.long cc), .second, .val (.long (cc / (99999999 : Int64))), .second, .val (.long (cc % (99999999 : Int64))), .second, .val (.int (Int32.ofNat (own_N cc))), .val (.long (99999999 : Int64)), .second, .val (.ref r101), .val (.int ii), .val (.long (99999999 : Int64)), .second, .unset, .unset] [(.int (1 : Int32)), (.int (Int32.ofNat (own_N cc)))])) _
          refine XS.icmpYes X101.here hx rfl (pc0 := 109) (pc' := 117) rfl (hb hby at_109) rfl (own_nt (ic_ne _ _) hc109) (by decide) (by decide) ?_
          show Steps p.tables e below (T101.setTop (mkF m 117 #[.val (.long q0), .second, .val (.int p2), .val (.long cc), .second, .val (.long (cc / (99999999 : Int64))), .second, .val (.long (cc % (99999999 : Int64))), .second, .val (.int (Int32.ofNat (own_N cc))), .val (.long (99999999 : Int64)), .second, .val (.ref r101), .val (.int ii), .val (.long (99999999 : Int64)), .second, .unset, .unset] [])) _
          refine X101.ldc2Long hx hown (mvT hZ (hw _ (List.mem_of_getElem? (i := 2) rfl))) (g := (mkF m 117 #[.val (.long q0), .second, .val (.int p2), .val (.long cc), .second, .val (.long (cc / (99999999 : Int64))), .second, .val (.long (cc % (99999999 : Int64))), .second, .val (.int (Int32.ofNat (own_N cc))), .val (.long (99999999 : Int64)), .second, .val (.ref r101), .val (.int ii), .val (.long (99999999 : Int64)), .second, .unset, .unset] [])) rfl (hb hby at_117) _ ?_
          show Steps p.tables e below (T101.setTop (mkF m 120 #[.val (.long q0), .second, .val (.int p2), .val (.long cc), .second, .val (.long (cc / (99999999 : Int64))), .second, .val (.long (cc % (99999999 : Int64))), .second, .val (.int (Int32.ofNat (own_N cc))), .val (.long (99999999 : Int64)), .second, .val (.ref r101), .val (.int ii), .val (.long (99999999 : Int64)), .second, .unset, .unset] [(.long (99999999 : Int64))])) _
          refine XS.lstore X101.here hx rfl (hb hby at_120) rfl (l' := #[.val (.long q0), .second, .val (.int p2), .val (.long cc), .second, .val (.long (cc / (99999999 : Int64))), .second, .val (.long (cc % (99999999 : Int64))), .second, .val (.int (Int32.ofNat (own_N cc))), .val (.long (99999999 : Int64)), .second, .val (.ref r101), .val (.int ii), .val (.long (99999999 : Int64)), .second, .val (.long (99999999 : Int64)), .second]) rfl ?_
          show Steps p.tables e below (T101.setTop (mkF m 122 #[.val (.long q0), .second, .val (.int p2), .val (.long cc), .second, .val (.long (cc / (99999999 : Int64))), .second, .val (.long (cc % (99999999 : Int64))), .second, .val (.int (Int32.ofNat (own_N cc))), .val (.long (99999999 : Int64)), .second, .val (.ref r101), .val (.int ii), .val (.long (99999999 : Int64)), .second, .val (.long (99999999 : Int64)), .second] [])) _
          refine XS.aload X101.here hx rfl (hb hby at_122) rfl rfl ?_
          show Steps p.tables e below (T101.setTop (mkF m 124 #[.val (.long q0), .second, .val (.int p2), .val (.long cc), .second, .val (.long (cc / (99999999 : Int64))), .second, .val (.long (cc % (99999999 : Int64))), .second, .val (.int (Int32.ofNat (own_N cc))), .val (.long (99999999 : Int64)), .second, .val (.ref r101), .val (.int ii), .val (.long (99999999 : Int64)), .second, .val (.long (99999999 : Int64)), .second] [(.ref r101)])) _
          refine XS.iload X101.here hx rfl (hb hby at_124) rfl ?_
          show Steps p.tables e below (T101.setTop (mkF m 126 #[.val (.long q0), .second, .val (.int p2), .val (.long cc), .second, .val (.long (cc / (99999999 : Int64))), .second, .val (.long (cc % (99999999 : Int64))), .second, .val (.int (Int32.ofNat (own_N cc))), .val (.long (99999999 : Int64)), .second, .val (.ref r101), .val (.int ii), .val (.long (99999999 : Int64)), .second, .val (.long (99999999 : Int64)), .second] [(.int ii), (.ref r101)])) _
          refine X101.laload hx (j := ii) (v := .long (if iN = own_N cc - 1 then own_last cc else 99999999)) (own_hc rfl Ar102.1) (State.isArrayOf_alike hZ.alike Ar102.2.1) Ar102.2.2 hin112 hat112 (g := (mkF m 126 #[.val (.long q0), .second, .val (.int p2), .val (.long cc), .second, .val (.long (cc / (99999999 : Int64))), .second, .val (.long (cc % (99999999 : Int64))), .second, .val (.int (Int32.ofNat (own_N cc))), .val (.long (99999999 : Int64)), .second, .val (.ref r101), .val (.int ii), .val (.long (99999999 : Int64)), .second, .val (.long (99999999 : Int64)), .second] [(.int ii), (.ref r101)])) rfl rfl (hb hby at_126) _ ?_
          show Steps p.tables e below (T101.setTop (mkF m 127 #[.val (.long q0), .second, .val (.int p2), .val (.long cc), .second, .val (.long (cc / (99999999 : Int64))), .second, .val (.long (cc % (99999999 : Int64))), .second, .val (.int (Int32.ofNat (own_N cc))), .val (.long (99999999 : Int64)), .second, .val (.ref r101), .val (.int ii), .val (.long (99999999 : Int64)), .second, .val (.long (99999999 : Int64)), .second] [(.long (if iN = own_N cc - 1 then own_last cc else 99999999))])) _
          refine XS.lload X101.here hx rfl (hb hby at_127) rfl ?_
          show Steps p.tables e below (T101.setTop (mkF m 129 #[.val (.long q0), .second, .val (.int p2), .val (.long cc), .second, .val (.long (cc / (99999999 : Int64))), .second, .val (.long (cc % (99999999 : Int64))), .second, .val (.int (Int32.ofNat (own_N cc))), .val (.long (99999999 : Int64)), .second, .val (.ref r101), .val (.int ii), .val (.long (99999999 : Int64)), .second, .val (.long (99999999 : Int64)), .second] [(.long (99999999 : Int64)), (.long (if iN = own_N cc - 1 then own_last cc else 99999999))])) _
          refine XS.lcmp X101.here hx rfl (hb hby at_129) rfl ?_
          show Steps p.tables e below (T101.setTop (mkF m 130 #[.val (.long q0), .second, .val (.int p2), .val (.long cc), .second, .val (.long (cc / (99999999 : Int64))), .second, .val (.long (cc % (99999999 : Int64))), .second, .val (.int (Int32.ofNat (own_N cc))), .val (.long (99999999 : Int64)), .second, .val (.ref r101), .val (.int ii), .val (.long (99999999 : Int64)), .second, .val (.long (99999999 : Int64)), .second] [(.int (lcmpW (if iN = own_N cc - 1 then own_last cc else 99999999) (99999999 : Int64)))])) _
          refine XS.ifNo X101.here hx rfl (hb hby at_130) rfl (own_nf (l0_ne _ _) (own_cmp0 hnn hieq hiL hc93)) ?_
          show Steps p.tables e below (T101.setTop (mkF m 133 #[.val (.long q0), .second, .val (.int p2), .val (.long cc), .second, .val (.long (cc / (99999999 : Int64))), .second, .val (.long (cc % (99999999 : Int64))), .second, .val (.int (Int32.ofNat (own_N cc))), .val (.long (99999999 : Int64)), .second, .val (.ref r101), .val (.int ii), .val (.long (99999999 : Int64)), .second, .val (.long (99999999 : Int64)), .second] [])) _
          refine XS.aload X101.here hx rfl (hb hby at_133) rfl rfl ?_
          show Steps p.tables e below (T101.setTop (mkF m 135 #[.val (.long q0), .second, .val (.int p2), .val (.long cc), .second, .val (.long (cc / (99999999 : Int64))), .second, .val (.long (cc % (99999999 : Int64))), .second, .val (.int (Int32.ofNat (own_N cc))), .val (.long (99999999 : Int64)), .second, .val (.ref r101), .val (.int ii), .val (.long (99999999 : Int64)), .second, .val (.long (99999999 : Int64)), .second] [(.ref r101)])) _
          refine XS.iload X101.here hx rfl (hb hby at_135) rfl ?_
          show Steps p.tables e below (T101.setTop (mkF m 137 #[.val (.long q0), .second, .val (.int p2), .val (.long cc), .second, .val (.long (cc / (99999999 : Int64))), .second, .val (.long (cc % (99999999 : Int64))), .second, .val (.int (Int32.ofNat (own_N cc))), .val (.long (99999999 : Int64)), .second, .val (.ref r101), .val (.int ii), .val (.long (99999999 : Int64)), .second, .val (.long (99999999 : Int64)), .second] [(.int (Int32.ofNat (own_N cc))), (.ref r101)])) _
          refine XS.iconst X101.here hx rfl (hb hby at_137) ?_
          show Steps p.tables e below (T101.setTop (mkF m 138 #[.val (.long q0), .second, .val (.int p2), .val (.long cc), .second, .val (.long (cc / (99999999 : Int64))), .second, .val (.long (cc % (99999999 : Int64))), .second, .val (.int (Int32.ofNat (own_N cc))), .val (.long (99999999 : Int64)), .second, .val (.ref r101), .val (.int ii), .val (.long (99999999 : Int64)), .second, .val (.long (99999999 : Int64)), .second] [(.int (1 : Int32)), (.int (Int32.ofNat (own_N cc))), (.ref r101)])) _
          refine XS.isub X101.here hx rfl (hb hby at_138) rfl ?_
          show Steps p.tables e below (T101.setTop (mkF m 139 #[.val (.long q0), .second, .val (.int p2), .val (.long cc), .second, .val (.long (cc / (99999999 : Int64))), .second, .val (.long (cc % (99999999 : Int64))), .second, .val (.int (Int32.ofNat (own_N cc))), .val (.long (99999999 : Int64)), .second, .val (.ref r101), .val (.int ii), .val (.long (99999999 : Int64)), .second, .val (.long (99999999 : Int64)), .second] [(.int ((Int32.ofNat (own_N cc)) - (1 : Int32))), (.ref r101)])) _
          refine X101.laload hx (j := ((Int32.ofNat (own_N cc)) - (1 : Int32))) (v := .long (if own_N cc - 1 = own_N cc - 1 then own_last cc else 99999999)) (own_hc rfl Ar102.1) (State.isArrayOf_alike hZ.alike Ar102.2.1) Ar102.2.2 hin113 hat113 (g := (mkF m 139 #[.val (.long q0), .second, .val (.int p2), .val (.long cc), .second, .val (.long (cc / (99999999 : Int64))), .second, .val (.long (cc % (99999999 : Int64))), .second, .val (.int (Int32.ofNat (own_N cc))), .val (.long (99999999 : Int64)), .second, .val (.ref r101), .val (.int ii), .val (.long (99999999 : Int64)), .second, .val (.long (99999999 : Int64)), .second] [(.int ((Int32.ofNat (own_N cc)) - (1 : Int32))), (.ref r101)])) rfl rfl (hb hby at_139) _ ?_
          show Steps p.tables e below (T101.setTop (mkF m 140 #[.val (.long q0), .second, .val (.int p2), .val (.long cc), .second, .val (.long (cc / (99999999 : Int64))), .second, .val (.long (cc % (99999999 : Int64))), .second, .val (.int (Int32.ofNat (own_N cc))), .val (.long (99999999 : Int64)), .second, .val (.ref r101), .val (.int ii), .val (.long (99999999 : Int64)), .second, .val (.long (99999999 : Int64)), .second] [(.long (if own_N cc - 1 = own_N cc - 1 then own_last cc else 99999999))])) _
          refine XS.lload X101.here hx rfl (hb hby at_140) rfl ?_
          show Steps p.tables e below (T101.setTop (mkF m 142 #[.val (.long q0), .second, .val (.int p2), .val (.long cc), .second, .val (.long (cc / (99999999 : Int64))), .second, .val (.long (cc % (99999999 : Int64))), .second, .val (.int (Int32.ofNat (own_N cc))), .val (.long (99999999 : Int64)), .second, .val (.ref r101), .val (.int ii), .val (.long (99999999 : Int64)), .second, .val (.long (99999999 : Int64)), .second] [(.long (99999999 : Int64)), (.long (if own_N cc - 1 = own_N cc - 1 then own_last cc else 99999999))])) _
          refine XS.lcmp X101.here hx rfl (hb hby at_142) rfl ?_
          show Steps p.tables e below (T101.setTop (mkF m 143 #[.val (.long q0), .second, .val (.int p2), .val (.long cc), .second, .val (.long (cc / (99999999 : Int64))), .second, .val (.long (cc % (99999999 : Int64))), .second, .val (.int (Int32.ofNat (own_N cc))), .val (.long (99999999 : Int64)), .second, .val (.ref r101), .val (.int ii), .val (.long (99999999 : Int64)), .second, .val (.long (99999999 : Int64)), .second] [(.int (lcmpW (if own_N cc - 1 = own_N cc - 1 then own_last cc else 99999999) (99999999 : Int64)))])) _
          refine XS.ifNo X101.here hx rfl (hb hby at_143) rfl (own_nf (l0_ne _ _) ((if_pos rfl).trans hlast)) ?_
          show Steps p.tables e below (T101.setTop (mkF m 146 #[.val (.long q0), .second, .val (.int p2), .val (.long cc), .second, .val (.long (cc / (99999999 : Int64))), .second, .val (.long (cc % (99999999 : Int64))), .second, .val (.int (Int32.ofNat (own_N cc))), .val (.long (99999999 : Int64)), .second, .val (.ref r101), .val (.int ii), .val (.long (99999999 : Int64)), .second, .val (.long (99999999 : Int64)), .second] [])) _
          refine XS.aload X101.here hx rfl (hb hby at_146) rfl rfl ?_
          show Steps p.tables e below (T101.setTop (mkF m 148 #[.val (.long q0), .second, .val (.int p2), .val (.long cc), .second, .val (.long (cc / (99999999 : Int64))), .second, .val (.long (cc % (99999999 : Int64))), .second, .val (.int (Int32.ofNat (own_N cc))), .val (.long (99999999 : Int64)), .second, .val (.ref r101), .val (.int ii), .val (.long (99999999 : Int64)), .second, .val (.long (99999999 : Int64)), .second] [(.ref r101)])) _
          refine XS.iconst X101.here hx rfl (hb hby at_148) ?_
          show Steps p.tables e below (T101.setTop (mkF m 149 #[.val (.long q0), .second, .val (.int p2), .val (.long cc), .second, .val (.long (cc / (99999999 : Int64))), .second, .val (.long (cc % (99999999 : Int64))), .second, .val (.int (Int32.ofNat (own_N cc))), .val (.long (99999999 : Int64)), .second, .val (.ref r101), .val (.int ii), .val (.long (99999999 : Int64)), .second, .val (.long (99999999 : Int64)), .second] [(.int (0 : Int32)), (.ref r101)])) _
          refine X101.laload hx (j := (0 : Int32)) (v := .long (if 0 = own_N cc - 1 then own_last cc else 99999999)) (own_hc rfl Ar102.1) (State.isArrayOf_alike hZ.alike Ar102.2.1) Ar102.2.2 hin114 hat114 (g := (mkF m 149 #[.val (.long q0), .second, .val (.int p2), .val (.long cc), .second, .val (.long (cc / (99999999 : Int64))), .second, .val (.long (cc % (99999999 : Int64))), .second, .val (.int (Int32.ofNat (own_N cc))), .val (.long (99999999 : Int64)), .second, .val (.ref r101), .val (.int ii), .val (.long (99999999 : Int64)), .second, .val (.long (99999999 : Int64)), .second] [(.int (0 : Int32)), (.ref r101)])) rfl rfl (hb hby at_149) _ ?_
          show Steps p.tables e below (T101.setTop (mkF m 150 #[.val (.long q0), .second, .val (.int p2), .val (.long cc), .second, .val (.long (cc / (99999999 : Int64))), .second, .val (.long (cc % (99999999 : Int64))), .second, .val (.int (Int32.ofNat (own_N cc))), .val (.long (99999999 : Int64)), .second, .val (.ref r101), .val (.int ii), .val (.long (99999999 : Int64)), .second, .val (.long (99999999 : Int64)), .second] [(.long (if 0 = own_N cc - 1 then own_last cc else 99999999))])) _
          refine XS.lload X101.here hx rfl (hb hby at_150) rfl ?_
          show Steps p.tables e below (T101.setTop (mkF m 152 #[.val (.long q0), .second, .val (.int p2), .val (.long cc), .second, .val (.long (cc / (99999999 : Int64))), .second, .val (.long (cc % (99999999 : Int64))), .second, .val (.int (Int32.ofNat (own_N cc))), .val (.long (99999999 : Int64)), .second, .val (.ref r101), .val (.int ii), .val (.long (99999999 : Int64)), .second, .val (.long (99999999 : Int64)), .second] [(.long (99999999 : Int64)), (.long (if 0 = own_N cc - 1 then own_last cc else 99999999))])) _
          refine XS.lcmp X101.here hx rfl (hb hby at_152) rfl ?_
          show Steps p.tables e below (T101.setTop (mkF m 153 #[.val (.long q0), .second, .val (.int p2), .val (.long cc), .second, .val (.long (cc / (99999999 : Int64))), .second, .val (.long (cc % (99999999 : Int64))), .second, .val (.int (Int32.ofNat (own_N cc))), .val (.long (99999999 : Int64)), .second, .val (.ref r101), .val (.int ii), .val (.long (99999999 : Int64)), .second, .val (.long (99999999 : Int64)), .second] [(.int (lcmpW (if 0 = own_N cc - 1 then own_last cc else 99999999) (99999999 : Int64)))])) _
          refine XS.ifNo X101.here hx rfl (hb hby at_153) rfl (own_nf (l0_ne _ _) (own_cmpF0 hnn hc109)) ?_
          show Steps p.tables e below (T101.setTop (mkF m 156 #[.val (.long q0), .second, .val (.int p2), .val (.long cc), .second, .val (.long (cc / (99999999 : Int64))), .second, .val (.long (cc % (99999999 : Int64))), .second, .val (.int (Int32.ofNat (own_N cc))), .val (.long (99999999 : Int64)), .second, .val (.ref r101), .val (.int ii), .val (.long (99999999 : Int64)), .second, .val (.long (99999999 : Int64)), .second] [])) _
          refine XS.iconst X101.here hx rfl (hb hby at_156) ?_
          show Steps p.tables e below (T101.setTop (mkF m 157 #[.val (.long q0), .second, .val (.int p2), .val (.long cc), .second, .val (.long (cc / (99999999 : Int64))), .second, .val (.long (cc % (99999999 : Int64))), .second, .val (.int (Int32.ofNat (own_N cc))), .val (.long (99999999 : Int64)), .second, .val (.ref r101), .val (.int ii), .val (.long (99999999 : Int64)), .second, .val (.long (99999999 : Int64)), .second] [(.int (1 : Int32))])) _
          refine XS.goto X101.here hx rfl (pc0 := 157) (pc' := 161) rfl (hb hby at_157) (by decide) (by decide) ?_
          show Steps p.tables e below (T101.setTop (mkF m 161 #[.val (.long q0), .second, .val (.int p2), .val (.long cc), .second, .val (.long (cc / (99999999 : Int64))), .second, .val (.long (cc % (99999999 : Int64))), .second, .val (.int (Int32.ofNat (own_N cc))), .val (.long (99999999 : Int64)), .second, .val (.ref r101), .val (.int ii), .val (.long (99999999 : Int64)), .second, .val (.long (99999999 : Int64)), .second] [(.int (1 : Int32))])) _
          exact retN X101 hx (t := .boolean) Bd.returns (by simp) (hb hby at_161) hr
  · refine Gl.pre (S' := s₁.setTop (mkF m 57 #[.val (.long q0), .second, .val (.int p2), .val (.long cc), .second, .val (.long (cc / (99999999 : Int64))), .second, .val (.long (cc % (99999999 : Int64))), .second, .val (.int (((cc / (99999999 : Int64)).toInt32) + (1 : Int32))), .val (.long (cc % (99999999 : Int64))), .second, .unset, .unset, .unset, .unset, .unset, .unset] [])) (fun t kt => ?_) ?_
    · show Steps p.tables e below (s₁.setTop (mkF m 30 #[.val (.long q0), .second, .val (.int p2), .val (.long cc), .second, .val (.long (cc / (99999999 : Int64))), .second, .val (.long (cc % (99999999 : Int64))), .second, .unset, .unset, .unset, .unset, .unset, .unset, .unset, .unset, .unset] [(.int (lcmpW (cc % (99999999 : Int64)) (0 : Int64)))])) _
      refine XS.ifYes X0.here hx rfl (pc0 := 30) (pc' := 46) rfl (hb hby at_30) rfl (own_nt (l0_ne _ _) hc30) (by decide) (by decide) ?_
      show Steps p.tables e below (s₁.setTop (mkF m 46 #[.val (.long q0), .second, .val (.int p2), .val (.long cc), .second, .val (.long (cc / (99999999 : Int64))), .second, .val (.long (cc % (99999999 : Int64))), .second, .unset, .unset, .unset, .unset, .unset, .unset, .unset, .unset, .unset] [])) _
      refine XS.lload X0.here hx rfl (hb hby at_46) rfl ?_
      show Steps p.tables e below (s₁.setTop (mkF m 48 #[.val (.long q0), .second, .val (.int p2), .val (.long cc), .second, .val (.long (cc / (99999999 : Int64))), .second, .val (.long (cc % (99999999 : Int64))), .second, .unset, .unset, .unset, .unset, .unset, .unset, .unset, .unset, .unset] [(.long (cc / (99999999 : Int64)))])) _
      refine XS.l2i X0.here hx rfl (hb hby at_48) rfl ?_
      show Steps p.tables e below (s₁.setTop (mkF m 49 #[.val (.long q0), .second, .val (.int p2), .val (.long cc), .second, .val (.long (cc / (99999999 : Int64))), .second, .val (.long (cc % (99999999 : Int64))), .second, .unset, .unset, .unset, .unset, .unset, .unset, .unset, .unset, .unset] [(.int ((cc / (99999999 : Int64)).toInt32))])) _
      refine XS.iconst X0.here hx rfl (hb hby at_49) ?_
      show Steps p.tables e below (s₁.setTop (mkF m 50 #[.val (.long q0), .second, .val (.int p2), .val (.long cc), .second, .val (.long (cc / (99999999 : Int64))), .second, .val (.long (cc % (99999999 : Int64))), .second, .unset, .unset, .unset, .unset, .unset, .unset, .unset, .unset, .unset] [(.int (1 : Int32)), (.int ((cc / (99999999 : Int64)).toInt32))])) _
      refine XS.iadd X0.here hx rfl (hb hby at_50) rfl ?_
      show Steps p.tables e below (s₁.setTop (mkF m 51 #[.val (.long q0), .second, .val (.int p2), .val (.long cc), .second, .val (.long (cc / (99999999 : Int64))), .second, .val (.long (cc % (99999999 : Int64))), .second, .unset, .unset, .unset, .unset, .unset, .unset, .unset, .unset, .unset] [(.int (((cc / (99999999 : Int64)).toInt32) + (1 : Int32)))])) _
      refine XS.istore X0.here hx rfl (hb hby at_51) rfl (l' := #[.val (.long q0), .second, .val (.int p2), .val (.long cc), .second, .val (.long (cc / (99999999 : Int64))), .second, .val (.long (cc % (99999999 : Int64))), .second, .val (.int (((cc / (99999999 : Int64)).toInt32) + (1 : Int32))), .unset, .unset, .unset, .unset, .unset, .unset, .unset, .unset]) rfl ?_
      show Steps p.tables e below (s₁.setTop (mkF m 53 #[.val (.long q0), .second, .val (.int p2), .val (.long cc), .second, .val (.long (cc / (99999999 : Int64))), .second, .val (.long (cc % (99999999 : Int64))), .second, .val (.int (((cc / (99999999 : Int64)).toInt32) + (1 : Int32))), .unset, .unset, .unset, .unset, .unset, .unset, .unset, .unset] [])) _
      refine XS.lload X0.here hx rfl (hb hby at_53) rfl ?_
      show Steps p.tables e below (s₁.setTop (mkF m 55 #[.val (.long q0), .second, .val (.int p2), .val (.long cc), .second, .val (.long (cc / (99999999 : Int64))), .second, .val (.long (cc % (99999999 : Int64))), .second, .val (.int (((cc / (99999999 : Int64)).toInt32) + (1 : Int32))), .unset, .unset, .unset, .unset, .unset, .unset, .unset, .unset] [(.long (cc % (99999999 : Int64)))])) _
      refine XS.lstore X0.here hx rfl (hb hby at_55) rfl (l' := #[.val (.long q0), .second, .val (.int p2), .val (.long cc), .second, .val (.long (cc / (99999999 : Int64))), .second, .val (.long (cc % (99999999 : Int64))), .second, .val (.int (((cc / (99999999 : Int64)).toInt32) + (1 : Int32))), .val (.long (cc % (99999999 : Int64))), .second, .unset, .unset, .unset, .unset, .unset, .unset]) rfl ?_
      exact kt
    rw [(own_r1 hc1 hc2 hc30).1]
    have hlast := (own_r1 hc1 hc2 hc30).2
    obtain ⟨v115, T115, L115, X115, q115, st115⟩ := own_callS X0 hx hZ (y := (⟨"com/example/stackledger/stackledger/Money", "inSingleAmounts", "(J)[J"⟩ : MethodName)) hown (hw _ (List.mem_of_getElem? (i := 3) rfl)) (hw _ (List.mem_of_getElem? (i := 4) rfl)) (hw _ (List.mem_of_getElem? (i := 5) rfl)) (hw _ (List.mem_of_getElem? (i := 6) rfl)) (by decide) (hM := (rm1 l Z a0 hw [] cc h0 n0 Z0 hc1 hc2)) (by decide) (by decide) (by decide) (by decide) e0 (argsL := [(.long cc)]) (rest := []) (Ls := #[.val (.long q0), .second, .val (.int p2), .val (.long cc), .second, .val (.long (cc / (99999999 : Int64))), .second, .val (.long (cc % (99999999 : Int64))), .second, .val (.int (Int32.ofNat (own_N cc))), .val (.long (cc % (99999999 : Int64))), .second, .unset, .unset, .unset, .unset, .unset, .unset]) (by rw [hml]; rfl) (lenOf pd__J__J rfl) (W := 0) (Nat.le_of_eq rfl) (hb hby at_58)
    obtain ⟨r115, szq_r115, rfl, N115q, K115q, A115q⟩ := q115
    have N115 := Fr.app N0 N115q
    have K115 : Keep h0 T115.heap [] := K0.trans K115q all0
    have g_r115 : n0 ≤ r115 := Nat.le_trans Z0 szq_r115
    have sz_r115 : h0.size ≤ r115 := Nat.le_trans K0.1 szq_r115
    obtain ⟨cl116, Ar116, Sa116, Ha116⟩ := id A115q
    refine Gl.pre (S' := T115.setTop (mkF m 87 #[.val (.long q0), .second, .val (.int p2), .val (.long cc), .second, .val (.long (cc / (99999999 : Int64))), .second, .val (.long (cc % (99999999 : Int64))), .second, .val (.int (Int32.ofNat (own_N cc))), .val (.long (cc % (99999999 : Int64))), .second, .val (.ref r115), .val (.int ((p2 &&& (2147483647 : Int32)) % (Int32.ofNat (own_N cc)))), .unset, .unset, .unset, .unset] [])) (fun t kt => ?_) ?_
    · show Steps p.tables e below (s₁.setTop (mkF m 57 #[.val (.long q0), .second, .val (.int p2), .val (.long cc), .second, .val (.long (cc / (99999999 : Int64))), .second, .val (.long (cc % (99999999 : Int64))), .second, .val (.int (Int32.ofNat (own_N cc))), .val (.long (cc % (99999999 : Int64))), .second, .unset, .unset, .unset, .unset, .unset, .unset] [])) _
      refine XS.lloadN X0.here hx rfl (hb hby at_57) rfl ?_
      show Steps p.tables e below (s₁.setTop (mkF m 58 #[.val (.long q0), .second, .val (.int p2), .val (.long cc), .second, .val (.long (cc / (99999999 : Int64))), .second, .val (.long (cc % (99999999 : Int64))), .second, .val (.int (Int32.ofNat (own_N cc))), .val (.long (cc % (99999999 : Int64))), .second, .unset, .unset, .unset, .unset, .unset, .unset] [(.long cc)])) _
      refine st115 _ ?_
      show Steps p.tables e below (T115.setTop (mkF m 61 #[.val (.long q0), .second, .val (.int p2), .val (.long cc), .second, .val (.long (cc / (99999999 : Int64))), .second, .val (.long (cc % (99999999 : Int64))), .second, .val (.int (Int32.ofNat (own_N cc))), .val (.long (cc % (99999999 : Int64))), .second, .unset, .unset, .unset, .unset, .unset, .unset] [(.ref r115)])) _
      refine XS.astore X115.here hx rfl (hb hby at_61) rfl rfl (l' := #[.val (.long q0), .second, .val (.int p2), .val (.long cc), .second, .val (.long (cc / (99999999 : Int64))), .second, .val (.long (cc % (99999999 : Int64))), .second, .val (.int (Int32.ofNat (own_N cc))), .val (.long (cc % (99999999 : Int64))), .second, .val (.ref r115), .unset, .unset, .unset, .unset, .unset]) rfl ?_
      show Steps p.tables e below (T115.setTop (mkF m 63 #[.val (.long q0), .second, .val (.int p2), .val (.long cc), .second, .val (.long (cc / (99999999 : Int64))), .second, .val (.long (cc % (99999999 : Int64))), .second, .val (.int (Int32.ofNat (own_N cc))), .val (.long (cc % (99999999 : Int64))), .second, .val (.ref r115), .unset, .unset, .unset, .unset, .unset] [])) _
      refine XS.aload X115.here hx rfl (hb hby at_63) rfl rfl ?_
      show Steps p.tables e below (T115.setTop (mkF m 65 #[.val (.long q0), .second, .val (.int p2), .val (.long cc), .second, .val (.long (cc / (99999999 : Int64))), .second, .val (.long (cc % (99999999 : Int64))), .second, .val (.int (Int32.ofNat (own_N cc))), .val (.long (cc % (99999999 : Int64))), .second, .val (.ref r115), .unset, .unset, .unset, .unset, .unset] [(.ref r115)])) _
      refine XS.ifnullNo X115.here hx rfl (hb hby at_65) rfl ?_
      show Steps p.tables e below (T115.setTop (mkF m 68 #[.val (.long q0), .second, .val (.int p2), .val (.long cc), .second, .val (.long (cc / (99999999 : Int64))), .second, .val (.long (cc % (99999999 : Int64))), .second, .val (.int (Int32.ofNat (own_N cc))), .val (.long (cc % (99999999 : Int64))), .second, .val (.ref r115), .unset, .unset, .unset, .unset, .unset] [])) _
      refine XS.aload X115.here hx rfl (hb hby at_68) rfl rfl ?_
      show Steps p.tables e below (T115.setTop (mkF m 70 #[.val (.long q0), .second, .val (.int p2), .val (.long cc), .second, .val (.long (cc / (99999999 : Int64))), .second, .val (.long (cc % (99999999 : Int64))), .second, .val (.int (Int32.ofNat (own_N cc))), .val (.long (cc % (99999999 : Int64))), .second, .val (.ref r115), .unset, .unset, .unset, .unset, .unset] [(.ref r115)])) _
      refine X115.arraylength hx (own_hc rfl Ar116.1) (State.isArrayOf_alike hZ.alike Ar116.2.1) (g := (mkF m 70 #[.val (.long q0), .second, .val (.int p2), .val (.long cc), .second, .val (.long (cc / (99999999 : Int64))), .second, .val (.long (cc % (99999999 : Int64))), .second, .val (.int (Int32.ofNat (own_N cc))), .val (.long (cc % (99999999 : Int64))), .second, .val (.ref r115), .unset, .unset, .unset, .unset, .unset] [(.ref r115)])) rfl rfl (hb hby at_70) _ ?_
      rw [show cl116.slots.size.toInt32 = (Int32.ofNat (own_N cc)) from by rw [Sa116]]
      show Steps p.tables e below (T115.setTop (mkF m 71 #[.val (.long q0), .second, .val (.int p2), .val (.long cc), .second, .val (.long (cc / (99999999 : Int64))), .second, .val (.long (cc % (99999999 : Int64))), .second, .val (.int (Int32.ofNat (own_N cc))), .val (.long (cc % (99999999 : Int64))), .second, .val (.ref r115), .unset, .unset, .unset, .unset, .unset] [(.int (Int32.ofNat (own_N cc)))])) _
      refine XS.iload X115.here hx rfl (hb hby at_71) rfl ?_
      show Steps p.tables e below (T115.setTop (mkF m 73 #[.val (.long q0), .second, .val (.int p2), .val (.long cc), .second, .val (.long (cc / (99999999 : Int64))), .second, .val (.long (cc % (99999999 : Int64))), .second, .val (.int (Int32.ofNat (own_N cc))), .val (.long (cc % (99999999 : Int64))), .second, .val (.ref r115), .unset, .unset, .unset, .unset, .unset] [(.int (Int32.ofNat (own_N cc))), (.int (Int32.ofNat (own_N cc)))])) _
      refine XS.icmpYes X115.here hx rfl (pc0 := 73) (pc' := 78) rfl (hb hby at_73) rfl (own_t (ic_eq _ _) rfl) (by decide) (by decide) ?_
      show Steps p.tables e below (T115.setTop (mkF m 78 #[.val (.long q0), .second, .val (.int p2), .val (.long cc), .second, .val (.long (cc / (99999999 : Int64))), .second, .val (.long (cc % (99999999 : Int64))), .second, .val (.int (Int32.ofNat (own_N cc))), .val (.long (cc % (99999999 : Int64))), .second, .val (.ref r115), .unset, .unset, .unset, .unset, .unset] [])) _
      refine XS.iloadN X115.here hx rfl (hb hby at_78) rfl ?_
      show Steps p.tables e below (T115.setTop (mkF m 79 #[.val (.long q0), .second, .val (.int p2), .val (.long cc), .second, .val (.long (cc / (99999999 : Int64))), .second, .val (.long (cc % (99999999 : Int64))), .second, .val (.int (Int32.ofNat (own_N cc))), .val (.long (cc % (99999999 : Int64))), .second, .val (.ref r115), .unset, .unset, .unset, .unset, .unset] [(.int p2)])) _
      refine X115.ldcInt hx hown (mvT hZ (hw _ (List.mem_of_getElem? (i := 17) rfl))) (g := (mkF m 79 #[.val (.long q0), .second, .val (.int p2), .val (.long cc), .second, .val (.long (cc / (99999999 : Int64))), .second, .val (.long (cc % (99999999 : Int64))), .second, .val (.int (Int32.ofNat (own_N cc))), .val (.long (cc % (99999999 : Int64))), .second, .val (.ref r115), .unset, .unset, .unset, .unset, .unset] [(.int p2)])) rfl (hb hby at_79) _ ?_
      show Steps p.tables e below (T115.setTop (mkF m 81 #[.val (.long q0), .second, .val (.int p2), .val (.long cc), .second, .val (.long (cc / (99999999 : Int64))), .second, .val (.long (cc % (99999999 : Int64))), .second, .val (.int (Int32.ofNat (own_N cc))), .val (.long (cc % (99999999 : Int64))), .second, .val (.ref r115), .unset, .unset, .unset, .unset, .unset] [(.int (2147483647 : Int32)), (.int p2)])) _
      refine XS.iand X115.here hx rfl (hb hby at_81) rfl ?_
      show Steps p.tables e below (T115.setTop (mkF m 82 #[.val (.long q0), .second, .val (.int p2), .val (.long cc), .second, .val (.long (cc / (99999999 : Int64))), .second, .val (.long (cc % (99999999 : Int64))), .second, .val (.int (Int32.ofNat (own_N cc))), .val (.long (cc % (99999999 : Int64))), .second, .val (.ref r115), .unset, .unset, .unset, .unset, .unset] [(.int (p2 &&& (2147483647 : Int32)))])) _
      refine XS.iload X115.here hx rfl (hb hby at_82) rfl ?_
      show Steps p.tables e below (T115.setTop (mkF m 84 #[.val (.long q0), .second, .val (.int p2), .val (.long cc), .second, .val (.long (cc / (99999999 : Int64))), .second, .val (.long (cc % (99999999 : Int64))), .second, .val (.int (Int32.ofNat (own_N cc))), .val (.long (cc % (99999999 : Int64))), .second, .val (.ref r115), .unset, .unset, .unset, .unset, .unset] [(.int (Int32.ofNat (own_N cc))), (.int (p2 &&& (2147483647 : Int32)))])) _
      refine iremM X115 hx rfl (hb hby at_84) rfl (own_o_ne hnn.1 hnn.2) ?_
      show Steps p.tables e below (T115.setTop (mkF m 85 #[.val (.long q0), .second, .val (.int p2), .val (.long cc), .second, .val (.long (cc / (99999999 : Int64))), .second, .val (.long (cc % (99999999 : Int64))), .second, .val (.int (Int32.ofNat (own_N cc))), .val (.long (cc % (99999999 : Int64))), .second, .val (.ref r115), .unset, .unset, .unset, .unset, .unset] [(.int ((p2 &&& (2147483647 : Int32)) % (Int32.ofNat (own_N cc))))])) _
      refine XS.istore X115.here hx rfl (hb hby at_85) rfl (l' := #[.val (.long q0), .second, .val (.int p2), .val (.long cc), .second, .val (.long (cc / (99999999 : Int64))), .second, .val (.long (cc % (99999999 : Int64))), .second, .val (.int (Int32.ofNat (own_N cc))), .val (.long (cc % (99999999 : Int64))), .second, .val (.ref r115), .val (.int ((p2 &&& (2147483647 : Int32)) % (Int32.ofNat (own_N cc)))), .unset, .unset, .unset, .unset]) rfl ?_
      exact kt
    obtain ⟨ii, h_ii⟩ : ∃ z : Int32, z = ((p2 &&& (2147483647 : Int32)) % (Int32.ofNat (own_N cc))) := ⟨_, rfl⟩
    rw [← h_ii]
    have hii := own_mod p2 (Int32.ofNat (own_N cc)) (by rw [own_o32 hnn.2]; omega)
    rw [← h_ii, own_o32 hnn.2] at hii
    obtain ⟨iN, hiN⟩ : ∃ n : Nat, n = ii.toInt.toNat := ⟨_, rfl⟩
    have hiL : iN < own_N cc := by omega
    have hieq : ii = Int32.ofNat iN := by rw [← Int32.toInt_inj, own_o32 (by omega)]; omega
    refine Gl.pre (S' := T115.setTop (mkF m 93 #[.val (.long q0), .second, .val (.int p2), .val (.long cc), .second, .val (.long (cc / (99999999 : Int64))), .second, .val (.long (cc % (99999999 : Int64))), .second, .val (.int (Int32.ofNat (own_N cc))), .val (.long (cc % (99999999 : Int64))), .second, .val (.ref r115), .val (.int ii), .unset, .unset, .unset, .unset] [(.int ((Int32.ofNat (own_N cc)) - (1 : Int32))), (.int ii)])) (fun t kt => ?_) ?_
    · show Steps p.tables e below (T115.setTop (mkF m 87 #[.val (.long q0), .second, .val (.int p2), .val (.long cc), .second, .val (.long (cc / (99999999 : Int64))), .second, .val (.long (cc % (99999999 : Int64))), .second, .val (.int (Int32.ofNat (own_N cc))), .val (.long (cc % (99999999 : Int64))), .second, .val (.ref r115), .val (.int ii), .unset, .unset, .unset, .unset] [])) _
      refine XS.iload X115.here hx rfl (hb hby at_87) rfl ?_
      show Steps p.tables e below (T115.setTop (mkF m 89 #[.val (.long q0), .second, .val (.int p2), .val (.long cc), .second, .val (.long (cc / (99999999 : Int64))), .second, .val (.long (cc % (99999999 : Int64))), .second, .val (.int (Int32.ofNat (own_N cc))), .val (.long (cc % (99999999 : Int64))), .second, .val (.ref r115), .val (.int ii), .unset, .unset, .unset, .unset] [(.int ii)])) _
      refine XS.iload X115.here hx rfl (hb hby at_89) rfl ?_
      show Steps p.tables e below (T115.setTop (mkF m 91 #[.val (.long q0), .second, .val (.int p2), .val (.long cc), .second, .val (.long (cc / (99999999 : Int64))), .second, .val (.long (cc % (99999999 : Int64))), .second, .val (.int (Int32.ofNat (own_N cc))), .val (.long (cc % (99999999 : Int64))), .second, .val (.ref r115), .val (.int ii), .unset, .unset, .unset, .unset] [(.int (Int32.ofNat (own_N cc))), (.int ii)])) _
      refine XS.iconst X115.here hx rfl (hb hby at_91) ?_
      show Steps p.tables e below (T115.setTop (mkF m 92 #[.val (.long q0), .second, .val (.int p2), .val (.long cc), .second, .val (.long (cc / (99999999 : Int64))), .second, .val (.long (cc % (99999999 : Int64))), .second, .val (.int (Int32.ofNat (own_N cc))), .val (.long (cc % (99999999 : Int64))), .second, .val (.ref r115), .val (.int ii), .unset, .unset, .unset, .unset] [(.int (1 : Int32)), (.int (Int32.ofNat (own_N cc))), (.int ii)])) _
      refine XS.isub X115.here hx rfl (hb hby at_92) rfl ?_
      exact kt
    by_cases hc93 : ii = ((Int32.ofNat (own_N cc)) - (1 : Int32))
    · refine Gl.pre (S' := T115.setTop (mkF m 109 #[.val (.long q0), .second, .val (.int p2), .val (.long cc), .second, .val (.long (cc / (99999999 : Int64))), .second, .val (.long (cc % (99999999 : Int64))), .second, .val (.int (Int32.ofNat (own_N cc))), .val (.long (cc % (99999999 : Int64))), .second, .val (.ref r115), .val (.int ii), .val (.long (cc % (99999999 : Int64))), .second, .unset, .unset] [(.int (1 : Int32)), (.int (Int32.ofNat (own_N cc)))])) (fun t kt => ?_) ?_
      · show Steps p.tables e below (T115.setTop (mkF m 93 #[.val (.long q0), .second, .val (.int p2), .val (.long cc), .second, .val (.long (cc / (99999999 : Int64))), .second, .val (.long (cc % (99999999 : Int64))), .second, .val (.int (Int32.ofNat (own_N cc))), .val (.long (cc % (99999999 : Int64))), .second, .val (.ref r115), .val (.int ii), .unset, .unset, .unset, .unset] [(.int ((Int32.ofNat (own_N cc)) - (1 : Int32))), (.int ii)])) _
        refine XS.icmpNo X115.here hx rfl (hb hby at_93) rfl (own_nf (ic_ne _ _) hc93) ?_
        show Steps p.tables e below (T115.setTop (mkF m 96 #[.val (.long q0), .second, .val (.int p2), .val (.long cc), .second, .val (.long (cc / (99999999 : Int64))), .second, .val (.long (cc % (99999999 : Int64))), .second, .val (.int (Int32.ofNat (own_N cc))), .val (.long (cc % (99999999 : Int64))), .second, .val (.ref r115), .val (.int ii), .unset, .unset, .unset, .unset] [])) _
        refine XS.lload X115.here hx rfl (hb hby at_96) rfl ?_
        show Steps p.tables e below (T115.setTop (mkF m 98 #[.val (.long q0), .second, .val (.int p2), .val (.long cc), .second, .val (.long (cc / (99999999 : Int64))), .second, .val (.long (cc % (99999999 : Int64))), .second, .val (.int (Int32.ofNat (own_N cc))), .val (.long (cc % (99999999 : Int64))), .second, .val (.ref r115), .val (.int ii), .unset, .unset, .unset, .unset] [(.long (cc % (99999999 : Int64)))])) _
        refine XS.goto X115.here hx rfl (pc0 := 98) (pc' := 104) rfl (hb hby at_98) (by decide) (by decide) ?_
        show Steps p.tables e below (T115.setTop (mkF m 104 #[.val (.long q0), .second, .val (.int p2), .val (.long cc), .second, .val (.long (cc / (99999999 : Int64))), .second, .val (.long (cc % (99999999 : Int64))), .second, .val (.int (Int32.ofNat (own_N cc))), .val (.long (cc % (99999999 : Int64))), .second, .val (.ref r115), .val (.int ii), .unset, .unset, .unset, .unset] [(.long (cc % (99999999 : Int64)))])) _
        refine XS.lstore X115.here hx rfl (hb hby at_104) rfl (l' := #[.val (.long q0), .second, .val (.int p2), .val (.long cc), .second, .val (.long (cc / (99999999 : Int64))), .second, .val (.long (cc % (99999999 : Int64))), .second, .val (.int (Int32.ofNat (own_N cc))), .val (.long (cc % (99999999 : Int64))), .second, .val (.ref r115), .val (.int ii), .val (.long (cc % (99999999 : Int64))), .second, .unset, .unset]) rfl ?_
        show Steps p.tables e below (T115.setTop (mkF m 106 #[.val (.long q0), .second, .val (.int p2), .val (.long cc), .second, .val (.long (cc / (99999999 : Int64))), .second, .val (.long (cc % (99999999 : Int64))), .second, .val (.int (Int32.ofNat (own_N cc))), .val (.long (cc % (99999999 : Int64))), .second, .val (.ref r115), .val (.int ii), .val (.long (cc % (99999999 : Int64))), .second, .unset, .unset] [])) _
        refine XS.iload X115.here hx rfl (hb hby at_106) rfl ?_
        show Steps p.tables e below (T115.setTop (mkF m 108 #[.val (.long q0), .second, .val (.int p2), .val (.long cc), .second, .val (.long (cc / (99999999 : Int64))), .second, .val (.long (cc % (99999999 : Int64))), .second, .val (.int (Int32.ofNat (own_N cc))), .val (.long (cc % (99999999 : Int64))), .second, .val (.ref r115), .val (.int ii), .val (.long (cc % (99999999 : Int64))), .second, .unset, .unset] [(.int (Int32.ofNat (own_N cc)))])) _
        refine XS.iconst X115.here hx rfl (hb hby at_108) ?_
        exact kt
      by_cases hc109 : (Int32.ofNat (own_N cc)) = (1 : Int32)
      · have hin117 : ¬ (ii < 0 ∨ cl116.slots.size ≤ (ii).toNatClampNeg) := by rw [hieq]; exact own_in Sa116 (by omega) hnn.2
        have hat117 : cl116.slots[(ii).toNatClampNeg]? = some (.long (if iN = own_N cc - 1 then own_last cc else 99999999)) := by rw [hieq]; rw [own_o_nat (by omega)]; exact Ha116 _ (by omega)
        have hin118 : ¬ (((Int32.ofNat (own_N cc)) - (1 : Int32)) < 0 ∨ cl116.slots.size ≤ (((Int32.ofNat (own_N cc)) - (1 : Int32))).toNatClampNeg) := by rw [own_o_sub hnn.1 hnn.2]; exact own_in Sa116 (by omega) hnn.2
        have hat118 : cl116.slots[(((Int32.ofNat (own_N cc)) - (1 : Int32))).toNatClampNeg]? = some (.long (if own_N cc - 1 = own_N cc - 1 then own_last cc else 99999999)) := by rw [own_o_sub hnn.1 hnn.2]; rw [own_o_nat (by omega)]; exact Ha116 _ (by omega)
        have hin119 : ¬ ((0 : Int32) < 0 ∨ cl116.slots.size ≤ ((0 : Int32)).toNatClampNeg) := by rw [show (0 : Int32) = Int32.ofNat 0 from rfl]; exact own_in Sa116 (by omega) hnn.2
        have hat119 : cl116.slots[((0 : Int32)).toNatClampNeg]? = some (.long (if 0 = own_N cc - 1 then own_last cc else 99999999)) := by rw [show (0 : Int32) = Int32.ofNat 0 from rfl]; rw [own_o_nat (by omega)]; exact Ha116 _ (by omega)
        refine Gl.fin X115 (v := some (.int (1 : Int32))) (fun h => by rw [Bd.returns] at h; cases h) Bd.notSynchronized ?_ rfl (by decide) (by decide) (fun fs hr => ?_)
        · exact ⟨rfl, N115⟩
        · show Steps p.tables e below (T115.setTop (mkF m 109 #[.val (.long q0), .second, .val (.int p2), .val (.long cc), .second, .val (.long (cc / (99999999 : Int64))), .second, .val (.long (cc % (99999999 : Int64))), .second, .val (.int (Int32.ofNat (own_N cc))), .val (.long (cc % (99999999 : Int64))), .second, .val (.ref r115), .val (.int ii), .val (.long (cc % (99999999 : Int64))), .second, .unset, .unset] [(.int (1 : Int32)), (.int (Int32.ofNat (own_N cc)))])) _
          refine XS.icmpNo X115.here hx rfl (hb hby at_109) rfl (own_nf (ic_ne _ _) hc109) ?_
          show Steps p.tables e below (T115.setTop (mkF m 112 #[.val (.long q0), .second, .val (.int p2), .val (.long cc), .second, .val (.long (cc / (99999999 : Int64))), .second, .val (.long (cc % (99999999 : Int64))), .second, .val (.int (Int32.ofNat (own_N cc))), .val (.long (cc % (99999999 : Int64))), .second, .val (.ref r115), .val (.int ii), .val (.long (cc % (99999999 : Int64))), .second, .unset, .unset] [])) _
          refine XS.lload X115.here hx rfl (hb hby at_112) rfl ?_
          show Steps p.tables e below (T115.setTop (mkF m 114 #[.val (.long q0), .second, .val (.int p2), .val (.long cc), .second, .val (.long (cc / (99999999 : Int64))), .second, .val (.long (cc % (99999999 : Int64))), .second, .val (.int (Int32.ofNat (own_N cc))), .val (.long (cc % (99999999 : Int64))), .second, .val (.ref r115), .val (.int ii), .val (.long (cc % (99999999 : Int64))), .second, .unset, .unset] [(.long (cc % (99999999 : Int64)))])) _
          refine XS.goto X115.here hx rfl (pc0 := 114) (pc' := 120) rfl (hb hby at_114) (by decide) (by decide) ?_
          show Steps p.tables e below (T115.setTop (mkF m 120 #[.val (.long q0), .second, .val (.int p2), .val (.long cc), .second, .val (.long (cc / (99999999 : Int64))), .second, .val (.long (cc % (99999999 : Int64))), .second, .val (.int (Int32.ofNat (own_N cc))), .val (.long (cc % (99999999 : Int64))), .second, .val (.ref r115), .val (.int ii), .val (.long (cc % (99999999 : Int64))), .second, .unset, .unset] [(.long (cc % (99999999 : Int64)))])) _
          refine XS.lstore X115.here hx rfl (hb hby at_120) rfl (l' := #[.val (.long q0), .second, .val (.int p2), .val (.long cc), .second, .val (.long (cc / (99999999 : Int64))), .second, .val (.long (cc % (99999999 : Int64))), .second, .val (.int (Int32.ofNat (own_N cc))), .val (.long (cc % (99999999 : Int64))), .second, .val (.ref r115), .val (.int ii), .val (.long (cc % (99999999 : Int64))), .second, .val (.long (cc % (99999999 : Int64))), .second]) rfl ?_
          show Steps p.tables e below (T115.setTop (mkF m 122 #[.val (.long q0), .second, .val (.int p2), .val (.long cc), .second, .val (.long (cc / (99999999 : Int64))), .second, .val (.long (cc % (99999999 : Int64))), .second, .val (.int (Int32.ofNat (own_N cc))), .val (.long (cc % (99999999 : Int64))), .second, .val (.ref r115), .val (.int ii), .val (.long (cc % (99999999 : Int64))), .second, .val (.long (cc % (99999999 : Int64))), .second] [])) _
          refine XS.aload X115.here hx rfl (hb hby at_122) rfl rfl ?_
          show Steps p.tables e below (T115.setTop (mkF m 124 #[.val (.long q0), .second, .val (.int p2), .val (.long cc), .second, .val (.long (cc / (99999999 : Int64))), .second, .val (.long (cc % (99999999 : Int64))), .second, .val (.int (Int32.ofNat (own_N cc))), .val (.long (cc % (99999999 : Int64))), .second, .val (.ref r115), .val (.int ii), .val (.long (cc % (99999999 : Int64))), .second, .val (.long (cc % (99999999 : Int64))), .second] [(.ref r115)])) _
          refine XS.iload X115.here hx rfl (hb hby at_124) rfl ?_
          show Steps p.tables e below (T115.setTop (mkF m 126 #[.val (.long q0), .second, .val (.int p2), .val (.long cc), .second, .val (.long (cc / (99999999 : Int64))), .second, .val (.long (cc % (99999999 : Int64))), .second, .val (.int (Int32.ofNat (own_N cc))), .val (.long (cc % (99999999 : Int64))), .second, .val (.ref r115), .val (.int ii), .val (.long (cc % (99999999 : Int64))), .second, .val (.long (cc % (99999999 : Int64))), .second] [(.int ii), (.ref r115)])) _
          refine X115.laload hx (j := ii) (v := .long (if iN = own_N cc - 1 then own_last cc else 99999999)) (own_hc rfl Ar116.1) (State.isArrayOf_alike hZ.alike Ar116.2.1) Ar116.2.2 hin117 hat117 (g := (mkF m 126 #[.val (.long q0), .second, .val (.int p2), .val (.long cc), .second, .val (.long (cc / (99999999 : Int64))), .second, .val (.long (cc % (99999999 : Int64))), .second, .val (.int (Int32.ofNat (own_N cc))), .val (.long (cc % (99999999 : Int64))), .second, .val (.ref r115), .val (.int ii), .val (.long (cc % (99999999 : Int64))), .second, .val (.long (cc % (99999999 : Int64))), .second] [(.int ii), (.ref r115)])) rfl rfl (hb hby at_126) _ ?_
          show Steps p.tables e below (T115.setTop (mkF m 127 #[.val (.long q0), .second, .val (.int p2), .val (.long cc), .second, .val (.long (cc / (99999999 : Int64))), .second, .val (.long (cc % (99999999 : Int64))), .second, .val (.int (Int32.ofNat (own_N cc))), .val (.long (cc % (99999999 : Int64))), .second, .val (.ref r115), .val (.int ii), .val (.long (cc % (99999999 : Int64))), .second, .val (.long (cc % (99999999 : Int64))), .second] [(.long (if iN = own_N cc - 1 then own_last cc else 99999999))])) _
          refine XS.lload X115.here hx rfl (hb hby at_127) rfl ?_
          show Steps p.tables e below (T115.setTop (mkF m 129 #[.val (.long q0), .second, .val (.int p2), .val (.long cc), .second, .val (.long (cc / (99999999 : Int64))), .second, .val (.long (cc % (99999999 : Int64))), .second, .val (.int (Int32.ofNat (own_N cc))), .val (.long (cc % (99999999 : Int64))), .second, .val (.ref r115), .val (.int ii), .val (.long (cc % (99999999 : Int64))), .second, .val (.long (cc % (99999999 : Int64))), .second] [(.long (cc % (99999999 : Int64))), (.long (if iN = own_N cc - 1 then own_last cc else 99999999))])) _
          refine XS.lcmp X115.here hx rfl (hb hby at_129) rfl ?_
          show Steps p.tables e below (T115.setTop (mkF m 130 #[.val (.long q0), .second, .val (.int p2), .val (.long cc), .second, .val (.long (cc / (99999999 : Int64))), .second, .val (.long (cc % (99999999 : Int64))), .second, .val (.int (Int32.ofNat (own_N cc))), .val (.long (cc % (99999999 : Int64))), .second, .val (.ref r115), .val (.int ii), .val (.long (cc % (99999999 : Int64))), .second, .val (.long (cc % (99999999 : Int64))), .second] [(.int (lcmpW (if iN = own_N cc - 1 then own_last cc else 99999999) (cc % (99999999 : Int64))))])) _
          refine XS.ifNo X115.here hx rfl (hb hby at_130) rfl (own_nf (l0_ne _ _) (own_cmp1 hnn hieq hiL hc93 hlast)) ?_
          show Steps p.tables e below (T115.setTop (mkF m 133 #[.val (.long q0), .second, .val (.int p2), .val (.long cc), .second, .val (.long (cc / (99999999 : Int64))), .second, .val (.long (cc % (99999999 : Int64))), .second, .val (.int (Int32.ofNat (own_N cc))), .val (.long (cc % (99999999 : Int64))), .second, .val (.ref r115), .val (.int ii), .val (.long (cc % (99999999 : Int64))), .second, .val (.long (cc % (99999999 : Int64))), .second] [])) _
          refine XS.aload X115.here hx rfl (hb hby at_133) rfl rfl ?_
          show Steps p.tables e below (T115.setTop (mkF m 135 #[.val (.long q0), .second, .val (.int p2), .val (.long cc), .second, .val (.long (cc / (99999999 : Int64))), .second, .val (.long (cc % (99999999 : Int64))), .second, .val (.int (Int32.ofNat (own_N cc))), .val (.long (cc % (99999999 : Int64))), .second, .val (.ref r115), .val (.int ii), .val (.long (cc % (99999999 : Int64))), .second, .val (.long (cc % (99999999 : Int64))), .second] [(.ref r115)])) _
          refine XS.iload X115.here hx rfl (hb hby at_135) rfl ?_
          show Steps p.tables e below (T115.setTop (mkF m 137 #[.val (.long q0), .second, .val (.int p2), .val (.long cc), .second, .val (.long (cc / (99999999 : Int64))), .second, .val (.long (cc % (99999999 : Int64))), .second, .val (.int (Int32.ofNat (own_N cc))), .val (.long (cc % (99999999 : Int64))), .second, .val (.ref r115), .val (.int ii), .val (.long (cc % (99999999 : Int64))), .second, .val (.long (cc % (99999999 : Int64))), .second] [(.int (Int32.ofNat (own_N cc))), (.ref r115)])) _
          refine XS.iconst X115.here hx rfl (hb hby at_137) ?_
          show Steps p.tables e below (T115.setTop (mkF m 138 #[.val (.long q0), .second, .val (.int p2), .val (.long cc), .second, .val (.long (cc / (99999999 : Int64))), .second, .val (.long (cc % (99999999 : Int64))), .second, .val (.int (Int32.ofNat (own_N cc))), .val (.long (cc % (99999999 : Int64))), .second, .val (.ref r115), .val (.int ii), .val (.long (cc % (99999999 : Int64))), .second, .val (.long (cc % (99999999 : Int64))), .second] [(.int (1 : Int32)), (.int (Int32.ofNat (own_N cc))), (.ref r115)])) _
          refine XS.isub X115.here hx rfl (hb hby at_138) rfl ?_
          show Steps p.tables e below (T115.setTop (mkF m 139 #[.val (.long q0), .second, .val (.int p2), .val (.long cc), .second, .val (.long (cc / (99999999 : Int64))), .second, .val (.long (cc % (99999999 : Int64))), .second, .val (.int (Int32.ofNat (own_N cc))), .val (.long (cc % (99999999 : Int64))), .second, .val (.ref r115), .val (.int ii), .val (.long (cc % (99999999 : Int64))), .second, .val (.long (cc % (99999999 : Int64))), .second] [(.int ((Int32.ofNat (own_N cc)) - (1 : Int32))), (.ref r115)])) _
          refine X115.laload hx (j := ((Int32.ofNat (own_N cc)) - (1 : Int32))) (v := .long (if own_N cc - 1 = own_N cc - 1 then own_last cc else 99999999)) (own_hc rfl Ar116.1) (State.isArrayOf_alike hZ.alike Ar116.2.1) Ar116.2.2 hin118 hat118 (g := (mkF m 139 #[.val (.long q0), .second, .val (.int p2), .val (.long cc), .second, .val (.long (cc / (99999999 : Int64))), .second, .val (.long (cc % (99999999 : Int64))), .second, .val (.int (Int32.ofNat (own_N cc))), .val (.long (cc % (99999999 : Int64))), .second, .val (.ref r115), .val (.int ii), .val (.long (cc % (99999999 : Int64))), .second, .val (.long (cc % (99999999 : Int64))), .second] [(.int ((Int32.ofNat (own_N cc)) - (1 : Int32))), (.ref r115)])) rfl rfl (hb hby at_139) _ ?_
          show Steps p.tables e below (T115.setTop (mkF m 140 #[.val (.long q0), .second, .val (.int p2), .val (.long cc), .second, .val (.long (cc / (99999999 : Int64))), .second, .val (.long (cc % (99999999 : Int64))), .second, .val (.int (Int32.ofNat (own_N cc))), .val (.long (cc % (99999999 : Int64))), .second, .val (.ref r115), .val (.int ii), .val (.long (cc % (99999999 : Int64))), .second, .val (.long (cc % (99999999 : Int64))), .second] [(.long (if own_N cc - 1 = own_N cc - 1 then own_last cc else 99999999))])) _
          refine XS.lload X115.here hx rfl (hb hby at_140) rfl ?_
          show Steps p.tables e below (T115.setTop (mkF m 142 #[.val (.long q0), .second, .val (.int p2), .val (.long cc), .second, .val (.long (cc / (99999999 : Int64))), .second, .val (.long (cc % (99999999 : Int64))), .second, .val (.int (Int32.ofNat (own_N cc))), .val (.long (cc % (99999999 : Int64))), .second, .val (.ref r115), .val (.int ii), .val (.long (cc % (99999999 : Int64))), .second, .val (.long (cc % (99999999 : Int64))), .second] [(.long (cc % (99999999 : Int64))), (.long (if own_N cc - 1 = own_N cc - 1 then own_last cc else 99999999))])) _
          refine XS.lcmp X115.here hx rfl (hb hby at_142) rfl ?_
          show Steps p.tables e below (T115.setTop (mkF m 143 #[.val (.long q0), .second, .val (.int p2), .val (.long cc), .second, .val (.long (cc / (99999999 : Int64))), .second, .val (.long (cc % (99999999 : Int64))), .second, .val (.int (Int32.ofNat (own_N cc))), .val (.long (cc % (99999999 : Int64))), .second, .val (.ref r115), .val (.int ii), .val (.long (cc % (99999999 : Int64))), .second, .val (.long (cc % (99999999 : Int64))), .second] [(.int (lcmpW (if own_N cc - 1 = own_N cc - 1 then own_last cc else 99999999) (cc % (99999999 : Int64))))])) _
          refine XS.ifNo X115.here hx rfl (hb hby at_143) rfl (own_nf (l0_ne _ _) ((if_pos rfl).trans hlast)) ?_
          show Steps p.tables e below (T115.setTop (mkF m 146 #[.val (.long q0), .second, .val (.int p2), .val (.long cc), .second, .val (.long (cc / (99999999 : Int64))), .second, .val (.long (cc % (99999999 : Int64))), .second, .val (.int (Int32.ofNat (own_N cc))), .val (.long (cc % (99999999 : Int64))), .second, .val (.ref r115), .val (.int ii), .val (.long (cc % (99999999 : Int64))), .second, .val (.long (cc % (99999999 : Int64))), .second] [])) _
          refine XS.aload X115.here hx rfl (hb hby at_146) rfl rfl ?_
          show Steps p.tables e below (T115.setTop (mkF m 148 #[.val (.long q0), .second, .val (.int p2), .val (.long cc), .second, .val (.long (cc / (99999999 : Int64))), .second, .val (.long (cc % (99999999 : Int64))), .second, .val (.int (Int32.ofNat (own_N cc))), .val (.long (cc % (99999999 : Int64))), .second, .val (.ref r115), .val (.int ii), .val (.long (cc % (99999999 : Int64))), .second, .val (.long (cc % (99999999 : Int64))), .second] [(.ref r115)])) _
          refine XS.iconst X115.here hx rfl (hb hby at_148) ?_
          show Steps p.tables e below (T115.setTop (mkF m 149 #[.val (.long q0), .second, .val (.int p2), .val (.long cc), .second, .val (.long (cc / (99999999 : Int64))), .second, .val (.long (cc % (99999999 : Int64))), .second, .val (.int (Int32.ofNat (own_N cc))), .val (.long (cc % (99999999 : Int64))), .second, .val (.ref r115), .val (.int ii), .val (.long (cc % (99999999 : Int64))), .second, .val (.long (cc % (99999999 : Int64))), .second] [(.int (0 : Int32)), (.ref r115)])) _
          refine X115.laload hx (j := (0 : Int32)) (v := .long (if 0 = own_N cc - 1 then own_last cc else 99999999)) (own_hc rfl Ar116.1) (State.isArrayOf_alike hZ.alike Ar116.2.1) Ar116.2.2 hin119 hat119 (g := (mkF m 149 #[.val (.long q0), .second, .val (.int p2), .val (.long cc), .second, .val (.long (cc / (99999999 : Int64))), .second, .val (.long (cc % (99999999 : Int64))), .second, .val (.int (Int32.ofNat (own_N cc))), .val (.long (cc % (99999999 : Int64))), .second, .val (.ref r115), .val (.int ii), .val (.long (cc % (99999999 : Int64))), .second, .val (.long (cc % (99999999 : Int64))), .second] [(.int (0 : Int32)), (.ref r115)])) rfl rfl (hb hby at_149) _ ?_
          show Steps p.tables e below (T115.setTop (mkF m 150 #[.val (.long q0), .second, .val (.int p2), .val (.long cc), .second, .val (.long (cc / (99999999 : Int64))), .second, .val (.long (cc % (99999999 : Int64))), .second, .val (.int (Int32.ofNat (own_N cc))), .val (.long (cc % (99999999 : Int64))), .second, .val (.ref r115), .val (.int ii), .val (.long (cc % (99999999 : Int64))), .second, .val (.long (cc % (99999999 : Int64))), .second] [(.long (if 0 = own_N cc - 1 then own_last cc else 99999999))])) _
          refine XS.lload X115.here hx rfl (hb hby at_150) rfl ?_
          show Steps p.tables e below (T115.setTop (mkF m 152 #[.val (.long q0), .second, .val (.int p2), .val (.long cc), .second, .val (.long (cc / (99999999 : Int64))), .second, .val (.long (cc % (99999999 : Int64))), .second, .val (.int (Int32.ofNat (own_N cc))), .val (.long (cc % (99999999 : Int64))), .second, .val (.ref r115), .val (.int ii), .val (.long (cc % (99999999 : Int64))), .second, .val (.long (cc % (99999999 : Int64))), .second] [(.long (cc % (99999999 : Int64))), (.long (if 0 = own_N cc - 1 then own_last cc else 99999999))])) _
          refine XS.lcmp X115.here hx rfl (hb hby at_152) rfl ?_
          show Steps p.tables e below (T115.setTop (mkF m 153 #[.val (.long q0), .second, .val (.int p2), .val (.long cc), .second, .val (.long (cc / (99999999 : Int64))), .second, .val (.long (cc % (99999999 : Int64))), .second, .val (.int (Int32.ofNat (own_N cc))), .val (.long (cc % (99999999 : Int64))), .second, .val (.ref r115), .val (.int ii), .val (.long (cc % (99999999 : Int64))), .second, .val (.long (cc % (99999999 : Int64))), .second] [(.int (lcmpW (if 0 = own_N cc - 1 then own_last cc else 99999999) (cc % (99999999 : Int64))))])) _
          refine XS.ifNo X115.here hx rfl (hb hby at_153) rfl (own_nf (l0_ne _ _) (own_cmpF1 hnn hc109 hlast)) ?_
          show Steps p.tables e below (T115.setTop (mkF m 156 #[.val (.long q0), .second, .val (.int p2), .val (.long cc), .second, .val (.long (cc / (99999999 : Int64))), .second, .val (.long (cc % (99999999 : Int64))), .second, .val (.int (Int32.ofNat (own_N cc))), .val (.long (cc % (99999999 : Int64))), .second, .val (.ref r115), .val (.int ii), .val (.long (cc % (99999999 : Int64))), .second, .val (.long (cc % (99999999 : Int64))), .second] [])) _
          refine XS.iconst X115.here hx rfl (hb hby at_156) ?_
          show Steps p.tables e below (T115.setTop (mkF m 157 #[.val (.long q0), .second, .val (.int p2), .val (.long cc), .second, .val (.long (cc / (99999999 : Int64))), .second, .val (.long (cc % (99999999 : Int64))), .second, .val (.int (Int32.ofNat (own_N cc))), .val (.long (cc % (99999999 : Int64))), .second, .val (.ref r115), .val (.int ii), .val (.long (cc % (99999999 : Int64))), .second, .val (.long (cc % (99999999 : Int64))), .second] [(.int (1 : Int32))])) _
          refine XS.goto X115.here hx rfl (pc0 := 157) (pc' := 161) rfl (hb hby at_157) (by decide) (by decide) ?_
          show Steps p.tables e below (T115.setTop (mkF m 161 #[.val (.long q0), .second, .val (.int p2), .val (.long cc), .second, .val (.long (cc / (99999999 : Int64))), .second, .val (.long (cc % (99999999 : Int64))), .second, .val (.int (Int32.ofNat (own_N cc))), .val (.long (cc % (99999999 : Int64))), .second, .val (.ref r115), .val (.int ii), .val (.long (cc % (99999999 : Int64))), .second, .val (.long (cc % (99999999 : Int64))), .second] [(.int (1 : Int32))])) _
          exact retN X115 hx (t := .boolean) Bd.returns (by simp) (hb hby at_161) hr
      · have hin120 : ¬ (ii < 0 ∨ cl116.slots.size ≤ (ii).toNatClampNeg) := by rw [hieq]; exact own_in Sa116 (by omega) hnn.2
        have hat120 : cl116.slots[(ii).toNatClampNeg]? = some (.long (if iN = own_N cc - 1 then own_last cc else 99999999)) := by rw [hieq]; rw [own_o_nat (by omega)]; exact Ha116 _ (by omega)
        have hin121 : ¬ (((Int32.ofNat (own_N cc)) - (1 : Int32)) < 0 ∨ cl116.slots.size ≤ (((Int32.ofNat (own_N cc)) - (1 : Int32))).toNatClampNeg) := by rw [own_o_sub hnn.1 hnn.2]; exact own_in Sa116 (by omega) hnn.2
        have hat121 : cl116.slots[(((Int32.ofNat (own_N cc)) - (1 : Int32))).toNatClampNeg]? = some (.long (if own_N cc - 1 = own_N cc - 1 then own_last cc else 99999999)) := by rw [own_o_sub hnn.1 hnn.2]; rw [own_o_nat (by omega)]; exact Ha116 _ (by omega)
        have hin122 : ¬ ((0 : Int32) < 0 ∨ cl116.slots.size ≤ ((0 : Int32)).toNatClampNeg) := by rw [show (0 : Int32) = Int32.ofNat 0 from rfl]; exact own_in Sa116 (by omega) hnn.2
        have hat122 : cl116.slots[((0 : Int32)).toNatClampNeg]? = some (.long (if 0 = own_N cc - 1 then own_last cc else 99999999)) := by rw [show (0 : Int32) = Int32.ofNat 0 from rfl]; rw [own_o_nat (by omega)]; exact Ha116 _ (by omega)
        refine Gl.fin X115 (v := some (.int (1 : Int32))) (fun h => by rw [Bd.returns] at h; cases h) Bd.notSynchronized ?_ rfl (by decide) (by decide) (fun fs hr => ?_)
        · exact ⟨rfl, N115⟩
        · show Steps p.tables e below (T115.setTop (mkF m 109 #[.val (.long q0), .second, .val (.int p2), .val (.long cc), .second, .val (.long (cc / (99999999 : Int64))), .second, .val (.long (cc % (99999999 : Int64))), .second, .val (.int (Int32.ofNat (own_N cc))), .val (.long (cc % (99999999 : Int64))), .second, .val (.ref r115), .val (.int ii), .val (.long (cc % (99999999 : Int64))), .second, .unset, .unset] [(.int (1 : Int32)), (.int (Int32.ofNat (own_N cc)))])) _
          refine XS.icmpYes X115.here hx rfl (pc0 := 109) (pc' := 117) rfl (hb hby at_109) rfl (own_nt (ic_ne _ _) hc109) (by decide) (by decide) ?_
          show Steps p.tables e below (T115.setTop (mkF m 117 #[.val (.long q0), .second, .val (.int p2), .val (.long cc), .second, .val (.long (cc / (99999999 : Int64))), .second, .val (.long (cc % (99999999 : Int64))), .second, .val (.int (Int32.ofNat (own_N cc))), .val (.long (cc % (99999999 : Int64))), .second, .val (.ref r115), .val (.int ii), .val (.long (cc % (99999999 : Int64))), .second, .unset, .unset] [])) _
          refine X115.ldc2Long hx hown (mvT hZ (hw _ (List.mem_of_getElem? (i := 2) rfl))) (g := (mkF m 117 #[.val (.long q0), .second, .val (.int p2), .val (.long cc), .second, .val (.long (cc / (99999999 : Int64))), .second, .val (.long (cc % (99999999 : Int64))), .second, .val (.int (Int32.ofNat (own_N cc))), .val (.long (cc % (99999999 : Int64))), .second, .val (.ref r115), .val (.int ii), .val (.long (cc % (99999999 : Int64))), .second, .unset, .unset] [])) rfl (hb hby at_117) _ ?_
          show Steps p.tables e below (T115.setTop (mkF m 120 #[.val (.long q0), .second, .val (.int p2), .val (.long cc), .second, .val (.long (cc / (99999999 : Int64))), .second, .val (.long (cc % (99999999 : Int64))), .second, .val (.int (Int32.ofNat (own_N cc))), .val (.long (cc % (99999999 : Int64))), .second, .val (.ref r115), .val (.int ii), .val (.long (cc % (99999999 : Int64))), .second, .unset, .unset] [(.long (99999999 : Int64))])) _
          refine XS.lstore X115.here hx rfl (hb hby at_120) rfl (l' := #[.val (.long q0), .second, .val (.int p2), .val (.long cc), .second, .val (.long (cc / (99999999 : Int64))), .second, .val (.long (cc % (99999999 : Int64))), .second, .val (.int (Int32.ofNat (own_N cc))), .val (.long (cc % (99999999 : Int64))), .second, .val (.ref r115), .val (.int ii), .val (.long (cc % (99999999 : Int64))), .second, .val (.long (99999999 : Int64)), .second]) rfl ?_
          show Steps p.tables e below (T115.setTop (mkF m 122 #[.val (.long q0), .second, .val (.int p2), .val (.long cc), .second, .val (.long (cc / (99999999 : Int64))), .second, .val (.long (cc % (99999999 : Int64))), .second, .val (.int (Int32.ofNat (own_N cc))), .val (.long (cc % (99999999 : Int64))), .second, .val (.ref r115), .val (.int ii), .val (.long (cc % (99999999 : Int64))), .second, .val (.long (99999999 : Int64)), .second] [])) _
          refine XS.aload X115.here hx rfl (hb hby at_122) rfl rfl ?_
          show Steps p.tables e below (T115.setTop (mkF m 124 #[.val (.long q0), .second, .val (.int p2), .val (.long cc), .second, .val (.long (cc / (99999999 : Int64))), .second, .val (.long (cc % (99999999 : Int64))), .second, .val (.int (Int32.ofNat (own_N cc))), .val (.long (cc % (99999999 : Int64))), .second, .val (.ref r115), .val (.int ii), .val (.long (cc % (99999999 : Int64))), .second, .val (.long (99999999 : Int64)), .second] [(.ref r115)])) _
          refine XS.iload X115.here hx rfl (hb hby at_124) rfl ?_
          show Steps p.tables e below (T115.setTop (mkF m 126 #[.val (.long q0), .second, .val (.int p2), .val (.long cc), .second, .val (.long (cc / (99999999 : Int64))), .second, .val (.long (cc % (99999999 : Int64))), .second, .val (.int (Int32.ofNat (own_N cc))), .val (.long (cc % (99999999 : Int64))), .second, .val (.ref r115), .val (.int ii), .val (.long (cc % (99999999 : Int64))), .second, .val (.long (99999999 : Int64)), .second] [(.int ii), (.ref r115)])) _
          refine X115.laload hx (j := ii) (v := .long (if iN = own_N cc - 1 then own_last cc else 99999999)) (own_hc rfl Ar116.1) (State.isArrayOf_alike hZ.alike Ar116.2.1) Ar116.2.2 hin120 hat120 (g := (mkF m 126 #[.val (.long q0), .second, .val (.int p2), .val (.long cc), .second, .val (.long (cc / (99999999 : Int64))), .second, .val (.long (cc % (99999999 : Int64))), .second, .val (.int (Int32.ofNat (own_N cc))), .val (.long (cc % (99999999 : Int64))), .second, .val (.ref r115), .val (.int ii), .val (.long (cc % (99999999 : Int64))), .second, .val (.long (99999999 : Int64)), .second] [(.int ii), (.ref r115)])) rfl rfl (hb hby at_126) _ ?_
          show Steps p.tables e below (T115.setTop (mkF m 127 #[.val (.long q0), .second, .val (.int p2), .val (.long cc), .second, .val (.long (cc / (99999999 : Int64))), .second, .val (.long (cc % (99999999 : Int64))), .second, .val (.int (Int32.ofNat (own_N cc))), .val (.long (cc % (99999999 : Int64))), .second, .val (.ref r115), .val (.int ii), .val (.long (cc % (99999999 : Int64))), .second, .val (.long (99999999 : Int64)), .second] [(.long (if iN = own_N cc - 1 then own_last cc else 99999999))])) _
          refine XS.lload X115.here hx rfl (hb hby at_127) rfl ?_
          show Steps p.tables e below (T115.setTop (mkF m 129 #[.val (.long q0), .second, .val (.int p2), .val (.long cc), .second, .val (.long (cc / (99999999 : Int64))), .second, .val (.long (cc % (99999999 : Int64))), .second, .val (.int (Int32.ofNat (own_N cc))), .val (.long (cc % (99999999 : Int64))), .second, .val (.ref r115), .val (.int ii), .val (.long (cc % (99999999 : Int64))), .second, .val (.long (99999999 : Int64)), .second] [(.long (cc % (99999999 : Int64))), (.long (if iN = own_N cc - 1 then own_last cc else 99999999))])) _
          refine XS.lcmp X115.here hx rfl (hb hby at_129) rfl ?_
          show Steps p.tables e below (T115.setTop (mkF m 130 #[.val (.long q0), .second, .val (.int p2), .val (.long cc), .second, .val (.long (cc / (99999999 : Int64))), .second, .val (.long (cc % (99999999 : Int64))), .second, .val (.int (Int32.ofNat (own_N cc))), .val (.long (cc % (99999999 : Int64))), .second, .val (.ref r115), .val (.int ii), .val (.long (cc % (99999999 : Int64))), .second, .val (.long (99999999 : Int64)), .second] [(.int (lcmpW (if iN = own_N cc - 1 then own_last cc else 99999999) (cc % (99999999 : Int64))))])) _
          refine XS.ifNo X115.here hx rfl (hb hby at_130) rfl (own_nf (l0_ne _ _) (own_cmp1 hnn hieq hiL hc93 hlast)) ?_
          show Steps p.tables e below (T115.setTop (mkF m 133 #[.val (.long q0), .second, .val (.int p2), .val (.long cc), .second, .val (.long (cc / (99999999 : Int64))), .second, .val (.long (cc % (99999999 : Int64))), .second, .val (.int (Int32.ofNat (own_N cc))), .val (.long (cc % (99999999 : Int64))), .second, .val (.ref r115), .val (.int ii), .val (.long (cc % (99999999 : Int64))), .second, .val (.long (99999999 : Int64)), .second] [])) _
          refine XS.aload X115.here hx rfl (hb hby at_133) rfl rfl ?_
          show Steps p.tables e below (T115.setTop (mkF m 135 #[.val (.long q0), .second, .val (.int p2), .val (.long cc), .second, .val (.long (cc / (99999999 : Int64))), .second, .val (.long (cc % (99999999 : Int64))), .second, .val (.int (Int32.ofNat (own_N cc))), .val (.long (cc % (99999999 : Int64))), .second, .val (.ref r115), .val (.int ii), .val (.long (cc % (99999999 : Int64))), .second, .val (.long (99999999 : Int64)), .second] [(.ref r115)])) _
          refine XS.iload X115.here hx rfl (hb hby at_135) rfl ?_
          show Steps p.tables e below (T115.setTop (mkF m 137 #[.val (.long q0), .second, .val (.int p2), .val (.long cc), .second, .val (.long (cc / (99999999 : Int64))), .second, .val (.long (cc % (99999999 : Int64))), .second, .val (.int (Int32.ofNat (own_N cc))), .val (.long (cc % (99999999 : Int64))), .second, .val (.ref r115), .val (.int ii), .val (.long (cc % (99999999 : Int64))), .second, .val (.long (99999999 : Int64)), .second] [(.int (Int32.ofNat (own_N cc))), (.ref r115)])) _
          refine XS.iconst X115.here hx rfl (hb hby at_137) ?_
          show Steps p.tables e below (T115.setTop (mkF m 138 #[.val (.long q0), .second, .val (.int p2), .val (.long cc), .second, .val (.long (cc / (99999999 : Int64))), .second, .val (.long (cc % (99999999 : Int64))), .second, .val (.int (Int32.ofNat (own_N cc))), .val (.long (cc % (99999999 : Int64))), .second, .val (.ref r115), .val (.int ii), .val (.long (cc % (99999999 : Int64))), .second, .val (.long (99999999 : Int64)), .second] [(.int (1 : Int32)), (.int (Int32.ofNat (own_N cc))), (.ref r115)])) _
          refine XS.isub X115.here hx rfl (hb hby at_138) rfl ?_
          show Steps p.tables e below (T115.setTop (mkF m 139 #[.val (.long q0), .second, .val (.int p2), .val (.long cc), .second, .val (.long (cc / (99999999 : Int64))), .second, .val (.long (cc % (99999999 : Int64))), .second, .val (.int (Int32.ofNat (own_N cc))), .val (.long (cc % (99999999 : Int64))), .second, .val (.ref r115), .val (.int ii), .val (.long (cc % (99999999 : Int64))), .second, .val (.long (99999999 : Int64)), .second] [(.int ((Int32.ofNat (own_N cc)) - (1 : Int32))), (.ref r115)])) _
          refine X115.laload hx (j := ((Int32.ofNat (own_N cc)) - (1 : Int32))) (v := .long (if own_N cc - 1 = own_N cc - 1 then own_last cc else 99999999)) (own_hc rfl Ar116.1) (State.isArrayOf_alike hZ.alike Ar116.2.1) Ar116.2.2 hin121 hat121 (g := (mkF m 139 #[.val (.long q0), .second, .val (.int p2), .val (.long cc), .second, .val (.long (cc / (99999999 : Int64))), .second, .val (.long (cc % (99999999 : Int64))), .second, .val (.int (Int32.ofNat (own_N cc))), .val (.long (cc % (99999999 : Int64))), .second, .val (.ref r115), .val (.int ii), .val (.long (cc % (99999999 : Int64))), .second, .val (.long (99999999 : Int64)), .second] [(.int ((Int32.ofNat (own_N cc)) - (1 : Int32))), (.ref r115)])) rfl rfl (hb hby at_139) _ ?_
          show Steps p.tables e below (T115.setTop (mkF m 140 #[.val (.long q0), .second, .val (.int p2), .val (.long cc), .second, .val (.long (cc / (99999999 : Int64))), .second, .val (.long (cc % (99999999 : Int64))), .second, .val (.int (Int32.ofNat (own_N cc))), .val (.long (cc % (99999999 : Int64))), .second, .val (.ref r115), .val (.int ii), .val (.long (cc % (99999999 : Int64))), .second, .val (.long (99999999 : Int64)), .second] [(.long (if own_N cc - 1 = own_N cc - 1 then own_last cc else 99999999))])) _
          refine XS.lload X115.here hx rfl (hb hby at_140) rfl ?_
          show Steps p.tables e below (T115.setTop (mkF m 142 #[.val (.long q0), .second, .val (.int p2), .val (.long cc), .second, .val (.long (cc / (99999999 : Int64))), .second, .val (.long (cc % (99999999 : Int64))), .second, .val (.int (Int32.ofNat (own_N cc))), .val (.long (cc % (99999999 : Int64))), .second, .val (.ref r115), .val (.int ii), .val (.long (cc % (99999999 : Int64))), .second, .val (.long (99999999 : Int64)), .second] [(.long (cc % (99999999 : Int64))), (.long (if own_N cc - 1 = own_N cc - 1 then own_last cc else 99999999))])) _
          refine XS.lcmp X115.here hx rfl (hb hby at_142) rfl ?_
          show Steps p.tables e below (T115.setTop (mkF m 143 #[.val (.long q0), .second, .val (.int p2), .val (.long cc), .second, .val (.long (cc / (99999999 : Int64))), .second, .val (.long (cc % (99999999 : Int64))), .second, .val (.int (Int32.ofNat (own_N cc))), .val (.long (cc % (99999999 : Int64))), .second, .val (.ref r115), .val (.int ii), .val (.long (cc % (99999999 : Int64))), .second, .val (.long (99999999 : Int64)), .second] [(.int (lcmpW (if own_N cc - 1 = own_N cc - 1 then own_last cc else 99999999) (cc % (99999999 : Int64))))])) _
          refine XS.ifNo X115.here hx rfl (hb hby at_143) rfl (own_nf (l0_ne _ _) ((if_pos rfl).trans hlast)) ?_
          show Steps p.tables e below (T115.setTop (mkF m 146 #[.val (.long q0), .second, .val (.int p2), .val (.long cc), .second, .val (.long (cc / (99999999 : Int64))), .second, .val (.long (cc % (99999999 : Int64))), .second, .val (.int (Int32.ofNat (own_N cc))), .val (.long (cc % (99999999 : Int64))), .second, .val (.ref r115), .val (.int ii), .val (.long (cc % (99999999 : Int64))), .second, .val (.long (99999999 : Int64)), .second] [])) _
          refine XS.aload X115.here hx rfl (hb hby at_146) rfl rfl ?_
          show Steps p.tables e below (T115.setTop (mkF m 148 #[.val (.long q0), .second, .val (.int p2), .val (.long cc), .second, .val (.long (cc / (99999999 : Int64))), .second, .val (.long (cc % (99999999 : Int64))), .second, .val (.int (Int32.ofNat (own_N cc))), .val (.long (cc % (99999999 : Int64))), .second, .val (.ref r115), .val (.int ii), .val (.long (cc % (99999999 : Int64))), .second, .val (.long (99999999 : Int64)), .second] [(.ref r115)])) _
          refine XS.iconst X115.here hx rfl (hb hby at_148) ?_
          show Steps p.tables e below (T115.setTop (mkF m 149 #[.val (.long q0), .second, .val (.int p2), .val (.long cc), .second, .val (.long (cc / (99999999 : Int64))), .second, .val (.long (cc % (99999999 : Int64))), .second, .val (.int (Int32.ofNat (own_N cc))), .val (.long (cc % (99999999 : Int64))), .second, .val (.ref r115), .val (.int ii), .val (.long (cc % (99999999 : Int64))), .second, .val (.long (99999999 : Int64)), .second] [(.int (0 : Int32)), (.ref r115)])) _
          refine X115.laload hx (j := (0 : Int32)) (v := .long (if 0 = own_N cc - 1 then own_last cc else 99999999)) (own_hc rfl Ar116.1) (State.isArrayOf_alike hZ.alike Ar116.2.1) Ar116.2.2 hin122 hat122 (g := (mkF m 149 #[.val (.long q0), .second, .val (.int p2), .val (.long cc), .second, .val (.long (cc / (99999999 : Int64))), .second, .val (.long (cc % (99999999 : Int64))), .second, .val (.int (Int32.ofNat (own_N cc))), .val (.long (cc % (99999999 : Int64))), .second, .val (.ref r115), .val (.int ii), .val (.long (cc % (99999999 : Int64))), .second, .val (.long (99999999 : Int64)), .second] [(.int (0 : Int32)), (.ref r115)])) rfl rfl (hb hby at_149) _ ?_
          show Steps p.tables e below (T115.setTop (mkF m 150 #[.val (.long q0), .second, .val (.int p2), .val (.long cc), .second, .val (.long (cc / (99999999 : Int64))), .second, .val (.long (cc % (99999999 : Int64))), .second, .val (.int (Int32.ofNat (own_N cc))), .val (.long (cc % (99999999 : Int64))), .second, .val (.ref r115), .val (.int ii), .val (.long (cc % (99999999 : Int64))), .second, .val (.long (99999999 : Int64)), .second] [(.long (if 0 = own_N cc - 1 then own_last cc else 99999999))])) _
          refine XS.lload X115.here hx rfl (hb hby at_150) rfl ?_
          show Steps p.tables e below (T115.setTop (mkF m 152 #[.val (.long q0), .second, .val (.int p2), .val (.long cc), .second, .val (.long (cc / (99999999 : Int64))), .second, .val (.long (cc % (99999999 : Int64))), .second, .val (.int (Int32.ofNat (own_N cc))), .val (.long (cc % (99999999 : Int64))), .second, .val (.ref r115), .val (.int ii), .val (.long (cc % (99999999 : Int64))), .second, .val (.long (99999999 : Int64)), .second] [(.long (99999999 : Int64)), (.long (if 0 = own_N cc - 1 then own_last cc else 99999999))])) _
          refine XS.lcmp X115.here hx rfl (hb hby at_152) rfl ?_
          show Steps p.tables e below (T115.setTop (mkF m 153 #[.val (.long q0), .second, .val (.int p2), .val (.long cc), .second, .val (.long (cc / (99999999 : Int64))), .second, .val (.long (cc % (99999999 : Int64))), .second, .val (.int (Int32.ofNat (own_N cc))), .val (.long (cc % (99999999 : Int64))), .second, .val (.ref r115), .val (.int ii), .val (.long (cc % (99999999 : Int64))), .second, .val (.long (99999999 : Int64)), .second] [(.int (lcmpW (if 0 = own_N cc - 1 then own_last cc else 99999999) (99999999 : Int64)))])) _
          refine XS.ifNo X115.here hx rfl (hb hby at_153) rfl (own_nf (l0_ne _ _) (own_cmpF0 hnn hc109)) ?_
          show Steps p.tables e below (T115.setTop (mkF m 156 #[.val (.long q0), .second, .val (.int p2), .val (.long cc), .second, .val (.long (cc / (99999999 : Int64))), .second, .val (.long (cc % (99999999 : Int64))), .second, .val (.int (Int32.ofNat (own_N cc))), .val (.long (cc % (99999999 : Int64))), .second, .val (.ref r115), .val (.int ii), .val (.long (cc % (99999999 : Int64))), .second, .val (.long (99999999 : Int64)), .second] [])) _
          refine XS.iconst X115.here hx rfl (hb hby at_156) ?_
          show Steps p.tables e below (T115.setTop (mkF m 157 #[.val (.long q0), .second, .val (.int p2), .val (.long cc), .second, .val (.long (cc / (99999999 : Int64))), .second, .val (.long (cc % (99999999 : Int64))), .second, .val (.int (Int32.ofNat (own_N cc))), .val (.long (cc % (99999999 : Int64))), .second, .val (.ref r115), .val (.int ii), .val (.long (cc % (99999999 : Int64))), .second, .val (.long (99999999 : Int64)), .second] [(.int (1 : Int32))])) _
          refine XS.goto X115.here hx rfl (pc0 := 157) (pc' := 161) rfl (hb hby at_157) (by decide) (by decide) ?_
          show Steps p.tables e below (T115.setTop (mkF m 161 #[.val (.long q0), .second, .val (.int p2), .val (.long cc), .second, .val (.long (cc / (99999999 : Int64))), .second, .val (.long (cc % (99999999 : Int64))), .second, .val (.int (Int32.ofNat (own_N cc))), .val (.long (cc % (99999999 : Int64))), .second, .val (.ref r115), .val (.int ii), .val (.long (cc % (99999999 : Int64))), .second, .val (.long (99999999 : Int64)), .second] [(.int (1 : Int32))])) _
          exact retN X115 hx (t := .boolean) Bd.returns (by simp) (hb hby at_161) hr
    · refine Gl.pre (S' := T115.setTop (mkF m 109 #[.val (.long q0), .second, .val (.int p2), .val (.long cc), .second, .val (.long (cc / (99999999 : Int64))), .second, .val (.long (cc % (99999999 : Int64))), .second, .val (.int (Int32.ofNat (own_N cc))), .val (.long (cc % (99999999 : Int64))), .second, .val (.ref r115), .val (.int ii), .val (.long (99999999 : Int64)), .second, .unset, .unset] [(.int (1 : Int32)), (.int (Int32.ofNat (own_N cc)))])) (fun t kt => ?_) ?_
      · show Steps p.tables e below (T115.setTop (mkF m 93 #[.val (.long q0), .second, .val (.int p2), .val (.long cc), .second, .val (.long (cc / (99999999 : Int64))), .second, .val (.long (cc % (99999999 : Int64))), .second, .val (.int (Int32.ofNat (own_N cc))), .val (.long (cc % (99999999 : Int64))), .second, .val (.ref r115), .val (.int ii), .unset, .unset, .unset, .unset] [(.int ((Int32.ofNat (own_N cc)) - (1 : Int32))), (.int ii)])) _
        refine XS.icmpYes X115.here hx rfl (pc0 := 93) (pc' := 101) rfl (hb hby at_93) rfl (own_nt (ic_ne _ _) hc93) (by decide) (by decide) ?_
        show Steps p.tables e below (T115.setTop (mkF m 101 #[.val (.long q0), .second, .val (.int p2), .val (.long cc), .second, .val (.long (cc / (99999999 : Int64))), .second, .val (.long (cc % (99999999 : Int64))), .second, .val (.int (Int32.ofNat (own_N cc))), .val (.long (cc % (99999999 : Int64))), .second, .val (.ref r115), .val (.int ii), .unset, .unset, .unset, .unset] [])) _
        refine X115.ldc2Long hx hown (mvT hZ (hw _ (List.mem_of_getElem? (i := 2) rfl))) (g := (mkF m 101 #[.val (.long q0), .second, .val (.int p2), .val (.long cc), .second, .val (.long (cc / (99999999 : Int64))), .second, .val (.long (cc % (99999999 : Int64))), .second, .val (.int (Int32.ofNat (own_N cc))), .val (.long (cc % (99999999 : Int64))), .second, .val (.ref r115), .val (.int ii), .unset, .unset, .unset, .unset] [])) rfl (hb hby at_101) _ ?_
        show Steps p.tables e below (T115.setTop (mkF m 104 #[.val (.long q0), .second, .val (.int p2), .val (.long cc), .second, .val (.long (cc / (99999999 : Int64))), .second, .val (.long (cc % (99999999 : Int64))), .second, .val (.int (Int32.ofNat (own_N cc))), .val (.long (cc % (99999999 : Int64))), .second, .val (.ref r115), .val (.int ii), .unset, .unset, .unset, .unset] [(.long (99999999 : Int64))])) _
        refine XS.lstore X115.here hx rfl (hb hby at_104) rfl (l' := #[.val (.long q0), .second, .val (.int p2), .val (.long cc), .second, .val (.long (cc / (99999999 : Int64))), .second, .val (.long (cc % (99999999 : Int64))), .second, .val (.int (Int32.ofNat (own_N cc))), .val (.long (cc % (99999999 : Int64))), .second, .val (.ref r115), .val (.int ii), .val (.long (99999999 : Int64)), .second, .unset, .unset]) rfl ?_
        show Steps p.tables e below (T115.setTop (mkF m 106 #[.val (.long q0), .second, .val (.int p2), .val (.long cc), .second, .val (.long (cc / (99999999 : Int64))), .second, .val (.long (cc % (99999999 : Int64))), .second, .val (.int (Int32.ofNat (own_N cc))), .val (.long (cc % (99999999 : Int64))), .second, .val (.ref r115), .val (.int ii), .val (.long (99999999 : Int64)), .second, .unset, .unset] [])) _
        refine XS.iload X115.here hx rfl (hb hby at_106) rfl ?_
        show Steps p.tables e below (T115.setTop (mkF m 108 #[.val (.long q0), .second, .val (.int p2), .val (.long cc), .second, .val (.long (cc / (99999999 : Int64))), .second, .val (.long (cc % (99999999 : Int64))), .second, .val (.int (Int32.ofNat (own_N cc))), .val (.long (cc % (99999999 : Int64))), .second, .val (.ref r115), .val (.int ii), .val (.long (99999999 : Int64)), .second, .unset, .unset] [(.int (Int32.ofNat (own_N cc)))])) _
        refine XS.iconst X115.here hx rfl (hb hby at_108) ?_
        exact kt
      by_cases hc109 : (Int32.ofNat (own_N cc)) = (1 : Int32)
      · have hin123 : ¬ (ii < 0 ∨ cl116.slots.size ≤ (ii).toNatClampNeg) := by rw [hieq]; exact own_in Sa116 (by omega) hnn.2
        have hat123 : cl116.slots[(ii).toNatClampNeg]? = some (.long (if iN = own_N cc - 1 then own_last cc else 99999999)) := by rw [hieq]; rw [own_o_nat (by omega)]; exact Ha116 _ (by omega)
        have hin124 : ¬ (((Int32.ofNat (own_N cc)) - (1 : Int32)) < 0 ∨ cl116.slots.size ≤ (((Int32.ofNat (own_N cc)) - (1 : Int32))).toNatClampNeg) := by rw [own_o_sub hnn.1 hnn.2]; exact own_in Sa116 (by omega) hnn.2
        have hat124 : cl116.slots[(((Int32.ofNat (own_N cc)) - (1 : Int32))).toNatClampNeg]? = some (.long (if own_N cc - 1 = own_N cc - 1 then own_last cc else 99999999)) := by rw [own_o_sub hnn.1 hnn.2]; rw [own_o_nat (by omega)]; exact Ha116 _ (by omega)
        have hin125 : ¬ ((0 : Int32) < 0 ∨ cl116.slots.size ≤ ((0 : Int32)).toNatClampNeg) := by rw [show (0 : Int32) = Int32.ofNat 0 from rfl]; exact own_in Sa116 (by omega) hnn.2
        have hat125 : cl116.slots[((0 : Int32)).toNatClampNeg]? = some (.long (if 0 = own_N cc - 1 then own_last cc else 99999999)) := by rw [show (0 : Int32) = Int32.ofNat 0 from rfl]; rw [own_o_nat (by omega)]; exact Ha116 _ (by omega)
        refine Gl.fin X115 (v := some (.int (1 : Int32))) (fun h => by rw [Bd.returns] at h; cases h) Bd.notSynchronized ?_ rfl (by decide) (by decide) (fun fs hr => ?_)
        · exact ⟨rfl, N115⟩
        · show Steps p.tables e below (T115.setTop (mkF m 109 #[.val (.long q0), .second, .val (.int p2), .val (.long cc), .second, .val (.long (cc / (99999999 : Int64))), .second, .val (.long (cc % (99999999 : Int64))), .second, .val (.int (Int32.ofNat (own_N cc))), .val (.long (cc % (99999999 : Int64))), .second, .val (.ref r115), .val (.int ii), .val (.long (99999999 : Int64)), .second, .unset, .unset] [(.int (1 : Int32)), (.int (Int32.ofNat (own_N cc)))])) _
          refine XS.icmpNo X115.here hx rfl (hb hby at_109) rfl (own_nf (ic_ne _ _) hc109) ?_
          show Steps p.tables e below (T115.setTop (mkF m 112 #[.val (.long q0), .second, .val (.int p2), .val (.long cc), .second, .val (.long (cc / (99999999 : Int64))), .second, .val (.long (cc % (99999999 : Int64))), .second, .val (.int (Int32.ofNat (own_N cc))), .val (.long (cc % (99999999 : Int64))), .second, .val (.ref r115), .val (.int ii), .val (.long (99999999 : Int64)), .second, .unset, .unset] [])) _
          refine XS.lload X115.here hx rfl (hb hby at_112) rfl ?_
          show Steps p.tables e below (T115.setTop (mkF m 114 #[.val (.long q0), .second, .val (.int p2), .val (.long cc), .second, .val (.long (cc / (99999999 : Int64))), .second, .val (.long (cc % (99999999 : Int64))), .second, .val (.int (Int32.ofNat (own_N cc))), .val (.long (cc % (99999999 : Int64))), .second, .val (.ref r115), .val (.int ii), .val (.long (99999999 : Int64)), .second, .unset, .unset] [(.long (cc % (99999999 : Int64)))])) _
          refine XS.goto X115.here hx rfl (pc0 := 114) (pc' := 120) rfl (hb hby at_114) (by decide) (by decide) ?_
          show Steps p.tables e below (T115.setTop (mkF m 120 #[.val (.long q0), .second, .val (.int p2), .val (.long cc), .second, .val (.long (cc / (99999999 : Int64))), .second, .val (.long (cc % (99999999 : Int64))), .second, .val (.int (Int32.ofNat (own_N cc))), .val (.long (cc % (99999999 : Int64))), .second, .val (.ref r115), .val (.int ii), .val (.long (99999999 : Int64)), .second, .unset, .unset] [(.long (cc % (99999999 : Int64)))])) _
          refine XS.lstore X115.here hx rfl (hb hby at_120) rfl (l' := #[.val (.long q0), .second, .val (.int p2), .val (.long cc), .second, .val (.long (cc / (99999999 : Int64))), .second, .val (.long (cc % (99999999 : Int64))), .second, .val (.int (Int32.ofNat (own_N cc))), .val (.long (cc % (99999999 : Int64))), .second, .val (.ref r115), .val (.int ii), .val (.long (99999999 : Int64)), .second, .val (.long (cc % (99999999 : Int64))), .second]) rfl ?_
          show Steps p.tables e below (T115.setTop (mkF m 122 #[.val (.long q0), .second, .val (.int p2), .val (.long cc), .second, .val (.long (cc / (99999999 : Int64))), .second, .val (.long (cc % (99999999 : Int64))), .second, .val (.int (Int32.ofNat (own_N cc))), .val (.long (cc % (99999999 : Int64))), .second, .val (.ref r115), .val (.int ii), .val (.long (99999999 : Int64)), .second, .val (.long (cc % (99999999 : Int64))), .second] [])) _
          refine XS.aload X115.here hx rfl (hb hby at_122) rfl rfl ?_
          show Steps p.tables e below (T115.setTop (mkF m 124 #[.val (.long q0), .second, .val (.int p2), .val (.long cc), .second, .val (.long (cc / (99999999 : Int64))), .second, .val (.long (cc % (99999999 : Int64))), .second, .val (.int (Int32.ofNat (own_N cc))), .val (.long (cc % (99999999 : Int64))), .second, .val (.ref r115), .val (.int ii), .val (.long (99999999 : Int64)), .second, .val (.long (cc % (99999999 : Int64))), .second] [(.ref r115)])) _
          refine XS.iload X115.here hx rfl (hb hby at_124) rfl ?_
          show Steps p.tables e below (T115.setTop (mkF m 126 #[.val (.long q0), .second, .val (.int p2), .val (.long cc), .second, .val (.long (cc / (99999999 : Int64))), .second, .val (.long (cc % (99999999 : Int64))), .second, .val (.int (Int32.ofNat (own_N cc))), .val (.long (cc % (99999999 : Int64))), .second, .val (.ref r115), .val (.int ii), .val (.long (99999999 : Int64)), .second, .val (.long (cc % (99999999 : Int64))), .second] [(.int ii), (.ref r115)])) _
          refine X115.laload hx (j := ii) (v := .long (if iN = own_N cc - 1 then own_last cc else 99999999)) (own_hc rfl Ar116.1) (State.isArrayOf_alike hZ.alike Ar116.2.1) Ar116.2.2 hin123 hat123 (g := (mkF m 126 #[.val (.long q0), .second, .val (.int p2), .val (.long cc), .second, .val (.long (cc / (99999999 : Int64))), .second, .val (.long (cc % (99999999 : Int64))), .second, .val (.int (Int32.ofNat (own_N cc))), .val (.long (cc % (99999999 : Int64))), .second, .val (.ref r115), .val (.int ii), .val (.long (99999999 : Int64)), .second, .val (.long (cc % (99999999 : Int64))), .second] [(.int ii), (.ref r115)])) rfl rfl (hb hby at_126) _ ?_
          show Steps p.tables e below (T115.setTop (mkF m 127 #[.val (.long q0), .second, .val (.int p2), .val (.long cc), .second, .val (.long (cc / (99999999 : Int64))), .second, .val (.long (cc % (99999999 : Int64))), .second, .val (.int (Int32.ofNat (own_N cc))), .val (.long (cc % (99999999 : Int64))), .second, .val (.ref r115), .val (.int ii), .val (.long (99999999 : Int64)), .second, .val (.long (cc % (99999999 : Int64))), .second] [(.long (if iN = own_N cc - 1 then own_last cc else 99999999))])) _
          refine XS.lload X115.here hx rfl (hb hby at_127) rfl ?_
          show Steps p.tables e below (T115.setTop (mkF m 129 #[.val (.long q0), .second, .val (.int p2), .val (.long cc), .second, .val (.long (cc / (99999999 : Int64))), .second, .val (.long (cc % (99999999 : Int64))), .second, .val (.int (Int32.ofNat (own_N cc))), .val (.long (cc % (99999999 : Int64))), .second, .val (.ref r115), .val (.int ii), .val (.long (99999999 : Int64)), .second, .val (.long (cc % (99999999 : Int64))), .second] [(.long (99999999 : Int64)), (.long (if iN = own_N cc - 1 then own_last cc else 99999999))])) _
          refine XS.lcmp X115.here hx rfl (hb hby at_129) rfl ?_
          show Steps p.tables e below (T115.setTop (mkF m 130 #[.val (.long q0), .second, .val (.int p2), .val (.long cc), .second, .val (.long (cc / (99999999 : Int64))), .second, .val (.long (cc % (99999999 : Int64))), .second, .val (.int (Int32.ofNat (own_N cc))), .val (.long (cc % (99999999 : Int64))), .second, .val (.ref r115), .val (.int ii), .val (.long (99999999 : Int64)), .second, .val (.long (cc % (99999999 : Int64))), .second] [(.int (lcmpW (if iN = own_N cc - 1 then own_last cc else 99999999) (99999999 : Int64)))])) _
          refine XS.ifNo X115.here hx rfl (hb hby at_130) rfl (own_nf (l0_ne _ _) (own_cmp0 hnn hieq hiL hc93)) ?_
          show Steps p.tables e below (T115.setTop (mkF m 133 #[.val (.long q0), .second, .val (.int p2), .val (.long cc), .second, .val (.long (cc / (99999999 : Int64))), .second, .val (.long (cc % (99999999 : Int64))), .second, .val (.int (Int32.ofNat (own_N cc))), .val (.long (cc % (99999999 : Int64))), .second, .val (.ref r115), .val (.int ii), .val (.long (99999999 : Int64)), .second, .val (.long (cc % (99999999 : Int64))), .second] [])) _
          refine XS.aload X115.here hx rfl (hb hby at_133) rfl rfl ?_
          show Steps p.tables e below (T115.setTop (mkF m 135 #[.val (.long q0), .second, .val (.int p2), .val (.long cc), .second, .val (.long (cc / (99999999 : Int64))), .second, .val (.long (cc % (99999999 : Int64))), .second, .val (.int (Int32.ofNat (own_N cc))), .val (.long (cc % (99999999 : Int64))), .second, .val (.ref r115), .val (.int ii), .val (.long (99999999 : Int64)), .second, .val (.long (cc % (99999999 : Int64))), .second] [(.ref r115)])) _
          refine XS.iload X115.here hx rfl (hb hby at_135) rfl ?_
          show Steps p.tables e below (T115.setTop (mkF m 137 #[.val (.long q0), .second, .val (.int p2), .val (.long cc), .second, .val (.long (cc / (99999999 : Int64))), .second, .val (.long (cc % (99999999 : Int64))), .second, .val (.int (Int32.ofNat (own_N cc))), .val (.long (cc % (99999999 : Int64))), .second, .val (.ref r115), .val (.int ii), .val (.long (99999999 : Int64)), .second, .val (.long (cc % (99999999 : Int64))), .second] [(.int (Int32.ofNat (own_N cc))), (.ref r115)])) _
          refine XS.iconst X115.here hx rfl (hb hby at_137) ?_
          show Steps p.tables e below (T115.setTop (mkF m 138 #[.val (.long q0), .second, .val (.int p2), .val (.long cc), .second, .val (.long (cc / (99999999 : Int64))), .second, .val (.long (cc % (99999999 : Int64))), .second, .val (.int (Int32.ofNat (own_N cc))), .val (.long (cc % (99999999 : Int64))), .second, .val (.ref r115), .val (.int ii), .val (.long (99999999 : Int64)), .second, .val (.long (cc % (99999999 : Int64))), .second] [(.int (1 : Int32)), (.int (Int32.ofNat (own_N cc))), (.ref r115)])) _
          refine XS.isub X115.here hx rfl (hb hby at_138) rfl ?_
          show Steps p.tables e below (T115.setTop (mkF m 139 #[.val (.long q0), .second, .val (.int p2), .val (.long cc), .second, .val (.long (cc / (99999999 : Int64))), .second, .val (.long (cc % (99999999 : Int64))), .second, .val (.int (Int32.ofNat (own_N cc))), .val (.long (cc % (99999999 : Int64))), .second, .val (.ref r115), .val (.int ii), .val (.long (99999999 : Int64)), .second, .val (.long (cc % (99999999 : Int64))), .second] [(.int ((Int32.ofNat (own_N cc)) - (1 : Int32))), (.ref r115)])) _
          refine X115.laload hx (j := ((Int32.ofNat (own_N cc)) - (1 : Int32))) (v := .long (if own_N cc - 1 = own_N cc - 1 then own_last cc else 99999999)) (own_hc rfl Ar116.1) (State.isArrayOf_alike hZ.alike Ar116.2.1) Ar116.2.2 hin124 hat124 (g := (mkF m 139 #[.val (.long q0), .second, .val (.int p2), .val (.long cc), .second, .val (.long (cc / (99999999 : Int64))), .second, .val (.long (cc % (99999999 : Int64))), .second, .val (.int (Int32.ofNat (own_N cc))), .val (.long (cc % (99999999 : Int64))), .second, .val (.ref r115), .val (.int ii), .val (.long (99999999 : Int64)), .second, .val (.long (cc % (99999999 : Int64))), .second] [(.int ((Int32.ofNat (own_N cc)) - (1 : Int32))), (.ref r115)])) rfl rfl (hb hby at_139) _ ?_
          show Steps p.tables e below (T115.setTop (mkF m 140 #[.val (.long q0), .second, .val (.int p2), .val (.long cc), .second, .val (.long (cc / (99999999 : Int64))), .second, .val (.long (cc % (99999999 : Int64))), .second, .val (.int (Int32.ofNat (own_N cc))), .val (.long (cc % (99999999 : Int64))), .second, .val (.ref r115), .val (.int ii), .val (.long (99999999 : Int64)), .second, .val (.long (cc % (99999999 : Int64))), .second] [(.long (if own_N cc - 1 = own_N cc - 1 then own_last cc else 99999999))])) _
          refine XS.lload X115.here hx rfl (hb hby at_140) rfl ?_
          show Steps p.tables e below (T115.setTop (mkF m 142 #[.val (.long q0), .second, .val (.int p2), .val (.long cc), .second, .val (.long (cc / (99999999 : Int64))), .second, .val (.long (cc % (99999999 : Int64))), .second, .val (.int (Int32.ofNat (own_N cc))), .val (.long (cc % (99999999 : Int64))), .second, .val (.ref r115), .val (.int ii), .val (.long (99999999 : Int64)), .second, .val (.long (cc % (99999999 : Int64))), .second] [(.long (cc % (99999999 : Int64))), (.long (if own_N cc - 1 = own_N cc - 1 then own_last cc else 99999999))])) _
          refine XS.lcmp X115.here hx rfl (hb hby at_142) rfl ?_
          show Steps p.tables e below (T115.setTop (mkF m 143 #[.val (.long q0), .second, .val (.int p2), .val (.long cc), .second, .val (.long (cc / (99999999 : Int64))), .second, .val (.long (cc % (99999999 : Int64))), .second, .val (.int (Int32.ofNat (own_N cc))), .val (.long (cc % (99999999 : Int64))), .second, .val (.ref r115), .val (.int ii), .val (.long (99999999 : Int64)), .second, .val (.long (cc % (99999999 : Int64))), .second] [(.int (lcmpW (if own_N cc - 1 = own_N cc - 1 then own_last cc else 99999999) (cc % (99999999 : Int64))))])) _
          refine XS.ifNo X115.here hx rfl (hb hby at_143) rfl (own_nf (l0_ne _ _) ((if_pos rfl).trans hlast)) ?_
          show Steps p.tables e below (T115.setTop (mkF m 146 #[.val (.long q0), .second, .val (.int p2), .val (.long cc), .second, .val (.long (cc / (99999999 : Int64))), .second, .val (.long (cc % (99999999 : Int64))), .second, .val (.int (Int32.ofNat (own_N cc))), .val (.long (cc % (99999999 : Int64))), .second, .val (.ref r115), .val (.int ii), .val (.long (99999999 : Int64)), .second, .val (.long (cc % (99999999 : Int64))), .second] [])) _
          refine XS.aload X115.here hx rfl (hb hby at_146) rfl rfl ?_
          show Steps p.tables e below (T115.setTop (mkF m 148 #[.val (.long q0), .second, .val (.int p2), .val (.long cc), .second, .val (.long (cc / (99999999 : Int64))), .second, .val (.long (cc % (99999999 : Int64))), .second, .val (.int (Int32.ofNat (own_N cc))), .val (.long (cc % (99999999 : Int64))), .second, .val (.ref r115), .val (.int ii), .val (.long (99999999 : Int64)), .second, .val (.long (cc % (99999999 : Int64))), .second] [(.ref r115)])) _
          refine XS.iconst X115.here hx rfl (hb hby at_148) ?_
          show Steps p.tables e below (T115.setTop (mkF m 149 #[.val (.long q0), .second, .val (.int p2), .val (.long cc), .second, .val (.long (cc / (99999999 : Int64))), .second, .val (.long (cc % (99999999 : Int64))), .second, .val (.int (Int32.ofNat (own_N cc))), .val (.long (cc % (99999999 : Int64))), .second, .val (.ref r115), .val (.int ii), .val (.long (99999999 : Int64)), .second, .val (.long (cc % (99999999 : Int64))), .second] [(.int (0 : Int32)), (.ref r115)])) _
          refine X115.laload hx (j := (0 : Int32)) (v := .long (if 0 = own_N cc - 1 then own_last cc else 99999999)) (own_hc rfl Ar116.1) (State.isArrayOf_alike hZ.alike Ar116.2.1) Ar116.2.2 hin125 hat125 (g := (mkF m 149 #[.val (.long q0), .second, .val (.int p2), .val (.long cc), .second, .val (.long (cc / (99999999 : Int64))), .second, .val (.long (cc % (99999999 : Int64))), .second, .val (.int (Int32.ofNat (own_N cc))), .val (.long (cc % (99999999 : Int64))), .second, .val (.ref r115), .val (.int ii), .val (.long (99999999 : Int64)), .second, .val (.long (cc % (99999999 : Int64))), .second] [(.int (0 : Int32)), (.ref r115)])) rfl rfl (hb hby at_149) _ ?_
          show Steps p.tables e below (T115.setTop (mkF m 150 #[.val (.long q0), .second, .val (.int p2), .val (.long cc), .second, .val (.long (cc / (99999999 : Int64))), .second, .val (.long (cc % (99999999 : Int64))), .second, .val (.int (Int32.ofNat (own_N cc))), .val (.long (cc % (99999999 : Int64))), .second, .val (.ref r115), .val (.int ii), .val (.long (99999999 : Int64)), .second, .val (.long (cc % (99999999 : Int64))), .second] [(.long (if 0 = own_N cc - 1 then own_last cc else 99999999))])) _
          refine XS.lload X115.here hx rfl (hb hby at_150) rfl ?_
          show Steps p.tables e below (T115.setTop (mkF m 152 #[.val (.long q0), .second, .val (.int p2), .val (.long cc), .second, .val (.long (cc / (99999999 : Int64))), .second, .val (.long (cc % (99999999 : Int64))), .second, .val (.int (Int32.ofNat (own_N cc))), .val (.long (cc % (99999999 : Int64))), .second, .val (.ref r115), .val (.int ii), .val (.long (99999999 : Int64)), .second, .val (.long (cc % (99999999 : Int64))), .second] [(.long (cc % (99999999 : Int64))), (.long (if 0 = own_N cc - 1 then own_last cc else 99999999))])) _
          refine XS.lcmp X115.here hx rfl (hb hby at_152) rfl ?_
          show Steps p.tables e below (T115.setTop (mkF m 153 #[.val (.long q0), .second, .val (.int p2), .val (.long cc), .second, .val (.long (cc / (99999999 : Int64))), .second, .val (.long (cc % (99999999 : Int64))), .second, .val (.int (Int32.ofNat (own_N cc))), .val (.long (cc % (99999999 : Int64))), .second, .val (.ref r115), .val (.int ii), .val (.long (99999999 : Int64)), .second, .val (.long (cc % (99999999 : Int64))), .second] [(.int (lcmpW (if 0 = own_N cc - 1 then own_last cc else 99999999) (cc % (99999999 : Int64))))])) _
          refine XS.ifNo X115.here hx rfl (hb hby at_153) rfl (own_nf (l0_ne _ _) (own_cmpF1 hnn hc109 hlast)) ?_
          show Steps p.tables e below (T115.setTop (mkF m 156 #[.val (.long q0), .second, .val (.int p2), .val (.long cc), .second, .val (.long (cc / (99999999 : Int64))), .second, .val (.long (cc % (99999999 : Int64))), .second, .val (.int (Int32.ofNat (own_N cc))), .val (.long (cc % (99999999 : Int64))), .second, .val (.ref r115), .val (.int ii), .val (.long (99999999 : Int64)), .second, .val (.long (cc % (99999999 : Int64))), .second] [])) _
          refine XS.iconst X115.here hx rfl (hb hby at_156) ?_
          show Steps p.tables e below (T115.setTop (mkF m 157 #[.val (.long q0), .second, .val (.int p2), .val (.long cc), .second, .val (.long (cc / (99999999 : Int64))), .second, .val (.long (cc % (99999999 : Int64))), .second, .val (.int (Int32.ofNat (own_N cc))), .val (.long (cc % (99999999 : Int64))), .second, .val (.ref r115), .val (.int ii), .val (.long (99999999 : Int64)), .second, .val (.long (cc % (99999999 : Int64))), .second] [(.int (1 : Int32))])) _
          refine XS.goto X115.here hx rfl (pc0 := 157) (pc' := 161) rfl (hb hby at_157) (by decide) (by decide) ?_
          show Steps p.tables e below (T115.setTop (mkF m 161 #[.val (.long q0), .second, .val (.int p2), .val (.long cc), .second, .val (.long (cc / (99999999 : Int64))), .second, .val (.long (cc % (99999999 : Int64))), .second, .val (.int (Int32.ofNat (own_N cc))), .val (.long (cc % (99999999 : Int64))), .second, .val (.ref r115), .val (.int ii), .val (.long (99999999 : Int64)), .second, .val (.long (cc % (99999999 : Int64))), .second] [(.int (1 : Int32))])) _
          exact retN X115 hx (t := .boolean) Bd.returns (by simp) (hb hby at_161) hr
      · have hin126 : ¬ (ii < 0 ∨ cl116.slots.size ≤ (ii).toNatClampNeg) := by rw [hieq]; exact own_in Sa116 (by omega) hnn.2
        have hat126 : cl116.slots[(ii).toNatClampNeg]? = some (.long (if iN = own_N cc - 1 then own_last cc else 99999999)) := by rw [hieq]; rw [own_o_nat (by omega)]; exact Ha116 _ (by omega)
        have hin127 : ¬ (((Int32.ofNat (own_N cc)) - (1 : Int32)) < 0 ∨ cl116.slots.size ≤ (((Int32.ofNat (own_N cc)) - (1 : Int32))).toNatClampNeg) := by rw [own_o_sub hnn.1 hnn.2]; exact own_in Sa116 (by omega) hnn.2
        have hat127 : cl116.slots[(((Int32.ofNat (own_N cc)) - (1 : Int32))).toNatClampNeg]? = some (.long (if own_N cc - 1 = own_N cc - 1 then own_last cc else 99999999)) := by rw [own_o_sub hnn.1 hnn.2]; rw [own_o_nat (by omega)]; exact Ha116 _ (by omega)
        have hin128 : ¬ ((0 : Int32) < 0 ∨ cl116.slots.size ≤ ((0 : Int32)).toNatClampNeg) := by rw [show (0 : Int32) = Int32.ofNat 0 from rfl]; exact own_in Sa116 (by omega) hnn.2
        have hat128 : cl116.slots[((0 : Int32)).toNatClampNeg]? = some (.long (if 0 = own_N cc - 1 then own_last cc else 99999999)) := by rw [show (0 : Int32) = Int32.ofNat 0 from rfl]; rw [own_o_nat (by omega)]; exact Ha116 _ (by omega)
        refine Gl.fin X115 (v := some (.int (1 : Int32))) (fun h => by rw [Bd.returns] at h; cases h) Bd.notSynchronized ?_ rfl (by decide) (by decide) (fun fs hr => ?_)
        · exact ⟨rfl, N115⟩
        · show Steps p.tables e below (T115.setTop (mkF m 109 #[.val (.long q0), .second, .val (.int p2), .val (.long cc), .second, .val (.long (cc / (99999999 : Int64))), .second, .val (.long (cc % (99999999 : Int64))), .second, .val (.int (Int32.ofNat (own_N cc))), .val (.long (cc % (99999999 : Int64))), .second, .val (.ref r115), .val (.int ii), .val (.long (99999999 : Int64)), .second, .unset, .unset] [(.int (1 : Int32)), (.int (Int32.ofNat (own_N cc)))])) _
          refine XS.icmpYes X115.here hx rfl (pc0 := 109) (pc' := 117) rfl (hb hby at_109) rfl (own_nt (ic_ne _ _) hc109) (by decide) (by decide) ?_
          show Steps p.tables e below (T115.setTop (mkF m 117 #[.val (.long q0), .second, .val (.int p2), .val (.long cc), .second, .val (.long (cc / (99999999 : Int64))), .second, .val (.long (cc % (99999999 : Int64))), .second, .val (.int (Int32.ofNat (own_N cc))), .val (.long (cc % (99999999 : Int64))), .second, .val (.ref r115), .val (.int ii), .val (.long (99999999 : Int64)), .second, .unset, .unset] [])) _
          refine X115.ldc2Long hx hown (mvT hZ (hw _ (List.mem_of_getElem? (i := 2) rfl))) (g := (mkF m 117 #[.val (.long q0), .second, .val (.int p2), .val (.long cc), .second, .val (.long (cc / (99999999 : Int64))), .second, .val (.long (cc % (99999999 : Int64))), .second, .val (.int (Int32.ofNat (own_N cc))), .val (.long (cc % (99999999 : Int64))), .second, .val (.ref r115), .val (.int ii), .val (.long (99999999 : Int64)), .second, .unset, .unset] [])) rfl (hb hby at_117) _ ?_
          show Steps p.tables e below (T115.setTop (mkF m 120 #[.val (.long q0), .second, .val (.int p2), .val (.long cc), .second, .val (.long (cc / (99999999 : Int64))), .second, .val (.long (cc % (99999999 : Int64))), .second, .val (.int (Int32.ofNat (own_N cc))), .val (.long (cc % (99999999 : Int64))), .second, .val (.ref r115), .val (.int ii), .val (.long (99999999 : Int64)), .second, .unset, .unset] [(.long (99999999 : Int64))])) _
          refine XS.lstore X115.here hx rfl (hb hby at_120) rfl (l' := #[.val (.long q0), .second, .val (.int p2), .val (.long cc), .second, .val (.long (cc / (99999999 : Int64))), .second, .val (.long (cc % (99999999 : Int64))), .second, .val (.int (Int32.ofNat (own_N cc))), .val (.long (cc % (99999999 : Int64))), .second, .val (.ref r115), .val (.int ii), .val (.long (99999999 : Int64)), .second, .val (.long (99999999 : Int64)), .second]) rfl ?_
          show Steps p.tables e below (T115.setTop (mkF m 122 #[.val (.long q0), .second, .val (.int p2), .val (.long cc), .second, .val (.long (cc / (99999999 : Int64))), .second, .val (.long (cc % (99999999 : Int64))), .second, .val (.int (Int32.ofNat (own_N cc))), .val (.long (cc % (99999999 : Int64))), .second, .val (.ref r115), .val (.int ii), .val (.long (99999999 : Int64)), .second, .val (.long (99999999 : Int64)), .second] [])) _
          refine XS.aload X115.here hx rfl (hb hby at_122) rfl rfl ?_
          show Steps p.tables e below (T115.setTop (mkF m 124 #[.val (.long q0), .second, .val (.int p2), .val (.long cc), .second, .val (.long (cc / (99999999 : Int64))), .second, .val (.long (cc % (99999999 : Int64))), .second, .val (.int (Int32.ofNat (own_N cc))), .val (.long (cc % (99999999 : Int64))), .second, .val (.ref r115), .val (.int ii), .val (.long (99999999 : Int64)), .second, .val (.long (99999999 : Int64)), .second] [(.ref r115)])) _
          refine XS.iload X115.here hx rfl (hb hby at_124) rfl ?_
          show Steps p.tables e below (T115.setTop (mkF m 126 #[.val (.long q0), .second, .val (.int p2), .val (.long cc), .second, .val (.long (cc / (99999999 : Int64))), .second, .val (.long (cc % (99999999 : Int64))), .second, .val (.int (Int32.ofNat (own_N cc))), .val (.long (cc % (99999999 : Int64))), .second, .val (.ref r115), .val (.int ii), .val (.long (99999999 : Int64)), .second, .val (.long (99999999 : Int64)), .second] [(.int ii), (.ref r115)])) _
          refine X115.laload hx (j := ii) (v := .long (if iN = own_N cc - 1 then own_last cc else 99999999)) (own_hc rfl Ar116.1) (State.isArrayOf_alike hZ.alike Ar116.2.1) Ar116.2.2 hin126 hat126 (g := (mkF m 126 #[.val (.long q0), .second, .val (.int p2), .val (.long cc), .second, .val (.long (cc / (99999999 : Int64))), .second, .val (.long (cc % (99999999 : Int64))), .second, .val (.int (Int32.ofNat (own_N cc))), .val (.long (cc % (99999999 : Int64))), .second, .val (.ref r115), .val (.int ii), .val (.long (99999999 : Int64)), .second, .val (.long (99999999 : Int64)), .second] [(.int ii), (.ref r115)])) rfl rfl (hb hby at_126) _ ?_
          show Steps p.tables e below (T115.setTop (mkF m 127 #[.val (.long q0), .second, .val (.int p2), .val (.long cc), .second, .val (.long (cc / (99999999 : Int64))), .second, .val (.long (cc % (99999999 : Int64))), .second, .val (.int (Int32.ofNat (own_N cc))), .val (.long (cc % (99999999 : Int64))), .second, .val (.ref r115), .val (.int ii), .val (.long (99999999 : Int64)), .second, .val (.long (99999999 : Int64)), .second] [(.long (if iN = own_N cc - 1 then own_last cc else 99999999))])) _
          refine XS.lload X115.here hx rfl (hb hby at_127) rfl ?_
          show Steps p.tables e below (T115.setTop (mkF m 129 #[.val (.long q0), .second, .val (.int p2), .val (.long cc), .second, .val (.long (cc / (99999999 : Int64))), .second, .val (.long (cc % (99999999 : Int64))), .second, .val (.int (Int32.ofNat (own_N cc))), .val (.long (cc % (99999999 : Int64))), .second, .val (.ref r115), .val (.int ii), .val (.long (99999999 : Int64)), .second, .val (.long (99999999 : Int64)), .second] [(.long (99999999 : Int64)), (.long (if iN = own_N cc - 1 then own_last cc else 99999999))])) _
          refine XS.lcmp X115.here hx rfl (hb hby at_129) rfl ?_
          show Steps p.tables e below (T115.setTop (mkF m 130 #[.val (.long q0), .second, .val (.int p2), .val (.long cc), .second, .val (.long (cc / (99999999 : Int64))), .second, .val (.long (cc % (99999999 : Int64))), .second, .val (.int (Int32.ofNat (own_N cc))), .val (.long (cc % (99999999 : Int64))), .second, .val (.ref r115), .val (.int ii), .val (.long (99999999 : Int64)), .second, .val (.long (99999999 : Int64)), .second] [(.int (lcmpW (if iN = own_N cc - 1 then own_last cc else 99999999) (99999999 : Int64)))])) _
          refine XS.ifNo X115.here hx rfl (hb hby at_130) rfl (own_nf (l0_ne _ _) (own_cmp0 hnn hieq hiL hc93)) ?_
          show Steps p.tables e below (T115.setTop (mkF m 133 #[.val (.long q0), .second, .val (.int p2), .val (.long cc), .second, .val (.long (cc / (99999999 : Int64))), .second, .val (.long (cc % (99999999 : Int64))), .second, .val (.int (Int32.ofNat (own_N cc))), .val (.long (cc % (99999999 : Int64))), .second, .val (.ref r115), .val (.int ii), .val (.long (99999999 : Int64)), .second, .val (.long (99999999 : Int64)), .second] [])) _
          refine XS.aload X115.here hx rfl (hb hby at_133) rfl rfl ?_
          show Steps p.tables e below (T115.setTop (mkF m 135 #[.val (.long q0), .second, .val (.int p2), .val (.long cc), .second, .val (.long (cc / (99999999 : Int64))), .second, .val (.long (cc % (99999999 : Int64))), .second, .val (.int (Int32.ofNat (own_N cc))), .val (.long (cc % (99999999 : Int64))), .second, .val (.ref r115), .val (.int ii), .val (.long (99999999 : Int64)), .second, .val (.long (99999999 : Int64)), .second] [(.ref r115)])) _
          refine XS.iload X115.here hx rfl (hb hby at_135) rfl ?_
          show Steps p.tables e below (T115.setTop (mkF m 137 #[.val (.long q0), .second, .val (.int p2), .val (.long cc), .second, .val (.long (cc / (99999999 : Int64))), .second, .val (.long (cc % (99999999 : Int64))), .second, .val (.int (Int32.ofNat (own_N cc))), .val (.long (cc % (99999999 : Int64))), .second, .val (.ref r115), .val (.int ii), .val (.long (99999999 : Int64)), .second, .val (.long (99999999 : Int64)), .second] [(.int (Int32.ofNat (own_N cc))), (.ref r115)])) _
          refine XS.iconst X115.here hx rfl (hb hby at_137) ?_
          show Steps p.tables e below (T115.setTop (mkF m 138 #[.val (.long q0), .second, .val (.int p2), .val (.long cc), .second, .val (.long (cc / (99999999 : Int64))), .second, .val (.long (cc % (99999999 : Int64))), .second, .val (.int (Int32.ofNat (own_N cc))), .val (.long (cc % (99999999 : Int64))), .second, .val (.ref r115), .val (.int ii), .val (.long (99999999 : Int64)), .second, .val (.long (99999999 : Int64)), .second] [(.int (1 : Int32)), (.int (Int32.ofNat (own_N cc))), (.ref r115)])) _
          refine XS.isub X115.here hx rfl (hb hby at_138) rfl ?_
          show Steps p.tables e below (T115.setTop (mkF m 139 #[.val (.long q0), .second, .val (.int p2), .val (.long cc), .second, .val (.long (cc / (99999999 : Int64))), .second, .val (.long (cc % (99999999 : Int64))), .second, .val (.int (Int32.ofNat (own_N cc))), .val (.long (cc % (99999999 : Int64))), .second, .val (.ref r115), .val (.int ii), .val (.long (99999999 : Int64)), .second, .val (.long (99999999 : Int64)), .second] [(.int ((Int32.ofNat (own_N cc)) - (1 : Int32))), (.ref r115)])) _
          refine X115.laload hx (j := ((Int32.ofNat (own_N cc)) - (1 : Int32))) (v := .long (if own_N cc - 1 = own_N cc - 1 then own_last cc else 99999999)) (own_hc rfl Ar116.1) (State.isArrayOf_alike hZ.alike Ar116.2.1) Ar116.2.2 hin127 hat127 (g := (mkF m 139 #[.val (.long q0), .second, .val (.int p2), .val (.long cc), .second, .val (.long (cc / (99999999 : Int64))), .second, .val (.long (cc % (99999999 : Int64))), .second, .val (.int (Int32.ofNat (own_N cc))), .val (.long (cc % (99999999 : Int64))), .second, .val (.ref r115), .val (.int ii), .val (.long (99999999 : Int64)), .second, .val (.long (99999999 : Int64)), .second] [(.int ((Int32.ofNat (own_N cc)) - (1 : Int32))), (.ref r115)])) rfl rfl (hb hby at_139) _ ?_
          show Steps p.tables e below (T115.setTop (mkF m 140 #[.val (.long q0), .second, .val (.int p2), .val (.long cc), .second, .val (.long (cc / (99999999 : Int64))), .second, .val (.long (cc % (99999999 : Int64))), .second, .val (.int (Int32.ofNat (own_N cc))), .val (.long (cc % (99999999 : Int64))), .second, .val (.ref r115), .val (.int ii), .val (.long (99999999 : Int64)), .second, .val (.long (99999999 : Int64)), .second] [(.long (if own_N cc - 1 = own_N cc - 1 then own_last cc else 99999999))])) _
          refine XS.lload X115.here hx rfl (hb hby at_140) rfl ?_
          show Steps p.tables e below (T115.setTop (mkF m 142 #[.val (.long q0), .second, .val (.int p2), .val (.long cc), .second, .val (.long (cc / (99999999 : Int64))), .second, .val (.long (cc % (99999999 : Int64))), .second, .val (.int (Int32.ofNat (own_N cc))), .val (.long (cc % (99999999 : Int64))), .second, .val (.ref r115), .val (.int ii), .val (.long (99999999 : Int64)), .second, .val (.long (99999999 : Int64)), .second] [(.long (cc % (99999999 : Int64))), (.long (if own_N cc - 1 = own_N cc - 1 then own_last cc else 99999999))])) _
          refine XS.lcmp X115.here hx rfl (hb hby at_142) rfl ?_
          show Steps p.tables e below (T115.setTop (mkF m 143 #[.val (.long q0), .second, .val (.int p2), .val (.long cc), .second, .val (.long (cc / (99999999 : Int64))), .second, .val (.long (cc % (99999999 : Int64))), .second, .val (.int (Int32.ofNat (own_N cc))), .val (.long (cc % (99999999 : Int64))), .second, .val (.ref r115), .val (.int ii), .val (.long (99999999 : Int64)), .second, .val (.long (99999999 : Int64)), .second] [(.int (lcmpW (if own_N cc - 1 = own_N cc - 1 then own_last cc else 99999999) (cc % (99999999 : Int64))))])) _
          refine XS.ifNo X115.here hx rfl (hb hby at_143) rfl (own_nf (l0_ne _ _) ((if_pos rfl).trans hlast)) ?_
          show Steps p.tables e below (T115.setTop (mkF m 146 #[.val (.long q0), .second, .val (.int p2), .val (.long cc), .second, .val (.long (cc / (99999999 : Int64))), .second, .val (.long (cc % (99999999 : Int64))), .second, .val (.int (Int32.ofNat (own_N cc))), .val (.long (cc % (99999999 : Int64))), .second, .val (.ref r115), .val (.int ii), .val (.long (99999999 : Int64)), .second, .val (.long (99999999 : Int64)), .second] [])) _
          refine XS.aload X115.here hx rfl (hb hby at_146) rfl rfl ?_
          show Steps p.tables e below (T115.setTop (mkF m 148 #[.val (.long q0), .second, .val (.int p2), .val (.long cc), .second, .val (.long (cc / (99999999 : Int64))), .second, .val (.long (cc % (99999999 : Int64))), .second, .val (.int (Int32.ofNat (own_N cc))), .val (.long (cc % (99999999 : Int64))), .second, .val (.ref r115), .val (.int ii), .val (.long (99999999 : Int64)), .second, .val (.long (99999999 : Int64)), .second] [(.ref r115)])) _
          refine XS.iconst X115.here hx rfl (hb hby at_148) ?_
          show Steps p.tables e below (T115.setTop (mkF m 149 #[.val (.long q0), .second, .val (.int p2), .val (.long cc), .second, .val (.long (cc / (99999999 : Int64))), .second, .val (.long (cc % (99999999 : Int64))), .second, .val (.int (Int32.ofNat (own_N cc))), .val (.long (cc % (99999999 : Int64))), .second, .val (.ref r115), .val (.int ii), .val (.long (99999999 : Int64)), .second, .val (.long (99999999 : Int64)), .second] [(.int (0 : Int32)), (.ref r115)])) _
          refine X115.laload hx (j := (0 : Int32)) (v := .long (if 0 = own_N cc - 1 then own_last cc else 99999999)) (own_hc rfl Ar116.1) (State.isArrayOf_alike hZ.alike Ar116.2.1) Ar116.2.2 hin128 hat128 (g := (mkF m 149 #[.val (.long q0), .second, .val (.int p2), .val (.long cc), .second, .val (.long (cc / (99999999 : Int64))), .second, .val (.long (cc % (99999999 : Int64))), .second, .val (.int (Int32.ofNat (own_N cc))), .val (.long (cc % (99999999 : Int64))), .second, .val (.ref r115), .val (.int ii), .val (.long (99999999 : Int64)), .second, .val (.long (99999999 : Int64)), .second] [(.int (0 : Int32)), (.ref r115)])) rfl rfl (hb hby at_149) _ ?_
          show Steps p.tables e below (T115.setTop (mkF m 150 #[.val (.long q0), .second, .val (.int p2), .val (.long cc), .second, .val (.long (cc / (99999999 : Int64))), .second, .val (.long (cc % (99999999 : Int64))), .second, .val (.int (Int32.ofNat (own_N cc))), .val (.long (cc % (99999999 : Int64))), .second, .val (.ref r115), .val (.int ii), .val (.long (99999999 : Int64)), .second, .val (.long (99999999 : Int64)), .second] [(.long (if 0 = own_N cc - 1 then own_last cc else 99999999))])) _
          refine XS.lload X115.here hx rfl (hb hby at_150) rfl ?_
          show Steps p.tables e below (T115.setTop (mkF m 152 #[.val (.long q0), .second, .val (.int p2), .val (.long cc), .second, .val (.long (cc / (99999999 : Int64))), .second, .val (.long (cc % (99999999 : Int64))), .second, .val (.int (Int32.ofNat (own_N cc))), .val (.long (cc % (99999999 : Int64))), .second, .val (.ref r115), .val (.int ii), .val (.long (99999999 : Int64)), .second, .val (.long (99999999 : Int64)), .second] [(.long (99999999 : Int64)), (.long (if 0 = own_N cc - 1 then own_last cc else 99999999))])) _
          refine XS.lcmp X115.here hx rfl (hb hby at_152) rfl ?_
          show Steps p.tables e below (T115.setTop (mkF m 153 #[.val (.long q0), .second, .val (.int p2), .val (.long cc), .second, .val (.long (cc / (99999999 : Int64))), .second, .val (.long (cc % (99999999 : Int64))), .second, .val (.int (Int32.ofNat (own_N cc))), .val (.long (cc % (99999999 : Int64))), .second, .val (.ref r115), .val (.int ii), .val (.long (99999999 : Int64)), .second, .val (.long (99999999 : Int64)), .second] [(.int (lcmpW (if 0 = own_N cc - 1 then own_last cc else 99999999) (99999999 : Int64)))])) _
          refine XS.ifNo X115.here hx rfl (hb hby at_153) rfl (own_nf (l0_ne _ _) (own_cmpF0 hnn hc109)) ?_
          show Steps p.tables e below (T115.setTop (mkF m 156 #[.val (.long q0), .second, .val (.int p2), .val (.long cc), .second, .val (.long (cc / (99999999 : Int64))), .second, .val (.long (cc % (99999999 : Int64))), .second, .val (.int (Int32.ofNat (own_N cc))), .val (.long (cc % (99999999 : Int64))), .second, .val (.ref r115), .val (.int ii), .val (.long (99999999 : Int64)), .second, .val (.long (99999999 : Int64)), .second] [])) _
          refine XS.iconst X115.here hx rfl (hb hby at_156) ?_
          show Steps p.tables e below (T115.setTop (mkF m 157 #[.val (.long q0), .second, .val (.int p2), .val (.long cc), .second, .val (.long (cc / (99999999 : Int64))), .second, .val (.long (cc % (99999999 : Int64))), .second, .val (.int (Int32.ofNat (own_N cc))), .val (.long (cc % (99999999 : Int64))), .second, .val (.ref r115), .val (.int ii), .val (.long (99999999 : Int64)), .second, .val (.long (99999999 : Int64)), .second] [(.int (1 : Int32))])) _
          refine XS.goto X115.here hx rfl (pc0 := 157) (pc' := 161) rfl (hb hby at_157) (by decide) (by decide) ?_
          show Steps p.tables e below (T115.setTop (mkF m 161 #[.val (.long q0), .second, .val (.int p2), .val (.long cc), .second, .val (.long (cc / (99999999 : Int64))), .second, .val (.long (cc % (99999999 : Int64))), .second, .val (.int (Int32.ofNat (own_N cc))), .val (.long (cc % (99999999 : Int64))), .second, .val (.ref r115), .val (.int ii), .val (.long (99999999 : Int64)), .second, .val (.long (99999999 : Int64)), .second] [(.int (1 : Int32))])) _
          exact retN X115 hx (t := .boolean) Bd.returns (by simp) (hb hby at_161) hr
set_option maxRecDepth 65536 in
set_option maxHeartbeats 40000000 in
theorem comes_1 {Post : Tables → Env → Array Value → State → Outcome → State → Prop} (hpost : ∀ tb e args s v u, (limb_1_1.after args s (.returned v) u = true ∧ limb_1_2.after args s (.returned v) u = true ∧ True) → FrameEnd s (.returned v) u (Jvm.fieldLocs frame_1_writes args s ++ Jvm.arrayLocs frame_1_arrays args s ++ Jvm.staticLocs frame_1_statics s) 16 128 → Post tb e args s (.returned v) u) :
    ArmFor flags0 classFile x code maxLocals ret World_1 tables_1 room_1 Calls_1 rest_1 Pre_1 Post := by
  intro l hfl _ _ p e ha hc hk s m args below hf hA hF happ hP
  obtain ⟨hcalls, hrest, hpre⟩ := hP
  obtain ⟨-, -, -, hnamed, -, -, -, hat⟩ := (Spec.applies_iff hf).mp happ
  obtain ⟨hg, hn⟩ := and_e (Cond.before_iff.mp (show (Jvm.Cond.and given_1 narrow_1).before args s = true from hpre))
  obtain ⟨hq0, hr0⟩ := and_e hg
  obtain ⟨hq1, hr1⟩ := and_e hr0
  obtain ⟨w0, w1, rfl⟩ : ∃ w0 w1 : Value, args = #[w0, w1] := by
    have hs : args.size = 2 := by simpa [Cond.value, given_1] using hq0
    obtain ⟨L⟩ := args
    match L, hs with
    | [w0, w1], _ => exact ⟨w0, w1, rfl⟩
  have hw := fun d (hd : d ∈ tables_1) => atoms_spec (ws := Jvm.Cond.code x code maxLocals ret :: tables_1) hat d (List.mem_cons_of_mem _ hd)
  have hfit : Fit s := fun {y c} hc i hi => by
    obtain ⟨ha, rfl⟩ := Array.getElem?_eq_some_iff.mp hc
    have q := List.all_eq_true.mp ((Array.all_eq_true_iff_forall_mem.mp hF) _ (Array.getElem_mem ha)) i (List.mem_range.mpr hi)
    simpa [Array.getElem?_eq_getElem hi] using q
  obtain ⟨i0, ei0⟩ := isL_v hq1
  obtain rfl : w0 = (.long i0) := Option.some.inj ei0
  obtain ⟨i1, ei1⟩ := is_v hr1
  obtain rfl : w1 = (.int i1) := Option.some.inj ei1
  obtain ⟨n, o, h1, h2, h3, _, L, rfl, ⟨rfl, N⟩, hq⟩ := rm0 l s _ hw tables_1 i0 i1 s.heap s.heap.size (Nat.le_refl _) p e ha hc hk s m _ below hf ((Spec.applies_iff_loose hf).mp happ).1 ⟨rfl, State.Warmed39.refl s, rfl⟩ trivial
  refine ⟨n, _, h1, h2, h3, hpost _ _ _ _ _ _ ⟨Cond.after_iff.mpr rfl, Cond.after_iff.mpr (eq_i res_at (Term.int_eval (1)) rfl), trivial⟩ ⟨hq.1, hq.2.1, (hq.2.2.sift fun y hy => Or.inr (N y hy)).mono (by decide) (by decide)⟩⟩
theorem main_1_1 : Claimed_1_1 := comes_1 fun _ _ _ _ _ _ h hF => ⟨h.1, hF⟩
theorem main_1_2 : Claimed_1_2 := comes_1 fun _ _ _ _ _ _ h hF => ⟨h.2.1, hF⟩
end Jvm.Pilot.@@N@@
namespace Jvm.Pilot.@@N@@
open Jvm Jvm.ClassFile Sem Op Lib Jvm.Free Jvm.Stand Jvm.Pilot.@@N@@.Jvm.D
/-! MADE BY PROGRAM (witnessworld.py) out of the Statement's table words and the real class files: 13 classes; the members and pool entries that the words name. The judged class is class 1, her method 1. -/
namespace start1
open Jvm.ClassFile
def u (s : String) : CpInfo := .utf8 (stringToUtf16 s)
/-- a pool by its gaps: so many unusable entries, then the entry; so many at the end -/
def gap : Nat → List CpInfo → List CpInfo
  | 0, r => r
  | n + 1, r => .unusable :: gap n r
def poolList (es : List (Nat × CpInfo)) (last : Nat) : List CpInfo := es.foldr (fun e r => gap e.1 (e.2 :: r)) (gap last [])
def pool (es : List (Nat × CpInfo)) (last : Nat) : Array CpInfo := ⟨poolList es last⟩
def fileOf (pool : Array CpInfo) (this : Nat) (attrs : Array Attribute := #[]) (ms : Array MethodInfo := #[]) (fl : Nat := 33) (sup : Nat := 0) (ifs : Array Nat := #[]) (fds : Array FieldInfo := #[]) : ClassFile where
  minorVersion := 0
  majorVersion := 65
  constantPool := pool
  accessFlags := fl
  thisClass := this
  superClass := sup
  interfaces := ifs
  fields := fds
  methods := ms
  attributes := attrs
def plain (name : String) (sup : Option ClassId) : Class where
  name := name
  kind := .ordinary
  loader := none
  accessFlags := 33
  super := sup
  interfaces := #[]
  cf := none
  fields := #[]
  methods := #[]
  instanceTypes := #[]
  staticTypes := #[]
  resolved := #[]
  callSites := []
  init := .initialized
  statics := none
  mirror := none

def pool0 : Array CpInfo := pool [(5, u "<init>"), (0, u "()V"), (1, .class_ 10), (1, u "java/lang/Object")] 113

def k0m0 : Method := { name := "<init>", desc := "()V", sig := { parameters := [], returnType := none }, accessFlags := 1, code := none }
/-- java/lang/Object -/
def k0 : Class := { plain "java/lang/Object" none with
  accessFlags := 33
  interfaces := #[]
  cf := some (fileOf pool0 8 #[] #[{ accessFlags := 1, nameIndex := 5, descriptorIndex := 6, attributes := #[] }] 33 0 #[] #[])
  fields := #[]
  methods := #[k0m0]
  instanceTypes := #[]
  staticTypes := #[]
  resolved := Array.replicate 124 none
  statics := none }

def pool1 : Array CpInfo := pool [(2, .class_ 4), (1, u "java/lang/Object"), (0, u "<init>"), (0, u "()V"), (2, .long 9223372036854775807), (1, .long 1599999984), (1, .long 99999999), (1, .methodref 16 17), (0, .class_ 18), (0, .nameAndType 19 20), (0, u "com/example/stackledger/stackledger/Money"), (0, u "inSingleAmounts"), (0, u "(J)[J"), (0, .integer 2147483647), (0, .class_ 23), (0, u "com/example/stackledger/stackledger/MoneyInSingleAmountsPinLaw"), (2, u "law"), (0, u "(JI)Z")] 5

def k1m0 : Method := { name := "<init>", desc := "()V", sig := { parameters := [], returnType := none }, accessFlags := 1, code := none }
def k1c1 : Code := { maxStack := 6, maxLocals := 18, code := code, exceptionTable := #[], attributes := #[] }
def k1m1 : Method := { name := "law", desc := "(JI)Z", sig := { parameters := [.long, .int], returnType := some .boolean }, accessFlags := 9, code := some k1c1 }
/-- com/example/stackledger/stackledger/MoneyInSingleAmountsPinLaw -/
def k1 : Class := { plain "com/example/stackledger/stackledger/MoneyInSingleAmountsPinLaw" (some 0) with
  accessFlags := 49
  interfaces := #[]
  cf := some (fileOf pool1 22 #[] #[{ accessFlags := 1, nameIndex := 5, descriptorIndex := 6, attributes := #[] }, { accessFlags := 9, nameIndex := 26, descriptorIndex := 27, attributes := #[] }] 49 2 #[] #[])
  fields := #[]
  methods := #[k1m0, k1m1]
  instanceTypes := #[]
  staticTypes := #[]
  resolved := Array.replicate 33 none
  statics := none }

def pool2 : Array CpInfo := pool [(2, .class_ 4), (1, u "java/lang/Object"), (0, u "<init>"), (0, u "()V"), (1, .class_ 10), (1, u "com/example/stackledger/stackledger/Money"), (0, u "AMOUNT"), (0, u "Ljava/util/regex/Pattern;"), (12, .long 99999999), (38, .methodref 65 66), (0, .class_ 67), (0, .nameAndType 68 69), (0, u "java/lang/Math"), (0, u "toIntExact"), (0, u "(J)I"), (0, .methodref 71 72), (0, .class_ 73), (0, .nameAndType 74 75), (0, u "java/util/Arrays"), (0, u "fill"), (0, u "([JJ)V"), (21, u "MAX_CENTS"), (0, u "J"), (6, u "inSingleAmounts"), (0, u "(J)[J")] 22

def k2m0 : Method := { name := "<init>", desc := "()V", sig := { parameters := [], returnType := none }, accessFlags := 2, code := none }
def k2c1 : Code := { maxStack := 8, maxLocals := 3, code := prog_13_method_3_code, exceptionTable := #[], attributes := #[] }
def k2m1 : Method := { name := "inSingleAmounts", desc := "(J)[J", sig := { parameters := [.long], returnType := some (.array .long) }, accessFlags := 8, code := some k2c1 }
/-- com/example/stackledger/stackledger/Money -/
def k2 : Class := { plain "com/example/stackledger/stackledger/Money" (some 0) with
  accessFlags := 48
  interfaces := #[]
  cf := some (fileOf pool2 8 #[] #[{ accessFlags := 2, nameIndex := 5, descriptorIndex := 6, attributes := #[] }, { accessFlags := 8, nameIndex := 105, descriptorIndex := 106, attributes := #[] }] 48 2 #[] #[{ accessFlags := 24, nameIndex := 97, descriptorIndex := 98, attributes := #[] }, { accessFlags := 26, nameIndex := 11, descriptorIndex := 12, attributes := #[] }])
  fields := #[{ name := "MAX_CENTS", type := .long, accessFlags := 24, slot := 0, constantValue := 0 }, { name := "AMOUNT", type := (.object "java/util/regex/Pattern"), accessFlags := 26, slot := 1, constantValue := 0 }]
  methods := #[k2m0, k2m1]
  instanceTypes := #[]
  staticTypes := #[.long, (.object "java/util/regex/Pattern")]
  resolved := Array.replicate 129 none
  statics := none }

def pool3 : Array CpInfo := pool [(1, .class_ 2), (0, u "java/lang/Math"), (1, .class_ 6), (1, u "java/lang/Object"), (0, u "<init>"), (0, u "()V"), (89, .class_ 100), (1, u "java/lang/Math$RandomNumberGeneratorHolder"), (71, u "negativeZeroFloatBits"), (0, u "J"), (2, u "negativeZeroDoubleBits"), (68, u "$assertionsDisabled"), (0, u "Z"), (91, u "twoToTheDoubleScaleDown"), (0, u "D"), (4, u "twoToTheDoubleScaleUp"), (9, u "E"), (3, u "PI"), (2, u "TAU"), (2, u "DEGREES_TO_RADIANS"), (0, u "RADIANS_TO_DEGREES"), (39, u "toIntExact"), (0, u "(J)I")] 53

def k3m0 : Method := { name := "<init>", desc := "()V", sig := { parameters := [], returnType := none }, accessFlags := 2, code := none }
def k3c1 : Code := { maxStack := 4, maxLocals := 2, code := jdk_29_method_43_code, exceptionTable := #[], attributes := #[] }
def k3m1 : Method := { name := "toIntExact", desc := "(J)I", sig := { parameters := [.long], returnType := some .int }, accessFlags := 9, code := some k3c1 }
/-- java/lang/Math -/
def k3 : Class := { plain "java/lang/Math" (some 0) with
  accessFlags := 49
  interfaces := #[]
  cf := some (fileOf pool3 1 #[.nestMembers #[98]] #[{ accessFlags := 2, nameIndex := 7, descriptorIndex := 8, attributes := #[] }, { accessFlags := 9, nameIndex := 405, descriptorIndex := 406, attributes := #[] }] 49 4 #[] #[{ accessFlags := 25, nameIndex := 354, descriptorIndex := 339, attributes := #[] }, { accessFlags := 25, nameIndex := 358, descriptorIndex := 339, attributes := #[] }, { accessFlags := 25, nameIndex := 361, descriptorIndex := 339, attributes := #[] }, { accessFlags := 26, nameIndex := 364, descriptorIndex := 339, attributes := #[] }, { accessFlags := 26, nameIndex := 365, descriptorIndex := 339, attributes := #[] }, { accessFlags := 26, nameIndex := 172, descriptorIndex := 173, attributes := #[] }, { accessFlags := 26, nameIndex := 176, descriptorIndex := 173, attributes := #[] }, { accessFlags := 8, nameIndex := 344, descriptorIndex := 339, attributes := #[] }, { accessFlags := 8, nameIndex := 338, descriptorIndex := 339, attributes := #[] }, { accessFlags := 4120, nameIndex := 245, descriptorIndex := 246, attributes := #[] }])
  fields := #[{ name := "E", type := .double, accessFlags := 25, slot := 0, constantValue := 0 }, { name := "PI", type := .double, accessFlags := 25, slot := 1, constantValue := 0 }, { name := "TAU", type := .double, accessFlags := 25, slot := 2, constantValue := 0 }, { name := "DEGREES_TO_RADIANS", type := .double, accessFlags := 26, slot := 3, constantValue := 0 }, { name := "RADIANS_TO_DEGREES", type := .double, accessFlags := 26, slot := 4, constantValue := 0 }, { name := "negativeZeroFloatBits", type := .long, accessFlags := 26, slot := 5, constantValue := 0 }, { name := "negativeZeroDoubleBits", type := .long, accessFlags := 26, slot := 6, constantValue := 0 }, { name := "twoToTheDoubleScaleUp", type := .double, accessFlags := 8, slot := 7, constantValue := 0 }, { name := "twoToTheDoubleScaleDown", type := .double, accessFlags := 8, slot := 8, constantValue := 0 }, { name := "$assertionsDisabled", type := .boolean, accessFlags := 4120, slot := 9, constantValue := 0 }]
  methods := #[k3m0, k3m1]
  instanceTypes := #[]
  staticTypes := #[.double, .double, .double, .double, .double, .long, .long, .double, .double, .boolean]
  resolved := Array.replicate 460 none
  statics := none }

def pool4 : Array CpInfo := pool [(2, .class_ 4), (1, u "java/lang/Object"), (0, u "<init>"), (0, u "()V"), (7, .class_ 16), (1, u "java/util/Arrays"), (57, .class_ 76), (1, u "java/util/Arrays$NaturalOrder"), (36, .class_ 115), (1, u "java/util/Arrays$LegacyMergeSort"), (1, u "Z"), (257, .class_ 376), (0, u "java/util/Arrays$ArrayList"), (68, u "$assertionsDisabled"), (269, u "MIN_ARRAY_SORT_GRAN"), (0, u "I"), (2, u "INSERTIONSORT_THRESHOLD"), (120, u "fill"), (0, u "([JJ)V"), (133, .class_ 976), (0, u "java/util/Arrays$ArrayItr")] 52

def k4m0 : Method := { name := "<init>", desc := "()V", sig := { parameters := [], returnType := none }, accessFlags := 2, code := none }
def k4c1 : Code := { maxStack := 4, maxLocals := 5, code := jdk_65_method_101_code, exceptionTable := #[], attributes := #[] }
def k4m1 : Method := { name := "fill", desc := "([JJ)V", sig := { parameters := [(.array .long), .long], returnType := none }, accessFlags := 9, code := some k4c1 }
/-- java/util/Arrays -/
def k4 : Class := { plain "java/util/Arrays" (some 0) with
  accessFlags := 49
  interfaces := #[]
  cf := some (fileOf pool4 14 #[.nestMembers #[975, 375, 113, 74]] #[{ accessFlags := 2, nameIndex := 5, descriptorIndex := 6, attributes := #[] }, { accessFlags := 9, nameIndex := 840, descriptorIndex := 841, attributes := #[] }] 49 2 #[] #[{ accessFlags := 26, nameIndex := 715, descriptorIndex := 716, attributes := #[] }, { accessFlags := 26, nameIndex := 719, descriptorIndex := 716, attributes := #[] }, { accessFlags := 4120, nameIndex := 445, descriptorIndex := 117, attributes := #[] }])
  fields := #[{ name := "MIN_ARRAY_SORT_GRAN", type := .int, accessFlags := 26, slot := 0, constantValue := 0 }, { name := "INSERTIONSORT_THRESHOLD", type := .int, accessFlags := 26, slot := 1, constantValue := 0 }, { name := "$assertionsDisabled", type := .boolean, accessFlags := 4120, slot := 2, constantValue := 0 }]
  methods := #[k4m0, k4m1]
  instanceTypes := #[]
  staticTypes := #[.int, .int, .boolean]
  resolved := Array.replicate 1029 none
  statics := none }

def pool5 : Array CpInfo := pool [(1, u "java/lang/Cloneable"), (0, .class_ 1), (0, u "java/lang/Object"), (0, .class_ 3)] 3

/-- java/lang/Cloneable -/
def k5 : Class := { plain "java/lang/Cloneable" (some 0) with
  accessFlags := 1537
  interfaces := #[]
  cf := some (fileOf pool5 2 #[] #[] 1537 4 #[] #[])
  fields := #[]
  methods := #[]
  instanceTypes := #[]
  staticTypes := #[]
  resolved := Array.replicate 8 none
  statics := none }

def pool6 : Array CpInfo := pool [(1, u "java/io/Serializable"), (0, .class_ 1), (0, u "java/lang/Object"), (0, .class_ 3)] 3

/-- java/io/Serializable -/
def k6 : Class := { plain "java/io/Serializable" (some 0) with
  accessFlags := 1537
  interfaces := #[]
  cf := some (fileOf pool6 2 #[] #[] 1537 4 #[] #[])
  fields := #[]
  methods := #[]
  instanceTypes := #[]
  staticTypes := #[]
  resolved := Array.replicate 8 none
  statics := none }

/-- the primitive byte -/
def k7 : Class := { plain "byte" none with kind := .primitive 'B', accessFlags := 0x411 }
/-- [B -/
def k8 : Class := { plain "[B" (some 0) with kind := .array 7 .byte, interfaces := #[5, 6], accessFlags := 1041 }

/-- the primitive int -/
def k9 : Class := { plain "int" none with kind := .primitive 'I', accessFlags := 0x411 }
/-- [I -/
def k10 : Class := { plain "[I" (some 0) with kind := .array 9 .int, interfaces := #[5, 6], accessFlags := 1041 }

/-- the primitive long -/
def k11 : Class := { plain "long" none with kind := .primitive 'J', accessFlags := 0x411 }
/-- [J -/
def k12 : Class := { plain "[J" (some 0) with kind := .array 11 .long, interfaces := #[5, 6], accessFlags := 1041 }

def heap : Heap := #[]
def classes : Array Class := #[k0, k1, k2, k3, k4, k5, k6, k7, k8, k9, k10, k11, k12]
def interned : List (Array UInt16 × Addr) := []
def slotsUsed : Nat := 0
def theMethod : MethodId := ⟨1, 1⟩
def args0 : Array Value := #[.long 5, .int 7]
def aboutOver (below : List Frame) : State where
  vm := { classes := classes, interned := interned.toArray }
  heap := heap
  slotsUsed := slotsUsed
  threads := #[{ frames := .invoking theMethod args0 :: below }]
def below0 : List Frame := [.native { method := ⟨0, 0⟩, args := #[] }]
def about1 : State := aboutOver below0
def p0 : Program := .bare "" "" ""
def e0 : Env := launch0.env 0 0 0
theorem w_frames : about1.frames = Frame.invoking theMethod args0 :: below0 := rfl
set_option maxRecDepth 65536 in
theorem w_args : argsFit about1.vm theMethod args0 = true := by decide +kernel
set_option maxRecDepth 65536 in
theorem w_heap : heapFits about1 = true := by decide +kernel
set_option maxRecDepth 65536 in
theorem w_runnable : about1.curStatus? = some .runnable := by decide +kernel
set_option maxRecDepth 65536 in
theorem w_alone : about1.alone = true := by decide +kernel
set_option maxRecDepth 65536 in
theorem w_named : about1.methodNamed? x = some theMethod := by decide +kernel
set_option maxRecDepth 65536 in
theorem w_hears : about1.hears theMethod below0 = true := by decide +kernel
set_option maxRecDepth 65536 in
theorem w_ripe : about1.ripe theMethod args0 below0 = true := by decide +kernel
theorem w_running : about1.status = .running := rfl
set_option maxRecDepth 65536 in
theorem w_room : about1.hasRoom e0.platform room_1 = true :=
  launch0.hasRoom_least _ room_1 (by decide +kernel) (by decide +kernel) (by decide +kernel) (by decide +kernel) (by decide +kernel) (by decide +kernel)
theorem allAtoms_all (ts : List Jvm.Cond) (a : Array Jvm.Value) (st : Jvm.State) : (allAtoms ts).before a st = ts.all (fun c => c.before a st) := by
  induction ts with
  | nil => rfl
  | cons c t ih =>
    show (Jvm.Cond.and c (allAtoms t)).before a st = _
    rw [Jvm.Cond.before_and, ih, List.all_cons]
def words1 : List Jvm.Cond := Jvm.Cond.code x code maxLocals ret :: tables_1
/-- a 'code' word, met by the world's own term for the bytes: nothing is compared byte by byte -/
theorem code_word {y : MethodName} {bytes : ByteArray} {mx : Nat} {rt : Option FieldType} {a : Array Value} {s : State} {m : MethodId} {meth : Method} {c : Code} (h1 : s.methodNamed? y = some m) (h2 : s.vm.method? m = some meth) (h3 : meth.code = some c) (h4 : c.code = bytes)
    (h5 : (c.maxLocals == mx && c.exceptionTable.isEmpty && decide (c.maxStack ≤ mostOperands) && decide (meth.sig.returnType = rt) && !meth.locks && decide (parseMethodDescriptor y.desc = some meth.sig)) = true) : (Jvm.Cond.code y bytes mx rt).before a s = true := by
  simp only [Bool.and_eq_true, beq_iff_eq, Bool.not_eq_true', decide_eq_true_eq] at h5
  obtain ⟨⟨⟨⟨⟨g1, g2⟩, g3⟩, g4⟩, g5⟩, g6⟩ := h5
  simp [Cond.before, Cond.holds, Cond.value, h1, h2, h3, h4, g1, g2, g3, g4, g5, g6]
def isCode : Jvm.Cond → Bool
  | .code _ _ _ _ => true
  | _ => false
theorem all_split {L : List Jvm.Cond} {P : Jvm.Cond → Bool} (h1 : L.all (fun c => isCode c || P c) = true) (h2 : ∀ c ∈ L.filter isCode, P c = true) : L.all P = true := by
  refine List.all_eq_true.mpr fun c hc => ?_
  have h := List.all_eq_true.mp h1 c hc
  rcases Bool.eq_false_or_eq_true (isCode c) with hi | hi
  · exact h2 c (List.mem_filter.mpr ⟨hc, hi⟩)
  · simpa [hi] using h
set_option maxRecDepth 65536 in
theorem w_c0 : (Jvm.Cond.code x code maxLocals ret).before args0 about1 = true := code_word (m := ⟨1, 1⟩) (meth := k1m1) (c := k1c1) (by decide +kernel) rfl rfl rfl (by decide +kernel)
set_option maxRecDepth 65536 in
theorem w_c1 : (Jvm.Cond.code ({ cls := "com/example/stackledger/stackledger/Money", name := "inSingleAmounts", desc := "(J)[J" } : Jvm.MethodName) prog_13_method_3_code (3 : Nat) (Option.some (Jvm.ClassFile.FieldType.array Jvm.ClassFile.FieldType.long))).before args0 about1 = true := code_word (m := ⟨2, 1⟩) (meth := k2m1) (c := k2c1) (by decide +kernel) rfl rfl rfl (by decide +kernel)
set_option maxRecDepth 65536 in
theorem w_c2 : (Jvm.Cond.code ({ cls := "java/lang/Math", name := "toIntExact", desc := "(J)I" } : Jvm.MethodName) jdk_29_method_43_code (2 : Nat) (Option.some Jvm.ClassFile.FieldType.int)).before args0 about1 = true := code_word (m := ⟨3, 1⟩) (meth := k3m1) (c := k3c1) (by decide +kernel) rfl rfl rfl (by decide +kernel)
set_option maxRecDepth 65536 in
theorem w_c3 : (Jvm.Cond.code ({ cls := "java/util/Arrays", name := "fill", desc := "([JJ)V" } : Jvm.MethodName) jdk_65_method_101_code (5 : Nat) (Option.none : Option Jvm.ClassFile.FieldType)).before args0 about1 = true := code_word (m := ⟨4, 1⟩) (meth := k4m1) (c := k4c1) (by decide +kernel) rfl rfl rfl (by decide +kernel)
def codes1 : List Jvm.Cond := [Jvm.Cond.code x code maxLocals ret, Jvm.Cond.code ({ cls := "com/example/stackledger/stackledger/Money", name := "inSingleAmounts", desc := "(J)[J" } : Jvm.MethodName) prog_13_method_3_code (3 : Nat) (Option.some (Jvm.ClassFile.FieldType.array Jvm.ClassFile.FieldType.long)), Jvm.Cond.code ({ cls := "java/lang/Math", name := "toIntExact", desc := "(J)I" } : Jvm.MethodName) jdk_29_method_43_code (2 : Nat) (Option.some Jvm.ClassFile.FieldType.int), Jvm.Cond.code ({ cls := "java/util/Arrays", name := "fill", desc := "([JJ)V" } : Jvm.MethodName) jdk_65_method_101_code (5 : Nat) (Option.none : Option Jvm.ClassFile.FieldType)]
set_option maxRecDepth 65536 in
theorem codes_eq : words1.filter isCode = codes1 := rfl
theorem w_codes : ∀ c ∈ words1.filter isCode, c.before args0 about1 = true := by
  rw [codes_eq]
  intro c hc
  simp only [codes1, List.mem_cons, List.not_mem_nil, or_false] at hc
  rcases hc with rfl | rfl | rfl | rfl
  · exact w_c0
  · exact w_c1
  · exact w_c2
  · exact w_c3
set_option maxRecDepth 65536 in
theorem w_t1 : words1.all (fun c => isCode c || c.before args0 about1) = true := by decide +kernel
theorem w_tables : (allAtoms (Jvm.Cond.code x code maxLocals ret :: tables_1)).before args0 about1 = true := by
  rw [allAtoms_all]
  show words1.all (fun c => c.before args0 about1) = true
  refine all_split ?_ w_codes
  rw [w_t1]
set_option maxRecDepth 65536 in
theorem w_case : (Jvm.Cond.and given_1 narrow_1).before args0 about1 = true := by decide +kernel
theorem w_applies : (headSpec (Jvm.Cond.code x code maxLocals ret :: tables_1) room_1).applies x e0.platform about1 = true :=
  (Spec.applies_iff w_frames).mpr ⟨w_running, w_runnable, w_alone, w_named, w_hears, w_ripe, w_room, w_tables⟩
theorem atStart : AtStart classFile x code maxLocals ret World_1 tables_1 room_1 Calls_1 rest_1 Pre_1 launch0 p0 e0 about1 theMethod args0 below0 :=
  ⟨lists_1, trivial, launch0.admits_env _ _ _, launch0.least_env, fairChoices_fair.cas, fairChoices_fair.clock, w_frames, w_args, w_heap, w_applies, trivial, trivial, w_case⟩
end start1
theorem witness_1 : WitnessClaimed_1 := ⟨start1.p0, start1.e0, start1.about1, start1.theMethod, start1.args0, start1.below0, start1.atStart⟩
end Jvm.Pilot.@@N@@
