import JvmDerived
import JvmDerived.Pilot.@@N@@Statement
import JvmDerived.Pilot.@@N@@Code
set_option linter.unusedVariables false
set_option linter.unusedSimpArgs false
namespace Jvm.Pilot.@@N@@
open Jvm Jvm.ClassFile Sem Op Lib Jvm.Free Jvm.Stand Jvm.LawKit Jvm.RoadKit Bundle Jvm.Pilot.@@N@@.Jvm.D
section OwnKit
variable {p : Program} {l : Launch} {e : Env} {R : Room} {s : State} {m : MethodId} {args : Array Value} {below : List Frame} {meth : Method} {c : Code} {T : State} {locs : List Loc} {cells slots : Nat} {Z : State} {a0 : Array Value} {h h0 : Heap}
/-- the run comes from S to an end of which Q speaks -/
def Gl (p : Program) (e : Env) (below : List Frame) (s : State) (Q : Option Value → Heap → List Loc → Prop) (cc kk : Nat) (S : State) : Prop :=
  ∃ t o, Steps p.tables e below S t ∧ t.status = .running ∧ Ended t below o ∧ ∃ v L, o = .returned v ∧ Q v t.heap L ∧ FrameEnd s o t L cc kk
theorem Gl.pre {Q : Option Value → Heap → List Loc → Prop} {cc kk : Nat} {S S' : State} (st : ∀ t, Steps p.tables e below S' t → Steps p.tables e below S t) (k : Gl p e below s Q cc kk S') : Gl p e below s Q cc kk S := by
  obtain ⟨t, o, h1, h2⟩ := k
  exact ⟨t, o, st _ h1, h2⟩
theorem Gl.ret {Q : Option Value → Heap → List Loc → Prop} {cc kk : Nat} {S : State} (X : Stand p l e R s m args below meth c T locs cells slots) {v : Option Value} (hv : meth.sig.returnType = none → v = none) (hlocks : meth.locks = false) (hQ : Q v T.heap locs) (hc : cells ≤ cc) (hk : slots ≤ kk)
    (st : ∀ fs, (∀ (f : JFrame) (acts : List Action), f.method = m → f.locked = none → f.entered = [] → (doReturn e (T.setTop f) acts v).1 = T.setFrames fs) → Steps p.tables e below S (T.setFrames fs)) : Gl p e below s Q cc kk S := by
  obtain ⟨fs, hr, hrun, hended, hW, hsame⟩ := X.leave (v := v) hv hlocks
  exact ⟨_, _, st fs hr, hrun, hended, _, _, rfl, hQ, ⟨_, rfl⟩, hW, hsame.mono hc hk⟩
theorem Gl.fin {Q : Option Value → Heap → List Loc → Prop} {cc kk : Nat} {S : State} (X : Stand p l e R s m args below meth c T locs cells slots) {v : Option Value} (hv : meth.sig.returnType = none → v = none) (hlocks : meth.locks = false) (hQ : Q v h locs) (eT : T.heap = h) (hc : cells ≤ cc) (hk : slots ≤ kk)
    (st : ∀ fs, (∀ (f : JFrame) (acts : List Action), f.method = m → f.locked = none → f.entered = [] → (doReturn e (T.setTop f) acts v).1 = T.setFrames fs) → Steps p.tables e below S (T.setFrames fs)) : Gl p e below s Q cc kk S :=
  Gl.ret X hv hlocks (by rw [eT]; exact hQ) hc hk st
abbrev OMet (l : Launch) (Z : State) (y : MethodName) (bytes : ByteArray) (maxL : Nat) (ret : Option FieldType) (ws : List Jvm.Cond) (rm : Room) (as' : Array Value) (h0 : Heap) (Q : Option Value → Heap → List Loc → Prop) : Prop :=
  MetFree l y (head1 (Jvm.Cond.code y bytes maxL ret :: ws) rm) (fun a U => a = as' ∧ Z.Warmed39 U.vm ∧ U.heap = h0) (fun _ _ _ _ _ => True) (fun _ U o U' => ∃ v L, o = .returned v ∧ Q v U'.heap L ∧ FrameEnd U o U' L rm.cells rm.slots)
theorem own_body {y : MethodName} {bytes : ByteArray} {maxL : Nat} {ret : Option FieldType} {ws : List Jvm.Cond} {rm : Room} {as' : Array Value} {Q : Option Value → Heap → List Loc → Prop} (hx : plainFor y = true)
    (H : ∀ p e s m below meth c s₁, BodyLoose p l y (head1 (Jvm.Cond.code y bytes maxL ret :: ws) rm) bytes maxL ret e s m as' below meth c s₁ → c.maxLocals = maxL → Z.Warmed39 s.vm → s₁.heap = h0 → Gl p e below s Q rm.cells rm.slots (s₁.setTop (entryFrame m as' maxL))) :
    OMet l Z y bytes maxL ret ws rm as' h0 Q := by
  refine MetFree.of_bodySF hx hisR ?_
  intro p e s m args below meth c s₁ Bd hml0 hP hK
  obtain ⟨rfl, hZ, hh⟩ := hP
  exact H p e s m below meth c s₁ Bd hml0 hZ (by rw [← hh, Bd.state]; rfl)
/-- an int is returned -/
theorem own_retI (X : Stand p l e R s m args below meth c T locs cells slots) (hx : p.tables.exec = Jvm.exec) {pc : Nat} {Ls : Array Slot} {z : Int32} {rest : List Value} (hret : meth.sig.returnType = some .int) (hd : decode c.code pc = .ok (.ireturn, 1)) {fs : List Frame}
    (hl : ∀ (f : JFrame) (acts : List Action), f.method = m → f.locked = none → f.entered = [] → (doReturn e (T.setTop f) acts (some (.int z))).1 = T.setFrames fs) : Steps p.tables e below (T.setTop (mkF m pc Ls (.int z :: rest))) (T.setFrames fs) :=
  retOut X hx hret rfl (Or.inl ⟨rfl, Or.inl rfl, z, rfl⟩) hd hl
theorem own_retJ (X : Stand p l e R s m args below meth c T locs cells slots) (hx : p.tables.exec = Jvm.exec) {pc : Nat} {Ls : Array Slot} {z : Int64} {rest : List Value} (hret : meth.sig.returnType = some .long) (hd : decode c.code pc = .ok (.lreturn, 1)) {fs : List Frame}
    (hl : ∀ (f : JFrame) (acts : List Action), f.method = m → f.locked = none → f.entered = [] → (doReturn e (T.setTop f) acts (some (.long z))).1 = T.setFrames fs) : Steps p.tables e below (T.setTop (mkF m pc Ls (.long z :: rest))) (T.setFrames fs) :=
  retOut X hx hret rfl (Or.inr (Or.inl ⟨rfl, rfl, z, rfl⟩)) hd hl
theorem own_retD (X : Stand p l e R s m args below meth c T locs cells slots) (hx : p.tables.exec = Jvm.exec) {pc : Nat} {Ls : Array Slot} {z : UInt64} {rest : List Value} (hret : meth.sig.returnType = some .double) (hd : decode c.code pc = .ok (.dreturn, 1)) {fs : List Frame}
    (hl : ∀ (f : JFrame) (acts : List Action), f.method = m → f.locked = none → f.entered = [] → (doReturn e (T.setTop f) acts (some (.double z))).1 = T.setFrames fs) : Steps p.tables e below (T.setTop (mkF m pc Ls (.double z :: rest))) (T.setFrames fs) :=
  retOut X hx hret rfl (Or.inr (Or.inr (Or.inl ⟨rfl, rfl, z, rfl⟩))) hd hl
theorem own_retR (X : Stand p l e R s m args below meth c T locs cells slots) (hx : p.tables.exec = Jvm.exec) {pc : Nat} {Ls : Array Slot} {w : Value} {t : FieldType} {rest : List Value} (hret : meth.sig.returnType = some t) (ht : t.isReference = true) (hn : narrow t w = w) (hw : w.isRef = true) (hd : decode c.code pc = .ok (.areturn, 1)) {fs : List Frame}
    (hl : ∀ (f : JFrame) (acts : List Action), f.method = m → f.locked = none → f.entered = [] → (doReturn e (T.setTop f) acts (some w)).1 = T.setFrames fs) : Steps p.tables e below (T.setTop (mkF m pc Ls (w :: rest))) (T.setFrames fs) :=
  retOut X hx hret hn (Or.inr (Or.inr (Or.inr (Or.inr ⟨rfl, ht, hw⟩)))) hd hl
/-- a static method by its contract -/
theorem own_callS (X : Stand p l e R s m args below meth c T locs cells slots) (hx : p.tables.exec = Jvm.exec) (hZ : Z.Warmed39 s.vm) {own : String} {index : Nat} {y : MethodName} {bytes : ByteArray} {maxL : Nat} {ret : Option FieldType} {rm : Room} {Q : Option Value → Heap → List Loc → Prop}
    (hown : s.vm.findClass own = some m.cls) (w1 : (Jvm.Cond.methodLink own index y).before a0 Z = true) (w2 : (Jvm.Cond.static y).before a0 Z = true) (w3 : (Jvm.Cond.initialized y.cls).before a0 Z = true) (w4 : (Jvm.Cond.code y bytes maxL ret).before a0 Z = true)
    (hy : y.cls ≠ "java/lang/invoke/MethodHandle" ∧ y.cls ≠ "java/lang/invoke/VarHandle") {argsL rest : List Value} (hM : OMet l Z y bytes maxL ret [] rm argsL.toArray h Q) {W : Nat} (hf : rm.frames + 1 ≤ R.frames) (hl : W + (maxL + 11) + rm.locals ≤ R.locals) (hc : cells + rm.cells ≤ R.cells) (hs : slots + rm.slots ≤ R.slots)
    (eT : T.heap = h) {pc : Nat} {Ls : Array Slot} (hsize : Ls.size = c.maxLocals) (hlen : ∀ sig, parseMethodDescriptor y.desc = some sig → argsL.length = sig.parameters.length) (hW : (rest.map fun v => v.category).sum ≤ W) (hd : decode c.code pc = .ok (.invokestatic index, 3)) :
    ∃ (v : Option Value) (T' : State) (L : List Loc), Stand p l e R s m args below meth c T' (locs ++ L) (cells + rm.cells) (slots + rm.slots) ∧ Q v T'.heap L ∧
      ∀ t, Steps p.tables e below (T'.setTop (mkF m (pc + 3) Ls (v.toList ++ rest))) t → Steps p.tables e below (T.setTop (mkF m pc Ls (argsL.reverse ++ rest))) t := by
  obtain ⟨v, _, ⟨T', L', k', n'⟩, -, X', ⟨L, hQ, hl', hy', hz'⟩, st⟩ := Jvm.LawKit.callS X hx (y := y) hown (mvT hZ w1) (mvT hZ w2) (mvT hZ w3) (mvT hZ w4) hy (backOf (W := W) hM hZ w4 w3 hf hl) (g := mkF m pc Ls (argsL.reverse ++ rest)) rfl hsize (argsL := argsL) (rest := rest) hlen rfl (by show 2 * 0 + _ ≤ _; omega) hd (fun _ _ => ⟨rfl, eT, hc, hs⟩)
  dsimp only [Pt.U, Pt.locs, Pt.cells, Pt.slots] at X' hl' hy' hz' st hQ
  subst hl' hy' hz'
  exact ⟨v, T', L, X', hQ, st⟩
/-- a constructor by its contract -/
theorem own_callI (X : Stand p l e R s m args below meth c T locs cells slots) (hx : p.tables.exec = Jvm.exec) (hZ : Z.Warmed39 s.vm) {own : String} {index : Nat} {y : MethodName} {bytes : ByteArray} {maxL : Nat} {rm : Room} {Q : Option Value → Heap → List Loc → Prop} (hy1 : y.name = "<init>")
    (hown : s.vm.findClass own = some m.cls) (w1 : (Jvm.Cond.methodLink own index y).before a0 Z = true) (w2 : (Jvm.Cond.instanceMethod y).before a0 Z = true) (w3 : (Jvm.Cond.initialized y.cls).before a0 Z = true) (w4 : (Jvm.Cond.code y bytes maxL none).before a0 Z = true)
    (hy : y.cls ≠ "java/lang/invoke/MethodHandle" ∧ y.cls ≠ "java/lang/invoke/VarHandle") {a : Addr} {argsL rest : List Value} (hM : OMet l Z y bytes maxL none [] rm (.ref a :: argsL).toArray h Q) {W : Nat} (hf : rm.frames + 1 ≤ R.frames) (hl : W + (maxL + 11) + rm.locals ≤ R.locals) (hc : cells + rm.cells ≤ R.cells) (hs : slots + rm.slots ≤ R.slots)
    (eT : T.heap = h) {pc : Nat} {Ls : Array Slot} (hsize : Ls.size = c.maxLocals) (hlen : ∀ sig, parseMethodDescriptor y.desc = some sig → argsL.length = sig.parameters.length) (hW : (rest.map fun v => v.category).sum ≤ W) (hd : decode c.code pc = .ok (.invokespecial index, 3)) :
    ∃ (v : Option Value) (T' : State) (L : List Loc), Stand p l e R s m args below meth c T' (locs ++ L) (cells + rm.cells) (slots + rm.slots) ∧ Q v T'.heap L ∧
      ∀ t, Steps p.tables e below (T'.setTop (mkF m (pc + 3) Ls (v.toList ++ rest))) t → Steps p.tables e below (T.setTop (mkF m pc Ls (argsL.reverse ++ .ref a :: rest))) t := by
  obtain ⟨v, _, ⟨T', L', k', n'⟩, -, X', ⟨L, hQ, hl', hy', hz'⟩, st⟩ := X.specialBack hx (y := y) hy1 hown (mvT hZ w1) (mvT hZ w2) (mvT hZ w4) hy (backOf (W := W) hM hZ w4 w3 hf hl) (g := mkF m pc Ls (argsL.reverse ++ .ref a :: rest)) rfl hsize (Steps.refl _) (a := a) (argsL := argsL) (rest := rest) hlen rfl (by show 2 * 0 + _ ≤ _; omega) hd (fun _ _ => ⟨rfl, eT, hc, hs⟩)
  dsimp only [Pt.U, Pt.locs, Pt.cells, Pt.slots] at X' hl' hy' hz' st hQ
  subst hl' hy' hz'
  exact ⟨v, T', L, X', hQ, fun t k => st.trans k⟩
/-- an instance method by its contract, the receiver's class known -/
theorem own_callV (X : Stand p l e R s m args below meth c T locs cells slots) (hx : p.tables.exec = Jvm.exec) (hZ : Z.Warmed39 s.vm) {own C : String} {index : Nat} {y z : MethodName} {bytes : ByteArray} {maxL : Nat} {ret : Option FieldType} {rm : Room} {Q : Option Value → Heap → List Loc → Prop}
    (hown : s.vm.findClass own = some m.cls) (w1 : (Jvm.Cond.methodLink own index y).before a0 Z = true) (wd : (Jvm.Cond.declares y).before a0 Z = true) (hnf : NotFace s y) (ws : (Jvm.Cond.selects C y z).before a0 Z = true) (w2 : (Jvm.Cond.instanceMethod z).before a0 Z = true) (w3 : (Jvm.Cond.initialized z.cls).before a0 Z = true) (w4 : (Jvm.Cond.code z bytes maxL ret).before a0 Z = true)
    (hy : y.cls ≠ "java/lang/invoke/MethodHandle" ∧ y.cls ≠ "java/lang/invoke/VarHandle") {a : Addr} (E : Exa Z h a C) {argsL rest : List Value} (hM : OMet l Z z bytes maxL ret [] rm (.ref a :: argsL).toArray h Q) {W : Nat} (hf : rm.frames + 1 ≤ R.frames) (hl : W + (maxL + 11) + rm.locals ≤ R.locals) (hc : cells + rm.cells ≤ R.cells) (hs : slots + rm.slots ≤ R.slots)
    (eT : T.heap = h) {pc : Nat} {Ls : Array Slot} (hsize : Ls.size = c.maxLocals) (hlen : ∀ sig, parseMethodDescriptor y.desc = some sig → argsL.length = sig.parameters.length) (hW : (rest.map fun v => v.category).sum ≤ W) (hd : decode c.code pc = .ok (.invokevirtual index, 3)) :
    ∃ (v : Option Value) (T' : State) (L : List Loc), Stand p l e R s m args below meth c T' (locs ++ L) (cells + rm.cells) (slots + rm.slots) ∧ Q v T'.heap L ∧
      ∀ t, Steps p.tables e below (T'.setTop (mkF m (pc + 3) Ls (v.toList ++ rest))) t → Steps p.tables e below (T.setTop (mkF m pc Ls (argsL.reverse ++ .ref a :: rest))) t := by
  obtain ⟨cB, kB, q1, q2, q3⟩ := isOf hZ eT E
  obtain ⟨v, _, ⟨T', L', k', n'⟩, -, X', ⟨L, hQ, hl', hy', hz'⟩, st⟩ := X.virtualBack hx (y := y) (z := z) hown (mvT hZ w1) (mvT hZ wd) hnf (mvT hZ ws) (mvT hZ w2) hy (backOf (W := W) hM hZ w4 w3 hf hl) q1 q3 (g := mkF m pc Ls (argsL.reverse ++ .ref a :: rest)) rfl hsize (Steps.refl _) (argsL := argsL) (rest := rest) hlen rfl (by show 2 * 0 + _ ≤ _; omega) hd (fun _ _ => ⟨rfl, eT, hc, hs⟩)
  dsimp only [Pt.U, Pt.locs, Pt.cells, Pt.slots] at X' hl' hy' hz' st hQ
  subst hl' hy' hz'
  exact ⟨v, T', L, X', hQ, fun t k => st.trans k⟩
/-- an inherited instance method: the link names a class that doesn't declare it -/
theorem own_callU (X : Stand p l e R s m args below meth c T locs cells slots) (hx : p.tables.exec = Jvm.exec) (hZ : Z.Warmed39 s.vm) {own C owner : String} {index : Nat} {y z : MethodName} {bytes : ByteArray} {maxL : Nat} {ret : Option FieldType} {rm : Room} {Q : Option Value → Heap → List Loc → Prop}
    (hown : s.vm.findClass own = some m.cls) (w1 : (Jvm.Cond.methodLink own index y).before a0 Z = true) (wm : (Jvm.Cond.sameMethod y.cls owner y.name y.desc).before a0 Z = true) (wd : (Jvm.Cond.declares ⟨owner, y.name, y.desc⟩).before a0 Z = true) (ws : (Jvm.Cond.selects C y z).before a0 Z = true) (w2 : (Jvm.Cond.instanceMethod z).before a0 Z = true) (w3 : (Jvm.Cond.initialized z.cls).before a0 Z = true) (w4 : (Jvm.Cond.code z bytes maxL ret).before a0 Z = true)
    (hy : owner ≠ "java/lang/invoke/MethodHandle" ∧ owner ≠ "java/lang/invoke/VarHandle") {a : Addr} (E : Exa Z h a C) {argsL rest : List Value} (hM : OMet l Z z bytes maxL ret [] rm (.ref a :: argsL).toArray h Q) {W : Nat} (hf : rm.frames + 1 ≤ R.frames) (hl : W + (maxL + 11) + rm.locals ≤ R.locals) (hc : cells + rm.cells ≤ R.cells) (hs : slots + rm.slots ≤ R.slots)
    (eT : T.heap = h) {pc : Nat} {Ls : Array Slot} (hsize : Ls.size = c.maxLocals) (hlen : ∀ sig, parseMethodDescriptor y.desc = some sig → argsL.length = sig.parameters.length) (hW : (rest.map fun v => v.category).sum ≤ W) (hd : decode c.code pc = .ok (.invokevirtual index, 3)) :
    ∃ (v : Option Value) (T' : State) (L : List Loc), Stand p l e R s m args below meth c T' (locs ++ L) (cells + rm.cells) (slots + rm.slots) ∧ Q v T'.heap L ∧
      ∀ t, Steps p.tables e below (T'.setTop (mkF m (pc + 3) Ls (v.toList ++ rest))) t → Steps p.tables e below (T.setTop (mkF m pc Ls (argsL.reverse ++ .ref a :: rest))) t := by
  obtain ⟨cB, kB, q1, q2, q3⟩ := isOf hZ eT E
  obtain ⟨v, _, ⟨T', L', k', n'⟩, -, X', ⟨L, hQ, hl', hy', hz'⟩, st⟩ := X.virtualBackUp hx (x := y) (y := z) (owner := owner) hown (mvT hZ w1) (mvT hZ wm) (mvT hZ wd) hy (mvT hZ ws) (mvT hZ w2) (backOf (W := W) hM hZ w4 w3 hf hl) q1 q3 (g := mkF m pc Ls (argsL.reverse ++ .ref a :: rest)) rfl hsize (Steps.refl _) (argsL := argsL) (rest := rest) hlen rfl (by show 2 * 0 + _ ≤ _; omega) hd (fun _ _ => ⟨rfl, eT, hc, hs⟩)
  dsimp only [Pt.U, Pt.locs, Pt.cells, Pt.slots] at X' hl' hy' hz' st hQ
  subst hl' hy' hz'
  exact ⟨v, T', L, X', hQ, fun t k => st.trans k⟩
/-- an interface's method by the contract of the body that the receiver's class selects -/
theorem own_callF (X : Stand p l e R s m args below meth c T locs cells slots) (hx : p.tables.exec = Jvm.exec) (hZ : Z.Warmed39 s.vm) {own C : String} {index count : Nat} {y z : MethodName} {bytes : ByteArray} {maxL : Nat} {ret : Option FieldType} {rm : Room} {Q : Option Value → Heap → List Loc → Prop}
    (hown : s.vm.findClass own = some m.cls) (w1 : (Jvm.Cond.methodLink own index y).before a0 Z = true) (wd : (Jvm.Cond.declares y).before a0 Z = true) (wf : (Jvm.Cond.interfaceMethod y.cls y.cls y.name y.desc).before args s = true) (ws : (Jvm.Cond.selects C y z).before a0 Z = true) (w2 : (Jvm.Cond.instanceMethod z).before a0 Z = true) (wp : (Jvm.Cond.publicMethod z).before a0 Z = true) (wu : (Jvm.Cond.unhidden C y.name y.desc).before a0 Z = true) (wc : (Jvm.Cond.castable C y.cls).before a0 Z = true) (w3 : (Jvm.Cond.initialized z.cls).before a0 Z = true) (w4 : (Jvm.Cond.code z bytes maxL ret).before a0 Z = true)
    (hy : y.cls ≠ "java/lang/invoke/MethodHandle" ∧ y.cls ≠ "java/lang/invoke/VarHandle") {a : Addr} (E : Exa Z h a C) {argsL rest : List Value} (hM : OMet l Z z bytes maxL ret [] rm (.ref a :: argsL).toArray h Q) {W : Nat} (hf : rm.frames + 1 ≤ R.frames) (hl : W + (maxL + 11) + rm.locals ≤ R.locals) (hc : cells + rm.cells ≤ R.cells) (hs : slots + rm.slots ≤ R.slots)
    (eT : T.heap = h) {pc : Nat} {Ls : Array Slot} (hsize : Ls.size = c.maxLocals) (hlen : ∀ sig, parseMethodDescriptor y.desc = some sig → argsL.length = sig.parameters.length) (hW : (rest.map fun v => v.category).sum ≤ W) (hd : decode c.code pc = .ok (.invokeinterface index count, 5)) :
    ∃ (v : Option Value) (T' : State) (L : List Loc), Stand p l e R s m args below meth c T' (locs ++ L) (cells + rm.cells) (slots + rm.slots) ∧ Q v T'.heap L ∧
      ∀ t, Steps p.tables e below (T'.setTop (mkF m (pc + 5) Ls (v.toList ++ rest))) t → Steps p.tables e below (T.setTop (mkF m pc Ls (argsL.reverse ++ .ref a :: rest))) t := by
  obtain ⟨cB, kB, q1, q2, q3⟩ := isOf hZ eT E
  obtain ⟨v, _, ⟨T', L', k', n'⟩, -, X', ⟨L, hQ, hl', hy', hz'⟩, st⟩ := X.interfaceBack hx (xi := y) (y := z) hown (mvT hZ w1) (mvT hZ wd) wf (mvT hZ ws) (mvT hZ w2) (mvT hZ wp) (mvT hZ wu) (mvT hZ wc) hy (backOf (W := W) hM hZ w4 w3 hf hl) q1 q2 q3 (g := mkF m pc Ls (argsL.reverse ++ .ref a :: rest)) rfl hsize (Steps.refl _) (argsL := argsL) (rest := rest) hlen rfl (by show 2 * 0 + _ ≤ _; omega) hd (fun _ _ => ⟨rfl, eT, hc, hs⟩)
  dsimp only [Pt.U, Pt.locs, Pt.cells, Pt.slots] at X' hl' hy' hz' st hQ
  subst hl' hy' hz'
  exact ⟨v, T', L, X', hQ, fun t k => st.trans k⟩
theorem own_hc {T : State} {h : Heap} {a : Addr} {cl : Cell} (q : T.heap = h) (r : h[a]? = some cl) : T.heap[a]? = some cl := by rw [q]; exact r
/-- what a Bool is as Java's int -/
def b2i (b : Bool) : Int32 := if b then 1 else 0
theorem b2i_t {b : Bool} (h : b = true) : b2i b = 1 := by simp [b2i, h]
theorem b2i_f {b : Bool} (h : b = false) : b2i b = 0 := by simp [b2i, h]
theorem b2i_inj {a b : Bool} : b2i a = b2i b ↔ a = b := by cases a <;> cases b <;> decide
/-- the branches' conditions in plain words -/
theorem ic_lt (x y : Int32) : if_icmp.holds .lt x y = decide (x < y) := by by_cases q : x < y <;> simp [q, tlt, flt]
theorem ic_ge (x y : Int32) : if_icmp.holds .ge x y = !decide (x < y) := by by_cases q : x < y <;> simp [q, tlt, flt]
theorem ic_gt (x y : Int32) : if_icmp.holds .gt x y = decide (y < x) := by by_cases q : y < x <;> simp [q, tlt, flt]
theorem ic_le (x y : Int32) : if_icmp.holds .le x y = !decide (y < x) := by by_cases q : y < x <;> simp [q, tlt, flt]
theorem ic_eq (x y : Int32) : if_icmp.holds .eq x y = decide (x = y) := by by_cases q : x = y <;> simp [q, teq, feq]
theorem ic_ne (x y : Int32) : if_icmp.holds .ne x y = !decide (x = y) := by by_cases q : x = y <;> simp [q, teq, feq]
theorem i0_lt (x : Int32) : ifCond.holds .lt x = decide (x < 0) := (if0 _ _).trans (ic_lt x 0)
theorem i0_ge (x : Int32) : ifCond.holds .ge x = !decide (x < 0) := (if0 _ _).trans (ic_ge x 0)
theorem i0_gt (x : Int32) : ifCond.holds .gt x = decide (0 < x) := (if0 _ _).trans (ic_gt x 0)
theorem i0_le (x : Int32) : ifCond.holds .le x = !decide (0 < x) := (if0 _ _).trans (ic_le x 0)
theorem i0_eq (x : Int32) : ifCond.holds .eq x = decide (x = 0) := (if0 _ _).trans (ic_eq x 0)
theorem i0_ne (x : Int32) : ifCond.holds .ne x = !decide (x = 0) := (if0 _ _).trans (ic_ne x 0)
theorem lw_lt (x y : Int64) : lcmpW x y < 0 ↔ x < y := by rw [lcW]; exact Jvm.RoadKit.lc_lt x y
theorem lw_gt (x y : Int64) : 0 < lcmpW x y ↔ y < x := by rw [lcW]; exact Jvm.RoadKit.lc_gt x y
theorem lw_eq (x y : Int64) : lcmpW x y = 0 ↔ x = y := by rw [lcW]; exact Jvm.RoadKit.lc_eq x y
theorem l0_lt (x y : Int64) : ifCond.holds .lt (lcmpW x y) = decide (x < y) := (i0_lt _).trans (by simp [lw_lt])
theorem l0_ge (x y : Int64) : ifCond.holds .ge (lcmpW x y) = !decide (x < y) := (i0_ge _).trans (by simp [lw_lt])
theorem l0_gt (x y : Int64) : ifCond.holds .gt (lcmpW x y) = decide (y < x) := (i0_gt _).trans (by simp [lw_gt])
theorem l0_le (x y : Int64) : ifCond.holds .le (lcmpW x y) = !decide (y < x) := (i0_le _).trans (by simp [lw_gt])
theorem l0_eq (x y : Int64) : ifCond.holds .eq (lcmpW x y) = decide (x = y) := (i0_eq _).trans (by simp [lw_eq])
theorem l0_ne (x y : Int64) : ifCond.holds .ne (lcmpW x y) = !decide (x = y) := (i0_ne _).trans (by simp [lw_eq])
theorem b0_eq (b : Bool) : ifCond.holds .eq (b2i b) = !b := by cases b <;> decide
theorem b0_ne (b : Bool) : ifCond.holds .ne (b2i b) = b := by cases b <;> decide
theorem own_t {P : Prop} [Decidable P] {u : Bool} (q : u = decide P) (hp : P) : u = true := by rw [q]; exact decide_eq_true hp
theorem own_f {P : Prop} [Decidable P] {u : Bool} (q : u = decide P) (hp : ¬ P) : u = false := by rw [q]; exact decide_eq_false hp
theorem own_nt {P : Prop} [Decidable P] {u : Bool} (q : u = !decide P) (hp : ¬ P) : u = true := by rw [q]; simp [hp]
theorem own_nf {P : Prop} [Decidable P] {u : Bool} (q : u = !decide P) (hp : P) : u = false := by rw [q]; simp [hp]
theorem own_bt {u b : Bool} (q : u = b) (hp : b = true) : u = true := q.trans hp
theorem own_bf {u b : Bool} (q : u = b) (hp : b = false) : u = false := q.trans hp
theorem own_nbt {u b : Bool} (q : u = !b) (hp : b = false) : u = true := by rw [q, hp]; rfl
theorem own_nbf {u b : Bool} (q : u = !b) (hp : b = true) : u = false := by rw [q, hp]; rfl
theorem own_retN (X : Stand p l e R s m args below meth c T locs cells slots) (hx : p.tables.exec = Jvm.exec) {pc : Nat} {Ls : Array Slot} {z z' : Int32} {t : FieldType} {rest : List Value} (hret : meth.sig.returnType = some t) (ht : t = .boolean ∨ t = .byte ∨ t = .char ∨ t = .short) (hn : nar t z = z')
    (hd : decode c.code pc = .ok (.ireturn, 1)) {fs : List Frame} (hl : ∀ (f : JFrame) (acts : List Action), f.method = m → f.locked = none → f.entered = [] → (doReturn e (T.setTop f) acts (some (.int z'))).1 = T.setFrames fs) :
    Steps p.tables e below (T.setTop (mkF m pc Ls (.int z :: rest))) (T.setFrames fs) := by
  subst hn
  exact retN X hx hret ht hd hl
theorem own_nar_b2i (b : Bool) : nar .boolean (b2i b) = b2i b := by cases b <;> decide
theorem own_narrow_b2i (b : Bool) : narrow .boolean (.int (b2i b)) = .int (b2i b) := by cases b <;> rfl
theorem own_fits_b2i (b : Bool) : fits .boolean (.int (b2i b)) = true := by cases b <;> rfl
theorem own_nar_i2b (x : Int32) : nar .byte x.toInt8.toInt32 = x.toInt8.toInt32 := by simp [nar]
theorem own_lrem (x y : Int64) : x - x / y * y = x % y := by
  apply Int64.toInt_inj.mp
  have h1 := Int64.le_toInt (x % y)
  have h2 := Int64.toInt_lt (x % y)
  have e : x.toInt - y.toInt * x.toInt.tdiv y.toInt = x.toInt.tmod y.toInt := (Int.tmod_def _ _).symm
  rw [Int64.toInt_sub, Int64.toInt_mul, Int64.toInt_div, Int.bmod_mul_bmod, Int.sub_bmod_bmod, Int.mul_comm (x.toInt.tdiv y.toInt), e, ← Int64.toInt_mod]
  exact Int.bmod_eq_of_le_mul_two (by omega) (by omega)
/-- getfield by an entry that is resolved already -/
theorem own_getFR (X : Stand p l e R s m args below meth c T locs cells slots) (hx : p.tables.exec = Jvm.exec) (hZ : Z.Warmed39 s.vm) {own O n d : String} {index : Nat} (hown : s.vm.findClass own = some m.cls) (w : (Jvm.Cond.fieldRef own index O n d).before a0 Z = true)
    (eT : T.heap = h) {a : Addr} {v : Value} (F : Fld Z h a O n d v) {g : JFrame} (hg : g.method = m) {rest : List Value} (hs : g.stack = .ref a :: rest) (hd : decode c.code g.pc = .ok (.getfield index, 3)) : ∃ T', Stand p l e R s m args below meth c T' locs cells slots ∧ T'.heap = h ∧ ∀ target, Steps p.tables e below (T'.setTop { g with pc := g.pc + 3, stack := v :: rest }) target → Steps p.tables e below (T.setTop g) target := by
  have hZT : Z.Warmed39 T.vm := wtrans hZ X.warmed
  have w' := Cond.fieldRef_warmed39 hZT w
  have hcur : (Z.setVm T.vm).vm.findClass own = some m.cls := (X.warmed.alike.findClass own _).trans hown
  obtain ⟨c', k', i', f', h1, hready⟩ := Cond.fieldRef_spec (s := Z.setVm T.vm) hcur w'
  obtain ⟨cell, cf, k, i, f, g1, g2, g3, g4, -, -, g7⟩ := F
  obtain ⟨k2, hi, -⟩ := State.fieldFound?_setVm (s := Z) hZT.alike g2
  have q := Option.some.inj (h1.symm.trans hi)
  simp only [Prod.mk.injEq] at q
  obtain ⟨rfl, -, -, rfl⟩ := q
  exact ⟨T, X, eT, fun target kt => (X.getfieldR hx hg hready g3 hs (by rw [eT]; exact g1) g4 g7 hd (Steps.refl _)).trans kt⟩
/-- the case's words on statics and fields, at the start -/
theorem own_sx {C n d K : String} (w1 : (Jvm.Cond.initialized C).before args s = true) (w2 : (Jvm.Cond.laysStatic C n d).before args s = true) (q : (Jvm.Cond.exactly (Term.static C n d) K).value args s none s [] = some true) : ∃ a : Addr, (Term.static C n d).eval args s none [] s = some (.ref a) ∧ Sta s s.heap C n d (.ref a) ∧ Exa s s.heap a K := by
  obtain ⟨a, ev⟩ := exa_v q
  exact ⟨a, ev, Sta.start ev (Or.inr ⟨w1, w2⟩), Exa.start ev q⟩
theorem own_fi {t : Term} {a : Addr} {C n d : String} {k : Int32} (ev : t.eval args s none [] s = some (.ref a)) (q : (Jvm.Cond.eq (Term.field t C n d) (Term.int k)).value args s none s [] = some true) : Fld s s.heap a C n d (.int k) := by
  obtain ⟨x, y, h1, h2, h3, h4⟩ := cmp_v (Or.inl q)
  have h5 : y = .int k := (Option.some.inj (h2.symm.trans (Term.int_eval k)) : _)
  subst h5
  obtain ⟨z, rfl⟩ : ∃ z, x = .int z := h4
  have e2 := h1
  rw [fld_at ev] at h1
  simp [Cond.value, e2, h2] at q
  subst q
  exact Fld.start h1
theorem own_fx {t : Term} {a : Addr} {C n d K : String} (ev : t.eval args s none [] s = some (.ref a)) (q : (Jvm.Cond.exactly (Term.field t C n d) K).value args s none s [] = some true) : ∃ b : Addr, (Term.field t C n d).eval args s none [] s = some (.ref b) ∧ Fld s s.heap a C n d (.ref b) ∧ Exa s s.heap b K := by
  obtain ⟨b, ev2⟩ := exa_v q
  exact ⟨b, ev2, Fld.start ((fld_at ev).symm.trans ev2), Exa.start ev2 q⟩
/-- a class that the chain of superclasses doesn't meet: its own word is 'instantiable' -/
theorem own_ns_root {Z : State} {a0 : Array Value} {O K : String} {n : Nat} (w : (Jvm.Cond.noSuperclass O).before a0 Z = true) (wi : (Jvm.Cond.instantiable K n).before a0 Z = true) (hn : O ≠ K) : NS Z O K := by
  obtain ⟨c, k, h1, h2, h3, -, -⟩ := Cond.noSuperclass_spec w
  obtain ⟨t, kt, g1, -⟩ := Cond.instantiable_spec wi
  have ne := ids_ne h1 g1 hn
  refine ⟨c, t, h1, g1, fun fuel => ?_⟩
  cases fuel with
  | zero => rfl
  | succ f => simp [Vm.isSubclassAux, ne, h2, h3]
theorem own_ns_no {Z : State} {a0 : Array Value} {C S K : String} {n : Nat} (w : (Jvm.Cond.superclass C S).before a0 Z = true) (wi : (Jvm.Cond.instantiable K n).before a0 Z = true) (q : NS Z C K) (hn : C ≠ K) : ∃ c t, Z.vm.findClass C = some c ∧ Z.vm.findClass K = some t ∧ Z.vm.assignable c t = false := by
  obtain ⟨c, t, h0, g0, n3⟩ := q
  obtain ⟨p, k, kp, h1, h2, h3, h4, h5, -, h7⟩ := Cond.superclass_spec h0 w
  obtain ⟨t', kt, g1, g2, g3, g4, -, -⟩ := Cond.instantiable_spec wi
  cases g0.symm.trans g1
  have g5 : kt.isInterface = false := by simp only [Bool.or_eq_false_iff] at g4; exact g4.1
  have ne := ids_ne h0 g0 hn
  refine ⟨c, t, h0, g0, ?_⟩
  show Z.vm.assignableAux (255 + 1) c t = false
  simp [Vm.assignableAux, ne, h2, g2, h5, g3, g5, Vm.isSubclass, n3]
/-- a static's cell isn't written by one who writes objects alone -/
theorem own_sta_keep {Z : State} {h h' : Heap} {C n d : String} {v : Value} {ws : List Addr} (F : Sta Z h C n d v) (K : Keep h h' ws) (q : ∀ x ∈ ws, ∃ C', Exa Z h x C') : Sta Z h' C n d v := by
  obtain ⟨cf, i, k, f, st, cell, h1, h2, h3, h4, h5, h6, h7⟩ := F
  refine ⟨cf, i, k, f, st, cell, h1, h2, h3, h4, K.2.1 st cell h5 (fun r => ?_), h6, h7⟩
  obtain ⟨C', c', k', g1, -, -, g4, -⟩ := q st r
  rw [h5] at g1
  cases g1
  rw [h6] at g4
  cases g4
theorem own_ne32 {x y : Int32} (h : x ≠ y) : Value.int x ≠ Value.int y := fun q => h (Value.int.inj q)
end OwnKit
theorem own_and31 (p : Int32) : 0 ≤ (p &&& 2147483647).toInt := by
  have h : (p &&& 2147483647).toInt = (p &&& 2147483647).toBitVec.toInt := rfl
  rw [h, Int32.toBitVec_and]
  have e : (2147483647 : Int32).toBitVec = 2147483647#32 := rfl
  rw [e, BitVec.toInt_eq_toNat_cond, BitVec.toNat_and]
  have : p.toBitVec.toNat &&& (2147483647#32).toNat ≤ 2147483647 := Nat.and_le_right
  split <;> omega
theorem own_mod (p n : Int32) (hn : 0 < n.toInt) : 0 ≤ ((p &&& 2147483647) % n).toInt ∧ ((p &&& 2147483647) % n).toInt < n.toInt := by
  rw [Int32.toInt_mod]
  have h := own_and31 p
  rw [Int.tmod_eq_emod_of_nonneg h]
  exact ⟨Int.emod_nonneg _ (by omega), Int.emod_lt_of_pos _ hn⟩
theorem own_mod6 (p : Int32) : (p &&& 2147483647) % 6 = 0 ∨ (p &&& 2147483647) % 6 = 1 ∨ (p &&& 2147483647) % 6 = 2 ∨ (p &&& 2147483647) % 6 = 3 ∨ (p &&& 2147483647) % 6 = 4 ∨ (p &&& 2147483647) % 6 = 5 := by
  have h := own_mod p 6 (by decide)
  have e : (6 : Int32).toInt = 6 := by decide
  rw [e] at h
  simp only [← Int32.toInt_inj]
  have e0 : (0 : Int32).toInt = 0 := by decide
  have e1 : (1 : Int32).toInt = 1 := by decide
  have e2 : (2 : Int32).toInt = 2 := by decide
  have e3 : (3 : Int32).toInt = 3 := by decide
  have e4 : (4 : Int32).toInt = 4 := by decide
  have e5 : (5 : Int32).toInt = 5 := by decide
  rw [e0, e1, e2, e3, e4, e5]
  omega
theorem pn_java_lang_Enum : plainName "java/lang/Enum" = true := by first | (simp [plainName, overriddenIn]; done) | decide +kernel
theorem ef_rm4 (m : MethodId) (x0 : Addr) : entryFrame m #[(.ref x0)] 1 = mkF m 0 #[.val (.ref x0)] [] := by first | (simp [entryFrame, mkF, argsToLocals, Value.category]; done) | rfl
theorem d4_0 : decode jdk_37_method_2_code 0 = .ok (.aload_n 0, 1) := by decide +kernel
theorem d4_1 : decode jdk_37_method_2_code 1 = .ok (.getfield 7, 3) := by decide +kernel
theorem d4_4 : decode jdk_37_method_2_code 4 = .ok (.ireturn, 1) := by decide +kernel
def Q4 (Z : State) (a1 : Addr) (w1 : Int32) (h0 : Heap) (n0 : Nat) (v : Option Value) (h : Heap) (L : List Loc) : Prop := v = some (.int w1) ∧ Fr n0 L ∧ h = h0
set_option maxRecDepth 65536 in
set_option maxHeartbeats 40000000 in
theorem rm4 (l : Launch) (Z : State) (a0 : Array Value) (hw : ∀ d ∈ tables_1, d.before a0 Z = true) (ws : List Jvm.Cond) (a1 : Addr) (w1 : Int32) (h0 : Heap) (n0 : Nat) (Z0 : n0 ≤ h0.size) (F_o : Fld Z h0 a1 "java/lang/Enum" "ordinal" "I" (.int w1)) :
    OMet l Z (⟨"java/lang/Enum", "ordinal", "()I"⟩ : MethodName) jdk_37_method_2_code 1 (some .int) ws ({ frames := 0, cells := 0, slots := 0, locals := 0 } : Room) #[(.ref a1)] h0 (Q4 Z a1 w1 h0 n0) := by
  refine own_body (plainFor_of_name pn_java_lang_Enum) ?_
  intro p e s m below meth c s₁ Bd hml0 hZ e0
  have hx := Bd.exec
  have hby := Bd.bytes
  have hml : c.maxLocals = 1 := hml0
  have hown : s.vm.findClass "java/lang/Enum" = some m.cls := findClass_of_methodNamed Bd.named
  have hnm := (name_of_methodNamed Bd.named Bd.method).1
  have X0 : Stand p l e ({ frames := 0, cells := 0, slots := 0, locals := 0 } : Room) s m #[(.ref a1)] below meth c s₁ [] 0 0 := Stand.of_body Bd
  have N0 := Fr.nil n0
  have K0 : Keep h0 h0 [] := Keep.refl _ _
  rw [ef_rm4]
  obtain ⟨T101, X101, e101, st101⟩ := getF X0 hx hZ hown (host := "") (Or.inl (hw _ (List.mem_of_getElem? (i := 26) rfl))) Via.refl e0 F_o (g := (mkF m 1 #[.val (.ref a1)] [(.ref a1)])) rfl rfl (hb hby d4_1)
  refine Gl.fin X101 (v := some (.int w1)) (fun h => by rw [Bd.returns] at h; cases h) Bd.notSynchronized ?_ e101 (by decide) (by decide) (fun fs hr => ?_)
  · exact ⟨rfl, N0, rfl⟩
  · show Steps p.tables e below (s₁.setTop (mkF m 0 #[.val (.ref a1)] [])) _
    refine XS.aloadN X0.here hx rfl (hb hby d4_0) rfl rfl ?_
    show Steps p.tables e below (s₁.setTop (mkF m 1 #[.val (.ref a1)] [(.ref a1)])) _
    refine st101 _ ?_
    show Steps p.tables e below (T101.setTop (mkF m 4 #[.val (.ref a1)] [(.int w1)])) _
    exact own_retI X101 hx Bd.returns (hb hby d4_4) hr
theorem pn_com_example_porthcurno_porthcurno_core_SelectorExpression_Relation : plainName "com/example/porthcurno/porthcurno/core/SelectorExpression$Relation" = true := by first | (simp [plainName, overriddenIn]; done) | decide +kernel
theorem ef_rm3_0 (m : MethodId) (x0 : Addr) (x1 : Int32) : entryFrame m #[(.ref x0), (.int x1)] 2 = mkF m 0 #[.val (.ref x0), .val (.int x1)] [] := by first | (simp [entryFrame, mkF, argsToLocals, Value.category]; done) | rfl
theorem d3_0 : decode prog_36_method_5_code 0 = .ok (.aload_n 0, 1) := by decide +kernel
theorem d3_1 : decode prog_36_method_5_code 1 = .ok (.invokevirtual 45, 3) := by decide +kernel
theorem pd___I : parseMethodDescriptor "()I" = some ⟨[], some .int⟩ := by decide +kernel
theorem d3_4 : decode prog_36_method_5_code 4 = .ok (.tableswitch 40 0 5 #[50, 62, 74, 86, 98, 110], 40) := by decide +kernel
theorem d3_54 : decode prog_36_method_5_code 54 = .ok (.iload_n 1, 1) := by decide +kernel
theorem d3_55 : decode prog_36_method_5_code 55 = .ok (.ifCond .ne 7, 3) := by decide +kernel
theorem d3_58 : decode prog_36_method_5_code 58 = .ok (.iconst 1, 1) := by decide +kernel
theorem d3_59 : decode prog_36_method_5_code 59 = .ok (.goto 64, 3) := by decide +kernel
theorem d3_123 : decode prog_36_method_5_code 123 = .ok (.ireturn, 1) := by decide +kernel
theorem d3_62 : decode prog_36_method_5_code 62 = .ok (.iconst 0, 1) := by decide +kernel
theorem d3_63 : decode prog_36_method_5_code 63 = .ok (.goto 60, 3) := by decide +kernel
def Q3_0 (Z : State) (a1 : Addr) (p1 : Int32) (h0 : Heap) (n0 : Nat) (v : Option Value) (h : Heap) (L : List Loc) : Prop := v = some (.int (b2i (decide (p1 = 0)))) ∧ Fr n0 L ∧ h = h0
set_option maxRecDepth 65536 in
set_option maxHeartbeats 40000000 in
theorem rm3_0 (l : Launch) (Z : State) (a0 : Array Value) (hw : ∀ d ∈ tables_1, d.before a0 Z = true) (ws : List Jvm.Cond) (a1 : Addr) (p1 : Int32) (h0 : Heap) (n0 : Nat) (Z0 : n0 ≤ h0.size) (E_a : Exa Z h0 a1 "com/example/porthcurno/porthcurno/core/SelectorExpression$Relation") (F_o : Fld Z h0 a1 "java/lang/Enum" "ordinal" "I" (.int (0 : Int32))) :
    OMet l Z (⟨"com/example/porthcurno/porthcurno/core/SelectorExpression$Relation", "holds", "(I)Z"⟩ : MethodName) prog_36_method_5_code 2 (some .boolean) ws ({ frames := 1, cells := 0, slots := 0, locals := 13 } : Room) #[(.ref a1), (.int p1)] h0 (Q3_0 Z a1 p1 h0 n0) := by
  refine own_body (plainFor_of_name pn_com_example_porthcurno_porthcurno_core_SelectorExpression_Relation) ?_
  intro p e s m below meth c s₁ Bd hml0 hZ e0
  have hx := Bd.exec
  have hby := Bd.bytes
  have hml : c.maxLocals = 2 := hml0
  have hown : s.vm.findClass "com/example/porthcurno/porthcurno/core/SelectorExpression$Relation" = some m.cls := findClass_of_methodNamed Bd.named
  have hnm := (name_of_methodNamed Bd.named Bd.method).1
  have X0 : Stand p l e ({ frames := 1, cells := 0, slots := 0, locals := 13 } : Room) s m #[(.ref a1), (.int p1)] below meth c s₁ [] 0 0 := Stand.of_body Bd
  have N0 := Fr.nil n0
  have K0 : Keep h0 h0 [] := Keep.refl _ _
  rw [ef_rm3_0]
  obtain ⟨v101, T101, L101, X101, q101, st101⟩ := own_callU X0 hx hZ (y := (⟨"com/example/porthcurno/porthcurno/core/SelectorExpression$Relation", "ordinal", "()I"⟩ : MethodName)) (z := (⟨"java/lang/Enum", "ordinal", "()I"⟩ : MethodName)) (owner := "java/lang/Enum") hown (hw _ (List.mem_of_getElem? (i := 19) rfl)) (hw _ (List.mem_of_getElem? (i := 20) rfl)) (hw _ (List.mem_of_getElem? (i := 21) rfl)) (hw _ (List.mem_of_getElem? (i := 23) rfl)) (hw _ (List.mem_of_getElem? (i := 22) rfl)) (hw _ (List.mem_of_getElem? (i := 24) rfl)) (hw _ (List.mem_of_getElem? (i := 25) rfl)) (by decide) E_a (hM := (rm4 l Z a0 hw [] a1 (0 : Int32) h0 n0 Z0 F_o)) (by decide) (by decide) (by decide) (by decide) e0 (argsL := []) (rest := []) (Ls := #[.val (.ref a1), .val (.int p1)]) (by rw [hml]; rfl) (lenOf pd___I rfl) (W := 0) (Nat.le_of_eq rfl) (hb hby d3_1)
  obtain ⟨rfl, N101q, e101⟩ := q101
  have N101 := Fr.app N0 N101q
  refine Gl.pre (S' := T101.setTop (mkF m 55 #[.val (.ref a1), .val (.int p1)] [(.int p1)])) (fun t kt => ?_) ?_
  · show Steps p.tables e below (s₁.setTop (mkF m 0 #[.val (.ref a1), .val (.int p1)] [])) _
    refine XS.aloadN X0.here hx rfl (hb hby d3_0) rfl rfl ?_
    show Steps p.tables e below (s₁.setTop (mkF m 1 #[.val (.ref a1), .val (.int p1)] [(.ref a1)])) _
    refine st101 _ ?_
    show Steps p.tables e below (T101.setTop (mkF m 4 #[.val (.ref a1), .val (.int p1)] [(.int (0 : Int32))])) _
    refine XS.tswIn X101.here hx rfl (pc0 := 4) (pc' := 54) (o := 50) rfl (hb hby d3_4) rfl (by decide) (by decide) (by decide) (by decide) ?_
    show Steps p.tables e below (T101.setTop (mkF m 54 #[.val (.ref a1), .val (.int p1)] [])) _
    refine XS.iloadN X101.here hx rfl (hb hby d3_54) rfl ?_
    exact kt
  by_cases hc55 : p1 = (0 : Int32)
  · refine Gl.fin X101 (v := some (.int (1 : Int32))) (fun h => by rw [Bd.returns] at h; cases h) Bd.notSynchronized ?_ e101 (by decide) (by decide) (fun fs hr => ?_)
    · exact ⟨by simp [b2i, hc55], N101, rfl⟩
    · show Steps p.tables e below (T101.setTop (mkF m 55 #[.val (.ref a1), .val (.int p1)] [(.int p1)])) _
      refine XS.ifNo X101.here hx rfl (hb hby d3_55) rfl (own_nf (i0_ne _) hc55) ?_
      show Steps p.tables e below (T101.setTop (mkF m 58 #[.val (.ref a1), .val (.int p1)] [])) _
      refine XS.iconst X101.here hx rfl (hb hby d3_58) ?_
      show Steps p.tables e below (T101.setTop (mkF m 59 #[.val (.ref a1), .val (.int p1)] [(.int (1 : Int32))])) _
      refine XS.goto X101.here hx rfl (pc0 := 59) (pc' := 123) rfl (hb hby d3_59) (by decide) (by decide) ?_
      show Steps p.tables e below (T101.setTop (mkF m 123 #[.val (.ref a1), .val (.int p1)] [(.int (1 : Int32))])) _
      exact retN X101 hx (t := .boolean) Bd.returns (by simp) (hb hby d3_123) hr
  · refine Gl.fin X101 (v := some (.int (0 : Int32))) (fun h => by rw [Bd.returns] at h; cases h) Bd.notSynchronized ?_ e101 (by decide) (by decide) (fun fs hr => ?_)
    · exact ⟨by simp [b2i, hc55], N101, rfl⟩
    · show Steps p.tables e below (T101.setTop (mkF m 55 #[.val (.ref a1), .val (.int p1)] [(.int p1)])) _
      refine XS.ifYes X101.here hx rfl (pc0 := 55) (pc' := 62) rfl (hb hby d3_55) rfl (own_nt (i0_ne _) hc55) (by decide) (by decide) ?_
      show Steps p.tables e below (T101.setTop (mkF m 62 #[.val (.ref a1), .val (.int p1)] [])) _
      refine XS.iconst X101.here hx rfl (hb hby d3_62) ?_
      show Steps p.tables e below (T101.setTop (mkF m 63 #[.val (.ref a1), .val (.int p1)] [(.int (0 : Int32))])) _
      refine XS.goto X101.here hx rfl (pc0 := 63) (pc' := 123) rfl (hb hby d3_63) (by decide) (by decide) ?_
      show Steps p.tables e below (T101.setTop (mkF m 123 #[.val (.ref a1), .val (.int p1)] [(.int (0 : Int32))])) _
      exact retN X101 hx (t := .boolean) Bd.returns (by simp) (hb hby d3_123) hr
theorem ef_rm3_1 (m : MethodId) (x0 : Addr) (x1 : Int32) : entryFrame m #[(.ref x0), (.int x1)] 2 = mkF m 0 #[.val (.ref x0), .val (.int x1)] [] := by first | (simp [entryFrame, mkF, argsToLocals, Value.category]; done) | rfl
theorem d3_66 : decode prog_36_method_5_code 66 = .ok (.iload_n 1, 1) := by decide +kernel
theorem d3_67 : decode prog_36_method_5_code 67 = .ok (.ifCond .eq 7, 3) := by decide +kernel
theorem d3_74 : decode prog_36_method_5_code 74 = .ok (.iconst 0, 1) := by decide +kernel
theorem d3_75 : decode prog_36_method_5_code 75 = .ok (.goto 48, 3) := by decide +kernel
theorem d3_70 : decode prog_36_method_5_code 70 = .ok (.iconst 1, 1) := by decide +kernel
theorem d3_71 : decode prog_36_method_5_code 71 = .ok (.goto 52, 3) := by decide +kernel
def Q3_1 (Z : State) (a1 : Addr) (p1 : Int32) (h0 : Heap) (n0 : Nat) (v : Option Value) (h : Heap) (L : List Loc) : Prop := v = some (.int (b2i (decide (¬ p1 = 0)))) ∧ Fr n0 L ∧ h = h0
set_option maxRecDepth 65536 in
set_option maxHeartbeats 40000000 in
theorem rm3_1 (l : Launch) (Z : State) (a0 : Array Value) (hw : ∀ d ∈ tables_1, d.before a0 Z = true) (ws : List Jvm.Cond) (a1 : Addr) (p1 : Int32) (h0 : Heap) (n0 : Nat) (Z0 : n0 ≤ h0.size) (E_a : Exa Z h0 a1 "com/example/porthcurno/porthcurno/core/SelectorExpression$Relation") (F_o : Fld Z h0 a1 "java/lang/Enum" "ordinal" "I" (.int (1 : Int32))) :
    OMet l Z (⟨"com/example/porthcurno/porthcurno/core/SelectorExpression$Relation", "holds", "(I)Z"⟩ : MethodName) prog_36_method_5_code 2 (some .boolean) ws ({ frames := 1, cells := 0, slots := 0, locals := 13 } : Room) #[(.ref a1), (.int p1)] h0 (Q3_1 Z a1 p1 h0 n0) := by
  refine own_body (plainFor_of_name pn_com_example_porthcurno_porthcurno_core_SelectorExpression_Relation) ?_
  intro p e s m below meth c s₁ Bd hml0 hZ e0
  have hx := Bd.exec
  have hby := Bd.bytes
  have hml : c.maxLocals = 2 := hml0
  have hown : s.vm.findClass "com/example/porthcurno/porthcurno/core/SelectorExpression$Relation" = some m.cls := findClass_of_methodNamed Bd.named
  have hnm := (name_of_methodNamed Bd.named Bd.method).1
  have X0 : Stand p l e ({ frames := 1, cells := 0, slots := 0, locals := 13 } : Room) s m #[(.ref a1), (.int p1)] below meth c s₁ [] 0 0 := Stand.of_body Bd
  have N0 := Fr.nil n0
  have K0 : Keep h0 h0 [] := Keep.refl _ _
  rw [ef_rm3_1]
  obtain ⟨v101, T101, L101, X101, q101, st101⟩ := own_callU X0 hx hZ (y := (⟨"com/example/porthcurno/porthcurno/core/SelectorExpression$Relation", "ordinal", "()I"⟩ : MethodName)) (z := (⟨"java/lang/Enum", "ordinal", "()I"⟩ : MethodName)) (owner := "java/lang/Enum") hown (hw _ (List.mem_of_getElem? (i := 19) rfl)) (hw _ (List.mem_of_getElem? (i := 20) rfl)) (hw _ (List.mem_of_getElem? (i := 21) rfl)) (hw _ (List.mem_of_getElem? (i := 23) rfl)) (hw _ (List.mem_of_getElem? (i := 22) rfl)) (hw _ (List.mem_of_getElem? (i := 24) rfl)) (hw _ (List.mem_of_getElem? (i := 25) rfl)) (by decide) E_a (hM := (rm4 l Z a0 hw [] a1 (1 : Int32) h0 n0 Z0 F_o)) (by decide) (by decide) (by decide) (by decide) e0 (argsL := []) (rest := []) (Ls := #[.val (.ref a1), .val (.int p1)]) (by rw [hml]; rfl) (lenOf pd___I rfl) (W := 0) (Nat.le_of_eq rfl) (hb hby d3_1)
  obtain ⟨rfl, N101q, e101⟩ := q101
  have N101 := Fr.app N0 N101q
  refine Gl.pre (S' := T101.setTop (mkF m 67 #[.val (.ref a1), .val (.int p1)] [(.int p1)])) (fun t kt => ?_) ?_
  · show Steps p.tables e below (s₁.setTop (mkF m 0 #[.val (.ref a1), .val (.int p1)] [])) _
    refine XS.aloadN X0.here hx rfl (hb hby d3_0) rfl rfl ?_
    show Steps p.tables e below (s₁.setTop (mkF m 1 #[.val (.ref a1), .val (.int p1)] [(.ref a1)])) _
    refine st101 _ ?_
    show Steps p.tables e below (T101.setTop (mkF m 4 #[.val (.ref a1), .val (.int p1)] [(.int (1 : Int32))])) _
    refine XS.tswIn X101.here hx rfl (pc0 := 4) (pc' := 66) (o := 62) rfl (hb hby d3_4) rfl (by decide) (by decide) (by decide) (by decide) ?_
    show Steps p.tables e below (T101.setTop (mkF m 66 #[.val (.ref a1), .val (.int p1)] [])) _
    refine XS.iloadN X101.here hx rfl (hb hby d3_66) rfl ?_
    exact kt
  by_cases hc67 : p1 = (0 : Int32)
  · refine Gl.fin X101 (v := some (.int (0 : Int32))) (fun h => by rw [Bd.returns] at h; cases h) Bd.notSynchronized ?_ e101 (by decide) (by decide) (fun fs hr => ?_)
    · exact ⟨by simp [b2i, hc67], N101, rfl⟩
    · show Steps p.tables e below (T101.setTop (mkF m 67 #[.val (.ref a1), .val (.int p1)] [(.int p1)])) _
      refine XS.ifYes X101.here hx rfl (pc0 := 67) (pc' := 74) rfl (hb hby d3_67) rfl (own_t (i0_eq _) hc67) (by decide) (by decide) ?_
      show Steps p.tables e below (T101.setTop (mkF m 74 #[.val (.ref a1), .val (.int p1)] [])) _
      refine XS.iconst X101.here hx rfl (hb hby d3_74) ?_
      show Steps p.tables e below (T101.setTop (mkF m 75 #[.val (.ref a1), .val (.int p1)] [(.int (0 : Int32))])) _
      refine XS.goto X101.here hx rfl (pc0 := 75) (pc' := 123) rfl (hb hby d3_75) (by decide) (by decide) ?_
      show Steps p.tables e below (T101.setTop (mkF m 123 #[.val (.ref a1), .val (.int p1)] [(.int (0 : Int32))])) _
      exact retN X101 hx (t := .boolean) Bd.returns (by simp) (hb hby d3_123) hr
  · refine Gl.fin X101 (v := some (.int (1 : Int32))) (fun h => by rw [Bd.returns] at h; cases h) Bd.notSynchronized ?_ e101 (by decide) (by decide) (fun fs hr => ?_)
    · exact ⟨by simp [b2i, hc67], N101, rfl⟩
    · show Steps p.tables e below (T101.setTop (mkF m 67 #[.val (.ref a1), .val (.int p1)] [(.int p1)])) _
      refine XS.ifNo X101.here hx rfl (hb hby d3_67) rfl (own_f (i0_eq _) hc67) ?_
      show Steps p.tables e below (T101.setTop (mkF m 70 #[.val (.ref a1), .val (.int p1)] [])) _
      refine XS.iconst X101.here hx rfl (hb hby d3_70) ?_
      show Steps p.tables e below (T101.setTop (mkF m 71 #[.val (.ref a1), .val (.int p1)] [(.int (1 : Int32))])) _
      refine XS.goto X101.here hx rfl (pc0 := 71) (pc' := 123) rfl (hb hby d3_71) (by decide) (by decide) ?_
      show Steps p.tables e below (T101.setTop (mkF m 123 #[.val (.ref a1), .val (.int p1)] [(.int (1 : Int32))])) _
      exact retN X101 hx (t := .boolean) Bd.returns (by simp) (hb hby d3_123) hr
theorem ef_rm3_2 (m : MethodId) (x0 : Addr) (x1 : Int32) : entryFrame m #[(.ref x0), (.int x1)] 2 = mkF m 0 #[.val (.ref x0), .val (.int x1)] [] := by first | (simp [entryFrame, mkF, argsToLocals, Value.category]; done) | rfl
theorem d3_78 : decode prog_36_method_5_code 78 = .ok (.iload_n 1, 1) := by decide +kernel
theorem d3_79 : decode prog_36_method_5_code 79 = .ok (.ifCond .ge 7, 3) := by decide +kernel
theorem d3_82 : decode prog_36_method_5_code 82 = .ok (.iconst 1, 1) := by decide +kernel
theorem d3_83 : decode prog_36_method_5_code 83 = .ok (.goto 40, 3) := by decide +kernel
theorem d3_86 : decode prog_36_method_5_code 86 = .ok (.iconst 0, 1) := by decide +kernel
theorem d3_87 : decode prog_36_method_5_code 87 = .ok (.goto 36, 3) := by decide +kernel
def Q3_2 (Z : State) (a1 : Addr) (p1 : Int32) (h0 : Heap) (n0 : Nat) (v : Option Value) (h : Heap) (L : List Loc) : Prop := v = some (.int (b2i (decide (p1 < 0)))) ∧ Fr n0 L ∧ h = h0
set_option maxRecDepth 65536 in
set_option maxHeartbeats 40000000 in
theorem rm3_2 (l : Launch) (Z : State) (a0 : Array Value) (hw : ∀ d ∈ tables_1, d.before a0 Z = true) (ws : List Jvm.Cond) (a1 : Addr) (p1 : Int32) (h0 : Heap) (n0 : Nat) (Z0 : n0 ≤ h0.size) (E_a : Exa Z h0 a1 "com/example/porthcurno/porthcurno/core/SelectorExpression$Relation") (F_o : Fld Z h0 a1 "java/lang/Enum" "ordinal" "I" (.int (2 : Int32))) :
    OMet l Z (⟨"com/example/porthcurno/porthcurno/core/SelectorExpression$Relation", "holds", "(I)Z"⟩ : MethodName) prog_36_method_5_code 2 (some .boolean) ws ({ frames := 1, cells := 0, slots := 0, locals := 13 } : Room) #[(.ref a1), (.int p1)] h0 (Q3_2 Z a1 p1 h0 n0) := by
  refine own_body (plainFor_of_name pn_com_example_porthcurno_porthcurno_core_SelectorExpression_Relation) ?_
  intro p e s m below meth c s₁ Bd hml0 hZ e0
  have hx := Bd.exec
  have hby := Bd.bytes
  have hml : c.maxLocals = 2 := hml0
  have hown : s.vm.findClass "com/example/porthcurno/porthcurno/core/SelectorExpression$Relation" = some m.cls := findClass_of_methodNamed Bd.named
  have hnm := (name_of_methodNamed Bd.named Bd.method).1
  have X0 : Stand p l e ({ frames := 1, cells := 0, slots := 0, locals := 13 } : Room) s m #[(.ref a1), (.int p1)] below meth c s₁ [] 0 0 := Stand.of_body Bd
  have N0 := Fr.nil n0
  have K0 : Keep h0 h0 [] := Keep.refl _ _
  rw [ef_rm3_2]
  obtain ⟨v101, T101, L101, X101, q101, st101⟩ := own_callU X0 hx hZ (y := (⟨"com/example/porthcurno/porthcurno/core/SelectorExpression$Relation", "ordinal", "()I"⟩ : MethodName)) (z := (⟨"java/lang/Enum", "ordinal", "()I"⟩ : MethodName)) (owner := "java/lang/Enum") hown (hw _ (List.mem_of_getElem? (i := 19) rfl)) (hw _ (List.mem_of_getElem? (i := 20) rfl)) (hw _ (List.mem_of_getElem? (i := 21) rfl)) (hw _ (List.mem_of_getElem? (i := 23) rfl)) (hw _ (List.mem_of_getElem? (i := 22) rfl)) (hw _ (List.mem_of_getElem? (i := 24) rfl)) (hw _ (List.mem_of_getElem? (i := 25) rfl)) (by decide) E_a (hM := (rm4 l Z a0 hw [] a1 (2 : Int32) h0 n0 Z0 F_o)) (by decide) (by decide) (by decide) (by decide) e0 (argsL := []) (rest := []) (Ls := #[.val (.ref a1), .val (.int p1)]) (by rw [hml]; rfl) (lenOf pd___I rfl) (W := 0) (Nat.le_of_eq rfl) (hb hby d3_1)
  obtain ⟨rfl, N101q, e101⟩ := q101
  have N101 := Fr.app N0 N101q
  refine Gl.pre (S' := T101.setTop (mkF m 79 #[.val (.ref a1), .val (.int p1)] [(.int p1)])) (fun t kt => ?_) ?_
  · show Steps p.tables e below (s₁.setTop (mkF m 0 #[.val (.ref a1), .val (.int p1)] [])) _
    refine XS.aloadN X0.here hx rfl (hb hby d3_0) rfl rfl ?_
    show Steps p.tables e below (s₁.setTop (mkF m 1 #[.val (.ref a1), .val (.int p1)] [(.ref a1)])) _
    refine st101 _ ?_
    show Steps p.tables e below (T101.setTop (mkF m 4 #[.val (.ref a1), .val (.int p1)] [(.int (2 : Int32))])) _
    refine XS.tswIn X101.here hx rfl (pc0 := 4) (pc' := 78) (o := 74) rfl (hb hby d3_4) rfl (by decide) (by decide) (by decide) (by decide) ?_
    show Steps p.tables e below (T101.setTop (mkF m 78 #[.val (.ref a1), .val (.int p1)] [])) _
    refine XS.iloadN X101.here hx rfl (hb hby d3_78) rfl ?_
    exact kt
  by_cases hc79 : p1 < (0 : Int32)
  · refine Gl.fin X101 (v := some (.int (1 : Int32))) (fun h => by rw [Bd.returns] at h; cases h) Bd.notSynchronized ?_ e101 (by decide) (by decide) (fun fs hr => ?_)
    · exact ⟨by simp [b2i, hc79], N101, rfl⟩
    · show Steps p.tables e below (T101.setTop (mkF m 79 #[.val (.ref a1), .val (.int p1)] [(.int p1)])) _
      refine XS.ifNo X101.here hx rfl (hb hby d3_79) rfl (own_nf (i0_ge _) hc79) ?_
      show Steps p.tables e below (T101.setTop (mkF m 82 #[.val (.ref a1), .val (.int p1)] [])) _
      refine XS.iconst X101.here hx rfl (hb hby d3_82) ?_
      show Steps p.tables e below (T101.setTop (mkF m 83 #[.val (.ref a1), .val (.int p1)] [(.int (1 : Int32))])) _
      refine XS.goto X101.here hx rfl (pc0 := 83) (pc' := 123) rfl (hb hby d3_83) (by decide) (by decide) ?_
      show Steps p.tables e below (T101.setTop (mkF m 123 #[.val (.ref a1), .val (.int p1)] [(.int (1 : Int32))])) _
      exact retN X101 hx (t := .boolean) Bd.returns (by simp) (hb hby d3_123) hr
  · refine Gl.fin X101 (v := some (.int (0 : Int32))) (fun h => by rw [Bd.returns] at h; cases h) Bd.notSynchronized ?_ e101 (by decide) (by decide) (fun fs hr => ?_)
    · exact ⟨by simp [b2i, hc79], N101, rfl⟩
    · show Steps p.tables e below (T101.setTop (mkF m 79 #[.val (.ref a1), .val (.int p1)] [(.int p1)])) _
      refine XS.ifYes X101.here hx rfl (pc0 := 79) (pc' := 86) rfl (hb hby d3_79) rfl (own_nt (i0_ge _) hc79) (by decide) (by decide) ?_
      show Steps p.tables e below (T101.setTop (mkF m 86 #[.val (.ref a1), .val (.int p1)] [])) _
      refine XS.iconst X101.here hx rfl (hb hby d3_86) ?_
      show Steps p.tables e below (T101.setTop (mkF m 87 #[.val (.ref a1), .val (.int p1)] [(.int (0 : Int32))])) _
      refine XS.goto X101.here hx rfl (pc0 := 87) (pc' := 123) rfl (hb hby d3_87) (by decide) (by decide) ?_
      show Steps p.tables e below (T101.setTop (mkF m 123 #[.val (.ref a1), .val (.int p1)] [(.int (0 : Int32))])) _
      exact retN X101 hx (t := .boolean) Bd.returns (by simp) (hb hby d3_123) hr
theorem ef_rm3_3 (m : MethodId) (x0 : Addr) (x1 : Int32) : entryFrame m #[(.ref x0), (.int x1)] 2 = mkF m 0 #[.val (.ref x0), .val (.int x1)] [] := by first | (simp [entryFrame, mkF, argsToLocals, Value.category]; done) | rfl
theorem d3_90 : decode prog_36_method_5_code 90 = .ok (.iload_n 1, 1) := by decide +kernel
theorem d3_91 : decode prog_36_method_5_code 91 = .ok (.ifCond .gt 7, 3) := by decide +kernel
theorem d3_98 : decode prog_36_method_5_code 98 = .ok (.iconst 0, 1) := by decide +kernel
theorem d3_99 : decode prog_36_method_5_code 99 = .ok (.goto 24, 3) := by decide +kernel
theorem d3_94 : decode prog_36_method_5_code 94 = .ok (.iconst 1, 1) := by decide +kernel
theorem d3_95 : decode prog_36_method_5_code 95 = .ok (.goto 28, 3) := by decide +kernel
def Q3_3 (Z : State) (a1 : Addr) (p1 : Int32) (h0 : Heap) (n0 : Nat) (v : Option Value) (h : Heap) (L : List Loc) : Prop := v = some (.int (b2i (decide (¬ 0 < p1)))) ∧ Fr n0 L ∧ h = h0
set_option maxRecDepth 65536 in
set_option maxHeartbeats 40000000 in
theorem rm3_3 (l : Launch) (Z : State) (a0 : Array Value) (hw : ∀ d ∈ tables_1, d.before a0 Z = true) (ws : List Jvm.Cond) (a1 : Addr) (p1 : Int32) (h0 : Heap) (n0 : Nat) (Z0 : n0 ≤ h0.size) (E_a : Exa Z h0 a1 "com/example/porthcurno/porthcurno/core/SelectorExpression$Relation") (F_o : Fld Z h0 a1 "java/lang/Enum" "ordinal" "I" (.int (3 : Int32))) :
    OMet l Z (⟨"com/example/porthcurno/porthcurno/core/SelectorExpression$Relation", "holds", "(I)Z"⟩ : MethodName) prog_36_method_5_code 2 (some .boolean) ws ({ frames := 1, cells := 0, slots := 0, locals := 13 } : Room) #[(.ref a1), (.int p1)] h0 (Q3_3 Z a1 p1 h0 n0) := by
  refine own_body (plainFor_of_name pn_com_example_porthcurno_porthcurno_core_SelectorExpression_Relation) ?_
  intro p e s m below meth c s₁ Bd hml0 hZ e0
  have hx := Bd.exec
  have hby := Bd.bytes
  have hml : c.maxLocals = 2 := hml0
  have hown : s.vm.findClass "com/example/porthcurno/porthcurno/core/SelectorExpression$Relation" = some m.cls := findClass_of_methodNamed Bd.named
  have hnm := (name_of_methodNamed Bd.named Bd.method).1
  have X0 : Stand p l e ({ frames := 1, cells := 0, slots := 0, locals := 13 } : Room) s m #[(.ref a1), (.int p1)] below meth c s₁ [] 0 0 := Stand.of_body Bd
  have N0 := Fr.nil n0
  have K0 : Keep h0 h0 [] := Keep.refl _ _
  rw [ef_rm3_3]
  obtain ⟨v101, T101, L101, X101, q101, st101⟩ := own_callU X0 hx hZ (y := (⟨"com/example/porthcurno/porthcurno/core/SelectorExpression$Relation", "ordinal", "()I"⟩ : MethodName)) (z := (⟨"java/lang/Enum", "ordinal", "()I"⟩ : MethodName)) (owner := "java/lang/Enum") hown (hw _ (List.mem_of_getElem? (i := 19) rfl)) (hw _ (List.mem_of_getElem? (i := 20) rfl)) (hw _ (List.mem_of_getElem? (i := 21) rfl)) (hw _ (List.mem_of_getElem? (i := 23) rfl)) (hw _ (List.mem_of_getElem? (i := 22) rfl)) (hw _ (List.mem_of_getElem? (i := 24) rfl)) (hw _ (List.mem_of_getElem? (i := 25) rfl)) (by decide) E_a (hM := (rm4 l Z a0 hw [] a1 (3 : Int32) h0 n0 Z0 F_o)) (by decide) (by decide) (by decide) (by decide) e0 (argsL := []) (rest := []) (Ls := #[.val (.ref a1), .val (.int p1)]) (by rw [hml]; rfl) (lenOf pd___I rfl) (W := 0) (Nat.le_of_eq rfl) (hb hby d3_1)
  obtain ⟨rfl, N101q, e101⟩ := q101
  have N101 := Fr.app N0 N101q
  refine Gl.pre (S' := T101.setTop (mkF m 91 #[.val (.ref a1), .val (.int p1)] [(.int p1)])) (fun t kt => ?_) ?_
  · show Steps p.tables e below (s₁.setTop (mkF m 0 #[.val (.ref a1), .val (.int p1)] [])) _
    refine XS.aloadN X0.here hx rfl (hb hby d3_0) rfl rfl ?_
    show Steps p.tables e below (s₁.setTop (mkF m 1 #[.val (.ref a1), .val (.int p1)] [(.ref a1)])) _
    refine st101 _ ?_
    show Steps p.tables e below (T101.setTop (mkF m 4 #[.val (.ref a1), .val (.int p1)] [(.int (3 : Int32))])) _
    refine XS.tswIn X101.here hx rfl (pc0 := 4) (pc' := 90) (o := 86) rfl (hb hby d3_4) rfl (by decide) (by decide) (by decide) (by decide) ?_
    show Steps p.tables e below (T101.setTop (mkF m 90 #[.val (.ref a1), .val (.int p1)] [])) _
    refine XS.iloadN X101.here hx rfl (hb hby d3_90) rfl ?_
    exact kt
  by_cases hc91 : (0 : Int32) < p1
  · refine Gl.fin X101 (v := some (.int (0 : Int32))) (fun h => by rw [Bd.returns] at h; cases h) Bd.notSynchronized ?_ e101 (by decide) (by decide) (fun fs hr => ?_)
    · exact ⟨by simp [b2i, hc91], N101, rfl⟩
    · show Steps p.tables e below (T101.setTop (mkF m 91 #[.val (.ref a1), .val (.int p1)] [(.int p1)])) _
      refine XS.ifYes X101.here hx rfl (pc0 := 91) (pc' := 98) rfl (hb hby d3_91) rfl (own_t (i0_gt _) hc91) (by decide) (by decide) ?_
      show Steps p.tables e below (T101.setTop (mkF m 98 #[.val (.ref a1), .val (.int p1)] [])) _
      refine XS.iconst X101.here hx rfl (hb hby d3_98) ?_
      show Steps p.tables e below (T101.setTop (mkF m 99 #[.val (.ref a1), .val (.int p1)] [(.int (0 : Int32))])) _
      refine XS.goto X101.here hx rfl (pc0 := 99) (pc' := 123) rfl (hb hby d3_99) (by decide) (by decide) ?_
      show Steps p.tables e below (T101.setTop (mkF m 123 #[.val (.ref a1), .val (.int p1)] [(.int (0 : Int32))])) _
      exact retN X101 hx (t := .boolean) Bd.returns (by simp) (hb hby d3_123) hr
  · refine Gl.fin X101 (v := some (.int (1 : Int32))) (fun h => by rw [Bd.returns] at h; cases h) Bd.notSynchronized ?_ e101 (by decide) (by decide) (fun fs hr => ?_)
    · exact ⟨by simp [b2i, hc91], N101, rfl⟩
    · show Steps p.tables e below (T101.setTop (mkF m 91 #[.val (.ref a1), .val (.int p1)] [(.int p1)])) _
      refine XS.ifNo X101.here hx rfl (hb hby d3_91) rfl (own_f (i0_gt _) hc91) ?_
      show Steps p.tables e below (T101.setTop (mkF m 94 #[.val (.ref a1), .val (.int p1)] [])) _
      refine XS.iconst X101.here hx rfl (hb hby d3_94) ?_
      show Steps p.tables e below (T101.setTop (mkF m 95 #[.val (.ref a1), .val (.int p1)] [(.int (1 : Int32))])) _
      refine XS.goto X101.here hx rfl (pc0 := 95) (pc' := 123) rfl (hb hby d3_95) (by decide) (by decide) ?_
      show Steps p.tables e below (T101.setTop (mkF m 123 #[.val (.ref a1), .val (.int p1)] [(.int (1 : Int32))])) _
      exact retN X101 hx (t := .boolean) Bd.returns (by simp) (hb hby d3_123) hr
theorem ef_rm3_4 (m : MethodId) (x0 : Addr) (x1 : Int32) : entryFrame m #[(.ref x0), (.int x1)] 2 = mkF m 0 #[.val (.ref x0), .val (.int x1)] [] := by first | (simp [entryFrame, mkF, argsToLocals, Value.category]; done) | rfl
theorem d3_102 : decode prog_36_method_5_code 102 = .ok (.iload_n 1, 1) := by decide +kernel
theorem d3_103 : decode prog_36_method_5_code 103 = .ok (.ifCond .le 7, 3) := by decide +kernel
theorem d3_106 : decode prog_36_method_5_code 106 = .ok (.iconst 1, 1) := by decide +kernel
theorem d3_107 : decode prog_36_method_5_code 107 = .ok (.goto 16, 3) := by decide +kernel
theorem d3_110 : decode prog_36_method_5_code 110 = .ok (.iconst 0, 1) := by decide +kernel
theorem d3_111 : decode prog_36_method_5_code 111 = .ok (.goto 12, 3) := by decide +kernel
def Q3_4 (Z : State) (a1 : Addr) (p1 : Int32) (h0 : Heap) (n0 : Nat) (v : Option Value) (h : Heap) (L : List Loc) : Prop := v = some (.int (b2i (decide (0 < p1)))) ∧ Fr n0 L ∧ h = h0
set_option maxRecDepth 65536 in
set_option maxHeartbeats 40000000 in
theorem rm3_4 (l : Launch) (Z : State) (a0 : Array Value) (hw : ∀ d ∈ tables_1, d.before a0 Z = true) (ws : List Jvm.Cond) (a1 : Addr) (p1 : Int32) (h0 : Heap) (n0 : Nat) (Z0 : n0 ≤ h0.size) (E_a : Exa Z h0 a1 "com/example/porthcurno/porthcurno/core/SelectorExpression$Relation") (F_o : Fld Z h0 a1 "java/lang/Enum" "ordinal" "I" (.int (4 : Int32))) :
    OMet l Z (⟨"com/example/porthcurno/porthcurno/core/SelectorExpression$Relation", "holds", "(I)Z"⟩ : MethodName) prog_36_method_5_code 2 (some .boolean) ws ({ frames := 1, cells := 0, slots := 0, locals := 13 } : Room) #[(.ref a1), (.int p1)] h0 (Q3_4 Z a1 p1 h0 n0) := by
  refine own_body (plainFor_of_name pn_com_example_porthcurno_porthcurno_core_SelectorExpression_Relation) ?_
  intro p e s m below meth c s₁ Bd hml0 hZ e0
  have hx := Bd.exec
  have hby := Bd.bytes
  have hml : c.maxLocals = 2 := hml0
  have hown : s.vm.findClass "com/example/porthcurno/porthcurno/core/SelectorExpression$Relation" = some m.cls := findClass_of_methodNamed Bd.named
  have hnm := (name_of_methodNamed Bd.named Bd.method).1
  have X0 : Stand p l e ({ frames := 1, cells := 0, slots := 0, locals := 13 } : Room) s m #[(.ref a1), (.int p1)] below meth c s₁ [] 0 0 := Stand.of_body Bd
  have N0 := Fr.nil n0
  have K0 : Keep h0 h0 [] := Keep.refl _ _
  rw [ef_rm3_4]
  obtain ⟨v101, T101, L101, X101, q101, st101⟩ := own_callU X0 hx hZ (y := (⟨"com/example/porthcurno/porthcurno/core/SelectorExpression$Relation", "ordinal", "()I"⟩ : MethodName)) (z := (⟨"java/lang/Enum", "ordinal", "()I"⟩ : MethodName)) (owner := "java/lang/Enum") hown (hw _ (List.mem_of_getElem? (i := 19) rfl)) (hw _ (List.mem_of_getElem? (i := 20) rfl)) (hw _ (List.mem_of_getElem? (i := 21) rfl)) (hw _ (List.mem_of_getElem? (i := 23) rfl)) (hw _ (List.mem_of_getElem? (i := 22) rfl)) (hw _ (List.mem_of_getElem? (i := 24) rfl)) (hw _ (List.mem_of_getElem? (i := 25) rfl)) (by decide) E_a (hM := (rm4 l Z a0 hw [] a1 (4 : Int32) h0 n0 Z0 F_o)) (by decide) (by decide) (by decide) (by decide) e0 (argsL := []) (rest := []) (Ls := #[.val (.ref a1), .val (.int p1)]) (by rw [hml]; rfl) (lenOf pd___I rfl) (W := 0) (Nat.le_of_eq rfl) (hb hby d3_1)
  obtain ⟨rfl, N101q, e101⟩ := q101
  have N101 := Fr.app N0 N101q
  refine Gl.pre (S' := T101.setTop (mkF m 103 #[.val (.ref a1), .val (.int p1)] [(.int p1)])) (fun t kt => ?_) ?_
  · show Steps p.tables e below (s₁.setTop (mkF m 0 #[.val (.ref a1), .val (.int p1)] [])) _
    refine XS.aloadN X0.here hx rfl (hb hby d3_0) rfl rfl ?_
    show Steps p.tables e below (s₁.setTop (mkF m 1 #[.val (.ref a1), .val (.int p1)] [(.ref a1)])) _
    refine st101 _ ?_
    show Steps p.tables e below (T101.setTop (mkF m 4 #[.val (.ref a1), .val (.int p1)] [(.int (4 : Int32))])) _
    refine XS.tswIn X101.here hx rfl (pc0 := 4) (pc' := 102) (o := 98) rfl (hb hby d3_4) rfl (by decide) (by decide) (by decide) (by decide) ?_
    show Steps p.tables e below (T101.setTop (mkF m 102 #[.val (.ref a1), .val (.int p1)] [])) _
    refine XS.iloadN X101.here hx rfl (hb hby d3_102) rfl ?_
    exact kt
  by_cases hc103 : (0 : Int32) < p1
  · refine Gl.fin X101 (v := some (.int (1 : Int32))) (fun h => by rw [Bd.returns] at h; cases h) Bd.notSynchronized ?_ e101 (by decide) (by decide) (fun fs hr => ?_)
    · exact ⟨by simp [b2i, hc103], N101, rfl⟩
    · show Steps p.tables e below (T101.setTop (mkF m 103 #[.val (.ref a1), .val (.int p1)] [(.int p1)])) _
      refine XS.ifNo X101.here hx rfl (hb hby d3_103) rfl (own_nf (i0_le _) hc103) ?_
      show Steps p.tables e below (T101.setTop (mkF m 106 #[.val (.ref a1), .val (.int p1)] [])) _
      refine XS.iconst X101.here hx rfl (hb hby d3_106) ?_
      show Steps p.tables e below (T101.setTop (mkF m 107 #[.val (.ref a1), .val (.int p1)] [(.int (1 : Int32))])) _
      refine XS.goto X101.here hx rfl (pc0 := 107) (pc' := 123) rfl (hb hby d3_107) (by decide) (by decide) ?_
      show Steps p.tables e below (T101.setTop (mkF m 123 #[.val (.ref a1), .val (.int p1)] [(.int (1 : Int32))])) _
      exact retN X101 hx (t := .boolean) Bd.returns (by simp) (hb hby d3_123) hr
  · refine Gl.fin X101 (v := some (.int (0 : Int32))) (fun h => by rw [Bd.returns] at h; cases h) Bd.notSynchronized ?_ e101 (by decide) (by decide) (fun fs hr => ?_)
    · exact ⟨by simp [b2i, hc103], N101, rfl⟩
    · show Steps p.tables e below (T101.setTop (mkF m 103 #[.val (.ref a1), .val (.int p1)] [(.int p1)])) _
      refine XS.ifYes X101.here hx rfl (pc0 := 103) (pc' := 110) rfl (hb hby d3_103) rfl (own_nt (i0_le _) hc103) (by decide) (by decide) ?_
      show Steps p.tables e below (T101.setTop (mkF m 110 #[.val (.ref a1), .val (.int p1)] [])) _
      refine XS.iconst X101.here hx rfl (hb hby d3_110) ?_
      show Steps p.tables e below (T101.setTop (mkF m 111 #[.val (.ref a1), .val (.int p1)] [(.int (0 : Int32))])) _
      refine XS.goto X101.here hx rfl (pc0 := 111) (pc' := 123) rfl (hb hby d3_111) (by decide) (by decide) ?_
      show Steps p.tables e below (T101.setTop (mkF m 123 #[.val (.ref a1), .val (.int p1)] [(.int (0 : Int32))])) _
      exact retN X101 hx (t := .boolean) Bd.returns (by simp) (hb hby d3_123) hr
theorem ef_rm3_5 (m : MethodId) (x0 : Addr) (x1 : Int32) : entryFrame m #[(.ref x0), (.int x1)] 2 = mkF m 0 #[.val (.ref x0), .val (.int x1)] [] := by first | (simp [entryFrame, mkF, argsToLocals, Value.category]; done) | rfl
theorem d3_114 : decode prog_36_method_5_code 114 = .ok (.iload_n 1, 1) := by decide +kernel
theorem d3_115 : decode prog_36_method_5_code 115 = .ok (.ifCond .lt 7, 3) := by decide +kernel
theorem d3_122 : decode prog_36_method_5_code 122 = .ok (.iconst 0, 1) := by decide +kernel
theorem d3_118 : decode prog_36_method_5_code 118 = .ok (.iconst 1, 1) := by decide +kernel
theorem d3_119 : decode prog_36_method_5_code 119 = .ok (.goto 4, 3) := by decide +kernel
def Q3_5 (Z : State) (a1 : Addr) (p1 : Int32) (h0 : Heap) (n0 : Nat) (v : Option Value) (h : Heap) (L : List Loc) : Prop := v = some (.int (b2i (decide (¬ p1 < 0)))) ∧ Fr n0 L ∧ h = h0
set_option maxRecDepth 65536 in
set_option maxHeartbeats 40000000 in
theorem rm3_5 (l : Launch) (Z : State) (a0 : Array Value) (hw : ∀ d ∈ tables_1, d.before a0 Z = true) (ws : List Jvm.Cond) (a1 : Addr) (p1 : Int32) (h0 : Heap) (n0 : Nat) (Z0 : n0 ≤ h0.size) (E_a : Exa Z h0 a1 "com/example/porthcurno/porthcurno/core/SelectorExpression$Relation") (F_o : Fld Z h0 a1 "java/lang/Enum" "ordinal" "I" (.int (5 : Int32))) :
    OMet l Z (⟨"com/example/porthcurno/porthcurno/core/SelectorExpression$Relation", "holds", "(I)Z"⟩ : MethodName) prog_36_method_5_code 2 (some .boolean) ws ({ frames := 1, cells := 0, slots := 0, locals := 13 } : Room) #[(.ref a1), (.int p1)] h0 (Q3_5 Z a1 p1 h0 n0) := by
  refine own_body (plainFor_of_name pn_com_example_porthcurno_porthcurno_core_SelectorExpression_Relation) ?_
  intro p e s m below meth c s₁ Bd hml0 hZ e0
  have hx := Bd.exec
  have hby := Bd.bytes
  have hml : c.maxLocals = 2 := hml0
  have hown : s.vm.findClass "com/example/porthcurno/porthcurno/core/SelectorExpression$Relation" = some m.cls := findClass_of_methodNamed Bd.named
  have hnm := (name_of_methodNamed Bd.named Bd.method).1
  have X0 : Stand p l e ({ frames := 1, cells := 0, slots := 0, locals := 13 } : Room) s m #[(.ref a1), (.int p1)] below meth c s₁ [] 0 0 := Stand.of_body Bd
  have N0 := Fr.nil n0
  have K0 : Keep h0 h0 [] := Keep.refl _ _
  rw [ef_rm3_5]
  obtain ⟨v101, T101, L101, X101, q101, st101⟩ := own_callU X0 hx hZ (y := (⟨"com/example/porthcurno/porthcurno/core/SelectorExpression$Relation", "ordinal", "()I"⟩ : MethodName)) (z := (⟨"java/lang/Enum", "ordinal", "()I"⟩ : MethodName)) (owner := "java/lang/Enum") hown (hw _ (List.mem_of_getElem? (i := 19) rfl)) (hw _ (List.mem_of_getElem? (i := 20) rfl)) (hw _ (List.mem_of_getElem? (i := 21) rfl)) (hw _ (List.mem_of_getElem? (i := 23) rfl)) (hw _ (List.mem_of_getElem? (i := 22) rfl)) (hw _ (List.mem_of_getElem? (i := 24) rfl)) (hw _ (List.mem_of_getElem? (i := 25) rfl)) (by decide) E_a (hM := (rm4 l Z a0 hw [] a1 (5 : Int32) h0 n0 Z0 F_o)) (by decide) (by decide) (by decide) (by decide) e0 (argsL := []) (rest := []) (Ls := #[.val (.ref a1), .val (.int p1)]) (by rw [hml]; rfl) (lenOf pd___I rfl) (W := 0) (Nat.le_of_eq rfl) (hb hby d3_1)
  obtain ⟨rfl, N101q, e101⟩ := q101
  have N101 := Fr.app N0 N101q
  refine Gl.pre (S' := T101.setTop (mkF m 115 #[.val (.ref a1), .val (.int p1)] [(.int p1)])) (fun t kt => ?_) ?_
  · show Steps p.tables e below (s₁.setTop (mkF m 0 #[.val (.ref a1), .val (.int p1)] [])) _
    refine XS.aloadN X0.here hx rfl (hb hby d3_0) rfl rfl ?_
    show Steps p.tables e below (s₁.setTop (mkF m 1 #[.val (.ref a1), .val (.int p1)] [(.ref a1)])) _
    refine st101 _ ?_
    show Steps p.tables e below (T101.setTop (mkF m 4 #[.val (.ref a1), .val (.int p1)] [(.int (5 : Int32))])) _
    refine XS.tswIn X101.here hx rfl (pc0 := 4) (pc' := 114) (o := 110) rfl (hb hby d3_4) rfl (by decide) (by decide) (by decide) (by decide) ?_
    show Steps p.tables e below (T101.setTop (mkF m 114 #[.val (.ref a1), .val (.int p1)] [])) _
    refine XS.iloadN X101.here hx rfl (hb hby d3_114) rfl ?_
    exact kt
  by_cases hc115 : p1 < (0 : Int32)
  · refine Gl.fin X101 (v := some (.int (0 : Int32))) (fun h => by rw [Bd.returns] at h; cases h) Bd.notSynchronized ?_ e101 (by decide) (by decide) (fun fs hr => ?_)
    · exact ⟨by simp [b2i, hc115], N101, rfl⟩
    · show Steps p.tables e below (T101.setTop (mkF m 115 #[.val (.ref a1), .val (.int p1)] [(.int p1)])) _
      refine XS.ifYes X101.here hx rfl (pc0 := 115) (pc' := 122) rfl (hb hby d3_115) rfl (own_t (i0_lt _) hc115) (by decide) (by decide) ?_
      show Steps p.tables e below (T101.setTop (mkF m 122 #[.val (.ref a1), .val (.int p1)] [])) _
      refine XS.iconst X101.here hx rfl (hb hby d3_122) ?_
      show Steps p.tables e below (T101.setTop (mkF m 123 #[.val (.ref a1), .val (.int p1)] [(.int (0 : Int32))])) _
      exact retN X101 hx (t := .boolean) Bd.returns (by simp) (hb hby d3_123) hr
  · refine Gl.fin X101 (v := some (.int (1 : Int32))) (fun h => by rw [Bd.returns] at h; cases h) Bd.notSynchronized ?_ e101 (by decide) (by decide) (fun fs hr => ?_)
    · exact ⟨by simp [b2i, hc115], N101, rfl⟩
    · show Steps p.tables e below (T101.setTop (mkF m 115 #[.val (.ref a1), .val (.int p1)] [(.int p1)])) _
      refine XS.ifNo X101.here hx rfl (hb hby d3_115) rfl (own_f (i0_lt _) hc115) ?_
      show Steps p.tables e below (T101.setTop (mkF m 118 #[.val (.ref a1), .val (.int p1)] [])) _
      refine XS.iconst X101.here hx rfl (hb hby d3_118) ?_
      show Steps p.tables e below (T101.setTop (mkF m 119 #[.val (.ref a1), .val (.int p1)] [(.int (1 : Int32))])) _
      refine XS.goto X101.here hx rfl (pc0 := 119) (pc' := 123) rfl (hb hby d3_119) (by decide) (by decide) ?_
      show Steps p.tables e below (T101.setTop (mkF m 123 #[.val (.ref a1), .val (.int p1)] [(.int (1 : Int32))])) _
      exact retN X101 hx (t := .boolean) Bd.returns (by simp) (hb hby d3_123) hr
theorem ef_rm2e (m : MethodId) (x0 : Addr) : entryFrame m #[(.ref x0)] 1 = mkF m 0 #[.val (.ref x0)] [] := by first | (simp [entryFrame, mkF, argsToLocals, Value.category]; done) | rfl
theorem d2_0 : decode prog_36_method_4_code 0 = .ok (.aload_n 0, 1) := by decide +kernel
theorem d2_1 : decode prog_36_method_4_code 1 = .ok (.getstatic 3, 3) := by decide +kernel
theorem d2_4 : decode prog_36_method_4_code 4 = .ok (.if_acmp .eq 10, 3) := by decide +kernel
theorem d2_14 : decode prog_36_method_4_code 14 = .ok (.iconst 1, 1) := by decide +kernel
theorem d2_15 : decode prog_36_method_4_code 15 = .ok (.goto 4, 3) := by decide +kernel
theorem d2_19 : decode prog_36_method_4_code 19 = .ok (.ireturn, 1) := by decide +kernel
def Q2e (Z : State) (e1 : Addr) (n1 : Addr) (h0 : Heap) (n0 : Nat) (v : Option Value) (h : Heap) (L : List Loc) : Prop := v = some (.int 1) ∧ Fr n0 L ∧ h = h0
set_option maxRecDepth 65536 in
set_option maxHeartbeats 40000000 in
theorem rm2e (l : Launch) (Z : State) (a0 : Array Value) (hw : ∀ d ∈ tables_1, d.before a0 Z = true) (ws : List Jvm.Cond) (e1 : Addr) (n1 : Addr) (h0 : Heap) (n0 : Nat) (Z0 : n0 ≤ h0.size) (S_e : Sta Z h0 "com/example/porthcurno/porthcurno/core/SelectorExpression$Relation" "EQUAL" "Lcom/example/porthcurno/porthcurno/core/SelectorExpression$Relation;" (.ref e1)) (S_n : Sta Z h0 "com/example/porthcurno/porthcurno/core/SelectorExpression$Relation" "NOT_EQUAL" "Lcom/example/porthcurno/porthcurno/core/SelectorExpression$Relation;" (.ref n1)) :
    OMet l Z (⟨"com/example/porthcurno/porthcurno/core/SelectorExpression$Relation", "comparesEquality", "()Z"⟩ : MethodName) prog_36_method_4_code 1 (some .boolean) ws ({ frames := 0, cells := 0, slots := 0, locals := 0 } : Room) #[(.ref e1)] h0 (Q2e Z e1 n1 h0 n0) := by
  refine own_body (plainFor_of_name pn_com_example_porthcurno_porthcurno_core_SelectorExpression_Relation) ?_
  intro p e s m below meth c s₁ Bd hml0 hZ e0
  have hx := Bd.exec
  have hby := Bd.bytes
  have hml : c.maxLocals = 1 := hml0
  have hown : s.vm.findClass "com/example/porthcurno/porthcurno/core/SelectorExpression$Relation" = some m.cls := findClass_of_methodNamed Bd.named
  have hnm := (name_of_methodNamed Bd.named Bd.method).1
  have X0 : Stand p l e ({ frames := 0, cells := 0, slots := 0, locals := 0 } : Room) s m #[(.ref e1)] below meth c s₁ [] 0 0 := Stand.of_body Bd
  have N0 := Fr.nil n0
  have K0 : Keep h0 h0 [] := Keep.refl _ _
  rw [ef_rm2e]
  obtain ⟨T101, X101, e101, st101⟩ := getS2 X0 hx hZ hown (host := "") (Or.inl (hw _ (List.mem_of_getElem? (i := 13) rfl))) Via.refl e0 S_e (g := (mkF m 1 #[.val (.ref e1)] [(.ref e1)])) rfl (hb hby d2_1)
  refine Gl.fin X101 (v := some (.int (1 : Int32))) (fun h => by rw [Bd.returns] at h; cases h) Bd.notSynchronized ?_ e101 (by decide) (by decide) (fun fs hr => ?_)
  · exact ⟨rfl, N0, rfl⟩
  · show Steps p.tables e below (s₁.setTop (mkF m 0 #[.val (.ref e1)] [])) _
    refine XS.aloadN X0.here hx rfl (hb hby d2_0) rfl rfl ?_
    show Steps p.tables e below (s₁.setTop (mkF m 1 #[.val (.ref e1)] [(.ref e1)])) _
    refine st101 _ ?_
    show Steps p.tables e below (T101.setTop (mkF m 4 #[.val (.ref e1)] [(.ref e1), (.ref e1)])) _
    refine Jvm.RoadKit.acmp (g := (mkF m 4 #[.val (.ref e1)] [(.ref e1), (.ref e1)])) X101 hx rfl rfl rfl (pc0 := 4) (pc' := 14) (same := true) rfl (hb hby d2_4) rfl (decide_eq_true rfl) (by decide) (by decide) ?_
    show Steps p.tables e below (T101.setTop (mkF m 14 #[.val (.ref e1)] [])) _
    refine XS.iconst X101.here hx rfl (hb hby d2_14) ?_
    show Steps p.tables e below (T101.setTop (mkF m 15 #[.val (.ref e1)] [(.int (1 : Int32))])) _
    refine XS.goto X101.here hx rfl (pc0 := 15) (pc' := 19) rfl (hb hby d2_15) (by decide) (by decide) ?_
    show Steps p.tables e below (T101.setTop (mkF m 19 #[.val (.ref e1)] [(.int (1 : Int32))])) _
    exact retN X101 hx (t := .boolean) Bd.returns (by simp) (hb hby d2_19) hr
theorem ef_rm2n (m : MethodId) (x0 : Addr) : entryFrame m #[(.ref x0)] 1 = mkF m 0 #[.val (.ref x0)] [] := by first | (simp [entryFrame, mkF, argsToLocals, Value.category]; done) | rfl
theorem d2_7 : decode prog_36_method_4_code 7 = .ok (.aload_n 0, 1) := by decide +kernel
theorem d2_8 : decode prog_36_method_4_code 8 = .ok (.getstatic 7, 3) := by decide +kernel
theorem d2_11 : decode prog_36_method_4_code 11 = .ok (.if_acmp .ne 7, 3) := by decide +kernel
def Q2n (Z : State) (n1 : Addr) (e1 : Addr) (h0 : Heap) (n0 : Nat) (v : Option Value) (h : Heap) (L : List Loc) : Prop := v = some (.int 1) ∧ Fr n0 L ∧ h = h0
set_option maxRecDepth 65536 in
set_option maxHeartbeats 40000000 in
theorem rm2n (l : Launch) (Z : State) (a0 : Array Value) (hw : ∀ d ∈ tables_1, d.before a0 Z = true) (ws : List Jvm.Cond) (n1 : Addr) (e1 : Addr) (h0 : Heap) (n0 : Nat) (Z0 : n0 ≤ h0.size) (S_e : Sta Z h0 "com/example/porthcurno/porthcurno/core/SelectorExpression$Relation" "EQUAL" "Lcom/example/porthcurno/porthcurno/core/SelectorExpression$Relation;" (.ref e1)) (S_n : Sta Z h0 "com/example/porthcurno/porthcurno/core/SelectorExpression$Relation" "NOT_EQUAL" "Lcom/example/porthcurno/porthcurno/core/SelectorExpression$Relation;" (.ref n1)) (ne_n1_e1 : n1 ≠ e1) :
    OMet l Z (⟨"com/example/porthcurno/porthcurno/core/SelectorExpression$Relation", "comparesEquality", "()Z"⟩ : MethodName) prog_36_method_4_code 1 (some .boolean) ws ({ frames := 0, cells := 0, slots := 0, locals := 0 } : Room) #[(.ref n1)] h0 (Q2n Z n1 e1 h0 n0) := by
  refine own_body (plainFor_of_name pn_com_example_porthcurno_porthcurno_core_SelectorExpression_Relation) ?_
  intro p e s m below meth c s₁ Bd hml0 hZ e0
  have hx := Bd.exec
  have hby := Bd.bytes
  have hml : c.maxLocals = 1 := hml0
  have hown : s.vm.findClass "com/example/porthcurno/porthcurno/core/SelectorExpression$Relation" = some m.cls := findClass_of_methodNamed Bd.named
  have hnm := (name_of_methodNamed Bd.named Bd.method).1
  have X0 : Stand p l e ({ frames := 0, cells := 0, slots := 0, locals := 0 } : Room) s m #[(.ref n1)] below meth c s₁ [] 0 0 := Stand.of_body Bd
  have N0 := Fr.nil n0
  have K0 : Keep h0 h0 [] := Keep.refl _ _
  rw [ef_rm2n]
  obtain ⟨T101, X101, e101, st101⟩ := getS2 X0 hx hZ hown (host := "") (Or.inl (hw _ (List.mem_of_getElem? (i := 13) rfl))) Via.refl e0 S_e (g := (mkF m 1 #[.val (.ref n1)] [(.ref n1)])) rfl (hb hby d2_1)
  obtain ⟨T102, X102, e102, st102⟩ := getS2 X101 hx hZ hown (host := "") (Or.inl (hw _ (List.mem_of_getElem? (i := 30) rfl))) Via.refl e101 S_n (g := (mkF m 8 #[.val (.ref n1)] [(.ref n1)])) rfl (hb hby d2_8)
  refine Gl.fin X102 (v := some (.int (1 : Int32))) (fun h => by rw [Bd.returns] at h; cases h) Bd.notSynchronized ?_ e102 (by decide) (by decide) (fun fs hr => ?_)
  · exact ⟨rfl, N0, rfl⟩
  · show Steps p.tables e below (s₁.setTop (mkF m 0 #[.val (.ref n1)] [])) _
    refine XS.aloadN X0.here hx rfl (hb hby d2_0) rfl rfl ?_
    show Steps p.tables e below (s₁.setTop (mkF m 1 #[.val (.ref n1)] [(.ref n1)])) _
    refine st101 _ ?_
    show Steps p.tables e below (T101.setTop (mkF m 4 #[.val (.ref n1)] [(.ref e1), (.ref n1)])) _
    refine Jvm.RoadKit.acmp (g := (mkF m 4 #[.val (.ref n1)] [(.ref e1), (.ref n1)])) X101 hx rfl rfl rfl (pc0 := 4) (pc' := 7) (same := false) rfl (hb hby d2_4) rfl (decide_eq_false fun q => ne_n1_e1 (Value.ref.inj q)) (by decide) (by decide) ?_
    show Steps p.tables e below (T101.setTop (mkF m 7 #[.val (.ref n1)] [])) _
    refine XS.aloadN X101.here hx rfl (hb hby d2_7) rfl rfl ?_
    show Steps p.tables e below (T101.setTop (mkF m 8 #[.val (.ref n1)] [(.ref n1)])) _
    refine st102 _ ?_
    show Steps p.tables e below (T102.setTop (mkF m 11 #[.val (.ref n1)] [(.ref n1), (.ref n1)])) _
    refine Jvm.RoadKit.acmp (g := (mkF m 11 #[.val (.ref n1)] [(.ref n1), (.ref n1)])) X102 hx rfl rfl rfl (pc0 := 11) (pc' := 14) (same := true) rfl (hb hby d2_11) rfl (decide_eq_true rfl) (by decide) (by decide) ?_
    show Steps p.tables e below (T102.setTop (mkF m 14 #[.val (.ref n1)] [])) _
    refine XS.iconst X102.here hx rfl (hb hby d2_14) ?_
    show Steps p.tables e below (T102.setTop (mkF m 15 #[.val (.ref n1)] [(.int (1 : Int32))])) _
    refine XS.goto X102.here hx rfl (pc0 := 15) (pc' := 19) rfl (hb hby d2_15) (by decide) (by decide) ?_
    show Steps p.tables e below (T102.setTop (mkF m 19 #[.val (.ref n1)] [(.int (1 : Int32))])) _
    exact retN X102 hx (t := .boolean) Bd.returns (by simp) (hb hby d2_19) hr
theorem ef_rm2o (m : MethodId) (x0 : Addr) : entryFrame m #[(.ref x0)] 1 = mkF m 0 #[.val (.ref x0)] [] := by first | (simp [entryFrame, mkF, argsToLocals, Value.category]; done) | rfl
theorem d2_18 : decode prog_36_method_4_code 18 = .ok (.iconst 0, 1) := by decide +kernel
def Q2o (Z : State) (a1 : Addr) (e1 : Addr) (n1 : Addr) (h0 : Heap) (n0 : Nat) (v : Option Value) (h : Heap) (L : List Loc) : Prop := v = some (.int 0) ∧ Fr n0 L ∧ h = h0
set_option maxRecDepth 65536 in
set_option maxHeartbeats 40000000 in
theorem rm2o (l : Launch) (Z : State) (a0 : Array Value) (hw : ∀ d ∈ tables_1, d.before a0 Z = true) (ws : List Jvm.Cond) (a1 : Addr) (e1 : Addr) (n1 : Addr) (h0 : Heap) (n0 : Nat) (Z0 : n0 ≤ h0.size) (S_e : Sta Z h0 "com/example/porthcurno/porthcurno/core/SelectorExpression$Relation" "EQUAL" "Lcom/example/porthcurno/porthcurno/core/SelectorExpression$Relation;" (.ref e1)) (S_n : Sta Z h0 "com/example/porthcurno/porthcurno/core/SelectorExpression$Relation" "NOT_EQUAL" "Lcom/example/porthcurno/porthcurno/core/SelectorExpression$Relation;" (.ref n1)) (ne_a1_e1 : a1 ≠ e1) (ne_a1_n1 : a1 ≠ n1) :
    OMet l Z (⟨"com/example/porthcurno/porthcurno/core/SelectorExpression$Relation", "comparesEquality", "()Z"⟩ : MethodName) prog_36_method_4_code 1 (some .boolean) ws ({ frames := 0, cells := 0, slots := 0, locals := 0 } : Room) #[(.ref a1)] h0 (Q2o Z a1 e1 n1 h0 n0) := by
  refine own_body (plainFor_of_name pn_com_example_porthcurno_porthcurno_core_SelectorExpression_Relation) ?_
  intro p e s m below meth c s₁ Bd hml0 hZ e0
  have hx := Bd.exec
  have hby := Bd.bytes
  have hml : c.maxLocals = 1 := hml0
  have hown : s.vm.findClass "com/example/porthcurno/porthcurno/core/SelectorExpression$Relation" = some m.cls := findClass_of_methodNamed Bd.named
  have hnm := (name_of_methodNamed Bd.named Bd.method).1
  have X0 : Stand p l e ({ frames := 0, cells := 0, slots := 0, locals := 0 } : Room) s m #[(.ref a1)] below meth c s₁ [] 0 0 := Stand.of_body Bd
  have N0 := Fr.nil n0
  have K0 : Keep h0 h0 [] := Keep.refl _ _
  rw [ef_rm2o]
  obtain ⟨T101, X101, e101, st101⟩ := getS2 X0 hx hZ hown (host := "") (Or.inl (hw _ (List.mem_of_getElem? (i := 13) rfl))) Via.refl e0 S_e (g := (mkF m 1 #[.val (.ref a1)] [(.ref a1)])) rfl (hb hby d2_1)
  obtain ⟨T102, X102, e102, st102⟩ := getS2 X101 hx hZ hown (host := "") (Or.inl (hw _ (List.mem_of_getElem? (i := 30) rfl))) Via.refl e101 S_n (g := (mkF m 8 #[.val (.ref a1)] [(.ref a1)])) rfl (hb hby d2_8)
  refine Gl.fin X102 (v := some (.int (0 : Int32))) (fun h => by rw [Bd.returns] at h; cases h) Bd.notSynchronized ?_ e102 (by decide) (by decide) (fun fs hr => ?_)
  · exact ⟨rfl, N0, rfl⟩
  · show Steps p.tables e below (s₁.setTop (mkF m 0 #[.val (.ref a1)] [])) _
    refine XS.aloadN X0.here hx rfl (hb hby d2_0) rfl rfl ?_
    show Steps p.tables e below (s₁.setTop (mkF m 1 #[.val (.ref a1)] [(.ref a1)])) _
    refine st101 _ ?_
    show Steps p.tables e below (T101.setTop (mkF m 4 #[.val (.ref a1)] [(.ref e1), (.ref a1)])) _
    refine Jvm.RoadKit.acmp (g := (mkF m 4 #[.val (.ref a1)] [(.ref e1), (.ref a1)])) X101 hx rfl rfl rfl (pc0 := 4) (pc' := 7) (same := false) rfl (hb hby d2_4) rfl (decide_eq_false fun q => ne_a1_e1 (Value.ref.inj q)) (by decide) (by decide) ?_
    show Steps p.tables e below (T101.setTop (mkF m 7 #[.val (.ref a1)] [])) _
    refine XS.aloadN X101.here hx rfl (hb hby d2_7) rfl rfl ?_
    show Steps p.tables e below (T101.setTop (mkF m 8 #[.val (.ref a1)] [(.ref a1)])) _
    refine st102 _ ?_
    show Steps p.tables e below (T102.setTop (mkF m 11 #[.val (.ref a1)] [(.ref n1), (.ref a1)])) _
    refine Jvm.RoadKit.acmp (g := (mkF m 11 #[.val (.ref a1)] [(.ref n1), (.ref a1)])) X102 hx rfl rfl rfl (pc0 := 11) (pc' := 18) (same := false) rfl (hb hby d2_11) rfl (decide_eq_false fun q => ne_a1_n1 (Value.ref.inj q)) (by decide) (by decide) ?_
    show Steps p.tables e below (T102.setTop (mkF m 18 #[.val (.ref a1)] [])) _
    refine XS.iconst X102.here hx rfl (hb hby d2_18) ?_
    show Steps p.tables e below (T102.setTop (mkF m 19 #[.val (.ref a1)] [(.int (0 : Int32))])) _
    exact retN X102 hx (t := .boolean) Bd.returns (by simp) (hb hby d2_19) hr
theorem pn_com_example_porthcurno_porthcurno_core_RelationComparesEqualityPinLaw : plainName "com/example/porthcurno/porthcurno/core/RelationComparesEqualityPinLaw" = true := by first | (simp [plainName, overriddenIn]; done) | decide +kernel
theorem ef_rm1_0 (m : MethodId) (x0 : Int32) : entryFrame m #[(.int x0)] 2 = mkF m 0 #[.val (.int x0), .unset] [] := by first | (simp [entryFrame, mkF, argsToLocals, Value.category]; done) | rfl
theorem d1_0 : decode method_2_code 0 = .ok (.iload_n 0, 1) := by decide +kernel
theorem d1_1 : decode method_2_code 1 = .ok (.ifCond .ne 10, 3) := by decide +kernel
theorem d1_4 : decode method_2_code 4 = .ok (.getstatic 7, 3) := by decide +kernel
theorem d1_7 : decode method_2_code 7 = .ok (.astore_n 1, 1) := by decide +kernel
theorem d1_8 : decode method_2_code 8 = .ok (.goto 55, 3) := by decide +kernel
theorem d1_63 : decode method_2_code 63 = .ok (.aload_n 1, 1) := by decide +kernel
theorem d1_64 : decode method_2_code 64 = .ok (.areturn, 1) := by decide +kernel
def Q1_0 (Z : State) (r1 : Addr) (h0 : Heap) (n0 : Nat) (v : Option Value) (h : Heap) (L : List Loc) : Prop := v = some (.ref r1) ∧ Fr n0 L ∧ h = h0
set_option maxRecDepth 65536 in
set_option maxHeartbeats 40000000 in
theorem rm1_0 (l : Launch) (Z : State) (a0 : Array Value) (hw : ∀ d ∈ tables_1, d.before a0 Z = true) (ws : List Jvm.Cond) (r1 : Addr) (h0 : Heap) (n0 : Nat) (Z0 : n0 ≤ h0.size) (S_r : Sta Z h0 "com/example/porthcurno/porthcurno/core/SelectorExpression$Relation" "EQUAL" "Lcom/example/porthcurno/porthcurno/core/SelectorExpression$Relation;" (.ref r1)) :
    OMet l Z (⟨"com/example/porthcurno/porthcurno/core/RelationComparesEqualityPinLaw", "pick", "(I)Lcom/example/porthcurno/porthcurno/core/SelectorExpression$Relation;"⟩ : MethodName) method_2_code 2 (some (.object "com/example/porthcurno/porthcurno/core/SelectorExpression$Relation")) ws ({ frames := 0, cells := 0, slots := 0, locals := 0 } : Room) #[(.int (0 : Int32))] h0 (Q1_0 Z r1 h0 n0) := by
  refine own_body (plainFor_of_name pn_com_example_porthcurno_porthcurno_core_RelationComparesEqualityPinLaw) ?_
  intro p e s m below meth c s₁ Bd hml0 hZ e0
  have hx := Bd.exec
  have hby := Bd.bytes
  have hml : c.maxLocals = 2 := hml0
  have hown : s.vm.findClass "com/example/porthcurno/porthcurno/core/RelationComparesEqualityPinLaw" = some m.cls := findClass_of_methodNamed Bd.named
  have hnm := (name_of_methodNamed Bd.named Bd.method).1
  have X0 : Stand p l e ({ frames := 0, cells := 0, slots := 0, locals := 0 } : Room) s m #[(.int (0 : Int32))] below meth c s₁ [] 0 0 := Stand.of_body Bd
  have N0 := Fr.nil n0
  have K0 : Keep h0 h0 [] := Keep.refl _ _
  rw [ef_rm1_0]
  obtain ⟨T101, X101, e101, st101⟩ := getS2 X0 hx hZ hown (host := "") (Or.inl (hw _ (List.mem_of_getElem? (i := 5) rfl))) Via.refl e0 S_r (g := (mkF m 4 #[.val (.int (0 : Int32)), .unset] [])) rfl (hb hby d1_4)
  refine Gl.fin X101 (v := some (.ref r1)) (fun h => by rw [Bd.returns] at h; cases h) Bd.notSynchronized ?_ e101 (by decide) (by decide) (fun fs hr => ?_)
  · exact ⟨rfl, N0, rfl⟩
  · show Steps p.tables e below (s₁.setTop (mkF m 0 #[.val (.int (0 : Int32)), .unset] [])) _
    refine XS.iloadN X0.here hx rfl (hb hby d1_0) rfl ?_
    show Steps p.tables e below (s₁.setTop (mkF m 1 #[.val (.int (0 : Int32)), .unset] [(.int (0 : Int32))])) _
    refine XS.ifNo X0.here hx rfl (hb hby d1_1) rfl (own_nf (i0_ne _) (by decide)) ?_
    show Steps p.tables e below (s₁.setTop (mkF m 4 #[.val (.int (0 : Int32)), .unset] [])) _
    refine st101 _ ?_
    show Steps p.tables e below (T101.setTop (mkF m 7 #[.val (.int (0 : Int32)), .unset] [(.ref r1)])) _
    refine XS.astoreN X101.here hx rfl (hb hby d1_7) rfl rfl (l' := #[.val (.int (0 : Int32)), .val (.ref r1)]) rfl ?_
    show Steps p.tables e below (T101.setTop (mkF m 8 #[.val (.int (0 : Int32)), .val (.ref r1)] [])) _
    refine XS.goto X101.here hx rfl (pc0 := 8) (pc' := 63) rfl (hb hby d1_8) (by decide) (by decide) ?_
    show Steps p.tables e below (T101.setTop (mkF m 63 #[.val (.int (0 : Int32)), .val (.ref r1)] [])) _
    refine XS.aloadN X101.here hx rfl (hb hby d1_63) rfl rfl ?_
    show Steps p.tables e below (T101.setTop (mkF m 64 #[.val (.int (0 : Int32)), .val (.ref r1)] [(.ref r1)])) _
    exact own_retR X101 hx Bd.returns rfl rfl rfl (hb hby d1_64) hr
theorem ef_rm1_1 (m : MethodId) (x0 : Int32) : entryFrame m #[(.int x0)] 2 = mkF m 0 #[.val (.int x0), .unset] [] := by first | (simp [entryFrame, mkF, argsToLocals, Value.category]; done) | rfl
theorem d1_11 : decode method_2_code 11 = .ok (.iload_n 0, 1) := by decide +kernel
theorem d1_12 : decode method_2_code 12 = .ok (.iconst 1, 1) := by decide +kernel
theorem d1_13 : decode method_2_code 13 = .ok (.if_icmp .ne 10, 3) := by decide +kernel
theorem d1_16 : decode method_2_code 16 = .ok (.getstatic 13, 3) := by decide +kernel
theorem d1_19 : decode method_2_code 19 = .ok (.astore_n 1, 1) := by decide +kernel
theorem d1_20 : decode method_2_code 20 = .ok (.goto 43, 3) := by decide +kernel
def Q1_1 (Z : State) (r1 : Addr) (h0 : Heap) (n0 : Nat) (v : Option Value) (h : Heap) (L : List Loc) : Prop := v = some (.ref r1) ∧ Fr n0 L ∧ h = h0
set_option maxRecDepth 65536 in
set_option maxHeartbeats 40000000 in
theorem rm1_1 (l : Launch) (Z : State) (a0 : Array Value) (hw : ∀ d ∈ tables_1, d.before a0 Z = true) (ws : List Jvm.Cond) (r1 : Addr) (h0 : Heap) (n0 : Nat) (Z0 : n0 ≤ h0.size) (S_r : Sta Z h0 "com/example/porthcurno/porthcurno/core/SelectorExpression$Relation" "NOT_EQUAL" "Lcom/example/porthcurno/porthcurno/core/SelectorExpression$Relation;" (.ref r1)) :
    OMet l Z (⟨"com/example/porthcurno/porthcurno/core/RelationComparesEqualityPinLaw", "pick", "(I)Lcom/example/porthcurno/porthcurno/core/SelectorExpression$Relation;"⟩ : MethodName) method_2_code 2 (some (.object "com/example/porthcurno/porthcurno/core/SelectorExpression$Relation")) ws ({ frames := 0, cells := 0, slots := 0, locals := 0 } : Room) #[(.int (1 : Int32))] h0 (Q1_1 Z r1 h0 n0) := by
  refine own_body (plainFor_of_name pn_com_example_porthcurno_porthcurno_core_RelationComparesEqualityPinLaw) ?_
  intro p e s m below meth c s₁ Bd hml0 hZ e0
  have hx := Bd.exec
  have hby := Bd.bytes
  have hml : c.maxLocals = 2 := hml0
  have hown : s.vm.findClass "com/example/porthcurno/porthcurno/core/RelationComparesEqualityPinLaw" = some m.cls := findClass_of_methodNamed Bd.named
  have hnm := (name_of_methodNamed Bd.named Bd.method).1
  have X0 : Stand p l e ({ frames := 0, cells := 0, slots := 0, locals := 0 } : Room) s m #[(.int (1 : Int32))] below meth c s₁ [] 0 0 := Stand.of_body Bd
  have N0 := Fr.nil n0
  have K0 : Keep h0 h0 [] := Keep.refl _ _
  rw [ef_rm1_1]
  obtain ⟨T101, X101, e101, st101⟩ := getS2 X0 hx hZ hown (host := "") (Or.inl (hw _ (List.mem_of_getElem? (i := 34) rfl))) Via.refl e0 S_r (g := (mkF m 16 #[.val (.int (1 : Int32)), .unset] [])) rfl (hb hby d1_16)
  refine Gl.fin X101 (v := some (.ref r1)) (fun h => by rw [Bd.returns] at h; cases h) Bd.notSynchronized ?_ e101 (by decide) (by decide) (fun fs hr => ?_)
  · exact ⟨rfl, N0, rfl⟩
  · show Steps p.tables e below (s₁.setTop (mkF m 0 #[.val (.int (1 : Int32)), .unset] [])) _
    refine XS.iloadN X0.here hx rfl (hb hby d1_0) rfl ?_
    show Steps p.tables e below (s₁.setTop (mkF m 1 #[.val (.int (1 : Int32)), .unset] [(.int (1 : Int32))])) _
    refine XS.ifYes X0.here hx rfl (pc0 := 1) (pc' := 11) rfl (hb hby d1_1) rfl (own_nt (i0_ne _) (by decide)) (by decide) (by decide) ?_
    show Steps p.tables e below (s₁.setTop (mkF m 11 #[.val (.int (1 : Int32)), .unset] [])) _
    refine XS.iloadN X0.here hx rfl (hb hby d1_11) rfl ?_
    show Steps p.tables e below (s₁.setTop (mkF m 12 #[.val (.int (1 : Int32)), .unset] [(.int (1 : Int32))])) _
    refine XS.iconst X0.here hx rfl (hb hby d1_12) ?_
    show Steps p.tables e below (s₁.setTop (mkF m 13 #[.val (.int (1 : Int32)), .unset] [(.int (1 : Int32)), (.int (1 : Int32))])) _
    refine XS.icmpNo X0.here hx rfl (hb hby d1_13) rfl (own_nf (ic_ne _ _) (by decide)) ?_
    show Steps p.tables e below (s₁.setTop (mkF m 16 #[.val (.int (1 : Int32)), .unset] [])) _
    refine st101 _ ?_
    show Steps p.tables e below (T101.setTop (mkF m 19 #[.val (.int (1 : Int32)), .unset] [(.ref r1)])) _
    refine XS.astoreN X101.here hx rfl (hb hby d1_19) rfl rfl (l' := #[.val (.int (1 : Int32)), .val (.ref r1)]) rfl ?_
    show Steps p.tables e below (T101.setTop (mkF m 20 #[.val (.int (1 : Int32)), .val (.ref r1)] [])) _
    refine XS.goto X101.here hx rfl (pc0 := 20) (pc' := 63) rfl (hb hby d1_20) (by decide) (by decide) ?_
    show Steps p.tables e below (T101.setTop (mkF m 63 #[.val (.int (1 : Int32)), .val (.ref r1)] [])) _
    refine XS.aloadN X101.here hx rfl (hb hby d1_63) rfl rfl ?_
    show Steps p.tables e below (T101.setTop (mkF m 64 #[.val (.int (1 : Int32)), .val (.ref r1)] [(.ref r1)])) _
    exact own_retR X101 hx Bd.returns rfl rfl rfl (hb hby d1_64) hr
theorem ef_rm1_2 (m : MethodId) (x0 : Int32) : entryFrame m #[(.int x0)] 2 = mkF m 0 #[.val (.int x0), .unset] [] := by first | (simp [entryFrame, mkF, argsToLocals, Value.category]; done) | rfl
theorem d1_23 : decode method_2_code 23 = .ok (.iload_n 0, 1) := by decide +kernel
theorem d1_24 : decode method_2_code 24 = .ok (.iconst 2, 1) := by decide +kernel
theorem d1_25 : decode method_2_code 25 = .ok (.if_icmp .ne 10, 3) := by decide +kernel
theorem d1_28 : decode method_2_code 28 = .ok (.getstatic 16, 3) := by decide +kernel
theorem d1_31 : decode method_2_code 31 = .ok (.astore_n 1, 1) := by decide +kernel
theorem d1_32 : decode method_2_code 32 = .ok (.goto 31, 3) := by decide +kernel
def Q1_2 (Z : State) (r1 : Addr) (h0 : Heap) (n0 : Nat) (v : Option Value) (h : Heap) (L : List Loc) : Prop := v = some (.ref r1) ∧ Fr n0 L ∧ h = h0
set_option maxRecDepth 65536 in
set_option maxHeartbeats 40000000 in
theorem rm1_2 (l : Launch) (Z : State) (a0 : Array Value) (hw : ∀ d ∈ tables_1, d.before a0 Z = true) (ws : List Jvm.Cond) (r1 : Addr) (h0 : Heap) (n0 : Nat) (Z0 : n0 ≤ h0.size) (S_r : Sta Z h0 "com/example/porthcurno/porthcurno/core/SelectorExpression$Relation" "LESS" "Lcom/example/porthcurno/porthcurno/core/SelectorExpression$Relation;" (.ref r1)) :
    OMet l Z (⟨"com/example/porthcurno/porthcurno/core/RelationComparesEqualityPinLaw", "pick", "(I)Lcom/example/porthcurno/porthcurno/core/SelectorExpression$Relation;"⟩ : MethodName) method_2_code 2 (some (.object "com/example/porthcurno/porthcurno/core/SelectorExpression$Relation")) ws ({ frames := 0, cells := 0, slots := 0, locals := 0 } : Room) #[(.int (2 : Int32))] h0 (Q1_2 Z r1 h0 n0) := by
  refine own_body (plainFor_of_name pn_com_example_porthcurno_porthcurno_core_RelationComparesEqualityPinLaw) ?_
  intro p e s m below meth c s₁ Bd hml0 hZ e0
  have hx := Bd.exec
  have hby := Bd.bytes
  have hml : c.maxLocals = 2 := hml0
  have hown : s.vm.findClass "com/example/porthcurno/porthcurno/core/RelationComparesEqualityPinLaw" = some m.cls := findClass_of_methodNamed Bd.named
  have hnm := (name_of_methodNamed Bd.named Bd.method).1
  have X0 : Stand p l e ({ frames := 0, cells := 0, slots := 0, locals := 0 } : Room) s m #[(.int (2 : Int32))] below meth c s₁ [] 0 0 := Stand.of_body Bd
  have N0 := Fr.nil n0
  have K0 : Keep h0 h0 [] := Keep.refl _ _
  rw [ef_rm1_2]
  obtain ⟨T101, X101, e101, st101⟩ := getS2 X0 hx hZ hown (host := "") (Or.inl (hw _ (List.mem_of_getElem? (i := 32) rfl))) Via.refl e0 S_r (g := (mkF m 28 #[.val (.int (2 : Int32)), .unset] [])) rfl (hb hby d1_28)
  refine Gl.fin X101 (v := some (.ref r1)) (fun h => by rw [Bd.returns] at h; cases h) Bd.notSynchronized ?_ e101 (by decide) (by decide) (fun fs hr => ?_)
  · exact ⟨rfl, N0, rfl⟩
  · show Steps p.tables e below (s₁.setTop (mkF m 0 #[.val (.int (2 : Int32)), .unset] [])) _
    refine XS.iloadN X0.here hx rfl (hb hby d1_0) rfl ?_
    show Steps p.tables e below (s₁.setTop (mkF m 1 #[.val (.int (2 : Int32)), .unset] [(.int (2 : Int32))])) _
    refine XS.ifYes X0.here hx rfl (pc0 := 1) (pc' := 11) rfl (hb hby d1_1) rfl (own_nt (i0_ne _) (by decide)) (by decide) (by decide) ?_
    show Steps p.tables e below (s₁.setTop (mkF m 11 #[.val (.int (2 : Int32)), .unset] [])) _
    refine XS.iloadN X0.here hx rfl (hb hby d1_11) rfl ?_
    show Steps p.tables e below (s₁.setTop (mkF m 12 #[.val (.int (2 : Int32)), .unset] [(.int (2 : Int32))])) _
    refine XS.iconst X0.here hx rfl (hb hby d1_12) ?_
    show Steps p.tables e below (s₁.setTop (mkF m 13 #[.val (.int (2 : Int32)), .unset] [(.int (1 : Int32)), (.int (2 : Int32))])) _
    refine XS.icmpYes X0.here hx rfl (pc0 := 13) (pc' := 23) rfl (hb hby d1_13) rfl (own_nt (ic_ne _ _) (by decide)) (by decide) (by decide) ?_
    show Steps p.tables e below (s₁.setTop (mkF m 23 #[.val (.int (2 : Int32)), .unset] [])) _
    refine XS.iloadN X0.here hx rfl (hb hby d1_23) rfl ?_
    show Steps p.tables e below (s₁.setTop (mkF m 24 #[.val (.int (2 : Int32)), .unset] [(.int (2 : Int32))])) _
    refine XS.iconst X0.here hx rfl (hb hby d1_24) ?_
    show Steps p.tables e below (s₁.setTop (mkF m 25 #[.val (.int (2 : Int32)), .unset] [(.int (2 : Int32)), (.int (2 : Int32))])) _
    refine XS.icmpNo X0.here hx rfl (hb hby d1_25) rfl (own_nf (ic_ne _ _) (by decide)) ?_
    show Steps p.tables e below (s₁.setTop (mkF m 28 #[.val (.int (2 : Int32)), .unset] [])) _
    refine st101 _ ?_
    show Steps p.tables e below (T101.setTop (mkF m 31 #[.val (.int (2 : Int32)), .unset] [(.ref r1)])) _
    refine XS.astoreN X101.here hx rfl (hb hby d1_31) rfl rfl (l' := #[.val (.int (2 : Int32)), .val (.ref r1)]) rfl ?_
    show Steps p.tables e below (T101.setTop (mkF m 32 #[.val (.int (2 : Int32)), .val (.ref r1)] [])) _
    refine XS.goto X101.here hx rfl (pc0 := 32) (pc' := 63) rfl (hb hby d1_32) (by decide) (by decide) ?_
    show Steps p.tables e below (T101.setTop (mkF m 63 #[.val (.int (2 : Int32)), .val (.ref r1)] [])) _
    refine XS.aloadN X101.here hx rfl (hb hby d1_63) rfl rfl ?_
    show Steps p.tables e below (T101.setTop (mkF m 64 #[.val (.int (2 : Int32)), .val (.ref r1)] [(.ref r1)])) _
    exact own_retR X101 hx Bd.returns rfl rfl rfl (hb hby d1_64) hr
theorem ef_rm1_3 (m : MethodId) (x0 : Int32) : entryFrame m #[(.int x0)] 2 = mkF m 0 #[.val (.int x0), .unset] [] := by first | (simp [entryFrame, mkF, argsToLocals, Value.category]; done) | rfl
theorem d1_35 : decode method_2_code 35 = .ok (.iload_n 0, 1) := by decide +kernel
theorem d1_36 : decode method_2_code 36 = .ok (.iconst 3, 1) := by decide +kernel
theorem d1_37 : decode method_2_code 37 = .ok (.if_icmp .ne 10, 3) := by decide +kernel
theorem d1_40 : decode method_2_code 40 = .ok (.getstatic 19, 3) := by decide +kernel
theorem d1_43 : decode method_2_code 43 = .ok (.astore_n 1, 1) := by decide +kernel
theorem d1_44 : decode method_2_code 44 = .ok (.goto 19, 3) := by decide +kernel
def Q1_3 (Z : State) (r1 : Addr) (h0 : Heap) (n0 : Nat) (v : Option Value) (h : Heap) (L : List Loc) : Prop := v = some (.ref r1) ∧ Fr n0 L ∧ h = h0
set_option maxRecDepth 65536 in
set_option maxHeartbeats 40000000 in
theorem rm1_3 (l : Launch) (Z : State) (a0 : Array Value) (hw : ∀ d ∈ tables_1, d.before a0 Z = true) (ws : List Jvm.Cond) (r1 : Addr) (h0 : Heap) (n0 : Nat) (Z0 : n0 ≤ h0.size) (S_r : Sta Z h0 "com/example/porthcurno/porthcurno/core/SelectorExpression$Relation" "LESS_OR_EQUAL" "Lcom/example/porthcurno/porthcurno/core/SelectorExpression$Relation;" (.ref r1)) :
    OMet l Z (⟨"com/example/porthcurno/porthcurno/core/RelationComparesEqualityPinLaw", "pick", "(I)Lcom/example/porthcurno/porthcurno/core/SelectorExpression$Relation;"⟩ : MethodName) method_2_code 2 (some (.object "com/example/porthcurno/porthcurno/core/SelectorExpression$Relation")) ws ({ frames := 0, cells := 0, slots := 0, locals := 0 } : Room) #[(.int (3 : Int32))] h0 (Q1_3 Z r1 h0 n0) := by
  refine own_body (plainFor_of_name pn_com_example_porthcurno_porthcurno_core_RelationComparesEqualityPinLaw) ?_
  intro p e s m below meth c s₁ Bd hml0 hZ e0
  have hx := Bd.exec
  have hby := Bd.bytes
  have hml : c.maxLocals = 2 := hml0
  have hown : s.vm.findClass "com/example/porthcurno/porthcurno/core/RelationComparesEqualityPinLaw" = some m.cls := findClass_of_methodNamed Bd.named
  have hnm := (name_of_methodNamed Bd.named Bd.method).1
  have X0 : Stand p l e ({ frames := 0, cells := 0, slots := 0, locals := 0 } : Room) s m #[(.int (3 : Int32))] below meth c s₁ [] 0 0 := Stand.of_body Bd
  have N0 := Fr.nil n0
  have K0 : Keep h0 h0 [] := Keep.refl _ _
  rw [ef_rm1_3]
  obtain ⟨T101, X101, e101, st101⟩ := getS2 X0 hx hZ hown (host := "") (Or.inl (hw _ (List.mem_of_getElem? (i := 28) rfl))) Via.refl e0 S_r (g := (mkF m 40 #[.val (.int (3 : Int32)), .unset] [])) rfl (hb hby d1_40)
  refine Gl.fin X101 (v := some (.ref r1)) (fun h => by rw [Bd.returns] at h; cases h) Bd.notSynchronized ?_ e101 (by decide) (by decide) (fun fs hr => ?_)
  · exact ⟨rfl, N0, rfl⟩
  · show Steps p.tables e below (s₁.setTop (mkF m 0 #[.val (.int (3 : Int32)), .unset] [])) _
    refine XS.iloadN X0.here hx rfl (hb hby d1_0) rfl ?_
    show Steps p.tables e below (s₁.setTop (mkF m 1 #[.val (.int (3 : Int32)), .unset] [(.int (3 : Int32))])) _
    refine XS.ifYes X0.here hx rfl (pc0 := 1) (pc' := 11) rfl (hb hby d1_1) rfl (own_nt (i0_ne _) (by decide)) (by decide) (by decide) ?_
    show Steps p.tables e below (s₁.setTop (mkF m 11 #[.val (.int (3 : Int32)), .unset] [])) _
    refine XS.iloadN X0.here hx rfl (hb hby d1_11) rfl ?_
    show Steps p.tables e below (s₁.setTop (mkF m 12 #[.val (.int (3 : Int32)), .unset] [(.int (3 : Int32))])) _
    refine XS.iconst X0.here hx rfl (hb hby d1_12) ?_
    show Steps p.tables e below (s₁.setTop (mkF m 13 #[.val (.int (3 : Int32)), .unset] [(.int (1 : Int32)), (.int (3 : Int32))])) _
    refine XS.icmpYes X0.here hx rfl (pc0 := 13) (pc' := 23) rfl (hb hby d1_13) rfl (own_nt (ic_ne _ _) (by decide)) (by decide) (by decide) ?_
    show Steps p.tables e below (s₁.setTop (mkF m 23 #[.val (.int (3 : Int32)), .unset] [])) _
    refine XS.iloadN X0.here hx rfl (hb hby d1_23) rfl ?_
    show Steps p.tables e below (s₁.setTop (mkF m 24 #[.val (.int (3 : Int32)), .unset] [(.int (3 : Int32))])) _
    refine XS.iconst X0.here hx rfl (hb hby d1_24) ?_
    show Steps p.tables e below (s₁.setTop (mkF m 25 #[.val (.int (3 : Int32)), .unset] [(.int (2 : Int32)), (.int (3 : Int32))])) _
    refine XS.icmpYes X0.here hx rfl (pc0 := 25) (pc' := 35) rfl (hb hby d1_25) rfl (own_nt (ic_ne _ _) (by decide)) (by decide) (by decide) ?_
    show Steps p.tables e below (s₁.setTop (mkF m 35 #[.val (.int (3 : Int32)), .unset] [])) _
    refine XS.iloadN X0.here hx rfl (hb hby d1_35) rfl ?_
    show Steps p.tables e below (s₁.setTop (mkF m 36 #[.val (.int (3 : Int32)), .unset] [(.int (3 : Int32))])) _
    refine XS.iconst X0.here hx rfl (hb hby d1_36) ?_
    show Steps p.tables e below (s₁.setTop (mkF m 37 #[.val (.int (3 : Int32)), .unset] [(.int (3 : Int32)), (.int (3 : Int32))])) _
    refine XS.icmpNo X0.here hx rfl (hb hby d1_37) rfl (own_nf (ic_ne _ _) (by decide)) ?_
    show Steps p.tables e below (s₁.setTop (mkF m 40 #[.val (.int (3 : Int32)), .unset] [])) _
    refine st101 _ ?_
    show Steps p.tables e below (T101.setTop (mkF m 43 #[.val (.int (3 : Int32)), .unset] [(.ref r1)])) _
    refine XS.astoreN X101.here hx rfl (hb hby d1_43) rfl rfl (l' := #[.val (.int (3 : Int32)), .val (.ref r1)]) rfl ?_
    show Steps p.tables e below (T101.setTop (mkF m 44 #[.val (.int (3 : Int32)), .val (.ref r1)] [])) _
    refine XS.goto X101.here hx rfl (pc0 := 44) (pc' := 63) rfl (hb hby d1_44) (by decide) (by decide) ?_
    show Steps p.tables e below (T101.setTop (mkF m 63 #[.val (.int (3 : Int32)), .val (.ref r1)] [])) _
    refine XS.aloadN X101.here hx rfl (hb hby d1_63) rfl rfl ?_
    show Steps p.tables e below (T101.setTop (mkF m 64 #[.val (.int (3 : Int32)), .val (.ref r1)] [(.ref r1)])) _
    exact own_retR X101 hx Bd.returns rfl rfl rfl (hb hby d1_64) hr
theorem ef_rm1_4 (m : MethodId) (x0 : Int32) : entryFrame m #[(.int x0)] 2 = mkF m 0 #[.val (.int x0), .unset] [] := by first | (simp [entryFrame, mkF, argsToLocals, Value.category]; done) | rfl
theorem d1_47 : decode method_2_code 47 = .ok (.iload_n 0, 1) := by decide +kernel
theorem d1_48 : decode method_2_code 48 = .ok (.iconst 4, 1) := by decide +kernel
theorem d1_49 : decode method_2_code 49 = .ok (.if_icmp .ne 10, 3) := by decide +kernel
theorem d1_52 : decode method_2_code 52 = .ok (.getstatic 22, 3) := by decide +kernel
theorem d1_55 : decode method_2_code 55 = .ok (.astore_n 1, 1) := by decide +kernel
theorem d1_56 : decode method_2_code 56 = .ok (.goto 7, 3) := by decide +kernel
def Q1_4 (Z : State) (r1 : Addr) (h0 : Heap) (n0 : Nat) (v : Option Value) (h : Heap) (L : List Loc) : Prop := v = some (.ref r1) ∧ Fr n0 L ∧ h = h0
set_option maxRecDepth 65536 in
set_option maxHeartbeats 40000000 in
theorem rm1_4 (l : Launch) (Z : State) (a0 : Array Value) (hw : ∀ d ∈ tables_1, d.before a0 Z = true) (ws : List Jvm.Cond) (r1 : Addr) (h0 : Heap) (n0 : Nat) (Z0 : n0 ≤ h0.size) (S_r : Sta Z h0 "com/example/porthcurno/porthcurno/core/SelectorExpression$Relation" "GREATER" "Lcom/example/porthcurno/porthcurno/core/SelectorExpression$Relation;" (.ref r1)) :
    OMet l Z (⟨"com/example/porthcurno/porthcurno/core/RelationComparesEqualityPinLaw", "pick", "(I)Lcom/example/porthcurno/porthcurno/core/SelectorExpression$Relation;"⟩ : MethodName) method_2_code 2 (some (.object "com/example/porthcurno/porthcurno/core/SelectorExpression$Relation")) ws ({ frames := 0, cells := 0, slots := 0, locals := 0 } : Room) #[(.int (4 : Int32))] h0 (Q1_4 Z r1 h0 n0) := by
  refine own_body (plainFor_of_name pn_com_example_porthcurno_porthcurno_core_RelationComparesEqualityPinLaw) ?_
  intro p e s m below meth c s₁ Bd hml0 hZ e0
  have hx := Bd.exec
  have hby := Bd.bytes
  have hml : c.maxLocals = 2 := hml0
  have hown : s.vm.findClass "com/example/porthcurno/porthcurno/core/RelationComparesEqualityPinLaw" = some m.cls := findClass_of_methodNamed Bd.named
  have hnm := (name_of_methodNamed Bd.named Bd.method).1
  have X0 : Stand p l e ({ frames := 0, cells := 0, slots := 0, locals := 0 } : Room) s m #[(.int (4 : Int32))] below meth c s₁ [] 0 0 := Stand.of_body Bd
  have N0 := Fr.nil n0
  have K0 : Keep h0 h0 [] := Keep.refl _ _
  rw [ef_rm1_4]
  obtain ⟨T101, X101, e101, st101⟩ := getS2 X0 hx hZ hown (host := "") (Or.inl (hw _ (List.mem_of_getElem? (i := 37) rfl))) Via.refl e0 S_r (g := (mkF m 52 #[.val (.int (4 : Int32)), .unset] [])) rfl (hb hby d1_52)
  refine Gl.fin X101 (v := some (.ref r1)) (fun h => by rw [Bd.returns] at h; cases h) Bd.notSynchronized ?_ e101 (by decide) (by decide) (fun fs hr => ?_)
  · exact ⟨rfl, N0, rfl⟩
  · show Steps p.tables e below (s₁.setTop (mkF m 0 #[.val (.int (4 : Int32)), .unset] [])) _
    refine XS.iloadN X0.here hx rfl (hb hby d1_0) rfl ?_
    show Steps p.tables e below (s₁.setTop (mkF m 1 #[.val (.int (4 : Int32)), .unset] [(.int (4 : Int32))])) _
    refine XS.ifYes X0.here hx rfl (pc0 := 1) (pc' := 11) rfl (hb hby d1_1) rfl (own_nt (i0_ne _) (by decide)) (by decide) (by decide) ?_
    show Steps p.tables e below (s₁.setTop (mkF m 11 #[.val (.int (4 : Int32)), .unset] [])) _
    refine XS.iloadN X0.here hx rfl (hb hby d1_11) rfl ?_
    show Steps p.tables e below (s₁.setTop (mkF m 12 #[.val (.int (4 : Int32)), .unset] [(.int (4 : Int32))])) _
    refine XS.iconst X0.here hx rfl (hb hby d1_12) ?_
    show Steps p.tables e below (s₁.setTop (mkF m 13 #[.val (.int (4 : Int32)), .unset] [(.int (1 : Int32)), (.int (4 : Int32))])) _
    refine XS.icmpYes X0.here hx rfl (pc0 := 13) (pc' := 23) rfl (hb hby d1_13) rfl (own_nt (ic_ne _ _) (by decide)) (by decide) (by decide) ?_
    show Steps p.tables e below (s₁.setTop (mkF m 23 #[.val (.int (4 : Int32)), .unset] [])) _
    refine XS.iloadN X0.here hx rfl (hb hby d1_23) rfl ?_
    show Steps p.tables e below (s₁.setTop (mkF m 24 #[.val (.int (4 : Int32)), .unset] [(.int (4 : Int32))])) _
    refine XS.iconst X0.here hx rfl (hb hby d1_24) ?_
    show Steps p.tables e below (s₁.setTop (mkF m 25 #[.val (.int (4 : Int32)), .unset] [(.int (2 : Int32)), (.int (4 : Int32))])) _
    refine XS.icmpYes X0.here hx rfl (pc0 := 25) (pc' := 35) rfl (hb hby d1_25) rfl (own_nt (ic_ne _ _) (by decide)) (by decide) (by decide) ?_
    show Steps p.tables e below (s₁.setTop (mkF m 35 #[.val (.int (4 : Int32)), .unset] [])) _
    refine XS.iloadN X0.here hx rfl (hb hby d1_35) rfl ?_
    show Steps p.tables e below (s₁.setTop (mkF m 36 #[.val (.int (4 : Int32)), .unset] [(.int (4 : Int32))])) _
    refine XS.iconst X0.here hx rfl (hb hby d1_36) ?_
    show Steps p.tables e below (s₁.setTop (mkF m 37 #[.val (.int (4 : Int32)), .unset] [(.int (3 : Int32)), (.int (4 : Int32))])) _
    refine XS.icmpYes X0.here hx rfl (pc0 := 37) (pc' := 47) rfl (hb hby d1_37) rfl (own_nt (ic_ne _ _) (by decide)) (by decide) (by decide) ?_
    show Steps p.tables e below (s₁.setTop (mkF m 47 #[.val (.int (4 : Int32)), .unset] [])) _
    refine XS.iloadN X0.here hx rfl (hb hby d1_47) rfl ?_
    show Steps p.tables e below (s₁.setTop (mkF m 48 #[.val (.int (4 : Int32)), .unset] [(.int (4 : Int32))])) _
    refine XS.iconst X0.here hx rfl (hb hby d1_48) ?_
    show Steps p.tables e below (s₁.setTop (mkF m 49 #[.val (.int (4 : Int32)), .unset] [(.int (4 : Int32)), (.int (4 : Int32))])) _
    refine XS.icmpNo X0.here hx rfl (hb hby d1_49) rfl (own_nf (ic_ne _ _) (by decide)) ?_
    show Steps p.tables e below (s₁.setTop (mkF m 52 #[.val (.int (4 : Int32)), .unset] [])) _
    refine st101 _ ?_
    show Steps p.tables e below (T101.setTop (mkF m 55 #[.val (.int (4 : Int32)), .unset] [(.ref r1)])) _
    refine XS.astoreN X101.here hx rfl (hb hby d1_55) rfl rfl (l' := #[.val (.int (4 : Int32)), .val (.ref r1)]) rfl ?_
    show Steps p.tables e below (T101.setTop (mkF m 56 #[.val (.int (4 : Int32)), .val (.ref r1)] [])) _
    refine XS.goto X101.here hx rfl (pc0 := 56) (pc' := 63) rfl (hb hby d1_56) (by decide) (by decide) ?_
    show Steps p.tables e below (T101.setTop (mkF m 63 #[.val (.int (4 : Int32)), .val (.ref r1)] [])) _
    refine XS.aloadN X101.here hx rfl (hb hby d1_63) rfl rfl ?_
    show Steps p.tables e below (T101.setTop (mkF m 64 #[.val (.int (4 : Int32)), .val (.ref r1)] [(.ref r1)])) _
    exact own_retR X101 hx Bd.returns rfl rfl rfl (hb hby d1_64) hr
theorem ef_rm1_5 (m : MethodId) (x0 : Int32) : entryFrame m #[(.int x0)] 2 = mkF m 0 #[.val (.int x0), .unset] [] := by first | (simp [entryFrame, mkF, argsToLocals, Value.category]; done) | rfl
theorem d1_59 : decode method_2_code 59 = .ok (.getstatic 25, 3) := by decide +kernel
theorem d1_62 : decode method_2_code 62 = .ok (.astore_n 1, 1) := by decide +kernel
def Q1_5 (Z : State) (r1 : Addr) (h0 : Heap) (n0 : Nat) (v : Option Value) (h : Heap) (L : List Loc) : Prop := v = some (.ref r1) ∧ Fr n0 L ∧ h = h0
set_option maxRecDepth 65536 in
set_option maxHeartbeats 40000000 in
theorem rm1_5 (l : Launch) (Z : State) (a0 : Array Value) (hw : ∀ d ∈ tables_1, d.before a0 Z = true) (ws : List Jvm.Cond) (r1 : Addr) (h0 : Heap) (n0 : Nat) (Z0 : n0 ≤ h0.size) (S_r : Sta Z h0 "com/example/porthcurno/porthcurno/core/SelectorExpression$Relation" "GREATER_OR_EQUAL" "Lcom/example/porthcurno/porthcurno/core/SelectorExpression$Relation;" (.ref r1)) :
    OMet l Z (⟨"com/example/porthcurno/porthcurno/core/RelationComparesEqualityPinLaw", "pick", "(I)Lcom/example/porthcurno/porthcurno/core/SelectorExpression$Relation;"⟩ : MethodName) method_2_code 2 (some (.object "com/example/porthcurno/porthcurno/core/SelectorExpression$Relation")) ws ({ frames := 0, cells := 0, slots := 0, locals := 0 } : Room) #[(.int (5 : Int32))] h0 (Q1_5 Z r1 h0 n0) := by
  refine own_body (plainFor_of_name pn_com_example_porthcurno_porthcurno_core_RelationComparesEqualityPinLaw) ?_
  intro p e s m below meth c s₁ Bd hml0 hZ e0
  have hx := Bd.exec
  have hby := Bd.bytes
  have hml : c.maxLocals = 2 := hml0
  have hown : s.vm.findClass "com/example/porthcurno/porthcurno/core/RelationComparesEqualityPinLaw" = some m.cls := findClass_of_methodNamed Bd.named
  have hnm := (name_of_methodNamed Bd.named Bd.method).1
  have X0 : Stand p l e ({ frames := 0, cells := 0, slots := 0, locals := 0 } : Room) s m #[(.int (5 : Int32))] below meth c s₁ [] 0 0 := Stand.of_body Bd
  have N0 := Fr.nil n0
  have K0 : Keep h0 h0 [] := Keep.refl _ _
  rw [ef_rm1_5]
  obtain ⟨T101, X101, e101, st101⟩ := getS2 X0 hx hZ hown (host := "") (Or.inl (hw _ (List.mem_of_getElem? (i := 35) rfl))) Via.refl e0 S_r (g := (mkF m 59 #[.val (.int (5 : Int32)), .unset] [])) rfl (hb hby d1_59)
  refine Gl.fin X101 (v := some (.ref r1)) (fun h => by rw [Bd.returns] at h; cases h) Bd.notSynchronized ?_ e101 (by decide) (by decide) (fun fs hr => ?_)
  · exact ⟨rfl, N0, rfl⟩
  · show Steps p.tables e below (s₁.setTop (mkF m 0 #[.val (.int (5 : Int32)), .unset] [])) _
    refine XS.iloadN X0.here hx rfl (hb hby d1_0) rfl ?_
    show Steps p.tables e below (s₁.setTop (mkF m 1 #[.val (.int (5 : Int32)), .unset] [(.int (5 : Int32))])) _
    refine XS.ifYes X0.here hx rfl (pc0 := 1) (pc' := 11) rfl (hb hby d1_1) rfl (own_nt (i0_ne _) (by decide)) (by decide) (by decide) ?_
    show Steps p.tables e below (s₁.setTop (mkF m 11 #[.val (.int (5 : Int32)), .unset] [])) _
    refine XS.iloadN X0.here hx rfl (hb hby d1_11) rfl ?_
    show Steps p.tables e below (s₁.setTop (mkF m 12 #[.val (.int (5 : Int32)), .unset] [(.int (5 : Int32))])) _
    refine XS.iconst X0.here hx rfl (hb hby d1_12) ?_
    show Steps p.tables e below (s₁.setTop (mkF m 13 #[.val (.int (5 : Int32)), .unset] [(.int (1 : Int32)), (.int (5 : Int32))])) _
    refine XS.icmpYes X0.here hx rfl (pc0 := 13) (pc' := 23) rfl (hb hby d1_13) rfl (own_nt (ic_ne _ _) (by decide)) (by decide) (by decide) ?_
    show Steps p.tables e below (s₁.setTop (mkF m 23 #[.val (.int (5 : Int32)), .unset] [])) _
    refine XS.iloadN X0.here hx rfl (hb hby d1_23) rfl ?_
    show Steps p.tables e below (s₁.setTop (mkF m 24 #[.val (.int (5 : Int32)), .unset] [(.int (5 : Int32))])) _
    refine XS.iconst X0.here hx rfl (hb hby d1_24) ?_
    show Steps p.tables e below (s₁.setTop (mkF m 25 #[.val (.int (5 : Int32)), .unset] [(.int (2 : Int32)), (.int (5 : Int32))])) _
    refine XS.icmpYes X0.here hx rfl (pc0 := 25) (pc' := 35) rfl (hb hby d1_25) rfl (own_nt (ic_ne _ _) (by decide)) (by decide) (by decide) ?_
    show Steps p.tables e below (s₁.setTop (mkF m 35 #[.val (.int (5 : Int32)), .unset] [])) _
    refine XS.iloadN X0.here hx rfl (hb hby d1_35) rfl ?_
    show Steps p.tables e below (s₁.setTop (mkF m 36 #[.val (.int (5 : Int32)), .unset] [(.int (5 : Int32))])) _
    refine XS.iconst X0.here hx rfl (hb hby d1_36) ?_
    show Steps p.tables e below (s₁.setTop (mkF m 37 #[.val (.int (5 : Int32)), .unset] [(.int (3 : Int32)), (.int (5 : Int32))])) _
    refine XS.icmpYes X0.here hx rfl (pc0 := 37) (pc' := 47) rfl (hb hby d1_37) rfl (own_nt (ic_ne _ _) (by decide)) (by decide) (by decide) ?_
    show Steps p.tables e below (s₁.setTop (mkF m 47 #[.val (.int (5 : Int32)), .unset] [])) _
    refine XS.iloadN X0.here hx rfl (hb hby d1_47) rfl ?_
    show Steps p.tables e below (s₁.setTop (mkF m 48 #[.val (.int (5 : Int32)), .unset] [(.int (5 : Int32))])) _
    refine XS.iconst X0.here hx rfl (hb hby d1_48) ?_
    show Steps p.tables e below (s₁.setTop (mkF m 49 #[.val (.int (5 : Int32)), .unset] [(.int (4 : Int32)), (.int (5 : Int32))])) _
    refine XS.icmpYes X0.here hx rfl (pc0 := 49) (pc' := 59) rfl (hb hby d1_49) rfl (own_nt (ic_ne _ _) (by decide)) (by decide) (by decide) ?_
    show Steps p.tables e below (s₁.setTop (mkF m 59 #[.val (.int (5 : Int32)), .unset] [])) _
    refine st101 _ ?_
    show Steps p.tables e below (T101.setTop (mkF m 62 #[.val (.int (5 : Int32)), .unset] [(.ref r1)])) _
    refine XS.astoreN X101.here hx rfl (hb hby d1_62) rfl rfl (l' := #[.val (.int (5 : Int32)), .val (.ref r1)]) rfl ?_
    show Steps p.tables e below (T101.setTop (mkF m 63 #[.val (.int (5 : Int32)), .val (.ref r1)] [])) _
    refine XS.aloadN X101.here hx rfl (hb hby d1_63) rfl rfl ?_
    show Steps p.tables e below (T101.setTop (mkF m 64 #[.val (.int (5 : Int32)), .val (.ref r1)] [(.ref r1)])) _
    exact own_retR X101 hx Bd.returns rfl rfl rfl (hb hby d1_64) hr
theorem ef_rm0 (m : MethodId) (x0 : Int32) : entryFrame m #[(.int x0)] maxLocals = mkF m 0 #[.val (.int x0), .unset, .unset, .unset, .unset, .unset] [] := by first | (simp [entryFrame, mkF, argsToLocals, Value.category, maxLocals]; done) | rfl
theorem pd__I_Lcom_example_porthcurno_porthcurno_core_SelectorExpression_Relation_ : parseMethodDescriptor "(I)Lcom/example/porthcurno/porthcurno/core/SelectorExpression$Relation;" = some ⟨[.int], some (.object "com/example/porthcurno/porthcurno/core/SelectorExpression$Relation")⟩ := by decide +kernel
theorem pd___Z : parseMethodDescriptor "()Z" = some ⟨[], some .boolean⟩ := by decide +kernel
theorem pd__I_Z : parseMethodDescriptor "(I)Z" = some ⟨[.int], some .boolean⟩ := by decide +kernel
def Q0 (Z : State) (p0 : Int32) (eq_ : Addr) (nq_ : Addr) (ls_ : Addr) (le_ : Addr) (gr_ : Addr) (ge_ : Addr) (h0 : Heap) (n0 : Nat) (v : Option Value) (h : Heap) (L : List Loc) : Prop := v = some (.int 1) ∧ Fr n0 L
set_option maxRecDepth 65536 in
set_option maxHeartbeats 40000000 in
theorem rm0 (l : Launch) (Z : State) (a0 : Array Value) (hw : ∀ d ∈ tables_1, d.before a0 Z = true) (ws : List Jvm.Cond) (p0 : Int32) (eq_ : Addr) (nq_ : Addr) (ls_ : Addr) (le_ : Addr) (gr_ : Addr) (ge_ : Addr) (h0 : Heap) (n0 : Nat) (Z0 : n0 ≤ h0.size) (Seq_ : Sta Z h0 "com/example/porthcurno/porthcurno/core/SelectorExpression$Relation" "EQUAL" "Lcom/example/porthcurno/porthcurno/core/SelectorExpression$Relation;" (.ref eq_)) (Snq_ : Sta Z h0 "com/example/porthcurno/porthcurno/core/SelectorExpression$Relation" "NOT_EQUAL" "Lcom/example/porthcurno/porthcurno/core/SelectorExpression$Relation;" (.ref nq_)) (Sls_ : Sta Z h0 "com/example/porthcurno/porthcurno/core/SelectorExpression$Relation" "LESS" "Lcom/example/porthcurno/porthcurno/core/SelectorExpression$Relation;" (.ref ls_)) (Sle_ : Sta Z h0 "com/example/porthcurno/porthcurno/core/SelectorExpression$Relation" "LESS_OR_EQUAL" "Lcom/example/porthcurno/porthcurno/core/SelectorExpression$Relation;" (.ref le_)) (Sgr_ : Sta Z h0 "com/example/porthcurno/porthcurno/core/SelectorExpression$Relation" "GREATER" "Lcom/example/porthcurno/porthcurno/core/SelectorExpression$Relation;" (.ref gr_)) (Sge_ : Sta Z h0 "com/example/porthcurno/porthcurno/core/SelectorExpression$Relation" "GREATER_OR_EQUAL" "Lcom/example/porthcurno/porthcurno/core/SelectorExpression$Relation;" (.ref ge_)) (Eeq_ : Exa Z h0 eq_ "com/example/porthcurno/porthcurno/core/SelectorExpression$Relation") (Enq_ : Exa Z h0 nq_ "com/example/porthcurno/porthcurno/core/SelectorExpression$Relation") (Els_ : Exa Z h0 ls_ "com/example/porthcurno/porthcurno/core/SelectorExpression$Relation") (Ele_ : Exa Z h0 le_ "com/example/porthcurno/porthcurno/core/SelectorExpression$Relation") (Egr_ : Exa Z h0 gr_ "com/example/porthcurno/porthcurno/core/SelectorExpression$Relation") (Ege_ : Exa Z h0 ge_ "com/example/porthcurno/porthcurno/core/SelectorExpression$Relation") (Feq_ : Fld Z h0 eq_ "java/lang/Enum" "ordinal" "I" (.int (0 : Int32))) (Fnq_ : Fld Z h0 nq_ "java/lang/Enum" "ordinal" "I" (.int (1 : Int32))) (Fls_ : Fld Z h0 ls_ "java/lang/Enum" "ordinal" "I" (.int (2 : Int32))) (Fle_ : Fld Z h0 le_ "java/lang/Enum" "ordinal" "I" (.int (3 : Int32))) (Fgr_ : Fld Z h0 gr_ "java/lang/Enum" "ordinal" "I" (.int (4 : Int32))) (Fge_ : Fld Z h0 ge_ "java/lang/Enum" "ordinal" "I" (.int (5 : Int32))) (ne_nq__eq_ : nq_ ≠ eq_) (ne_ls__eq_ : ls_ ≠ eq_) (ne_ls__nq_ : ls_ ≠ nq_) (ne_le__eq_ : le_ ≠ eq_) (ne_le__nq_ : le_ ≠ nq_) (ne_gr__eq_ : gr_ ≠ eq_) (ne_gr__nq_ : gr_ ≠ nq_) (ne_ge__eq_ : ge_ ≠ eq_) (ne_ge__nq_ : ge_ ≠ nq_) :
    OMet l Z x code maxLocals ret ws room_1 #[(.int p0)] h0 (Q0 Z p0 eq_ nq_ ls_ le_ gr_ ge_ h0 n0) := by
  refine own_body (plainFor_of_name pn_com_example_porthcurno_porthcurno_core_RelationComparesEqualityPinLaw) ?_
  intro p e s m below meth c s₁ Bd hml0 hZ e0
  have hx := Bd.exec
  have hby := Bd.bytes
  have hml : c.maxLocals = 6 := hml0
  have hown : s.vm.findClass "com/example/porthcurno/porthcurno/core/RelationComparesEqualityPinLaw" = some m.cls := findClass_of_methodNamed Bd.named
  have hnm := (name_of_methodNamed Bd.named Bd.method).1
  have X0 : Stand p l e room_1 s m #[(.int p0)] below meth c s₁ [] 0 0 := Stand.of_body Bd
  have N0 := Fr.nil n0
  have K0 : Keep h0 h0 [] := Keep.refl _ _
  rw [ef_rm0]
  refine Gl.pre (S' := s₁.setTop (mkF m 8 #[.val (.int p0), .val (.int ((p0 &&& (2147483647 : Int32)) % (6 : Int32))), .unset, .unset, .unset, .unset] [])) (fun t kt => ?_) ?_
  · show Steps p.tables e below (s₁.setTop (mkF m 0 #[.val (.int p0), .unset, .unset, .unset, .unset, .unset] [])) _
    refine XS.iloadN X0.here hx rfl (hb hby at_0) rfl ?_
    show Steps p.tables e below (s₁.setTop (mkF m 1 #[.val (.int p0), .unset, .unset, .unset, .unset, .unset] [(.int p0)])) _
    refine X0.ldcInt hx hown (mvT hZ (hw _ (List.mem_of_getElem? (i := 0) rfl))) (g := (mkF m 1 #[.val (.int p0), .unset, .unset, .unset, .unset, .unset] [(.int p0)])) rfl (hb hby at_1) _ ?_
    show Steps p.tables e below (s₁.setTop (mkF m 3 #[.val (.int p0), .unset, .unset, .unset, .unset, .unset] [(.int (2147483647 : Int32)), (.int p0)])) _
    refine XS.iand X0.here hx rfl (hb hby at_3) rfl ?_
    show Steps p.tables e below (s₁.setTop (mkF m 4 #[.val (.int p0), .unset, .unset, .unset, .unset, .unset] [(.int (p0 &&& (2147483647 : Int32)))])) _
    refine XS.bipush X0.here hx rfl (hb hby at_4) ?_
    show Steps p.tables e below (s₁.setTop (mkF m 6 #[.val (.int p0), .unset, .unset, .unset, .unset, .unset] [(.int (6 : Int32)), (.int (p0 &&& (2147483647 : Int32)))])) _
    refine iremM X0 hx rfl (hb hby at_6) rfl (by decide) ?_
    show Steps p.tables e below (s₁.setTop (mkF m 7 #[.val (.int p0), .unset, .unset, .unset, .unset, .unset] [(.int ((p0 &&& (2147483647 : Int32)) % (6 : Int32)))])) _
    refine XS.istoreN X0.here hx rfl (hb hby at_7) rfl (l' := #[.val (.int p0), .val (.int ((p0 &&& (2147483647 : Int32)) % (6 : Int32))), .unset, .unset, .unset, .unset]) rfl ?_
    exact kt
  rcases own_mod6 p0 with hk | hk | hk | hk | hk | hk
  · rw [hk]
    obtain ⟨v101, T101, L101, X101, q101, st101⟩ := own_callS X0 hx hZ (y := (⟨"com/example/porthcurno/porthcurno/core/RelationComparesEqualityPinLaw", "pick", "(I)Lcom/example/porthcurno/porthcurno/core/SelectorExpression$Relation;"⟩ : MethodName)) hown (hw _ (List.mem_of_getElem? (i := 1) rfl)) (hw _ (List.mem_of_getElem? (i := 2) rfl)) (hw _ (List.mem_of_getElem? (i := 3) rfl)) (hw _ (List.mem_of_getElem? (i := 4) rfl)) (by decide) (hM := (rm1_0 l Z a0 hw [] eq_ h0 n0 Z0 Seq_)) (by decide) (by decide) (by decide) (by decide) e0 (argsL := [(.int (0 : Int32))]) (rest := []) (Ls := #[.val (.int p0), .val (.int (0 : Int32)), .unset, .unset, .unset, .unset]) (by rw [hml]; rfl) (lenOf pd__I_Lcom_example_porthcurno_porthcurno_core_SelectorExpression_Relation_ rfl) (W := 0) (Nat.le_of_eq rfl) (hb hby at_9)
    obtain ⟨rfl, N101q, e101⟩ := q101
    have N101 := Fr.app N0 N101q
    obtain ⟨v102, T102, L102, X102, q102, st102⟩ := own_callV X101 hx hZ (y := (⟨"com/example/porthcurno/porthcurno/core/SelectorExpression$Relation", "comparesEquality", "()Z"⟩ : MethodName)) (z := (⟨"com/example/porthcurno/porthcurno/core/SelectorExpression$Relation", "comparesEquality", "()Z"⟩ : MethodName)) hown (hw _ (List.mem_of_getElem? (i := 8) rfl)) (hw _ (List.mem_of_getElem? (i := 9) rfl)) (notFace_of_selects (args := #[]) (mvT hZ (hw _ (List.mem_of_getElem? (i := 11) rfl)))) (hw _ (List.mem_of_getElem? (i := 11) rfl)) (hw _ (List.mem_of_getElem? (i := 10) rfl)) (hw _ (List.mem_of_getElem? (i := 6) rfl)) (hw _ (List.mem_of_getElem? (i := 12) rfl)) (by decide) Eeq_ (hM := (rm2e l Z a0 hw [] eq_ nq_ h0 n0 Z0 Seq_ Snq_)) (by decide) (by decide) (by decide) (by decide) e101 (argsL := []) (rest := []) (Ls := #[.val (.int p0), .val (.int (0 : Int32)), .val (.ref eq_), .unset, .unset, .unset]) (by rw [hml]; rfl) (lenOf pd___Z rfl) (W := 0) (Nat.le_of_eq rfl) (hb hby at_14)
    obtain ⟨rfl, N102q, e102⟩ := q102
    have N102 := Fr.app N101 N102q
    obtain ⟨v103, T103, L103, X103, q103, st103⟩ := own_callV X102 hx hZ (y := (⟨"com/example/porthcurno/porthcurno/core/SelectorExpression$Relation", "holds", "(I)Z"⟩ : MethodName)) (z := (⟨"com/example/porthcurno/porthcurno/core/SelectorExpression$Relation", "holds", "(I)Z"⟩ : MethodName)) hown (hw _ (List.mem_of_getElem? (i := 14) rfl)) (hw _ (List.mem_of_getElem? (i := 15) rfl)) (notFace_of_selects (args := #[]) (mvT hZ (hw _ (List.mem_of_getElem? (i := 17) rfl)))) (hw _ (List.mem_of_getElem? (i := 17) rfl)) (hw _ (List.mem_of_getElem? (i := 16) rfl)) (hw _ (List.mem_of_getElem? (i := 6) rfl)) (hw _ (List.mem_of_getElem? (i := 18) rfl)) (by decide) Eeq_ (hM := (rm3_0 l Z a0 hw [] eq_ (1 : Int32) h0 n0 Z0 Eeq_ Feq_)) (by decide) (by decide) (by decide) (by decide) e102 (argsL := [(.int (1 : Int32))]) (rest := []) (Ls := #[.val (.int p0), .val (.int (0 : Int32)), .val (.ref eq_), .val (.int (1 : Int32)), .val (.int (1 : Int32)), .unset]) (by rw [hml]; rfl) (lenOf pd__I_Z rfl) (W := 0) (Nat.le_of_eq rfl) (hb hby at_36)
    obtain ⟨rfl, N103q, e103⟩ := q103
    have N103 := Fr.app N102 N103q
    obtain ⟨v104, T104, L104, X104, q104, st104⟩ := own_callV X103 hx hZ (y := (⟨"com/example/porthcurno/porthcurno/core/SelectorExpression$Relation", "holds", "(I)Z"⟩ : MethodName)) (z := (⟨"com/example/porthcurno/porthcurno/core/SelectorExpression$Relation", "holds", "(I)Z"⟩ : MethodName)) hown (hw _ (List.mem_of_getElem? (i := 14) rfl)) (hw _ (List.mem_of_getElem? (i := 15) rfl)) (notFace_of_selects (args := #[]) (mvT hZ (hw _ (List.mem_of_getElem? (i := 17) rfl)))) (hw _ (List.mem_of_getElem? (i := 17) rfl)) (hw _ (List.mem_of_getElem? (i := 16) rfl)) (hw _ (List.mem_of_getElem? (i := 6) rfl)) (hw _ (List.mem_of_getElem? (i := 18) rfl)) (by decide) Eeq_ (hM := (rm3_0 l Z a0 hw [] eq_ (-1 : Int32) h0 n0 Z0 Eeq_ Feq_)) (by decide) (by decide) (by decide) (by decide) e103 (argsL := [(.int (-1 : Int32))]) (rest := [(.int (b2i (decide ((1 : Int32) = 0))))]) (Ls := #[.val (.int p0), .val (.int (0 : Int32)), .val (.ref eq_), .val (.int (1 : Int32)), .val (.int (1 : Int32)), .unset]) (by rw [hml]; rfl) (lenOf pd__I_Z rfl) (W := 1) (Nat.le_of_eq rfl) (hb hby at_41)
    obtain ⟨rfl, N104q, e104⟩ := q104
    have N104 := Fr.app N103 N104q
    refine Gl.fin X104 (v := some (.int (1 : Int32))) (fun h => by rw [Bd.returns] at h; cases h) Bd.notSynchronized ?_ e104 (by decide) (by decide) (fun fs hr => ?_)
    · exact ⟨rfl, N104⟩
    · show Steps p.tables e below (s₁.setTop (mkF m 8 #[.val (.int p0), .val (.int (0 : Int32)), .unset, .unset, .unset, .unset] [])) _
      refine XS.iloadN X0.here hx rfl (hb hby at_8) rfl ?_
      show Steps p.tables e below (s₁.setTop (mkF m 9 #[.val (.int p0), .val (.int (0 : Int32)), .unset, .unset, .unset, .unset] [(.int (0 : Int32))])) _
      refine st101 _ ?_
      show Steps p.tables e below (T101.setTop (mkF m 12 #[.val (.int p0), .val (.int (0 : Int32)), .unset, .unset, .unset, .unset] [(.ref eq_)])) _
      refine XS.astoreN X101.here hx rfl (hb hby at_12) rfl rfl (l' := #[.val (.int p0), .val (.int (0 : Int32)), .val (.ref eq_), .unset, .unset, .unset]) rfl ?_
      show Steps p.tables e below (T101.setTop (mkF m 13 #[.val (.int p0), .val (.int (0 : Int32)), .val (.ref eq_), .unset, .unset, .unset] [])) _
      refine XS.aloadN X101.here hx rfl (hb hby at_13) rfl rfl ?_
      show Steps p.tables e below (T101.setTop (mkF m 14 #[.val (.int p0), .val (.int (0 : Int32)), .val (.ref eq_), .unset, .unset, .unset] [(.ref eq_)])) _
      refine st102 _ ?_
      show Steps p.tables e below (T102.setTop (mkF m 17 #[.val (.int p0), .val (.int (0 : Int32)), .val (.ref eq_), .unset, .unset, .unset] [(.int (1 : Int32))])) _
      refine XS.istoreN X102.here hx rfl (hb hby at_17) rfl (l' := #[.val (.int p0), .val (.int (0 : Int32)), .val (.ref eq_), .val (.int (1 : Int32)), .unset, .unset]) rfl ?_
      show Steps p.tables e below (T102.setTop (mkF m 18 #[.val (.int p0), .val (.int (0 : Int32)), .val (.ref eq_), .val (.int (1 : Int32)), .unset, .unset] [])) _
      refine XS.iloadN X102.here hx rfl (hb hby at_18) rfl ?_
      show Steps p.tables e below (T102.setTop (mkF m 19 #[.val (.int p0), .val (.int (0 : Int32)), .val (.ref eq_), .val (.int (1 : Int32)), .unset, .unset] [(.int (0 : Int32))])) _
      refine XS.ifYes X102.here hx rfl (pc0 := 19) (pc' := 27) rfl (hb hby at_19) rfl (own_t (i0_eq _) (by decide)) (by decide) (by decide) ?_
      show Steps p.tables e below (T102.setTop (mkF m 27 #[.val (.int p0), .val (.int (0 : Int32)), .val (.ref eq_), .val (.int (1 : Int32)), .unset, .unset] [])) _
      refine XS.iconst X102.here hx rfl (hb hby at_27) ?_
      show Steps p.tables e below (T102.setTop (mkF m 28 #[.val (.int p0), .val (.int (0 : Int32)), .val (.ref eq_), .val (.int (1 : Int32)), .unset, .unset] [(.int (1 : Int32))])) _
      refine XS.goto X102.here hx rfl (pc0 := 28) (pc' := 32) rfl (hb hby at_28) (by decide) (by decide) ?_
      show Steps p.tables e below (T102.setTop (mkF m 32 #[.val (.int p0), .val (.int (0 : Int32)), .val (.ref eq_), .val (.int (1 : Int32)), .unset, .unset] [(.int (1 : Int32))])) _
      refine XS.istore X102.here hx rfl (hb hby at_32) rfl (l' := #[.val (.int p0), .val (.int (0 : Int32)), .val (.ref eq_), .val (.int (1 : Int32)), .val (.int (1 : Int32)), .unset]) rfl ?_
      show Steps p.tables e below (T102.setTop (mkF m 34 #[.val (.int p0), .val (.int (0 : Int32)), .val (.ref eq_), .val (.int (1 : Int32)), .val (.int (1 : Int32)), .unset] [])) _
      refine XS.aloadN X102.here hx rfl (hb hby at_34) rfl rfl ?_
      show Steps p.tables e below (T102.setTop (mkF m 35 #[.val (.int p0), .val (.int (0 : Int32)), .val (.ref eq_), .val (.int (1 : Int32)), .val (.int (1 : Int32)), .unset] [(.ref eq_)])) _
      refine XS.iconst X102.here hx rfl (hb hby at_35) ?_
      show Steps p.tables e below (T102.setTop (mkF m 36 #[.val (.int p0), .val (.int (0 : Int32)), .val (.ref eq_), .val (.int (1 : Int32)), .val (.int (1 : Int32)), .unset] [(.int (1 : Int32)), (.ref eq_)])) _
      refine st103 _ ?_
      show Steps p.tables e below (T103.setTop (mkF m 39 #[.val (.int p0), .val (.int (0 : Int32)), .val (.ref eq_), .val (.int (1 : Int32)), .val (.int (1 : Int32)), .unset] [(.int (b2i (decide ((1 : Int32) = 0))))])) _
      refine XS.aloadN X103.here hx rfl (hb hby at_39) rfl rfl ?_
      show Steps p.tables e below (T103.setTop (mkF m 40 #[.val (.int p0), .val (.int (0 : Int32)), .val (.ref eq_), .val (.int (1 : Int32)), .val (.int (1 : Int32)), .unset] [(.ref eq_), (.int (b2i (decide ((1 : Int32) = 0))))])) _
      refine XS.iconst X103.here hx rfl (hb hby at_40) ?_
      show Steps p.tables e below (T103.setTop (mkF m 41 #[.val (.int p0), .val (.int (0 : Int32)), .val (.ref eq_), .val (.int (1 : Int32)), .val (.int (1 : Int32)), .unset] [(.int (-1 : Int32)), (.ref eq_), (.int (b2i (decide ((1 : Int32) = 0))))])) _
      refine st104 _ ?_
      show Steps p.tables e below (T104.setTop (mkF m 44 #[.val (.int p0), .val (.int (0 : Int32)), .val (.ref eq_), .val (.int (1 : Int32)), .val (.int (1 : Int32)), .unset] [(.int (b2i (decide ((-1 : Int32) = 0)))), (.int (b2i (decide ((1 : Int32) = 0))))])) _
      refine XS.icmpNo X104.here hx rfl (hb hby at_44) rfl (own_nf (ic_ne _ _) (by decide)) ?_
      show Steps p.tables e below (T104.setTop (mkF m 47 #[.val (.int p0), .val (.int (0 : Int32)), .val (.ref eq_), .val (.int (1 : Int32)), .val (.int (1 : Int32)), .unset] [])) _
      refine XS.iconst X104.here hx rfl (hb hby at_47) ?_
      show Steps p.tables e below (T104.setTop (mkF m 48 #[.val (.int p0), .val (.int (0 : Int32)), .val (.ref eq_), .val (.int (1 : Int32)), .val (.int (1 : Int32)), .unset] [(.int (1 : Int32))])) _
      refine XS.goto X104.here hx rfl (pc0 := 48) (pc' := 52) rfl (hb hby at_48) (by decide) (by decide) ?_
      show Steps p.tables e below (T104.setTop (mkF m 52 #[.val (.int p0), .val (.int (0 : Int32)), .val (.ref eq_), .val (.int (1 : Int32)), .val (.int (1 : Int32)), .unset] [(.int (1 : Int32))])) _
      refine XS.istore X104.here hx rfl (hb hby at_52) rfl (l' := #[.val (.int p0), .val (.int (0 : Int32)), .val (.ref eq_), .val (.int (1 : Int32)), .val (.int (1 : Int32)), .val (.int (1 : Int32))]) rfl ?_
      show Steps p.tables e below (T104.setTop (mkF m 54 #[.val (.int p0), .val (.int (0 : Int32)), .val (.ref eq_), .val (.int (1 : Int32)), .val (.int (1 : Int32)), .val (.int (1 : Int32))] [])) _
      refine XS.iloadN X104.here hx rfl (hb hby at_54) rfl ?_
      show Steps p.tables e below (T104.setTop (mkF m 55 #[.val (.int p0), .val (.int (0 : Int32)), .val (.ref eq_), .val (.int (1 : Int32)), .val (.int (1 : Int32)), .val (.int (1 : Int32))] [(.int (1 : Int32))])) _
      refine XS.iload X104.here hx rfl (hb hby at_55) rfl ?_
      show Steps p.tables e below (T104.setTop (mkF m 57 #[.val (.int p0), .val (.int (0 : Int32)), .val (.ref eq_), .val (.int (1 : Int32)), .val (.int (1 : Int32)), .val (.int (1 : Int32))] [(.int (1 : Int32)), (.int (1 : Int32))])) _
      refine XS.icmpNo X104.here hx rfl (hb hby at_57) rfl (own_nf (ic_ne _ _) (by decide)) ?_
      show Steps p.tables e below (T104.setTop (mkF m 60 #[.val (.int p0), .val (.int (0 : Int32)), .val (.ref eq_), .val (.int (1 : Int32)), .val (.int (1 : Int32)), .val (.int (1 : Int32))] [])) _
      refine XS.iloadN X104.here hx rfl (hb hby at_60) rfl ?_
      show Steps p.tables e below (T104.setTop (mkF m 61 #[.val (.int p0), .val (.int (0 : Int32)), .val (.ref eq_), .val (.int (1 : Int32)), .val (.int (1 : Int32)), .val (.int (1 : Int32))] [(.int (1 : Int32))])) _
      refine XS.iload X104.here hx rfl (hb hby at_61) rfl ?_
      show Steps p.tables e below (T104.setTop (mkF m 63 #[.val (.int p0), .val (.int (0 : Int32)), .val (.ref eq_), .val (.int (1 : Int32)), .val (.int (1 : Int32)), .val (.int (1 : Int32))] [(.int (1 : Int32)), (.int (1 : Int32))])) _
      refine XS.icmpNo X104.here hx rfl (hb hby at_63) rfl (own_nf (ic_ne _ _) (by decide)) ?_
      show Steps p.tables e below (T104.setTop (mkF m 66 #[.val (.int p0), .val (.int (0 : Int32)), .val (.ref eq_), .val (.int (1 : Int32)), .val (.int (1 : Int32)), .val (.int (1 : Int32))] [])) _
      refine XS.iconst X104.here hx rfl (hb hby at_66) ?_
      show Steps p.tables e below (T104.setTop (mkF m 67 #[.val (.int p0), .val (.int (0 : Int32)), .val (.ref eq_), .val (.int (1 : Int32)), .val (.int (1 : Int32)), .val (.int (1 : Int32))] [(.int (1 : Int32))])) _
      refine XS.goto X104.here hx rfl (pc0 := 67) (pc' := 71) rfl (hb hby at_67) (by decide) (by decide) ?_
      show Steps p.tables e below (T104.setTop (mkF m 71 #[.val (.int p0), .val (.int (0 : Int32)), .val (.ref eq_), .val (.int (1 : Int32)), .val (.int (1 : Int32)), .val (.int (1 : Int32))] [(.int (1 : Int32))])) _
      exact retN X104 hx (t := .boolean) Bd.returns (by simp) (hb hby at_71) hr
  · rw [hk]
    obtain ⟨v105, T105, L105, X105, q105, st105⟩ := own_callS X0 hx hZ (y := (⟨"com/example/porthcurno/porthcurno/core/RelationComparesEqualityPinLaw", "pick", "(I)Lcom/example/porthcurno/porthcurno/core/SelectorExpression$Relation;"⟩ : MethodName)) hown (hw _ (List.mem_of_getElem? (i := 1) rfl)) (hw _ (List.mem_of_getElem? (i := 2) rfl)) (hw _ (List.mem_of_getElem? (i := 3) rfl)) (hw _ (List.mem_of_getElem? (i := 4) rfl)) (by decide) (hM := (rm1_1 l Z a0 hw [] nq_ h0 n0 Z0 Snq_)) (by decide) (by decide) (by decide) (by decide) e0 (argsL := [(.int (1 : Int32))]) (rest := []) (Ls := #[.val (.int p0), .val (.int (1 : Int32)), .unset, .unset, .unset, .unset]) (by rw [hml]; rfl) (lenOf pd__I_Lcom_example_porthcurno_porthcurno_core_SelectorExpression_Relation_ rfl) (W := 0) (Nat.le_of_eq rfl) (hb hby at_9)
    obtain ⟨rfl, N105q, e105⟩ := q105
    have N105 := Fr.app N0 N105q
    obtain ⟨v106, T106, L106, X106, q106, st106⟩ := own_callV X105 hx hZ (y := (⟨"com/example/porthcurno/porthcurno/core/SelectorExpression$Relation", "comparesEquality", "()Z"⟩ : MethodName)) (z := (⟨"com/example/porthcurno/porthcurno/core/SelectorExpression$Relation", "comparesEquality", "()Z"⟩ : MethodName)) hown (hw _ (List.mem_of_getElem? (i := 8) rfl)) (hw _ (List.mem_of_getElem? (i := 9) rfl)) (notFace_of_selects (args := #[]) (mvT hZ (hw _ (List.mem_of_getElem? (i := 11) rfl)))) (hw _ (List.mem_of_getElem? (i := 11) rfl)) (hw _ (List.mem_of_getElem? (i := 10) rfl)) (hw _ (List.mem_of_getElem? (i := 6) rfl)) (hw _ (List.mem_of_getElem? (i := 12) rfl)) (by decide) Enq_ (hM := (rm2n l Z a0 hw [] nq_ eq_ h0 n0 Z0 Seq_ Snq_ ne_nq__eq_)) (by decide) (by decide) (by decide) (by decide) e105 (argsL := []) (rest := []) (Ls := #[.val (.int p0), .val (.int (1 : Int32)), .val (.ref nq_), .unset, .unset, .unset]) (by rw [hml]; rfl) (lenOf pd___Z rfl) (W := 0) (Nat.le_of_eq rfl) (hb hby at_14)
    obtain ⟨rfl, N106q, e106⟩ := q106
    have N106 := Fr.app N105 N106q
    obtain ⟨v107, T107, L107, X107, q107, st107⟩ := own_callV X106 hx hZ (y := (⟨"com/example/porthcurno/porthcurno/core/SelectorExpression$Relation", "holds", "(I)Z"⟩ : MethodName)) (z := (⟨"com/example/porthcurno/porthcurno/core/SelectorExpression$Relation", "holds", "(I)Z"⟩ : MethodName)) hown (hw _ (List.mem_of_getElem? (i := 14) rfl)) (hw _ (List.mem_of_getElem? (i := 15) rfl)) (notFace_of_selects (args := #[]) (mvT hZ (hw _ (List.mem_of_getElem? (i := 17) rfl)))) (hw _ (List.mem_of_getElem? (i := 17) rfl)) (hw _ (List.mem_of_getElem? (i := 16) rfl)) (hw _ (List.mem_of_getElem? (i := 6) rfl)) (hw _ (List.mem_of_getElem? (i := 18) rfl)) (by decide) Enq_ (hM := (rm3_1 l Z a0 hw [] nq_ (1 : Int32) h0 n0 Z0 Enq_ Fnq_)) (by decide) (by decide) (by decide) (by decide) e106 (argsL := [(.int (1 : Int32))]) (rest := []) (Ls := #[.val (.int p0), .val (.int (1 : Int32)), .val (.ref nq_), .val (.int (1 : Int32)), .val (.int (1 : Int32)), .unset]) (by rw [hml]; rfl) (lenOf pd__I_Z rfl) (W := 0) (Nat.le_of_eq rfl) (hb hby at_36)
    obtain ⟨rfl, N107q, e107⟩ := q107
    have N107 := Fr.app N106 N107q
    obtain ⟨v108, T108, L108, X108, q108, st108⟩ := own_callV X107 hx hZ (y := (⟨"com/example/porthcurno/porthcurno/core/SelectorExpression$Relation", "holds", "(I)Z"⟩ : MethodName)) (z := (⟨"com/example/porthcurno/porthcurno/core/SelectorExpression$Relation", "holds", "(I)Z"⟩ : MethodName)) hown (hw _ (List.mem_of_getElem? (i := 14) rfl)) (hw _ (List.mem_of_getElem? (i := 15) rfl)) (notFace_of_selects (args := #[]) (mvT hZ (hw _ (List.mem_of_getElem? (i := 17) rfl)))) (hw _ (List.mem_of_getElem? (i := 17) rfl)) (hw _ (List.mem_of_getElem? (i := 16) rfl)) (hw _ (List.mem_of_getElem? (i := 6) rfl)) (hw _ (List.mem_of_getElem? (i := 18) rfl)) (by decide) Enq_ (hM := (rm3_1 l Z a0 hw [] nq_ (-1 : Int32) h0 n0 Z0 Enq_ Fnq_)) (by decide) (by decide) (by decide) (by decide) e107 (argsL := [(.int (-1 : Int32))]) (rest := [(.int (b2i (decide (¬ (1 : Int32) = 0))))]) (Ls := #[.val (.int p0), .val (.int (1 : Int32)), .val (.ref nq_), .val (.int (1 : Int32)), .val (.int (1 : Int32)), .unset]) (by rw [hml]; rfl) (lenOf pd__I_Z rfl) (W := 1) (Nat.le_of_eq rfl) (hb hby at_41)
    obtain ⟨rfl, N108q, e108⟩ := q108
    have N108 := Fr.app N107 N108q
    refine Gl.pre (S' := T108.setTop (mkF m 67 #[.val (.int p0), .val (.int (1 : Int32)), .val (.ref nq_), .val (.int (1 : Int32)), .val (.int (1 : Int32)), .val (.int (1 : Int32))] [(.int (1 : Int32))])) (fun t kt => ?_) ?_
    · show Steps p.tables e below (s₁.setTop (mkF m 8 #[.val (.int p0), .val (.int (1 : Int32)), .unset, .unset, .unset, .unset] [])) _
      refine XS.iloadN X0.here hx rfl (hb hby at_8) rfl ?_
      show Steps p.tables e below (s₁.setTop (mkF m 9 #[.val (.int p0), .val (.int (1 : Int32)), .unset, .unset, .unset, .unset] [(.int (1 : Int32))])) _
      refine st105 _ ?_
      show Steps p.tables e below (T105.setTop (mkF m 12 #[.val (.int p0), .val (.int (1 : Int32)), .unset, .unset, .unset, .unset] [(.ref nq_)])) _
      refine XS.astoreN X105.here hx rfl (hb hby at_12) rfl rfl (l' := #[.val (.int p0), .val (.int (1 : Int32)), .val (.ref nq_), .unset, .unset, .unset]) rfl ?_
      show Steps p.tables e below (T105.setTop (mkF m 13 #[.val (.int p0), .val (.int (1 : Int32)), .val (.ref nq_), .unset, .unset, .unset] [])) _
      refine XS.aloadN X105.here hx rfl (hb hby at_13) rfl rfl ?_
      show Steps p.tables e below (T105.setTop (mkF m 14 #[.val (.int p0), .val (.int (1 : Int32)), .val (.ref nq_), .unset, .unset, .unset] [(.ref nq_)])) _
      refine st106 _ ?_
      show Steps p.tables e below (T106.setTop (mkF m 17 #[.val (.int p0), .val (.int (1 : Int32)), .val (.ref nq_), .unset, .unset, .unset] [(.int (1 : Int32))])) _
      refine XS.istoreN X106.here hx rfl (hb hby at_17) rfl (l' := #[.val (.int p0), .val (.int (1 : Int32)), .val (.ref nq_), .val (.int (1 : Int32)), .unset, .unset]) rfl ?_
      show Steps p.tables e below (T106.setTop (mkF m 18 #[.val (.int p0), .val (.int (1 : Int32)), .val (.ref nq_), .val (.int (1 : Int32)), .unset, .unset] [])) _
      refine XS.iloadN X106.here hx rfl (hb hby at_18) rfl ?_
      show Steps p.tables e below (T106.setTop (mkF m 19 #[.val (.int p0), .val (.int (1 : Int32)), .val (.ref nq_), .val (.int (1 : Int32)), .unset, .unset] [(.int (1 : Int32))])) _
      refine XS.ifNo X106.here hx rfl (hb hby at_19) rfl (own_f (i0_eq _) (by decide)) ?_
      show Steps p.tables e below (T106.setTop (mkF m 22 #[.val (.int p0), .val (.int (1 : Int32)), .val (.ref nq_), .val (.int (1 : Int32)), .unset, .unset] [])) _
      refine XS.iloadN X106.here hx rfl (hb hby at_22) rfl ?_
      show Steps p.tables e below (T106.setTop (mkF m 23 #[.val (.int p0), .val (.int (1 : Int32)), .val (.ref nq_), .val (.int (1 : Int32)), .unset, .unset] [(.int (1 : Int32))])) _
      refine XS.iconst X106.here hx rfl (hb hby at_23) ?_
      show Steps p.tables e below (T106.setTop (mkF m 24 #[.val (.int p0), .val (.int (1 : Int32)), .val (.ref nq_), .val (.int (1 : Int32)), .unset, .unset] [(.int (1 : Int32)), (.int (1 : Int32))])) _
      refine XS.icmpNo X106.here hx rfl (hb hby at_24) rfl (own_nf (ic_ne _ _) (by decide)) ?_
      show Steps p.tables e below (T106.setTop (mkF m 27 #[.val (.int p0), .val (.int (1 : Int32)), .val (.ref nq_), .val (.int (1 : Int32)), .unset, .unset] [])) _
      refine XS.iconst X106.here hx rfl (hb hby at_27) ?_
      show Steps p.tables e below (T106.setTop (mkF m 28 #[.val (.int p0), .val (.int (1 : Int32)), .val (.ref nq_), .val (.int (1 : Int32)), .unset, .unset] [(.int (1 : Int32))])) _
      refine XS.goto X106.here hx rfl (pc0 := 28) (pc' := 32) rfl (hb hby at_28) (by decide) (by decide) ?_
      show Steps p.tables e below (T106.setTop (mkF m 32 #[.val (.int p0), .val (.int (1 : Int32)), .val (.ref nq_), .val (.int (1 : Int32)), .unset, .unset] [(.int (1 : Int32))])) _
      refine XS.istore X106.here hx rfl (hb hby at_32) rfl (l' := #[.val (.int p0), .val (.int (1 : Int32)), .val (.ref nq_), .val (.int (1 : Int32)), .val (.int (1 : Int32)), .unset]) rfl ?_
      show Steps p.tables e below (T106.setTop (mkF m 34 #[.val (.int p0), .val (.int (1 : Int32)), .val (.ref nq_), .val (.int (1 : Int32)), .val (.int (1 : Int32)), .unset] [])) _
      refine XS.aloadN X106.here hx rfl (hb hby at_34) rfl rfl ?_
      show Steps p.tables e below (T106.setTop (mkF m 35 #[.val (.int p0), .val (.int (1 : Int32)), .val (.ref nq_), .val (.int (1 : Int32)), .val (.int (1 : Int32)), .unset] [(.ref nq_)])) _
      refine XS.iconst X106.here hx rfl (hb hby at_35) ?_
      show Steps p.tables e below (T106.setTop (mkF m 36 #[.val (.int p0), .val (.int (1 : Int32)), .val (.ref nq_), .val (.int (1 : Int32)), .val (.int (1 : Int32)), .unset] [(.int (1 : Int32)), (.ref nq_)])) _
      refine st107 _ ?_
      show Steps p.tables e below (T107.setTop (mkF m 39 #[.val (.int p0), .val (.int (1 : Int32)), .val (.ref nq_), .val (.int (1 : Int32)), .val (.int (1 : Int32)), .unset] [(.int (b2i (decide (¬ (1 : Int32) = 0))))])) _
      refine XS.aloadN X107.here hx rfl (hb hby at_39) rfl rfl ?_
      show Steps p.tables e below (T107.setTop (mkF m 40 #[.val (.int p0), .val (.int (1 : Int32)), .val (.ref nq_), .val (.int (1 : Int32)), .val (.int (1 : Int32)), .unset] [(.ref nq_), (.int (b2i (decide (¬ (1 : Int32) = 0))))])) _
      refine XS.iconst X107.here hx rfl (hb hby at_40) ?_
      show Steps p.tables e below (T107.setTop (mkF m 41 #[.val (.int p0), .val (.int (1 : Int32)), .val (.ref nq_), .val (.int (1 : Int32)), .val (.int (1 : Int32)), .unset] [(.int (-1 : Int32)), (.ref nq_), (.int (b2i (decide (¬ (1 : Int32) = 0))))])) _
      refine st108 _ ?_
      show Steps p.tables e below (T108.setTop (mkF m 44 #[.val (.int p0), .val (.int (1 : Int32)), .val (.ref nq_), .val (.int (1 : Int32)), .val (.int (1 : Int32)), .unset] [(.int (b2i (decide (¬ (-1 : Int32) = 0)))), (.int (b2i (decide (¬ (1 : Int32) = 0))))])) _
      refine XS.icmpNo X108.here hx rfl (hb hby at_44) rfl (own_nf (ic_ne _ _) (by decide)) ?_
      show Steps p.tables e below (T108.setTop (mkF m 47 #[.val (.int p0), .val (.int (1 : Int32)), .val (.ref nq_), .val (.int (1 : Int32)), .val (.int (1 : Int32)), .unset] [])) _
      refine XS.iconst X108.here hx rfl (hb hby at_47) ?_
      show Steps p.tables e below (T108.setTop (mkF m 48 #[.val (.int p0), .val (.int (1 : Int32)), .val (.ref nq_), .val (.int (1 : Int32)), .val (.int (1 : Int32)), .unset] [(.int (1 : Int32))])) _
      refine XS.goto X108.here hx rfl (pc0 := 48) (pc' := 52) rfl (hb hby at_48) (by decide) (by decide) ?_
      show Steps p.tables e below (T108.setTop (mkF m 52 #[.val (.int p0), .val (.int (1 : Int32)), .val (.ref nq_), .val (.int (1 : Int32)), .val (.int (1 : Int32)), .unset] [(.int (1 : Int32))])) _
      refine XS.istore X108.here hx rfl (hb hby at_52) rfl (l' := #[.val (.int p0), .val (.int (1 : Int32)), .val (.ref nq_), .val (.int (1 : Int32)), .val (.int (1 : Int32)), .val (.int (1 : Int32))]) rfl ?_
      show Steps p.tables e below (T108.setTop (mkF m 54 #[.val (.int p0), .val (.int (1 : Int32)), .val (.ref nq_), .val (.int (1 : Int32)), .val (.int (1 : Int32)), .val (.int (1 : Int32))] [])) _
      refine XS.iloadN X108.here hx rfl (hb hby at_54) rfl ?_
      show Steps p.tables e below (T108.setTop (mkF m 55 #[.val (.int p0), .val (.int (1 : Int32)), .val (.ref nq_), .val (.int (1 : Int32)), .val (.int (1 : Int32)), .val (.int (1 : Int32))] [(.int (1 : Int32))])) _
      refine XS.iload X108.here hx rfl (hb hby at_55) rfl ?_
      show Steps p.tables e below (T108.setTop (mkF m 57 #[.val (.int p0), .val (.int (1 : Int32)), .val (.ref nq_), .val (.int (1 : Int32)), .val (.int (1 : Int32)), .val (.int (1 : Int32))] [(.int (1 : Int32)), (.int (1 : Int32))])) _
      refine XS.icmpNo X108.here hx rfl (hb hby at_57) rfl (own_nf (ic_ne _ _) (by decide)) ?_
      show Steps p.tables e below (T108.setTop (mkF m 60 #[.val (.int p0), .val (.int (1 : Int32)), .val (.ref nq_), .val (.int (1 : Int32)), .val (.int (1 : Int32)), .val (.int (1 : Int32))] [])) _
      refine XS.iloadN X108.here hx rfl (hb hby at_60) rfl ?_
      show Steps p.tables e below (T108.setTop (mkF m 61 #[.val (.int p0), .val (.int (1 : Int32)), .val (.ref nq_), .val (.int (1 : Int32)), .val (.int (1 : Int32)), .val (.int (1 : Int32))] [(.int (1 : Int32))])) _
      refine XS.iload X108.here hx rfl (hb hby at_61) rfl ?_
      show Steps p.tables e below (T108.setTop (mkF m 63 #[.val (.int p0), .val (.int (1 : Int32)), .val (.ref nq_), .val (.int (1 : Int32)), .val (.int (1 : Int32)), .val (.int (1 : Int32))] [(.int (1 : Int32)), (.int (1 : Int32))])) _
      refine XS.icmpNo X108.here hx rfl (hb hby at_63) rfl (own_nf (ic_ne _ _) (by decide)) ?_
      show Steps p.tables e below (T108.setTop (mkF m 66 #[.val (.int p0), .val (.int (1 : Int32)), .val (.ref nq_), .val (.int (1 : Int32)), .val (.int (1 : Int32)), .val (.int (1 : Int32))] [])) _
      refine XS.iconst X108.here hx rfl (hb hby at_66) ?_
      exact kt
    refine Gl.fin X108 (v := some (.int (1 : Int32))) (fun h => by rw [Bd.returns] at h; cases h) Bd.notSynchronized ?_ e108 (by decide) (by decide) (fun fs hr => ?_)
    · exact ⟨rfl, N108⟩
    · show Steps p.tables e below (T108.setTop (mkF m 67 #[.val (.int p0), .val (.int (1 : Int32)), .val (.ref nq_), .val (.int (1 : Int32)), .val (.int (1 : Int32)), .val (.int (1 : Int32))] [(.int (1 : Int32))])) _
      refine XS.goto X108.here hx rfl (pc0 := 67) (pc' := 71) rfl (hb hby at_67) (by decide) (by decide) ?_
      show Steps p.tables e below (T108.setTop (mkF m 71 #[.val (.int p0), .val (.int (1 : Int32)), .val (.ref nq_), .val (.int (1 : Int32)), .val (.int (1 : Int32)), .val (.int (1 : Int32))] [(.int (1 : Int32))])) _
      exact retN X108 hx (t := .boolean) Bd.returns (by simp) (hb hby at_71) hr
  · rw [hk]
    obtain ⟨v109, T109, L109, X109, q109, st109⟩ := own_callS X0 hx hZ (y := (⟨"com/example/porthcurno/porthcurno/core/RelationComparesEqualityPinLaw", "pick", "(I)Lcom/example/porthcurno/porthcurno/core/SelectorExpression$Relation;"⟩ : MethodName)) hown (hw _ (List.mem_of_getElem? (i := 1) rfl)) (hw _ (List.mem_of_getElem? (i := 2) rfl)) (hw _ (List.mem_of_getElem? (i := 3) rfl)) (hw _ (List.mem_of_getElem? (i := 4) rfl)) (by decide) (hM := (rm1_2 l Z a0 hw [] ls_ h0 n0 Z0 Sls_)) (by decide) (by decide) (by decide) (by decide) e0 (argsL := [(.int (2 : Int32))]) (rest := []) (Ls := #[.val (.int p0), .val (.int (2 : Int32)), .unset, .unset, .unset, .unset]) (by rw [hml]; rfl) (lenOf pd__I_Lcom_example_porthcurno_porthcurno_core_SelectorExpression_Relation_ rfl) (W := 0) (Nat.le_of_eq rfl) (hb hby at_9)
    obtain ⟨rfl, N109q, e109⟩ := q109
    have N109 := Fr.app N0 N109q
    obtain ⟨v110, T110, L110, X110, q110, st110⟩ := own_callV X109 hx hZ (y := (⟨"com/example/porthcurno/porthcurno/core/SelectorExpression$Relation", "comparesEquality", "()Z"⟩ : MethodName)) (z := (⟨"com/example/porthcurno/porthcurno/core/SelectorExpression$Relation", "comparesEquality", "()Z"⟩ : MethodName)) hown (hw _ (List.mem_of_getElem? (i := 8) rfl)) (hw _ (List.mem_of_getElem? (i := 9) rfl)) (notFace_of_selects (args := #[]) (mvT hZ (hw _ (List.mem_of_getElem? (i := 11) rfl)))) (hw _ (List.mem_of_getElem? (i := 11) rfl)) (hw _ (List.mem_of_getElem? (i := 10) rfl)) (hw _ (List.mem_of_getElem? (i := 6) rfl)) (hw _ (List.mem_of_getElem? (i := 12) rfl)) (by decide) Els_ (hM := (rm2o l Z a0 hw [] ls_ eq_ nq_ h0 n0 Z0 Seq_ Snq_ ne_ls__eq_ ne_ls__nq_)) (by decide) (by decide) (by decide) (by decide) e109 (argsL := []) (rest := []) (Ls := #[.val (.int p0), .val (.int (2 : Int32)), .val (.ref ls_), .unset, .unset, .unset]) (by rw [hml]; rfl) (lenOf pd___Z rfl) (W := 0) (Nat.le_of_eq rfl) (hb hby at_14)
    obtain ⟨rfl, N110q, e110⟩ := q110
    have N110 := Fr.app N109 N110q
    obtain ⟨v111, T111, L111, X111, q111, st111⟩ := own_callV X110 hx hZ (y := (⟨"com/example/porthcurno/porthcurno/core/SelectorExpression$Relation", "holds", "(I)Z"⟩ : MethodName)) (z := (⟨"com/example/porthcurno/porthcurno/core/SelectorExpression$Relation", "holds", "(I)Z"⟩ : MethodName)) hown (hw _ (List.mem_of_getElem? (i := 14) rfl)) (hw _ (List.mem_of_getElem? (i := 15) rfl)) (notFace_of_selects (args := #[]) (mvT hZ (hw _ (List.mem_of_getElem? (i := 17) rfl)))) (hw _ (List.mem_of_getElem? (i := 17) rfl)) (hw _ (List.mem_of_getElem? (i := 16) rfl)) (hw _ (List.mem_of_getElem? (i := 6) rfl)) (hw _ (List.mem_of_getElem? (i := 18) rfl)) (by decide) Els_ (hM := (rm3_2 l Z a0 hw [] ls_ (1 : Int32) h0 n0 Z0 Els_ Fls_)) (by decide) (by decide) (by decide) (by decide) e110 (argsL := [(.int (1 : Int32))]) (rest := []) (Ls := #[.val (.int p0), .val (.int (2 : Int32)), .val (.ref ls_), .val (.int (0 : Int32)), .val (.int (0 : Int32)), .unset]) (by rw [hml]; rfl) (lenOf pd__I_Z rfl) (W := 0) (Nat.le_of_eq rfl) (hb hby at_36)
    obtain ⟨rfl, N111q, e111⟩ := q111
    have N111 := Fr.app N110 N111q
    obtain ⟨v112, T112, L112, X112, q112, st112⟩ := own_callV X111 hx hZ (y := (⟨"com/example/porthcurno/porthcurno/core/SelectorExpression$Relation", "holds", "(I)Z"⟩ : MethodName)) (z := (⟨"com/example/porthcurno/porthcurno/core/SelectorExpression$Relation", "holds", "(I)Z"⟩ : MethodName)) hown (hw _ (List.mem_of_getElem? (i := 14) rfl)) (hw _ (List.mem_of_getElem? (i := 15) rfl)) (notFace_of_selects (args := #[]) (mvT hZ (hw _ (List.mem_of_getElem? (i := 17) rfl)))) (hw _ (List.mem_of_getElem? (i := 17) rfl)) (hw _ (List.mem_of_getElem? (i := 16) rfl)) (hw _ (List.mem_of_getElem? (i := 6) rfl)) (hw _ (List.mem_of_getElem? (i := 18) rfl)) (by decide) Els_ (hM := (rm3_2 l Z a0 hw [] ls_ (-1 : Int32) h0 n0 Z0 Els_ Fls_)) (by decide) (by decide) (by decide) (by decide) e111 (argsL := [(.int (-1 : Int32))]) (rest := [(.int (b2i (decide ((1 : Int32) < 0))))]) (Ls := #[.val (.int p0), .val (.int (2 : Int32)), .val (.ref ls_), .val (.int (0 : Int32)), .val (.int (0 : Int32)), .unset]) (by rw [hml]; rfl) (lenOf pd__I_Z rfl) (W := 1) (Nat.le_of_eq rfl) (hb hby at_41)
    obtain ⟨rfl, N112q, e112⟩ := q112
    have N112 := Fr.app N111 N112q
    refine Gl.fin X112 (v := some (.int (1 : Int32))) (fun h => by rw [Bd.returns] at h; cases h) Bd.notSynchronized ?_ e112 (by decide) (by decide) (fun fs hr => ?_)
    · exact ⟨rfl, N112⟩
    · show Steps p.tables e below (s₁.setTop (mkF m 8 #[.val (.int p0), .val (.int (2 : Int32)), .unset, .unset, .unset, .unset] [])) _
      refine XS.iloadN X0.here hx rfl (hb hby at_8) rfl ?_
      show Steps p.tables e below (s₁.setTop (mkF m 9 #[.val (.int p0), .val (.int (2 : Int32)), .unset, .unset, .unset, .unset] [(.int (2 : Int32))])) _
      refine st109 _ ?_
      show Steps p.tables e below (T109.setTop (mkF m 12 #[.val (.int p0), .val (.int (2 : Int32)), .unset, .unset, .unset, .unset] [(.ref ls_)])) _
      refine XS.astoreN X109.here hx rfl (hb hby at_12) rfl rfl (l' := #[.val (.int p0), .val (.int (2 : Int32)), .val (.ref ls_), .unset, .unset, .unset]) rfl ?_
      show Steps p.tables e below (T109.setTop (mkF m 13 #[.val (.int p0), .val (.int (2 : Int32)), .val (.ref ls_), .unset, .unset, .unset] [])) _
      refine XS.aloadN X109.here hx rfl (hb hby at_13) rfl rfl ?_
      show Steps p.tables e below (T109.setTop (mkF m 14 #[.val (.int p0), .val (.int (2 : Int32)), .val (.ref ls_), .unset, .unset, .unset] [(.ref ls_)])) _
      refine st110 _ ?_
      show Steps p.tables e below (T110.setTop (mkF m 17 #[.val (.int p0), .val (.int (2 : Int32)), .val (.ref ls_), .unset, .unset, .unset] [(.int (0 : Int32))])) _
      refine XS.istoreN X110.here hx rfl (hb hby at_17) rfl (l' := #[.val (.int p0), .val (.int (2 : Int32)), .val (.ref ls_), .val (.int (0 : Int32)), .unset, .unset]) rfl ?_
      show Steps p.tables e below (T110.setTop (mkF m 18 #[.val (.int p0), .val (.int (2 : Int32)), .val (.ref ls_), .val (.int (0 : Int32)), .unset, .unset] [])) _
      refine XS.iloadN X110.here hx rfl (hb hby at_18) rfl ?_
      show Steps p.tables e below (T110.setTop (mkF m 19 #[.val (.int p0), .val (.int (2 : Int32)), .val (.ref ls_), .val (.int (0 : Int32)), .unset, .unset] [(.int (2 : Int32))])) _
      refine XS.ifNo X110.here hx rfl (hb hby at_19) rfl (own_f (i0_eq _) (by decide)) ?_
      show Steps p.tables e below (T110.setTop (mkF m 22 #[.val (.int p0), .val (.int (2 : Int32)), .val (.ref ls_), .val (.int (0 : Int32)), .unset, .unset] [])) _
      refine XS.iloadN X110.here hx rfl (hb hby at_22) rfl ?_
      show Steps p.tables e below (T110.setTop (mkF m 23 #[.val (.int p0), .val (.int (2 : Int32)), .val (.ref ls_), .val (.int (0 : Int32)), .unset, .unset] [(.int (2 : Int32))])) _
      refine XS.iconst X110.here hx rfl (hb hby at_23) ?_
      show Steps p.tables e below (T110.setTop (mkF m 24 #[.val (.int p0), .val (.int (2 : Int32)), .val (.ref ls_), .val (.int (0 : Int32)), .unset, .unset] [(.int (1 : Int32)), (.int (2 : Int32))])) _
      refine XS.icmpYes X110.here hx rfl (pc0 := 24) (pc' := 31) rfl (hb hby at_24) rfl (own_nt (ic_ne _ _) (by decide)) (by decide) (by decide) ?_
      show Steps p.tables e below (T110.setTop (mkF m 31 #[.val (.int p0), .val (.int (2 : Int32)), .val (.ref ls_), .val (.int (0 : Int32)), .unset, .unset] [])) _
      refine XS.iconst X110.here hx rfl (hb hby at_31) ?_
      show Steps p.tables e below (T110.setTop (mkF m 32 #[.val (.int p0), .val (.int (2 : Int32)), .val (.ref ls_), .val (.int (0 : Int32)), .unset, .unset] [(.int (0 : Int32))])) _
      refine XS.istore X110.here hx rfl (hb hby at_32) rfl (l' := #[.val (.int p0), .val (.int (2 : Int32)), .val (.ref ls_), .val (.int (0 : Int32)), .val (.int (0 : Int32)), .unset]) rfl ?_
      show Steps p.tables e below (T110.setTop (mkF m 34 #[.val (.int p0), .val (.int (2 : Int32)), .val (.ref ls_), .val (.int (0 : Int32)), .val (.int (0 : Int32)), .unset] [])) _
      refine XS.aloadN X110.here hx rfl (hb hby at_34) rfl rfl ?_
      show Steps p.tables e below (T110.setTop (mkF m 35 #[.val (.int p0), .val (.int (2 : Int32)), .val (.ref ls_), .val (.int (0 : Int32)), .val (.int (0 : Int32)), .unset] [(.ref ls_)])) _
      refine XS.iconst X110.here hx rfl (hb hby at_35) ?_
      show Steps p.tables e below (T110.setTop (mkF m 36 #[.val (.int p0), .val (.int (2 : Int32)), .val (.ref ls_), .val (.int (0 : Int32)), .val (.int (0 : Int32)), .unset] [(.int (1 : Int32)), (.ref ls_)])) _
      refine st111 _ ?_
      show Steps p.tables e below (T111.setTop (mkF m 39 #[.val (.int p0), .val (.int (2 : Int32)), .val (.ref ls_), .val (.int (0 : Int32)), .val (.int (0 : Int32)), .unset] [(.int (b2i (decide ((1 : Int32) < 0))))])) _
      refine XS.aloadN X111.here hx rfl (hb hby at_39) rfl rfl ?_
      show Steps p.tables e below (T111.setTop (mkF m 40 #[.val (.int p0), .val (.int (2 : Int32)), .val (.ref ls_), .val (.int (0 : Int32)), .val (.int (0 : Int32)), .unset] [(.ref ls_), (.int (b2i (decide ((1 : Int32) < 0))))])) _
      refine XS.iconst X111.here hx rfl (hb hby at_40) ?_
      show Steps p.tables e below (T111.setTop (mkF m 41 #[.val (.int p0), .val (.int (2 : Int32)), .val (.ref ls_), .val (.int (0 : Int32)), .val (.int (0 : Int32)), .unset] [(.int (-1 : Int32)), (.ref ls_), (.int (b2i (decide ((1 : Int32) < 0))))])) _
      refine st112 _ ?_
      show Steps p.tables e below (T112.setTop (mkF m 44 #[.val (.int p0), .val (.int (2 : Int32)), .val (.ref ls_), .val (.int (0 : Int32)), .val (.int (0 : Int32)), .unset] [(.int (b2i (decide ((-1 : Int32) < 0)))), (.int (b2i (decide ((1 : Int32) < 0))))])) _
      refine XS.icmpYes X112.here hx rfl (pc0 := 44) (pc' := 51) rfl (hb hby at_44) rfl (own_nt (ic_ne _ _) (by decide)) (by decide) (by decide) ?_
      show Steps p.tables e below (T112.setTop (mkF m 51 #[.val (.int p0), .val (.int (2 : Int32)), .val (.ref ls_), .val (.int (0 : Int32)), .val (.int (0 : Int32)), .unset] [])) _
      refine XS.iconst X112.here hx rfl (hb hby at_51) ?_
      show Steps p.tables e below (T112.setTop (mkF m 52 #[.val (.int p0), .val (.int (2 : Int32)), .val (.ref ls_), .val (.int (0 : Int32)), .val (.int (0 : Int32)), .unset] [(.int (0 : Int32))])) _
      refine XS.istore X112.here hx rfl (hb hby at_52) rfl (l' := #[.val (.int p0), .val (.int (2 : Int32)), .val (.ref ls_), .val (.int (0 : Int32)), .val (.int (0 : Int32)), .val (.int (0 : Int32))]) rfl ?_
      show Steps p.tables e below (T112.setTop (mkF m 54 #[.val (.int p0), .val (.int (2 : Int32)), .val (.ref ls_), .val (.int (0 : Int32)), .val (.int (0 : Int32)), .val (.int (0 : Int32))] [])) _
      refine XS.iloadN X112.here hx rfl (hb hby at_54) rfl ?_
      show Steps p.tables e below (T112.setTop (mkF m 55 #[.val (.int p0), .val (.int (2 : Int32)), .val (.ref ls_), .val (.int (0 : Int32)), .val (.int (0 : Int32)), .val (.int (0 : Int32))] [(.int (0 : Int32))])) _
      refine XS.iload X112.here hx rfl (hb hby at_55) rfl ?_
      show Steps p.tables e below (T112.setTop (mkF m 57 #[.val (.int p0), .val (.int (2 : Int32)), .val (.ref ls_), .val (.int (0 : Int32)), .val (.int (0 : Int32)), .val (.int (0 : Int32))] [(.int (0 : Int32)), (.int (0 : Int32))])) _
      refine XS.icmpNo X112.here hx rfl (hb hby at_57) rfl (own_nf (ic_ne _ _) (by decide)) ?_
      show Steps p.tables e below (T112.setTop (mkF m 60 #[.val (.int p0), .val (.int (2 : Int32)), .val (.ref ls_), .val (.int (0 : Int32)), .val (.int (0 : Int32)), .val (.int (0 : Int32))] [])) _
      refine XS.iloadN X112.here hx rfl (hb hby at_60) rfl ?_
      show Steps p.tables e below (T112.setTop (mkF m 61 #[.val (.int p0), .val (.int (2 : Int32)), .val (.ref ls_), .val (.int (0 : Int32)), .val (.int (0 : Int32)), .val (.int (0 : Int32))] [(.int (0 : Int32))])) _
      refine XS.iload X112.here hx rfl (hb hby at_61) rfl ?_
      show Steps p.tables e below (T112.setTop (mkF m 63 #[.val (.int p0), .val (.int (2 : Int32)), .val (.ref ls_), .val (.int (0 : Int32)), .val (.int (0 : Int32)), .val (.int (0 : Int32))] [(.int (0 : Int32)), (.int (0 : Int32))])) _
      refine XS.icmpNo X112.here hx rfl (hb hby at_63) rfl (own_nf (ic_ne _ _) (by decide)) ?_
      show Steps p.tables e below (T112.setTop (mkF m 66 #[.val (.int p0), .val (.int (2 : Int32)), .val (.ref ls_), .val (.int (0 : Int32)), .val (.int (0 : Int32)), .val (.int (0 : Int32))] [])) _
      refine XS.iconst X112.here hx rfl (hb hby at_66) ?_
      show Steps p.tables e below (T112.setTop (mkF m 67 #[.val (.int p0), .val (.int (2 : Int32)), .val (.ref ls_), .val (.int (0 : Int32)), .val (.int (0 : Int32)), .val (.int (0 : Int32))] [(.int (1 : Int32))])) _
      refine XS.goto X112.here hx rfl (pc0 := 67) (pc' := 71) rfl (hb hby at_67) (by decide) (by decide) ?_
      show Steps p.tables e below (T112.setTop (mkF m 71 #[.val (.int p0), .val (.int (2 : Int32)), .val (.ref ls_), .val (.int (0 : Int32)), .val (.int (0 : Int32)), .val (.int (0 : Int32))] [(.int (1 : Int32))])) _
      exact retN X112 hx (t := .boolean) Bd.returns (by simp) (hb hby at_71) hr
  · rw [hk]
    obtain ⟨v113, T113, L113, X113, q113, st113⟩ := own_callS X0 hx hZ (y := (⟨"com/example/porthcurno/porthcurno/core/RelationComparesEqualityPinLaw", "pick", "(I)Lcom/example/porthcurno/porthcurno/core/SelectorExpression$Relation;"⟩ : MethodName)) hown (hw _ (List.mem_of_getElem? (i := 1) rfl)) (hw _ (List.mem_of_getElem? (i := 2) rfl)) (hw _ (List.mem_of_getElem? (i := 3) rfl)) (hw _ (List.mem_of_getElem? (i := 4) rfl)) (by decide) (hM := (rm1_3 l Z a0 hw [] le_ h0 n0 Z0 Sle_)) (by decide) (by decide) (by decide) (by decide) e0 (argsL := [(.int (3 : Int32))]) (rest := []) (Ls := #[.val (.int p0), .val (.int (3 : Int32)), .unset, .unset, .unset, .unset]) (by rw [hml]; rfl) (lenOf pd__I_Lcom_example_porthcurno_porthcurno_core_SelectorExpression_Relation_ rfl) (W := 0) (Nat.le_of_eq rfl) (hb hby at_9)
    obtain ⟨rfl, N113q, e113⟩ := q113
    have N113 := Fr.app N0 N113q
    obtain ⟨v114, T114, L114, X114, q114, st114⟩ := own_callV X113 hx hZ (y := (⟨"com/example/porthcurno/porthcurno/core/SelectorExpression$Relation", "comparesEquality", "()Z"⟩ : MethodName)) (z := (⟨"com/example/porthcurno/porthcurno/core/SelectorExpression$Relation", "comparesEquality", "()Z"⟩ : MethodName)) hown (hw _ (List.mem_of_getElem? (i := 8) rfl)) (hw _ (List.mem_of_getElem? (i := 9) rfl)) (notFace_of_selects (args := #[]) (mvT hZ (hw _ (List.mem_of_getElem? (i := 11) rfl)))) (hw _ (List.mem_of_getElem? (i := 11) rfl)) (hw _ (List.mem_of_getElem? (i := 10) rfl)) (hw _ (List.mem_of_getElem? (i := 6) rfl)) (hw _ (List.mem_of_getElem? (i := 12) rfl)) (by decide) Ele_ (hM := (rm2o l Z a0 hw [] le_ eq_ nq_ h0 n0 Z0 Seq_ Snq_ ne_le__eq_ ne_le__nq_)) (by decide) (by decide) (by decide) (by decide) e113 (argsL := []) (rest := []) (Ls := #[.val (.int p0), .val (.int (3 : Int32)), .val (.ref le_), .unset, .unset, .unset]) (by rw [hml]; rfl) (lenOf pd___Z rfl) (W := 0) (Nat.le_of_eq rfl) (hb hby at_14)
    obtain ⟨rfl, N114q, e114⟩ := q114
    have N114 := Fr.app N113 N114q
    obtain ⟨v115, T115, L115, X115, q115, st115⟩ := own_callV X114 hx hZ (y := (⟨"com/example/porthcurno/porthcurno/core/SelectorExpression$Relation", "holds", "(I)Z"⟩ : MethodName)) (z := (⟨"com/example/porthcurno/porthcurno/core/SelectorExpression$Relation", "holds", "(I)Z"⟩ : MethodName)) hown (hw _ (List.mem_of_getElem? (i := 14) rfl)) (hw _ (List.mem_of_getElem? (i := 15) rfl)) (notFace_of_selects (args := #[]) (mvT hZ (hw _ (List.mem_of_getElem? (i := 17) rfl)))) (hw _ (List.mem_of_getElem? (i := 17) rfl)) (hw _ (List.mem_of_getElem? (i := 16) rfl)) (hw _ (List.mem_of_getElem? (i := 6) rfl)) (hw _ (List.mem_of_getElem? (i := 18) rfl)) (by decide) Ele_ (hM := (rm3_3 l Z a0 hw [] le_ (1 : Int32) h0 n0 Z0 Ele_ Fle_)) (by decide) (by decide) (by decide) (by decide) e114 (argsL := [(.int (1 : Int32))]) (rest := []) (Ls := #[.val (.int p0), .val (.int (3 : Int32)), .val (.ref le_), .val (.int (0 : Int32)), .val (.int (0 : Int32)), .unset]) (by rw [hml]; rfl) (lenOf pd__I_Z rfl) (W := 0) (Nat.le_of_eq rfl) (hb hby at_36)
    obtain ⟨rfl, N115q, e115⟩ := q115
    have N115 := Fr.app N114 N115q
    obtain ⟨v116, T116, L116, X116, q116, st116⟩ := own_callV X115 hx hZ (y := (⟨"com/example/porthcurno/porthcurno/core/SelectorExpression$Relation", "holds", "(I)Z"⟩ : MethodName)) (z := (⟨"com/example/porthcurno/porthcurno/core/SelectorExpression$Relation", "holds", "(I)Z"⟩ : MethodName)) hown (hw _ (List.mem_of_getElem? (i := 14) rfl)) (hw _ (List.mem_of_getElem? (i := 15) rfl)) (notFace_of_selects (args := #[]) (mvT hZ (hw _ (List.mem_of_getElem? (i := 17) rfl)))) (hw _ (List.mem_of_getElem? (i := 17) rfl)) (hw _ (List.mem_of_getElem? (i := 16) rfl)) (hw _ (List.mem_of_getElem? (i := 6) rfl)) (hw _ (List.mem_of_getElem? (i := 18) rfl)) (by decide) Ele_ (hM := (rm3_3 l Z a0 hw [] le_ (-1 : Int32) h0 n0 Z0 Ele_ Fle_)) (by decide) (by decide) (by decide) (by decide) e115 (argsL := [(.int (-1 : Int32))]) (rest := [(.int (b2i (decide (¬ 0 < (1 : Int32)))))]) (Ls := #[.val (.int p0), .val (.int (3 : Int32)), .val (.ref le_), .val (.int (0 : Int32)), .val (.int (0 : Int32)), .unset]) (by rw [hml]; rfl) (lenOf pd__I_Z rfl) (W := 1) (Nat.le_of_eq rfl) (hb hby at_41)
    obtain ⟨rfl, N116q, e116⟩ := q116
    have N116 := Fr.app N115 N116q
    refine Gl.fin X116 (v := some (.int (1 : Int32))) (fun h => by rw [Bd.returns] at h; cases h) Bd.notSynchronized ?_ e116 (by decide) (by decide) (fun fs hr => ?_)
    · exact ⟨rfl, N116⟩
    · show Steps p.tables e below (s₁.setTop (mkF m 8 #[.val (.int p0), .val (.int (3 : Int32)), .unset, .unset, .unset, .unset] [])) _
      refine XS.iloadN X0.here hx rfl (hb hby at_8) rfl ?_
      show Steps p.tables e below (s₁.setTop (mkF m 9 #[.val (.int p0), .val (.int (3 : Int32)), .unset, .unset, .unset, .unset] [(.int (3 : Int32))])) _
      refine st113 _ ?_
      show Steps p.tables e below (T113.setTop (mkF m 12 #[.val (.int p0), .val (.int (3 : Int32)), .unset, .unset, .unset, .unset] [(.ref le_)])) _
      refine XS.astoreN X113.here hx rfl (hb hby at_12) rfl rfl (l' := #[.val (.int p0), .val (.int (3 : Int32)), .val (.ref le_), .unset, .unset, .unset]) rfl ?_
      show Steps p.tables e below (T113.setTop (mkF m 13 #[.val (.int p0), .val (.int (3 : Int32)), .val (.ref le_), .unset, .unset, .unset] [])) _
      refine XS.aloadN X113.here hx rfl (hb hby at_13) rfl rfl ?_
      show Steps p.tables e below (T113.setTop (mkF m 14 #[.val (.int p0), .val (.int (3 : Int32)), .val (.ref le_), .unset, .unset, .unset] [(.ref le_)])) _
      refine st114 _ ?_
      show Steps p.tables e below (T114.setTop (mkF m 17 #[.val (.int p0), .val (.int (3 : Int32)), .val (.ref le_), .unset, .unset, .unset] [(.int (0 : Int32))])) _
      refine XS.istoreN X114.here hx rfl (hb hby at_17) rfl (l' := #[.val (.int p0), .val (.int (3 : Int32)), .val (.ref le_), .val (.int (0 : Int32)), .unset, .unset]) rfl ?_
      show Steps p.tables e below (T114.setTop (mkF m 18 #[.val (.int p0), .val (.int (3 : Int32)), .val (.ref le_), .val (.int (0 : Int32)), .unset, .unset] [])) _
      refine XS.iloadN X114.here hx rfl (hb hby at_18) rfl ?_
      show Steps p.tables e below (T114.setTop (mkF m 19 #[.val (.int p0), .val (.int (3 : Int32)), .val (.ref le_), .val (.int (0 : Int32)), .unset, .unset] [(.int (3 : Int32))])) _
      refine XS.ifNo X114.here hx rfl (hb hby at_19) rfl (own_f (i0_eq _) (by decide)) ?_
      show Steps p.tables e below (T114.setTop (mkF m 22 #[.val (.int p0), .val (.int (3 : Int32)), .val (.ref le_), .val (.int (0 : Int32)), .unset, .unset] [])) _
      refine XS.iloadN X114.here hx rfl (hb hby at_22) rfl ?_
      show Steps p.tables e below (T114.setTop (mkF m 23 #[.val (.int p0), .val (.int (3 : Int32)), .val (.ref le_), .val (.int (0 : Int32)), .unset, .unset] [(.int (3 : Int32))])) _
      refine XS.iconst X114.here hx rfl (hb hby at_23) ?_
      show Steps p.tables e below (T114.setTop (mkF m 24 #[.val (.int p0), .val (.int (3 : Int32)), .val (.ref le_), .val (.int (0 : Int32)), .unset, .unset] [(.int (1 : Int32)), (.int (3 : Int32))])) _
      refine XS.icmpYes X114.here hx rfl (pc0 := 24) (pc' := 31) rfl (hb hby at_24) rfl (own_nt (ic_ne _ _) (by decide)) (by decide) (by decide) ?_
      show Steps p.tables e below (T114.setTop (mkF m 31 #[.val (.int p0), .val (.int (3 : Int32)), .val (.ref le_), .val (.int (0 : Int32)), .unset, .unset] [])) _
      refine XS.iconst X114.here hx rfl (hb hby at_31) ?_
      show Steps p.tables e below (T114.setTop (mkF m 32 #[.val (.int p0), .val (.int (3 : Int32)), .val (.ref le_), .val (.int (0 : Int32)), .unset, .unset] [(.int (0 : Int32))])) _
      refine XS.istore X114.here hx rfl (hb hby at_32) rfl (l' := #[.val (.int p0), .val (.int (3 : Int32)), .val (.ref le_), .val (.int (0 : Int32)), .val (.int (0 : Int32)), .unset]) rfl ?_
      show Steps p.tables e below (T114.setTop (mkF m 34 #[.val (.int p0), .val (.int (3 : Int32)), .val (.ref le_), .val (.int (0 : Int32)), .val (.int (0 : Int32)), .unset] [])) _
      refine XS.aloadN X114.here hx rfl (hb hby at_34) rfl rfl ?_
      show Steps p.tables e below (T114.setTop (mkF m 35 #[.val (.int p0), .val (.int (3 : Int32)), .val (.ref le_), .val (.int (0 : Int32)), .val (.int (0 : Int32)), .unset] [(.ref le_)])) _
      refine XS.iconst X114.here hx rfl (hb hby at_35) ?_
      show Steps p.tables e below (T114.setTop (mkF m 36 #[.val (.int p0), .val (.int (3 : Int32)), .val (.ref le_), .val (.int (0 : Int32)), .val (.int (0 : Int32)), .unset] [(.int (1 : Int32)), (.ref le_)])) _
      refine st115 _ ?_
      show Steps p.tables e below (T115.setTop (mkF m 39 #[.val (.int p0), .val (.int (3 : Int32)), .val (.ref le_), .val (.int (0 : Int32)), .val (.int (0 : Int32)), .unset] [(.int (b2i (decide (¬ 0 < (1 : Int32)))))])) _
      refine XS.aloadN X115.here hx rfl (hb hby at_39) rfl rfl ?_
      show Steps p.tables e below (T115.setTop (mkF m 40 #[.val (.int p0), .val (.int (3 : Int32)), .val (.ref le_), .val (.int (0 : Int32)), .val (.int (0 : Int32)), .unset] [(.ref le_), (.int (b2i (decide (¬ 0 < (1 : Int32)))))])) _
      refine XS.iconst X115.here hx rfl (hb hby at_40) ?_
      show Steps p.tables e below (T115.setTop (mkF m 41 #[.val (.int p0), .val (.int (3 : Int32)), .val (.ref le_), .val (.int (0 : Int32)), .val (.int (0 : Int32)), .unset] [(.int (-1 : Int32)), (.ref le_), (.int (b2i (decide (¬ 0 < (1 : Int32)))))])) _
      refine st116 _ ?_
      show Steps p.tables e below (T116.setTop (mkF m 44 #[.val (.int p0), .val (.int (3 : Int32)), .val (.ref le_), .val (.int (0 : Int32)), .val (.int (0 : Int32)), .unset] [(.int (b2i (decide (¬ 0 < (-1 : Int32))))), (.int (b2i (decide (¬ 0 < (1 : Int32)))))])) _
      refine XS.icmpYes X116.here hx rfl (pc0 := 44) (pc' := 51) rfl (hb hby at_44) rfl (own_nt (ic_ne _ _) (by decide)) (by decide) (by decide) ?_
      show Steps p.tables e below (T116.setTop (mkF m 51 #[.val (.int p0), .val (.int (3 : Int32)), .val (.ref le_), .val (.int (0 : Int32)), .val (.int (0 : Int32)), .unset] [])) _
      refine XS.iconst X116.here hx rfl (hb hby at_51) ?_
      show Steps p.tables e below (T116.setTop (mkF m 52 #[.val (.int p0), .val (.int (3 : Int32)), .val (.ref le_), .val (.int (0 : Int32)), .val (.int (0 : Int32)), .unset] [(.int (0 : Int32))])) _
      refine XS.istore X116.here hx rfl (hb hby at_52) rfl (l' := #[.val (.int p0), .val (.int (3 : Int32)), .val (.ref le_), .val (.int (0 : Int32)), .val (.int (0 : Int32)), .val (.int (0 : Int32))]) rfl ?_
      show Steps p.tables e below (T116.setTop (mkF m 54 #[.val (.int p0), .val (.int (3 : Int32)), .val (.ref le_), .val (.int (0 : Int32)), .val (.int (0 : Int32)), .val (.int (0 : Int32))] [])) _
      refine XS.iloadN X116.here hx rfl (hb hby at_54) rfl ?_
      show Steps p.tables e below (T116.setTop (mkF m 55 #[.val (.int p0), .val (.int (3 : Int32)), .val (.ref le_), .val (.int (0 : Int32)), .val (.int (0 : Int32)), .val (.int (0 : Int32))] [(.int (0 : Int32))])) _
      refine XS.iload X116.here hx rfl (hb hby at_55) rfl ?_
      show Steps p.tables e below (T116.setTop (mkF m 57 #[.val (.int p0), .val (.int (3 : Int32)), .val (.ref le_), .val (.int (0 : Int32)), .val (.int (0 : Int32)), .val (.int (0 : Int32))] [(.int (0 : Int32)), (.int (0 : Int32))])) _
      refine XS.icmpNo X116.here hx rfl (hb hby at_57) rfl (own_nf (ic_ne _ _) (by decide)) ?_
      show Steps p.tables e below (T116.setTop (mkF m 60 #[.val (.int p0), .val (.int (3 : Int32)), .val (.ref le_), .val (.int (0 : Int32)), .val (.int (0 : Int32)), .val (.int (0 : Int32))] [])) _
      refine XS.iloadN X116.here hx rfl (hb hby at_60) rfl ?_
      show Steps p.tables e below (T116.setTop (mkF m 61 #[.val (.int p0), .val (.int (3 : Int32)), .val (.ref le_), .val (.int (0 : Int32)), .val (.int (0 : Int32)), .val (.int (0 : Int32))] [(.int (0 : Int32))])) _
      refine XS.iload X116.here hx rfl (hb hby at_61) rfl ?_
      show Steps p.tables e below (T116.setTop (mkF m 63 #[.val (.int p0), .val (.int (3 : Int32)), .val (.ref le_), .val (.int (0 : Int32)), .val (.int (0 : Int32)), .val (.int (0 : Int32))] [(.int (0 : Int32)), (.int (0 : Int32))])) _
      refine XS.icmpNo X116.here hx rfl (hb hby at_63) rfl (own_nf (ic_ne _ _) (by decide)) ?_
      show Steps p.tables e below (T116.setTop (mkF m 66 #[.val (.int p0), .val (.int (3 : Int32)), .val (.ref le_), .val (.int (0 : Int32)), .val (.int (0 : Int32)), .val (.int (0 : Int32))] [])) _
      refine XS.iconst X116.here hx rfl (hb hby at_66) ?_
      show Steps p.tables e below (T116.setTop (mkF m 67 #[.val (.int p0), .val (.int (3 : Int32)), .val (.ref le_), .val (.int (0 : Int32)), .val (.int (0 : Int32)), .val (.int (0 : Int32))] [(.int (1 : Int32))])) _
      refine XS.goto X116.here hx rfl (pc0 := 67) (pc' := 71) rfl (hb hby at_67) (by decide) (by decide) ?_
      show Steps p.tables e below (T116.setTop (mkF m 71 #[.val (.int p0), .val (.int (3 : Int32)), .val (.ref le_), .val (.int (0 : Int32)), .val (.int (0 : Int32)), .val (.int (0 : Int32))] [(.int (1 : Int32))])) _
      exact retN X116 hx (t := .boolean) Bd.returns (by simp) (hb hby at_71) hr
  · rw [hk]
    obtain ⟨v117, T117, L117, X117, q117, st117⟩ := own_callS X0 hx hZ (y := (⟨"com/example/porthcurno/porthcurno/core/RelationComparesEqualityPinLaw", "pick", "(I)Lcom/example/porthcurno/porthcurno/core/SelectorExpression$Relation;"⟩ : MethodName)) hown (hw _ (List.mem_of_getElem? (i := 1) rfl)) (hw _ (List.mem_of_getElem? (i := 2) rfl)) (hw _ (List.mem_of_getElem? (i := 3) rfl)) (hw _ (List.mem_of_getElem? (i := 4) rfl)) (by decide) (hM := (rm1_4 l Z a0 hw [] gr_ h0 n0 Z0 Sgr_)) (by decide) (by decide) (by decide) (by decide) e0 (argsL := [(.int (4 : Int32))]) (rest := []) (Ls := #[.val (.int p0), .val (.int (4 : Int32)), .unset, .unset, .unset, .unset]) (by rw [hml]; rfl) (lenOf pd__I_Lcom_example_porthcurno_porthcurno_core_SelectorExpression_Relation_ rfl) (W := 0) (Nat.le_of_eq rfl) (hb hby at_9)
    obtain ⟨rfl, N117q, e117⟩ := q117
    have N117 := Fr.app N0 N117q
    obtain ⟨v118, T118, L118, X118, q118, st118⟩ := own_callV X117 hx hZ (y := (⟨"com/example/porthcurno/porthcurno/core/SelectorExpression$Relation", "comparesEquality", "()Z"⟩ : MethodName)) (z := (⟨"com/example/porthcurno/porthcurno/core/SelectorExpression$Relation", "comparesEquality", "()Z"⟩ : MethodName)) hown (hw _ (List.mem_of_getElem? (i := 8) rfl)) (hw _ (List.mem_of_getElem? (i := 9) rfl)) (notFace_of_selects (args := #[]) (mvT hZ (hw _ (List.mem_of_getElem? (i := 11) rfl)))) (hw _ (List.mem_of_getElem? (i := 11) rfl)) (hw _ (List.mem_of_getElem? (i := 10) rfl)) (hw _ (List.mem_of_getElem? (i := 6) rfl)) (hw _ (List.mem_of_getElem? (i := 12) rfl)) (by decide) Egr_ (hM := (rm2o l Z a0 hw [] gr_ eq_ nq_ h0 n0 Z0 Seq_ Snq_ ne_gr__eq_ ne_gr__nq_)) (by decide) (by decide) (by decide) (by decide) e117 (argsL := []) (rest := []) (Ls := #[.val (.int p0), .val (.int (4 : Int32)), .val (.ref gr_), .unset, .unset, .unset]) (by rw [hml]; rfl) (lenOf pd___Z rfl) (W := 0) (Nat.le_of_eq rfl) (hb hby at_14)
    obtain ⟨rfl, N118q, e118⟩ := q118
    have N118 := Fr.app N117 N118q
    obtain ⟨v119, T119, L119, X119, q119, st119⟩ := own_callV X118 hx hZ (y := (⟨"com/example/porthcurno/porthcurno/core/SelectorExpression$Relation", "holds", "(I)Z"⟩ : MethodName)) (z := (⟨"com/example/porthcurno/porthcurno/core/SelectorExpression$Relation", "holds", "(I)Z"⟩ : MethodName)) hown (hw _ (List.mem_of_getElem? (i := 14) rfl)) (hw _ (List.mem_of_getElem? (i := 15) rfl)) (notFace_of_selects (args := #[]) (mvT hZ (hw _ (List.mem_of_getElem? (i := 17) rfl)))) (hw _ (List.mem_of_getElem? (i := 17) rfl)) (hw _ (List.mem_of_getElem? (i := 16) rfl)) (hw _ (List.mem_of_getElem? (i := 6) rfl)) (hw _ (List.mem_of_getElem? (i := 18) rfl)) (by decide) Egr_ (hM := (rm3_4 l Z a0 hw [] gr_ (1 : Int32) h0 n0 Z0 Egr_ Fgr_)) (by decide) (by decide) (by decide) (by decide) e118 (argsL := [(.int (1 : Int32))]) (rest := []) (Ls := #[.val (.int p0), .val (.int (4 : Int32)), .val (.ref gr_), .val (.int (0 : Int32)), .val (.int (0 : Int32)), .unset]) (by rw [hml]; rfl) (lenOf pd__I_Z rfl) (W := 0) (Nat.le_of_eq rfl) (hb hby at_36)
    obtain ⟨rfl, N119q, e119⟩ := q119
    have N119 := Fr.app N118 N119q
    obtain ⟨v120, T120, L120, X120, q120, st120⟩ := own_callV X119 hx hZ (y := (⟨"com/example/porthcurno/porthcurno/core/SelectorExpression$Relation", "holds", "(I)Z"⟩ : MethodName)) (z := (⟨"com/example/porthcurno/porthcurno/core/SelectorExpression$Relation", "holds", "(I)Z"⟩ : MethodName)) hown (hw _ (List.mem_of_getElem? (i := 14) rfl)) (hw _ (List.mem_of_getElem? (i := 15) rfl)) (notFace_of_selects (args := #[]) (mvT hZ (hw _ (List.mem_of_getElem? (i := 17) rfl)))) (hw _ (List.mem_of_getElem? (i := 17) rfl)) (hw _ (List.mem_of_getElem? (i := 16) rfl)) (hw _ (List.mem_of_getElem? (i := 6) rfl)) (hw _ (List.mem_of_getElem? (i := 18) rfl)) (by decide) Egr_ (hM := (rm3_4 l Z a0 hw [] gr_ (-1 : Int32) h0 n0 Z0 Egr_ Fgr_)) (by decide) (by decide) (by decide) (by decide) e119 (argsL := [(.int (-1 : Int32))]) (rest := [(.int (b2i (decide (0 < (1 : Int32)))))]) (Ls := #[.val (.int p0), .val (.int (4 : Int32)), .val (.ref gr_), .val (.int (0 : Int32)), .val (.int (0 : Int32)), .unset]) (by rw [hml]; rfl) (lenOf pd__I_Z rfl) (W := 1) (Nat.le_of_eq rfl) (hb hby at_41)
    obtain ⟨rfl, N120q, e120⟩ := q120
    have N120 := Fr.app N119 N120q
    refine Gl.fin X120 (v := some (.int (1 : Int32))) (fun h => by rw [Bd.returns] at h; cases h) Bd.notSynchronized ?_ e120 (by decide) (by decide) (fun fs hr => ?_)
    · exact ⟨rfl, N120⟩
    · show Steps p.tables e below (s₁.setTop (mkF m 8 #[.val (.int p0), .val (.int (4 : Int32)), .unset, .unset, .unset, .unset] [])) _
      refine XS.iloadN X0.here hx rfl (hb hby at_8) rfl ?_
      show Steps p.tables e below (s₁.setTop (mkF m 9 #[.val (.int p0), .val (.int (4 : Int32)), .unset, .unset, .unset, .unset] [(.int (4 : Int32))])) _
      refine st117 _ ?_
      show Steps p.tables e below (T117.setTop (mkF m 12 #[.val (.int p0), .val (.int (4 : Int32)), .unset, .unset, .unset, .unset] [(.ref gr_)])) _
      refine XS.astoreN X117.here hx rfl (hb hby at_12) rfl rfl (l' := #[.val (.int p0), .val (.int (4 : Int32)), .val (.ref gr_), .unset, .unset, .unset]) rfl ?_
      show Steps p.tables e below (T117.setTop (mkF m 13 #[.val (.int p0), .val (.int (4 : Int32)), .val (.ref gr_), .unset, .unset, .unset] [])) _
      refine XS.aloadN X117.here hx rfl (hb hby at_13) rfl rfl ?_
      show Steps p.tables e below (T117.setTop (mkF m 14 #[.val (.int p0), .val (.int (4 : Int32)), .val (.ref gr_), .unset, .unset, .unset] [(.ref gr_)])) _
      refine st118 _ ?_
      show Steps p.tables e below (T118.setTop (mkF m 17 #[.val (.int p0), .val (.int (4 : Int32)), .val (.ref gr_), .unset, .unset, .unset] [(.int (0 : Int32))])) _
      refine XS.istoreN X118.here hx rfl (hb hby at_17) rfl (l' := #[.val (.int p0), .val (.int (4 : Int32)), .val (.ref gr_), .val (.int (0 : Int32)), .unset, .unset]) rfl ?_
      show Steps p.tables e below (T118.setTop (mkF m 18 #[.val (.int p0), .val (.int (4 : Int32)), .val (.ref gr_), .val (.int (0 : Int32)), .unset, .unset] [])) _
      refine XS.iloadN X118.here hx rfl (hb hby at_18) rfl ?_
      show Steps p.tables e below (T118.setTop (mkF m 19 #[.val (.int p0), .val (.int (4 : Int32)), .val (.ref gr_), .val (.int (0 : Int32)), .unset, .unset] [(.int (4 : Int32))])) _
      refine XS.ifNo X118.here hx rfl (hb hby at_19) rfl (own_f (i0_eq _) (by decide)) ?_
      show Steps p.tables e below (T118.setTop (mkF m 22 #[.val (.int p0), .val (.int (4 : Int32)), .val (.ref gr_), .val (.int (0 : Int32)), .unset, .unset] [])) _
      refine XS.iloadN X118.here hx rfl (hb hby at_22) rfl ?_
      show Steps p.tables e below (T118.setTop (mkF m 23 #[.val (.int p0), .val (.int (4 : Int32)), .val (.ref gr_), .val (.int (0 : Int32)), .unset, .unset] [(.int (4 : Int32))])) _
      refine XS.iconst X118.here hx rfl (hb hby at_23) ?_
      show Steps p.tables e below (T118.setTop (mkF m 24 #[.val (.int p0), .val (.int (4 : Int32)), .val (.ref gr_), .val (.int (0 : Int32)), .unset, .unset] [(.int (1 : Int32)), (.int (4 : Int32))])) _
      refine XS.icmpYes X118.here hx rfl (pc0 := 24) (pc' := 31) rfl (hb hby at_24) rfl (own_nt (ic_ne _ _) (by decide)) (by decide) (by decide) ?_
      show Steps p.tables e below (T118.setTop (mkF m 31 #[.val (.int p0), .val (.int (4 : Int32)), .val (.ref gr_), .val (.int (0 : Int32)), .unset, .unset] [])) _
      refine XS.iconst X118.here hx rfl (hb hby at_31) ?_
      show Steps p.tables e below (T118.setTop (mkF m 32 #[.val (.int p0), .val (.int (4 : Int32)), .val (.ref gr_), .val (.int (0 : Int32)), .unset, .unset] [(.int (0 : Int32))])) _
      refine XS.istore X118.here hx rfl (hb hby at_32) rfl (l' := #[.val (.int p0), .val (.int (4 : Int32)), .val (.ref gr_), .val (.int (0 : Int32)), .val (.int (0 : Int32)), .unset]) rfl ?_
      show Steps p.tables e below (T118.setTop (mkF m 34 #[.val (.int p0), .val (.int (4 : Int32)), .val (.ref gr_), .val (.int (0 : Int32)), .val (.int (0 : Int32)), .unset] [])) _
      refine XS.aloadN X118.here hx rfl (hb hby at_34) rfl rfl ?_
      show Steps p.tables e below (T118.setTop (mkF m 35 #[.val (.int p0), .val (.int (4 : Int32)), .val (.ref gr_), .val (.int (0 : Int32)), .val (.int (0 : Int32)), .unset] [(.ref gr_)])) _
      refine XS.iconst X118.here hx rfl (hb hby at_35) ?_
      show Steps p.tables e below (T118.setTop (mkF m 36 #[.val (.int p0), .val (.int (4 : Int32)), .val (.ref gr_), .val (.int (0 : Int32)), .val (.int (0 : Int32)), .unset] [(.int (1 : Int32)), (.ref gr_)])) _
      refine st119 _ ?_
      show Steps p.tables e below (T119.setTop (mkF m 39 #[.val (.int p0), .val (.int (4 : Int32)), .val (.ref gr_), .val (.int (0 : Int32)), .val (.int (0 : Int32)), .unset] [(.int (b2i (decide (0 < (1 : Int32)))))])) _
      refine XS.aloadN X119.here hx rfl (hb hby at_39) rfl rfl ?_
      show Steps p.tables e below (T119.setTop (mkF m 40 #[.val (.int p0), .val (.int (4 : Int32)), .val (.ref gr_), .val (.int (0 : Int32)), .val (.int (0 : Int32)), .unset] [(.ref gr_), (.int (b2i (decide (0 < (1 : Int32)))))])) _
      refine XS.iconst X119.here hx rfl (hb hby at_40) ?_
      show Steps p.tables e below (T119.setTop (mkF m 41 #[.val (.int p0), .val (.int (4 : Int32)), .val (.ref gr_), .val (.int (0 : Int32)), .val (.int (0 : Int32)), .unset] [(.int (-1 : Int32)), (.ref gr_), (.int (b2i (decide (0 < (1 : Int32)))))])) _
      refine st120 _ ?_
      show Steps p.tables e below (T120.setTop (mkF m 44 #[.val (.int p0), .val (.int (4 : Int32)), .val (.ref gr_), .val (.int (0 : Int32)), .val (.int (0 : Int32)), .unset] [(.int (b2i (decide (0 < (-1 : Int32))))), (.int (b2i (decide (0 < (1 : Int32)))))])) _
      refine XS.icmpYes X120.here hx rfl (pc0 := 44) (pc' := 51) rfl (hb hby at_44) rfl (own_nt (ic_ne _ _) (by decide)) (by decide) (by decide) ?_
      show Steps p.tables e below (T120.setTop (mkF m 51 #[.val (.int p0), .val (.int (4 : Int32)), .val (.ref gr_), .val (.int (0 : Int32)), .val (.int (0 : Int32)), .unset] [])) _
      refine XS.iconst X120.here hx rfl (hb hby at_51) ?_
      show Steps p.tables e below (T120.setTop (mkF m 52 #[.val (.int p0), .val (.int (4 : Int32)), .val (.ref gr_), .val (.int (0 : Int32)), .val (.int (0 : Int32)), .unset] [(.int (0 : Int32))])) _
      refine XS.istore X120.here hx rfl (hb hby at_52) rfl (l' := #[.val (.int p0), .val (.int (4 : Int32)), .val (.ref gr_), .val (.int (0 : Int32)), .val (.int (0 : Int32)), .val (.int (0 : Int32))]) rfl ?_
      show Steps p.tables e below (T120.setTop (mkF m 54 #[.val (.int p0), .val (.int (4 : Int32)), .val (.ref gr_), .val (.int (0 : Int32)), .val (.int (0 : Int32)), .val (.int (0 : Int32))] [])) _
      refine XS.iloadN X120.here hx rfl (hb hby at_54) rfl ?_
      show Steps p.tables e below (T120.setTop (mkF m 55 #[.val (.int p0), .val (.int (4 : Int32)), .val (.ref gr_), .val (.int (0 : Int32)), .val (.int (0 : Int32)), .val (.int (0 : Int32))] [(.int (0 : Int32))])) _
      refine XS.iload X120.here hx rfl (hb hby at_55) rfl ?_
      show Steps p.tables e below (T120.setTop (mkF m 57 #[.val (.int p0), .val (.int (4 : Int32)), .val (.ref gr_), .val (.int (0 : Int32)), .val (.int (0 : Int32)), .val (.int (0 : Int32))] [(.int (0 : Int32)), (.int (0 : Int32))])) _
      refine XS.icmpNo X120.here hx rfl (hb hby at_57) rfl (own_nf (ic_ne _ _) (by decide)) ?_
      show Steps p.tables e below (T120.setTop (mkF m 60 #[.val (.int p0), .val (.int (4 : Int32)), .val (.ref gr_), .val (.int (0 : Int32)), .val (.int (0 : Int32)), .val (.int (0 : Int32))] [])) _
      refine XS.iloadN X120.here hx rfl (hb hby at_60) rfl ?_
      show Steps p.tables e below (T120.setTop (mkF m 61 #[.val (.int p0), .val (.int (4 : Int32)), .val (.ref gr_), .val (.int (0 : Int32)), .val (.int (0 : Int32)), .val (.int (0 : Int32))] [(.int (0 : Int32))])) _
      refine XS.iload X120.here hx rfl (hb hby at_61) rfl ?_
      show Steps p.tables e below (T120.setTop (mkF m 63 #[.val (.int p0), .val (.int (4 : Int32)), .val (.ref gr_), .val (.int (0 : Int32)), .val (.int (0 : Int32)), .val (.int (0 : Int32))] [(.int (0 : Int32)), (.int (0 : Int32))])) _
      refine XS.icmpNo X120.here hx rfl (hb hby at_63) rfl (own_nf (ic_ne _ _) (by decide)) ?_
      show Steps p.tables e below (T120.setTop (mkF m 66 #[.val (.int p0), .val (.int (4 : Int32)), .val (.ref gr_), .val (.int (0 : Int32)), .val (.int (0 : Int32)), .val (.int (0 : Int32))] [])) _
      refine XS.iconst X120.here hx rfl (hb hby at_66) ?_
      show Steps p.tables e below (T120.setTop (mkF m 67 #[.val (.int p0), .val (.int (4 : Int32)), .val (.ref gr_), .val (.int (0 : Int32)), .val (.int (0 : Int32)), .val (.int (0 : Int32))] [(.int (1 : Int32))])) _
      refine XS.goto X120.here hx rfl (pc0 := 67) (pc' := 71) rfl (hb hby at_67) (by decide) (by decide) ?_
      show Steps p.tables e below (T120.setTop (mkF m 71 #[.val (.int p0), .val (.int (4 : Int32)), .val (.ref gr_), .val (.int (0 : Int32)), .val (.int (0 : Int32)), .val (.int (0 : Int32))] [(.int (1 : Int32))])) _
      exact retN X120 hx (t := .boolean) Bd.returns (by simp) (hb hby at_71) hr
  · rw [hk]
    obtain ⟨v121, T121, L121, X121, q121, st121⟩ := own_callS X0 hx hZ (y := (⟨"com/example/porthcurno/porthcurno/core/RelationComparesEqualityPinLaw", "pick", "(I)Lcom/example/porthcurno/porthcurno/core/SelectorExpression$Relation;"⟩ : MethodName)) hown (hw _ (List.mem_of_getElem? (i := 1) rfl)) (hw _ (List.mem_of_getElem? (i := 2) rfl)) (hw _ (List.mem_of_getElem? (i := 3) rfl)) (hw _ (List.mem_of_getElem? (i := 4) rfl)) (by decide) (hM := (rm1_5 l Z a0 hw [] ge_ h0 n0 Z0 Sge_)) (by decide) (by decide) (by decide) (by decide) e0 (argsL := [(.int (5 : Int32))]) (rest := []) (Ls := #[.val (.int p0), .val (.int (5 : Int32)), .unset, .unset, .unset, .unset]) (by rw [hml]; rfl) (lenOf pd__I_Lcom_example_porthcurno_porthcurno_core_SelectorExpression_Relation_ rfl) (W := 0) (Nat.le_of_eq rfl) (hb hby at_9)
    obtain ⟨rfl, N121q, e121⟩ := q121
    have N121 := Fr.app N0 N121q
    obtain ⟨v122, T122, L122, X122, q122, st122⟩ := own_callV X121 hx hZ (y := (⟨"com/example/porthcurno/porthcurno/core/SelectorExpression$Relation", "comparesEquality", "()Z"⟩ : MethodName)) (z := (⟨"com/example/porthcurno/porthcurno/core/SelectorExpression$Relation", "comparesEquality", "()Z"⟩ : MethodName)) hown (hw _ (List.mem_of_getElem? (i := 8) rfl)) (hw _ (List.mem_of_getElem? (i := 9) rfl)) (notFace_of_selects (args := #[]) (mvT hZ (hw _ (List.mem_of_getElem? (i := 11) rfl)))) (hw _ (List.mem_of_getElem? (i := 11) rfl)) (hw _ (List.mem_of_getElem? (i := 10) rfl)) (hw _ (List.mem_of_getElem? (i := 6) rfl)) (hw _ (List.mem_of_getElem? (i := 12) rfl)) (by decide) Ege_ (hM := (rm2o l Z a0 hw [] ge_ eq_ nq_ h0 n0 Z0 Seq_ Snq_ ne_ge__eq_ ne_ge__nq_)) (by decide) (by decide) (by decide) (by decide) e121 (argsL := []) (rest := []) (Ls := #[.val (.int p0), .val (.int (5 : Int32)), .val (.ref ge_), .unset, .unset, .unset]) (by rw [hml]; rfl) (lenOf pd___Z rfl) (W := 0) (Nat.le_of_eq rfl) (hb hby at_14)
    obtain ⟨rfl, N122q, e122⟩ := q122
    have N122 := Fr.app N121 N122q
    obtain ⟨v123, T123, L123, X123, q123, st123⟩ := own_callV X122 hx hZ (y := (⟨"com/example/porthcurno/porthcurno/core/SelectorExpression$Relation", "holds", "(I)Z"⟩ : MethodName)) (z := (⟨"com/example/porthcurno/porthcurno/core/SelectorExpression$Relation", "holds", "(I)Z"⟩ : MethodName)) hown (hw _ (List.mem_of_getElem? (i := 14) rfl)) (hw _ (List.mem_of_getElem? (i := 15) rfl)) (notFace_of_selects (args := #[]) (mvT hZ (hw _ (List.mem_of_getElem? (i := 17) rfl)))) (hw _ (List.mem_of_getElem? (i := 17) rfl)) (hw _ (List.mem_of_getElem? (i := 16) rfl)) (hw _ (List.mem_of_getElem? (i := 6) rfl)) (hw _ (List.mem_of_getElem? (i := 18) rfl)) (by decide) Ege_ (hM := (rm3_5 l Z a0 hw [] ge_ (1 : Int32) h0 n0 Z0 Ege_ Fge_)) (by decide) (by decide) (by decide) (by decide) e122 (argsL := [(.int (1 : Int32))]) (rest := []) (Ls := #[.val (.int p0), .val (.int (5 : Int32)), .val (.ref ge_), .val (.int (0 : Int32)), .val (.int (0 : Int32)), .unset]) (by rw [hml]; rfl) (lenOf pd__I_Z rfl) (W := 0) (Nat.le_of_eq rfl) (hb hby at_36)
    obtain ⟨rfl, N123q, e123⟩ := q123
    have N123 := Fr.app N122 N123q
    obtain ⟨v124, T124, L124, X124, q124, st124⟩ := own_callV X123 hx hZ (y := (⟨"com/example/porthcurno/porthcurno/core/SelectorExpression$Relation", "holds", "(I)Z"⟩ : MethodName)) (z := (⟨"com/example/porthcurno/porthcurno/core/SelectorExpression$Relation", "holds", "(I)Z"⟩ : MethodName)) hown (hw _ (List.mem_of_getElem? (i := 14) rfl)) (hw _ (List.mem_of_getElem? (i := 15) rfl)) (notFace_of_selects (args := #[]) (mvT hZ (hw _ (List.mem_of_getElem? (i := 17) rfl)))) (hw _ (List.mem_of_getElem? (i := 17) rfl)) (hw _ (List.mem_of_getElem? (i := 16) rfl)) (hw _ (List.mem_of_getElem? (i := 6) rfl)) (hw _ (List.mem_of_getElem? (i := 18) rfl)) (by decide) Ege_ (hM := (rm3_5 l Z a0 hw [] ge_ (-1 : Int32) h0 n0 Z0 Ege_ Fge_)) (by decide) (by decide) (by decide) (by decide) e123 (argsL := [(.int (-1 : Int32))]) (rest := [(.int (b2i (decide (¬ (1 : Int32) < 0))))]) (Ls := #[.val (.int p0), .val (.int (5 : Int32)), .val (.ref ge_), .val (.int (0 : Int32)), .val (.int (0 : Int32)), .unset]) (by rw [hml]; rfl) (lenOf pd__I_Z rfl) (W := 1) (Nat.le_of_eq rfl) (hb hby at_41)
    obtain ⟨rfl, N124q, e124⟩ := q124
    have N124 := Fr.app N123 N124q
    refine Gl.fin X124 (v := some (.int (1 : Int32))) (fun h => by rw [Bd.returns] at h; cases h) Bd.notSynchronized ?_ e124 (by decide) (by decide) (fun fs hr => ?_)
    · exact ⟨rfl, N124⟩
    · show Steps p.tables e below (s₁.setTop (mkF m 8 #[.val (.int p0), .val (.int (5 : Int32)), .unset, .unset, .unset, .unset] [])) _
      refine XS.iloadN X0.here hx rfl (hb hby at_8) rfl ?_
      show Steps p.tables e below (s₁.setTop (mkF m 9 #[.val (.int p0), .val (.int (5 : Int32)), .unset, .unset, .unset, .unset] [(.int (5 : Int32))])) _
      refine st121 _ ?_
      show Steps p.tables e below (T121.setTop (mkF m 12 #[.val (.int p0), .val (.int (5 : Int32)), .unset, .unset, .unset, .unset] [(.ref ge_)])) _
      refine XS.astoreN X121.here hx rfl (hb hby at_12) rfl rfl (l' := #[.val (.int p0), .val (.int (5 : Int32)), .val (.ref ge_), .unset, .unset, .unset]) rfl ?_
      show Steps p.tables e below (T121.setTop (mkF m 13 #[.val (.int p0), .val (.int (5 : Int32)), .val (.ref ge_), .unset, .unset, .unset] [])) _
      refine XS.aloadN X121.here hx rfl (hb hby at_13) rfl rfl ?_
      show Steps p.tables e below (T121.setTop (mkF m 14 #[.val (.int p0), .val (.int (5 : Int32)), .val (.ref ge_), .unset, .unset, .unset] [(.ref ge_)])) _
      refine st122 _ ?_
      show Steps p.tables e below (T122.setTop (mkF m 17 #[.val (.int p0), .val (.int (5 : Int32)), .val (.ref ge_), .unset, .unset, .unset] [(.int (0 : Int32))])) _
      refine XS.istoreN X122.here hx rfl (hb hby at_17) rfl (l' := #[.val (.int p0), .val (.int (5 : Int32)), .val (.ref ge_), .val (.int (0 : Int32)), .unset, .unset]) rfl ?_
      show Steps p.tables e below (T122.setTop (mkF m 18 #[.val (.int p0), .val (.int (5 : Int32)), .val (.ref ge_), .val (.int (0 : Int32)), .unset, .unset] [])) _
      refine XS.iloadN X122.here hx rfl (hb hby at_18) rfl ?_
      show Steps p.tables e below (T122.setTop (mkF m 19 #[.val (.int p0), .val (.int (5 : Int32)), .val (.ref ge_), .val (.int (0 : Int32)), .unset, .unset] [(.int (5 : Int32))])) _
      refine XS.ifNo X122.here hx rfl (hb hby at_19) rfl (own_f (i0_eq _) (by decide)) ?_
      show Steps p.tables e below (T122.setTop (mkF m 22 #[.val (.int p0), .val (.int (5 : Int32)), .val (.ref ge_), .val (.int (0 : Int32)), .unset, .unset] [])) _
      refine XS.iloadN X122.here hx rfl (hb hby at_22) rfl ?_
      show Steps p.tables e below (T122.setTop (mkF m 23 #[.val (.int p0), .val (.int (5 : Int32)), .val (.ref ge_), .val (.int (0 : Int32)), .unset, .unset] [(.int (5 : Int32))])) _
      refine XS.iconst X122.here hx rfl (hb hby at_23) ?_
      show Steps p.tables e below (T122.setTop (mkF m 24 #[.val (.int p0), .val (.int (5 : Int32)), .val (.ref ge_), .val (.int (0 : Int32)), .unset, .unset] [(.int (1 : Int32)), (.int (5 : Int32))])) _
      refine XS.icmpYes X122.here hx rfl (pc0 := 24) (pc' := 31) rfl (hb hby at_24) rfl (own_nt (ic_ne _ _) (by decide)) (by decide) (by decide) ?_
      show Steps p.tables e below (T122.setTop (mkF m 31 #[.val (.int p0), .val (.int (5 : Int32)), .val (.ref ge_), .val (.int (0 : Int32)), .unset, .unset] [])) _
      refine XS.iconst X122.here hx rfl (hb hby at_31) ?_
      show Steps p.tables e below (T122.setTop (mkF m 32 #[.val (.int p0), .val (.int (5 : Int32)), .val (.ref ge_), .val (.int (0 : Int32)), .unset, .unset] [(.int (0 : Int32))])) _
      refine XS.istore X122.here hx rfl (hb hby at_32) rfl (l' := #[.val (.int p0), .val (.int (5 : Int32)), .val (.ref ge_), .val (.int (0 : Int32)), .val (.int (0 : Int32)), .unset]) rfl ?_
      show Steps p.tables e below (T122.setTop (mkF m 34 #[.val (.int p0), .val (.int (5 : Int32)), .val (.ref ge_), .val (.int (0 : Int32)), .val (.int (0 : Int32)), .unset] [])) _
      refine XS.aloadN X122.here hx rfl (hb hby at_34) rfl rfl ?_
      show Steps p.tables e below (T122.setTop (mkF m 35 #[.val (.int p0), .val (.int (5 : Int32)), .val (.ref ge_), .val (.int (0 : Int32)), .val (.int (0 : Int32)), .unset] [(.ref ge_)])) _
      refine XS.iconst X122.here hx rfl (hb hby at_35) ?_
      show Steps p.tables e below (T122.setTop (mkF m 36 #[.val (.int p0), .val (.int (5 : Int32)), .val (.ref ge_), .val (.int (0 : Int32)), .val (.int (0 : Int32)), .unset] [(.int (1 : Int32)), (.ref ge_)])) _
      refine st123 _ ?_
      show Steps p.tables e below (T123.setTop (mkF m 39 #[.val (.int p0), .val (.int (5 : Int32)), .val (.ref ge_), .val (.int (0 : Int32)), .val (.int (0 : Int32)), .unset] [(.int (b2i (decide (¬ (1 : Int32) < 0))))])) _
      refine XS.aloadN X123.here hx rfl (hb hby at_39) rfl rfl ?_
      show Steps p.tables e below (T123.setTop (mkF m 40 #[.val (.int p0), .val (.int (5 : Int32)), .val (.ref ge_), .val (.int (0 : Int32)), .val (.int (0 : Int32)), .unset] [(.ref ge_), (.int (b2i (decide (¬ (1 : Int32) < 0))))])) _
      refine XS.iconst X123.here hx rfl (hb hby at_40) ?_
      show Steps p.tables e below (T123.setTop (mkF m 41 #[.val (.int p0), .val (.int (5 : Int32)), .val (.ref ge_), .val (.int (0 : Int32)), .val (.int (0 : Int32)), .unset] [(.int (-1 : Int32)), (.ref ge_), (.int (b2i (decide (¬ (1 : Int32) < 0))))])) _
      refine st124 _ ?_
      show Steps p.tables e below (T124.setTop (mkF m 44 #[.val (.int p0), .val (.int (5 : Int32)), .val (.ref ge_), .val (.int (0 : Int32)), .val (.int (0 : Int32)), .unset] [(.int (b2i (decide (¬ (-1 : Int32) < 0)))), (.int (b2i (decide (¬ (1 : Int32) < 0))))])) _
      refine XS.icmpYes X124.here hx rfl (pc0 := 44) (pc' := 51) rfl (hb hby at_44) rfl (own_nt (ic_ne _ _) (by decide)) (by decide) (by decide) ?_
      show Steps p.tables e below (T124.setTop (mkF m 51 #[.val (.int p0), .val (.int (5 : Int32)), .val (.ref ge_), .val (.int (0 : Int32)), .val (.int (0 : Int32)), .unset] [])) _
      refine XS.iconst X124.here hx rfl (hb hby at_51) ?_
      show Steps p.tables e below (T124.setTop (mkF m 52 #[.val (.int p0), .val (.int (5 : Int32)), .val (.ref ge_), .val (.int (0 : Int32)), .val (.int (0 : Int32)), .unset] [(.int (0 : Int32))])) _
      refine XS.istore X124.here hx rfl (hb hby at_52) rfl (l' := #[.val (.int p0), .val (.int (5 : Int32)), .val (.ref ge_), .val (.int (0 : Int32)), .val (.int (0 : Int32)), .val (.int (0 : Int32))]) rfl ?_
      show Steps p.tables e below (T124.setTop (mkF m 54 #[.val (.int p0), .val (.int (5 : Int32)), .val (.ref ge_), .val (.int (0 : Int32)), .val (.int (0 : Int32)), .val (.int (0 : Int32))] [])) _
      refine XS.iloadN X124.here hx rfl (hb hby at_54) rfl ?_
      show Steps p.tables e below (T124.setTop (mkF m 55 #[.val (.int p0), .val (.int (5 : Int32)), .val (.ref ge_), .val (.int (0 : Int32)), .val (.int (0 : Int32)), .val (.int (0 : Int32))] [(.int (0 : Int32))])) _
      refine XS.iload X124.here hx rfl (hb hby at_55) rfl ?_
      show Steps p.tables e below (T124.setTop (mkF m 57 #[.val (.int p0), .val (.int (5 : Int32)), .val (.ref ge_), .val (.int (0 : Int32)), .val (.int (0 : Int32)), .val (.int (0 : Int32))] [(.int (0 : Int32)), (.int (0 : Int32))])) _
      refine XS.icmpNo X124.here hx rfl (hb hby at_57) rfl (own_nf (ic_ne _ _) (by decide)) ?_
      show Steps p.tables e below (T124.setTop (mkF m 60 #[.val (.int p0), .val (.int (5 : Int32)), .val (.ref ge_), .val (.int (0 : Int32)), .val (.int (0 : Int32)), .val (.int (0 : Int32))] [])) _
      refine XS.iloadN X124.here hx rfl (hb hby at_60) rfl ?_
      show Steps p.tables e below (T124.setTop (mkF m 61 #[.val (.int p0), .val (.int (5 : Int32)), .val (.ref ge_), .val (.int (0 : Int32)), .val (.int (0 : Int32)), .val (.int (0 : Int32))] [(.int (0 : Int32))])) _
      refine XS.iload X124.here hx rfl (hb hby at_61) rfl ?_
      show Steps p.tables e below (T124.setTop (mkF m 63 #[.val (.int p0), .val (.int (5 : Int32)), .val (.ref ge_), .val (.int (0 : Int32)), .val (.int (0 : Int32)), .val (.int (0 : Int32))] [(.int (0 : Int32)), (.int (0 : Int32))])) _
      refine XS.icmpNo X124.here hx rfl (hb hby at_63) rfl (own_nf (ic_ne _ _) (by decide)) ?_
      show Steps p.tables e below (T124.setTop (mkF m 66 #[.val (.int p0), .val (.int (5 : Int32)), .val (.ref ge_), .val (.int (0 : Int32)), .val (.int (0 : Int32)), .val (.int (0 : Int32))] [])) _
      refine XS.iconst X124.here hx rfl (hb hby at_66) ?_
      show Steps p.tables e below (T124.setTop (mkF m 67 #[.val (.int p0), .val (.int (5 : Int32)), .val (.ref ge_), .val (.int (0 : Int32)), .val (.int (0 : Int32)), .val (.int (0 : Int32))] [(.int (1 : Int32))])) _
      refine XS.goto X124.here hx rfl (pc0 := 67) (pc' := 71) rfl (hb hby at_67) (by decide) (by decide) ?_
      show Steps p.tables e below (T124.setTop (mkF m 71 #[.val (.int p0), .val (.int (5 : Int32)), .val (.ref ge_), .val (.int (0 : Int32)), .val (.int (0 : Int32)), .val (.int (0 : Int32))] [(.int (1 : Int32))])) _
      exact retN X124 hx (t := .boolean) Bd.returns (by simp) (hb hby at_71) hr
set_option maxRecDepth 65536 in
set_option maxHeartbeats 40000000 in
theorem comes_1 {Post : Tables → Env → Array Value → State → Outcome → State → Prop} (hpost : ∀ tb e args s v u, (limb_1_1.after args s (.returned v) u = true ∧ limb_1_2.after args s (.returned v) u = true ∧ True) → FrameEnd s (.returned v) u (Jvm.fieldLocs frame_1_writes args s ++ Jvm.arrayLocs frame_1_arrays args s ++ Jvm.staticLocs frame_1_statics s) 0 0 → Post tb e args s (.returned v) u) :
    ArmFor flags0 classFile x code maxLocals ret World_1 tables_1 room_1 Calls_1 rest_1 Pre_1 Post := by
  intro l hfl _ _ p e ha hc hk s m args below hf hA hF happ hP
  obtain ⟨hcalls, hrest, hpre⟩ := hP
  obtain ⟨-, -, -, hnamed, -, -, -, hat⟩ := (Spec.applies_iff hf).mp happ
  obtain ⟨hg, hn⟩ := and_e (Cond.before_iff.mp (show (Jvm.Cond.and given_1 narrow_1).before args s = true from hpre))
  obtain ⟨hq0, hr0⟩ := and_e hg
  obtain ⟨w0, rfl⟩ : ∃ w0 : Value, args = #[w0] := by
    have hs : args.size = 1 := by simpa [Cond.value, given_1] using hq0
    obtain ⟨L⟩ := args
    match L, hs with
    | [w0], _ => exact ⟨w0, rfl⟩
  have hw := fun d (hd : d ∈ tables_1) => atoms_spec (ws := Jvm.Cond.code x code maxLocals ret :: tables_1) hat d (List.mem_cons_of_mem _ hd)
  have hfit : Fit s := fun {y c} hc i hi => by
    obtain ⟨ha, rfl⟩ := Array.getElem?_eq_some_iff.mp hc
    have q := List.all_eq_true.mp ((Array.all_eq_true_iff_forall_mem.mp hF) _ (Array.getElem_mem ha)) i (List.mem_range.mpr hi)
    simpa [Array.getElem?_eq_getElem hi] using q
  obtain ⟨i0, ei0⟩ := is_v hr0
  obtain rfl : w0 = (.int i0) := Option.some.inj ei0
  obtain ⟨meq_, hn0⟩ := and_e hn
  obtain ⟨moeq_, hn1⟩ := and_e hn0
  obtain ⟨mle_, hn2⟩ := and_e hn1
  obtain ⟨mole_, hn3⟩ := and_e hn2
  obtain ⟨mnq_, hn4⟩ := and_e hn3
  obtain ⟨monq_, hn5⟩ := and_e hn4
  obtain ⟨mls_, hn6⟩ := and_e hn5
  obtain ⟨mols_, hn7⟩ := and_e hn6
  obtain ⟨mge_, hn8⟩ := and_e hn7
  obtain ⟨moge_, hn9⟩ := and_e hn8
  obtain ⟨mgr_, hn10⟩ := and_e hn9
  have mogr_ := hn10
  obtain ⟨eq_, eveq_, Seq_, Eeq_⟩ := own_sx (hw _ (List.mem_of_getElem? (i := 6) rfl)) (hw _ (List.mem_of_getElem? (i := 7) rfl)) meq_
  obtain ⟨nq_, evnq_, Snq_, Enq_⟩ := own_sx (hw _ (List.mem_of_getElem? (i := 6) rfl)) (hw _ (List.mem_of_getElem? (i := 31) rfl)) mnq_
  obtain ⟨ls_, evls_, Sls_, Els_⟩ := own_sx (hw _ (List.mem_of_getElem? (i := 6) rfl)) (hw _ (List.mem_of_getElem? (i := 33) rfl)) mls_
  obtain ⟨le_, evle_, Sle_, Ele_⟩ := own_sx (hw _ (List.mem_of_getElem? (i := 6) rfl)) (hw _ (List.mem_of_getElem? (i := 29) rfl)) mle_
  obtain ⟨gr_, evgr_, Sgr_, Egr_⟩ := own_sx (hw _ (List.mem_of_getElem? (i := 6) rfl)) (hw _ (List.mem_of_getElem? (i := 38) rfl)) mgr_
  obtain ⟨ge_, evge_, Sge_, Ege_⟩ := own_sx (hw _ (List.mem_of_getElem? (i := 6) rfl)) (hw _ (List.mem_of_getElem? (i := 36) rfl)) mge_
  have Feq_ := own_fi eveq_ moeq_
  have Fnq_ := own_fi evnq_ monq_
  have Fls_ := own_fi evls_ mols_
  have Fle_ := own_fi evle_ mole_
  have Fgr_ := own_fi evgr_ mogr_
  have Fge_ := own_fi evge_ moge_
  have ne_nq__eq_ := Fnq_.ne Feq_ (own_ne32 (by decide))
  have ne_ls__eq_ := Fls_.ne Feq_ (own_ne32 (by decide))
  have ne_ls__nq_ := Fls_.ne Fnq_ (own_ne32 (by decide))
  have ne_le__eq_ := Fle_.ne Feq_ (own_ne32 (by decide))
  have ne_le__nq_ := Fle_.ne Fnq_ (own_ne32 (by decide))
  have ne_gr__eq_ := Fgr_.ne Feq_ (own_ne32 (by decide))
  have ne_gr__nq_ := Fgr_.ne Fnq_ (own_ne32 (by decide))
  have ne_ge__eq_ := Fge_.ne Feq_ (own_ne32 (by decide))
  have ne_ge__nq_ := Fge_.ne Fnq_ (own_ne32 (by decide))
  obtain ⟨n, o, h1, h2, h3, _, L, rfl, ⟨rfl, N⟩, hq⟩ := rm0 l s _ hw tables_1 i0 eq_ nq_ ls_ le_ gr_ ge_ s.heap s.heap.size (Nat.le_refl _) Seq_ Snq_ Sls_ Sle_ Sgr_ Sge_ Eeq_ Enq_ Els_ Ele_ Egr_ Ege_ Feq_ Fnq_ Fls_ Fle_ Fgr_ Fge_ ne_nq__eq_ ne_ls__eq_ ne_ls__nq_ ne_le__eq_ ne_le__nq_ ne_gr__eq_ ne_gr__nq_ ne_ge__eq_ ne_ge__nq_ p e ha hc hk s m _ below hf ((Spec.applies_iff_loose hf).mp happ).1 ⟨rfl, State.Warmed39.refl s, rfl⟩ trivial
  refine ⟨n, _, h1, h2, h3, hpost _ _ _ _ _ _ ⟨Cond.after_iff.mpr rfl, Cond.after_iff.mpr (eq_i res_at (Term.int_eval (1)) rfl), trivial⟩ ⟨hq.1, hq.2.1, (hq.2.2.sift fun y hy => Or.inr (N y hy)).mono (by decide) (by decide)⟩⟩
theorem main_1_1 : Claimed_1_1 := comes_1 fun _ _ _ _ _ _ h hF => ⟨h.1, hF⟩
theorem main_1_2 : Claimed_1_2 := comes_1 fun _ _ _ _ _ _ h hF => ⟨h.2.1, hF⟩
end Jvm.Pilot.@@N@@
namespace Jvm.Pilot.@@N@@
open Jvm Jvm.ClassFile Sem Op Lib Jvm.Free Jvm.Stand Jvm.Pilot.@@N@@.Jvm.D
/-! MADE BY PROGRAM (witnessworld.py) out of the Statement's table words and the real class files: 12 classes; the members and pool entries that the words name. The judged class is class 1, her method 2. -/
namespace start1
open Jvm.ClassFile
def u (s : String) : CpInfo := .utf8 (stringToUtf16 s)
/-- a pool by its gaps: so many unusable entries, then the entry; so many at the end -/
def gap : Nat → List CpInfo → List CpInfo
  | 0, r => r
  | n + 1, r => .unusable :: gap n r
def poolList (es : List (Nat × CpInfo)) (last : Nat) : List CpInfo := es.foldr (fun e r => gap e.1 (e.2 :: r)) (gap last [])
def pool (es : List (Nat × CpInfo)) (last : Nat) : Array CpInfo := ⟨poolList es last⟩
def fileOf (pool : Array CpInfo) (this : Nat) (attrs : Array Attribute := #[]) (ms : Array MethodInfo := #[]) (fl : Nat := 33) (sup : Nat := 0) (ifs : Array Nat := #[]) (fds : Array FieldInfo := #[]) : ClassFile where
  minorVersion := 0
  majorVersion := 65
  constantPool := pool
  accessFlags := fl
  thisClass := this
  superClass := sup
  interfaces := ifs
  fields := fds
  methods := ms
  attributes := attrs
def plain (name : String) (sup : Option ClassId) : Class where
  name := name
  kind := .ordinary
  loader := none
  accessFlags := 33
  super := sup
  interfaces := #[]
  cf := none
  fields := #[]
  methods := #[]
  instanceTypes := #[]
  staticTypes := #[]
  resolved := #[]
  callSites := []
  init := .initialized
  statics := none
  mirror := none

def pool0 : Array CpInfo := pool [(5, u "<init>"), (0, u "()V"), (1, .class_ 10), (1, u "java/lang/Object")] 113

def k0m0 : Method := { name := "<init>", desc := "()V", sig := { parameters := [], returnType := none }, accessFlags := 1, code := none }
/-- java/lang/Object -/
def k0 : Class := { plain "java/lang/Object" none with
  accessFlags := 33
  interfaces := #[]
  cf := some (fileOf pool0 8 #[] #[{ accessFlags := 1, nameIndex := 5, descriptorIndex := 6, attributes := #[] }] 33 0 #[] #[])
  fields := #[]
  methods := #[k0m0]
  instanceTypes := #[]
  staticTypes := #[]
  resolved := Array.replicate 124 none
  statics := none }

def pool1 : Array CpInfo := pool [(2, .class_ 4), (1, u "java/lang/Object"), (0, u "<init>"), (0, u "()V"), (0, .fieldref 8 9), (0, .class_ 10), (0, .nameAndType 11 12), (0, u "com/example/porthcurno/porthcurno/core/SelectorExpression$Relation"), (0, u "EQUAL"), (0, u "Lcom/example/porthcurno/porthcurno/core/SelectorExpression$Relation;"), (0, .fieldref 8 14), (0, .nameAndType 15 12), (0, u "NOT_EQUAL"), (0, .fieldref 8 17), (0, .nameAndType 18 12), (0, u "LESS"), (0, .fieldref 8 20), (0, .nameAndType 21 12), (0, u "LESS_OR_EQUAL"), (0, .fieldref 8 23), (0, .nameAndType 24 12), (0, u "GREATER"), (0, .fieldref 8 26), (0, .nameAndType 27 12), (0, u "GREATER_OR_EQUAL"), (0, .integer 2147483647), (0, .methodref 30 31), (0, .class_ 32), (0, .nameAndType 33 34), (0, u "com/example/porthcurno/porthcurno/core/RelationComparesEqualityPinLaw"), (0, u "pick"), (0, u "(I)Lcom/example/porthcurno/porthcurno/core/SelectorExpression$Relation;"), (0, .methodref 8 36), (0, .nameAndType 37 38), (0, u "comparesEquality"), (0, u "()Z"), (0, .methodref 8 40), (0, .nameAndType 41 42), (0, u "holds"), (0, u "(I)Z"), (3, u "law")] 6

def k1m0 : Method := { name := "<init>", desc := "()V", sig := { parameters := [], returnType := none }, accessFlags := 1, code := none }
def k1c1 : Code := { maxStack := 2, maxLocals := 2, code := method_2_code, exceptionTable := #[], attributes := #[] }
def k1m1 : Method := { name := "pick", desc := "(I)Lcom/example/porthcurno/porthcurno/core/SelectorExpression$Relation;", sig := { parameters := [.int], returnType := some (.object "com/example/porthcurno/porthcurno/core/SelectorExpression$Relation") }, accessFlags := 10, code := some k1c1 }
def k1c2 : Code := { maxStack := 3, maxLocals := 6, code := code, exceptionTable := #[], attributes := #[] }
def k1m2 : Method := { name := "law", desc := "(I)Z", sig := { parameters := [.int], returnType := some .boolean }, accessFlags := 9, code := some k1c2 }
/-- com/example/porthcurno/porthcurno/core/RelationComparesEqualityPinLaw -/
def k1 : Class := { plain "com/example/porthcurno/porthcurno/core/RelationComparesEqualityPinLaw" (some 0) with
  accessFlags := 49
  interfaces := #[]
  cf := some (fileOf pool1 30 #[] #[{ accessFlags := 1, nameIndex := 5, descriptorIndex := 6, attributes := #[] }, { accessFlags := 10, nameIndex := 33, descriptorIndex := 34, attributes := #[] }, { accessFlags := 9, nameIndex := 46, descriptorIndex := 42, attributes := #[] }] 49 2 #[] #[])
  fields := #[]
  methods := #[k1m0, k1m1, k1m2]
  instanceTypes := #[]
  staticTypes := #[]
  resolved := Array.replicate 53 none
  statics := none }

def pool2 : Array CpInfo := pool [(1, .class_ 2), (0, u "java/lang/constant/Constable"), (0, .class_ 4), (0, u "java/lang/Object")] 6

/-- java/lang/constant/Constable -/
def k2 : Class := { plain "java/lang/constant/Constable" (some 0) with
  accessFlags := 1537
  interfaces := #[]
  cf := some (fileOf pool2 1 #[] #[] 1537 3 #[] #[])
  fields := #[]
  methods := #[]
  instanceTypes := #[]
  staticTypes := #[]
  resolved := Array.replicate 11 none
  statics := none }

def pool3 : Array CpInfo := pool [(1, .class_ 2), (0, u "java/lang/Comparable"), (0, .class_ 4), (0, u "java/lang/Object")] 7

/-- java/lang/Comparable -/
def k3 : Class := { plain "java/lang/Comparable" (some 0) with
  accessFlags := 1537
  interfaces := #[]
  cf := some (fileOf pool3 1 #[] #[] 1537 3 #[] #[])
  fields := #[]
  methods := #[]
  instanceTypes := #[]
  staticTypes := #[]
  resolved := Array.replicate 12 none
  statics := none }

def pool4 : Array CpInfo := pool [(1, .class_ 2), (0, u "java/io/Serializable"), (0, .class_ 4), (0, u "java/lang/Object")] 2

/-- java/io/Serializable -/
def k4 : Class := { plain "java/io/Serializable" (some 0) with
  accessFlags := 1537
  interfaces := #[]
  cf := some (fileOf pool4 1 #[] #[] 1537 3 #[] #[])
  fields := #[]
  methods := #[]
  instanceTypes := #[]
  staticTypes := #[]
  resolved := Array.replicate 7 none
  statics := none }

def pool5 : Array CpInfo := pool [(2, .class_ 4), (1, u "java/lang/Enum"), (0, u "name"), (0, u "Ljava/lang/String;"), (0, .fieldref 2 8), (0, .nameAndType 9 10), (0, u "ordinal"), (0, u "I"), (1, .class_ 14), (1, u "java/lang/Object"), (4, u "hash"), (86, .class_ 108), (1, u "java/lang/Enum$EnumDesc"), (2, .class_ 112), (0, u "java/lang/constant/Constable"), (0, .class_ 114), (0, u "java/lang/Comparable"), (0, .class_ 116), (0, u "java/io/Serializable"), (9, u "()I")] 77

def k5c0 : Code := { maxStack := 1, maxLocals := 1, code := jdk_37_method_2_code, exceptionTable := #[], attributes := #[] }
def k5m0 : Method := { name := "ordinal", desc := "()I", sig := { parameters := [], returnType := some .int }, accessFlags := 17, code := some k5c0 }
/-- java/lang/Enum -/
def k5 : Class := { plain "java/lang/Enum" (some 0) with
  accessFlags := 1057
  interfaces := #[2, 3, 4]
  cf := some (fileOf pool5 2 #[.nestMembers #[106]] #[{ accessFlags := 17, nameIndex := 9, descriptorIndex := 126, attributes := #[] }] 1057 12 #[111, 113, 115] #[{ accessFlags := 18, nameIndex := 5, descriptorIndex := 6, attributes := #[] }, { accessFlags := 18, nameIndex := 9, descriptorIndex := 10, attributes := #[] }, { accessFlags := 2, nameIndex := 19, descriptorIndex := 10, attributes := #[] }])
  fields := #[{ name := "name", type := (.object "java/lang/String"), accessFlags := 18, slot := 0, constantValue := 0 }, { name := "ordinal", type := .int, accessFlags := 18, slot := 1, constantValue := 0 }, { name := "hash", type := .int, accessFlags := 2, slot := 2, constantValue := 0 }]
  methods := #[k5m0]
  instanceTypes := #[(.object "java/lang/String"), .int, .int]
  staticTypes := #[]
  resolved := Array.replicate 204 none
  statics := none }

def pool6 : Array CpInfo := pool [(1, .class_ 2), (0, u "com/example/porthcurno/porthcurno/core/SelectorExpression$Relation"), (0, .fieldref 1 4), (0, .nameAndType 5 6), (0, u "EQUAL"), (0, u "Lcom/example/porthcurno/porthcurno/core/SelectorExpression$Relation;"), (0, .fieldref 1 8), (0, .nameAndType 9 6), (0, u "NOT_EQUAL"), (2, u "LESS"), (2, u "LESS_OR_EQUAL"), (2, u "GREATER"), (2, u "GREATER_OR_EQUAL"), (2, u "$VALUES"), (0, u "[Lcom/example/porthcurno/porthcurno/core/SelectorExpression$Relation;"), (6, .class_ 34), (1, u "java/lang/Enum"), (8, u "symbol"), (0, u "Ljava/lang/String;"), (0, .methodref 1 46), (0, .nameAndType 47 48), (0, u "ordinal"), (0, u "()I"), (37, u "comparesEquality"), (0, u "()Z"), (1, u "holds"), (0, u "(I)Z"), (6, .class_ 98), (0, u "com/example/porthcurno/porthcurno/core/SelectorExpression")] 2

def k6c0 : Code := { maxStack := 2, maxLocals := 1, code := prog_36_method_4_code, exceptionTable := #[], attributes := #[] }
def k6m0 : Method := { name := "comparesEquality", desc := "()Z", sig := { parameters := [], returnType := some .boolean }, accessFlags := 0, code := some k6c0 }
def k6c1 : Code := { maxStack := 4, maxLocals := 2, code := prog_36_method_5_code, exceptionTable := #[], attributes := #[] }
def k6m1 : Method := { name := "holds", desc := "(I)Z", sig := { parameters := [.int], returnType := some .boolean }, accessFlags := 0, code := some k6c1 }
/-- com/example/porthcurno/porthcurno/core/SelectorExpression$Relation -/
def k6 : Class := { plain "com/example/porthcurno/porthcurno/core/SelectorExpression$Relation" (some 5) with
  accessFlags := 16433
  interfaces := #[]
  cf := some (fileOf pool6 1 #[.nestHost 97] #[{ accessFlags := 0, nameIndex := 86, descriptorIndex := 87, attributes := #[] }, { accessFlags := 0, nameIndex := 89, descriptorIndex := 90, attributes := #[] }] 16433 32 #[] #[{ accessFlags := 16409, nameIndex := 5, descriptorIndex := 6, attributes := #[] }, { accessFlags := 16409, nameIndex := 9, descriptorIndex := 6, attributes := #[] }, { accessFlags := 16409, nameIndex := 12, descriptorIndex := 6, attributes := #[] }, { accessFlags := 16409, nameIndex := 15, descriptorIndex := 6, attributes := #[] }, { accessFlags := 16409, nameIndex := 18, descriptorIndex := 6, attributes := #[] }, { accessFlags := 16409, nameIndex := 21, descriptorIndex := 6, attributes := #[] }, { accessFlags := 16, nameIndex := 43, descriptorIndex := 44, attributes := #[] }, { accessFlags := 4122, nameIndex := 24, descriptorIndex := 25, attributes := #[] }])
  fields := #[{ name := "EQUAL", type := (.object "com/example/porthcurno/porthcurno/core/SelectorExpression$Relation"), accessFlags := 16409, slot := 0, constantValue := 0 }, { name := "NOT_EQUAL", type := (.object "com/example/porthcurno/porthcurno/core/SelectorExpression$Relation"), accessFlags := 16409, slot := 1, constantValue := 0 }, { name := "LESS", type := (.object "com/example/porthcurno/porthcurno/core/SelectorExpression$Relation"), accessFlags := 16409, slot := 2, constantValue := 0 }, { name := "LESS_OR_EQUAL", type := (.object "com/example/porthcurno/porthcurno/core/SelectorExpression$Relation"), accessFlags := 16409, slot := 3, constantValue := 0 }, { name := "GREATER", type := (.object "com/example/porthcurno/porthcurno/core/SelectorExpression$Relation"), accessFlags := 16409, slot := 4, constantValue := 0 }, { name := "GREATER_OR_EQUAL", type := (.object "com/example/porthcurno/porthcurno/core/SelectorExpression$Relation"), accessFlags := 16409, slot := 5, constantValue := 0 }, { name := "symbol", type := (.object "java/lang/String"), accessFlags := 16, slot := 3, constantValue := 0 }, { name := "$VALUES", type := (.array (.object "com/example/porthcurno/porthcurno/core/SelectorExpression$Relation")), accessFlags := 4122, slot := 6, constantValue := 0 }]
  methods := #[k6m0, k6m1]
  instanceTypes := #[(.object "java/lang/String"), .int, .int, (.object "java/lang/String")]
  staticTypes := #[(.object "com/example/porthcurno/porthcurno/core/SelectorExpression$Relation"), (.object "com/example/porthcurno/porthcurno/core/SelectorExpression$Relation"), (.object "com/example/porthcurno/porthcurno/core/SelectorExpression$Relation"), (.object "com/example/porthcurno/porthcurno/core/SelectorExpression$Relation"), (.object "com/example/porthcurno/porthcurno/core/SelectorExpression$Relation"), (.object "com/example/porthcurno/porthcurno/core/SelectorExpression$Relation"), (.array (.object "com/example/porthcurno/porthcurno/core/SelectorExpression$Relation"))]
  resolved := Array.replicate 101 none
  statics := some 0 }

def pool7 : Array CpInfo := pool [(1, u "java/lang/Cloneable"), (0, .class_ 1), (0, u "java/lang/Object"), (0, .class_ 3)] 3

/-- java/lang/Cloneable -/
def k7 : Class := { plain "java/lang/Cloneable" (some 0) with
  accessFlags := 1537
  interfaces := #[]
  cf := some (fileOf pool7 2 #[] #[] 1537 4 #[] #[])
  fields := #[]
  methods := #[]
  instanceTypes := #[]
  staticTypes := #[]
  resolved := Array.replicate 8 none
  statics := none }

/-- the primitive byte -/
def k8 : Class := { plain "byte" none with kind := .primitive 'B', accessFlags := 0x411 }
/-- [B -/
def k9 : Class := { plain "[B" (some 0) with kind := .array 8 .byte, interfaces := #[7, 4], accessFlags := 1041 }

/-- the primitive int -/
def k10 : Class := { plain "int" none with kind := .primitive 'I', accessFlags := 0x411 }
/-- [I -/
def k11 : Class := { plain "[I" (some 0) with kind := .array 10 .int, interfaces := #[7, 4], accessFlags := 1041 }

def heap : Heap := #[{ cls := 6, slots := #[.ref 1, .ref 2, .ref 3, .ref 4, .ref 5, .ref 6, .null], vm := .statics 6 },
  { cls := 6, slots := #[.null, .int 0, .int 0, .null], vm := .none },
  { cls := 6, slots := #[.null, .int 1, .int 0, .null], vm := .none },
  { cls := 6, slots := #[.null, .int 2, .int 0, .null], vm := .none },
  { cls := 6, slots := #[.null, .int 3, .int 0, .null], vm := .none },
  { cls := 6, slots := #[.null, .int 4, .int 0, .null], vm := .none },
  { cls := 6, slots := #[.null, .int 5, .int 0, .null], vm := .none }]
def classes : Array Class := #[k0, k1, k2, k3, k4, k5, k6, k7, k8, k9, k10, k11]
def interned : List (Array UInt16 × Addr) := []
def slotsUsed : Nat := 31
def theMethod : MethodId := ⟨1, 2⟩
def args0 : Array Value := #[.int 2]
def aboutOver (below : List Frame) : State where
  vm := { classes := classes, interned := interned.toArray }
  heap := heap
  slotsUsed := slotsUsed
  threads := #[{ frames := .invoking theMethod args0 :: below }]
def below0 : List Frame := [.native { method := ⟨0, 0⟩, args := #[] }]
def about1 : State := aboutOver below0
def p0 : Program := .bare "" "" ""
def e0 : Env := launch0.env 0 0 0
theorem w_frames : about1.frames = Frame.invoking theMethod args0 :: below0 := rfl
set_option maxRecDepth 65536 in
theorem w_args : argsFit about1.vm theMethod args0 = true := by decide +kernel
set_option maxRecDepth 65536 in
theorem w_heap : heapFits about1 = true := by decide +kernel
set_option maxRecDepth 65536 in
theorem w_runnable : about1.curStatus? = some .runnable := by decide +kernel
set_option maxRecDepth 65536 in
theorem w_alone : about1.alone = true := by decide +kernel
set_option maxRecDepth 65536 in
theorem w_named : about1.methodNamed? x = some theMethod := by decide +kernel
set_option maxRecDepth 65536 in
theorem w_hears : about1.hears theMethod below0 = true := by decide +kernel
set_option maxRecDepth 65536 in
theorem w_ripe : about1.ripe theMethod args0 below0 = true := by decide +kernel
theorem w_running : about1.status = .running := rfl
set_option maxRecDepth 65536 in
theorem w_room : about1.hasRoom e0.platform room_1 = true :=
  launch0.hasRoom_least _ room_1 (by decide +kernel) (by decide +kernel) (by decide +kernel) (by decide +kernel) (by decide +kernel) (by decide +kernel)
theorem allAtoms_all (ts : List Jvm.Cond) (a : Array Jvm.Value) (st : Jvm.State) : (allAtoms ts).before a st = ts.all (fun c => c.before a st) := by
  induction ts with
  | nil => rfl
  | cons c t ih =>
    show (Jvm.Cond.and c (allAtoms t)).before a st = _
    rw [Jvm.Cond.before_and, ih, List.all_cons]
def words1 : List Jvm.Cond := Jvm.Cond.code x code maxLocals ret :: tables_1
/-- a 'code' word, met by the world's own term for the bytes: nothing is compared byte by byte -/
theorem code_word {y : MethodName} {bytes : ByteArray} {mx : Nat} {rt : Option FieldType} {a : Array Value} {s : State} {m : MethodId} {meth : Method} {c : Code} (h1 : s.methodNamed? y = some m) (h2 : s.vm.method? m = some meth) (h3 : meth.code = some c) (h4 : c.code = bytes)
    (h5 : (c.maxLocals == mx && c.exceptionTable.isEmpty && decide (c.maxStack ≤ mostOperands) && decide (meth.sig.returnType = rt) && !meth.locks && decide (parseMethodDescriptor y.desc = some meth.sig)) = true) : (Jvm.Cond.code y bytes mx rt).before a s = true := by
  simp only [Bool.and_eq_true, beq_iff_eq, Bool.not_eq_true', decide_eq_true_eq] at h5
  obtain ⟨⟨⟨⟨⟨g1, g2⟩, g3⟩, g4⟩, g5⟩, g6⟩ := h5
  simp [Cond.before, Cond.holds, Cond.value, h1, h2, h3, h4, g1, g2, g3, g4, g5, g6]
def isCode : Jvm.Cond → Bool
  | .code _ _ _ _ => true
  | _ => false
theorem all_split {L : List Jvm.Cond} {P : Jvm.Cond → Bool} (h1 : L.all (fun c => isCode c || P c) = true) (h2 : ∀ c ∈ L.filter isCode, P c = true) : L.all P = true := by
  refine List.all_eq_true.mpr fun c hc => ?_
  have h := List.all_eq_true.mp h1 c hc
  rcases Bool.eq_false_or_eq_true (isCode c) with hi | hi
  · exact h2 c (List.mem_filter.mpr ⟨hc, hi⟩)
  · simpa [hi] using h
set_option maxRecDepth 65536 in
theorem w_c0 : (Jvm.Cond.code x code maxLocals ret).before args0 about1 = true := code_word (m := ⟨1, 2⟩) (meth := k1m2) (c := k1c2) (by decide +kernel) rfl rfl rfl (by decide +kernel)
set_option maxRecDepth 65536 in
theorem w_c1 : (Jvm.Cond.code ({ cls := "com/example/porthcurno/porthcurno/core/RelationComparesEqualityPinLaw", name := "pick", desc := "(I)Lcom/example/porthcurno/porthcurno/core/SelectorExpression$Relation;" } : Jvm.MethodName) method_2_code (2 : Nat) (Option.some (Jvm.ClassFile.FieldType.object "com/example/porthcurno/porthcurno/core/SelectorExpression$Relation"))).before args0 about1 = true := code_word (m := ⟨1, 1⟩) (meth := k1m1) (c := k1c1) (by decide +kernel) rfl rfl rfl (by decide +kernel)
set_option maxRecDepth 65536 in
theorem w_c2 : (Jvm.Cond.code ({ cls := "com/example/porthcurno/porthcurno/core/SelectorExpression$Relation", name := "comparesEquality", desc := "()Z" } : Jvm.MethodName) prog_36_method_4_code (1 : Nat) (Option.some Jvm.ClassFile.FieldType.boolean)).before args0 about1 = true := code_word (m := ⟨6, 0⟩) (meth := k6m0) (c := k6c0) (by decide +kernel) rfl rfl rfl (by decide +kernel)
set_option maxRecDepth 65536 in
theorem w_c3 : (Jvm.Cond.code ({ cls := "com/example/porthcurno/porthcurno/core/SelectorExpression$Relation", name := "holds", desc := "(I)Z" } : Jvm.MethodName) prog_36_method_5_code (2 : Nat) (Option.some Jvm.ClassFile.FieldType.boolean)).before args0 about1 = true := code_word (m := ⟨6, 1⟩) (meth := k6m1) (c := k6c1) (by decide +kernel) rfl rfl rfl (by decide +kernel)
set_option maxRecDepth 65536 in
theorem w_c4 : (Jvm.Cond.code ({ cls := "java/lang/Enum", name := "ordinal", desc := "()I" } : Jvm.MethodName) jdk_37_method_2_code (1 : Nat) (Option.some Jvm.ClassFile.FieldType.int)).before args0 about1 = true := code_word (m := ⟨5, 0⟩) (meth := k5m0) (c := k5c0) (by decide +kernel) rfl rfl rfl (by decide +kernel)
def codes1 : List Jvm.Cond := [Jvm.Cond.code x code maxLocals ret, Jvm.Cond.code ({ cls := "com/example/porthcurno/porthcurno/core/RelationComparesEqualityPinLaw", name := "pick", desc := "(I)Lcom/example/porthcurno/porthcurno/core/SelectorExpression$Relation;" } : Jvm.MethodName) method_2_code (2 : Nat) (Option.some (Jvm.ClassFile.FieldType.object "com/example/porthcurno/porthcurno/core/SelectorExpression$Relation")), Jvm.Cond.code ({ cls := "com/example/porthcurno/porthcurno/core/SelectorExpression$Relation", name := "comparesEquality", desc := "()Z" } : Jvm.MethodName) prog_36_method_4_code (1 : Nat) (Option.some Jvm.ClassFile.FieldType.boolean), Jvm.Cond.code ({ cls := "com/example/porthcurno/porthcurno/core/SelectorExpression$Relation", name := "holds", desc := "(I)Z" } : Jvm.MethodName) prog_36_method_5_code (2 : Nat) (Option.some Jvm.ClassFile.FieldType.boolean), Jvm.Cond.code ({ cls := "java/lang/Enum", name := "ordinal", desc := "()I" } : Jvm.MethodName) jdk_37_method_2_code (1 : Nat) (Option.some Jvm.ClassFile.FieldType.int)]
set_option maxRecDepth 65536 in
theorem codes_eq : words1.filter isCode = codes1 := rfl
theorem w_codes : ∀ c ∈ words1.filter isCode, c.before args0 about1 = true := by
  rw [codes_eq]
  intro c hc
  simp only [codes1, List.mem_cons, List.not_mem_nil, or_false] at hc
  rcases hc with rfl | rfl | rfl | rfl | rfl
  · exact w_c0
  · exact w_c1
  · exact w_c2
  · exact w_c3
  · exact w_c4
set_option maxRecDepth 65536 in
theorem w_t1 : (words1.take 24).all (fun c => isCode c || c.before args0 about1) = true := by decide +kernel
set_option maxRecDepth 65536 in
theorem w_t2 : (words1.drop 24).all (fun c => isCode c || c.before args0 about1) = true := by decide +kernel
theorem w_tables : (allAtoms (Jvm.Cond.code x code maxLocals ret :: tables_1)).before args0 about1 = true := by
  rw [allAtoms_all]
  show words1.all (fun c => c.before args0 about1) = true
  refine all_split ?_ w_codes
  rw [← List.take_append_drop 24 words1, List.all_append, w_t1, w_t2]
  rfl
set_option maxRecDepth 65536 in
theorem w_case : (Jvm.Cond.and given_1 narrow_1).before args0 about1 = true := by decide +kernel
theorem w_applies : (headSpec (Jvm.Cond.code x code maxLocals ret :: tables_1) room_1).applies x e0.platform about1 = true :=
  (Spec.applies_iff w_frames).mpr ⟨w_running, w_runnable, w_alone, w_named, w_hears, w_ripe, w_room, w_tables⟩
theorem atStart : AtStart classFile x code maxLocals ret World_1 tables_1 room_1 Calls_1 rest_1 Pre_1 launch0 p0 e0 about1 theMethod args0 below0 :=
  ⟨lists_1, trivial, launch0.admits_env _ _ _, launch0.least_env, fairChoices_fair.cas, fairChoices_fair.clock, w_frames, w_args, w_heap, w_applies, trivial, trivial, w_case⟩
end start1
theorem witness_1 : WitnessClaimed_1 := ⟨start1.p0, start1.e0, start1.about1, start1.theMethod, start1.args0, start1.below0, start1.atStart⟩
end Jvm.Pilot.@@N@@
