import JvmDerived
import JvmDerived.Pilot.@@N@@Statement
import JvmDerived.Pilot.@@N@@Code
set_option linter.unusedVariables false
set_option linter.unusedSimpArgs false
namespace Jvm.Pilot.@@N@@
open Jvm Jvm.ClassFile Sem Op Lib Jvm.Free Jvm.Stand Jvm.LawKit Jvm.RoadKit Bundle Jvm.Pilot.@@N@@.Jvm.D
section OwnKit
variable {p : Program} {l : Launch} {e : Env} {R : Room} {s : State} {m : MethodId} {args : Array Value} {below : List Frame} {meth : Method} {c : Code} {T : State} {locs : List Loc} {cells slots : Nat} {Z : State} {a0 : Array Value} {h h0 : Heap}
/-- the run comes from S to an end of which Q speaks -/
def Gl (p : Program) (e : Env) (below : List Frame) (s : State) (Q : Option Value → Heap → List Loc → Prop) (cc kk : Nat) (S : State) : Prop :=
  ∃ t o, Steps p.tables e below S t ∧ t.status = .running ∧ Ended t below o ∧ ∃ v L, o = .returned v ∧ Q v t.heap L ∧ FrameEnd s o t L cc kk
theorem Gl.pre {Q : Option Value → Heap → List Loc → Prop} {cc kk : Nat} {S S' : State} (st : ∀ t, Steps p.tables e below S' t → Steps p.tables e below S t) (k : Gl p e below s Q cc kk S') : Gl p e below s Q cc kk S := by
  obtain ⟨t, o, h1, h2⟩ := k
  exact ⟨t, o, st _ h1, h2⟩
theorem Gl.ret {Q : Option Value → Heap → List Loc → Prop} {cc kk : Nat} {S : State} (X : Stand p l e R s m args below meth c T locs cells slots) {v : Option Value} (hv : meth.sig.returnType = none → v = none) (hlocks : meth.locks = false) (hQ : Q v T.heap locs) (hc : cells ≤ cc) (hk : slots ≤ kk)
    (st : ∀ fs, (∀ (f : JFrame) (acts : List Action), f.method = m → f.locked = none → f.entered = [] → (doReturn e (T.setTop f) acts v).1 = T.setFrames fs) → Steps p.tables e below S (T.setFrames fs)) : Gl p e below s Q cc kk S := by
  obtain ⟨fs, hr, hrun, hended, hW, hsame⟩ := X.leave (v := v) hv hlocks
  exact ⟨_, _, st fs hr, hrun, hended, _, _, rfl, hQ, ⟨_, rfl⟩, hW, hsame.mono hc hk⟩
theorem Gl.fin {Q : Option Value → Heap → List Loc → Prop} {cc kk : Nat} {S : State} (X : Stand p l e R s m args below meth c T locs cells slots) {v : Option Value} (hv : meth.sig.returnType = none → v = none) (hlocks : meth.locks = false) (hQ : Q v h locs) (eT : T.heap = h) (hc : cells ≤ cc) (hk : slots ≤ kk)
    (st : ∀ fs, (∀ (f : JFrame) (acts : List Action), f.method = m → f.locked = none → f.entered = [] → (doReturn e (T.setTop f) acts v).1 = T.setFrames fs) → Steps p.tables e below S (T.setFrames fs)) : Gl p e below s Q cc kk S :=
  Gl.ret X hv hlocks (by rw [eT]; exact hQ) hc hk st
abbrev OMet (l : Launch) (Z : State) (y : MethodName) (bytes : ByteArray) (maxL : Nat) (ret : Option FieldType) (ws : List Jvm.Cond) (rm : Room) (as' : Array Value) (h0 : Heap) (Q : Option Value → Heap → List Loc → Prop) : Prop :=
  MetFree l y (head1 (Jvm.Cond.code y bytes maxL ret :: ws) rm) (fun a U => a = as' ∧ Z.Warmed39 U.vm ∧ U.heap = h0) (fun _ _ _ _ _ => True) (fun _ U o U' => ∃ v L, o = .returned v ∧ Q v U'.heap L ∧ FrameEnd U o U' L rm.cells rm.slots)
theorem own_body {y : MethodName} {bytes : ByteArray} {maxL : Nat} {ret : Option FieldType} {ws : List Jvm.Cond} {rm : Room} {as' : Array Value} {Q : Option Value → Heap → List Loc → Prop} (hx : plainFor y = true)
    (H : ∀ p e s m below meth c s₁, BodyLoose p l y (head1 (Jvm.Cond.code y bytes maxL ret :: ws) rm) bytes maxL ret e s m as' below meth c s₁ → c.maxLocals = maxL → Z.Warmed39 s.vm → s₁.heap = h0 → Gl p e below s Q rm.cells rm.slots (s₁.setTop (entryFrame m as' maxL))) :
    OMet l Z y bytes maxL ret ws rm as' h0 Q := by
  refine MetFree.of_bodySF hx hisR ?_
  intro p e s m args below meth c s₁ Bd hml0 hP hK
  obtain ⟨rfl, hZ, hh⟩ := hP
  exact H p e s m below meth c s₁ Bd hml0 hZ (by rw [← hh, Bd.state]; rfl)
/-- an int is returned -/
theorem own_retI (X : Stand p l e R s m args below meth c T locs cells slots) (hx : p.tables.exec = Jvm.exec) {pc : Nat} {Ls : Array Slot} {z : Int32} {rest : List Value} (hret : meth.sig.returnType = some .int) (hd : decode c.code pc = .ok (.ireturn, 1)) {fs : List Frame}
    (hl : ∀ (f : JFrame) (acts : List Action), f.method = m → f.locked = none → f.entered = [] → (doReturn e (T.setTop f) acts (some (.int z))).1 = T.setFrames fs) : Steps p.tables e below (T.setTop (mkF m pc Ls (.int z :: rest))) (T.setFrames fs) :=
  retOut X hx hret rfl (Or.inl ⟨rfl, Or.inl rfl, z, rfl⟩) hd hl
theorem own_retJ (X : Stand p l e R s m args below meth c T locs cells slots) (hx : p.tables.exec = Jvm.exec) {pc : Nat} {Ls : Array Slot} {z : Int64} {rest : List Value} (hret : meth.sig.returnType = some .long) (hd : decode c.code pc = .ok (.lreturn, 1)) {fs : List Frame}
    (hl : ∀ (f : JFrame) (acts : List Action), f.method = m → f.locked = none → f.entered = [] → (doReturn e (T.setTop f) acts (some (.long z))).1 = T.setFrames fs) : Steps p.tables e below (T.setTop (mkF m pc Ls (.long z :: rest))) (T.setFrames fs) :=
  retOut X hx hret rfl (Or.inr (Or.inl ⟨rfl, rfl, z, rfl⟩)) hd hl
theorem own_retD (X : Stand p l e R s m args below meth c T locs cells slots) (hx : p.tables.exec = Jvm.exec) {pc : Nat} {Ls : Array Slot} {z : UInt64} {rest : List Value} (hret : meth.sig.returnType = some .double) (hd : decode c.code pc = .ok (.dreturn, 1)) {fs : List Frame}
    (hl : ∀ (f : JFrame) (acts : List Action), f.method = m → f.locked = none → f.entered = [] → (doReturn e (T.setTop f) acts (some (.double z))).1 = T.setFrames fs) : Steps p.tables e below (T.setTop (mkF m pc Ls (.double z :: rest))) (T.setFrames fs) :=
  retOut X hx hret rfl (Or.inr (Or.inr (Or.inl ⟨rfl, rfl, z, rfl⟩))) hd hl
theorem own_retR (X : Stand p l e R s m args below meth c T locs cells slots) (hx : p.tables.exec = Jvm.exec) {pc : Nat} {Ls : Array Slot} {w : Value} {t : FieldType} {rest : List Value} (hret : meth.sig.returnType = some t) (ht : t.isReference = true) (hn : narrow t w = w) (hw : w.isRef = true) (hd : decode c.code pc = .ok (.areturn, 1)) {fs : List Frame}
    (hl : ∀ (f : JFrame) (acts : List Action), f.method = m → f.locked = none → f.entered = [] → (doReturn e (T.setTop f) acts (some w)).1 = T.setFrames fs) : Steps p.tables e below (T.setTop (mkF m pc Ls (w :: rest))) (T.setFrames fs) :=
  retOut X hx hret hn (Or.inr (Or.inr (Or.inr (Or.inr ⟨rfl, ht, hw⟩)))) hd hl
/-- a static method by its contract -/
theorem own_callS (X : Stand p l e R s m args below meth c T locs cells slots) (hx : p.tables.exec = Jvm.exec) (hZ : Z.Warmed39 s.vm) {own : String} {index : Nat} {y : MethodName} {bytes : ByteArray} {maxL : Nat} {ret : Option FieldType} {rm : Room} {Q : Option Value → Heap → List Loc → Prop}
    (hown : s.vm.findClass own = some m.cls) (w1 : (Jvm.Cond.methodLink own index y).before a0 Z = true) (w2 : (Jvm.Cond.static y).before a0 Z = true) (w3 : (Jvm.Cond.initialized y.cls).before a0 Z = true) (w4 : (Jvm.Cond.code y bytes maxL ret).before a0 Z = true)
    (hy : y.cls ≠ "java/lang/invoke/MethodHandle" ∧ y.cls ≠ "java/lang/invoke/VarHandle") {argsL rest : List Value} (hM : OMet l Z y bytes maxL ret [] rm argsL.toArray h Q) {W : Nat} (hf : rm.frames + 1 ≤ R.frames) (hl : W + (maxL + 11) + rm.locals ≤ R.locals) (hc : cells + rm.cells ≤ R.cells) (hs : slots + rm.slots ≤ R.slots)
    (eT : T.heap = h) {pc : Nat} {Ls : Array Slot} (hsize : Ls.size = c.maxLocals) (hlen : ∀ sig, parseMethodDescriptor y.desc = some sig → argsL.length = sig.parameters.length) (hW : (rest.map fun v => v.category).sum ≤ W) (hd : decode c.code pc = .ok (.invokestatic index, 3)) :
    ∃ (v : Option Value) (T' : State) (L : List Loc), Stand p l e R s m args below meth c T' (locs ++ L) (cells + rm.cells) (slots + rm.slots) ∧ Q v T'.heap L ∧
      ∀ t, Steps p.tables e below (T'.setTop (mkF m (pc + 3) Ls (v.toList ++ rest))) t → Steps p.tables e below (T.setTop (mkF m pc Ls (argsL.reverse ++ rest))) t := by
  obtain ⟨v, _, ⟨T', L', k', n'⟩, -, X', ⟨L, hQ, hl', hy', hz'⟩, st⟩ := Jvm.LawKit.callS X hx (y := y) hown (mvT hZ w1) (mvT hZ w2) (mvT hZ w3) (mvT hZ w4) hy (backOf (W := W) hM hZ w4 w3 hf hl) (g := mkF m pc Ls (argsL.reverse ++ rest)) rfl hsize (argsL := argsL) (rest := rest) hlen rfl (by show 2 * 0 + _ ≤ _; omega) hd (fun _ _ => ⟨rfl, eT, hc, hs⟩)
  dsimp only [Pt.U, Pt.locs, Pt.cells, Pt.slots] at X' hl' hy' hz' st hQ
  subst hl' hy' hz'
  exact ⟨v, T', L, X', hQ, st⟩
/-- a constructor by its contract -/
theorem own_callI (X : Stand p l e R s m args below meth c T locs cells slots) (hx : p.tables.exec = Jvm.exec) (hZ : Z.Warmed39 s.vm) {own : String} {index : Nat} {y : MethodName} {bytes : ByteArray} {maxL : Nat} {rm : Room} {Q : Option Value → Heap → List Loc → Prop} (hy1 : y.name = "<init>")
    (hown : s.vm.findClass own = some m.cls) (w1 : (Jvm.Cond.methodLink own index y).before a0 Z = true) (w2 : (Jvm.Cond.instanceMethod y).before a0 Z = true) (w3 : (Jvm.Cond.initialized y.cls).before a0 Z = true) (w4 : (Jvm.Cond.code y bytes maxL none).before a0 Z = true)
    (hy : y.cls ≠ "java/lang/invoke/MethodHandle" ∧ y.cls ≠ "java/lang/invoke/VarHandle") {a : Addr} {argsL rest : List Value} (hM : OMet l Z y bytes maxL none [] rm (.ref a :: argsL).toArray h Q) {W : Nat} (hf : rm.frames + 1 ≤ R.frames) (hl : W + (maxL + 11) + rm.locals ≤ R.locals) (hc : cells + rm.cells ≤ R.cells) (hs : slots + rm.slots ≤ R.slots)
    (eT : T.heap = h) {pc : Nat} {Ls : Array Slot} (hsize : Ls.size = c.maxLocals) (hlen : ∀ sig, parseMethodDescriptor y.desc = some sig → argsL.length = sig.parameters.length) (hW : (rest.map fun v => v.category).sum ≤ W) (hd : decode c.code pc = .ok (.invokespecial index, 3)) :
    ∃ (v : Option Value) (T' : State) (L : List Loc), Stand p l e R s m args below meth c T' (locs ++ L) (cells + rm.cells) (slots + rm.slots) ∧ Q v T'.heap L ∧
      ∀ t, Steps p.tables e below (T'.setTop (mkF m (pc + 3) Ls (v.toList ++ rest))) t → Steps p.tables e below (T.setTop (mkF m pc Ls (argsL.reverse ++ .ref a :: rest))) t := by
  obtain ⟨v, _, ⟨T', L', k', n'⟩, -, X', ⟨L, hQ, hl', hy', hz'⟩, st⟩ := X.specialBack hx (y := y) hy1 hown (mvT hZ w1) (mvT hZ w2) (mvT hZ w4) hy (backOf (W := W) hM hZ w4 w3 hf hl) (g := mkF m pc Ls (argsL.reverse ++ .ref a :: rest)) rfl hsize (Steps.refl _) (a := a) (argsL := argsL) (rest := rest) hlen rfl (by show 2 * 0 + _ ≤ _; omega) hd (fun _ _ => ⟨rfl, eT, hc, hs⟩)
  dsimp only [Pt.U, Pt.locs, Pt.cells, Pt.slots] at X' hl' hy' hz' st hQ
  subst hl' hy' hz'
  exact ⟨v, T', L, X', hQ, fun t k => st.trans k⟩
/-- an instance method by its contract, the receiver's class known -/
theorem own_callV (X : Stand p l e R s m args below meth c T locs cells slots) (hx : p.tables.exec = Jvm.exec) (hZ : Z.Warmed39 s.vm) {own C : String} {index : Nat} {y z : MethodName} {bytes : ByteArray} {maxL : Nat} {ret : Option FieldType} {rm : Room} {Q : Option Value → Heap → List Loc → Prop}
    (hown : s.vm.findClass own = some m.cls) (w1 : (Jvm.Cond.methodLink own index y).before a0 Z = true) (wd : (Jvm.Cond.declares y).before a0 Z = true) (hnf : NotFace s y) (ws : (Jvm.Cond.selects C y z).before a0 Z = true) (w2 : (Jvm.Cond.instanceMethod z).before a0 Z = true) (w3 : (Jvm.Cond.initialized z.cls).before a0 Z = true) (w4 : (Jvm.Cond.code z bytes maxL ret).before a0 Z = true)
    (hy : y.cls ≠ "java/lang/invoke/MethodHandle" ∧ y.cls ≠ "java/lang/invoke/VarHandle") {a : Addr} (E : Exa Z h a C) {argsL rest : List Value} (hM : OMet l Z z bytes maxL ret [] rm (.ref a :: argsL).toArray h Q) {W : Nat} (hf : rm.frames + 1 ≤ R.frames) (hl : W + (maxL + 11) + rm.locals ≤ R.locals) (hc : cells + rm.cells ≤ R.cells) (hs : slots + rm.slots ≤ R.slots)
    (eT : T.heap = h) {pc : Nat} {Ls : Array Slot} (hsize : Ls.size = c.maxLocals) (hlen : ∀ sig, parseMethodDescriptor y.desc = some sig → argsL.length = sig.parameters.length) (hW : (rest.map fun v => v.category).sum ≤ W) (hd : decode c.code pc = .ok (.invokevirtual index, 3)) :
    ∃ (v : Option Value) (T' : State) (L : List Loc), Stand p l e R s m args below meth c T' (locs ++ L) (cells + rm.cells) (slots + rm.slots) ∧ Q v T'.heap L ∧
      ∀ t, Steps p.tables e below (T'.setTop (mkF m (pc + 3) Ls (v.toList ++ rest))) t → Steps p.tables e below (T.setTop (mkF m pc Ls (argsL.reverse ++ .ref a :: rest))) t := by
  obtain ⟨cB, kB, q1, q2, q3⟩ := isOf hZ eT E
  obtain ⟨v, _, ⟨T', L', k', n'⟩, -, X', ⟨L, hQ, hl', hy', hz'⟩, st⟩ := X.virtualBack hx (y := y) (z := z) hown (mvT hZ w1) (mvT hZ wd) hnf (mvT hZ ws) (mvT hZ w2) hy (backOf (W := W) hM hZ w4 w3 hf hl) q1 q3 (g := mkF m pc Ls (argsL.reverse ++ .ref a :: rest)) rfl hsize (Steps.refl _) (argsL := argsL) (rest := rest) hlen rfl (by show 2 * 0 + _ ≤ _; omega) hd (fun _ _ => ⟨rfl, eT, hc, hs⟩)
  dsimp only [Pt.U, Pt.locs, Pt.cells, Pt.slots] at X' hl' hy' hz' st hQ
  subst hl' hy' hz'
  exact ⟨v, T', L, X', hQ, fun t k => st.trans k⟩
/-- an inherited instance method: the link names a class that doesn't declare it -/
theorem own_callU (X : Stand p l e R s m args below meth c T locs cells slots) (hx : p.tables.exec = Jvm.exec) (hZ : Z.Warmed39 s.vm) {own C owner : String} {index : Nat} {y z : MethodName} {bytes : ByteArray} {maxL : Nat} {ret : Option FieldType} {rm : Room} {Q : Option Value → Heap → List Loc → Prop}
    (hown : s.vm.findClass own = some m.cls) (w1 : (Jvm.Cond.methodLink own index y).before a0 Z = true) (wm : (Jvm.Cond.sameMethod y.cls owner y.name y.desc).before a0 Z = true) (wd : (Jvm.Cond.declares ⟨owner, y.name, y.desc⟩).before a0 Z = true) (ws : (Jvm.Cond.selects C y z).before a0 Z = true) (w2 : (Jvm.Cond.instanceMethod z).before a0 Z = true) (w3 : (Jvm.Cond.initialized z.cls).before a0 Z = true) (w4 : (Jvm.Cond.code z bytes maxL ret).before a0 Z = true)
    (hy : owner ≠ "java/lang/invoke/MethodHandle" ∧ owner ≠ "java/lang/invoke/VarHandle") {a : Addr} (E : Exa Z h a C) {argsL rest : List Value} (hM : OMet l Z z bytes maxL ret [] rm (.ref a :: argsL).toArray h Q) {W : Nat} (hf : rm.frames + 1 ≤ R.frames) (hl : W + (maxL + 11) + rm.locals ≤ R.locals) (hc : cells + rm.cells ≤ R.cells) (hs : slots + rm.slots ≤ R.slots)
    (eT : T.heap = h) {pc : Nat} {Ls : Array Slot} (hsize : Ls.size = c.maxLocals) (hlen : ∀ sig, parseMethodDescriptor y.desc = some sig → argsL.length = sig.parameters.length) (hW : (rest.map fun v => v.category).sum ≤ W) (hd : decode c.code pc = .ok (.invokevirtual index, 3)) :
    ∃ (v : Option Value) (T' : State) (L : List Loc), Stand p l e R s m args below meth c T' (locs ++ L) (cells + rm.cells) (slots + rm.slots) ∧ Q v T'.heap L ∧
      ∀ t, Steps p.tables e below (T'.setTop (mkF m (pc + 3) Ls (v.toList ++ rest))) t → Steps p.tables e below (T.setTop (mkF m pc Ls (argsL.reverse ++ .ref a :: rest))) t := by
  obtain ⟨cB, kB, q1, q2, q3⟩ := isOf hZ eT E
  obtain ⟨v, _, ⟨T', L', k', n'⟩, -, X', ⟨L, hQ, hl', hy', hz'⟩, st⟩ := X.virtualBackUp hx (x := y) (y := z) (owner := owner) hown (mvT hZ w1) (mvT hZ wm) (mvT hZ wd) hy (mvT hZ ws) (mvT hZ w2) (backOf (W := W) hM hZ w4 w3 hf hl) q1 q3 (g := mkF m pc Ls (argsL.reverse ++ .ref a :: rest)) rfl hsize (Steps.refl _) (argsL := argsL) (rest := rest) hlen rfl (by show 2 * 0 + _ ≤ _; omega) hd (fun _ _ => ⟨rfl, eT, hc, hs⟩)
  dsimp only [Pt.U, Pt.locs, Pt.cells, Pt.slots] at X' hl' hy' hz' st hQ
  subst hl' hy' hz'
  exact ⟨v, T', L, X', hQ, fun t k => st.trans k⟩
/-- an interface's method by the contract of the body that the receiver's class selects -/
theorem own_callF (X : Stand p l e R s m args below meth c T locs cells slots) (hx : p.tables.exec = Jvm.exec) (hZ : Z.Warmed39 s.vm) {own C : String} {index count : Nat} {y z : MethodName} {bytes : ByteArray} {maxL : Nat} {ret : Option FieldType} {rm : Room} {Q : Option Value → Heap → List Loc → Prop}
    (hown : s.vm.findClass own = some m.cls) (w1 : (Jvm.Cond.methodLink own index y).before a0 Z = true) (wd : (Jvm.Cond.declares y).before a0 Z = true) (wf : (Jvm.Cond.interfaceMethod y.cls y.cls y.name y.desc).before args s = true) (ws : (Jvm.Cond.selects C y z).before a0 Z = true) (w2 : (Jvm.Cond.instanceMethod z).before a0 Z = true) (wp : (Jvm.Cond.publicMethod z).before a0 Z = true) (wu : (Jvm.Cond.unhidden C y.name y.desc).before a0 Z = true) (wc : (Jvm.Cond.castable C y.cls).before a0 Z = true) (w3 : (Jvm.Cond.initialized z.cls).before a0 Z = true) (w4 : (Jvm.Cond.code z bytes maxL ret).before a0 Z = true)
    (hy : y.cls ≠ "java/lang/invoke/MethodHandle" ∧ y.cls ≠ "java/lang/invoke/VarHandle") {a : Addr} (E : Exa Z h a C) {argsL rest : List Value} (hM : OMet l Z z bytes maxL ret [] rm (.ref a :: argsL).toArray h Q) {W : Nat} (hf : rm.frames + 1 ≤ R.frames) (hl : W + (maxL + 11) + rm.locals ≤ R.locals) (hc : cells + rm.cells ≤ R.cells) (hs : slots + rm.slots ≤ R.slots)
    (eT : T.heap = h) {pc : Nat} {Ls : Array Slot} (hsize : Ls.size = c.maxLocals) (hlen : ∀ sig, parseMethodDescriptor y.desc = some sig → argsL.length = sig.parameters.length) (hW : (rest.map fun v => v.category).sum ≤ W) (hd : decode c.code pc = .ok (.invokeinterface index count, 5)) :
    ∃ (v : Option Value) (T' : State) (L : List Loc), Stand p l e R s m args below meth c T' (locs ++ L) (cells + rm.cells) (slots + rm.slots) ∧ Q v T'.heap L ∧
      ∀ t, Steps p.tables e below (T'.setTop (mkF m (pc + 5) Ls (v.toList ++ rest))) t → Steps p.tables e below (T.setTop (mkF m pc Ls (argsL.reverse ++ .ref a :: rest))) t := by
  obtain ⟨cB, kB, q1, q2, q3⟩ := isOf hZ eT E
  obtain ⟨v, _, ⟨T', L', k', n'⟩, -, X', ⟨L, hQ, hl', hy', hz'⟩, st⟩ := X.interfaceBack hx (xi := y) (y := z) hown (mvT hZ w1) (mvT hZ wd) wf (mvT hZ ws) (mvT hZ w2) (mvT hZ wp) (mvT hZ wu) (mvT hZ wc) hy (backOf (W := W) hM hZ w4 w3 hf hl) q1 q2 q3 (g := mkF m pc Ls (argsL.reverse ++ .ref a :: rest)) rfl hsize (Steps.refl _) (argsL := argsL) (rest := rest) hlen rfl (by show 2 * 0 + _ ≤ _; omega) hd (fun _ _ => ⟨rfl, eT, hc, hs⟩)
  dsimp only [Pt.U, Pt.locs, Pt.cells, Pt.slots] at X' hl' hy' hz' st hQ
  subst hl' hy' hz'
  exact ⟨v, T', L, X', hQ, fun t k => st.trans k⟩
theorem own_hc {T : State} {h : Heap} {a : Addr} {cl : Cell} (q : T.heap = h) (r : h[a]? = some cl) : T.heap[a]? = some cl := by rw [q]; exact r
/-- what a Bool is as Java's int -/
def b2i (b : Bool) : Int32 := if b then 1 else 0
theorem b2i_t {b : Bool} (h : b = true) : b2i b = 1 := by simp [b2i, h]
theorem b2i_f {b : Bool} (h : b = false) : b2i b = 0 := by simp [b2i, h]
theorem b2i_inj {a b : Bool} : b2i a = b2i b ↔ a = b := by cases a <;> cases b <;> decide
/-- the branches' conditions in plain words -/
theorem ic_lt (x y : Int32) : if_icmp.holds .lt x y = decide (x < y) := by by_cases q : x < y <;> simp [q, tlt, flt]
theorem ic_ge (x y : Int32) : if_icmp.holds .ge x y = !decide (x < y) := by by_cases q : x < y <;> simp [q, tlt, flt]
theorem ic_gt (x y : Int32) : if_icmp.holds .gt x y = decide (y < x) := by by_cases q : y < x <;> simp [q, tlt, flt]
theorem ic_le (x y : Int32) : if_icmp.holds .le x y = !decide (y < x) := by by_cases q : y < x <;> simp [q, tlt, flt]
theorem ic_eq (x y : Int32) : if_icmp.holds .eq x y = decide (x = y) := by by_cases q : x = y <;> simp [q, teq, feq]
theorem ic_ne (x y : Int32) : if_icmp.holds .ne x y = !decide (x = y) := by by_cases q : x = y <;> simp [q, teq, feq]
theorem i0_lt (x : Int32) : ifCond.holds .lt x = decide (x < 0) := (if0 _ _).trans (ic_lt x 0)
theorem i0_ge (x : Int32) : ifCond.holds .ge x = !decide (x < 0) := (if0 _ _).trans (ic_ge x 0)
theorem i0_gt (x : Int32) : ifCond.holds .gt x = decide (0 < x) := (if0 _ _).trans (ic_gt x 0)
theorem i0_le (x : Int32) : ifCond.holds .le x = !decide (0 < x) := (if0 _ _).trans (ic_le x 0)
theorem i0_eq (x : Int32) : ifCond.holds .eq x = decide (x = 0) := (if0 _ _).trans (ic_eq x 0)
theorem i0_ne (x : Int32) : ifCond.holds .ne x = !decide (x = 0) := (if0 _ _).trans (ic_ne x 0)
theorem lw_lt (x y : Int64) : lcmpW x y < 0 ↔ x < y := by rw [lcW]; exact Jvm.RoadKit.lc_lt x y
theorem lw_gt (x y : Int64) : 0 < lcmpW x y ↔ y < x := by rw [lcW]; exact Jvm.RoadKit.lc_gt x y
theorem lw_eq (x y : Int64) : lcmpW x y = 0 ↔ x = y := by rw [lcW]; exact Jvm.RoadKit.lc_eq x y
theorem l0_lt (x y : Int64) : ifCond.holds .lt (lcmpW x y) = decide (x < y) := (i0_lt _).trans (by simp [lw_lt])
theorem l0_ge (x y : Int64) : ifCond.holds .ge (lcmpW x y) = !decide (x < y) := (i0_ge _).trans (by simp [lw_lt])
theorem l0_gt (x y : Int64) : ifCond.holds .gt (lcmpW x y) = decide (y < x) := (i0_gt _).trans (by simp [lw_gt])
theorem l0_le (x y : Int64) : ifCond.holds .le (lcmpW x y) = !decide (y < x) := (i0_le _).trans (by simp [lw_gt])
theorem l0_eq (x y : Int64) : ifCond.holds .eq (lcmpW x y) = decide (x = y) := (i0_eq _).trans (by simp [lw_eq])
theorem l0_ne (x y : Int64) : ifCond.holds .ne (lcmpW x y) = !decide (x = y) := (i0_ne _).trans (by simp [lw_eq])
theorem b0_eq (b : Bool) : ifCond.holds .eq (b2i b) = !b := by cases b <;> decide
theorem b0_ne (b : Bool) : ifCond.holds .ne (b2i b) = b := by cases b <;> decide
theorem own_t {P : Prop} [Decidable P] {u : Bool} (q : u = decide P) (hp : P) : u = true := by rw [q]; exact decide_eq_true hp
theorem own_f {P : Prop} [Decidable P] {u : Bool} (q : u = decide P) (hp : ¬ P) : u = false := by rw [q]; exact decide_eq_false hp
theorem own_nt {P : Prop} [Decidable P] {u : Bool} (q : u = !decide P) (hp : ¬ P) : u = true := by rw [q]; simp [hp]
theorem own_nf {P : Prop} [Decidable P] {u : Bool} (q : u = !decide P) (hp : P) : u = false := by rw [q]; simp [hp]
theorem own_bt {u b : Bool} (q : u = b) (hp : b = true) : u = true := q.trans hp
theorem own_bf {u b : Bool} (q : u = b) (hp : b = false) : u = false := q.trans hp
theorem own_nbt {u b : Bool} (q : u = !b) (hp : b = false) : u = true := by rw [q, hp]; rfl
theorem own_nbf {u b : Bool} (q : u = !b) (hp : b = true) : u = false := by rw [q, hp]; rfl
theorem own_retN (X : Stand p l e R s m args below meth c T locs cells slots) (hx : p.tables.exec = Jvm.exec) {pc : Nat} {Ls : Array Slot} {z z' : Int32} {t : FieldType} {rest : List Value} (hret : meth.sig.returnType = some t) (ht : t = .boolean ∨ t = .byte ∨ t = .char ∨ t = .short) (hn : nar t z = z')
    (hd : decode c.code pc = .ok (.ireturn, 1)) {fs : List Frame} (hl : ∀ (f : JFrame) (acts : List Action), f.method = m → f.locked = none → f.entered = [] → (doReturn e (T.setTop f) acts (some (.int z'))).1 = T.setFrames fs) :
    Steps p.tables e below (T.setTop (mkF m pc Ls (.int z :: rest))) (T.setFrames fs) := by
  subst hn
  exact retN X hx hret ht hd hl
theorem own_nar_b2i (b : Bool) : nar .boolean (b2i b) = b2i b := by cases b <;> decide
theorem own_narrow_b2i (b : Bool) : narrow .boolean (.int (b2i b)) = .int (b2i b) := by cases b <;> rfl
theorem own_fits_b2i (b : Bool) : fits .boolean (.int (b2i b)) = true := by cases b <;> rfl
theorem own_nar_i2b (x : Int32) : nar .byte x.toInt8.toInt32 = x.toInt8.toInt32 := by simp [nar]
theorem own_lrem (x y : Int64) : x - x / y * y = x % y := by
  apply Int64.toInt_inj.mp
  have h1 := Int64.le_toInt (x % y)
  have h2 := Int64.toInt_lt (x % y)
  have e : x.toInt - y.toInt * x.toInt.tdiv y.toInt = x.toInt.tmod y.toInt := (Int.tmod_def _ _).symm
  rw [Int64.toInt_sub, Int64.toInt_mul, Int64.toInt_div, Int.bmod_mul_bmod, Int.sub_bmod_bmod, Int.mul_comm (x.toInt.tdiv y.toInt), e, ← Int64.toInt_mod]
  exact Int.bmod_eq_of_le_mul_two (by omega) (by omega)
/-- getfield by an entry that is resolved already -/
theorem own_getFR (X : Stand p l e R s m args below meth c T locs cells slots) (hx : p.tables.exec = Jvm.exec) (hZ : Z.Warmed39 s.vm) {own O n d : String} {index : Nat} (hown : s.vm.findClass own = some m.cls) (w : (Jvm.Cond.fieldRef own index O n d).before a0 Z = true)
    (eT : T.heap = h) {a : Addr} {v : Value} (F : Fld Z h a O n d v) {g : JFrame} (hg : g.method = m) {rest : List Value} (hs : g.stack = .ref a :: rest) (hd : decode c.code g.pc = .ok (.getfield index, 3)) : ∃ T', Stand p l e R s m args below meth c T' locs cells slots ∧ T'.heap = h ∧ ∀ target, Steps p.tables e below (T'.setTop { g with pc := g.pc + 3, stack := v :: rest }) target → Steps p.tables e below (T.setTop g) target := by
  have hZT : Z.Warmed39 T.vm := wtrans hZ X.warmed
  have w' := Cond.fieldRef_warmed39 hZT w
  have hcur : (Z.setVm T.vm).vm.findClass own = some m.cls := (X.warmed.alike.findClass own _).trans hown
  obtain ⟨c', k', i', f', h1, hready⟩ := Cond.fieldRef_spec (s := Z.setVm T.vm) hcur w'
  obtain ⟨cell, cf, k, i, f, g1, g2, g3, g4, -, -, g7⟩ := F
  obtain ⟨k2, hi, -⟩ := State.fieldFound?_setVm (s := Z) hZT.alike g2
  have q := Option.some.inj (h1.symm.trans hi)
  simp only [Prod.mk.injEq] at q
  obtain ⟨rfl, -, -, rfl⟩ := q
  exact ⟨T, X, eT, fun target kt => (X.getfieldR hx hg hready g3 hs (by rw [eT]; exact g1) g4 g7 hd (Steps.refl _)).trans kt⟩
/-- the case's words on statics and fields, at the start -/
theorem own_sx {C n d K : String} (w1 : (Jvm.Cond.initialized C).before args s = true) (w2 : (Jvm.Cond.laysStatic C n d).before args s = true) (q : (Jvm.Cond.exactly (Term.static C n d) K).value args s none s [] = some true) : ∃ a : Addr, (Term.static C n d).eval args s none [] s = some (.ref a) ∧ Sta s s.heap C n d (.ref a) ∧ Exa s s.heap a K := by
  obtain ⟨a, ev⟩ := exa_v q
  exact ⟨a, ev, Sta.start ev (Or.inr ⟨w1, w2⟩), Exa.start ev q⟩
theorem own_fi {t : Term} {a : Addr} {C n d : String} {k : Int32} (ev : t.eval args s none [] s = some (.ref a)) (q : (Jvm.Cond.eq (Term.field t C n d) (Term.int k)).value args s none s [] = some true) : Fld s s.heap a C n d (.int k) := by
  obtain ⟨x, y, h1, h2, h3, h4⟩ := cmp_v (Or.inl q)
  have h5 : y = .int k := (Option.some.inj (h2.symm.trans (Term.int_eval k)) : _)
  subst h5
  obtain ⟨z, rfl⟩ : ∃ z, x = .int z := h4
  have e2 := h1
  rw [fld_at ev] at h1
  simp [Cond.value, e2, h2] at q
  subst q
  exact Fld.start h1
theorem own_fx {t : Term} {a : Addr} {C n d K : String} (ev : t.eval args s none [] s = some (.ref a)) (q : (Jvm.Cond.exactly (Term.field t C n d) K).value args s none s [] = some true) : ∃ b : Addr, (Term.field t C n d).eval args s none [] s = some (.ref b) ∧ Fld s s.heap a C n d (.ref b) ∧ Exa s s.heap b K := by
  obtain ⟨b, ev2⟩ := exa_v q
  exact ⟨b, ev2, Fld.start ((fld_at ev).symm.trans ev2), Exa.start ev2 q⟩
/-- a class that the chain of superclasses doesn't meet: its own word is 'instantiable' -/
theorem own_ns_root {Z : State} {a0 : Array Value} {O K : String} {n : Nat} (w : (Jvm.Cond.noSuperclass O).before a0 Z = true) (wi : (Jvm.Cond.instantiable K n).before a0 Z = true) (hn : O ≠ K) : NS Z O K := by
  obtain ⟨c, k, h1, h2, h3, -, -⟩ := Cond.noSuperclass_spec w
  obtain ⟨t, kt, g1, -⟩ := Cond.instantiable_spec wi
  have ne := ids_ne h1 g1 hn
  refine ⟨c, t, h1, g1, fun fuel => ?_⟩
  cases fuel with
  | zero => rfl
  | succ f => simp [Vm.isSubclassAux, ne, h2, h3]
theorem own_ns_no {Z : State} {a0 : Array Value} {C S K : String} {n : Nat} (w : (Jvm.Cond.superclass C S).before a0 Z = true) (wi : (Jvm.Cond.instantiable K n).before a0 Z = true) (q : NS Z C K) (hn : C ≠ K) : ∃ c t, Z.vm.findClass C = some c ∧ Z.vm.findClass K = some t ∧ Z.vm.assignable c t = false := by
  obtain ⟨c, t, h0, g0, n3⟩ := q
  obtain ⟨p, k, kp, h1, h2, h3, h4, h5, -, h7⟩ := Cond.superclass_spec h0 w
  obtain ⟨t', kt, g1, g2, g3, g4, -, -⟩ := Cond.instantiable_spec wi
  cases g0.symm.trans g1
  have g5 : kt.isInterface = false := by simp only [Bool.or_eq_false_iff] at g4; exact g4.1
  have ne := ids_ne h0 g0 hn
  refine ⟨c, t, h0, g0, ?_⟩
  show Z.vm.assignableAux (255 + 1) c t = false
  simp [Vm.assignableAux, ne, h2, g2, h5, g3, g5, Vm.isSubclass, n3]
/-- a static's cell isn't written by one who writes objects alone -/
theorem own_sta_keep {Z : State} {h h' : Heap} {C n d : String} {v : Value} {ws : List Addr} (F : Sta Z h C n d v) (K : Keep h h' ws) (q : ∀ x ∈ ws, ∃ C', Exa Z h x C') : Sta Z h' C n d v := by
  obtain ⟨cf, i, k, f, st, cell, h1, h2, h3, h4, h5, h6, h7⟩ := F
  refine ⟨cf, i, k, f, st, cell, h1, h2, h3, h4, K.2.1 st cell h5 (fun r => ?_), h6, h7⟩
  obtain ⟨C', c', k', g1, -, -, g4, -⟩ := q st r
  rw [h5] at g1
  cases g1
  rw [h6] at g4
  cases g4
theorem own_ne32 {x y : Int32} (h : x ≠ y) : Value.int x ≠ Value.int y := fun q => h (Value.int.inj q)
end OwnKit
theorem own_and31 (p : Int32) : 0 ≤ (p &&& 2147483647).toInt := by
  have h : (p &&& 2147483647).toInt = (p &&& 2147483647).toBitVec.toInt := rfl
  rw [h, Int32.toBitVec_and]
  have e : (2147483647 : Int32).toBitVec = 2147483647#32 := rfl
  rw [e, BitVec.toInt_eq_toNat_cond, BitVec.toNat_and]
  have : p.toBitVec.toNat &&& (2147483647#32).toNat ≤ 2147483647 := Nat.and_le_right
  split <;> omega
theorem own_mod (p n : Int32) (hn : 0 < n.toInt) : 0 ≤ ((p &&& 2147483647) % n).toInt ∧ ((p &&& 2147483647) % n).toInt < n.toInt := by
  rw [Int32.toInt_mod]
  have h := own_and31 p
  rw [Int.tmod_eq_emod_of_nonneg h]
  exact ⟨Int.emod_nonneg _ (by omega), Int.emod_lt_of_pos _ hn⟩
theorem own_mod6 (p : Int32) : (p &&& 2147483647) % 6 = 0 ∨ (p &&& 2147483647) % 6 = 1 ∨ (p &&& 2147483647) % 6 = 2 ∨ (p &&& 2147483647) % 6 = 3 ∨ (p &&& 2147483647) % 6 = 4 ∨ (p &&& 2147483647) % 6 = 5 := by
  have h := own_mod p 6 (by decide)
  have e : (6 : Int32).toInt = 6 := by decide
  rw [e] at h
  simp only [← Int32.toInt_inj]
  have e0 : (0 : Int32).toInt = 0 := by decide
  have e1 : (1 : Int32).toInt = 1 := by decide
  have e2 : (2 : Int32).toInt = 2 := by decide
  have e3 : (3 : Int32).toInt = 3 := by decide
  have e4 : (4 : Int32).toInt = 4 := by decide
  have e5 : (5 : Int32).toInt = 5 := by decide
  rw [e0, e1, e2, e3, e4, e5]
  omega
theorem own_nat32 (x : Int32) (h : 0 ≤ x.toInt) : x.toUInt32.toNat = x.toInt.toNat := by
  have e : x.toInt = x.toBitVec.toInt := rfl
  have e2 : x.toUInt32.toNat = x.toBitVec.toNat := rfl
  rw [e2]
  rw [e, BitVec.toInt_eq_toNat_cond] at h ⊢
  have := x.toBitVec.isLt
  split at h <;> split <;> omega
theorem own_andm (x : Int32) (m : Nat) (hm : m < 2147483648) : 0 ≤ (x &&& Int32.ofNat m).toInt ∧ (x &&& Int32.ofNat m).toInt ≤ m := by
  have h : (x &&& Int32.ofNat m).toInt = (x.toBitVec &&& BitVec.ofNat 32 m).toInt := rfl
  rw [h, BitVec.toInt_eq_toNat_cond, BitVec.toNat_and, BitVec.toNat_ofNat]
  have e : m % 2 ^ 32 = m := Nat.mod_eq_of_lt (by omega)
  rw [e]
  have : x.toBitVec.toNat &&& m ≤ m := Nat.and_le_right
  split <;> omega
theorem own_and255 (x : Int32) : 0 ≤ (x &&& 255).toInt ∧ (x &&& 255).toInt ≤ 255 := own_andm x 255 (by decide)
theorem own_i2c (z : Int32) (h : 0 ≤ z.toInt) (h2 : z.toInt < 65536) : z.toUInt32.toUInt16.toUInt32.toInt32 = z := by
  have e : z.toUInt32.toUInt16.toUInt32 = z.toUInt32 := by
    rw [← UInt32.toNat_inj]
    simp only [UInt16.toNat_toUInt32, UInt32.toNat_toUInt16]
    have := own_nat32 z h
    omega
  rw [e]
  rfl
theorem own_c255 (x : Int32) : (x &&& 255).toUInt32.toUInt16.toUInt32.toInt32 = x &&& 255 := own_i2c _ (own_and255 x).1 (by have := (own_and255 x).2; omega)
theorem own_n255 (x : Int32) : ¬ 255 < (x &&& 255) := by
  rw [Int32.lt_iff_toInt_lt]
  have := (own_and255 x).2
  have e : (255 : Int32).toInt = 255 := by decide
  omega
theorem own_narc255 (x : Int32) : nar .char ((x &&& (255 : Int32)).toUInt32.toUInt16.toUInt32.toInt32) = x &&& 255 := by
  show (x &&& 255).toUInt32.toUInt16.toUInt32.toInt32.toUInt32.toUInt16.toUInt32.toInt32 = _
  rw [own_c255, own_c255]
theorem own_narc {x y : Int32} (h : x &&& 255 = y) : nar .char y = y := by
  subst h
  exact own_c255 x
theorem own_shr0 (x : Int32) : (x >>> ((0 : Int32) &&& 31)) = x := by
  have e : ((0 : Int32) &&& 31) = 0 := by decide
  rw [e]
  show x >>> (0 : Int32) = x
  rw [← Int32.toBitVec_inj, Int32.toBitVec_shiftRight]
  simp
theorem own_z32 : (0 : Int32).toInt = 0 := by decide
theorem pn_java_lang_Enum : plainName "java/lang/Enum" = true := by first | (simp [plainName, overriddenIn]; done) | decide +kernel
theorem ef_rm2 (m : MethodId) (x0 : Addr) : entryFrame m #[(.ref x0)] 1 = mkF m 0 #[.val (.ref x0)] [] := by first | (simp [entryFrame, mkF, argsToLocals, Value.category]; done) | rfl
theorem d2_0 : decode jdk_37_method_2_code 0 = .ok (.aload_n 0, 1) := by decide +kernel
theorem d2_1 : decode jdk_37_method_2_code 1 = .ok (.getfield 7, 3) := by decide +kernel
theorem d2_4 : decode jdk_37_method_2_code 4 = .ok (.ireturn, 1) := by decide +kernel
def Q2 (Z : State) (a1 : Addr) (w1 : Int32) (h0 : Heap) (n0 : Nat) (v : Option Value) (h : Heap) (L : List Loc) : Prop := v = some (.int w1) ∧ Fr n0 L ∧ h = h0
set_option maxRecDepth 65536 in
set_option maxHeartbeats 40000000 in
theorem rm2 (l : Launch) (Z : State) (a0 : Array Value) (hw : ∀ d ∈ tables_1, d.before a0 Z = true) (ws : List Jvm.Cond) (a1 : Addr) (w1 : Int32) (h0 : Heap) (n0 : Nat) (Z0 : n0 ≤ h0.size) (F_o : Fld Z h0 a1 "java/lang/Enum" "ordinal" "I" (.int w1)) :
    OMet l Z (⟨"java/lang/Enum", "ordinal", "()I"⟩ : MethodName) jdk_37_method_2_code 1 (some .int) ws ({ frames := 0, cells := 0, slots := 0, locals := 0 } : Room) #[(.ref a1)] h0 (Q2 Z a1 w1 h0 n0) := by
  refine own_body (plainFor_of_name pn_java_lang_Enum) ?_
  intro p e s m below meth c s₁ Bd hml0 hZ e0
  have hx := Bd.exec
  have hby := Bd.bytes
  have hml : c.maxLocals = 1 := hml0
  have hown : s.vm.findClass "java/lang/Enum" = some m.cls := findClass_of_methodNamed Bd.named
  have hnm := (name_of_methodNamed Bd.named Bd.method).1
  have X0 : Stand p l e ({ frames := 0, cells := 0, slots := 0, locals := 0 } : Room) s m #[(.ref a1)] below meth c s₁ [] 0 0 := Stand.of_body Bd
  have N0 := Fr.nil n0
  have K0 : Keep h0 h0 [] := Keep.refl _ _
  rw [ef_rm2]
  obtain ⟨T101, X101, e101, st101⟩ := getF X0 hx hZ hown (host := "") (Or.inl (hw _ (List.mem_of_getElem? (i := 31) rfl))) Via.refl e0 F_o (g := (mkF m 1 #[.val (.ref a1)] [(.ref a1)])) rfl rfl (hb hby d2_1)
  refine Gl.fin X101 (v := some (.int w1)) (fun h => by rw [Bd.returns] at h; cases h) Bd.notSynchronized ?_ e101 (by decide) (by decide) (fun fs hr => ?_)
  · exact ⟨rfl, N0, rfl⟩
  · show Steps p.tables e below (s₁.setTop (mkF m 0 #[.val (.ref a1)] [])) _
    refine XS.aloadN X0.here hx rfl (hb hby d2_0) rfl rfl ?_
    show Steps p.tables e below (s₁.setTop (mkF m 1 #[.val (.ref a1)] [(.ref a1)])) _
    refine st101 _ ?_
    show Steps p.tables e below (T101.setTop (mkF m 4 #[.val (.ref a1)] [(.int w1)])) _
    exact own_retI X101 hx Bd.returns (hb hby d2_4) hr
theorem pn_com_example_porthcurno_porthcurno_core_SelectorExpression_Relation : plainName "com/example/porthcurno/porthcurno/core/SelectorExpression$Relation" = true := by first | (simp [plainName, overriddenIn]; done) | decide +kernel
theorem ef_rm1_0 (m : MethodId) (x0 : Addr) (x1 : Int32) : entryFrame m #[(.ref x0), (.int x1)] 2 = mkF m 0 #[.val (.ref x0), .val (.int x1)] [] := by first | (simp [entryFrame, mkF, argsToLocals, Value.category]; done) | rfl
theorem d1_0 : decode prog_36_method_5_code 0 = .ok (.aload_n 0, 1) := by decide +kernel
theorem d1_1 : decode prog_36_method_5_code 1 = .ok (.invokevirtual 45, 3) := by decide +kernel
theorem pd___I : parseMethodDescriptor "()I" = some ⟨[], some .int⟩ := by decide +kernel
theorem d1_4 : decode prog_36_method_5_code 4 = .ok (.tableswitch 40 0 5 #[50, 62, 74, 86, 98, 110], 40) := by decide +kernel
theorem d1_54 : decode prog_36_method_5_code 54 = .ok (.iload_n 1, 1) := by decide +kernel
theorem d1_55 : decode prog_36_method_5_code 55 = .ok (.ifCond .ne 7, 3) := by decide +kernel
theorem d1_58 : decode prog_36_method_5_code 58 = .ok (.iconst 1, 1) := by decide +kernel
theorem d1_59 : decode prog_36_method_5_code 59 = .ok (.goto 64, 3) := by decide +kernel
theorem d1_123 : decode prog_36_method_5_code 123 = .ok (.ireturn, 1) := by decide +kernel
theorem d1_62 : decode prog_36_method_5_code 62 = .ok (.iconst 0, 1) := by decide +kernel
theorem d1_63 : decode prog_36_method_5_code 63 = .ok (.goto 60, 3) := by decide +kernel
def Q1_0 (Z : State) (a1 : Addr) (p1 : Int32) (h0 : Heap) (n0 : Nat) (v : Option Value) (h : Heap) (L : List Loc) : Prop := v = some (.int (b2i (decide (p1 = 0)))) ∧ Fr n0 L ∧ h = h0
set_option maxRecDepth 65536 in
set_option maxHeartbeats 40000000 in
theorem rm1_0 (l : Launch) (Z : State) (a0 : Array Value) (hw : ∀ d ∈ tables_1, d.before a0 Z = true) (ws : List Jvm.Cond) (a1 : Addr) (p1 : Int32) (h0 : Heap) (n0 : Nat) (Z0 : n0 ≤ h0.size) (E_a : Exa Z h0 a1 "com/example/porthcurno/porthcurno/core/SelectorExpression$Relation") (F_o : Fld Z h0 a1 "java/lang/Enum" "ordinal" "I" (.int (0 : Int32))) :
    OMet l Z (⟨"com/example/porthcurno/porthcurno/core/SelectorExpression$Relation", "holds", "(I)Z"⟩ : MethodName) prog_36_method_5_code 2 (some .boolean) ws ({ frames := 1, cells := 0, slots := 0, locals := 13 } : Room) #[(.ref a1), (.int p1)] h0 (Q1_0 Z a1 p1 h0 n0) := by
  refine own_body (plainFor_of_name pn_com_example_porthcurno_porthcurno_core_SelectorExpression_Relation) ?_
  intro p e s m below meth c s₁ Bd hml0 hZ e0
  have hx := Bd.exec
  have hby := Bd.bytes
  have hml : c.maxLocals = 2 := hml0
  have hown : s.vm.findClass "com/example/porthcurno/porthcurno/core/SelectorExpression$Relation" = some m.cls := findClass_of_methodNamed Bd.named
  have hnm := (name_of_methodNamed Bd.named Bd.method).1
  have X0 : Stand p l e ({ frames := 1, cells := 0, slots := 0, locals := 13 } : Room) s m #[(.ref a1), (.int p1)] below meth c s₁ [] 0 0 := Stand.of_body Bd
  have N0 := Fr.nil n0
  have K0 : Keep h0 h0 [] := Keep.refl _ _
  rw [ef_rm1_0]
  obtain ⟨v101, T101, L101, X101, q101, st101⟩ := own_callU X0 hx hZ (y := (⟨"com/example/porthcurno/porthcurno/core/SelectorExpression$Relation", "ordinal", "()I"⟩ : MethodName)) (z := (⟨"java/lang/Enum", "ordinal", "()I"⟩ : MethodName)) (owner := "java/lang/Enum") hown (hw _ (List.mem_of_getElem? (i := 24) rfl)) (hw _ (List.mem_of_getElem? (i := 25) rfl)) (hw _ (List.mem_of_getElem? (i := 26) rfl)) (hw _ (List.mem_of_getElem? (i := 28) rfl)) (hw _ (List.mem_of_getElem? (i := 27) rfl)) (hw _ (List.mem_of_getElem? (i := 29) rfl)) (hw _ (List.mem_of_getElem? (i := 30) rfl)) (by decide) E_a (hM := (rm2 l Z a0 hw [] a1 (0 : Int32) h0 n0 Z0 F_o)) (by decide) (by decide) (by decide) (by decide) e0 (argsL := []) (rest := []) (Ls := #[.val (.ref a1), .val (.int p1)]) (by rw [hml]; rfl) (lenOf pd___I rfl) (W := 0) (Nat.le_of_eq rfl) (hb hby d1_1)
  obtain ⟨rfl, N101q, e101⟩ := q101
  have N101 := Fr.app N0 N101q
  refine Gl.pre (S' := T101.setTop (mkF m 55 #[.val (.ref a1), .val (.int p1)] [(.int p1)])) (fun t kt => ?_) ?_
  · show Steps p.tables e below (s₁.setTop (mkF m 0 #[.val (.ref a1), .val (.int p1)] [])) _
    refine XS.aloadN X0.here hx rfl (hb hby d1_0) rfl rfl ?_
    show Steps p.tables e below (s₁.setTop (mkF m 1 #[.val (.ref a1), .val (.int p1)] [(.ref a1)])) _
    refine st101 _ ?_
    show Steps p.tables e below (T101.setTop (mkF m 4 #[.val (.ref a1), .val (.int p1)] [(.int (0 : Int32))])) _
    refine XS.tswIn X101.here hx rfl (pc0 := 4) (pc' := 54) (o := 50) rfl (hb hby d1_4) rfl (by decide) (by decide) (by decide) (by decide) ?_
    show Steps p.tables e below (T101.setTop (mkF m 54 #[.val (.ref a1), .val (.int p1)] [])) _
    refine XS.iloadN X101.here hx rfl (hb hby d1_54) rfl ?_
    exact kt
  by_cases hc55 : p1 = (0 : Int32)
  · refine Gl.fin X101 (v := some (.int (1 : Int32))) (fun h => by rw [Bd.returns] at h; cases h) Bd.notSynchronized ?_ e101 (by decide) (by decide) (fun fs hr => ?_)
    · exact ⟨by simp [b2i, hc55], N101, rfl⟩
    · show Steps p.tables e below (T101.setTop (mkF m 55 #[.val (.ref a1), .val (.int p1)] [(.int p1)])) _
      refine XS.ifNo X101.here hx rfl (hb hby d1_55) rfl (own_nf (i0_ne _) hc55) ?_
      show Steps p.tables e below (T101.setTop (mkF m 58 #[.val (.ref a1), .val (.int p1)] [])) _
      refine XS.iconst X101.here hx rfl (hb hby d1_58) ?_
      show Steps p.tables e below (T101.setTop (mkF m 59 #[.val (.ref a1), .val (.int p1)] [(.int (1 : Int32))])) _
      refine XS.goto X101.here hx rfl (pc0 := 59) (pc' := 123) rfl (hb hby d1_59) (by decide) (by decide) ?_
      show Steps p.tables e below (T101.setTop (mkF m 123 #[.val (.ref a1), .val (.int p1)] [(.int (1 : Int32))])) _
      exact retN X101 hx (t := .boolean) Bd.returns (by simp) (hb hby d1_123) hr
  · refine Gl.fin X101 (v := some (.int (0 : Int32))) (fun h => by rw [Bd.returns] at h; cases h) Bd.notSynchronized ?_ e101 (by decide) (by decide) (fun fs hr => ?_)
    · exact ⟨by simp [b2i, hc55], N101, rfl⟩
    · show Steps p.tables e below (T101.setTop (mkF m 55 #[.val (.ref a1), .val (.int p1)] [(.int p1)])) _
      refine XS.ifYes X101.here hx rfl (pc0 := 55) (pc' := 62) rfl (hb hby d1_55) rfl (own_nt (i0_ne _) hc55) (by decide) (by decide) ?_
      show Steps p.tables e below (T101.setTop (mkF m 62 #[.val (.ref a1), .val (.int p1)] [])) _
      refine XS.iconst X101.here hx rfl (hb hby d1_62) ?_
      show Steps p.tables e below (T101.setTop (mkF m 63 #[.val (.ref a1), .val (.int p1)] [(.int (0 : Int32))])) _
      refine XS.goto X101.here hx rfl (pc0 := 63) (pc' := 123) rfl (hb hby d1_63) (by decide) (by decide) ?_
      show Steps p.tables e below (T101.setTop (mkF m 123 #[.val (.ref a1), .val (.int p1)] [(.int (0 : Int32))])) _
      exact retN X101 hx (t := .boolean) Bd.returns (by simp) (hb hby d1_123) hr
theorem ef_rm1_1 (m : MethodId) (x0 : Addr) (x1 : Int32) : entryFrame m #[(.ref x0), (.int x1)] 2 = mkF m 0 #[.val (.ref x0), .val (.int x1)] [] := by first | (simp [entryFrame, mkF, argsToLocals, Value.category]; done) | rfl
theorem d1_66 : decode prog_36_method_5_code 66 = .ok (.iload_n 1, 1) := by decide +kernel
theorem d1_67 : decode prog_36_method_5_code 67 = .ok (.ifCond .eq 7, 3) := by decide +kernel
theorem d1_74 : decode prog_36_method_5_code 74 = .ok (.iconst 0, 1) := by decide +kernel
theorem d1_75 : decode prog_36_method_5_code 75 = .ok (.goto 48, 3) := by decide +kernel
theorem d1_70 : decode prog_36_method_5_code 70 = .ok (.iconst 1, 1) := by decide +kernel
theorem d1_71 : decode prog_36_method_5_code 71 = .ok (.goto 52, 3) := by decide +kernel
def Q1_1 (Z : State) (a1 : Addr) (p1 : Int32) (h0 : Heap) (n0 : Nat) (v : Option Value) (h : Heap) (L : List Loc) : Prop := v = some (.int (b2i (decide (¬ p1 = 0)))) ∧ Fr n0 L ∧ h = h0
set_option maxRecDepth 65536 in
set_option maxHeartbeats 40000000 in
theorem rm1_1 (l : Launch) (Z : State) (a0 : Array Value) (hw : ∀ d ∈ tables_1, d.before a0 Z = true) (ws : List Jvm.Cond) (a1 : Addr) (p1 : Int32) (h0 : Heap) (n0 : Nat) (Z0 : n0 ≤ h0.size) (E_a : Exa Z h0 a1 "com/example/porthcurno/porthcurno/core/SelectorExpression$Relation") (F_o : Fld Z h0 a1 "java/lang/Enum" "ordinal" "I" (.int (1 : Int32))) :
    OMet l Z (⟨"com/example/porthcurno/porthcurno/core/SelectorExpression$Relation", "holds", "(I)Z"⟩ : MethodName) prog_36_method_5_code 2 (some .boolean) ws ({ frames := 1, cells := 0, slots := 0, locals := 13 } : Room) #[(.ref a1), (.int p1)] h0 (Q1_1 Z a1 p1 h0 n0) := by
  refine own_body (plainFor_of_name pn_com_example_porthcurno_porthcurno_core_SelectorExpression_Relation) ?_
  intro p e s m below meth c s₁ Bd hml0 hZ e0
  have hx := Bd.exec
  have hby := Bd.bytes
  have hml : c.maxLocals = 2 := hml0
  have hown : s.vm.findClass "com/example/porthcurno/porthcurno/core/SelectorExpression$Relation" = some m.cls := findClass_of_methodNamed Bd.named
  have hnm := (name_of_methodNamed Bd.named Bd.method).1
  have X0 : Stand p l e ({ frames := 1, cells := 0, slots := 0, locals := 13 } : Room) s m #[(.ref a1), (.int p1)] below meth c s₁ [] 0 0 := Stand.of_body Bd
  have N0 := Fr.nil n0
  have K0 : Keep h0 h0 [] := Keep.refl _ _
  rw [ef_rm1_1]
  obtain ⟨v101, T101, L101, X101, q101, st101⟩ := own_callU X0 hx hZ (y := (⟨"com/example/porthcurno/porthcurno/core/SelectorExpression$Relation", "ordinal", "()I"⟩ : MethodName)) (z := (⟨"java/lang/Enum", "ordinal", "()I"⟩ : MethodName)) (owner := "java/lang/Enum") hown (hw _ (List.mem_of_getElem? (i := 24) rfl)) (hw _ (List.mem_of_getElem? (i := 25) rfl)) (hw _ (List.mem_of_getElem? (i := 26) rfl)) (hw _ (List.mem_of_getElem? (i := 28) rfl)) (hw _ (List.mem_of_getElem? (i := 27) rfl)) (hw _ (List.mem_of_getElem? (i := 29) rfl)) (hw _ (List.mem_of_getElem? (i := 30) rfl)) (by decide) E_a (hM := (rm2 l Z a0 hw [] a1 (1 : Int32) h0 n0 Z0 F_o)) (by decide) (by decide) (by decide) (by decide) e0 (argsL := []) (rest := []) (Ls := #[.val (.ref a1), .val (.int p1)]) (by rw [hml]; rfl) (lenOf pd___I rfl) (W := 0) (Nat.le_of_eq rfl) (hb hby d1_1)
  obtain ⟨rfl, N101q, e101⟩ := q101
  have N101 := Fr.app N0 N101q
  refine Gl.pre (S' := T101.setTop (mkF m 67 #[.val (.ref a1), .val (.int p1)] [(.int p1)])) (fun t kt => ?_) ?_
  · show Steps p.tables e below (s₁.setTop (mkF m 0 #[.val (.ref a1), .val (.int p1)] [])) _
    refine XS.aloadN X0.here hx rfl (hb hby d1_0) rfl rfl ?_
    show Steps p.tables e below (s₁.setTop (mkF m 1 #[.val (.ref a1), .val (.int p1)] [(.ref a1)])) _
    refine st101 _ ?_
    show Steps p.tables e below (T101.setTop (mkF m 4 #[.val (.ref a1), .val (.int p1)] [(.int (1 : Int32))])) _
    refine XS.tswIn X101.here hx rfl (pc0 := 4) (pc' := 66) (o := 62) rfl (hb hby d1_4) rfl (by decide) (by decide) (by decide) (by decide) ?_
    show Steps p.tables e below (T101.setTop (mkF m 66 #[.val (.ref a1), .val (.int p1)] [])) _
    refine XS.iloadN X101.here hx rfl (hb hby d1_66) rfl ?_
    exact kt
  by_cases hc67 : p1 = (0 : Int32)
  · refine Gl.fin X101 (v := some (.int (0 : Int32))) (fun h => by rw [Bd.returns] at h; cases h) Bd.notSynchronized ?_ e101 (by decide) (by decide) (fun fs hr => ?_)
    · exact ⟨by simp [b2i, hc67], N101, rfl⟩
    · show Steps p.tables e below (T101.setTop (mkF m 67 #[.val (.ref a1), .val (.int p1)] [(.int p1)])) _
      refine XS.ifYes X101.here hx rfl (pc0 := 67) (pc' := 74) rfl (hb hby d1_67) rfl (own_t (i0_eq _) hc67) (by decide) (by decide) ?_
      show Steps p.tables e below (T101.setTop (mkF m 74 #[.val (.ref a1), .val (.int p1)] [])) _
      refine XS.iconst X101.here hx rfl (hb hby d1_74) ?_
      show Steps p.tables e below (T101.setTop (mkF m 75 #[.val (.ref a1), .val (.int p1)] [(.int (0 : Int32))])) _
      refine XS.goto X101.here hx rfl (pc0 := 75) (pc' := 123) rfl (hb hby d1_75) (by decide) (by decide) ?_
      show Steps p.tables e below (T101.setTop (mkF m 123 #[.val (.ref a1), .val (.int p1)] [(.int (0 : Int32))])) _
      exact retN X101 hx (t := .boolean) Bd.returns (by simp) (hb hby d1_123) hr
  · refine Gl.fin X101 (v := some (.int (1 : Int32))) (fun h => by rw [Bd.returns] at h; cases h) Bd.notSynchronized ?_ e101 (by decide) (by decide) (fun fs hr => ?_)
    · exact ⟨by simp [b2i, hc67], N101, rfl⟩
    · show Steps p.tables e below (T101.setTop (mkF m 67 #[.val (.ref a1), .val (.int p1)] [(.int p1)])) _
      refine XS.ifNo X101.here hx rfl (hb hby d1_67) rfl (own_f (i0_eq _) hc67) ?_
      show Steps p.tables e below (T101.setTop (mkF m 70 #[.val (.ref a1), .val (.int p1)] [])) _
      refine XS.iconst X101.here hx rfl (hb hby d1_70) ?_
      show Steps p.tables e below (T101.setTop (mkF m 71 #[.val (.ref a1), .val (.int p1)] [(.int (1 : Int32))])) _
      refine XS.goto X101.here hx rfl (pc0 := 71) (pc' := 123) rfl (hb hby d1_71) (by decide) (by decide) ?_
      show Steps p.tables e below (T101.setTop (mkF m 123 #[.val (.ref a1), .val (.int p1)] [(.int (1 : Int32))])) _
      exact retN X101 hx (t := .boolean) Bd.returns (by simp) (hb hby d1_123) hr
theorem ef_rm1_2 (m : MethodId) (x0 : Addr) (x1 : Int32) : entryFrame m #[(.ref x0), (.int x1)] 2 = mkF m 0 #[.val (.ref x0), .val (.int x1)] [] := by first | (simp [entryFrame, mkF, argsToLocals, Value.category]; done) | rfl
theorem d1_78 : decode prog_36_method_5_code 78 = .ok (.iload_n 1, 1) := by decide +kernel
theorem d1_79 : decode prog_36_method_5_code 79 = .ok (.ifCond .ge 7, 3) := by decide +kernel
theorem d1_82 : decode prog_36_method_5_code 82 = .ok (.iconst 1, 1) := by decide +kernel
theorem d1_83 : decode prog_36_method_5_code 83 = .ok (.goto 40, 3) := by decide +kernel
theorem d1_86 : decode prog_36_method_5_code 86 = .ok (.iconst 0, 1) := by decide +kernel
theorem d1_87 : decode prog_36_method_5_code 87 = .ok (.goto 36, 3) := by decide +kernel
def Q1_2 (Z : State) (a1 : Addr) (p1 : Int32) (h0 : Heap) (n0 : Nat) (v : Option Value) (h : Heap) (L : List Loc) : Prop := v = some (.int (b2i (decide (p1 < 0)))) ∧ Fr n0 L ∧ h = h0
set_option maxRecDepth 65536 in
set_option maxHeartbeats 40000000 in
theorem rm1_2 (l : Launch) (Z : State) (a0 : Array Value) (hw : ∀ d ∈ tables_1, d.before a0 Z = true) (ws : List Jvm.Cond) (a1 : Addr) (p1 : Int32) (h0 : Heap) (n0 : Nat) (Z0 : n0 ≤ h0.size) (E_a : Exa Z h0 a1 "com/example/porthcurno/porthcurno/core/SelectorExpression$Relation") (F_o : Fld Z h0 a1 "java/lang/Enum" "ordinal" "I" (.int (2 : Int32))) :
    OMet l Z (⟨"com/example/porthcurno/porthcurno/core/SelectorExpression$Relation", "holds", "(I)Z"⟩ : MethodName) prog_36_method_5_code 2 (some .boolean) ws ({ frames := 1, cells := 0, slots := 0, locals := 13 } : Room) #[(.ref a1), (.int p1)] h0 (Q1_2 Z a1 p1 h0 n0) := by
  refine own_body (plainFor_of_name pn_com_example_porthcurno_porthcurno_core_SelectorExpression_Relation) ?_
  intro p e s m below meth c s₁ Bd hml0 hZ e0
  have hx := Bd.exec
  have hby := Bd.bytes
  have hml : c.maxLocals = 2 := hml0
  have hown : s.vm.findClass "com/example/porthcurno/porthcurno/core/SelectorExpression$Relation" = some m.cls := findClass_of_methodNamed Bd.named
  have hnm := (name_of_methodNamed Bd.named Bd.method).1
  have X0 : Stand p l e ({ frames := 1, cells := 0, slots := 0, locals := 13 } : Room) s m #[(.ref a1), (.int p1)] below meth c s₁ [] 0 0 := Stand.of_body Bd
  have N0 := Fr.nil n0
  have K0 : Keep h0 h0 [] := Keep.refl _ _
  rw [ef_rm1_2]
  obtain ⟨v101, T101, L101, X101, q101, st101⟩ := own_callU X0 hx hZ (y := (⟨"com/example/porthcurno/porthcurno/core/SelectorExpression$Relation", "ordinal", "()I"⟩ : MethodName)) (z := (⟨"java/lang/Enum", "ordinal", "()I"⟩ : MethodName)) (owner := "java/lang/Enum") hown (hw _ (List.mem_of_getElem? (i := 24) rfl)) (hw _ (List.mem_of_getElem? (i := 25) rfl)) (hw _ (List.mem_of_getElem? (i := 26) rfl)) (hw _ (List.mem_of_getElem? (i := 28) rfl)) (hw _ (List.mem_of_getElem? (i := 27) rfl)) (hw _ (List.mem_of_getElem? (i := 29) rfl)) (hw _ (List.mem_of_getElem? (i := 30) rfl)) (by decide) E_a (hM := (rm2 l Z a0 hw [] a1 (2 : Int32) h0 n0 Z0 F_o)) (by decide) (by decide) (by decide) (by decide) e0 (argsL := []) (rest := []) (Ls := #[.val (.ref a1), .val (.int p1)]) (by rw [hml]; rfl) (lenOf pd___I rfl) (W := 0) (Nat.le_of_eq rfl) (hb hby d1_1)
  obtain ⟨rfl, N101q, e101⟩ := q101
  have N101 := Fr.app N0 N101q
  refine Gl.pre (S' := T101.setTop (mkF m 79 #[.val (.ref a1), .val (.int p1)] [(.int p1)])) (fun t kt => ?_) ?_
  · show Steps p.tables e below (s₁.setTop (mkF m 0 #[.val (.ref a1), .val (.int p1)] [])) _
    refine XS.aloadN X0.here hx rfl (hb hby d1_0) rfl rfl ?_
    show Steps p.tables e below (s₁.setTop (mkF m 1 #[.val (.ref a1), .val (.int p1)] [(.ref a1)])) _
    refine st101 _ ?_
    show Steps p.tables e below (T101.setTop (mkF m 4 #[.val (.ref a1), .val (.int p1)] [(.int (2 : Int32))])) _
    refine XS.tswIn X101.here hx rfl (pc0 := 4) (pc' := 78) (o := 74) rfl (hb hby d1_4) rfl (by decide) (by decide) (by decide) (by decide) ?_
    show Steps p.tables e below (T101.setTop (mkF m 78 #[.val (.ref a1), .val (.int p1)] [])) _
    refine XS.iloadN X101.here hx rfl (hb hby d1_78) rfl ?_
    exact kt
  by_cases hc79 : p1 < (0 : Int32)
  · refine Gl.fin X101 (v := some (.int (1 : Int32))) (fun h => by rw [Bd.returns] at h; cases h) Bd.notSynchronized ?_ e101 (by decide) (by decide) (fun fs hr => ?_)
    · exact ⟨by simp [b2i, hc79], N101, rfl⟩
    · show Steps p.tables e below (T101.setTop (mkF m 79 #[.val (.ref a1), .val (.int p1)] [(.int p1)])) _
      refine XS.ifNo X101.here hx rfl (hb hby d1_79) rfl (own_nf (i0_ge _) hc79) ?_
      show Steps p.tables e below (T101.setTop (mkF m 82 #[.val (.ref a1), .val (.int p1)] [])) _
      refine XS.iconst X101.here hx rfl (hb hby d1_82) ?_
      show Steps p.tables e below (T101.setTop (mkF m 83 #[.val (.ref a1), .val (.int p1)] [(.int (1 : Int32))])) _
      refine XS.goto X101.here hx rfl (pc0 := 83) (pc' := 123) rfl (hb hby d1_83) (by decide) (by decide) ?_
      show Steps p.tables e below (T101.setTop (mkF m 123 #[.val (.ref a1), .val (.int p1)] [(.int (1 : Int32))])) _
      exact retN X101 hx (t := .boolean) Bd.returns (by simp) (hb hby d1_123) hr
  · refine Gl.fin X101 (v := some (.int (0 : Int32))) (fun h => by rw [Bd.returns] at h; cases h) Bd.notSynchronized ?_ e101 (by decide) (by decide) (fun fs hr => ?_)
    · exact ⟨by simp [b2i, hc79], N101, rfl⟩
    · show Steps p.tables e below (T101.setTop (mkF m 79 #[.val (.ref a1), .val (.int p1)] [(.int p1)])) _
      refine XS.ifYes X101.here hx rfl (pc0 := 79) (pc' := 86) rfl (hb hby d1_79) rfl (own_nt (i0_ge _) hc79) (by decide) (by decide) ?_
      show Steps p.tables e below (T101.setTop (mkF m 86 #[.val (.ref a1), .val (.int p1)] [])) _
      refine XS.iconst X101.here hx rfl (hb hby d1_86) ?_
      show Steps p.tables e below (T101.setTop (mkF m 87 #[.val (.ref a1), .val (.int p1)] [(.int (0 : Int32))])) _
      refine XS.goto X101.here hx rfl (pc0 := 87) (pc' := 123) rfl (hb hby d1_87) (by decide) (by decide) ?_
      show Steps p.tables e below (T101.setTop (mkF m 123 #[.val (.ref a1), .val (.int p1)] [(.int (0 : Int32))])) _
      exact retN X101 hx (t := .boolean) Bd.returns (by simp) (hb hby d1_123) hr
theorem ef_rm1_3 (m : MethodId) (x0 : Addr) (x1 : Int32) : entryFrame m #[(.ref x0), (.int x1)] 2 = mkF m 0 #[.val (.ref x0), .val (.int x1)] [] := by first | (simp [entryFrame, mkF, argsToLocals, Value.category]; done) | rfl
theorem d1_90 : decode prog_36_method_5_code 90 = .ok (.iload_n 1, 1) := by decide +kernel
theorem d1_91 : decode prog_36_method_5_code 91 = .ok (.ifCond .gt 7, 3) := by decide +kernel
theorem d1_98 : decode prog_36_method_5_code 98 = .ok (.iconst 0, 1) := by decide +kernel
theorem d1_99 : decode prog_36_method_5_code 99 = .ok (.goto 24, 3) := by decide +kernel
theorem d1_94 : decode prog_36_method_5_code 94 = .ok (.iconst 1, 1) := by decide +kernel
theorem d1_95 : decode prog_36_method_5_code 95 = .ok (.goto 28, 3) := by decide +kernel
def Q1_3 (Z : State) (a1 : Addr) (p1 : Int32) (h0 : Heap) (n0 : Nat) (v : Option Value) (h : Heap) (L : List Loc) : Prop := v = some (.int (b2i (decide (¬ 0 < p1)))) ∧ Fr n0 L ∧ h = h0
set_option maxRecDepth 65536 in
set_option maxHeartbeats 40000000 in
theorem rm1_3 (l : Launch) (Z : State) (a0 : Array Value) (hw : ∀ d ∈ tables_1, d.before a0 Z = true) (ws : List Jvm.Cond) (a1 : Addr) (p1 : Int32) (h0 : Heap) (n0 : Nat) (Z0 : n0 ≤ h0.size) (E_a : Exa Z h0 a1 "com/example/porthcurno/porthcurno/core/SelectorExpression$Relation") (F_o : Fld Z h0 a1 "java/lang/Enum" "ordinal" "I" (.int (3 : Int32))) :
    OMet l Z (⟨"com/example/porthcurno/porthcurno/core/SelectorExpression$Relation", "holds", "(I)Z"⟩ : MethodName) prog_36_method_5_code 2 (some .boolean) ws ({ frames := 1, cells := 0, slots := 0, locals := 13 } : Room) #[(.ref a1), (.int p1)] h0 (Q1_3 Z a1 p1 h0 n0) := by
  refine own_body (plainFor_of_name pn_com_example_porthcurno_porthcurno_core_SelectorExpression_Relation) ?_
  intro p e s m below meth c s₁ Bd hml0 hZ e0
  have hx := Bd.exec
  have hby := Bd.bytes
  have hml : c.maxLocals = 2 := hml0
  have hown : s.vm.findClass "com/example/porthcurno/porthcurno/core/SelectorExpression$Relation" = some m.cls := findClass_of_methodNamed Bd.named
  have hnm := (name_of_methodNamed Bd.named Bd.method).1
  have X0 : Stand p l e ({ frames := 1, cells := 0, slots := 0, locals := 13 } : Room) s m #[(.ref a1), (.int p1)] below meth c s₁ [] 0 0 := Stand.of_body Bd
  have N0 := Fr.nil n0
  have K0 : Keep h0 h0 [] := Keep.refl _ _
  rw [ef_rm1_3]
  obtain ⟨v101, T101, L101, X101, q101, st101⟩ := own_callU X0 hx hZ (y := (⟨"com/example/porthcurno/porthcurno/core/SelectorExpression$Relation", "ordinal", "()I"⟩ : MethodName)) (z := (⟨"java/lang/Enum", "ordinal", "()I"⟩ : MethodName)) (owner := "java/lang/Enum") hown (hw _ (List.mem_of_getElem? (i := 24) rfl)) (hw _ (List.mem_of_getElem? (i := 25) rfl)) (hw _ (List.mem_of_getElem? (i := 26) rfl)) (hw _ (List.mem_of_getElem? (i := 28) rfl)) (hw _ (List.mem_of_getElem? (i := 27) rfl)) (hw _ (List.mem_of_getElem? (i := 29) rfl)) (hw _ (List.mem_of_getElem? (i := 30) rfl)) (by decide) E_a (hM := (rm2 l Z a0 hw [] a1 (3 : Int32) h0 n0 Z0 F_o)) (by decide) (by decide) (by decide) (by decide) e0 (argsL := []) (rest := []) (Ls := #[.val (.ref a1), .val (.int p1)]) (by rw [hml]; rfl) (lenOf pd___I rfl) (W := 0) (Nat.le_of_eq rfl) (hb hby d1_1)
  obtain ⟨rfl, N101q, e101⟩ := q101
  have N101 := Fr.app N0 N101q
  refine Gl.pre (S' := T101.setTop (mkF m 91 #[.val (.ref a1), .val (.int p1)] [(.int p1)])) (fun t kt => ?_) ?_
  · show Steps p.tables e below (s₁.setTop (mkF m 0 #[.val (.ref a1), .val (.int p1)] [])) _
    refine XS.aloadN X0.here hx rfl (hb hby d1_0) rfl rfl ?_
    show Steps p.tables e below (s₁.setTop (mkF m 1 #[.val (.ref a1), .val (.int p1)] [(.ref a1)])) _
    refine st101 _ ?_
    show Steps p.tables e below (T101.setTop (mkF m 4 #[.val (.ref a1), .val (.int p1)] [(.int (3 : Int32))])) _
    refine XS.tswIn X101.here hx rfl (pc0 := 4) (pc' := 90) (o := 86) rfl (hb hby d1_4) rfl (by decide) (by decide) (by decide) (by decide) ?_
    show Steps p.tables e below (T101.setTop (mkF m 90 #[.val (.ref a1), .val (.int p1)] [])) _
    refine XS.iloadN X101.here hx rfl (hb hby d1_90) rfl ?_
    exact kt
  by_cases hc91 : (0 : Int32) < p1
  · refine Gl.fin X101 (v := some (.int (0 : Int32))) (fun h => by rw [Bd.returns] at h; cases h) Bd.notSynchronized ?_ e101 (by decide) (by decide) (fun fs hr => ?_)
    · exact ⟨by simp [b2i, hc91], N101, rfl⟩
    · show Steps p.tables e below (T101.setTop (mkF m 91 #[.val (.ref a1), .val (.int p1)] [(.int p1)])) _
      refine XS.ifYes X101.here hx rfl (pc0 := 91) (pc' := 98) rfl (hb hby d1_91) rfl (own_t (i0_gt _) hc91) (by decide) (by decide) ?_
      show Steps p.tables e below (T101.setTop (mkF m 98 #[.val (.ref a1), .val (.int p1)] [])) _
      refine XS.iconst X101.here hx rfl (hb hby d1_98) ?_
      show Steps p.tables e below (T101.setTop (mkF m 99 #[.val (.ref a1), .val (.int p1)] [(.int (0 : Int32))])) _
      refine XS.goto X101.here hx rfl (pc0 := 99) (pc' := 123) rfl (hb hby d1_99) (by decide) (by decide) ?_
      show Steps p.tables e below (T101.setTop (mkF m 123 #[.val (.ref a1), .val (.int p1)] [(.int (0 : Int32))])) _
      exact retN X101 hx (t := .boolean) Bd.returns (by simp) (hb hby d1_123) hr
  · refine Gl.fin X101 (v := some (.int (1 : Int32))) (fun h => by rw [Bd.returns] at h; cases h) Bd.notSynchronized ?_ e101 (by decide) (by decide) (fun fs hr => ?_)
    · exact ⟨by simp [b2i, hc91], N101, rfl⟩
    · show Steps p.tables e below (T101.setTop (mkF m 91 #[.val (.ref a1), .val (.int p1)] [(.int p1)])) _
      refine XS.ifNo X101.here hx rfl (hb hby d1_91) rfl (own_f (i0_gt _) hc91) ?_
      show Steps p.tables e below (T101.setTop (mkF m 94 #[.val (.ref a1), .val (.int p1)] [])) _
      refine XS.iconst X101.here hx rfl (hb hby d1_94) ?_
      show Steps p.tables e below (T101.setTop (mkF m 95 #[.val (.ref a1), .val (.int p1)] [(.int (1 : Int32))])) _
      refine XS.goto X101.here hx rfl (pc0 := 95) (pc' := 123) rfl (hb hby d1_95) (by decide) (by decide) ?_
      show Steps p.tables e below (T101.setTop (mkF m 123 #[.val (.ref a1), .val (.int p1)] [(.int (1 : Int32))])) _
      exact retN X101 hx (t := .boolean) Bd.returns (by simp) (hb hby d1_123) hr
theorem ef_rm1_4 (m : MethodId) (x0 : Addr) (x1 : Int32) : entryFrame m #[(.ref x0), (.int x1)] 2 = mkF m 0 #[.val (.ref x0), .val (.int x1)] [] := by first | (simp [entryFrame, mkF, argsToLocals, Value.category]; done) | rfl
theorem d1_102 : decode prog_36_method_5_code 102 = .ok (.iload_n 1, 1) := by decide +kernel
theorem d1_103 : decode prog_36_method_5_code 103 = .ok (.ifCond .le 7, 3) := by decide +kernel
theorem d1_106 : decode prog_36_method_5_code 106 = .ok (.iconst 1, 1) := by decide +kernel
theorem d1_107 : decode prog_36_method_5_code 107 = .ok (.goto 16, 3) := by decide +kernel
theorem d1_110 : decode prog_36_method_5_code 110 = .ok (.iconst 0, 1) := by decide +kernel
theorem d1_111 : decode prog_36_method_5_code 111 = .ok (.goto 12, 3) := by decide +kernel
def Q1_4 (Z : State) (a1 : Addr) (p1 : Int32) (h0 : Heap) (n0 : Nat) (v : Option Value) (h : Heap) (L : List Loc) : Prop := v = some (.int (b2i (decide (0 < p1)))) ∧ Fr n0 L ∧ h = h0
set_option maxRecDepth 65536 in
set_option maxHeartbeats 40000000 in
theorem rm1_4 (l : Launch) (Z : State) (a0 : Array Value) (hw : ∀ d ∈ tables_1, d.before a0 Z = true) (ws : List Jvm.Cond) (a1 : Addr) (p1 : Int32) (h0 : Heap) (n0 : Nat) (Z0 : n0 ≤ h0.size) (E_a : Exa Z h0 a1 "com/example/porthcurno/porthcurno/core/SelectorExpression$Relation") (F_o : Fld Z h0 a1 "java/lang/Enum" "ordinal" "I" (.int (4 : Int32))) :
    OMet l Z (⟨"com/example/porthcurno/porthcurno/core/SelectorExpression$Relation", "holds", "(I)Z"⟩ : MethodName) prog_36_method_5_code 2 (some .boolean) ws ({ frames := 1, cells := 0, slots := 0, locals := 13 } : Room) #[(.ref a1), (.int p1)] h0 (Q1_4 Z a1 p1 h0 n0) := by
  refine own_body (plainFor_of_name pn_com_example_porthcurno_porthcurno_core_SelectorExpression_Relation) ?_
  intro p e s m below meth c s₁ Bd hml0 hZ e0
  have hx := Bd.exec
  have hby := Bd.bytes
  have hml : c.maxLocals = 2 := hml0
  have hown : s.vm.findClass "com/example/porthcurno/porthcurno/core/SelectorExpression$Relation" = some m.cls := findClass_of_methodNamed Bd.named
  have hnm := (name_of_methodNamed Bd.named Bd.method).1
  have X0 : Stand p l e ({ frames := 1, cells := 0, slots := 0, locals := 13 } : Room) s m #[(.ref a1), (.int p1)] below meth c s₁ [] 0 0 := Stand.of_body Bd
  have N0 := Fr.nil n0
  have K0 : Keep h0 h0 [] := Keep.refl _ _
  rw [ef_rm1_4]
  obtain ⟨v101, T101, L101, X101, q101, st101⟩ := own_callU X0 hx hZ (y := (⟨"com/example/porthcurno/porthcurno/core/SelectorExpression$Relation", "ordinal", "()I"⟩ : MethodName)) (z := (⟨"java/lang/Enum", "ordinal", "()I"⟩ : MethodName)) (owner := "java/lang/Enum") hown (hw _ (List.mem_of_getElem? (i := 24) rfl)) (hw _ (List.mem_of_getElem? (i := 25) rfl)) (hw _ (List.mem_of_getElem? (i := 26) rfl)) (hw _ (List.mem_of_getElem? (i := 28) rfl)) (hw _ (List.mem_of_getElem? (i := 27) rfl)) (hw _ (List.mem_of_getElem? (i := 29) rfl)) (hw _ (List.mem_of_getElem? (i := 30) rfl)) (by decide) E_a (hM := (rm2 l Z a0 hw [] a1 (4 : Int32) h0 n0 Z0 F_o)) (by decide) (by decide) (by decide) (by decide) e0 (argsL := []) (rest := []) (Ls := #[.val (.ref a1), .val (.int p1)]) (by rw [hml]; rfl) (lenOf pd___I rfl) (W := 0) (Nat.le_of_eq rfl) (hb hby d1_1)
  obtain ⟨rfl, N101q, e101⟩ := q101
  have N101 := Fr.app N0 N101q
  refine Gl.pre (S' := T101.setTop (mkF m 103 #[.val (.ref a1), .val (.int p1)] [(.int p1)])) (fun t kt => ?_) ?_
  · show Steps p.tables e below (s₁.setTop (mkF m 0 #[.val (.ref a1), .val (.int p1)] [])) _
    refine XS.aloadN X0.here hx rfl (hb hby d1_0) rfl rfl ?_
    show Steps p.tables e below (s₁.setTop (mkF m 1 #[.val (.ref a1), .val (.int p1)] [(.ref a1)])) _
    refine st101 _ ?_
    show Steps p.tables e below (T101.setTop (mkF m 4 #[.val (.ref a1), .val (.int p1)] [(.int (4 : Int32))])) _
    refine XS.tswIn X101.here hx rfl (pc0 := 4) (pc' := 102) (o := 98) rfl (hb hby d1_4) rfl (by decide) (by decide) (by decide) (by decide) ?_
    show Steps p.tables e below (T101.setTop (mkF m 102 #[.val (.ref a1), .val (.int p1)] [])) _
    refine XS.iloadN X101.here hx rfl (hb hby d1_102) rfl ?_
    exact kt
  by_cases hc103 : (0 : Int32) < p1
  · refine Gl.fin X101 (v := some (.int (1 : Int32))) (fun h => by rw [Bd.returns] at h; cases h) Bd.notSynchronized ?_ e101 (by decide) (by decide) (fun fs hr => ?_)
    · exact ⟨by simp [b2i, hc103], N101, rfl⟩
    · show Steps p.tables e below (T101.setTop (mkF m 103 #[.val (.ref a1), .val (.int p1)] [(.int p1)])) _
      refine XS.ifNo X101.here hx rfl (hb hby d1_103) rfl (own_nf (i0_le _) hc103) ?_
      show Steps p.tables e below (T101.setTop (mkF m 106 #[.val (.ref a1), .val (.int p1)] [])) _
      refine XS.iconst X101.here hx rfl (hb hby d1_106) ?_
      show Steps p.tables e below (T101.setTop (mkF m 107 #[.val (.ref a1), .val (.int p1)] [(.int (1 : Int32))])) _
      refine XS.goto X101.here hx rfl (pc0 := 107) (pc' := 123) rfl (hb hby d1_107) (by decide) (by decide) ?_
      show Steps p.tables e below (T101.setTop (mkF m 123 #[.val (.ref a1), .val (.int p1)] [(.int (1 : Int32))])) _
      exact retN X101 hx (t := .boolean) Bd.returns (by simp) (hb hby d1_123) hr
  · refine Gl.fin X101 (v := some (.int (0 : Int32))) (fun h => by rw [Bd.returns] at h; cases h) Bd.notSynchronized ?_ e101 (by decide) (by decide) (fun fs hr => ?_)
    · exact ⟨by simp [b2i, hc103], N101, rfl⟩
    · show Steps p.tables e below (T101.setTop (mkF m 103 #[.val (.ref a1), .val (.int p1)] [(.int p1)])) _
      refine XS.ifYes X101.here hx rfl (pc0 := 103) (pc' := 110) rfl (hb hby d1_103) rfl (own_nt (i0_le _) hc103) (by decide) (by decide) ?_
      show Steps p.tables e below (T101.setTop (mkF m 110 #[.val (.ref a1), .val (.int p1)] [])) _
      refine XS.iconst X101.here hx rfl (hb hby d1_110) ?_
      show Steps p.tables e below (T101.setTop (mkF m 111 #[.val (.ref a1), .val (.int p1)] [(.int (0 : Int32))])) _
      refine XS.goto X101.here hx rfl (pc0 := 111) (pc' := 123) rfl (hb hby d1_111) (by decide) (by decide) ?_
      show Steps p.tables e below (T101.setTop (mkF m 123 #[.val (.ref a1), .val (.int p1)] [(.int (0 : Int32))])) _
      exact retN X101 hx (t := .boolean) Bd.returns (by simp) (hb hby d1_123) hr
theorem ef_rm1_5 (m : MethodId) (x0 : Addr) (x1 : Int32) : entryFrame m #[(.ref x0), (.int x1)] 2 = mkF m 0 #[.val (.ref x0), .val (.int x1)] [] := by first | (simp [entryFrame, mkF, argsToLocals, Value.category]; done) | rfl
theorem d1_114 : decode prog_36_method_5_code 114 = .ok (.iload_n 1, 1) := by decide +kernel
theorem d1_115 : decode prog_36_method_5_code 115 = .ok (.ifCond .lt 7, 3) := by decide +kernel
theorem d1_122 : decode prog_36_method_5_code 122 = .ok (.iconst 0, 1) := by decide +kernel
theorem d1_118 : decode prog_36_method_5_code 118 = .ok (.iconst 1, 1) := by decide +kernel
theorem d1_119 : decode prog_36_method_5_code 119 = .ok (.goto 4, 3) := by decide +kernel
def Q1_5 (Z : State) (a1 : Addr) (p1 : Int32) (h0 : Heap) (n0 : Nat) (v : Option Value) (h : Heap) (L : List Loc) : Prop := v = some (.int (b2i (decide (¬ p1 < 0)))) ∧ Fr n0 L ∧ h = h0
set_option maxRecDepth 65536 in
set_option maxHeartbeats 40000000 in
theorem rm1_5 (l : Launch) (Z : State) (a0 : Array Value) (hw : ∀ d ∈ tables_1, d.before a0 Z = true) (ws : List Jvm.Cond) (a1 : Addr) (p1 : Int32) (h0 : Heap) (n0 : Nat) (Z0 : n0 ≤ h0.size) (E_a : Exa Z h0 a1 "com/example/porthcurno/porthcurno/core/SelectorExpression$Relation") (F_o : Fld Z h0 a1 "java/lang/Enum" "ordinal" "I" (.int (5 : Int32))) :
    OMet l Z (⟨"com/example/porthcurno/porthcurno/core/SelectorExpression$Relation", "holds", "(I)Z"⟩ : MethodName) prog_36_method_5_code 2 (some .boolean) ws ({ frames := 1, cells := 0, slots := 0, locals := 13 } : Room) #[(.ref a1), (.int p1)] h0 (Q1_5 Z a1 p1 h0 n0) := by
  refine own_body (plainFor_of_name pn_com_example_porthcurno_porthcurno_core_SelectorExpression_Relation) ?_
  intro p e s m below meth c s₁ Bd hml0 hZ e0
  have hx := Bd.exec
  have hby := Bd.bytes
  have hml : c.maxLocals = 2 := hml0
  have hown : s.vm.findClass "com/example/porthcurno/porthcurno/core/SelectorExpression$Relation" = some m.cls := findClass_of_methodNamed Bd.named
  have hnm := (name_of_methodNamed Bd.named Bd.method).1
  have X0 : Stand p l e ({ frames := 1, cells := 0, slots := 0, locals := 13 } : Room) s m #[(.ref a1), (.int p1)] below meth c s₁ [] 0 0 := Stand.of_body Bd
  have N0 := Fr.nil n0
  have K0 : Keep h0 h0 [] := Keep.refl _ _
  rw [ef_rm1_5]
  obtain ⟨v101, T101, L101, X101, q101, st101⟩ := own_callU X0 hx hZ (y := (⟨"com/example/porthcurno/porthcurno/core/SelectorExpression$Relation", "ordinal", "()I"⟩ : MethodName)) (z := (⟨"java/lang/Enum", "ordinal", "()I"⟩ : MethodName)) (owner := "java/lang/Enum") hown (hw _ (List.mem_of_getElem? (i := 24) rfl)) (hw _ (List.mem_of_getElem? (i := 25) rfl)) (hw _ (List.mem_of_getElem? (i := 26) rfl)) (hw _ (List.mem_of_getElem? (i := 28) rfl)) (hw _ (List.mem_of_getElem? (i := 27) rfl)) (hw _ (List.mem_of_getElem? (i := 29) rfl)) (hw _ (List.mem_of_getElem? (i := 30) rfl)) (by decide) E_a (hM := (rm2 l Z a0 hw [] a1 (5 : Int32) h0 n0 Z0 F_o)) (by decide) (by decide) (by decide) (by decide) e0 (argsL := []) (rest := []) (Ls := #[.val (.ref a1), .val (.int p1)]) (by rw [hml]; rfl) (lenOf pd___I rfl) (W := 0) (Nat.le_of_eq rfl) (hb hby d1_1)
  obtain ⟨rfl, N101q, e101⟩ := q101
  have N101 := Fr.app N0 N101q
  refine Gl.pre (S' := T101.setTop (mkF m 115 #[.val (.ref a1), .val (.int p1)] [(.int p1)])) (fun t kt => ?_) ?_
  · show Steps p.tables e below (s₁.setTop (mkF m 0 #[.val (.ref a1), .val (.int p1)] [])) _
    refine XS.aloadN X0.here hx rfl (hb hby d1_0) rfl rfl ?_
    show Steps p.tables e below (s₁.setTop (mkF m 1 #[.val (.ref a1), .val (.int p1)] [(.ref a1)])) _
    refine st101 _ ?_
    show Steps p.tables e below (T101.setTop (mkF m 4 #[.val (.ref a1), .val (.int p1)] [(.int (5 : Int32))])) _
    refine XS.tswIn X101.here hx rfl (pc0 := 4) (pc' := 114) (o := 110) rfl (hb hby d1_4) rfl (by decide) (by decide) (by decide) (by decide) ?_
    show Steps p.tables e below (T101.setTop (mkF m 114 #[.val (.ref a1), .val (.int p1)] [])) _
    refine XS.iloadN X101.here hx rfl (hb hby d1_114) rfl ?_
    exact kt
  by_cases hc115 : p1 < (0 : Int32)
  · refine Gl.fin X101 (v := some (.int (0 : Int32))) (fun h => by rw [Bd.returns] at h; cases h) Bd.notSynchronized ?_ e101 (by decide) (by decide) (fun fs hr => ?_)
    · exact ⟨by simp [b2i, hc115], N101, rfl⟩
    · show Steps p.tables e below (T101.setTop (mkF m 115 #[.val (.ref a1), .val (.int p1)] [(.int p1)])) _
      refine XS.ifYes X101.here hx rfl (pc0 := 115) (pc' := 122) rfl (hb hby d1_115) rfl (own_t (i0_lt _) hc115) (by decide) (by decide) ?_
      show Steps p.tables e below (T101.setTop (mkF m 122 #[.val (.ref a1), .val (.int p1)] [])) _
      refine XS.iconst X101.here hx rfl (hb hby d1_122) ?_
      show Steps p.tables e below (T101.setTop (mkF m 123 #[.val (.ref a1), .val (.int p1)] [(.int (0 : Int32))])) _
      exact retN X101 hx (t := .boolean) Bd.returns (by simp) (hb hby d1_123) hr
  · refine Gl.fin X101 (v := some (.int (1 : Int32))) (fun h => by rw [Bd.returns] at h; cases h) Bd.notSynchronized ?_ e101 (by decide) (by decide) (fun fs hr => ?_)
    · exact ⟨by simp [b2i, hc115], N101, rfl⟩
    · show Steps p.tables e below (T101.setTop (mkF m 115 #[.val (.ref a1), .val (.int p1)] [(.int p1)])) _
      refine XS.ifNo X101.here hx rfl (hb hby d1_115) rfl (own_f (i0_lt _) hc115) ?_
      show Steps p.tables e below (T101.setTop (mkF m 118 #[.val (.ref a1), .val (.int p1)] [])) _
      refine XS.iconst X101.here hx rfl (hb hby d1_118) ?_
      show Steps p.tables e below (T101.setTop (mkF m 119 #[.val (.ref a1), .val (.int p1)] [(.int (1 : Int32))])) _
      refine XS.goto X101.here hx rfl (pc0 := 119) (pc' := 123) rfl (hb hby d1_119) (by decide) (by decide) ?_
      show Steps p.tables e below (T101.setTop (mkF m 123 #[.val (.ref a1), .val (.int p1)] [(.int (1 : Int32))])) _
      exact retN X101 hx (t := .boolean) Bd.returns (by simp) (hb hby d1_123) hr
theorem pn_jdk_internal_util_Preconditions : plainName "jdk/internal/util/Preconditions" = true := by first | (simp [plainName, overriddenIn]; done) | decide +kernel
theorem ef_rm8z (m : MethodId) (x0 : Int32) (x1 : Int32) : entryFrame m #[(.int x0), (.int x1), .null] 3 = mkF m 0 #[.val (.int x0), .val (.int x1), .val .null] [] := by first | (simp [entryFrame, mkF, argsToLocals, Value.category]; done) | rfl
theorem d8_0 : decode jdk_41_method_11_code 0 = .ok (.iload_n 0, 1) := by decide +kernel
theorem d8_1 : decode jdk_41_method_11_code 1 = .ok (.ifCond .lt 8, 3) := by decide +kernel
theorem d8_4 : decode jdk_41_method_11_code 4 = .ok (.iload_n 0, 1) := by decide +kernel
theorem d8_5 : decode jdk_41_method_11_code 5 = .ok (.iload_n 1, 1) := by decide +kernel
theorem d8_6 : decode jdk_41_method_11_code 6 = .ok (.if_icmp .lt 10, 3) := by decide +kernel
theorem d8_16 : decode jdk_41_method_11_code 16 = .ok (.iload_n 0, 1) := by decide +kernel
theorem d8_17 : decode jdk_41_method_11_code 17 = .ok (.ireturn, 1) := by decide +kernel
def Q8z (Z : State) (p1 : Int32) (p2 : Int32) (h0 : Heap) (n0 : Nat) (v : Option Value) (h : Heap) (L : List Loc) : Prop := v = some (.int p1) ∧ Fr n0 L ∧ h = h0
set_option maxRecDepth 65536 in
set_option maxHeartbeats 40000000 in
theorem rm8z (l : Launch) (Z : State) (a0 : Array Value) (hw : ∀ d ∈ tables_1, d.before a0 Z = true) (ws : List Jvm.Cond) (p1 : Int32) (p2 : Int32) (h0 : Heap) (n0 : Nat) (Z0 : n0 ≤ h0.size) (hlo : ¬ p1 < 0) (hhi : p1 < p2) :
    OMet l Z (⟨"jdk/internal/util/Preconditions", "checkIndex", "(IILjava/util/function/BiFunction;)I"⟩ : MethodName) jdk_41_method_11_code 3 (some .int) ws ({ frames := 0, cells := 0, slots := 0, locals := 0 } : Room) #[(.int p1), (.int p2), .null] h0 (Q8z Z p1 p2 h0 n0) := by
  refine own_body (plainFor_of_name pn_jdk_internal_util_Preconditions) ?_
  intro p e s m below meth c s₁ Bd hml0 hZ e0
  have hx := Bd.exec
  have hby := Bd.bytes
  have hml : c.maxLocals = 3 := hml0
  have hown : s.vm.findClass "jdk/internal/util/Preconditions" = some m.cls := findClass_of_methodNamed Bd.named
  have hnm := (name_of_methodNamed Bd.named Bd.method).1
  have X0 : Stand p l e ({ frames := 0, cells := 0, slots := 0, locals := 0 } : Room) s m #[(.int p1), (.int p2), .null] below meth c s₁ [] 0 0 := Stand.of_body Bd
  have N0 := Fr.nil n0
  have K0 : Keep h0 h0 [] := Keep.refl _ _
  rw [ef_rm8z]
  refine Gl.fin X0 (v := some (.int p1)) (fun h => by rw [Bd.returns] at h; cases h) Bd.notSynchronized ?_ e0 (by decide) (by decide) (fun fs hr => ?_)
  · exact ⟨rfl, N0, rfl⟩
  · show Steps p.tables e below (s₁.setTop (mkF m 0 #[.val (.int p1), .val (.int p2), .val .null] [])) _
    refine XS.iloadN X0.here hx rfl (hb hby d8_0) rfl ?_
    show Steps p.tables e below (s₁.setTop (mkF m 1 #[.val (.int p1), .val (.int p2), .val .null] [(.int p1)])) _
    refine XS.ifNo X0.here hx rfl (hb hby d8_1) rfl (own_f (i0_lt _) hlo) ?_
    show Steps p.tables e below (s₁.setTop (mkF m 4 #[.val (.int p1), .val (.int p2), .val .null] [])) _
    refine XS.iloadN X0.here hx rfl (hb hby d8_4) rfl ?_
    show Steps p.tables e below (s₁.setTop (mkF m 5 #[.val (.int p1), .val (.int p2), .val .null] [(.int p1)])) _
    refine XS.iloadN X0.here hx rfl (hb hby d8_5) rfl ?_
    show Steps p.tables e below (s₁.setTop (mkF m 6 #[.val (.int p1), .val (.int p2), .val .null] [(.int p2), (.int p1)])) _
    refine XS.icmpYes X0.here hx rfl (pc0 := 6) (pc' := 16) rfl (hb hby d8_6) rfl (own_t (ic_lt _ _) hhi) (by decide) (by decide) ?_
    show Steps p.tables e below (s₁.setTop (mkF m 16 #[.val (.int p1), .val (.int p2), .val .null] [])) _
    refine XS.iloadN X0.here hx rfl (hb hby d8_16) rfl ?_
    show Steps p.tables e below (s₁.setTop (mkF m 17 #[.val (.int p1), .val (.int p2), .val .null] [(.int p1)])) _
    exact own_retI X0 hx Bd.returns (hb hby d8_17) hr
theorem ef_rm8r (m : MethodId) (x0 : Int32) (x1 : Int32) (x2 : Addr) : entryFrame m #[(.int x0), (.int x1), (.ref x2)] 3 = mkF m 0 #[.val (.int x0), .val (.int x1), .val (.ref x2)] [] := by first | (simp [entryFrame, mkF, argsToLocals, Value.category]; done) | rfl
def Q8r (Z : State) (p1 : Int32) (p2 : Int32) (g3 : Addr) (h0 : Heap) (n0 : Nat) (v : Option Value) (h : Heap) (L : List Loc) : Prop := v = some (.int p1) ∧ Fr n0 L ∧ h = h0
set_option maxRecDepth 65536 in
set_option maxHeartbeats 40000000 in
theorem rm8r (l : Launch) (Z : State) (a0 : Array Value) (hw : ∀ d ∈ tables_1, d.before a0 Z = true) (ws : List Jvm.Cond) (p1 : Int32) (p2 : Int32) (g3 : Addr) (h0 : Heap) (n0 : Nat) (Z0 : n0 ≤ h0.size) (hlo : ¬ p1 < 0) (hhi : p1 < p2) :
    OMet l Z (⟨"jdk/internal/util/Preconditions", "checkIndex", "(IILjava/util/function/BiFunction;)I"⟩ : MethodName) jdk_41_method_11_code 3 (some .int) ws ({ frames := 0, cells := 0, slots := 0, locals := 0 } : Room) #[(.int p1), (.int p2), (.ref g3)] h0 (Q8r Z p1 p2 g3 h0 n0) := by
  refine own_body (plainFor_of_name pn_jdk_internal_util_Preconditions) ?_
  intro p e s m below meth c s₁ Bd hml0 hZ e0
  have hx := Bd.exec
  have hby := Bd.bytes
  have hml : c.maxLocals = 3 := hml0
  have hown : s.vm.findClass "jdk/internal/util/Preconditions" = some m.cls := findClass_of_methodNamed Bd.named
  have hnm := (name_of_methodNamed Bd.named Bd.method).1
  have X0 : Stand p l e ({ frames := 0, cells := 0, slots := 0, locals := 0 } : Room) s m #[(.int p1), (.int p2), (.ref g3)] below meth c s₁ [] 0 0 := Stand.of_body Bd
  have N0 := Fr.nil n0
  have K0 : Keep h0 h0 [] := Keep.refl _ _
  rw [ef_rm8r]
  refine Gl.fin X0 (v := some (.int p1)) (fun h => by rw [Bd.returns] at h; cases h) Bd.notSynchronized ?_ e0 (by decide) (by decide) (fun fs hr => ?_)
  · exact ⟨rfl, N0, rfl⟩
  · show Steps p.tables e below (s₁.setTop (mkF m 0 #[.val (.int p1), .val (.int p2), .val (.ref g3)] [])) _
    refine XS.iloadN X0.here hx rfl (hb hby d8_0) rfl ?_
    show Steps p.tables e below (s₁.setTop (mkF m 1 #[.val (.int p1), .val (.int p2), .val (.ref g3)] [(.int p1)])) _
    refine XS.ifNo X0.here hx rfl (hb hby d8_1) rfl (own_f (i0_lt _) hlo) ?_
    show Steps p.tables e below (s₁.setTop (mkF m 4 #[.val (.int p1), .val (.int p2), .val (.ref g3)] [])) _
    refine XS.iloadN X0.here hx rfl (hb hby d8_4) rfl ?_
    show Steps p.tables e below (s₁.setTop (mkF m 5 #[.val (.int p1), .val (.int p2), .val (.ref g3)] [(.int p1)])) _
    refine XS.iloadN X0.here hx rfl (hb hby d8_5) rfl ?_
    show Steps p.tables e below (s₁.setTop (mkF m 6 #[.val (.int p1), .val (.int p2), .val (.ref g3)] [(.int p2), (.int p1)])) _
    refine XS.icmpYes X0.here hx rfl (pc0 := 6) (pc' := 16) rfl (hb hby d8_6) rfl (own_t (ic_lt _ _) hhi) (by decide) (by decide) ?_
    show Steps p.tables e below (s₁.setTop (mkF m 16 #[.val (.int p1), .val (.int p2), .val (.ref g3)] [])) _
    refine XS.iloadN X0.here hx rfl (hb hby d8_16) rfl ?_
    show Steps p.tables e below (s₁.setTop (mkF m 17 #[.val (.int p1), .val (.int p2), .val (.ref g3)] [(.int p1)])) _
    exact own_retI X0 hx Bd.returns (hb hby d8_17) hr
theorem pn_java_lang_String : plainName "java/lang/String" = true := by first | (simp [plainName, overriddenIn]; done) | decide +kernel
theorem ef_rm7 (m : MethodId) (x0 : Int32) (x1 : Int32) : entryFrame m #[(.int x0), (.int x1)] 2 = mkF m 0 #[.val (.int x0), .val (.int x1)] [] := by first | (simp [entryFrame, mkF, argsToLocals, Value.category]; done) | rfl
theorem d7_0 : decode jdk_42_method_155_code 0 = .ok (.iload_n 0, 1) := by decide +kernel
theorem d7_1 : decode jdk_42_method_155_code 1 = .ok (.iload_n 1, 1) := by decide +kernel
theorem d7_2 : decode jdk_42_method_155_code 2 = .ok (.getstatic 1053, 3) := by decide +kernel
theorem d7_5 : decode jdk_42_method_155_code 5 = .ok (.invokestatic 1059, 3) := by decide +kernel
theorem pd__IILjava_util_function_BiFunction__I : parseMethodDescriptor "(IILjava/util/function/BiFunction;)I" = some ⟨[.int, .int, (.object "java/util/function/BiFunction")], some .int⟩ := by decide +kernel
theorem d7_8 : decode jdk_42_method_155_code 8 = .ok (.pop, 1) := by decide +kernel
theorem d7_9 : decode jdk_42_method_155_code 9 = .ok (.return_, 1) := by decide +kernel
def Q7 (Z : State) (p1 : Int32) (p2 : Int32) (G3 : Value) (h0 : Heap) (n0 : Nat) (v : Option Value) (h : Heap) (L : List Loc) : Prop := v = none ∧ Fr n0 L ∧ h = h0
set_option maxRecDepth 65536 in
set_option maxHeartbeats 40000000 in
theorem rm7 (l : Launch) (Z : State) (a0 : Array Value) (hw : ∀ d ∈ tables_1, d.before a0 Z = true) (ws : List Jvm.Cond) (p1 : Int32) (p2 : Int32) (G3 : Value) (h0 : Heap) (n0 : Nat) (Z0 : n0 ≤ h0.size) (S_f : Sta Z h0 "jdk/internal/util/Preconditions" "SIOOBE_FORMATTER" "Ljava/util/function/BiFunction;" G3) (rG3 : G3.isRef = true) (hlo : ¬ p1 < 0) (hhi : p1 < p2) :
    OMet l Z (⟨"java/lang/String", "checkIndex", "(II)V"⟩ : MethodName) jdk_42_method_155_code 2 none ws ({ frames := 1, cells := 0, slots := 0, locals := 14 } : Room) #[(.int p1), (.int p2)] h0 (Q7 Z p1 p2 G3 h0 n0) := by
  refine own_body (plainFor_of_name pn_java_lang_String) ?_
  intro p e s m below meth c s₁ Bd hml0 hZ e0
  have hx := Bd.exec
  have hby := Bd.bytes
  have hml : c.maxLocals = 2 := hml0
  have hown : s.vm.findClass "java/lang/String" = some m.cls := findClass_of_methodNamed Bd.named
  have hnm := (name_of_methodNamed Bd.named Bd.method).1
  have X0 : Stand p l e ({ frames := 1, cells := 0, slots := 0, locals := 14 } : Room) s m #[(.int p1), (.int p2)] below meth c s₁ [] 0 0 := Stand.of_body Bd
  have N0 := Fr.nil n0
  have K0 : Keep h0 h0 [] := Keep.refl _ _
  rw [ef_rm7]
  rcases ref_cases rG3 with rfl | ⟨g3, rfl⟩
  · obtain ⟨T101, X101, e101, st101⟩ := getS2 X0 hx hZ hown (host := "") (Or.inl (hw _ (List.mem_of_getElem? (i := 60) rfl))) Via.refl e0 S_f (g := (mkF m 2 #[.val (.int p1), .val (.int p2)] [(.int p2), (.int p1)])) rfl (hb hby d7_2)
    obtain ⟨v102, T102, L102, X102, q102, st102⟩ := own_callS X101 hx hZ (y := (⟨"jdk/internal/util/Preconditions", "checkIndex", "(IILjava/util/function/BiFunction;)I"⟩ : MethodName)) hown (hw _ (List.mem_of_getElem? (i := 62) rfl)) (hw _ (List.mem_of_getElem? (i := 63) rfl)) (hw _ (List.mem_of_getElem? (i := 61) rfl)) (hw _ (List.mem_of_getElem? (i := 64) rfl)) (by decide) (hM := (rm8z l Z a0 hw [] p1 p2 h0 n0 Z0 hlo hhi)) (by decide) (by decide) (by decide) (by decide) e101 (argsL := [(.int p1), (.int p2), .null]) (rest := []) (Ls := #[.val (.int p1), .val (.int p2)]) (by rw [hml]; rfl) (lenOf pd__IILjava_util_function_BiFunction__I rfl) (W := 0) (Nat.le_of_eq rfl) (hb hby d7_5)
    obtain ⟨rfl, N102q, e102⟩ := q102
    have N102 := Fr.app N0 N102q
    refine Gl.fin X102 (v := none) (fun _ => rfl) Bd.notSynchronized ?_ e102 (by decide) (by decide) (fun fs hr => ?_)
    · exact ⟨rfl, N102, rfl⟩
    · show Steps p.tables e below (s₁.setTop (mkF m 0 #[.val (.int p1), .val (.int p2)] [])) _
      refine XS.iloadN X0.here hx rfl (hb hby d7_0) rfl ?_
      show Steps p.tables e below (s₁.setTop (mkF m 1 #[.val (.int p1), .val (.int p2)] [(.int p1)])) _
      refine XS.iloadN X0.here hx rfl (hb hby d7_1) rfl ?_
      show Steps p.tables e below (s₁.setTop (mkF m 2 #[.val (.int p1), .val (.int p2)] [(.int p2), (.int p1)])) _
      refine st101 _ ?_
      show Steps p.tables e below (T101.setTop (mkF m 5 #[.val (.int p1), .val (.int p2)] [.null, (.int p2), (.int p1)])) _
      refine st102 _ ?_
      show Steps p.tables e below (T102.setTop (mkF m 8 #[.val (.int p1), .val (.int p2)] [(.int p1)])) _
      refine XS.pop X102.here hx rfl (hb hby d7_8) rfl rfl ?_
      show Steps p.tables e below (T102.setTop (mkF m 9 #[.val (.int p1), .val (.int p2)] [])) _
      exact X102.returnOut hx Bd.returns (hb hby d7_9) hr
  · obtain ⟨T103, X103, e103, st103⟩ := getS2 X0 hx hZ hown (host := "") (Or.inl (hw _ (List.mem_of_getElem? (i := 60) rfl))) Via.refl e0 S_f (g := (mkF m 2 #[.val (.int p1), .val (.int p2)] [(.int p2), (.int p1)])) rfl (hb hby d7_2)
    obtain ⟨v104, T104, L104, X104, q104, st104⟩ := own_callS X103 hx hZ (y := (⟨"jdk/internal/util/Preconditions", "checkIndex", "(IILjava/util/function/BiFunction;)I"⟩ : MethodName)) hown (hw _ (List.mem_of_getElem? (i := 62) rfl)) (hw _ (List.mem_of_getElem? (i := 63) rfl)) (hw _ (List.mem_of_getElem? (i := 61) rfl)) (hw _ (List.mem_of_getElem? (i := 64) rfl)) (by decide) (hM := (rm8r l Z a0 hw [] p1 p2 g3 h0 n0 Z0 hlo hhi)) (by decide) (by decide) (by decide) (by decide) e103 (argsL := [(.int p1), (.int p2), (.ref g3)]) (rest := []) (Ls := #[.val (.int p1), .val (.int p2)]) (by rw [hml]; rfl) (lenOf pd__IILjava_util_function_BiFunction__I rfl) (W := 0) (Nat.le_of_eq rfl) (hb hby d7_5)
    obtain ⟨rfl, N104q, e104⟩ := q104
    have N104 := Fr.app N0 N104q
    refine Gl.fin X104 (v := none) (fun _ => rfl) Bd.notSynchronized ?_ e104 (by decide) (by decide) (fun fs hr => ?_)
    · exact ⟨rfl, N104, rfl⟩
    · show Steps p.tables e below (s₁.setTop (mkF m 0 #[.val (.int p1), .val (.int p2)] [])) _
      refine XS.iloadN X0.here hx rfl (hb hby d7_0) rfl ?_
      show Steps p.tables e below (s₁.setTop (mkF m 1 #[.val (.int p1), .val (.int p2)] [(.int p1)])) _
      refine XS.iloadN X0.here hx rfl (hb hby d7_1) rfl ?_
      show Steps p.tables e below (s₁.setTop (mkF m 2 #[.val (.int p1), .val (.int p2)] [(.int p2), (.int p1)])) _
      refine st103 _ ?_
      show Steps p.tables e below (T103.setTop (mkF m 5 #[.val (.int p1), .val (.int p2)] [(.ref g3), (.int p2), (.int p1)])) _
      refine st104 _ ?_
      show Steps p.tables e below (T104.setTop (mkF m 8 #[.val (.int p1), .val (.int p2)] [(.int p1)])) _
      refine XS.pop X104.here hx rfl (hb hby d7_8) rfl rfl ?_
      show Steps p.tables e below (T104.setTop (mkF m 9 #[.val (.int p1), .val (.int p2)] [])) _
      exact X104.returnOut hx Bd.returns (hb hby d7_9) hr
theorem pn_java_lang_StringLatin1 : plainName "java/lang/StringLatin1" = true := by first | (simp [plainName, overriddenIn]; done) | decide +kernel
theorem ef_rm6 (m : MethodId) (x0 : Addr) (x1 : Int32) : entryFrame m #[(.ref x0), (.int x1)] 2 = mkF m 0 #[.val (.ref x0), .val (.int x1)] [] := by first | (simp [entryFrame, mkF, argsToLocals, Value.category]; done) | rfl
theorem d6_0 : decode jdk_43_method_2_code 0 = .ok (.iload_n 1, 1) := by decide +kernel
theorem d6_1 : decode jdk_43_method_2_code 1 = .ok (.aload_n 0, 1) := by decide +kernel
theorem d6_2 : decode jdk_43_method_2_code 2 = .ok (.arraylength, 1) := by decide +kernel
theorem d6_3 : decode jdk_43_method_2_code 3 = .ok (.invokestatic 9, 3) := by decide +kernel
theorem pd__II_V : parseMethodDescriptor "(II)V" = some ⟨[.int, .int], none⟩ := by decide +kernel
theorem d6_6 : decode jdk_43_method_2_code 6 = .ok (.aload_n 0, 1) := by decide +kernel
theorem d6_7 : decode jdk_43_method_2_code 7 = .ok (.iload_n 1, 1) := by decide +kernel
theorem d6_8 : decode jdk_43_method_2_code 8 = .ok (.baload, 1) := by decide +kernel
theorem d6_9 : decode jdk_43_method_2_code 9 = .ok (.sipush 255, 3) := by decide +kernel
theorem d6_12 : decode jdk_43_method_2_code 12 = .ok (.iand, 1) := by decide +kernel
theorem d6_13 : decode jdk_43_method_2_code 13 = .ok (.i2c, 1) := by decide +kernel
theorem d6_14 : decode jdk_43_method_2_code 14 = .ok (.ireturn, 1) := by decide +kernel
def Q6 (Z : State) (b1 : Addr) (p1 : Int32) (bk : ClassId) (bn : Int32) (bv : List Value) (x1 : Int32) (y1 : Int32) (G3 : Value) (h0 : Heap) (n0 : Nat) (v : Option Value) (h : Heap) (L : List Loc) : Prop := v = some (.int y1) ∧ Fr n0 L ∧ h = h0
set_option maxRecDepth 65536 in
set_option maxHeartbeats 40000000 in
theorem rm6 (l : Launch) (Z : State) (a0 : Array Value) (hw : ∀ d ∈ tables_1, d.before a0 Z = true) (ws : List Jvm.Cond) (b1 : Addr) (p1 : Int32) (bk : ClassId) (bn : Int32) (bv : List Value) (x1 : Int32) (y1 : Int32) (G3 : Value) (h0 : Heap) (n0 : Nat) (Z0 : n0 ≤ h0.size) (V_b : Arv Z h0 b1 bk .byte bn bv (.int (0 : Int32))) (S_f : Sta Z h0 "jdk/internal/util/Preconditions" "SIOOBE_FORMATTER" "Ljava/util/function/BiFunction;" G3) (rG3 : G3.isRef = true) (hlo : ¬ p1 < 0) (hhi : p1 < bn) (hat : bv.getD p1.toNatClampNeg (.int (0 : Int32)) = .int x1) (hy : x1 &&& 255 = y1) :
    OMet l Z (⟨"java/lang/StringLatin1", "charAt", "([BI)C"⟩ : MethodName) jdk_43_method_2_code 2 (some .char) ws ({ frames := 2, cells := 0, slots := 0, locals := 27 } : Room) #[(.ref b1), (.int p1)] h0 (Q6 Z b1 p1 bk bn bv x1 y1 G3 h0 n0) := by
  refine own_body (plainFor_of_name pn_java_lang_StringLatin1) ?_
  intro p e s m below meth c s₁ Bd hml0 hZ e0
  have hx := Bd.exec
  have hby := Bd.bytes
  have hml : c.maxLocals = 2 := hml0
  have hown : s.vm.findClass "java/lang/StringLatin1" = some m.cls := findClass_of_methodNamed Bd.named
  have hnm := (name_of_methodNamed Bd.named Bd.method).1
  have X0 : Stand p l e ({ frames := 2, cells := 0, slots := 0, locals := 27 } : Room) s m #[(.ref b1), (.int p1)] below meth c s₁ [] 0 0 := Stand.of_body Bd
  have N0 := Fr.nil n0
  have K0 : Keep h0 h0 [] := Keep.refl _ _
  rw [ef_rm6]
  obtain ⟨cl101, Ar101, qa101, Sa101, Na101, Ha101, Ga101⟩ := id V_b
  obtain ⟨v102, T102, L102, X102, q102, st102⟩ := own_callS X0 hx hZ (y := (⟨"java/lang/String", "checkIndex", "(II)V"⟩ : MethodName)) hown (hw _ (List.mem_of_getElem? (i := 57) rfl)) (hw _ (List.mem_of_getElem? (i := 58) rfl)) (hw _ (List.mem_of_getElem? (i := 41) rfl)) (hw _ (List.mem_of_getElem? (i := 59) rfl)) (by decide) (hM := (rm7 l Z a0 hw [] p1 bn G3 h0 n0 Z0 S_f rG3 hlo hhi)) (by decide) (by decide) (by decide) (by decide) e0 (argsL := [(.int p1), (.int bn)]) (rest := []) (Ls := #[.val (.ref b1), .val (.int p1)]) (by rw [hml]; rfl) (lenOf pd__II_V rfl) (W := 0) (Nat.le_of_eq rfl) (hb hby d6_3)
  obtain ⟨rfl, N102q, e102⟩ := q102
  have N102 := Fr.app N0 N102q
  obtain ⟨cl103, Ar103, qa103, Sa103, Na103, Ha103, Ga103⟩ := id V_b
  have hin103 : ¬ (p1 < 0 ∨ cl103.slots.size ≤ (p1).toNatClampNeg) := inb_of Sa103 ⟨hlo, hhi⟩
  have hat103 := Ha103.at (v := (.int x1)) hin103 hat
  refine Gl.fin X102 (v := some (.int y1)) (fun h => by rw [Bd.returns] at h; cases h) Bd.notSynchronized ?_ e102 (by decide) (by decide) (fun fs hr => ?_)
  · exact ⟨rfl, N102, rfl⟩
  · show Steps p.tables e below (s₁.setTop (mkF m 0 #[.val (.ref b1), .val (.int p1)] [])) _
    refine XS.iloadN X0.here hx rfl (hb hby d6_0) rfl ?_
    show Steps p.tables e below (s₁.setTop (mkF m 1 #[.val (.ref b1), .val (.int p1)] [(.int p1)])) _
    refine XS.aloadN X0.here hx rfl (hb hby d6_1) rfl rfl ?_
    show Steps p.tables e below (s₁.setTop (mkF m 2 #[.val (.ref b1), .val (.int p1)] [(.ref b1), (.int p1)])) _
    refine X0.arraylength hx (own_hc e0 Ar101.1) (State.isArrayOf_alike hZ.alike Ar101.2.1) (g := (mkF m 2 #[.val (.ref b1), .val (.int p1)] [(.ref b1), (.int p1)])) rfl rfl (hb hby d6_2) _ ?_
    rw [len_of Sa101 Na101]
    show Steps p.tables e below (s₁.setTop (mkF m 3 #[.val (.ref b1), .val (.int p1)] [(.int bn), (.int p1)])) _
    refine st102 _ ?_
    show Steps p.tables e below (T102.setTop (mkF m 6 #[.val (.ref b1), .val (.int p1)] [])) _
    refine XS.aloadN X102.here hx rfl (hb hby d6_6) rfl rfl ?_
    show Steps p.tables e below (T102.setTop (mkF m 7 #[.val (.ref b1), .val (.int p1)] [(.ref b1)])) _
    refine XS.iloadN X102.here hx rfl (hb hby d6_7) rfl ?_
    show Steps p.tables e below (T102.setTop (mkF m 8 #[.val (.ref b1), .val (.int p1)] [(.int p1), (.ref b1)])) _
    refine X102.baloadBytes hx (j := p1) (v := (.int x1)) (own_hc e102 Ar103.1) (State.isArrayOf_alike hZ.alike Ar103.2.1) Ar103.2.2 hin103 hat103 (g := (mkF m 8 #[.val (.ref b1), .val (.int p1)] [(.int p1), (.ref b1)])) rfl rfl (hb hby d6_8) _ ?_
    show Steps p.tables e below (T102.setTop (mkF m 9 #[.val (.ref b1), .val (.int p1)] [(.int x1)])) _
    refine XS.sipush X102.here hx rfl (hb hby d6_9) ?_
    show Steps p.tables e below (T102.setTop (mkF m 12 #[.val (.ref b1), .val (.int p1)] [(.int (255 : Int32)), (.int x1)])) _
    refine XS.iand X102.here hx rfl (hb hby d6_12) rfl ?_
    show Steps p.tables e below (T102.setTop (mkF m 13 #[.val (.ref b1), .val (.int p1)] [(.int (x1 &&& (255 : Int32)))])) _
    refine XS.i2c X102.here hx rfl (hb hby d6_13) rfl ?_
    show Steps p.tables e below (T102.setTop (mkF m 14 #[.val (.ref b1), .val (.int p1)] [(.int ((x1 &&& (255 : Int32)).toUInt32.toUInt16.toUInt32.toInt32))])) _
    exact own_retN X102 hx (t := .char) (z' := y1) Bd.returns (by simp) ((own_narc255 x1).trans hy) (hb hby d6_14) hr
theorem ef_rm5 (m : MethodId) (x0 : Addr) : entryFrame m #[(.ref x0)] 1 = mkF m 0 #[.val (.ref x0)] [] := by first | (simp [entryFrame, mkF, argsToLocals, Value.category]; done) | rfl
theorem d5_0 : decode jdk_42_method_154_code 0 = .ok (.getstatic 38, 3) := by decide +kernel
theorem d5_3 : decode jdk_42_method_154_code 3 = .ok (.ifCond .eq 14, 3) := by decide +kernel
theorem d5_6 : decode jdk_42_method_154_code 6 = .ok (.aload_n 0, 1) := by decide +kernel
theorem d5_7 : decode jdk_42_method_154_code 7 = .ok (.getfield 15, 3) := by decide +kernel
theorem d5_10 : decode jdk_42_method_154_code 10 = .ok (.ifCond .ne 7, 3) := by decide +kernel
theorem d5_13 : decode jdk_42_method_154_code 13 = .ok (.iconst 1, 1) := by decide +kernel
theorem d5_14 : decode jdk_42_method_154_code 14 = .ok (.goto 4, 3) := by decide +kernel
theorem d5_18 : decode jdk_42_method_154_code 18 = .ok (.ireturn, 1) := by decide +kernel
def Q5 (Z : State) (a1 : Addr) (cs : Int32) (h0 : Heap) (n0 : Nat) (v : Option Value) (h : Heap) (L : List Loc) : Prop := v = some (.int 1) ∧ Fr n0 L ∧ h = h0
set_option maxRecDepth 65536 in
set_option maxHeartbeats 40000000 in
theorem rm5 (l : Launch) (Z : State) (a0 : Array Value) (hw : ∀ d ∈ tables_1, d.before a0 Z = true) (ws : List Jvm.Cond) (a1 : Addr) (cs : Int32) (h0 : Heap) (n0 : Nat) (Z0 : n0 ≤ h0.size) (S_c : Sta Z h0 "java/lang/String" "COMPACT_STRINGS" "Z" (.int cs)) (hcs : ¬ cs = 0) (F_c : Fld Z h0 a1 "java/lang/String" "coder" "B" (.int (0 : Int32))) :
    OMet l Z (⟨"java/lang/String", "isLatin1", "()Z"⟩ : MethodName) jdk_42_method_154_code 1 (some .boolean) ws ({ frames := 0, cells := 0, slots := 0, locals := 0 } : Room) #[(.ref a1)] h0 (Q5 Z a1 cs h0 n0) := by
  refine own_body (plainFor_of_name pn_java_lang_String) ?_
  intro p e s m below meth c s₁ Bd hml0 hZ e0
  have hx := Bd.exec
  have hby := Bd.bytes
  have hml : c.maxLocals = 1 := hml0
  have hown : s.vm.findClass "java/lang/String" = some m.cls := findClass_of_methodNamed Bd.named
  have hnm := (name_of_methodNamed Bd.named Bd.method).1
  have X0 : Stand p l e ({ frames := 0, cells := 0, slots := 0, locals := 0 } : Room) s m #[(.ref a1)] below meth c s₁ [] 0 0 := Stand.of_body Bd
  have N0 := Fr.nil n0
  have K0 : Keep h0 h0 [] := Keep.refl _ _
  rw [ef_rm5]
  obtain ⟨T101, X101, e101, st101⟩ := getS2 X0 hx hZ hown (host := "") (Or.inl (hw _ (List.mem_of_getElem? (i := 48) rfl))) Via.refl e0 S_c (g := (mkF m 0 #[.val (.ref a1)] [])) rfl (hb hby d5_0)
  obtain ⟨T102, X102, e102, st102⟩ := getF X101 hx hZ hown (host := "") (Or.inl (hw _ (List.mem_of_getElem? (i := 49) rfl))) Via.refl e101 F_c (g := (mkF m 7 #[.val (.ref a1)] [(.ref a1)])) rfl rfl (hb hby d5_7)
  refine Gl.fin X102 (v := some (.int (1 : Int32))) (fun h => by rw [Bd.returns] at h; cases h) Bd.notSynchronized ?_ e102 (by decide) (by decide) (fun fs hr => ?_)
  · exact ⟨rfl, N0, rfl⟩
  · show Steps p.tables e below (s₁.setTop (mkF m 0 #[.val (.ref a1)] [])) _
    refine st101 _ ?_
    show Steps p.tables e below (T101.setTop (mkF m 3 #[.val (.ref a1)] [(.int cs)])) _
    refine XS.ifNo X101.here hx rfl (hb hby d5_3) rfl (own_f (i0_eq _) hcs) ?_
    show Steps p.tables e below (T101.setTop (mkF m 6 #[.val (.ref a1)] [])) _
    refine XS.aloadN X101.here hx rfl (hb hby d5_6) rfl rfl ?_
    show Steps p.tables e below (T101.setTop (mkF m 7 #[.val (.ref a1)] [(.ref a1)])) _
    refine st102 _ ?_
    show Steps p.tables e below (T102.setTop (mkF m 10 #[.val (.ref a1)] [(.int (0 : Int32))])) _
    refine XS.ifNo X102.here hx rfl (hb hby d5_10) rfl (own_nf (i0_ne _) (by decide)) ?_
    show Steps p.tables e below (T102.setTop (mkF m 13 #[.val (.ref a1)] [])) _
    refine XS.iconst X102.here hx rfl (hb hby d5_13) ?_
    show Steps p.tables e below (T102.setTop (mkF m 14 #[.val (.ref a1)] [(.int (1 : Int32))])) _
    refine XS.goto X102.here hx rfl (pc0 := 14) (pc' := 18) rfl (hb hby d5_14) (by decide) (by decide) ?_
    show Steps p.tables e below (T102.setTop (mkF m 18 #[.val (.ref a1)] [(.int (1 : Int32))])) _
    exact retN X102 hx (t := .boolean) Bd.returns (by simp) (hb hby d5_18) hr
theorem ef_rm4 (m : MethodId) (x0 : Addr) (x1 : Int32) : entryFrame m #[(.ref x0), (.int x1)] 2 = mkF m 0 #[.val (.ref x0), .val (.int x1)] [] := by first | (simp [entryFrame, mkF, argsToLocals, Value.category]; done) | rfl
theorem d4_0 : decode jdk_42_method_56_code 0 = .ok (.aload_n 0, 1) := by decide +kernel
theorem d4_1 : decode jdk_42_method_56_code 1 = .ok (.invokevirtual 492, 3) := by decide +kernel
theorem pd___Z : parseMethodDescriptor "()Z" = some ⟨[], some .boolean⟩ := by decide +kernel
theorem d4_4 : decode jdk_42_method_56_code 4 = .ok (.ifCond .eq 12, 3) := by decide +kernel
theorem d4_7 : decode jdk_42_method_56_code 7 = .ok (.aload_n 0, 1) := by decide +kernel
theorem d4_8 : decode jdk_42_method_56_code 8 = .ok (.getfield 9, 3) := by decide +kernel
theorem d4_11 : decode jdk_42_method_56_code 11 = .ok (.iload_n 1, 1) := by decide +kernel
theorem d4_12 : decode jdk_42_method_56_code 12 = .ok (.invokestatic 495, 3) := by decide +kernel
theorem pd___BI_C : parseMethodDescriptor "([BI)C" = some ⟨[(.array .byte), .int], some .char⟩ := by decide +kernel
theorem d4_15 : decode jdk_42_method_56_code 15 = .ok (.ireturn, 1) := by decide +kernel
def Q4 (Z : State) (a1 : Addr) (p1 : Int32) (b1 : Addr) (bk : ClassId) (bn : Int32) (bv : List Value) (x1 : Int32) (y1 : Int32) (cs : Int32) (G3 : Value) (h0 : Heap) (n0 : Nat) (v : Option Value) (h : Heap) (L : List Loc) : Prop := v = some (.int y1) ∧ Fr n0 L ∧ h = h0
set_option maxRecDepth 65536 in
set_option maxHeartbeats 40000000 in
theorem rm4 (l : Launch) (Z : State) (a0 : Array Value) (hw : ∀ d ∈ tables_1, d.before a0 Z = true) (ws : List Jvm.Cond) (a1 : Addr) (p1 : Int32) (b1 : Addr) (bk : ClassId) (bn : Int32) (bv : List Value) (x1 : Int32) (y1 : Int32) (cs : Int32) (G3 : Value) (h0 : Heap) (n0 : Nat) (Z0 : n0 ≤ h0.size) (S_c : Sta Z h0 "java/lang/String" "COMPACT_STRINGS" "Z" (.int cs)) (hcs : ¬ cs = 0) (E_a : Exa Z h0 a1 "java/lang/String") (F_v : Fld Z h0 a1 "java/lang/String" "value" "[B" (.ref b1)) (F_c : Fld Z h0 a1 "java/lang/String" "coder" "B" (.int (0 : Int32))) (V_b : Arv Z h0 b1 bk .byte bn bv (.int (0 : Int32))) (S_f : Sta Z h0 "jdk/internal/util/Preconditions" "SIOOBE_FORMATTER" "Ljava/util/function/BiFunction;" G3) (rG3 : G3.isRef = true) (hlo : ¬ p1 < 0) (hhi : p1 < bn) (hat : bv.getD p1.toNatClampNeg (.int (0 : Int32)) = .int x1) (hy : x1 &&& 255 = y1) :
    OMet l Z (⟨"java/lang/String", "charAt", "(I)C"⟩ : MethodName) jdk_42_method_56_code 2 (some .char) ws ({ frames := 3, cells := 0, slots := 0, locals := 40 } : Room) #[(.ref a1), (.int p1)] h0 (Q4 Z a1 p1 b1 bk bn bv x1 y1 cs G3 h0 n0) := by
  refine own_body (plainFor_of_name pn_java_lang_String) ?_
  intro p e s m below meth c s₁ Bd hml0 hZ e0
  have hx := Bd.exec
  have hby := Bd.bytes
  have hml : c.maxLocals = 2 := hml0
  have hown : s.vm.findClass "java/lang/String" = some m.cls := findClass_of_methodNamed Bd.named
  have hnm := (name_of_methodNamed Bd.named Bd.method).1
  have X0 : Stand p l e ({ frames := 3, cells := 0, slots := 0, locals := 40 } : Room) s m #[(.ref a1), (.int p1)] below meth c s₁ [] 0 0 := Stand.of_body Bd
  have N0 := Fr.nil n0
  have K0 : Keep h0 h0 [] := Keep.refl _ _
  rw [ef_rm4]
  obtain ⟨v101, T101, L101, X101, q101, st101⟩ := own_callV X0 hx hZ (y := (⟨"java/lang/String", "isLatin1", "()Z"⟩ : MethodName)) (z := (⟨"java/lang/String", "isLatin1", "()Z"⟩ : MethodName)) hown (hw _ (List.mem_of_getElem? (i := 43) rfl)) (hw _ (List.mem_of_getElem? (i := 44) rfl)) (notFace_of_selects (args := #[]) (mvT hZ (hw _ (List.mem_of_getElem? (i := 46) rfl)))) (hw _ (List.mem_of_getElem? (i := 46) rfl)) (hw _ (List.mem_of_getElem? (i := 45) rfl)) (hw _ (List.mem_of_getElem? (i := 41) rfl)) (hw _ (List.mem_of_getElem? (i := 47) rfl)) (by decide) E_a (hM := (rm5 l Z a0 hw [] a1 cs h0 n0 Z0 S_c hcs F_c)) (by decide) (by decide) (by decide) (by decide) e0 (argsL := []) (rest := []) (Ls := #[.val (.ref a1), .val (.int p1)]) (by rw [hml]; rfl) (lenOf pd___Z rfl) (W := 0) (Nat.le_of_eq rfl) (hb hby d4_1)
  obtain ⟨rfl, N101q, e101⟩ := q101
  have N101 := Fr.app N0 N101q
  obtain ⟨T102, X102, e102, st102⟩ := getF X101 hx hZ hown (host := "") (Or.inl (hw _ (List.mem_of_getElem? (i := 51) rfl))) Via.refl e101 F_v (g := (mkF m 8 #[.val (.ref a1), .val (.int p1)] [(.ref a1)])) rfl rfl (hb hby d4_8)
  obtain ⟨v103, T103, L103, X103, q103, st103⟩ := own_callS X102 hx hZ (y := (⟨"java/lang/StringLatin1", "charAt", "([BI)C"⟩ : MethodName)) hown (hw _ (List.mem_of_getElem? (i := 53) rfl)) (hw _ (List.mem_of_getElem? (i := 54) rfl)) (hw _ (List.mem_of_getElem? (i := 55) rfl)) (hw _ (List.mem_of_getElem? (i := 56) rfl)) (by decide) (hM := (rm6 l Z a0 hw [] b1 p1 bk bn bv x1 y1 G3 h0 n0 Z0 V_b S_f rG3 hlo hhi hat hy)) (by decide) (by decide) (by decide) (by decide) e102 (argsL := [(.ref b1), (.int p1)]) (rest := []) (Ls := #[.val (.ref a1), .val (.int p1)]) (by rw [hml]; rfl) (lenOf pd___BI_C rfl) (W := 0) (Nat.le_of_eq rfl) (hb hby d4_12)
  obtain ⟨rfl, N103q, e103⟩ := q103
  have N103 := Fr.app N101 N103q
  refine Gl.fin X103 (v := some (.int y1)) (fun h => by rw [Bd.returns] at h; cases h) Bd.notSynchronized ?_ e103 (by decide) (by decide) (fun fs hr => ?_)
  · exact ⟨rfl, N103, rfl⟩
  · show Steps p.tables e below (s₁.setTop (mkF m 0 #[.val (.ref a1), .val (.int p1)] [])) _
    refine XS.aloadN X0.here hx rfl (hb hby d4_0) rfl rfl ?_
    show Steps p.tables e below (s₁.setTop (mkF m 1 #[.val (.ref a1), .val (.int p1)] [(.ref a1)])) _
    refine st101 _ ?_
    show Steps p.tables e below (T101.setTop (mkF m 4 #[.val (.ref a1), .val (.int p1)] [(.int (1 : Int32))])) _
    refine XS.ifNo X101.here hx rfl (hb hby d4_4) rfl (own_f (i0_eq _) (by decide)) ?_
    show Steps p.tables e below (T101.setTop (mkF m 7 #[.val (.ref a1), .val (.int p1)] [])) _
    refine XS.aloadN X101.here hx rfl (hb hby d4_7) rfl rfl ?_
    show Steps p.tables e below (T101.setTop (mkF m 8 #[.val (.ref a1), .val (.int p1)] [(.ref a1)])) _
    refine st102 _ ?_
    show Steps p.tables e below (T102.setTop (mkF m 11 #[.val (.ref a1), .val (.int p1)] [(.ref b1)])) _
    refine XS.iloadN X102.here hx rfl (hb hby d4_11) rfl ?_
    show Steps p.tables e below (T102.setTop (mkF m 12 #[.val (.ref a1), .val (.int p1)] [(.int p1), (.ref b1)])) _
    refine st103 _ ?_
    show Steps p.tables e below (T103.setTop (mkF m 15 #[.val (.ref a1), .val (.int p1)] [(.int y1)])) _
    exact own_retN X103 hx (t := .char) (z' := y1) Bd.returns (by simp) (own_narc hy) (hb hby d4_15) hr
theorem ef_rm10 (m : MethodId) (x0 : Addr) : entryFrame m #[(.ref x0)] 1 = mkF m 0 #[.val (.ref x0)] [] := by first | (simp [entryFrame, mkF, argsToLocals, Value.category]; done) | rfl
theorem d10_0 : decode jdk_42_method_152_code 0 = .ok (.getstatic 38, 3) := by decide +kernel
theorem d10_3 : decode jdk_42_method_152_code 3 = .ok (.ifCond .eq 10, 3) := by decide +kernel
theorem d10_6 : decode jdk_42_method_152_code 6 = .ok (.aload_n 0, 1) := by decide +kernel
theorem d10_7 : decode jdk_42_method_152_code 7 = .ok (.getfield 15, 3) := by decide +kernel
theorem d10_10 : decode jdk_42_method_152_code 10 = .ok (.goto 4, 3) := by decide +kernel
theorem d10_14 : decode jdk_42_method_152_code 14 = .ok (.ireturn, 1) := by decide +kernel
def Q10 (Z : State) (a1 : Addr) (cs : Int32) (h0 : Heap) (n0 : Nat) (v : Option Value) (h : Heap) (L : List Loc) : Prop := v = some (.int 0) ∧ Fr n0 L ∧ h = h0
set_option maxRecDepth 65536 in
set_option maxHeartbeats 40000000 in
theorem rm10 (l : Launch) (Z : State) (a0 : Array Value) (hw : ∀ d ∈ tables_1, d.before a0 Z = true) (ws : List Jvm.Cond) (a1 : Addr) (cs : Int32) (h0 : Heap) (n0 : Nat) (Z0 : n0 ≤ h0.size) (S_c : Sta Z h0 "java/lang/String" "COMPACT_STRINGS" "Z" (.int cs)) (hcs : ¬ cs = 0) (F_c : Fld Z h0 a1 "java/lang/String" "coder" "B" (.int (0 : Int32))) :
    OMet l Z (⟨"java/lang/String", "coder", "()B"⟩ : MethodName) jdk_42_method_152_code 1 (some .byte) ws ({ frames := 0, cells := 0, slots := 0, locals := 0 } : Room) #[(.ref a1)] h0 (Q10 Z a1 cs h0 n0) := by
  refine own_body (plainFor_of_name pn_java_lang_String) ?_
  intro p e s m below meth c s₁ Bd hml0 hZ e0
  have hx := Bd.exec
  have hby := Bd.bytes
  have hml : c.maxLocals = 1 := hml0
  have hown : s.vm.findClass "java/lang/String" = some m.cls := findClass_of_methodNamed Bd.named
  have hnm := (name_of_methodNamed Bd.named Bd.method).1
  have X0 : Stand p l e ({ frames := 0, cells := 0, slots := 0, locals := 0 } : Room) s m #[(.ref a1)] below meth c s₁ [] 0 0 := Stand.of_body Bd
  have N0 := Fr.nil n0
  have K0 : Keep h0 h0 [] := Keep.refl _ _
  rw [ef_rm10]
  obtain ⟨T101, X101, e101, st101⟩ := getS2 X0 hx hZ hown (host := "") (Or.inl (hw _ (List.mem_of_getElem? (i := 48) rfl))) Via.refl e0 S_c (g := (mkF m 0 #[.val (.ref a1)] [])) rfl (hb hby d10_0)
  obtain ⟨T102, X102, e102, st102⟩ := getF X101 hx hZ hown (host := "") (Or.inl (hw _ (List.mem_of_getElem? (i := 49) rfl))) Via.refl e101 F_c (g := (mkF m 7 #[.val (.ref a1)] [(.ref a1)])) rfl rfl (hb hby d10_7)
  refine Gl.fin X102 (v := some (.int (0 : Int32))) (fun h => by rw [Bd.returns] at h; cases h) Bd.notSynchronized ?_ e102 (by decide) (by decide) (fun fs hr => ?_)
  · exact ⟨rfl, N0, rfl⟩
  · show Steps p.tables e below (s₁.setTop (mkF m 0 #[.val (.ref a1)] [])) _
    refine st101 _ ?_
    show Steps p.tables e below (T101.setTop (mkF m 3 #[.val (.ref a1)] [(.int cs)])) _
    refine XS.ifNo X101.here hx rfl (hb hby d10_3) rfl (own_f (i0_eq _) hcs) ?_
    show Steps p.tables e below (T101.setTop (mkF m 6 #[.val (.ref a1)] [])) _
    refine XS.aloadN X101.here hx rfl (hb hby d10_6) rfl rfl ?_
    show Steps p.tables e below (T101.setTop (mkF m 7 #[.val (.ref a1)] [(.ref a1)])) _
    refine st102 _ ?_
    show Steps p.tables e below (T102.setTop (mkF m 10 #[.val (.ref a1)] [(.int (0 : Int32))])) _
    refine XS.goto X102.here hx rfl (pc0 := 10) (pc' := 14) rfl (hb hby d10_10) (by decide) (by decide) ?_
    show Steps p.tables e below (T102.setTop (mkF m 14 #[.val (.ref a1)] [(.int (0 : Int32))])) _
    exact own_retN X102 hx (t := .byte) (z' := (0 : Int32)) Bd.returns (by simp) (rfl) (hb hby d10_14) hr
theorem ef_rm9 (m : MethodId) (x0 : Addr) : entryFrame m #[(.ref x0)] 1 = mkF m 0 #[.val (.ref x0)] [] := by first | (simp [entryFrame, mkF, argsToLocals, Value.category]; done) | rfl
theorem d9_0 : decode jdk_42_method_54_code 0 = .ok (.aload_n 0, 1) := by decide +kernel
theorem d9_1 : decode jdk_42_method_54_code 1 = .ok (.getfield 9, 3) := by decide +kernel
theorem d9_4 : decode jdk_42_method_54_code 4 = .ok (.arraylength, 1) := by decide +kernel
theorem d9_5 : decode jdk_42_method_54_code 5 = .ok (.aload_n 0, 1) := by decide +kernel
theorem d9_6 : decode jdk_42_method_54_code 6 = .ok (.invokevirtual 335, 3) := by decide +kernel
theorem pd___B : parseMethodDescriptor "()B" = some ⟨[], some .byte⟩ := by decide +kernel
theorem d9_9 : decode jdk_42_method_54_code 9 = .ok (.ishr, 1) := by decide +kernel
theorem d9_10 : decode jdk_42_method_54_code 10 = .ok (.ireturn, 1) := by decide +kernel
def Q9 (Z : State) (a1 : Addr) (b1 : Addr) (bk : ClassId) (bn : Int32) (bv : List Value) (cs : Int32) (h0 : Heap) (n0 : Nat) (v : Option Value) (h : Heap) (L : List Loc) : Prop := v = some (.int bn) ∧ Fr n0 L ∧ h = h0
set_option maxRecDepth 65536 in
set_option maxHeartbeats 40000000 in
theorem rm9 (l : Launch) (Z : State) (a0 : Array Value) (hw : ∀ d ∈ tables_1, d.before a0 Z = true) (ws : List Jvm.Cond) (a1 : Addr) (b1 : Addr) (bk : ClassId) (bn : Int32) (bv : List Value) (cs : Int32) (h0 : Heap) (n0 : Nat) (Z0 : n0 ≤ h0.size) (S_c : Sta Z h0 "java/lang/String" "COMPACT_STRINGS" "Z" (.int cs)) (hcs : ¬ cs = 0) (E_a : Exa Z h0 a1 "java/lang/String") (F_v : Fld Z h0 a1 "java/lang/String" "value" "[B" (.ref b1)) (F_c : Fld Z h0 a1 "java/lang/String" "coder" "B" (.int (0 : Int32))) (V_b : Arv Z h0 b1 bk .byte bn bv (.int (0 : Int32))) :
    OMet l Z (⟨"java/lang/String", "length", "()I"⟩ : MethodName) jdk_42_method_54_code 1 (some .int) ws ({ frames := 1, cells := 0, slots := 0, locals := 13 } : Room) #[(.ref a1)] h0 (Q9 Z a1 b1 bk bn bv cs h0 n0) := by
  refine own_body (plainFor_of_name pn_java_lang_String) ?_
  intro p e s m below meth c s₁ Bd hml0 hZ e0
  have hx := Bd.exec
  have hby := Bd.bytes
  have hml : c.maxLocals = 1 := hml0
  have hown : s.vm.findClass "java/lang/String" = some m.cls := findClass_of_methodNamed Bd.named
  have hnm := (name_of_methodNamed Bd.named Bd.method).1
  have X0 : Stand p l e ({ frames := 1, cells := 0, slots := 0, locals := 13 } : Room) s m #[(.ref a1)] below meth c s₁ [] 0 0 := Stand.of_body Bd
  have N0 := Fr.nil n0
  have K0 : Keep h0 h0 [] := Keep.refl _ _
  rw [ef_rm9]
  obtain ⟨T101, X101, e101, st101⟩ := getF X0 hx hZ hown (host := "") (Or.inl (hw _ (List.mem_of_getElem? (i := 51) rfl))) Via.refl e0 F_v (g := (mkF m 1 #[.val (.ref a1)] [(.ref a1)])) rfl rfl (hb hby d9_1)
  obtain ⟨cl102, Ar102, qa102, Sa102, Na102, Ha102, Ga102⟩ := id V_b
  obtain ⟨v103, T103, L103, X103, q103, st103⟩ := own_callV X101 hx hZ (y := (⟨"java/lang/String", "coder", "()B"⟩ : MethodName)) (z := (⟨"java/lang/String", "coder", "()B"⟩ : MethodName)) hown (hw _ (List.mem_of_getElem? (i := 70) rfl)) (hw _ (List.mem_of_getElem? (i := 71) rfl)) (notFace_of_selects (args := #[]) (mvT hZ (hw _ (List.mem_of_getElem? (i := 73) rfl)))) (hw _ (List.mem_of_getElem? (i := 73) rfl)) (hw _ (List.mem_of_getElem? (i := 72) rfl)) (hw _ (List.mem_of_getElem? (i := 41) rfl)) (hw _ (List.mem_of_getElem? (i := 74) rfl)) (by decide) E_a (hM := (rm10 l Z a0 hw [] a1 cs h0 n0 Z0 S_c hcs F_c)) (by decide) (by decide) (by decide) (by decide) e101 (argsL := []) (rest := [(.int bn)]) (Ls := #[.val (.ref a1)]) (by rw [hml]; rfl) (lenOf pd___B rfl) (W := 1) (Nat.le_of_eq rfl) (hb hby d9_6)
  obtain ⟨rfl, N103q, e103⟩ := q103
  have N103 := Fr.app N0 N103q
  refine Gl.fin X103 (v := some (.int (bn >>> ((0 : Int32) &&& 31)))) (fun h => by rw [Bd.returns] at h; cases h) Bd.notSynchronized ?_ e103 (by decide) (by decide) (fun fs hr => ?_)
  · exact ⟨by rw [own_shr0], N103, rfl⟩
  · show Steps p.tables e below (s₁.setTop (mkF m 0 #[.val (.ref a1)] [])) _
    refine XS.aloadN X0.here hx rfl (hb hby d9_0) rfl rfl ?_
    show Steps p.tables e below (s₁.setTop (mkF m 1 #[.val (.ref a1)] [(.ref a1)])) _
    refine st101 _ ?_
    show Steps p.tables e below (T101.setTop (mkF m 4 #[.val (.ref a1)] [(.ref b1)])) _
    refine X101.arraylength hx (own_hc e101 Ar102.1) (State.isArrayOf_alike hZ.alike Ar102.2.1) (g := (mkF m 4 #[.val (.ref a1)] [(.ref b1)])) rfl rfl (hb hby d9_4) _ ?_
    rw [len_of Sa102 Na102]
    show Steps p.tables e below (T101.setTop (mkF m 5 #[.val (.ref a1)] [(.int bn)])) _
    refine XS.aloadN X101.here hx rfl (hb hby d9_5) rfl rfl ?_
    show Steps p.tables e below (T101.setTop (mkF m 6 #[.val (.ref a1)] [(.ref a1), (.int bn)])) _
    refine st103 _ ?_
    show Steps p.tables e below (T103.setTop (mkF m 9 #[.val (.ref a1)] [(.int (0 : Int32)), (.int bn)])) _
    refine XS.ishr X103.here hx rfl (hb hby d9_9) rfl ?_
    show Steps p.tables e below (T103.setTop (mkF m 10 #[.val (.ref a1)] [(.int (bn >>> ((0 : Int32) &&& 31)))])) _
    exact own_retI X103 hx Bd.returns (hb hby d9_10) hr
theorem pn_com_example_porthcurno_porthcurno_core_RelationHoldsPinLaw : plainName "com/example/porthcurno/porthcurno/core/RelationHoldsPinLaw" = true := by first | (simp [plainName, overriddenIn]; done) | decide +kernel
theorem ef_rm3_0 (m : MethodId) (x0 : Addr) (x1 : Int32) : entryFrame m #[(.ref x0), (.int x1)] 7 = mkF m 0 #[.val (.ref x0), .val (.int x1), .unset, .unset, .unset, .unset, .unset] [] := by first | (simp [entryFrame, mkF, argsToLocals, Value.category]; done) | rfl
theorem d3_0 : decode method_2_code 0 = .ok (.aload_n 0, 1) := by decide +kernel
theorem d3_1 : decode method_2_code 1 = .ok (.iconst 0, 1) := by decide +kernel
theorem d3_2 : decode method_2_code 2 = .ok (.invokevirtual 7, 3) := by decide +kernel
theorem pd__I_C : parseMethodDescriptor "(I)C" = some ⟨[.int], some .char⟩ := by decide +kernel
theorem d3_5 : decode method_2_code 5 = .ok (.istore_n 2, 1) := by decide +kernel
theorem d3_6 : decode method_2_code 6 = .ok (.iload_n 2, 1) := by decide +kernel
theorem d3_7 : decode method_2_code 7 = .ok (.bipush 60, 2) := by decide +kernel
theorem d3_9 : decode method_2_code 9 = .ok (.if_icmp .ne 7, 3) := by decide +kernel
theorem d3_16 : decode method_2_code 16 = .ok (.iconst 0, 1) := by decide +kernel
theorem d3_17 : decode method_2_code 17 = .ok (.istore_n 3, 1) := by decide +kernel
theorem d3_18 : decode method_2_code 18 = .ok (.iload_n 2, 1) := by decide +kernel
theorem d3_19 : decode method_2_code 19 = .ok (.bipush 62, 2) := by decide +kernel
theorem d3_21 : decode method_2_code 21 = .ok (.if_icmp .ne 7, 3) := by decide +kernel
theorem d3_28 : decode method_2_code 28 = .ok (.iconst 0, 1) := by decide +kernel
theorem d3_29 : decode method_2_code 29 = .ok (.istore 4, 2) := by decide +kernel
theorem d3_31 : decode method_2_code 31 = .ok (.iload_n 2, 1) := by decide +kernel
theorem d3_32 : decode method_2_code 32 = .ok (.bipush 61, 2) := by decide +kernel
theorem d3_34 : decode method_2_code 34 = .ok (.if_icmp .ne 7, 3) := by decide +kernel
theorem d3_37 : decode method_2_code 37 = .ok (.iconst 1, 1) := by decide +kernel
theorem d3_38 : decode method_2_code 38 = .ok (.goto 4, 3) := by decide +kernel
theorem d3_42 : decode method_2_code 42 = .ok (.istore 5, 2) := by decide +kernel
theorem d3_44 : decode method_2_code 44 = .ok (.aload_n 0, 1) := by decide +kernel
theorem d3_45 : decode method_2_code 45 = .ok (.invokevirtual 13, 3) := by decide +kernel
theorem d3_48 : decode method_2_code 48 = .ok (.iconst 1, 1) := by decide +kernel
theorem d3_49 : decode method_2_code 49 = .ok (.if_icmp .le 65, 3) := by decide +kernel
theorem d3_114 : decode method_2_code 114 = .ok (.iload_n 3, 1) := by decide +kernel
theorem d3_115 : decode method_2_code 115 = .ok (.ifCond .eq 7, 3) := by decide +kernel
theorem d3_122 : decode method_2_code 122 = .ok (.iload 4, 2) := by decide +kernel
theorem d3_124 : decode method_2_code 124 = .ok (.ifCond .eq 7, 3) := by decide +kernel
theorem d3_131 : decode method_2_code 131 = .ok (.iload 5, 2) := by decide +kernel
theorem d3_133 : decode method_2_code 133 = .ok (.ifCond .eq 11, 3) := by decide +kernel
theorem d3_136 : decode method_2_code 136 = .ok (.iload_n 1, 1) := by decide +kernel
theorem d3_137 : decode method_2_code 137 = .ok (.ifCond .ne 7, 3) := by decide +kernel
theorem d3_140 : decode method_2_code 140 = .ok (.iconst 1, 1) := by decide +kernel
theorem d3_141 : decode method_2_code 141 = .ok (.goto 4, 3) := by decide +kernel
theorem d3_145 : decode method_2_code 145 = .ok (.ireturn, 1) := by decide +kernel
theorem d3_144 : decode method_2_code 144 = .ok (.iconst 0, 1) := by decide +kernel
def Q3_0 (Z : State) (a1 : Addr) (p1 : Int32) (b1 : Addr) (bk : ClassId) (cs : Int32) (G3 : Value) (h0 : Heap) (n0 : Nat) (v : Option Value) (h : Heap) (L : List Loc) : Prop := v = some (.int (b2i (decide (p1 = 0)))) ∧ Fr n0 L ∧ h = h0
set_option maxRecDepth 65536 in
set_option maxHeartbeats 40000000 in
theorem rm3_0 (l : Launch) (Z : State) (a0 : Array Value) (hw : ∀ d ∈ tables_1, d.before a0 Z = true) (ws : List Jvm.Cond) (a1 : Addr) (p1 : Int32) (b1 : Addr) (bk : ClassId) (cs : Int32) (G3 : Value) (h0 : Heap) (n0 : Nat) (Z0 : n0 ≤ h0.size) (S_c : Sta Z h0 "java/lang/String" "COMPACT_STRINGS" "Z" (.int cs)) (hcs : ¬ cs = 0) (E_a : Exa Z h0 a1 "java/lang/String") (F_v : Fld Z h0 a1 "java/lang/String" "value" "[B" (.ref b1)) (F_c : Fld Z h0 a1 "java/lang/String" "coder" "B" (.int (0 : Int32))) (V_b : Arv Z h0 b1 bk .byte (1 : Int32) [(.int (61 : Int32))] (.int (0 : Int32))) (S_f : Sta Z h0 "jdk/internal/util/Preconditions" "SIOOBE_FORMATTER" "Ljava/util/function/BiFunction;" G3) (rG3 : G3.isRef = true) :
    OMet l Z (⟨"com/example/porthcurno/porthcurno/core/RelationHoldsPinLaw", "expected", "(Ljava/lang/String;I)Z"⟩ : MethodName) method_2_code 7 (some .boolean) ws ({ frames := 4, cells := 0, slots := 0, locals := 53 } : Room) #[(.ref a1), (.int p1)] h0 (Q3_0 Z a1 p1 b1 bk cs G3 h0 n0) := by
  refine own_body (plainFor_of_name pn_com_example_porthcurno_porthcurno_core_RelationHoldsPinLaw) ?_
  intro p e s m below meth c s₁ Bd hml0 hZ e0
  have hx := Bd.exec
  have hby := Bd.bytes
  have hml : c.maxLocals = 7 := hml0
  have hown : s.vm.findClass "com/example/porthcurno/porthcurno/core/RelationHoldsPinLaw" = some m.cls := findClass_of_methodNamed Bd.named
  have hnm := (name_of_methodNamed Bd.named Bd.method).1
  have X0 : Stand p l e ({ frames := 4, cells := 0, slots := 0, locals := 53 } : Room) s m #[(.ref a1), (.int p1)] below meth c s₁ [] 0 0 := Stand.of_body Bd
  have N0 := Fr.nil n0
  have K0 : Keep h0 h0 [] := Keep.refl _ _
  rw [ef_rm3_0]
  obtain ⟨v101, T101, L101, X101, q101, st101⟩ := own_callV X0 hx hZ (y := (⟨"java/lang/String", "charAt", "(I)C"⟩ : MethodName)) (z := (⟨"java/lang/String", "charAt", "(I)C"⟩ : MethodName)) hown (hw _ (List.mem_of_getElem? (i := 37) rfl)) (hw _ (List.mem_of_getElem? (i := 38) rfl)) (notFace_of_selects (args := #[]) (mvT hZ (hw _ (List.mem_of_getElem? (i := 40) rfl)))) (hw _ (List.mem_of_getElem? (i := 40) rfl)) (hw _ (List.mem_of_getElem? (i := 39) rfl)) (hw _ (List.mem_of_getElem? (i := 41) rfl)) (hw _ (List.mem_of_getElem? (i := 42) rfl)) (by decide) E_a (hM := (rm4 l Z a0 hw [] a1 (0 : Int32) b1 bk (1 : Int32) [(.int (61 : Int32))] (61 : Int32) (61 : Int32) cs G3 h0 n0 Z0 S_c hcs E_a F_v F_c V_b S_f rG3 (by decide) (by decide) rfl (by decide))) (by decide) (by decide) (by decide) (by decide) e0 (argsL := [(.int (0 : Int32))]) (rest := []) (Ls := #[.val (.ref a1), .val (.int p1), .unset, .unset, .unset, .unset, .unset]) (by rw [hml]; rfl) (lenOf pd__I_C rfl) (W := 0) (Nat.le_of_eq rfl) (hb hby d3_2)
  obtain ⟨rfl, N101q, e101⟩ := q101
  have N101 := Fr.app N0 N101q
  obtain ⟨v102, T102, L102, X102, q102, st102⟩ := own_callV X101 hx hZ (y := (⟨"java/lang/String", "length", "()I"⟩ : MethodName)) (z := (⟨"java/lang/String", "length", "()I"⟩ : MethodName)) hown (hw _ (List.mem_of_getElem? (i := 65) rfl)) (hw _ (List.mem_of_getElem? (i := 66) rfl)) (notFace_of_selects (args := #[]) (mvT hZ (hw _ (List.mem_of_getElem? (i := 68) rfl)))) (hw _ (List.mem_of_getElem? (i := 68) rfl)) (hw _ (List.mem_of_getElem? (i := 67) rfl)) (hw _ (List.mem_of_getElem? (i := 41) rfl)) (hw _ (List.mem_of_getElem? (i := 69) rfl)) (by decide) E_a (hM := (rm9 l Z a0 hw [] a1 b1 bk (1 : Int32) [(.int (61 : Int32))] cs h0 n0 Z0 S_c hcs E_a F_v F_c V_b)) (by decide) (by decide) (by decide) (by decide) e101 (argsL := []) (rest := []) (Ls := #[.val (.ref a1), .val (.int p1), .val (.int (61 : Int32)), .val (.int (0 : Int32)), .val (.int (0 : Int32)), .val (.int (1 : Int32)), .unset]) (by rw [hml]; rfl) (lenOf pd___I rfl) (W := 0) (Nat.le_of_eq rfl) (hb hby d3_45)
  obtain ⟨rfl, N102q, e102⟩ := q102
  have N102 := Fr.app N101 N102q
  refine Gl.pre (S' := T102.setTop (mkF m 137 #[.val (.ref a1), .val (.int p1), .val (.int (61 : Int32)), .val (.int (0 : Int32)), .val (.int (0 : Int32)), .val (.int (1 : Int32)), .unset] [(.int p1)])) (fun t kt => ?_) ?_
  · show Steps p.tables e below (s₁.setTop (mkF m 0 #[.val (.ref a1), .val (.int p1), .unset, .unset, .unset, .unset, .unset] [])) _
    refine XS.aloadN X0.here hx rfl (hb hby d3_0) rfl rfl ?_
    show Steps p.tables e below (s₁.setTop (mkF m 1 #[.val (.ref a1), .val (.int p1), .unset, .unset, .unset, .unset, .unset] [(.ref a1)])) _
    refine XS.iconst X0.here hx rfl (hb hby d3_1) ?_
    show Steps p.tables e below (s₁.setTop (mkF m 2 #[.val (.ref a1), .val (.int p1), .unset, .unset, .unset, .unset, .unset] [(.int (0 : Int32)), (.ref a1)])) _
    refine st101 _ ?_
    show Steps p.tables e below (T101.setTop (mkF m 5 #[.val (.ref a1), .val (.int p1), .unset, .unset, .unset, .unset, .unset] [(.int (61 : Int32))])) _
    refine XS.istoreN X101.here hx rfl (hb hby d3_5) rfl (l' := #[.val (.ref a1), .val (.int p1), .val (.int (61 : Int32)), .unset, .unset, .unset, .unset]) rfl ?_
    show Steps p.tables e below (T101.setTop (mkF m 6 #[.val (.ref a1), .val (.int p1), .val (.int (61 : Int32)), .unset, .unset, .unset, .unset] [])) _
    refine XS.iloadN X101.here hx rfl (hb hby d3_6) rfl ?_
    show Steps p.tables e below (T101.setTop (mkF m 7 #[.val (.ref a1), .val (.int p1), .val (.int (61 : Int32)), .unset, .unset, .unset, .unset] [(.int (61 : Int32))])) _
    refine XS.bipush X101.here hx rfl (hb hby d3_7) ?_
    show Steps p.tables e below (T101.setTop (mkF m 9 #[.val (.ref a1), .val (.int p1), .val (.int (61 : Int32)), .unset, .unset, .unset, .unset] [(.int (60 : Int32)), (.int (61 : Int32))])) _
    refine XS.icmpYes X101.here hx rfl (pc0 := 9) (pc' := 16) rfl (hb hby d3_9) rfl (own_nt (ic_ne _ _) (by decide)) (by decide) (by decide) ?_
    show Steps p.tables e below (T101.setTop (mkF m 16 #[.val (.ref a1), .val (.int p1), .val (.int (61 : Int32)), .unset, .unset, .unset, .unset] [])) _
    refine XS.iconst X101.here hx rfl (hb hby d3_16) ?_
    show Steps p.tables e below (T101.setTop (mkF m 17 #[.val (.ref a1), .val (.int p1), .val (.int (61 : Int32)), .unset, .unset, .unset, .unset] [(.int (0 : Int32))])) _
    refine XS.istoreN X101.here hx rfl (hb hby d3_17) rfl (l' := #[.val (.ref a1), .val (.int p1), .val (.int (61 : Int32)), .val (.int (0 : Int32)), .unset, .unset, .unset]) rfl ?_
    show Steps p.tables e below (T101.setTop (mkF m 18 #[.val (.ref a1), .val (.int p1), .val (.int (61 : Int32)), .val (.int (0 : Int32)), .unset, .unset, .unset] [])) _
    refine XS.iloadN X101.here hx rfl (hb hby d3_18) rfl ?_
    show Steps p.tables e below (T101.setTop (mkF m 19 #[.val (.ref a1), .val (.int p1), .val (.int (61 : Int32)), .val (.int (0 : Int32)), .unset, .unset, .unset] [(.int (61 : Int32))])) _
    refine XS.bipush X101.here hx rfl (hb hby d3_19) ?_
    show Steps p.tables e below (T101.setTop (mkF m 21 #[.val (.ref a1), .val (.int p1), .val (.int (61 : Int32)), .val (.int (0 : Int32)), .unset, .unset, .unset] [(.int (62 : Int32)), (.int (61 : Int32))])) _
    refine XS.icmpYes X101.here hx rfl (pc0 := 21) (pc' := 28) rfl (hb hby d3_21) rfl (own_nt (ic_ne _ _) (by decide)) (by decide) (by decide) ?_
    show Steps p.tables e below (T101.setTop (mkF m 28 #[.val (.ref a1), .val (.int p1), .val (.int (61 : Int32)), .val (.int (0 : Int32)), .unset, .unset, .unset] [])) _
    refine XS.iconst X101.here hx rfl (hb hby d3_28) ?_
    show Steps p.tables e below (T101.setTop (mkF m 29 #[.val (.ref a1), .val (.int p1), .val (.int (61 : Int32)), .val (.int (0 : Int32)), .unset, .unset, .unset] [(.int (0 : Int32))])) _
    refine XS.istore X101.here hx rfl (hb hby d3_29) rfl (l' := #[.val (.ref a1), .val (.int p1), .val (.int (61 : Int32)), .val (.int (0 : Int32)), .val (.int (0 : Int32)), .unset, .unset]) rfl ?_
    show Steps p.tables e below (T101.setTop (mkF m 31 #[.val (.ref a1), .val (.int p1), .val (.int (61 : Int32)), .val (.int (0 : Int32)), .val (.int (0 : Int32)), .unset, .unset] [])) _
    refine XS.iloadN X101.here hx rfl (hb hby d3_31) rfl ?_
    show Steps p.tables e below (T101.setTop (mkF m 32 #[.val (.ref a1), .val (.int p1), .val (.int (61 : Int32)), .val (.int (0 : Int32)), .val (.int (0 : Int32)), .unset, .unset] [(.int (61 : Int32))])) _
    refine XS.bipush X101.here hx rfl (hb hby d3_32) ?_
    show Steps p.tables e below (T101.setTop (mkF m 34 #[.val (.ref a1), .val (.int p1), .val (.int (61 : Int32)), .val (.int (0 : Int32)), .val (.int (0 : Int32)), .unset, .unset] [(.int (61 : Int32)), (.int (61 : Int32))])) _
    refine XS.icmpNo X101.here hx rfl (hb hby d3_34) rfl (own_nf (ic_ne _ _) (by decide)) ?_
    show Steps p.tables e below (T101.setTop (mkF m 37 #[.val (.ref a1), .val (.int p1), .val (.int (61 : Int32)), .val (.int (0 : Int32)), .val (.int (0 : Int32)), .unset, .unset] [])) _
    refine XS.iconst X101.here hx rfl (hb hby d3_37) ?_
    show Steps p.tables e below (T101.setTop (mkF m 38 #[.val (.ref a1), .val (.int p1), .val (.int (61 : Int32)), .val (.int (0 : Int32)), .val (.int (0 : Int32)), .unset, .unset] [(.int (1 : Int32))])) _
    refine XS.goto X101.here hx rfl (pc0 := 38) (pc' := 42) rfl (hb hby d3_38) (by decide) (by decide) ?_
    show Steps p.tables e below (T101.setTop (mkF m 42 #[.val (.ref a1), .val (.int p1), .val (.int (61 : Int32)), .val (.int (0 : Int32)), .val (.int (0 : Int32)), .unset, .unset] [(.int (1 : Int32))])) _
    refine XS.istore X101.here hx rfl (hb hby d3_42) rfl (l' := #[.val (.ref a1), .val (.int p1), .val (.int (61 : Int32)), .val (.int (0 : Int32)), .val (.int (0 : Int32)), .val (.int (1 : Int32)), .unset]) rfl ?_
    show Steps p.tables e below (T101.setTop (mkF m 44 #[.val (.ref a1), .val (.int p1), .val (.int (61 : Int32)), .val (.int (0 : Int32)), .val (.int (0 : Int32)), .val (.int (1 : Int32)), .unset] [])) _
    refine XS.aloadN X101.here hx rfl (hb hby d3_44) rfl rfl ?_
    show Steps p.tables e below (T101.setTop (mkF m 45 #[.val (.ref a1), .val (.int p1), .val (.int (61 : Int32)), .val (.int (0 : Int32)), .val (.int (0 : Int32)), .val (.int (1 : Int32)), .unset] [(.ref a1)])) _
    refine st102 _ ?_
    show Steps p.tables e below (T102.setTop (mkF m 48 #[.val (.ref a1), .val (.int p1), .val (.int (61 : Int32)), .val (.int (0 : Int32)), .val (.int (0 : Int32)), .val (.int (1 : Int32)), .unset] [(.int (1 : Int32))])) _
    refine XS.iconst X102.here hx rfl (hb hby d3_48) ?_
    show Steps p.tables e below (T102.setTop (mkF m 49 #[.val (.ref a1), .val (.int p1), .val (.int (61 : Int32)), .val (.int (0 : Int32)), .val (.int (0 : Int32)), .val (.int (1 : Int32)), .unset] [(.int (1 : Int32)), (.int (1 : Int32))])) _
    refine XS.icmpYes X102.here hx rfl (pc0 := 49) (pc' := 114) rfl (hb hby d3_49) rfl (own_nt (ic_le _ _) (by decide)) (by decide) (by decide) ?_
    show Steps p.tables e below (T102.setTop (mkF m 114 #[.val (.ref a1), .val (.int p1), .val (.int (61 : Int32)), .val (.int (0 : Int32)), .val (.int (0 : Int32)), .val (.int (1 : Int32)), .unset] [])) _
    refine XS.iloadN X102.here hx rfl (hb hby d3_114) rfl ?_
    show Steps p.tables e below (T102.setTop (mkF m 115 #[.val (.ref a1), .val (.int p1), .val (.int (61 : Int32)), .val (.int (0 : Int32)), .val (.int (0 : Int32)), .val (.int (1 : Int32)), .unset] [(.int (0 : Int32))])) _
    refine XS.ifYes X102.here hx rfl (pc0 := 115) (pc' := 122) rfl (hb hby d3_115) rfl (own_t (i0_eq _) (by decide)) (by decide) (by decide) ?_
    show Steps p.tables e below (T102.setTop (mkF m 122 #[.val (.ref a1), .val (.int p1), .val (.int (61 : Int32)), .val (.int (0 : Int32)), .val (.int (0 : Int32)), .val (.int (1 : Int32)), .unset] [])) _
    refine XS.iload X102.here hx rfl (hb hby d3_122) rfl ?_
    show Steps p.tables e below (T102.setTop (mkF m 124 #[.val (.ref a1), .val (.int p1), .val (.int (61 : Int32)), .val (.int (0 : Int32)), .val (.int (0 : Int32)), .val (.int (1 : Int32)), .unset] [(.int (0 : Int32))])) _
    refine XS.ifYes X102.here hx rfl (pc0 := 124) (pc' := 131) rfl (hb hby d3_124) rfl (own_t (i0_eq _) (by decide)) (by decide) (by decide) ?_
    show Steps p.tables e below (T102.setTop (mkF m 131 #[.val (.ref a1), .val (.int p1), .val (.int (61 : Int32)), .val (.int (0 : Int32)), .val (.int (0 : Int32)), .val (.int (1 : Int32)), .unset] [])) _
    refine XS.iload X102.here hx rfl (hb hby d3_131) rfl ?_
    show Steps p.tables e below (T102.setTop (mkF m 133 #[.val (.ref a1), .val (.int p1), .val (.int (61 : Int32)), .val (.int (0 : Int32)), .val (.int (0 : Int32)), .val (.int (1 : Int32)), .unset] [(.int (1 : Int32))])) _
    refine XS.ifNo X102.here hx rfl (hb hby d3_133) rfl (own_f (i0_eq _) (by decide)) ?_
    show Steps p.tables e below (T102.setTop (mkF m 136 #[.val (.ref a1), .val (.int p1), .val (.int (61 : Int32)), .val (.int (0 : Int32)), .val (.int (0 : Int32)), .val (.int (1 : Int32)), .unset] [])) _
    refine XS.iloadN X102.here hx rfl (hb hby d3_136) rfl ?_
    exact kt
  by_cases hc137 : p1 = (0 : Int32)
  · refine Gl.fin X102 (v := some (.int (1 : Int32))) (fun h => by rw [Bd.returns] at h; cases h) Bd.notSynchronized ?_ e102 (by decide) (by decide) (fun fs hr => ?_)
    · exact ⟨congrArg (fun z => some (Value.int z)) (b2i_t (decide_eq_true (by simp only [Int32.lt_iff_toInt_lt, ← Int32.toInt_inj, own_z32] at hc137 ⊢; omega))).symm, N102, rfl⟩
    · show Steps p.tables e below (T102.setTop (mkF m 137 #[.val (.ref a1), .val (.int p1), .val (.int (61 : Int32)), .val (.int (0 : Int32)), .val (.int (0 : Int32)), .val (.int (1 : Int32)), .unset] [(.int p1)])) _
      refine XS.ifNo X102.here hx rfl (hb hby d3_137) rfl (own_nf (i0_ne _) hc137) ?_
      show Steps p.tables e below (T102.setTop (mkF m 140 #[.val (.ref a1), .val (.int p1), .val (.int (61 : Int32)), .val (.int (0 : Int32)), .val (.int (0 : Int32)), .val (.int (1 : Int32)), .unset] [])) _
      refine XS.iconst X102.here hx rfl (hb hby d3_140) ?_
      show Steps p.tables e below (T102.setTop (mkF m 141 #[.val (.ref a1), .val (.int p1), .val (.int (61 : Int32)), .val (.int (0 : Int32)), .val (.int (0 : Int32)), .val (.int (1 : Int32)), .unset] [(.int (1 : Int32))])) _
      refine XS.goto X102.here hx rfl (pc0 := 141) (pc' := 145) rfl (hb hby d3_141) (by decide) (by decide) ?_
      show Steps p.tables e below (T102.setTop (mkF m 145 #[.val (.ref a1), .val (.int p1), .val (.int (61 : Int32)), .val (.int (0 : Int32)), .val (.int (0 : Int32)), .val (.int (1 : Int32)), .unset] [(.int (1 : Int32))])) _
      exact retN X102 hx (t := .boolean) Bd.returns (by simp) (hb hby d3_145) hr
  · refine Gl.fin X102 (v := some (.int (0 : Int32))) (fun h => by rw [Bd.returns] at h; cases h) Bd.notSynchronized ?_ e102 (by decide) (by decide) (fun fs hr => ?_)
    · exact ⟨congrArg (fun z => some (Value.int z)) (b2i_f (decide_eq_false (by simp only [Int32.lt_iff_toInt_lt, ← Int32.toInt_inj, own_z32] at hc137 ⊢; omega))).symm, N102, rfl⟩
    · show Steps p.tables e below (T102.setTop (mkF m 137 #[.val (.ref a1), .val (.int p1), .val (.int (61 : Int32)), .val (.int (0 : Int32)), .val (.int (0 : Int32)), .val (.int (1 : Int32)), .unset] [(.int p1)])) _
      refine XS.ifYes X102.here hx rfl (pc0 := 137) (pc' := 144) rfl (hb hby d3_137) rfl (own_nt (i0_ne _) hc137) (by decide) (by decide) ?_
      show Steps p.tables e below (T102.setTop (mkF m 144 #[.val (.ref a1), .val (.int p1), .val (.int (61 : Int32)), .val (.int (0 : Int32)), .val (.int (0 : Int32)), .val (.int (1 : Int32)), .unset] [])) _
      refine XS.iconst X102.here hx rfl (hb hby d3_144) ?_
      show Steps p.tables e below (T102.setTop (mkF m 145 #[.val (.ref a1), .val (.int p1), .val (.int (61 : Int32)), .val (.int (0 : Int32)), .val (.int (0 : Int32)), .val (.int (1 : Int32)), .unset] [(.int (0 : Int32))])) _
      exact retN X102 hx (t := .boolean) Bd.returns (by simp) (hb hby d3_145) hr
theorem ef_rm3_1 (m : MethodId) (x0 : Addr) (x1 : Int32) : entryFrame m #[(.ref x0), (.int x1)] 7 = mkF m 0 #[.val (.ref x0), .val (.int x1), .unset, .unset, .unset, .unset, .unset] [] := by first | (simp [entryFrame, mkF, argsToLocals, Value.category]; done) | rfl
theorem d3_12 : decode method_2_code 12 = .ok (.iconst 1, 1) := by decide +kernel
theorem d3_13 : decode method_2_code 13 = .ok (.goto 4, 3) := by decide +kernel
theorem d3_41 : decode method_2_code 41 = .ok (.iconst 0, 1) := by decide +kernel
theorem d3_52 : decode method_2_code 52 = .ok (.aload_n 0, 1) := by decide +kernel
theorem d3_53 : decode method_2_code 53 = .ok (.iconst 1, 1) := by decide +kernel
theorem d3_54 : decode method_2_code 54 = .ok (.invokevirtual 7, 3) := by decide +kernel
theorem d3_57 : decode method_2_code 57 = .ok (.istore 6, 2) := by decide +kernel
theorem d3_59 : decode method_2_code 59 = .ok (.iload_n 3, 1) := by decide +kernel
theorem d3_60 : decode method_2_code 60 = .ok (.ifCond .ne 10, 3) := by decide +kernel
theorem d3_70 : decode method_2_code 70 = .ok (.iconst 1, 1) := by decide +kernel
theorem d3_71 : decode method_2_code 71 = .ok (.goto 4, 3) := by decide +kernel
theorem d3_75 : decode method_2_code 75 = .ok (.istore_n 3, 1) := by decide +kernel
theorem d3_76 : decode method_2_code 76 = .ok (.iload 4, 2) := by decide +kernel
theorem d3_78 : decode method_2_code 78 = .ok (.ifCond .ne 10, 3) := by decide +kernel
theorem d3_81 : decode method_2_code 81 = .ok (.iload 6, 2) := by decide +kernel
theorem d3_83 : decode method_2_code 83 = .ok (.bipush 62, 2) := by decide +kernel
theorem d3_85 : decode method_2_code 85 = .ok (.if_icmp .ne 7, 3) := by decide +kernel
theorem d3_88 : decode method_2_code 88 = .ok (.iconst 1, 1) := by decide +kernel
theorem d3_89 : decode method_2_code 89 = .ok (.goto 4, 3) := by decide +kernel
theorem d3_93 : decode method_2_code 93 = .ok (.istore 4, 2) := by decide +kernel
theorem d3_95 : decode method_2_code 95 = .ok (.iload 5, 2) := by decide +kernel
theorem d3_97 : decode method_2_code 97 = .ok (.ifCond .ne 10, 3) := by decide +kernel
theorem d3_100 : decode method_2_code 100 = .ok (.iload 6, 2) := by decide +kernel
theorem d3_102 : decode method_2_code 102 = .ok (.bipush 61, 2) := by decide +kernel
theorem d3_104 : decode method_2_code 104 = .ok (.if_icmp .ne 7, 3) := by decide +kernel
theorem d3_111 : decode method_2_code 111 = .ok (.iconst 0, 1) := by decide +kernel
theorem d3_112 : decode method_2_code 112 = .ok (.istore 5, 2) := by decide +kernel
theorem d3_118 : decode method_2_code 118 = .ok (.iload_n 1, 1) := by decide +kernel
theorem d3_119 : decode method_2_code 119 = .ok (.ifCond .lt 21, 3) := by decide +kernel
theorem d3_127 : decode method_2_code 127 = .ok (.iload_n 1, 1) := by decide +kernel
theorem d3_128 : decode method_2_code 128 = .ok (.ifCond .gt 12, 3) := by decide +kernel
def Q3_1 (Z : State) (a1 : Addr) (p1 : Int32) (b1 : Addr) (bk : ClassId) (cs : Int32) (G3 : Value) (h0 : Heap) (n0 : Nat) (v : Option Value) (h : Heap) (L : List Loc) : Prop := v = some (.int (b2i (decide (¬ p1 = 0)))) ∧ Fr n0 L ∧ h = h0
set_option maxRecDepth 65536 in
set_option maxHeartbeats 40000000 in
theorem rm3_1 (l : Launch) (Z : State) (a0 : Array Value) (hw : ∀ d ∈ tables_1, d.before a0 Z = true) (ws : List Jvm.Cond) (a1 : Addr) (p1 : Int32) (b1 : Addr) (bk : ClassId) (cs : Int32) (G3 : Value) (h0 : Heap) (n0 : Nat) (Z0 : n0 ≤ h0.size) (S_c : Sta Z h0 "java/lang/String" "COMPACT_STRINGS" "Z" (.int cs)) (hcs : ¬ cs = 0) (E_a : Exa Z h0 a1 "java/lang/String") (F_v : Fld Z h0 a1 "java/lang/String" "value" "[B" (.ref b1)) (F_c : Fld Z h0 a1 "java/lang/String" "coder" "B" (.int (0 : Int32))) (V_b : Arv Z h0 b1 bk .byte (2 : Int32) [(.int (60 : Int32)), (.int (62 : Int32))] (.int (0 : Int32))) (S_f : Sta Z h0 "jdk/internal/util/Preconditions" "SIOOBE_FORMATTER" "Ljava/util/function/BiFunction;" G3) (rG3 : G3.isRef = true) :
    OMet l Z (⟨"com/example/porthcurno/porthcurno/core/RelationHoldsPinLaw", "expected", "(Ljava/lang/String;I)Z"⟩ : MethodName) method_2_code 7 (some .boolean) ws ({ frames := 4, cells := 0, slots := 0, locals := 53 } : Room) #[(.ref a1), (.int p1)] h0 (Q3_1 Z a1 p1 b1 bk cs G3 h0 n0) := by
  refine own_body (plainFor_of_name pn_com_example_porthcurno_porthcurno_core_RelationHoldsPinLaw) ?_
  intro p e s m below meth c s₁ Bd hml0 hZ e0
  have hx := Bd.exec
  have hby := Bd.bytes
  have hml : c.maxLocals = 7 := hml0
  have hown : s.vm.findClass "com/example/porthcurno/porthcurno/core/RelationHoldsPinLaw" = some m.cls := findClass_of_methodNamed Bd.named
  have hnm := (name_of_methodNamed Bd.named Bd.method).1
  have X0 : Stand p l e ({ frames := 4, cells := 0, slots := 0, locals := 53 } : Room) s m #[(.ref a1), (.int p1)] below meth c s₁ [] 0 0 := Stand.of_body Bd
  have N0 := Fr.nil n0
  have K0 : Keep h0 h0 [] := Keep.refl _ _
  rw [ef_rm3_1]
  obtain ⟨v101, T101, L101, X101, q101, st101⟩ := own_callV X0 hx hZ (y := (⟨"java/lang/String", "charAt", "(I)C"⟩ : MethodName)) (z := (⟨"java/lang/String", "charAt", "(I)C"⟩ : MethodName)) hown (hw _ (List.mem_of_getElem? (i := 37) rfl)) (hw _ (List.mem_of_getElem? (i := 38) rfl)) (notFace_of_selects (args := #[]) (mvT hZ (hw _ (List.mem_of_getElem? (i := 40) rfl)))) (hw _ (List.mem_of_getElem? (i := 40) rfl)) (hw _ (List.mem_of_getElem? (i := 39) rfl)) (hw _ (List.mem_of_getElem? (i := 41) rfl)) (hw _ (List.mem_of_getElem? (i := 42) rfl)) (by decide) E_a (hM := (rm4 l Z a0 hw [] a1 (0 : Int32) b1 bk (2 : Int32) [(.int (60 : Int32)), (.int (62 : Int32))] (60 : Int32) (60 : Int32) cs G3 h0 n0 Z0 S_c hcs E_a F_v F_c V_b S_f rG3 (by decide) (by decide) rfl (by decide))) (by decide) (by decide) (by decide) (by decide) e0 (argsL := [(.int (0 : Int32))]) (rest := []) (Ls := #[.val (.ref a1), .val (.int p1), .unset, .unset, .unset, .unset, .unset]) (by rw [hml]; rfl) (lenOf pd__I_C rfl) (W := 0) (Nat.le_of_eq rfl) (hb hby d3_2)
  obtain ⟨rfl, N101q, e101⟩ := q101
  have N101 := Fr.app N0 N101q
  obtain ⟨v102, T102, L102, X102, q102, st102⟩ := own_callV X101 hx hZ (y := (⟨"java/lang/String", "length", "()I"⟩ : MethodName)) (z := (⟨"java/lang/String", "length", "()I"⟩ : MethodName)) hown (hw _ (List.mem_of_getElem? (i := 65) rfl)) (hw _ (List.mem_of_getElem? (i := 66) rfl)) (notFace_of_selects (args := #[]) (mvT hZ (hw _ (List.mem_of_getElem? (i := 68) rfl)))) (hw _ (List.mem_of_getElem? (i := 68) rfl)) (hw _ (List.mem_of_getElem? (i := 67) rfl)) (hw _ (List.mem_of_getElem? (i := 41) rfl)) (hw _ (List.mem_of_getElem? (i := 69) rfl)) (by decide) E_a (hM := (rm9 l Z a0 hw [] a1 b1 bk (2 : Int32) [(.int (60 : Int32)), (.int (62 : Int32))] cs h0 n0 Z0 S_c hcs E_a F_v F_c V_b)) (by decide) (by decide) (by decide) (by decide) e101 (argsL := []) (rest := []) (Ls := #[.val (.ref a1), .val (.int p1), .val (.int (60 : Int32)), .val (.int (1 : Int32)), .val (.int (0 : Int32)), .val (.int (0 : Int32)), .unset]) (by rw [hml]; rfl) (lenOf pd___I rfl) (W := 0) (Nat.le_of_eq rfl) (hb hby d3_45)
  obtain ⟨rfl, N102q, e102⟩ := q102
  have N102 := Fr.app N101 N102q
  obtain ⟨v103, T103, L103, X103, q103, st103⟩ := own_callV X102 hx hZ (y := (⟨"java/lang/String", "charAt", "(I)C"⟩ : MethodName)) (z := (⟨"java/lang/String", "charAt", "(I)C"⟩ : MethodName)) hown (hw _ (List.mem_of_getElem? (i := 37) rfl)) (hw _ (List.mem_of_getElem? (i := 38) rfl)) (notFace_of_selects (args := #[]) (mvT hZ (hw _ (List.mem_of_getElem? (i := 40) rfl)))) (hw _ (List.mem_of_getElem? (i := 40) rfl)) (hw _ (List.mem_of_getElem? (i := 39) rfl)) (hw _ (List.mem_of_getElem? (i := 41) rfl)) (hw _ (List.mem_of_getElem? (i := 42) rfl)) (by decide) E_a (hM := (rm4 l Z a0 hw [] a1 (1 : Int32) b1 bk (2 : Int32) [(.int (60 : Int32)), (.int (62 : Int32))] (62 : Int32) (62 : Int32) cs G3 h0 n0 Z0 S_c hcs E_a F_v F_c V_b S_f rG3 (by decide) (by decide) rfl (by decide))) (by decide) (by decide) (by decide) (by decide) e102 (argsL := [(.int (1 : Int32))]) (rest := []) (Ls := #[.val (.ref a1), .val (.int p1), .val (.int (60 : Int32)), .val (.int (1 : Int32)), .val (.int (0 : Int32)), .val (.int (0 : Int32)), .unset]) (by rw [hml]; rfl) (lenOf pd__I_C rfl) (W := 0) (Nat.le_of_eq rfl) (hb hby d3_54)
  obtain ⟨rfl, N103q, e103⟩ := q103
  have N103 := Fr.app N102 N103q
  refine Gl.pre (S' := T103.setTop (mkF m 71 #[.val (.ref a1), .val (.int p1), .val (.int (60 : Int32)), .val (.int (1 : Int32)), .val (.int (0 : Int32)), .val (.int (0 : Int32)), .val (.int (62 : Int32))] [(.int (1 : Int32))])) (fun t kt => ?_) ?_
  · show Steps p.tables e below (s₁.setTop (mkF m 0 #[.val (.ref a1), .val (.int p1), .unset, .unset, .unset, .unset, .unset] [])) _
    refine XS.aloadN X0.here hx rfl (hb hby d3_0) rfl rfl ?_
    show Steps p.tables e below (s₁.setTop (mkF m 1 #[.val (.ref a1), .val (.int p1), .unset, .unset, .unset, .unset, .unset] [(.ref a1)])) _
    refine XS.iconst X0.here hx rfl (hb hby d3_1) ?_
    show Steps p.tables e below (s₁.setTop (mkF m 2 #[.val (.ref a1), .val (.int p1), .unset, .unset, .unset, .unset, .unset] [(.int (0 : Int32)), (.ref a1)])) _
    refine st101 _ ?_
    show Steps p.tables e below (T101.setTop (mkF m 5 #[.val (.ref a1), .val (.int p1), .unset, .unset, .unset, .unset, .unset] [(.int (60 : Int32))])) _
    refine XS.istoreN X101.here hx rfl (hb hby d3_5) rfl (l' := #[.val (.ref a1), .val (.int p1), .val (.int (60 : Int32)), .unset, .unset, .unset, .unset]) rfl ?_
    show Steps p.tables e below (T101.setTop (mkF m 6 #[.val (.ref a1), .val (.int p1), .val (.int (60 : Int32)), .unset, .unset, .unset, .unset] [])) _
    refine XS.iloadN X101.here hx rfl (hb hby d3_6) rfl ?_
    show Steps p.tables e below (T101.setTop (mkF m 7 #[.val (.ref a1), .val (.int p1), .val (.int (60 : Int32)), .unset, .unset, .unset, .unset] [(.int (60 : Int32))])) _
    refine XS.bipush X101.here hx rfl (hb hby d3_7) ?_
    show Steps p.tables e below (T101.setTop (mkF m 9 #[.val (.ref a1), .val (.int p1), .val (.int (60 : Int32)), .unset, .unset, .unset, .unset] [(.int (60 : Int32)), (.int (60 : Int32))])) _
    refine XS.icmpNo X101.here hx rfl (hb hby d3_9) rfl (own_nf (ic_ne _ _) (by decide)) ?_
    show Steps p.tables e below (T101.setTop (mkF m 12 #[.val (.ref a1), .val (.int p1), .val (.int (60 : Int32)), .unset, .unset, .unset, .unset] [])) _
    refine XS.iconst X101.here hx rfl (hb hby d3_12) ?_
    show Steps p.tables e below (T101.setTop (mkF m 13 #[.val (.ref a1), .val (.int p1), .val (.int (60 : Int32)), .unset, .unset, .unset, .unset] [(.int (1 : Int32))])) _
    refine XS.goto X101.here hx rfl (pc0 := 13) (pc' := 17) rfl (hb hby d3_13) (by decide) (by decide) ?_
    show Steps p.tables e below (T101.setTop (mkF m 17 #[.val (.ref a1), .val (.int p1), .val (.int (60 : Int32)), .unset, .unset, .unset, .unset] [(.int (1 : Int32))])) _
    refine XS.istoreN X101.here hx rfl (hb hby d3_17) rfl (l' := #[.val (.ref a1), .val (.int p1), .val (.int (60 : Int32)), .val (.int (1 : Int32)), .unset, .unset, .unset]) rfl ?_
    show Steps p.tables e below (T101.setTop (mkF m 18 #[.val (.ref a1), .val (.int p1), .val (.int (60 : Int32)), .val (.int (1 : Int32)), .unset, .unset, .unset] [])) _
    refine XS.iloadN X101.here hx rfl (hb hby d3_18) rfl ?_
    show Steps p.tables e below (T101.setTop (mkF m 19 #[.val (.ref a1), .val (.int p1), .val (.int (60 : Int32)), .val (.int (1 : Int32)), .unset, .unset, .unset] [(.int (60 : Int32))])) _
    refine XS.bipush X101.here hx rfl (hb hby d3_19) ?_
    show Steps p.tables e below (T101.setTop (mkF m 21 #[.val (.ref a1), .val (.int p1), .val (.int (60 : Int32)), .val (.int (1 : Int32)), .unset, .unset, .unset] [(.int (62 : Int32)), (.int (60 : Int32))])) _
    refine XS.icmpYes X101.here hx rfl (pc0 := 21) (pc' := 28) rfl (hb hby d3_21) rfl (own_nt (ic_ne _ _) (by decide)) (by decide) (by decide) ?_
    show Steps p.tables e below (T101.setTop (mkF m 28 #[.val (.ref a1), .val (.int p1), .val (.int (60 : Int32)), .val (.int (1 : Int32)), .unset, .unset, .unset] [])) _
    refine XS.iconst X101.here hx rfl (hb hby d3_28) ?_
    show Steps p.tables e below (T101.setTop (mkF m 29 #[.val (.ref a1), .val (.int p1), .val (.int (60 : Int32)), .val (.int (1 : Int32)), .unset, .unset, .unset] [(.int (0 : Int32))])) _
    refine XS.istore X101.here hx rfl (hb hby d3_29) rfl (l' := #[.val (.ref a1), .val (.int p1), .val (.int (60 : Int32)), .val (.int (1 : Int32)), .val (.int (0 : Int32)), .unset, .unset]) rfl ?_
    show Steps p.tables e below (T101.setTop (mkF m 31 #[.val (.ref a1), .val (.int p1), .val (.int (60 : Int32)), .val (.int (1 : Int32)), .val (.int (0 : Int32)), .unset, .unset] [])) _
    refine XS.iloadN X101.here hx rfl (hb hby d3_31) rfl ?_
    show Steps p.tables e below (T101.setTop (mkF m 32 #[.val (.ref a1), .val (.int p1), .val (.int (60 : Int32)), .val (.int (1 : Int32)), .val (.int (0 : Int32)), .unset, .unset] [(.int (60 : Int32))])) _
    refine XS.bipush X101.here hx rfl (hb hby d3_32) ?_
    show Steps p.tables e below (T101.setTop (mkF m 34 #[.val (.ref a1), .val (.int p1), .val (.int (60 : Int32)), .val (.int (1 : Int32)), .val (.int (0 : Int32)), .unset, .unset] [(.int (61 : Int32)), (.int (60 : Int32))])) _
    refine XS.icmpYes X101.here hx rfl (pc0 := 34) (pc' := 41) rfl (hb hby d3_34) rfl (own_nt (ic_ne _ _) (by decide)) (by decide) (by decide) ?_
    show Steps p.tables e below (T101.setTop (mkF m 41 #[.val (.ref a1), .val (.int p1), .val (.int (60 : Int32)), .val (.int (1 : Int32)), .val (.int (0 : Int32)), .unset, .unset] [])) _
    refine XS.iconst X101.here hx rfl (hb hby d3_41) ?_
    show Steps p.tables e below (T101.setTop (mkF m 42 #[.val (.ref a1), .val (.int p1), .val (.int (60 : Int32)), .val (.int (1 : Int32)), .val (.int (0 : Int32)), .unset, .unset] [(.int (0 : Int32))])) _
    refine XS.istore X101.here hx rfl (hb hby d3_42) rfl (l' := #[.val (.ref a1), .val (.int p1), .val (.int (60 : Int32)), .val (.int (1 : Int32)), .val (.int (0 : Int32)), .val (.int (0 : Int32)), .unset]) rfl ?_
    show Steps p.tables e below (T101.setTop (mkF m 44 #[.val (.ref a1), .val (.int p1), .val (.int (60 : Int32)), .val (.int (1 : Int32)), .val (.int (0 : Int32)), .val (.int (0 : Int32)), .unset] [])) _
    refine XS.aloadN X101.here hx rfl (hb hby d3_44) rfl rfl ?_
    show Steps p.tables e below (T101.setTop (mkF m 45 #[.val (.ref a1), .val (.int p1), .val (.int (60 : Int32)), .val (.int (1 : Int32)), .val (.int (0 : Int32)), .val (.int (0 : Int32)), .unset] [(.ref a1)])) _
    refine st102 _ ?_
    show Steps p.tables e below (T102.setTop (mkF m 48 #[.val (.ref a1), .val (.int p1), .val (.int (60 : Int32)), .val (.int (1 : Int32)), .val (.int (0 : Int32)), .val (.int (0 : Int32)), .unset] [(.int (2 : Int32))])) _
    refine XS.iconst X102.here hx rfl (hb hby d3_48) ?_
    show Steps p.tables e below (T102.setTop (mkF m 49 #[.val (.ref a1), .val (.int p1), .val (.int (60 : Int32)), .val (.int (1 : Int32)), .val (.int (0 : Int32)), .val (.int (0 : Int32)), .unset] [(.int (1 : Int32)), (.int (2 : Int32))])) _
    refine XS.icmpNo X102.here hx rfl (hb hby d3_49) rfl (own_nf (ic_le _ _) (by decide)) ?_
    show Steps p.tables e below (T102.setTop (mkF m 52 #[.val (.ref a1), .val (.int p1), .val (.int (60 : Int32)), .val (.int (1 : Int32)), .val (.int (0 : Int32)), .val (.int (0 : Int32)), .unset] [])) _
    refine XS.aloadN X102.here hx rfl (hb hby d3_52) rfl rfl ?_
    show Steps p.tables e below (T102.setTop (mkF m 53 #[.val (.ref a1), .val (.int p1), .val (.int (60 : Int32)), .val (.int (1 : Int32)), .val (.int (0 : Int32)), .val (.int (0 : Int32)), .unset] [(.ref a1)])) _
    refine XS.iconst X102.here hx rfl (hb hby d3_53) ?_
    show Steps p.tables e below (T102.setTop (mkF m 54 #[.val (.ref a1), .val (.int p1), .val (.int (60 : Int32)), .val (.int (1 : Int32)), .val (.int (0 : Int32)), .val (.int (0 : Int32)), .unset] [(.int (1 : Int32)), (.ref a1)])) _
    refine st103 _ ?_
    show Steps p.tables e below (T103.setTop (mkF m 57 #[.val (.ref a1), .val (.int p1), .val (.int (60 : Int32)), .val (.int (1 : Int32)), .val (.int (0 : Int32)), .val (.int (0 : Int32)), .unset] [(.int (62 : Int32))])) _
    refine XS.istore X103.here hx rfl (hb hby d3_57) rfl (l' := #[.val (.ref a1), .val (.int p1), .val (.int (60 : Int32)), .val (.int (1 : Int32)), .val (.int (0 : Int32)), .val (.int (0 : Int32)), .val (.int (62 : Int32))]) rfl ?_
    show Steps p.tables e below (T103.setTop (mkF m 59 #[.val (.ref a1), .val (.int p1), .val (.int (60 : Int32)), .val (.int (1 : Int32)), .val (.int (0 : Int32)), .val (.int (0 : Int32)), .val (.int (62 : Int32))] [])) _
    refine XS.iloadN X103.here hx rfl (hb hby d3_59) rfl ?_
    show Steps p.tables e below (T103.setTop (mkF m 60 #[.val (.ref a1), .val (.int p1), .val (.int (60 : Int32)), .val (.int (1 : Int32)), .val (.int (0 : Int32)), .val (.int (0 : Int32)), .val (.int (62 : Int32))] [(.int (1 : Int32))])) _
    refine XS.ifYes X103.here hx rfl (pc0 := 60) (pc' := 70) rfl (hb hby d3_60) rfl (own_nt (i0_ne _) (by decide)) (by decide) (by decide) ?_
    show Steps p.tables e below (T103.setTop (mkF m 70 #[.val (.ref a1), .val (.int p1), .val (.int (60 : Int32)), .val (.int (1 : Int32)), .val (.int (0 : Int32)), .val (.int (0 : Int32)), .val (.int (62 : Int32))] [])) _
    refine XS.iconst X103.here hx rfl (hb hby d3_70) ?_
    exact kt
  refine Gl.pre (S' := T103.setTop (mkF m 119 #[.val (.ref a1), .val (.int p1), .val (.int (60 : Int32)), .val (.int (1 : Int32)), .val (.int (1 : Int32)), .val (.int (0 : Int32)), .val (.int (62 : Int32))] [(.int p1)])) (fun t kt => ?_) ?_
  · show Steps p.tables e below (T103.setTop (mkF m 71 #[.val (.ref a1), .val (.int p1), .val (.int (60 : Int32)), .val (.int (1 : Int32)), .val (.int (0 : Int32)), .val (.int (0 : Int32)), .val (.int (62 : Int32))] [(.int (1 : Int32))])) _
    refine XS.goto X103.here hx rfl (pc0 := 71) (pc' := 75) rfl (hb hby d3_71) (by decide) (by decide) ?_
    show Steps p.tables e below (T103.setTop (mkF m 75 #[.val (.ref a1), .val (.int p1), .val (.int (60 : Int32)), .val (.int (1 : Int32)), .val (.int (0 : Int32)), .val (.int (0 : Int32)), .val (.int (62 : Int32))] [(.int (1 : Int32))])) _
    refine XS.istoreN X103.here hx rfl (hb hby d3_75) rfl (l' := #[.val (.ref a1), .val (.int p1), .val (.int (60 : Int32)), .val (.int (1 : Int32)), .val (.int (0 : Int32)), .val (.int (0 : Int32)), .val (.int (62 : Int32))]) rfl ?_
    show Steps p.tables e below (T103.setTop (mkF m 76 #[.val (.ref a1), .val (.int p1), .val (.int (60 : Int32)), .val (.int (1 : Int32)), .val (.int (0 : Int32)), .val (.int (0 : Int32)), .val (.int (62 : Int32))] [])) _
    refine XS.iload X103.here hx rfl (hb hby d3_76) rfl ?_
    show Steps p.tables e below (T103.setTop (mkF m 78 #[.val (.ref a1), .val (.int p1), .val (.int (60 : Int32)), .val (.int (1 : Int32)), .val (.int (0 : Int32)), .val (.int (0 : Int32)), .val (.int (62 : Int32))] [(.int (0 : Int32))])) _
    refine XS.ifNo X103.here hx rfl (hb hby d3_78) rfl (own_nf (i0_ne _) (by decide)) ?_
    show Steps p.tables e below (T103.setTop (mkF m 81 #[.val (.ref a1), .val (.int p1), .val (.int (60 : Int32)), .val (.int (1 : Int32)), .val (.int (0 : Int32)), .val (.int (0 : Int32)), .val (.int (62 : Int32))] [])) _
    refine XS.iload X103.here hx rfl (hb hby d3_81) rfl ?_
    show Steps p.tables e below (T103.setTop (mkF m 83 #[.val (.ref a1), .val (.int p1), .val (.int (60 : Int32)), .val (.int (1 : Int32)), .val (.int (0 : Int32)), .val (.int (0 : Int32)), .val (.int (62 : Int32))] [(.int (62 : Int32))])) _
    refine XS.bipush X103.here hx rfl (hb hby d3_83) ?_
    show Steps p.tables e below (T103.setTop (mkF m 85 #[.val (.ref a1), .val (.int p1), .val (.int (60 : Int32)), .val (.int (1 : Int32)), .val (.int (0 : Int32)), .val (.int (0 : Int32)), .val (.int (62 : Int32))] [(.int (62 : Int32)), (.int (62 : Int32))])) _
    refine XS.icmpNo X103.here hx rfl (hb hby d3_85) rfl (own_nf (ic_ne _ _) (by decide)) ?_
    show Steps p.tables e below (T103.setTop (mkF m 88 #[.val (.ref a1), .val (.int p1), .val (.int (60 : Int32)), .val (.int (1 : Int32)), .val (.int (0 : Int32)), .val (.int (0 : Int32)), .val (.int (62 : Int32))] [])) _
    refine XS.iconst X103.here hx rfl (hb hby d3_88) ?_
    show Steps p.tables e below (T103.setTop (mkF m 89 #[.val (.ref a1), .val (.int p1), .val (.int (60 : Int32)), .val (.int (1 : Int32)), .val (.int (0 : Int32)), .val (.int (0 : Int32)), .val (.int (62 : Int32))] [(.int (1 : Int32))])) _
    refine XS.goto X103.here hx rfl (pc0 := 89) (pc' := 93) rfl (hb hby d3_89) (by decide) (by decide) ?_
    show Steps p.tables e below (T103.setTop (mkF m 93 #[.val (.ref a1), .val (.int p1), .val (.int (60 : Int32)), .val (.int (1 : Int32)), .val (.int (0 : Int32)), .val (.int (0 : Int32)), .val (.int (62 : Int32))] [(.int (1 : Int32))])) _
    refine XS.istore X103.here hx rfl (hb hby d3_93) rfl (l' := #[.val (.ref a1), .val (.int p1), .val (.int (60 : Int32)), .val (.int (1 : Int32)), .val (.int (1 : Int32)), .val (.int (0 : Int32)), .val (.int (62 : Int32))]) rfl ?_
    show Steps p.tables e below (T103.setTop (mkF m 95 #[.val (.ref a1), .val (.int p1), .val (.int (60 : Int32)), .val (.int (1 : Int32)), .val (.int (1 : Int32)), .val (.int (0 : Int32)), .val (.int (62 : Int32))] [])) _
    refine XS.iload X103.here hx rfl (hb hby d3_95) rfl ?_
    show Steps p.tables e below (T103.setTop (mkF m 97 #[.val (.ref a1), .val (.int p1), .val (.int (60 : Int32)), .val (.int (1 : Int32)), .val (.int (1 : Int32)), .val (.int (0 : Int32)), .val (.int (62 : Int32))] [(.int (0 : Int32))])) _
    refine XS.ifNo X103.here hx rfl (hb hby d3_97) rfl (own_nf (i0_ne _) (by decide)) ?_
    show Steps p.tables e below (T103.setTop (mkF m 100 #[.val (.ref a1), .val (.int p1), .val (.int (60 : Int32)), .val (.int (1 : Int32)), .val (.int (1 : Int32)), .val (.int (0 : Int32)), .val (.int (62 : Int32))] [])) _
    refine XS.iload X103.here hx rfl (hb hby d3_100) rfl ?_
    show Steps p.tables e below (T103.setTop (mkF m 102 #[.val (.ref a1), .val (.int p1), .val (.int (60 : Int32)), .val (.int (1 : Int32)), .val (.int (1 : Int32)), .val (.int (0 : Int32)), .val (.int (62 : Int32))] [(.int (62 : Int32))])) _
    refine XS.bipush X103.here hx rfl (hb hby d3_102) ?_
    show Steps p.tables e below (T103.setTop (mkF m 104 #[.val (.ref a1), .val (.int p1), .val (.int (60 : Int32)), .val (.int (1 : Int32)), .val (.int (1 : Int32)), .val (.int (0 : Int32)), .val (.int (62 : Int32))] [(.int (61 : Int32)), (.int (62 : Int32))])) _
    refine XS.icmpYes X103.here hx rfl (pc0 := 104) (pc' := 111) rfl (hb hby d3_104) rfl (own_nt (ic_ne _ _) (by decide)) (by decide) (by decide) ?_
    show Steps p.tables e below (T103.setTop (mkF m 111 #[.val (.ref a1), .val (.int p1), .val (.int (60 : Int32)), .val (.int (1 : Int32)), .val (.int (1 : Int32)), .val (.int (0 : Int32)), .val (.int (62 : Int32))] [])) _
    refine XS.iconst X103.here hx rfl (hb hby d3_111) ?_
    show Steps p.tables e below (T103.setTop (mkF m 112 #[.val (.ref a1), .val (.int p1), .val (.int (60 : Int32)), .val (.int (1 : Int32)), .val (.int (1 : Int32)), .val (.int (0 : Int32)), .val (.int (62 : Int32))] [(.int (0 : Int32))])) _
    refine XS.istore X103.here hx rfl (hb hby d3_112) rfl (l' := #[.val (.ref a1), .val (.int p1), .val (.int (60 : Int32)), .val (.int (1 : Int32)), .val (.int (1 : Int32)), .val (.int (0 : Int32)), .val (.int (62 : Int32))]) rfl ?_
    show Steps p.tables e below (T103.setTop (mkF m 114 #[.val (.ref a1), .val (.int p1), .val (.int (60 : Int32)), .val (.int (1 : Int32)), .val (.int (1 : Int32)), .val (.int (0 : Int32)), .val (.int (62 : Int32))] [])) _
    refine XS.iloadN X103.here hx rfl (hb hby d3_114) rfl ?_
    show Steps p.tables e below (T103.setTop (mkF m 115 #[.val (.ref a1), .val (.int p1), .val (.int (60 : Int32)), .val (.int (1 : Int32)), .val (.int (1 : Int32)), .val (.int (0 : Int32)), .val (.int (62 : Int32))] [(.int (1 : Int32))])) _
    refine XS.ifNo X103.here hx rfl (hb hby d3_115) rfl (own_f (i0_eq _) (by decide)) ?_
    show Steps p.tables e below (T103.setTop (mkF m 118 #[.val (.ref a1), .val (.int p1), .val (.int (60 : Int32)), .val (.int (1 : Int32)), .val (.int (1 : Int32)), .val (.int (0 : Int32)), .val (.int (62 : Int32))] [])) _
    refine XS.iloadN X103.here hx rfl (hb hby d3_118) rfl ?_
    exact kt
  by_cases hc119 : p1 < (0 : Int32)
  · refine Gl.fin X103 (v := some (.int (1 : Int32))) (fun h => by rw [Bd.returns] at h; cases h) Bd.notSynchronized ?_ e103 (by decide) (by decide) (fun fs hr => ?_)
    · exact ⟨congrArg (fun z => some (Value.int z)) (b2i_t (decide_eq_true (by simp only [Int32.lt_iff_toInt_lt, ← Int32.toInt_inj, own_z32] at hc119 ⊢; omega))).symm, N103, rfl⟩
    · show Steps p.tables e below (T103.setTop (mkF m 119 #[.val (.ref a1), .val (.int p1), .val (.int (60 : Int32)), .val (.int (1 : Int32)), .val (.int (1 : Int32)), .val (.int (0 : Int32)), .val (.int (62 : Int32))] [(.int p1)])) _
      refine XS.ifYes X103.here hx rfl (pc0 := 119) (pc' := 140) rfl (hb hby d3_119) rfl (own_t (i0_lt _) hc119) (by decide) (by decide) ?_
      show Steps p.tables e below (T103.setTop (mkF m 140 #[.val (.ref a1), .val (.int p1), .val (.int (60 : Int32)), .val (.int (1 : Int32)), .val (.int (1 : Int32)), .val (.int (0 : Int32)), .val (.int (62 : Int32))] [])) _
      refine XS.iconst X103.here hx rfl (hb hby d3_140) ?_
      show Steps p.tables e below (T103.setTop (mkF m 141 #[.val (.ref a1), .val (.int p1), .val (.int (60 : Int32)), .val (.int (1 : Int32)), .val (.int (1 : Int32)), .val (.int (0 : Int32)), .val (.int (62 : Int32))] [(.int (1 : Int32))])) _
      refine XS.goto X103.here hx rfl (pc0 := 141) (pc' := 145) rfl (hb hby d3_141) (by decide) (by decide) ?_
      show Steps p.tables e below (T103.setTop (mkF m 145 #[.val (.ref a1), .val (.int p1), .val (.int (60 : Int32)), .val (.int (1 : Int32)), .val (.int (1 : Int32)), .val (.int (0 : Int32)), .val (.int (62 : Int32))] [(.int (1 : Int32))])) _
      exact retN X103 hx (t := .boolean) Bd.returns (by simp) (hb hby d3_145) hr
  · refine Gl.pre (S' := T103.setTop (mkF m 128 #[.val (.ref a1), .val (.int p1), .val (.int (60 : Int32)), .val (.int (1 : Int32)), .val (.int (1 : Int32)), .val (.int (0 : Int32)), .val (.int (62 : Int32))] [(.int p1)])) (fun t kt => ?_) ?_
    · show Steps p.tables e below (T103.setTop (mkF m 119 #[.val (.ref a1), .val (.int p1), .val (.int (60 : Int32)), .val (.int (1 : Int32)), .val (.int (1 : Int32)), .val (.int (0 : Int32)), .val (.int (62 : Int32))] [(.int p1)])) _
      refine XS.ifNo X103.here hx rfl (hb hby d3_119) rfl (own_f (i0_lt _) hc119) ?_
      show Steps p.tables e below (T103.setTop (mkF m 122 #[.val (.ref a1), .val (.int p1), .val (.int (60 : Int32)), .val (.int (1 : Int32)), .val (.int (1 : Int32)), .val (.int (0 : Int32)), .val (.int (62 : Int32))] [])) _
      refine XS.iload X103.here hx rfl (hb hby d3_122) rfl ?_
      show Steps p.tables e below (T103.setTop (mkF m 124 #[.val (.ref a1), .val (.int p1), .val (.int (60 : Int32)), .val (.int (1 : Int32)), .val (.int (1 : Int32)), .val (.int (0 : Int32)), .val (.int (62 : Int32))] [(.int (1 : Int32))])) _
      refine XS.ifNo X103.here hx rfl (hb hby d3_124) rfl (own_f (i0_eq _) (by decide)) ?_
      show Steps p.tables e below (T103.setTop (mkF m 127 #[.val (.ref a1), .val (.int p1), .val (.int (60 : Int32)), .val (.int (1 : Int32)), .val (.int (1 : Int32)), .val (.int (0 : Int32)), .val (.int (62 : Int32))] [])) _
      refine XS.iloadN X103.here hx rfl (hb hby d3_127) rfl ?_
      exact kt
    by_cases hc128 : (0 : Int32) < p1
    · refine Gl.fin X103 (v := some (.int (1 : Int32))) (fun h => by rw [Bd.returns] at h; cases h) Bd.notSynchronized ?_ e103 (by decide) (by decide) (fun fs hr => ?_)
      · exact ⟨congrArg (fun z => some (Value.int z)) (b2i_t (decide_eq_true (by simp only [Int32.lt_iff_toInt_lt, ← Int32.toInt_inj, own_z32] at hc119 hc128 ⊢; omega))).symm, N103, rfl⟩
      · show Steps p.tables e below (T103.setTop (mkF m 128 #[.val (.ref a1), .val (.int p1), .val (.int (60 : Int32)), .val (.int (1 : Int32)), .val (.int (1 : Int32)), .val (.int (0 : Int32)), .val (.int (62 : Int32))] [(.int p1)])) _
        refine XS.ifYes X103.here hx rfl (pc0 := 128) (pc' := 140) rfl (hb hby d3_128) rfl (own_t (i0_gt _) hc128) (by decide) (by decide) ?_
        show Steps p.tables e below (T103.setTop (mkF m 140 #[.val (.ref a1), .val (.int p1), .val (.int (60 : Int32)), .val (.int (1 : Int32)), .val (.int (1 : Int32)), .val (.int (0 : Int32)), .val (.int (62 : Int32))] [])) _
        refine XS.iconst X103.here hx rfl (hb hby d3_140) ?_
        show Steps p.tables e below (T103.setTop (mkF m 141 #[.val (.ref a1), .val (.int p1), .val (.int (60 : Int32)), .val (.int (1 : Int32)), .val (.int (1 : Int32)), .val (.int (0 : Int32)), .val (.int (62 : Int32))] [(.int (1 : Int32))])) _
        refine XS.goto X103.here hx rfl (pc0 := 141) (pc' := 145) rfl (hb hby d3_141) (by decide) (by decide) ?_
        show Steps p.tables e below (T103.setTop (mkF m 145 #[.val (.ref a1), .val (.int p1), .val (.int (60 : Int32)), .val (.int (1 : Int32)), .val (.int (1 : Int32)), .val (.int (0 : Int32)), .val (.int (62 : Int32))] [(.int (1 : Int32))])) _
        exact retN X103 hx (t := .boolean) Bd.returns (by simp) (hb hby d3_145) hr
    · refine Gl.fin X103 (v := some (.int (0 : Int32))) (fun h => by rw [Bd.returns] at h; cases h) Bd.notSynchronized ?_ e103 (by decide) (by decide) (fun fs hr => ?_)
      · exact ⟨congrArg (fun z => some (Value.int z)) (b2i_f (decide_eq_false (by simp only [Int32.lt_iff_toInt_lt, ← Int32.toInt_inj, own_z32] at hc119 hc128 ⊢; omega))).symm, N103, rfl⟩
      · show Steps p.tables e below (T103.setTop (mkF m 128 #[.val (.ref a1), .val (.int p1), .val (.int (60 : Int32)), .val (.int (1 : Int32)), .val (.int (1 : Int32)), .val (.int (0 : Int32)), .val (.int (62 : Int32))] [(.int p1)])) _
        refine XS.ifNo X103.here hx rfl (hb hby d3_128) rfl (own_f (i0_gt _) hc128) ?_
        show Steps p.tables e below (T103.setTop (mkF m 131 #[.val (.ref a1), .val (.int p1), .val (.int (60 : Int32)), .val (.int (1 : Int32)), .val (.int (1 : Int32)), .val (.int (0 : Int32)), .val (.int (62 : Int32))] [])) _
        refine XS.iload X103.here hx rfl (hb hby d3_131) rfl ?_
        show Steps p.tables e below (T103.setTop (mkF m 133 #[.val (.ref a1), .val (.int p1), .val (.int (60 : Int32)), .val (.int (1 : Int32)), .val (.int (1 : Int32)), .val (.int (0 : Int32)), .val (.int (62 : Int32))] [(.int (0 : Int32))])) _
        refine XS.ifYes X103.here hx rfl (pc0 := 133) (pc' := 144) rfl (hb hby d3_133) rfl (own_t (i0_eq _) (by decide)) (by decide) (by decide) ?_
        show Steps p.tables e below (T103.setTop (mkF m 144 #[.val (.ref a1), .val (.int p1), .val (.int (60 : Int32)), .val (.int (1 : Int32)), .val (.int (1 : Int32)), .val (.int (0 : Int32)), .val (.int (62 : Int32))] [])) _
        refine XS.iconst X103.here hx rfl (hb hby d3_144) ?_
        show Steps p.tables e below (T103.setTop (mkF m 145 #[.val (.ref a1), .val (.int p1), .val (.int (60 : Int32)), .val (.int (1 : Int32)), .val (.int (1 : Int32)), .val (.int (0 : Int32)), .val (.int (62 : Int32))] [(.int (0 : Int32))])) _
        exact retN X103 hx (t := .boolean) Bd.returns (by simp) (hb hby d3_145) hr
theorem ef_rm3_2 (m : MethodId) (x0 : Addr) (x1 : Int32) : entryFrame m #[(.ref x0), (.int x1)] 7 = mkF m 0 #[.val (.ref x0), .val (.int x1), .unset, .unset, .unset, .unset, .unset] [] := by first | (simp [entryFrame, mkF, argsToLocals, Value.category]; done) | rfl
def Q3_2 (Z : State) (a1 : Addr) (p1 : Int32) (b1 : Addr) (bk : ClassId) (cs : Int32) (G3 : Value) (h0 : Heap) (n0 : Nat) (v : Option Value) (h : Heap) (L : List Loc) : Prop := v = some (.int (b2i (decide (p1 < 0)))) ∧ Fr n0 L ∧ h = h0
set_option maxRecDepth 65536 in
set_option maxHeartbeats 40000000 in
theorem rm3_2 (l : Launch) (Z : State) (a0 : Array Value) (hw : ∀ d ∈ tables_1, d.before a0 Z = true) (ws : List Jvm.Cond) (a1 : Addr) (p1 : Int32) (b1 : Addr) (bk : ClassId) (cs : Int32) (G3 : Value) (h0 : Heap) (n0 : Nat) (Z0 : n0 ≤ h0.size) (S_c : Sta Z h0 "java/lang/String" "COMPACT_STRINGS" "Z" (.int cs)) (hcs : ¬ cs = 0) (E_a : Exa Z h0 a1 "java/lang/String") (F_v : Fld Z h0 a1 "java/lang/String" "value" "[B" (.ref b1)) (F_c : Fld Z h0 a1 "java/lang/String" "coder" "B" (.int (0 : Int32))) (V_b : Arv Z h0 b1 bk .byte (1 : Int32) [(.int (60 : Int32))] (.int (0 : Int32))) (S_f : Sta Z h0 "jdk/internal/util/Preconditions" "SIOOBE_FORMATTER" "Ljava/util/function/BiFunction;" G3) (rG3 : G3.isRef = true) :
    OMet l Z (⟨"com/example/porthcurno/porthcurno/core/RelationHoldsPinLaw", "expected", "(Ljava/lang/String;I)Z"⟩ : MethodName) method_2_code 7 (some .boolean) ws ({ frames := 4, cells := 0, slots := 0, locals := 53 } : Room) #[(.ref a1), (.int p1)] h0 (Q3_2 Z a1 p1 b1 bk cs G3 h0 n0) := by
  refine own_body (plainFor_of_name pn_com_example_porthcurno_porthcurno_core_RelationHoldsPinLaw) ?_
  intro p e s m below meth c s₁ Bd hml0 hZ e0
  have hx := Bd.exec
  have hby := Bd.bytes
  have hml : c.maxLocals = 7 := hml0
  have hown : s.vm.findClass "com/example/porthcurno/porthcurno/core/RelationHoldsPinLaw" = some m.cls := findClass_of_methodNamed Bd.named
  have hnm := (name_of_methodNamed Bd.named Bd.method).1
  have X0 : Stand p l e ({ frames := 4, cells := 0, slots := 0, locals := 53 } : Room) s m #[(.ref a1), (.int p1)] below meth c s₁ [] 0 0 := Stand.of_body Bd
  have N0 := Fr.nil n0
  have K0 : Keep h0 h0 [] := Keep.refl _ _
  rw [ef_rm3_2]
  obtain ⟨v101, T101, L101, X101, q101, st101⟩ := own_callV X0 hx hZ (y := (⟨"java/lang/String", "charAt", "(I)C"⟩ : MethodName)) (z := (⟨"java/lang/String", "charAt", "(I)C"⟩ : MethodName)) hown (hw _ (List.mem_of_getElem? (i := 37) rfl)) (hw _ (List.mem_of_getElem? (i := 38) rfl)) (notFace_of_selects (args := #[]) (mvT hZ (hw _ (List.mem_of_getElem? (i := 40) rfl)))) (hw _ (List.mem_of_getElem? (i := 40) rfl)) (hw _ (List.mem_of_getElem? (i := 39) rfl)) (hw _ (List.mem_of_getElem? (i := 41) rfl)) (hw _ (List.mem_of_getElem? (i := 42) rfl)) (by decide) E_a (hM := (rm4 l Z a0 hw [] a1 (0 : Int32) b1 bk (1 : Int32) [(.int (60 : Int32))] (60 : Int32) (60 : Int32) cs G3 h0 n0 Z0 S_c hcs E_a F_v F_c V_b S_f rG3 (by decide) (by decide) rfl (by decide))) (by decide) (by decide) (by decide) (by decide) e0 (argsL := [(.int (0 : Int32))]) (rest := []) (Ls := #[.val (.ref a1), .val (.int p1), .unset, .unset, .unset, .unset, .unset]) (by rw [hml]; rfl) (lenOf pd__I_C rfl) (W := 0) (Nat.le_of_eq rfl) (hb hby d3_2)
  obtain ⟨rfl, N101q, e101⟩ := q101
  have N101 := Fr.app N0 N101q
  obtain ⟨v102, T102, L102, X102, q102, st102⟩ := own_callV X101 hx hZ (y := (⟨"java/lang/String", "length", "()I"⟩ : MethodName)) (z := (⟨"java/lang/String", "length", "()I"⟩ : MethodName)) hown (hw _ (List.mem_of_getElem? (i := 65) rfl)) (hw _ (List.mem_of_getElem? (i := 66) rfl)) (notFace_of_selects (args := #[]) (mvT hZ (hw _ (List.mem_of_getElem? (i := 68) rfl)))) (hw _ (List.mem_of_getElem? (i := 68) rfl)) (hw _ (List.mem_of_getElem? (i := 67) rfl)) (hw _ (List.mem_of_getElem? (i := 41) rfl)) (hw _ (List.mem_of_getElem? (i := 69) rfl)) (by decide) E_a (hM := (rm9 l Z a0 hw [] a1 b1 bk (1 : Int32) [(.int (60 : Int32))] cs h0 n0 Z0 S_c hcs E_a F_v F_c V_b)) (by decide) (by decide) (by decide) (by decide) e101 (argsL := []) (rest := []) (Ls := #[.val (.ref a1), .val (.int p1), .val (.int (60 : Int32)), .val (.int (1 : Int32)), .val (.int (0 : Int32)), .val (.int (0 : Int32)), .unset]) (by rw [hml]; rfl) (lenOf pd___I rfl) (W := 0) (Nat.le_of_eq rfl) (hb hby d3_45)
  obtain ⟨rfl, N102q, e102⟩ := q102
  have N102 := Fr.app N101 N102q
  refine Gl.pre (S' := T102.setTop (mkF m 119 #[.val (.ref a1), .val (.int p1), .val (.int (60 : Int32)), .val (.int (1 : Int32)), .val (.int (0 : Int32)), .val (.int (0 : Int32)), .unset] [(.int p1)])) (fun t kt => ?_) ?_
  · show Steps p.tables e below (s₁.setTop (mkF m 0 #[.val (.ref a1), .val (.int p1), .unset, .unset, .unset, .unset, .unset] [])) _
    refine XS.aloadN X0.here hx rfl (hb hby d3_0) rfl rfl ?_
    show Steps p.tables e below (s₁.setTop (mkF m 1 #[.val (.ref a1), .val (.int p1), .unset, .unset, .unset, .unset, .unset] [(.ref a1)])) _
    refine XS.iconst X0.here hx rfl (hb hby d3_1) ?_
    show Steps p.tables e below (s₁.setTop (mkF m 2 #[.val (.ref a1), .val (.int p1), .unset, .unset, .unset, .unset, .unset] [(.int (0 : Int32)), (.ref a1)])) _
    refine st101 _ ?_
    show Steps p.tables e below (T101.setTop (mkF m 5 #[.val (.ref a1), .val (.int p1), .unset, .unset, .unset, .unset, .unset] [(.int (60 : Int32))])) _
    refine XS.istoreN X101.here hx rfl (hb hby d3_5) rfl (l' := #[.val (.ref a1), .val (.int p1), .val (.int (60 : Int32)), .unset, .unset, .unset, .unset]) rfl ?_
    show Steps p.tables e below (T101.setTop (mkF m 6 #[.val (.ref a1), .val (.int p1), .val (.int (60 : Int32)), .unset, .unset, .unset, .unset] [])) _
    refine XS.iloadN X101.here hx rfl (hb hby d3_6) rfl ?_
    show Steps p.tables e below (T101.setTop (mkF m 7 #[.val (.ref a1), .val (.int p1), .val (.int (60 : Int32)), .unset, .unset, .unset, .unset] [(.int (60 : Int32))])) _
    refine XS.bipush X101.here hx rfl (hb hby d3_7) ?_
    show Steps p.tables e below (T101.setTop (mkF m 9 #[.val (.ref a1), .val (.int p1), .val (.int (60 : Int32)), .unset, .unset, .unset, .unset] [(.int (60 : Int32)), (.int (60 : Int32))])) _
    refine XS.icmpNo X101.here hx rfl (hb hby d3_9) rfl (own_nf (ic_ne _ _) (by decide)) ?_
    show Steps p.tables e below (T101.setTop (mkF m 12 #[.val (.ref a1), .val (.int p1), .val (.int (60 : Int32)), .unset, .unset, .unset, .unset] [])) _
    refine XS.iconst X101.here hx rfl (hb hby d3_12) ?_
    show Steps p.tables e below (T101.setTop (mkF m 13 #[.val (.ref a1), .val (.int p1), .val (.int (60 : Int32)), .unset, .unset, .unset, .unset] [(.int (1 : Int32))])) _
    refine XS.goto X101.here hx rfl (pc0 := 13) (pc' := 17) rfl (hb hby d3_13) (by decide) (by decide) ?_
    show Steps p.tables e below (T101.setTop (mkF m 17 #[.val (.ref a1), .val (.int p1), .val (.int (60 : Int32)), .unset, .unset, .unset, .unset] [(.int (1 : Int32))])) _
    refine XS.istoreN X101.here hx rfl (hb hby d3_17) rfl (l' := #[.val (.ref a1), .val (.int p1), .val (.int (60 : Int32)), .val (.int (1 : Int32)), .unset, .unset, .unset]) rfl ?_
    show Steps p.tables e below (T101.setTop (mkF m 18 #[.val (.ref a1), .val (.int p1), .val (.int (60 : Int32)), .val (.int (1 : Int32)), .unset, .unset, .unset] [])) _
    refine XS.iloadN X101.here hx rfl (hb hby d3_18) rfl ?_
    show Steps p.tables e below (T101.setTop (mkF m 19 #[.val (.ref a1), .val (.int p1), .val (.int (60 : Int32)), .val (.int (1 : Int32)), .unset, .unset, .unset] [(.int (60 : Int32))])) _
    refine XS.bipush X101.here hx rfl (hb hby d3_19) ?_
    show Steps p.tables e below (T101.setTop (mkF m 21 #[.val (.ref a1), .val (.int p1), .val (.int (60 : Int32)), .val (.int (1 : Int32)), .unset, .unset, .unset] [(.int (62 : Int32)), (.int (60 : Int32))])) _
    refine XS.icmpYes X101.here hx rfl (pc0 := 21) (pc' := 28) rfl (hb hby d3_21) rfl (own_nt (ic_ne _ _) (by decide)) (by decide) (by decide) ?_
    show Steps p.tables e below (T101.setTop (mkF m 28 #[.val (.ref a1), .val (.int p1), .val (.int (60 : Int32)), .val (.int (1 : Int32)), .unset, .unset, .unset] [])) _
    refine XS.iconst X101.here hx rfl (hb hby d3_28) ?_
    show Steps p.tables e below (T101.setTop (mkF m 29 #[.val (.ref a1), .val (.int p1), .val (.int (60 : Int32)), .val (.int (1 : Int32)), .unset, .unset, .unset] [(.int (0 : Int32))])) _
    refine XS.istore X101.here hx rfl (hb hby d3_29) rfl (l' := #[.val (.ref a1), .val (.int p1), .val (.int (60 : Int32)), .val (.int (1 : Int32)), .val (.int (0 : Int32)), .unset, .unset]) rfl ?_
    show Steps p.tables e below (T101.setTop (mkF m 31 #[.val (.ref a1), .val (.int p1), .val (.int (60 : Int32)), .val (.int (1 : Int32)), .val (.int (0 : Int32)), .unset, .unset] [])) _
    refine XS.iloadN X101.here hx rfl (hb hby d3_31) rfl ?_
    show Steps p.tables e below (T101.setTop (mkF m 32 #[.val (.ref a1), .val (.int p1), .val (.int (60 : Int32)), .val (.int (1 : Int32)), .val (.int (0 : Int32)), .unset, .unset] [(.int (60 : Int32))])) _
    refine XS.bipush X101.here hx rfl (hb hby d3_32) ?_
    show Steps p.tables e below (T101.setTop (mkF m 34 #[.val (.ref a1), .val (.int p1), .val (.int (60 : Int32)), .val (.int (1 : Int32)), .val (.int (0 : Int32)), .unset, .unset] [(.int (61 : Int32)), (.int (60 : Int32))])) _
    refine XS.icmpYes X101.here hx rfl (pc0 := 34) (pc' := 41) rfl (hb hby d3_34) rfl (own_nt (ic_ne _ _) (by decide)) (by decide) (by decide) ?_
    show Steps p.tables e below (T101.setTop (mkF m 41 #[.val (.ref a1), .val (.int p1), .val (.int (60 : Int32)), .val (.int (1 : Int32)), .val (.int (0 : Int32)), .unset, .unset] [])) _
    refine XS.iconst X101.here hx rfl (hb hby d3_41) ?_
    show Steps p.tables e below (T101.setTop (mkF m 42 #[.val (.ref a1), .val (.int p1), .val (.int (60 : Int32)), .val (.int (1 : Int32)), .val (.int (0 : Int32)), .unset, .unset] [(.int (0 : Int32))])) _
    refine XS.istore X101.here hx rfl (hb hby d3_42) rfl (l' := #[.val (.ref a1), .val (.int p1), .val (.int (60 : Int32)), .val (.int (1 : Int32)), .val (.int (0 : Int32)), .val (.int (0 : Int32)), .unset]) rfl ?_
    show Steps p.tables e below (T101.setTop (mkF m 44 #[.val (.ref a1), .val (.int p1), .val (.int (60 : Int32)), .val (.int (1 : Int32)), .val (.int (0 : Int32)), .val (.int (0 : Int32)), .unset] [])) _
    refine XS.aloadN X101.here hx rfl (hb hby d3_44) rfl rfl ?_
    show Steps p.tables e below (T101.setTop (mkF m 45 #[.val (.ref a1), .val (.int p1), .val (.int (60 : Int32)), .val (.int (1 : Int32)), .val (.int (0 : Int32)), .val (.int (0 : Int32)), .unset] [(.ref a1)])) _
    refine st102 _ ?_
    show Steps p.tables e below (T102.setTop (mkF m 48 #[.val (.ref a1), .val (.int p1), .val (.int (60 : Int32)), .val (.int (1 : Int32)), .val (.int (0 : Int32)), .val (.int (0 : Int32)), .unset] [(.int (1 : Int32))])) _
    refine XS.iconst X102.here hx rfl (hb hby d3_48) ?_
    show Steps p.tables e below (T102.setTop (mkF m 49 #[.val (.ref a1), .val (.int p1), .val (.int (60 : Int32)), .val (.int (1 : Int32)), .val (.int (0 : Int32)), .val (.int (0 : Int32)), .unset] [(.int (1 : Int32)), (.int (1 : Int32))])) _
    refine XS.icmpYes X102.here hx rfl (pc0 := 49) (pc' := 114) rfl (hb hby d3_49) rfl (own_nt (ic_le _ _) (by decide)) (by decide) (by decide) ?_
    show Steps p.tables e below (T102.setTop (mkF m 114 #[.val (.ref a1), .val (.int p1), .val (.int (60 : Int32)), .val (.int (1 : Int32)), .val (.int (0 : Int32)), .val (.int (0 : Int32)), .unset] [])) _
    refine XS.iloadN X102.here hx rfl (hb hby d3_114) rfl ?_
    show Steps p.tables e below (T102.setTop (mkF m 115 #[.val (.ref a1), .val (.int p1), .val (.int (60 : Int32)), .val (.int (1 : Int32)), .val (.int (0 : Int32)), .val (.int (0 : Int32)), .unset] [(.int (1 : Int32))])) _
    refine XS.ifNo X102.here hx rfl (hb hby d3_115) rfl (own_f (i0_eq _) (by decide)) ?_
    show Steps p.tables e below (T102.setTop (mkF m 118 #[.val (.ref a1), .val (.int p1), .val (.int (60 : Int32)), .val (.int (1 : Int32)), .val (.int (0 : Int32)), .val (.int (0 : Int32)), .unset] [])) _
    refine XS.iloadN X102.here hx rfl (hb hby d3_118) rfl ?_
    exact kt
  by_cases hc119 : p1 < (0 : Int32)
  · refine Gl.fin X102 (v := some (.int (1 : Int32))) (fun h => by rw [Bd.returns] at h; cases h) Bd.notSynchronized ?_ e102 (by decide) (by decide) (fun fs hr => ?_)
    · exact ⟨congrArg (fun z => some (Value.int z)) (b2i_t (decide_eq_true (by simp only [Int32.lt_iff_toInt_lt, ← Int32.toInt_inj, own_z32] at hc119 ⊢; omega))).symm, N102, rfl⟩
    · show Steps p.tables e below (T102.setTop (mkF m 119 #[.val (.ref a1), .val (.int p1), .val (.int (60 : Int32)), .val (.int (1 : Int32)), .val (.int (0 : Int32)), .val (.int (0 : Int32)), .unset] [(.int p1)])) _
      refine XS.ifYes X102.here hx rfl (pc0 := 119) (pc' := 140) rfl (hb hby d3_119) rfl (own_t (i0_lt _) hc119) (by decide) (by decide) ?_
      show Steps p.tables e below (T102.setTop (mkF m 140 #[.val (.ref a1), .val (.int p1), .val (.int (60 : Int32)), .val (.int (1 : Int32)), .val (.int (0 : Int32)), .val (.int (0 : Int32)), .unset] [])) _
      refine XS.iconst X102.here hx rfl (hb hby d3_140) ?_
      show Steps p.tables e below (T102.setTop (mkF m 141 #[.val (.ref a1), .val (.int p1), .val (.int (60 : Int32)), .val (.int (1 : Int32)), .val (.int (0 : Int32)), .val (.int (0 : Int32)), .unset] [(.int (1 : Int32))])) _
      refine XS.goto X102.here hx rfl (pc0 := 141) (pc' := 145) rfl (hb hby d3_141) (by decide) (by decide) ?_
      show Steps p.tables e below (T102.setTop (mkF m 145 #[.val (.ref a1), .val (.int p1), .val (.int (60 : Int32)), .val (.int (1 : Int32)), .val (.int (0 : Int32)), .val (.int (0 : Int32)), .unset] [(.int (1 : Int32))])) _
      exact retN X102 hx (t := .boolean) Bd.returns (by simp) (hb hby d3_145) hr
  · refine Gl.fin X102 (v := some (.int (0 : Int32))) (fun h => by rw [Bd.returns] at h; cases h) Bd.notSynchronized ?_ e102 (by decide) (by decide) (fun fs hr => ?_)
    · exact ⟨congrArg (fun z => some (Value.int z)) (b2i_f (decide_eq_false (by simp only [Int32.lt_iff_toInt_lt, ← Int32.toInt_inj, own_z32] at hc119 ⊢; omega))).symm, N102, rfl⟩
    · show Steps p.tables e below (T102.setTop (mkF m 119 #[.val (.ref a1), .val (.int p1), .val (.int (60 : Int32)), .val (.int (1 : Int32)), .val (.int (0 : Int32)), .val (.int (0 : Int32)), .unset] [(.int p1)])) _
      refine XS.ifNo X102.here hx rfl (hb hby d3_119) rfl (own_f (i0_lt _) hc119) ?_
      show Steps p.tables e below (T102.setTop (mkF m 122 #[.val (.ref a1), .val (.int p1), .val (.int (60 : Int32)), .val (.int (1 : Int32)), .val (.int (0 : Int32)), .val (.int (0 : Int32)), .unset] [])) _
      refine XS.iload X102.here hx rfl (hb hby d3_122) rfl ?_
      show Steps p.tables e below (T102.setTop (mkF m 124 #[.val (.ref a1), .val (.int p1), .val (.int (60 : Int32)), .val (.int (1 : Int32)), .val (.int (0 : Int32)), .val (.int (0 : Int32)), .unset] [(.int (0 : Int32))])) _
      refine XS.ifYes X102.here hx rfl (pc0 := 124) (pc' := 131) rfl (hb hby d3_124) rfl (own_t (i0_eq _) (by decide)) (by decide) (by decide) ?_
      show Steps p.tables e below (T102.setTop (mkF m 131 #[.val (.ref a1), .val (.int p1), .val (.int (60 : Int32)), .val (.int (1 : Int32)), .val (.int (0 : Int32)), .val (.int (0 : Int32)), .unset] [])) _
      refine XS.iload X102.here hx rfl (hb hby d3_131) rfl ?_
      show Steps p.tables e below (T102.setTop (mkF m 133 #[.val (.ref a1), .val (.int p1), .val (.int (60 : Int32)), .val (.int (1 : Int32)), .val (.int (0 : Int32)), .val (.int (0 : Int32)), .unset] [(.int (0 : Int32))])) _
      refine XS.ifYes X102.here hx rfl (pc0 := 133) (pc' := 144) rfl (hb hby d3_133) rfl (own_t (i0_eq _) (by decide)) (by decide) (by decide) ?_
      show Steps p.tables e below (T102.setTop (mkF m 144 #[.val (.ref a1), .val (.int p1), .val (.int (60 : Int32)), .val (.int (1 : Int32)), .val (.int (0 : Int32)), .val (.int (0 : Int32)), .unset] [])) _
      refine XS.iconst X102.here hx rfl (hb hby d3_144) ?_
      show Steps p.tables e below (T102.setTop (mkF m 145 #[.val (.ref a1), .val (.int p1), .val (.int (60 : Int32)), .val (.int (1 : Int32)), .val (.int (0 : Int32)), .val (.int (0 : Int32)), .unset] [(.int (0 : Int32))])) _
      exact retN X102 hx (t := .boolean) Bd.returns (by simp) (hb hby d3_145) hr
theorem ef_rm3_3 (m : MethodId) (x0 : Addr) (x1 : Int32) : entryFrame m #[(.ref x0), (.int x1)] 7 = mkF m 0 #[.val (.ref x0), .val (.int x1), .unset, .unset, .unset, .unset, .unset] [] := by first | (simp [entryFrame, mkF, argsToLocals, Value.category]; done) | rfl
theorem d3_92 : decode method_2_code 92 = .ok (.iconst 0, 1) := by decide +kernel
theorem d3_107 : decode method_2_code 107 = .ok (.iconst 1, 1) := by decide +kernel
theorem d3_108 : decode method_2_code 108 = .ok (.goto 4, 3) := by decide +kernel
def Q3_3 (Z : State) (a1 : Addr) (p1 : Int32) (b1 : Addr) (bk : ClassId) (cs : Int32) (G3 : Value) (h0 : Heap) (n0 : Nat) (v : Option Value) (h : Heap) (L : List Loc) : Prop := v = some (.int (b2i (decide (¬ 0 < p1)))) ∧ Fr n0 L ∧ h = h0
set_option maxRecDepth 65536 in
set_option maxHeartbeats 40000000 in
theorem rm3_3 (l : Launch) (Z : State) (a0 : Array Value) (hw : ∀ d ∈ tables_1, d.before a0 Z = true) (ws : List Jvm.Cond) (a1 : Addr) (p1 : Int32) (b1 : Addr) (bk : ClassId) (cs : Int32) (G3 : Value) (h0 : Heap) (n0 : Nat) (Z0 : n0 ≤ h0.size) (S_c : Sta Z h0 "java/lang/String" "COMPACT_STRINGS" "Z" (.int cs)) (hcs : ¬ cs = 0) (E_a : Exa Z h0 a1 "java/lang/String") (F_v : Fld Z h0 a1 "java/lang/String" "value" "[B" (.ref b1)) (F_c : Fld Z h0 a1 "java/lang/String" "coder" "B" (.int (0 : Int32))) (V_b : Arv Z h0 b1 bk .byte (2 : Int32) [(.int (60 : Int32)), (.int (61 : Int32))] (.int (0 : Int32))) (S_f : Sta Z h0 "jdk/internal/util/Preconditions" "SIOOBE_FORMATTER" "Ljava/util/function/BiFunction;" G3) (rG3 : G3.isRef = true) :
    OMet l Z (⟨"com/example/porthcurno/porthcurno/core/RelationHoldsPinLaw", "expected", "(Ljava/lang/String;I)Z"⟩ : MethodName) method_2_code 7 (some .boolean) ws ({ frames := 4, cells := 0, slots := 0, locals := 53 } : Room) #[(.ref a1), (.int p1)] h0 (Q3_3 Z a1 p1 b1 bk cs G3 h0 n0) := by
  refine own_body (plainFor_of_name pn_com_example_porthcurno_porthcurno_core_RelationHoldsPinLaw) ?_
  intro p e s m below meth c s₁ Bd hml0 hZ e0
  have hx := Bd.exec
  have hby := Bd.bytes
  have hml : c.maxLocals = 7 := hml0
  have hown : s.vm.findClass "com/example/porthcurno/porthcurno/core/RelationHoldsPinLaw" = some m.cls := findClass_of_methodNamed Bd.named
  have hnm := (name_of_methodNamed Bd.named Bd.method).1
  have X0 : Stand p l e ({ frames := 4, cells := 0, slots := 0, locals := 53 } : Room) s m #[(.ref a1), (.int p1)] below meth c s₁ [] 0 0 := Stand.of_body Bd
  have N0 := Fr.nil n0
  have K0 : Keep h0 h0 [] := Keep.refl _ _
  rw [ef_rm3_3]
  obtain ⟨v101, T101, L101, X101, q101, st101⟩ := own_callV X0 hx hZ (y := (⟨"java/lang/String", "charAt", "(I)C"⟩ : MethodName)) (z := (⟨"java/lang/String", "charAt", "(I)C"⟩ : MethodName)) hown (hw _ (List.mem_of_getElem? (i := 37) rfl)) (hw _ (List.mem_of_getElem? (i := 38) rfl)) (notFace_of_selects (args := #[]) (mvT hZ (hw _ (List.mem_of_getElem? (i := 40) rfl)))) (hw _ (List.mem_of_getElem? (i := 40) rfl)) (hw _ (List.mem_of_getElem? (i := 39) rfl)) (hw _ (List.mem_of_getElem? (i := 41) rfl)) (hw _ (List.mem_of_getElem? (i := 42) rfl)) (by decide) E_a (hM := (rm4 l Z a0 hw [] a1 (0 : Int32) b1 bk (2 : Int32) [(.int (60 : Int32)), (.int (61 : Int32))] (60 : Int32) (60 : Int32) cs G3 h0 n0 Z0 S_c hcs E_a F_v F_c V_b S_f rG3 (by decide) (by decide) rfl (by decide))) (by decide) (by decide) (by decide) (by decide) e0 (argsL := [(.int (0 : Int32))]) (rest := []) (Ls := #[.val (.ref a1), .val (.int p1), .unset, .unset, .unset, .unset, .unset]) (by rw [hml]; rfl) (lenOf pd__I_C rfl) (W := 0) (Nat.le_of_eq rfl) (hb hby d3_2)
  obtain ⟨rfl, N101q, e101⟩ := q101
  have N101 := Fr.app N0 N101q
  obtain ⟨v102, T102, L102, X102, q102, st102⟩ := own_callV X101 hx hZ (y := (⟨"java/lang/String", "length", "()I"⟩ : MethodName)) (z := (⟨"java/lang/String", "length", "()I"⟩ : MethodName)) hown (hw _ (List.mem_of_getElem? (i := 65) rfl)) (hw _ (List.mem_of_getElem? (i := 66) rfl)) (notFace_of_selects (args := #[]) (mvT hZ (hw _ (List.mem_of_getElem? (i := 68) rfl)))) (hw _ (List.mem_of_getElem? (i := 68) rfl)) (hw _ (List.mem_of_getElem? (i := 67) rfl)) (hw _ (List.mem_of_getElem? (i := 41) rfl)) (hw _ (List.mem_of_getElem? (i := 69) rfl)) (by decide) E_a (hM := (rm9 l Z a0 hw [] a1 b1 bk (2 : Int32) [(.int (60 : Int32)), (.int (61 : Int32))] cs h0 n0 Z0 S_c hcs E_a F_v F_c V_b)) (by decide) (by decide) (by decide) (by decide) e101 (argsL := []) (rest := []) (Ls := #[.val (.ref a1), .val (.int p1), .val (.int (60 : Int32)), .val (.int (1 : Int32)), .val (.int (0 : Int32)), .val (.int (0 : Int32)), .unset]) (by rw [hml]; rfl) (lenOf pd___I rfl) (W := 0) (Nat.le_of_eq rfl) (hb hby d3_45)
  obtain ⟨rfl, N102q, e102⟩ := q102
  have N102 := Fr.app N101 N102q
  obtain ⟨v103, T103, L103, X103, q103, st103⟩ := own_callV X102 hx hZ (y := (⟨"java/lang/String", "charAt", "(I)C"⟩ : MethodName)) (z := (⟨"java/lang/String", "charAt", "(I)C"⟩ : MethodName)) hown (hw _ (List.mem_of_getElem? (i := 37) rfl)) (hw _ (List.mem_of_getElem? (i := 38) rfl)) (notFace_of_selects (args := #[]) (mvT hZ (hw _ (List.mem_of_getElem? (i := 40) rfl)))) (hw _ (List.mem_of_getElem? (i := 40) rfl)) (hw _ (List.mem_of_getElem? (i := 39) rfl)) (hw _ (List.mem_of_getElem? (i := 41) rfl)) (hw _ (List.mem_of_getElem? (i := 42) rfl)) (by decide) E_a (hM := (rm4 l Z a0 hw [] a1 (1 : Int32) b1 bk (2 : Int32) [(.int (60 : Int32)), (.int (61 : Int32))] (61 : Int32) (61 : Int32) cs G3 h0 n0 Z0 S_c hcs E_a F_v F_c V_b S_f rG3 (by decide) (by decide) rfl (by decide))) (by decide) (by decide) (by decide) (by decide) e102 (argsL := [(.int (1 : Int32))]) (rest := []) (Ls := #[.val (.ref a1), .val (.int p1), .val (.int (60 : Int32)), .val (.int (1 : Int32)), .val (.int (0 : Int32)), .val (.int (0 : Int32)), .unset]) (by rw [hml]; rfl) (lenOf pd__I_C rfl) (W := 0) (Nat.le_of_eq rfl) (hb hby d3_54)
  obtain ⟨rfl, N103q, e103⟩ := q103
  have N103 := Fr.app N102 N103q
  refine Gl.pre (S' := T103.setTop (mkF m 71 #[.val (.ref a1), .val (.int p1), .val (.int (60 : Int32)), .val (.int (1 : Int32)), .val (.int (0 : Int32)), .val (.int (0 : Int32)), .val (.int (61 : Int32))] [(.int (1 : Int32))])) (fun t kt => ?_) ?_
  · show Steps p.tables e below (s₁.setTop (mkF m 0 #[.val (.ref a1), .val (.int p1), .unset, .unset, .unset, .unset, .unset] [])) _
    refine XS.aloadN X0.here hx rfl (hb hby d3_0) rfl rfl ?_
    show Steps p.tables e below (s₁.setTop (mkF m 1 #[.val (.ref a1), .val (.int p1), .unset, .unset, .unset, .unset, .unset] [(.ref a1)])) _
    refine XS.iconst X0.here hx rfl (hb hby d3_1) ?_
    show Steps p.tables e below (s₁.setTop (mkF m 2 #[.val (.ref a1), .val (.int p1), .unset, .unset, .unset, .unset, .unset] [(.int (0 : Int32)), (.ref a1)])) _
    refine st101 _ ?_
    show Steps p.tables e below (T101.setTop (mkF m 5 #[.val (.ref a1), .val (.int p1), .unset, .unset, .unset, .unset, .unset] [(.int (60 : Int32))])) _
    refine XS.istoreN X101.here hx rfl (hb hby d3_5) rfl (l' := #[.val (.ref a1), .val (.int p1), .val (.int (60 : Int32)), .unset, .unset, .unset, .unset]) rfl ?_
    show Steps p.tables e below (T101.setTop (mkF m 6 #[.val (.ref a1), .val (.int p1), .val (.int (60 : Int32)), .unset, .unset, .unset, .unset] [])) _
    refine XS.iloadN X101.here hx rfl (hb hby d3_6) rfl ?_
    show Steps p.tables e below (T101.setTop (mkF m 7 #[.val (.ref a1), .val (.int p1), .val (.int (60 : Int32)), .unset, .unset, .unset, .unset] [(.int (60 : Int32))])) _
    refine XS.bipush X101.here hx rfl (hb hby d3_7) ?_
    show Steps p.tables e below (T101.setTop (mkF m 9 #[.val (.ref a1), .val (.int p1), .val (.int (60 : Int32)), .unset, .unset, .unset, .unset] [(.int (60 : Int32)), (.int (60 : Int32))])) _
    refine XS.icmpNo X101.here hx rfl (hb hby d3_9) rfl (own_nf (ic_ne _ _) (by decide)) ?_
    show Steps p.tables e below (T101.setTop (mkF m 12 #[.val (.ref a1), .val (.int p1), .val (.int (60 : Int32)), .unset, .unset, .unset, .unset] [])) _
    refine XS.iconst X101.here hx rfl (hb hby d3_12) ?_
    show Steps p.tables e below (T101.setTop (mkF m 13 #[.val (.ref a1), .val (.int p1), .val (.int (60 : Int32)), .unset, .unset, .unset, .unset] [(.int (1 : Int32))])) _
    refine XS.goto X101.here hx rfl (pc0 := 13) (pc' := 17) rfl (hb hby d3_13) (by decide) (by decide) ?_
    show Steps p.tables e below (T101.setTop (mkF m 17 #[.val (.ref a1), .val (.int p1), .val (.int (60 : Int32)), .unset, .unset, .unset, .unset] [(.int (1 : Int32))])) _
    refine XS.istoreN X101.here hx rfl (hb hby d3_17) rfl (l' := #[.val (.ref a1), .val (.int p1), .val (.int (60 : Int32)), .val (.int (1 : Int32)), .unset, .unset, .unset]) rfl ?_
    show Steps p.tables e below (T101.setTop (mkF m 18 #[.val (.ref a1), .val (.int p1), .val (.int (60 : Int32)), .val (.int (1 : Int32)), .unset, .unset, .unset] [])) _
    refine XS.iloadN X101.here hx rfl (hb hby d3_18) rfl ?_
    show Steps p.tables e below (T101.setTop (mkF m 19 #[.val (.ref a1), .val (.int p1), .val (.int (60 : Int32)), .val (.int (1 : Int32)), .unset, .unset, .unset] [(.int (60 : Int32))])) _
    refine XS.bipush X101.here hx rfl (hb hby d3_19) ?_
    show Steps p.tables e below (T101.setTop (mkF m 21 #[.val (.ref a1), .val (.int p1), .val (.int (60 : Int32)), .val (.int (1 : Int32)), .unset, .unset, .unset] [(.int (62 : Int32)), (.int (60 : Int32))])) _
    refine XS.icmpYes X101.here hx rfl (pc0 := 21) (pc' := 28) rfl (hb hby d3_21) rfl (own_nt (ic_ne _ _) (by decide)) (by decide) (by decide) ?_
    show Steps p.tables e below (T101.setTop (mkF m 28 #[.val (.ref a1), .val (.int p1), .val (.int (60 : Int32)), .val (.int (1 : Int32)), .unset, .unset, .unset] [])) _
    refine XS.iconst X101.here hx rfl (hb hby d3_28) ?_
    show Steps p.tables e below (T101.setTop (mkF m 29 #[.val (.ref a1), .val (.int p1), .val (.int (60 : Int32)), .val (.int (1 : Int32)), .unset, .unset, .unset] [(.int (0 : Int32))])) _
    refine XS.istore X101.here hx rfl (hb hby d3_29) rfl (l' := #[.val (.ref a1), .val (.int p1), .val (.int (60 : Int32)), .val (.int (1 : Int32)), .val (.int (0 : Int32)), .unset, .unset]) rfl ?_
    show Steps p.tables e below (T101.setTop (mkF m 31 #[.val (.ref a1), .val (.int p1), .val (.int (60 : Int32)), .val (.int (1 : Int32)), .val (.int (0 : Int32)), .unset, .unset] [])) _
    refine XS.iloadN X101.here hx rfl (hb hby d3_31) rfl ?_
    show Steps p.tables e below (T101.setTop (mkF m 32 #[.val (.ref a1), .val (.int p1), .val (.int (60 : Int32)), .val (.int (1 : Int32)), .val (.int (0 : Int32)), .unset, .unset] [(.int (60 : Int32))])) _
    refine XS.bipush X101.here hx rfl (hb hby d3_32) ?_
    show Steps p.tables e below (T101.setTop (mkF m 34 #[.val (.ref a1), .val (.int p1), .val (.int (60 : Int32)), .val (.int (1 : Int32)), .val (.int (0 : Int32)), .unset, .unset] [(.int (61 : Int32)), (.int (60 : Int32))])) _
    refine XS.icmpYes X101.here hx rfl (pc0 := 34) (pc' := 41) rfl (hb hby d3_34) rfl (own_nt (ic_ne _ _) (by decide)) (by decide) (by decide) ?_
    show Steps p.tables e below (T101.setTop (mkF m 41 #[.val (.ref a1), .val (.int p1), .val (.int (60 : Int32)), .val (.int (1 : Int32)), .val (.int (0 : Int32)), .unset, .unset] [])) _
    refine XS.iconst X101.here hx rfl (hb hby d3_41) ?_
    show Steps p.tables e below (T101.setTop (mkF m 42 #[.val (.ref a1), .val (.int p1), .val (.int (60 : Int32)), .val (.int (1 : Int32)), .val (.int (0 : Int32)), .unset, .unset] [(.int (0 : Int32))])) _
    refine XS.istore X101.here hx rfl (hb hby d3_42) rfl (l' := #[.val (.ref a1), .val (.int p1), .val (.int (60 : Int32)), .val (.int (1 : Int32)), .val (.int (0 : Int32)), .val (.int (0 : Int32)), .unset]) rfl ?_
    show Steps p.tables e below (T101.setTop (mkF m 44 #[.val (.ref a1), .val (.int p1), .val (.int (60 : Int32)), .val (.int (1 : Int32)), .val (.int (0 : Int32)), .val (.int (0 : Int32)), .unset] [])) _
    refine XS.aloadN X101.here hx rfl (hb hby d3_44) rfl rfl ?_
    show Steps p.tables e below (T101.setTop (mkF m 45 #[.val (.ref a1), .val (.int p1), .val (.int (60 : Int32)), .val (.int (1 : Int32)), .val (.int (0 : Int32)), .val (.int (0 : Int32)), .unset] [(.ref a1)])) _
    refine st102 _ ?_
    show Steps p.tables e below (T102.setTop (mkF m 48 #[.val (.ref a1), .val (.int p1), .val (.int (60 : Int32)), .val (.int (1 : Int32)), .val (.int (0 : Int32)), .val (.int (0 : Int32)), .unset] [(.int (2 : Int32))])) _
    refine XS.iconst X102.here hx rfl (hb hby d3_48) ?_
    show Steps p.tables e below (T102.setTop (mkF m 49 #[.val (.ref a1), .val (.int p1), .val (.int (60 : Int32)), .val (.int (1 : Int32)), .val (.int (0 : Int32)), .val (.int (0 : Int32)), .unset] [(.int (1 : Int32)), (.int (2 : Int32))])) _
    refine XS.icmpNo X102.here hx rfl (hb hby d3_49) rfl (own_nf (ic_le _ _) (by decide)) ?_
    show Steps p.tables e below (T102.setTop (mkF m 52 #[.val (.ref a1), .val (.int p1), .val (.int (60 : Int32)), .val (.int (1 : Int32)), .val (.int (0 : Int32)), .val (.int (0 : Int32)), .unset] [])) _
    refine XS.aloadN X102.here hx rfl (hb hby d3_52) rfl rfl ?_
    show Steps p.tables e below (T102.setTop (mkF m 53 #[.val (.ref a1), .val (.int p1), .val (.int (60 : Int32)), .val (.int (1 : Int32)), .val (.int (0 : Int32)), .val (.int (0 : Int32)), .unset] [(.ref a1)])) _
    refine XS.iconst X102.here hx rfl (hb hby d3_53) ?_
    show Steps p.tables e below (T102.setTop (mkF m 54 #[.val (.ref a1), .val (.int p1), .val (.int (60 : Int32)), .val (.int (1 : Int32)), .val (.int (0 : Int32)), .val (.int (0 : Int32)), .unset] [(.int (1 : Int32)), (.ref a1)])) _
    refine st103 _ ?_
    show Steps p.tables e below (T103.setTop (mkF m 57 #[.val (.ref a1), .val (.int p1), .val (.int (60 : Int32)), .val (.int (1 : Int32)), .val (.int (0 : Int32)), .val (.int (0 : Int32)), .unset] [(.int (61 : Int32))])) _
    refine XS.istore X103.here hx rfl (hb hby d3_57) rfl (l' := #[.val (.ref a1), .val (.int p1), .val (.int (60 : Int32)), .val (.int (1 : Int32)), .val (.int (0 : Int32)), .val (.int (0 : Int32)), .val (.int (61 : Int32))]) rfl ?_
    show Steps p.tables e below (T103.setTop (mkF m 59 #[.val (.ref a1), .val (.int p1), .val (.int (60 : Int32)), .val (.int (1 : Int32)), .val (.int (0 : Int32)), .val (.int (0 : Int32)), .val (.int (61 : Int32))] [])) _
    refine XS.iloadN X103.here hx rfl (hb hby d3_59) rfl ?_
    show Steps p.tables e below (T103.setTop (mkF m 60 #[.val (.ref a1), .val (.int p1), .val (.int (60 : Int32)), .val (.int (1 : Int32)), .val (.int (0 : Int32)), .val (.int (0 : Int32)), .val (.int (61 : Int32))] [(.int (1 : Int32))])) _
    refine XS.ifYes X103.here hx rfl (pc0 := 60) (pc' := 70) rfl (hb hby d3_60) rfl (own_nt (i0_ne _) (by decide)) (by decide) (by decide) ?_
    show Steps p.tables e below (T103.setTop (mkF m 70 #[.val (.ref a1), .val (.int p1), .val (.int (60 : Int32)), .val (.int (1 : Int32)), .val (.int (0 : Int32)), .val (.int (0 : Int32)), .val (.int (61 : Int32))] [])) _
    refine XS.iconst X103.here hx rfl (hb hby d3_70) ?_
    exact kt
  refine Gl.pre (S' := T103.setTop (mkF m 119 #[.val (.ref a1), .val (.int p1), .val (.int (60 : Int32)), .val (.int (1 : Int32)), .val (.int (0 : Int32)), .val (.int (1 : Int32)), .val (.int (61 : Int32))] [(.int p1)])) (fun t kt => ?_) ?_
  · show Steps p.tables e below (T103.setTop (mkF m 71 #[.val (.ref a1), .val (.int p1), .val (.int (60 : Int32)), .val (.int (1 : Int32)), .val (.int (0 : Int32)), .val (.int (0 : Int32)), .val (.int (61 : Int32))] [(.int (1 : Int32))])) _
    refine XS.goto X103.here hx rfl (pc0 := 71) (pc' := 75) rfl (hb hby d3_71) (by decide) (by decide) ?_
    show Steps p.tables e below (T103.setTop (mkF m 75 #[.val (.ref a1), .val (.int p1), .val (.int (60 : Int32)), .val (.int (1 : Int32)), .val (.int (0 : Int32)), .val (.int (0 : Int32)), .val (.int (61 : Int32))] [(.int (1 : Int32))])) _
    refine XS.istoreN X103.here hx rfl (hb hby d3_75) rfl (l' := #[.val (.ref a1), .val (.int p1), .val (.int (60 : Int32)), .val (.int (1 : Int32)), .val (.int (0 : Int32)), .val (.int (0 : Int32)), .val (.int (61 : Int32))]) rfl ?_
    show Steps p.tables e below (T103.setTop (mkF m 76 #[.val (.ref a1), .val (.int p1), .val (.int (60 : Int32)), .val (.int (1 : Int32)), .val (.int (0 : Int32)), .val (.int (0 : Int32)), .val (.int (61 : Int32))] [])) _
    refine XS.iload X103.here hx rfl (hb hby d3_76) rfl ?_
    show Steps p.tables e below (T103.setTop (mkF m 78 #[.val (.ref a1), .val (.int p1), .val (.int (60 : Int32)), .val (.int (1 : Int32)), .val (.int (0 : Int32)), .val (.int (0 : Int32)), .val (.int (61 : Int32))] [(.int (0 : Int32))])) _
    refine XS.ifNo X103.here hx rfl (hb hby d3_78) rfl (own_nf (i0_ne _) (by decide)) ?_
    show Steps p.tables e below (T103.setTop (mkF m 81 #[.val (.ref a1), .val (.int p1), .val (.int (60 : Int32)), .val (.int (1 : Int32)), .val (.int (0 : Int32)), .val (.int (0 : Int32)), .val (.int (61 : Int32))] [])) _
    refine XS.iload X103.here hx rfl (hb hby d3_81) rfl ?_
    show Steps p.tables e below (T103.setTop (mkF m 83 #[.val (.ref a1), .val (.int p1), .val (.int (60 : Int32)), .val (.int (1 : Int32)), .val (.int (0 : Int32)), .val (.int (0 : Int32)), .val (.int (61 : Int32))] [(.int (61 : Int32))])) _
    refine XS.bipush X103.here hx rfl (hb hby d3_83) ?_
    show Steps p.tables e below (T103.setTop (mkF m 85 #[.val (.ref a1), .val (.int p1), .val (.int (60 : Int32)), .val (.int (1 : Int32)), .val (.int (0 : Int32)), .val (.int (0 : Int32)), .val (.int (61 : Int32))] [(.int (62 : Int32)), (.int (61 : Int32))])) _
    refine XS.icmpYes X103.here hx rfl (pc0 := 85) (pc' := 92) rfl (hb hby d3_85) rfl (own_nt (ic_ne _ _) (by decide)) (by decide) (by decide) ?_
    show Steps p.tables e below (T103.setTop (mkF m 92 #[.val (.ref a1), .val (.int p1), .val (.int (60 : Int32)), .val (.int (1 : Int32)), .val (.int (0 : Int32)), .val (.int (0 : Int32)), .val (.int (61 : Int32))] [])) _
    refine XS.iconst X103.here hx rfl (hb hby d3_92) ?_
    show Steps p.tables e below (T103.setTop (mkF m 93 #[.val (.ref a1), .val (.int p1), .val (.int (60 : Int32)), .val (.int (1 : Int32)), .val (.int (0 : Int32)), .val (.int (0 : Int32)), .val (.int (61 : Int32))] [(.int (0 : Int32))])) _
    refine XS.istore X103.here hx rfl (hb hby d3_93) rfl (l' := #[.val (.ref a1), .val (.int p1), .val (.int (60 : Int32)), .val (.int (1 : Int32)), .val (.int (0 : Int32)), .val (.int (0 : Int32)), .val (.int (61 : Int32))]) rfl ?_
    show Steps p.tables e below (T103.setTop (mkF m 95 #[.val (.ref a1), .val (.int p1), .val (.int (60 : Int32)), .val (.int (1 : Int32)), .val (.int (0 : Int32)), .val (.int (0 : Int32)), .val (.int (61 : Int32))] [])) _
    refine XS.iload X103.here hx rfl (hb hby d3_95) rfl ?_
    show Steps p.tables e below (T103.setTop (mkF m 97 #[.val (.ref a1), .val (.int p1), .val (.int (60 : Int32)), .val (.int (1 : Int32)), .val (.int (0 : Int32)), .val (.int (0 : Int32)), .val (.int (61 : Int32))] [(.int (0 : Int32))])) _
    refine XS.ifNo X103.here hx rfl (hb hby d3_97) rfl (own_nf (i0_ne _) (by decide)) ?_
    show Steps p.tables e below (T103.setTop (mkF m 100 #[.val (.ref a1), .val (.int p1), .val (.int (60 : Int32)), .val (.int (1 : Int32)), .val (.int (0 : Int32)), .val (.int (0 : Int32)), .val (.int (61 : Int32))] [])) _
    refine XS.iload X103.here hx rfl (hb hby d3_100) rfl ?_
    show Steps p.tables e below (T103.setTop (mkF m 102 #[.val (.ref a1), .val (.int p1), .val (.int (60 : Int32)), .val (.int (1 : Int32)), .val (.int (0 : Int32)), .val (.int (0 : Int32)), .val (.int (61 : Int32))] [(.int (61 : Int32))])) _
    refine XS.bipush X103.here hx rfl (hb hby d3_102) ?_
    show Steps p.tables e below (T103.setTop (mkF m 104 #[.val (.ref a1), .val (.int p1), .val (.int (60 : Int32)), .val (.int (1 : Int32)), .val (.int (0 : Int32)), .val (.int (0 : Int32)), .val (.int (61 : Int32))] [(.int (61 : Int32)), (.int (61 : Int32))])) _
    refine XS.icmpNo X103.here hx rfl (hb hby d3_104) rfl (own_nf (ic_ne _ _) (by decide)) ?_
    show Steps p.tables e below (T103.setTop (mkF m 107 #[.val (.ref a1), .val (.int p1), .val (.int (60 : Int32)), .val (.int (1 : Int32)), .val (.int (0 : Int32)), .val (.int (0 : Int32)), .val (.int (61 : Int32))] [])) _
    refine XS.iconst X103.here hx rfl (hb hby d3_107) ?_
    show Steps p.tables e below (T103.setTop (mkF m 108 #[.val (.ref a1), .val (.int p1), .val (.int (60 : Int32)), .val (.int (1 : Int32)), .val (.int (0 : Int32)), .val (.int (0 : Int32)), .val (.int (61 : Int32))] [(.int (1 : Int32))])) _
    refine XS.goto X103.here hx rfl (pc0 := 108) (pc' := 112) rfl (hb hby d3_108) (by decide) (by decide) ?_
    show Steps p.tables e below (T103.setTop (mkF m 112 #[.val (.ref a1), .val (.int p1), .val (.int (60 : Int32)), .val (.int (1 : Int32)), .val (.int (0 : Int32)), .val (.int (0 : Int32)), .val (.int (61 : Int32))] [(.int (1 : Int32))])) _
    refine XS.istore X103.here hx rfl (hb hby d3_112) rfl (l' := #[.val (.ref a1), .val (.int p1), .val (.int (60 : Int32)), .val (.int (1 : Int32)), .val (.int (0 : Int32)), .val (.int (1 : Int32)), .val (.int (61 : Int32))]) rfl ?_
    show Steps p.tables e below (T103.setTop (mkF m 114 #[.val (.ref a1), .val (.int p1), .val (.int (60 : Int32)), .val (.int (1 : Int32)), .val (.int (0 : Int32)), .val (.int (1 : Int32)), .val (.int (61 : Int32))] [])) _
    refine XS.iloadN X103.here hx rfl (hb hby d3_114) rfl ?_
    show Steps p.tables e below (T103.setTop (mkF m 115 #[.val (.ref a1), .val (.int p1), .val (.int (60 : Int32)), .val (.int (1 : Int32)), .val (.int (0 : Int32)), .val (.int (1 : Int32)), .val (.int (61 : Int32))] [(.int (1 : Int32))])) _
    refine XS.ifNo X103.here hx rfl (hb hby d3_115) rfl (own_f (i0_eq _) (by decide)) ?_
    show Steps p.tables e below (T103.setTop (mkF m 118 #[.val (.ref a1), .val (.int p1), .val (.int (60 : Int32)), .val (.int (1 : Int32)), .val (.int (0 : Int32)), .val (.int (1 : Int32)), .val (.int (61 : Int32))] [])) _
    refine XS.iloadN X103.here hx rfl (hb hby d3_118) rfl ?_
    exact kt
  by_cases hc119 : p1 < (0 : Int32)
  · refine Gl.fin X103 (v := some (.int (1 : Int32))) (fun h => by rw [Bd.returns] at h; cases h) Bd.notSynchronized ?_ e103 (by decide) (by decide) (fun fs hr => ?_)
    · exact ⟨congrArg (fun z => some (Value.int z)) (b2i_t (decide_eq_true (by simp only [Int32.lt_iff_toInt_lt, ← Int32.toInt_inj, own_z32] at hc119 ⊢; omega))).symm, N103, rfl⟩
    · show Steps p.tables e below (T103.setTop (mkF m 119 #[.val (.ref a1), .val (.int p1), .val (.int (60 : Int32)), .val (.int (1 : Int32)), .val (.int (0 : Int32)), .val (.int (1 : Int32)), .val (.int (61 : Int32))] [(.int p1)])) _
      refine XS.ifYes X103.here hx rfl (pc0 := 119) (pc' := 140) rfl (hb hby d3_119) rfl (own_t (i0_lt _) hc119) (by decide) (by decide) ?_
      show Steps p.tables e below (T103.setTop (mkF m 140 #[.val (.ref a1), .val (.int p1), .val (.int (60 : Int32)), .val (.int (1 : Int32)), .val (.int (0 : Int32)), .val (.int (1 : Int32)), .val (.int (61 : Int32))] [])) _
      refine XS.iconst X103.here hx rfl (hb hby d3_140) ?_
      show Steps p.tables e below (T103.setTop (mkF m 141 #[.val (.ref a1), .val (.int p1), .val (.int (60 : Int32)), .val (.int (1 : Int32)), .val (.int (0 : Int32)), .val (.int (1 : Int32)), .val (.int (61 : Int32))] [(.int (1 : Int32))])) _
      refine XS.goto X103.here hx rfl (pc0 := 141) (pc' := 145) rfl (hb hby d3_141) (by decide) (by decide) ?_
      show Steps p.tables e below (T103.setTop (mkF m 145 #[.val (.ref a1), .val (.int p1), .val (.int (60 : Int32)), .val (.int (1 : Int32)), .val (.int (0 : Int32)), .val (.int (1 : Int32)), .val (.int (61 : Int32))] [(.int (1 : Int32))])) _
      exact retN X103 hx (t := .boolean) Bd.returns (by simp) (hb hby d3_145) hr
  · refine Gl.pre (S' := T103.setTop (mkF m 137 #[.val (.ref a1), .val (.int p1), .val (.int (60 : Int32)), .val (.int (1 : Int32)), .val (.int (0 : Int32)), .val (.int (1 : Int32)), .val (.int (61 : Int32))] [(.int p1)])) (fun t kt => ?_) ?_
    · show Steps p.tables e below (T103.setTop (mkF m 119 #[.val (.ref a1), .val (.int p1), .val (.int (60 : Int32)), .val (.int (1 : Int32)), .val (.int (0 : Int32)), .val (.int (1 : Int32)), .val (.int (61 : Int32))] [(.int p1)])) _
      refine XS.ifNo X103.here hx rfl (hb hby d3_119) rfl (own_f (i0_lt _) hc119) ?_
      show Steps p.tables e below (T103.setTop (mkF m 122 #[.val (.ref a1), .val (.int p1), .val (.int (60 : Int32)), .val (.int (1 : Int32)), .val (.int (0 : Int32)), .val (.int (1 : Int32)), .val (.int (61 : Int32))] [])) _
      refine XS.iload X103.here hx rfl (hb hby d3_122) rfl ?_
      show Steps p.tables e below (T103.setTop (mkF m 124 #[.val (.ref a1), .val (.int p1), .val (.int (60 : Int32)), .val (.int (1 : Int32)), .val (.int (0 : Int32)), .val (.int (1 : Int32)), .val (.int (61 : Int32))] [(.int (0 : Int32))])) _
      refine XS.ifYes X103.here hx rfl (pc0 := 124) (pc' := 131) rfl (hb hby d3_124) rfl (own_t (i0_eq _) (by decide)) (by decide) (by decide) ?_
      show Steps p.tables e below (T103.setTop (mkF m 131 #[.val (.ref a1), .val (.int p1), .val (.int (60 : Int32)), .val (.int (1 : Int32)), .val (.int (0 : Int32)), .val (.int (1 : Int32)), .val (.int (61 : Int32))] [])) _
      refine XS.iload X103.here hx rfl (hb hby d3_131) rfl ?_
      show Steps p.tables e below (T103.setTop (mkF m 133 #[.val (.ref a1), .val (.int p1), .val (.int (60 : Int32)), .val (.int (1 : Int32)), .val (.int (0 : Int32)), .val (.int (1 : Int32)), .val (.int (61 : Int32))] [(.int (1 : Int32))])) _
      refine XS.ifNo X103.here hx rfl (hb hby d3_133) rfl (own_f (i0_eq _) (by decide)) ?_
      show Steps p.tables e below (T103.setTop (mkF m 136 #[.val (.ref a1), .val (.int p1), .val (.int (60 : Int32)), .val (.int (1 : Int32)), .val (.int (0 : Int32)), .val (.int (1 : Int32)), .val (.int (61 : Int32))] [])) _
      refine XS.iloadN X103.here hx rfl (hb hby d3_136) rfl ?_
      exact kt
    by_cases hc137 : p1 = (0 : Int32)
    · refine Gl.fin X103 (v := some (.int (1 : Int32))) (fun h => by rw [Bd.returns] at h; cases h) Bd.notSynchronized ?_ e103 (by decide) (by decide) (fun fs hr => ?_)
      · exact ⟨congrArg (fun z => some (Value.int z)) (b2i_t (decide_eq_true (by simp only [Int32.lt_iff_toInt_lt, ← Int32.toInt_inj, own_z32] at hc119 hc137 ⊢; omega))).symm, N103, rfl⟩
      · show Steps p.tables e below (T103.setTop (mkF m 137 #[.val (.ref a1), .val (.int p1), .val (.int (60 : Int32)), .val (.int (1 : Int32)), .val (.int (0 : Int32)), .val (.int (1 : Int32)), .val (.int (61 : Int32))] [(.int p1)])) _
        refine XS.ifNo X103.here hx rfl (hb hby d3_137) rfl (own_nf (i0_ne _) hc137) ?_
        show Steps p.tables e below (T103.setTop (mkF m 140 #[.val (.ref a1), .val (.int p1), .val (.int (60 : Int32)), .val (.int (1 : Int32)), .val (.int (0 : Int32)), .val (.int (1 : Int32)), .val (.int (61 : Int32))] [])) _
        refine XS.iconst X103.here hx rfl (hb hby d3_140) ?_
        show Steps p.tables e below (T103.setTop (mkF m 141 #[.val (.ref a1), .val (.int p1), .val (.int (60 : Int32)), .val (.int (1 : Int32)), .val (.int (0 : Int32)), .val (.int (1 : Int32)), .val (.int (61 : Int32))] [(.int (1 : Int32))])) _
        refine XS.goto X103.here hx rfl (pc0 := 141) (pc' := 145) rfl (hb hby d3_141) (by decide) (by decide) ?_
        show Steps p.tables e below (T103.setTop (mkF m 145 #[.val (.ref a1), .val (.int p1), .val (.int (60 : Int32)), .val (.int (1 : Int32)), .val (.int (0 : Int32)), .val (.int (1 : Int32)), .val (.int (61 : Int32))] [(.int (1 : Int32))])) _
        exact retN X103 hx (t := .boolean) Bd.returns (by simp) (hb hby d3_145) hr
    · refine Gl.fin X103 (v := some (.int (0 : Int32))) (fun h => by rw [Bd.returns] at h; cases h) Bd.notSynchronized ?_ e103 (by decide) (by decide) (fun fs hr => ?_)
      · exact ⟨congrArg (fun z => some (Value.int z)) (b2i_f (decide_eq_false (by simp only [Int32.lt_iff_toInt_lt, ← Int32.toInt_inj, own_z32] at hc119 hc137 ⊢; omega))).symm, N103, rfl⟩
      · show Steps p.tables e below (T103.setTop (mkF m 137 #[.val (.ref a1), .val (.int p1), .val (.int (60 : Int32)), .val (.int (1 : Int32)), .val (.int (0 : Int32)), .val (.int (1 : Int32)), .val (.int (61 : Int32))] [(.int p1)])) _
        refine XS.ifYes X103.here hx rfl (pc0 := 137) (pc' := 144) rfl (hb hby d3_137) rfl (own_nt (i0_ne _) hc137) (by decide) (by decide) ?_
        show Steps p.tables e below (T103.setTop (mkF m 144 #[.val (.ref a1), .val (.int p1), .val (.int (60 : Int32)), .val (.int (1 : Int32)), .val (.int (0 : Int32)), .val (.int (1 : Int32)), .val (.int (61 : Int32))] [])) _
        refine XS.iconst X103.here hx rfl (hb hby d3_144) ?_
        show Steps p.tables e below (T103.setTop (mkF m 145 #[.val (.ref a1), .val (.int p1), .val (.int (60 : Int32)), .val (.int (1 : Int32)), .val (.int (0 : Int32)), .val (.int (1 : Int32)), .val (.int (61 : Int32))] [(.int (0 : Int32))])) _
        exact retN X103 hx (t := .boolean) Bd.returns (by simp) (hb hby d3_145) hr
theorem ef_rm3_4 (m : MethodId) (x0 : Addr) (x1 : Int32) : entryFrame m #[(.ref x0), (.int x1)] 7 = mkF m 0 #[.val (.ref x0), .val (.int x1), .unset, .unset, .unset, .unset, .unset] [] := by first | (simp [entryFrame, mkF, argsToLocals, Value.category]; done) | rfl
theorem d3_24 : decode method_2_code 24 = .ok (.iconst 1, 1) := by decide +kernel
theorem d3_25 : decode method_2_code 25 = .ok (.goto 4, 3) := by decide +kernel
def Q3_4 (Z : State) (a1 : Addr) (p1 : Int32) (b1 : Addr) (bk : ClassId) (cs : Int32) (G3 : Value) (h0 : Heap) (n0 : Nat) (v : Option Value) (h : Heap) (L : List Loc) : Prop := v = some (.int (b2i (decide (0 < p1)))) ∧ Fr n0 L ∧ h = h0
set_option maxRecDepth 65536 in
set_option maxHeartbeats 40000000 in
theorem rm3_4 (l : Launch) (Z : State) (a0 : Array Value) (hw : ∀ d ∈ tables_1, d.before a0 Z = true) (ws : List Jvm.Cond) (a1 : Addr) (p1 : Int32) (b1 : Addr) (bk : ClassId) (cs : Int32) (G3 : Value) (h0 : Heap) (n0 : Nat) (Z0 : n0 ≤ h0.size) (S_c : Sta Z h0 "java/lang/String" "COMPACT_STRINGS" "Z" (.int cs)) (hcs : ¬ cs = 0) (E_a : Exa Z h0 a1 "java/lang/String") (F_v : Fld Z h0 a1 "java/lang/String" "value" "[B" (.ref b1)) (F_c : Fld Z h0 a1 "java/lang/String" "coder" "B" (.int (0 : Int32))) (V_b : Arv Z h0 b1 bk .byte (1 : Int32) [(.int (62 : Int32))] (.int (0 : Int32))) (S_f : Sta Z h0 "jdk/internal/util/Preconditions" "SIOOBE_FORMATTER" "Ljava/util/function/BiFunction;" G3) (rG3 : G3.isRef = true) :
    OMet l Z (⟨"com/example/porthcurno/porthcurno/core/RelationHoldsPinLaw", "expected", "(Ljava/lang/String;I)Z"⟩ : MethodName) method_2_code 7 (some .boolean) ws ({ frames := 4, cells := 0, slots := 0, locals := 53 } : Room) #[(.ref a1), (.int p1)] h0 (Q3_4 Z a1 p1 b1 bk cs G3 h0 n0) := by
  refine own_body (plainFor_of_name pn_com_example_porthcurno_porthcurno_core_RelationHoldsPinLaw) ?_
  intro p e s m below meth c s₁ Bd hml0 hZ e0
  have hx := Bd.exec
  have hby := Bd.bytes
  have hml : c.maxLocals = 7 := hml0
  have hown : s.vm.findClass "com/example/porthcurno/porthcurno/core/RelationHoldsPinLaw" = some m.cls := findClass_of_methodNamed Bd.named
  have hnm := (name_of_methodNamed Bd.named Bd.method).1
  have X0 : Stand p l e ({ frames := 4, cells := 0, slots := 0, locals := 53 } : Room) s m #[(.ref a1), (.int p1)] below meth c s₁ [] 0 0 := Stand.of_body Bd
  have N0 := Fr.nil n0
  have K0 : Keep h0 h0 [] := Keep.refl _ _
  rw [ef_rm3_4]
  obtain ⟨v101, T101, L101, X101, q101, st101⟩ := own_callV X0 hx hZ (y := (⟨"java/lang/String", "charAt", "(I)C"⟩ : MethodName)) (z := (⟨"java/lang/String", "charAt", "(I)C"⟩ : MethodName)) hown (hw _ (List.mem_of_getElem? (i := 37) rfl)) (hw _ (List.mem_of_getElem? (i := 38) rfl)) (notFace_of_selects (args := #[]) (mvT hZ (hw _ (List.mem_of_getElem? (i := 40) rfl)))) (hw _ (List.mem_of_getElem? (i := 40) rfl)) (hw _ (List.mem_of_getElem? (i := 39) rfl)) (hw _ (List.mem_of_getElem? (i := 41) rfl)) (hw _ (List.mem_of_getElem? (i := 42) rfl)) (by decide) E_a (hM := (rm4 l Z a0 hw [] a1 (0 : Int32) b1 bk (1 : Int32) [(.int (62 : Int32))] (62 : Int32) (62 : Int32) cs G3 h0 n0 Z0 S_c hcs E_a F_v F_c V_b S_f rG3 (by decide) (by decide) rfl (by decide))) (by decide) (by decide) (by decide) (by decide) e0 (argsL := [(.int (0 : Int32))]) (rest := []) (Ls := #[.val (.ref a1), .val (.int p1), .unset, .unset, .unset, .unset, .unset]) (by rw [hml]; rfl) (lenOf pd__I_C rfl) (W := 0) (Nat.le_of_eq rfl) (hb hby d3_2)
  obtain ⟨rfl, N101q, e101⟩ := q101
  have N101 := Fr.app N0 N101q
  obtain ⟨v102, T102, L102, X102, q102, st102⟩ := own_callV X101 hx hZ (y := (⟨"java/lang/String", "length", "()I"⟩ : MethodName)) (z := (⟨"java/lang/String", "length", "()I"⟩ : MethodName)) hown (hw _ (List.mem_of_getElem? (i := 65) rfl)) (hw _ (List.mem_of_getElem? (i := 66) rfl)) (notFace_of_selects (args := #[]) (mvT hZ (hw _ (List.mem_of_getElem? (i := 68) rfl)))) (hw _ (List.mem_of_getElem? (i := 68) rfl)) (hw _ (List.mem_of_getElem? (i := 67) rfl)) (hw _ (List.mem_of_getElem? (i := 41) rfl)) (hw _ (List.mem_of_getElem? (i := 69) rfl)) (by decide) E_a (hM := (rm9 l Z a0 hw [] a1 b1 bk (1 : Int32) [(.int (62 : Int32))] cs h0 n0 Z0 S_c hcs E_a F_v F_c V_b)) (by decide) (by decide) (by decide) (by decide) e101 (argsL := []) (rest := []) (Ls := #[.val (.ref a1), .val (.int p1), .val (.int (62 : Int32)), .val (.int (0 : Int32)), .val (.int (1 : Int32)), .val (.int (0 : Int32)), .unset]) (by rw [hml]; rfl) (lenOf pd___I rfl) (W := 0) (Nat.le_of_eq rfl) (hb hby d3_45)
  obtain ⟨rfl, N102q, e102⟩ := q102
  have N102 := Fr.app N101 N102q
  refine Gl.pre (S' := T102.setTop (mkF m 128 #[.val (.ref a1), .val (.int p1), .val (.int (62 : Int32)), .val (.int (0 : Int32)), .val (.int (1 : Int32)), .val (.int (0 : Int32)), .unset] [(.int p1)])) (fun t kt => ?_) ?_
  · show Steps p.tables e below (s₁.setTop (mkF m 0 #[.val (.ref a1), .val (.int p1), .unset, .unset, .unset, .unset, .unset] [])) _
    refine XS.aloadN X0.here hx rfl (hb hby d3_0) rfl rfl ?_
    show Steps p.tables e below (s₁.setTop (mkF m 1 #[.val (.ref a1), .val (.int p1), .unset, .unset, .unset, .unset, .unset] [(.ref a1)])) _
    refine XS.iconst X0.here hx rfl (hb hby d3_1) ?_
    show Steps p.tables e below (s₁.setTop (mkF m 2 #[.val (.ref a1), .val (.int p1), .unset, .unset, .unset, .unset, .unset] [(.int (0 : Int32)), (.ref a1)])) _
    refine st101 _ ?_
    show Steps p.tables e below (T101.setTop (mkF m 5 #[.val (.ref a1), .val (.int p1), .unset, .unset, .unset, .unset, .unset] [(.int (62 : Int32))])) _
    refine XS.istoreN X101.here hx rfl (hb hby d3_5) rfl (l' := #[.val (.ref a1), .val (.int p1), .val (.int (62 : Int32)), .unset, .unset, .unset, .unset]) rfl ?_
    show Steps p.tables e below (T101.setTop (mkF m 6 #[.val (.ref a1), .val (.int p1), .val (.int (62 : Int32)), .unset, .unset, .unset, .unset] [])) _
    refine XS.iloadN X101.here hx rfl (hb hby d3_6) rfl ?_
    show Steps p.tables e below (T101.setTop (mkF m 7 #[.val (.ref a1), .val (.int p1), .val (.int (62 : Int32)), .unset, .unset, .unset, .unset] [(.int (62 : Int32))])) _
    refine XS.bipush X101.here hx rfl (hb hby d3_7) ?_
    show Steps p.tables e below (T101.setTop (mkF m 9 #[.val (.ref a1), .val (.int p1), .val (.int (62 : Int32)), .unset, .unset, .unset, .unset] [(.int (60 : Int32)), (.int (62 : Int32))])) _
    refine XS.icmpYes X101.here hx rfl (pc0 := 9) (pc' := 16) rfl (hb hby d3_9) rfl (own_nt (ic_ne _ _) (by decide)) (by decide) (by decide) ?_
    show Steps p.tables e below (T101.setTop (mkF m 16 #[.val (.ref a1), .val (.int p1), .val (.int (62 : Int32)), .unset, .unset, .unset, .unset] [])) _
    refine XS.iconst X101.here hx rfl (hb hby d3_16) ?_
    show Steps p.tables e below (T101.setTop (mkF m 17 #[.val (.ref a1), .val (.int p1), .val (.int (62 : Int32)), .unset, .unset, .unset, .unset] [(.int (0 : Int32))])) _
    refine XS.istoreN X101.here hx rfl (hb hby d3_17) rfl (l' := #[.val (.ref a1), .val (.int p1), .val (.int (62 : Int32)), .val (.int (0 : Int32)), .unset, .unset, .unset]) rfl ?_
    show Steps p.tables e below (T101.setTop (mkF m 18 #[.val (.ref a1), .val (.int p1), .val (.int (62 : Int32)), .val (.int (0 : Int32)), .unset, .unset, .unset] [])) _
    refine XS.iloadN X101.here hx rfl (hb hby d3_18) rfl ?_
    show Steps p.tables e below (T101.setTop (mkF m 19 #[.val (.ref a1), .val (.int p1), .val (.int (62 : Int32)), .val (.int (0 : Int32)), .unset, .unset, .unset] [(.int (62 : Int32))])) _
    refine XS.bipush X101.here hx rfl (hb hby d3_19) ?_
    show Steps p.tables e below (T101.setTop (mkF m 21 #[.val (.ref a1), .val (.int p1), .val (.int (62 : Int32)), .val (.int (0 : Int32)), .unset, .unset, .unset] [(.int (62 : Int32)), (.int (62 : Int32))])) _
    refine XS.icmpNo X101.here hx rfl (hb hby d3_21) rfl (own_nf (ic_ne _ _) (by decide)) ?_
    show Steps p.tables e below (T101.setTop (mkF m 24 #[.val (.ref a1), .val (.int p1), .val (.int (62 : Int32)), .val (.int (0 : Int32)), .unset, .unset, .unset] [])) _
    refine XS.iconst X101.here hx rfl (hb hby d3_24) ?_
    show Steps p.tables e below (T101.setTop (mkF m 25 #[.val (.ref a1), .val (.int p1), .val (.int (62 : Int32)), .val (.int (0 : Int32)), .unset, .unset, .unset] [(.int (1 : Int32))])) _
    refine XS.goto X101.here hx rfl (pc0 := 25) (pc' := 29) rfl (hb hby d3_25) (by decide) (by decide) ?_
    show Steps p.tables e below (T101.setTop (mkF m 29 #[.val (.ref a1), .val (.int p1), .val (.int (62 : Int32)), .val (.int (0 : Int32)), .unset, .unset, .unset] [(.int (1 : Int32))])) _
    refine XS.istore X101.here hx rfl (hb hby d3_29) rfl (l' := #[.val (.ref a1), .val (.int p1), .val (.int (62 : Int32)), .val (.int (0 : Int32)), .val (.int (1 : Int32)), .unset, .unset]) rfl ?_
    show Steps p.tables e below (T101.setTop (mkF m 31 #[.val (.ref a1), .val (.int p1), .val (.int (62 : Int32)), .val (.int (0 : Int32)), .val (.int (1 : Int32)), .unset, .unset] [])) _
    refine XS.iloadN X101.here hx rfl (hb hby d3_31) rfl ?_
    show Steps p.tables e below (T101.setTop (mkF m 32 #[.val (.ref a1), .val (.int p1), .val (.int (62 : Int32)), .val (.int (0 : Int32)), .val (.int (1 : Int32)), .unset, .unset] [(.int (62 : Int32))])) _
    refine XS.bipush X101.here hx rfl (hb hby d3_32) ?_
    show Steps p.tables e below (T101.setTop (mkF m 34 #[.val (.ref a1), .val (.int p1), .val (.int (62 : Int32)), .val (.int (0 : Int32)), .val (.int (1 : Int32)), .unset, .unset] [(.int (61 : Int32)), (.int (62 : Int32))])) _
    refine XS.icmpYes X101.here hx rfl (pc0 := 34) (pc' := 41) rfl (hb hby d3_34) rfl (own_nt (ic_ne _ _) (by decide)) (by decide) (by decide) ?_
    show Steps p.tables e below (T101.setTop (mkF m 41 #[.val (.ref a1), .val (.int p1), .val (.int (62 : Int32)), .val (.int (0 : Int32)), .val (.int (1 : Int32)), .unset, .unset] [])) _
    refine XS.iconst X101.here hx rfl (hb hby d3_41) ?_
    show Steps p.tables e below (T101.setTop (mkF m 42 #[.val (.ref a1), .val (.int p1), .val (.int (62 : Int32)), .val (.int (0 : Int32)), .val (.int (1 : Int32)), .unset, .unset] [(.int (0 : Int32))])) _
    refine XS.istore X101.here hx rfl (hb hby d3_42) rfl (l' := #[.val (.ref a1), .val (.int p1), .val (.int (62 : Int32)), .val (.int (0 : Int32)), .val (.int (1 : Int32)), .val (.int (0 : Int32)), .unset]) rfl ?_
    show Steps p.tables e below (T101.setTop (mkF m 44 #[.val (.ref a1), .val (.int p1), .val (.int (62 : Int32)), .val (.int (0 : Int32)), .val (.int (1 : Int32)), .val (.int (0 : Int32)), .unset] [])) _
    refine XS.aloadN X101.here hx rfl (hb hby d3_44) rfl rfl ?_
    show Steps p.tables e below (T101.setTop (mkF m 45 #[.val (.ref a1), .val (.int p1), .val (.int (62 : Int32)), .val (.int (0 : Int32)), .val (.int (1 : Int32)), .val (.int (0 : Int32)), .unset] [(.ref a1)])) _
    refine st102 _ ?_
    show Steps p.tables e below (T102.setTop (mkF m 48 #[.val (.ref a1), .val (.int p1), .val (.int (62 : Int32)), .val (.int (0 : Int32)), .val (.int (1 : Int32)), .val (.int (0 : Int32)), .unset] [(.int (1 : Int32))])) _
    refine XS.iconst X102.here hx rfl (hb hby d3_48) ?_
    show Steps p.tables e below (T102.setTop (mkF m 49 #[.val (.ref a1), .val (.int p1), .val (.int (62 : Int32)), .val (.int (0 : Int32)), .val (.int (1 : Int32)), .val (.int (0 : Int32)), .unset] [(.int (1 : Int32)), (.int (1 : Int32))])) _
    refine XS.icmpYes X102.here hx rfl (pc0 := 49) (pc' := 114) rfl (hb hby d3_49) rfl (own_nt (ic_le _ _) (by decide)) (by decide) (by decide) ?_
    show Steps p.tables e below (T102.setTop (mkF m 114 #[.val (.ref a1), .val (.int p1), .val (.int (62 : Int32)), .val (.int (0 : Int32)), .val (.int (1 : Int32)), .val (.int (0 : Int32)), .unset] [])) _
    refine XS.iloadN X102.here hx rfl (hb hby d3_114) rfl ?_
    show Steps p.tables e below (T102.setTop (mkF m 115 #[.val (.ref a1), .val (.int p1), .val (.int (62 : Int32)), .val (.int (0 : Int32)), .val (.int (1 : Int32)), .val (.int (0 : Int32)), .unset] [(.int (0 : Int32))])) _
    refine XS.ifYes X102.here hx rfl (pc0 := 115) (pc' := 122) rfl (hb hby d3_115) rfl (own_t (i0_eq _) (by decide)) (by decide) (by decide) ?_
    show Steps p.tables e below (T102.setTop (mkF m 122 #[.val (.ref a1), .val (.int p1), .val (.int (62 : Int32)), .val (.int (0 : Int32)), .val (.int (1 : Int32)), .val (.int (0 : Int32)), .unset] [])) _
    refine XS.iload X102.here hx rfl (hb hby d3_122) rfl ?_
    show Steps p.tables e below (T102.setTop (mkF m 124 #[.val (.ref a1), .val (.int p1), .val (.int (62 : Int32)), .val (.int (0 : Int32)), .val (.int (1 : Int32)), .val (.int (0 : Int32)), .unset] [(.int (1 : Int32))])) _
    refine XS.ifNo X102.here hx rfl (hb hby d3_124) rfl (own_f (i0_eq _) (by decide)) ?_
    show Steps p.tables e below (T102.setTop (mkF m 127 #[.val (.ref a1), .val (.int p1), .val (.int (62 : Int32)), .val (.int (0 : Int32)), .val (.int (1 : Int32)), .val (.int (0 : Int32)), .unset] [])) _
    refine XS.iloadN X102.here hx rfl (hb hby d3_127) rfl ?_
    exact kt
  by_cases hc128 : (0 : Int32) < p1
  · refine Gl.fin X102 (v := some (.int (1 : Int32))) (fun h => by rw [Bd.returns] at h; cases h) Bd.notSynchronized ?_ e102 (by decide) (by decide) (fun fs hr => ?_)
    · exact ⟨congrArg (fun z => some (Value.int z)) (b2i_t (decide_eq_true (by simp only [Int32.lt_iff_toInt_lt, ← Int32.toInt_inj, own_z32] at hc128 ⊢; omega))).symm, N102, rfl⟩
    · show Steps p.tables e below (T102.setTop (mkF m 128 #[.val (.ref a1), .val (.int p1), .val (.int (62 : Int32)), .val (.int (0 : Int32)), .val (.int (1 : Int32)), .val (.int (0 : Int32)), .unset] [(.int p1)])) _
      refine XS.ifYes X102.here hx rfl (pc0 := 128) (pc' := 140) rfl (hb hby d3_128) rfl (own_t (i0_gt _) hc128) (by decide) (by decide) ?_
      show Steps p.tables e below (T102.setTop (mkF m 140 #[.val (.ref a1), .val (.int p1), .val (.int (62 : Int32)), .val (.int (0 : Int32)), .val (.int (1 : Int32)), .val (.int (0 : Int32)), .unset] [])) _
      refine XS.iconst X102.here hx rfl (hb hby d3_140) ?_
      show Steps p.tables e below (T102.setTop (mkF m 141 #[.val (.ref a1), .val (.int p1), .val (.int (62 : Int32)), .val (.int (0 : Int32)), .val (.int (1 : Int32)), .val (.int (0 : Int32)), .unset] [(.int (1 : Int32))])) _
      refine XS.goto X102.here hx rfl (pc0 := 141) (pc' := 145) rfl (hb hby d3_141) (by decide) (by decide) ?_
      show Steps p.tables e below (T102.setTop (mkF m 145 #[.val (.ref a1), .val (.int p1), .val (.int (62 : Int32)), .val (.int (0 : Int32)), .val (.int (1 : Int32)), .val (.int (0 : Int32)), .unset] [(.int (1 : Int32))])) _
      exact retN X102 hx (t := .boolean) Bd.returns (by simp) (hb hby d3_145) hr
  · refine Gl.fin X102 (v := some (.int (0 : Int32))) (fun h => by rw [Bd.returns] at h; cases h) Bd.notSynchronized ?_ e102 (by decide) (by decide) (fun fs hr => ?_)
    · exact ⟨congrArg (fun z => some (Value.int z)) (b2i_f (decide_eq_false (by simp only [Int32.lt_iff_toInt_lt, ← Int32.toInt_inj, own_z32] at hc128 ⊢; omega))).symm, N102, rfl⟩
    · show Steps p.tables e below (T102.setTop (mkF m 128 #[.val (.ref a1), .val (.int p1), .val (.int (62 : Int32)), .val (.int (0 : Int32)), .val (.int (1 : Int32)), .val (.int (0 : Int32)), .unset] [(.int p1)])) _
      refine XS.ifNo X102.here hx rfl (hb hby d3_128) rfl (own_f (i0_gt _) hc128) ?_
      show Steps p.tables e below (T102.setTop (mkF m 131 #[.val (.ref a1), .val (.int p1), .val (.int (62 : Int32)), .val (.int (0 : Int32)), .val (.int (1 : Int32)), .val (.int (0 : Int32)), .unset] [])) _
      refine XS.iload X102.here hx rfl (hb hby d3_131) rfl ?_
      show Steps p.tables e below (T102.setTop (mkF m 133 #[.val (.ref a1), .val (.int p1), .val (.int (62 : Int32)), .val (.int (0 : Int32)), .val (.int (1 : Int32)), .val (.int (0 : Int32)), .unset] [(.int (0 : Int32))])) _
      refine XS.ifYes X102.here hx rfl (pc0 := 133) (pc' := 144) rfl (hb hby d3_133) rfl (own_t (i0_eq _) (by decide)) (by decide) (by decide) ?_
      show Steps p.tables e below (T102.setTop (mkF m 144 #[.val (.ref a1), .val (.int p1), .val (.int (62 : Int32)), .val (.int (0 : Int32)), .val (.int (1 : Int32)), .val (.int (0 : Int32)), .unset] [])) _
      refine XS.iconst X102.here hx rfl (hb hby d3_144) ?_
      show Steps p.tables e below (T102.setTop (mkF m 145 #[.val (.ref a1), .val (.int p1), .val (.int (62 : Int32)), .val (.int (0 : Int32)), .val (.int (1 : Int32)), .val (.int (0 : Int32)), .unset] [(.int (0 : Int32))])) _
      exact retN X102 hx (t := .boolean) Bd.returns (by simp) (hb hby d3_145) hr
theorem ef_rm3_5 (m : MethodId) (x0 : Addr) (x1 : Int32) : entryFrame m #[(.ref x0), (.int x1)] 7 = mkF m 0 #[.val (.ref x0), .val (.int x1), .unset, .unset, .unset, .unset, .unset] [] := by first | (simp [entryFrame, mkF, argsToLocals, Value.category]; done) | rfl
theorem d3_63 : decode method_2_code 63 = .ok (.iload 6, 2) := by decide +kernel
theorem d3_65 : decode method_2_code 65 = .ok (.bipush 60, 2) := by decide +kernel
theorem d3_67 : decode method_2_code 67 = .ok (.if_icmp .ne 7, 3) := by decide +kernel
theorem d3_74 : decode method_2_code 74 = .ok (.iconst 0, 1) := by decide +kernel
def Q3_5 (Z : State) (a1 : Addr) (p1 : Int32) (b1 : Addr) (bk : ClassId) (cs : Int32) (G3 : Value) (h0 : Heap) (n0 : Nat) (v : Option Value) (h : Heap) (L : List Loc) : Prop := v = some (.int (b2i (decide (¬ p1 < 0)))) ∧ Fr n0 L ∧ h = h0
set_option maxRecDepth 65536 in
set_option maxHeartbeats 40000000 in
theorem rm3_5 (l : Launch) (Z : State) (a0 : Array Value) (hw : ∀ d ∈ tables_1, d.before a0 Z = true) (ws : List Jvm.Cond) (a1 : Addr) (p1 : Int32) (b1 : Addr) (bk : ClassId) (cs : Int32) (G3 : Value) (h0 : Heap) (n0 : Nat) (Z0 : n0 ≤ h0.size) (S_c : Sta Z h0 "java/lang/String" "COMPACT_STRINGS" "Z" (.int cs)) (hcs : ¬ cs = 0) (E_a : Exa Z h0 a1 "java/lang/String") (F_v : Fld Z h0 a1 "java/lang/String" "value" "[B" (.ref b1)) (F_c : Fld Z h0 a1 "java/lang/String" "coder" "B" (.int (0 : Int32))) (V_b : Arv Z h0 b1 bk .byte (2 : Int32) [(.int (62 : Int32)), (.int (61 : Int32))] (.int (0 : Int32))) (S_f : Sta Z h0 "jdk/internal/util/Preconditions" "SIOOBE_FORMATTER" "Ljava/util/function/BiFunction;" G3) (rG3 : G3.isRef = true) :
    OMet l Z (⟨"com/example/porthcurno/porthcurno/core/RelationHoldsPinLaw", "expected", "(Ljava/lang/String;I)Z"⟩ : MethodName) method_2_code 7 (some .boolean) ws ({ frames := 4, cells := 0, slots := 0, locals := 53 } : Room) #[(.ref a1), (.int p1)] h0 (Q3_5 Z a1 p1 b1 bk cs G3 h0 n0) := by
  refine own_body (plainFor_of_name pn_com_example_porthcurno_porthcurno_core_RelationHoldsPinLaw) ?_
  intro p e s m below meth c s₁ Bd hml0 hZ e0
  have hx := Bd.exec
  have hby := Bd.bytes
  have hml : c.maxLocals = 7 := hml0
  have hown : s.vm.findClass "com/example/porthcurno/porthcurno/core/RelationHoldsPinLaw" = some m.cls := findClass_of_methodNamed Bd.named
  have hnm := (name_of_methodNamed Bd.named Bd.method).1
  have X0 : Stand p l e ({ frames := 4, cells := 0, slots := 0, locals := 53 } : Room) s m #[(.ref a1), (.int p1)] below meth c s₁ [] 0 0 := Stand.of_body Bd
  have N0 := Fr.nil n0
  have K0 : Keep h0 h0 [] := Keep.refl _ _
  rw [ef_rm3_5]
  obtain ⟨v101, T101, L101, X101, q101, st101⟩ := own_callV X0 hx hZ (y := (⟨"java/lang/String", "charAt", "(I)C"⟩ : MethodName)) (z := (⟨"java/lang/String", "charAt", "(I)C"⟩ : MethodName)) hown (hw _ (List.mem_of_getElem? (i := 37) rfl)) (hw _ (List.mem_of_getElem? (i := 38) rfl)) (notFace_of_selects (args := #[]) (mvT hZ (hw _ (List.mem_of_getElem? (i := 40) rfl)))) (hw _ (List.mem_of_getElem? (i := 40) rfl)) (hw _ (List.mem_of_getElem? (i := 39) rfl)) (hw _ (List.mem_of_getElem? (i := 41) rfl)) (hw _ (List.mem_of_getElem? (i := 42) rfl)) (by decide) E_a (hM := (rm4 l Z a0 hw [] a1 (0 : Int32) b1 bk (2 : Int32) [(.int (62 : Int32)), (.int (61 : Int32))] (62 : Int32) (62 : Int32) cs G3 h0 n0 Z0 S_c hcs E_a F_v F_c V_b S_f rG3 (by decide) (by decide) rfl (by decide))) (by decide) (by decide) (by decide) (by decide) e0 (argsL := [(.int (0 : Int32))]) (rest := []) (Ls := #[.val (.ref a1), .val (.int p1), .unset, .unset, .unset, .unset, .unset]) (by rw [hml]; rfl) (lenOf pd__I_C rfl) (W := 0) (Nat.le_of_eq rfl) (hb hby d3_2)
  obtain ⟨rfl, N101q, e101⟩ := q101
  have N101 := Fr.app N0 N101q
  obtain ⟨v102, T102, L102, X102, q102, st102⟩ := own_callV X101 hx hZ (y := (⟨"java/lang/String", "length", "()I"⟩ : MethodName)) (z := (⟨"java/lang/String", "length", "()I"⟩ : MethodName)) hown (hw _ (List.mem_of_getElem? (i := 65) rfl)) (hw _ (List.mem_of_getElem? (i := 66) rfl)) (notFace_of_selects (args := #[]) (mvT hZ (hw _ (List.mem_of_getElem? (i := 68) rfl)))) (hw _ (List.mem_of_getElem? (i := 68) rfl)) (hw _ (List.mem_of_getElem? (i := 67) rfl)) (hw _ (List.mem_of_getElem? (i := 41) rfl)) (hw _ (List.mem_of_getElem? (i := 69) rfl)) (by decide) E_a (hM := (rm9 l Z a0 hw [] a1 b1 bk (2 : Int32) [(.int (62 : Int32)), (.int (61 : Int32))] cs h0 n0 Z0 S_c hcs E_a F_v F_c V_b)) (by decide) (by decide) (by decide) (by decide) e101 (argsL := []) (rest := []) (Ls := #[.val (.ref a1), .val (.int p1), .val (.int (62 : Int32)), .val (.int (0 : Int32)), .val (.int (1 : Int32)), .val (.int (0 : Int32)), .unset]) (by rw [hml]; rfl) (lenOf pd___I rfl) (W := 0) (Nat.le_of_eq rfl) (hb hby d3_45)
  obtain ⟨rfl, N102q, e102⟩ := q102
  have N102 := Fr.app N101 N102q
  obtain ⟨v103, T103, L103, X103, q103, st103⟩ := own_callV X102 hx hZ (y := (⟨"java/lang/String", "charAt", "(I)C"⟩ : MethodName)) (z := (⟨"java/lang/String", "charAt", "(I)C"⟩ : MethodName)) hown (hw _ (List.mem_of_getElem? (i := 37) rfl)) (hw _ (List.mem_of_getElem? (i := 38) rfl)) (notFace_of_selects (args := #[]) (mvT hZ (hw _ (List.mem_of_getElem? (i := 40) rfl)))) (hw _ (List.mem_of_getElem? (i := 40) rfl)) (hw _ (List.mem_of_getElem? (i := 39) rfl)) (hw _ (List.mem_of_getElem? (i := 41) rfl)) (hw _ (List.mem_of_getElem? (i := 42) rfl)) (by decide) E_a (hM := (rm4 l Z a0 hw [] a1 (1 : Int32) b1 bk (2 : Int32) [(.int (62 : Int32)), (.int (61 : Int32))] (61 : Int32) (61 : Int32) cs G3 h0 n0 Z0 S_c hcs E_a F_v F_c V_b S_f rG3 (by decide) (by decide) rfl (by decide))) (by decide) (by decide) (by decide) (by decide) e102 (argsL := [(.int (1 : Int32))]) (rest := []) (Ls := #[.val (.ref a1), .val (.int p1), .val (.int (62 : Int32)), .val (.int (0 : Int32)), .val (.int (1 : Int32)), .val (.int (0 : Int32)), .unset]) (by rw [hml]; rfl) (lenOf pd__I_C rfl) (W := 0) (Nat.le_of_eq rfl) (hb hby d3_54)
  obtain ⟨rfl, N103q, e103⟩ := q103
  have N103 := Fr.app N102 N103q
  refine Gl.pre (S' := T103.setTop (mkF m 65 #[.val (.ref a1), .val (.int p1), .val (.int (62 : Int32)), .val (.int (0 : Int32)), .val (.int (1 : Int32)), .val (.int (0 : Int32)), .val (.int (61 : Int32))] [(.int (61 : Int32))])) (fun t kt => ?_) ?_
  · show Steps p.tables e below (s₁.setTop (mkF m 0 #[.val (.ref a1), .val (.int p1), .unset, .unset, .unset, .unset, .unset] [])) _
    refine XS.aloadN X0.here hx rfl (hb hby d3_0) rfl rfl ?_
    show Steps p.tables e below (s₁.setTop (mkF m 1 #[.val (.ref a1), .val (.int p1), .unset, .unset, .unset, .unset, .unset] [(.ref a1)])) _
    refine XS.iconst X0.here hx rfl (hb hby d3_1) ?_
    show Steps p.tables e below (s₁.setTop (mkF m 2 #[.val (.ref a1), .val (.int p1), .unset, .unset, .unset, .unset, .unset] [(.int (0 : Int32)), (.ref a1)])) _
    refine st101 _ ?_
    show Steps p.tables e below (T101.setTop (mkF m 5 #[.val (.ref a1), .val (.int p1), .unset, .unset, .unset, .unset, .unset] [(.int (62 : Int32))])) _
    refine XS.istoreN X101.here hx rfl (hb hby d3_5) rfl (l' := #[.val (.ref a1), .val (.int p1), .val (.int (62 : Int32)), .unset, .unset, .unset, .unset]) rfl ?_
    show Steps p.tables e below (T101.setTop (mkF m 6 #[.val (.ref a1), .val (.int p1), .val (.int (62 : Int32)), .unset, .unset, .unset, .unset] [])) _
    refine XS.iloadN X101.here hx rfl (hb hby d3_6) rfl ?_
    show Steps p.tables e below (T101.setTop (mkF m 7 #[.val (.ref a1), .val (.int p1), .val (.int (62 : Int32)), .unset, .unset, .unset, .unset] [(.int (62 : Int32))])) _
    refine XS.bipush X101.here hx rfl (hb hby d3_7) ?_
    show Steps p.tables e below (T101.setTop (mkF m 9 #[.val (.ref a1), .val (.int p1), .val (.int (62 : Int32)), .unset, .unset, .unset, .unset] [(.int (60 : Int32)), (.int (62 : Int32))])) _
    refine XS.icmpYes X101.here hx rfl (pc0 := 9) (pc' := 16) rfl (hb hby d3_9) rfl (own_nt (ic_ne _ _) (by decide)) (by decide) (by decide) ?_
    show Steps p.tables e below (T101.setTop (mkF m 16 #[.val (.ref a1), .val (.int p1), .val (.int (62 : Int32)), .unset, .unset, .unset, .unset] [])) _
    refine XS.iconst X101.here hx rfl (hb hby d3_16) ?_
    show Steps p.tables e below (T101.setTop (mkF m 17 #[.val (.ref a1), .val (.int p1), .val (.int (62 : Int32)), .unset, .unset, .unset, .unset] [(.int (0 : Int32))])) _
    refine XS.istoreN X101.here hx rfl (hb hby d3_17) rfl (l' := #[.val (.ref a1), .val (.int p1), .val (.int (62 : Int32)), .val (.int (0 : Int32)), .unset, .unset, .unset]) rfl ?_
    show Steps p.tables e below (T101.setTop (mkF m 18 #[.val (.ref a1), .val (.int p1), .val (.int (62 : Int32)), .val (.int (0 : Int32)), .unset, .unset, .unset] [])) _
    refine XS.iloadN X101.here hx rfl (hb hby d3_18) rfl ?_
    show Steps p.tables e below (T101.setTop (mkF m 19 #[.val (.ref a1), .val (.int p1), .val (.int (62 : Int32)), .val (.int (0 : Int32)), .unset, .unset, .unset] [(.int (62 : Int32))])) _
    refine XS.bipush X101.here hx rfl (hb hby d3_19) ?_
    show Steps p.tables e below (T101.setTop (mkF m 21 #[.val (.ref a1), .val (.int p1), .val (.int (62 : Int32)), .val (.int (0 : Int32)), .unset, .unset, .unset] [(.int (62 : Int32)), (.int (62 : Int32))])) _
    refine XS.icmpNo X101.here hx rfl (hb hby d3_21) rfl (own_nf (ic_ne _ _) (by decide)) ?_
    show Steps p.tables e below (T101.setTop (mkF m 24 #[.val (.ref a1), .val (.int p1), .val (.int (62 : Int32)), .val (.int (0 : Int32)), .unset, .unset, .unset] [])) _
    refine XS.iconst X101.here hx rfl (hb hby d3_24) ?_
    show Steps p.tables e below (T101.setTop (mkF m 25 #[.val (.ref a1), .val (.int p1), .val (.int (62 : Int32)), .val (.int (0 : Int32)), .unset, .unset, .unset] [(.int (1 : Int32))])) _
    refine XS.goto X101.here hx rfl (pc0 := 25) (pc' := 29) rfl (hb hby d3_25) (by decide) (by decide) ?_
    show Steps p.tables e below (T101.setTop (mkF m 29 #[.val (.ref a1), .val (.int p1), .val (.int (62 : Int32)), .val (.int (0 : Int32)), .unset, .unset, .unset] [(.int (1 : Int32))])) _
    refine XS.istore X101.here hx rfl (hb hby d3_29) rfl (l' := #[.val (.ref a1), .val (.int p1), .val (.int (62 : Int32)), .val (.int (0 : Int32)), .val (.int (1 : Int32)), .unset, .unset]) rfl ?_
    show Steps p.tables e below (T101.setTop (mkF m 31 #[.val (.ref a1), .val (.int p1), .val (.int (62 : Int32)), .val (.int (0 : Int32)), .val (.int (1 : Int32)), .unset, .unset] [])) _
    refine XS.iloadN X101.here hx rfl (hb hby d3_31) rfl ?_
    show Steps p.tables e below (T101.setTop (mkF m 32 #[.val (.ref a1), .val (.int p1), .val (.int (62 : Int32)), .val (.int (0 : Int32)), .val (.int (1 : Int32)), .unset, .unset] [(.int (62 : Int32))])) _
    refine XS.bipush X101.here hx rfl (hb hby d3_32) ?_
    show Steps p.tables e below (T101.setTop (mkF m 34 #[.val (.ref a1), .val (.int p1), .val (.int (62 : Int32)), .val (.int (0 : Int32)), .val (.int (1 : Int32)), .unset, .unset] [(.int (61 : Int32)), (.int (62 : Int32))])) _
    refine XS.icmpYes X101.here hx rfl (pc0 := 34) (pc' := 41) rfl (hb hby d3_34) rfl (own_nt (ic_ne _ _) (by decide)) (by decide) (by decide) ?_
    show Steps p.tables e below (T101.setTop (mkF m 41 #[.val (.ref a1), .val (.int p1), .val (.int (62 : Int32)), .val (.int (0 : Int32)), .val (.int (1 : Int32)), .unset, .unset] [])) _
    refine XS.iconst X101.here hx rfl (hb hby d3_41) ?_
    show Steps p.tables e below (T101.setTop (mkF m 42 #[.val (.ref a1), .val (.int p1), .val (.int (62 : Int32)), .val (.int (0 : Int32)), .val (.int (1 : Int32)), .unset, .unset] [(.int (0 : Int32))])) _
    refine XS.istore X101.here hx rfl (hb hby d3_42) rfl (l' := #[.val (.ref a1), .val (.int p1), .val (.int (62 : Int32)), .val (.int (0 : Int32)), .val (.int (1 : Int32)), .val (.int (0 : Int32)), .unset]) rfl ?_
    show Steps p.tables e below (T101.setTop (mkF m 44 #[.val (.ref a1), .val (.int p1), .val (.int (62 : Int32)), .val (.int (0 : Int32)), .val (.int (1 : Int32)), .val (.int (0 : Int32)), .unset] [])) _
    refine XS.aloadN X101.here hx rfl (hb hby d3_44) rfl rfl ?_
    show Steps p.tables e below (T101.setTop (mkF m 45 #[.val (.ref a1), .val (.int p1), .val (.int (62 : Int32)), .val (.int (0 : Int32)), .val (.int (1 : Int32)), .val (.int (0 : Int32)), .unset] [(.ref a1)])) _
    refine st102 _ ?_
    show Steps p.tables e below (T102.setTop (mkF m 48 #[.val (.ref a1), .val (.int p1), .val (.int (62 : Int32)), .val (.int (0 : Int32)), .val (.int (1 : Int32)), .val (.int (0 : Int32)), .unset] [(.int (2 : Int32))])) _
    refine XS.iconst X102.here hx rfl (hb hby d3_48) ?_
    show Steps p.tables e below (T102.setTop (mkF m 49 #[.val (.ref a1), .val (.int p1), .val (.int (62 : Int32)), .val (.int (0 : Int32)), .val (.int (1 : Int32)), .val (.int (0 : Int32)), .unset] [(.int (1 : Int32)), (.int (2 : Int32))])) _
    refine XS.icmpNo X102.here hx rfl (hb hby d3_49) rfl (own_nf (ic_le _ _) (by decide)) ?_
    show Steps p.tables e below (T102.setTop (mkF m 52 #[.val (.ref a1), .val (.int p1), .val (.int (62 : Int32)), .val (.int (0 : Int32)), .val (.int (1 : Int32)), .val (.int (0 : Int32)), .unset] [])) _
    refine XS.aloadN X102.here hx rfl (hb hby d3_52) rfl rfl ?_
    show Steps p.tables e below (T102.setTop (mkF m 53 #[.val (.ref a1), .val (.int p1), .val (.int (62 : Int32)), .val (.int (0 : Int32)), .val (.int (1 : Int32)), .val (.int (0 : Int32)), .unset] [(.ref a1)])) _
    refine XS.iconst X102.here hx rfl (hb hby d3_53) ?_
    show Steps p.tables e below (T102.setTop (mkF m 54 #[.val (.ref a1), .val (.int p1), .val (.int (62 : Int32)), .val (.int (0 : Int32)), .val (.int (1 : Int32)), .val (.int (0 : Int32)), .unset] [(.int (1 : Int32)), (.ref a1)])) _
    refine st103 _ ?_
    show Steps p.tables e below (T103.setTop (mkF m 57 #[.val (.ref a1), .val (.int p1), .val (.int (62 : Int32)), .val (.int (0 : Int32)), .val (.int (1 : Int32)), .val (.int (0 : Int32)), .unset] [(.int (61 : Int32))])) _
    refine XS.istore X103.here hx rfl (hb hby d3_57) rfl (l' := #[.val (.ref a1), .val (.int p1), .val (.int (62 : Int32)), .val (.int (0 : Int32)), .val (.int (1 : Int32)), .val (.int (0 : Int32)), .val (.int (61 : Int32))]) rfl ?_
    show Steps p.tables e below (T103.setTop (mkF m 59 #[.val (.ref a1), .val (.int p1), .val (.int (62 : Int32)), .val (.int (0 : Int32)), .val (.int (1 : Int32)), .val (.int (0 : Int32)), .val (.int (61 : Int32))] [])) _
    refine XS.iloadN X103.here hx rfl (hb hby d3_59) rfl ?_
    show Steps p.tables e below (T103.setTop (mkF m 60 #[.val (.ref a1), .val (.int p1), .val (.int (62 : Int32)), .val (.int (0 : Int32)), .val (.int (1 : Int32)), .val (.int (0 : Int32)), .val (.int (61 : Int32))] [(.int (0 : Int32))])) _
    refine XS.ifNo X103.here hx rfl (hb hby d3_60) rfl (own_nf (i0_ne _) (by decide)) ?_
    show Steps p.tables e below (T103.setTop (mkF m 63 #[.val (.ref a1), .val (.int p1), .val (.int (62 : Int32)), .val (.int (0 : Int32)), .val (.int (1 : Int32)), .val (.int (0 : Int32)), .val (.int (61 : Int32))] [])) _
    refine XS.iload X103.here hx rfl (hb hby d3_63) rfl ?_
    exact kt
  refine Gl.pre (S' := T103.setTop (mkF m 128 #[.val (.ref a1), .val (.int p1), .val (.int (62 : Int32)), .val (.int (0 : Int32)), .val (.int (1 : Int32)), .val (.int (1 : Int32)), .val (.int (61 : Int32))] [(.int p1)])) (fun t kt => ?_) ?_
  · show Steps p.tables e below (T103.setTop (mkF m 65 #[.val (.ref a1), .val (.int p1), .val (.int (62 : Int32)), .val (.int (0 : Int32)), .val (.int (1 : Int32)), .val (.int (0 : Int32)), .val (.int (61 : Int32))] [(.int (61 : Int32))])) _
    refine XS.bipush X103.here hx rfl (hb hby d3_65) ?_
    show Steps p.tables e below (T103.setTop (mkF m 67 #[.val (.ref a1), .val (.int p1), .val (.int (62 : Int32)), .val (.int (0 : Int32)), .val (.int (1 : Int32)), .val (.int (0 : Int32)), .val (.int (61 : Int32))] [(.int (60 : Int32)), (.int (61 : Int32))])) _
    refine XS.icmpYes X103.here hx rfl (pc0 := 67) (pc' := 74) rfl (hb hby d3_67) rfl (own_nt (ic_ne _ _) (by decide)) (by decide) (by decide) ?_
    show Steps p.tables e below (T103.setTop (mkF m 74 #[.val (.ref a1), .val (.int p1), .val (.int (62 : Int32)), .val (.int (0 : Int32)), .val (.int (1 : Int32)), .val (.int (0 : Int32)), .val (.int (61 : Int32))] [])) _
    refine XS.iconst X103.here hx rfl (hb hby d3_74) ?_
    show Steps p.tables e below (T103.setTop (mkF m 75 #[.val (.ref a1), .val (.int p1), .val (.int (62 : Int32)), .val (.int (0 : Int32)), .val (.int (1 : Int32)), .val (.int (0 : Int32)), .val (.int (61 : Int32))] [(.int (0 : Int32))])) _
    refine XS.istoreN X103.here hx rfl (hb hby d3_75) rfl (l' := #[.val (.ref a1), .val (.int p1), .val (.int (62 : Int32)), .val (.int (0 : Int32)), .val (.int (1 : Int32)), .val (.int (0 : Int32)), .val (.int (61 : Int32))]) rfl ?_
    show Steps p.tables e below (T103.setTop (mkF m 76 #[.val (.ref a1), .val (.int p1), .val (.int (62 : Int32)), .val (.int (0 : Int32)), .val (.int (1 : Int32)), .val (.int (0 : Int32)), .val (.int (61 : Int32))] [])) _
    refine XS.iload X103.here hx rfl (hb hby d3_76) rfl ?_
    show Steps p.tables e below (T103.setTop (mkF m 78 #[.val (.ref a1), .val (.int p1), .val (.int (62 : Int32)), .val (.int (0 : Int32)), .val (.int (1 : Int32)), .val (.int (0 : Int32)), .val (.int (61 : Int32))] [(.int (1 : Int32))])) _
    refine XS.ifYes X103.here hx rfl (pc0 := 78) (pc' := 88) rfl (hb hby d3_78) rfl (own_nt (i0_ne _) (by decide)) (by decide) (by decide) ?_
    show Steps p.tables e below (T103.setTop (mkF m 88 #[.val (.ref a1), .val (.int p1), .val (.int (62 : Int32)), .val (.int (0 : Int32)), .val (.int (1 : Int32)), .val (.int (0 : Int32)), .val (.int (61 : Int32))] [])) _
    refine XS.iconst X103.here hx rfl (hb hby d3_88) ?_
    show Steps p.tables e below (T103.setTop (mkF m 89 #[.val (.ref a1), .val (.int p1), .val (.int (62 : Int32)), .val (.int (0 : Int32)), .val (.int (1 : Int32)), .val (.int (0 : Int32)), .val (.int (61 : Int32))] [(.int (1 : Int32))])) _
    refine XS.goto X103.here hx rfl (pc0 := 89) (pc' := 93) rfl (hb hby d3_89) (by decide) (by decide) ?_
    show Steps p.tables e below (T103.setTop (mkF m 93 #[.val (.ref a1), .val (.int p1), .val (.int (62 : Int32)), .val (.int (0 : Int32)), .val (.int (1 : Int32)), .val (.int (0 : Int32)), .val (.int (61 : Int32))] [(.int (1 : Int32))])) _
    refine XS.istore X103.here hx rfl (hb hby d3_93) rfl (l' := #[.val (.ref a1), .val (.int p1), .val (.int (62 : Int32)), .val (.int (0 : Int32)), .val (.int (1 : Int32)), .val (.int (0 : Int32)), .val (.int (61 : Int32))]) rfl ?_
    show Steps p.tables e below (T103.setTop (mkF m 95 #[.val (.ref a1), .val (.int p1), .val (.int (62 : Int32)), .val (.int (0 : Int32)), .val (.int (1 : Int32)), .val (.int (0 : Int32)), .val (.int (61 : Int32))] [])) _
    refine XS.iload X103.here hx rfl (hb hby d3_95) rfl ?_
    show Steps p.tables e below (T103.setTop (mkF m 97 #[.val (.ref a1), .val (.int p1), .val (.int (62 : Int32)), .val (.int (0 : Int32)), .val (.int (1 : Int32)), .val (.int (0 : Int32)), .val (.int (61 : Int32))] [(.int (0 : Int32))])) _
    refine XS.ifNo X103.here hx rfl (hb hby d3_97) rfl (own_nf (i0_ne _) (by decide)) ?_
    show Steps p.tables e below (T103.setTop (mkF m 100 #[.val (.ref a1), .val (.int p1), .val (.int (62 : Int32)), .val (.int (0 : Int32)), .val (.int (1 : Int32)), .val (.int (0 : Int32)), .val (.int (61 : Int32))] [])) _
    refine XS.iload X103.here hx rfl (hb hby d3_100) rfl ?_
    show Steps p.tables e below (T103.setTop (mkF m 102 #[.val (.ref a1), .val (.int p1), .val (.int (62 : Int32)), .val (.int (0 : Int32)), .val (.int (1 : Int32)), .val (.int (0 : Int32)), .val (.int (61 : Int32))] [(.int (61 : Int32))])) _
    refine XS.bipush X103.here hx rfl (hb hby d3_102) ?_
    show Steps p.tables e below (T103.setTop (mkF m 104 #[.val (.ref a1), .val (.int p1), .val (.int (62 : Int32)), .val (.int (0 : Int32)), .val (.int (1 : Int32)), .val (.int (0 : Int32)), .val (.int (61 : Int32))] [(.int (61 : Int32)), (.int (61 : Int32))])) _
    refine XS.icmpNo X103.here hx rfl (hb hby d3_104) rfl (own_nf (ic_ne _ _) (by decide)) ?_
    show Steps p.tables e below (T103.setTop (mkF m 107 #[.val (.ref a1), .val (.int p1), .val (.int (62 : Int32)), .val (.int (0 : Int32)), .val (.int (1 : Int32)), .val (.int (0 : Int32)), .val (.int (61 : Int32))] [])) _
    refine XS.iconst X103.here hx rfl (hb hby d3_107) ?_
    show Steps p.tables e below (T103.setTop (mkF m 108 #[.val (.ref a1), .val (.int p1), .val (.int (62 : Int32)), .val (.int (0 : Int32)), .val (.int (1 : Int32)), .val (.int (0 : Int32)), .val (.int (61 : Int32))] [(.int (1 : Int32))])) _
    refine XS.goto X103.here hx rfl (pc0 := 108) (pc' := 112) rfl (hb hby d3_108) (by decide) (by decide) ?_
    show Steps p.tables e below (T103.setTop (mkF m 112 #[.val (.ref a1), .val (.int p1), .val (.int (62 : Int32)), .val (.int (0 : Int32)), .val (.int (1 : Int32)), .val (.int (0 : Int32)), .val (.int (61 : Int32))] [(.int (1 : Int32))])) _
    refine XS.istore X103.here hx rfl (hb hby d3_112) rfl (l' := #[.val (.ref a1), .val (.int p1), .val (.int (62 : Int32)), .val (.int (0 : Int32)), .val (.int (1 : Int32)), .val (.int (1 : Int32)), .val (.int (61 : Int32))]) rfl ?_
    show Steps p.tables e below (T103.setTop (mkF m 114 #[.val (.ref a1), .val (.int p1), .val (.int (62 : Int32)), .val (.int (0 : Int32)), .val (.int (1 : Int32)), .val (.int (1 : Int32)), .val (.int (61 : Int32))] [])) _
    refine XS.iloadN X103.here hx rfl (hb hby d3_114) rfl ?_
    show Steps p.tables e below (T103.setTop (mkF m 115 #[.val (.ref a1), .val (.int p1), .val (.int (62 : Int32)), .val (.int (0 : Int32)), .val (.int (1 : Int32)), .val (.int (1 : Int32)), .val (.int (61 : Int32))] [(.int (0 : Int32))])) _
    refine XS.ifYes X103.here hx rfl (pc0 := 115) (pc' := 122) rfl (hb hby d3_115) rfl (own_t (i0_eq _) (by decide)) (by decide) (by decide) ?_
    show Steps p.tables e below (T103.setTop (mkF m 122 #[.val (.ref a1), .val (.int p1), .val (.int (62 : Int32)), .val (.int (0 : Int32)), .val (.int (1 : Int32)), .val (.int (1 : Int32)), .val (.int (61 : Int32))] [])) _
    refine XS.iload X103.here hx rfl (hb hby d3_122) rfl ?_
    show Steps p.tables e below (T103.setTop (mkF m 124 #[.val (.ref a1), .val (.int p1), .val (.int (62 : Int32)), .val (.int (0 : Int32)), .val (.int (1 : Int32)), .val (.int (1 : Int32)), .val (.int (61 : Int32))] [(.int (1 : Int32))])) _
    refine XS.ifNo X103.here hx rfl (hb hby d3_124) rfl (own_f (i0_eq _) (by decide)) ?_
    show Steps p.tables e below (T103.setTop (mkF m 127 #[.val (.ref a1), .val (.int p1), .val (.int (62 : Int32)), .val (.int (0 : Int32)), .val (.int (1 : Int32)), .val (.int (1 : Int32)), .val (.int (61 : Int32))] [])) _
    refine XS.iloadN X103.here hx rfl (hb hby d3_127) rfl ?_
    exact kt
  by_cases hc128 : (0 : Int32) < p1
  · refine Gl.fin X103 (v := some (.int (1 : Int32))) (fun h => by rw [Bd.returns] at h; cases h) Bd.notSynchronized ?_ e103 (by decide) (by decide) (fun fs hr => ?_)
    · exact ⟨congrArg (fun z => some (Value.int z)) (b2i_t (decide_eq_true (by simp only [Int32.lt_iff_toInt_lt, ← Int32.toInt_inj, own_z32] at hc128 ⊢; omega))).symm, N103, rfl⟩
    · show Steps p.tables e below (T103.setTop (mkF m 128 #[.val (.ref a1), .val (.int p1), .val (.int (62 : Int32)), .val (.int (0 : Int32)), .val (.int (1 : Int32)), .val (.int (1 : Int32)), .val (.int (61 : Int32))] [(.int p1)])) _
      refine XS.ifYes X103.here hx rfl (pc0 := 128) (pc' := 140) rfl (hb hby d3_128) rfl (own_t (i0_gt _) hc128) (by decide) (by decide) ?_
      show Steps p.tables e below (T103.setTop (mkF m 140 #[.val (.ref a1), .val (.int p1), .val (.int (62 : Int32)), .val (.int (0 : Int32)), .val (.int (1 : Int32)), .val (.int (1 : Int32)), .val (.int (61 : Int32))] [])) _
      refine XS.iconst X103.here hx rfl (hb hby d3_140) ?_
      show Steps p.tables e below (T103.setTop (mkF m 141 #[.val (.ref a1), .val (.int p1), .val (.int (62 : Int32)), .val (.int (0 : Int32)), .val (.int (1 : Int32)), .val (.int (1 : Int32)), .val (.int (61 : Int32))] [(.int (1 : Int32))])) _
      refine XS.goto X103.here hx rfl (pc0 := 141) (pc' := 145) rfl (hb hby d3_141) (by decide) (by decide) ?_
      show Steps p.tables e below (T103.setTop (mkF m 145 #[.val (.ref a1), .val (.int p1), .val (.int (62 : Int32)), .val (.int (0 : Int32)), .val (.int (1 : Int32)), .val (.int (1 : Int32)), .val (.int (61 : Int32))] [(.int (1 : Int32))])) _
      exact retN X103 hx (t := .boolean) Bd.returns (by simp) (hb hby d3_145) hr
  · refine Gl.pre (S' := T103.setTop (mkF m 137 #[.val (.ref a1), .val (.int p1), .val (.int (62 : Int32)), .val (.int (0 : Int32)), .val (.int (1 : Int32)), .val (.int (1 : Int32)), .val (.int (61 : Int32))] [(.int p1)])) (fun t kt => ?_) ?_
    · show Steps p.tables e below (T103.setTop (mkF m 128 #[.val (.ref a1), .val (.int p1), .val (.int (62 : Int32)), .val (.int (0 : Int32)), .val (.int (1 : Int32)), .val (.int (1 : Int32)), .val (.int (61 : Int32))] [(.int p1)])) _
      refine XS.ifNo X103.here hx rfl (hb hby d3_128) rfl (own_f (i0_gt _) hc128) ?_
      show Steps p.tables e below (T103.setTop (mkF m 131 #[.val (.ref a1), .val (.int p1), .val (.int (62 : Int32)), .val (.int (0 : Int32)), .val (.int (1 : Int32)), .val (.int (1 : Int32)), .val (.int (61 : Int32))] [])) _
      refine XS.iload X103.here hx rfl (hb hby d3_131) rfl ?_
      show Steps p.tables e below (T103.setTop (mkF m 133 #[.val (.ref a1), .val (.int p1), .val (.int (62 : Int32)), .val (.int (0 : Int32)), .val (.int (1 : Int32)), .val (.int (1 : Int32)), .val (.int (61 : Int32))] [(.int (1 : Int32))])) _
      refine XS.ifNo X103.here hx rfl (hb hby d3_133) rfl (own_f (i0_eq _) (by decide)) ?_
      show Steps p.tables e below (T103.setTop (mkF m 136 #[.val (.ref a1), .val (.int p1), .val (.int (62 : Int32)), .val (.int (0 : Int32)), .val (.int (1 : Int32)), .val (.int (1 : Int32)), .val (.int (61 : Int32))] [])) _
      refine XS.iloadN X103.here hx rfl (hb hby d3_136) rfl ?_
      exact kt
    by_cases hc137 : p1 = (0 : Int32)
    · refine Gl.fin X103 (v := some (.int (1 : Int32))) (fun h => by rw [Bd.returns] at h; cases h) Bd.notSynchronized ?_ e103 (by decide) (by decide) (fun fs hr => ?_)
      · exact ⟨congrArg (fun z => some (Value.int z)) (b2i_t (decide_eq_true (by simp only [Int32.lt_iff_toInt_lt, ← Int32.toInt_inj, own_z32] at hc128 hc137 ⊢; omega))).symm, N103, rfl⟩
      · show Steps p.tables e below (T103.setTop (mkF m 137 #[.val (.ref a1), .val (.int p1), .val (.int (62 : Int32)), .val (.int (0 : Int32)), .val (.int (1 : Int32)), .val (.int (1 : Int32)), .val (.int (61 : Int32))] [(.int p1)])) _
        refine XS.ifNo X103.here hx rfl (hb hby d3_137) rfl (own_nf (i0_ne _) hc137) ?_
        show Steps p.tables e below (T103.setTop (mkF m 140 #[.val (.ref a1), .val (.int p1), .val (.int (62 : Int32)), .val (.int (0 : Int32)), .val (.int (1 : Int32)), .val (.int (1 : Int32)), .val (.int (61 : Int32))] [])) _
        refine XS.iconst X103.here hx rfl (hb hby d3_140) ?_
        show Steps p.tables e below (T103.setTop (mkF m 141 #[.val (.ref a1), .val (.int p1), .val (.int (62 : Int32)), .val (.int (0 : Int32)), .val (.int (1 : Int32)), .val (.int (1 : Int32)), .val (.int (61 : Int32))] [(.int (1 : Int32))])) _
        refine XS.goto X103.here hx rfl (pc0 := 141) (pc' := 145) rfl (hb hby d3_141) (by decide) (by decide) ?_
        show Steps p.tables e below (T103.setTop (mkF m 145 #[.val (.ref a1), .val (.int p1), .val (.int (62 : Int32)), .val (.int (0 : Int32)), .val (.int (1 : Int32)), .val (.int (1 : Int32)), .val (.int (61 : Int32))] [(.int (1 : Int32))])) _
        exact retN X103 hx (t := .boolean) Bd.returns (by simp) (hb hby d3_145) hr
    · refine Gl.fin X103 (v := some (.int (0 : Int32))) (fun h => by rw [Bd.returns] at h; cases h) Bd.notSynchronized ?_ e103 (by decide) (by decide) (fun fs hr => ?_)
      · exact ⟨congrArg (fun z => some (Value.int z)) (b2i_f (decide_eq_false (by simp only [Int32.lt_iff_toInt_lt, ← Int32.toInt_inj, own_z32] at hc128 hc137 ⊢; omega))).symm, N103, rfl⟩
      · show Steps p.tables e below (T103.setTop (mkF m 137 #[.val (.ref a1), .val (.int p1), .val (.int (62 : Int32)), .val (.int (0 : Int32)), .val (.int (1 : Int32)), .val (.int (1 : Int32)), .val (.int (61 : Int32))] [(.int p1)])) _
        refine XS.ifYes X103.here hx rfl (pc0 := 137) (pc' := 144) rfl (hb hby d3_137) rfl (own_nt (i0_ne _) hc137) (by decide) (by decide) ?_
        show Steps p.tables e below (T103.setTop (mkF m 144 #[.val (.ref a1), .val (.int p1), .val (.int (62 : Int32)), .val (.int (0 : Int32)), .val (.int (1 : Int32)), .val (.int (1 : Int32)), .val (.int (61 : Int32))] [])) _
        refine XS.iconst X103.here hx rfl (hb hby d3_144) ?_
        show Steps p.tables e below (T103.setTop (mkF m 145 #[.val (.ref a1), .val (.int p1), .val (.int (62 : Int32)), .val (.int (0 : Int32)), .val (.int (1 : Int32)), .val (.int (1 : Int32)), .val (.int (61 : Int32))] [(.int (0 : Int32))])) _
        exact retN X103 hx (t := .boolean) Bd.returns (by simp) (hb hby d3_145) hr
theorem ef_rm0 (m : MethodId) (x0 : Int32) (x1 : Int32) : entryFrame m #[(.int x0), (.int x1)] maxLocals = mkF m 0 #[.val (.int x0), .val (.int x1), .unset, .unset, .unset, .unset, .unset] [] := by first | (simp [entryFrame, mkF, argsToLocals, Value.category, maxLocals]; done) | rfl
theorem pd__I_Z : parseMethodDescriptor "(I)Z" = some ⟨[.int], some .boolean⟩ := by decide +kernel
theorem pd__Ljava_lang_String_I_Z : parseMethodDescriptor "(Ljava/lang/String;I)Z" = some ⟨[(.object "java/lang/String"), .int], some .boolean⟩ := by decide +kernel
def Q0 (Z : State) (p0 : Int32) (p1 : Int32) (eq_ : Addr) (syeq_ : Addr) (byeq_ : Addr) (kkeq_ : ClassId) (nq_ : Addr) (synq_ : Addr) (bynq_ : Addr) (kknq_ : ClassId) (ls_ : Addr) (syls_ : Addr) (byls_ : Addr) (kkls_ : ClassId) (le_ : Addr) (syle_ : Addr) (byle_ : Addr) (kkle_ : ClassId) (gr_ : Addr) (sygr_ : Addr) (bygr_ : Addr) (kkgr_ : ClassId) (ge_ : Addr) (syge_ : Addr) (byge_ : Addr) (kkge_ : ClassId) (cs : Int32) (G3 : Value) (h0 : Heap) (n0 : Nat) (v : Option Value) (h : Heap) (L : List Loc) : Prop := v = some (.int 1) ∧ Fr n0 L
set_option maxRecDepth 65536 in
set_option maxHeartbeats 40000000 in
theorem rm0 (l : Launch) (Z : State) (a0 : Array Value) (hw : ∀ d ∈ tables_1, d.before a0 Z = true) (ws : List Jvm.Cond) (p0 : Int32) (p1 : Int32) (eq_ : Addr) (syeq_ : Addr) (byeq_ : Addr) (kkeq_ : ClassId) (nq_ : Addr) (synq_ : Addr) (bynq_ : Addr) (kknq_ : ClassId) (ls_ : Addr) (syls_ : Addr) (byls_ : Addr) (kkls_ : ClassId) (le_ : Addr) (syle_ : Addr) (byle_ : Addr) (kkle_ : ClassId) (gr_ : Addr) (sygr_ : Addr) (bygr_ : Addr) (kkgr_ : ClassId) (ge_ : Addr) (syge_ : Addr) (byge_ : Addr) (kkge_ : ClassId) (cs : Int32) (G3 : Value) (h0 : Heap) (n0 : Nat) (Z0 : n0 ≤ h0.size) (S_c : Sta Z h0 "java/lang/String" "COMPACT_STRINGS" "Z" (.int cs)) (hcs : ¬ cs = 0) (S_f : Sta Z h0 "jdk/internal/util/Preconditions" "SIOOBE_FORMATTER" "Ljava/util/function/BiFunction;" G3) (rG3 : G3.isRef = true) (Seq_ : Sta Z h0 "com/example/porthcurno/porthcurno/core/SelectorExpression$Relation" "EQUAL" "Lcom/example/porthcurno/porthcurno/core/SelectorExpression$Relation;" (.ref eq_)) (Eeq_ : Exa Z h0 eq_ "com/example/porthcurno/porthcurno/core/SelectorExpression$Relation") (Feq_ : Fld Z h0 eq_ "java/lang/Enum" "ordinal" "I" (.int (0 : Int32))) (Yeq_ : Fld Z h0 eq_ "com/example/porthcurno/porthcurno/core/SelectorExpression$Relation" "symbol" "Ljava/lang/String;" (.ref syeq_)) (EYeq_ : Exa Z h0 syeq_ "java/lang/String") (FVeq_ : Fld Z h0 syeq_ "java/lang/String" "value" "[B" (.ref byeq_)) (FCeq_ : Fld Z h0 syeq_ "java/lang/String" "coder" "B" (.int (0 : Int32))) (VBeq_ : Arv Z h0 byeq_ kkeq_ .byte (1 : Int32) [(.int (61 : Int32))] (.int (0 : Int32))) (Snq_ : Sta Z h0 "com/example/porthcurno/porthcurno/core/SelectorExpression$Relation" "NOT_EQUAL" "Lcom/example/porthcurno/porthcurno/core/SelectorExpression$Relation;" (.ref nq_)) (Enq_ : Exa Z h0 nq_ "com/example/porthcurno/porthcurno/core/SelectorExpression$Relation") (Fnq_ : Fld Z h0 nq_ "java/lang/Enum" "ordinal" "I" (.int (1 : Int32))) (Ynq_ : Fld Z h0 nq_ "com/example/porthcurno/porthcurno/core/SelectorExpression$Relation" "symbol" "Ljava/lang/String;" (.ref synq_)) (EYnq_ : Exa Z h0 synq_ "java/lang/String") (FVnq_ : Fld Z h0 synq_ "java/lang/String" "value" "[B" (.ref bynq_)) (FCnq_ : Fld Z h0 synq_ "java/lang/String" "coder" "B" (.int (0 : Int32))) (VBnq_ : Arv Z h0 bynq_ kknq_ .byte (2 : Int32) [(.int (60 : Int32)), (.int (62 : Int32))] (.int (0 : Int32))) (Sls_ : Sta Z h0 "com/example/porthcurno/porthcurno/core/SelectorExpression$Relation" "LESS" "Lcom/example/porthcurno/porthcurno/core/SelectorExpression$Relation;" (.ref ls_)) (Els_ : Exa Z h0 ls_ "com/example/porthcurno/porthcurno/core/SelectorExpression$Relation") (Fls_ : Fld Z h0 ls_ "java/lang/Enum" "ordinal" "I" (.int (2 : Int32))) (Yls_ : Fld Z h0 ls_ "com/example/porthcurno/porthcurno/core/SelectorExpression$Relation" "symbol" "Ljava/lang/String;" (.ref syls_)) (EYls_ : Exa Z h0 syls_ "java/lang/String") (FVls_ : Fld Z h0 syls_ "java/lang/String" "value" "[B" (.ref byls_)) (FCls_ : Fld Z h0 syls_ "java/lang/String" "coder" "B" (.int (0 : Int32))) (VBls_ : Arv Z h0 byls_ kkls_ .byte (1 : Int32) [(.int (60 : Int32))] (.int (0 : Int32))) (Sle_ : Sta Z h0 "com/example/porthcurno/porthcurno/core/SelectorExpression$Relation" "LESS_OR_EQUAL" "Lcom/example/porthcurno/porthcurno/core/SelectorExpression$Relation;" (.ref le_)) (Ele_ : Exa Z h0 le_ "com/example/porthcurno/porthcurno/core/SelectorExpression$Relation") (Fle_ : Fld Z h0 le_ "java/lang/Enum" "ordinal" "I" (.int (3 : Int32))) (Yle_ : Fld Z h0 le_ "com/example/porthcurno/porthcurno/core/SelectorExpression$Relation" "symbol" "Ljava/lang/String;" (.ref syle_)) (EYle_ : Exa Z h0 syle_ "java/lang/String") (FVle_ : Fld Z h0 syle_ "java/lang/String" "value" "[B" (.ref byle_)) (FCle_ : Fld Z h0 syle_ "java/lang/String" "coder" "B" (.int (0 : Int32))) (VBle_ : Arv Z h0 byle_ kkle_ .byte (2 : Int32) [(.int (60 : Int32)), (.int (61 : Int32))] (.int (0 : Int32))) (Sgr_ : Sta Z h0 "com/example/porthcurno/porthcurno/core/SelectorExpression$Relation" "GREATER" "Lcom/example/porthcurno/porthcurno/core/SelectorExpression$Relation;" (.ref gr_)) (Egr_ : Exa Z h0 gr_ "com/example/porthcurno/porthcurno/core/SelectorExpression$Relation") (Fgr_ : Fld Z h0 gr_ "java/lang/Enum" "ordinal" "I" (.int (4 : Int32))) (Ygr_ : Fld Z h0 gr_ "com/example/porthcurno/porthcurno/core/SelectorExpression$Relation" "symbol" "Ljava/lang/String;" (.ref sygr_)) (EYgr_ : Exa Z h0 sygr_ "java/lang/String") (FVgr_ : Fld Z h0 sygr_ "java/lang/String" "value" "[B" (.ref bygr_)) (FCgr_ : Fld Z h0 sygr_ "java/lang/String" "coder" "B" (.int (0 : Int32))) (VBgr_ : Arv Z h0 bygr_ kkgr_ .byte (1 : Int32) [(.int (62 : Int32))] (.int (0 : Int32))) (Sge_ : Sta Z h0 "com/example/porthcurno/porthcurno/core/SelectorExpression$Relation" "GREATER_OR_EQUAL" "Lcom/example/porthcurno/porthcurno/core/SelectorExpression$Relation;" (.ref ge_)) (Ege_ : Exa Z h0 ge_ "com/example/porthcurno/porthcurno/core/SelectorExpression$Relation") (Fge_ : Fld Z h0 ge_ "java/lang/Enum" "ordinal" "I" (.int (5 : Int32))) (Yge_ : Fld Z h0 ge_ "com/example/porthcurno/porthcurno/core/SelectorExpression$Relation" "symbol" "Ljava/lang/String;" (.ref syge_)) (EYge_ : Exa Z h0 syge_ "java/lang/String") (FVge_ : Fld Z h0 syge_ "java/lang/String" "value" "[B" (.ref byge_)) (FCge_ : Fld Z h0 syge_ "java/lang/String" "coder" "B" (.int (0 : Int32))) (VBge_ : Arv Z h0 byge_ kkge_ .byte (2 : Int32) [(.int (62 : Int32)), (.int (61 : Int32))] (.int (0 : Int32))) :
    OMet l Z x code maxLocals ret ws room_1 #[(.int p0), (.int p1)] h0 (Q0 Z p0 p1 eq_ syeq_ byeq_ kkeq_ nq_ synq_ bynq_ kknq_ ls_ syls_ byls_ kkls_ le_ syle_ byle_ kkle_ gr_ sygr_ bygr_ kkgr_ ge_ syge_ byge_ kkge_ cs G3 h0 n0) := by
  refine own_body (plainFor_of_name pn_com_example_porthcurno_porthcurno_core_RelationHoldsPinLaw) ?_
  intro p e s m below meth c s₁ Bd hml0 hZ e0
  have hx := Bd.exec
  have hby := Bd.bytes
  have hml : c.maxLocals = 7 := hml0
  have hown : s.vm.findClass "com/example/porthcurno/porthcurno/core/RelationHoldsPinLaw" = some m.cls := findClass_of_methodNamed Bd.named
  have hnm := (name_of_methodNamed Bd.named Bd.method).1
  have X0 : Stand p l e room_1 s m #[(.int p0), (.int p1)] below meth c s₁ [] 0 0 := Stand.of_body Bd
  have N0 := Fr.nil n0
  have K0 : Keep h0 h0 [] := Keep.refl _ _
  rw [ef_rm0]
  obtain ⟨T101, h101, k101, X101, e101, E101, A101, O101, st101⟩ := newR X0 hx hZ hown (hw _ (List.mem_of_getElem? (i := 0) rfl)) (hw _ (List.mem_of_getElem? (i := 1) rfl)) e0 (g := (mkF m 2 #[.val (.int p0), .val (.int p1), .unset, .unset, .unset, .unset, .unset] [(.int (6 : Int32))])) rfl (hb hby at_2) rfl (by decide) (cap := 6) (by decide) (by decide) (by decide) (by decide)
  obtain ⟨b101, g101⟩ : ∃ z, z = h0.size := ⟨_, rfl⟩
  have g_b101 : n0 ≤ b101 := Nat.le_trans Z0 (Nat.le_of_eq g101.symm)
  have sz_b101 : h0.size ≤ b101 := Nat.le_trans K0.1 (Nat.le_of_eq g101.symm)
  rw [← g101] at A101 st101
  have K101 : Keep h0 h101 [] := K0.ext E101
  have V_b101 : Arv Z h101 b101 k101 (.object "com/example/porthcurno/porthcurno/core/SelectorExpression$Relation") (6 : Int32) [.null, .null, .null, .null, .null, .null] .null := (Arv.new A101 (by decide)).pad (pad_rep [] .null 6)
  have f102 := (Seq_.ext E101)
  obtain ⟨T103, X103, e103, st103⟩ := getS2 X101 hx hZ hown (host := "") (Or.inl (hw _ (List.mem_of_getElem? (i := 2) rfl))) Via.refl e101 f102 (g := (mkF m 7 #[.val (.int p0), .val (.int p1), .unset, .unset, .unset, .unset, .unset] [(.int (0 : Int32)), (.ref b101), (.ref b101)])) rfl (hb hby at_7)
  obtain ⟨cl104, Ar104, qa104, Sa104, Na104, Ha104, Ga104⟩ := id V_b101
  have hin104 : ¬ ((0 : Int32) < 0 ∨ cl104.slots.size ≤ ((0 : Int32)).toNatClampNeg) := inb_of Sa104 ⟨by decide, by decide⟩
  have f105 := (Eeq_.ext E101)
  obtain ⟨T104, h104, X104, e104, W104, st104⟩ := stR X103 hx hZ e103 Ar104 (j := (0 : Int32)) hin104 rfl (Sto.ofV Ar104 qa104 O101 (Ins.self f105)) (g := (mkF m 10 #[.val (.int p0), .val (.int p1), .unset, .unset, .unset, .unset, .unset] [(.ref eq_), (.int (0 : Int32)), (.ref b101), (.ref b101)])) rfl rfl (hb hby at_10)
  have V_b101_104 := Arv.set Ar104 qa104 Sa104 Na104 Ha104 Ga104 rfl W104 0 rfl (Nat.le_of_ble_eq_true rfl)
  have V104 : Arv Z h104 b101 k101 (.object "com/example/porthcurno/porthcurno/core/SelectorExpression$Relation") (6 : Int32) [(.ref eq_), .null, .null, .null, .null, .null] .null := V_b101_104
  have K104 : Keep h0 h104 [] := K101.wr W104 (Or.inr sz_b101)
  have N104 := Fr.snoc X104 N0 g_b101
  have f106 := ((Snq_.ext E101).wr W104)
  obtain ⟨T107, X107, e107, st107⟩ := getS2 X104 hx hZ hown (host := "") (Or.inl (hw _ (List.mem_of_getElem? (i := 6) rfl))) Via.refl e104 f106 (g := (mkF m 13 #[.val (.int p0), .val (.int p1), .unset, .unset, .unset, .unset, .unset] [(.int (1 : Int32)), (.ref b101), (.ref b101)])) rfl (hb hby at_13)
  obtain ⟨cl108, Ar108, qa108, Sa108, Na108, Ha108, Ga108⟩ := id V104
  have hin108 : ¬ ((1 : Int32) < 0 ∨ cl108.slots.size ≤ ((1 : Int32)).toNatClampNeg) := inb_of Sa108 ⟨by decide, by decide⟩
  have f109 := ((Enq_.ext E101).wr W104)
  obtain ⟨T108, h108, X108, e108, W108, st108⟩ := stR X107 hx hZ e107 Ar108 (j := (1 : Int32)) hin108 rfl (Sto.ofV Ar108 qa108 O101 (Ins.self f109)) (g := (mkF m 16 #[.val (.int p0), .val (.int p1), .unset, .unset, .unset, .unset, .unset] [(.ref nq_), (.int (1 : Int32)), (.ref b101), (.ref b101)])) rfl rfl (hb hby at_16)
  have V_b101_108 := Arv.set Ar108 qa108 Sa108 Na108 Ha108 Ga108 rfl W108 1 rfl (Nat.le_of_ble_eq_true rfl)
  have V108 : Arv Z h108 b101 k101 (.object "com/example/porthcurno/porthcurno/core/SelectorExpression$Relation") (6 : Int32) [(.ref eq_), (.ref nq_), .null, .null, .null, .null] .null := V_b101_108
  have K108 : Keep h0 h108 [] := K104.wr W108 (Or.inr sz_b101)
  have N108 := Fr.snoc X108 N104 g_b101
  have f110 := (((Sls_.ext E101).wr W104).wr W108)
  obtain ⟨T111, X111, e111, st111⟩ := getS2 X108 hx hZ hown (host := "") (Or.inl (hw _ (List.mem_of_getElem? (i := 8) rfl))) Via.refl e108 f110 (g := (mkF m 19 #[.val (.int p0), .val (.int p1), .unset, .unset, .unset, .unset, .unset] [(.int (2 : Int32)), (.ref b101), (.ref b101)])) rfl (hb hby at_19)
  obtain ⟨cl112, Ar112, qa112, Sa112, Na112, Ha112, Ga112⟩ := id V108
  have hin112 : ¬ ((2 : Int32) < 0 ∨ cl112.slots.size ≤ ((2 : Int32)).toNatClampNeg) := inb_of Sa112 ⟨by decide, by decide⟩
  have f113 := (((Els_.ext E101).wr W104).wr W108)
  obtain ⟨T112, h112, X112, e112, W112, st112⟩ := stR X111 hx hZ e111 Ar112 (j := (2 : Int32)) hin112 rfl (Sto.ofV Ar112 qa112 O101 (Ins.self f113)) (g := (mkF m 22 #[.val (.int p0), .val (.int p1), .unset, .unset, .unset, .unset, .unset] [(.ref ls_), (.int (2 : Int32)), (.ref b101), (.ref b101)])) rfl rfl (hb hby at_22)
  have V_b101_112 := Arv.set Ar112 qa112 Sa112 Na112 Ha112 Ga112 rfl W112 2 rfl (Nat.le_of_ble_eq_true rfl)
  have V112 : Arv Z h112 b101 k101 (.object "com/example/porthcurno/porthcurno/core/SelectorExpression$Relation") (6 : Int32) [(.ref eq_), (.ref nq_), (.ref ls_), .null, .null, .null] .null := V_b101_112
  have K112 : Keep h0 h112 [] := K108.wr W112 (Or.inr sz_b101)
  have N112 := Fr.snoc X112 N108 g_b101
  have f114 := ((((Sle_.ext E101).wr W104).wr W108).wr W112)
  obtain ⟨T115, X115, e115, st115⟩ := getS2 X112 hx hZ hown (host := "") (Or.inl (hw _ (List.mem_of_getElem? (i := 10) rfl))) Via.refl e112 f114 (g := (mkF m 25 #[.val (.int p0), .val (.int p1), .unset, .unset, .unset, .unset, .unset] [(.int (3 : Int32)), (.ref b101), (.ref b101)])) rfl (hb hby at_25)
  obtain ⟨cl116, Ar116, qa116, Sa116, Na116, Ha116, Ga116⟩ := id V112
  have hin116 : ¬ ((3 : Int32) < 0 ∨ cl116.slots.size ≤ ((3 : Int32)).toNatClampNeg) := inb_of Sa116 ⟨by decide, by decide⟩
  have f117 := ((((Ele_.ext E101).wr W104).wr W108).wr W112)
  obtain ⟨T116, h116, X116, e116, W116, st116⟩ := stR X115 hx hZ e115 Ar116 (j := (3 : Int32)) hin116 rfl (Sto.ofV Ar116 qa116 O101 (Ins.self f117)) (g := (mkF m 28 #[.val (.int p0), .val (.int p1), .unset, .unset, .unset, .unset, .unset] [(.ref le_), (.int (3 : Int32)), (.ref b101), (.ref b101)])) rfl rfl (hb hby at_28)
  have V_b101_116 := Arv.set Ar116 qa116 Sa116 Na116 Ha116 Ga116 rfl W116 3 rfl (Nat.le_of_ble_eq_true rfl)
  have V116 : Arv Z h116 b101 k101 (.object "com/example/porthcurno/porthcurno/core/SelectorExpression$Relation") (6 : Int32) [(.ref eq_), (.ref nq_), (.ref ls_), (.ref le_), .null, .null] .null := V_b101_116
  have K116 : Keep h0 h116 [] := K112.wr W116 (Or.inr sz_b101)
  have N116 := Fr.snoc X116 N112 g_b101
  have f118 := (((((Sgr_.ext E101).wr W104).wr W108).wr W112).wr W116)
  obtain ⟨T119, X119, e119, st119⟩ := getS2 X116 hx hZ hown (host := "") (Or.inl (hw _ (List.mem_of_getElem? (i := 12) rfl))) Via.refl e116 f118 (g := (mkF m 31 #[.val (.int p0), .val (.int p1), .unset, .unset, .unset, .unset, .unset] [(.int (4 : Int32)), (.ref b101), (.ref b101)])) rfl (hb hby at_31)
  obtain ⟨cl120, Ar120, qa120, Sa120, Na120, Ha120, Ga120⟩ := id V116
  have hin120 : ¬ ((4 : Int32) < 0 ∨ cl120.slots.size ≤ ((4 : Int32)).toNatClampNeg) := inb_of Sa120 ⟨by decide, by decide⟩
  have f121 := (((((Egr_.ext E101).wr W104).wr W108).wr W112).wr W116)
  obtain ⟨T120, h120, X120, e120, W120, st120⟩ := stR X119 hx hZ e119 Ar120 (j := (4 : Int32)) hin120 rfl (Sto.ofV Ar120 qa120 O101 (Ins.self f121)) (g := (mkF m 34 #[.val (.int p0), .val (.int p1), .unset, .unset, .unset, .unset, .unset] [(.ref gr_), (.int (4 : Int32)), (.ref b101), (.ref b101)])) rfl rfl (hb hby at_34)
  have V_b101_120 := Arv.set Ar120 qa120 Sa120 Na120 Ha120 Ga120 rfl W120 4 rfl (Nat.le_of_ble_eq_true rfl)
  have V120 : Arv Z h120 b101 k101 (.object "com/example/porthcurno/porthcurno/core/SelectorExpression$Relation") (6 : Int32) [(.ref eq_), (.ref nq_), (.ref ls_), (.ref le_), (.ref gr_), .null] .null := V_b101_120
  have K120 : Keep h0 h120 [] := K116.wr W120 (Or.inr sz_b101)
  have N120 := Fr.snoc X120 N116 g_b101
  have f122 := ((((((Sge_.ext E101).wr W104).wr W108).wr W112).wr W116).wr W120)
  obtain ⟨T123, X123, e123, st123⟩ := getS2 X120 hx hZ hown (host := "") (Or.inl (hw _ (List.mem_of_getElem? (i := 14) rfl))) Via.refl e120 f122 (g := (mkF m 37 #[.val (.int p0), .val (.int p1), .unset, .unset, .unset, .unset, .unset] [(.int (5 : Int32)), (.ref b101), (.ref b101)])) rfl (hb hby at_37)
  obtain ⟨cl124, Ar124, qa124, Sa124, Na124, Ha124, Ga124⟩ := id V120
  have hin124 : ¬ ((5 : Int32) < 0 ∨ cl124.slots.size ≤ ((5 : Int32)).toNatClampNeg) := inb_of Sa124 ⟨by decide, by decide⟩
  have f125 := ((((((Ege_.ext E101).wr W104).wr W108).wr W112).wr W116).wr W120)
  obtain ⟨T124, h124, X124, e124, W124, st124⟩ := stR X123 hx hZ e123 Ar124 (j := (5 : Int32)) hin124 rfl (Sto.ofV Ar124 qa124 O101 (Ins.self f125)) (g := (mkF m 40 #[.val (.int p0), .val (.int p1), .unset, .unset, .unset, .unset, .unset] [(.ref ge_), (.int (5 : Int32)), (.ref b101), (.ref b101)])) rfl rfl (hb hby at_40)
  have V_b101_124 := Arv.set Ar124 qa124 Sa124 Na124 Ha124 Ga124 rfl W124 5 rfl (Nat.le_of_ble_eq_true rfl)
  have V124 : Arv Z h124 b101 k101 (.object "com/example/porthcurno/porthcurno/core/SelectorExpression$Relation") (6 : Int32) [(.ref eq_), (.ref nq_), (.ref ls_), (.ref le_), (.ref gr_), (.ref ge_)] .null := V_b101_124
  have K124 : Keep h0 h124 [] := K120.wr W124 (Or.inr sz_b101)
  have N124 := Fr.snoc X124 N120 g_b101
  refine Gl.pre (S' := T124.setTop (mkF m 47 #[.val (.int p0), .val (.int p1), .val (.ref b101), .unset, .unset, .unset, .unset] [(.int (p0 &&& (2147483647 : Int32))), (.ref b101)])) (fun t kt => ?_) ?_
  · show Steps p.tables e below (s₁.setTop (mkF m 0 #[.val (.int p0), .val (.int p1), .unset, .unset, .unset, .unset, .unset] [])) _
    refine XS.bipush X0.here hx rfl (hb hby at_0) ?_
    show Steps p.tables e below (s₁.setTop (mkF m 2 #[.val (.int p0), .val (.int p1), .unset, .unset, .unset, .unset, .unset] [(.int (6 : Int32))])) _
    refine st101 _ ?_
    show Steps p.tables e below (T101.setTop (mkF m 5 #[.val (.int p0), .val (.int p1), .unset, .unset, .unset, .unset, .unset] [(.ref b101)])) _
    refine XS.dup X101.here hx rfl (hb hby at_5) rfl rfl ?_
    show Steps p.tables e below (T101.setTop (mkF m 6 #[.val (.int p0), .val (.int p1), .unset, .unset, .unset, .unset, .unset] [(.ref b101), (.ref b101)])) _
    refine XS.iconst X101.here hx rfl (hb hby at_6) ?_
    show Steps p.tables e below (T101.setTop (mkF m 7 #[.val (.int p0), .val (.int p1), .unset, .unset, .unset, .unset, .unset] [(.int (0 : Int32)), (.ref b101), (.ref b101)])) _
    refine st103 _ ?_
    show Steps p.tables e below (T103.setTop (mkF m 10 #[.val (.int p0), .val (.int p1), .unset, .unset, .unset, .unset, .unset] [(.ref eq_), (.int (0 : Int32)), (.ref b101), (.ref b101)])) _
    refine st104 _ ?_
    show Steps p.tables e below (T104.setTop (mkF m 11 #[.val (.int p0), .val (.int p1), .unset, .unset, .unset, .unset, .unset] [(.ref b101)])) _
    refine XS.dup X104.here hx rfl (hb hby at_11) rfl rfl ?_
    show Steps p.tables e below (T104.setTop (mkF m 12 #[.val (.int p0), .val (.int p1), .unset, .unset, .unset, .unset, .unset] [(.ref b101), (.ref b101)])) _
    refine XS.iconst X104.here hx rfl (hb hby at_12) ?_
    show Steps p.tables e below (T104.setTop (mkF m 13 #[.val (.int p0), .val (.int p1), .unset, .unset, .unset, .unset, .unset] [(.int (1 : Int32)), (.ref b101), (.ref b101)])) _
    refine st107 _ ?_
    show Steps p.tables e below (T107.setTop (mkF m 16 #[.val (.int p0), .val (.int p1), .unset, .unset, .unset, .unset, .unset] [(.ref nq_), (.int (1 : Int32)), (.ref b101), (.ref b101)])) _
    refine st108 _ ?_
    show Steps p.tables e below (T108.setTop (mkF m 17 #[.val (.int p0), .val (.int p1), .unset, .unset, .unset, .unset, .unset] [(.ref b101)])) _
    refine XS.dup X108.here hx rfl (hb hby at_17) rfl rfl ?_
    show Steps p.tables e below (T108.setTop (mkF m 18 #[.val (.int p0), .val (.int p1), .unset, .unset, .unset, .unset, .unset] [(.ref b101), (.ref b101)])) _
    refine XS.iconst X108.here hx rfl (hb hby at_18) ?_
    show Steps p.tables e below (T108.setTop (mkF m 19 #[.val (.int p0), .val (.int p1), .unset, .unset, .unset, .unset, .unset] [(.int (2 : Int32)), (.ref b101), (.ref b101)])) _
    refine st111 _ ?_
    show Steps p.tables e below (T111.setTop (mkF m 22 #[.val (.int p0), .val (.int p1), .unset, .unset, .unset, .unset, .unset] [(.ref ls_), (.int (2 : Int32)), (.ref b101), (.ref b101)])) _
    refine st112 _ ?_
    show Steps p.tables e below (T112.setTop (mkF m 23 #[.val (.int p0), .val (.int p1), .unset, .unset, .unset, .unset, .unset] [(.ref b101)])) _
    refine XS.dup X112.here hx rfl (hb hby at_23) rfl rfl ?_
    show Steps p.tables e below (T112.setTop (mkF m 24 #[.val (.int p0), .val (.int p1), .unset, .unset, .unset, .unset, .unset] [(.ref b101), (.ref b101)])) _
    refine XS.iconst X112.here hx rfl (hb hby at_24) ?_
    show Steps p.tables e below (T112.setTop (mkF m 25 #[.val (.int p0), .val (.int p1), .unset, .unset, .unset, .unset, .unset] [(.int (3 : Int32)), (.ref b101), (.ref b101)])) _
    refine st115 _ ?_
    show Steps p.tables e below (T115.setTop (mkF m 28 #[.val (.int p0), .val (.int p1), .unset, .unset, .unset, .unset, .unset] [(.ref le_), (.int (3 : Int32)), (.ref b101), (.ref b101)])) _
    refine st116 _ ?_
    show Steps p.tables e below (T116.setTop (mkF m 29 #[.val (.int p0), .val (.int p1), .unset, .unset, .unset, .unset, .unset] [(.ref b101)])) _
    refine XS.dup X116.here hx rfl (hb hby at_29) rfl rfl ?_
    show Steps p.tables e below (T116.setTop (mkF m 30 #[.val (.int p0), .val (.int p1), .unset, .unset, .unset, .unset, .unset] [(.ref b101), (.ref b101)])) _
    refine XS.iconst X116.here hx rfl (hb hby at_30) ?_
    show Steps p.tables e below (T116.setTop (mkF m 31 #[.val (.int p0), .val (.int p1), .unset, .unset, .unset, .unset, .unset] [(.int (4 : Int32)), (.ref b101), (.ref b101)])) _
    refine st119 _ ?_
    show Steps p.tables e below (T119.setTop (mkF m 34 #[.val (.int p0), .val (.int p1), .unset, .unset, .unset, .unset, .unset] [(.ref gr_), (.int (4 : Int32)), (.ref b101), (.ref b101)])) _
    refine st120 _ ?_
    show Steps p.tables e below (T120.setTop (mkF m 35 #[.val (.int p0), .val (.int p1), .unset, .unset, .unset, .unset, .unset] [(.ref b101)])) _
    refine XS.dup X120.here hx rfl (hb hby at_35) rfl rfl ?_
    show Steps p.tables e below (T120.setTop (mkF m 36 #[.val (.int p0), .val (.int p1), .unset, .unset, .unset, .unset, .unset] [(.ref b101), (.ref b101)])) _
    refine XS.iconst X120.here hx rfl (hb hby at_36) ?_
    show Steps p.tables e below (T120.setTop (mkF m 37 #[.val (.int p0), .val (.int p1), .unset, .unset, .unset, .unset, .unset] [(.int (5 : Int32)), (.ref b101), (.ref b101)])) _
    refine st123 _ ?_
    show Steps p.tables e below (T123.setTop (mkF m 40 #[.val (.int p0), .val (.int p1), .unset, .unset, .unset, .unset, .unset] [(.ref ge_), (.int (5 : Int32)), (.ref b101), (.ref b101)])) _
    refine st124 _ ?_
    show Steps p.tables e below (T124.setTop (mkF m 41 #[.val (.int p0), .val (.int p1), .unset, .unset, .unset, .unset, .unset] [(.ref b101)])) _
    refine XS.astoreN X124.here hx rfl (hb hby at_41) rfl rfl (l' := #[.val (.int p0), .val (.int p1), .val (.ref b101), .unset, .unset, .unset, .unset]) rfl ?_
    show Steps p.tables e below (T124.setTop (mkF m 42 #[.val (.int p0), .val (.int p1), .val (.ref b101), .unset, .unset, .unset, .unset] [])) _
    refine XS.aloadN X124.here hx rfl (hb hby at_42) rfl rfl ?_
    show Steps p.tables e below (T124.setTop (mkF m 43 #[.val (.int p0), .val (.int p1), .val (.ref b101), .unset, .unset, .unset, .unset] [(.ref b101)])) _
    refine XS.iloadN X124.here hx rfl (hb hby at_43) rfl ?_
    show Steps p.tables e below (T124.setTop (mkF m 44 #[.val (.int p0), .val (.int p1), .val (.ref b101), .unset, .unset, .unset, .unset] [(.int p0), (.ref b101)])) _
    refine X124.ldcInt hx hown (mvT hZ (hw _ (List.mem_of_getElem? (i := 16) rfl))) (g := (mkF m 44 #[.val (.int p0), .val (.int p1), .val (.ref b101), .unset, .unset, .unset, .unset] [(.int p0), (.ref b101)])) rfl (hb hby at_44) _ ?_
    show Steps p.tables e below (T124.setTop (mkF m 46 #[.val (.int p0), .val (.int p1), .val (.ref b101), .unset, .unset, .unset, .unset] [(.int (2147483647 : Int32)), (.int p0), (.ref b101)])) _
    refine XS.iand X124.here hx rfl (hb hby at_46) rfl ?_
    exact kt
  refine Gl.pre (S' := T124.setTop (mkF m 50 #[.val (.int p0), .val (.int p1), .val (.ref b101), .unset, .unset, .unset, .unset] [(.int ((p0 &&& (2147483647 : Int32)) % (6 : Int32))), (.ref b101)])) (fun t kt => ?_) ?_
  · show Steps p.tables e below (T124.setTop (mkF m 47 #[.val (.int p0), .val (.int p1), .val (.ref b101), .unset, .unset, .unset, .unset] [(.int (p0 &&& (2147483647 : Int32))), (.ref b101)])) _
    refine XS.bipush X124.here hx rfl (hb hby at_47) ?_
    show Steps p.tables e below (T124.setTop (mkF m 49 #[.val (.int p0), .val (.int p1), .val (.ref b101), .unset, .unset, .unset, .unset] [(.int (6 : Int32)), (.int (p0 &&& (2147483647 : Int32))), (.ref b101)])) _
    refine iremM X124 hx rfl (hb hby at_49) rfl (by decide) ?_
    exact kt
  rcases own_mod6 p0 with hk | hk | hk | hk | hk | hk
  · rw [hk]
    obtain ⟨cl126, Ar126, qa126, Sa126, Na126, Ha126, Ga126⟩ := id V124
    have hin126 : ¬ ((0 : Int32) < 0 ∨ cl126.slots.size ≤ ((0 : Int32)).toNatClampNeg) := inb_of Sa126 ⟨by decide, by decide⟩
    have hat126 := Ha126.at (v := (.ref eq_)) hin126 rfl
    have f127 := (((((((Yeq_.ext E101).other W104 (Or.inl (Nat.ne_of_lt (Nat.lt_of_lt_of_le Eeq_.lt (Nat.le_of_eq g101.symm))))).other W108 (Or.inl (Nat.ne_of_lt (Nat.lt_of_lt_of_le Eeq_.lt (Nat.le_of_eq g101.symm))))).other W112 (Or.inl (Nat.ne_of_lt (Nat.lt_of_lt_of_le Eeq_.lt (Nat.le_of_eq g101.symm))))).other W116 (Or.inl (Nat.ne_of_lt (Nat.lt_of_lt_of_le Eeq_.lt (Nat.le_of_eq g101.symm))))).other W120 (Or.inl (Nat.ne_of_lt (Nat.lt_of_lt_of_le Eeq_.lt (Nat.le_of_eq g101.symm))))).other W124 (Or.inl (Nat.ne_of_lt (Nat.lt_of_lt_of_le Eeq_.lt (Nat.le_of_eq g101.symm)))))
    obtain ⟨T128, X128, e128, st128⟩ := getF X124 hx hZ hown (host := "") (Or.inl (hw _ (List.mem_of_getElem? (i := 17) rfl))) Via.refl e124 f127 (g := (mkF m 53 #[.val (.int p0), .val (.int p1), .val (.ref b101), .val (.ref eq_), .unset, .unset, .unset] [(.ref eq_)])) rfl rfl (hb hby at_53)
    have f130 := ((((((f105.wr W104).wr W108).wr W112).wr W116).wr W120).wr W124)
    have f131 := (((((((Feq_.ext E101).other W104 (Or.inl (Nat.ne_of_lt (Nat.lt_of_lt_of_le Eeq_.lt (Nat.le_of_eq g101.symm))))).other W108 (Or.inl (Nat.ne_of_lt (Nat.lt_of_lt_of_le Eeq_.lt (Nat.le_of_eq g101.symm))))).other W112 (Or.inl (Nat.ne_of_lt (Nat.lt_of_lt_of_le Eeq_.lt (Nat.le_of_eq g101.symm))))).other W116 (Or.inl (Nat.ne_of_lt (Nat.lt_of_lt_of_le Eeq_.lt (Nat.le_of_eq g101.symm))))).other W120 (Or.inl (Nat.ne_of_lt (Nat.lt_of_lt_of_le Eeq_.lt (Nat.le_of_eq g101.symm))))).other W124 (Or.inl (Nat.ne_of_lt (Nat.lt_of_lt_of_le Eeq_.lt (Nat.le_of_eq g101.symm)))))
    have z132 : n0 ≤ h124.size := (Nat.le_trans (Nat.le_trans (Nat.le_trans (Nat.le_trans (Nat.le_trans (Nat.le_trans (Nat.le_trans Z0 E101.1) (Keep.of_wr W104).1) (Keep.of_wr W108).1) (Keep.of_wr W112).1) (Keep.of_wr W116).1) (Keep.of_wr W120).1) (Keep.of_wr W124).1)
    obtain ⟨v129, T129, L129, X129, q129, st129⟩ := own_callV X128 hx hZ (y := (⟨"com/example/porthcurno/porthcurno/core/SelectorExpression$Relation", "holds", "(I)Z"⟩ : MethodName)) (z := (⟨"com/example/porthcurno/porthcurno/core/SelectorExpression$Relation", "holds", "(I)Z"⟩ : MethodName)) hown (hw _ (List.mem_of_getElem? (i := 19) rfl)) (hw _ (List.mem_of_getElem? (i := 20) rfl)) (notFace_of_selects (args := #[]) (mvT hZ (hw _ (List.mem_of_getElem? (i := 22) rfl)))) (hw _ (List.mem_of_getElem? (i := 22) rfl)) (hw _ (List.mem_of_getElem? (i := 21) rfl)) (hw _ (List.mem_of_getElem? (i := 3) rfl)) (hw _ (List.mem_of_getElem? (i := 23) rfl)) (by decide) f130 (hM := (rm1_0 l Z a0 hw [] eq_ p1 h124 n0 z132 f130 f131)) (by decide) (by decide) (by decide) (by decide) e128 (argsL := [(.int p1)]) (rest := []) (Ls := #[.val (.int p0), .val (.int p1), .val (.ref b101), .val (.ref eq_), .val (.ref syeq_), .unset, .unset]) (by rw [hml]; rfl) (lenOf pd__I_Z rfl) (W := 0) (Nat.le_of_eq rfl) (hb hby at_60)
    obtain ⟨rfl, N129q, e129⟩ := q129
    have N129 := Fr.app N124 N129q
    have f134 := (((((((S_c.ext E101).wr W104).wr W108).wr W112).wr W116).wr W120).wr W124)
    have f135 := (((((((EYeq_.ext E101).wr W104).wr W108).wr W112).wr W116).wr W120).wr W124)
    have f136 := (((((((FVeq_.ext E101).other W104 (Or.inl (Nat.ne_of_lt (Nat.lt_of_lt_of_le EYeq_.lt (Nat.le_of_eq g101.symm))))).other W108 (Or.inl (Nat.ne_of_lt (Nat.lt_of_lt_of_le EYeq_.lt (Nat.le_of_eq g101.symm))))).other W112 (Or.inl (Nat.ne_of_lt (Nat.lt_of_lt_of_le EYeq_.lt (Nat.le_of_eq g101.symm))))).other W116 (Or.inl (Nat.ne_of_lt (Nat.lt_of_lt_of_le EYeq_.lt (Nat.le_of_eq g101.symm))))).other W120 (Or.inl (Nat.ne_of_lt (Nat.lt_of_lt_of_le EYeq_.lt (Nat.le_of_eq g101.symm))))).other W124 (Or.inl (Nat.ne_of_lt (Nat.lt_of_lt_of_le EYeq_.lt (Nat.le_of_eq g101.symm)))))
    have f137 := (((((((FCeq_.ext E101).other W104 (Or.inl (Nat.ne_of_lt (Nat.lt_of_lt_of_le EYeq_.lt (Nat.le_of_eq g101.symm))))).other W108 (Or.inl (Nat.ne_of_lt (Nat.lt_of_lt_of_le EYeq_.lt (Nat.le_of_eq g101.symm))))).other W112 (Or.inl (Nat.ne_of_lt (Nat.lt_of_lt_of_le EYeq_.lt (Nat.le_of_eq g101.symm))))).other W116 (Or.inl (Nat.ne_of_lt (Nat.lt_of_lt_of_le EYeq_.lt (Nat.le_of_eq g101.symm))))).other W120 (Or.inl (Nat.ne_of_lt (Nat.lt_of_lt_of_le EYeq_.lt (Nat.le_of_eq g101.symm))))).other W124 (Or.inl (Nat.ne_of_lt (Nat.lt_of_lt_of_le EYeq_.lt (Nat.le_of_eq g101.symm)))))
    have f138 := (((((((VBeq_.ext E101).other W104 (Nat.ne_of_lt (Nat.lt_of_lt_of_le VBeq_.lt (Nat.le_of_eq g101.symm)))).other W108 (Nat.ne_of_lt (Nat.lt_of_lt_of_le VBeq_.lt (Nat.le_of_eq g101.symm)))).other W112 (Nat.ne_of_lt (Nat.lt_of_lt_of_le VBeq_.lt (Nat.le_of_eq g101.symm)))).other W116 (Nat.ne_of_lt (Nat.lt_of_lt_of_le VBeq_.lt (Nat.le_of_eq g101.symm)))).other W120 (Nat.ne_of_lt (Nat.lt_of_lt_of_le VBeq_.lt (Nat.le_of_eq g101.symm)))).other W124 (Nat.ne_of_lt (Nat.lt_of_lt_of_le VBeq_.lt (Nat.le_of_eq g101.symm))))
    have f139 := (((((((S_f.ext E101).wr W104).wr W108).wr W112).wr W116).wr W120).wr W124)
    obtain ⟨v133, T133, L133, X133, q133, st133⟩ := own_callS X129 hx hZ (y := (⟨"com/example/porthcurno/porthcurno/core/RelationHoldsPinLaw", "expected", "(Ljava/lang/String;I)Z"⟩ : MethodName)) hown (hw _ (List.mem_of_getElem? (i := 33) rfl)) (hw _ (List.mem_of_getElem? (i := 34) rfl)) (hw _ (List.mem_of_getElem? (i := 35) rfl)) (hw _ (List.mem_of_getElem? (i := 36) rfl)) (by decide) (hM := (rm3_0 l Z a0 hw [] syeq_ p1 byeq_ kkeq_ cs G3 h124 n0 z132 f134 hcs f135 f136 f137 f138 f139 rG3)) (by decide) (by decide) (by decide) (by decide) e129 (argsL := [(.ref syeq_), (.int p1)]) (rest := [(.int (b2i (decide (p1 = 0))))]) (Ls := #[.val (.int p0), .val (.int p1), .val (.ref b101), .val (.ref eq_), .val (.ref syeq_), .unset, .unset]) (by rw [hml]; rfl) (lenOf pd__Ljava_lang_String_I_Z rfl) (W := 1) (Nat.le_of_eq rfl) (hb hby at_66)
    obtain ⟨rfl, N133q, e133⟩ := q133
    have N133 := Fr.app N129 N133q
    obtain ⟨v140, T140, L140, X140, q140, st140⟩ := own_callV X133 hx hZ (y := (⟨"com/example/porthcurno/porthcurno/core/SelectorExpression$Relation", "holds", "(I)Z"⟩ : MethodName)) (z := (⟨"com/example/porthcurno/porthcurno/core/SelectorExpression$Relation", "holds", "(I)Z"⟩ : MethodName)) hown (hw _ (List.mem_of_getElem? (i := 19) rfl)) (hw _ (List.mem_of_getElem? (i := 20) rfl)) (notFace_of_selects (args := #[]) (mvT hZ (hw _ (List.mem_of_getElem? (i := 22) rfl)))) (hw _ (List.mem_of_getElem? (i := 22) rfl)) (hw _ (List.mem_of_getElem? (i := 21) rfl)) (hw _ (List.mem_of_getElem? (i := 3) rfl)) (hw _ (List.mem_of_getElem? (i := 23) rfl)) (by decide) f130 (hM := (rm1_0 l Z a0 hw [] eq_ (0 : Int32) h124 n0 z132 f130 f131)) (by decide) (by decide) (by decide) (by decide) e133 (argsL := [(.int (0 : Int32))]) (rest := []) (Ls := #[.val (.int p0), .val (.int p1), .val (.ref b101), .val (.ref eq_), .val (.ref syeq_), .val (.int (1 : Int32)), .unset]) (by rw [hml]; rfl) (lenOf pd__I_Z rfl) (W := 0) (Nat.le_of_eq rfl) (hb hby at_81)
    obtain ⟨rfl, N140q, e140⟩ := q140
    have N140 := Fr.app N133 N140q
    obtain ⟨v141, T141, L141, X141, q141, st141⟩ := own_callS X140 hx hZ (y := (⟨"com/example/porthcurno/porthcurno/core/RelationHoldsPinLaw", "expected", "(Ljava/lang/String;I)Z"⟩ : MethodName)) hown (hw _ (List.mem_of_getElem? (i := 33) rfl)) (hw _ (List.mem_of_getElem? (i := 34) rfl)) (hw _ (List.mem_of_getElem? (i := 35) rfl)) (hw _ (List.mem_of_getElem? (i := 36) rfl)) (by decide) (hM := (rm3_0 l Z a0 hw [] syeq_ (0 : Int32) byeq_ kkeq_ cs G3 h124 n0 z132 f134 hcs f135 f136 f137 f138 f139 rG3)) (by decide) (by decide) (by decide) (by decide) e140 (argsL := [(.ref syeq_), (.int (0 : Int32))]) (rest := [(.int (b2i (decide ((0 : Int32) = 0))))]) (Ls := #[.val (.int p0), .val (.int p1), .val (.ref b101), .val (.ref eq_), .val (.ref syeq_), .val (.int (1 : Int32)), .unset]) (by rw [hml]; rfl) (lenOf pd__Ljava_lang_String_I_Z rfl) (W := 1) (Nat.le_of_eq rfl) (hb hby at_87)
    obtain ⟨rfl, N141q, e141⟩ := q141
    have N141 := Fr.app N140 N141q
    refine Gl.pre (S' := T141.setTop (mkF m 115 #[.val (.int p0), .val (.int p1), .val (.ref b101), .val (.ref eq_), .val (.ref syeq_), .val (.int (1 : Int32)), .val (.int (1 : Int32))] [(.int (1 : Int32))])) (fun t kt => ?_) ?_
    · show Steps p.tables e below (T124.setTop (mkF m 50 #[.val (.int p0), .val (.int p1), .val (.ref b101), .unset, .unset, .unset, .unset] [(.int (0 : Int32)), (.ref b101)])) _
      refine X124.aaload hx (j := (0 : Int32)) (v := (.ref eq_)) (own_hc e124 Ar126.1) (State.isArrayOf_alike hZ.alike Ar126.2.1) rfl Ar126.2.2 hin126 hat126 (g := (mkF m 50 #[.val (.int p0), .val (.int p1), .val (.ref b101), .unset, .unset, .unset, .unset] [(.int (0 : Int32)), (.ref b101)])) rfl rfl (hb hby at_50) _ ?_
      show Steps p.tables e below (T124.setTop (mkF m 51 #[.val (.int p0), .val (.int p1), .val (.ref b101), .unset, .unset, .unset, .unset] [(.ref eq_)])) _
      refine XS.astoreN X124.here hx rfl (hb hby at_51) rfl rfl (l' := #[.val (.int p0), .val (.int p1), .val (.ref b101), .val (.ref eq_), .unset, .unset, .unset]) rfl ?_
      show Steps p.tables e below (T124.setTop (mkF m 52 #[.val (.int p0), .val (.int p1), .val (.ref b101), .val (.ref eq_), .unset, .unset, .unset] [])) _
      refine XS.aloadN X124.here hx rfl (hb hby at_52) rfl rfl ?_
      show Steps p.tables e below (T124.setTop (mkF m 53 #[.val (.int p0), .val (.int p1), .val (.ref b101), .val (.ref eq_), .unset, .unset, .unset] [(.ref eq_)])) _
      refine st128 _ ?_
      show Steps p.tables e below (T128.setTop (mkF m 56 #[.val (.int p0), .val (.int p1), .val (.ref b101), .val (.ref eq_), .unset, .unset, .unset] [(.ref syeq_)])) _
      refine XS.astore X128.here hx rfl (hb hby at_56) rfl rfl (l' := #[.val (.int p0), .val (.int p1), .val (.ref b101), .val (.ref eq_), .val (.ref syeq_), .unset, .unset]) rfl ?_
      show Steps p.tables e below (T128.setTop (mkF m 58 #[.val (.int p0), .val (.int p1), .val (.ref b101), .val (.ref eq_), .val (.ref syeq_), .unset, .unset] [])) _
      refine XS.aloadN X128.here hx rfl (hb hby at_58) rfl rfl ?_
      show Steps p.tables e below (T128.setTop (mkF m 59 #[.val (.int p0), .val (.int p1), .val (.ref b101), .val (.ref eq_), .val (.ref syeq_), .unset, .unset] [(.ref eq_)])) _
      refine XS.iloadN X128.here hx rfl (hb hby at_59) rfl ?_
      show Steps p.tables e below (T128.setTop (mkF m 60 #[.val (.int p0), .val (.int p1), .val (.ref b101), .val (.ref eq_), .val (.ref syeq_), .unset, .unset] [(.int p1), (.ref eq_)])) _
      refine st129 _ ?_
      show Steps p.tables e below (T129.setTop (mkF m 63 #[.val (.int p0), .val (.int p1), .val (.ref b101), .val (.ref eq_), .val (.ref syeq_), .unset, .unset] [(.int (b2i (decide (p1 = 0))))])) _
      refine XS.aload X129.here hx rfl (hb hby at_63) rfl rfl ?_
      show Steps p.tables e below (T129.setTop (mkF m 65 #[.val (.int p0), .val (.int p1), .val (.ref b101), .val (.ref eq_), .val (.ref syeq_), .unset, .unset] [(.ref syeq_), (.int (b2i (decide (p1 = 0))))])) _
      refine XS.iloadN X129.here hx rfl (hb hby at_65) rfl ?_
      show Steps p.tables e below (T129.setTop (mkF m 66 #[.val (.int p0), .val (.int p1), .val (.ref b101), .val (.ref eq_), .val (.ref syeq_), .unset, .unset] [(.int p1), (.ref syeq_), (.int (b2i (decide (p1 = 0))))])) _
      refine st133 _ ?_
      show Steps p.tables e below (T133.setTop (mkF m 69 #[.val (.int p0), .val (.int p1), .val (.ref b101), .val (.ref eq_), .val (.ref syeq_), .unset, .unset] [(.int (b2i (decide (p1 = 0)))), (.int (b2i (decide (p1 = 0))))])) _
      refine XS.icmpNo X133.here hx rfl (hb hby at_69) rfl (own_nf (ic_ne _ _) rfl) ?_
      show Steps p.tables e below (T133.setTop (mkF m 72 #[.val (.int p0), .val (.int p1), .val (.ref b101), .val (.ref eq_), .val (.ref syeq_), .unset, .unset] [])) _
      refine XS.iconst X133.here hx rfl (hb hby at_72) ?_
      show Steps p.tables e below (T133.setTop (mkF m 73 #[.val (.int p0), .val (.int p1), .val (.ref b101), .val (.ref eq_), .val (.ref syeq_), .unset, .unset] [(.int (1 : Int32))])) _
      refine XS.goto X133.here hx rfl (pc0 := 73) (pc' := 77) rfl (hb hby at_73) (by decide) (by decide) ?_
      show Steps p.tables e below (T133.setTop (mkF m 77 #[.val (.int p0), .val (.int p1), .val (.ref b101), .val (.ref eq_), .val (.ref syeq_), .unset, .unset] [(.int (1 : Int32))])) _
      refine XS.istore X133.here hx rfl (hb hby at_77) rfl (l' := #[.val (.int p0), .val (.int p1), .val (.ref b101), .val (.ref eq_), .val (.ref syeq_), .val (.int (1 : Int32)), .unset]) rfl ?_
      show Steps p.tables e below (T133.setTop (mkF m 79 #[.val (.int p0), .val (.int p1), .val (.ref b101), .val (.ref eq_), .val (.ref syeq_), .val (.int (1 : Int32)), .unset] [])) _
      refine XS.aloadN X133.here hx rfl (hb hby at_79) rfl rfl ?_
      show Steps p.tables e below (T133.setTop (mkF m 80 #[.val (.int p0), .val (.int p1), .val (.ref b101), .val (.ref eq_), .val (.ref syeq_), .val (.int (1 : Int32)), .unset] [(.ref eq_)])) _
      refine XS.iconst X133.here hx rfl (hb hby at_80) ?_
      show Steps p.tables e below (T133.setTop (mkF m 81 #[.val (.int p0), .val (.int p1), .val (.ref b101), .val (.ref eq_), .val (.ref syeq_), .val (.int (1 : Int32)), .unset] [(.int (0 : Int32)), (.ref eq_)])) _
      refine st140 _ ?_
      show Steps p.tables e below (T140.setTop (mkF m 84 #[.val (.int p0), .val (.int p1), .val (.ref b101), .val (.ref eq_), .val (.ref syeq_), .val (.int (1 : Int32)), .unset] [(.int (b2i (decide ((0 : Int32) = 0))))])) _
      refine XS.aload X140.here hx rfl (hb hby at_84) rfl rfl ?_
      show Steps p.tables e below (T140.setTop (mkF m 86 #[.val (.int p0), .val (.int p1), .val (.ref b101), .val (.ref eq_), .val (.ref syeq_), .val (.int (1 : Int32)), .unset] [(.ref syeq_), (.int (b2i (decide ((0 : Int32) = 0))))])) _
      refine XS.iconst X140.here hx rfl (hb hby at_86) ?_
      show Steps p.tables e below (T140.setTop (mkF m 87 #[.val (.int p0), .val (.int p1), .val (.ref b101), .val (.ref eq_), .val (.ref syeq_), .val (.int (1 : Int32)), .unset] [(.int (0 : Int32)), (.ref syeq_), (.int (b2i (decide ((0 : Int32) = 0))))])) _
      refine st141 _ ?_
      show Steps p.tables e below (T141.setTop (mkF m 90 #[.val (.int p0), .val (.int p1), .val (.ref b101), .val (.ref eq_), .val (.ref syeq_), .val (.int (1 : Int32)), .unset] [(.int (b2i (decide ((0 : Int32) = 0)))), (.int (b2i (decide ((0 : Int32) = 0))))])) _
      refine XS.icmpNo X141.here hx rfl (hb hby at_90) rfl (own_nf (ic_ne _ _) rfl) ?_
      show Steps p.tables e below (T141.setTop (mkF m 93 #[.val (.int p0), .val (.int p1), .val (.ref b101), .val (.ref eq_), .val (.ref syeq_), .val (.int (1 : Int32)), .unset] [])) _
      refine XS.iconst X141.here hx rfl (hb hby at_93) ?_
      show Steps p.tables e below (T141.setTop (mkF m 94 #[.val (.int p0), .val (.int p1), .val (.ref b101), .val (.ref eq_), .val (.ref syeq_), .val (.int (1 : Int32)), .unset] [(.int (1 : Int32))])) _
      refine XS.goto X141.here hx rfl (pc0 := 94) (pc' := 98) rfl (hb hby at_94) (by decide) (by decide) ?_
      show Steps p.tables e below (T141.setTop (mkF m 98 #[.val (.int p0), .val (.int p1), .val (.ref b101), .val (.ref eq_), .val (.ref syeq_), .val (.int (1 : Int32)), .unset] [(.int (1 : Int32))])) _
      refine XS.istore X141.here hx rfl (hb hby at_98) rfl (l' := #[.val (.int p0), .val (.int p1), .val (.ref b101), .val (.ref eq_), .val (.ref syeq_), .val (.int (1 : Int32)), .val (.int (1 : Int32))]) rfl ?_
      show Steps p.tables e below (T141.setTop (mkF m 100 #[.val (.int p0), .val (.int p1), .val (.ref b101), .val (.ref eq_), .val (.ref syeq_), .val (.int (1 : Int32)), .val (.int (1 : Int32))] [])) _
      refine XS.iload X141.here hx rfl (hb hby at_100) rfl ?_
      show Steps p.tables e below (T141.setTop (mkF m 102 #[.val (.int p0), .val (.int p1), .val (.ref b101), .val (.ref eq_), .val (.ref syeq_), .val (.int (1 : Int32)), .val (.int (1 : Int32))] [(.int (1 : Int32))])) _
      refine XS.ifNo X141.here hx rfl (hb hby at_102) rfl (own_f (i0_eq _) (by decide)) ?_
      show Steps p.tables e below (T141.setTop (mkF m 105 #[.val (.int p0), .val (.int p1), .val (.ref b101), .val (.ref eq_), .val (.ref syeq_), .val (.int (1 : Int32)), .val (.int (1 : Int32))] [])) _
      refine XS.iload X141.here hx rfl (hb hby at_105) rfl ?_
      show Steps p.tables e below (T141.setTop (mkF m 107 #[.val (.int p0), .val (.int p1), .val (.ref b101), .val (.ref eq_), .val (.ref syeq_), .val (.int (1 : Int32)), .val (.int (1 : Int32))] [(.int (1 : Int32))])) _
      refine XS.ifNo X141.here hx rfl (hb hby at_107) rfl (own_f (i0_eq _) (by decide)) ?_
      show Steps p.tables e below (T141.setTop (mkF m 110 #[.val (.int p0), .val (.int p1), .val (.ref b101), .val (.ref eq_), .val (.ref syeq_), .val (.int (1 : Int32)), .val (.int (1 : Int32))] [])) _
      refine XS.iconst X141.here hx rfl (hb hby at_110) ?_
      show Steps p.tables e below (T141.setTop (mkF m 111 #[.val (.int p0), .val (.int p1), .val (.ref b101), .val (.ref eq_), .val (.ref syeq_), .val (.int (1 : Int32)), .val (.int (1 : Int32))] [(.int (1 : Int32))])) _
      refine XS.goto X141.here hx rfl (pc0 := 111) (pc' := 115) rfl (hb hby at_111) (by decide) (by decide) ?_
      exact kt
    refine Gl.fin X141 (v := some (.int (1 : Int32))) (fun h => by rw [Bd.returns] at h; cases h) Bd.notSynchronized ?_ e141 (by decide) (by decide) (fun fs hr => ?_)
    · exact ⟨rfl, N141⟩
    · show Steps p.tables e below (T141.setTop (mkF m 115 #[.val (.int p0), .val (.int p1), .val (.ref b101), .val (.ref eq_), .val (.ref syeq_), .val (.int (1 : Int32)), .val (.int (1 : Int32))] [(.int (1 : Int32))])) _
      exact retN X141 hx (t := .boolean) Bd.returns (by simp) (hb hby at_115) hr
  · rw [hk]
    obtain ⟨cl142, Ar142, qa142, Sa142, Na142, Ha142, Ga142⟩ := id V124
    have hin142 : ¬ ((1 : Int32) < 0 ∨ cl142.slots.size ≤ ((1 : Int32)).toNatClampNeg) := inb_of Sa142 ⟨by decide, by decide⟩
    have hat142 := Ha142.at (v := (.ref nq_)) hin142 rfl
    have f143 := (((((((Ynq_.ext E101).other W104 (Or.inl (Nat.ne_of_lt (Nat.lt_of_lt_of_le Enq_.lt (Nat.le_of_eq g101.symm))))).other W108 (Or.inl (Nat.ne_of_lt (Nat.lt_of_lt_of_le Enq_.lt (Nat.le_of_eq g101.symm))))).other W112 (Or.inl (Nat.ne_of_lt (Nat.lt_of_lt_of_le Enq_.lt (Nat.le_of_eq g101.symm))))).other W116 (Or.inl (Nat.ne_of_lt (Nat.lt_of_lt_of_le Enq_.lt (Nat.le_of_eq g101.symm))))).other W120 (Or.inl (Nat.ne_of_lt (Nat.lt_of_lt_of_le Enq_.lt (Nat.le_of_eq g101.symm))))).other W124 (Or.inl (Nat.ne_of_lt (Nat.lt_of_lt_of_le Enq_.lt (Nat.le_of_eq g101.symm)))))
    obtain ⟨T144, X144, e144, st144⟩ := getF X124 hx hZ hown (host := "") (Or.inl (hw _ (List.mem_of_getElem? (i := 17) rfl))) Via.refl e124 f143 (g := (mkF m 53 #[.val (.int p0), .val (.int p1), .val (.ref b101), .val (.ref nq_), .unset, .unset, .unset] [(.ref nq_)])) rfl rfl (hb hby at_53)
    have f146 := (((((f109.wr W108).wr W112).wr W116).wr W120).wr W124)
    have f147 := (((((((Fnq_.ext E101).other W104 (Or.inl (Nat.ne_of_lt (Nat.lt_of_lt_of_le Enq_.lt (Nat.le_of_eq g101.symm))))).other W108 (Or.inl (Nat.ne_of_lt (Nat.lt_of_lt_of_le Enq_.lt (Nat.le_of_eq g101.symm))))).other W112 (Or.inl (Nat.ne_of_lt (Nat.lt_of_lt_of_le Enq_.lt (Nat.le_of_eq g101.symm))))).other W116 (Or.inl (Nat.ne_of_lt (Nat.lt_of_lt_of_le Enq_.lt (Nat.le_of_eq g101.symm))))).other W120 (Or.inl (Nat.ne_of_lt (Nat.lt_of_lt_of_le Enq_.lt (Nat.le_of_eq g101.symm))))).other W124 (Or.inl (Nat.ne_of_lt (Nat.lt_of_lt_of_le Enq_.lt (Nat.le_of_eq g101.symm)))))
    have z148 : n0 ≤ h124.size := (Nat.le_trans (Nat.le_trans (Nat.le_trans (Nat.le_trans (Nat.le_trans (Nat.le_trans (Nat.le_trans Z0 E101.1) (Keep.of_wr W104).1) (Keep.of_wr W108).1) (Keep.of_wr W112).1) (Keep.of_wr W116).1) (Keep.of_wr W120).1) (Keep.of_wr W124).1)
    obtain ⟨v145, T145, L145, X145, q145, st145⟩ := own_callV X144 hx hZ (y := (⟨"com/example/porthcurno/porthcurno/core/SelectorExpression$Relation", "holds", "(I)Z"⟩ : MethodName)) (z := (⟨"com/example/porthcurno/porthcurno/core/SelectorExpression$Relation", "holds", "(I)Z"⟩ : MethodName)) hown (hw _ (List.mem_of_getElem? (i := 19) rfl)) (hw _ (List.mem_of_getElem? (i := 20) rfl)) (notFace_of_selects (args := #[]) (mvT hZ (hw _ (List.mem_of_getElem? (i := 22) rfl)))) (hw _ (List.mem_of_getElem? (i := 22) rfl)) (hw _ (List.mem_of_getElem? (i := 21) rfl)) (hw _ (List.mem_of_getElem? (i := 3) rfl)) (hw _ (List.mem_of_getElem? (i := 23) rfl)) (by decide) f146 (hM := (rm1_1 l Z a0 hw [] nq_ p1 h124 n0 z148 f146 f147)) (by decide) (by decide) (by decide) (by decide) e144 (argsL := [(.int p1)]) (rest := []) (Ls := #[.val (.int p0), .val (.int p1), .val (.ref b101), .val (.ref nq_), .val (.ref synq_), .unset, .unset]) (by rw [hml]; rfl) (lenOf pd__I_Z rfl) (W := 0) (Nat.le_of_eq rfl) (hb hby at_60)
    obtain ⟨rfl, N145q, e145⟩ := q145
    have N145 := Fr.app N124 N145q
    have f150 := (((((((S_c.ext E101).wr W104).wr W108).wr W112).wr W116).wr W120).wr W124)
    have f151 := (((((((EYnq_.ext E101).wr W104).wr W108).wr W112).wr W116).wr W120).wr W124)
    have f152 := (((((((FVnq_.ext E101).other W104 (Or.inl (Nat.ne_of_lt (Nat.lt_of_lt_of_le EYnq_.lt (Nat.le_of_eq g101.symm))))).other W108 (Or.inl (Nat.ne_of_lt (Nat.lt_of_lt_of_le EYnq_.lt (Nat.le_of_eq g101.symm))))).other W112 (Or.inl (Nat.ne_of_lt (Nat.lt_of_lt_of_le EYnq_.lt (Nat.le_of_eq g101.symm))))).other W116 (Or.inl (Nat.ne_of_lt (Nat.lt_of_lt_of_le EYnq_.lt (Nat.le_of_eq g101.symm))))).other W120 (Or.inl (Nat.ne_of_lt (Nat.lt_of_lt_of_le EYnq_.lt (Nat.le_of_eq g101.symm))))).other W124 (Or.inl (Nat.ne_of_lt (Nat.lt_of_lt_of_le EYnq_.lt (Nat.le_of_eq g101.symm)))))
    have f153 := (((((((FCnq_.ext E101).other W104 (Or.inl (Nat.ne_of_lt (Nat.lt_of_lt_of_le EYnq_.lt (Nat.le_of_eq g101.symm))))).other W108 (Or.inl (Nat.ne_of_lt (Nat.lt_of_lt_of_le EYnq_.lt (Nat.le_of_eq g101.symm))))).other W112 (Or.inl (Nat.ne_of_lt (Nat.lt_of_lt_of_le EYnq_.lt (Nat.le_of_eq g101.symm))))).other W116 (Or.inl (Nat.ne_of_lt (Nat.lt_of_lt_of_le EYnq_.lt (Nat.le_of_eq g101.symm))))).other W120 (Or.inl (Nat.ne_of_lt (Nat.lt_of_lt_of_le EYnq_.lt (Nat.le_of_eq g101.symm))))).other W124 (Or.inl (Nat.ne_of_lt (Nat.lt_of_lt_of_le EYnq_.lt (Nat.le_of_eq g101.symm)))))
    have f154 := (((((((VBnq_.ext E101).other W104 (Nat.ne_of_lt (Nat.lt_of_lt_of_le VBnq_.lt (Nat.le_of_eq g101.symm)))).other W108 (Nat.ne_of_lt (Nat.lt_of_lt_of_le VBnq_.lt (Nat.le_of_eq g101.symm)))).other W112 (Nat.ne_of_lt (Nat.lt_of_lt_of_le VBnq_.lt (Nat.le_of_eq g101.symm)))).other W116 (Nat.ne_of_lt (Nat.lt_of_lt_of_le VBnq_.lt (Nat.le_of_eq g101.symm)))).other W120 (Nat.ne_of_lt (Nat.lt_of_lt_of_le VBnq_.lt (Nat.le_of_eq g101.symm)))).other W124 (Nat.ne_of_lt (Nat.lt_of_lt_of_le VBnq_.lt (Nat.le_of_eq g101.symm))))
    have f155 := (((((((S_f.ext E101).wr W104).wr W108).wr W112).wr W116).wr W120).wr W124)
    obtain ⟨v149, T149, L149, X149, q149, st149⟩ := own_callS X145 hx hZ (y := (⟨"com/example/porthcurno/porthcurno/core/RelationHoldsPinLaw", "expected", "(Ljava/lang/String;I)Z"⟩ : MethodName)) hown (hw _ (List.mem_of_getElem? (i := 33) rfl)) (hw _ (List.mem_of_getElem? (i := 34) rfl)) (hw _ (List.mem_of_getElem? (i := 35) rfl)) (hw _ (List.mem_of_getElem? (i := 36) rfl)) (by decide) (hM := (rm3_1 l Z a0 hw [] synq_ p1 bynq_ kknq_ cs G3 h124 n0 z148 f150 hcs f151 f152 f153 f154 f155 rG3)) (by decide) (by decide) (by decide) (by decide) e145 (argsL := [(.ref synq_), (.int p1)]) (rest := [(.int (b2i (decide (¬ p1 = 0))))]) (Ls := #[.val (.int p0), .val (.int p1), .val (.ref b101), .val (.ref nq_), .val (.ref synq_), .unset, .unset]) (by rw [hml]; rfl) (lenOf pd__Ljava_lang_String_I_Z rfl) (W := 1) (Nat.le_of_eq rfl) (hb hby at_66)
    obtain ⟨rfl, N149q, e149⟩ := q149
    have N149 := Fr.app N145 N149q
    obtain ⟨v156, T156, L156, X156, q156, st156⟩ := own_callV X149 hx hZ (y := (⟨"com/example/porthcurno/porthcurno/core/SelectorExpression$Relation", "holds", "(I)Z"⟩ : MethodName)) (z := (⟨"com/example/porthcurno/porthcurno/core/SelectorExpression$Relation", "holds", "(I)Z"⟩ : MethodName)) hown (hw _ (List.mem_of_getElem? (i := 19) rfl)) (hw _ (List.mem_of_getElem? (i := 20) rfl)) (notFace_of_selects (args := #[]) (mvT hZ (hw _ (List.mem_of_getElem? (i := 22) rfl)))) (hw _ (List.mem_of_getElem? (i := 22) rfl)) (hw _ (List.mem_of_getElem? (i := 21) rfl)) (hw _ (List.mem_of_getElem? (i := 3) rfl)) (hw _ (List.mem_of_getElem? (i := 23) rfl)) (by decide) f146 (hM := (rm1_1 l Z a0 hw [] nq_ (0 : Int32) h124 n0 z148 f146 f147)) (by decide) (by decide) (by decide) (by decide) e149 (argsL := [(.int (0 : Int32))]) (rest := []) (Ls := #[.val (.int p0), .val (.int p1), .val (.ref b101), .val (.ref nq_), .val (.ref synq_), .val (.int (1 : Int32)), .unset]) (by rw [hml]; rfl) (lenOf pd__I_Z rfl) (W := 0) (Nat.le_of_eq rfl) (hb hby at_81)
    obtain ⟨rfl, N156q, e156⟩ := q156
    have N156 := Fr.app N149 N156q
    obtain ⟨v157, T157, L157, X157, q157, st157⟩ := own_callS X156 hx hZ (y := (⟨"com/example/porthcurno/porthcurno/core/RelationHoldsPinLaw", "expected", "(Ljava/lang/String;I)Z"⟩ : MethodName)) hown (hw _ (List.mem_of_getElem? (i := 33) rfl)) (hw _ (List.mem_of_getElem? (i := 34) rfl)) (hw _ (List.mem_of_getElem? (i := 35) rfl)) (hw _ (List.mem_of_getElem? (i := 36) rfl)) (by decide) (hM := (rm3_1 l Z a0 hw [] synq_ (0 : Int32) bynq_ kknq_ cs G3 h124 n0 z148 f150 hcs f151 f152 f153 f154 f155 rG3)) (by decide) (by decide) (by decide) (by decide) e156 (argsL := [(.ref synq_), (.int (0 : Int32))]) (rest := [(.int (b2i (decide (¬ (0 : Int32) = 0))))]) (Ls := #[.val (.int p0), .val (.int p1), .val (.ref b101), .val (.ref nq_), .val (.ref synq_), .val (.int (1 : Int32)), .unset]) (by rw [hml]; rfl) (lenOf pd__Ljava_lang_String_I_Z rfl) (W := 1) (Nat.le_of_eq rfl) (hb hby at_87)
    obtain ⟨rfl, N157q, e157⟩ := q157
    have N157 := Fr.app N156 N157q
    refine Gl.pre (S' := T157.setTop (mkF m 115 #[.val (.int p0), .val (.int p1), .val (.ref b101), .val (.ref nq_), .val (.ref synq_), .val (.int (1 : Int32)), .val (.int (1 : Int32))] [(.int (1 : Int32))])) (fun t kt => ?_) ?_
    · show Steps p.tables e below (T124.setTop (mkF m 50 #[.val (.int p0), .val (.int p1), .val (.ref b101), .unset, .unset, .unset, .unset] [(.int (1 : Int32)), (.ref b101)])) _
      refine X124.aaload hx (j := (1 : Int32)) (v := (.ref nq_)) (own_hc e124 Ar142.1) (State.isArrayOf_alike hZ.alike Ar142.2.1) rfl Ar142.2.2 hin142 hat142 (g := (mkF m 50 #[.val (.int p0), .val (.int p1), .val (.ref b101), .unset, .unset, .unset, .unset] [(.int (1 : Int32)), (.ref b101)])) rfl rfl (hb hby at_50) _ ?_
      show Steps p.tables e below (T124.setTop (mkF m 51 #[.val (.int p0), .val (.int p1), .val (.ref b101), .unset, .unset, .unset, .unset] [(.ref nq_)])) _
      refine XS.astoreN X124.here hx rfl (hb hby at_51) rfl rfl (l' := #[.val (.int p0), .val (.int p1), .val (.ref b101), .val (.ref nq_), .unset, .unset, .unset]) rfl ?_
      show Steps p.tables e below (T124.setTop (mkF m 52 #[.val (.int p0), .val (.int p1), .val (.ref b101), .val (.ref nq_), .unset, .unset, .unset] [])) _
      refine XS.aloadN X124.here hx rfl (hb hby at_52) rfl rfl ?_
      show Steps p.tables e below (T124.setTop (mkF m 53 #[.val (.int p0), .val (.int p1), .val (.ref b101), .val (.ref nq_), .unset, .unset, .unset] [(.ref nq_)])) _
      refine st144 _ ?_
      show Steps p.tables e below (T144.setTop (mkF m 56 #[.val (.int p0), .val (.int p1), .val (.ref b101), .val (.ref nq_), .unset, .unset, .unset] [(.ref synq_)])) _
      refine XS.astore X144.here hx rfl (hb hby at_56) rfl rfl (l' := #[.val (.int p0), .val (.int p1), .val (.ref b101), .val (.ref nq_), .val (.ref synq_), .unset, .unset]) rfl ?_
      show Steps p.tables e below (T144.setTop (mkF m 58 #[.val (.int p0), .val (.int p1), .val (.ref b101), .val (.ref nq_), .val (.ref synq_), .unset, .unset] [])) _
      refine XS.aloadN X144.here hx rfl (hb hby at_58) rfl rfl ?_
      show Steps p.tables e below (T144.setTop (mkF m 59 #[.val (.int p0), .val (.int p1), .val (.ref b101), .val (.ref nq_), .val (.ref synq_), .unset, .unset] [(.ref nq_)])) _
      refine XS.iloadN X144.here hx rfl (hb hby at_59) rfl ?_
      show Steps p.tables e below (T144.setTop (mkF m 60 #[.val (.int p0), .val (.int p1), .val (.ref b101), .val (.ref nq_), .val (.ref synq_), .unset, .unset] [(.int p1), (.ref nq_)])) _
      refine st145 _ ?_
      show Steps p.tables e below (T145.setTop (mkF m 63 #[.val (.int p0), .val (.int p1), .val (.ref b101), .val (.ref nq_), .val (.ref synq_), .unset, .unset] [(.int (b2i (decide (¬ p1 = 0))))])) _
      refine XS.aload X145.here hx rfl (hb hby at_63) rfl rfl ?_
      show Steps p.tables e below (T145.setTop (mkF m 65 #[.val (.int p0), .val (.int p1), .val (.ref b101), .val (.ref nq_), .val (.ref synq_), .unset, .unset] [(.ref synq_), (.int (b2i (decide (¬ p1 = 0))))])) _
      refine XS.iloadN X145.here hx rfl (hb hby at_65) rfl ?_
      show Steps p.tables e below (T145.setTop (mkF m 66 #[.val (.int p0), .val (.int p1), .val (.ref b101), .val (.ref nq_), .val (.ref synq_), .unset, .unset] [(.int p1), (.ref synq_), (.int (b2i (decide (¬ p1 = 0))))])) _
      refine st149 _ ?_
      show Steps p.tables e below (T149.setTop (mkF m 69 #[.val (.int p0), .val (.int p1), .val (.ref b101), .val (.ref nq_), .val (.ref synq_), .unset, .unset] [(.int (b2i (decide (¬ p1 = 0)))), (.int (b2i (decide (¬ p1 = 0))))])) _
      refine XS.icmpNo X149.here hx rfl (hb hby at_69) rfl (own_nf (ic_ne _ _) rfl) ?_
      show Steps p.tables e below (T149.setTop (mkF m 72 #[.val (.int p0), .val (.int p1), .val (.ref b101), .val (.ref nq_), .val (.ref synq_), .unset, .unset] [])) _
      refine XS.iconst X149.here hx rfl (hb hby at_72) ?_
      show Steps p.tables e below (T149.setTop (mkF m 73 #[.val (.int p0), .val (.int p1), .val (.ref b101), .val (.ref nq_), .val (.ref synq_), .unset, .unset] [(.int (1 : Int32))])) _
      refine XS.goto X149.here hx rfl (pc0 := 73) (pc' := 77) rfl (hb hby at_73) (by decide) (by decide) ?_
      show Steps p.tables e below (T149.setTop (mkF m 77 #[.val (.int p0), .val (.int p1), .val (.ref b101), .val (.ref nq_), .val (.ref synq_), .unset, .unset] [(.int (1 : Int32))])) _
      refine XS.istore X149.here hx rfl (hb hby at_77) rfl (l' := #[.val (.int p0), .val (.int p1), .val (.ref b101), .val (.ref nq_), .val (.ref synq_), .val (.int (1 : Int32)), .unset]) rfl ?_
      show Steps p.tables e below (T149.setTop (mkF m 79 #[.val (.int p0), .val (.int p1), .val (.ref b101), .val (.ref nq_), .val (.ref synq_), .val (.int (1 : Int32)), .unset] [])) _
      refine XS.aloadN X149.here hx rfl (hb hby at_79) rfl rfl ?_
      show Steps p.tables e below (T149.setTop (mkF m 80 #[.val (.int p0), .val (.int p1), .val (.ref b101), .val (.ref nq_), .val (.ref synq_), .val (.int (1 : Int32)), .unset] [(.ref nq_)])) _
      refine XS.iconst X149.here hx rfl (hb hby at_80) ?_
      show Steps p.tables e below (T149.setTop (mkF m 81 #[.val (.int p0), .val (.int p1), .val (.ref b101), .val (.ref nq_), .val (.ref synq_), .val (.int (1 : Int32)), .unset] [(.int (0 : Int32)), (.ref nq_)])) _
      refine st156 _ ?_
      show Steps p.tables e below (T156.setTop (mkF m 84 #[.val (.int p0), .val (.int p1), .val (.ref b101), .val (.ref nq_), .val (.ref synq_), .val (.int (1 : Int32)), .unset] [(.int (b2i (decide (¬ (0 : Int32) = 0))))])) _
      refine XS.aload X156.here hx rfl (hb hby at_84) rfl rfl ?_
      show Steps p.tables e below (T156.setTop (mkF m 86 #[.val (.int p0), .val (.int p1), .val (.ref b101), .val (.ref nq_), .val (.ref synq_), .val (.int (1 : Int32)), .unset] [(.ref synq_), (.int (b2i (decide (¬ (0 : Int32) = 0))))])) _
      refine XS.iconst X156.here hx rfl (hb hby at_86) ?_
      show Steps p.tables e below (T156.setTop (mkF m 87 #[.val (.int p0), .val (.int p1), .val (.ref b101), .val (.ref nq_), .val (.ref synq_), .val (.int (1 : Int32)), .unset] [(.int (0 : Int32)), (.ref synq_), (.int (b2i (decide (¬ (0 : Int32) = 0))))])) _
      refine st157 _ ?_
      show Steps p.tables e below (T157.setTop (mkF m 90 #[.val (.int p0), .val (.int p1), .val (.ref b101), .val (.ref nq_), .val (.ref synq_), .val (.int (1 : Int32)), .unset] [(.int (b2i (decide (¬ (0 : Int32) = 0)))), (.int (b2i (decide (¬ (0 : Int32) = 0))))])) _
      refine XS.icmpNo X157.here hx rfl (hb hby at_90) rfl (own_nf (ic_ne _ _) rfl) ?_
      show Steps p.tables e below (T157.setTop (mkF m 93 #[.val (.int p0), .val (.int p1), .val (.ref b101), .val (.ref nq_), .val (.ref synq_), .val (.int (1 : Int32)), .unset] [])) _
      refine XS.iconst X157.here hx rfl (hb hby at_93) ?_
      show Steps p.tables e below (T157.setTop (mkF m 94 #[.val (.int p0), .val (.int p1), .val (.ref b101), .val (.ref nq_), .val (.ref synq_), .val (.int (1 : Int32)), .unset] [(.int (1 : Int32))])) _
      refine XS.goto X157.here hx rfl (pc0 := 94) (pc' := 98) rfl (hb hby at_94) (by decide) (by decide) ?_
      show Steps p.tables e below (T157.setTop (mkF m 98 #[.val (.int p0), .val (.int p1), .val (.ref b101), .val (.ref nq_), .val (.ref synq_), .val (.int (1 : Int32)), .unset] [(.int (1 : Int32))])) _
      refine XS.istore X157.here hx rfl (hb hby at_98) rfl (l' := #[.val (.int p0), .val (.int p1), .val (.ref b101), .val (.ref nq_), .val (.ref synq_), .val (.int (1 : Int32)), .val (.int (1 : Int32))]) rfl ?_
      show Steps p.tables e below (T157.setTop (mkF m 100 #[.val (.int p0), .val (.int p1), .val (.ref b101), .val (.ref nq_), .val (.ref synq_), .val (.int (1 : Int32)), .val (.int (1 : Int32))] [])) _
      refine XS.iload X157.here hx rfl (hb hby at_100) rfl ?_
      show Steps p.tables e below (T157.setTop (mkF m 102 #[.val (.int p0), .val (.int p1), .val (.ref b101), .val (.ref nq_), .val (.ref synq_), .val (.int (1 : Int32)), .val (.int (1 : Int32))] [(.int (1 : Int32))])) _
      refine XS.ifNo X157.here hx rfl (hb hby at_102) rfl (own_f (i0_eq _) (by decide)) ?_
      show Steps p.tables e below (T157.setTop (mkF m 105 #[.val (.int p0), .val (.int p1), .val (.ref b101), .val (.ref nq_), .val (.ref synq_), .val (.int (1 : Int32)), .val (.int (1 : Int32))] [])) _
      refine XS.iload X157.here hx rfl (hb hby at_105) rfl ?_
      show Steps p.tables e below (T157.setTop (mkF m 107 #[.val (.int p0), .val (.int p1), .val (.ref b101), .val (.ref nq_), .val (.ref synq_), .val (.int (1 : Int32)), .val (.int (1 : Int32))] [(.int (1 : Int32))])) _
      refine XS.ifNo X157.here hx rfl (hb hby at_107) rfl (own_f (i0_eq _) (by decide)) ?_
      show Steps p.tables e below (T157.setTop (mkF m 110 #[.val (.int p0), .val (.int p1), .val (.ref b101), .val (.ref nq_), .val (.ref synq_), .val (.int (1 : Int32)), .val (.int (1 : Int32))] [])) _
      refine XS.iconst X157.here hx rfl (hb hby at_110) ?_
      show Steps p.tables e below (T157.setTop (mkF m 111 #[.val (.int p0), .val (.int p1), .val (.ref b101), .val (.ref nq_), .val (.ref synq_), .val (.int (1 : Int32)), .val (.int (1 : Int32))] [(.int (1 : Int32))])) _
      refine XS.goto X157.here hx rfl (pc0 := 111) (pc' := 115) rfl (hb hby at_111) (by decide) (by decide) ?_
      exact kt
    refine Gl.fin X157 (v := some (.int (1 : Int32))) (fun h => by rw [Bd.returns] at h; cases h) Bd.notSynchronized ?_ e157 (by decide) (by decide) (fun fs hr => ?_)
    · exact ⟨rfl, N157⟩
    · show Steps p.tables e below (T157.setTop (mkF m 115 #[.val (.int p0), .val (.int p1), .val (.ref b101), .val (.ref nq_), .val (.ref synq_), .val (.int (1 : Int32)), .val (.int (1 : Int32))] [(.int (1 : Int32))])) _
      exact retN X157 hx (t := .boolean) Bd.returns (by simp) (hb hby at_115) hr
  · rw [hk]
    obtain ⟨cl158, Ar158, qa158, Sa158, Na158, Ha158, Ga158⟩ := id V124
    have hin158 : ¬ ((2 : Int32) < 0 ∨ cl158.slots.size ≤ ((2 : Int32)).toNatClampNeg) := inb_of Sa158 ⟨by decide, by decide⟩
    have hat158 := Ha158.at (v := (.ref ls_)) hin158 rfl
    have f159 := (((((((Yls_.ext E101).other W104 (Or.inl (Nat.ne_of_lt (Nat.lt_of_lt_of_le Els_.lt (Nat.le_of_eq g101.symm))))).other W108 (Or.inl (Nat.ne_of_lt (Nat.lt_of_lt_of_le Els_.lt (Nat.le_of_eq g101.symm))))).other W112 (Or.inl (Nat.ne_of_lt (Nat.lt_of_lt_of_le Els_.lt (Nat.le_of_eq g101.symm))))).other W116 (Or.inl (Nat.ne_of_lt (Nat.lt_of_lt_of_le Els_.lt (Nat.le_of_eq g101.symm))))).other W120 (Or.inl (Nat.ne_of_lt (Nat.lt_of_lt_of_le Els_.lt (Nat.le_of_eq g101.symm))))).other W124 (Or.inl (Nat.ne_of_lt (Nat.lt_of_lt_of_le Els_.lt (Nat.le_of_eq g101.symm)))))
    obtain ⟨T160, X160, e160, st160⟩ := getF X124 hx hZ hown (host := "") (Or.inl (hw _ (List.mem_of_getElem? (i := 17) rfl))) Via.refl e124 f159 (g := (mkF m 53 #[.val (.int p0), .val (.int p1), .val (.ref b101), .val (.ref ls_), .unset, .unset, .unset] [(.ref ls_)])) rfl rfl (hb hby at_53)
    have f162 := ((((f113.wr W112).wr W116).wr W120).wr W124)
    have f163 := (((((((Fls_.ext E101).other W104 (Or.inl (Nat.ne_of_lt (Nat.lt_of_lt_of_le Els_.lt (Nat.le_of_eq g101.symm))))).other W108 (Or.inl (Nat.ne_of_lt (Nat.lt_of_lt_of_le Els_.lt (Nat.le_of_eq g101.symm))))).other W112 (Or.inl (Nat.ne_of_lt (Nat.lt_of_lt_of_le Els_.lt (Nat.le_of_eq g101.symm))))).other W116 (Or.inl (Nat.ne_of_lt (Nat.lt_of_lt_of_le Els_.lt (Nat.le_of_eq g101.symm))))).other W120 (Or.inl (Nat.ne_of_lt (Nat.lt_of_lt_of_le Els_.lt (Nat.le_of_eq g101.symm))))).other W124 (Or.inl (Nat.ne_of_lt (Nat.lt_of_lt_of_le Els_.lt (Nat.le_of_eq g101.symm)))))
    have z164 : n0 ≤ h124.size := (Nat.le_trans (Nat.le_trans (Nat.le_trans (Nat.le_trans (Nat.le_trans (Nat.le_trans (Nat.le_trans Z0 E101.1) (Keep.of_wr W104).1) (Keep.of_wr W108).1) (Keep.of_wr W112).1) (Keep.of_wr W116).1) (Keep.of_wr W120).1) (Keep.of_wr W124).1)
    obtain ⟨v161, T161, L161, X161, q161, st161⟩ := own_callV X160 hx hZ (y := (⟨"com/example/porthcurno/porthcurno/core/SelectorExpression$Relation", "holds", "(I)Z"⟩ : MethodName)) (z := (⟨"com/example/porthcurno/porthcurno/core/SelectorExpression$Relation", "holds", "(I)Z"⟩ : MethodName)) hown (hw _ (List.mem_of_getElem? (i := 19) rfl)) (hw _ (List.mem_of_getElem? (i := 20) rfl)) (notFace_of_selects (args := #[]) (mvT hZ (hw _ (List.mem_of_getElem? (i := 22) rfl)))) (hw _ (List.mem_of_getElem? (i := 22) rfl)) (hw _ (List.mem_of_getElem? (i := 21) rfl)) (hw _ (List.mem_of_getElem? (i := 3) rfl)) (hw _ (List.mem_of_getElem? (i := 23) rfl)) (by decide) f162 (hM := (rm1_2 l Z a0 hw [] ls_ p1 h124 n0 z164 f162 f163)) (by decide) (by decide) (by decide) (by decide) e160 (argsL := [(.int p1)]) (rest := []) (Ls := #[.val (.int p0), .val (.int p1), .val (.ref b101), .val (.ref ls_), .val (.ref syls_), .unset, .unset]) (by rw [hml]; rfl) (lenOf pd__I_Z rfl) (W := 0) (Nat.le_of_eq rfl) (hb hby at_60)
    obtain ⟨rfl, N161q, e161⟩ := q161
    have N161 := Fr.app N124 N161q
    have f166 := (((((((S_c.ext E101).wr W104).wr W108).wr W112).wr W116).wr W120).wr W124)
    have f167 := (((((((EYls_.ext E101).wr W104).wr W108).wr W112).wr W116).wr W120).wr W124)
    have f168 := (((((((FVls_.ext E101).other W104 (Or.inl (Nat.ne_of_lt (Nat.lt_of_lt_of_le EYls_.lt (Nat.le_of_eq g101.symm))))).other W108 (Or.inl (Nat.ne_of_lt (Nat.lt_of_lt_of_le EYls_.lt (Nat.le_of_eq g101.symm))))).other W112 (Or.inl (Nat.ne_of_lt (Nat.lt_of_lt_of_le EYls_.lt (Nat.le_of_eq g101.symm))))).other W116 (Or.inl (Nat.ne_of_lt (Nat.lt_of_lt_of_le EYls_.lt (Nat.le_of_eq g101.symm))))).other W120 (Or.inl (Nat.ne_of_lt (Nat.lt_of_lt_of_le EYls_.lt (Nat.le_of_eq g101.symm))))).other W124 (Or.inl (Nat.ne_of_lt (Nat.lt_of_lt_of_le EYls_.lt (Nat.le_of_eq g101.symm)))))
    have f169 := (((((((FCls_.ext E101).other W104 (Or.inl (Nat.ne_of_lt (Nat.lt_of_lt_of_le EYls_.lt (Nat.le_of_eq g101.symm))))).other W108 (Or.inl (Nat.ne_of_lt (Nat.lt_of_lt_of_le EYls_.lt (Nat.le_of_eq g101.symm))))).other W112 (Or.inl (Nat.ne_of_lt (Nat.lt_of_lt_of_le EYls_.lt (Nat.le_of_eq g101.symm))))).other W116 (Or.inl (Nat.ne_of_lt (Nat.lt_of_lt_of_le EYls_.lt (Nat.le_of_eq g101.symm))))).other W120 (Or.inl (Nat.ne_of_lt (Nat.lt_of_lt_of_le EYls_.lt (Nat.le_of_eq g101.symm))))).other W124 (Or.inl (Nat.ne_of_lt (Nat.lt_of_lt_of_le EYls_.lt (Nat.le_of_eq g101.symm)))))
    have f170 := (((((((VBls_.ext E101).other W104 (Nat.ne_of_lt (Nat.lt_of_lt_of_le VBls_.lt (Nat.le_of_eq g101.symm)))).other W108 (Nat.ne_of_lt (Nat.lt_of_lt_of_le VBls_.lt (Nat.le_of_eq g101.symm)))).other W112 (Nat.ne_of_lt (Nat.lt_of_lt_of_le VBls_.lt (Nat.le_of_eq g101.symm)))).other W116 (Nat.ne_of_lt (Nat.lt_of_lt_of_le VBls_.lt (Nat.le_of_eq g101.symm)))).other W120 (Nat.ne_of_lt (Nat.lt_of_lt_of_le VBls_.lt (Nat.le_of_eq g101.symm)))).other W124 (Nat.ne_of_lt (Nat.lt_of_lt_of_le VBls_.lt (Nat.le_of_eq g101.symm))))
    have f171 := (((((((S_f.ext E101).wr W104).wr W108).wr W112).wr W116).wr W120).wr W124)
    obtain ⟨v165, T165, L165, X165, q165, st165⟩ := own_callS X161 hx hZ (y := (⟨"com/example/porthcurno/porthcurno/core/RelationHoldsPinLaw", "expected", "(Ljava/lang/String;I)Z"⟩ : MethodName)) hown (hw _ (List.mem_of_getElem? (i := 33) rfl)) (hw _ (List.mem_of_getElem? (i := 34) rfl)) (hw _ (List.mem_of_getElem? (i := 35) rfl)) (hw _ (List.mem_of_getElem? (i := 36) rfl)) (by decide) (hM := (rm3_2 l Z a0 hw [] syls_ p1 byls_ kkls_ cs G3 h124 n0 z164 f166 hcs f167 f168 f169 f170 f171 rG3)) (by decide) (by decide) (by decide) (by decide) e161 (argsL := [(.ref syls_), (.int p1)]) (rest := [(.int (b2i (decide (p1 < 0))))]) (Ls := #[.val (.int p0), .val (.int p1), .val (.ref b101), .val (.ref ls_), .val (.ref syls_), .unset, .unset]) (by rw [hml]; rfl) (lenOf pd__Ljava_lang_String_I_Z rfl) (W := 1) (Nat.le_of_eq rfl) (hb hby at_66)
    obtain ⟨rfl, N165q, e165⟩ := q165
    have N165 := Fr.app N161 N165q
    obtain ⟨v172, T172, L172, X172, q172, st172⟩ := own_callV X165 hx hZ (y := (⟨"com/example/porthcurno/porthcurno/core/SelectorExpression$Relation", "holds", "(I)Z"⟩ : MethodName)) (z := (⟨"com/example/porthcurno/porthcurno/core/SelectorExpression$Relation", "holds", "(I)Z"⟩ : MethodName)) hown (hw _ (List.mem_of_getElem? (i := 19) rfl)) (hw _ (List.mem_of_getElem? (i := 20) rfl)) (notFace_of_selects (args := #[]) (mvT hZ (hw _ (List.mem_of_getElem? (i := 22) rfl)))) (hw _ (List.mem_of_getElem? (i := 22) rfl)) (hw _ (List.mem_of_getElem? (i := 21) rfl)) (hw _ (List.mem_of_getElem? (i := 3) rfl)) (hw _ (List.mem_of_getElem? (i := 23) rfl)) (by decide) f162 (hM := (rm1_2 l Z a0 hw [] ls_ (0 : Int32) h124 n0 z164 f162 f163)) (by decide) (by decide) (by decide) (by decide) e165 (argsL := [(.int (0 : Int32))]) (rest := []) (Ls := #[.val (.int p0), .val (.int p1), .val (.ref b101), .val (.ref ls_), .val (.ref syls_), .val (.int (1 : Int32)), .unset]) (by rw [hml]; rfl) (lenOf pd__I_Z rfl) (W := 0) (Nat.le_of_eq rfl) (hb hby at_81)
    obtain ⟨rfl, N172q, e172⟩ := q172
    have N172 := Fr.app N165 N172q
    obtain ⟨v173, T173, L173, X173, q173, st173⟩ := own_callS X172 hx hZ (y := (⟨"com/example/porthcurno/porthcurno/core/RelationHoldsPinLaw", "expected", "(Ljava/lang/String;I)Z"⟩ : MethodName)) hown (hw _ (List.mem_of_getElem? (i := 33) rfl)) (hw _ (List.mem_of_getElem? (i := 34) rfl)) (hw _ (List.mem_of_getElem? (i := 35) rfl)) (hw _ (List.mem_of_getElem? (i := 36) rfl)) (by decide) (hM := (rm3_2 l Z a0 hw [] syls_ (0 : Int32) byls_ kkls_ cs G3 h124 n0 z164 f166 hcs f167 f168 f169 f170 f171 rG3)) (by decide) (by decide) (by decide) (by decide) e172 (argsL := [(.ref syls_), (.int (0 : Int32))]) (rest := [(.int (b2i (decide ((0 : Int32) < 0))))]) (Ls := #[.val (.int p0), .val (.int p1), .val (.ref b101), .val (.ref ls_), .val (.ref syls_), .val (.int (1 : Int32)), .unset]) (by rw [hml]; rfl) (lenOf pd__Ljava_lang_String_I_Z rfl) (W := 1) (Nat.le_of_eq rfl) (hb hby at_87)
    obtain ⟨rfl, N173q, e173⟩ := q173
    have N173 := Fr.app N172 N173q
    refine Gl.pre (S' := T173.setTop (mkF m 115 #[.val (.int p0), .val (.int p1), .val (.ref b101), .val (.ref ls_), .val (.ref syls_), .val (.int (1 : Int32)), .val (.int (1 : Int32))] [(.int (1 : Int32))])) (fun t kt => ?_) ?_
    · show Steps p.tables e below (T124.setTop (mkF m 50 #[.val (.int p0), .val (.int p1), .val (.ref b101), .unset, .unset, .unset, .unset] [(.int (2 : Int32)), (.ref b101)])) _
      refine X124.aaload hx (j := (2 : Int32)) (v := (.ref ls_)) (own_hc e124 Ar158.1) (State.isArrayOf_alike hZ.alike Ar158.2.1) rfl Ar158.2.2 hin158 hat158 (g := (mkF m 50 #[.val (.int p0), .val (.int p1), .val (.ref b101), .unset, .unset, .unset, .unset] [(.int (2 : Int32)), (.ref b101)])) rfl rfl (hb hby at_50) _ ?_
      show Steps p.tables e below (T124.setTop (mkF m 51 #[.val (.int p0), .val (.int p1), .val (.ref b101), .unset, .unset, .unset, .unset] [(.ref ls_)])) _
      refine XS.astoreN X124.here hx rfl (hb hby at_51) rfl rfl (l' := #[.val (.int p0), .val (.int p1), .val (.ref b101), .val (.ref ls_), .unset, .unset, .unset]) rfl ?_
      show Steps p.tables e below (T124.setTop (mkF m 52 #[.val (.int p0), .val (.int p1), .val (.ref b101), .val (.ref ls_), .unset, .unset, .unset] [])) _
      refine XS.aloadN X124.here hx rfl (hb hby at_52) rfl rfl ?_
      show Steps p.tables e below (T124.setTop (mkF m 53 #[.val (.int p0), .val (.int p1), .val (.ref b101), .val (.ref ls_), .unset, .unset, .unset] [(.ref ls_)])) _
      refine st160 _ ?_
      show Steps p.tables e below (T160.setTop (mkF m 56 #[.val (.int p0), .val (.int p1), .val (.ref b101), .val (.ref ls_), .unset, .unset, .unset] [(.ref syls_)])) _
      refine XS.astore X160.here hx rfl (hb hby at_56) rfl rfl (l' := #[.val (.int p0), .val (.int p1), .val (.ref b101), .val (.ref ls_), .val (.ref syls_), .unset, .unset]) rfl ?_
      show Steps p.tables e below (T160.setTop (mkF m 58 #[.val (.int p0), .val (.int p1), .val (.ref b101), .val (.ref ls_), .val (.ref syls_), .unset, .unset] [])) _
      refine XS.aloadN X160.here hx rfl (hb hby at_58) rfl rfl ?_
      show Steps p.tables e below (T160.setTop (mkF m 59 #[.val (.int p0), .val (.int p1), .val (.ref b101), .val (.ref ls_), .val (.ref syls_), .unset, .unset] [(.ref ls_)])) _
      refine XS.iloadN X160.here hx rfl (hb hby at_59) rfl ?_
      show Steps p.tables e below (T160.setTop (mkF m 60 #[.val (.int p0), .val (.int p1), .val (.ref b101), .val (.ref ls_), .val (.ref syls_), .unset, .unset] [(.int p1), (.ref ls_)])) _
      refine st161 _ ?_
      show Steps p.tables e below (T161.setTop (mkF m 63 #[.val (.int p0), .val (.int p1), .val (.ref b101), .val (.ref ls_), .val (.ref syls_), .unset, .unset] [(.int (b2i (decide (p1 < 0))))])) _
      refine XS.aload X161.here hx rfl (hb hby at_63) rfl rfl ?_
      show Steps p.tables e below (T161.setTop (mkF m 65 #[.val (.int p0), .val (.int p1), .val (.ref b101), .val (.ref ls_), .val (.ref syls_), .unset, .unset] [(.ref syls_), (.int (b2i (decide (p1 < 0))))])) _
      refine XS.iloadN X161.here hx rfl (hb hby at_65) rfl ?_
      show Steps p.tables e below (T161.setTop (mkF m 66 #[.val (.int p0), .val (.int p1), .val (.ref b101), .val (.ref ls_), .val (.ref syls_), .unset, .unset] [(.int p1), (.ref syls_), (.int (b2i (decide (p1 < 0))))])) _
      refine st165 _ ?_
      show Steps p.tables e below (T165.setTop (mkF m 69 #[.val (.int p0), .val (.int p1), .val (.ref b101), .val (.ref ls_), .val (.ref syls_), .unset, .unset] [(.int (b2i (decide (p1 < 0)))), (.int (b2i (decide (p1 < 0))))])) _
      refine XS.icmpNo X165.here hx rfl (hb hby at_69) rfl (own_nf (ic_ne _ _) rfl) ?_
      show Steps p.tables e below (T165.setTop (mkF m 72 #[.val (.int p0), .val (.int p1), .val (.ref b101), .val (.ref ls_), .val (.ref syls_), .unset, .unset] [])) _
      refine XS.iconst X165.here hx rfl (hb hby at_72) ?_
      show Steps p.tables e below (T165.setTop (mkF m 73 #[.val (.int p0), .val (.int p1), .val (.ref b101), .val (.ref ls_), .val (.ref syls_), .unset, .unset] [(.int (1 : Int32))])) _
      refine XS.goto X165.here hx rfl (pc0 := 73) (pc' := 77) rfl (hb hby at_73) (by decide) (by decide) ?_
      show Steps p.tables e below (T165.setTop (mkF m 77 #[.val (.int p0), .val (.int p1), .val (.ref b101), .val (.ref ls_), .val (.ref syls_), .unset, .unset] [(.int (1 : Int32))])) _
      refine XS.istore X165.here hx rfl (hb hby at_77) rfl (l' := #[.val (.int p0), .val (.int p1), .val (.ref b101), .val (.ref ls_), .val (.ref syls_), .val (.int (1 : Int32)), .unset]) rfl ?_
      show Steps p.tables e below (T165.setTop (mkF m 79 #[.val (.int p0), .val (.int p1), .val (.ref b101), .val (.ref ls_), .val (.ref syls_), .val (.int (1 : Int32)), .unset] [])) _
      refine XS.aloadN X165.here hx rfl (hb hby at_79) rfl rfl ?_
      show Steps p.tables e below (T165.setTop (mkF m 80 #[.val (.int p0), .val (.int p1), .val (.ref b101), .val (.ref ls_), .val (.ref syls_), .val (.int (1 : Int32)), .unset] [(.ref ls_)])) _
      refine XS.iconst X165.here hx rfl (hb hby at_80) ?_
      show Steps p.tables e below (T165.setTop (mkF m 81 #[.val (.int p0), .val (.int p1), .val (.ref b101), .val (.ref ls_), .val (.ref syls_), .val (.int (1 : Int32)), .unset] [(.int (0 : Int32)), (.ref ls_)])) _
      refine st172 _ ?_
      show Steps p.tables e below (T172.setTop (mkF m 84 #[.val (.int p0), .val (.int p1), .val (.ref b101), .val (.ref ls_), .val (.ref syls_), .val (.int (1 : Int32)), .unset] [(.int (b2i (decide ((0 : Int32) < 0))))])) _
      refine XS.aload X172.here hx rfl (hb hby at_84) rfl rfl ?_
      show Steps p.tables e below (T172.setTop (mkF m 86 #[.val (.int p0), .val (.int p1), .val (.ref b101), .val (.ref ls_), .val (.ref syls_), .val (.int (1 : Int32)), .unset] [(.ref syls_), (.int (b2i (decide ((0 : Int32) < 0))))])) _
      refine XS.iconst X172.here hx rfl (hb hby at_86) ?_
      show Steps p.tables e below (T172.setTop (mkF m 87 #[.val (.int p0), .val (.int p1), .val (.ref b101), .val (.ref ls_), .val (.ref syls_), .val (.int (1 : Int32)), .unset] [(.int (0 : Int32)), (.ref syls_), (.int (b2i (decide ((0 : Int32) < 0))))])) _
      refine st173 _ ?_
      show Steps p.tables e below (T173.setTop (mkF m 90 #[.val (.int p0), .val (.int p1), .val (.ref b101), .val (.ref ls_), .val (.ref syls_), .val (.int (1 : Int32)), .unset] [(.int (b2i (decide ((0 : Int32) < 0)))), (.int (b2i (decide ((0 : Int32) < 0))))])) _
      refine XS.icmpNo X173.here hx rfl (hb hby at_90) rfl (own_nf (ic_ne _ _) rfl) ?_
      show Steps p.tables e below (T173.setTop (mkF m 93 #[.val (.int p0), .val (.int p1), .val (.ref b101), .val (.ref ls_), .val (.ref syls_), .val (.int (1 : Int32)), .unset] [])) _
      refine XS.iconst X173.here hx rfl (hb hby at_93) ?_
      show Steps p.tables e below (T173.setTop (mkF m 94 #[.val (.int p0), .val (.int p1), .val (.ref b101), .val (.ref ls_), .val (.ref syls_), .val (.int (1 : Int32)), .unset] [(.int (1 : Int32))])) _
      refine XS.goto X173.here hx rfl (pc0 := 94) (pc' := 98) rfl (hb hby at_94) (by decide) (by decide) ?_
      show Steps p.tables e below (T173.setTop (mkF m 98 #[.val (.int p0), .val (.int p1), .val (.ref b101), .val (.ref ls_), .val (.ref syls_), .val (.int (1 : Int32)), .unset] [(.int (1 : Int32))])) _
      refine XS.istore X173.here hx rfl (hb hby at_98) rfl (l' := #[.val (.int p0), .val (.int p1), .val (.ref b101), .val (.ref ls_), .val (.ref syls_), .val (.int (1 : Int32)), .val (.int (1 : Int32))]) rfl ?_
      show Steps p.tables e below (T173.setTop (mkF m 100 #[.val (.int p0), .val (.int p1), .val (.ref b101), .val (.ref ls_), .val (.ref syls_), .val (.int (1 : Int32)), .val (.int (1 : Int32))] [])) _
      refine XS.iload X173.here hx rfl (hb hby at_100) rfl ?_
      show Steps p.tables e below (T173.setTop (mkF m 102 #[.val (.int p0), .val (.int p1), .val (.ref b101), .val (.ref ls_), .val (.ref syls_), .val (.int (1 : Int32)), .val (.int (1 : Int32))] [(.int (1 : Int32))])) _
      refine XS.ifNo X173.here hx rfl (hb hby at_102) rfl (own_f (i0_eq _) (by decide)) ?_
      show Steps p.tables e below (T173.setTop (mkF m 105 #[.val (.int p0), .val (.int p1), .val (.ref b101), .val (.ref ls_), .val (.ref syls_), .val (.int (1 : Int32)), .val (.int (1 : Int32))] [])) _
      refine XS.iload X173.here hx rfl (hb hby at_105) rfl ?_
      show Steps p.tables e below (T173.setTop (mkF m 107 #[.val (.int p0), .val (.int p1), .val (.ref b101), .val (.ref ls_), .val (.ref syls_), .val (.int (1 : Int32)), .val (.int (1 : Int32))] [(.int (1 : Int32))])) _
      refine XS.ifNo X173.here hx rfl (hb hby at_107) rfl (own_f (i0_eq _) (by decide)) ?_
      show Steps p.tables e below (T173.setTop (mkF m 110 #[.val (.int p0), .val (.int p1), .val (.ref b101), .val (.ref ls_), .val (.ref syls_), .val (.int (1 : Int32)), .val (.int (1 : Int32))] [])) _
      refine XS.iconst X173.here hx rfl (hb hby at_110) ?_
      show Steps p.tables e below (T173.setTop (mkF m 111 #[.val (.int p0), .val (.int p1), .val (.ref b101), .val (.ref ls_), .val (.ref syls_), .val (.int (1 : Int32)), .val (.int (1 : Int32))] [(.int (1 : Int32))])) _
      refine XS.goto X173.here hx rfl (pc0 := 111) (pc' := 115) rfl (hb hby at_111) (by decide) (by decide) ?_
      exact kt
    refine Gl.fin X173 (v := some (.int (1 : Int32))) (fun h => by rw [Bd.returns] at h; cases h) Bd.notSynchronized ?_ e173 (by decide) (by decide) (fun fs hr => ?_)
    · exact ⟨rfl, N173⟩
    · show Steps p.tables e below (T173.setTop (mkF m 115 #[.val (.int p0), .val (.int p1), .val (.ref b101), .val (.ref ls_), .val (.ref syls_), .val (.int (1 : Int32)), .val (.int (1 : Int32))] [(.int (1 : Int32))])) _
      exact retN X173 hx (t := .boolean) Bd.returns (by simp) (hb hby at_115) hr
  · rw [hk]
    obtain ⟨cl174, Ar174, qa174, Sa174, Na174, Ha174, Ga174⟩ := id V124
    have hin174 : ¬ ((3 : Int32) < 0 ∨ cl174.slots.size ≤ ((3 : Int32)).toNatClampNeg) := inb_of Sa174 ⟨by decide, by decide⟩
    have hat174 := Ha174.at (v := (.ref le_)) hin174 rfl
    have f175 := (((((((Yle_.ext E101).other W104 (Or.inl (Nat.ne_of_lt (Nat.lt_of_lt_of_le Ele_.lt (Nat.le_of_eq g101.symm))))).other W108 (Or.inl (Nat.ne_of_lt (Nat.lt_of_lt_of_le Ele_.lt (Nat.le_of_eq g101.symm))))).other W112 (Or.inl (Nat.ne_of_lt (Nat.lt_of_lt_of_le Ele_.lt (Nat.le_of_eq g101.symm))))).other W116 (Or.inl (Nat.ne_of_lt (Nat.lt_of_lt_of_le Ele_.lt (Nat.le_of_eq g101.symm))))).other W120 (Or.inl (Nat.ne_of_lt (Nat.lt_of_lt_of_le Ele_.lt (Nat.le_of_eq g101.symm))))).other W124 (Or.inl (Nat.ne_of_lt (Nat.lt_of_lt_of_le Ele_.lt (Nat.le_of_eq g101.symm)))))
    obtain ⟨T176, X176, e176, st176⟩ := getF X124 hx hZ hown (host := "") (Or.inl (hw _ (List.mem_of_getElem? (i := 17) rfl))) Via.refl e124 f175 (g := (mkF m 53 #[.val (.int p0), .val (.int p1), .val (.ref b101), .val (.ref le_), .unset, .unset, .unset] [(.ref le_)])) rfl rfl (hb hby at_53)
    have f178 := (((f117.wr W116).wr W120).wr W124)
    have f179 := (((((((Fle_.ext E101).other W104 (Or.inl (Nat.ne_of_lt (Nat.lt_of_lt_of_le Ele_.lt (Nat.le_of_eq g101.symm))))).other W108 (Or.inl (Nat.ne_of_lt (Nat.lt_of_lt_of_le Ele_.lt (Nat.le_of_eq g101.symm))))).other W112 (Or.inl (Nat.ne_of_lt (Nat.lt_of_lt_of_le Ele_.lt (Nat.le_of_eq g101.symm))))).other W116 (Or.inl (Nat.ne_of_lt (Nat.lt_of_lt_of_le Ele_.lt (Nat.le_of_eq g101.symm))))).other W120 (Or.inl (Nat.ne_of_lt (Nat.lt_of_lt_of_le Ele_.lt (Nat.le_of_eq g101.symm))))).other W124 (Or.inl (Nat.ne_of_lt (Nat.lt_of_lt_of_le Ele_.lt (Nat.le_of_eq g101.symm)))))
    have z180 : n0 ≤ h124.size := (Nat.le_trans (Nat.le_trans (Nat.le_trans (Nat.le_trans (Nat.le_trans (Nat.le_trans (Nat.le_trans Z0 E101.1) (Keep.of_wr W104).1) (Keep.of_wr W108).1) (Keep.of_wr W112).1) (Keep.of_wr W116).1) (Keep.of_wr W120).1) (Keep.of_wr W124).1)
    obtain ⟨v177, T177, L177, X177, q177, st177⟩ := own_callV X176 hx hZ (y := (⟨"com/example/porthcurno/porthcurno/core/SelectorExpression$Relation", "holds", "(I)Z"⟩ : MethodName)) (z := (⟨"com/example/porthcurno/porthcurno/core/SelectorExpression$Relation", "holds", "(I)Z"⟩ : MethodName)) hown (hw _ (List.mem_of_getElem? (i := 19) rfl)) (hw _ (List.mem_of_getElem? (i := 20) rfl)) (notFace_of_selects (args := #[]) (mvT hZ (hw _ (List.mem_of_getElem? (i := 22) rfl)))) (hw _ (List.mem_of_getElem? (i := 22) rfl)) (hw _ (List.mem_of_getElem? (i := 21) rfl)) (hw _ (List.mem_of_getElem? (i := 3) rfl)) (hw _ (List.mem_of_getElem? (i := 23) rfl)) (by decide) f178 (hM := (rm1_3 l Z a0 hw [] le_ p1 h124 n0 z180 f178 f179)) (by decide) (by decide) (by decide) (by decide) e176 (argsL := [(.int p1)]) (rest := []) (Ls := #[.val (.int p0), .val (.int p1), .val (.ref b101), .val (.ref le_), .val (.ref syle_), .unset, .unset]) (by rw [hml]; rfl) (lenOf pd__I_Z rfl) (W := 0) (Nat.le_of_eq rfl) (hb hby at_60)
    obtain ⟨rfl, N177q, e177⟩ := q177
    have N177 := Fr.app N124 N177q
    have f182 := (((((((S_c.ext E101).wr W104).wr W108).wr W112).wr W116).wr W120).wr W124)
    have f183 := (((((((EYle_.ext E101).wr W104).wr W108).wr W112).wr W116).wr W120).wr W124)
    have f184 := (((((((FVle_.ext E101).other W104 (Or.inl (Nat.ne_of_lt (Nat.lt_of_lt_of_le EYle_.lt (Nat.le_of_eq g101.symm))))).other W108 (Or.inl (Nat.ne_of_lt (Nat.lt_of_lt_of_le EYle_.lt (Nat.le_of_eq g101.symm))))).other W112 (Or.inl (Nat.ne_of_lt (Nat.lt_of_lt_of_le EYle_.lt (Nat.le_of_eq g101.symm))))).other W116 (Or.inl (Nat.ne_of_lt (Nat.lt_of_lt_of_le EYle_.lt (Nat.le_of_eq g101.symm))))).other W120 (Or.inl (Nat.ne_of_lt (Nat.lt_of_lt_of_le EYle_.lt (Nat.le_of_eq g101.symm))))).other W124 (Or.inl (Nat.ne_of_lt (Nat.lt_of_lt_of_le EYle_.lt (Nat.le_of_eq g101.symm)))))
    have f185 := (((((((FCle_.ext E101).other W104 (Or.inl (Nat.ne_of_lt (Nat.lt_of_lt_of_le EYle_.lt (Nat.le_of_eq g101.symm))))).other W108 (Or.inl (Nat.ne_of_lt (Nat.lt_of_lt_of_le EYle_.lt (Nat.le_of_eq g101.symm))))).other W112 (Or.inl (Nat.ne_of_lt (Nat.lt_of_lt_of_le EYle_.lt (Nat.le_of_eq g101.symm))))).other W116 (Or.inl (Nat.ne_of_lt (Nat.lt_of_lt_of_le EYle_.lt (Nat.le_of_eq g101.symm))))).other W120 (Or.inl (Nat.ne_of_lt (Nat.lt_of_lt_of_le EYle_.lt (Nat.le_of_eq g101.symm))))).other W124 (Or.inl (Nat.ne_of_lt (Nat.lt_of_lt_of_le EYle_.lt (Nat.le_of_eq g101.symm)))))
    have f186 := (((((((VBle_.ext E101).other W104 (Nat.ne_of_lt (Nat.lt_of_lt_of_le VBle_.lt (Nat.le_of_eq g101.symm)))).other W108 (Nat.ne_of_lt (Nat.lt_of_lt_of_le VBle_.lt (Nat.le_of_eq g101.symm)))).other W112 (Nat.ne_of_lt (Nat.lt_of_lt_of_le VBle_.lt (Nat.le_of_eq g101.symm)))).other W116 (Nat.ne_of_lt (Nat.lt_of_lt_of_le VBle_.lt (Nat.le_of_eq g101.symm)))).other W120 (Nat.ne_of_lt (Nat.lt_of_lt_of_le VBle_.lt (Nat.le_of_eq g101.symm)))).other W124 (Nat.ne_of_lt (Nat.lt_of_lt_of_le VBle_.lt (Nat.le_of_eq g101.symm))))
    have f187 := (((((((S_f.ext E101).wr W104).wr W108).wr W112).wr W116).wr W120).wr W124)
    obtain ⟨v181, T181, L181, X181, q181, st181⟩ := own_callS X177 hx hZ (y := (⟨"com/example/porthcurno/porthcurno/core/RelationHoldsPinLaw", "expected", "(Ljava/lang/String;I)Z"⟩ : MethodName)) hown (hw _ (List.mem_of_getElem? (i := 33) rfl)) (hw _ (List.mem_of_getElem? (i := 34) rfl)) (hw _ (List.mem_of_getElem? (i := 35) rfl)) (hw _ (List.mem_of_getElem? (i := 36) rfl)) (by decide) (hM := (rm3_3 l Z a0 hw [] syle_ p1 byle_ kkle_ cs G3 h124 n0 z180 f182 hcs f183 f184 f185 f186 f187 rG3)) (by decide) (by decide) (by decide) (by decide) e177 (argsL := [(.ref syle_), (.int p1)]) (rest := [(.int (b2i (decide (¬ 0 < p1))))]) (Ls := #[.val (.int p0), .val (.int p1), .val (.ref b101), .val (.ref le_), .val (.ref syle_), .unset, .unset]) (by rw [hml]; rfl) (lenOf pd__Ljava_lang_String_I_Z rfl) (W := 1) (Nat.le_of_eq rfl) (hb hby at_66)
    obtain ⟨rfl, N181q, e181⟩ := q181
    have N181 := Fr.app N177 N181q
    obtain ⟨v188, T188, L188, X188, q188, st188⟩ := own_callV X181 hx hZ (y := (⟨"com/example/porthcurno/porthcurno/core/SelectorExpression$Relation", "holds", "(I)Z"⟩ : MethodName)) (z := (⟨"com/example/porthcurno/porthcurno/core/SelectorExpression$Relation", "holds", "(I)Z"⟩ : MethodName)) hown (hw _ (List.mem_of_getElem? (i := 19) rfl)) (hw _ (List.mem_of_getElem? (i := 20) rfl)) (notFace_of_selects (args := #[]) (mvT hZ (hw _ (List.mem_of_getElem? (i := 22) rfl)))) (hw _ (List.mem_of_getElem? (i := 22) rfl)) (hw _ (List.mem_of_getElem? (i := 21) rfl)) (hw _ (List.mem_of_getElem? (i := 3) rfl)) (hw _ (List.mem_of_getElem? (i := 23) rfl)) (by decide) f178 (hM := (rm1_3 l Z a0 hw [] le_ (0 : Int32) h124 n0 z180 f178 f179)) (by decide) (by decide) (by decide) (by decide) e181 (argsL := [(.int (0 : Int32))]) (rest := []) (Ls := #[.val (.int p0), .val (.int p1), .val (.ref b101), .val (.ref le_), .val (.ref syle_), .val (.int (1 : Int32)), .unset]) (by rw [hml]; rfl) (lenOf pd__I_Z rfl) (W := 0) (Nat.le_of_eq rfl) (hb hby at_81)
    obtain ⟨rfl, N188q, e188⟩ := q188
    have N188 := Fr.app N181 N188q
    obtain ⟨v189, T189, L189, X189, q189, st189⟩ := own_callS X188 hx hZ (y := (⟨"com/example/porthcurno/porthcurno/core/RelationHoldsPinLaw", "expected", "(Ljava/lang/String;I)Z"⟩ : MethodName)) hown (hw _ (List.mem_of_getElem? (i := 33) rfl)) (hw _ (List.mem_of_getElem? (i := 34) rfl)) (hw _ (List.mem_of_getElem? (i := 35) rfl)) (hw _ (List.mem_of_getElem? (i := 36) rfl)) (by decide) (hM := (rm3_3 l Z a0 hw [] syle_ (0 : Int32) byle_ kkle_ cs G3 h124 n0 z180 f182 hcs f183 f184 f185 f186 f187 rG3)) (by decide) (by decide) (by decide) (by decide) e188 (argsL := [(.ref syle_), (.int (0 : Int32))]) (rest := [(.int (b2i (decide (¬ 0 < (0 : Int32)))))]) (Ls := #[.val (.int p0), .val (.int p1), .val (.ref b101), .val (.ref le_), .val (.ref syle_), .val (.int (1 : Int32)), .unset]) (by rw [hml]; rfl) (lenOf pd__Ljava_lang_String_I_Z rfl) (W := 1) (Nat.le_of_eq rfl) (hb hby at_87)
    obtain ⟨rfl, N189q, e189⟩ := q189
    have N189 := Fr.app N188 N189q
    refine Gl.pre (S' := T189.setTop (mkF m 115 #[.val (.int p0), .val (.int p1), .val (.ref b101), .val (.ref le_), .val (.ref syle_), .val (.int (1 : Int32)), .val (.int (1 : Int32))] [(.int (1 : Int32))])) (fun t kt => ?_) ?_
    · show Steps p.tables e below (T124.setTop (mkF m 50 #[.val (.int p0), .val (.int p1), .val (.ref b101), .unset, .unset, .unset, .unset] [(.int (3 : Int32)), (.ref b101)])) _
      refine X124.aaload hx (j := (3 : Int32)) (v := (.ref le_)) (own_hc e124 Ar174.1) (State.isArrayOf_alike hZ.alike Ar174.2.1) rfl Ar174.2.2 hin174 hat174 (g := (mkF m 50 #[.val (.int p0), .val (.int p1), .val (.ref b101), .unset, .unset, .unset, .unset] [(.int (3 : Int32)), (.ref b101)])) rfl rfl (hb hby at_50) _ ?_
      show Steps p.tables e below (T124.setTop (mkF m 51 #[.val (.int p0), .val (.int p1), .val (.ref b101), .unset, .unset, .unset, .unset] [(.ref le_)])) _
      refine XS.astoreN X124.here hx rfl (hb hby at_51) rfl rfl (l' := #[.val (.int p0), .val (.int p1), .val (.ref b101), .val (.ref le_), .unset, .unset, .unset]) rfl ?_
      show Steps p.tables e below (T124.setTop (mkF m 52 #[.val (.int p0), .val (.int p1), .val (.ref b101), .val (.ref le_), .unset, .unset, .unset] [])) _
      refine XS.aloadN X124.here hx rfl (hb hby at_52) rfl rfl ?_
      show Steps p.tables e below (T124.setTop (mkF m 53 #[.val (.int p0), .val (.int p1), .val (.ref b101), .val (.ref le_), .unset, .unset, .unset] [(.ref le_)])) _
      refine st176 _ ?_
      show Steps p.tables e below (T176.setTop (mkF m 56 #[.val (.int p0), .val (.int p1), .val (.ref b101), .val (.ref le_), .unset, .unset, .unset] [(.ref syle_)])) _
      refine XS.astore X176.here hx rfl (hb hby at_56) rfl rfl (l' := #[.val (.int p0), .val (.int p1), .val (.ref b101), .val (.ref le_), .val (.ref syle_), .unset, .unset]) rfl ?_
      show Steps p.tables e below (T176.setTop (mkF m 58 #[.val (.int p0), .val (.int p1), .val (.ref b101), .val (.ref le_), .val (.ref syle_), .unset, .unset] [])) _
      refine XS.aloadN X176.here hx rfl (hb hby at_58) rfl rfl ?_
      show Steps p.tables e below (T176.setTop (mkF m 59 #[.val (.int p0), .val (.int p1), .val (.ref b101), .val (.ref le_), .val (.ref syle_), .unset, .unset] [(.ref le_)])) _
      refine XS.iloadN X176.here hx rfl (hb hby at_59) rfl ?_
      show Steps p.tables e below (T176.setTop (mkF m 60 #[.val (.int p0), .val (.int p1), .val (.ref b101), .val (.ref le_), .val (.ref syle_), .unset, .unset] [(.int p1), (.ref le_)])) _
      refine st177 _ ?_
      show Steps p.tables e below (T177.setTop (mkF m 63 #[.val (.int p0), .val (.int p1), .val (.ref b101), .val (.ref le_), .val (.ref syle_), .unset, .unset] [(.int (b2i (decide (¬ 0 < p1))))])) _
      refine XS.aload X177.here hx rfl (hb hby at_63) rfl rfl ?_
      show Steps p.tables e below (T177.setTop (mkF m 65 #[.val (.int p0), .val (.int p1), .val (.ref b101), .val (.ref le_), .val (.ref syle_), .unset, .unset] [(.ref syle_), (.int (b2i (decide (¬ 0 < p1))))])) _
      refine XS.iloadN X177.here hx rfl (hb hby at_65) rfl ?_
      show Steps p.tables e below (T177.setTop (mkF m 66 #[.val (.int p0), .val (.int p1), .val (.ref b101), .val (.ref le_), .val (.ref syle_), .unset, .unset] [(.int p1), (.ref syle_), (.int (b2i (decide (¬ 0 < p1))))])) _
      refine st181 _ ?_
      show Steps p.tables e below (T181.setTop (mkF m 69 #[.val (.int p0), .val (.int p1), .val (.ref b101), .val (.ref le_), .val (.ref syle_), .unset, .unset] [(.int (b2i (decide (¬ 0 < p1)))), (.int (b2i (decide (¬ 0 < p1))))])) _
      refine XS.icmpNo X181.here hx rfl (hb hby at_69) rfl (own_nf (ic_ne _ _) rfl) ?_
      show Steps p.tables e below (T181.setTop (mkF m 72 #[.val (.int p0), .val (.int p1), .val (.ref b101), .val (.ref le_), .val (.ref syle_), .unset, .unset] [])) _
      refine XS.iconst X181.here hx rfl (hb hby at_72) ?_
      show Steps p.tables e below (T181.setTop (mkF m 73 #[.val (.int p0), .val (.int p1), .val (.ref b101), .val (.ref le_), .val (.ref syle_), .unset, .unset] [(.int (1 : Int32))])) _
      refine XS.goto X181.here hx rfl (pc0 := 73) (pc' := 77) rfl (hb hby at_73) (by decide) (by decide) ?_
      show Steps p.tables e below (T181.setTop (mkF m 77 #[.val (.int p0), .val (.int p1), .val (.ref b101), .val (.ref le_), .val (.ref syle_), .unset, .unset] [(.int (1 : Int32))])) _
      refine XS.istore X181.here hx rfl (hb hby at_77) rfl (l' := #[.val (.int p0), .val (.int p1), .val (.ref b101), .val (.ref le_), .val (.ref syle_), .val (.int (1 : Int32)), .unset]) rfl ?_
      show Steps p.tables e below (T181.setTop (mkF m 79 #[.val (.int p0), .val (.int p1), .val (.ref b101), .val (.ref le_), .val (.ref syle_), .val (.int (1 : Int32)), .unset] [])) _
      refine XS.aloadN X181.here hx rfl (hb hby at_79) rfl rfl ?_
      show Steps p.tables e below (T181.setTop (mkF m 80 #[.val (.int p0), .val (.int p1), .val (.ref b101), .val (.ref le_), .val (.ref syle_), .val (.int (1 : Int32)), .unset] [(.ref le_)])) _
      refine XS.iconst X181.here hx rfl (hb hby at_80) ?_
      show Steps p.tables e below (T181.setTop (mkF m 81 #[.val (.int p0), .val (.int p1), .val (.ref b101), .val (.ref le_), .val (.ref syle_), .val (.int (1 : Int32)), .unset] [(.int (0 : Int32)), (.ref le_)])) _
      refine st188 _ ?_
      show Steps p.tables e below (T188.setTop (mkF m 84 #[.val (.int p0), .val (.int p1), .val (.ref b101), .val (.ref le_), .val (.ref syle_), .val (.int (1 : Int32)), .unset] [(.int (b2i (decide (¬ 0 < (0 : Int32)))))])) _
      refine XS.aload X188.here hx rfl (hb hby at_84) rfl rfl ?_
      show Steps p.tables e below (T188.setTop (mkF m 86 #[.val (.int p0), .val (.int p1), .val (.ref b101), .val (.ref le_), .val (.ref syle_), .val (.int (1 : Int32)), .unset] [(.ref syle_), (.int (b2i (decide (¬ 0 < (0 : Int32)))))])) _
      refine XS.iconst X188.here hx rfl (hb hby at_86) ?_
      show Steps p.tables e below (T188.setTop (mkF m 87 #[.val (.int p0), .val (.int p1), .val (.ref b101), .val (.ref le_), .val (.ref syle_), .val (.int (1 : Int32)), .unset] [(.int (0 : Int32)), (.ref syle_), (.int (b2i (decide (¬ 0 < (0 : Int32)))))])) _
      refine st189 _ ?_
      show Steps p.tables e below (T189.setTop (mkF m 90 #[.val (.int p0), .val (.int p1), .val (.ref b101), .val (.ref le_), .val (.ref syle_), .val (.int (1 : Int32)), .unset] [(.int (b2i (decide (¬ 0 < (0 : Int32))))), (.int (b2i (decide (¬ 0 < (0 : Int32)))))])) _
      refine XS.icmpNo X189.here hx rfl (hb hby at_90) rfl (own_nf (ic_ne _ _) rfl) ?_
      show Steps p.tables e below (T189.setTop (mkF m 93 #[.val (.int p0), .val (.int p1), .val (.ref b101), .val (.ref le_), .val (.ref syle_), .val (.int (1 : Int32)), .unset] [])) _
      refine XS.iconst X189.here hx rfl (hb hby at_93) ?_
      show Steps p.tables e below (T189.setTop (mkF m 94 #[.val (.int p0), .val (.int p1), .val (.ref b101), .val (.ref le_), .val (.ref syle_), .val (.int (1 : Int32)), .unset] [(.int (1 : Int32))])) _
      refine XS.goto X189.here hx rfl (pc0 := 94) (pc' := 98) rfl (hb hby at_94) (by decide) (by decide) ?_
      show Steps p.tables e below (T189.setTop (mkF m 98 #[.val (.int p0), .val (.int p1), .val (.ref b101), .val (.ref le_), .val (.ref syle_), .val (.int (1 : Int32)), .unset] [(.int (1 : Int32))])) _
      refine XS.istore X189.here hx rfl (hb hby at_98) rfl (l' := #[.val (.int p0), .val (.int p1), .val (.ref b101), .val (.ref le_), .val (.ref syle_), .val (.int (1 : Int32)), .val (.int (1 : Int32))]) rfl ?_
      show Steps p.tables e below (T189.setTop (mkF m 100 #[.val (.int p0), .val (.int p1), .val (.ref b101), .val (.ref le_), .val (.ref syle_), .val (.int (1 : Int32)), .val (.int (1 : Int32))] [])) _
      refine XS.iload X189.here hx rfl (hb hby at_100) rfl ?_
      show Steps p.tables e below (T189.setTop (mkF m 102 #[.val (.int p0), .val (.int p1), .val (.ref b101), .val (.ref le_), .val (.ref syle_), .val (.int (1 : Int32)), .val (.int (1 : Int32))] [(.int (1 : Int32))])) _
      refine XS.ifNo X189.here hx rfl (hb hby at_102) rfl (own_f (i0_eq _) (by decide)) ?_
      show Steps p.tables e below (T189.setTop (mkF m 105 #[.val (.int p0), .val (.int p1), .val (.ref b101), .val (.ref le_), .val (.ref syle_), .val (.int (1 : Int32)), .val (.int (1 : Int32))] [])) _
      refine XS.iload X189.here hx rfl (hb hby at_105) rfl ?_
      show Steps p.tables e below (T189.setTop (mkF m 107 #[.val (.int p0), .val (.int p1), .val (.ref b101), .val (.ref le_), .val (.ref syle_), .val (.int (1 : Int32)), .val (.int (1 : Int32))] [(.int (1 : Int32))])) _
      refine XS.ifNo X189.here hx rfl (hb hby at_107) rfl (own_f (i0_eq _) (by decide)) ?_
      show Steps p.tables e below (T189.setTop (mkF m 110 #[.val (.int p0), .val (.int p1), .val (.ref b101), .val (.ref le_), .val (.ref syle_), .val (.int (1 : Int32)), .val (.int (1 : Int32))] [])) _
      refine XS.iconst X189.here hx rfl (hb hby at_110) ?_
      show Steps p.tables e below (T189.setTop (mkF m 111 #[.val (.int p0), .val (.int p1), .val (.ref b101), .val (.ref le_), .val (.ref syle_), .val (.int (1 : Int32)), .val (.int (1 : Int32))] [(.int (1 : Int32))])) _
      refine XS.goto X189.here hx rfl (pc0 := 111) (pc' := 115) rfl (hb hby at_111) (by decide) (by decide) ?_
      exact kt
    refine Gl.fin X189 (v := some (.int (1 : Int32))) (fun h => by rw [Bd.returns] at h; cases h) Bd.notSynchronized ?_ e189 (by decide) (by decide) (fun fs hr => ?_)
    · exact ⟨rfl, N189⟩
    · show Steps p.tables e below (T189.setTop (mkF m 115 #[.val (.int p0), .val (.int p1), .val (.ref b101), .val (.ref le_), .val (.ref syle_), .val (.int (1 : Int32)), .val (.int (1 : Int32))] [(.int (1 : Int32))])) _
      exact retN X189 hx (t := .boolean) Bd.returns (by simp) (hb hby at_115) hr
  · rw [hk]
    obtain ⟨cl190, Ar190, qa190, Sa190, Na190, Ha190, Ga190⟩ := id V124
    have hin190 : ¬ ((4 : Int32) < 0 ∨ cl190.slots.size ≤ ((4 : Int32)).toNatClampNeg) := inb_of Sa190 ⟨by decide, by decide⟩
    have hat190 := Ha190.at (v := (.ref gr_)) hin190 rfl
    have f191 := (((((((Ygr_.ext E101).other W104 (Or.inl (Nat.ne_of_lt (Nat.lt_of_lt_of_le Egr_.lt (Nat.le_of_eq g101.symm))))).other W108 (Or.inl (Nat.ne_of_lt (Nat.lt_of_lt_of_le Egr_.lt (Nat.le_of_eq g101.symm))))).other W112 (Or.inl (Nat.ne_of_lt (Nat.lt_of_lt_of_le Egr_.lt (Nat.le_of_eq g101.symm))))).other W116 (Or.inl (Nat.ne_of_lt (Nat.lt_of_lt_of_le Egr_.lt (Nat.le_of_eq g101.symm))))).other W120 (Or.inl (Nat.ne_of_lt (Nat.lt_of_lt_of_le Egr_.lt (Nat.le_of_eq g101.symm))))).other W124 (Or.inl (Nat.ne_of_lt (Nat.lt_of_lt_of_le Egr_.lt (Nat.le_of_eq g101.symm)))))
    obtain ⟨T192, X192, e192, st192⟩ := getF X124 hx hZ hown (host := "") (Or.inl (hw _ (List.mem_of_getElem? (i := 17) rfl))) Via.refl e124 f191 (g := (mkF m 53 #[.val (.int p0), .val (.int p1), .val (.ref b101), .val (.ref gr_), .unset, .unset, .unset] [(.ref gr_)])) rfl rfl (hb hby at_53)
    have f194 := ((f121.wr W120).wr W124)
    have f195 := (((((((Fgr_.ext E101).other W104 (Or.inl (Nat.ne_of_lt (Nat.lt_of_lt_of_le Egr_.lt (Nat.le_of_eq g101.symm))))).other W108 (Or.inl (Nat.ne_of_lt (Nat.lt_of_lt_of_le Egr_.lt (Nat.le_of_eq g101.symm))))).other W112 (Or.inl (Nat.ne_of_lt (Nat.lt_of_lt_of_le Egr_.lt (Nat.le_of_eq g101.symm))))).other W116 (Or.inl (Nat.ne_of_lt (Nat.lt_of_lt_of_le Egr_.lt (Nat.le_of_eq g101.symm))))).other W120 (Or.inl (Nat.ne_of_lt (Nat.lt_of_lt_of_le Egr_.lt (Nat.le_of_eq g101.symm))))).other W124 (Or.inl (Nat.ne_of_lt (Nat.lt_of_lt_of_le Egr_.lt (Nat.le_of_eq g101.symm)))))
    have z196 : n0 ≤ h124.size := (Nat.le_trans (Nat.le_trans (Nat.le_trans (Nat.le_trans (Nat.le_trans (Nat.le_trans (Nat.le_trans Z0 E101.1) (Keep.of_wr W104).1) (Keep.of_wr W108).1) (Keep.of_wr W112).1) (Keep.of_wr W116).1) (Keep.of_wr W120).1) (Keep.of_wr W124).1)
    obtain ⟨v193, T193, L193, X193, q193, st193⟩ := own_callV X192 hx hZ (y := (⟨"com/example/porthcurno/porthcurno/core/SelectorExpression$Relation", "holds", "(I)Z"⟩ : MethodName)) (z := (⟨"com/example/porthcurno/porthcurno/core/SelectorExpression$Relation", "holds", "(I)Z"⟩ : MethodName)) hown (hw _ (List.mem_of_getElem? (i := 19) rfl)) (hw _ (List.mem_of_getElem? (i := 20) rfl)) (notFace_of_selects (args := #[]) (mvT hZ (hw _ (List.mem_of_getElem? (i := 22) rfl)))) (hw _ (List.mem_of_getElem? (i := 22) rfl)) (hw _ (List.mem_of_getElem? (i := 21) rfl)) (hw _ (List.mem_of_getElem? (i := 3) rfl)) (hw _ (List.mem_of_getElem? (i := 23) rfl)) (by decide) f194 (hM := (rm1_4 l Z a0 hw [] gr_ p1 h124 n0 z196 f194 f195)) (by decide) (by decide) (by decide) (by decide) e192 (argsL := [(.int p1)]) (rest := []) (Ls := #[.val (.int p0), .val (.int p1), .val (.ref b101), .val (.ref gr_), .val (.ref sygr_), .unset, .unset]) (by rw [hml]; rfl) (lenOf pd__I_Z rfl) (W := 0) (Nat.le_of_eq rfl) (hb hby at_60)
    obtain ⟨rfl, N193q, e193⟩ := q193
    have N193 := Fr.app N124 N193q
    have f198 := (((((((S_c.ext E101).wr W104).wr W108).wr W112).wr W116).wr W120).wr W124)
    have f199 := (((((((EYgr_.ext E101).wr W104).wr W108).wr W112).wr W116).wr W120).wr W124)
    have f200 := (((((((FVgr_.ext E101).other W104 (Or.inl (Nat.ne_of_lt (Nat.lt_of_lt_of_le EYgr_.lt (Nat.le_of_eq g101.symm))))).other W108 (Or.inl (Nat.ne_of_lt (Nat.lt_of_lt_of_le EYgr_.lt (Nat.le_of_eq g101.symm))))).other W112 (Or.inl (Nat.ne_of_lt (Nat.lt_of_lt_of_le EYgr_.lt (Nat.le_of_eq g101.symm))))).other W116 (Or.inl (Nat.ne_of_lt (Nat.lt_of_lt_of_le EYgr_.lt (Nat.le_of_eq g101.symm))))).other W120 (Or.inl (Nat.ne_of_lt (Nat.lt_of_lt_of_le EYgr_.lt (Nat.le_of_eq g101.symm))))).other W124 (Or.inl (Nat.ne_of_lt (Nat.lt_of_lt_of_le EYgr_.lt (Nat.le_of_eq g101.symm)))))
    have f201 := (((((((FCgr_.ext E101).other W104 (Or.inl (Nat.ne_of_lt (Nat.lt_of_lt_of_le EYgr_.lt (Nat.le_of_eq g101.symm))))).other W108 (Or.inl (Nat.ne_of_lt (Nat.lt_of_lt_of_le EYgr_.lt (Nat.le_of_eq g101.symm))))).other W112 (Or.inl (Nat.ne_of_lt (Nat.lt_of_lt_of_le EYgr_.lt (Nat.le_of_eq g101.symm))))).other W116 (Or.inl (Nat.ne_of_lt (Nat.lt_of_lt_of_le EYgr_.lt (Nat.le_of_eq g101.symm))))).other W120 (Or.inl (Nat.ne_of_lt (Nat.lt_of_lt_of_le EYgr_.lt (Nat.le_of_eq g101.symm))))).other W124 (Or.inl (Nat.ne_of_lt (Nat.lt_of_lt_of_le EYgr_.lt (Nat.le_of_eq g101.symm)))))
    have f202 := (((((((VBgr_.ext E101).other W104 (Nat.ne_of_lt (Nat.lt_of_lt_of_le VBgr_.lt (Nat.le_of_eq g101.symm)))).other W108 (Nat.ne_of_lt (Nat.lt_of_lt_of_le VBgr_.lt (Nat.le_of_eq g101.symm)))).other W112 (Nat.ne_of_lt (Nat.lt_of_lt_of_le VBgr_.lt (Nat.le_of_eq g101.symm)))).other W116 (Nat.ne_of_lt (Nat.lt_of_lt_of_le VBgr_.lt (Nat.le_of_eq g101.symm)))).other W120 (Nat.ne_of_lt (Nat.lt_of_lt_of_le VBgr_.lt (Nat.le_of_eq g101.symm)))).other W124 (Nat.ne_of_lt (Nat.lt_of_lt_of_le VBgr_.lt (Nat.le_of_eq g101.symm))))
    have f203 := (((((((S_f.ext E101).wr W104).wr W108).wr W112).wr W116).wr W120).wr W124)
    obtain ⟨v197, T197, L197, X197, q197, st197⟩ := own_callS X193 hx hZ (y := (⟨"com/example/porthcurno/porthcurno/core/RelationHoldsPinLaw", "expected", "(Ljava/lang/String;I)Z"⟩ : MethodName)) hown (hw _ (List.mem_of_getElem? (i := 33) rfl)) (hw _ (List.mem_of_getElem? (i := 34) rfl)) (hw _ (List.mem_of_getElem? (i := 35) rfl)) (hw _ (List.mem_of_getElem? (i := 36) rfl)) (by decide) (hM := (rm3_4 l Z a0 hw [] sygr_ p1 bygr_ kkgr_ cs G3 h124 n0 z196 f198 hcs f199 f200 f201 f202 f203 rG3)) (by decide) (by decide) (by decide) (by decide) e193 (argsL := [(.ref sygr_), (.int p1)]) (rest := [(.int (b2i (decide (0 < p1))))]) (Ls := #[.val (.int p0), .val (.int p1), .val (.ref b101), .val (.ref gr_), .val (.ref sygr_), .unset, .unset]) (by rw [hml]; rfl) (lenOf pd__Ljava_lang_String_I_Z rfl) (W := 1) (Nat.le_of_eq rfl) (hb hby at_66)
    obtain ⟨rfl, N197q, e197⟩ := q197
    have N197 := Fr.app N193 N197q
    obtain ⟨v204, T204, L204, X204, q204, st204⟩ := own_callV X197 hx hZ (y := (⟨"com/example/porthcurno/porthcurno/core/SelectorExpression$Relation", "holds", "(I)Z"⟩ : MethodName)) (z := (⟨"com/example/porthcurno/porthcurno/core/SelectorExpression$Relation", "holds", "(I)Z"⟩ : MethodName)) hown (hw _ (List.mem_of_getElem? (i := 19) rfl)) (hw _ (List.mem_of_getElem? (i := 20) rfl)) (notFace_of_selects (args := #[]) (mvT hZ (hw _ (List.mem_of_getElem? (i := 22) rfl)))) (hw _ (List.mem_of_getElem? (i := 22) rfl)) (hw _ (List.mem_of_getElem? (i := 21) rfl)) (hw _ (List.mem_of_getElem? (i := 3) rfl)) (hw _ (List.mem_of_getElem? (i := 23) rfl)) (by decide) f194 (hM := (rm1_4 l Z a0 hw [] gr_ (0 : Int32) h124 n0 z196 f194 f195)) (by decide) (by decide) (by decide) (by decide) e197 (argsL := [(.int (0 : Int32))]) (rest := []) (Ls := #[.val (.int p0), .val (.int p1), .val (.ref b101), .val (.ref gr_), .val (.ref sygr_), .val (.int (1 : Int32)), .unset]) (by rw [hml]; rfl) (lenOf pd__I_Z rfl) (W := 0) (Nat.le_of_eq rfl) (hb hby at_81)
    obtain ⟨rfl, N204q, e204⟩ := q204
    have N204 := Fr.app N197 N204q
    obtain ⟨v205, T205, L205, X205, q205, st205⟩ := own_callS X204 hx hZ (y := (⟨"com/example/porthcurno/porthcurno/core/RelationHoldsPinLaw", "expected", "(Ljava/lang/String;I)Z"⟩ : MethodName)) hown (hw _ (List.mem_of_getElem? (i := 33) rfl)) (hw _ (List.mem_of_getElem? (i := 34) rfl)) (hw _ (List.mem_of_getElem? (i := 35) rfl)) (hw _ (List.mem_of_getElem? (i := 36) rfl)) (by decide) (hM := (rm3_4 l Z a0 hw [] sygr_ (0 : Int32) bygr_ kkgr_ cs G3 h124 n0 z196 f198 hcs f199 f200 f201 f202 f203 rG3)) (by decide) (by decide) (by decide) (by decide) e204 (argsL := [(.ref sygr_), (.int (0 : Int32))]) (rest := [(.int (b2i (decide (0 < (0 : Int32)))))]) (Ls := #[.val (.int p0), .val (.int p1), .val (.ref b101), .val (.ref gr_), .val (.ref sygr_), .val (.int (1 : Int32)), .unset]) (by rw [hml]; rfl) (lenOf pd__Ljava_lang_String_I_Z rfl) (W := 1) (Nat.le_of_eq rfl) (hb hby at_87)
    obtain ⟨rfl, N205q, e205⟩ := q205
    have N205 := Fr.app N204 N205q
    refine Gl.pre (S' := T205.setTop (mkF m 115 #[.val (.int p0), .val (.int p1), .val (.ref b101), .val (.ref gr_), .val (.ref sygr_), .val (.int (1 : Int32)), .val (.int (1 : Int32))] [(.int (1 : Int32))])) (fun t kt => ?_) ?_
    · show Steps p.tables e below (T124.setTop (mkF m 50 #[.val (.int p0), .val (.int p1), .val (.ref b101), .unset, .unset, .unset, .unset] [(.int (4 : Int32)), (.ref b101)])) _
      refine X124.aaload hx (j := (4 : Int32)) (v := (.ref gr_)) (own_hc e124 Ar190.1) (State.isArrayOf_alike hZ.alike Ar190.2.1) rfl Ar190.2.2 hin190 hat190 (g := (mkF m 50 #[.val (.int p0), .val (.int p1), .val (.ref b101), .unset, .unset, .unset, .unset] [(.int (4 : Int32)), (.ref b101)])) rfl rfl (hb hby at_50) _ ?_
      show Steps p.tables e below (T124.setTop (mkF m 51 #[.val (.int p0), .val (.int p1), .val (.ref b101), .unset, .unset, .unset, .unset] [(.ref gr_)])) _
      refine XS.astoreN X124.here hx rfl (hb hby at_51) rfl rfl (l' := #[.val (.int p0), .val (.int p1), .val (.ref b101), .val (.ref gr_), .unset, .unset, .unset]) rfl ?_
      show Steps p.tables e below (T124.setTop (mkF m 52 #[.val (.int p0), .val (.int p1), .val (.ref b101), .val (.ref gr_), .unset, .unset, .unset] [])) _
      refine XS.aloadN X124.here hx rfl (hb hby at_52) rfl rfl ?_
      show Steps p.tables e below (T124.setTop (mkF m 53 #[.val (.int p0), .val (.int p1), .val (.ref b101), .val (.ref gr_), .unset, .unset, .unset] [(.ref gr_)])) _
      refine st192 _ ?_
      show Steps p.tables e below (T192.setTop (mkF m 56 #[.val (.int p0), .val (.int p1), .val (.ref b101), .val (.ref gr_), .unset, .unset, .unset] [(.ref sygr_)])) _
      refine XS.astore X192.here hx rfl (hb hby at_56) rfl rfl (l' := #[.val (.int p0), .val (.int p1), .val (.ref b101), .val (.ref gr_), .val (.ref sygr_), .unset, .unset]) rfl ?_
      show Steps p.tables e below (T192.setTop (mkF m 58 #[.val (.int p0), .val (.int p1), .val (.ref b101), .val (.ref gr_), .val (.ref sygr_), .unset, .unset] [])) _
      refine XS.aloadN X192.here hx rfl (hb hby at_58) rfl rfl ?_
      show Steps p.tables e below (T192.setTop (mkF m 59 #[.val (.int p0), .val (.int p1), .val (.ref b101), .val (.ref gr_), .val (.ref sygr_), .unset, .unset] [(.ref gr_)])) _
      refine XS.iloadN X192.here hx rfl (hb hby at_59) rfl ?_
      show Steps p.tables e below (T192.setTop (mkF m 60 #[.val (.int p0), .val (.int p1), .val (.ref b101), .val (.ref gr_), .val (.ref sygr_), .unset, .unset] [(.int p1), (.ref gr_)])) _
      refine st193 _ ?_
      show Steps p.tables e below (T193.setTop (mkF m 63 #[.val (.int p0), .val (.int p1), .val (.ref b101), .val (.ref gr_), .val (.ref sygr_), .unset, .unset] [(.int (b2i (decide (0 < p1))))])) _
      refine XS.aload X193.here hx rfl (hb hby at_63) rfl rfl ?_
      show Steps p.tables e below (T193.setTop (mkF m 65 #[.val (.int p0), .val (.int p1), .val (.ref b101), .val (.ref gr_), .val (.ref sygr_), .unset, .unset] [(.ref sygr_), (.int (b2i (decide (0 < p1))))])) _
      refine XS.iloadN X193.here hx rfl (hb hby at_65) rfl ?_
      show Steps p.tables e below (T193.setTop (mkF m 66 #[.val (.int p0), .val (.int p1), .val (.ref b101), .val (.ref gr_), .val (.ref sygr_), .unset, .unset] [(.int p1), (.ref sygr_), (.int (b2i (decide (0 < p1))))])) _
      refine st197 _ ?_
      show Steps p.tables e below (T197.setTop (mkF m 69 #[.val (.int p0), .val (.int p1), .val (.ref b101), .val (.ref gr_), .val (.ref sygr_), .unset, .unset] [(.int (b2i (decide (0 < p1)))), (.int (b2i (decide (0 < p1))))])) _
      refine XS.icmpNo X197.here hx rfl (hb hby at_69) rfl (own_nf (ic_ne _ _) rfl) ?_
      show Steps p.tables e below (T197.setTop (mkF m 72 #[.val (.int p0), .val (.int p1), .val (.ref b101), .val (.ref gr_), .val (.ref sygr_), .unset, .unset] [])) _
      refine XS.iconst X197.here hx rfl (hb hby at_72) ?_
      show Steps p.tables e below (T197.setTop (mkF m 73 #[.val (.int p0), .val (.int p1), .val (.ref b101), .val (.ref gr_), .val (.ref sygr_), .unset, .unset] [(.int (1 : Int32))])) _
      refine XS.goto X197.here hx rfl (pc0 := 73) (pc' := 77) rfl (hb hby at_73) (by decide) (by decide) ?_
      show Steps p.tables e below (T197.setTop (mkF m 77 #[.val (.int p0), .val (.int p1), .val (.ref b101), .val (.ref gr_), .val (.ref sygr_), .unset, .unset] [(.int (1 : Int32))])) _
      refine XS.istore X197.here hx rfl (hb hby at_77) rfl (l' := #[.val (.int p0), .val (.int p1), .val (.ref b101), .val (.ref gr_), .val (.ref sygr_), .val (.int (1 : Int32)), .unset]) rfl ?_
      show Steps p.tables e below (T197.setTop (mkF m 79 #[.val (.int p0), .val (.int p1), .val (.ref b101), .val (.ref gr_), .val (.ref sygr_), .val (.int (1 : Int32)), .unset] [])) _
      refine XS.aloadN X197.here hx rfl (hb hby at_79) rfl rfl ?_
      show Steps p.tables e below (T197.setTop (mkF m 80 #[.val (.int p0), .val (.int p1), .val (.ref b101), .val (.ref gr_), .val (.ref sygr_), .val (.int (1 : Int32)), .unset] [(.ref gr_)])) _
      refine XS.iconst X197.here hx rfl (hb hby at_80) ?_
      show Steps p.tables e below (T197.setTop (mkF m 81 #[.val (.int p0), .val (.int p1), .val (.ref b101), .val (.ref gr_), .val (.ref sygr_), .val (.int (1 : Int32)), .unset] [(.int (0 : Int32)), (.ref gr_)])) _
      refine st204 _ ?_
      show Steps p.tables e below (T204.setTop (mkF m 84 #[.val (.int p0), .val (.int p1), .val (.ref b101), .val (.ref gr_), .val (.ref sygr_), .val (.int (1 : Int32)), .unset] [(.int (b2i (decide (0 < (0 : Int32)))))])) _
      refine XS.aload X204.here hx rfl (hb hby at_84) rfl rfl ?_
      show Steps p.tables e below (T204.setTop (mkF m 86 #[.val (.int p0), .val (.int p1), .val (.ref b101), .val (.ref gr_), .val (.ref sygr_), .val (.int (1 : Int32)), .unset] [(.ref sygr_), (.int (b2i (decide (0 < (0 : Int32)))))])) _
      refine XS.iconst X204.here hx rfl (hb hby at_86) ?_
      show Steps p.tables e below (T204.setTop (mkF m 87 #[.val (.int p0), .val (.int p1), .val (.ref b101), .val (.ref gr_), .val (.ref sygr_), .val (.int (1 : Int32)), .unset] [(.int (0 : Int32)), (.ref sygr_), (.int (b2i (decide (0 < (0 : Int32)))))])) _
      refine st205 _ ?_
      show Steps p.tables e below (T205.setTop (mkF m 90 #[.val (.int p0), .val (.int p1), .val (.ref b101), .val (.ref gr_), .val (.ref sygr_), .val (.int (1 : Int32)), .unset] [(.int (b2i (decide (0 < (0 : Int32))))), (.int (b2i (decide (0 < (0 : Int32)))))])) _
      refine XS.icmpNo X205.here hx rfl (hb hby at_90) rfl (own_nf (ic_ne _ _) rfl) ?_
      show Steps p.tables e below (T205.setTop (mkF m 93 #[.val (.int p0), .val (.int p1), .val (.ref b101), .val (.ref gr_), .val (.ref sygr_), .val (.int (1 : Int32)), .unset] [])) _
      refine XS.iconst X205.here hx rfl (hb hby at_93) ?_
      show Steps p.tables e below (T205.setTop (mkF m 94 #[.val (.int p0), .val (.int p1), .val (.ref b101), .val (.ref gr_), .val (.ref sygr_), .val (.int (1 : Int32)), .unset] [(.int (1 : Int32))])) _
      refine XS.goto X205.here hx rfl (pc0 := 94) (pc' := 98) rfl (hb hby at_94) (by decide) (by decide) ?_
      show Steps p.tables e below (T205.setTop (mkF m 98 #[.val (.int p0), .val (.int p1), .val (.ref b101), .val (.ref gr_), .val (.ref sygr_), .val (.int (1 : Int32)), .unset] [(.int (1 : Int32))])) _
      refine XS.istore X205.here hx rfl (hb hby at_98) rfl (l' := #[.val (.int p0), .val (.int p1), .val (.ref b101), .val (.ref gr_), .val (.ref sygr_), .val (.int (1 : Int32)), .val (.int (1 : Int32))]) rfl ?_
      show Steps p.tables e below (T205.setTop (mkF m 100 #[.val (.int p0), .val (.int p1), .val (.ref b101), .val (.ref gr_), .val (.ref sygr_), .val (.int (1 : Int32)), .val (.int (1 : Int32))] [])) _
      refine XS.iload X205.here hx rfl (hb hby at_100) rfl ?_
      show Steps p.tables e below (T205.setTop (mkF m 102 #[.val (.int p0), .val (.int p1), .val (.ref b101), .val (.ref gr_), .val (.ref sygr_), .val (.int (1 : Int32)), .val (.int (1 : Int32))] [(.int (1 : Int32))])) _
      refine XS.ifNo X205.here hx rfl (hb hby at_102) rfl (own_f (i0_eq _) (by decide)) ?_
      show Steps p.tables e below (T205.setTop (mkF m 105 #[.val (.int p0), .val (.int p1), .val (.ref b101), .val (.ref gr_), .val (.ref sygr_), .val (.int (1 : Int32)), .val (.int (1 : Int32))] [])) _
      refine XS.iload X205.here hx rfl (hb hby at_105) rfl ?_
      show Steps p.tables e below (T205.setTop (mkF m 107 #[.val (.int p0), .val (.int p1), .val (.ref b101), .val (.ref gr_), .val (.ref sygr_), .val (.int (1 : Int32)), .val (.int (1 : Int32))] [(.int (1 : Int32))])) _
      refine XS.ifNo X205.here hx rfl (hb hby at_107) rfl (own_f (i0_eq _) (by decide)) ?_
      show Steps p.tables e below (T205.setTop (mkF m 110 #[.val (.int p0), .val (.int p1), .val (.ref b101), .val (.ref gr_), .val (.ref sygr_), .val (.int (1 : Int32)), .val (.int (1 : Int32))] [])) _
      refine XS.iconst X205.here hx rfl (hb hby at_110) ?_
      show Steps p.tables e below (T205.setTop (mkF m 111 #[.val (.int p0), .val (.int p1), .val (.ref b101), .val (.ref gr_), .val (.ref sygr_), .val (.int (1 : Int32)), .val (.int (1 : Int32))] [(.int (1 : Int32))])) _
      refine XS.goto X205.here hx rfl (pc0 := 111) (pc' := 115) rfl (hb hby at_111) (by decide) (by decide) ?_
      exact kt
    refine Gl.fin X205 (v := some (.int (1 : Int32))) (fun h => by rw [Bd.returns] at h; cases h) Bd.notSynchronized ?_ e205 (by decide) (by decide) (fun fs hr => ?_)
    · exact ⟨rfl, N205⟩
    · show Steps p.tables e below (T205.setTop (mkF m 115 #[.val (.int p0), .val (.int p1), .val (.ref b101), .val (.ref gr_), .val (.ref sygr_), .val (.int (1 : Int32)), .val (.int (1 : Int32))] [(.int (1 : Int32))])) _
      exact retN X205 hx (t := .boolean) Bd.returns (by simp) (hb hby at_115) hr
  · rw [hk]
    obtain ⟨cl206, Ar206, qa206, Sa206, Na206, Ha206, Ga206⟩ := id V124
    have hin206 : ¬ ((5 : Int32) < 0 ∨ cl206.slots.size ≤ ((5 : Int32)).toNatClampNeg) := inb_of Sa206 ⟨by decide, by decide⟩
    have hat206 := Ha206.at (v := (.ref ge_)) hin206 rfl
    have f207 := (((((((Yge_.ext E101).other W104 (Or.inl (Nat.ne_of_lt (Nat.lt_of_lt_of_le Ege_.lt (Nat.le_of_eq g101.symm))))).other W108 (Or.inl (Nat.ne_of_lt (Nat.lt_of_lt_of_le Ege_.lt (Nat.le_of_eq g101.symm))))).other W112 (Or.inl (Nat.ne_of_lt (Nat.lt_of_lt_of_le Ege_.lt (Nat.le_of_eq g101.symm))))).other W116 (Or.inl (Nat.ne_of_lt (Nat.lt_of_lt_of_le Ege_.lt (Nat.le_of_eq g101.symm))))).other W120 (Or.inl (Nat.ne_of_lt (Nat.lt_of_lt_of_le Ege_.lt (Nat.le_of_eq g101.symm))))).other W124 (Or.inl (Nat.ne_of_lt (Nat.lt_of_lt_of_le Ege_.lt (Nat.le_of_eq g101.symm)))))
    obtain ⟨T208, X208, e208, st208⟩ := getF X124 hx hZ hown (host := "") (Or.inl (hw _ (List.mem_of_getElem? (i := 17) rfl))) Via.refl e124 f207 (g := (mkF m 53 #[.val (.int p0), .val (.int p1), .val (.ref b101), .val (.ref ge_), .unset, .unset, .unset] [(.ref ge_)])) rfl rfl (hb hby at_53)
    have f210 := (f125.wr W124)
    have f211 := (((((((Fge_.ext E101).other W104 (Or.inl (Nat.ne_of_lt (Nat.lt_of_lt_of_le Ege_.lt (Nat.le_of_eq g101.symm))))).other W108 (Or.inl (Nat.ne_of_lt (Nat.lt_of_lt_of_le Ege_.lt (Nat.le_of_eq g101.symm))))).other W112 (Or.inl (Nat.ne_of_lt (Nat.lt_of_lt_of_le Ege_.lt (Nat.le_of_eq g101.symm))))).other W116 (Or.inl (Nat.ne_of_lt (Nat.lt_of_lt_of_le Ege_.lt (Nat.le_of_eq g101.symm))))).other W120 (Or.inl (Nat.ne_of_lt (Nat.lt_of_lt_of_le Ege_.lt (Nat.le_of_eq g101.symm))))).other W124 (Or.inl (Nat.ne_of_lt (Nat.lt_of_lt_of_le Ege_.lt (Nat.le_of_eq g101.symm)))))
    have z212 : n0 ≤ h124.size := (Nat.le_trans (Nat.le_trans (Nat.le_trans (Nat.le_trans (Nat.le_trans (Nat.le_trans (Nat.le_trans Z0 E101.1) (Keep.of_wr W104).1) (Keep.of_wr W108).1) (Keep.of_wr W112).1) (Keep.of_wr W116).1) (Keep.of_wr W120).1) (Keep.of_wr W124).1)
    obtain ⟨v209, T209, L209, X209, q209, st209⟩ := own_callV X208 hx hZ (y := (⟨"com/example/porthcurno/porthcurno/core/SelectorExpression$Relation", "holds", "(I)Z"⟩ : MethodName)) (z := (⟨"com/example/porthcurno/porthcurno/core/SelectorExpression$Relation", "holds", "(I)Z"⟩ : MethodName)) hown (hw _ (List.mem_of_getElem? (i := 19) rfl)) (hw _ (List.mem_of_getElem? (i := 20) rfl)) (notFace_of_selects (args := #[]) (mvT hZ (hw _ (List.mem_of_getElem? (i := 22) rfl)))) (hw _ (List.mem_of_getElem? (i := 22) rfl)) (hw _ (List.mem_of_getElem? (i := 21) rfl)) (hw _ (List.mem_of_getElem? (i := 3) rfl)) (hw _ (List.mem_of_getElem? (i := 23) rfl)) (by decide) f210 (hM := (rm1_5 l Z a0 hw [] ge_ p1 h124 n0 z212 f210 f211)) (by decide) (by decide) (by decide) (by decide) e208 (argsL := [(.int p1)]) (rest := []) (Ls := #[.val (.int p0), .val (.int p1), .val (.ref b101), .val (.ref ge_), .val (.ref syge_), .unset, .unset]) (by rw [hml]; rfl) (lenOf pd__I_Z rfl) (W := 0) (Nat.le_of_eq rfl) (hb hby at_60)
    obtain ⟨rfl, N209q, e209⟩ := q209
    have N209 := Fr.app N124 N209q
    have f214 := (((((((S_c.ext E101).wr W104).wr W108).wr W112).wr W116).wr W120).wr W124)
    have f215 := (((((((EYge_.ext E101).wr W104).wr W108).wr W112).wr W116).wr W120).wr W124)
    have f216 := (((((((FVge_.ext E101).other W104 (Or.inl (Nat.ne_of_lt (Nat.lt_of_lt_of_le EYge_.lt (Nat.le_of_eq g101.symm))))).other W108 (Or.inl (Nat.ne_of_lt (Nat.lt_of_lt_of_le EYge_.lt (Nat.le_of_eq g101.symm))))).other W112 (Or.inl (Nat.ne_of_lt (Nat.lt_of_lt_of_le EYge_.lt (Nat.le_of_eq g101.symm))))).other W116 (Or.inl (Nat.ne_of_lt (Nat.lt_of_lt_of_le EYge_.lt (Nat.le_of_eq g101.symm))))).other W120 (Or.inl (Nat.ne_of_lt (Nat.lt_of_lt_of_le EYge_.lt (Nat.le_of_eq g101.symm))))).other W124 (Or.inl (Nat.ne_of_lt (Nat.lt_of_lt_of_le EYge_.lt (Nat.le_of_eq g101.symm)))))
    have f217 := (((((((FCge_.ext E101).other W104 (Or.inl (Nat.ne_of_lt (Nat.lt_of_lt_of_le EYge_.lt (Nat.le_of_eq g101.symm))))).other W108 (Or.inl (Nat.ne_of_lt (Nat.lt_of_lt_of_le EYge_.lt (Nat.le_of_eq g101.symm))))).other W112 (Or.inl (Nat.ne_of_lt (Nat.lt_of_lt_of_le EYge_.lt (Nat.le_of_eq g101.symm))))).other W116 (Or.inl (Nat.ne_of_lt (Nat.lt_of_lt_of_le EYge_.lt (Nat.le_of_eq g101.symm))))).other W120 (Or.inl (Nat.ne_of_lt (Nat.lt_of_lt_of_le EYge_.lt (Nat.le_of_eq g101.symm))))).other W124 (Or.inl (Nat.ne_of_lt (Nat.lt_of_lt_of_le EYge_.lt (Nat.le_of_eq g101.symm)))))
    have f218 := (((((((VBge_.ext E101).other W104 (Nat.ne_of_lt (Nat.lt_of_lt_of_le VBge_.lt (Nat.le_of_eq g101.symm)))).other W108 (Nat.ne_of_lt (Nat.lt_of_lt_of_le VBge_.lt (Nat.le_of_eq g101.symm)))).other W112 (Nat.ne_of_lt (Nat.lt_of_lt_of_le VBge_.lt (Nat.le_of_eq g101.symm)))).other W116 (Nat.ne_of_lt (Nat.lt_of_lt_of_le VBge_.lt (Nat.le_of_eq g101.symm)))).other W120 (Nat.ne_of_lt (Nat.lt_of_lt_of_le VBge_.lt (Nat.le_of_eq g101.symm)))).other W124 (Nat.ne_of_lt (Nat.lt_of_lt_of_le VBge_.lt (Nat.le_of_eq g101.symm))))
    have f219 := (((((((S_f.ext E101).wr W104).wr W108).wr W112).wr W116).wr W120).wr W124)
    obtain ⟨v213, T213, L213, X213, q213, st213⟩ := own_callS X209 hx hZ (y := (⟨"com/example/porthcurno/porthcurno/core/RelationHoldsPinLaw", "expected", "(Ljava/lang/String;I)Z"⟩ : MethodName)) hown (hw _ (List.mem_of_getElem? (i := 33) rfl)) (hw _ (List.mem_of_getElem? (i := 34) rfl)) (hw _ (List.mem_of_getElem? (i := 35) rfl)) (hw _ (List.mem_of_getElem? (i := 36) rfl)) (by decide) (hM := (rm3_5 l Z a0 hw [] syge_ p1 byge_ kkge_ cs G3 h124 n0 z212 f214 hcs f215 f216 f217 f218 f219 rG3)) (by decide) (by decide) (by decide) (by decide) e209 (argsL := [(.ref syge_), (.int p1)]) (rest := [(.int (b2i (decide (¬ p1 < 0))))]) (Ls := #[.val (.int p0), .val (.int p1), .val (.ref b101), .val (.ref ge_), .val (.ref syge_), .unset, .unset]) (by rw [hml]; rfl) (lenOf pd__Ljava_lang_String_I_Z rfl) (W := 1) (Nat.le_of_eq rfl) (hb hby at_66)
    obtain ⟨rfl, N213q, e213⟩ := q213
    have N213 := Fr.app N209 N213q
    obtain ⟨v220, T220, L220, X220, q220, st220⟩ := own_callV X213 hx hZ (y := (⟨"com/example/porthcurno/porthcurno/core/SelectorExpression$Relation", "holds", "(I)Z"⟩ : MethodName)) (z := (⟨"com/example/porthcurno/porthcurno/core/SelectorExpression$Relation", "holds", "(I)Z"⟩ : MethodName)) hown (hw _ (List.mem_of_getElem? (i := 19) rfl)) (hw _ (List.mem_of_getElem? (i := 20) rfl)) (notFace_of_selects (args := #[]) (mvT hZ (hw _ (List.mem_of_getElem? (i := 22) rfl)))) (hw _ (List.mem_of_getElem? (i := 22) rfl)) (hw _ (List.mem_of_getElem? (i := 21) rfl)) (hw _ (List.mem_of_getElem? (i := 3) rfl)) (hw _ (List.mem_of_getElem? (i := 23) rfl)) (by decide) f210 (hM := (rm1_5 l Z a0 hw [] ge_ (0 : Int32) h124 n0 z212 f210 f211)) (by decide) (by decide) (by decide) (by decide) e213 (argsL := [(.int (0 : Int32))]) (rest := []) (Ls := #[.val (.int p0), .val (.int p1), .val (.ref b101), .val (.ref ge_), .val (.ref syge_), .val (.int (1 : Int32)), .unset]) (by rw [hml]; rfl) (lenOf pd__I_Z rfl) (W := 0) (Nat.le_of_eq rfl) (hb hby at_81)
    obtain ⟨rfl, N220q, e220⟩ := q220
    have N220 := Fr.app N213 N220q
    obtain ⟨v221, T221, L221, X221, q221, st221⟩ := own_callS X220 hx hZ (y := (⟨"com/example/porthcurno/porthcurno/core/RelationHoldsPinLaw", "expected", "(Ljava/lang/String;I)Z"⟩ : MethodName)) hown (hw _ (List.mem_of_getElem? (i := 33) rfl)) (hw _ (List.mem_of_getElem? (i := 34) rfl)) (hw _ (List.mem_of_getElem? (i := 35) rfl)) (hw _ (List.mem_of_getElem? (i := 36) rfl)) (by decide) (hM := (rm3_5 l Z a0 hw [] syge_ (0 : Int32) byge_ kkge_ cs G3 h124 n0 z212 f214 hcs f215 f216 f217 f218 f219 rG3)) (by decide) (by decide) (by decide) (by decide) e220 (argsL := [(.ref syge_), (.int (0 : Int32))]) (rest := [(.int (b2i (decide (¬ (0 : Int32) < 0))))]) (Ls := #[.val (.int p0), .val (.int p1), .val (.ref b101), .val (.ref ge_), .val (.ref syge_), .val (.int (1 : Int32)), .unset]) (by rw [hml]; rfl) (lenOf pd__Ljava_lang_String_I_Z rfl) (W := 1) (Nat.le_of_eq rfl) (hb hby at_87)
    obtain ⟨rfl, N221q, e221⟩ := q221
    have N221 := Fr.app N220 N221q
    refine Gl.pre (S' := T221.setTop (mkF m 115 #[.val (.int p0), .val (.int p1), .val (.ref b101), .val (.ref ge_), .val (.ref syge_), .val (.int (1 : Int32)), .val (.int (1 : Int32))] [(.int (1 : Int32))])) (fun t kt => ?_) ?_
    · show Steps p.tables e below (T124.setTop (mkF m 50 #[.val (.int p0), .val (.int p1), .val (.ref b101), .unset, .unset, .unset, .unset] [(.int (5 : Int32)), (.ref b101)])) _
      refine X124.aaload hx (j := (5 : Int32)) (v := (.ref ge_)) (own_hc e124 Ar206.1) (State.isArrayOf_alike hZ.alike Ar206.2.1) rfl Ar206.2.2 hin206 hat206 (g := (mkF m 50 #[.val (.int p0), .val (.int p1), .val (.ref b101), .unset, .unset, .unset, .unset] [(.int (5 : Int32)), (.ref b101)])) rfl rfl (hb hby at_50) _ ?_
      show Steps p.tables e below (T124.setTop (mkF m 51 #[.val (.int p0), .val (.int p1), .val (.ref b101), .unset, .unset, .unset, .unset] [(.ref ge_)])) _
      refine XS.astoreN X124.here hx rfl (hb hby at_51) rfl rfl (l' := #[.val (.int p0), .val (.int p1), .val (.ref b101), .val (.ref ge_), .unset, .unset, .unset]) rfl ?_
      show Steps p.tables e below (T124.setTop (mkF m 52 #[.val (.int p0), .val (.int p1), .val (.ref b101), .val (.ref ge_), .unset, .unset, .unset] [])) _
      refine XS.aloadN X124.here hx rfl (hb hby at_52) rfl rfl ?_
      show Steps p.tables e below (T124.setTop (mkF m 53 #[.val (.int p0), .val (.int p1), .val (.ref b101), .val (.ref ge_), .unset, .unset, .unset] [(.ref ge_)])) _
      refine st208 _ ?_
      show Steps p.tables e below (T208.setTop (mkF m 56 #[.val (.int p0), .val (.int p1), .val (.ref b101), .val (.ref ge_), .unset, .unset, .unset] [(.ref syge_)])) _
      refine XS.astore X208.here hx rfl (hb hby at_56) rfl rfl (l' := #[.val (.int p0), .val (.int p1), .val (.ref b101), .val (.ref ge_), .val (.ref syge_), .unset, .unset]) rfl ?_
      show Steps p.tables e below (T208.setTop (mkF m 58 #[.val (.int p0), .val (.int p1), .val (.ref b101), .val (.ref ge_), .val (.ref syge_), .unset, .unset] [])) _
      refine XS.aloadN X208.here hx rfl (hb hby at_58) rfl rfl ?_
      show Steps p.tables e below (T208.setTop (mkF m 59 #[.val (.int p0), .val (.int p1), .val (.ref b101), .val (.ref ge_), .val (.ref syge_), .unset, .unset] [(.ref ge_)])) _
      refine XS.iloadN X208.here hx rfl (hb hby at_59) rfl ?_
      show Steps p.tables e below (T208.setTop (mkF m 60 #[.val (.int p0), .val (.int p1), .val (.ref b101), .val (.ref ge_), .val (.ref syge_), .unset, .unset] [(.int p1), (.ref ge_)])) _
      refine st209 _ ?_
      show Steps p.tables e below (T209.setTop (mkF m 63 #[.val (.int p0), .val (.int p1), .val (.ref b101), .val (.ref ge_), .val (.ref syge_), .unset, .unset] [(.int (b2i (decide (¬ p1 < 0))))])) _
      refine XS.aload X209.here hx rfl (hb hby at_63) rfl rfl ?_
      show Steps p.tables e below (T209.setTop (mkF m 65 #[.val (.int p0), .val (.int p1), .val (.ref b101), .val (.ref ge_), .val (.ref syge_), .unset, .unset] [(.ref syge_), (.int (b2i (decide (¬ p1 < 0))))])) _
      refine XS.iloadN X209.here hx rfl (hb hby at_65) rfl ?_
      show Steps p.tables e below (T209.setTop (mkF m 66 #[.val (.int p0), .val (.int p1), .val (.ref b101), .val (.ref ge_), .val (.ref syge_), .unset, .unset] [(.int p1), (.ref syge_), (.int (b2i (decide (¬ p1 < 0))))])) _
      refine st213 _ ?_
      show Steps p.tables e below (T213.setTop (mkF m 69 #[.val (.int p0), .val (.int p1), .val (.ref b101), .val (.ref ge_), .val (.ref syge_), .unset, .unset] [(.int (b2i (decide (¬ p1 < 0)))), (.int (b2i (decide (¬ p1 < 0))))])) _
      refine XS.icmpNo X213.here hx rfl (hb hby at_69) rfl (own_nf (ic_ne _ _) rfl) ?_
      show Steps p.tables e below (T213.setTop (mkF m 72 #[.val (.int p0), .val (.int p1), .val (.ref b101), .val (.ref ge_), .val (.ref syge_), .unset, .unset] [])) _
      refine XS.iconst X213.here hx rfl (hb hby at_72) ?_
      show Steps p.tables e below (T213.setTop (mkF m 73 #[.val (.int p0), .val (.int p1), .val (.ref b101), .val (.ref ge_), .val (.ref syge_), .unset, .unset] [(.int (1 : Int32))])) _
      refine XS.goto X213.here hx rfl (pc0 := 73) (pc' := 77) rfl (hb hby at_73) (by decide) (by decide) ?_
      show Steps p.tables e below (T213.setTop (mkF m 77 #[.val (.int p0), .val (.int p1), .val (.ref b101), .val (.ref ge_), .val (.ref syge_), .unset, .unset] [(.int (1 : Int32))])) _
      refine XS.istore X213.here hx rfl (hb hby at_77) rfl (l' := #[.val (.int p0), .val (.int p1), .val (.ref b101), .val (.ref ge_), .val (.ref syge_), .val (.int (1 : Int32)), .unset]) rfl ?_
      show Steps p.tables e below (T213.setTop (mkF m 79 #[.val (.int p0), .val (.int p1), .val (.ref b101), .val (.ref ge_), .val (.ref syge_), .val (.int (1 : Int32)), .unset] [])) _
      refine XS.aloadN X213.here hx rfl (hb hby at_79) rfl rfl ?_
      show Steps p.tables e below (T213.setTop (mkF m 80 #[.val (.int p0), .val (.int p1), .val (.ref b101), .val (.ref ge_), .val (.ref syge_), .val (.int (1 : Int32)), .unset] [(.ref ge_)])) _
      refine XS.iconst X213.here hx rfl (hb hby at_80) ?_
      show Steps p.tables e below (T213.setTop (mkF m 81 #[.val (.int p0), .val (.int p1), .val (.ref b101), .val (.ref ge_), .val (.ref syge_), .val (.int (1 : Int32)), .unset] [(.int (0 : Int32)), (.ref ge_)])) _
      refine st220 _ ?_
      show Steps p.tables e below (T220.setTop (mkF m 84 #[.val (.int p0), .val (.int p1), .val (.ref b101), .val (.ref ge_), .val (.ref syge_), .val (.int (1 : Int32)), .unset] [(.int (b2i (decide (¬ (0 : Int32) < 0))))])) _
      refine XS.aload X220.here hx rfl (hb hby at_84) rfl rfl ?_
      show Steps p.tables e below (T220.setTop (mkF m 86 #[.val (.int p0), .val (.int p1), .val (.ref b101), .val (.ref ge_), .val (.ref syge_), .val (.int (1 : Int32)), .unset] [(.ref syge_), (.int (b2i (decide (¬ (0 : Int32) < 0))))])) _
      refine XS.iconst X220.here hx rfl (hb hby at_86) ?_
      show Steps p.tables e below (T220.setTop (mkF m 87 #[.val (.int p0), .val (.int p1), .val (.ref b101), .val (.ref ge_), .val (.ref syge_), .val (.int (1 : Int32)), .unset] [(.int (0 : Int32)), (.ref syge_), (.int (b2i (decide (¬ (0 : Int32) < 0))))])) _
      refine st221 _ ?_
      show Steps p.tables e below (T221.setTop (mkF m 90 #[.val (.int p0), .val (.int p1), .val (.ref b101), .val (.ref ge_), .val (.ref syge_), .val (.int (1 : Int32)), .unset] [(.int (b2i (decide (¬ (0 : Int32) < 0)))), (.int (b2i (decide (¬ (0 : Int32) < 0))))])) _
      refine XS.icmpNo X221.here hx rfl (hb hby at_90) rfl (own_nf (ic_ne _ _) rfl) ?_
      show Steps p.tables e below (T221.setTop (mkF m 93 #[.val (.int p0), .val (.int p1), .val (.ref b101), .val (.ref ge_), .val (.ref syge_), .val (.int (1 : Int32)), .unset] [])) _
      refine XS.iconst X221.here hx rfl (hb hby at_93) ?_
      show Steps p.tables e below (T221.setTop (mkF m 94 #[.val (.int p0), .val (.int p1), .val (.ref b101), .val (.ref ge_), .val (.ref syge_), .val (.int (1 : Int32)), .unset] [(.int (1 : Int32))])) _
      refine XS.goto X221.here hx rfl (pc0 := 94) (pc' := 98) rfl (hb hby at_94) (by decide) (by decide) ?_
      show Steps p.tables e below (T221.setTop (mkF m 98 #[.val (.int p0), .val (.int p1), .val (.ref b101), .val (.ref ge_), .val (.ref syge_), .val (.int (1 : Int32)), .unset] [(.int (1 : Int32))])) _
      refine XS.istore X221.here hx rfl (hb hby at_98) rfl (l' := #[.val (.int p0), .val (.int p1), .val (.ref b101), .val (.ref ge_), .val (.ref syge_), .val (.int (1 : Int32)), .val (.int (1 : Int32))]) rfl ?_
      show Steps p.tables e below (T221.setTop (mkF m 100 #[.val (.int p0), .val (.int p1), .val (.ref b101), .val (.ref ge_), .val (.ref syge_), .val (.int (1 : Int32)), .val (.int (1 : Int32))] [])) _
      refine XS.iload X221.here hx rfl (hb hby at_100) rfl ?_
      show Steps p.tables e below (T221.setTop (mkF m 102 #[.val (.int p0), .val (.int p1), .val (.ref b101), .val (.ref ge_), .val (.ref syge_), .val (.int (1 : Int32)), .val (.int (1 : Int32))] [(.int (1 : Int32))])) _
      refine XS.ifNo X221.here hx rfl (hb hby at_102) rfl (own_f (i0_eq _) (by decide)) ?_
      show Steps p.tables e below (T221.setTop (mkF m 105 #[.val (.int p0), .val (.int p1), .val (.ref b101), .val (.ref ge_), .val (.ref syge_), .val (.int (1 : Int32)), .val (.int (1 : Int32))] [])) _
      refine XS.iload X221.here hx rfl (hb hby at_105) rfl ?_
      show Steps p.tables e below (T221.setTop (mkF m 107 #[.val (.int p0), .val (.int p1), .val (.ref b101), .val (.ref ge_), .val (.ref syge_), .val (.int (1 : Int32)), .val (.int (1 : Int32))] [(.int (1 : Int32))])) _
      refine XS.ifNo X221.here hx rfl (hb hby at_107) rfl (own_f (i0_eq _) (by decide)) ?_
      show Steps p.tables e below (T221.setTop (mkF m 110 #[.val (.int p0), .val (.int p1), .val (.ref b101), .val (.ref ge_), .val (.ref syge_), .val (.int (1 : Int32)), .val (.int (1 : Int32))] [])) _
      refine XS.iconst X221.here hx rfl (hb hby at_110) ?_
      show Steps p.tables e below (T221.setTop (mkF m 111 #[.val (.int p0), .val (.int p1), .val (.ref b101), .val (.ref ge_), .val (.ref syge_), .val (.int (1 : Int32)), .val (.int (1 : Int32))] [(.int (1 : Int32))])) _
      refine XS.goto X221.here hx rfl (pc0 := 111) (pc' := 115) rfl (hb hby at_111) (by decide) (by decide) ?_
      exact kt
    refine Gl.fin X221 (v := some (.int (1 : Int32))) (fun h => by rw [Bd.returns] at h; cases h) Bd.notSynchronized ?_ e221 (by decide) (by decide) (fun fs hr => ?_)
    · exact ⟨rfl, N221⟩
    · show Steps p.tables e below (T221.setTop (mkF m 115 #[.val (.int p0), .val (.int p1), .val (.ref b101), .val (.ref ge_), .val (.ref syge_), .val (.int (1 : Int32)), .val (.int (1 : Int32))] [(.int (1 : Int32))])) _
      exact retN X221 hx (t := .boolean) Bd.returns (by simp) (hb hby at_115) hr
theorem own_len {args : Array Value} {s : State} {t : Term} {a : Addr} {cl : Cell} {ty : FieldType} {n : Int32} (ev : t.eval args s none [] s = some (.ref a)) (A : Arr s s.heap a cl ty) (q : (Term.length t).eval args s none [] s = some (.int n)) : cl.slots.size < 2 ^ 31 ∧ cl.slots.size.toInt32 = n := by
  have ha := A.fin (Vm.Alike.refl _)
  simp [Term.eval, ev, ha] at q
  exact ⟨by have := q.1; omega, q.2⟩
theorem own_el {args : Array Value} {s : State} {t : Term} {a : Addr} {cl : Cell} {ty : FieldType} {j x : Int32} (ev : t.eval args s none [] s = some (.ref a)) (A : Arr s s.heap a cl ty) (q : (Jvm.Cond.eq (Term.elem t (Term.int j)) (Term.int x)).value args s none s [] = some true) : cl.slots[j.toNatClampNeg]? = some (.int x) :=
  (elem_in (eqv_i (Term.int_eval x) q) ev (Term.int_eval j) A.1).2
set_option maxRecDepth 65536 in
set_option maxHeartbeats 40000000 in
theorem comes_1 {Post : Tables → Env → Array Value → State → Outcome → State → Prop} (hpost : ∀ tb e args s v u, (limb_1_1.after args s (.returned v) u = true ∧ limb_1_2.after args s (.returned v) u = true ∧ True) → FrameEnd s (.returned v) u (Jvm.fieldLocs frame_1_writes args s ++ Jvm.arrayLocs frame_1_arrays args s ++ Jvm.staticLocs frame_1_statics s) 16 128 → Post tb e args s (.returned v) u) :
    ArmFor flags0 classFile x code maxLocals ret World_1 tables_1 room_1 Calls_1 rest_1 Pre_1 Post := by
  intro l hfl _ _ p e ha hc hk s m args below hf hA hF happ hP
  obtain ⟨hcalls, hrest, hpre⟩ := hP
  obtain ⟨-, -, -, hnamed, -, -, -, hat⟩ := (Spec.applies_iff hf).mp happ
  obtain ⟨hg, hn⟩ := and_e (Cond.before_iff.mp (show (Jvm.Cond.and given_1 narrow_1).before args s = true from hpre))
  obtain ⟨hq0, hr0⟩ := and_e hg
  obtain ⟨hq1, hr1⟩ := and_e hr0
  obtain ⟨w0, w1, rfl⟩ : ∃ w0 w1 : Value, args = #[w0, w1] := by
    have hs : args.size = 2 := by simpa [Cond.value, given_1] using hq0
    obtain ⟨L⟩ := args
    match L, hs with
    | [w0, w1], _ => exact ⟨w0, w1, rfl⟩
  have hw := fun d (hd : d ∈ tables_1) => atoms_spec (ws := Jvm.Cond.code x code maxLocals ret :: tables_1) hat d (List.mem_cons_of_mem _ hd)
  have hfit : Fit s := fun {y c} hc i hi => by
    obtain ⟨ha, rfl⟩ := Array.getElem?_eq_some_iff.mp hc
    have q := List.all_eq_true.mp ((Array.all_eq_true_iff_forall_mem.mp hF) _ (Array.getElem_mem ha)) i (List.mem_range.mpr hi)
    simpa [Array.getElem?_eq_getElem hi] using q
  obtain ⟨hsets, hown0⟩ := atoms_of _ (rest_1_c_eq ▸ (show rest_1_c.before _ s = true from hrest))
  obtain ⟨i0, ei0⟩ := is_v hq1
  obtain rfl : w0 = (.int i0) := Option.some.inj ei0
  obtain ⟨i1, ei1⟩ := is_v hr1
  obtain rfl : w1 = (.int i1) := Option.some.inj ei1
  obtain ⟨meq_, hn0⟩ := and_e hn
  obtain ⟨mnq_, hn1⟩ := and_e hn0
  obtain ⟨mls_, hn2⟩ := and_e hn1
  obtain ⟨mle_, hn3⟩ := and_e hn2
  obtain ⟨mgr_, hn4⟩ := and_e hn3
  obtain ⟨mge_, hn5⟩ := and_e hn4
  obtain ⟨myeq_, hn6⟩ := and_e hn5
  obtain ⟨moeq_, hn7⟩ := and_e hn6
  obtain ⟨mceq_, hn8⟩ := and_e hn7
  obtain ⟨maeq_, hn9⟩ := and_e hn8
  obtain ⟨mleq_, hn10⟩ := and_e hn9
  obtain ⟨me0eq_, hn11⟩ := and_e hn10
  obtain ⟨myls_, hn12⟩ := and_e hn11
  obtain ⟨mols_, hn13⟩ := and_e hn12
  obtain ⟨mcls_, hn14⟩ := and_e hn13
  obtain ⟨mals_, hn15⟩ := and_e hn14
  obtain ⟨mlls_, hn16⟩ := and_e hn15
  obtain ⟨me0ls_, hn17⟩ := and_e hn16
  obtain ⟨mygr_, hn18⟩ := and_e hn17
  obtain ⟨mogr_, hn19⟩ := and_e hn18
  obtain ⟨mcgr_, hn20⟩ := and_e hn19
  obtain ⟨magr_, hn21⟩ := and_e hn20
  obtain ⟨mlgr_, hn22⟩ := and_e hn21
  obtain ⟨me0gr_, hn23⟩ := and_e hn22
  obtain ⟨mynq_, hn24⟩ := and_e hn23
  obtain ⟨monq_, hn25⟩ := and_e hn24
  obtain ⟨mcnq_, hn26⟩ := and_e hn25
  obtain ⟨manq_, hn27⟩ := and_e hn26
  obtain ⟨mlnq_, hn28⟩ := and_e hn27
  obtain ⟨me0nq_, hn29⟩ := and_e hn28
  obtain ⟨me1nq_, hn30⟩ := and_e hn29
  obtain ⟨myge_, hn31⟩ := and_e hn30
  obtain ⟨moge_, hn32⟩ := and_e hn31
  obtain ⟨mcge_, hn33⟩ := and_e hn32
  obtain ⟨mage_, hn34⟩ := and_e hn33
  obtain ⟨mlge_, hn35⟩ := and_e hn34
  obtain ⟨me0ge_, hn36⟩ := and_e hn35
  obtain ⟨me1ge_, hn37⟩ := and_e hn36
  obtain ⟨myle_, hn38⟩ := and_e hn37
  obtain ⟨mole_, hn39⟩ := and_e hn38
  obtain ⟨mcle_, hn40⟩ := and_e hn39
  obtain ⟨male_, hn41⟩ := and_e hn40
  obtain ⟨mlle_, hn42⟩ := and_e hn41
  obtain ⟨me0le_, hn43⟩ := and_e hn42
  have me1le_ := hn43
  obtain ⟨eq_, eveq_, Seq_, Eeq_⟩ := own_sx (hw _ (List.mem_of_getElem? (i := 3) rfl)) (hw _ (List.mem_of_getElem? (i := 4) rfl)) meq_
  have Feq_ := own_fi eveq_ moeq_
  obtain ⟨syeq_, evyeq_, Yeq_, EYeq_⟩ := own_fx eveq_ myeq_
  have FCeq_ := own_fi evyeq_ mceq_
  obtain ⟨byeq_, evbeq_⟩ := arr_v maeq_
  have FVeq_ := Fld.start ((fld_at evyeq_).symm.trans evbeq_)
  obtain ⟨cleq_, Aeq_⟩ := Arr.start evbeq_ maeq_
  obtain ⟨qeq_, leq_⟩ := own_len evbeq_ Aeq_ (eqv_i (Term.int_eval _) mleq_)
  have VBeq_ := Arv.start (dv := .int (0 : Int32)) (vs := [(.int (61 : Int32))]) hfit Aeq_ qeq_ leq_ (by decide) rfl ⟨own_el evbeq_ Aeq_ me0eq_, trivial⟩
  obtain ⟨nq_, evnq_, Snq_, Enq_⟩ := own_sx (hw _ (List.mem_of_getElem? (i := 3) rfl)) (hw _ (List.mem_of_getElem? (i := 7) rfl)) mnq_
  have Fnq_ := own_fi evnq_ monq_
  obtain ⟨synq_, evynq_, Ynq_, EYnq_⟩ := own_fx evnq_ mynq_
  have FCnq_ := own_fi evynq_ mcnq_
  obtain ⟨bynq_, evbnq_⟩ := arr_v manq_
  have FVnq_ := Fld.start ((fld_at evynq_).symm.trans evbnq_)
  obtain ⟨clnq_, Anq_⟩ := Arr.start evbnq_ manq_
  obtain ⟨qnq_, lnq_⟩ := own_len evbnq_ Anq_ (eqv_i (Term.int_eval _) mlnq_)
  have VBnq_ := Arv.start (dv := .int (0 : Int32)) (vs := [(.int (60 : Int32)), (.int (62 : Int32))]) hfit Anq_ qnq_ lnq_ (by decide) rfl ⟨own_el evbnq_ Anq_ me0nq_, ⟨own_el evbnq_ Anq_ me1nq_, trivial⟩⟩
  obtain ⟨ls_, evls_, Sls_, Els_⟩ := own_sx (hw _ (List.mem_of_getElem? (i := 3) rfl)) (hw _ (List.mem_of_getElem? (i := 9) rfl)) mls_
  have Fls_ := own_fi evls_ mols_
  obtain ⟨syls_, evyls_, Yls_, EYls_⟩ := own_fx evls_ myls_
  have FCls_ := own_fi evyls_ mcls_
  obtain ⟨byls_, evbls_⟩ := arr_v mals_
  have FVls_ := Fld.start ((fld_at evyls_).symm.trans evbls_)
  obtain ⟨clls_, Als_⟩ := Arr.start evbls_ mals_
  obtain ⟨qls_, lls_⟩ := own_len evbls_ Als_ (eqv_i (Term.int_eval _) mlls_)
  have VBls_ := Arv.start (dv := .int (0 : Int32)) (vs := [(.int (60 : Int32))]) hfit Als_ qls_ lls_ (by decide) rfl ⟨own_el evbls_ Als_ me0ls_, trivial⟩
  obtain ⟨le_, evle_, Sle_, Ele_⟩ := own_sx (hw _ (List.mem_of_getElem? (i := 3) rfl)) (hw _ (List.mem_of_getElem? (i := 11) rfl)) mle_
  have Fle_ := own_fi evle_ mole_
  obtain ⟨syle_, evyle_, Yle_, EYle_⟩ := own_fx evle_ myle_
  have FCle_ := own_fi evyle_ mcle_
  obtain ⟨byle_, evble_⟩ := arr_v male_
  have FVle_ := Fld.start ((fld_at evyle_).symm.trans evble_)
  obtain ⟨clle_, Ale_⟩ := Arr.start evble_ male_
  obtain ⟨qle_, lle_⟩ := own_len evble_ Ale_ (eqv_i (Term.int_eval _) mlle_)
  have VBle_ := Arv.start (dv := .int (0 : Int32)) (vs := [(.int (60 : Int32)), (.int (61 : Int32))]) hfit Ale_ qle_ lle_ (by decide) rfl ⟨own_el evble_ Ale_ me0le_, ⟨own_el evble_ Ale_ me1le_, trivial⟩⟩
  obtain ⟨gr_, evgr_, Sgr_, Egr_⟩ := own_sx (hw _ (List.mem_of_getElem? (i := 3) rfl)) (hw _ (List.mem_of_getElem? (i := 13) rfl)) mgr_
  have Fgr_ := own_fi evgr_ mogr_
  obtain ⟨sygr_, evygr_, Ygr_, EYgr_⟩ := own_fx evgr_ mygr_
  have FCgr_ := own_fi evygr_ mcgr_
  obtain ⟨bygr_, evbgr_⟩ := arr_v magr_
  have FVgr_ := Fld.start ((fld_at evygr_).symm.trans evbgr_)
  obtain ⟨clgr_, Agr_⟩ := Arr.start evbgr_ magr_
  obtain ⟨qgr_, lgr_⟩ := own_len evbgr_ Agr_ (eqv_i (Term.int_eval _) mlgr_)
  have VBgr_ := Arv.start (dv := .int (0 : Int32)) (vs := [(.int (62 : Int32))]) hfit Agr_ qgr_ lgr_ (by decide) rfl ⟨own_el evbgr_ Agr_ me0gr_, trivial⟩
  obtain ⟨ge_, evge_, Sge_, Ege_⟩ := own_sx (hw _ (List.mem_of_getElem? (i := 3) rfl)) (hw _ (List.mem_of_getElem? (i := 15) rfl)) mge_
  have Fge_ := own_fi evge_ moge_
  obtain ⟨syge_, evyge_, Yge_, EYge_⟩ := own_fx evge_ myge_
  have FCge_ := own_fi evyge_ mcge_
  obtain ⟨byge_, evbge_⟩ := arr_v mage_
  have FVge_ := Fld.start ((fld_at evyge_).symm.trans evbge_)
  obtain ⟨clge_, Age_⟩ := Arr.start evbge_ mage_
  obtain ⟨qge_, lge_⟩ := own_len evbge_ Age_ (eqv_i (Term.int_eval _) mlge_)
  have VBge_ := Arv.start (dv := .int (0 : Int32)) (vs := [(.int (62 : Int32)), (.int (61 : Int32))]) hfit Age_ qge_ lge_ (by decide) rfl ⟨own_el evbge_ Age_ me0ge_, ⟨own_el evbge_ Age_ me1ge_, trivial⟩⟩
  have n5 := not_v (Cond.before_iff.mp (hsets _ (List.mem_of_getElem? (i := 2) rfl)))
  obtain ⟨cs, ecs⟩ := is_v (Cond.before_iff.mp (hsets _ (List.mem_of_getElem? (i := 1) rfl)))
  have S_c : Sta s s.heap "java/lang/String" "COMPACT_STRINGS" "Z" (.int cs) := Sta.start ecs (Or.inl (hsets _ (List.mem_of_getElem? (i := 0) rfl)))
  have hcs : ¬ (cs = (0 : Int32)) := gotF (Cond.eq_ints ecs (Term.int_eval (0))) n5
  obtain ⟨G3, e3, rG3⟩ := isR_v (Cond.before_iff.mp (hsets _ (List.mem_of_getElem? (i := 8) rfl)))
  have S_f : Sta s s.heap "jdk/internal/util/Preconditions" "SIOOBE_FORMATTER" "Ljava/util/function/BiFunction;" G3 := Sta.start e3 (Or.inl (hsets _ (List.mem_of_getElem? (i := 7) rfl)))
  obtain ⟨n, o, h1, h2, h3, _, L, rfl, ⟨rfl, N⟩, hq⟩ := rm0 l s _ hw tables_1 i0 i1 eq_ syeq_ byeq_ cleq_.cls nq_ synq_ bynq_ clnq_.cls ls_ syls_ byls_ clls_.cls le_ syle_ byle_ clle_.cls gr_ sygr_ bygr_ clgr_.cls ge_ syge_ byge_ clge_.cls cs G3 s.heap s.heap.size (Nat.le_refl _) S_c hcs S_f rG3 Seq_ Eeq_ Feq_ Yeq_ EYeq_ FVeq_ FCeq_ VBeq_ Snq_ Enq_ Fnq_ Ynq_ EYnq_ FVnq_ FCnq_ VBnq_ Sls_ Els_ Fls_ Yls_ EYls_ FVls_ FCls_ VBls_ Sle_ Ele_ Fle_ Yle_ EYle_ FVle_ FCle_ VBle_ Sgr_ Egr_ Fgr_ Ygr_ EYgr_ FVgr_ FCgr_ VBgr_ Sge_ Ege_ Fge_ Yge_ EYge_ FVge_ FCge_ VBge_ p e ha hc hk s m _ below hf ((Spec.applies_iff_loose hf).mp happ).1 ⟨rfl, State.Warmed39.refl s, rfl⟩ trivial
  refine ⟨n, _, h1, h2, h3, hpost _ _ _ _ _ _ ⟨Cond.after_iff.mpr rfl, Cond.after_iff.mpr (eq_i res_at (Term.int_eval (1)) rfl), trivial⟩ ⟨hq.1, hq.2.1, (hq.2.2.sift fun y hy => Or.inr (N y hy)).mono (by decide) (by decide)⟩⟩
theorem main_1_1 : Claimed_1_1 := comes_1 fun _ _ _ _ _ _ h hF => ⟨h.1, hF⟩
theorem main_1_2 : Claimed_1_2 := comes_1 fun _ _ _ _ _ _ h hF => ⟨h.2.1, hF⟩
end Jvm.Pilot.@@N@@
namespace Jvm.Pilot.@@N@@
open Jvm Jvm.ClassFile Sem Op Lib Jvm.Free Jvm.Stand Jvm.Pilot.@@N@@.Jvm.D
/-! MADE BY PROGRAM (witnessworld.py) out of the Statement's table words and the real class files: 19 classes; the members and pool entries that the words name. The judged class is class 1, her method 2. -/
namespace start1
open Jvm.ClassFile
def u (s : String) : CpInfo := .utf8 (stringToUtf16 s)
/-- a pool by its gaps: so many unusable entries, then the entry; so many at the end -/
def gap : Nat → List CpInfo → List CpInfo
  | 0, r => r
  | n + 1, r => .unusable :: gap n r
def poolList (es : List (Nat × CpInfo)) (last : Nat) : List CpInfo := es.foldr (fun e r => gap e.1 (e.2 :: r)) (gap last [])
def pool (es : List (Nat × CpInfo)) (last : Nat) : Array CpInfo := ⟨poolList es last⟩
def fileOf (pool : Array CpInfo) (this : Nat) (attrs : Array Attribute := #[]) (ms : Array MethodInfo := #[]) (fl : Nat := 33) (sup : Nat := 0) (ifs : Array Nat := #[]) (fds : Array FieldInfo := #[]) : ClassFile where
  minorVersion := 0
  majorVersion := 65
  constantPool := pool
  accessFlags := fl
  thisClass := this
  superClass := sup
  interfaces := ifs
  fields := fds
  methods := ms
  attributes := attrs
def plain (name : String) (sup : Option ClassId) : Class where
  name := name
  kind := .ordinary
  loader := none
  accessFlags := 33
  super := sup
  interfaces := #[]
  cf := none
  fields := #[]
  methods := #[]
  instanceTypes := #[]
  staticTypes := #[]
  resolved := #[]
  callSites := []
  init := .initialized
  statics := none
  mirror := none

def pool0 : Array CpInfo := pool [(5, u "<init>"), (0, u "()V"), (1, .class_ 10), (1, u "java/lang/Object")] 113

def k0m0 : Method := { name := "<init>", desc := "()V", sig := { parameters := [], returnType := none }, accessFlags := 1, code := none }
/-- java/lang/Object -/
def k0 : Class := { plain "java/lang/Object" none with
  accessFlags := 33
  interfaces := #[]
  cf := some (fileOf pool0 8 #[] #[{ accessFlags := 1, nameIndex := 5, descriptorIndex := 6, attributes := #[] }] 33 0 #[] #[])
  fields := #[]
  methods := #[k0m0]
  instanceTypes := #[]
  staticTypes := #[]
  resolved := Array.replicate 124 none
  statics := none }

def pool1 : Array CpInfo := pool [(2, .class_ 4), (1, u "java/lang/Object"), (0, u "<init>"), (0, u "()V"), (0, .methodref 8 9), (0, .class_ 10), (0, .nameAndType 11 12), (0, u "java/lang/String"), (0, u "charAt"), (0, u "(I)C"), (0, .methodref 8 14), (0, .nameAndType 15 16), (0, u "length"), (0, u "()I"), (0, .class_ 18), (0, u "com/example/porthcurno/porthcurno/core/SelectorExpression$Relation"), (0, .fieldref 17 20), (0, .nameAndType 21 22), (0, u "EQUAL"), (0, u "Lcom/example/porthcurno/porthcurno/core/SelectorExpression$Relation;"), (0, .fieldref 17 24), (0, .nameAndType 25 22), (0, u "NOT_EQUAL"), (0, .fieldref 17 27), (0, .nameAndType 28 22), (0, u "LESS"), (0, .fieldref 17 30), (0, .nameAndType 31 22), (0, u "LESS_OR_EQUAL"), (0, .fieldref 17 33), (0, .nameAndType 34 22), (0, u "GREATER"), (0, .fieldref 17 36), (0, .nameAndType 37 22), (0, u "GREATER_OR_EQUAL"), (0, .integer 2147483647), (0, .fieldref 17 40), (0, .nameAndType 41 42), (0, u "symbol"), (0, u "Ljava/lang/String;"), (0, .methodref 17 44), (0, .nameAndType 45 46), (0, u "holds"), (0, u "(I)Z"), (0, .methodref 48 49), (0, .class_ 50), (0, .nameAndType 51 52), (0, u "com/example/porthcurno/porthcurno/core/RelationHoldsPinLaw"), (0, u "expected"), (0, u "(Ljava/lang/String;I)Z"), (3, u "law"), (0, u "(II)Z")] 8

def k1m0 : Method := { name := "<init>", desc := "()V", sig := { parameters := [], returnType := none }, accessFlags := 2, code := none }
def k1c1 : Code := { maxStack := 2, maxLocals := 7, code := method_2_code, exceptionTable := #[], attributes := #[] }
def k1m1 : Method := { name := "expected", desc := "(Ljava/lang/String;I)Z", sig := { parameters := [(.object "java/lang/String"), .int], returnType := some .boolean }, accessFlags := 10, code := some k1c1 }
def k1c2 : Code := { maxStack := 4, maxLocals := 7, code := code, exceptionTable := #[], attributes := #[] }
def k1m2 : Method := { name := "law", desc := "(II)Z", sig := { parameters := [.int, .int], returnType := some .boolean }, accessFlags := 9, code := some k1c2 }
/-- com/example/porthcurno/porthcurno/core/RelationHoldsPinLaw -/
def k1 : Class := { plain "com/example/porthcurno/porthcurno/core/RelationHoldsPinLaw" (some 0) with
  accessFlags := 49
  interfaces := #[]
  cf := some (fileOf pool1 48 #[] #[{ accessFlags := 2, nameIndex := 5, descriptorIndex := 6, attributes := #[] }, { accessFlags := 10, nameIndex := 51, descriptorIndex := 52, attributes := #[] }, { accessFlags := 9, nameIndex := 56, descriptorIndex := 57, attributes := #[] }] 49 2 #[] #[])
  fields := #[]
  methods := #[k1m0, k1m1, k1m2]
  instanceTypes := #[]
  staticTypes := #[]
  resolved := Array.replicate 66 none
  statics := none }

def pool2 : Array CpInfo := pool [(1, .class_ 2), (0, u "java/lang/constant/Constable"), (0, .class_ 4), (0, u "java/lang/Object")] 6

/-- java/lang/constant/Constable -/
def k2 : Class := { plain "java/lang/constant/Constable" (some 0) with
  accessFlags := 1537
  interfaces := #[]
  cf := some (fileOf pool2 1 #[] #[] 1537 3 #[] #[])
  fields := #[]
  methods := #[]
  instanceTypes := #[]
  staticTypes := #[]
  resolved := Array.replicate 11 none
  statics := none }

def pool3 : Array CpInfo := pool [(1, .class_ 2), (0, u "java/lang/Comparable"), (0, .class_ 4), (0, u "java/lang/Object")] 7

/-- java/lang/Comparable -/
def k3 : Class := { plain "java/lang/Comparable" (some 0) with
  accessFlags := 1537
  interfaces := #[]
  cf := some (fileOf pool3 1 #[] #[] 1537 3 #[] #[])
  fields := #[]
  methods := #[]
  instanceTypes := #[]
  staticTypes := #[]
  resolved := Array.replicate 12 none
  statics := none }

def pool4 : Array CpInfo := pool [(1, .class_ 2), (0, u "java/io/Serializable"), (0, .class_ 4), (0, u "java/lang/Object")] 2

/-- java/io/Serializable -/
def k4 : Class := { plain "java/io/Serializable" (some 0) with
  accessFlags := 1537
  interfaces := #[]
  cf := some (fileOf pool4 1 #[] #[] 1537 3 #[] #[])
  fields := #[]
  methods := #[]
  instanceTypes := #[]
  staticTypes := #[]
  resolved := Array.replicate 7 none
  statics := none }

def pool5 : Array CpInfo := pool [(2, .class_ 4), (1, u "java/lang/Enum"), (0, u "name"), (0, u "Ljava/lang/String;"), (0, .fieldref 2 8), (0, .nameAndType 9 10), (0, u "ordinal"), (0, u "I"), (1, .class_ 14), (1, u "java/lang/Object"), (4, u "hash"), (86, .class_ 108), (1, u "java/lang/Enum$EnumDesc"), (2, .class_ 112), (0, u "java/lang/constant/Constable"), (0, .class_ 114), (0, u "java/lang/Comparable"), (0, .class_ 116), (0, u "java/io/Serializable"), (9, u "()I")] 77

def k5c0 : Code := { maxStack := 1, maxLocals := 1, code := jdk_37_method_2_code, exceptionTable := #[], attributes := #[] }
def k5m0 : Method := { name := "ordinal", desc := "()I", sig := { parameters := [], returnType := some .int }, accessFlags := 17, code := some k5c0 }
/-- java/lang/Enum -/
def k5 : Class := { plain "java/lang/Enum" (some 0) with
  accessFlags := 1057
  interfaces := #[2, 3, 4]
  cf := some (fileOf pool5 2 #[.nestMembers #[106]] #[{ accessFlags := 17, nameIndex := 9, descriptorIndex := 126, attributes := #[] }] 1057 12 #[111, 113, 115] #[{ accessFlags := 18, nameIndex := 5, descriptorIndex := 6, attributes := #[] }, { accessFlags := 18, nameIndex := 9, descriptorIndex := 10, attributes := #[] }, { accessFlags := 2, nameIndex := 19, descriptorIndex := 10, attributes := #[] }])
  fields := #[{ name := "name", type := (.object "java/lang/String"), accessFlags := 18, slot := 0, constantValue := 0 }, { name := "ordinal", type := .int, accessFlags := 18, slot := 1, constantValue := 0 }, { name := "hash", type := .int, accessFlags := 2, slot := 2, constantValue := 0 }]
  methods := #[k5m0]
  instanceTypes := #[(.object "java/lang/String"), .int, .int]
  staticTypes := #[]
  resolved := Array.replicate 204 none
  statics := none }

def pool6 : Array CpInfo := pool [(1, .class_ 2), (0, u "com/example/porthcurno/porthcurno/core/SelectorExpression$Relation"), (2, u "EQUAL"), (0, u "Lcom/example/porthcurno/porthcurno/core/SelectorExpression$Relation;"), (2, u "NOT_EQUAL"), (2, u "LESS"), (2, u "LESS_OR_EQUAL"), (2, u "GREATER"), (2, u "GREATER_OR_EQUAL"), (2, u "$VALUES"), (0, u "[Lcom/example/porthcurno/porthcurno/core/SelectorExpression$Relation;"), (6, .class_ 34), (1, u "java/lang/Enum"), (8, u "symbol"), (0, u "Ljava/lang/String;"), (0, .methodref 1 46), (0, .nameAndType 47 48), (0, u "ordinal"), (0, u "()I"), (40, u "holds"), (0, u "(I)Z"), (6, .class_ 98), (0, u "com/example/porthcurno/porthcurno/core/SelectorExpression")] 2

def k6c0 : Code := { maxStack := 4, maxLocals := 2, code := prog_36_method_5_code, exceptionTable := #[], attributes := #[] }
def k6m0 : Method := { name := "holds", desc := "(I)Z", sig := { parameters := [.int], returnType := some .boolean }, accessFlags := 0, code := some k6c0 }
/-- com/example/porthcurno/porthcurno/core/SelectorExpression$Relation -/
def k6 : Class := { plain "com/example/porthcurno/porthcurno/core/SelectorExpression$Relation" (some 5) with
  accessFlags := 16433
  interfaces := #[]
  cf := some (fileOf pool6 1 #[.nestHost 97] #[{ accessFlags := 0, nameIndex := 89, descriptorIndex := 90, attributes := #[] }] 16433 32 #[] #[{ accessFlags := 16409, nameIndex := 5, descriptorIndex := 6, attributes := #[] }, { accessFlags := 16409, nameIndex := 9, descriptorIndex := 6, attributes := #[] }, { accessFlags := 16409, nameIndex := 12, descriptorIndex := 6, attributes := #[] }, { accessFlags := 16409, nameIndex := 15, descriptorIndex := 6, attributes := #[] }, { accessFlags := 16409, nameIndex := 18, descriptorIndex := 6, attributes := #[] }, { accessFlags := 16409, nameIndex := 21, descriptorIndex := 6, attributes := #[] }, { accessFlags := 16, nameIndex := 43, descriptorIndex := 44, attributes := #[] }, { accessFlags := 4122, nameIndex := 24, descriptorIndex := 25, attributes := #[] }])
  fields := #[{ name := "EQUAL", type := (.object "com/example/porthcurno/porthcurno/core/SelectorExpression$Relation"), accessFlags := 16409, slot := 0, constantValue := 0 }, { name := "NOT_EQUAL", type := (.object "com/example/porthcurno/porthcurno/core/SelectorExpression$Relation"), accessFlags := 16409, slot := 1, constantValue := 0 }, { name := "LESS", type := (.object "com/example/porthcurno/porthcurno/core/SelectorExpression$Relation"), accessFlags := 16409, slot := 2, constantValue := 0 }, { name := "LESS_OR_EQUAL", type := (.object "com/example/porthcurno/porthcurno/core/SelectorExpression$Relation"), accessFlags := 16409, slot := 3, constantValue := 0 }, { name := "GREATER", type := (.object "com/example/porthcurno/porthcurno/core/SelectorExpression$Relation"), accessFlags := 16409, slot := 4, constantValue := 0 }, { name := "GREATER_OR_EQUAL", type := (.object "com/example/porthcurno/porthcurno/core/SelectorExpression$Relation"), accessFlags := 16409, slot := 5, constantValue := 0 }, { name := "symbol", type := (.object "java/lang/String"), accessFlags := 16, slot := 3, constantValue := 0 }, { name := "$VALUES", type := (.array (.object "com/example/porthcurno/porthcurno/core/SelectorExpression$Relation")), accessFlags := 4122, slot := 6, constantValue := 0 }]
  methods := #[k6m0]
  instanceTypes := #[(.object "java/lang/String"), .int, .int, (.object "java/lang/String")]
  staticTypes := #[(.object "com/example/porthcurno/porthcurno/core/SelectorExpression$Relation"), (.object "com/example/porthcurno/porthcurno/core/SelectorExpression$Relation"), (.object "com/example/porthcurno/porthcurno/core/SelectorExpression$Relation"), (.object "com/example/porthcurno/porthcurno/core/SelectorExpression$Relation"), (.object "com/example/porthcurno/porthcurno/core/SelectorExpression$Relation"), (.object "com/example/porthcurno/porthcurno/core/SelectorExpression$Relation"), (.array (.object "com/example/porthcurno/porthcurno/core/SelectorExpression$Relation"))]
  resolved := Array.replicate 101 none
  statics := some 0 }

def pool7 : Array CpInfo := pool [(2, .class_ 4), (1, u "java/lang/CharSequence"), (42, .class_ 48), (0, u "java/lang/CharSequence$1CodePointIterator"), (10, .class_ 60), (0, u "java/lang/CharSequence$1CharIterator"), (5, .class_ 67), (0, u "java/lang/Object")] 63

/-- java/lang/CharSequence -/
def k7 : Class := { plain "java/lang/CharSequence" (some 0) with
  accessFlags := 1537
  interfaces := #[]
  cf := some (fileOf pool7 2 #[.nestMembers #[47, 59]] #[] 1537 66 #[] #[])
  fields := #[]
  methods := #[]
  instanceTypes := #[]
  staticTypes := #[]
  resolved := Array.replicate 131 none
  statics := none }

def pool8 : Array CpInfo := pool [(1, .class_ 2), (0, u "java/lang/constant/ConstantDesc"), (0, .class_ 4), (0, u "java/lang/Object")] 32

/-- java/lang/constant/ConstantDesc -/
def k8 : Class := { plain "java/lang/constant/ConstantDesc" (some 0) with
  accessFlags := 1537
  interfaces := #[]
  cf := some (fileOf pool8 1 #[] #[] 1537 3 #[] #[])
  fields := #[]
  methods := #[]
  instanceTypes := #[]
  staticTypes := #[]
  resolved := Array.replicate 37 none
  statics := none }

def pool9 : Array CpInfo := pool [(2, .class_ 4), (1, u "java/lang/Object"), (0, u "<init>"), (0, u "()V"), (2, .fieldref 10 11), (0, .class_ 12), (0, .nameAndType 13 14), (0, u "java/lang/String"), (0, u "value"), (0, u "[B"), (0, .fieldref 10 16), (0, .nameAndType 17 18), (0, u "coder"), (0, u "B"), (2, u "hash"), (0, u "I"), (2, u "hashIsZero"), (0, u "Z"), (11, .fieldref 10 39), (0, .nameAndType 40 26), (0, u "COMPACT_STRINGS"), (66, .class_ 109), (1, u "java/lang/StringLatin1"), (32, u "()Z"), (191, u "()I"), (0, .methodref 10 336), (0, .nameAndType 17 337), (0, u "()B"), (25, u "([BI)C"), (27, u "(II)V"), (35, u "(I)C"), (64, .methodref 10 493), (0, .nameAndType 494 142), (0, u "isLatin1"), (0, .methodref 107 496), (0, .nameAndType 497 363), (0, u "charAt"), (3, u "checkIndex"), (5, u "length"), (67, .class_ 576), (0, u "java/lang/CharSequence"), (22, u "CASE_INSENSITIVE_ORDER"), (0, u "Ljava/util/Comparator;"), (452, .fieldref 1054 1055), (0, .class_ 1056), (0, .nameAndType 1057 1058), (0, u "jdk/internal/util/Preconditions"), (0, u "SIOOBE_FORMATTER"), (0, u "Ljava/util/function/BiFunction;"), (0, .methodref 1054 1060), (0, .nameAndType 501 1061), (0, u "(IILjava/util/function/BiFunction;)I"), (39, u "serialPersistentFields"), (0, u "[Ljava/io/ObjectStreamField;"), (0, .class_ 1104), (0, u "java/lang/String$CaseInsensitiveComparator"), (1, .class_ 1107), (0, u "java/io/Serializable"), (0, .class_ 1109), (0, u "java/lang/Comparable"), (0, .class_ 1111), (0, u "java/lang/constant/Constable"), (0, .class_ 1113), (0, u "java/lang/constant/ConstantDesc"), (2, u "serialVersionUID"), (0, u "J"), (3, u "REPL"), (0, u "C"), (2, u "LATIN1"), (1, u "UTF16")] 323

def k9m0 : Method := { name := "<init>", desc := "()V", sig := { parameters := [], returnType := none }, accessFlags := 1, code := none }
def k9c1 : Code := { maxStack := 2, maxLocals := 1, code := jdk_42_method_54_code, exceptionTable := #[], attributes := #[] }
def k9m1 : Method := { name := "length", desc := "()I", sig := { parameters := [], returnType := some .int }, accessFlags := 1, code := some k9c1 }
def k9c2 : Code := { maxStack := 2, maxLocals := 2, code := jdk_42_method_56_code, exceptionTable := #[], attributes := #[] }
def k9m2 : Method := { name := "charAt", desc := "(I)C", sig := { parameters := [.int], returnType := some .char }, accessFlags := 1, code := some k9c2 }
def k9c3 : Code := { maxStack := 1, maxLocals := 1, code := jdk_42_method_152_code, exceptionTable := #[], attributes := #[] }
def k9m3 : Method := { name := "coder", desc := "()B", sig := { parameters := [], returnType := some .byte }, accessFlags := 0, code := some k9c3 }
def k9c4 : Code := { maxStack := 1, maxLocals := 1, code := jdk_42_method_154_code, exceptionTable := #[], attributes := #[] }
def k9m4 : Method := { name := "isLatin1", desc := "()Z", sig := { parameters := [], returnType := some .boolean }, accessFlags := 0, code := some k9c4 }
def k9c5 : Code := { maxStack := 3, maxLocals := 2, code := jdk_42_method_155_code, exceptionTable := #[], attributes := #[] }
def k9m5 : Method := { name := "checkIndex", desc := "(II)V", sig := { parameters := [.int, .int], returnType := none }, accessFlags := 8, code := some k9c5 }
/-- java/lang/String -/
def k9 : Class := { plain "java/lang/String" (some 0) with
  accessFlags := 49
  interfaces := #[4, 3, 7, 2, 8]
  cf := some (fileOf pool9 10 #[.nestMembers #[1103]] #[{ accessFlags := 1, nameIndex := 5, descriptorIndex := 6, attributes := #[] }, { accessFlags := 1, nameIndex := 507, descriptorIndex := 334, attributes := #[] }, { accessFlags := 1, nameIndex := 497, descriptorIndex := 427, attributes := #[] }, { accessFlags := 0, nameIndex := 17, descriptorIndex := 337, attributes := #[] }, { accessFlags := 0, nameIndex := 494, descriptorIndex := 142, attributes := #[] }, { accessFlags := 8, nameIndex := 501, descriptorIndex := 391, attributes := #[] }] 49 2 #[1106, 1108, 575, 1110, 1112] #[{ accessFlags := 18, nameIndex := 13, descriptorIndex := 14, attributes := #[] }, { accessFlags := 18, nameIndex := 17, descriptorIndex := 18, attributes := #[] }, { accessFlags := 2, nameIndex := 21, descriptorIndex := 22, attributes := #[] }, { accessFlags := 2, nameIndex := 25, descriptorIndex := 26, attributes := #[] }, { accessFlags := 26, nameIndex := 1116, descriptorIndex := 1117, attributes := #[] }, { accessFlags := 24, nameIndex := 40, descriptorIndex := 26, attributes := #[] }, { accessFlags := 26, nameIndex := 1101, descriptorIndex := 1102, attributes := #[] }, { accessFlags := 26, nameIndex := 1121, descriptorIndex := 1122, attributes := #[] }, { accessFlags := 25, nameIndex := 599, descriptorIndex := 600, attributes := #[] }, { accessFlags := 24, nameIndex := 1125, descriptorIndex := 18, attributes := #[] }, { accessFlags := 24, nameIndex := 1127, descriptorIndex := 18, attributes := #[] }])
  fields := #[{ name := "value", type := (.array .byte), accessFlags := 18, slot := 0, constantValue := 0 }, { name := "coder", type := .byte, accessFlags := 18, slot := 1, constantValue := 0 }, { name := "hash", type := .int, accessFlags := 2, slot := 2, constantValue := 0 }, { name := "hashIsZero", type := .boolean, accessFlags := 2, slot := 3, constantValue := 0 }, { name := "serialVersionUID", type := .long, accessFlags := 26, slot := 0, constantValue := 0 }, { name := "COMPACT_STRINGS", type := .boolean, accessFlags := 24, slot := 1, constantValue := 0 }, { name := "serialPersistentFields", type := (.array (.object "java/io/ObjectStreamField")), accessFlags := 26, slot := 2, constantValue := 0 }, { name := "REPL", type := .char, accessFlags := 26, slot := 3, constantValue := 0 }, { name := "CASE_INSENSITIVE_ORDER", type := (.object "java/util/Comparator"), accessFlags := 25, slot := 4, constantValue := 0 }, { name := "LATIN1", type := .byte, accessFlags := 24, slot := 5, constantValue := 0 }, { name := "UTF16", type := .byte, accessFlags := 24, slot := 6, constantValue := 0 }]
  methods := #[k9m0, k9m1, k9m2, k9m3, k9m4, k9m5]
  instanceTypes := #[(.array .byte), .byte, .int, .boolean]
  staticTypes := #[.long, .boolean, (.array (.object "java/io/ObjectStreamField")), .char, (.object "java/util/Comparator"), .byte, .byte]
  resolved := Array.replicate 1451 none
  statics := some 1 }

def pool10 : Array CpInfo := pool [(1, .class_ 2), (0, u "java/lang/String"), (1, .class_ 6), (1, u "java/lang/Object"), (0, u "<init>"), (0, u "()V"), (0, .methodref 1 10), (0, .nameAndType 11 12), (0, u "checkIndex"), (0, u "(II)V"), (1, .class_ 16), (1, u "java/lang/StringLatin1"), (36, u "([BI)C"), (67, u "$assertionsDisabled"), (0, u "Z"), (98, .class_ 223), (1, u "java/lang/StringLatin1$LinesSpliterator"), (28, u "charAt"), (137, .class_ 391), (0, u "java/lang/StringLatin1$CharsSpliterator")] 3

def k10m0 : Method := { name := "<init>", desc := "()V", sig := { parameters := [], returnType := none }, accessFlags := 0, code := none }
def k10c1 : Code := { maxStack := 2, maxLocals := 2, code := jdk_43_method_2_code, exceptionTable := #[], attributes := #[] }
def k10m1 : Method := { name := "charAt", desc := "([BI)C", sig := { parameters := [(.array .byte), .int], returnType := some .char }, accessFlags := 9, code := some k10c1 }
/-- java/lang/StringLatin1 -/
def k10 : Class := { plain "java/lang/StringLatin1" (some 0) with
  accessFlags := 48
  interfaces := #[]
  cf := some (fileOf pool10 14 #[.nestMembers #[390, 221]] #[{ accessFlags := 0, nameIndex := 7, descriptorIndex := 8, attributes := #[] }, { accessFlags := 9, nameIndex := 252, descriptorIndex := 53, attributes := #[] }] 48 4 #[] #[{ accessFlags := 4120, nameIndex := 121, descriptorIndex := 122, attributes := #[] }])
  fields := #[{ name := "$assertionsDisabled", type := .boolean, accessFlags := 4120, slot := 0, constantValue := 0 }]
  methods := #[k10m0, k10m1]
  instanceTypes := #[]
  staticTypes := #[.boolean]
  resolved := Array.replicate 395 none
  statics := none }

def pool11 : Array CpInfo := pool [(2, .class_ 4), (1, u "java/lang/Object"), (0, u "<init>"), (0, u "()V"), (17, .class_ 26), (1, u "jdk/internal/util/Preconditions"), (6, u "checkIndex"), (21, .class_ 56), (0, u "jdk/internal/util/Preconditions$4"), (57, .class_ 115), (0, u "jdk/internal/util/Preconditions$1"), (7, u "SIOOBE_FORMATTER"), (0, u "Ljava/util/function/BiFunction;"), (0, .class_ 126), (0, u "jdk/internal/util/Preconditions$2"), (3, u "AIOOBE_FORMATTER"), (0, .class_ 132), (0, u "jdk/internal/util/Preconditions$3"), (3, u "IOOBE_FORMATTER"), (41, u "(IILjava/util/function/BiFunction;)I")] 15

def k11m0 : Method := { name := "<init>", desc := "()V", sig := { parameters := [], returnType := none }, accessFlags := 1, code := none }
def k11c1 : Code := { maxStack := 3, maxLocals := 3, code := jdk_41_method_11_code, exceptionTable := #[], attributes := #[] }
def k11m1 : Method := { name := "checkIndex", desc := "(IILjava/util/function/BiFunction;)I", sig := { parameters := [.int, .int, (.object "java/util/function/BiFunction")], returnType := some .int }, accessFlags := 9, code := some k11c1 }
/-- jdk/internal/util/Preconditions -/
def k11 : Class := { plain "jdk/internal/util/Preconditions" (some 0) with
  accessFlags := 33
  interfaces := #[]
  cf := some (fileOf pool11 24 #[.nestMembers #[55, 131, 125, 114]] #[{ accessFlags := 1, nameIndex := 5, descriptorIndex := 6, attributes := #[] }, { accessFlags := 9, nameIndex := 33, descriptorIndex := 178, attributes := #[] }] 33 2 #[] #[{ accessFlags := 25, nameIndex := 123, descriptorIndex := 124, attributes := #[] }, { accessFlags := 25, nameIndex := 130, descriptorIndex := 124, attributes := #[] }, { accessFlags := 25, nameIndex := 136, descriptorIndex := 124, attributes := #[] }])
  fields := #[{ name := "SIOOBE_FORMATTER", type := (.object "java/util/function/BiFunction"), accessFlags := 25, slot := 0, constantValue := 0 }, { name := "AIOOBE_FORMATTER", type := (.object "java/util/function/BiFunction"), accessFlags := 25, slot := 1, constantValue := 0 }, { name := "IOOBE_FORMATTER", type := (.object "java/util/function/BiFunction"), accessFlags := 25, slot := 2, constantValue := 0 }]
  methods := #[k11m0, k11m1]
  instanceTypes := #[]
  staticTypes := #[(.object "java/util/function/BiFunction"), (.object "java/util/function/BiFunction"), (.object "java/util/function/BiFunction")]
  resolved := Array.replicate 194 none
  statics := some 2 }

def pool12 : Array CpInfo := pool [(9, u "<init>"), (6, .class_ 18), (1, u "java/lang/Object"), (0, u "()V"), (1, .class_ 23), (1, u "jdk/internal/util/ArraysSupport"), (0, u "LOG2_ARRAY_LONG_INDEX_SCALE"), (0, u "I"), (2, u "U"), (0, u "Ljdk/internal/misc/Unsafe;"), (8, u "BIG_ENDIAN"), (0, u "Z"), (8, u "LOG2_BYTE_BIT_SIZE"), (4, u "LOG2_ARRAY_INT_INDEX_SCALE"), (54, u "JLA"), (0, u "Ljdk/internal/access/JavaLangAccess;"), (11, u "LOG2_ARRAY_BOOLEAN_INDEX_SCALE"), (9, u "LOG2_ARRAY_BYTE_INDEX_SCALE"), (5, u "LOG2_ARRAY_CHAR_INDEX_SCALE"), (5, u "LOG2_ARRAY_SHORT_INDEX_SCALE"), (18, u "LOG2_ARRAY_FLOAT_INDEX_SCALE"), (24, u "LOG2_ARRAY_DOUBLE_INDEX_SCALE"), (89, u "T_BOOLEAN"), (2, u "T_CHAR"), (1, u "T_FLOAT"), (1, u "T_DOUBLE"), (1, u "T_BYTE"), (1, u "T_SHORT"), (1, u "T_INT"), (1, u "T_LONG"), (1, u "SOFT_MAX_ARRAY_LENGTH")] 83

def k12m0 : Method := { name := "<init>", desc := "()V", sig := { parameters := [], returnType := none }, accessFlags := 2, code := none }
/-- jdk/internal/util/ArraysSupport -/
def k12 : Class := { plain "jdk/internal/util/ArraysSupport" (some 0) with
  accessFlags := 33
  interfaces := #[]
  cf := some (fileOf pool12 21 #[] #[{ accessFlags := 2, nameIndex := 9, descriptorIndex := 19, attributes := #[] }] 33 16 #[] #[{ accessFlags := 24, nameIndex := 28, descriptorIndex := 29, attributes := #[] }, { accessFlags := 26, nameIndex := 38, descriptorIndex := 39, attributes := #[] }, { accessFlags := 25, nameIndex := 121, descriptorIndex := 25, attributes := #[] }, { accessFlags := 25, nameIndex := 131, descriptorIndex := 25, attributes := #[] }, { accessFlags := 25, nameIndex := 137, descriptorIndex := 25, attributes := #[] }, { accessFlags := 25, nameIndex := 143, descriptorIndex := 25, attributes := #[] }, { accessFlags := 25, nameIndex := 53, descriptorIndex := 25, attributes := #[] }, { accessFlags := 25, nameIndex := 24, descriptorIndex := 25, attributes := #[] }, { accessFlags := 25, nameIndex := 162, descriptorIndex := 25, attributes := #[] }, { accessFlags := 25, nameIndex := 187, descriptorIndex := 25, attributes := #[] }, { accessFlags := 26, nameIndex := 48, descriptorIndex := 25, attributes := #[] }, { accessFlags := 25, nameIndex := 277, descriptorIndex := 25, attributes := #[] }, { accessFlags := 25, nameIndex := 280, descriptorIndex := 25, attributes := #[] }, { accessFlags := 25, nameIndex := 282, descriptorIndex := 25, attributes := #[] }, { accessFlags := 25, nameIndex := 284, descriptorIndex := 25, attributes := #[] }, { accessFlags := 25, nameIndex := 286, descriptorIndex := 25, attributes := #[] }, { accessFlags := 25, nameIndex := 288, descriptorIndex := 25, attributes := #[] }, { accessFlags := 25, nameIndex := 290, descriptorIndex := 25, attributes := #[] }, { accessFlags := 25, nameIndex := 292, descriptorIndex := 25, attributes := #[] }, { accessFlags := 26, nameIndex := 108, descriptorIndex := 109, attributes := #[] }, { accessFlags := 25, nameIndex := 294, descriptorIndex := 25, attributes := #[] }])
  fields := #[{ name := "U", type := (.object "jdk/internal/misc/Unsafe"), accessFlags := 24, slot := 0, constantValue := 0 }, { name := "BIG_ENDIAN", type := .boolean, accessFlags := 26, slot := 1, constantValue := 0 }, { name := "LOG2_ARRAY_BOOLEAN_INDEX_SCALE", type := .int, accessFlags := 25, slot := 2, constantValue := 0 }, { name := "LOG2_ARRAY_BYTE_INDEX_SCALE", type := .int, accessFlags := 25, slot := 3, constantValue := 0 }, { name := "LOG2_ARRAY_CHAR_INDEX_SCALE", type := .int, accessFlags := 25, slot := 4, constantValue := 0 }, { name := "LOG2_ARRAY_SHORT_INDEX_SCALE", type := .int, accessFlags := 25, slot := 5, constantValue := 0 }, { name := "LOG2_ARRAY_INT_INDEX_SCALE", type := .int, accessFlags := 25, slot := 6, constantValue := 0 }, { name := "LOG2_ARRAY_LONG_INDEX_SCALE", type := .int, accessFlags := 25, slot := 7, constantValue := 0 }, { name := "LOG2_ARRAY_FLOAT_INDEX_SCALE", type := .int, accessFlags := 25, slot := 8, constantValue := 0 }, { name := "LOG2_ARRAY_DOUBLE_INDEX_SCALE", type := .int, accessFlags := 25, slot := 9, constantValue := 0 }, { name := "LOG2_BYTE_BIT_SIZE", type := .int, accessFlags := 26, slot := 10, constantValue := 0 }, { name := "T_BOOLEAN", type := .int, accessFlags := 25, slot := 11, constantValue := 0 }, { name := "T_CHAR", type := .int, accessFlags := 25, slot := 12, constantValue := 0 }, { name := "T_FLOAT", type := .int, accessFlags := 25, slot := 13, constantValue := 0 }, { name := "T_DOUBLE", type := .int, accessFlags := 25, slot := 14, constantValue := 0 }, { name := "T_BYTE", type := .int, accessFlags := 25, slot := 15, constantValue := 0 }, { name := "T_SHORT", type := .int, accessFlags := 25, slot := 16, constantValue := 0 }, { name := "T_INT", type := .int, accessFlags := 25, slot := 17, constantValue := 0 }, { name := "T_LONG", type := .int, accessFlags := 25, slot := 18, constantValue := 0 }, { name := "JLA", type := (.object "jdk/internal/access/JavaLangAccess"), accessFlags := 26, slot := 19, constantValue := 0 }, { name := "SOFT_MAX_ARRAY_LENGTH", type := .int, accessFlags := 25, slot := 20, constantValue := 0 }]
  methods := #[k12m0]
  instanceTypes := #[]
  staticTypes := #[(.object "jdk/internal/misc/Unsafe"), .boolean, .int, .int, .int, .int, .int, .int, .int, .int, .int, .int, .int, .int, .int, .int, .int, .int, .int, (.object "jdk/internal/access/JavaLangAccess"), .int]
  resolved := Array.replicate 378 none
  statics := none }

def pool13 : Array CpInfo := pool [(1, u "java/lang/Cloneable"), (0, .class_ 1), (0, u "java/lang/Object"), (0, .class_ 3)] 3

/-- java/lang/Cloneable -/
def k13 : Class := { plain "java/lang/Cloneable" (some 0) with
  accessFlags := 1537
  interfaces := #[]
  cf := some (fileOf pool13 2 #[] #[] 1537 4 #[] #[])
  fields := #[]
  methods := #[]
  instanceTypes := #[]
  staticTypes := #[]
  resolved := Array.replicate 8 none
  statics := none }

/-- the primitive byte -/
def k14 : Class := { plain "byte" none with kind := .primitive 'B', accessFlags := 0x411 }
/-- [B -/
def k15 : Class := { plain "[B" (some 0) with kind := .array 14 .byte, interfaces := #[13, 4], accessFlags := 1041 }

/-- the primitive int -/
def k16 : Class := { plain "int" none with kind := .primitive 'I', accessFlags := 0x411 }
/-- [I -/
def k17 : Class := { plain "[I" (some 0) with kind := .array 16 .int, interfaces := #[13, 4], accessFlags := 1041 }

/-- [Lcom/example/porthcurno/porthcurno/core/SelectorExpression$Relation; -/
def k18 : Class := { plain "[Lcom/example/porthcurno/porthcurno/core/SelectorExpression$Relation;" (some 0) with kind := .array 6 (.object "com/example/porthcurno/porthcurno/core/SelectorExpression$Relation"), interfaces := #[13, 4], accessFlags := 1041 }

def heap : Heap := #[{ cls := 6, slots := #[.ref 5, .ref 8, .ref 11, .ref 14, .ref 17, .ref 20, .null], vm := .statics 6 },
  { cls := 9, slots := #[.long 0, .int 1, .null, .int 0, .null, .int 0, .int 0], vm := .statics 9 },
  { cls := 11, slots := #[.null, .null, .null], vm := .statics 11 },
  { cls := 15, slots := #[.int 61], vm := .none },
  { cls := 9, slots := #[.ref 3, .int 0, .int 0, .int 0], vm := .none },
  { cls := 6, slots := #[.null, .int 0, .int 0, .ref 4], vm := .none },
  { cls := 15, slots := #[.int 60, .int 62], vm := .none },
  { cls := 9, slots := #[.ref 6, .int 0, .int 0, .int 0], vm := .none },
  { cls := 6, slots := #[.null, .int 1, .int 0, .ref 7], vm := .none },
  { cls := 15, slots := #[.int 60], vm := .none },
  { cls := 9, slots := #[.ref 9, .int 0, .int 0, .int 0], vm := .none },
  { cls := 6, slots := #[.null, .int 2, .int 0, .ref 10], vm := .none },
  { cls := 15, slots := #[.int 60, .int 61], vm := .none },
  { cls := 9, slots := #[.ref 12, .int 0, .int 0, .int 0], vm := .none },
  { cls := 6, slots := #[.null, .int 3, .int 0, .ref 13], vm := .none },
  { cls := 15, slots := #[.int 62], vm := .none },
  { cls := 9, slots := #[.ref 15, .int 0, .int 0, .int 0], vm := .none },
  { cls := 6, slots := #[.null, .int 4, .int 0, .ref 16], vm := .none },
  { cls := 15, slots := #[.int 62, .int 61], vm := .none },
  { cls := 9, slots := #[.ref 18, .int 0, .int 0, .int 0], vm := .none },
  { cls := 6, slots := #[.null, .int 5, .int 0, .ref 19], vm := .none }]
def classes : Array Class := #[k0, k1, k2, k3, k4, k5, k6, k7, k8, k9, k10, k11, k12, k13, k14, k15, k16, k17, k18]
def interned : List (Array UInt16 × Addr) := []
def slotsUsed : Nat := 74
def theMethod : MethodId := ⟨1, 2⟩
def args0 : Array Value := #[.int 2, .int 5]
def aboutOver (below : List Frame) : State where
  vm := { classes := classes, interned := interned.toArray }
  heap := heap
  slotsUsed := slotsUsed
  threads := #[{ frames := .invoking theMethod args0 :: below }]
def below0 : List Frame := [.native { method := ⟨0, 0⟩, args := #[] }]
def about1 : State := aboutOver below0
def p0 : Program := .bare "" "" ""
def e0 : Env := launch0.env 0 0 0
theorem w_frames : about1.frames = Frame.invoking theMethod args0 :: below0 := rfl
set_option maxRecDepth 65536 in
theorem w_args : argsFit about1.vm theMethod args0 = true := by decide +kernel
set_option maxRecDepth 65536 in
theorem w_heap : heapFits about1 = true := by decide +kernel
set_option maxRecDepth 65536 in
theorem w_runnable : about1.curStatus? = some .runnable := by decide +kernel
set_option maxRecDepth 65536 in
theorem w_alone : about1.alone = true := by decide +kernel
set_option maxRecDepth 65536 in
theorem w_named : about1.methodNamed? x = some theMethod := by decide +kernel
set_option maxRecDepth 65536 in
theorem w_hears : about1.hears theMethod below0 = true := by decide +kernel
set_option maxRecDepth 65536 in
theorem w_ripe : about1.ripe theMethod args0 below0 = true := by decide +kernel
theorem w_running : about1.status = .running := rfl
set_option maxRecDepth 65536 in
theorem w_room : about1.hasRoom e0.platform room_1 = true :=
  launch0.hasRoom_least _ room_1 (by decide +kernel) (by decide +kernel) (by decide +kernel) (by decide +kernel) (by decide +kernel) (by decide +kernel)
theorem allAtoms_all (ts : List Jvm.Cond) (a : Array Jvm.Value) (st : Jvm.State) : (allAtoms ts).before a st = ts.all (fun c => c.before a st) := by
  induction ts with
  | nil => rfl
  | cons c t ih =>
    show (Jvm.Cond.and c (allAtoms t)).before a st = _
    rw [Jvm.Cond.before_and, ih, List.all_cons]
def words1 : List Jvm.Cond := Jvm.Cond.code x code maxLocals ret :: tables_1
/-- a 'code' word, met by the world's own term for the bytes: nothing is compared byte by byte -/
theorem code_word {y : MethodName} {bytes : ByteArray} {mx : Nat} {rt : Option FieldType} {a : Array Value} {s : State} {m : MethodId} {meth : Method} {c : Code} (h1 : s.methodNamed? y = some m) (h2 : s.vm.method? m = some meth) (h3 : meth.code = some c) (h4 : c.code = bytes)
    (h5 : (c.maxLocals == mx && c.exceptionTable.isEmpty && decide (c.maxStack ≤ mostOperands) && decide (meth.sig.returnType = rt) && !meth.locks && decide (parseMethodDescriptor y.desc = some meth.sig)) = true) : (Jvm.Cond.code y bytes mx rt).before a s = true := by
  simp only [Bool.and_eq_true, beq_iff_eq, Bool.not_eq_true', decide_eq_true_eq] at h5
  obtain ⟨⟨⟨⟨⟨g1, g2⟩, g3⟩, g4⟩, g5⟩, g6⟩ := h5
  simp [Cond.before, Cond.holds, Cond.value, h1, h2, h3, h4, g1, g2, g3, g4, g5, g6]
def isCode : Jvm.Cond → Bool
  | .code _ _ _ _ => true
  | _ => false
theorem all_split {L : List Jvm.Cond} {P : Jvm.Cond → Bool} (h1 : L.all (fun c => isCode c || P c) = true) (h2 : ∀ c ∈ L.filter isCode, P c = true) : L.all P = true := by
  refine List.all_eq_true.mpr fun c hc => ?_
  have h := List.all_eq_true.mp h1 c hc
  rcases Bool.eq_false_or_eq_true (isCode c) with hi | hi
  · exact h2 c (List.mem_filter.mpr ⟨hc, hi⟩)
  · simpa [hi] using h
set_option maxRecDepth 65536 in
theorem w_c0 : (Jvm.Cond.code x code maxLocals ret).before args0 about1 = true := code_word (m := ⟨1, 2⟩) (meth := k1m2) (c := k1c2) (by decide +kernel) rfl rfl rfl (by decide +kernel)
set_option maxRecDepth 65536 in
theorem w_c1 : (Jvm.Cond.code ({ cls := "com/example/porthcurno/porthcurno/core/SelectorExpression$Relation", name := "holds", desc := "(I)Z" } : Jvm.MethodName) prog_36_method_5_code (2 : Nat) (Option.some Jvm.ClassFile.FieldType.boolean)).before args0 about1 = true := code_word (m := ⟨6, 0⟩) (meth := k6m0) (c := k6c0) (by decide +kernel) rfl rfl rfl (by decide +kernel)
set_option maxRecDepth 65536 in
theorem w_c2 : (Jvm.Cond.code ({ cls := "java/lang/Enum", name := "ordinal", desc := "()I" } : Jvm.MethodName) jdk_37_method_2_code (1 : Nat) (Option.some Jvm.ClassFile.FieldType.int)).before args0 about1 = true := code_word (m := ⟨5, 0⟩) (meth := k5m0) (c := k5c0) (by decide +kernel) rfl rfl rfl (by decide +kernel)
set_option maxRecDepth 65536 in
theorem w_c3 : (Jvm.Cond.code ({ cls := "com/example/porthcurno/porthcurno/core/RelationHoldsPinLaw", name := "expected", desc := "(Ljava/lang/String;I)Z" } : Jvm.MethodName) method_2_code (7 : Nat) (Option.some Jvm.ClassFile.FieldType.boolean)).before args0 about1 = true := code_word (m := ⟨1, 1⟩) (meth := k1m1) (c := k1c1) (by decide +kernel) rfl rfl rfl (by decide +kernel)
set_option maxRecDepth 65536 in
theorem w_c4 : (Jvm.Cond.code ({ cls := "java/lang/String", name := "charAt", desc := "(I)C" } : Jvm.MethodName) jdk_42_method_56_code (2 : Nat) (Option.some Jvm.ClassFile.FieldType.char)).before args0 about1 = true := code_word (m := ⟨9, 2⟩) (meth := k9m2) (c := k9c2) (by decide +kernel) rfl rfl rfl (by decide +kernel)
set_option maxRecDepth 65536 in
theorem w_c5 : (Jvm.Cond.code ({ cls := "java/lang/String", name := "isLatin1", desc := "()Z" } : Jvm.MethodName) jdk_42_method_154_code (1 : Nat) (Option.some Jvm.ClassFile.FieldType.boolean)).before args0 about1 = true := code_word (m := ⟨9, 4⟩) (meth := k9m4) (c := k9c4) (by decide +kernel) rfl rfl rfl (by decide +kernel)
set_option maxRecDepth 65536 in
theorem w_c6 : (Jvm.Cond.code ({ cls := "java/lang/StringLatin1", name := "charAt", desc := "([BI)C" } : Jvm.MethodName) jdk_43_method_2_code (2 : Nat) (Option.some Jvm.ClassFile.FieldType.char)).before args0 about1 = true := code_word (m := ⟨10, 1⟩) (meth := k10m1) (c := k10c1) (by decide +kernel) rfl rfl rfl (by decide +kernel)
set_option maxRecDepth 65536 in
theorem w_c7 : (Jvm.Cond.code ({ cls := "java/lang/String", name := "checkIndex", desc := "(II)V" } : Jvm.MethodName) jdk_42_method_155_code (2 : Nat) (Option.none : Option Jvm.ClassFile.FieldType)).before args0 about1 = true := code_word (m := ⟨9, 5⟩) (meth := k9m5) (c := k9c5) (by decide +kernel) rfl rfl rfl (by decide +kernel)
set_option maxRecDepth 65536 in
theorem w_c8 : (Jvm.Cond.code ({ cls := "jdk/internal/util/Preconditions", name := "checkIndex", desc := "(IILjava/util/function/BiFunction;)I" } : Jvm.MethodName) jdk_41_method_11_code (3 : Nat) (Option.some Jvm.ClassFile.FieldType.int)).before args0 about1 = true := code_word (m := ⟨11, 1⟩) (meth := k11m1) (c := k11c1) (by decide +kernel) rfl rfl rfl (by decide +kernel)
set_option maxRecDepth 65536 in
theorem w_c9 : (Jvm.Cond.code ({ cls := "java/lang/String", name := "length", desc := "()I" } : Jvm.MethodName) jdk_42_method_54_code (1 : Nat) (Option.some Jvm.ClassFile.FieldType.int)).before args0 about1 = true := code_word (m := ⟨9, 1⟩) (meth := k9m1) (c := k9c1) (by decide +kernel) rfl rfl rfl (by decide +kernel)
set_option maxRecDepth 65536 in
theorem w_c10 : (Jvm.Cond.code ({ cls := "java/lang/String", name := "coder", desc := "()B" } : Jvm.MethodName) jdk_42_method_152_code (1 : Nat) (Option.some Jvm.ClassFile.FieldType.byte)).before args0 about1 = true := code_word (m := ⟨9, 3⟩) (meth := k9m3) (c := k9c3) (by decide +kernel) rfl rfl rfl (by decide +kernel)
def codes1 : List Jvm.Cond := [Jvm.Cond.code x code maxLocals ret, Jvm.Cond.code ({ cls := "com/example/porthcurno/porthcurno/core/SelectorExpression$Relation", name := "holds", desc := "(I)Z" } : Jvm.MethodName) prog_36_method_5_code (2 : Nat) (Option.some Jvm.ClassFile.FieldType.boolean), Jvm.Cond.code ({ cls := "java/lang/Enum", name := "ordinal", desc := "()I" } : Jvm.MethodName) jdk_37_method_2_code (1 : Nat) (Option.some Jvm.ClassFile.FieldType.int), Jvm.Cond.code ({ cls := "com/example/porthcurno/porthcurno/core/RelationHoldsPinLaw", name := "expected", desc := "(Ljava/lang/String;I)Z" } : Jvm.MethodName) method_2_code (7 : Nat) (Option.some Jvm.ClassFile.FieldType.boolean), Jvm.Cond.code ({ cls := "java/lang/String", name := "charAt", desc := "(I)C" } : Jvm.MethodName) jdk_42_method_56_code (2 : Nat) (Option.some Jvm.ClassFile.FieldType.char), Jvm.Cond.code ({ cls := "java/lang/String", name := "isLatin1", desc := "()Z" } : Jvm.MethodName) jdk_42_method_154_code (1 : Nat) (Option.some Jvm.ClassFile.FieldType.boolean), Jvm.Cond.code ({ cls := "java/lang/StringLatin1", name := "charAt", desc := "([BI)C" } : Jvm.MethodName) jdk_43_method_2_code (2 : Nat) (Option.some Jvm.ClassFile.FieldType.char), Jvm.Cond.code ({ cls := "java/lang/String", name := "checkIndex", desc := "(II)V" } : Jvm.MethodName) jdk_42_method_155_code (2 : Nat) (Option.none : Option Jvm.ClassFile.FieldType), Jvm.Cond.code ({ cls := "jdk/internal/util/Preconditions", name := "checkIndex", desc := "(IILjava/util/function/BiFunction;)I" } : Jvm.MethodName) jdk_41_method_11_code (3 : Nat) (Option.some Jvm.ClassFile.FieldType.int), Jvm.Cond.code ({ cls := "java/lang/String", name := "length", desc := "()I" } : Jvm.MethodName) jdk_42_method_54_code (1 : Nat) (Option.some Jvm.ClassFile.FieldType.int), Jvm.Cond.code ({ cls := "java/lang/String", name := "coder", desc := "()B" } : Jvm.MethodName) jdk_42_method_152_code (1 : Nat) (Option.some Jvm.ClassFile.FieldType.byte)]
set_option maxRecDepth 65536 in
theorem codes_eq : words1.filter isCode = codes1 := rfl
theorem w_codes : ∀ c ∈ words1.filter isCode, c.before args0 about1 = true := by
  rw [codes_eq]
  intro c hc
  simp only [codes1, List.mem_cons, List.not_mem_nil, or_false] at hc
  rcases hc with rfl | rfl | rfl | rfl | rfl | rfl | rfl | rfl | rfl | rfl | rfl
  · exact w_c0
  · exact w_c1
  · exact w_c2
  · exact w_c3
  · exact w_c4
  · exact w_c5
  · exact w_c6
  · exact w_c7
  · exact w_c8
  · exact w_c9
  · exact w_c10
set_option maxRecDepth 65536 in
theorem w_t1 : (words1.take 24).all (fun c => isCode c || c.before args0 about1) = true := by decide +kernel
set_option maxRecDepth 65536 in
theorem w_t2 : ((words1.drop 24).take 24).all (fun c => isCode c || c.before args0 about1) = true := by decide +kernel
set_option maxRecDepth 65536 in
theorem w_t3 : (((words1.drop 24).drop 24).take 24).all (fun c => isCode c || c.before args0 about1) = true := by decide +kernel
set_option maxRecDepth 65536 in
theorem w_t4 : (((words1.drop 24).drop 24).drop 24).all (fun c => isCode c || c.before args0 about1) = true := by decide +kernel
theorem w_tables : (allAtoms (Jvm.Cond.code x code maxLocals ret :: tables_1)).before args0 about1 = true := by
  rw [allAtoms_all]
  show words1.all (fun c => c.before args0 about1) = true
  refine all_split ?_ w_codes
  rw [← List.take_append_drop 24 words1, List.all_append, w_t1, ← List.take_append_drop 24 (words1.drop 24), List.all_append, w_t2, ← List.take_append_drop 24 ((words1.drop 24).drop 24), List.all_append, w_t3, w_t4]
  rfl
set_option maxRecDepth 65536 in
theorem w_rest : rest_1_c.before args0 about1 = true := by decide +kernel
set_option maxRecDepth 65536 in
theorem w_case : (Jvm.Cond.and given_1 narrow_1).before args0 about1 = true := by decide +kernel
theorem w_applies : (headSpec (Jvm.Cond.code x code maxLocals ret :: tables_1) room_1).applies x e0.platform about1 = true :=
  (Spec.applies_iff w_frames).mpr ⟨w_running, w_runnable, w_alone, w_named, w_hears, w_ripe, w_room, w_tables⟩
theorem atStart : AtStart classFile x code maxLocals ret World_1 tables_1 room_1 Calls_1 rest_1 Pre_1 launch0 p0 e0 about1 theMethod args0 below0 :=
  ⟨lists_1, trivial, launch0.admits_env _ _ _, launch0.least_env, fairChoices_fair.cas, fairChoices_fair.clock, w_frames, w_args, w_heap, w_applies, trivial, w_rest, w_case⟩
end start1
theorem witness_1 : WitnessClaimed_1 := ⟨start1.p0, start1.e0, start1.about1, start1.theMethod, start1.args0, start1.below0, start1.atStart⟩
end Jvm.Pilot.@@N@@
