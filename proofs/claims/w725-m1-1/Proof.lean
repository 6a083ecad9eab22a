import JvmDerived
import JvmDerived.Pilot.@@N@@Statement
import JvmDerived.Pilot.@@N@@Code
set_option linter.unusedVariables false
set_option linter.unusedSimpArgs false
namespace Jvm.Pilot.@@N@@
open Jvm Jvm.ClassFile Sem Op Lib Jvm.Free Jvm.Stand Jvm.LawKit Jvm.RoadKit Bundle Jvm.Pilot.@@N@@.Jvm.D
section OwnKit
variable {p : Program} {l : Launch} {e : Env} {R : Room} {s : State} {m : MethodId} {args : Array Value} {below : List Frame} {meth : Method} {c : Code} {T : State} {locs : List Loc} {cells slots : Nat} {Z : State} {a0 : Array Value} {h h0 : Heap}
/-- the run comes from S to an end of which Q speaks -/
def Gl (p : Program) (e : Env) (below : List Frame) (s : State) (Q : Option Value → Heap → List Loc → Prop) (cc kk : Nat) (S : State) : Prop :=
  ∃ t o, Steps p.tables e below S t ∧ t.status = .running ∧ Ended t below o ∧ ∃ v L, o = .returned v ∧ Q v t.heap L ∧ FrameEnd s o t L cc kk
theorem Gl.pre {Q : Option Value → Heap → List Loc → Prop} {cc kk : Nat} {S S' : State} (st : ∀ t, Steps p.tables e below S' t → Steps p.tables e below S t) (k : Gl p e below s Q cc kk S') : Gl p e below s Q cc kk S := by
  obtain ⟨t, o, h1, h2⟩ := k
  exact ⟨t, o, st _ h1, h2⟩
theorem Gl.ret {Q : Option Value → Heap → List Loc → Prop} {cc kk : Nat} {S : State} (X : Stand p l e R s m args below meth c T locs cells slots) {v : Option Value} (hv : meth.sig.returnType = none → v = none) (hlocks : meth.locks = false) (hQ : Q v T.heap locs) (hc : cells ≤ cc) (hk : slots ≤ kk)
    (st : ∀ fs, (∀ (f : JFrame) (acts : List Action), f.method = m → f.locked = none → f.entered = [] → (doReturn e (T.setTop f) acts v).1 = T.setFrames fs) → Steps p.tables e below S (T.setFrames fs)) : Gl p e below s Q cc kk S := by
  obtain ⟨fs, hr, hrun, hended, hW, hsame⟩ := X.leave (v := v) hv hlocks
  exact ⟨_, _, st fs hr, hrun, hended, _, _, rfl, hQ, ⟨_, rfl⟩, hW, hsame.mono hc hk⟩
theorem Gl.fin {Q : Option Value → Heap → List Loc → Prop} {cc kk : Nat} {S : State} (X : Stand p l e R s m args below meth c T locs cells slots) {v : Option Value} (hv : meth.sig.returnType = none → v = none) (hlocks : meth.locks = false) (hQ : Q v h locs) (eT : T.heap = h) (hc : cells ≤ cc) (hk : slots ≤ kk)
    (st : ∀ fs, (∀ (f : JFrame) (acts : List Action), f.method = m → f.locked = none → f.entered = [] → (doReturn e (T.setTop f) acts v).1 = T.setFrames fs) → Steps p.tables e below S (T.setFrames fs)) : Gl p e below s Q cc kk S :=
  Gl.ret X hv hlocks (by rw [eT]; exact hQ) hc hk st
abbrev OMet (l : Launch) (Z : State) (y : MethodName) (bytes : ByteArray) (maxL : Nat) (ret : Option FieldType) (ws : List Jvm.Cond) (rm : Room) (as' : Array Value) (h0 : Heap) (Q : Option Value → Heap → List Loc → Prop) : Prop :=
  MetFree l y (head1 (Jvm.Cond.code y bytes maxL ret :: ws) rm) (fun a U => a = as' ∧ Z.Warmed39 U.vm ∧ U.heap = h0) (fun _ _ _ _ _ => True) (fun _ U o U' => ∃ v L, o = .returned v ∧ Q v U'.heap L ∧ FrameEnd U o U' L rm.cells rm.slots)
theorem own_body {y : MethodName} {bytes : ByteArray} {maxL : Nat} {ret : Option FieldType} {ws : List Jvm.Cond} {rm : Room} {as' : Array Value} {Q : Option Value → Heap → List Loc → Prop} (hx : plainFor y = true)
    (H : ∀ p e s m below meth c s₁, BodyLoose p l y (head1 (Jvm.Cond.code y bytes maxL ret :: ws) rm) bytes maxL ret e s m as' below meth c s₁ → c.maxLocals = maxL → Z.Warmed39 s.vm → s₁.heap = h0 → Gl p e below s Q rm.cells rm.slots (s₁.setTop (entryFrame m as' maxL))) :
    OMet l Z y bytes maxL ret ws rm as' h0 Q := by
  refine MetFree.of_bodySF hx hisR ?_
  intro p e s m args below meth c s₁ Bd hml0 hP hK
  obtain ⟨rfl, hZ, hh⟩ := hP
  exact H p e s m below meth c s₁ Bd hml0 hZ (by rw [← hh, Bd.state]; rfl)
/-- an int is returned -/
theorem own_retI (X : Stand p l e R s m args below meth c T locs cells slots) (hx : p.tables.exec = Jvm.exec) {pc : Nat} {Ls : Array Slot} {z : Int32} {rest : List Value} (hret : meth.sig.returnType = some .int) (hd : decode c.code pc = .ok (.ireturn, 1)) {fs : List Frame}
    (hl : ∀ (f : JFrame) (acts : List Action), f.method = m → f.locked = none → f.entered = [] → (doReturn e (T.setTop f) acts (some (.int z))).1 = T.setFrames fs) : Steps p.tables e below (T.setTop (mkF m pc Ls (.int z :: rest))) (T.setFrames fs) :=
  retOut X hx hret rfl (Or.inl ⟨rfl, Or.inl rfl, z, rfl⟩) hd hl
theorem own_retJ (X : Stand p l e R s m args below meth c T locs cells slots) (hx : p.tables.exec = Jvm.exec) {pc : Nat} {Ls : Array Slot} {z : Int64} {rest : List Value} (hret : meth.sig.returnType = some .long) (hd : decode c.code pc = .ok (.lreturn, 1)) {fs : List Frame}
    (hl : ∀ (f : JFrame) (acts : List Action), f.method = m → f.locked = none → f.entered = [] → (doReturn e (T.setTop f) acts (some (.long z))).1 = T.setFrames fs) : Steps p.tables e below (T.setTop (mkF m pc Ls (.long z :: rest))) (T.setFrames fs) :=
  retOut X hx hret rfl (Or.inr (Or.inl ⟨rfl, rfl, z, rfl⟩)) hd hl
theorem own_retD (X : Stand p l e R s m args below meth c T locs cells slots) (hx : p.tables.exec = Jvm.exec) {pc : Nat} {Ls : Array Slot} {z : UInt64} {rest : List Value} (hret : meth.sig.returnType = some .double) (hd : decode c.code pc = .ok (.dreturn, 1)) {fs : List Frame}
    (hl : ∀ (f : JFrame) (acts : List Action), f.method = m → f.locked = none → f.entered = [] → (doReturn e (T.setTop f) acts (some (.double z))).1 = T.setFrames fs) : Steps p.tables e below (T.setTop (mkF m pc Ls (.double z :: rest))) (T.setFrames fs) :=
  retOut X hx hret rfl (Or.inr (Or.inr (Or.inl ⟨rfl, rfl, z, rfl⟩))) hd hl
theorem own_retR (X : Stand p l e R s m args below meth c T locs cells slots) (hx : p.tables.exec = Jvm.exec) {pc : Nat} {Ls : Array Slot} {w : Value} {t : FieldType} {rest : List Value} (hret : meth.sig.returnType = some t) (ht : t.isReference = true) (hn : narrow t w = w) (hw : w.isRef = true) (hd : decode c.code pc = .ok (.areturn, 1)) {fs : List Frame}
    (hl : ∀ (f : JFrame) (acts : List Action), f.method = m → f.locked = none → f.entered = [] → (doReturn e (T.setTop f) acts (some w)).1 = T.setFrames fs) : Steps p.tables e below (T.setTop (mkF m pc Ls (w :: rest))) (T.setFrames fs) :=
  retOut X hx hret hn (Or.inr (Or.inr (Or.inr (Or.inr ⟨rfl, ht, hw⟩)))) hd hl
/-- a static method by its contract -/
theorem own_callS (X : Stand p l e R s m args below meth c T locs cells slots) (hx : p.tables.exec = Jvm.exec) (hZ : Z.Warmed39 s.vm) {own : String} {index : Nat} {y : MethodName} {bytes : ByteArray} {maxL : Nat} {ret : Option FieldType} {rm : Room} {Q : Option Value → Heap → List Loc → Prop}
    (hown : s.vm.findClass own = some m.cls) (w1 : (Jvm.Cond.methodLink own index y).before a0 Z = true) (w2 : (Jvm.Cond.static y).before a0 Z = true) (w3 : (Jvm.Cond.initialized y.cls).before a0 Z = true) (w4 : (Jvm.Cond.code y bytes maxL ret).before a0 Z = true)
    (hy : y.cls ≠ "java/lang/invoke/MethodHandle" ∧ y.cls ≠ "java/lang/invoke/VarHandle") {argsL rest : List Value} (hM : OMet l Z y bytes maxL ret [] rm argsL.toArray h Q) {W : Nat} (hf : rm.frames + 1 ≤ R.frames) (hl : W + (maxL + 11) + rm.locals ≤ R.locals) (hc : cells + rm.cells ≤ R.cells) (hs : slots + rm.slots ≤ R.slots)
    (eT : T.heap = h) {pc : Nat} {Ls : Array Slot} (hsize : Ls.size = c.maxLocals) (hlen : ∀ sig, parseMethodDescriptor y.desc = some sig → argsL.length = sig.parameters.length) (hW : (rest.map fun v => v.category).sum ≤ W) (hd : decode c.code pc = .ok (.invokestatic index, 3)) :
    ∃ (v : Option Value) (T' : State) (L : List Loc), Stand p l e R s m args below meth c T' (locs ++ L) (cells + rm.cells) (slots + rm.slots) ∧ Q v T'.heap L ∧
      ∀ t, Steps p.tables e below (T'.setTop (mkF m (pc + 3) Ls (v.toList ++ rest))) t → Steps p.tables e below (T.setTop (mkF m pc Ls (argsL.reverse ++ rest))) t := by
  obtain ⟨v, _, ⟨T', L', k', n'⟩, -, X', ⟨L, hQ, hl', hy', hz'⟩, st⟩ := Jvm.LawKit.callS X hx (y := y) hown (mvT hZ w1) (mvT hZ w2) (mvT hZ w3) (mvT hZ w4) hy (backOf (W := W) hM hZ w4 w3 hf hl) (g := mkF m pc Ls (argsL.reverse ++ rest)) rfl hsize (argsL := argsL) (rest := rest) hlen rfl (by show 2 * 0 + _ ≤ _; omega) hd (fun _ _ => ⟨rfl, eT, hc, hs⟩)
  dsimp only [Pt.U, Pt.locs, Pt.cells, Pt.slots] at X' hl' hy' hz' st hQ
  subst hl' hy' hz'
  exact ⟨v, T', L, X', hQ, st⟩
/-- a constructor by its contract -/
theorem own_callI (X : Stand p l e R s m args below meth c T locs cells slots) (hx : p.tables.exec = Jvm.exec) (hZ : Z.Warmed39 s.vm) {own : String} {index : Nat} {y : MethodName} {bytes : ByteArray} {maxL : Nat} {rm : Room} {Q : Option Value → Heap → List Loc → Prop} (hy1 : y.name = "<init>")
    (hown : s.vm.findClass own = some m.cls) (w1 : (Jvm.Cond.methodLink own index y).before a0 Z = true) (w2 : (Jvm.Cond.instanceMethod y).before a0 Z = true) (w3 : (Jvm.Cond.initialized y.cls).before a0 Z = true) (w4 : (Jvm.Cond.code y bytes maxL none).before a0 Z = true)
    (hy : y.cls ≠ "java/lang/invoke/MethodHandle" ∧ y.cls ≠ "java/lang/invoke/VarHandle") {a : Addr} {argsL rest : List Value} (hM : OMet l Z y bytes maxL none [] rm (.ref a :: argsL).toArray h Q) {W : Nat} (hf : rm.frames + 1 ≤ R.frames) (hl : W + (maxL + 11) + rm.locals ≤ R.locals) (hc : cells + rm.cells ≤ R.cells) (hs : slots + rm.slots ≤ R.slots)
    (eT : T.heap = h) {pc : Nat} {Ls : Array Slot} (hsize : Ls.size = c.maxLocals) (hlen : ∀ sig, parseMethodDescriptor y.desc = some sig → argsL.length = sig.parameters.length) (hW : (rest.map fun v => v.category).sum ≤ W) (hd : decode c.code pc = .ok (.invokespecial index, 3)) :
    ∃ (v : Option Value) (T' : State) (L : List Loc), Stand p l e R s m args below meth c T' (locs ++ L) (cells + rm.cells) (slots + rm.slots) ∧ Q v T'.heap L ∧
      ∀ t, Steps p.tables e below (T'.setTop (mkF m (pc + 3) Ls (v.toList ++ rest))) t → Steps p.tables e below (T.setTop (mkF m pc Ls (argsL.reverse ++ .ref a :: rest))) t := by
  obtain ⟨v, _, ⟨T', L', k', n'⟩, -, X', ⟨L, hQ, hl', hy', hz'⟩, st⟩ := X.specialBack hx (y := y) hy1 hown (mvT hZ w1) (mvT hZ w2) (mvT hZ w4) hy (backOf (W := W) hM hZ w4 w3 hf hl) (g := mkF m pc Ls (argsL.reverse ++ .ref a :: rest)) rfl hsize (Steps.refl _) (a := a) (argsL := argsL) (rest := rest) hlen rfl (by show 2 * 0 + _ ≤ _; omega) hd (fun _ _ => ⟨rfl, eT, hc, hs⟩)
  dsimp only [Pt.U, Pt.locs, Pt.cells, Pt.slots] at X' hl' hy' hz' st hQ
  subst hl' hy' hz'
  exact ⟨v, T', L, X', hQ, fun t k => st.trans k⟩
/-- an instance method by its contract, the receiver's class known -/
theorem own_callV (X : Stand p l e R s m args below meth c T locs cells slots) (hx : p.tables.exec = Jvm.exec) (hZ : Z.Warmed39 s.vm) {own C : String} {index : Nat} {y z : MethodName} {bytes : ByteArray} {maxL : Nat} {ret : Option FieldType} {rm : Room} {Q : Option Value → Heap → List Loc → Prop}
    (hown : s.vm.findClass own = some m.cls) (w1 : (Jvm.Cond.methodLink own index y).before a0 Z = true) (wd : (Jvm.Cond.declares y).before a0 Z = true) (hnf : NotFace s y) (ws : (Jvm.Cond.selects C y z).before a0 Z = true) (w2 : (Jvm.Cond.instanceMethod z).before a0 Z = true) (w3 : (Jvm.Cond.initialized z.cls).before a0 Z = true) (w4 : (Jvm.Cond.code z bytes maxL ret).before a0 Z = true)
    (hy : y.cls ≠ "java/lang/invoke/MethodHandle" ∧ y.cls ≠ "java/lang/invoke/VarHandle") {a : Addr} (E : Exa Z h a C) {argsL rest : List Value} (hM : OMet l Z z bytes maxL ret [] rm (.ref a :: argsL).toArray h Q) {W : Nat} (hf : rm.frames + 1 ≤ R.frames) (hl : W + (maxL + 11) + rm.locals ≤ R.locals) (hc : cells + rm.cells ≤ R.cells) (hs : slots + rm.slots ≤ R.slots)
    (eT : T.heap = h) {pc : Nat} {Ls : Array Slot} (hsize : Ls.size = c.maxLocals) (hlen : ∀ sig, parseMethodDescriptor y.desc = some sig → argsL.length = sig.parameters.length) (hW : (rest.map fun v => v.category).sum ≤ W) (hd : decode c.code pc = .ok (.invokevirtual index, 3)) :
    ∃ (v : Option Value) (T' : State) (L : List Loc), Stand p l e R s m args below meth c T' (locs ++ L) (cells + rm.cells) (slots + rm.slots) ∧ Q v T'.heap L ∧
      ∀ t, Steps p.tables e below (T'.setTop (mkF m (pc + 3) Ls (v.toList ++ rest))) t → Steps p.tables e below (T.setTop (mkF m pc Ls (argsL.reverse ++ .ref a :: rest))) t := by
  obtain ⟨cB, kB, q1, q2, q3⟩ := isOf hZ eT E
  obtain ⟨v, _, ⟨T', L', k', n'⟩, -, X', ⟨L, hQ, hl', hy', hz'⟩, st⟩ := X.virtualBack hx (y := y) (z := z) hown (mvT hZ w1) (mvT hZ wd) hnf (mvT hZ ws) (mvT hZ w2) hy (backOf (W := W) hM hZ w4 w3 hf hl) q1 q3 (g := mkF m pc Ls (argsL.reverse ++ .ref a :: rest)) rfl hsize (Steps.refl _) (argsL := argsL) (rest := rest) hlen rfl (by show 2 * 0 + _ ≤ _; omega) hd (fun _ _ => ⟨rfl, eT, hc, hs⟩)
  dsimp only [Pt.U, Pt.locs, Pt.cells, Pt.slots] at X' hl' hy' hz' st hQ
  subst hl' hy' hz'
  exact ⟨v, T', L, X', hQ, fun t k => st.trans k⟩
/-- an inherited instance method: the link names a class that doesn't declare it -/
theorem own_callU (X : Stand p l e R s m args below meth c T locs cells slots) (hx : p.tables.exec = Jvm.exec) (hZ : Z.Warmed39 s.vm) {own C owner : String} {index : Nat} {y z : MethodName} {bytes : ByteArray} {maxL : Nat} {ret : Option FieldType} {rm : Room} {Q : Option Value → Heap → List Loc → Prop}
    (hown : s.vm.findClass own = some m.cls) (w1 : (Jvm.Cond.methodLink own index y).before a0 Z = true) (wm : (Jvm.Cond.sameMethod y.cls owner y.name y.desc).before a0 Z = true) (wd : (Jvm.Cond.declares ⟨owner, y.name, y.desc⟩).before a0 Z = true) (ws : (Jvm.Cond.selects C y z).before a0 Z = true) (w2 : (Jvm.Cond.instanceMethod z).before a0 Z = true) (w3 : (Jvm.Cond.initialized z.cls).before a0 Z = true) (w4 : (Jvm.Cond.code z bytes maxL ret).before a0 Z = true)
    (hy : owner ≠ "java/lang/invoke/MethodHandle" ∧ owner ≠ "java/lang/invoke/VarHandle") {a : Addr} (E : Exa Z h a C) {argsL rest : List Value} (hM : OMet l Z z bytes maxL ret [] rm (.ref a :: argsL).toArray h Q) {W : Nat} (hf : rm.frames + 1 ≤ R.frames) (hl : W + (maxL + 11) + rm.locals ≤ R.locals) (hc : cells + rm.cells ≤ R.cells) (hs : slots + rm.slots ≤ R.slots)
    (eT : T.heap = h) {pc : Nat} {Ls : Array Slot} (hsize : Ls.size = c.maxLocals) (hlen : ∀ sig, parseMethodDescriptor y.desc = some sig → argsL.length = sig.parameters.length) (hW : (rest.map fun v => v.category).sum ≤ W) (hd : decode c.code pc = .ok (.invokevirtual index, 3)) :
    ∃ (v : Option Value) (T' : State) (L : List Loc), Stand p l e R s m args below meth c T' (locs ++ L) (cells + rm.cells) (slots + rm.slots) ∧ Q v T'.heap L ∧
      ∀ t, Steps p.tables e below (T'.setTop (mkF m (pc + 3) Ls (v.toList ++ rest))) t → Steps p.tables e below (T.setTop (mkF m pc Ls (argsL.reverse ++ .ref a :: rest))) t := by
  obtain ⟨cB, kB, q1, q2, q3⟩ := isOf hZ eT E
  obtain ⟨v, _, ⟨T', L', k', n'⟩, -, X', ⟨L, hQ, hl', hy', hz'⟩, st⟩ := X.virtualBackUp hx (x := y) (y := z) (owner := owner) hown (mvT hZ w1) (mvT hZ wm) (mvT hZ wd) hy (mvT hZ ws) (mvT hZ w2) (backOf (W := W) hM hZ w4 w3 hf hl) q1 q3 (g := mkF m pc Ls (argsL.reverse ++ .ref a :: rest)) rfl hsize (Steps.refl _) (argsL := argsL) (rest := rest) hlen rfl (by show 2 * 0 + _ ≤ _; omega) hd (fun _ _ => ⟨rfl, eT, hc, hs⟩)
  dsimp only [Pt.U, Pt.locs, Pt.cells, Pt.slots] at X' hl' hy' hz' st hQ
  subst hl' hy' hz'
  exact ⟨v, T', L, X', hQ, fun t k => st.trans k⟩
/-- an interface's method by the contract of the body that the receiver's class selects -/
theorem own_callF (X : Stand p l e R s m args below meth c T locs cells slots) (hx : p.tables.exec = Jvm.exec) (hZ : Z.Warmed39 s.vm) {own C : String} {index count : Nat} {y z : MethodName} {bytes : ByteArray} {maxL : Nat} {ret : Option FieldType} {rm : Room} {Q : Option Value → Heap → List Loc → Prop}
    (hown : s.vm.findClass own = some m.cls) (w1 : (Jvm.Cond.methodLink own index y).before a0 Z = true) (wd : (Jvm.Cond.declares y).before a0 Z = true) (wf : (Jvm.Cond.interfaceMethod y.cls y.cls y.name y.desc).before args s = true) (ws : (Jvm.Cond.selects C y z).before a0 Z = true) (w2 : (Jvm.Cond.instanceMethod z).before a0 Z = true) (wp : (Jvm.Cond.publicMethod z).before a0 Z = true) (wu : (Jvm.Cond.unhidden C y.name y.desc).before a0 Z = true) (wc : (Jvm.Cond.castable C y.cls).before a0 Z = true) (w3 : (Jvm.Cond.initialized z.cls).before a0 Z = true) (w4 : (Jvm.Cond.code z bytes maxL ret).before a0 Z = true)
    (hy : y.cls ≠ "java/lang/invoke/MethodHandle" ∧ y.cls ≠ "java/lang/invoke/VarHandle") {a : Addr} (E : Exa Z h a C) {argsL rest : List Value} (hM : OMet l Z z bytes maxL ret [] rm (.ref a :: argsL).toArray h Q) {W : Nat} (hf : rm.frames + 1 ≤ R.frames) (hl : W + (maxL + 11) + rm.locals ≤ R.locals) (hc : cells + rm.cells ≤ R.cells) (hs : slots + rm.slots ≤ R.slots)
    (eT : T.heap = h) {pc : Nat} {Ls : Array Slot} (hsize : Ls.size = c.maxLocals) (hlen : ∀ sig, parseMethodDescriptor y.desc = some sig → argsL.length = sig.parameters.length) (hW : (rest.map fun v => v.category).sum ≤ W) (hd : decode c.code pc = .ok (.invokeinterface index count, 5)) :
    ∃ (v : Option Value) (T' : State) (L : List Loc), Stand p l e R s m args below meth c T' (locs ++ L) (cells + rm.cells) (slots + rm.slots) ∧ Q v T'.heap L ∧
      ∀ t, Steps p.tables e below (T'.setTop (mkF m (pc + 5) Ls (v.toList ++ rest))) t → Steps p.tables e below (T.setTop (mkF m pc Ls (argsL.reverse ++ .ref a :: rest))) t := by
  obtain ⟨cB, kB, q1, q2, q3⟩ := isOf hZ eT E
  obtain ⟨v, _, ⟨T', L', k', n'⟩, -, X', ⟨L, hQ, hl', hy', hz'⟩, st⟩ := X.interfaceBack hx (xi := y) (y := z) hown (mvT hZ w1) (mvT hZ wd) wf (mvT hZ ws) (mvT hZ w2) (mvT hZ wp) (mvT hZ wu) (mvT hZ wc) hy (backOf (W := W) hM hZ w4 w3 hf hl) q1 q2 q3 (g := mkF m pc Ls (argsL.reverse ++ .ref a :: rest)) rfl hsize (Steps.refl _) (argsL := argsL) (rest := rest) hlen rfl (by show 2 * 0 + _ ≤ _; omega) hd (fun _ _ => ⟨rfl, eT, hc, hs⟩)
  dsimp only [Pt.U, Pt.locs, Pt.cells, Pt.slots] at X' hl' hy' hz' st hQ
  subst hl' hy' hz'
  exact ⟨v, T', L, X', hQ, fun t k => st.trans k⟩
theorem own_hc {T : State} {h : Heap} {a : Addr} {cl : Cell} (q : T.heap = h) (r : h[a]? = some cl) : T.heap[a]? = some cl := by rw [q]; exact r
/-- what a Bool is as Java's int -/
def b2i (b : Bool) : Int32 := if b then 1 else 0
theorem b2i_t {b : Bool} (h : b = true) : b2i b = 1 := by simp [b2i, h]
theorem b2i_f {b : Bool} (h : b = false) : b2i b = 0 := by simp [b2i, h]
theorem b2i_inj {a b : Bool} : b2i a = b2i b ↔ a = b := by cases a <;> cases b <;> decide
/-- the branches' conditions in plain words -/
theorem ic_lt (x y : Int32) : if_icmp.holds .lt x y = decide (x < y) := by by_cases q : x < y <;> simp [q, tlt, flt]
theorem ic_ge (x y : Int32) : if_icmp.holds .ge x y = !decide (x < y) := by by_cases q : x < y <;> simp [q, tlt, flt]
theorem ic_gt (x y : Int32) : if_icmp.holds .gt x y = decide (y < x) := by by_cases q : y < x <;> simp [q, tlt, flt]
theorem ic_le (x y : Int32) : if_icmp.holds .le x y = !decide (y < x) := by by_cases q : y < x <;> simp [q, tlt, flt]
theorem ic_eq (x y : Int32) : if_icmp.holds .eq x y = decide (x = y) := by by_cases q : x = y <;> simp [q, teq, feq]
theorem ic_ne (x y : Int32) : if_icmp.holds .ne x y = !decide (x = y) := by by_cases q : x = y <;> simp [q, teq, feq]
theorem i0_lt (x : Int32) : ifCond.holds .lt x = decide (x < 0) := (if0 _ _).trans (ic_lt x 0)
theorem i0_ge (x : Int32) : ifCond.holds .ge x = !decide (x < 0) := (if0 _ _).trans (ic_ge x 0)
theorem i0_gt (x : Int32) : ifCond.holds .gt x = decide (0 < x) := (if0 _ _).trans (ic_gt x 0)
theorem i0_le (x : Int32) : ifCond.holds .le x = !decide (0 < x) := (if0 _ _).trans (ic_le x 0)
theorem i0_eq (x : Int32) : ifCond.holds .eq x = decide (x = 0) := (if0 _ _).trans (ic_eq x 0)
theorem i0_ne (x : Int32) : ifCond.holds .ne x = !decide (x = 0) := (if0 _ _).trans (ic_ne x 0)
theorem lw_lt (x y : Int64) : lcmpW x y < 0 ↔ x < y := by rw [lcW]; exact Jvm.RoadKit.lc_lt x y
theorem lw_gt (x y : Int64) : 0 < lcmpW x y ↔ y < x := by rw [lcW]; exact Jvm.RoadKit.lc_gt x y
theorem lw_eq (x y : Int64) : lcmpW x y = 0 ↔ x = y := by rw [lcW]; exact Jvm.RoadKit.lc_eq x y
theorem l0_lt (x y : Int64) : ifCond.holds .lt (lcmpW x y) = decide (x < y) := (i0_lt _).trans (by simp [lw_lt])
theorem l0_ge (x y : Int64) : ifCond.holds .ge (lcmpW x y) = !decide (x < y) := (i0_ge _).trans (by simp [lw_lt])
theorem l0_gt (x y : Int64) : ifCond.holds .gt (lcmpW x y) = decide (y < x) := (i0_gt _).trans (by simp [lw_gt])
theorem l0_le (x y : Int64) : ifCond.holds .le (lcmpW x y) = !decide (y < x) := (i0_le _).trans (by simp [lw_gt])
theorem l0_eq (x y : Int64) : ifCond.holds .eq (lcmpW x y) = decide (x = y) := (i0_eq _).trans (by simp [lw_eq])
theorem l0_ne (x y : Int64) : ifCond.holds .ne (lcmpW x y) = !decide (x = y) := (i0_ne _).trans (by simp [lw_eq])
theorem b0_eq (b : Bool) : ifCond.holds .eq (b2i b) = !b := by cases b <;> decide
theorem b0_ne (b : Bool) : ifCond.holds .ne (b2i b) = b := by cases b <;> decide
theorem own_t {P : Prop} [Decidable P] {u : Bool} (q : u = decide P) (hp : P) : u = true := by rw [q]; exact decide_eq_true hp
theorem own_f {P : Prop} [Decidable P] {u : Bool} (q : u = decide P) (hp : ¬ P) : u = false := by rw [q]; exact decide_eq_false hp
theorem own_nt {P : Prop} [Decidable P] {u : Bool} (q : u = !decide P) (hp : ¬ P) : u = true := by rw [q]; simp [hp]
theorem own_nf {P : Prop} [Decidable P] {u : Bool} (q : u = !decide P) (hp : P) : u = false := by rw [q]; simp [hp]
theorem own_bt {u b : Bool} (q : u = b) (hp : b = true) : u = true := q.trans hp
theorem own_bf {u b : Bool} (q : u = b) (hp : b = false) : u = false := q.trans hp
theorem own_nbt {u b : Bool} (q : u = !b) (hp : b = false) : u = true := by rw [q, hp]; rfl
theorem own_nbf {u b : Bool} (q : u = !b) (hp : b = true) : u = false := by rw [q, hp]; rfl
theorem own_retN (X : Stand p l e R s m args below meth c T locs cells slots) (hx : p.tables.exec = Jvm.exec) {pc : Nat} {Ls : Array Slot} {z z' : Int32} {t : FieldType} {rest : List Value} (hret : meth.sig.returnType = some t) (ht : t = .boolean ∨ t = .byte ∨ t = .char ∨ t = .short) (hn : nar t z = z')
    (hd : decode c.code pc = .ok (.ireturn, 1)) {fs : List Frame} (hl : ∀ (f : JFrame) (acts : List Action), f.method = m → f.locked = none → f.entered = [] → (doReturn e (T.setTop f) acts (some (.int z'))).1 = T.setFrames fs) :
    Steps p.tables e below (T.setTop (mkF m pc Ls (.int z :: rest))) (T.setFrames fs) := by
  subst hn
  exact retN X hx hret ht hd hl
theorem own_nar_b2i (b : Bool) : nar .boolean (b2i b) = b2i b := by cases b <;> decide
theorem own_narrow_b2i (b : Bool) : narrow .boolean (.int (b2i b)) = .int (b2i b) := by cases b <;> rfl
theorem own_fits_b2i (b : Bool) : fits .boolean (.int (b2i b)) = true := by cases b <;> rfl
theorem own_nar_i2b (x : Int32) : nar .byte x.toInt8.toInt32 = x.toInt8.toInt32 := by simp [nar]
theorem own_lrem (x y : Int64) : x - x / y * y = x % y := by
  apply Int64.toInt_inj.mp
  have h1 := Int64.le_toInt (x % y)
  have h2 := Int64.toInt_lt (x % y)
  have e : x.toInt - y.toInt * x.toInt.tdiv y.toInt = x.toInt.tmod y.toInt := (Int.tmod_def _ _).symm
  rw [Int64.toInt_sub, Int64.toInt_mul, Int64.toInt_div, Int.bmod_mul_bmod, Int.sub_bmod_bmod, Int.mul_comm (x.toInt.tdiv y.toInt), e, ← Int64.toInt_mod]
  exact Int.bmod_eq_of_le_mul_two (by omega) (by omega)
/-- getfield by an entry that is resolved already -/
theorem own_getFR (X : Stand p l e R s m args below meth c T locs cells slots) (hx : p.tables.exec = Jvm.exec) (hZ : Z.Warmed39 s.vm) {own O n d : String} {index : Nat} (hown : s.vm.findClass own = some m.cls) (w : (Jvm.Cond.fieldRef own index O n d).before a0 Z = true)
    (eT : T.heap = h) {a : Addr} {v : Value} (F : Fld Z h a O n d v) {g : JFrame} (hg : g.method = m) {rest : List Value} (hs : g.stack = .ref a :: rest) (hd : decode c.code g.pc = .ok (.getfield index, 3)) : ∃ T', Stand p l e R s m args below meth c T' locs cells slots ∧ T'.heap = h ∧ ∀ target, Steps p.tables e below (T'.setTop { g with pc := g.pc + 3, stack := v :: rest }) target → Steps p.tables e below (T.setTop g) target := by
  have hZT : Z.Warmed39 T.vm := wtrans hZ X.warmed
  have w' := Cond.fieldRef_warmed39 hZT w
  have hcur : (Z.setVm T.vm).vm.findClass own = some m.cls := (X.warmed.alike.findClass own _).trans hown
  obtain ⟨c', k', i', f', h1, hready⟩ := Cond.fieldRef_spec (s := Z.setVm T.vm) hcur w'
  obtain ⟨cell, cf, k, i, f, g1, g2, g3, g4, -, -, g7⟩ := F
  obtain ⟨k2, hi, -⟩ := State.fieldFound?_setVm (s := Z) hZT.alike g2
  have q := Option.some.inj (h1.symm.trans hi)
  simp only [Prod.mk.injEq] at q
  obtain ⟨rfl, -, -, rfl⟩ := q
  exact ⟨T, X, eT, fun target kt => (X.getfieldR hx hg hready g3 hs (by rw [eT]; exact g1) g4 g7 hd (Steps.refl _)).trans kt⟩
/-- the case's words on statics and fields, at the start -/
theorem own_sx {C n d K : String} (w1 : (Jvm.Cond.initialized C).before args s = true) (w2 : (Jvm.Cond.laysStatic C n d).before args s = true) (q : (Jvm.Cond.exactly (Term.static C n d) K).value args s none s [] = some true) : ∃ a : Addr, (Term.static C n d).eval args s none [] s = some (.ref a) ∧ Sta s s.heap C n d (.ref a) ∧ Exa s s.heap a K := by
  obtain ⟨a, ev⟩ := exa_v q
  exact ⟨a, ev, Sta.start ev (Or.inr ⟨w1, w2⟩), Exa.start ev q⟩
theorem own_fi {t : Term} {a : Addr} {C n d : String} {k : Int32} (ev : t.eval args s none [] s = some (.ref a)) (q : (Jvm.Cond.eq (Term.field t C n d) (Term.int k)).value args s none s [] = some true) : Fld s s.heap a C n d (.int k) := by
  obtain ⟨x, y, h1, h2, h3, h4⟩ := cmp_v (Or.inl q)
  have h5 : y = .int k := (Option.some.inj (h2.symm.trans (Term.int_eval k)) : _)
  subst h5
  obtain ⟨z, rfl⟩ : ∃ z, x = .int z := h4
  have e2 := h1
  rw [fld_at ev] at h1
  simp [Cond.value, e2, h2] at q
  subst q
  exact Fld.start h1
theorem own_fx {t : Term} {a : Addr} {C n d K : String} (ev : t.eval args s none [] s = some (.ref a)) (q : (Jvm.Cond.exactly (Term.field t C n d) K).value args s none s [] = some true) : ∃ b : Addr, (Term.field t C n d).eval args s none [] s = some (.ref b) ∧ Fld s s.heap a C n d (.ref b) ∧ Exa s s.heap b K := by
  obtain ⟨b, ev2⟩ := exa_v q
  exact ⟨b, ev2, Fld.start ((fld_at ev).symm.trans ev2), Exa.start ev2 q⟩
/-- a class that the chain of superclasses doesn't meet: its own word is 'instantiable' -/
theorem own_ns_root {Z : State} {a0 : Array Value} {O K : String} {n : Nat} (w : (Jvm.Cond.noSuperclass O).before a0 Z = true) (wi : (Jvm.Cond.instantiable K n).before a0 Z = true) (hn : O ≠ K) : NS Z O K := by
  obtain ⟨c, k, h1, h2, h3, -, -⟩ := Cond.noSuperclass_spec w
  obtain ⟨t, kt, g1, -⟩ := Cond.instantiable_spec wi
  have ne := ids_ne h1 g1 hn
  refine ⟨c, t, h1, g1, fun fuel => ?_⟩
  cases fuel with
  | zero => rfl
  | succ f => simp [Vm.isSubclassAux, ne, h2, h3]
theorem own_ns_no {Z : State} {a0 : Array Value} {C S K : String} {n : Nat} (w : (Jvm.Cond.superclass C S).before a0 Z = true) (wi : (Jvm.Cond.instantiable K n).before a0 Z = true) (q : NS Z C K) (hn : C ≠ K) : ∃ c t, Z.vm.findClass C = some c ∧ Z.vm.findClass K = some t ∧ Z.vm.assignable c t = false := by
  obtain ⟨c, t, h0, g0, n3⟩ := q
  obtain ⟨p, k, kp, h1, h2, h3, h4, h5, -, h7⟩ := Cond.superclass_spec h0 w
  obtain ⟨t', kt, g1, g2, g3, g4, -, -⟩ := Cond.instantiable_spec wi
  cases g0.symm.trans g1
  have g5 : kt.isInterface = false := by simp only [Bool.or_eq_false_iff] at g4; exact g4.1
  have ne := ids_ne h0 g0 hn
  refine ⟨c, t, h0, g0, ?_⟩
  show Z.vm.assignableAux (255 + 1) c t = false
  simp [Vm.assignableAux, ne, h2, g2, h5, g3, g5, Vm.isSubclass, n3]
/-- a static's cell isn't written by one who writes objects alone -/
theorem own_sta_keep {Z : State} {h h' : Heap} {C n d : String} {v : Value} {ws : List Addr} (F : Sta Z h C n d v) (K : Keep h h' ws) (q : ∀ x ∈ ws, ∃ C', Exa Z h x C') : Sta Z h' C n d v := by
  obtain ⟨cf, i, k, f, st, cell, h1, h2, h3, h4, h5, h6, h7⟩ := F
  refine ⟨cf, i, k, f, st, cell, h1, h2, h3, h4, K.2.1 st cell h5 (fun r => ?_), h6, h7⟩
  obtain ⟨C', c', k', g1, -, -, g4, -⟩ := q st r
  rw [h5] at g1
  cases g1
  rw [h6] at g4
  cases g4
theorem own_ne32 {x y : Int32} (h : x ≠ y) : Value.int x ≠ Value.int y := fun q => h (Value.int.inj q)
end OwnKit
section OwnPriv
variable {p : Program} {l : Launch} {e : Env} {R : Room} {s : State} {m : MethodId} {args : Array Value} {below : List Frame} {meth : Method} {c : Code} {T : State} {locs : List Loc} {cells slots : Nat} {Z : State} {a0 : Array Value} {h h' h0 : Heap}
/-- a private method of the class's own by its contract -/
theorem own_callP (X : Stand p l e R s m args below meth c T locs cells slots) (hx : p.tables.exec = Jvm.exec) (hZ : Z.Warmed39 s.vm) {own : String} {index n : Nat} {y : MethodName} {bytes : ByteArray} {maxL : Nat} {ret : Option FieldType} {rm : Room} {Q : Option Value → Heap → List Loc → Prop}
    (hown : s.vm.findClass own = some m.cls) (w1 : (Jvm.Cond.methodLink own index y).before a0 Z = true) (w2 : (Jvm.Cond.instanceMethod y).before a0 Z = true) (wp : (Jvm.Cond.privateMethod y).before a0 Z = true) (w3 : (Jvm.Cond.initialized y.cls).before a0 Z = true) (wn : (Jvm.Cond.instantiable y.cls n).before a0 Z = true) (w4 : (Jvm.Cond.code y bytes maxL ret).before a0 Z = true)
    (hy : y.cls ≠ "java/lang/invoke/MethodHandle" ∧ y.cls ≠ "java/lang/invoke/VarHandle") {a : Addr} {C : String} (E : Exa Z h a C) {argsL rest : List Value} (hM : OMet l Z y bytes maxL ret [] rm (.ref a :: argsL).toArray h Q) {W : Nat} (hf : rm.frames + 1 ≤ R.frames) (hl : W + (maxL + 11) + rm.locals ≤ R.locals) (hc : cells + rm.cells ≤ R.cells) (hs : slots + rm.slots ≤ R.slots)
    (eT : T.heap = h) {pc : Nat} {Ls : Array Slot} (hsize : Ls.size = c.maxLocals) (hlen : ∀ sig, parseMethodDescriptor y.desc = some sig → argsL.length = sig.parameters.length) (hW : (rest.map fun v => v.category).sum ≤ W) (hd : decode c.code pc = .ok (.invokevirtual index, 3)) :
    ∃ (v : Option Value) (T' : State) (L : List Loc), Stand p l e R s m args below meth c T' (locs ++ L) (cells + rm.cells) (slots + rm.slots) ∧ Q v T'.heap L ∧
      ∀ t, Steps p.tables e below (T'.setTop (mkF m (pc + 3) Ls (v.toList ++ rest))) t → Steps p.tables e below (T.setTop (mkF m pc Ls (argsL.reverse ++ .ref a :: rest))) t := by
  have hK : Back l R p e below s args y 3 W (fun A as => as = (.ref a :: argsL).toArray ∧ A.U.heap = h ∧ A.cells + rm.cells ≤ R.cells ∧ A.slots + rm.slots ≤ R.slots)
      (fun A _ v B => ∃ L, Q v B.U.heap L ∧ B.locs = A.locs ++ L ∧ B.cells = A.cells + rm.cells ∧ B.slots = A.slots + rm.slots) :=
    backOf (W := W) hM hZ w4 w3 hf hl
  have hinst : (Jvm.Cond.instanceMethod y).before args s = true := mvT hZ w2
  obtain ⟨mk, methM, hnamed, hmethM, hstM, habM⟩ := Cond.instanceMethod_spec hinst
  have hcode : (Jvm.Cond.code y bytes maxL ret).before args s = true := mvT hZ w4
  have hpriv := Cond.privateMethod_at (mvP hZ wp (args := #[]))
  obtain ⟨cN, kN, n1, n2, n3, n4, -, -⟩ := Cond.instantiable_spec (mvT hZ wn : (Jvm.Cond.instantiable y.cls n).before args s = true)
  have hcls := findClass_of_methodNamed hnamed
  cases n1.symm.trans hcls
  have hni : kN.isInterface = false := by simp only [Bool.or_eq_false_iff] at n4; exact n4.1
  obtain ⟨cell, kc, q1, q2, q3, q4, -⟩ := E
  have hselP : selectMethod e.platform s.vm cell.cls mk = .method mk := selectMethod_private hmethM (hpriv mk methM hnamed hmethM)
  obtain ⟨meth', c', g1, -, -, -, -, -, -, g8⟩ := Cond.code_spec hnamed hcode
  cases hmethM.symm.trans g1
  have hsigM : parseMethodDescriptor y.desc = some methM.sig := g8
  obtain ⟨vm₁, X₁, hstep₁⟩ := X.invokevirtual hx hown (mvT hZ w1) hnamed hmethM hstM n2 hni hy (a := a) (cell := cell) (by rw [eT]; exact q1) (fun q r => by rw [r] at q4; cases q4) hselP hmethM habM n2 hni (g := mkF m pc Ls (argsL.reverse ++ .ref a :: rest)) rfl (argsL := argsL) (rest := rest) (hlen _ hsigM) rfl hd
  obtain ⟨v, ⟨T', L', k', n'⟩, X', ⟨L, hQ, hl', hy', hz'⟩, hsteps⟩ := hK m meth c ⟨T.setVm vm₁, locs, cells, slots⟩ (mkF m pc Ls rest) (.invokevirtual index) mk (.ref a :: argsL).toArray X₁ rfl hsize hd (by show 2 * 0 + (rest.map fun v => v.category).sum ≤ W; omega) (X₁.named hnamed) ⟨rfl, eT, hc, hs⟩
  dsimp only [Pt.U, Pt.locs, Pt.cells, Pt.slots] at X' hl' hy' hz' hsteps hQ
  subst hl' hy' hz'
  exact ⟨v, T', L, X', hQ, fun t k => (hstep₁ _ fun acts => by rw [doInvoke_state]; exact Steps.refl _).trans (hsteps.trans k)⟩
end OwnPriv
theorem own_and31 (p : Int32) : 0 ≤ (p &&& 2147483647).toInt := by
  have h : (p &&& 2147483647).toInt = (p &&& 2147483647).toBitVec.toInt := rfl
  rw [h, Int32.toBitVec_and]
  have e : (2147483647 : Int32).toBitVec = 2147483647#32 := rfl
  rw [e, BitVec.toInt_eq_toNat_cond, BitVec.toNat_and]
  have : p.toBitVec.toNat &&& (2147483647#32).toNat ≤ 2147483647 := Nat.and_le_right
  split <;> omega
theorem own_mod (p n : Int32) (hn : 0 < n.toInt) : 0 ≤ ((p &&& 2147483647) % n).toInt ∧ ((p &&& 2147483647) % n).toInt < n.toInt := by
  rw [Int32.toInt_mod]
  have h := own_and31 p
  rw [Int.tmod_eq_emod_of_nonneg h]
  exact ⟨Int.emod_nonneg _ (by omega), Int.emod_lt_of_pos _ hn⟩
theorem own_mod6 (p : Int32) : (p &&& 2147483647) % 6 = 0 ∨ (p &&& 2147483647) % 6 = 1 ∨ (p &&& 2147483647) % 6 = 2 ∨ (p &&& 2147483647) % 6 = 3 ∨ (p &&& 2147483647) % 6 = 4 ∨ (p &&& 2147483647) % 6 = 5 := by
  have h := own_mod p 6 (by decide)
  have e : (6 : Int32).toInt = 6 := by decide
  rw [e] at h
  simp only [← Int32.toInt_inj]
  have e0 : (0 : Int32).toInt = 0 := by decide
  have e1 : (1 : Int32).toInt = 1 := by decide
  have e2 : (2 : Int32).toInt = 2 := by decide
  have e3 : (3 : Int32).toInt = 3 := by decide
  have e4 : (4 : Int32).toInt = 4 := by decide
  have e5 : (5 : Int32).toInt = 5 := by decide
  rw [e0, e1, e2, e3, e4, e5]
  omega
theorem own_mod3 (p : Int32) : (p &&& 2147483647) % 3 = 0 ∨ (p &&& 2147483647) % 3 = 1 ∨ (p &&& 2147483647) % 3 = 2 := by
  have h := own_mod p 3 (by decide)
  have e : (3 : Int32).toInt = 3 := by decide
  rw [e] at h
  simp only [← Int32.toInt_inj]
  have e0 : (0 : Int32).toInt = 0 := by decide
  have e1 : (1 : Int32).toInt = 1 := by decide
  have e2 : (2 : Int32).toInt = 2 := by decide
  rw [e0, e1, e2]
  omega
section OwnPure
def ixx (i : Fin 3) : Int32 := Int32.ofNat i.val
def enn : Option (Fin 3) → Int32
  | none => (-1)
  | some i => ixx i
def tii (t : Fin 6) : Int32 := Int32.ofNat t.val
abbrev LS : Type := Option (Fin 3) × Option (Fin 3) × (Fin 3 → Option (Fin 3)) × (Fin 3 → Option (Fin 3))
def LS.f (S : LS) : Option (Fin 3) := S.1
def LS.l (S : LS) : Option (Fin 3) := S.2.1
def LS.b (S : LS) : Fin 3 → Option (Fin 3) := S.2.2.1
def LS.a (S : LS) : Fin 3 → Option (Fin 3) := S.2.2.2
theorem LS_f (f l : Option (Fin 3)) (b a : Fin 3 → Option (Fin 3)) : LS.f (f, l, b, a) = f := rfl
theorem LS_l (f l : Option (Fin 3)) (b a : Fin 3 → Option (Fin 3)) : LS.l (f, l, b, a) = l := rfl
theorem LS_b (f l : Option (Fin 3)) (b a : Fin 3 → Option (Fin 3)) : LS.b (f, l, b, a) = b := rfl
theorem LS_a (f l : Option (Fin 3)) (b a : Fin 3 → Option (Fin 3)) : LS.a (f, l, b, a) = a := rfl
def upp {α : Type} (g : Fin 3 → α) (i : Fin 3) (v : α) : Fin 3 → α := fun j => if j = i then v else g j
def linkF (S : LS) (p : Option (Fin 3)) (s : Fin 3) (n : Option (Fin 3)) : LS :=
  (match p with | none => some s | some _ => S.f, match n with | none => some s | some _ => S.l,
    match n with | none => upp S.b s p | some q => upp (upp S.b s p) q (some s), match p with | none => upp S.a s n | some q => upp (upp S.a s n) q (some s))
def kn : Option (Fin 6) → Nat
  | none => 0
  | some t => t.val + 1
def cmF (x y : Option (Fin 6)) : Int32 := if kn x < kn y then (-1) else if kn x = kn y then 0 else 1
def cbF (k : Fin 3 → Option (Fin 6)) (x y : Fin 3) : Bool := decide (0 < cmF (k x) (k y)) || (decide (cmF (k x) (k y) = 0) && decide (ixx x < ixx y))
def lpF (S : LS) (k : Fin 3 → Option (Fin 6)) (s : Fin 3) : Nat → Option (Fin 3) → Option (Fin 3)
  | 0, _ => none
  | _ + 1, none => none
  | n + 1, some c => if cbF k s c = true then lpF S k s n (S.b c) else some c
def addF (S : LS) (k : Fin 3 → Option (Fin 6)) (s : Fin 3) : Option LS :=
  match S.f with
  | none => some (linkF S none s none)
  | some g => if cbF k s g = true then some (linkF S none s (some g)) else
    match lpF S k s 4 S.l with
    | none => none
    | some c => some (linkF S (some c) s (S.a c))
def rem1 (S : LS) (s : Fin 3) : LS :=
  match S.b s with
  | none => ⟨S.a s, S.l, S.b, S.a⟩
  | some p => ⟨S.f, S.l, S.b, upp S.a p (S.a s)⟩
def rem2 (S : LS) (s : Fin 3) : LS :=
  match S.a s with
  | none => ⟨S.f, S.b s, S.b, S.a⟩
  | some n => ⟨S.f, S.l, upp S.b n (S.b s), S.a⟩
def remF (S : LS) (s : Fin 3) : LS := rem2 (rem1 S s) s
def S00 : LS := ⟨none, none, fun _ => some 0, fun _ => some 0⟩
def pmF (i : Fin 6) (j : Fin 3) : Fin 3 :=
  match i, j with
  | 0, 0 => 0 | 0, 1 => 1 | 0, 2 => 2
  | 1, 0 => 0 | 1, 1 => 2 | 1, 2 => 1
  | 2, 0 => 1 | 2, 1 => 0 | 2, 2 => 2
  | 3, 0 => 1 | 3, 1 => 2 | 3, 2 => 0
  | 4, 0 => 2 | 4, 1 => 0 | 4, 2 => 1
  | 5, 0 => 2 | 5, 1 => 1 | 5, 2 => 0
def i5F (i : Fin 6) : Int32 := Int32.ofNat (3 * i.val)
def t0F (t : Fin 4) : Fin 6 := ⟨t.val, by omega⟩
def t1F (t : Fin 4) (d : Bool) : Fin 6 := ⟨t.val + d.toNat, by cases d <;> simp <;> omega⟩
def t2F (t : Fin 4) (d u : Bool) : Fin 6 := ⟨t.val + d.toNat + u.toNat, by cases d <;> cases u <;> simp <;> omega⟩
def comF (c : Fin 3 → Bool) (t : Fin 3 → Fin 6) (x y : Fin 3) : Bool :=
  if c x = true ∧ ¬ c y = true then true
  else if ¬ c x = true ∧ c y = true then false
  else if c x = true ∧ ¬ tii (t x) = tii (t y) then decide (tii (t y) < tii (t x))
  else decide (ixx x < ixx y)
def rkF (c : Fin 3 → Bool) (t : Fin 3 → Fin 6) : Fin 3 → Fin 3
  | 0 => (if comF c t 1 0 = true then 1 else 0) + (if comF c t 2 0 = true then 1 else 0)
  | 1 => (if comF c t 0 1 = true then 1 else 0) + (if comF c t 2 1 = true then 1 else 0)
  | 2 => (if comF c t 0 2 = true then 1 else 0) + (if comF c t 1 2 = true then 1 else 0)
def ccF (i : Fin 6) (c0 c1 c2 : Bool) : Fin 3 → Bool := upp (upp (upp (fun _ => false) (pmF i 0) c0) (pmF i 1) c1) (pmF i 2) c2
def ttF (i : Fin 6) (t : Fin 4) (d u : Bool) : Fin 3 → Fin 6 := upp (upp (upp (fun _ => 0) (pmF i 0) (t0F t)) (pmF i 1) (t1F t d)) (pmF i 2) (t2F t d u)
def odF (c : Fin 3 → Bool) (t : Fin 3 → Fin 6) : Fin 3 → Fin 3 := upp (upp (upp (fun _ => 0) (rkF c t 0) 0) (rkF c t 1) 1) (rkF c t 2) 2
def kup (k : Fin 3 → Option (Fin 6)) (c : Bool) (x : Fin 3) (t : Fin 6) : Fin 3 → Option (Fin 6) := if c = true then upp k x (some t) else k
def kkF (i : Fin 6) (t : Fin 4) (d u c0 c1 c2 : Bool) : Fin 3 → Option (Fin 6) := kup (kup (kup (fun _ => none) c0 (pmF i 0) (t0F t)) c1 (pmF i 1) (t1F t d)) c2 (pmF i 2) (t2F t d u)
def e0F (o : Fin 3 → Fin 3) (v : Fin 3) : Fin 3 := if ixx (o 0) = ixx v then o 1 else o 0
def e1F (o : Fin 3 → Fin 3) (v : Fin 3) : Fin 3 := if ixx (o 2) = ixx v then o 1 else o 2
def chkF (k : Fin 3 → Option (Fin 6)) (o : Fin 3 → Fin 3) (x0 x1 x2 v : Fin 3) : Bool :=
  match addF S00 k x0 with
  | none => false
  | some S1 => match addF S1 k x1 with
    | none => false
    | some S2 => match addF S2 k x2 with
      | none => false
      | some S3 => match addF (remF S3 v) k v with
        | none => false
        | some S4 => ((remF S3 v).f == some (e0F o v) && (remF (remF S3 v) (e0F o v)).f == some (e1F o v) && (remF (remF (remF S3 v) (e0F o v)) (e1F o v)).f == none) &&
          (S4.f == some (o 0) && (remF S4 (o 0)).f == some (o 1) && (remF (remF S4 (o 0)) (o 1)).f == some (o 2) && (remF (remF (remF S4 (o 0)) (o 1)) (o 2)).f == none)
set_option maxRecDepth 65536 in
theorem chk_all : ∀ (i : Fin 6) (t : Fin 4) (d u c0 c1 c2 : Bool) (v : Fin 3), chkF (kkF i t d u c0 c1 c2) (odF (ccF i c0 c1 c2) (ttF i t d u)) (pmF i 0) (pmF i 1) (pmF i 2) v = true := by decide +kernel
theorem own_run (k : Fin 3 → Option (Fin 6)) (o : Fin 3 → Fin 3) (x0 x1 x2 v : Fin 3) (h : chkF k o x0 x1 x2 v = true) :
    ∃ S1 S2 S3 S4 : LS, addF S00 k x0 = some S1 ∧ addF S1 k x1 = some S2 ∧ addF S2 k x2 = some S3 ∧ addF (remF S3 v) k v = some S4 ∧ (remF S3 v).f = some (e0F o v) ∧ (remF (remF S3 v) (e0F o v)).f = some (e1F o v) ∧ (remF (remF (remF S3 v) (e0F o v)) (e1F o v)).f = none ∧
      S4.f = some (o 0) ∧ (remF S4 (o 0)).f = some (o 1) ∧ (remF (remF S4 (o 0)) (o 1)).f = some (o 2) ∧ (remF (remF (remF S4 (o 0)) (o 1)) (o 2)).f = none := by
  unfold chkF at h
  cases h1 : addF S00 k x0 with
  | none => rw [h1] at h; cases h
  | some S1 =>
    rw [h1] at h; dsimp only at h
    cases h2 : addF S1 k x1 with
    | none => rw [h2] at h; cases h
    | some S2 =>
      rw [h2] at h; dsimp only at h
      cases h3 : addF S2 k x2 with
      | none => rw [h3] at h; cases h
      | some S3 =>
        rw [h3] at h; dsimp only at h
        cases h4 : addF (remF S3 v) k v with
        | none => rw [h4] at h; cases h
        | some S4 =>
          rw [h4] at h; dsimp only at h
          simp only [Bool.and_eq_true, beq_iff_eq] at h
          obtain ⟨⟨⟨g1, g2⟩, g3⟩, ⟨⟨g4, g5⟩, g6⟩, g7⟩ := h
          exact ⟨S1, S2, S3, S4, rfl, h2, h3, h4, g1, g2, g3, g4, g5, g6, g7⟩
theorem own_ix_ne (i : Fin 3) : ¬ ixx i = (-1) := by revert i; decide
theorem own_en_ne (i : Fin 3) : ¬ enn (some i) = (-1) := own_ix_ne i
def DDf : Option (Fin 6) → UInt64
  | none => 18442240474082181120
  | some t => FP.i2d (tii t)
end OwnPure
section OwnGrid
variable {Z : State} {h h' : Heap} {a b : Addr} {ty : FieldType} {g : Fin 3 → Value}
def ArG (Z : State) (h : Heap) (a : Addr) (ty : FieldType) (g : Fin 3 → Value) : Prop := ∃ c : Cell, Arr Z h a c ty ∧ c.slots.size = 3 ∧ ∀ i : Fin 3, c.slots[i.val]? = some (g i)
theorem ArG.lt (F : ArG Z h a ty g) : a < h.size := by obtain ⟨c, A, -⟩ := F; exact A.lt
theorem ArG.ext (F : ArG Z h a ty g) (E : Ext h h') : ArG Z h' a ty g := by obtain ⟨c, A, r⟩ := F; exact ⟨c, A.ext E, r⟩
theorem ArG.other {sl : Nat} {v : Value} (F : ArG Z h b ty g) (W : Wr h h' a sl v) (q : b ≠ a) : ArG Z h' b ty g := by obtain ⟨c, A, r⟩ := F; exact ⟨c, A.other W q, r⟩
theorem ArG.keep {ws : List Addr} (F : ArG Z h a ty g) (K : Keep h h' ws) (q : a ∉ ws) : ArG Z h' a ty g := by obtain ⟨c, A, r⟩ := F; exact ⟨c, ⟨K.2.1 a c A.1 q, A.2⟩, r⟩
theorem ArG.congr {g' : Fin 3 → Value} (F : ArG Z h a ty g) (q : ∀ j, g j = g' j) : ArG Z h a ty g' := by obtain ⟨c, A, S, H⟩ := F; exact ⟨c, A, S, fun i => by rw [← q i]; exact H i⟩
theorem own_ixn (i : Fin 3) : (ixx i).toNatClampNeg = i.val := by revert i; decide
theorem own_ing {c : Cell} (S : c.slots.size = 3) (i : Fin 3) : ¬ (ixx i < 0 ∨ c.slots.size ≤ (ixx i).toNatClampNeg) := by rw [S]; revert i; decide
theorem own_atg {c : Cell} (H : ∀ i : Fin 3, c.slots[i.val]? = some (g i)) (i : Fin 3) : c.slots[(ixx i).toNatClampNeg]? = some (g i) := by rw [own_ixn]; exact H i
theorem ArG.set {c : Cell} (A : Arr Z h a c ty) (S : c.slots.size = 3) (H : ∀ i : Fin 3, c.slots[i.val]? = some (g i)) {i : Fin 3} {v : Value} (W : Wr h h' a (ixx i).toNatClampNeg v) : ArG Z h' a ty (fun j => if j = i then v else g j) := by
  rw [own_ixn] at W
  refine ⟨_, A.same W, by rw [sz_set]; exact S, fun j => ?_⟩
  by_cases u : j = i
  · subst u
    have : j.val < c.slots.size := by rw [S]; exact j.isLt
    simp [Cell.setSlot, this]
  · have hne : i.val ≠ j.val := fun q => u (Fin.ext q.symm)
    simp only [Cell.setSlot, u, if_false]
    rw [Array.getElem?_setIfInBounds_ne hne]; exact H j
theorem ArG.of3 {k : ClassId} {x d : Value} (F : Arv Z h a k ty 3 [x, x, x] d) : ArG Z h a ty (fun _ => x) := by
  obtain ⟨c, A, -, S, -, H, -⟩ := F
  have S3 : c.slots.size = 3 := S
  refine ⟨c, A, S3, fun i => ?_⟩
  have := H i.val (by rw [S3]; exact i.isLt)
  revert this
  revert i
  intro i
  match i with
  | 0 => exact id
  | 1 => exact id
  | 2 => exact id
def OB (Z : State) (h : Heap) (o lc bb ba : Addr) (S : LS) : Prop := Exa Z h o "com/example/tenrec/tenrec/pool/IdleByLastCompletion" ∧ Fld Z h o "com/example/tenrec/tenrec/pool/IdleByLastCompletion" "first" "I" (.int (enn S.f)) ∧ Fld Z h o "com/example/tenrec/tenrec/pool/IdleByLastCompletion" "last" "I" (.int (enn S.l)) ∧ Fld Z h o "com/example/tenrec/tenrec/pool/IdleByLastCompletion" "lastCompletion" "[D" (.ref lc) ∧ Fld Z h o "com/example/tenrec/tenrec/pool/IdleByLastCompletion" "before" "[I" (.ref bb) ∧ Fld Z h o "com/example/tenrec/tenrec/pool/IdleByLastCompletion" "after" "[I" (.ref ba) ∧ ArG Z h bb .int (fun j => .int (enn (S.b j))) ∧ ArG Z h ba .int (fun j => .int (enn (S.a j)))
def NEs (o lc bb ba : Addr) : Prop := o ≠ lc ∧ o ≠ bb ∧ o ≠ ba ∧ lc ≠ bb ∧ lc ≠ ba ∧ bb ≠ ba
end OwnGrid

theorem own_dc (x y : Option (Fin 6)) (o : CmpOp) : cmpValue (FP.dcmp (DDf x) (DDf y)) o = cmF x y := by
  rcases x with _ | x <;> rcases y with _ | y <;> cases o <;> (try revert x) <;> (try revert y) <;> decide +kernel
theorem own_and1 (x : Int32) : x &&& 1 = 0 ∨ x &&& 1 = 1 := by
  have h : ∀ y : BitVec 32, y &&& 1#32 = 0#32 ∨ y &&& 1#32 = 1#32 := by
    intro y
    have := y.isLt
    have e : (y &&& 1#32).toNat = y.toNat % 2 := by rw [BitVec.toNat_and]; exact Nat.and_one_is_mod _
    rcases Nat.mod_two_eq_zero_or_one y.toNat with q | q
    · left; apply BitVec.eq_of_toNat_eq; rw [e, q]; rfl
    · right; apply BitVec.eq_of_toNat_eq; rw [e, q]; rfl
  rcases h x.toBitVec with q | q
  · left; exact Int32.toBitVec_inj.mp q
  · right; exact Int32.toBitVec_inj.mp q
theorem own_and3 (x : Int32) : x &&& 3 = 0 ∨ x &&& 3 = 1 ∨ x &&& 3 = 2 ∨ x &&& 3 = 3 := by
  have e : (x.toBitVec &&& 3#32).toNat = x.toBitVec.toNat % 4 := by rw [BitVec.toNat_and]; exact Nat.and_two_pow_sub_one_eq_mod _ 2
  have q : x.toBitVec.toNat % 4 = 0 ∨ x.toBitVec.toNat % 4 = 1 ∨ x.toBitVec.toNat % 4 = 2 ∨ x.toBitVec.toNat % 4 = 3 := by omega
  rcases q with q | q | q | q
  · left; apply Int32.toBitVec_inj.mp; apply BitVec.eq_of_toNat_eq; exact e.trans q
  · right; left; apply Int32.toBitVec_inj.mp; apply BitVec.eq_of_toNat_eq; exact e.trans q
  · right; right; left; apply Int32.toBitVec_inj.mp; apply BitVec.eq_of_toNat_eq; exact e.trans q
  · right; right; right; apply Int32.toBitVec_inj.mp; apply BitVec.eq_of_toNat_eq; exact e.trans q
theorem own_v3 (p : Int32) : ∃ v : Fin 3, (p &&& 2147483647) % 3 = ixx v := by
  rcases own_mod3 p with q | q | q
  · exact ⟨0, q⟩
  · exact ⟨1, q⟩
  · exact ⟨2, q⟩
theorem own_times (p1 : Int32) : ∃ (t : Fin 4) (d u : Bool), (p1 &&& (3 : Int32)) = tii (t0F t) ∧ ((p1 &&& (3 : Int32)) + ((p1.toUInt32 >>> ((2 : Int32) &&& 31).toUInt32).toInt32 &&& (1 : Int32))) = tii (t1F t d) ∧ (((p1 &&& (3 : Int32)) + ((p1.toUInt32 >>> ((2 : Int32) &&& 31).toUInt32).toInt32 &&& (1 : Int32))) + ((p1.toUInt32 >>> ((3 : Int32) &&& 31).toUInt32).toInt32 &&& (1 : Int32))) = tii (t2F t d u) := by
  rcases own_and3 p1 with q | q | q | q <;> rcases own_and1 (p1.toUInt32 >>> ((2 : Int32) &&& 31).toUInt32).toInt32 with r | r <;> rcases own_and1 (p1.toUInt32 >>> ((3 : Int32) &&& 31).toUInt32).toInt32 with w | w <;> rw [q, r, w]
  · exact ⟨0, false, false, by decide, by decide, by decide⟩
  · exact ⟨0, false, true, by decide, by decide, by decide⟩
  · exact ⟨0, true, false, by decide, by decide, by decide⟩
  · exact ⟨0, true, true, by decide, by decide, by decide⟩
  · exact ⟨1, false, false, by decide, by decide, by decide⟩
  · exact ⟨1, false, true, by decide, by decide, by decide⟩
  · exact ⟨1, true, false, by decide, by decide, by decide⟩
  · exact ⟨1, true, true, by decide, by decide, by decide⟩
  · exact ⟨2, false, false, by decide, by decide, by decide⟩
  · exact ⟨2, false, true, by decide, by decide, by decide⟩
  · exact ⟨2, true, false, by decide, by decide, by decide⟩
  · exact ⟨2, true, true, by decide, by decide, by decide⟩
  · exact ⟨3, false, false, by decide, by decide, by decide⟩
  · exact ⟨3, false, true, by decide, by decide, by decide⟩
  · exact ⟨3, true, false, by decide, by decide, by decide⟩
  · exact ⟨3, true, true, by decide, by decide, by decide⟩
theorem pn_com_example_tenrec_tenrec_pool_IdleByLastCompletion : plainName "com/example/tenrec/tenrec/pool/IdleByLastCompletion" = true := by first | (simp [plainName, overriddenIn]; done) | decide +kernel
theorem ef_rm8 (m : MethodId) (x0 : Addr) (x1 : Int32) (x2 : Int32) : entryFrame m #[(.ref x0), (.int x1), (.int x2)] 3 = mkF m 0 #[.val (.ref x0), .val (.int x1), .val (.int x2)] [] := by first | (simp [entryFrame, mkF, argsToLocals, Value.category]; done) | rfl
theorem d8_0 : decode prog_31_method_6_code 0 = .ok (.aload_n 0, 1) := by decide +kernel
theorem d8_1 : decode prog_31_method_6_code 1 = .ok (.getfield 16, 3) := by decide +kernel
theorem d8_4 : decode prog_31_method_6_code 4 = .ok (.iload_n 1, 1) := by decide +kernel
theorem d8_5 : decode prog_31_method_6_code 5 = .ok (.daload, 1) := by decide +kernel
theorem d8_6 : decode prog_31_method_6_code 6 = .ok (.aload_n 0, 1) := by decide +kernel
theorem d8_7 : decode prog_31_method_6_code 7 = .ok (.getfield 16, 3) := by decide +kernel
theorem d8_10 : decode prog_31_method_6_code 10 = .ok (.iload_n 2, 1) := by decide +kernel
theorem d8_11 : decode prog_31_method_6_code 11 = .ok (.daload, 1) := by decide +kernel
theorem d8_12 : decode prog_31_method_6_code 12 = .ok (.dcmp .l, 1) := by decide +kernel
theorem d8_13 : decode prog_31_method_6_code 13 = .ok (.ifCond .gt 24, 3) := by decide +kernel
theorem d8_37 : decode prog_31_method_6_code 37 = .ok (.iconst 1, 1) := by decide +kernel
theorem d8_38 : decode prog_31_method_6_code 38 = .ok (.goto 4, 3) := by decide +kernel
theorem d8_42 : decode prog_31_method_6_code 42 = .ok (.ireturn, 1) := by decide +kernel
theorem d8_16 : decode prog_31_method_6_code 16 = .ok (.aload_n 0, 1) := by decide +kernel
theorem d8_17 : decode prog_31_method_6_code 17 = .ok (.getfield 16, 3) := by decide +kernel
theorem d8_20 : decode prog_31_method_6_code 20 = .ok (.iload_n 1, 1) := by decide +kernel
theorem d8_21 : decode prog_31_method_6_code 21 = .ok (.daload, 1) := by decide +kernel
theorem d8_22 : decode prog_31_method_6_code 22 = .ok (.aload_n 0, 1) := by decide +kernel
theorem d8_23 : decode prog_31_method_6_code 23 = .ok (.getfield 16, 3) := by decide +kernel
theorem d8_26 : decode prog_31_method_6_code 26 = .ok (.iload_n 2, 1) := by decide +kernel
theorem d8_27 : decode prog_31_method_6_code 27 = .ok (.daload, 1) := by decide +kernel
theorem d8_28 : decode prog_31_method_6_code 28 = .ok (.dcmp .l, 1) := by decide +kernel
theorem d8_29 : decode prog_31_method_6_code 29 = .ok (.ifCond .ne 12, 3) := by decide +kernel
theorem d8_32 : decode prog_31_method_6_code 32 = .ok (.iload_n 1, 1) := by decide +kernel
theorem d8_33 : decode prog_31_method_6_code 33 = .ok (.iload_n 2, 1) := by decide +kernel
theorem d8_34 : decode prog_31_method_6_code 34 = .ok (.if_icmp .ge 7, 3) := by decide +kernel
theorem d8_41 : decode prog_31_method_6_code 41 = .ok (.iconst 0, 1) := by decide +kernel
def Q8 (Z : State) (o1 : Addr) (x1 : Fin 3) (y1 : Fin 3) (lc : Addr) (kq : Fin 3 → Option (Fin 6)) (h0 : Heap) (n0 : Nat) (v : Option Value) (h : Heap) (L : List Loc) : Prop := v = some (.int (b2i (cbF kq x1 y1))) ∧ Fr n0 L ∧ h = h0
set_option maxRecDepth 65536 in
set_option maxHeartbeats 40000000 in
theorem rm8 (l : Launch) (Z : State) (a0 : Array Value) (hw : ∀ d ∈ tables_1, d.before a0 Z = true) (ws : List Jvm.Cond) (o1 : Addr) (x1 : Fin 3) (y1 : Fin 3) (lc : Addr) (kq : Fin 3 → Option (Fin 6)) (h0 : Heap) (n0 : Nat) (Z0 : n0 ≤ h0.size) (F_c : Fld Z h0 o1 "com/example/tenrec/tenrec/pool/IdleByLastCompletion" "lastCompletion" "[D" (.ref lc)) (G_c : ArG Z h0 lc .double (fun j => .double (DDf (kq j)))) :
    OMet l Z (⟨"com/example/tenrec/tenrec/pool/IdleByLastCompletion", "comesBefore", "(II)Z"⟩ : MethodName) prog_31_method_6_code 3 (some .boolean) ws ({ frames := 0, cells := 0, slots := 0, locals := 0 } : Room) #[(.ref o1), (.int (ixx x1)), (.int (ixx y1))] h0 (Q8 Z o1 x1 y1 lc kq h0 n0) := by
  refine own_body (plainFor_of_name pn_com_example_tenrec_tenrec_pool_IdleByLastCompletion) ?_
  intro p e s m below meth c s₁ Bd hml0 hZ e0
  have hx := Bd.exec
  have hby := Bd.bytes
  have hml : c.maxLocals = 3 := hml0
  have hown : s.vm.findClass "com/example/tenrec/tenrec/pool/IdleByLastCompletion" = some m.cls := findClass_of_methodNamed Bd.named
  have hnm := (name_of_methodNamed Bd.named Bd.method).1
  have X0 : Stand p l e ({ frames := 0, cells := 0, slots := 0, locals := 0 } : Room) s m #[(.ref o1), (.int (ixx x1)), (.int (ixx y1))] below meth c s₁ [] 0 0 := Stand.of_body Bd
  have N0 := Fr.nil n0
  have K0 : Keep h0 h0 [] := Keep.refl _ _
  rw [ef_rm8]
  obtain ⟨T101, X101, e101, st101⟩ := getF X0 hx hZ hown (host := "") (Or.inl (hw _ (List.mem_of_getElem? (i := 24) rfl))) Via.refl e0 F_c (g := (mkF m 1 #[.val (.ref o1), .val (.int (ixx x1)), .val (.int (ixx y1))] [(.ref o1)])) rfl rfl (hb hby d8_1)
  obtain ⟨cl102, Ar102, Sa102, Ha102⟩ := id G_c
  have hin102 : ¬ ((ixx x1) < 0 ∨ cl102.slots.size ≤ ((ixx x1)).toNatClampNeg) := own_ing Sa102 x1
  have hat102 : cl102.slots[((ixx x1)).toNatClampNeg]? = some (.double (DDf (kq x1))) := own_atg Ha102 x1
  obtain ⟨T103, X103, e103, st103⟩ := getF X101 hx hZ hown (host := "") (Or.inl (hw _ (List.mem_of_getElem? (i := 24) rfl))) Via.refl e101 F_c (g := (mkF m 7 #[.val (.ref o1), .val (.int (ixx x1)), .val (.int (ixx y1))] [(.ref o1), (.double (DDf (kq x1)))])) rfl rfl (hb hby d8_7)
  obtain ⟨cl104, Ar104, Sa104, Ha104⟩ := id G_c
  have hin104 : ¬ ((ixx y1) < 0 ∨ cl104.slots.size ≤ ((ixx y1)).toNatClampNeg) := own_ing Sa104 y1
  have hat104 : cl104.slots[((ixx y1)).toNatClampNeg]? = some (.double (DDf (kq y1))) := own_atg Ha104 y1
  refine Gl.pre (S' := T103.setTop (mkF m 13 #[.val (.ref o1), .val (.int (ixx x1)), .val (.int (ixx y1))] [(.int (cmF (kq x1) (kq y1)))])) (fun t kt => ?_) ?_
  · show Steps p.tables e below (s₁.setTop (mkF m 0 #[.val (.ref o1), .val (.int (ixx x1)), .val (.int (ixx y1))] [])) _
    refine XS.aloadN X0.here hx rfl (hb hby d8_0) rfl rfl ?_
    show Steps p.tables e below (s₁.setTop (mkF m 1 #[.val (.ref o1), .val (.int (ixx x1)), .val (.int (ixx y1))] [(.ref o1)])) _
    refine st101 _ ?_
    show Steps p.tables e below (T101.setTop (mkF m 4 #[.val (.ref o1), .val (.int (ixx x1)), .val (.int (ixx y1))] [(.ref lc)])) _
    refine XS.iloadN X101.here hx rfl (hb hby d8_4) rfl ?_
    show Steps p.tables e below (T101.setTop (mkF m 5 #[.val (.ref o1), .val (.int (ixx x1)), .val (.int (ixx y1))] [(.int (ixx x1)), (.ref lc)])) _
    refine X101.daload hx (j := (ixx x1)) (v := (.double (DDf (kq x1)))) (own_hc e101 Ar102.1) (State.isArrayOf_alike hZ.alike Ar102.2.1) Ar102.2.2 hin102 hat102 (g := (mkF m 5 #[.val (.ref o1), .val (.int (ixx x1)), .val (.int (ixx y1))] [(.int (ixx x1)), (.ref lc)])) rfl rfl (hb hby d8_5) _ ?_
    show Steps p.tables e below (T101.setTop (mkF m 6 #[.val (.ref o1), .val (.int (ixx x1)), .val (.int (ixx y1))] [(.double (DDf (kq x1)))])) _
    refine XS.aloadN X101.here hx rfl (hb hby d8_6) rfl rfl ?_
    show Steps p.tables e below (T101.setTop (mkF m 7 #[.val (.ref o1), .val (.int (ixx x1)), .val (.int (ixx y1))] [(.ref o1), (.double (DDf (kq x1)))])) _
    refine st103 _ ?_
    show Steps p.tables e below (T103.setTop (mkF m 10 #[.val (.ref o1), .val (.int (ixx x1)), .val (.int (ixx y1))] [(.ref lc), (.double (DDf (kq x1)))])) _
    refine XS.iloadN X103.here hx rfl (hb hby d8_10) rfl ?_
    show Steps p.tables e below (T103.setTop (mkF m 11 #[.val (.ref o1), .val (.int (ixx x1)), .val (.int (ixx y1))] [(.int (ixx y1)), (.ref lc), (.double (DDf (kq x1)))])) _
    refine X103.daload hx (j := (ixx y1)) (v := (.double (DDf (kq y1)))) (own_hc e103 Ar104.1) (State.isArrayOf_alike hZ.alike Ar104.2.1) Ar104.2.2 hin104 hat104 (g := (mkF m 11 #[.val (.ref o1), .val (.int (ixx x1)), .val (.int (ixx y1))] [(.int (ixx y1)), (.ref lc), (.double (DDf (kq x1)))])) rfl rfl (hb hby d8_11) _ ?_
    show Steps p.tables e below (T103.setTop (mkF m 12 #[.val (.ref o1), .val (.int (ixx x1)), .val (.int (ixx y1))] [(.double (DDf (kq y1))), (.double (DDf (kq x1)))])) _
    refine XS.dcmpS X103.here hx rfl (hb hby d8_12) rfl (own_dc _ _ _) ?_
    exact kt
  by_cases hc13 : (0 : Int32) < (cmF (kq x1) (kq y1))
  · refine Gl.fin X103 (v := some (.int (1 : Int32))) (fun h => by rw [Bd.returns] at h; cases h) Bd.notSynchronized ?_ e103 (by decide) (by decide) (fun fs hr => ?_)
    · exact ⟨by simp [cbF, b2i, hc13], N0, rfl⟩
    · show Steps p.tables e below (T103.setTop (mkF m 13 #[.val (.ref o1), .val (.int (ixx x1)), .val (.int (ixx y1))] [(.int (cmF (kq x1) (kq y1)))])) _
      refine XS.ifYes X103.here hx rfl (pc0 := 13) (pc' := 37) rfl (hb hby d8_13) rfl (own_t (i0_gt _) hc13) (by decide) (by decide) ?_
      show Steps p.tables e below (T103.setTop (mkF m 37 #[.val (.ref o1), .val (.int (ixx x1)), .val (.int (ixx y1))] [])) _
      refine XS.iconst X103.here hx rfl (hb hby d8_37) ?_
      show Steps p.tables e below (T103.setTop (mkF m 38 #[.val (.ref o1), .val (.int (ixx x1)), .val (.int (ixx y1))] [(.int (1 : Int32))])) _
      refine XS.goto X103.here hx rfl (pc0 := 38) (pc' := 42) rfl (hb hby d8_38) (by decide) (by decide) ?_
      show Steps p.tables e below (T103.setTop (mkF m 42 #[.val (.ref o1), .val (.int (ixx x1)), .val (.int (ixx y1))] [(.int (1 : Int32))])) _
      exact retN X103 hx (t := .boolean) Bd.returns (by simp) (hb hby d8_42) hr
  · obtain ⟨T105, X105, e105, st105⟩ := getF X103 hx hZ hown (host := "") (Or.inl (hw _ (List.mem_of_getElem? (i := 24) rfl))) Via.refl e103 F_c (g := (mkF m 17 #[.val (.ref o1), .val (.int (ixx x1)), .val (.int (ixx y1))] [(.ref o1)])) rfl rfl (hb hby d8_17)
    obtain ⟨cl106, Ar106, Sa106, Ha106⟩ := id G_c
    have hin106 : ¬ ((ixx x1) < 0 ∨ cl106.slots.size ≤ ((ixx x1)).toNatClampNeg) := own_ing Sa106 x1
    have hat106 : cl106.slots[((ixx x1)).toNatClampNeg]? = some (.double (DDf (kq x1))) := own_atg Ha106 x1
    obtain ⟨T107, X107, e107, st107⟩ := getF X105 hx hZ hown (host := "") (Or.inl (hw _ (List.mem_of_getElem? (i := 24) rfl))) Via.refl e105 F_c (g := (mkF m 23 #[.val (.ref o1), .val (.int (ixx x1)), .val (.int (ixx y1))] [(.ref o1), (.double (DDf (kq x1)))])) rfl rfl (hb hby d8_23)
    obtain ⟨cl108, Ar108, Sa108, Ha108⟩ := id G_c
    have hin108 : ¬ ((ixx y1) < 0 ∨ cl108.slots.size ≤ ((ixx y1)).toNatClampNeg) := own_ing Sa108 y1
    have hat108 : cl108.slots[((ixx y1)).toNatClampNeg]? = some (.double (DDf (kq y1))) := own_atg Ha108 y1
    refine Gl.pre (S' := T107.setTop (mkF m 29 #[.val (.ref o1), .val (.int (ixx x1)), .val (.int (ixx y1))] [(.int (cmF (kq x1) (kq y1)))])) (fun t kt => ?_) ?_
    · show Steps p.tables e below (T103.setTop (mkF m 13 #[.val (.ref o1), .val (.int (ixx x1)), .val (.int (ixx y1))] [(.int (cmF (kq x1) (kq y1)))])) _
      refine XS.ifNo X103.here hx rfl (hb hby d8_13) rfl (own_f (i0_gt _) hc13) ?_
      show Steps p.tables e below (T103.setTop (mkF m 16 #[.val (.ref o1), .val (.int (ixx x1)), .val (.int (ixx y1))] [])) _
      refine XS.aloadN X103.here hx rfl (hb hby d8_16) rfl rfl ?_
      show Steps p.tables e below (T103.setTop (mkF m 17 #[.val (.ref o1), .val (.int (ixx x1)), .val (.int (ixx y1))] [(.ref o1)])) _
      refine st105 _ ?_
      show Steps p.tables e below (T105.setTop (mkF m 20 #[.val (.ref o1), .val (.int (ixx x1)), .val (.int (ixx y1))] [(.ref lc)])) _
      refine XS.iloadN X105.here hx rfl (hb hby d8_20) rfl ?_
      show Steps p.tables e below (T105.setTop (mkF m 21 #[.val (.ref o1), .val (.int (ixx x1)), .val (.int (ixx y1))] [(.int (ixx x1)), (.ref lc)])) _
      refine X105.daload hx (j := (ixx x1)) (v := (.double (DDf (kq x1)))) (own_hc e105 Ar106.1) (State.isArrayOf_alike hZ.alike Ar106.2.1) Ar106.2.2 hin106 hat106 (g := (mkF m 21 #[.val (.ref o1), .val (.int (ixx x1)), .val (.int (ixx y1))] [(.int (ixx x1)), (.ref lc)])) rfl rfl (hb hby d8_21) _ ?_
      show Steps p.tables e below (T105.setTop (mkF m 22 #[.val (.ref o1), .val (.int (ixx x1)), .val (.int (ixx y1))] [(.double (DDf (kq x1)))])) _
      refine XS.aloadN X105.here hx rfl (hb hby d8_22) rfl rfl ?_
      show Steps p.tables e below (T105.setTop (mkF m 23 #[.val (.ref o1), .val (.int (ixx x1)), .val (.int (ixx y1))] [(.ref o1), (.double (DDf (kq x1)))])) _
      refine st107 _ ?_
      show Steps p.tables e below (T107.setTop (mkF m 26 #[.val (.ref o1), .val (.int (ixx x1)), .val (.int (ixx y1))] [(.ref lc), (.double (DDf (kq x1)))])) _
      refine XS.iloadN X107.here hx rfl (hb hby d8_26) rfl ?_
      show Steps p.tables e below (T107.setTop (mkF m 27 #[.val (.ref o1), .val (.int (ixx x1)), .val (.int (ixx y1))] [(.int (ixx y1)), (.ref lc), (.double (DDf (kq x1)))])) _
      refine X107.daload hx (j := (ixx y1)) (v := (.double (DDf (kq y1)))) (own_hc e107 Ar108.1) (State.isArrayOf_alike hZ.alike Ar108.2.1) Ar108.2.2 hin108 hat108 (g := (mkF m 27 #[.val (.ref o1), .val (.int (ixx x1)), .val (.int (ixx y1))] [(.int (ixx y1)), (.ref lc), (.double (DDf (kq x1)))])) rfl rfl (hb hby d8_27) _ ?_
      show Steps p.tables e below (T107.setTop (mkF m 28 #[.val (.ref o1), .val (.int (ixx x1)), .val (.int (ixx y1))] [(.double (DDf (kq y1))), (.double (DDf (kq x1)))])) _
      refine XS.dcmpS X107.here hx rfl (hb hby d8_28) rfl (own_dc _ _ _) ?_
      exact kt
    by_cases hc29 : (cmF (kq x1) (kq y1)) = (0 : Int32)
    · refine Gl.pre (S' := T107.setTop (mkF m 34 #[.val (.ref o1), .val (.int (ixx x1)), .val (.int (ixx y1))] [(.int (ixx y1)), (.int (ixx x1))])) (fun t kt => ?_) ?_
      · show Steps p.tables e below (T107.setTop (mkF m 29 #[.val (.ref o1), .val (.int (ixx x1)), .val (.int (ixx y1))] [(.int (cmF (kq x1) (kq y1)))])) _
        refine XS.ifNo X107.here hx rfl (hb hby d8_29) rfl (own_nf (i0_ne _) hc29) ?_
        show Steps p.tables e below (T107.setTop (mkF m 32 #[.val (.ref o1), .val (.int (ixx x1)), .val (.int (ixx y1))] [])) _
        refine XS.iloadN X107.here hx rfl (hb hby d8_32) rfl ?_
        show Steps p.tables e below (T107.setTop (mkF m 33 #[.val (.ref o1), .val (.int (ixx x1)), .val (.int (ixx y1))] [(.int (ixx x1))])) _
        refine XS.iloadN X107.here hx rfl (hb hby d8_33) rfl ?_
        exact kt
      by_cases hc34 : (ixx x1) < (ixx y1)
      · refine Gl.fin X107 (v := some (.int (1 : Int32))) (fun h => by rw [Bd.returns] at h; cases h) Bd.notSynchronized ?_ e107 (by decide) (by decide) (fun fs hr => ?_)
        · exact ⟨by simp [cbF, b2i, hc13, hc29, hc34], N0, rfl⟩
        · show Steps p.tables e below (T107.setTop (mkF m 34 #[.val (.ref o1), .val (.int (ixx x1)), .val (.int (ixx y1))] [(.int (ixx y1)), (.int (ixx x1))])) _
          refine XS.icmpNo X107.here hx rfl (hb hby d8_34) rfl (own_nf (ic_ge _ _) hc34) ?_
          show Steps p.tables e below (T107.setTop (mkF m 37 #[.val (.ref o1), .val (.int (ixx x1)), .val (.int (ixx y1))] [])) _
          refine XS.iconst X107.here hx rfl (hb hby d8_37) ?_
          show Steps p.tables e below (T107.setTop (mkF m 38 #[.val (.ref o1), .val (.int (ixx x1)), .val (.int (ixx y1))] [(.int (1 : Int32))])) _
          refine XS.goto X107.here hx rfl (pc0 := 38) (pc' := 42) rfl (hb hby d8_38) (by decide) (by decide) ?_
          show Steps p.tables e below (T107.setTop (mkF m 42 #[.val (.ref o1), .val (.int (ixx x1)), .val (.int (ixx y1))] [(.int (1 : Int32))])) _
          exact retN X107 hx (t := .boolean) Bd.returns (by simp) (hb hby d8_42) hr
      · refine Gl.fin X107 (v := some (.int (0 : Int32))) (fun h => by rw [Bd.returns] at h; cases h) Bd.notSynchronized ?_ e107 (by decide) (by decide) (fun fs hr => ?_)
        · exact ⟨by simp [cbF, b2i, hc13, hc29, hc34], N0, rfl⟩
        · show Steps p.tables e below (T107.setTop (mkF m 34 #[.val (.ref o1), .val (.int (ixx x1)), .val (.int (ixx y1))] [(.int (ixx y1)), (.int (ixx x1))])) _
          refine XS.icmpYes X107.here hx rfl (pc0 := 34) (pc' := 41) rfl (hb hby d8_34) rfl (own_nt (ic_ge _ _) hc34) (by decide) (by decide) ?_
          show Steps p.tables e below (T107.setTop (mkF m 41 #[.val (.ref o1), .val (.int (ixx x1)), .val (.int (ixx y1))] [])) _
          refine XS.iconst X107.here hx rfl (hb hby d8_41) ?_
          show Steps p.tables e below (T107.setTop (mkF m 42 #[.val (.ref o1), .val (.int (ixx x1)), .val (.int (ixx y1))] [(.int (0 : Int32))])) _
          exact retN X107 hx (t := .boolean) Bd.returns (by simp) (hb hby d8_42) hr
    · refine Gl.fin X107 (v := some (.int (0 : Int32))) (fun h => by rw [Bd.returns] at h; cases h) Bd.notSynchronized ?_ e107 (by decide) (by decide) (fun fs hr => ?_)
      · exact ⟨by simp [cbF, b2i, hc13, hc29], N0, rfl⟩
      · show Steps p.tables e below (T107.setTop (mkF m 29 #[.val (.ref o1), .val (.int (ixx x1)), .val (.int (ixx y1))] [(.int (cmF (kq x1) (kq y1)))])) _
        refine XS.ifYes X107.here hx rfl (pc0 := 29) (pc' := 41) rfl (hb hby d8_29) rfl (own_nt (i0_ne _) hc29) (by decide) (by decide) ?_
        show Steps p.tables e below (T107.setTop (mkF m 41 #[.val (.ref o1), .val (.int (ixx x1)), .val (.int (ixx y1))] [])) _
        refine XS.iconst X107.here hx rfl (hb hby d8_41) ?_
        show Steps p.tables e below (T107.setTop (mkF m 42 #[.val (.ref o1), .val (.int (ixx x1)), .val (.int (ixx y1))] [(.int (0 : Int32))])) _
        exact retN X107 hx (t := .boolean) Bd.returns (by simp) (hb hby d8_42) hr
theorem ef_rm7 (m : MethodId) (x0 : Addr) (x1 : Int32) (x2 : Int32) (x3 : Int32) : entryFrame m #[(.ref x0), (.int x1), (.int x2), (.int x3)] 4 = mkF m 0 #[.val (.ref x0), .val (.int x1), .val (.int x2), .val (.int x3)] [] := by first | (simp [entryFrame, mkF, argsToLocals, Value.category]; done) | rfl
theorem d7_0 : decode prog_31_method_7_code 0 = .ok (.aload_n 0, 1) := by decide +kernel
theorem d7_1 : decode prog_31_method_7_code 1 = .ok (.getfield 30, 3) := by decide +kernel
theorem d7_4 : decode prog_31_method_7_code 4 = .ok (.iload_n 2, 1) := by decide +kernel
theorem d7_5 : decode prog_31_method_7_code 5 = .ok (.iload_n 1, 1) := by decide +kernel
theorem d7_6 : decode prog_31_method_7_code 6 = .ok (.iastore, 1) := by decide +kernel
theorem d7_7 : decode prog_31_method_7_code 7 = .ok (.aload_n 0, 1) := by decide +kernel
theorem d7_8 : decode prog_31_method_7_code 8 = .ok (.getfield 34, 3) := by decide +kernel
theorem d7_11 : decode prog_31_method_7_code 11 = .ok (.iload_n 2, 1) := by decide +kernel
theorem d7_12 : decode prog_31_method_7_code 12 = .ok (.iload_n 3, 1) := by decide +kernel
theorem d7_13 : decode prog_31_method_7_code 13 = .ok (.iastore, 1) := by decide +kernel
theorem d7_14 : decode prog_31_method_7_code 14 = .ok (.iload_n 1, 1) := by decide +kernel
theorem d7_15 : decode prog_31_method_7_code 15 = .ok (.iconst (-1), 1) := by decide +kernel
theorem d7_16 : decode prog_31_method_7_code 16 = .ok (.if_icmp .ne 11, 3) := by decide +kernel
theorem d7_19 : decode prog_31_method_7_code 19 = .ok (.aload_n 0, 1) := by decide +kernel
theorem d7_20 : decode prog_31_method_7_code 20 = .ok (.iload_n 2, 1) := by decide +kernel
theorem d7_21 : decode prog_31_method_7_code 21 = .ok (.putfield 9, 3) := by decide +kernel
theorem d7_24 : decode prog_31_method_7_code 24 = .ok (.goto 10, 3) := by decide +kernel
theorem d7_34 : decode prog_31_method_7_code 34 = .ok (.iload_n 3, 1) := by decide +kernel
theorem d7_35 : decode prog_31_method_7_code 35 = .ok (.iconst (-1), 1) := by decide +kernel
theorem d7_36 : decode prog_31_method_7_code 36 = .ok (.if_icmp .ne 11, 3) := by decide +kernel
theorem d7_39 : decode prog_31_method_7_code 39 = .ok (.aload_n 0, 1) := by decide +kernel
theorem d7_40 : decode prog_31_method_7_code 40 = .ok (.iload_n 2, 1) := by decide +kernel
theorem d7_41 : decode prog_31_method_7_code 41 = .ok (.putfield 13, 3) := by decide +kernel
theorem d7_44 : decode prog_31_method_7_code 44 = .ok (.goto 10, 3) := by decide +kernel
theorem d7_54 : decode prog_31_method_7_code 54 = .ok (.return_, 1) := by decide +kernel
theorem d7_47 : decode prog_31_method_7_code 47 = .ok (.aload_n 0, 1) := by decide +kernel
theorem d7_48 : decode prog_31_method_7_code 48 = .ok (.getfield 30, 3) := by decide +kernel
theorem d7_51 : decode prog_31_method_7_code 51 = .ok (.iload_n 3, 1) := by decide +kernel
theorem d7_52 : decode prog_31_method_7_code 52 = .ok (.iload_n 2, 1) := by decide +kernel
theorem d7_53 : decode prog_31_method_7_code 53 = .ok (.iastore, 1) := by decide +kernel
theorem d7_27 : decode prog_31_method_7_code 27 = .ok (.aload_n 0, 1) := by decide +kernel
theorem d7_28 : decode prog_31_method_7_code 28 = .ok (.getfield 34, 3) := by decide +kernel
theorem d7_31 : decode prog_31_method_7_code 31 = .ok (.iload_n 1, 1) := by decide +kernel
theorem d7_32 : decode prog_31_method_7_code 32 = .ok (.iload_n 2, 1) := by decide +kernel
theorem d7_33 : decode prog_31_method_7_code 33 = .ok (.iastore, 1) := by decide +kernel
def Q7 (Z : State) (o1 : Addr) (lc : Addr) (bb : Addr) (ba : Addr) (S1 : LS) (pp : Option (Fin 3)) (s1 : Fin 3) (nn : Option (Fin 3)) (h0 : Heap) (n0 : Nat) (v : Option Value) (h : Heap) (L : List Loc) : Prop := v = none ∧ Fr n0 L ∧ Keep h0 h [o1, bb, ba] ∧ OB Z h o1 lc bb ba (linkF S1 pp s1 nn)
set_option maxRecDepth 65536 in
set_option maxHeartbeats 40000000 in
theorem rm7 (l : Launch) (Z : State) (a0 : Array Value) (hw : ∀ d ∈ tables_1, d.before a0 Z = true) (ws : List Jvm.Cond) (o1 : Addr) (lc : Addr) (bb : Addr) (ba : Addr) (S1 : LS) (pp : Option (Fin 3)) (s1 : Fin 3) (nn : Option (Fin 3)) (h0 : Heap) (n0 : Nat) (Z0 : n0 ≤ h0.size) (g_o1 : n0 ≤ o1) (g_bb : n0 ≤ bb) (g_ba : n0 ≤ ba) (hne : NEs o1 lc bb ba) (hob : OB Z h0 o1 lc bb ba S1) :
    OMet l Z (⟨"com/example/tenrec/tenrec/pool/IdleByLastCompletion", "link", "(III)V"⟩ : MethodName) prog_31_method_7_code 4 none ws ({ frames := 0, cells := 0, slots := 0, locals := 0 } : Room) #[(.ref o1), (.int (enn pp)), (.int (ixx s1)), (.int (enn nn))] h0 (Q7 Z o1 lc bb ba S1 pp s1 nn h0 n0) := by
  refine own_body (plainFor_of_name pn_com_example_tenrec_tenrec_pool_IdleByLastCompletion) ?_
  intro p e s m below meth c s₁ Bd hml0 hZ e0
  have hx := Bd.exec
  have hby := Bd.bytes
  have hml : c.maxLocals = 4 := hml0
  have hown : s.vm.findClass "com/example/tenrec/tenrec/pool/IdleByLastCompletion" = some m.cls := findClass_of_methodNamed Bd.named
  have hnm := (name_of_methodNamed Bd.named Bd.method).1
  have X0 : Stand p l e ({ frames := 0, cells := 0, slots := 0, locals := 0 } : Room) s m #[(.ref o1), (.int (enn pp)), (.int (ixx s1)), (.int (enn nn))] below meth c s₁ [] 0 0 := Stand.of_body Bd
  have N0 := Fr.nil n0
  have K0 : Keep h0 h0 [o1, bb, ba] := Keep.refl _ _
  rw [ef_rm7]
  obtain ⟨ne1, ne2, ne3, ne4, ne5, ne6⟩ := id hne
  obtain ⟨E_o, F_f, F_l, F_c, F_b, F_a, G_b, G_a⟩ := id hob
  rcases pp with _ | pp
  · rcases nn with _ | nn
    · obtain ⟨T101, X101, e101, st101⟩ := getF X0 hx hZ hown (host := "") (Or.inl (hw _ (List.mem_of_getElem? (i := 31) rfl))) Via.refl e0 F_b (g := (mkF m 1 #[.val (.ref o1), .val (.int (enn none)), .val (.int (ixx s1)), .val (.int (enn none))] [(.ref o1)])) rfl rfl (hb hby d7_1)
      obtain ⟨cl102, Ar102, Sa102, Ha102⟩ := id G_b
      have hin102 : ¬ ((ixx s1) < 0 ∨ cl102.slots.size ≤ ((ixx s1)).toNatClampNeg) := own_ing Sa102 s1
      obtain ⟨T102, h102, X102, e102, W102, st102⟩ := stI X101 hx hZ e101 Ar102 (j := (ixx s1)) hin102 (g := (mkF m 6 #[.val (.ref o1), .val (.int (enn none)), .val (.int (ixx s1)), .val (.int (enn none))] [(.int (enn none)), (.int (ixx s1)), (.ref bb)])) rfl rfl (hb hby d7_6)
      have G102 : ArG Z h102 bb .int (fun j => (.int (enn ((upp S1.b s1 none) j)))) := (ArG.set Ar102 Sa102 Ha102 (i := s1) W102).congr (fun j => by unfold upp; split <;> rfl)
      have K102 : Keep h0 h102 [o1, bb, ba] := K0.wr W102 (Or.inl (List.mem_of_getElem? (i := 1) rfl))
      have N102 := Fr.snoc X102 N0 g_bb
      have f103 := (F_a.other W102 (Or.inl ne2))
      obtain ⟨T104, X104, e104, st104⟩ := getF X102 hx hZ hown (host := "") (Or.inl (hw _ (List.mem_of_getElem? (i := 33) rfl))) Via.refl e102 f103 (g := (mkF m 8 #[.val (.ref o1), .val (.int (enn none)), .val (.int (ixx s1)), .val (.int (enn none))] [(.ref o1)])) rfl rfl (hb hby d7_8)
      have f106 := (G_a.other W102 (Ne.symm ne6))
      obtain ⟨cl105, Ar105, Sa105, Ha105⟩ := id f106
      have hin105 : ¬ ((ixx s1) < 0 ∨ cl105.slots.size ≤ ((ixx s1)).toNatClampNeg) := own_ing Sa105 s1
      obtain ⟨T105, h105, X105, e105, W105, st105⟩ := stI X104 hx hZ e104 Ar105 (j := (ixx s1)) hin105 (g := (mkF m 13 #[.val (.ref o1), .val (.int (enn none)), .val (.int (ixx s1)), .val (.int (enn none))] [(.int (enn none)), (.int (ixx s1)), (.ref ba)])) rfl rfl (hb hby d7_13)
      have G105 : ArG Z h105 ba .int (fun j => (.int (enn ((upp S1.a s1 none) j)))) := (ArG.set Ar105 Sa105 Ha105 (i := s1) W105).congr (fun j => by unfold upp; split <;> rfl)
      have K105 : Keep h0 h105 [o1, bb, ba] := K102.wr W105 (Or.inl (List.mem_of_getElem? (i := 2) rfl))
      have N105 := Fr.snoc X105 N102 g_ba
      have f107 := ((F_f.other W102 (Or.inl ne2)).other W105 (Or.inl ne3))
      have f108 := ((E_o.wr W102).wr W105)
      obtain ⟨T109, h109, X109, e109, W109, st109⟩ := putF X105 hx hZ hown (host := "") (Or.inl (hw _ (List.mem_of_getElem? (i := 19) rfl))) Via.refl e105 f107 f108 (Or.inl (hw _ (List.mem_of_getElem? (i := 20) rfl))) (hw _ (List.mem_of_getElem? (i := 11) rfl)) (ty := .int) (by decide) rfl rfl (g := (mkF m 21 #[.val (.ref o1), .val (.int (enn none)), .val (.int (ixx s1)), .val (.int (enn none))] [(.int (ixx s1)), (.ref o1)])) rfl rfl (hb hby d7_21)
      have Fw109 := f107.same W109
      have K109 : Keep h0 h109 [o1, bb, ba] := K105.wr W109 (Or.inl (List.mem_of_getElem? (i := 0) rfl))
      have N109 := Fr.snoc X109 N105 g_o1
      have f110 := (((F_l.other W102 (Or.inl ne2)).other W105 (Or.inl ne3)).other W109 (Or.inr (slot_ne (Or.inl (hw _ (List.mem_of_getElem? (i := 22) rfl))) (Or.inl (hw _ (List.mem_of_getElem? (i := 20) rfl))) (by decide) (t := .int) (t' := .int) (by decide) (by decide))))
      have f111 := (f108.wr W109)
      obtain ⟨T112, h112, X112, e112, W112, st112⟩ := putF X109 hx hZ hown (host := "") (Or.inl (hw _ (List.mem_of_getElem? (i := 21) rfl))) Via.refl e109 f110 f111 (Or.inl (hw _ (List.mem_of_getElem? (i := 22) rfl))) (hw _ (List.mem_of_getElem? (i := 11) rfl)) (ty := .int) (by decide) rfl rfl (g := (mkF m 41 #[.val (.ref o1), .val (.int (enn none)), .val (.int (ixx s1)), .val (.int (enn none))] [(.int (ixx s1)), (.ref o1)])) rfl rfl (hb hby d7_41)
      have Fw112 := f110.same W112
      have K112 : Keep h0 h112 [o1, bb, ba] := K109.wr W112 (Or.inl (List.mem_of_getElem? (i := 0) rfl))
      have N112 := Fr.snoc X112 N109 g_o1
      have f113 := (f111.wr W112)
      have f114 := (Fw109.other W112 (Or.inr (slot_ne (Or.inl (hw _ (List.mem_of_getElem? (i := 20) rfl))) (Or.inl (hw _ (List.mem_of_getElem? (i := 22) rfl))) (by decide) (t := .int) (t' := .int) (by decide) (by decide))))
      have f115 := ((((F_c.other W102 (Or.inl ne2)).other W105 (Or.inl ne3)).other W109 (Or.inr (slot_ne (Or.inr (hw _ (List.mem_of_getElem? (i := 25) rfl))) (Or.inl (hw _ (List.mem_of_getElem? (i := 20) rfl))) (by decide) (t := (.array .double)) (t' := .int) (by decide) (by decide)))).other W112 (Or.inr (slot_ne (Or.inr (hw _ (List.mem_of_getElem? (i := 25) rfl))) (Or.inl (hw _ (List.mem_of_getElem? (i := 22) rfl))) (by decide) (t := (.array .double)) (t' := .int) (by decide) (by decide))))
      have f116 := ((((F_b.other W102 (Or.inl ne2)).other W105 (Or.inl ne3)).other W109 (Or.inr (slot_ne (Or.inr (hw _ (List.mem_of_getElem? (i := 32) rfl))) (Or.inl (hw _ (List.mem_of_getElem? (i := 20) rfl))) (by decide) (t := (.array .int)) (t' := .int) (by decide) (by decide)))).other W112 (Or.inr (slot_ne (Or.inr (hw _ (List.mem_of_getElem? (i := 32) rfl))) (Or.inl (hw _ (List.mem_of_getElem? (i := 22) rfl))) (by decide) (t := (.array .int)) (t' := .int) (by decide) (by decide))))
      have f117 := (((f103.other W105 (Or.inl ne3)).other W109 (Or.inr (slot_ne (Or.inr (hw _ (List.mem_of_getElem? (i := 34) rfl))) (Or.inl (hw _ (List.mem_of_getElem? (i := 20) rfl))) (by decide) (t := (.array .int)) (t' := .int) (by decide) (by decide)))).other W112 (Or.inr (slot_ne (Or.inr (hw _ (List.mem_of_getElem? (i := 34) rfl))) (Or.inl (hw _ (List.mem_of_getElem? (i := 22) rfl))) (by decide) (t := (.array .int)) (t' := .int) (by decide) (by decide))))
      have f118 := (((G102.other W105 ne6).other W109 (Ne.symm ne2)).other W112 (Ne.symm ne2))
      have f119 := ((G105.other W109 (Ne.symm ne3)).other W112 (Ne.symm ne3))
      refine Gl.fin X112 (v := none) (fun _ => rfl) Bd.notSynchronized ?_ e112 (by decide) (by decide) (fun fs hr => ?_)
      · exact ⟨rfl, N112, K112, f113, f114, Fw112, f115, f116, f117, f118, f119⟩
      · show Steps p.tables e below (s₁.setTop (mkF m 0 #[.val (.ref o1), .val (.int (enn none)), .val (.int (ixx s1)), .val (.int (enn none))] [])) _
        refine XS.aloadN X0.here hx rfl (hb hby d7_0) rfl rfl ?_
        show Steps p.tables e below (s₁.setTop (mkF m 1 #[.val (.ref o1), .val (.int (enn none)), .val (.int (ixx s1)), .val (.int (enn none))] [(.ref o1)])) _
        refine st101 _ ?_
        show Steps p.tables e below (T101.setTop (mkF m 4 #[.val (.ref o1), .val (.int (enn none)), .val (.int (ixx s1)), .val (.int (enn none))] [(.ref bb)])) _
        refine XS.iloadN X101.here hx rfl (hb hby d7_4) rfl ?_
        show Steps p.tables e below (T101.setTop (mkF m 5 #[.val (.ref o1), .val (.int (enn none)), .val (.int (ixx s1)), .val (.int (enn none))] [(.int (ixx s1)), (.ref bb)])) _
        refine XS.iloadN X101.here hx rfl (hb hby d7_5) rfl ?_
        show Steps p.tables e below (T101.setTop (mkF m 6 #[.val (.ref o1), .val (.int (enn none)), .val (.int (ixx s1)), .val (.int (enn none))] [(.int (enn none)), (.int (ixx s1)), (.ref bb)])) _
        refine st102 _ ?_
        show Steps p.tables e below (T102.setTop (mkF m 7 #[.val (.ref o1), .val (.int (enn none)), .val (.int (ixx s1)), .val (.int (enn none))] [])) _
        refine XS.aloadN X102.here hx rfl (hb hby d7_7) rfl rfl ?_
        show Steps p.tables e below (T102.setTop (mkF m 8 #[.val (.ref o1), .val (.int (enn none)), .val (.int (ixx s1)), .val (.int (enn none))] [(.ref o1)])) _
        refine st104 _ ?_
        show Steps p.tables e below (T104.setTop (mkF m 11 #[.val (.ref o1), .val (.int (enn none)), .val (.int (ixx s1)), .val (.int (enn none))] [(.ref ba)])) _
        refine XS.iloadN X104.here hx rfl (hb hby d7_11) rfl ?_
        show Steps p.tables e below (T104.setTop (mkF m 12 #[.val (.ref o1), .val (.int (enn none)), .val (.int (ixx s1)), .val (.int (enn none))] [(.int (ixx s1)), (.ref ba)])) _
        refine XS.iloadN X104.here hx rfl (hb hby d7_12) rfl ?_
        show Steps p.tables e below (T104.setTop (mkF m 13 #[.val (.ref o1), .val (.int (enn none)), .val (.int (ixx s1)), .val (.int (enn none))] [(.int (enn none)), (.int (ixx s1)), (.ref ba)])) _
        refine st105 _ ?_
        show Steps p.tables e below (T105.setTop (mkF m 14 #[.val (.ref o1), .val (.int (enn none)), .val (.int (ixx s1)), .val (.int (enn none))] [])) _
        refine XS.iloadN X105.here hx rfl (hb hby d7_14) rfl ?_
        show Steps p.tables e below (T105.setTop (mkF m 15 #[.val (.ref o1), .val (.int (enn none)), .val (.int (ixx s1)), .val (.int (enn none))] [(.int (enn none))])) _
        refine XS.iconst X105.here hx rfl (hb hby d7_15) ?_
        show Steps p.tables e below (T105.setTop (mkF m 16 #[.val (.ref o1), .val (.int (enn none)), .val (.int (ixx s1)), .val (.int (enn none))] [(.int (-1 : Int32)), (.int (enn none))])) _
        refine XS.icmpNo X105.here hx rfl (hb hby d7_16) rfl (own_nf (ic_ne _ _) rfl) ?_
        show Steps p.tables e below (T105.setTop (mkF m 19 #[.val (.ref o1), .val (.int (enn none)), .val (.int (ixx s1)), .val (.int (enn none))] [])) _
        refine XS.aloadN X105.here hx rfl (hb hby d7_19) rfl rfl ?_
        show Steps p.tables e below (T105.setTop (mkF m 20 #[.val (.ref o1), .val (.int (enn none)), .val (.int (ixx s1)), .val (.int (enn none))] [(.ref o1)])) _
        refine XS.iloadN X105.here hx rfl (hb hby d7_20) rfl ?_
        show Steps p.tables e below (T105.setTop (mkF m 21 #[.val (.ref o1), .val (.int (enn none)), .val (.int (ixx s1)), .val (.int (enn none))] [(.int (ixx s1)), (.ref o1)])) _
        refine st109 _ ?_
        show Steps p.tables e below (T109.setTop (mkF m 24 #[.val (.ref o1), .val (.int (enn none)), .val (.int (ixx s1)), .val (.int (enn none))] [])) _
        refine XS.goto X109.here hx rfl (pc0 := 24) (pc' := 34) rfl (hb hby d7_24) (by decide) (by decide) ?_
        show Steps p.tables e below (T109.setTop (mkF m 34 #[.val (.ref o1), .val (.int (enn none)), .val (.int (ixx s1)), .val (.int (enn none))] [])) _
        refine XS.iloadN X109.here hx rfl (hb hby d7_34) rfl ?_
        show Steps p.tables e below (T109.setTop (mkF m 35 #[.val (.ref o1), .val (.int (enn none)), .val (.int (ixx s1)), .val (.int (enn none))] [(.int (enn none))])) _
        refine XS.iconst X109.here hx rfl (hb hby d7_35) ?_
        show Steps p.tables e below (T109.setTop (mkF m 36 #[.val (.ref o1), .val (.int (enn none)), .val (.int (ixx s1)), .val (.int (enn none))] [(.int (-1 : Int32)), (.int (enn none))])) _
        refine XS.icmpNo X109.here hx rfl (hb hby d7_36) rfl (own_nf (ic_ne _ _) rfl) ?_
        show Steps p.tables e below (T109.setTop (mkF m 39 #[.val (.ref o1), .val (.int (enn none)), .val (.int (ixx s1)), .val (.int (enn none))] [])) _
        refine XS.aloadN X109.here hx rfl (hb hby d7_39) rfl rfl ?_
        show Steps p.tables e below (T109.setTop (mkF m 40 #[.val (.ref o1), .val (.int (enn none)), .val (.int (ixx s1)), .val (.int (enn none))] [(.ref o1)])) _
        refine XS.iloadN X109.here hx rfl (hb hby d7_40) rfl ?_
        show Steps p.tables e below (T109.setTop (mkF m 41 #[.val (.ref o1), .val (.int (enn none)), .val (.int (ixx s1)), .val (.int (enn none))] [(.int (ixx s1)), (.ref o1)])) _
        refine st112 _ ?_
        show Steps p.tables e below (T112.setTop (mkF m 44 #[.val (.ref o1), .val (.int (enn none)), .val (.int (ixx s1)), .val (.int (enn none))] [])) _
        refine XS.goto X112.here hx rfl (pc0 := 44) (pc' := 54) rfl (hb hby d7_44) (by decide) (by decide) ?_
        show Steps p.tables e below (T112.setTop (mkF m 54 #[.val (.ref o1), .val (.int (enn none)), .val (.int (ixx s1)), .val (.int (enn none))] [])) _
        exact X112.returnOut hx Bd.returns (hb hby d7_54) hr
    · obtain ⟨T120, X120, e120, st120⟩ := getF X0 hx hZ hown (host := "") (Or.inl (hw _ (List.mem_of_getElem? (i := 31) rfl))) Via.refl e0 F_b (g := (mkF m 1 #[.val (.ref o1), .val (.int (enn none)), .val (.int (ixx s1)), .val (.int (enn (some nn)))] [(.ref o1)])) rfl rfl (hb hby d7_1)
      obtain ⟨cl121, Ar121, Sa121, Ha121⟩ := id G_b
      have hin121 : ¬ ((ixx s1) < 0 ∨ cl121.slots.size ≤ ((ixx s1)).toNatClampNeg) := own_ing Sa121 s1
      obtain ⟨T121, h121, X121, e121, W121, st121⟩ := stI X120 hx hZ e120 Ar121 (j := (ixx s1)) hin121 (g := (mkF m 6 #[.val (.ref o1), .val (.int (enn none)), .val (.int (ixx s1)), .val (.int (enn (some nn)))] [(.int (enn none)), (.int (ixx s1)), (.ref bb)])) rfl rfl (hb hby d7_6)
      have G121 : ArG Z h121 bb .int (fun j => (.int (enn ((upp S1.b s1 none) j)))) := (ArG.set Ar121 Sa121 Ha121 (i := s1) W121).congr (fun j => by unfold upp; split <;> rfl)
      have K121 : Keep h0 h121 [o1, bb, ba] := K0.wr W121 (Or.inl (List.mem_of_getElem? (i := 1) rfl))
      have N121 := Fr.snoc X121 N0 g_bb
      have f122 := (F_a.other W121 (Or.inl ne2))
      obtain ⟨T123, X123, e123, st123⟩ := getF X121 hx hZ hown (host := "") (Or.inl (hw _ (List.mem_of_getElem? (i := 33) rfl))) Via.refl e121 f122 (g := (mkF m 8 #[.val (.ref o1), .val (.int (enn none)), .val (.int (ixx s1)), .val (.int (enn (some nn)))] [(.ref o1)])) rfl rfl (hb hby d7_8)
      have f125 := (G_a.other W121 (Ne.symm ne6))
      obtain ⟨cl124, Ar124, Sa124, Ha124⟩ := id f125
      have hin124 : ¬ ((ixx s1) < 0 ∨ cl124.slots.size ≤ ((ixx s1)).toNatClampNeg) := own_ing Sa124 s1
      obtain ⟨T124, h124, X124, e124, W124, st124⟩ := stI X123 hx hZ e123 Ar124 (j := (ixx s1)) hin124 (g := (mkF m 13 #[.val (.ref o1), .val (.int (enn none)), .val (.int (ixx s1)), .val (.int (enn (some nn)))] [(.int (enn (some nn))), (.int (ixx s1)), (.ref ba)])) rfl rfl (hb hby d7_13)
      have G124 : ArG Z h124 ba .int (fun j => (.int (enn ((upp S1.a s1 (some nn)) j)))) := (ArG.set Ar124 Sa124 Ha124 (i := s1) W124).congr (fun j => by unfold upp; split <;> rfl)
      have K124 : Keep h0 h124 [o1, bb, ba] := K121.wr W124 (Or.inl (List.mem_of_getElem? (i := 2) rfl))
      have N124 := Fr.snoc X124 N121 g_ba
      have f126 := ((F_f.other W121 (Or.inl ne2)).other W124 (Or.inl ne3))
      have f127 := ((E_o.wr W121).wr W124)
      obtain ⟨T128, h128, X128, e128, W128, st128⟩ := putF X124 hx hZ hown (host := "") (Or.inl (hw _ (List.mem_of_getElem? (i := 19) rfl))) Via.refl e124 f126 f127 (Or.inl (hw _ (List.mem_of_getElem? (i := 20) rfl))) (hw _ (List.mem_of_getElem? (i := 11) rfl)) (ty := .int) (by decide) rfl rfl (g := (mkF m 21 #[.val (.ref o1), .val (.int (enn none)), .val (.int (ixx s1)), .val (.int (enn (some nn)))] [(.int (ixx s1)), (.ref o1)])) rfl rfl (hb hby d7_21)
      have Fw128 := f126.same W128
      have K128 : Keep h0 h128 [o1, bb, ba] := K124.wr W128 (Or.inl (List.mem_of_getElem? (i := 0) rfl))
      have N128 := Fr.snoc X128 N124 g_o1
      have f129 := (((F_b.other W121 (Or.inl ne2)).other W124 (Or.inl ne3)).other W128 (Or.inr (slot_ne (Or.inr (hw _ (List.mem_of_getElem? (i := 32) rfl))) (Or.inl (hw _ (List.mem_of_getElem? (i := 20) rfl))) (by decide) (t := (.array .int)) (t' := .int) (by decide) (by decide))))
      obtain ⟨T130, X130, e130, st130⟩ := getF X128 hx hZ hown (host := "") (Or.inl (hw _ (List.mem_of_getElem? (i := 31) rfl))) Via.refl e128 f129 (g := (mkF m 48 #[.val (.ref o1), .val (.int (enn none)), .val (.int (ixx s1)), .val (.int (enn (some nn)))] [(.ref o1)])) rfl rfl (hb hby d7_48)
      have f132 := ((G121.other W124 ne6).other W128 (Ne.symm ne2))
      obtain ⟨cl131, Ar131, Sa131, Ha131⟩ := id f132
      have hin131 : ¬ ((enn (some nn)) < 0 ∨ cl131.slots.size ≤ ((enn (some nn))).toNatClampNeg) := own_ing Sa131 nn
      obtain ⟨T131, h131, X131, e131, W131, st131⟩ := stI X130 hx hZ e130 Ar131 (j := (enn (some nn))) hin131 (g := (mkF m 53 #[.val (.ref o1), .val (.int (enn none)), .val (.int (ixx s1)), .val (.int (enn (some nn)))] [(.int (ixx s1)), (.int (enn (some nn))), (.ref bb)])) rfl rfl (hb hby d7_53)
      have G131 : ArG Z h131 bb .int (fun j => (.int (enn ((upp (upp S1.b s1 none) nn (some s1)) j)))) := (ArG.set Ar131 Sa131 Ha131 (i := nn) W131).congr (fun j => by unfold upp; split <;> rfl)
      have K131 : Keep h0 h131 [o1, bb, ba] := K128.wr W131 (Or.inl (List.mem_of_getElem? (i := 1) rfl))
      have N131 := Fr.snoc X131 N128 g_bb
      have f133 := ((f127.wr W128).wr W131)
      have f134 := (Fw128.other W131 (Or.inl ne2))
      have f135 := ((((F_l.other W121 (Or.inl ne2)).other W124 (Or.inl ne3)).other W128 (Or.inr (slot_ne (Or.inl (hw _ (List.mem_of_getElem? (i := 22) rfl))) (Or.inl (hw _ (List.mem_of_getElem? (i := 20) rfl))) (by decide) (t := .int) (t' := .int) (by decide) (by decide)))).other W131 (Or.inl ne2))
      have f136 := ((((F_c.other W121 (Or.inl ne2)).other W124 (Or.inl ne3)).other W128 (Or.inr (slot_ne (Or.inr (hw _ (List.mem_of_getElem? (i := 25) rfl))) (Or.inl (hw _ (List.mem_of_getElem? (i := 20) rfl))) (by decide) (t := (.array .double)) (t' := .int) (by decide) (by decide)))).other W131 (Or.inl ne2))
      have f137 := (f129.other W131 (Or.inl ne2))
      have f138 := (((f122.other W124 (Or.inl ne3)).other W128 (Or.inr (slot_ne (Or.inr (hw _ (List.mem_of_getElem? (i := 34) rfl))) (Or.inl (hw _ (List.mem_of_getElem? (i := 20) rfl))) (by decide) (t := (.array .int)) (t' := .int) (by decide) (by decide)))).other W131 (Or.inl ne2))
      have f139 := ((G124.other W128 (Ne.symm ne3)).other W131 (Ne.symm ne6))
      refine Gl.fin X131 (v := none) (fun _ => rfl) Bd.notSynchronized ?_ e131 (by decide) (by decide) (fun fs hr => ?_)
      · exact ⟨rfl, N131, K131, f133, f134, f135, f136, f137, f138, G131, f139⟩
      · show Steps p.tables e below (s₁.setTop (mkF m 0 #[.val (.ref o1), .val (.int (enn none)), .val (.int (ixx s1)), .val (.int (enn (some nn)))] [])) _
        refine XS.aloadN X0.here hx rfl (hb hby d7_0) rfl rfl ?_
        show Steps p.tables e below (s₁.setTop (mkF m 1 #[.val (.ref o1), .val (.int (enn none)), .val (.int (ixx s1)), .val (.int (enn (some nn)))] [(.ref o1)])) _
        refine st120 _ ?_
        show Steps p.tables e below (T120.setTop (mkF m 4 #[.val (.ref o1), .val (.int (enn none)), .val (.int (ixx s1)), .val (.int (enn (some nn)))] [(.ref bb)])) _
        refine XS.iloadN X120.here hx rfl (hb hby d7_4) rfl ?_
        show Steps p.tables e below (T120.setTop (mkF m 5 #[.val (.ref o1), .val (.int (enn none)), .val (.int (ixx s1)), .val (.int (enn (some nn)))] [(.int (ixx s1)), (.ref bb)])) _
        refine XS.iloadN X120.here hx rfl (hb hby d7_5) rfl ?_
        show Steps p.tables e below (T120.setTop (mkF m 6 #[.val (.ref o1), .val (.int (enn none)), .val (.int (ixx s1)), .val (.int (enn (some nn)))] [(.int (enn none)), (.int (ixx s1)), (.ref bb)])) _
        refine st121 _ ?_
        show Steps p.tables e below (T121.setTop (mkF m 7 #[.val (.ref o1), .val (.int (enn none)), .val (.int (ixx s1)), .val (.int (enn (some nn)))] [])) _
        refine XS.aloadN X121.here hx rfl (hb hby d7_7) rfl rfl ?_
        show Steps p.tables e below (T121.setTop (mkF m 8 #[.val (.ref o1), .val (.int (enn none)), .val (.int (ixx s1)), .val (.int (enn (some nn)))] [(.ref o1)])) _
        refine st123 _ ?_
        show Steps p.tables e below (T123.setTop (mkF m 11 #[.val (.ref o1), .val (.int (enn none)), .val (.int (ixx s1)), .val (.int (enn (some nn)))] [(.ref ba)])) _
        refine XS.iloadN X123.here hx rfl (hb hby d7_11) rfl ?_
        show Steps p.tables e below (T123.setTop (mkF m 12 #[.val (.ref o1), .val (.int (enn none)), .val (.int (ixx s1)), .val (.int (enn (some nn)))] [(.int (ixx s1)), (.ref ba)])) _
        refine XS.iloadN X123.here hx rfl (hb hby d7_12) rfl ?_
        show Steps p.tables e below (T123.setTop (mkF m 13 #[.val (.ref o1), .val (.int (enn none)), .val (.int (ixx s1)), .val (.int (enn (some nn)))] [(.int (enn (some nn))), (.int (ixx s1)), (.ref ba)])) _
        refine st124 _ ?_
        show Steps p.tables e below (T124.setTop (mkF m 14 #[.val (.ref o1), .val (.int (enn none)), .val (.int (ixx s1)), .val (.int (enn (some nn)))] [])) _
        refine XS.iloadN X124.here hx rfl (hb hby d7_14) rfl ?_
        show Steps p.tables e below (T124.setTop (mkF m 15 #[.val (.ref o1), .val (.int (enn none)), .val (.int (ixx s1)), .val (.int (enn (some nn)))] [(.int (enn none))])) _
        refine XS.iconst X124.here hx rfl (hb hby d7_15) ?_
        show Steps p.tables e below (T124.setTop (mkF m 16 #[.val (.ref o1), .val (.int (enn none)), .val (.int (ixx s1)), .val (.int (enn (some nn)))] [(.int (-1 : Int32)), (.int (enn none))])) _
        refine XS.icmpNo X124.here hx rfl (hb hby d7_16) rfl (own_nf (ic_ne _ _) rfl) ?_
        show Steps p.tables e below (T124.setTop (mkF m 19 #[.val (.ref o1), .val (.int (enn none)), .val (.int (ixx s1)), .val (.int (enn (some nn)))] [])) _
        refine XS.aloadN X124.here hx rfl (hb hby d7_19) rfl rfl ?_
        show Steps p.tables e below (T124.setTop (mkF m 20 #[.val (.ref o1), .val (.int (enn none)), .val (.int (ixx s1)), .val (.int (enn (some nn)))] [(.ref o1)])) _
        refine XS.iloadN X124.here hx rfl (hb hby d7_20) rfl ?_
        show Steps p.tables e below (T124.setTop (mkF m 21 #[.val (.ref o1), .val (.int (enn none)), .val (.int (ixx s1)), .val (.int (enn (some nn)))] [(.int (ixx s1)), (.ref o1)])) _
        refine st128 _ ?_
        show Steps p.tables e below (T128.setTop (mkF m 24 #[.val (.ref o1), .val (.int (enn none)), .val (.int (ixx s1)), .val (.int (enn (some nn)))] [])) _
        refine XS.goto X128.here hx rfl (pc0 := 24) (pc' := 34) rfl (hb hby d7_24) (by decide) (by decide) ?_
        show Steps p.tables e below (T128.setTop (mkF m 34 #[.val (.ref o1), .val (.int (enn none)), .val (.int (ixx s1)), .val (.int (enn (some nn)))] [])) _
        refine XS.iloadN X128.here hx rfl (hb hby d7_34) rfl ?_
        show Steps p.tables e below (T128.setTop (mkF m 35 #[.val (.ref o1), .val (.int (enn none)), .val (.int (ixx s1)), .val (.int (enn (some nn)))] [(.int (enn (some nn)))])) _
        refine XS.iconst X128.here hx rfl (hb hby d7_35) ?_
        show Steps p.tables e below (T128.setTop (mkF m 36 #[.val (.ref o1), .val (.int (enn none)), .val (.int (ixx s1)), .val (.int (enn (some nn)))] [(.int (-1 : Int32)), (.int (enn (some nn)))])) _
        refine XS.icmpYes X128.here hx rfl (pc0 := 36) (pc' := 47) rfl (hb hby d7_36) rfl (own_nt (ic_ne _ _) (own_en_ne _)) (by decide) (by decide) ?_
        show Steps p.tables e below (T128.setTop (mkF m 47 #[.val (.ref o1), .val (.int (enn none)), .val (.int (ixx s1)), .val (.int (enn (some nn)))] [])) _
        refine XS.aloadN X128.here hx rfl (hb hby d7_47) rfl rfl ?_
        show Steps p.tables e below (T128.setTop (mkF m 48 #[.val (.ref o1), .val (.int (enn none)), .val (.int (ixx s1)), .val (.int (enn (some nn)))] [(.ref o1)])) _
        refine st130 _ ?_
        show Steps p.tables e below (T130.setTop (mkF m 51 #[.val (.ref o1), .val (.int (enn none)), .val (.int (ixx s1)), .val (.int (enn (some nn)))] [(.ref bb)])) _
        refine XS.iloadN X130.here hx rfl (hb hby d7_51) rfl ?_
        show Steps p.tables e below (T130.setTop (mkF m 52 #[.val (.ref o1), .val (.int (enn none)), .val (.int (ixx s1)), .val (.int (enn (some nn)))] [(.int (enn (some nn))), (.ref bb)])) _
        refine XS.iloadN X130.here hx rfl (hb hby d7_52) rfl ?_
        show Steps p.tables e below (T130.setTop (mkF m 53 #[.val (.ref o1), .val (.int (enn none)), .val (.int (ixx s1)), .val (.int (enn (some nn)))] [(.int (ixx s1)), (.int (enn (some nn))), (.ref bb)])) _
        refine st131 _ ?_
        show Steps p.tables e below (T131.setTop (mkF m 54 #[.val (.ref o1), .val (.int (enn none)), .val (.int (ixx s1)), .val (.int (enn (some nn)))] [])) _
        exact X131.returnOut hx Bd.returns (hb hby d7_54) hr
  · rcases nn with _ | nn
    · obtain ⟨T140, X140, e140, st140⟩ := getF X0 hx hZ hown (host := "") (Or.inl (hw _ (List.mem_of_getElem? (i := 31) rfl))) Via.refl e0 F_b (g := (mkF m 1 #[.val (.ref o1), .val (.int (enn (some pp))), .val (.int (ixx s1)), .val (.int (enn none))] [(.ref o1)])) rfl rfl (hb hby d7_1)
      obtain ⟨cl141, Ar141, Sa141, Ha141⟩ := id G_b
      have hin141 : ¬ ((ixx s1) < 0 ∨ cl141.slots.size ≤ ((ixx s1)).toNatClampNeg) := own_ing Sa141 s1
      obtain ⟨T141, h141, X141, e141, W141, st141⟩ := stI X140 hx hZ e140 Ar141 (j := (ixx s1)) hin141 (g := (mkF m 6 #[.val (.ref o1), .val (.int (enn (some pp))), .val (.int (ixx s1)), .val (.int (enn none))] [(.int (enn (some pp))), (.int (ixx s1)), (.ref bb)])) rfl rfl (hb hby d7_6)
      have G141 : ArG Z h141 bb .int (fun j => (.int (enn ((upp S1.b s1 (some pp)) j)))) := (ArG.set Ar141 Sa141 Ha141 (i := s1) W141).congr (fun j => by unfold upp; split <;> rfl)
      have K141 : Keep h0 h141 [o1, bb, ba] := K0.wr W141 (Or.inl (List.mem_of_getElem? (i := 1) rfl))
      have N141 := Fr.snoc X141 N0 g_bb
      have f142 := (F_a.other W141 (Or.inl ne2))
      obtain ⟨T143, X143, e143, st143⟩ := getF X141 hx hZ hown (host := "") (Or.inl (hw _ (List.mem_of_getElem? (i := 33) rfl))) Via.refl e141 f142 (g := (mkF m 8 #[.val (.ref o1), .val (.int (enn (some pp))), .val (.int (ixx s1)), .val (.int (enn none))] [(.ref o1)])) rfl rfl (hb hby d7_8)
      have f145 := (G_a.other W141 (Ne.symm ne6))
      obtain ⟨cl144, Ar144, Sa144, Ha144⟩ := id f145
      have hin144 : ¬ ((ixx s1) < 0 ∨ cl144.slots.size ≤ ((ixx s1)).toNatClampNeg) := own_ing Sa144 s1
      obtain ⟨T144, h144, X144, e144, W144, st144⟩ := stI X143 hx hZ e143 Ar144 (j := (ixx s1)) hin144 (g := (mkF m 13 #[.val (.ref o1), .val (.int (enn (some pp))), .val (.int (ixx s1)), .val (.int (enn none))] [(.int (enn none)), (.int (ixx s1)), (.ref ba)])) rfl rfl (hb hby d7_13)
      have G144 : ArG Z h144 ba .int (fun j => (.int (enn ((upp S1.a s1 none) j)))) := (ArG.set Ar144 Sa144 Ha144 (i := s1) W144).congr (fun j => by unfold upp; split <;> rfl)
      have K144 : Keep h0 h144 [o1, bb, ba] := K141.wr W144 (Or.inl (List.mem_of_getElem? (i := 2) rfl))
      have N144 := Fr.snoc X144 N141 g_ba
      have f146 := (f142.other W144 (Or.inl ne3))
      obtain ⟨T147, X147, e147, st147⟩ := getF X144 hx hZ hown (host := "") (Or.inl (hw _ (List.mem_of_getElem? (i := 33) rfl))) Via.refl e144 f146 (g := (mkF m 28 #[.val (.ref o1), .val (.int (enn (some pp))), .val (.int (ixx s1)), .val (.int (enn none))] [(.ref o1)])) rfl rfl (hb hby d7_28)
      obtain ⟨cl148, Ar148, Sa148, Ha148⟩ := id G144
      have hin148 : ¬ ((enn (some pp)) < 0 ∨ cl148.slots.size ≤ ((enn (some pp))).toNatClampNeg) := own_ing Sa148 pp
      obtain ⟨T148, h148, X148, e148, W148, st148⟩ := stI X147 hx hZ e147 Ar148 (j := (enn (some pp))) hin148 (g := (mkF m 33 #[.val (.ref o1), .val (.int (enn (some pp))), .val (.int (ixx s1)), .val (.int (enn none))] [(.int (ixx s1)), (.int (enn (some pp))), (.ref ba)])) rfl rfl (hb hby d7_33)
      have G148 : ArG Z h148 ba .int (fun j => (.int (enn ((upp (upp S1.a s1 none) pp (some s1)) j)))) := (ArG.set Ar148 Sa148 Ha148 (i := pp) W148).congr (fun j => by unfold upp; split <;> rfl)
      have K148 : Keep h0 h148 [o1, bb, ba] := K144.wr W148 (Or.inl (List.mem_of_getElem? (i := 2) rfl))
      have N148 := Fr.snoc X148 N144 g_ba
      have f149 := (((F_l.other W141 (Or.inl ne2)).other W144 (Or.inl ne3)).other W148 (Or.inl ne3))
      have f150 := (((E_o.wr W141).wr W144).wr W148)
      obtain ⟨T151, h151, X151, e151, W151, st151⟩ := putF X148 hx hZ hown (host := "") (Or.inl (hw _ (List.mem_of_getElem? (i := 21) rfl))) Via.refl e148 f149 f150 (Or.inl (hw _ (List.mem_of_getElem? (i := 22) rfl))) (hw _ (List.mem_of_getElem? (i := 11) rfl)) (ty := .int) (by decide) rfl rfl (g := (mkF m 41 #[.val (.ref o1), .val (.int (enn (some pp))), .val (.int (ixx s1)), .val (.int (enn none))] [(.int (ixx s1)), (.ref o1)])) rfl rfl (hb hby d7_41)
      have Fw151 := f149.same W151
      have K151 : Keep h0 h151 [o1, bb, ba] := K148.wr W151 (Or.inl (List.mem_of_getElem? (i := 0) rfl))
      have N151 := Fr.snoc X151 N148 g_o1
      have f152 := (f150.wr W151)
      have f153 := ((((F_f.other W141 (Or.inl ne2)).other W144 (Or.inl ne3)).other W148 (Or.inl ne3)).other W151 (Or.inr (slot_ne (Or.inl (hw _ (List.mem_of_getElem? (i := 20) rfl))) (Or.inl (hw _ (List.mem_of_getElem? (i := 22) rfl))) (by decide) (t := .int) (t' := .int) (by decide) (by decide))))
      have f154 := ((((F_c.other W141 (Or.inl ne2)).other W144 (Or.inl ne3)).other W148 (Or.inl ne3)).other W151 (Or.inr (slot_ne (Or.inr (hw _ (List.mem_of_getElem? (i := 25) rfl))) (Or.inl (hw _ (List.mem_of_getElem? (i := 22) rfl))) (by decide) (t := (.array .double)) (t' := .int) (by decide) (by decide))))
      have f155 := ((((F_b.other W141 (Or.inl ne2)).other W144 (Or.inl ne3)).other W148 (Or.inl ne3)).other W151 (Or.inr (slot_ne (Or.inr (hw _ (List.mem_of_getElem? (i := 32) rfl))) (Or.inl (hw _ (List.mem_of_getElem? (i := 22) rfl))) (by decide) (t := (.array .int)) (t' := .int) (by decide) (by decide))))
      have f156 := ((f146.other W148 (Or.inl ne3)).other W151 (Or.inr (slot_ne (Or.inr (hw _ (List.mem_of_getElem? (i := 34) rfl))) (Or.inl (hw _ (List.mem_of_getElem? (i := 22) rfl))) (by decide) (t := (.array .int)) (t' := .int) (by decide) (by decide))))
      have f157 := (((G141.other W144 ne6).other W148 ne6).other W151 (Ne.symm ne2))
      have f158 := (G148.other W151 (Ne.symm ne3))
      refine Gl.fin X151 (v := none) (fun _ => rfl) Bd.notSynchronized ?_ e151 (by decide) (by decide) (fun fs hr => ?_)
      · exact ⟨rfl, N151, K151, f152, f153, Fw151, f154, f155, f156, f157, f158⟩
      · show Steps p.tables e below (s₁.setTop (mkF m 0 #[.val (.ref o1), .val (.int (enn (some pp))), .val (.int (ixx s1)), .val (.int (enn none))] [])) _
        refine XS.aloadN X0.here hx rfl (hb hby d7_0) rfl rfl ?_
        show Steps p.tables e below (s₁.setTop (mkF m 1 #[.val (.ref o1), .val (.int (enn (some pp))), .val (.int (ixx s1)), .val (.int (enn none))] [(.ref o1)])) _
        refine st140 _ ?_
        show Steps p.tables e below (T140.setTop (mkF m 4 #[.val (.ref o1), .val (.int (enn (some pp))), .val (.int (ixx s1)), .val (.int (enn none))] [(.ref bb)])) _
        refine XS.iloadN X140.here hx rfl (hb hby d7_4) rfl ?_
        show Steps p.tables e below (T140.setTop (mkF m 5 #[.val (.ref o1), .val (.int (enn (some pp))), .val (.int (ixx s1)), .val (.int (enn none))] [(.int (ixx s1)), (.ref bb)])) _
        refine XS.iloadN X140.here hx rfl (hb hby d7_5) rfl ?_
        show Steps p.tables e below (T140.setTop (mkF m 6 #[.val (.ref o1), .val (.int (enn (some pp))), .val (.int (ixx s1)), .val (.int (enn none))] [(.int (enn (some pp))), (.int (ixx s1)), (.ref bb)])) _
        refine st141 _ ?_
        show Steps p.tables e below (T141.setTop (mkF m 7 #[.val (.ref o1), .val (.int (enn (some pp))), .val (.int (ixx s1)), .val (.int (enn none))] [])) _
        refine XS.aloadN X141.here hx rfl (hb hby d7_7) rfl rfl ?_
        show Steps p.tables e below (T141.setTop (mkF m 8 #[.val (.ref o1), .val (.int (enn (some pp))), .val (.int (ixx s1)), .val (.int (enn none))] [(.ref o1)])) _
        refine st143 _ ?_
        show Steps p.tables e below (T143.setTop (mkF m 11 #[.val (.ref o1), .val (.int (enn (some pp))), .val (.int (ixx s1)), .val (.int (enn none))] [(.ref ba)])) _
        refine XS.iloadN X143.here hx rfl (hb hby d7_11) rfl ?_
        show Steps p.tables e below (T143.setTop (mkF m 12 #[.val (.ref o1), .val (.int (enn (some pp))), .val (.int (ixx s1)), .val (.int (enn none))] [(.int (ixx s1)), (.ref ba)])) _
        refine XS.iloadN X143.here hx rfl (hb hby d7_12) rfl ?_
        show Steps p.tables e below (T143.setTop (mkF m 13 #[.val (.ref o1), .val (.int (enn (some pp))), .val (.int (ixx s1)), .val (.int (enn none))] [(.int (enn none)), (.int (ixx s1)), (.ref ba)])) _
        refine st144 _ ?_
        show Steps p.tables e below (T144.setTop (mkF m 14 #[.val (.ref o1), .val (.int (enn (some pp))), .val (.int (ixx s1)), .val (.int (enn none))] [])) _
        refine XS.iloadN X144.here hx rfl (hb hby d7_14) rfl ?_
        show Steps p.tables e below (T144.setTop (mkF m 15 #[.val (.ref o1), .val (.int (enn (some pp))), .val (.int (ixx s1)), .val (.int (enn none))] [(.int (enn (some pp)))])) _
        refine XS.iconst X144.here hx rfl (hb hby d7_15) ?_
        show Steps p.tables e below (T144.setTop (mkF m 16 #[.val (.ref o1), .val (.int (enn (some pp))), .val (.int (ixx s1)), .val (.int (enn none))] [(.int (-1 : Int32)), (.int (enn (some pp)))])) _
        refine XS.icmpYes X144.here hx rfl (pc0 := 16) (pc' := 27) rfl (hb hby d7_16) rfl (own_nt (ic_ne _ _) (own_en_ne _)) (by decide) (by decide) ?_
        show Steps p.tables e below (T144.setTop (mkF m 27 #[.val (.ref o1), .val (.int (enn (some pp))), .val (.int (ixx s1)), .val (.int (enn none))] [])) _
        refine XS.aloadN X144.here hx rfl (hb hby d7_27) rfl rfl ?_
        show Steps p.tables e below (T144.setTop (mkF m 28 #[.val (.ref o1), .val (.int (enn (some pp))), .val (.int (ixx s1)), .val (.int (enn none))] [(.ref o1)])) _
        refine st147 _ ?_
        show Steps p.tables e below (T147.setTop (mkF m 31 #[.val (.ref o1), .val (.int (enn (some pp))), .val (.int (ixx s1)), .val (.int (enn none))] [(.ref ba)])) _
        refine XS.iloadN X147.here hx rfl (hb hby d7_31) rfl ?_
        show Steps p.tables e below (T147.setTop (mkF m 32 #[.val (.ref o1), .val (.int (enn (some pp))), .val (.int (ixx s1)), .val (.int (enn none))] [(.int (enn (some pp))), (.ref ba)])) _
        refine XS.iloadN X147.here hx rfl (hb hby d7_32) rfl ?_
        show Steps p.tables e below (T147.setTop (mkF m 33 #[.val (.ref o1), .val (.int (enn (some pp))), .val (.int (ixx s1)), .val (.int (enn none))] [(.int (ixx s1)), (.int (enn (some pp))), (.ref ba)])) _
        refine st148 _ ?_
        show Steps p.tables e below (T148.setTop (mkF m 34 #[.val (.ref o1), .val (.int (enn (some pp))), .val (.int (ixx s1)), .val (.int (enn none))] [])) _
        refine XS.iloadN X148.here hx rfl (hb hby d7_34) rfl ?_
        show Steps p.tables e below (T148.setTop (mkF m 35 #[.val (.ref o1), .val (.int (enn (some pp))), .val (.int (ixx s1)), .val (.int (enn none))] [(.int (enn none))])) _
        refine XS.iconst X148.here hx rfl (hb hby d7_35) ?_
        show Steps p.tables e below (T148.setTop (mkF m 36 #[.val (.ref o1), .val (.int (enn (some pp))), .val (.int (ixx s1)), .val (.int (enn none))] [(.int (-1 : Int32)), (.int (enn none))])) _
        refine XS.icmpNo X148.here hx rfl (hb hby d7_36) rfl (own_nf (ic_ne _ _) rfl) ?_
        show Steps p.tables e below (T148.setTop (mkF m 39 #[.val (.ref o1), .val (.int (enn (some pp))), .val (.int (ixx s1)), .val (.int (enn none))] [])) _
        refine XS.aloadN X148.here hx rfl (hb hby d7_39) rfl rfl ?_
        show Steps p.tables e below (T148.setTop (mkF m 40 #[.val (.ref o1), .val (.int (enn (some pp))), .val (.int (ixx s1)), .val (.int (enn none))] [(.ref o1)])) _
        refine XS.iloadN X148.here hx rfl (hb hby d7_40) rfl ?_
        show Steps p.tables e below (T148.setTop (mkF m 41 #[.val (.ref o1), .val (.int (enn (some pp))), .val (.int (ixx s1)), .val (.int (enn none))] [(.int (ixx s1)), (.ref o1)])) _
        refine st151 _ ?_
        show Steps p.tables e below (T151.setTop (mkF m 44 #[.val (.ref o1), .val (.int (enn (some pp))), .val (.int (ixx s1)), .val (.int (enn none))] [])) _
        refine XS.goto X151.here hx rfl (pc0 := 44) (pc' := 54) rfl (hb hby d7_44) (by decide) (by decide) ?_
        show Steps p.tables e below (T151.setTop (mkF m 54 #[.val (.ref o1), .val (.int (enn (some pp))), .val (.int (ixx s1)), .val (.int (enn none))] [])) _
        exact X151.returnOut hx Bd.returns (hb hby d7_54) hr
    · obtain ⟨T159, X159, e159, st159⟩ := getF X0 hx hZ hown (host := "") (Or.inl (hw _ (List.mem_of_getElem? (i := 31) rfl))) Via.refl e0 F_b (g := (mkF m 1 #[.val (.ref o1), .val (.int (enn (some pp))), .val (.int (ixx s1)), .val (.int (enn (some nn)))] [(.ref o1)])) rfl rfl (hb hby d7_1)
      obtain ⟨cl160, Ar160, Sa160, Ha160⟩ := id G_b
      have hin160 : ¬ ((ixx s1) < 0 ∨ cl160.slots.size ≤ ((ixx s1)).toNatClampNeg) := own_ing Sa160 s1
      obtain ⟨T160, h160, X160, e160, W160, st160⟩ := stI X159 hx hZ e159 Ar160 (j := (ixx s1)) hin160 (g := (mkF m 6 #[.val (.ref o1), .val (.int (enn (some pp))), .val (.int (ixx s1)), .val (.int (enn (some nn)))] [(.int (enn (some pp))), (.int (ixx s1)), (.ref bb)])) rfl rfl (hb hby d7_6)
      have G160 : ArG Z h160 bb .int (fun j => (.int (enn ((upp S1.b s1 (some pp)) j)))) := (ArG.set Ar160 Sa160 Ha160 (i := s1) W160).congr (fun j => by unfold upp; split <;> rfl)
      have K160 : Keep h0 h160 [o1, bb, ba] := K0.wr W160 (Or.inl (List.mem_of_getElem? (i := 1) rfl))
      have N160 := Fr.snoc X160 N0 g_bb
      have f161 := (F_a.other W160 (Or.inl ne2))
      obtain ⟨T162, X162, e162, st162⟩ := getF X160 hx hZ hown (host := "") (Or.inl (hw _ (List.mem_of_getElem? (i := 33) rfl))) Via.refl e160 f161 (g := (mkF m 8 #[.val (.ref o1), .val (.int (enn (some pp))), .val (.int (ixx s1)), .val (.int (enn (some nn)))] [(.ref o1)])) rfl rfl (hb hby d7_8)
      have f164 := (G_a.other W160 (Ne.symm ne6))
      obtain ⟨cl163, Ar163, Sa163, Ha163⟩ := id f164
      have hin163 : ¬ ((ixx s1) < 0 ∨ cl163.slots.size ≤ ((ixx s1)).toNatClampNeg) := own_ing Sa163 s1
      obtain ⟨T163, h163, X163, e163, W163, st163⟩ := stI X162 hx hZ e162 Ar163 (j := (ixx s1)) hin163 (g := (mkF m 13 #[.val (.ref o1), .val (.int (enn (some pp))), .val (.int (ixx s1)), .val (.int (enn (some nn)))] [(.int (enn (some nn))), (.int (ixx s1)), (.ref ba)])) rfl rfl (hb hby d7_13)
      have G163 : ArG Z h163 ba .int (fun j => (.int (enn ((upp S1.a s1 (some nn)) j)))) := (ArG.set Ar163 Sa163 Ha163 (i := s1) W163).congr (fun j => by unfold upp; split <;> rfl)
      have K163 : Keep h0 h163 [o1, bb, ba] := K160.wr W163 (Or.inl (List.mem_of_getElem? (i := 2) rfl))
      have N163 := Fr.snoc X163 N160 g_ba
      have f165 := (f161.other W163 (Or.inl ne3))
      obtain ⟨T166, X166, e166, st166⟩ := getF X163 hx hZ hown (host := "") (Or.inl (hw _ (List.mem_of_getElem? (i := 33) rfl))) Via.refl e163 f165 (g := (mkF m 28 #[.val (.ref o1), .val (.int (enn (some pp))), .val (.int (ixx s1)), .val (.int (enn (some nn)))] [(.ref o1)])) rfl rfl (hb hby d7_28)
      obtain ⟨cl167, Ar167, Sa167, Ha167⟩ := id G163
      have hin167 : ¬ ((enn (some pp)) < 0 ∨ cl167.slots.size ≤ ((enn (some pp))).toNatClampNeg) := own_ing Sa167 pp
      obtain ⟨T167, h167, X167, e167, W167, st167⟩ := stI X166 hx hZ e166 Ar167 (j := (enn (some pp))) hin167 (g := (mkF m 33 #[.val (.ref o1), .val (.int (enn (some pp))), .val (.int (ixx s1)), .val (.int (enn (some nn)))] [(.int (ixx s1)), (.int (enn (some pp))), (.ref ba)])) rfl rfl (hb hby d7_33)
      have G167 : ArG Z h167 ba .int (fun j => (.int (enn ((upp (upp S1.a s1 (some nn)) pp (some s1)) j)))) := (ArG.set Ar167 Sa167 Ha167 (i := pp) W167).congr (fun j => by unfold upp; split <;> rfl)
      have K167 : Keep h0 h167 [o1, bb, ba] := K163.wr W167 (Or.inl (List.mem_of_getElem? (i := 2) rfl))
      have N167 := Fr.snoc X167 N163 g_ba
      have f168 := (((F_b.other W160 (Or.inl ne2)).other W163 (Or.inl ne3)).other W167 (Or.inl ne3))
      obtain ⟨T169, X169, e169, st169⟩ := getF X167 hx hZ hown (host := "") (Or.inl (hw _ (List.mem_of_getElem? (i := 31) rfl))) Via.refl e167 f168 (g := (mkF m 48 #[.val (.ref o1), .val (.int (enn (some pp))), .val (.int (ixx s1)), .val (.int (enn (some nn)))] [(.ref o1)])) rfl rfl (hb hby d7_48)
      have f171 := ((G160.other W163 ne6).other W167 ne6)
      obtain ⟨cl170, Ar170, Sa170, Ha170⟩ := id f171
      have hin170 : ¬ ((enn (some nn)) < 0 ∨ cl170.slots.size ≤ ((enn (some nn))).toNatClampNeg) := own_ing Sa170 nn
      obtain ⟨T170, h170, X170, e170, W170, st170⟩ := stI X169 hx hZ e169 Ar170 (j := (enn (some nn))) hin170 (g := (mkF m 53 #[.val (.ref o1), .val (.int (enn (some pp))), .val (.int (ixx s1)), .val (.int (enn (some nn)))] [(.int (ixx s1)), (.int (enn (some nn))), (.ref bb)])) rfl rfl (hb hby d7_53)
      have G170 : ArG Z h170 bb .int (fun j => (.int (enn ((upp (upp S1.b s1 (some pp)) nn (some s1)) j)))) := (ArG.set Ar170 Sa170 Ha170 (i := nn) W170).congr (fun j => by unfold upp; split <;> rfl)
      have K170 : Keep h0 h170 [o1, bb, ba] := K167.wr W170 (Or.inl (List.mem_of_getElem? (i := 1) rfl))
      have N170 := Fr.snoc X170 N167 g_bb
      have f172 := ((((E_o.wr W160).wr W163).wr W167).wr W170)
      have f173 := ((((F_f.other W160 (Or.inl ne2)).other W163 (Or.inl ne3)).other W167 (Or.inl ne3)).other W170 (Or.inl ne2))
      have f174 := ((((F_l.other W160 (Or.inl ne2)).other W163 (Or.inl ne3)).other W167 (Or.inl ne3)).other W170 (Or.inl ne2))
      have f175 := ((((F_c.other W160 (Or.inl ne2)).other W163 (Or.inl ne3)).other W167 (Or.inl ne3)).other W170 (Or.inl ne2))
      have f176 := (f168.other W170 (Or.inl ne2))
      have f177 := ((f165.other W167 (Or.inl ne3)).other W170 (Or.inl ne2))
      have f178 := (G167.other W170 (Ne.symm ne6))
      refine Gl.fin X170 (v := none) (fun _ => rfl) Bd.notSynchronized ?_ e170 (by decide) (by decide) (fun fs hr => ?_)
      · exact ⟨rfl, N170, K170, f172, f173, f174, f175, f176, f177, G170, f178⟩
      · show Steps p.tables e below (s₁.setTop (mkF m 0 #[.val (.ref o1), .val (.int (enn (some pp))), .val (.int (ixx s1)), .val (.int (enn (some nn)))] [])) _
        refine XS.aloadN X0.here hx rfl (hb hby d7_0) rfl rfl ?_
        show Steps p.tables e below (s₁.setTop (mkF m 1 #[.val (.ref o1), .val (.int (enn (some pp))), .val (.int (ixx s1)), .val (.int (enn (some nn)))] [(.ref o1)])) _
        refine st159 _ ?_
        show Steps p.tables e below (T159.setTop (mkF m 4 #[.val (.ref o1), .val (.int (enn (some pp))), .val (.int (ixx s1)), .val (.int (enn (some nn)))] [(.ref bb)])) _
        refine XS.iloadN X159.here hx rfl (hb hby d7_4) rfl ?_
        show Steps p.tables e below (T159.setTop (mkF m 5 #[.val (.ref o1), .val (.int (enn (some pp))), .val (.int (ixx s1)), .val (.int (enn (some nn)))] [(.int (ixx s1)), (.ref bb)])) _
        refine XS.iloadN X159.here hx rfl (hb hby d7_5) rfl ?_
        show Steps p.tables e below (T159.setTop (mkF m 6 #[.val (.ref o1), .val (.int (enn (some pp))), .val (.int (ixx s1)), .val (.int (enn (some nn)))] [(.int (enn (some pp))), (.int (ixx s1)), (.ref bb)])) _
        refine st160 _ ?_
        show Steps p.tables e below (T160.setTop (mkF m 7 #[.val (.ref o1), .val (.int (enn (some pp))), .val (.int (ixx s1)), .val (.int (enn (some nn)))] [])) _
        refine XS.aloadN X160.here hx rfl (hb hby d7_7) rfl rfl ?_
        show Steps p.tables e below (T160.setTop (mkF m 8 #[.val (.ref o1), .val (.int (enn (some pp))), .val (.int (ixx s1)), .val (.int (enn (some nn)))] [(.ref o1)])) _
        refine st162 _ ?_
        show Steps p.tables e below (T162.setTop (mkF m 11 #[.val (.ref o1), .val (.int (enn (some pp))), .val (.int (ixx s1)), .val (.int (enn (some nn)))] [(.ref ba)])) _
        refine XS.iloadN X162.here hx rfl (hb hby d7_11) rfl ?_
        show Steps p.tables e below (T162.setTop (mkF m 12 #[.val (.ref o1), .val (.int (enn (some pp))), .val (.int (ixx s1)), .val (.int (enn (some nn)))] [(.int (ixx s1)), (.ref ba)])) _
        refine XS.iloadN X162.here hx rfl (hb hby d7_12) rfl ?_
        show Steps p.tables e below (T162.setTop (mkF m 13 #[.val (.ref o1), .val (.int (enn (some pp))), .val (.int (ixx s1)), .val (.int (enn (some nn)))] [(.int (enn (some nn))), (.int (ixx s1)), (.ref ba)])) _
        refine st163 _ ?_
        show Steps p.tables e below (T163.setTop (mkF m 14 #[.val (.ref o1), .val (.int (enn (some pp))), .val (.int (ixx s1)), .val (.int (enn (some nn)))] [])) _
        refine XS.iloadN X163.here hx rfl (hb hby d7_14) rfl ?_
        show Steps p.tables e below (T163.setTop (mkF m 15 #[.val (.ref o1), .val (.int (enn (some pp))), .val (.int (ixx s1)), .val (.int (enn (some nn)))] [(.int (enn (some pp)))])) _
        refine XS.iconst X163.here hx rfl (hb hby d7_15) ?_
        show Steps p.tables e below (T163.setTop (mkF m 16 #[.val (.ref o1), .val (.int (enn (some pp))), .val (.int (ixx s1)), .val (.int (enn (some nn)))] [(.int (-1 : Int32)), (.int (enn (some pp)))])) _
        refine XS.icmpYes X163.here hx rfl (pc0 := 16) (pc' := 27) rfl (hb hby d7_16) rfl (own_nt (ic_ne _ _) (own_en_ne _)) (by decide) (by decide) ?_
        show Steps p.tables e below (T163.setTop (mkF m 27 #[.val (.ref o1), .val (.int (enn (some pp))), .val (.int (ixx s1)), .val (.int (enn (some nn)))] [])) _
        refine XS.aloadN X163.here hx rfl (hb hby d7_27) rfl rfl ?_
        show Steps p.tables e below (T163.setTop (mkF m 28 #[.val (.ref o1), .val (.int (enn (some pp))), .val (.int (ixx s1)), .val (.int (enn (some nn)))] [(.ref o1)])) _
        refine st166 _ ?_
        show Steps p.tables e below (T166.setTop (mkF m 31 #[.val (.ref o1), .val (.int (enn (some pp))), .val (.int (ixx s1)), .val (.int (enn (some nn)))] [(.ref ba)])) _
        refine XS.iloadN X166.here hx rfl (hb hby d7_31) rfl ?_
        show Steps p.tables e below (T166.setTop (mkF m 32 #[.val (.ref o1), .val (.int (enn (some pp))), .val (.int (ixx s1)), .val (.int (enn (some nn)))] [(.int (enn (some pp))), (.ref ba)])) _
        refine XS.iloadN X166.here hx rfl (hb hby d7_32) rfl ?_
        show Steps p.tables e below (T166.setTop (mkF m 33 #[.val (.ref o1), .val (.int (enn (some pp))), .val (.int (ixx s1)), .val (.int (enn (some nn)))] [(.int (ixx s1)), (.int (enn (some pp))), (.ref ba)])) _
        refine st167 _ ?_
        show Steps p.tables e below (T167.setTop (mkF m 34 #[.val (.ref o1), .val (.int (enn (some pp))), .val (.int (ixx s1)), .val (.int (enn (some nn)))] [])) _
        refine XS.iloadN X167.here hx rfl (hb hby d7_34) rfl ?_
        show Steps p.tables e below (T167.setTop (mkF m 35 #[.val (.ref o1), .val (.int (enn (some pp))), .val (.int (ixx s1)), .val (.int (enn (some nn)))] [(.int (enn (some nn)))])) _
        refine XS.iconst X167.here hx rfl (hb hby d7_35) ?_
        show Steps p.tables e below (T167.setTop (mkF m 36 #[.val (.ref o1), .val (.int (enn (some pp))), .val (.int (ixx s1)), .val (.int (enn (some nn)))] [(.int (-1 : Int32)), (.int (enn (some nn)))])) _
        refine XS.icmpYes X167.here hx rfl (pc0 := 36) (pc' := 47) rfl (hb hby d7_36) rfl (own_nt (ic_ne _ _) (own_en_ne _)) (by decide) (by decide) ?_
        show Steps p.tables e below (T167.setTop (mkF m 47 #[.val (.ref o1), .val (.int (enn (some pp))), .val (.int (ixx s1)), .val (.int (enn (some nn)))] [])) _
        refine XS.aloadN X167.here hx rfl (hb hby d7_47) rfl rfl ?_
        show Steps p.tables e below (T167.setTop (mkF m 48 #[.val (.ref o1), .val (.int (enn (some pp))), .val (.int (ixx s1)), .val (.int (enn (some nn)))] [(.ref o1)])) _
        refine st169 _ ?_
        show Steps p.tables e below (T169.setTop (mkF m 51 #[.val (.ref o1), .val (.int (enn (some pp))), .val (.int (ixx s1)), .val (.int (enn (some nn)))] [(.ref bb)])) _
        refine XS.iloadN X169.here hx rfl (hb hby d7_51) rfl ?_
        show Steps p.tables e below (T169.setTop (mkF m 52 #[.val (.ref o1), .val (.int (enn (some pp))), .val (.int (ixx s1)), .val (.int (enn (some nn)))] [(.int (enn (some nn))), (.ref bb)])) _
        refine XS.iloadN X169.here hx rfl (hb hby d7_52) rfl ?_
        show Steps p.tables e below (T169.setTop (mkF m 53 #[.val (.ref o1), .val (.int (enn (some pp))), .val (.int (ixx s1)), .val (.int (enn (some nn)))] [(.int (ixx s1)), (.int (enn (some nn))), (.ref bb)])) _
        refine st170 _ ?_
        show Steps p.tables e below (T170.setTop (mkF m 54 #[.val (.ref o1), .val (.int (enn (some pp))), .val (.int (ixx s1)), .val (.int (enn (some nn)))] [])) _
        exact X170.returnOut hx Bd.returns (hb hby d7_54) hr
theorem ef_rm6 (m : MethodId) (x0 : Addr) (x1 : Int32) : entryFrame m #[(.ref x0), (.int x1)] 3 = mkF m 0 #[.val (.ref x0), .val (.int x1), .unset] [] := by first | (simp [entryFrame, mkF, argsToLocals, Value.category]; done) | rfl
theorem d6_0 : decode prog_31_method_3_code 0 = .ok (.aload_n 0, 1) := by decide +kernel
theorem d6_1 : decode prog_31_method_3_code 1 = .ok (.getfield 9, 3) := by decide +kernel
theorem d6_4 : decode prog_31_method_3_code 4 = .ok (.iconst (-1), 1) := by decide +kernel
theorem d6_5 : decode prog_31_method_3_code 5 = .ok (.if_icmp .ne 13, 3) := by decide +kernel
theorem d6_8 : decode prog_31_method_3_code 8 = .ok (.aload_n 0, 1) := by decide +kernel
theorem d6_9 : decode prog_31_method_3_code 9 = .ok (.iconst (-1), 1) := by decide +kernel
theorem d6_10 : decode prog_31_method_3_code 10 = .ok (.iload_n 1, 1) := by decide +kernel
theorem d6_11 : decode prog_31_method_3_code 11 = .ok (.iconst (-1), 1) := by decide +kernel
theorem d6_12 : decode prog_31_method_3_code 12 = .ok (.invokevirtual 37, 3) := by decide +kernel
theorem pd__III_V : parseMethodDescriptor "(III)V" = some ⟨[.int, .int, .int], none⟩ := by decide +kernel
theorem d6_15 : decode prog_31_method_3_code 15 = .ok (.goto 64, 3) := by decide +kernel
theorem d6_79 : decode prog_31_method_3_code 79 = .ok (.return_, 1) := by decide +kernel
theorem d6_18 : decode prog_31_method_3_code 18 = .ok (.aload_n 0, 1) := by decide +kernel
theorem d6_19 : decode prog_31_method_3_code 19 = .ok (.iload_n 1, 1) := by decide +kernel
theorem d6_20 : decode prog_31_method_3_code 20 = .ok (.aload_n 0, 1) := by decide +kernel
theorem d6_21 : decode prog_31_method_3_code 21 = .ok (.getfield 9, 3) := by decide +kernel
theorem d6_24 : decode prog_31_method_3_code 24 = .ok (.invokevirtual 41, 3) := by decide +kernel
theorem pd__II_Z : parseMethodDescriptor "(II)Z" = some ⟨[.int, .int], some .boolean⟩ := by decide +kernel
theorem d6_27 : decode prog_31_method_3_code 27 = .ok (.ifCond .eq 16, 3) := by decide +kernel
theorem d6_30 : decode prog_31_method_3_code 30 = .ok (.aload_n 0, 1) := by decide +kernel
theorem d6_31 : decode prog_31_method_3_code 31 = .ok (.iconst (-1), 1) := by decide +kernel
theorem d6_32 : decode prog_31_method_3_code 32 = .ok (.iload_n 1, 1) := by decide +kernel
theorem d6_33 : decode prog_31_method_3_code 33 = .ok (.aload_n 0, 1) := by decide +kernel
theorem d6_34 : decode prog_31_method_3_code 34 = .ok (.getfield 9, 3) := by decide +kernel
theorem d6_37 : decode prog_31_method_3_code 37 = .ok (.invokevirtual 37, 3) := by decide +kernel
theorem d6_40 : decode prog_31_method_3_code 40 = .ok (.goto 39, 3) := by decide +kernel
theorem d6_43 : decode prog_31_method_3_code 43 = .ok (.aload_n 0, 1) := by decide +kernel
theorem d6_44 : decode prog_31_method_3_code 44 = .ok (.getfield 13, 3) := by decide +kernel
theorem d6_47 : decode prog_31_method_3_code 47 = .ok (.istore_n 2, 1) := by decide +kernel
theorem d6_48 : decode prog_31_method_3_code 48 = .ok (.aload_n 0, 1) := by decide +kernel
theorem d6_49 : decode prog_31_method_3_code 49 = .ok (.iload_n 1, 1) := by decide +kernel
theorem d6_50 : decode prog_31_method_3_code 50 = .ok (.iload_n 2, 1) := by decide +kernel
theorem d6_51 : decode prog_31_method_3_code 51 = .ok (.invokevirtual 41, 3) := by decide +kernel
theorem d6_54 : decode prog_31_method_3_code 54 = .ok (.ifCond .eq 13, 3) := by decide +kernel
theorem d6_57 : decode prog_31_method_3_code 57 = .ok (.aload_n 0, 1) := by decide +kernel
theorem d6_58 : decode prog_31_method_3_code 58 = .ok (.getfield 30, 3) := by decide +kernel
theorem d6_61 : decode prog_31_method_3_code 61 = .ok (.iload_n 2, 1) := by decide +kernel
theorem d6_62 : decode prog_31_method_3_code 62 = .ok (.iaload, 1) := by decide +kernel
theorem d6_63 : decode prog_31_method_3_code 63 = .ok (.istore_n 2, 1) := by decide +kernel
theorem d6_64 : decode prog_31_method_3_code 64 = .ok (.goto (-16), 3) := by decide +kernel
theorem d6_67 : decode prog_31_method_3_code 67 = .ok (.aload_n 0, 1) := by decide +kernel
theorem d6_68 : decode prog_31_method_3_code 68 = .ok (.iload_n 2, 1) := by decide +kernel
theorem d6_69 : decode prog_31_method_3_code 69 = .ok (.iload_n 1, 1) := by decide +kernel
theorem d6_70 : decode prog_31_method_3_code 70 = .ok (.aload_n 0, 1) := by decide +kernel
theorem d6_71 : decode prog_31_method_3_code 71 = .ok (.getfield 34, 3) := by decide +kernel
theorem d6_74 : decode prog_31_method_3_code 74 = .ok (.iload_n 2, 1) := by decide +kernel
theorem d6_75 : decode prog_31_method_3_code 75 = .ok (.iaload, 1) := by decide +kernel
theorem d6_76 : decode prog_31_method_3_code 76 = .ok (.invokevirtual 37, 3) := by decide +kernel
def Q6 (Z : State) (o1 : Addr) (s1 : Fin 3) (lc : Addr) (bb : Addr) (ba : Addr) (S1 : LS) (kq : Fin 3 → Option (Fin 6)) (S2 : LS) (h0 : Heap) (n0 : Nat) (v : Option Value) (h : Heap) (L : List Loc) : Prop := v = none ∧ Fr n0 L ∧ Keep h0 h [o1, bb, ba] ∧ OB Z h o1 lc bb ba S2
set_option maxRecDepth 65536 in
set_option maxHeartbeats 40000000 in
theorem rm6 (l : Launch) (Z : State) (a0 : Array Value) (hw : ∀ d ∈ tables_1, d.before a0 Z = true) (ws : List Jvm.Cond) (o1 : Addr) (s1 : Fin 3) (lc : Addr) (bb : Addr) (ba : Addr) (S1 : LS) (kq : Fin 3 → Option (Fin 6)) (S2 : LS) (h0 : Heap) (n0 : Nat) (Z0 : n0 ≤ h0.size) (g_o1 : n0 ≤ o1) (g_bb : n0 ≤ bb) (g_ba : n0 ≤ ba) (hne : NEs o1 lc bb ba) (hob : OB Z h0 o1 lc bb ba S1) (G_c : ArG Z h0 lc .double (fun j => .double (DDf (kq j)))) (hadd : addF S1 kq s1 = some S2) :
    OMet l Z (⟨"com/example/tenrec/tenrec/pool/IdleByLastCompletion", "add", "(I)V"⟩ : MethodName) prog_31_method_3_code 3 none ws ({ frames := 1, cells := 0, slots := 0, locals := 17 } : Room) #[(.ref o1), (.int (ixx s1))] h0 (Q6 Z o1 s1 lc bb ba S1 kq S2 h0 n0) := by
  refine own_body (plainFor_of_name pn_com_example_tenrec_tenrec_pool_IdleByLastCompletion) ?_
  intro p e s m below meth c s₁ Bd hml0 hZ e0
  have hx := Bd.exec
  have hby := Bd.bytes
  have hml : c.maxLocals = 3 := hml0
  have hown : s.vm.findClass "com/example/tenrec/tenrec/pool/IdleByLastCompletion" = some m.cls := findClass_of_methodNamed Bd.named
  have hnm := (name_of_methodNamed Bd.named Bd.method).1
  have X0 : Stand p l e ({ frames := 1, cells := 0, slots := 0, locals := 17 } : Room) s m #[(.ref o1), (.int (ixx s1))] below meth c s₁ [] 0 0 := Stand.of_body Bd
  have N0 := Fr.nil n0
  have K0 : Keep h0 h0 [o1, bb, ba] := Keep.refl _ _
  rw [ef_rm6]
  obtain ⟨ne1, ne2, ne3, ne4, ne5, ne6⟩ := id hne
  obtain ⟨E_o, F_f, F_l, F_c, F_b, F_a, G_b, G_a⟩ := id hob
  rcases hf : S1.f with _ | g0
  · have F_g : Fld Z h0 o1 "com/example/tenrec/tenrec/pool/IdleByLastCompletion" "first" "I" (.int (enn none)) := hf ▸ F_f
    obtain rfl : linkF S1 none s1 none = S2 := by simpa [addF, hf] using hadd
    obtain ⟨T101, X101, e101, st101⟩ := getF X0 hx hZ hown (host := "") (Or.inl (hw _ (List.mem_of_getElem? (i := 19) rfl))) Via.refl e0 F_g (g := (mkF m 1 #[.val (.ref o1), .val (.int (ixx s1)), .unset] [(.ref o1)])) rfl rfl (hb hby d6_1)
    obtain ⟨v102, T102, L102, X102, q102, st102⟩ := own_callP X101 hx hZ (y := (⟨"com/example/tenrec/tenrec/pool/IdleByLastCompletion", "link", "(III)V"⟩ : MethodName)) hown (hw _ (List.mem_of_getElem? (i := 40) rfl)) (hw _ (List.mem_of_getElem? (i := 41) rfl)) (hw _ (List.mem_of_getElem? (i := 42) rfl)) (hw _ (List.mem_of_getElem? (i := 12) rfl)) (hw _ (List.mem_of_getElem? (i := 11) rfl)) (hw _ (List.mem_of_getElem? (i := 43) rfl)) (by decide) E_o (hM := (rm7 l Z a0 hw [] o1 lc bb ba S1 none s1 none h0 n0 Z0 g_o1 g_bb g_ba ⟨ne1, ne2, ne3, ne4, ne5, ne6⟩ ⟨E_o, F_f, F_l, F_c, F_b, F_a, G_b, G_a⟩)) (by decide) (by decide) (by decide) (by decide) e101 (argsL := [(.int (enn none)), (.int (ixx s1)), (.int (enn none))]) (rest := []) (Ls := #[.val (.ref o1), .val (.int (ixx s1)), .unset]) (by rw [hml]; rfl) (lenOf pd__III_V rfl) (W := 0) (Nat.le_of_eq rfl) (hb hby d6_12)
    obtain ⟨rfl, N102q, K102q, E102q, Ff102q, Fl102q, Fc102q, Fb102q, Fa102q, Gb102q, Ga102q⟩ := q102
    have N102 := Fr.app N0 N102q
    have K102 : Keep h0 T102.heap [o1, bb, ba] := K0.trans K102q (allS (Or.inl (List.mem_of_getElem? (i := 0) rfl)) (allS (Or.inl (List.mem_of_getElem? (i := 1) rfl)) (allS (Or.inl (List.mem_of_getElem? (i := 2) rfl)) all0)))
    refine Gl.fin X102 (v := none) (fun _ => rfl) Bd.notSynchronized ?_ rfl (by decide) (by decide) (fun fs hr => ?_)
    · exact ⟨rfl, N102, K102, E102q, Ff102q, Fl102q, Fc102q, Fb102q, Fa102q, Gb102q, Ga102q⟩
    · show Steps p.tables e below (s₁.setTop (mkF m 0 #[.val (.ref o1), .val (.int (ixx s1)), .unset] [])) _
      refine XS.aloadN X0.here hx rfl (hb hby d6_0) rfl rfl ?_
      show Steps p.tables e below (s₁.setTop (mkF m 1 #[.val (.ref o1), .val (.int (ixx s1)), .unset] [(.ref o1)])) _
      refine st101 _ ?_
      show Steps p.tables e below (T101.setTop (mkF m 4 #[.val (.ref o1), .val (.int (ixx s1)), .unset] [(.int (enn none))])) _
      refine XS.iconst X101.here hx rfl (hb hby d6_4) ?_
      show Steps p.tables e below (T101.setTop (mkF m 5 #[.val (.ref o1), .val (.int (ixx s1)), .unset] [(.int (-1 : Int32)), (.int (enn none))])) _
      refine XS.icmpNo X101.here hx rfl (hb hby d6_5) rfl (own_nf (ic_ne _ _) rfl) ?_
      show Steps p.tables e below (T101.setTop (mkF m 8 #[.val (.ref o1), .val (.int (ixx s1)), .unset] [])) _
      refine XS.aloadN X101.here hx rfl (hb hby d6_8) rfl rfl ?_
      show Steps p.tables e below (T101.setTop (mkF m 9 #[.val (.ref o1), .val (.int (ixx s1)), .unset] [(.ref o1)])) _
      refine XS.iconst X101.here hx rfl (hb hby d6_9) ?_
      show Steps p.tables e below (T101.setTop (mkF m 10 #[.val (.ref o1), .val (.int (ixx s1)), .unset] [(.int (enn none)), (.ref o1)])) _
      refine XS.iloadN X101.here hx rfl (hb hby d6_10) rfl ?_
      show Steps p.tables e below (T101.setTop (mkF m 11 #[.val (.ref o1), .val (.int (ixx s1)), .unset] [(.int (ixx s1)), (.int (enn none)), (.ref o1)])) _
      refine XS.iconst X101.here hx rfl (hb hby d6_11) ?_
      show Steps p.tables e below (T101.setTop (mkF m 12 #[.val (.ref o1), .val (.int (ixx s1)), .unset] [(.int (enn none)), (.int (ixx s1)), (.int (enn none)), (.ref o1)])) _
      refine st102 _ ?_
      show Steps p.tables e below (T102.setTop (mkF m 15 #[.val (.ref o1), .val (.int (ixx s1)), .unset] [])) _
      refine XS.goto X102.here hx rfl (pc0 := 15) (pc' := 79) rfl (hb hby d6_15) (by decide) (by decide) ?_
      show Steps p.tables e below (T102.setTop (mkF m 79 #[.val (.ref o1), .val (.int (ixx s1)), .unset] [])) _
      exact X102.returnOut hx Bd.returns (hb hby d6_79) hr
  · have F_g : Fld Z h0 o1 "com/example/tenrec/tenrec/pool/IdleByLastCompletion" "first" "I" (.int (enn (some g0))) := hf ▸ F_f
    obtain ⟨T103, X103, e103, st103⟩ := getF X0 hx hZ hown (host := "") (Or.inl (hw _ (List.mem_of_getElem? (i := 19) rfl))) Via.refl e0 F_g (g := (mkF m 1 #[.val (.ref o1), .val (.int (ixx s1)), .unset] [(.ref o1)])) rfl rfl (hb hby d6_1)
    obtain ⟨T104, X104, e104, st104⟩ := getF X103 hx hZ hown (host := "") (Or.inl (hw _ (List.mem_of_getElem? (i := 19) rfl))) Via.refl e103 F_g (g := (mkF m 21 #[.val (.ref o1), .val (.int (ixx s1)), .unset] [(.ref o1), (.int (ixx s1)), (.ref o1)])) rfl rfl (hb hby d6_21)
    obtain ⟨v105, T105, L105, X105, q105, st105⟩ := own_callP X104 hx hZ (y := (⟨"com/example/tenrec/tenrec/pool/IdleByLastCompletion", "comesBefore", "(II)Z"⟩ : MethodName)) hown (hw _ (List.mem_of_getElem? (i := 44) rfl)) (hw _ (List.mem_of_getElem? (i := 45) rfl)) (hw _ (List.mem_of_getElem? (i := 46) rfl)) (hw _ (List.mem_of_getElem? (i := 12) rfl)) (hw _ (List.mem_of_getElem? (i := 11) rfl)) (hw _ (List.mem_of_getElem? (i := 47) rfl)) (by decide) E_o (hM := (rm8 l Z a0 hw [] o1 s1 g0 lc kq h0 n0 Z0 F_c G_c)) (by decide) (by decide) (by decide) (by decide) e104 (argsL := [(.int (ixx s1)), (.int (enn (some g0)))]) (rest := []) (Ls := #[.val (.ref o1), .val (.int (ixx s1)), .unset]) (by rw [hml]; rfl) (lenOf pd__II_Z rfl) (W := 0) (Nat.le_of_eq rfl) (hb hby d6_24)
    obtain ⟨rfl, N105q, e105⟩ := q105
    have N105 := Fr.app N0 N105q
    refine Gl.pre (S' := T105.setTop (mkF m 27 #[.val (.ref o1), .val (.int (ixx s1)), .unset] [(.int (b2i (cbF kq s1 g0)))])) (fun t kt => ?_) ?_
    · show Steps p.tables e below (s₁.setTop (mkF m 0 #[.val (.ref o1), .val (.int (ixx s1)), .unset] [])) _
      refine XS.aloadN X0.here hx rfl (hb hby d6_0) rfl rfl ?_
      show Steps p.tables e below (s₁.setTop (mkF m 1 #[.val (.ref o1), .val (.int (ixx s1)), .unset] [(.ref o1)])) _
      refine st103 _ ?_
      show Steps p.tables e below (T103.setTop (mkF m 4 #[.val (.ref o1), .val (.int (ixx s1)), .unset] [(.int (enn (some g0)))])) _
      refine XS.iconst X103.here hx rfl (hb hby d6_4) ?_
      show Steps p.tables e below (T103.setTop (mkF m 5 #[.val (.ref o1), .val (.int (ixx s1)), .unset] [(.int (-1 : Int32)), (.int (enn (some g0)))])) _
      refine XS.icmpYes X103.here hx rfl (pc0 := 5) (pc' := 18) rfl (hb hby d6_5) rfl (own_nt (ic_ne _ _) (own_en_ne _)) (by decide) (by decide) ?_
      show Steps p.tables e below (T103.setTop (mkF m 18 #[.val (.ref o1), .val (.int (ixx s1)), .unset] [])) _
      refine XS.aloadN X103.here hx rfl (hb hby d6_18) rfl rfl ?_
      show Steps p.tables e below (T103.setTop (mkF m 19 #[.val (.ref o1), .val (.int (ixx s1)), .unset] [(.ref o1)])) _
      refine XS.iloadN X103.here hx rfl (hb hby d6_19) rfl ?_
      show Steps p.tables e below (T103.setTop (mkF m 20 #[.val (.ref o1), .val (.int (ixx s1)), .unset] [(.int (ixx s1)), (.ref o1)])) _
      refine XS.aloadN X103.here hx rfl (hb hby d6_20) rfl rfl ?_
      show Steps p.tables e below (T103.setTop (mkF m 21 #[.val (.ref o1), .val (.int (ixx s1)), .unset] [(.ref o1), (.int (ixx s1)), (.ref o1)])) _
      refine st104 _ ?_
      show Steps p.tables e below (T104.setTop (mkF m 24 #[.val (.ref o1), .val (.int (ixx s1)), .unset] [(.int (enn (some g0))), (.int (ixx s1)), (.ref o1)])) _
      refine st105 _ ?_
      exact kt
    by_cases hcb : cbF kq s1 g0 = true
    · obtain rfl : linkF S1 none s1 (some g0) = S2 := by simpa [addF, hf, hcb] using hadd
      obtain ⟨T106, X106, e106, st106⟩ := getF X105 hx hZ hown (host := "") (Or.inl (hw _ (List.mem_of_getElem? (i := 19) rfl))) Via.refl e105 F_g (g := (mkF m 34 #[.val (.ref o1), .val (.int (ixx s1)), .unset] [(.ref o1), (.int (ixx s1)), (.int (enn none)), (.ref o1)])) rfl rfl (hb hby d6_34)
      obtain ⟨v107, T107, L107, X107, q107, st107⟩ := own_callP X106 hx hZ (y := (⟨"com/example/tenrec/tenrec/pool/IdleByLastCompletion", "link", "(III)V"⟩ : MethodName)) hown (hw _ (List.mem_of_getElem? (i := 40) rfl)) (hw _ (List.mem_of_getElem? (i := 41) rfl)) (hw _ (List.mem_of_getElem? (i := 42) rfl)) (hw _ (List.mem_of_getElem? (i := 12) rfl)) (hw _ (List.mem_of_getElem? (i := 11) rfl)) (hw _ (List.mem_of_getElem? (i := 43) rfl)) (by decide) E_o (hM := (rm7 l Z a0 hw [] o1 lc bb ba S1 none s1 (some g0) h0 n0 Z0 g_o1 g_bb g_ba ⟨ne1, ne2, ne3, ne4, ne5, ne6⟩ ⟨E_o, F_f, F_l, F_c, F_b, F_a, G_b, G_a⟩)) (by decide) (by decide) (by decide) (by decide) e106 (argsL := [(.int (enn none)), (.int (ixx s1)), (.int (enn (some g0)))]) (rest := []) (Ls := #[.val (.ref o1), .val (.int (ixx s1)), .unset]) (by rw [hml]; rfl) (lenOf pd__III_V rfl) (W := 0) (Nat.le_of_eq rfl) (hb hby d6_37)
      obtain ⟨rfl, N107q, K107q, E107q, Ff107q, Fl107q, Fc107q, Fb107q, Fa107q, Gb107q, Ga107q⟩ := q107
      have N107 := Fr.app N105 N107q
      have K107 : Keep h0 T107.heap [o1, bb, ba] := K0.trans K107q (allS (Or.inl (List.mem_of_getElem? (i := 0) rfl)) (allS (Or.inl (List.mem_of_getElem? (i := 1) rfl)) (allS (Or.inl (List.mem_of_getElem? (i := 2) rfl)) all0)))
      refine Gl.fin X107 (v := none) (fun _ => rfl) Bd.notSynchronized ?_ rfl (by decide) (by decide) (fun fs hr => ?_)
      · exact ⟨rfl, N107, K107, E107q, Ff107q, Fl107q, Fc107q, Fb107q, Fa107q, Gb107q, Ga107q⟩
      · show Steps p.tables e below (T105.setTop (mkF m 27 #[.val (.ref o1), .val (.int (ixx s1)), .unset] [(.int (b2i (cbF kq s1 g0)))])) _
        refine XS.ifNo X105.here hx rfl (hb hby d6_27) rfl (own_nbf (b0_eq _) hcb) ?_
        show Steps p.tables e below (T105.setTop (mkF m 30 #[.val (.ref o1), .val (.int (ixx s1)), .unset] [])) _
        refine XS.aloadN X105.here hx rfl (hb hby d6_30) rfl rfl ?_
        show Steps p.tables e below (T105.setTop (mkF m 31 #[.val (.ref o1), .val (.int (ixx s1)), .unset] [(.ref o1)])) _
        refine XS.iconst X105.here hx rfl (hb hby d6_31) ?_
        show Steps p.tables e below (T105.setTop (mkF m 32 #[.val (.ref o1), .val (.int (ixx s1)), .unset] [(.int (enn none)), (.ref o1)])) _
        refine XS.iloadN X105.here hx rfl (hb hby d6_32) rfl ?_
        show Steps p.tables e below (T105.setTop (mkF m 33 #[.val (.ref o1), .val (.int (ixx s1)), .unset] [(.int (ixx s1)), (.int (enn none)), (.ref o1)])) _
        refine XS.aloadN X105.here hx rfl (hb hby d6_33) rfl rfl ?_
        show Steps p.tables e below (T105.setTop (mkF m 34 #[.val (.ref o1), .val (.int (ixx s1)), .unset] [(.ref o1), (.int (ixx s1)), (.int (enn none)), (.ref o1)])) _
        refine st106 _ ?_
        show Steps p.tables e below (T106.setTop (mkF m 37 #[.val (.ref o1), .val (.int (ixx s1)), .unset] [(.int (enn (some g0))), (.int (ixx s1)), (.int (enn none)), (.ref o1)])) _
        refine st107 _ ?_
        show Steps p.tables e below (T107.setTop (mkF m 40 #[.val (.ref o1), .val (.int (ixx s1)), .unset] [])) _
        refine XS.goto X107.here hx rfl (pc0 := 40) (pc' := 79) rfl (hb hby d6_40) (by decide) (by decide) ?_
        show Steps p.tables e below (T107.setTop (mkF m 79 #[.val (.ref o1), .val (.int (ixx s1)), .unset] [])) _
        exact X107.returnOut hx Bd.returns (hb hby d6_79) hr
    · obtain ⟨r0, hr0, hS2⟩ : ∃ r, lpF S1 kq s1 4 S1.l = some r ∧ linkF S1 (some r) s1 (S1.a r) = S2 := by
        simp only [addF, hf, hcb] at hadd
        cases hl : lpF S1 kq s1 4 S1.l with
        | none => rw [hl] at hadd; simp at hadd
        | some r => rw [hl] at hadd; simp at hadd; exact ⟨r, rfl, hadd⟩
      subst hS2
      obtain ⟨T108, X108, e108, st108⟩ := getF X105 hx hZ hown (host := "") (Or.inl (hw _ (List.mem_of_getElem? (i := 21) rfl))) Via.refl e105 F_l (g := (mkF m 44 #[.val (.ref o1), .val (.int (ixx s1)), .unset] [(.ref o1)])) rfl rfl (hb hby d6_44)
      refine Gl.pre (S' := T108.setTop (mkF m 48 #[.val (.ref o1), .val (.int (ixx s1)), .val (.int (enn S1.l))] [])) (fun t kt => ?_) ?_
      · show Steps p.tables e below (T105.setTop (mkF m 27 #[.val (.ref o1), .val (.int (ixx s1)), .unset] [(.int (b2i (cbF kq s1 g0)))])) _
        refine XS.ifYes X105.here hx rfl (pc0 := 27) (pc' := 43) rfl (hb hby d6_27) rfl (own_nbt (b0_eq _) (Bool.eq_false_iff.mpr hcb)) (by decide) (by decide) ?_
        show Steps p.tables e below (T105.setTop (mkF m 43 #[.val (.ref o1), .val (.int (ixx s1)), .unset] [])) _
        refine XS.aloadN X105.here hx rfl (hb hby d6_43) rfl rfl ?_
        show Steps p.tables e below (T105.setTop (mkF m 44 #[.val (.ref o1), .val (.int (ixx s1)), .unset] [(.ref o1)])) _
        refine st108 _ ?_
        show Steps p.tables e below (T108.setTop (mkF m 47 #[.val (.ref o1), .val (.int (ixx s1)), .unset] [(.int (enn S1.l))])) _
        refine XS.istoreN X108.here hx rfl (hb hby d6_47) rfl (l' := #[.val (.ref o1), .val (.int (ixx s1)), .val (.int (enn S1.l))]) rfl ?_
        exact kt
      have loop : ∀ (n : Nat) (cq : Option (Fin 3)) (T6 : State) (lo6 : List Loc) (X6 : Stand p l e ({ frames := 1, cells := 0, slots := 0, locals := 17 } : Room) s m #[(.ref o1), (.int (ixx s1))] below meth c T6 lo6 0 0) (e6 : T6.heap = h0) (N6 : Fr n0 lo6) (hlp : lpF S1 kq s1 n cq = some r0), Gl p e below s (Q6 Z o1 s1 lc bb ba S1 kq (linkF S1 (some r0) s1 (S1.a r0)) h0 n0) ({ frames := 1, cells := 0, slots := 0, locals := 17 } : Room).cells ({ frames := 1, cells := 0, slots := 0, locals := 17 } : Room).slots (T6.setTop (mkF m 48 #[.val (.ref o1), .val (.int (ixx s1)), .val (.int (enn cq))] [])) := by
        intro n
        induction n with
        | zero => intro cq T6 lo6 X6 e6 N6 hlp; simp [lpF] at hlp
        | succ n ih =>
          intro cq T6 lo6 X6 e6 N6 hlp
          rcases cq with _ | c0
          · simp [lpF] at hlp
          · obtain ⟨v109, T109, L109, X109, q109, st109⟩ := own_callP X6 hx hZ (y := (⟨"com/example/tenrec/tenrec/pool/IdleByLastCompletion", "comesBefore", "(II)Z"⟩ : MethodName)) hown (hw _ (List.mem_of_getElem? (i := 44) rfl)) (hw _ (List.mem_of_getElem? (i := 45) rfl)) (hw _ (List.mem_of_getElem? (i := 46) rfl)) (hw _ (List.mem_of_getElem? (i := 12) rfl)) (hw _ (List.mem_of_getElem? (i := 11) rfl)) (hw _ (List.mem_of_getElem? (i := 47) rfl)) (by decide) E_o (hM := (rm8 l Z a0 hw [] o1 s1 c0 lc kq h0 n0 Z0 F_c G_c)) (by decide) (by decide) (by decide) (by decide) e6 (argsL := [(.int (ixx s1)), (.int (enn (some c0)))]) (rest := []) (Ls := #[.val (.ref o1), .val (.int (ixx s1)), .val (.int (enn (some c0)))]) (by rw [hml]; rfl) (lenOf pd__II_Z rfl) (W := 0) (Nat.le_of_eq rfl) (hb hby d6_51)
            obtain ⟨rfl, N109q, e109⟩ := q109
            have N109 := Fr.app N6 N109q
            refine Gl.pre (S' := T109.setTop (mkF m 54 #[.val (.ref o1), .val (.int (ixx s1)), .val (.int (enn (some c0)))] [(.int (b2i (cbF kq s1 c0)))])) (fun t kt => ?_) ?_
            · show Steps p.tables e below (T6.setTop (mkF m 48 #[.val (.ref o1), .val (.int (ixx s1)), .val (.int (enn (some c0)))] [])) _
              refine XS.aloadN X6.here hx rfl (hb hby d6_48) rfl rfl ?_
              show Steps p.tables e below (T6.setTop (mkF m 49 #[.val (.ref o1), .val (.int (ixx s1)), .val (.int (enn (some c0)))] [(.ref o1)])) _
              refine XS.iloadN X6.here hx rfl (hb hby d6_49) rfl ?_
              show Steps p.tables e below (T6.setTop (mkF m 50 #[.val (.ref o1), .val (.int (ixx s1)), .val (.int (enn (some c0)))] [(.int (ixx s1)), (.ref o1)])) _
              refine XS.iloadN X6.here hx rfl (hb hby d6_50) rfl ?_
              show Steps p.tables e below (T6.setTop (mkF m 51 #[.val (.ref o1), .val (.int (ixx s1)), .val (.int (enn (some c0)))] [(.int (enn (some c0))), (.int (ixx s1)), (.ref o1)])) _
              refine st109 _ ?_
              exact kt
            by_cases hc54 : (cbF kq s1 c0) = true
            · obtain ⟨T110, X110, e110, st110⟩ := getF X109 hx hZ hown (host := "") (Or.inl (hw _ (List.mem_of_getElem? (i := 31) rfl))) Via.refl e109 F_b (g := (mkF m 58 #[.val (.ref o1), .val (.int (ixx s1)), .val (.int (enn (some c0)))] [(.ref o1)])) rfl rfl (hb hby d6_58)
              obtain ⟨cl111, Ar111, Sa111, Ha111⟩ := id G_b
              have hin111 : ¬ ((enn (some c0)) < 0 ∨ cl111.slots.size ≤ ((enn (some c0))).toNatClampNeg) := own_ing Sa111 c0
              have hat111 : cl111.slots[((enn (some c0))).toNatClampNeg]? = some (.int (enn (S1.b c0))) := own_atg Ha111 c0
              refine Gl.pre (S' := T110.setTop (mkF m 48 #[.val (.ref o1), .val (.int (ixx s1)), .val (.int (enn (S1.b c0)))] [])) (fun t kt => ?_) ?_
              · show Steps p.tables e below (T109.setTop (mkF m 54 #[.val (.ref o1), .val (.int (ixx s1)), .val (.int (enn (some c0)))] [(.int (b2i (cbF kq s1 c0)))])) _
                refine XS.ifNo X109.here hx rfl (hb hby d6_54) rfl (own_nbf (b0_eq _) hc54) ?_
                show Steps p.tables e below (T109.setTop (mkF m 57 #[.val (.ref o1), .val (.int (ixx s1)), .val (.int (enn (some c0)))] [])) _
                refine XS.aloadN X109.here hx rfl (hb hby d6_57) rfl rfl ?_
                show Steps p.tables e below (T109.setTop (mkF m 58 #[.val (.ref o1), .val (.int (ixx s1)), .val (.int (enn (some c0)))] [(.ref o1)])) _
                refine st110 _ ?_
                show Steps p.tables e below (T110.setTop (mkF m 61 #[.val (.ref o1), .val (.int (ixx s1)), .val (.int (enn (some c0)))] [(.ref bb)])) _
                refine XS.iloadN X110.here hx rfl (hb hby d6_61) rfl ?_
                show Steps p.tables e below (T110.setTop (mkF m 62 #[.val (.ref o1), .val (.int (ixx s1)), .val (.int (enn (some c0)))] [(.int (enn (some c0))), (.ref bb)])) _
                refine X110.iaload hx (j := (enn (some c0))) (v := (.int (enn (S1.b c0)))) (own_hc e110 Ar111.1) (State.isArrayOf_alike hZ.alike Ar111.2.1) Ar111.2.2 hin111 hat111 (g := (mkF m 62 #[.val (.ref o1), .val (.int (ixx s1)), .val (.int (enn (some c0)))] [(.int (enn (some c0))), (.ref bb)])) rfl rfl (hb hby d6_62) _ ?_
                show Steps p.tables e below (T110.setTop (mkF m 63 #[.val (.ref o1), .val (.int (ixx s1)), .val (.int (enn (some c0)))] [(.int (enn (S1.b c0)))])) _
                refine XS.istoreN X110.here hx rfl (hb hby d6_63) rfl (l' := #[.val (.ref o1), .val (.int (ixx s1)), .val (.int (enn (S1.b c0)))]) rfl ?_
                show Steps p.tables e below (T110.setTop (mkF m 64 #[.val (.ref o1), .val (.int (ixx s1)), .val (.int (enn (S1.b c0)))] [])) _
                refine XS.goto X110.here hx rfl (pc0 := 64) (pc' := 48) rfl (hb hby d6_64) (by decide) (by decide) ?_
                exact kt
              exact ih (S1.b c0) _ _ X110 e110 N109 (by simpa [lpF, hc54] using hlp)
            · refine Gl.pre (S' := T109.setTop (mkF m 67 #[.val (.ref o1), .val (.int (ixx s1)), .val (.int (enn (some c0)))] [])) (fun t kt => ?_) ?_
              · show Steps p.tables e below (T109.setTop (mkF m 54 #[.val (.ref o1), .val (.int (ixx s1)), .val (.int (enn (some c0)))] [(.int (b2i (cbF kq s1 c0)))])) _
                refine XS.ifYes X109.here hx rfl (pc0 := 54) (pc' := 67) rfl (hb hby d6_54) rfl (own_nbt (b0_eq _) (Bool.eq_false_iff.mpr hc54)) (by decide) (by decide) ?_
                exact kt
              obtain rfl : c0 = r0 := by simpa [lpF, hc54] using hlp
              obtain ⟨T112, X112, e112, st112⟩ := getF X109 hx hZ hown (host := "") (Or.inl (hw _ (List.mem_of_getElem? (i := 33) rfl))) Via.refl e109 F_a (g := (mkF m 71 #[.val (.ref o1), .val (.int (ixx s1)), .val (.int (enn (some c0)))] [(.ref o1), (.int (ixx s1)), (.int (enn (some c0))), (.ref o1)])) rfl rfl (hb hby d6_71)
              obtain ⟨cl113, Ar113, Sa113, Ha113⟩ := id G_a
              have hin113 : ¬ ((enn (some c0)) < 0 ∨ cl113.slots.size ≤ ((enn (some c0))).toNatClampNeg) := own_ing Sa113 c0
              have hat113 : cl113.slots[((enn (some c0))).toNatClampNeg]? = some (.int (enn (S1.a c0))) := own_atg Ha113 c0
              obtain ⟨v114, T114, L114, X114, q114, st114⟩ := own_callP X112 hx hZ (y := (⟨"com/example/tenrec/tenrec/pool/IdleByLastCompletion", "link", "(III)V"⟩ : MethodName)) hown (hw _ (List.mem_of_getElem? (i := 40) rfl)) (hw _ (List.mem_of_getElem? (i := 41) rfl)) (hw _ (List.mem_of_getElem? (i := 42) rfl)) (hw _ (List.mem_of_getElem? (i := 12) rfl)) (hw _ (List.mem_of_getElem? (i := 11) rfl)) (hw _ (List.mem_of_getElem? (i := 43) rfl)) (by decide) E_o (hM := (rm7 l Z a0 hw [] o1 lc bb ba S1 (some c0) s1 (S1.a c0) h0 n0 Z0 g_o1 g_bb g_ba ⟨ne1, ne2, ne3, ne4, ne5, ne6⟩ ⟨E_o, F_f, F_l, F_c, F_b, F_a, G_b, G_a⟩)) (by decide) (by decide) (by decide) (by decide) e112 (argsL := [(.int (enn (some c0))), (.int (ixx s1)), (.int (enn (S1.a c0)))]) (rest := []) (Ls := #[.val (.ref o1), .val (.int (ixx s1)), .val (.int (enn (some c0)))]) (by rw [hml]; rfl) (lenOf pd__III_V rfl) (W := 0) (Nat.le_of_eq rfl) (hb hby d6_76)
              obtain ⟨rfl, N114q, K114q, E114q, Ff114q, Fl114q, Fc114q, Fb114q, Fa114q, Gb114q, Ga114q⟩ := q114
              have N114 := Fr.app N109 N114q
              have K114 : Keep h0 T114.heap [o1, bb, ba] := K0.trans K114q (allS (Or.inl (List.mem_of_getElem? (i := 0) rfl)) (allS (Or.inl (List.mem_of_getElem? (i := 1) rfl)) (allS (Or.inl (List.mem_of_getElem? (i := 2) rfl)) all0)))
              refine Gl.fin X114 (v := none) (fun _ => rfl) Bd.notSynchronized ?_ rfl (by decide) (by decide) (fun fs hr => ?_)
              · exact ⟨rfl, N114, K114, E114q, Ff114q, Fl114q, Fc114q, Fb114q, Fa114q, Gb114q, Ga114q⟩
              · show Steps p.tables e below (T109.setTop (mkF m 67 #[.val (.ref o1), .val (.int (ixx s1)), .val (.int (enn (some c0)))] [])) _
                refine XS.aloadN X109.here hx rfl (hb hby d6_67) rfl rfl ?_
                show Steps p.tables e below (T109.setTop (mkF m 68 #[.val (.ref o1), .val (.int (ixx s1)), .val (.int (enn (some c0)))] [(.ref o1)])) _
                refine XS.iloadN X109.here hx rfl (hb hby d6_68) rfl ?_
                show Steps p.tables e below (T109.setTop (mkF m 69 #[.val (.ref o1), .val (.int (ixx s1)), .val (.int (enn (some c0)))] [(.int (enn (some c0))), (.ref o1)])) _
                refine XS.iloadN X109.here hx rfl (hb hby d6_69) rfl ?_
                show Steps p.tables e below (T109.setTop (mkF m 70 #[.val (.ref o1), .val (.int (ixx s1)), .val (.int (enn (some c0)))] [(.int (ixx s1)), (.int (enn (some c0))), (.ref o1)])) _
                refine XS.aloadN X109.here hx rfl (hb hby d6_70) rfl rfl ?_
                show Steps p.tables e below (T109.setTop (mkF m 71 #[.val (.ref o1), .val (.int (ixx s1)), .val (.int (enn (some c0)))] [(.ref o1), (.int (ixx s1)), (.int (enn (some c0))), (.ref o1)])) _
                refine st112 _ ?_
                show Steps p.tables e below (T112.setTop (mkF m 74 #[.val (.ref o1), .val (.int (ixx s1)), .val (.int (enn (some c0)))] [(.ref ba), (.int (ixx s1)), (.int (enn (some c0))), (.ref o1)])) _
                refine XS.iloadN X112.here hx rfl (hb hby d6_74) rfl ?_
                show Steps p.tables e below (T112.setTop (mkF m 75 #[.val (.ref o1), .val (.int (ixx s1)), .val (.int (enn (some c0)))] [(.int (enn (some c0))), (.ref ba), (.int (ixx s1)), (.int (enn (some c0))), (.ref o1)])) _
                refine X112.iaload hx (j := (enn (some c0))) (v := (.int (enn (S1.a c0)))) (own_hc e112 Ar113.1) (State.isArrayOf_alike hZ.alike Ar113.2.1) Ar113.2.2 hin113 hat113 (g := (mkF m 75 #[.val (.ref o1), .val (.int (ixx s1)), .val (.int (enn (some c0)))] [(.int (enn (some c0))), (.ref ba), (.int (ixx s1)), (.int (enn (some c0))), (.ref o1)])) rfl rfl (hb hby d6_75) _ ?_
                show Steps p.tables e below (T112.setTop (mkF m 76 #[.val (.ref o1), .val (.int (ixx s1)), .val (.int (enn (some c0)))] [(.int (enn (S1.a c0))), (.int (ixx s1)), (.int (enn (some c0))), (.ref o1)])) _
                refine st114 _ ?_
                show Steps p.tables e below (T114.setTop (mkF m 79 #[.val (.ref o1), .val (.int (ixx s1)), .val (.int (enn (some c0)))] [])) _
                exact X114.returnOut hx Bd.returns (hb hby d6_79) hr
      exact loop 4 S1.l _ _ X108 e108 N105 hr0
theorem ef_rm9 (m : MethodId) (x0 : Addr) (x1 : Int32) : entryFrame m #[(.ref x0), (.int x1)] 2 = mkF m 0 #[.val (.ref x0), .val (.int x1)] [] := by first | (simp [entryFrame, mkF, argsToLocals, Value.category]; done) | rfl
theorem d9_0 : decode prog_31_method_4_code 0 = .ok (.aload_n 0, 1) := by decide +kernel
theorem d9_1 : decode prog_31_method_4_code 1 = .ok (.getfield 30, 3) := by decide +kernel
theorem d9_4 : decode prog_31_method_4_code 4 = .ok (.iload_n 1, 1) := by decide +kernel
theorem d9_5 : decode prog_31_method_4_code 5 = .ok (.iaload, 1) := by decide +kernel
theorem d9_6 : decode prog_31_method_4_code 6 = .ok (.iconst (-1), 1) := by decide +kernel
theorem d9_7 : decode prog_31_method_4_code 7 = .ok (.if_icmp .ne 16, 3) := by decide +kernel
theorem d9_10 : decode prog_31_method_4_code 10 = .ok (.aload_n 0, 1) := by decide +kernel
theorem d9_11 : decode prog_31_method_4_code 11 = .ok (.aload_n 0, 1) := by decide +kernel
theorem d9_12 : decode prog_31_method_4_code 12 = .ok (.getfield 34, 3) := by decide +kernel
theorem d9_15 : decode prog_31_method_4_code 15 = .ok (.iload_n 1, 1) := by decide +kernel
theorem d9_16 : decode prog_31_method_4_code 16 = .ok (.iaload, 1) := by decide +kernel
theorem d9_17 : decode prog_31_method_4_code 17 = .ok (.putfield 9, 3) := by decide +kernel
theorem d9_20 : decode prog_31_method_4_code 20 = .ok (.goto 20, 3) := by decide +kernel
theorem d9_40 : decode prog_31_method_4_code 40 = .ok (.aload_n 0, 1) := by decide +kernel
theorem d9_41 : decode prog_31_method_4_code 41 = .ok (.getfield 34, 3) := by decide +kernel
theorem d9_44 : decode prog_31_method_4_code 44 = .ok (.iload_n 1, 1) := by decide +kernel
theorem d9_45 : decode prog_31_method_4_code 45 = .ok (.iaload, 1) := by decide +kernel
theorem d9_46 : decode prog_31_method_4_code 46 = .ok (.iconst (-1), 1) := by decide +kernel
theorem d9_47 : decode prog_31_method_4_code 47 = .ok (.if_icmp .ne 16, 3) := by decide +kernel
theorem d9_50 : decode prog_31_method_4_code 50 = .ok (.aload_n 0, 1) := by decide +kernel
theorem d9_51 : decode prog_31_method_4_code 51 = .ok (.aload_n 0, 1) := by decide +kernel
theorem d9_52 : decode prog_31_method_4_code 52 = .ok (.getfield 30, 3) := by decide +kernel
theorem d9_55 : decode prog_31_method_4_code 55 = .ok (.iload_n 1, 1) := by decide +kernel
theorem d9_56 : decode prog_31_method_4_code 56 = .ok (.iaload, 1) := by decide +kernel
theorem d9_57 : decode prog_31_method_4_code 57 = .ok (.putfield 13, 3) := by decide +kernel
theorem d9_60 : decode prog_31_method_4_code 60 = .ok (.goto 20, 3) := by decide +kernel
theorem d9_80 : decode prog_31_method_4_code 80 = .ok (.return_, 1) := by decide +kernel
theorem d9_63 : decode prog_31_method_4_code 63 = .ok (.aload_n 0, 1) := by decide +kernel
theorem d9_64 : decode prog_31_method_4_code 64 = .ok (.getfield 30, 3) := by decide +kernel
theorem d9_67 : decode prog_31_method_4_code 67 = .ok (.aload_n 0, 1) := by decide +kernel
theorem d9_68 : decode prog_31_method_4_code 68 = .ok (.getfield 34, 3) := by decide +kernel
theorem d9_71 : decode prog_31_method_4_code 71 = .ok (.iload_n 1, 1) := by decide +kernel
theorem d9_72 : decode prog_31_method_4_code 72 = .ok (.iaload, 1) := by decide +kernel
theorem d9_73 : decode prog_31_method_4_code 73 = .ok (.aload_n 0, 1) := by decide +kernel
theorem d9_74 : decode prog_31_method_4_code 74 = .ok (.getfield 30, 3) := by decide +kernel
theorem d9_77 : decode prog_31_method_4_code 77 = .ok (.iload_n 1, 1) := by decide +kernel
theorem d9_78 : decode prog_31_method_4_code 78 = .ok (.iaload, 1) := by decide +kernel
theorem d9_79 : decode prog_31_method_4_code 79 = .ok (.iastore, 1) := by decide +kernel
theorem d9_23 : decode prog_31_method_4_code 23 = .ok (.aload_n 0, 1) := by decide +kernel
theorem d9_24 : decode prog_31_method_4_code 24 = .ok (.getfield 34, 3) := by decide +kernel
theorem d9_27 : decode prog_31_method_4_code 27 = .ok (.aload_n 0, 1) := by decide +kernel
theorem d9_28 : decode prog_31_method_4_code 28 = .ok (.getfield 30, 3) := by decide +kernel
theorem d9_31 : decode prog_31_method_4_code 31 = .ok (.iload_n 1, 1) := by decide +kernel
theorem d9_32 : decode prog_31_method_4_code 32 = .ok (.iaload, 1) := by decide +kernel
theorem d9_33 : decode prog_31_method_4_code 33 = .ok (.aload_n 0, 1) := by decide +kernel
theorem d9_34 : decode prog_31_method_4_code 34 = .ok (.getfield 34, 3) := by decide +kernel
theorem d9_37 : decode prog_31_method_4_code 37 = .ok (.iload_n 1, 1) := by decide +kernel
theorem d9_38 : decode prog_31_method_4_code 38 = .ok (.iaload, 1) := by decide +kernel
theorem d9_39 : decode prog_31_method_4_code 39 = .ok (.iastore, 1) := by decide +kernel
def Q9 (Z : State) (o1 : Addr) (s1 : Fin 3) (lc : Addr) (bb : Addr) (ba : Addr) (S1 : LS) (h0 : Heap) (n0 : Nat) (v : Option Value) (h : Heap) (L : List Loc) : Prop := v = none ∧ Fr n0 L ∧ Keep h0 h [o1, bb, ba] ∧ OB Z h o1 lc bb ba (remF S1 s1)
set_option maxRecDepth 65536 in
set_option maxHeartbeats 40000000 in
theorem rm9 (l : Launch) (Z : State) (a0 : Array Value) (hw : ∀ d ∈ tables_1, d.before a0 Z = true) (ws : List Jvm.Cond) (o1 : Addr) (s1 : Fin 3) (lc : Addr) (bb : Addr) (ba : Addr) (S1 : LS) (h0 : Heap) (n0 : Nat) (Z0 : n0 ≤ h0.size) (g_o1 : n0 ≤ o1) (g_bb : n0 ≤ bb) (g_ba : n0 ≤ ba) (hne : NEs o1 lc bb ba) (hob : OB Z h0 o1 lc bb ba S1) :
    OMet l Z (⟨"com/example/tenrec/tenrec/pool/IdleByLastCompletion", "remove", "(I)V"⟩ : MethodName) prog_31_method_4_code 2 none ws ({ frames := 0, cells := 0, slots := 0, locals := 0 } : Room) #[(.ref o1), (.int (ixx s1))] h0 (Q9 Z o1 s1 lc bb ba S1 h0 n0) := by
  refine own_body (plainFor_of_name pn_com_example_tenrec_tenrec_pool_IdleByLastCompletion) ?_
  intro p e s m below meth c s₁ Bd hml0 hZ e0
  have hx := Bd.exec
  have hby := Bd.bytes
  have hml : c.maxLocals = 2 := hml0
  have hown : s.vm.findClass "com/example/tenrec/tenrec/pool/IdleByLastCompletion" = some m.cls := findClass_of_methodNamed Bd.named
  have hnm := (name_of_methodNamed Bd.named Bd.method).1
  have X0 : Stand p l e ({ frames := 0, cells := 0, slots := 0, locals := 0 } : Room) s m #[(.ref o1), (.int (ixx s1))] below meth c s₁ [] 0 0 := Stand.of_body Bd
  have N0 := Fr.nil n0
  have K0 : Keep h0 h0 [o1, bb, ba] := Keep.refl _ _
  rw [ef_rm9]
  obtain ⟨ne1, ne2, ne3, ne4, ne5, ne6⟩ := id hne
  obtain ⟨E_o, F_f, F_l, F_c, F_b, F_a, G_b, G_a⟩ := id hob
  rcases hbq : S1.b s1 with _ | pq
  · obtain ⟨T101, X101, e101, st101⟩ := getF X0 hx hZ hown (host := "") (Or.inl (hw _ (List.mem_of_getElem? (i := 31) rfl))) Via.refl e0 F_b (g := (mkF m 1 #[.val (.ref o1), .val (.int (ixx s1))] [(.ref o1)])) rfl rfl (hb hby d9_1)
    obtain ⟨cl102, Ar102, Sa102, Ha102⟩ := id G_b
    have hin102 : ¬ ((ixx s1) < 0 ∨ cl102.slots.size ≤ ((ixx s1)).toNatClampNeg) := own_ing Sa102 s1
    have hat102 : cl102.slots[((ixx s1)).toNatClampNeg]? = some (.int (enn (S1.b s1))) := own_atg Ha102 s1
    rw [hbq] at hat102
    obtain ⟨T103, X103, e103, st103⟩ := getF X101 hx hZ hown (host := "") (Or.inl (hw _ (List.mem_of_getElem? (i := 33) rfl))) Via.refl e101 F_a (g := (mkF m 12 #[.val (.ref o1), .val (.int (ixx s1))] [(.ref o1), (.ref o1)])) rfl rfl (hb hby d9_12)
    obtain ⟨cl104, Ar104, Sa104, Ha104⟩ := id G_a
    have hin104 : ¬ ((ixx s1) < 0 ∨ cl104.slots.size ≤ ((ixx s1)).toNatClampNeg) := own_ing Sa104 s1
    have hat104 : cl104.slots[((ixx s1)).toNatClampNeg]? = some (.int (enn (S1.a s1))) := own_atg Ha104 s1
    obtain ⟨T105, h105, X105, e105, W105, st105⟩ := putF X103 hx hZ hown (host := "") (Or.inl (hw _ (List.mem_of_getElem? (i := 19) rfl))) Via.refl e103 F_f E_o (Or.inl (hw _ (List.mem_of_getElem? (i := 20) rfl))) (hw _ (List.mem_of_getElem? (i := 11) rfl)) (ty := .int) (by decide) rfl rfl (g := (mkF m 17 #[.val (.ref o1), .val (.int (ixx s1))] [(.int (enn (S1.a s1))), (.ref o1)])) rfl rfl (hb hby d9_17)
    have Fw105 := F_f.same W105
    have K105 : Keep h0 h105 [o1, bb, ba] := K0.wr W105 (Or.inl (List.mem_of_getElem? (i := 0) rfl))
    have N105 := Fr.snoc X105 N0 g_o1
    refine Gl.pre (S' := T105.setTop (mkF m 40 #[.val (.ref o1), .val (.int (ixx s1))] [])) (fun t kt => ?_) ?_
    · show Steps p.tables e below (s₁.setTop (mkF m 0 #[.val (.ref o1), .val (.int (ixx s1))] [])) _
      refine XS.aloadN X0.here hx rfl (hb hby d9_0) rfl rfl ?_
      show Steps p.tables e below (s₁.setTop (mkF m 1 #[.val (.ref o1), .val (.int (ixx s1))] [(.ref o1)])) _
      refine st101 _ ?_
      show Steps p.tables e below (T101.setTop (mkF m 4 #[.val (.ref o1), .val (.int (ixx s1))] [(.ref bb)])) _
      refine XS.iloadN X101.here hx rfl (hb hby d9_4) rfl ?_
      show Steps p.tables e below (T101.setTop (mkF m 5 #[.val (.ref o1), .val (.int (ixx s1))] [(.int (ixx s1)), (.ref bb)])) _
      refine X101.iaload hx (j := (ixx s1)) (v := (.int (enn none))) (own_hc e101 Ar102.1) (State.isArrayOf_alike hZ.alike Ar102.2.1) Ar102.2.2 hin102 hat102 (g := (mkF m 5 #[.val (.ref o1), .val (.int (ixx s1))] [(.int (ixx s1)), (.ref bb)])) rfl rfl (hb hby d9_5) _ ?_
      show Steps p.tables e below (T101.setTop (mkF m 6 #[.val (.ref o1), .val (.int (ixx s1))] [(.int (enn none))])) _
      refine XS.iconst X101.here hx rfl (hb hby d9_6) ?_
      show Steps p.tables e below (T101.setTop (mkF m 7 #[.val (.ref o1), .val (.int (ixx s1))] [(.int (-1 : Int32)), (.int (enn none))])) _
      refine XS.icmpNo X101.here hx rfl (hb hby d9_7) rfl (own_nf (ic_ne _ _) rfl) ?_
      show Steps p.tables e below (T101.setTop (mkF m 10 #[.val (.ref o1), .val (.int (ixx s1))] [])) _
      refine XS.aloadN X101.here hx rfl (hb hby d9_10) rfl rfl ?_
      show Steps p.tables e below (T101.setTop (mkF m 11 #[.val (.ref o1), .val (.int (ixx s1))] [(.ref o1)])) _
      refine XS.aloadN X101.here hx rfl (hb hby d9_11) rfl rfl ?_
      show Steps p.tables e below (T101.setTop (mkF m 12 #[.val (.ref o1), .val (.int (ixx s1))] [(.ref o1), (.ref o1)])) _
      refine st103 _ ?_
      show Steps p.tables e below (T103.setTop (mkF m 15 #[.val (.ref o1), .val (.int (ixx s1))] [(.ref ba), (.ref o1)])) _
      refine XS.iloadN X103.here hx rfl (hb hby d9_15) rfl ?_
      show Steps p.tables e below (T103.setTop (mkF m 16 #[.val (.ref o1), .val (.int (ixx s1))] [(.int (ixx s1)), (.ref ba), (.ref o1)])) _
      refine X103.iaload hx (j := (ixx s1)) (v := (.int (enn (S1.a s1)))) (own_hc e103 Ar104.1) (State.isArrayOf_alike hZ.alike Ar104.2.1) Ar104.2.2 hin104 hat104 (g := (mkF m 16 #[.val (.ref o1), .val (.int (ixx s1))] [(.int (ixx s1)), (.ref ba), (.ref o1)])) rfl rfl (hb hby d9_16) _ ?_
      show Steps p.tables e below (T103.setTop (mkF m 17 #[.val (.ref o1), .val (.int (ixx s1))] [(.int (enn (S1.a s1))), (.ref o1)])) _
      refine st105 _ ?_
      show Steps p.tables e below (T105.setTop (mkF m 20 #[.val (.ref o1), .val (.int (ixx s1))] [])) _
      refine XS.goto X105.here hx rfl (pc0 := 20) (pc' := 40) rfl (hb hby d9_20) (by decide) (by decide) ?_
      exact kt
    rcases haq : S1.a s1 with _ | nq
    · have f106 := (F_a.other W105 (Or.inr (slot_ne (Or.inr (hw _ (List.mem_of_getElem? (i := 34) rfl))) (Or.inl (hw _ (List.mem_of_getElem? (i := 20) rfl))) (by decide) (t := (.array .int)) (t' := .int) (by decide) (by decide))))
      obtain ⟨T107, X107, e107, st107⟩ := getF X105 hx hZ hown (host := "") (Or.inl (hw _ (List.mem_of_getElem? (i := 33) rfl))) Via.refl e105 f106 (g := (mkF m 41 #[.val (.ref o1), .val (.int (ixx s1))] [(.ref o1)])) rfl rfl (hb hby d9_41)
      have f109 := (G_a.other W105 (Ne.symm ne3))
      obtain ⟨cl108, Ar108, Sa108, Ha108⟩ := id f109
      have hin108 : ¬ ((ixx s1) < 0 ∨ cl108.slots.size ≤ ((ixx s1)).toNatClampNeg) := own_ing Sa108 s1
      have hat108 : cl108.slots[((ixx s1)).toNatClampNeg]? = some (.int (enn (S1.a s1))) := own_atg Ha108 s1
      rw [haq] at hat108
      have f110 := (F_b.other W105 (Or.inr (slot_ne (Or.inr (hw _ (List.mem_of_getElem? (i := 32) rfl))) (Or.inl (hw _ (List.mem_of_getElem? (i := 20) rfl))) (by decide) (t := (.array .int)) (t' := .int) (by decide) (by decide))))
      obtain ⟨T111, X111, e111, st111⟩ := getF X107 hx hZ hown (host := "") (Or.inl (hw _ (List.mem_of_getElem? (i := 31) rfl))) Via.refl e107 f110 (g := (mkF m 52 #[.val (.ref o1), .val (.int (ixx s1))] [(.ref o1), (.ref o1)])) rfl rfl (hb hby d9_52)
      have f113 := (G_b.other W105 (Ne.symm ne2))
      obtain ⟨cl112, Ar112, Sa112, Ha112⟩ := id f113
      have hin112 : ¬ ((ixx s1) < 0 ∨ cl112.slots.size ≤ ((ixx s1)).toNatClampNeg) := own_ing Sa112 s1
      have hat112 : cl112.slots[((ixx s1)).toNatClampNeg]? = some (.int (enn (S1.b s1))) := own_atg Ha112 s1
      have f114 := (F_l.other W105 (Or.inr (slot_ne (Or.inl (hw _ (List.mem_of_getElem? (i := 22) rfl))) (Or.inl (hw _ (List.mem_of_getElem? (i := 20) rfl))) (by decide) (t := .int) (t' := .int) (by decide) (by decide))))
      have f115 := (E_o.wr W105)
      obtain ⟨T116, h116, X116, e116, W116, st116⟩ := putF X111 hx hZ hown (host := "") (Or.inl (hw _ (List.mem_of_getElem? (i := 21) rfl))) Via.refl e111 f114 f115 (Or.inl (hw _ (List.mem_of_getElem? (i := 22) rfl))) (hw _ (List.mem_of_getElem? (i := 11) rfl)) (ty := .int) (by decide) rfl rfl (g := (mkF m 57 #[.val (.ref o1), .val (.int (ixx s1))] [(.int (enn (S1.b s1))), (.ref o1)])) rfl rfl (hb hby d9_57)
      have Fw116 := f114.same W116
      have K116 : Keep h0 h116 [o1, bb, ba] := K105.wr W116 (Or.inl (List.mem_of_getElem? (i := 0) rfl))
      have N116 := Fr.snoc X116 N105 g_o1
      have f117 := (f115.wr W116)
      have f118 := (Fw105.other W116 (Or.inr (slot_ne (Or.inl (hw _ (List.mem_of_getElem? (i := 20) rfl))) (Or.inl (hw _ (List.mem_of_getElem? (i := 22) rfl))) (by decide) (t := .int) (t' := .int) (by decide) (by decide))))
      have f119 := ((F_c.other W105 (Or.inr (slot_ne (Or.inr (hw _ (List.mem_of_getElem? (i := 25) rfl))) (Or.inl (hw _ (List.mem_of_getElem? (i := 20) rfl))) (by decide) (t := (.array .double)) (t' := .int) (by decide) (by decide)))).other W116 (Or.inr (slot_ne (Or.inr (hw _ (List.mem_of_getElem? (i := 25) rfl))) (Or.inl (hw _ (List.mem_of_getElem? (i := 22) rfl))) (by decide) (t := (.array .double)) (t' := .int) (by decide) (by decide))))
      have f120 := (f110.other W116 (Or.inr (slot_ne (Or.inr (hw _ (List.mem_of_getElem? (i := 32) rfl))) (Or.inl (hw _ (List.mem_of_getElem? (i := 22) rfl))) (by decide) (t := (.array .int)) (t' := .int) (by decide) (by decide))))
      have f121 := (f106.other W116 (Or.inr (slot_ne (Or.inr (hw _ (List.mem_of_getElem? (i := 34) rfl))) (Or.inl (hw _ (List.mem_of_getElem? (i := 22) rfl))) (by decide) (t := (.array .int)) (t' := .int) (by decide) (by decide))))
      have f122 := (f113.other W116 (Ne.symm ne2))
      have f123 := (f109.other W116 (Ne.symm ne3))
      refine Gl.fin X116 (v := none) (fun _ => rfl) Bd.notSynchronized ?_ e116 (by decide) (by decide) (fun fs hr => ?_)
      · have eS : remF S1 s1 = (⟨(S1.a s1), (S1.b s1), S1.b, S1.a⟩ : LS) := by simp [remF, rem1, rem2, hbq, haq, LS_f, LS_l, LS_b, LS_a]
        unfold Q9
        rw [eS]
        exact ⟨rfl, N116, K116, f117, f118, Fw116, f119, f120, f121, f122, f123⟩
      · show Steps p.tables e below (T105.setTop (mkF m 40 #[.val (.ref o1), .val (.int (ixx s1))] [])) _
        refine XS.aloadN X105.here hx rfl (hb hby d9_40) rfl rfl ?_
        show Steps p.tables e below (T105.setTop (mkF m 41 #[.val (.ref o1), .val (.int (ixx s1))] [(.ref o1)])) _
        refine st107 _ ?_
        show Steps p.tables e below (T107.setTop (mkF m 44 #[.val (.ref o1), .val (.int (ixx s1))] [(.ref ba)])) _
        refine XS.iloadN X107.here hx rfl (hb hby d9_44) rfl ?_
        show Steps p.tables e below (T107.setTop (mkF m 45 #[.val (.ref o1), .val (.int (ixx s1))] [(.int (ixx s1)), (.ref ba)])) _
        refine X107.iaload hx (j := (ixx s1)) (v := (.int (enn none))) (own_hc e107 Ar108.1) (State.isArrayOf_alike hZ.alike Ar108.2.1) Ar108.2.2 hin108 hat108 (g := (mkF m 45 #[.val (.ref o1), .val (.int (ixx s1))] [(.int (ixx s1)), (.ref ba)])) rfl rfl (hb hby d9_45) _ ?_
        show Steps p.tables e below (T107.setTop (mkF m 46 #[.val (.ref o1), .val (.int (ixx s1))] [(.int (enn none))])) _
        refine XS.iconst X107.here hx rfl (hb hby d9_46) ?_
        show Steps p.tables e below (T107.setTop (mkF m 47 #[.val (.ref o1), .val (.int (ixx s1))] [(.int (-1 : Int32)), (.int (enn none))])) _
        refine XS.icmpNo X107.here hx rfl (hb hby d9_47) rfl (own_nf (ic_ne _ _) rfl) ?_
        show Steps p.tables e below (T107.setTop (mkF m 50 #[.val (.ref o1), .val (.int (ixx s1))] [])) _
        refine XS.aloadN X107.here hx rfl (hb hby d9_50) rfl rfl ?_
        show Steps p.tables e below (T107.setTop (mkF m 51 #[.val (.ref o1), .val (.int (ixx s1))] [(.ref o1)])) _
        refine XS.aloadN X107.here hx rfl (hb hby d9_51) rfl rfl ?_
        show Steps p.tables e below (T107.setTop (mkF m 52 #[.val (.ref o1), .val (.int (ixx s1))] [(.ref o1), (.ref o1)])) _
        refine st111 _ ?_
        show Steps p.tables e below (T111.setTop (mkF m 55 #[.val (.ref o1), .val (.int (ixx s1))] [(.ref bb), (.ref o1)])) _
        refine XS.iloadN X111.here hx rfl (hb hby d9_55) rfl ?_
        show Steps p.tables e below (T111.setTop (mkF m 56 #[.val (.ref o1), .val (.int (ixx s1))] [(.int (ixx s1)), (.ref bb), (.ref o1)])) _
        refine X111.iaload hx (j := (ixx s1)) (v := (.int (enn (S1.b s1)))) (own_hc e111 Ar112.1) (State.isArrayOf_alike hZ.alike Ar112.2.1) Ar112.2.2 hin112 hat112 (g := (mkF m 56 #[.val (.ref o1), .val (.int (ixx s1))] [(.int (ixx s1)), (.ref bb), (.ref o1)])) rfl rfl (hb hby d9_56) _ ?_
        show Steps p.tables e below (T111.setTop (mkF m 57 #[.val (.ref o1), .val (.int (ixx s1))] [(.int (enn (S1.b s1))), (.ref o1)])) _
        refine st116 _ ?_
        show Steps p.tables e below (T116.setTop (mkF m 60 #[.val (.ref o1), .val (.int (ixx s1))] [])) _
        refine XS.goto X116.here hx rfl (pc0 := 60) (pc' := 80) rfl (hb hby d9_60) (by decide) (by decide) ?_
        show Steps p.tables e below (T116.setTop (mkF m 80 #[.val (.ref o1), .val (.int (ixx s1))] [])) _
        exact X116.returnOut hx Bd.returns (hb hby d9_80) hr
    · have f124 := (F_a.other W105 (Or.inr (slot_ne (Or.inr (hw _ (List.mem_of_getElem? (i := 34) rfl))) (Or.inl (hw _ (List.mem_of_getElem? (i := 20) rfl))) (by decide) (t := (.array .int)) (t' := .int) (by decide) (by decide))))
      obtain ⟨T125, X125, e125, st125⟩ := getF X105 hx hZ hown (host := "") (Or.inl (hw _ (List.mem_of_getElem? (i := 33) rfl))) Via.refl e105 f124 (g := (mkF m 41 #[.val (.ref o1), .val (.int (ixx s1))] [(.ref o1)])) rfl rfl (hb hby d9_41)
      have f127 := (G_a.other W105 (Ne.symm ne3))
      obtain ⟨cl126, Ar126, Sa126, Ha126⟩ := id f127
      have hin126 : ¬ ((ixx s1) < 0 ∨ cl126.slots.size ≤ ((ixx s1)).toNatClampNeg) := own_ing Sa126 s1
      have hat126 : cl126.slots[((ixx s1)).toNatClampNeg]? = some (.int (enn (S1.a s1))) := own_atg Ha126 s1
      rw [haq] at hat126
      have f128 := (F_b.other W105 (Or.inr (slot_ne (Or.inr (hw _ (List.mem_of_getElem? (i := 32) rfl))) (Or.inl (hw _ (List.mem_of_getElem? (i := 20) rfl))) (by decide) (t := (.array .int)) (t' := .int) (by decide) (by decide))))
      obtain ⟨T129, X129, e129, st129⟩ := getF X125 hx hZ hown (host := "") (Or.inl (hw _ (List.mem_of_getElem? (i := 31) rfl))) Via.refl e125 f128 (g := (mkF m 64 #[.val (.ref o1), .val (.int (ixx s1))] [(.ref o1)])) rfl rfl (hb hby d9_64)
      obtain ⟨T130, X130, e130, st130⟩ := getF X129 hx hZ hown (host := "") (Or.inl (hw _ (List.mem_of_getElem? (i := 33) rfl))) Via.refl e129 f124 (g := (mkF m 68 #[.val (.ref o1), .val (.int (ixx s1))] [(.ref o1), (.ref bb)])) rfl rfl (hb hby d9_68)
      obtain ⟨cl131, Ar131, Sa131, Ha131⟩ := id f127
      have hin131 : ¬ ((ixx s1) < 0 ∨ cl131.slots.size ≤ ((ixx s1)).toNatClampNeg) := own_ing Sa131 s1
      have hat131 : cl131.slots[((ixx s1)).toNatClampNeg]? = some (.int (enn (S1.a s1))) := own_atg Ha131 s1
      rw [haq] at hat131
      obtain ⟨T132, X132, e132, st132⟩ := getF X130 hx hZ hown (host := "") (Or.inl (hw _ (List.mem_of_getElem? (i := 31) rfl))) Via.refl e130 f128 (g := (mkF m 74 #[.val (.ref o1), .val (.int (ixx s1))] [(.ref o1), (.int (enn (some nq))), (.ref bb)])) rfl rfl (hb hby d9_74)
      have f134 := (G_b.other W105 (Ne.symm ne2))
      obtain ⟨cl133, Ar133, Sa133, Ha133⟩ := id f134
      have hin133 : ¬ ((ixx s1) < 0 ∨ cl133.slots.size ≤ ((ixx s1)).toNatClampNeg) := own_ing Sa133 s1
      have hat133 : cl133.slots[((ixx s1)).toNatClampNeg]? = some (.int (enn (S1.b s1))) := own_atg Ha133 s1
      obtain ⟨cl135, Ar135, Sa135, Ha135⟩ := id f134
      have hin135 : ¬ ((enn (some nq)) < 0 ∨ cl135.slots.size ≤ ((enn (some nq))).toNatClampNeg) := own_ing Sa135 nq
      obtain ⟨T135, h135, X135, e135, W135, st135⟩ := stI X132 hx hZ e132 Ar135 (j := (enn (some nq))) hin135 (g := (mkF m 79 #[.val (.ref o1), .val (.int (ixx s1))] [(.int (enn (S1.b s1))), (.int (enn (some nq))), (.ref bb)])) rfl rfl (hb hby d9_79)
      have G135 : ArG Z h135 bb .int (fun j => (.int (enn ((upp S1.b nq (S1.b s1)) j)))) := (ArG.set Ar135 Sa135 Ha135 (i := nq) W135).congr (fun j => by unfold upp; split <;> rfl)
      have K135 : Keep h0 h135 [o1, bb, ba] := K105.wr W135 (Or.inl (List.mem_of_getElem? (i := 1) rfl))
      have N135 := Fr.snoc X135 N105 g_bb
      have f136 := ((E_o.wr W105).wr W135)
      have f137 := (Fw105.other W135 (Or.inl ne2))
      have f138 := ((F_l.other W105 (Or.inr (slot_ne (Or.inl (hw _ (List.mem_of_getElem? (i := 22) rfl))) (Or.inl (hw _ (List.mem_of_getElem? (i := 20) rfl))) (by decide) (t := .int) (t' := .int) (by decide) (by decide)))).other W135 (Or.inl ne2))
      have f139 := ((F_c.other W105 (Or.inr (slot_ne (Or.inr (hw _ (List.mem_of_getElem? (i := 25) rfl))) (Or.inl (hw _ (List.mem_of_getElem? (i := 20) rfl))) (by decide) (t := (.array .double)) (t' := .int) (by decide) (by decide)))).other W135 (Or.inl ne2))
      have f140 := (f128.other W135 (Or.inl ne2))
      have f141 := (f124.other W135 (Or.inl ne2))
      have f142 := (f127.other W135 (Ne.symm ne6))
      refine Gl.fin X135 (v := none) (fun _ => rfl) Bd.notSynchronized ?_ e135 (by decide) (by decide) (fun fs hr => ?_)
      · have eS : remF S1 s1 = (⟨(S1.a s1), S1.l, (upp S1.b nq (S1.b s1)), S1.a⟩ : LS) := by simp [remF, rem1, rem2, hbq, haq, LS_f, LS_l, LS_b, LS_a]
        unfold Q9
        rw [eS]
        exact ⟨rfl, N135, K135, f136, f137, f138, f139, f140, f141, G135, f142⟩
      · show Steps p.tables e below (T105.setTop (mkF m 40 #[.val (.ref o1), .val (.int (ixx s1))] [])) _
        refine XS.aloadN X105.here hx rfl (hb hby d9_40) rfl rfl ?_
        show Steps p.tables e below (T105.setTop (mkF m 41 #[.val (.ref o1), .val (.int (ixx s1))] [(.ref o1)])) _
        refine st125 _ ?_
        show Steps p.tables e below (T125.setTop (mkF m 44 #[.val (.ref o1), .val (.int (ixx s1))] [(.ref ba)])) _
        refine XS.iloadN X125.here hx rfl (hb hby d9_44) rfl ?_
        show Steps p.tables e below (T125.setTop (mkF m 45 #[.val (.ref o1), .val (.int (ixx s1))] [(.int (ixx s1)), (.ref ba)])) _
        refine X125.iaload hx (j := (ixx s1)) (v := (.int (enn (some nq)))) (own_hc e125 Ar126.1) (State.isArrayOf_alike hZ.alike Ar126.2.1) Ar126.2.2 hin126 hat126 (g := (mkF m 45 #[.val (.ref o1), .val (.int (ixx s1))] [(.int (ixx s1)), (.ref ba)])) rfl rfl (hb hby d9_45) _ ?_
        show Steps p.tables e below (T125.setTop (mkF m 46 #[.val (.ref o1), .val (.int (ixx s1))] [(.int (enn (some nq)))])) _
        refine XS.iconst X125.here hx rfl (hb hby d9_46) ?_
        show Steps p.tables e below (T125.setTop (mkF m 47 #[.val (.ref o1), .val (.int (ixx s1))] [(.int (-1 : Int32)), (.int (enn (some nq)))])) _
        refine XS.icmpYes X125.here hx rfl (pc0 := 47) (pc' := 63) rfl (hb hby d9_47) rfl (own_nt (ic_ne _ _) (own_en_ne _)) (by decide) (by decide) ?_
        show Steps p.tables e below (T125.setTop (mkF m 63 #[.val (.ref o1), .val (.int (ixx s1))] [])) _
        refine XS.aloadN X125.here hx rfl (hb hby d9_63) rfl rfl ?_
        show Steps p.tables e below (T125.setTop (mkF m 64 #[.val (.ref o1), .val (.int (ixx s1))] [(.ref o1)])) _
        refine st129 _ ?_
        show Steps p.tables e below (T129.setTop (mkF m 67 #[.val (.ref o1), .val (.int (ixx s1))] [(.ref bb)])) _
        refine XS.aloadN X129.here hx rfl (hb hby d9_67) rfl rfl ?_
        show Steps p.tables e below (T129.setTop (mkF m 68 #[.val (.ref o1), .val (.int (ixx s1))] [(.ref o1), (.ref bb)])) _
        refine st130 _ ?_
        show Steps p.tables e below (T130.setTop (mkF m 71 #[.val (.ref o1), .val (.int (ixx s1))] [(.ref ba), (.ref bb)])) _
        refine XS.iloadN X130.here hx rfl (hb hby d9_71) rfl ?_
        show Steps p.tables e below (T130.setTop (mkF m 72 #[.val (.ref o1), .val (.int (ixx s1))] [(.int (ixx s1)), (.ref ba), (.ref bb)])) _
        refine X130.iaload hx (j := (ixx s1)) (v := (.int (enn (some nq)))) (own_hc e130 Ar131.1) (State.isArrayOf_alike hZ.alike Ar131.2.1) Ar131.2.2 hin131 hat131 (g := (mkF m 72 #[.val (.ref o1), .val (.int (ixx s1))] [(.int (ixx s1)), (.ref ba), (.ref bb)])) rfl rfl (hb hby d9_72) _ ?_
        show Steps p.tables e below (T130.setTop (mkF m 73 #[.val (.ref o1), .val (.int (ixx s1))] [(.int (enn (some nq))), (.ref bb)])) _
        refine XS.aloadN X130.here hx rfl (hb hby d9_73) rfl rfl ?_
        show Steps p.tables e below (T130.setTop (mkF m 74 #[.val (.ref o1), .val (.int (ixx s1))] [(.ref o1), (.int (enn (some nq))), (.ref bb)])) _
        refine st132 _ ?_
        show Steps p.tables e below (T132.setTop (mkF m 77 #[.val (.ref o1), .val (.int (ixx s1))] [(.ref bb), (.int (enn (some nq))), (.ref bb)])) _
        refine XS.iloadN X132.here hx rfl (hb hby d9_77) rfl ?_
        show Steps p.tables e below (T132.setTop (mkF m 78 #[.val (.ref o1), .val (.int (ixx s1))] [(.int (ixx s1)), (.ref bb), (.int (enn (some nq))), (.ref bb)])) _
        refine X132.iaload hx (j := (ixx s1)) (v := (.int (enn (S1.b s1)))) (own_hc e132 Ar133.1) (State.isArrayOf_alike hZ.alike Ar133.2.1) Ar133.2.2 hin133 hat133 (g := (mkF m 78 #[.val (.ref o1), .val (.int (ixx s1))] [(.int (ixx s1)), (.ref bb), (.int (enn (some nq))), (.ref bb)])) rfl rfl (hb hby d9_78) _ ?_
        show Steps p.tables e below (T132.setTop (mkF m 79 #[.val (.ref o1), .val (.int (ixx s1))] [(.int (enn (S1.b s1))), (.int (enn (some nq))), (.ref bb)])) _
        refine st135 _ ?_
        show Steps p.tables e below (T135.setTop (mkF m 80 #[.val (.ref o1), .val (.int (ixx s1))] [])) _
        exact X135.returnOut hx Bd.returns (hb hby d9_80) hr
  · obtain ⟨T143, X143, e143, st143⟩ := getF X0 hx hZ hown (host := "") (Or.inl (hw _ (List.mem_of_getElem? (i := 31) rfl))) Via.refl e0 F_b (g := (mkF m 1 #[.val (.ref o1), .val (.int (ixx s1))] [(.ref o1)])) rfl rfl (hb hby d9_1)
    obtain ⟨cl144, Ar144, Sa144, Ha144⟩ := id G_b
    have hin144 : ¬ ((ixx s1) < 0 ∨ cl144.slots.size ≤ ((ixx s1)).toNatClampNeg) := own_ing Sa144 s1
    have hat144 : cl144.slots[((ixx s1)).toNatClampNeg]? = some (.int (enn (S1.b s1))) := own_atg Ha144 s1
    rw [hbq] at hat144
    obtain ⟨T145, X145, e145, st145⟩ := getF X143 hx hZ hown (host := "") (Or.inl (hw _ (List.mem_of_getElem? (i := 33) rfl))) Via.refl e143 F_a (g := (mkF m 24 #[.val (.ref o1), .val (.int (ixx s1))] [(.ref o1)])) rfl rfl (hb hby d9_24)
    obtain ⟨T146, X146, e146, st146⟩ := getF X145 hx hZ hown (host := "") (Or.inl (hw _ (List.mem_of_getElem? (i := 31) rfl))) Via.refl e145 F_b (g := (mkF m 28 #[.val (.ref o1), .val (.int (ixx s1))] [(.ref o1), (.ref ba)])) rfl rfl (hb hby d9_28)
    obtain ⟨cl147, Ar147, Sa147, Ha147⟩ := id G_b
    have hin147 : ¬ ((ixx s1) < 0 ∨ cl147.slots.size ≤ ((ixx s1)).toNatClampNeg) := own_ing Sa147 s1
    have hat147 : cl147.slots[((ixx s1)).toNatClampNeg]? = some (.int (enn (S1.b s1))) := own_atg Ha147 s1
    rw [hbq] at hat147
    obtain ⟨T148, X148, e148, st148⟩ := getF X146 hx hZ hown (host := "") (Or.inl (hw _ (List.mem_of_getElem? (i := 33) rfl))) Via.refl e146 F_a (g := (mkF m 34 #[.val (.ref o1), .val (.int (ixx s1))] [(.ref o1), (.int (enn (some pq))), (.ref ba)])) rfl rfl (hb hby d9_34)
    obtain ⟨cl149, Ar149, Sa149, Ha149⟩ := id G_a
    have hin149 : ¬ ((ixx s1) < 0 ∨ cl149.slots.size ≤ ((ixx s1)).toNatClampNeg) := own_ing Sa149 s1
    have hat149 : cl149.slots[((ixx s1)).toNatClampNeg]? = some (.int (enn (S1.a s1))) := own_atg Ha149 s1
    obtain ⟨cl150, Ar150, Sa150, Ha150⟩ := id G_a
    have hin150 : ¬ ((enn (some pq)) < 0 ∨ cl150.slots.size ≤ ((enn (some pq))).toNatClampNeg) := own_ing Sa150 pq
    obtain ⟨T150, h150, X150, e150, W150, st150⟩ := stI X148 hx hZ e148 Ar150 (j := (enn (some pq))) hin150 (g := (mkF m 39 #[.val (.ref o1), .val (.int (ixx s1))] [(.int (enn (S1.a s1))), (.int (enn (some pq))), (.ref ba)])) rfl rfl (hb hby d9_39)
    have G150 : ArG Z h150 ba .int (fun j => (.int (enn ((upp S1.a pq (S1.a s1)) j)))) := (ArG.set Ar150 Sa150 Ha150 (i := pq) W150).congr (fun j => by unfold upp; split <;> rfl)
    have K150 : Keep h0 h150 [o1, bb, ba] := K0.wr W150 (Or.inl (List.mem_of_getElem? (i := 2) rfl))
    have N150 := Fr.snoc X150 N0 g_ba
    refine Gl.pre (S' := T150.setTop (mkF m 40 #[.val (.ref o1), .val (.int (ixx s1))] [])) (fun t kt => ?_) ?_
    · show Steps p.tables e below (s₁.setTop (mkF m 0 #[.val (.ref o1), .val (.int (ixx s1))] [])) _
      refine XS.aloadN X0.here hx rfl (hb hby d9_0) rfl rfl ?_
      show Steps p.tables e below (s₁.setTop (mkF m 1 #[.val (.ref o1), .val (.int (ixx s1))] [(.ref o1)])) _
      refine st143 _ ?_
      show Steps p.tables e below (T143.setTop (mkF m 4 #[.val (.ref o1), .val (.int (ixx s1))] [(.ref bb)])) _
      refine XS.iloadN X143.here hx rfl (hb hby d9_4) rfl ?_
      show Steps p.tables e below (T143.setTop (mkF m 5 #[.val (.ref o1), .val (.int (ixx s1))] [(.int (ixx s1)), (.ref bb)])) _
      refine X143.iaload hx (j := (ixx s1)) (v := (.int (enn (some pq)))) (own_hc e143 Ar144.1) (State.isArrayOf_alike hZ.alike Ar144.2.1) Ar144.2.2 hin144 hat144 (g := (mkF m 5 #[.val (.ref o1), .val (.int (ixx s1))] [(.int (ixx s1)), (.ref bb)])) rfl rfl (hb hby d9_5) _ ?_
      show Steps p.tables e below (T143.setTop (mkF m 6 #[.val (.ref o1), .val (.int (ixx s1))] [(.int (enn (some pq)))])) _
      refine XS.iconst X143.here hx rfl (hb hby d9_6) ?_
      show Steps p.tables e below (T143.setTop (mkF m 7 #[.val (.ref o1), .val (.int (ixx s1))] [(.int (-1 : Int32)), (.int (enn (some pq)))])) _
      refine XS.icmpYes X143.here hx rfl (pc0 := 7) (pc' := 23) rfl (hb hby d9_7) rfl (own_nt (ic_ne _ _) (own_en_ne _)) (by decide) (by decide) ?_
      show Steps p.tables e below (T143.setTop (mkF m 23 #[.val (.ref o1), .val (.int (ixx s1))] [])) _
      refine XS.aloadN X143.here hx rfl (hb hby d9_23) rfl rfl ?_
      show Steps p.tables e below (T143.setTop (mkF m 24 #[.val (.ref o1), .val (.int (ixx s1))] [(.ref o1)])) _
      refine st145 _ ?_
      show Steps p.tables e below (T145.setTop (mkF m 27 #[.val (.ref o1), .val (.int (ixx s1))] [(.ref ba)])) _
      refine XS.aloadN X145.here hx rfl (hb hby d9_27) rfl rfl ?_
      show Steps p.tables e below (T145.setTop (mkF m 28 #[.val (.ref o1), .val (.int (ixx s1))] [(.ref o1), (.ref ba)])) _
      refine st146 _ ?_
      show Steps p.tables e below (T146.setTop (mkF m 31 #[.val (.ref o1), .val (.int (ixx s1))] [(.ref bb), (.ref ba)])) _
      refine XS.iloadN X146.here hx rfl (hb hby d9_31) rfl ?_
      show Steps p.tables e below (T146.setTop (mkF m 32 #[.val (.ref o1), .val (.int (ixx s1))] [(.int (ixx s1)), (.ref bb), (.ref ba)])) _
      refine X146.iaload hx (j := (ixx s1)) (v := (.int (enn (some pq)))) (own_hc e146 Ar147.1) (State.isArrayOf_alike hZ.alike Ar147.2.1) Ar147.2.2 hin147 hat147 (g := (mkF m 32 #[.val (.ref o1), .val (.int (ixx s1))] [(.int (ixx s1)), (.ref bb), (.ref ba)])) rfl rfl (hb hby d9_32) _ ?_
      show Steps p.tables e below (T146.setTop (mkF m 33 #[.val (.ref o1), .val (.int (ixx s1))] [(.int (enn (some pq))), (.ref ba)])) _
      refine XS.aloadN X146.here hx rfl (hb hby d9_33) rfl rfl ?_
      show Steps p.tables e below (T146.setTop (mkF m 34 #[.val (.ref o1), .val (.int (ixx s1))] [(.ref o1), (.int (enn (some pq))), (.ref ba)])) _
      refine st148 _ ?_
      show Steps p.tables e below (T148.setTop (mkF m 37 #[.val (.ref o1), .val (.int (ixx s1))] [(.ref ba), (.int (enn (some pq))), (.ref ba)])) _
      refine XS.iloadN X148.here hx rfl (hb hby d9_37) rfl ?_
      show Steps p.tables e below (T148.setTop (mkF m 38 #[.val (.ref o1), .val (.int (ixx s1))] [(.int (ixx s1)), (.ref ba), (.int (enn (some pq))), (.ref ba)])) _
      refine X148.iaload hx (j := (ixx s1)) (v := (.int (enn (S1.a s1)))) (own_hc e148 Ar149.1) (State.isArrayOf_alike hZ.alike Ar149.2.1) Ar149.2.2 hin149 hat149 (g := (mkF m 38 #[.val (.ref o1), .val (.int (ixx s1))] [(.int (ixx s1)), (.ref ba), (.int (enn (some pq))), (.ref ba)])) rfl rfl (hb hby d9_38) _ ?_
      show Steps p.tables e below (T148.setTop (mkF m 39 #[.val (.ref o1), .val (.int (ixx s1))] [(.int (enn (S1.a s1))), (.int (enn (some pq))), (.ref ba)])) _
      refine st150 _ ?_
      exact kt
    rcases haq : (upp S1.a pq (S1.a s1)) s1 with _ | nq
    · have f151 := (F_a.other W150 (Or.inl ne3))
      obtain ⟨T152, X152, e152, st152⟩ := getF X150 hx hZ hown (host := "") (Or.inl (hw _ (List.mem_of_getElem? (i := 33) rfl))) Via.refl e150 f151 (g := (mkF m 41 #[.val (.ref o1), .val (.int (ixx s1))] [(.ref o1)])) rfl rfl (hb hby d9_41)
      obtain ⟨cl153, Ar153, Sa153, Ha153⟩ := id G150
      have hin153 : ¬ ((ixx s1) < 0 ∨ cl153.slots.size ≤ ((ixx s1)).toNatClampNeg) := own_ing Sa153 s1
      have hat153 : cl153.slots[((ixx s1)).toNatClampNeg]? = some (.int (enn ((upp S1.a pq (S1.a s1)) s1))) := own_atg Ha153 s1
      rw [haq] at hat153
      have f154 := (F_b.other W150 (Or.inl ne3))
      obtain ⟨T155, X155, e155, st155⟩ := getF X152 hx hZ hown (host := "") (Or.inl (hw _ (List.mem_of_getElem? (i := 31) rfl))) Via.refl e152 f154 (g := (mkF m 52 #[.val (.ref o1), .val (.int (ixx s1))] [(.ref o1), (.ref o1)])) rfl rfl (hb hby d9_52)
      have f157 := (G_b.other W150 ne6)
      obtain ⟨cl156, Ar156, Sa156, Ha156⟩ := id f157
      have hin156 : ¬ ((ixx s1) < 0 ∨ cl156.slots.size ≤ ((ixx s1)).toNatClampNeg) := own_ing Sa156 s1
      have hat156 : cl156.slots[((ixx s1)).toNatClampNeg]? = some (.int (enn (S1.b s1))) := own_atg Ha156 s1
      have f158 := (F_l.other W150 (Or.inl ne3))
      have f159 := (E_o.wr W150)
      obtain ⟨T160, h160, X160, e160, W160, st160⟩ := putF X155 hx hZ hown (host := "") (Or.inl (hw _ (List.mem_of_getElem? (i := 21) rfl))) Via.refl e155 f158 f159 (Or.inl (hw _ (List.mem_of_getElem? (i := 22) rfl))) (hw _ (List.mem_of_getElem? (i := 11) rfl)) (ty := .int) (by decide) rfl rfl (g := (mkF m 57 #[.val (.ref o1), .val (.int (ixx s1))] [(.int (enn (S1.b s1))), (.ref o1)])) rfl rfl (hb hby d9_57)
      have Fw160 := f158.same W160
      have K160 : Keep h0 h160 [o1, bb, ba] := K150.wr W160 (Or.inl (List.mem_of_getElem? (i := 0) rfl))
      have N160 := Fr.snoc X160 N150 g_o1
      have f161 := (f159.wr W160)
      have f162 := ((F_f.other W150 (Or.inl ne3)).other W160 (Or.inr (slot_ne (Or.inl (hw _ (List.mem_of_getElem? (i := 20) rfl))) (Or.inl (hw _ (List.mem_of_getElem? (i := 22) rfl))) (by decide) (t := .int) (t' := .int) (by decide) (by decide))))
      have f163 := ((F_c.other W150 (Or.inl ne3)).other W160 (Or.inr (slot_ne (Or.inr (hw _ (List.mem_of_getElem? (i := 25) rfl))) (Or.inl (hw _ (List.mem_of_getElem? (i := 22) rfl))) (by decide) (t := (.array .double)) (t' := .int) (by decide) (by decide))))
      have f164 := (f154.other W160 (Or.inr (slot_ne (Or.inr (hw _ (List.mem_of_getElem? (i := 32) rfl))) (Or.inl (hw _ (List.mem_of_getElem? (i := 22) rfl))) (by decide) (t := (.array .int)) (t' := .int) (by decide) (by decide))))
      have f165 := (f151.other W160 (Or.inr (slot_ne (Or.inr (hw _ (List.mem_of_getElem? (i := 34) rfl))) (Or.inl (hw _ (List.mem_of_getElem? (i := 22) rfl))) (by decide) (t := (.array .int)) (t' := .int) (by decide) (by decide))))
      have f166 := (f157.other W160 (Ne.symm ne2))
      have f167 := (G150.other W160 (Ne.symm ne3))
      refine Gl.fin X160 (v := none) (fun _ => rfl) Bd.notSynchronized ?_ e160 (by decide) (by decide) (fun fs hr => ?_)
      · have eS : remF S1 s1 = (⟨S1.f, (S1.b s1), S1.b, (upp S1.a pq (S1.a s1))⟩ : LS) := by simp [remF, rem1, rem2, hbq, haq, LS_f, LS_l, LS_b, LS_a]
        unfold Q9
        rw [eS]
        exact ⟨rfl, N160, K160, f161, f162, Fw160, f163, f164, f165, f166, f167⟩
      · show Steps p.tables e below (T150.setTop (mkF m 40 #[.val (.ref o1), .val (.int (ixx s1))] [])) _
        refine XS.aloadN X150.here hx rfl (hb hby d9_40) rfl rfl ?_
        show Steps p.tables e below (T150.setTop (mkF m 41 #[.val (.ref o1), .val (.int (ixx s1))] [(.ref o1)])) _
        refine st152 _ ?_
        show Steps p.tables e below (T152.setTop (mkF m 44 #[.val (.ref o1), .val (.int (ixx s1))] [(.ref ba)])) _
        refine XS.iloadN X152.here hx rfl (hb hby d9_44) rfl ?_
        show Steps p.tables e below (T152.setTop (mkF m 45 #[.val (.ref o1), .val (.int (ixx s1))] [(.int (ixx s1)), (.ref ba)])) _
        refine X152.iaload hx (j := (ixx s1)) (v := (.int (enn none))) (own_hc e152 Ar153.1) (State.isArrayOf_alike hZ.alike Ar153.2.1) Ar153.2.2 hin153 hat153 (g := (mkF m 45 #[.val (.ref o1), .val (.int (ixx s1))] [(.int (ixx s1)), (.ref ba)])) rfl rfl (hb hby d9_45) _ ?_
        show Steps p.tables e below (T152.setTop (mkF m 46 #[.val (.ref o1), .val (.int (ixx s1))] [(.int (enn none))])) _
        refine XS.iconst X152.here hx rfl (hb hby d9_46) ?_
        show Steps p.tables e below (T152.setTop (mkF m 47 #[.val (.ref o1), .val (.int (ixx s1))] [(.int (-1 : Int32)), (.int (enn none))])) _
        refine XS.icmpNo X152.here hx rfl (hb hby d9_47) rfl (own_nf (ic_ne _ _) rfl) ?_
        show Steps p.tables e below (T152.setTop (mkF m 50 #[.val (.ref o1), .val (.int (ixx s1))] [])) _
        refine XS.aloadN X152.here hx rfl (hb hby d9_50) rfl rfl ?_
        show Steps p.tables e below (T152.setTop (mkF m 51 #[.val (.ref o1), .val (.int (ixx s1))] [(.ref o1)])) _
        refine XS.aloadN X152.here hx rfl (hb hby d9_51) rfl rfl ?_
        show Steps p.tables e below (T152.setTop (mkF m 52 #[.val (.ref o1), .val (.int (ixx s1))] [(.ref o1), (.ref o1)])) _
        refine st155 _ ?_
        show Steps p.tables e below (T155.setTop (mkF m 55 #[.val (.ref o1), .val (.int (ixx s1))] [(.ref bb), (.ref o1)])) _
        refine XS.iloadN X155.here hx rfl (hb hby d9_55) rfl ?_
        show Steps p.tables e below (T155.setTop (mkF m 56 #[.val (.ref o1), .val (.int (ixx s1))] [(.int (ixx s1)), (.ref bb), (.ref o1)])) _
        refine X155.iaload hx (j := (ixx s1)) (v := (.int (enn (S1.b s1)))) (own_hc e155 Ar156.1) (State.isArrayOf_alike hZ.alike Ar156.2.1) Ar156.2.2 hin156 hat156 (g := (mkF m 56 #[.val (.ref o1), .val (.int (ixx s1))] [(.int (ixx s1)), (.ref bb), (.ref o1)])) rfl rfl (hb hby d9_56) _ ?_
        show Steps p.tables e below (T155.setTop (mkF m 57 #[.val (.ref o1), .val (.int (ixx s1))] [(.int (enn (S1.b s1))), (.ref o1)])) _
        refine st160 _ ?_
        show Steps p.tables e below (T160.setTop (mkF m 60 #[.val (.ref o1), .val (.int (ixx s1))] [])) _
        refine XS.goto X160.here hx rfl (pc0 := 60) (pc' := 80) rfl (hb hby d9_60) (by decide) (by decide) ?_
        show Steps p.tables e below (T160.setTop (mkF m 80 #[.val (.ref o1), .val (.int (ixx s1))] [])) _
        exact X160.returnOut hx Bd.returns (hb hby d9_80) hr
    · have f168 := (F_a.other W150 (Or.inl ne3))
      obtain ⟨T169, X169, e169, st169⟩ := getF X150 hx hZ hown (host := "") (Or.inl (hw _ (List.mem_of_getElem? (i := 33) rfl))) Via.refl e150 f168 (g := (mkF m 41 #[.val (.ref o1), .val (.int (ixx s1))] [(.ref o1)])) rfl rfl (hb hby d9_41)
      obtain ⟨cl170, Ar170, Sa170, Ha170⟩ := id G150
      have hin170 : ¬ ((ixx s1) < 0 ∨ cl170.slots.size ≤ ((ixx s1)).toNatClampNeg) := own_ing Sa170 s1
      have hat170 : cl170.slots[((ixx s1)).toNatClampNeg]? = some (.int (enn ((upp S1.a pq (S1.a s1)) s1))) := own_atg Ha170 s1
      rw [haq] at hat170
      have f171 := (F_b.other W150 (Or.inl ne3))
      obtain ⟨T172, X172, e172, st172⟩ := getF X169 hx hZ hown (host := "") (Or.inl (hw _ (List.mem_of_getElem? (i := 31) rfl))) Via.refl e169 f171 (g := (mkF m 64 #[.val (.ref o1), .val (.int (ixx s1))] [(.ref o1)])) rfl rfl (hb hby d9_64)
      obtain ⟨T173, X173, e173, st173⟩ := getF X172 hx hZ hown (host := "") (Or.inl (hw _ (List.mem_of_getElem? (i := 33) rfl))) Via.refl e172 f168 (g := (mkF m 68 #[.val (.ref o1), .val (.int (ixx s1))] [(.ref o1), (.ref bb)])) rfl rfl (hb hby d9_68)
      obtain ⟨cl174, Ar174, Sa174, Ha174⟩ := id G150
      have hin174 : ¬ ((ixx s1) < 0 ∨ cl174.slots.size ≤ ((ixx s1)).toNatClampNeg) := own_ing Sa174 s1
      have hat174 : cl174.slots[((ixx s1)).toNatClampNeg]? = some (.int (enn ((upp S1.a pq (S1.a s1)) s1))) := own_atg Ha174 s1
      rw [haq] at hat174
      obtain ⟨T175, X175, e175, st175⟩ := getF X173 hx hZ hown (host := "") (Or.inl (hw _ (List.mem_of_getElem? (i := 31) rfl))) Via.refl e173 f171 (g := (mkF m 74 #[.val (.ref o1), .val (.int (ixx s1))] [(.ref o1), (.int (enn (some nq))), (.ref bb)])) rfl rfl (hb hby d9_74)
      have f177 := (G_b.other W150 ne6)
      obtain ⟨cl176, Ar176, Sa176, Ha176⟩ := id f177
      have hin176 : ¬ ((ixx s1) < 0 ∨ cl176.slots.size ≤ ((ixx s1)).toNatClampNeg) := own_ing Sa176 s1
      have hat176 : cl176.slots[((ixx s1)).toNatClampNeg]? = some (.int (enn (S1.b s1))) := own_atg Ha176 s1
      obtain ⟨cl178, Ar178, Sa178, Ha178⟩ := id f177
      have hin178 : ¬ ((enn (some nq)) < 0 ∨ cl178.slots.size ≤ ((enn (some nq))).toNatClampNeg) := own_ing Sa178 nq
      obtain ⟨T178, h178, X178, e178, W178, st178⟩ := stI X175 hx hZ e175 Ar178 (j := (enn (some nq))) hin178 (g := (mkF m 79 #[.val (.ref o1), .val (.int (ixx s1))] [(.int (enn (S1.b s1))), (.int (enn (some nq))), (.ref bb)])) rfl rfl (hb hby d9_79)
      have G178 : ArG Z h178 bb .int (fun j => (.int (enn ((upp S1.b nq (S1.b s1)) j)))) := (ArG.set Ar178 Sa178 Ha178 (i := nq) W178).congr (fun j => by unfold upp; split <;> rfl)
      have K178 : Keep h0 h178 [o1, bb, ba] := K150.wr W178 (Or.inl (List.mem_of_getElem? (i := 1) rfl))
      have N178 := Fr.snoc X178 N150 g_bb
      have f179 := ((E_o.wr W150).wr W178)
      have f180 := ((F_f.other W150 (Or.inl ne3)).other W178 (Or.inl ne2))
      have f181 := ((F_l.other W150 (Or.inl ne3)).other W178 (Or.inl ne2))
      have f182 := ((F_c.other W150 (Or.inl ne3)).other W178 (Or.inl ne2))
      have f183 := (f171.other W178 (Or.inl ne2))
      have f184 := (f168.other W178 (Or.inl ne2))
      have f185 := (G150.other W178 (Ne.symm ne6))
      refine Gl.fin X178 (v := none) (fun _ => rfl) Bd.notSynchronized ?_ e178 (by decide) (by decide) (fun fs hr => ?_)
      · have eS : remF S1 s1 = (⟨S1.f, S1.l, (upp S1.b nq (S1.b s1)), (upp S1.a pq (S1.a s1))⟩ : LS) := by simp [remF, rem1, rem2, hbq, haq, LS_f, LS_l, LS_b, LS_a]
        unfold Q9
        rw [eS]
        exact ⟨rfl, N178, K178, f179, f180, f181, f182, f183, f184, G178, f185⟩
      · show Steps p.tables e below (T150.setTop (mkF m 40 #[.val (.ref o1), .val (.int (ixx s1))] [])) _
        refine XS.aloadN X150.here hx rfl (hb hby d9_40) rfl rfl ?_
        show Steps p.tables e below (T150.setTop (mkF m 41 #[.val (.ref o1), .val (.int (ixx s1))] [(.ref o1)])) _
        refine st169 _ ?_
        show Steps p.tables e below (T169.setTop (mkF m 44 #[.val (.ref o1), .val (.int (ixx s1))] [(.ref ba)])) _
        refine XS.iloadN X169.here hx rfl (hb hby d9_44) rfl ?_
        show Steps p.tables e below (T169.setTop (mkF m 45 #[.val (.ref o1), .val (.int (ixx s1))] [(.int (ixx s1)), (.ref ba)])) _
        refine X169.iaload hx (j := (ixx s1)) (v := (.int (enn (some nq)))) (own_hc e169 Ar170.1) (State.isArrayOf_alike hZ.alike Ar170.2.1) Ar170.2.2 hin170 hat170 (g := (mkF m 45 #[.val (.ref o1), .val (.int (ixx s1))] [(.int (ixx s1)), (.ref ba)])) rfl rfl (hb hby d9_45) _ ?_
        show Steps p.tables e below (T169.setTop (mkF m 46 #[.val (.ref o1), .val (.int (ixx s1))] [(.int (enn (some nq)))])) _
        refine XS.iconst X169.here hx rfl (hb hby d9_46) ?_
        show Steps p.tables e below (T169.setTop (mkF m 47 #[.val (.ref o1), .val (.int (ixx s1))] [(.int (-1 : Int32)), (.int (enn (some nq)))])) _
        refine XS.icmpYes X169.here hx rfl (pc0 := 47) (pc' := 63) rfl (hb hby d9_47) rfl (own_nt (ic_ne _ _) (own_en_ne _)) (by decide) (by decide) ?_
        show Steps p.tables e below (T169.setTop (mkF m 63 #[.val (.ref o1), .val (.int (ixx s1))] [])) _
        refine XS.aloadN X169.here hx rfl (hb hby d9_63) rfl rfl ?_
        show Steps p.tables e below (T169.setTop (mkF m 64 #[.val (.ref o1), .val (.int (ixx s1))] [(.ref o1)])) _
        refine st172 _ ?_
        show Steps p.tables e below (T172.setTop (mkF m 67 #[.val (.ref o1), .val (.int (ixx s1))] [(.ref bb)])) _
        refine XS.aloadN X172.here hx rfl (hb hby d9_67) rfl rfl ?_
        show Steps p.tables e below (T172.setTop (mkF m 68 #[.val (.ref o1), .val (.int (ixx s1))] [(.ref o1), (.ref bb)])) _
        refine st173 _ ?_
        show Steps p.tables e below (T173.setTop (mkF m 71 #[.val (.ref o1), .val (.int (ixx s1))] [(.ref ba), (.ref bb)])) _
        refine XS.iloadN X173.here hx rfl (hb hby d9_71) rfl ?_
        show Steps p.tables e below (T173.setTop (mkF m 72 #[.val (.ref o1), .val (.int (ixx s1))] [(.int (ixx s1)), (.ref ba), (.ref bb)])) _
        refine X173.iaload hx (j := (ixx s1)) (v := (.int (enn (some nq)))) (own_hc e173 Ar174.1) (State.isArrayOf_alike hZ.alike Ar174.2.1) Ar174.2.2 hin174 hat174 (g := (mkF m 72 #[.val (.ref o1), .val (.int (ixx s1))] [(.int (ixx s1)), (.ref ba), (.ref bb)])) rfl rfl (hb hby d9_72) _ ?_
        show Steps p.tables e below (T173.setTop (mkF m 73 #[.val (.ref o1), .val (.int (ixx s1))] [(.int (enn (some nq))), (.ref bb)])) _
        refine XS.aloadN X173.here hx rfl (hb hby d9_73) rfl rfl ?_
        show Steps p.tables e below (T173.setTop (mkF m 74 #[.val (.ref o1), .val (.int (ixx s1))] [(.ref o1), (.int (enn (some nq))), (.ref bb)])) _
        refine st175 _ ?_
        show Steps p.tables e below (T175.setTop (mkF m 77 #[.val (.ref o1), .val (.int (ixx s1))] [(.ref bb), (.int (enn (some nq))), (.ref bb)])) _
        refine XS.iloadN X175.here hx rfl (hb hby d9_77) rfl ?_
        show Steps p.tables e below (T175.setTop (mkF m 78 #[.val (.ref o1), .val (.int (ixx s1))] [(.int (ixx s1)), (.ref bb), (.int (enn (some nq))), (.ref bb)])) _
        refine X175.iaload hx (j := (ixx s1)) (v := (.int (enn (S1.b s1)))) (own_hc e175 Ar176.1) (State.isArrayOf_alike hZ.alike Ar176.2.1) Ar176.2.2 hin176 hat176 (g := (mkF m 78 #[.val (.ref o1), .val (.int (ixx s1))] [(.int (ixx s1)), (.ref bb), (.int (enn (some nq))), (.ref bb)])) rfl rfl (hb hby d9_78) _ ?_
        show Steps p.tables e below (T175.setTop (mkF m 79 #[.val (.ref o1), .val (.int (ixx s1))] [(.int (enn (S1.b s1))), (.int (enn (some nq))), (.ref bb)])) _
        refine st178 _ ?_
        show Steps p.tables e below (T178.setTop (mkF m 80 #[.val (.ref o1), .val (.int (ixx s1))] [])) _
        exact X178.returnOut hx Bd.returns (hb hby d9_80) hr
theorem ef_rm10 (m : MethodId) (x0 : Addr) : entryFrame m #[(.ref x0)] 1 = mkF m 0 #[.val (.ref x0)] [] := by first | (simp [entryFrame, mkF, argsToLocals, Value.category]; done) | rfl
theorem d10_0 : decode prog_31_method_5_code 0 = .ok (.aload_n 0, 1) := by decide +kernel
theorem d10_1 : decode prog_31_method_5_code 1 = .ok (.getfield 9, 3) := by decide +kernel
theorem d10_4 : decode prog_31_method_5_code 4 = .ok (.ireturn, 1) := by decide +kernel
def Q10 (Z : State) (o1 : Addr) (w1 : Int32) (h0 : Heap) (n0 : Nat) (v : Option Value) (h : Heap) (L : List Loc) : Prop := v = some (.int w1) ∧ Fr n0 L ∧ h = h0
set_option maxRecDepth 65536 in
set_option maxHeartbeats 40000000 in
theorem rm10 (l : Launch) (Z : State) (a0 : Array Value) (hw : ∀ d ∈ tables_1, d.before a0 Z = true) (ws : List Jvm.Cond) (o1 : Addr) (w1 : Int32) (h0 : Heap) (n0 : Nat) (Z0 : n0 ≤ h0.size) (F_f : Fld Z h0 o1 "com/example/tenrec/tenrec/pool/IdleByLastCompletion" "first" "I" (.int w1)) :
    OMet l Z (⟨"com/example/tenrec/tenrec/pool/IdleByLastCompletion", "first", "()I"⟩ : MethodName) prog_31_method_5_code 1 (some .int) ws ({ frames := 0, cells := 0, slots := 0, locals := 0 } : Room) #[(.ref o1)] h0 (Q10 Z o1 w1 h0 n0) := by
  refine own_body (plainFor_of_name pn_com_example_tenrec_tenrec_pool_IdleByLastCompletion) ?_
  intro p e s m below meth c s₁ Bd hml0 hZ e0
  have hx := Bd.exec
  have hby := Bd.bytes
  have hml : c.maxLocals = 1 := hml0
  have hown : s.vm.findClass "com/example/tenrec/tenrec/pool/IdleByLastCompletion" = some m.cls := findClass_of_methodNamed Bd.named
  have hnm := (name_of_methodNamed Bd.named Bd.method).1
  have X0 : Stand p l e ({ frames := 0, cells := 0, slots := 0, locals := 0 } : Room) s m #[(.ref o1)] below meth c s₁ [] 0 0 := Stand.of_body Bd
  have N0 := Fr.nil n0
  have K0 : Keep h0 h0 [] := Keep.refl _ _
  rw [ef_rm10]
  obtain ⟨T101, X101, e101, st101⟩ := getF X0 hx hZ hown (host := "") (Or.inl (hw _ (List.mem_of_getElem? (i := 19) rfl))) Via.refl e0 F_f (g := (mkF m 1 #[.val (.ref o1)] [(.ref o1)])) rfl rfl (hb hby d10_1)
  refine Gl.fin X101 (v := some (.int w1)) (fun h => by rw [Bd.returns] at h; cases h) Bd.notSynchronized ?_ e101 (by decide) (by decide) (fun fs hr => ?_)
  · exact ⟨rfl, N0, rfl⟩
  · show Steps p.tables e below (s₁.setTop (mkF m 0 #[.val (.ref o1)] [])) _
    refine XS.aloadN X0.here hx rfl (hb hby d10_0) rfl rfl ?_
    show Steps p.tables e below (s₁.setTop (mkF m 1 #[.val (.ref o1)] [(.ref o1)])) _
    refine st101 _ ?_
    show Steps p.tables e below (T101.setTop (mkF m 4 #[.val (.ref o1)] [(.int w1)])) _
    exact own_retI X101 hx Bd.returns (hb hby d10_4) hr
theorem ef_rm11 (m : MethodId) (x0 : Addr) (x1 : Int32) (x2 : UInt64) : entryFrame m #[(.ref x0), (.int x1), (.double x2)] 4 = mkF m 0 #[.val (.ref x0), .val (.int x1), .val (.double x2), .second] [] := by first | (simp [entryFrame, mkF, argsToLocals, Value.category]; done) | rfl
theorem d11_0 : decode prog_31_method_2_code 0 = .ok (.aload_n 0, 1) := by decide +kernel
theorem d11_1 : decode prog_31_method_2_code 1 = .ok (.getfield 16, 3) := by decide +kernel
theorem d11_4 : decode prog_31_method_2_code 4 = .ok (.iload_n 1, 1) := by decide +kernel
theorem d11_5 : decode prog_31_method_2_code 5 = .ok (.dload_n 2, 1) := by decide +kernel
theorem d11_6 : decode prog_31_method_2_code 6 = .ok (.dastore, 1) := by decide +kernel
theorem d11_7 : decode prog_31_method_2_code 7 = .ok (.return_, 1) := by decide +kernel
def Q11 (Z : State) (o1 : Addr) (x1 : Fin 3) (t1 : Fin 6) (lc : Addr) (kq : Fin 3 → Option (Fin 6)) (h0 : Heap) (n0 : Nat) (v : Option Value) (h : Heap) (L : List Loc) : Prop := v = none ∧ Fr n0 L ∧ Keep h0 h [lc] ∧ ArG Z h lc .double (fun j => .double (DDf ((upp kq x1 (some t1)) j)))
set_option maxRecDepth 65536 in
set_option maxHeartbeats 40000000 in
theorem rm11 (l : Launch) (Z : State) (a0 : Array Value) (hw : ∀ d ∈ tables_1, d.before a0 Z = true) (ws : List Jvm.Cond) (o1 : Addr) (x1 : Fin 3) (t1 : Fin 6) (lc : Addr) (kq : Fin 3 → Option (Fin 6)) (h0 : Heap) (n0 : Nat) (Z0 : n0 ≤ h0.size) (g_lc : n0 ≤ lc) (F_c : Fld Z h0 o1 "com/example/tenrec/tenrec/pool/IdleByLastCompletion" "lastCompletion" "[D" (.ref lc)) (G_c : ArG Z h0 lc .double (fun j => .double (DDf (kq j)))) :
    OMet l Z (⟨"com/example/tenrec/tenrec/pool/IdleByLastCompletion", "completed", "(ID)V"⟩ : MethodName) prog_31_method_2_code 4 none ws ({ frames := 0, cells := 0, slots := 0, locals := 0 } : Room) #[(.ref o1), (.int (ixx x1)), (.double (DDf (some t1)))] h0 (Q11 Z o1 x1 t1 lc kq h0 n0) := by
  refine own_body (plainFor_of_name pn_com_example_tenrec_tenrec_pool_IdleByLastCompletion) ?_
  intro p e s m below meth c s₁ Bd hml0 hZ e0
  have hx := Bd.exec
  have hby := Bd.bytes
  have hml : c.maxLocals = 4 := hml0
  have hown : s.vm.findClass "com/example/tenrec/tenrec/pool/IdleByLastCompletion" = some m.cls := findClass_of_methodNamed Bd.named
  have hnm := (name_of_methodNamed Bd.named Bd.method).1
  have X0 : Stand p l e ({ frames := 0, cells := 0, slots := 0, locals := 0 } : Room) s m #[(.ref o1), (.int (ixx x1)), (.double (DDf (some t1)))] below meth c s₁ [] 0 0 := Stand.of_body Bd
  have N0 := Fr.nil n0
  have K0 : Keep h0 h0 [lc] := Keep.refl _ _
  rw [ef_rm11]
  obtain ⟨T101, X101, e101, st101⟩ := getF X0 hx hZ hown (host := "") (Or.inl (hw _ (List.mem_of_getElem? (i := 24) rfl))) Via.refl e0 F_c (g := (mkF m 1 #[.val (.ref o1), .val (.int (ixx x1)), .val (.double (DDf (some t1))), .second] [(.ref o1)])) rfl rfl (hb hby d11_1)
  obtain ⟨cl102, Ar102, Sa102, Ha102⟩ := id G_c
  have hin102 : ¬ ((ixx x1) < 0 ∨ cl102.slots.size ≤ ((ixx x1)).toNatClampNeg) := own_ing Sa102 x1
  obtain ⟨T102, h102, X102, e102, W102, st102⟩ := stD X101 hx hZ e101 Ar102 (j := (ixx x1)) hin102 (g := (mkF m 6 #[.val (.ref o1), .val (.int (ixx x1)), .val (.double (DDf (some t1))), .second] [(.double (DDf (some t1))), (.int (ixx x1)), (.ref lc)])) rfl rfl (hb hby d11_6)
  have G102 : ArG Z h102 lc .double (fun j => (.double (DDf ((upp kq x1 (some t1)) j)))) := (ArG.set Ar102 Sa102 Ha102 (i := x1) W102).congr (fun j => by unfold upp; split <;> rfl)
  have K102 : Keep h0 h102 [lc] := K0.wr W102 (Or.inl (List.mem_of_getElem? (i := 0) rfl))
  have N102 := Fr.snoc X102 N0 g_lc
  refine Gl.fin X102 (v := none) (fun _ => rfl) Bd.notSynchronized ?_ e102 (by decide) (by decide) (fun fs hr => ?_)
  · exact ⟨rfl, N102, K102, G102⟩
  · show Steps p.tables e below (s₁.setTop (mkF m 0 #[.val (.ref o1), .val (.int (ixx x1)), .val (.double (DDf (some t1))), .second] [])) _
    refine XS.aloadN X0.here hx rfl (hb hby d11_0) rfl rfl ?_
    show Steps p.tables e below (s₁.setTop (mkF m 1 #[.val (.ref o1), .val (.int (ixx x1)), .val (.double (DDf (some t1))), .second] [(.ref o1)])) _
    refine st101 _ ?_
    show Steps p.tables e below (T101.setTop (mkF m 4 #[.val (.ref o1), .val (.int (ixx x1)), .val (.double (DDf (some t1))), .second] [(.ref lc)])) _
    refine XS.iloadN X101.here hx rfl (hb hby d11_4) rfl ?_
    show Steps p.tables e below (T101.setTop (mkF m 5 #[.val (.ref o1), .val (.int (ixx x1)), .val (.double (DDf (some t1))), .second] [(.int (ixx x1)), (.ref lc)])) _
    refine XS.dloadN X101.here hx rfl (hb hby d11_5) rfl ?_
    show Steps p.tables e below (T101.setTop (mkF m 6 #[.val (.ref o1), .val (.int (ixx x1)), .val (.double (DDf (some t1))), .second] [(.double (DDf (some t1))), (.int (ixx x1)), (.ref lc)])) _
    refine st102 _ ?_
    show Steps p.tables e below (T102.setTop (mkF m 7 #[.val (.ref o1), .val (.int (ixx x1)), .val (.double (DDf (some t1))), .second] [])) _
    exact X102.returnOut hx Bd.returns (hb hby d11_7) hr
theorem pn_com_example_tenrec_tenrec_pool_IdleByLastCompletionRemovePinLaw : plainName "com/example/tenrec/tenrec/pool/IdleByLastCompletionRemovePinLaw" = true := by first | (simp [plainName, overriddenIn]; done) | decide +kernel
theorem ef_rm2 (m : MethodId) (x0 : Addr) (x1 : Addr) (x2 : Int32) (x3 : Int32) : entryFrame m #[(.ref x0), (.ref x1), (.int x2), (.int x3)] 4 = mkF m 0 #[.val (.ref x0), .val (.ref x1), .val (.int x2), .val (.int x3)] [] := by first | (simp [entryFrame, mkF, argsToLocals, Value.category]; done) | rfl
theorem d2_0 : decode method_2_code 0 = .ok (.aload_n 0, 1) := by decide +kernel
theorem d2_1 : decode method_2_code 1 = .ok (.iload_n 2, 1) := by decide +kernel
theorem d2_2 : decode method_2_code 2 = .ok (.baload, 1) := by decide +kernel
theorem d2_3 : decode method_2_code 3 = .ok (.ifCond .eq 11, 3) := by decide +kernel
theorem d2_6 : decode method_2_code 6 = .ok (.aload_n 0, 1) := by decide +kernel
theorem d2_7 : decode method_2_code 7 = .ok (.iload_n 3, 1) := by decide +kernel
theorem d2_8 : decode method_2_code 8 = .ok (.baload, 1) := by decide +kernel
theorem d2_9 : decode method_2_code 9 = .ok (.ifCond .ne 5, 3) := by decide +kernel
theorem d2_14 : decode method_2_code 14 = .ok (.aload_n 0, 1) := by decide +kernel
theorem d2_15 : decode method_2_code 15 = .ok (.iload_n 2, 1) := by decide +kernel
theorem d2_16 : decode method_2_code 16 = .ok (.baload, 1) := by decide +kernel
theorem d2_17 : decode method_2_code 17 = .ok (.ifCond .ne 11, 3) := by decide +kernel
theorem d2_28 : decode method_2_code 28 = .ok (.aload_n 0, 1) := by decide +kernel
theorem d2_29 : decode method_2_code 29 = .ok (.iload_n 2, 1) := by decide +kernel
theorem d2_30 : decode method_2_code 30 = .ok (.baload, 1) := by decide +kernel
theorem d2_31 : decode method_2_code 31 = .ok (.ifCond .eq 27, 3) := by decide +kernel
theorem d2_34 : decode method_2_code 34 = .ok (.aload_n 1, 1) := by decide +kernel
theorem d2_35 : decode method_2_code 35 = .ok (.iload_n 2, 1) := by decide +kernel
theorem d2_36 : decode method_2_code 36 = .ok (.iaload, 1) := by decide +kernel
theorem d2_37 : decode method_2_code 37 = .ok (.aload_n 1, 1) := by decide +kernel
theorem d2_38 : decode method_2_code 38 = .ok (.iload_n 3, 1) := by decide +kernel
theorem d2_39 : decode method_2_code 39 = .ok (.iaload, 1) := by decide +kernel
theorem d2_40 : decode method_2_code 40 = .ok (.if_icmp .eq 18, 3) := by decide +kernel
theorem d2_58 : decode method_2_code 58 = .ok (.iload_n 2, 1) := by decide +kernel
theorem d2_59 : decode method_2_code 59 = .ok (.iload_n 3, 1) := by decide +kernel
theorem d2_60 : decode method_2_code 60 = .ok (.if_icmp .ge 7, 3) := by decide +kernel
theorem d2_63 : decode method_2_code 63 = .ok (.iconst 1, 1) := by decide +kernel
theorem d2_64 : decode method_2_code 64 = .ok (.goto 4, 3) := by decide +kernel
theorem d2_68 : decode method_2_code 68 = .ok (.ireturn, 1) := by decide +kernel
theorem d2_67 : decode method_2_code 67 = .ok (.iconst 0, 1) := by decide +kernel
theorem d2_43 : decode method_2_code 43 = .ok (.aload_n 1, 1) := by decide +kernel
theorem d2_44 : decode method_2_code 44 = .ok (.iload_n 2, 1) := by decide +kernel
theorem d2_45 : decode method_2_code 45 = .ok (.iaload, 1) := by decide +kernel
theorem d2_46 : decode method_2_code 46 = .ok (.aload_n 1, 1) := by decide +kernel
theorem d2_47 : decode method_2_code 47 = .ok (.iload_n 3, 1) := by decide +kernel
theorem d2_48 : decode method_2_code 48 = .ok (.iaload, 1) := by decide +kernel
theorem d2_49 : decode method_2_code 49 = .ok (.if_icmp .le 7, 3) := by decide +kernel
theorem d2_52 : decode method_2_code 52 = .ok (.iconst 1, 1) := by decide +kernel
theorem d2_53 : decode method_2_code 53 = .ok (.goto 4, 3) := by decide +kernel
theorem d2_57 : decode method_2_code 57 = .ok (.ireturn, 1) := by decide +kernel
theorem d2_56 : decode method_2_code 56 = .ok (.iconst 0, 1) := by decide +kernel
theorem d2_12 : decode method_2_code 12 = .ok (.iconst 1, 1) := by decide +kernel
theorem d2_13 : decode method_2_code 13 = .ok (.ireturn, 1) := by decide +kernel
theorem d2_20 : decode method_2_code 20 = .ok (.aload_n 0, 1) := by decide +kernel
theorem d2_21 : decode method_2_code 21 = .ok (.iload_n 3, 1) := by decide +kernel
theorem d2_22 : decode method_2_code 22 = .ok (.baload, 1) := by decide +kernel
theorem d2_23 : decode method_2_code 23 = .ok (.ifCond .eq 5, 3) := by decide +kernel
theorem d2_26 : decode method_2_code 26 = .ok (.iconst 0, 1) := by decide +kernel
theorem d2_27 : decode method_2_code 27 = .ok (.ireturn, 1) := by decide +kernel
def Q2 (Z : State) (a1 : Addr) (a2 : Addr) (x1 : Fin 3) (y1 : Fin 3) (cq : Fin 3 → Bool) (tq : Fin 3 → Fin 6) (h0 : Heap) (n0 : Nat) (v : Option Value) (h : Heap) (L : List Loc) : Prop := v = some (.int (b2i (comF cq tq x1 y1))) ∧ Fr n0 L ∧ h = h0
set_option maxRecDepth 65536 in
set_option maxHeartbeats 40000000 in
theorem rm2 (l : Launch) (Z : State) (a0 : Array Value) (hw : ∀ d ∈ tables_1, d.before a0 Z = true) (ws : List Jvm.Cond) (a1 : Addr) (a2 : Addr) (x1 : Fin 3) (y1 : Fin 3) (cq : Fin 3 → Bool) (tq : Fin 3 → Fin 6) (h0 : Heap) (n0 : Nat) (Z0 : n0 ≤ h0.size) (G_1 : ArG Z h0 a1 .boolean (fun j => .int (b2i (cq j)))) (G_2 : ArG Z h0 a2 .int (fun j => .int (tii (tq j)))) :
    OMet l Z (⟨"com/example/tenrec/tenrec/pool/IdleByLastCompletionRemovePinLaw", "comes", "([Z[III)Z"⟩ : MethodName) method_2_code 4 (some .boolean) ws ({ frames := 0, cells := 0, slots := 0, locals := 0 } : Room) #[(.ref a1), (.ref a2), (.int (ixx x1)), (.int (ixx y1))] h0 (Q2 Z a1 a2 x1 y1 cq tq h0 n0) := by
  refine own_body (plainFor_of_name pn_com_example_tenrec_tenrec_pool_IdleByLastCompletionRemovePinLaw) ?_
  intro p e s m below meth c s₁ Bd hml0 hZ e0
  have hx := Bd.exec
  have hby := Bd.bytes
  have hml : c.maxLocals = 4 := hml0
  have hown : s.vm.findClass "com/example/tenrec/tenrec/pool/IdleByLastCompletionRemovePinLaw" = some m.cls := findClass_of_methodNamed Bd.named
  have hnm := (name_of_methodNamed Bd.named Bd.method).1
  have X0 : Stand p l e ({ frames := 0, cells := 0, slots := 0, locals := 0 } : Room) s m #[(.ref a1), (.ref a2), (.int (ixx x1)), (.int (ixx y1))] below meth c s₁ [] 0 0 := Stand.of_body Bd
  have N0 := Fr.nil n0
  have K0 : Keep h0 h0 [] := Keep.refl _ _
  rw [ef_rm2]
  obtain ⟨cl101, Ar101, Sa101, Ha101⟩ := id G_1
  have hin101 : ¬ ((ixx x1) < 0 ∨ cl101.slots.size ≤ ((ixx x1)).toNatClampNeg) := own_ing Sa101 x1
  have hat101 : cl101.slots[((ixx x1)).toNatClampNeg]? = some (.int (b2i (cq x1))) := own_atg Ha101 x1
  refine Gl.pre (S' := s₁.setTop (mkF m 3 #[.val (.ref a1), .val (.ref a2), .val (.int (ixx x1)), .val (.int (ixx y1))] [(.int (b2i (cq x1)))])) (fun t kt => ?_) ?_
  · show Steps p.tables e below (s₁.setTop (mkF m 0 #[.val (.ref a1), .val (.ref a2), .val (.int (ixx x1)), .val (.int (ixx y1))] [])) _
    refine XS.aloadN X0.here hx rfl (hb hby d2_0) rfl rfl ?_
    show Steps p.tables e below (s₁.setTop (mkF m 1 #[.val (.ref a1), .val (.ref a2), .val (.int (ixx x1)), .val (.int (ixx y1))] [(.ref a1)])) _
    refine XS.iloadN X0.here hx rfl (hb hby d2_1) rfl ?_
    show Steps p.tables e below (s₁.setTop (mkF m 2 #[.val (.ref a1), .val (.ref a2), .val (.int (ixx x1)), .val (.int (ixx y1))] [(.int (ixx x1)), (.ref a1)])) _
    refine X0.baloadBooleans hx (j := (ixx x1)) (v := (.int (b2i (cq x1)))) (own_hc e0 Ar101.1) (State.isArrayOf_alike hZ.alike Ar101.2.1) Ar101.2.2 hin101 hat101 (g := (mkF m 2 #[.val (.ref a1), .val (.ref a2), .val (.int (ixx x1)), .val (.int (ixx y1))] [(.int (ixx x1)), (.ref a1)])) rfl rfl (hb hby d2_2) _ ?_
    exact kt
  by_cases hc3 : (cq x1) = true
  · obtain ⟨cl102, Ar102, Sa102, Ha102⟩ := id G_1
    have hin102 : ¬ ((ixx y1) < 0 ∨ cl102.slots.size ≤ ((ixx y1)).toNatClampNeg) := own_ing Sa102 y1
    have hat102 : cl102.slots[((ixx y1)).toNatClampNeg]? = some (.int (b2i (cq y1))) := own_atg Ha102 y1
    refine Gl.pre (S' := s₁.setTop (mkF m 9 #[.val (.ref a1), .val (.ref a2), .val (.int (ixx x1)), .val (.int (ixx y1))] [(.int (b2i (cq y1)))])) (fun t kt => ?_) ?_
    · show Steps p.tables e below (s₁.setTop (mkF m 3 #[.val (.ref a1), .val (.ref a2), .val (.int (ixx x1)), .val (.int (ixx y1))] [(.int (b2i (cq x1)))])) _
      refine XS.ifNo X0.here hx rfl (hb hby d2_3) rfl (own_nbf (b0_eq _) hc3) ?_
      show Steps p.tables e below (s₁.setTop (mkF m 6 #[.val (.ref a1), .val (.ref a2), .val (.int (ixx x1)), .val (.int (ixx y1))] [])) _
      refine XS.aloadN X0.here hx rfl (hb hby d2_6) rfl rfl ?_
      show Steps p.tables e below (s₁.setTop (mkF m 7 #[.val (.ref a1), .val (.ref a2), .val (.int (ixx x1)), .val (.int (ixx y1))] [(.ref a1)])) _
      refine XS.iloadN X0.here hx rfl (hb hby d2_7) rfl ?_
      show Steps p.tables e below (s₁.setTop (mkF m 8 #[.val (.ref a1), .val (.ref a2), .val (.int (ixx x1)), .val (.int (ixx y1))] [(.int (ixx y1)), (.ref a1)])) _
      refine X0.baloadBooleans hx (j := (ixx y1)) (v := (.int (b2i (cq y1)))) (own_hc e0 Ar102.1) (State.isArrayOf_alike hZ.alike Ar102.2.1) Ar102.2.2 hin102 hat102 (g := (mkF m 8 #[.val (.ref a1), .val (.ref a2), .val (.int (ixx x1)), .val (.int (ixx y1))] [(.int (ixx y1)), (.ref a1)])) rfl rfl (hb hby d2_8) _ ?_
      exact kt
    by_cases hc9 : (cq y1) = true
    · obtain ⟨cl103, Ar103, Sa103, Ha103⟩ := id G_1
      have hin103 : ¬ ((ixx x1) < 0 ∨ cl103.slots.size ≤ ((ixx x1)).toNatClampNeg) := own_ing Sa103 x1
      have hat103 : cl103.slots[((ixx x1)).toNatClampNeg]? = some (.int (b2i (cq x1))) := own_atg Ha103 x1
      obtain ⟨cl104, Ar104, Sa104, Ha104⟩ := id G_1
      have hin104 : ¬ ((ixx x1) < 0 ∨ cl104.slots.size ≤ ((ixx x1)).toNatClampNeg) := own_ing Sa104 x1
      have hat104 : cl104.slots[((ixx x1)).toNatClampNeg]? = some (.int (b2i (cq x1))) := own_atg Ha104 x1
      obtain ⟨cl105, Ar105, Sa105, Ha105⟩ := id G_2
      have hin105 : ¬ ((ixx x1) < 0 ∨ cl105.slots.size ≤ ((ixx x1)).toNatClampNeg) := own_ing Sa105 x1
      have hat105 : cl105.slots[((ixx x1)).toNatClampNeg]? = some (.int (tii (tq x1))) := own_atg Ha105 x1
      obtain ⟨cl106, Ar106, Sa106, Ha106⟩ := id G_2
      have hin106 : ¬ ((ixx y1) < 0 ∨ cl106.slots.size ≤ ((ixx y1)).toNatClampNeg) := own_ing Sa106 y1
      have hat106 : cl106.slots[((ixx y1)).toNatClampNeg]? = some (.int (tii (tq y1))) := own_atg Ha106 y1
      refine Gl.pre (S' := s₁.setTop (mkF m 40 #[.val (.ref a1), .val (.ref a2), .val (.int (ixx x1)), .val (.int (ixx y1))] [(.int (tii (tq y1))), (.int (tii (tq x1)))])) (fun t kt => ?_) ?_
      · show Steps p.tables e below (s₁.setTop (mkF m 9 #[.val (.ref a1), .val (.ref a2), .val (.int (ixx x1)), .val (.int (ixx y1))] [(.int (b2i (cq y1)))])) _
        refine XS.ifYes X0.here hx rfl (pc0 := 9) (pc' := 14) rfl (hb hby d2_9) rfl (own_bt (b0_ne _) hc9) (by decide) (by decide) ?_
        show Steps p.tables e below (s₁.setTop (mkF m 14 #[.val (.ref a1), .val (.ref a2), .val (.int (ixx x1)), .val (.int (ixx y1))] [])) _
        refine XS.aloadN X0.here hx rfl (hb hby d2_14) rfl rfl ?_
        show Steps p.tables e below (s₁.setTop (mkF m 15 #[.val (.ref a1), .val (.ref a2), .val (.int (ixx x1)), .val (.int (ixx y1))] [(.ref a1)])) _
        refine XS.iloadN X0.here hx rfl (hb hby d2_15) rfl ?_
        show Steps p.tables e below (s₁.setTop (mkF m 16 #[.val (.ref a1), .val (.ref a2), .val (.int (ixx x1)), .val (.int (ixx y1))] [(.int (ixx x1)), (.ref a1)])) _
        refine X0.baloadBooleans hx (j := (ixx x1)) (v := (.int (b2i (cq x1)))) (own_hc e0 Ar103.1) (State.isArrayOf_alike hZ.alike Ar103.2.1) Ar103.2.2 hin103 hat103 (g := (mkF m 16 #[.val (.ref a1), .val (.ref a2), .val (.int (ixx x1)), .val (.int (ixx y1))] [(.int (ixx x1)), (.ref a1)])) rfl rfl (hb hby d2_16) _ ?_
        show Steps p.tables e below (s₁.setTop (mkF m 17 #[.val (.ref a1), .val (.ref a2), .val (.int (ixx x1)), .val (.int (ixx y1))] [(.int (b2i (cq x1)))])) _
        refine XS.ifYes X0.here hx rfl (pc0 := 17) (pc' := 28) rfl (hb hby d2_17) rfl (own_bt (b0_ne _) hc3) (by decide) (by decide) ?_
        show Steps p.tables e below (s₁.setTop (mkF m 28 #[.val (.ref a1), .val (.ref a2), .val (.int (ixx x1)), .val (.int (ixx y1))] [])) _
        refine XS.aloadN X0.here hx rfl (hb hby d2_28) rfl rfl ?_
        show Steps p.tables e below (s₁.setTop (mkF m 29 #[.val (.ref a1), .val (.ref a2), .val (.int (ixx x1)), .val (.int (ixx y1))] [(.ref a1)])) _
        refine XS.iloadN X0.here hx rfl (hb hby d2_29) rfl ?_
        show Steps p.tables e below (s₁.setTop (mkF m 30 #[.val (.ref a1), .val (.ref a2), .val (.int (ixx x1)), .val (.int (ixx y1))] [(.int (ixx x1)), (.ref a1)])) _
        refine X0.baloadBooleans hx (j := (ixx x1)) (v := (.int (b2i (cq x1)))) (own_hc e0 Ar104.1) (State.isArrayOf_alike hZ.alike Ar104.2.1) Ar104.2.2 hin104 hat104 (g := (mkF m 30 #[.val (.ref a1), .val (.ref a2), .val (.int (ixx x1)), .val (.int (ixx y1))] [(.int (ixx x1)), (.ref a1)])) rfl rfl (hb hby d2_30) _ ?_
        show Steps p.tables e below (s₁.setTop (mkF m 31 #[.val (.ref a1), .val (.ref a2), .val (.int (ixx x1)), .val (.int (ixx y1))] [(.int (b2i (cq x1)))])) _
        refine XS.ifNo X0.here hx rfl (hb hby d2_31) rfl (own_nbf (b0_eq _) hc3) ?_
        show Steps p.tables e below (s₁.setTop (mkF m 34 #[.val (.ref a1), .val (.ref a2), .val (.int (ixx x1)), .val (.int (ixx y1))] [])) _
        refine XS.aloadN X0.here hx rfl (hb hby d2_34) rfl rfl ?_
        show Steps p.tables e below (s₁.setTop (mkF m 35 #[.val (.ref a1), .val (.ref a2), .val (.int (ixx x1)), .val (.int (ixx y1))] [(.ref a2)])) _
        refine XS.iloadN X0.here hx rfl (hb hby d2_35) rfl ?_
        show Steps p.tables e below (s₁.setTop (mkF m 36 #[.val (.ref a1), .val (.ref a2), .val (.int (ixx x1)), .val (.int (ixx y1))] [(.int (ixx x1)), (.ref a2)])) _
        refine X0.iaload hx (j := (ixx x1)) (v := (.int (tii (tq x1)))) (own_hc e0 Ar105.1) (State.isArrayOf_alike hZ.alike Ar105.2.1) Ar105.2.2 hin105 hat105 (g := (mkF m 36 #[.val (.ref a1), .val (.ref a2), .val (.int (ixx x1)), .val (.int (ixx y1))] [(.int (ixx x1)), (.ref a2)])) rfl rfl (hb hby d2_36) _ ?_
        show Steps p.tables e below (s₁.setTop (mkF m 37 #[.val (.ref a1), .val (.ref a2), .val (.int (ixx x1)), .val (.int (ixx y1))] [(.int (tii (tq x1)))])) _
        refine XS.aloadN X0.here hx rfl (hb hby d2_37) rfl rfl ?_
        show Steps p.tables e below (s₁.setTop (mkF m 38 #[.val (.ref a1), .val (.ref a2), .val (.int (ixx x1)), .val (.int (ixx y1))] [(.ref a2), (.int (tii (tq x1)))])) _
        refine XS.iloadN X0.here hx rfl (hb hby d2_38) rfl ?_
        show Steps p.tables e below (s₁.setTop (mkF m 39 #[.val (.ref a1), .val (.ref a2), .val (.int (ixx x1)), .val (.int (ixx y1))] [(.int (ixx y1)), (.ref a2), (.int (tii (tq x1)))])) _
        refine X0.iaload hx (j := (ixx y1)) (v := (.int (tii (tq y1)))) (own_hc e0 Ar106.1) (State.isArrayOf_alike hZ.alike Ar106.2.1) Ar106.2.2 hin106 hat106 (g := (mkF m 39 #[.val (.ref a1), .val (.ref a2), .val (.int (ixx x1)), .val (.int (ixx y1))] [(.int (ixx y1)), (.ref a2), (.int (tii (tq x1)))])) rfl rfl (hb hby d2_39) _ ?_
        exact kt
      by_cases hc40 : (tii (tq x1)) = (tii (tq y1))
      · refine Gl.pre (S' := s₁.setTop (mkF m 60 #[.val (.ref a1), .val (.ref a2), .val (.int (ixx x1)), .val (.int (ixx y1))] [(.int (ixx y1)), (.int (ixx x1))])) (fun t kt => ?_) ?_
        · show Steps p.tables e below (s₁.setTop (mkF m 40 #[.val (.ref a1), .val (.ref a2), .val (.int (ixx x1)), .val (.int (ixx y1))] [(.int (tii (tq y1))), (.int (tii (tq x1)))])) _
          refine XS.icmpYes X0.here hx rfl (pc0 := 40) (pc' := 58) rfl (hb hby d2_40) rfl (own_t (ic_eq _ _) hc40) (by decide) (by decide) ?_
          show Steps p.tables e below (s₁.setTop (mkF m 58 #[.val (.ref a1), .val (.ref a2), .val (.int (ixx x1)), .val (.int (ixx y1))] [])) _
          refine XS.iloadN X0.here hx rfl (hb hby d2_58) rfl ?_
          show Steps p.tables e below (s₁.setTop (mkF m 59 #[.val (.ref a1), .val (.ref a2), .val (.int (ixx x1)), .val (.int (ixx y1))] [(.int (ixx x1))])) _
          refine XS.iloadN X0.here hx rfl (hb hby d2_59) rfl ?_
          exact kt
        by_cases hc60 : (ixx x1) < (ixx y1)
        · refine Gl.fin X0 (v := some (.int (1 : Int32))) (fun h => by rw [Bd.returns] at h; cases h) Bd.notSynchronized ?_ e0 (by decide) (by decide) (fun fs hr => ?_)
          · exact ⟨by simp [comF, b2i, hc3, hc9, hc40, hc60], N0, rfl⟩
          · show Steps p.tables e below (s₁.setTop (mkF m 60 #[.val (.ref a1), .val (.ref a2), .val (.int (ixx x1)), .val (.int (ixx y1))] [(.int (ixx y1)), (.int (ixx x1))])) _
            refine XS.icmpNo X0.here hx rfl (hb hby d2_60) rfl (own_nf (ic_ge _ _) hc60) ?_
            show Steps p.tables e below (s₁.setTop (mkF m 63 #[.val (.ref a1), .val (.ref a2), .val (.int (ixx x1)), .val (.int (ixx y1))] [])) _
            refine XS.iconst X0.here hx rfl (hb hby d2_63) ?_
            show Steps p.tables e below (s₁.setTop (mkF m 64 #[.val (.ref a1), .val (.ref a2), .val (.int (ixx x1)), .val (.int (ixx y1))] [(.int (1 : Int32))])) _
            refine XS.goto X0.here hx rfl (pc0 := 64) (pc' := 68) rfl (hb hby d2_64) (by decide) (by decide) ?_
            show Steps p.tables e below (s₁.setTop (mkF m 68 #[.val (.ref a1), .val (.ref a2), .val (.int (ixx x1)), .val (.int (ixx y1))] [(.int (1 : Int32))])) _
            exact retN X0 hx (t := .boolean) Bd.returns (by simp) (hb hby d2_68) hr
        · refine Gl.fin X0 (v := some (.int (0 : Int32))) (fun h => by rw [Bd.returns] at h; cases h) Bd.notSynchronized ?_ e0 (by decide) (by decide) (fun fs hr => ?_)
          · exact ⟨by simp [comF, b2i, hc3, hc9, hc40, hc60], N0, rfl⟩
          · show Steps p.tables e below (s₁.setTop (mkF m 60 #[.val (.ref a1), .val (.ref a2), .val (.int (ixx x1)), .val (.int (ixx y1))] [(.int (ixx y1)), (.int (ixx x1))])) _
            refine XS.icmpYes X0.here hx rfl (pc0 := 60) (pc' := 67) rfl (hb hby d2_60) rfl (own_nt (ic_ge _ _) hc60) (by decide) (by decide) ?_
            show Steps p.tables e below (s₁.setTop (mkF m 67 #[.val (.ref a1), .val (.ref a2), .val (.int (ixx x1)), .val (.int (ixx y1))] [])) _
            refine XS.iconst X0.here hx rfl (hb hby d2_67) ?_
            show Steps p.tables e below (s₁.setTop (mkF m 68 #[.val (.ref a1), .val (.ref a2), .val (.int (ixx x1)), .val (.int (ixx y1))] [(.int (0 : Int32))])) _
            exact retN X0 hx (t := .boolean) Bd.returns (by simp) (hb hby d2_68) hr
      · obtain ⟨cl107, Ar107, Sa107, Ha107⟩ := id G_2
        have hin107 : ¬ ((ixx x1) < 0 ∨ cl107.slots.size ≤ ((ixx x1)).toNatClampNeg) := own_ing Sa107 x1
        have hat107 : cl107.slots[((ixx x1)).toNatClampNeg]? = some (.int (tii (tq x1))) := own_atg Ha107 x1
        obtain ⟨cl108, Ar108, Sa108, Ha108⟩ := id G_2
        have hin108 : ¬ ((ixx y1) < 0 ∨ cl108.slots.size ≤ ((ixx y1)).toNatClampNeg) := own_ing Sa108 y1
        have hat108 : cl108.slots[((ixx y1)).toNatClampNeg]? = some (.int (tii (tq y1))) := own_atg Ha108 y1
        refine Gl.pre (S' := s₁.setTop (mkF m 49 #[.val (.ref a1), .val (.ref a2), .val (.int (ixx x1)), .val (.int (ixx y1))] [(.int (tii (tq y1))), (.int (tii (tq x1)))])) (fun t kt => ?_) ?_
        · show Steps p.tables e below (s₁.setTop (mkF m 40 #[.val (.ref a1), .val (.ref a2), .val (.int (ixx x1)), .val (.int (ixx y1))] [(.int (tii (tq y1))), (.int (tii (tq x1)))])) _
          refine XS.icmpNo X0.here hx rfl (hb hby d2_40) rfl (own_f (ic_eq _ _) hc40) ?_
          show Steps p.tables e below (s₁.setTop (mkF m 43 #[.val (.ref a1), .val (.ref a2), .val (.int (ixx x1)), .val (.int (ixx y1))] [])) _
          refine XS.aloadN X0.here hx rfl (hb hby d2_43) rfl rfl ?_
          show Steps p.tables e below (s₁.setTop (mkF m 44 #[.val (.ref a1), .val (.ref a2), .val (.int (ixx x1)), .val (.int (ixx y1))] [(.ref a2)])) _
          refine XS.iloadN X0.here hx rfl (hb hby d2_44) rfl ?_
          show Steps p.tables e below (s₁.setTop (mkF m 45 #[.val (.ref a1), .val (.ref a2), .val (.int (ixx x1)), .val (.int (ixx y1))] [(.int (ixx x1)), (.ref a2)])) _
          refine X0.iaload hx (j := (ixx x1)) (v := (.int (tii (tq x1)))) (own_hc e0 Ar107.1) (State.isArrayOf_alike hZ.alike Ar107.2.1) Ar107.2.2 hin107 hat107 (g := (mkF m 45 #[.val (.ref a1), .val (.ref a2), .val (.int (ixx x1)), .val (.int (ixx y1))] [(.int (ixx x1)), (.ref a2)])) rfl rfl (hb hby d2_45) _ ?_
          show Steps p.tables e below (s₁.setTop (mkF m 46 #[.val (.ref a1), .val (.ref a2), .val (.int (ixx x1)), .val (.int (ixx y1))] [(.int (tii (tq x1)))])) _
          refine XS.aloadN X0.here hx rfl (hb hby d2_46) rfl rfl ?_
          show Steps p.tables e below (s₁.setTop (mkF m 47 #[.val (.ref a1), .val (.ref a2), .val (.int (ixx x1)), .val (.int (ixx y1))] [(.ref a2), (.int (tii (tq x1)))])) _
          refine XS.iloadN X0.here hx rfl (hb hby d2_47) rfl ?_
          show Steps p.tables e below (s₁.setTop (mkF m 48 #[.val (.ref a1), .val (.ref a2), .val (.int (ixx x1)), .val (.int (ixx y1))] [(.int (ixx y1)), (.ref a2), (.int (tii (tq x1)))])) _
          refine X0.iaload hx (j := (ixx y1)) (v := (.int (tii (tq y1)))) (own_hc e0 Ar108.1) (State.isArrayOf_alike hZ.alike Ar108.2.1) Ar108.2.2 hin108 hat108 (g := (mkF m 48 #[.val (.ref a1), .val (.ref a2), .val (.int (ixx x1)), .val (.int (ixx y1))] [(.int (ixx y1)), (.ref a2), (.int (tii (tq x1)))])) rfl rfl (hb hby d2_48) _ ?_
          exact kt
        by_cases hc49 : (tii (tq y1)) < (tii (tq x1))
        · refine Gl.fin X0 (v := some (.int (1 : Int32))) (fun h => by rw [Bd.returns] at h; cases h) Bd.notSynchronized ?_ e0 (by decide) (by decide) (fun fs hr => ?_)
          · exact ⟨by simp [comF, b2i, hc3, hc9, hc40, hc49], N0, rfl⟩
          · show Steps p.tables e below (s₁.setTop (mkF m 49 #[.val (.ref a1), .val (.ref a2), .val (.int (ixx x1)), .val (.int (ixx y1))] [(.int (tii (tq y1))), (.int (tii (tq x1)))])) _
            refine XS.icmpNo X0.here hx rfl (hb hby d2_49) rfl (own_nf (ic_le _ _) hc49) ?_
            show Steps p.tables e below (s₁.setTop (mkF m 52 #[.val (.ref a1), .val (.ref a2), .val (.int (ixx x1)), .val (.int (ixx y1))] [])) _
            refine XS.iconst X0.here hx rfl (hb hby d2_52) ?_
            show Steps p.tables e below (s₁.setTop (mkF m 53 #[.val (.ref a1), .val (.ref a2), .val (.int (ixx x1)), .val (.int (ixx y1))] [(.int (1 : Int32))])) _
            refine XS.goto X0.here hx rfl (pc0 := 53) (pc' := 57) rfl (hb hby d2_53) (by decide) (by decide) ?_
            show Steps p.tables e below (s₁.setTop (mkF m 57 #[.val (.ref a1), .val (.ref a2), .val (.int (ixx x1)), .val (.int (ixx y1))] [(.int (1 : Int32))])) _
            exact retN X0 hx (t := .boolean) Bd.returns (by simp) (hb hby d2_57) hr
        · refine Gl.fin X0 (v := some (.int (0 : Int32))) (fun h => by rw [Bd.returns] at h; cases h) Bd.notSynchronized ?_ e0 (by decide) (by decide) (fun fs hr => ?_)
          · exact ⟨by simp [comF, b2i, hc3, hc9, hc40, hc49], N0, rfl⟩
          · show Steps p.tables e below (s₁.setTop (mkF m 49 #[.val (.ref a1), .val (.ref a2), .val (.int (ixx x1)), .val (.int (ixx y1))] [(.int (tii (tq y1))), (.int (tii (tq x1)))])) _
            refine XS.icmpYes X0.here hx rfl (pc0 := 49) (pc' := 56) rfl (hb hby d2_49) rfl (own_nt (ic_le _ _) hc49) (by decide) (by decide) ?_
            show Steps p.tables e below (s₁.setTop (mkF m 56 #[.val (.ref a1), .val (.ref a2), .val (.int (ixx x1)), .val (.int (ixx y1))] [])) _
            refine XS.iconst X0.here hx rfl (hb hby d2_56) ?_
            show Steps p.tables e below (s₁.setTop (mkF m 57 #[.val (.ref a1), .val (.ref a2), .val (.int (ixx x1)), .val (.int (ixx y1))] [(.int (0 : Int32))])) _
            exact retN X0 hx (t := .boolean) Bd.returns (by simp) (hb hby d2_57) hr
    · refine Gl.fin X0 (v := some (.int (1 : Int32))) (fun h => by rw [Bd.returns] at h; cases h) Bd.notSynchronized ?_ e0 (by decide) (by decide) (fun fs hr => ?_)
      · exact ⟨by simp [comF, b2i, hc3, hc9], N0, rfl⟩
      · show Steps p.tables e below (s₁.setTop (mkF m 9 #[.val (.ref a1), .val (.ref a2), .val (.int (ixx x1)), .val (.int (ixx y1))] [(.int (b2i (cq y1)))])) _
        refine XS.ifNo X0.here hx rfl (hb hby d2_9) rfl (own_bf (b0_ne _) (Bool.eq_false_iff.mpr hc9)) ?_
        show Steps p.tables e below (s₁.setTop (mkF m 12 #[.val (.ref a1), .val (.ref a2), .val (.int (ixx x1)), .val (.int (ixx y1))] [])) _
        refine XS.iconst X0.here hx rfl (hb hby d2_12) ?_
        show Steps p.tables e below (s₁.setTop (mkF m 13 #[.val (.ref a1), .val (.ref a2), .val (.int (ixx x1)), .val (.int (ixx y1))] [(.int (1 : Int32))])) _
        exact retN X0 hx (t := .boolean) Bd.returns (by simp) (hb hby d2_13) hr
  · obtain ⟨cl109, Ar109, Sa109, Ha109⟩ := id G_1
    have hin109 : ¬ ((ixx x1) < 0 ∨ cl109.slots.size ≤ ((ixx x1)).toNatClampNeg) := own_ing Sa109 x1
    have hat109 : cl109.slots[((ixx x1)).toNatClampNeg]? = some (.int (b2i (cq x1))) := own_atg Ha109 x1
    obtain ⟨cl110, Ar110, Sa110, Ha110⟩ := id G_1
    have hin110 : ¬ ((ixx y1) < 0 ∨ cl110.slots.size ≤ ((ixx y1)).toNatClampNeg) := own_ing Sa110 y1
    have hat110 : cl110.slots[((ixx y1)).toNatClampNeg]? = some (.int (b2i (cq y1))) := own_atg Ha110 y1
    refine Gl.pre (S' := s₁.setTop (mkF m 23 #[.val (.ref a1), .val (.ref a2), .val (.int (ixx x1)), .val (.int (ixx y1))] [(.int (b2i (cq y1)))])) (fun t kt => ?_) ?_
    · show Steps p.tables e below (s₁.setTop (mkF m 3 #[.val (.ref a1), .val (.ref a2), .val (.int (ixx x1)), .val (.int (ixx y1))] [(.int (b2i (cq x1)))])) _
      refine XS.ifYes X0.here hx rfl (pc0 := 3) (pc' := 14) rfl (hb hby d2_3) rfl (own_nbt (b0_eq _) (Bool.eq_false_iff.mpr hc3)) (by decide) (by decide) ?_
      show Steps p.tables e below (s₁.setTop (mkF m 14 #[.val (.ref a1), .val (.ref a2), .val (.int (ixx x1)), .val (.int (ixx y1))] [])) _
      refine XS.aloadN X0.here hx rfl (hb hby d2_14) rfl rfl ?_
      show Steps p.tables e below (s₁.setTop (mkF m 15 #[.val (.ref a1), .val (.ref a2), .val (.int (ixx x1)), .val (.int (ixx y1))] [(.ref a1)])) _
      refine XS.iloadN X0.here hx rfl (hb hby d2_15) rfl ?_
      show Steps p.tables e below (s₁.setTop (mkF m 16 #[.val (.ref a1), .val (.ref a2), .val (.int (ixx x1)), .val (.int (ixx y1))] [(.int (ixx x1)), (.ref a1)])) _
      refine X0.baloadBooleans hx (j := (ixx x1)) (v := (.int (b2i (cq x1)))) (own_hc e0 Ar109.1) (State.isArrayOf_alike hZ.alike Ar109.2.1) Ar109.2.2 hin109 hat109 (g := (mkF m 16 #[.val (.ref a1), .val (.ref a2), .val (.int (ixx x1)), .val (.int (ixx y1))] [(.int (ixx x1)), (.ref a1)])) rfl rfl (hb hby d2_16) _ ?_
      show Steps p.tables e below (s₁.setTop (mkF m 17 #[.val (.ref a1), .val (.ref a2), .val (.int (ixx x1)), .val (.int (ixx y1))] [(.int (b2i (cq x1)))])) _
      refine XS.ifNo X0.here hx rfl (hb hby d2_17) rfl (own_bf (b0_ne _) (Bool.eq_false_iff.mpr hc3)) ?_
      show Steps p.tables e below (s₁.setTop (mkF m 20 #[.val (.ref a1), .val (.ref a2), .val (.int (ixx x1)), .val (.int (ixx y1))] [])) _
      refine XS.aloadN X0.here hx rfl (hb hby d2_20) rfl rfl ?_
      show Steps p.tables e below (s₁.setTop (mkF m 21 #[.val (.ref a1), .val (.ref a2), .val (.int (ixx x1)), .val (.int (ixx y1))] [(.ref a1)])) _
      refine XS.iloadN X0.here hx rfl (hb hby d2_21) rfl ?_
      show Steps p.tables e below (s₁.setTop (mkF m 22 #[.val (.ref a1), .val (.ref a2), .val (.int (ixx x1)), .val (.int (ixx y1))] [(.int (ixx y1)), (.ref a1)])) _
      refine X0.baloadBooleans hx (j := (ixx y1)) (v := (.int (b2i (cq y1)))) (own_hc e0 Ar110.1) (State.isArrayOf_alike hZ.alike Ar110.2.1) Ar110.2.2 hin110 hat110 (g := (mkF m 22 #[.val (.ref a1), .val (.ref a2), .val (.int (ixx x1)), .val (.int (ixx y1))] [(.int (ixx y1)), (.ref a1)])) rfl rfl (hb hby d2_22) _ ?_
      exact kt
    by_cases hc23 : (cq y1) = true
    · refine Gl.fin X0 (v := some (.int (0 : Int32))) (fun h => by rw [Bd.returns] at h; cases h) Bd.notSynchronized ?_ e0 (by decide) (by decide) (fun fs hr => ?_)
      · exact ⟨by simp [comF, b2i, hc3, hc23], N0, rfl⟩
      · show Steps p.tables e below (s₁.setTop (mkF m 23 #[.val (.ref a1), .val (.ref a2), .val (.int (ixx x1)), .val (.int (ixx y1))] [(.int (b2i (cq y1)))])) _
        refine XS.ifNo X0.here hx rfl (hb hby d2_23) rfl (own_nbf (b0_eq _) hc23) ?_
        show Steps p.tables e below (s₁.setTop (mkF m 26 #[.val (.ref a1), .val (.ref a2), .val (.int (ixx x1)), .val (.int (ixx y1))] [])) _
        refine XS.iconst X0.here hx rfl (hb hby d2_26) ?_
        show Steps p.tables e below (s₁.setTop (mkF m 27 #[.val (.ref a1), .val (.ref a2), .val (.int (ixx x1)), .val (.int (ixx y1))] [(.int (0 : Int32))])) _
        exact retN X0 hx (t := .boolean) Bd.returns (by simp) (hb hby d2_27) hr
    · obtain ⟨cl111, Ar111, Sa111, Ha111⟩ := id G_1
      have hin111 : ¬ ((ixx x1) < 0 ∨ cl111.slots.size ≤ ((ixx x1)).toNatClampNeg) := own_ing Sa111 x1
      have hat111 : cl111.slots[((ixx x1)).toNatClampNeg]? = some (.int (b2i (cq x1))) := own_atg Ha111 x1
      refine Gl.pre (S' := s₁.setTop (mkF m 60 #[.val (.ref a1), .val (.ref a2), .val (.int (ixx x1)), .val (.int (ixx y1))] [(.int (ixx y1)), (.int (ixx x1))])) (fun t kt => ?_) ?_
      · show Steps p.tables e below (s₁.setTop (mkF m 23 #[.val (.ref a1), .val (.ref a2), .val (.int (ixx x1)), .val (.int (ixx y1))] [(.int (b2i (cq y1)))])) _
        refine XS.ifYes X0.here hx rfl (pc0 := 23) (pc' := 28) rfl (hb hby d2_23) rfl (own_nbt (b0_eq _) (Bool.eq_false_iff.mpr hc23)) (by decide) (by decide) ?_
        show Steps p.tables e below (s₁.setTop (mkF m 28 #[.val (.ref a1), .val (.ref a2), .val (.int (ixx x1)), .val (.int (ixx y1))] [])) _
        refine XS.aloadN X0.here hx rfl (hb hby d2_28) rfl rfl ?_
        show Steps p.tables e below (s₁.setTop (mkF m 29 #[.val (.ref a1), .val (.ref a2), .val (.int (ixx x1)), .val (.int (ixx y1))] [(.ref a1)])) _
        refine XS.iloadN X0.here hx rfl (hb hby d2_29) rfl ?_
        show Steps p.tables e below (s₁.setTop (mkF m 30 #[.val (.ref a1), .val (.ref a2), .val (.int (ixx x1)), .val (.int (ixx y1))] [(.int (ixx x1)), (.ref a1)])) _
        refine X0.baloadBooleans hx (j := (ixx x1)) (v := (.int (b2i (cq x1)))) (own_hc e0 Ar111.1) (State.isArrayOf_alike hZ.alike Ar111.2.1) Ar111.2.2 hin111 hat111 (g := (mkF m 30 #[.val (.ref a1), .val (.ref a2), .val (.int (ixx x1)), .val (.int (ixx y1))] [(.int (ixx x1)), (.ref a1)])) rfl rfl (hb hby d2_30) _ ?_
        show Steps p.tables e below (s₁.setTop (mkF m 31 #[.val (.ref a1), .val (.ref a2), .val (.int (ixx x1)), .val (.int (ixx y1))] [(.int (b2i (cq x1)))])) _
        refine XS.ifYes X0.here hx rfl (pc0 := 31) (pc' := 58) rfl (hb hby d2_31) rfl (own_nbt (b0_eq _) (Bool.eq_false_iff.mpr hc3)) (by decide) (by decide) ?_
        show Steps p.tables e below (s₁.setTop (mkF m 58 #[.val (.ref a1), .val (.ref a2), .val (.int (ixx x1)), .val (.int (ixx y1))] [])) _
        refine XS.iloadN X0.here hx rfl (hb hby d2_58) rfl ?_
        show Steps p.tables e below (s₁.setTop (mkF m 59 #[.val (.ref a1), .val (.ref a2), .val (.int (ixx x1)), .val (.int (ixx y1))] [(.int (ixx x1))])) _
        refine XS.iloadN X0.here hx rfl (hb hby d2_59) rfl ?_
        exact kt
      by_cases hc60 : (ixx x1) < (ixx y1)
      · refine Gl.fin X0 (v := some (.int (1 : Int32))) (fun h => by rw [Bd.returns] at h; cases h) Bd.notSynchronized ?_ e0 (by decide) (by decide) (fun fs hr => ?_)
        · exact ⟨by simp [comF, b2i, hc3, hc23, hc60], N0, rfl⟩
        · show Steps p.tables e below (s₁.setTop (mkF m 60 #[.val (.ref a1), .val (.ref a2), .val (.int (ixx x1)), .val (.int (ixx y1))] [(.int (ixx y1)), (.int (ixx x1))])) _
          refine XS.icmpNo X0.here hx rfl (hb hby d2_60) rfl (own_nf (ic_ge _ _) hc60) ?_
          show Steps p.tables e below (s₁.setTop (mkF m 63 #[.val (.ref a1), .val (.ref a2), .val (.int (ixx x1)), .val (.int (ixx y1))] [])) _
          refine XS.iconst X0.here hx rfl (hb hby d2_63) ?_
          show Steps p.tables e below (s₁.setTop (mkF m 64 #[.val (.ref a1), .val (.ref a2), .val (.int (ixx x1)), .val (.int (ixx y1))] [(.int (1 : Int32))])) _
          refine XS.goto X0.here hx rfl (pc0 := 64) (pc' := 68) rfl (hb hby d2_64) (by decide) (by decide) ?_
          show Steps p.tables e below (s₁.setTop (mkF m 68 #[.val (.ref a1), .val (.ref a2), .val (.int (ixx x1)), .val (.int (ixx y1))] [(.int (1 : Int32))])) _
          exact retN X0 hx (t := .boolean) Bd.returns (by simp) (hb hby d2_68) hr
      · refine Gl.fin X0 (v := some (.int (0 : Int32))) (fun h => by rw [Bd.returns] at h; cases h) Bd.notSynchronized ?_ e0 (by decide) (by decide) (fun fs hr => ?_)
        · exact ⟨by simp [comF, b2i, hc3, hc23, hc60], N0, rfl⟩
        · show Steps p.tables e below (s₁.setTop (mkF m 60 #[.val (.ref a1), .val (.ref a2), .val (.int (ixx x1)), .val (.int (ixx y1))] [(.int (ixx y1)), (.int (ixx x1))])) _
          refine XS.icmpYes X0.here hx rfl (pc0 := 60) (pc' := 67) rfl (hb hby d2_60) rfl (own_nt (ic_ge _ _) hc60) (by decide) (by decide) ?_
          show Steps p.tables e below (s₁.setTop (mkF m 67 #[.val (.ref a1), .val (.ref a2), .val (.int (ixx x1)), .val (.int (ixx y1))] [])) _
          refine XS.iconst X0.here hx rfl (hb hby d2_67) ?_
          show Steps p.tables e below (s₁.setTop (mkF m 68 #[.val (.ref a1), .val (.ref a2), .val (.int (ixx x1)), .val (.int (ixx y1))] [(.int (0 : Int32))])) _
          exact retN X0 hx (t := .boolean) Bd.returns (by simp) (hb hby d2_68) hr
theorem ef_rm1_0 (m : MethodId) (x0 : Addr) (x1 : Addr) (x2 : Int32) : entryFrame m #[(.ref x0), (.ref x1), (.int x2)] 4 = mkF m 0 #[.val (.ref x0), .val (.ref x1), .val (.int x2), .unset] [] := by first | (simp [entryFrame, mkF, argsToLocals, Value.category]; done) | rfl
theorem d1_0 : decode method_3_code 0 = .ok (.iconst 0, 1) := by decide +kernel
theorem d1_1 : decode method_3_code 1 = .ok (.istore_n 3, 1) := by decide +kernel
theorem d1_2 : decode method_3_code 2 = .ok (.iload_n 2, 1) := by decide +kernel
theorem d1_3 : decode method_3_code 3 = .ok (.ifCond .eq 16, 3) := by decide +kernel
theorem d1_19 : decode method_3_code 19 = .ok (.iload_n 2, 1) := by decide +kernel
theorem d1_20 : decode method_3_code 20 = .ok (.iconst 1, 1) := by decide +kernel
theorem d1_21 : decode method_3_code 21 = .ok (.if_icmp .eq 16, 3) := by decide +kernel
theorem d1_24 : decode method_3_code 24 = .ok (.aload_n 0, 1) := by decide +kernel
theorem d1_25 : decode method_3_code 25 = .ok (.aload_n 1, 1) := by decide +kernel
theorem d1_26 : decode method_3_code 26 = .ok (.iconst 1, 1) := by decide +kernel
theorem d1_27 : decode method_3_code 27 = .ok (.iload_n 2, 1) := by decide +kernel
theorem d1_28 : decode method_3_code 28 = .ok (.invokestatic 7, 3) := by decide +kernel
theorem pd___Z_III_Z : parseMethodDescriptor "([Z[III)Z" = some ⟨[(.array .boolean), (.array .int), .int, .int], some .boolean⟩ := by decide +kernel
theorem d1_31 : decode method_3_code 31 = .ok (.ifCond .eq 6, 3) := by decide +kernel
theorem d1_34 : decode method_3_code 34 = .ok (.iinc 3 1, 3) := by decide +kernel
theorem d1_37 : decode method_3_code 37 = .ok (.iload_n 2, 1) := by decide +kernel
theorem d1_38 : decode method_3_code 38 = .ok (.iconst 2, 1) := by decide +kernel
theorem d1_39 : decode method_3_code 39 = .ok (.if_icmp .eq 16, 3) := by decide +kernel
theorem d1_42 : decode method_3_code 42 = .ok (.aload_n 0, 1) := by decide +kernel
theorem d1_43 : decode method_3_code 43 = .ok (.aload_n 1, 1) := by decide +kernel
theorem d1_44 : decode method_3_code 44 = .ok (.iconst 2, 1) := by decide +kernel
theorem d1_45 : decode method_3_code 45 = .ok (.iload_n 2, 1) := by decide +kernel
theorem d1_46 : decode method_3_code 46 = .ok (.invokestatic 7, 3) := by decide +kernel
theorem d1_49 : decode method_3_code 49 = .ok (.ifCond .eq 6, 3) := by decide +kernel
theorem d1_52 : decode method_3_code 52 = .ok (.iinc 3 1, 3) := by decide +kernel
theorem d1_55 : decode method_3_code 55 = .ok (.iload_n 3, 1) := by decide +kernel
theorem d1_56 : decode method_3_code 56 = .ok (.ireturn, 1) := by decide +kernel
def Q1_0 (Z : State) (a1 : Addr) (a2 : Addr) (cq : Fin 3 → Bool) (tq : Fin 3 → Fin 6) (h0 : Heap) (n0 : Nat) (v : Option Value) (h : Heap) (L : List Loc) : Prop := v = some (.int (ixx (rkF cq tq (0 : Fin 3)))) ∧ Fr n0 L ∧ h = h0
set_option maxRecDepth 65536 in
set_option maxHeartbeats 40000000 in
theorem rm1_0 (l : Launch) (Z : State) (a0 : Array Value) (hw : ∀ d ∈ tables_1, d.before a0 Z = true) (ws : List Jvm.Cond) (a1 : Addr) (a2 : Addr) (cq : Fin 3 → Bool) (tq : Fin 3 → Fin 6) (h0 : Heap) (n0 : Nat) (Z0 : n0 ≤ h0.size) (G_1 : ArG Z h0 a1 .boolean (fun j => .int (b2i (cq j)))) (G_2 : ArG Z h0 a2 .int (fun j => .int (tii (tq j)))) :
    OMet l Z (⟨"com/example/tenrec/tenrec/pool/IdleByLastCompletionRemovePinLaw", "rank", "([Z[II)I"⟩ : MethodName) method_3_code 4 (some .int) ws ({ frames := 1, cells := 0, slots := 0, locals := 15 } : Room) #[(.ref a1), (.ref a2), (.int (0 : Int32))] h0 (Q1_0 Z a1 a2 cq tq h0 n0) := by
  refine own_body (plainFor_of_name pn_com_example_tenrec_tenrec_pool_IdleByLastCompletionRemovePinLaw) ?_
  intro p e s m below meth c s₁ Bd hml0 hZ e0
  have hx := Bd.exec
  have hby := Bd.bytes
  have hml : c.maxLocals = 4 := hml0
  have hown : s.vm.findClass "com/example/tenrec/tenrec/pool/IdleByLastCompletionRemovePinLaw" = some m.cls := findClass_of_methodNamed Bd.named
  have hnm := (name_of_methodNamed Bd.named Bd.method).1
  have X0 : Stand p l e ({ frames := 1, cells := 0, slots := 0, locals := 15 } : Room) s m #[(.ref a1), (.ref a2), (.int (0 : Int32))] below meth c s₁ [] 0 0 := Stand.of_body Bd
  have N0 := Fr.nil n0
  have K0 : Keep h0 h0 [] := Keep.refl _ _
  rw [ef_rm1_0]
  obtain ⟨v101, T101, L101, X101, q101, st101⟩ := own_callS X0 hx hZ (y := (⟨"com/example/tenrec/tenrec/pool/IdleByLastCompletionRemovePinLaw", "comes", "([Z[III)Z"⟩ : MethodName)) hown (hw _ (List.mem_of_getElem? (i := 7) rfl)) (hw _ (List.mem_of_getElem? (i := 8) rfl)) (hw _ (List.mem_of_getElem? (i := 5) rfl)) (hw _ (List.mem_of_getElem? (i := 9) rfl)) (by decide) (hM := (rm2 l Z a0 hw [] a1 a2 (1 : Fin 3) (0 : Fin 3) cq tq h0 n0 Z0 G_1 G_2)) (by decide) (by decide) (by decide) (by decide) e0 (argsL := [(.ref a1), (.ref a2), (.int (ixx (1 : Fin 3))), (.int (ixx (0 : Fin 3)))]) (rest := []) (Ls := #[.val (.ref a1), .val (.ref a2), .val (.int (0 : Int32)), .val (.int (0 : Int32))]) (by rw [hml]; rfl) (lenOf pd___Z_III_Z rfl) (W := 0) (Nat.le_of_eq rfl) (hb hby d1_28)
  obtain ⟨rfl, N101q, e101⟩ := q101
  have N101 := Fr.app N0 N101q
  refine Gl.pre (S' := T101.setTop (mkF m 31 #[.val (.ref a1), .val (.ref a2), .val (.int (0 : Int32)), .val (.int (0 : Int32))] [(.int (b2i (comF cq tq (1 : Fin 3) (0 : Fin 3))))])) (fun t kt => ?_) ?_
  · show Steps p.tables e below (s₁.setTop (mkF m 0 #[.val (.ref a1), .val (.ref a2), .val (.int (0 : Int32)), .unset] [])) _
    refine XS.iconst X0.here hx rfl (hb hby d1_0) ?_
    show Steps p.tables e below (s₁.setTop (mkF m 1 #[.val (.ref a1), .val (.ref a2), .val (.int (0 : Int32)), .unset] [(.int (0 : Int32))])) _
    refine XS.istoreN X0.here hx rfl (hb hby d1_1) rfl (l' := #[.val (.ref a1), .val (.ref a2), .val (.int (0 : Int32)), .val (.int (0 : Int32))]) rfl ?_
    show Steps p.tables e below (s₁.setTop (mkF m 2 #[.val (.ref a1), .val (.ref a2), .val (.int (0 : Int32)), .val (.int (0 : Int32))] [])) _
    refine XS.iloadN X0.here hx rfl (hb hby d1_2) rfl ?_
    show Steps p.tables e below (s₁.setTop (mkF m 3 #[.val (.ref a1), .val (.ref a2), .val (.int (0 : Int32)), .val (.int (0 : Int32))] [(.int (0 : Int32))])) _
    refine XS.ifYes X0.here hx rfl (pc0 := 3) (pc' := 19) rfl (hb hby d1_3) rfl (own_t (i0_eq _) (by decide)) (by decide) (by decide) ?_
    show Steps p.tables e below (s₁.setTop (mkF m 19 #[.val (.ref a1), .val (.ref a2), .val (.int (0 : Int32)), .val (.int (0 : Int32))] [])) _
    refine XS.iloadN X0.here hx rfl (hb hby d1_19) rfl ?_
    show Steps p.tables e below (s₁.setTop (mkF m 20 #[.val (.ref a1), .val (.ref a2), .val (.int (0 : Int32)), .val (.int (0 : Int32))] [(.int (0 : Int32))])) _
    refine XS.iconst X0.here hx rfl (hb hby d1_20) ?_
    show Steps p.tables e below (s₁.setTop (mkF m 21 #[.val (.ref a1), .val (.ref a2), .val (.int (0 : Int32)), .val (.int (0 : Int32))] [(.int (1 : Int32)), (.int (0 : Int32))])) _
    refine XS.icmpNo X0.here hx rfl (hb hby d1_21) rfl (own_f (ic_eq _ _) (by decide)) ?_
    show Steps p.tables e below (s₁.setTop (mkF m 24 #[.val (.ref a1), .val (.ref a2), .val (.int (0 : Int32)), .val (.int (0 : Int32))] [])) _
    refine XS.aloadN X0.here hx rfl (hb hby d1_24) rfl rfl ?_
    show Steps p.tables e below (s₁.setTop (mkF m 25 #[.val (.ref a1), .val (.ref a2), .val (.int (0 : Int32)), .val (.int (0 : Int32))] [(.ref a1)])) _
    refine XS.aloadN X0.here hx rfl (hb hby d1_25) rfl rfl ?_
    show Steps p.tables e below (s₁.setTop (mkF m 26 #[.val (.ref a1), .val (.ref a2), .val (.int (0 : Int32)), .val (.int (0 : Int32))] [(.ref a2), (.ref a1)])) _
    refine XS.iconst X0.here hx rfl (hb hby d1_26) ?_
    show Steps p.tables e below (s₁.setTop (mkF m 27 #[.val (.ref a1), .val (.ref a2), .val (.int (0 : Int32)), .val (.int (0 : Int32))] [(.int (ixx (1 : Fin 3))), (.ref a2), (.ref a1)])) _
    refine XS.iloadN X0.here hx rfl (hb hby d1_27) rfl ?_
    show Steps p.tables e below (s₁.setTop (mkF m 28 #[.val (.ref a1), .val (.ref a2), .val (.int (0 : Int32)), .val (.int (0 : Int32))] [(.int (ixx (0 : Fin 3))), (.int (ixx (1 : Fin 3))), (.ref a2), (.ref a1)])) _
    refine st101 _ ?_
    exact kt
  by_cases hc31 : (comF cq tq (1 : Fin 3) (0 : Fin 3)) = true
  · obtain ⟨v102, T102, L102, X102, q102, st102⟩ := own_callS X101 hx hZ (y := (⟨"com/example/tenrec/tenrec/pool/IdleByLastCompletionRemovePinLaw", "comes", "([Z[III)Z"⟩ : MethodName)) hown (hw _ (List.mem_of_getElem? (i := 7) rfl)) (hw _ (List.mem_of_getElem? (i := 8) rfl)) (hw _ (List.mem_of_getElem? (i := 5) rfl)) (hw _ (List.mem_of_getElem? (i := 9) rfl)) (by decide) (hM := (rm2 l Z a0 hw [] a1 a2 (2 : Fin 3) (0 : Fin 3) cq tq h0 n0 Z0 G_1 G_2)) (by decide) (by decide) (by decide) (by decide) e101 (argsL := [(.ref a1), (.ref a2), (.int (ixx (2 : Fin 3))), (.int (ixx (0 : Fin 3)))]) (rest := []) (Ls := #[.val (.ref a1), .val (.ref a2), .val (.int (0 : Int32)), .val (.int ((0 : Int32) + (1 : Int32)))]) (by rw [hml]; rfl) (lenOf pd___Z_III_Z rfl) (W := 0) (Nat.le_of_eq rfl) (hb hby d1_46)
    obtain ⟨rfl, N102q, e102⟩ := q102
    have N102 := Fr.app N101 N102q
    refine Gl.pre (S' := T102.setTop (mkF m 49 #[.val (.ref a1), .val (.ref a2), .val (.int (0 : Int32)), .val (.int ((0 : Int32) + (1 : Int32)))] [(.int (b2i (comF cq tq (2 : Fin 3) (0 : Fin 3))))])) (fun t kt => ?_) ?_
    · show Steps p.tables e below (T101.setTop (mkF m 31 #[.val (.ref a1), .val (.ref a2), .val (.int (0 : Int32)), .val (.int (0 : Int32))] [(.int (b2i (comF cq tq (1 : Fin 3) (0 : Fin 3))))])) _
      refine XS.ifNo X101.here hx rfl (hb hby d1_31) rfl (own_nbf (b0_eq _) hc31) ?_
      show Steps p.tables e below (T101.setTop (mkF m 34 #[.val (.ref a1), .val (.ref a2), .val (.int (0 : Int32)), .val (.int (0 : Int32))] [])) _
      refine XS.iinc X101.here hx rfl (hb hby d1_34) rfl (l' := #[.val (.ref a1), .val (.ref a2), .val (.int (0 : Int32)), .val (.int ((0 : Int32) + (1 : Int32)))]) rfl ?_
      show Steps p.tables e below (T101.setTop (mkF m 37 #[.val (.ref a1), .val (.ref a2), .val (.int (0 : Int32)), .val (.int ((0 : Int32) + (1 : Int32)))] [])) _
      refine XS.iloadN X101.here hx rfl (hb hby d1_37) rfl ?_
      show Steps p.tables e below (T101.setTop (mkF m 38 #[.val (.ref a1), .val (.ref a2), .val (.int (0 : Int32)), .val (.int ((0 : Int32) + (1 : Int32)))] [(.int (0 : Int32))])) _
      refine XS.iconst X101.here hx rfl (hb hby d1_38) ?_
      show Steps p.tables e below (T101.setTop (mkF m 39 #[.val (.ref a1), .val (.ref a2), .val (.int (0 : Int32)), .val (.int ((0 : Int32) + (1 : Int32)))] [(.int (2 : Int32)), (.int (0 : Int32))])) _
      refine XS.icmpNo X101.here hx rfl (hb hby d1_39) rfl (own_f (ic_eq _ _) (by decide)) ?_
      show Steps p.tables e below (T101.setTop (mkF m 42 #[.val (.ref a1), .val (.ref a2), .val (.int (0 : Int32)), .val (.int ((0 : Int32) + (1 : Int32)))] [])) _
      refine XS.aloadN X101.here hx rfl (hb hby d1_42) rfl rfl ?_
      show Steps p.tables e below (T101.setTop (mkF m 43 #[.val (.ref a1), .val (.ref a2), .val (.int (0 : Int32)), .val (.int ((0 : Int32) + (1 : Int32)))] [(.ref a1)])) _
      refine XS.aloadN X101.here hx rfl (hb hby d1_43) rfl rfl ?_
      show Steps p.tables e below (T101.setTop (mkF m 44 #[.val (.ref a1), .val (.ref a2), .val (.int (0 : Int32)), .val (.int ((0 : Int32) + (1 : Int32)))] [(.ref a2), (.ref a1)])) _
      refine XS.iconst X101.here hx rfl (hb hby d1_44) ?_
      show Steps p.tables e below (T101.setTop (mkF m 45 #[.val (.ref a1), .val (.ref a2), .val (.int (0 : Int32)), .val (.int ((0 : Int32) + (1 : Int32)))] [(.int (ixx (2 : Fin 3))), (.ref a2), (.ref a1)])) _
      refine XS.iloadN X101.here hx rfl (hb hby d1_45) rfl ?_
      show Steps p.tables e below (T101.setTop (mkF m 46 #[.val (.ref a1), .val (.ref a2), .val (.int (0 : Int32)), .val (.int ((0 : Int32) + (1 : Int32)))] [(.int (ixx (0 : Fin 3))), (.int (ixx (2 : Fin 3))), (.ref a2), (.ref a1)])) _
      refine st102 _ ?_
      exact kt
    by_cases hc49 : (comF cq tq (2 : Fin 3) (0 : Fin 3)) = true
    · refine Gl.fin X102 (v := some (.int (((0 : Int32) + (1 : Int32)) + (1 : Int32)))) (fun h => by rw [Bd.returns] at h; cases h) Bd.notSynchronized ?_ e102 (by decide) (by decide) (fun fs hr => ?_)
      · exact ⟨congrArg (fun z => some (Value.int z)) (by simp only [rkF, hc31, hc49, if_true, if_false, eq_self]; first | done | decide), N102, rfl⟩
      · show Steps p.tables e below (T102.setTop (mkF m 49 #[.val (.ref a1), .val (.ref a2), .val (.int (0 : Int32)), .val (.int ((0 : Int32) + (1 : Int32)))] [(.int (b2i (comF cq tq (2 : Fin 3) (0 : Fin 3))))])) _
        refine XS.ifNo X102.here hx rfl (hb hby d1_49) rfl (own_nbf (b0_eq _) hc49) ?_
        show Steps p.tables e below (T102.setTop (mkF m 52 #[.val (.ref a1), .val (.ref a2), .val (.int (0 : Int32)), .val (.int ((0 : Int32) + (1 : Int32)))] [])) _
        refine XS.iinc X102.here hx rfl (hb hby d1_52) rfl (l' := #[.val (.ref a1), .val (.ref a2), .val (.int (0 : Int32)), .val (.int (((0 : Int32) + (1 : Int32)) + (1 : Int32)))]) rfl ?_
        show Steps p.tables e below (T102.setTop (mkF m 55 #[.val (.ref a1), .val (.ref a2), .val (.int (0 : Int32)), .val (.int (((0 : Int32) + (1 : Int32)) + (1 : Int32)))] [])) _
        refine XS.iloadN X102.here hx rfl (hb hby d1_55) rfl ?_
        show Steps p.tables e below (T102.setTop (mkF m 56 #[.val (.ref a1), .val (.ref a2), .val (.int (0 : Int32)), .val (.int (((0 : Int32) + (1 : Int32)) + (1 : Int32)))] [(.int (((0 : Int32) + (1 : Int32)) + (1 : Int32)))])) _
        exact own_retI X102 hx Bd.returns (hb hby d1_56) hr
    · refine Gl.fin X102 (v := some (.int ((0 : Int32) + (1 : Int32)))) (fun h => by rw [Bd.returns] at h; cases h) Bd.notSynchronized ?_ e102 (by decide) (by decide) (fun fs hr => ?_)
      · exact ⟨congrArg (fun z => some (Value.int z)) (by simp only [rkF, hc31, hc49, if_true, if_false, eq_self]; first | done | decide), N102, rfl⟩
      · show Steps p.tables e below (T102.setTop (mkF m 49 #[.val (.ref a1), .val (.ref a2), .val (.int (0 : Int32)), .val (.int ((0 : Int32) + (1 : Int32)))] [(.int (b2i (comF cq tq (2 : Fin 3) (0 : Fin 3))))])) _
        refine XS.ifYes X102.here hx rfl (pc0 := 49) (pc' := 55) rfl (hb hby d1_49) rfl (own_nbt (b0_eq _) (Bool.eq_false_iff.mpr hc49)) (by decide) (by decide) ?_
        show Steps p.tables e below (T102.setTop (mkF m 55 #[.val (.ref a1), .val (.ref a2), .val (.int (0 : Int32)), .val (.int ((0 : Int32) + (1 : Int32)))] [])) _
        refine XS.iloadN X102.here hx rfl (hb hby d1_55) rfl ?_
        show Steps p.tables e below (T102.setTop (mkF m 56 #[.val (.ref a1), .val (.ref a2), .val (.int (0 : Int32)), .val (.int ((0 : Int32) + (1 : Int32)))] [(.int ((0 : Int32) + (1 : Int32)))])) _
        exact own_retI X102 hx Bd.returns (hb hby d1_56) hr
  · obtain ⟨v103, T103, L103, X103, q103, st103⟩ := own_callS X101 hx hZ (y := (⟨"com/example/tenrec/tenrec/pool/IdleByLastCompletionRemovePinLaw", "comes", "([Z[III)Z"⟩ : MethodName)) hown (hw _ (List.mem_of_getElem? (i := 7) rfl)) (hw _ (List.mem_of_getElem? (i := 8) rfl)) (hw _ (List.mem_of_getElem? (i := 5) rfl)) (hw _ (List.mem_of_getElem? (i := 9) rfl)) (by decide) (hM := (rm2 l Z a0 hw [] a1 a2 (2 : Fin 3) (0 : Fin 3) cq tq h0 n0 Z0 G_1 G_2)) (by decide) (by decide) (by decide) (by decide) e101 (argsL := [(.ref a1), (.ref a2), (.int (ixx (2 : Fin 3))), (.int (ixx (0 : Fin 3)))]) (rest := []) (Ls := #[.val (.ref a1), .val (.ref a2), .val (.int (0 : Int32)), .val (.int (0 : Int32))]) (by rw [hml]; rfl) (lenOf pd___Z_III_Z rfl) (W := 0) (Nat.le_of_eq rfl) (hb hby d1_46)
    obtain ⟨rfl, N103q, e103⟩ := q103
    have N103 := Fr.app N101 N103q
    refine Gl.pre (S' := T103.setTop (mkF m 49 #[.val (.ref a1), .val (.ref a2), .val (.int (0 : Int32)), .val (.int (0 : Int32))] [(.int (b2i (comF cq tq (2 : Fin 3) (0 : Fin 3))))])) (fun t kt => ?_) ?_
    · show Steps p.tables e below (T101.setTop (mkF m 31 #[.val (.ref a1), .val (.ref a2), .val (.int (0 : Int32)), .val (.int (0 : Int32))] [(.int (b2i (comF cq tq (1 : Fin 3) (0 : Fin 3))))])) _
      refine XS.ifYes X101.here hx rfl (pc0 := 31) (pc' := 37) rfl (hb hby d1_31) rfl (own_nbt (b0_eq _) (Bool.eq_false_iff.mpr hc31)) (by decide) (by decide) ?_
      show Steps p.tables e below (T101.setTop (mkF m 37 #[.val (.ref a1), .val (.ref a2), .val (.int (0 : Int32)), .val (.int (0 : Int32))] [])) _
      refine XS.iloadN X101.here hx rfl (hb hby d1_37) rfl ?_
      show Steps p.tables e below (T101.setTop (mkF m 38 #[.val (.ref a1), .val (.ref a2), .val (.int (0 : Int32)), .val (.int (0 : Int32))] [(.int (0 : Int32))])) _
      refine XS.iconst X101.here hx rfl (hb hby d1_38) ?_
      show Steps p.tables e below (T101.setTop (mkF m 39 #[.val (.ref a1), .val (.ref a2), .val (.int (0 : Int32)), .val (.int (0 : Int32))] [(.int (2 : Int32)), (.int (0 : Int32))])) _
      refine XS.icmpNo X101.here hx rfl (hb hby d1_39) rfl (own_f (ic_eq _ _) (by decide)) ?_
      show Steps p.tables e below (T101.setTop (mkF m 42 #[.val (.ref a1), .val (.ref a2), .val (.int (0 : Int32)), .val (.int (0 : Int32))] [])) _
      refine XS.aloadN X101.here hx rfl (hb hby d1_42) rfl rfl ?_
      show Steps p.tables e below (T101.setTop (mkF m 43 #[.val (.ref a1), .val (.ref a2), .val (.int (0 : Int32)), .val (.int (0 : Int32))] [(.ref a1)])) _
      refine XS.aloadN X101.here hx rfl (hb hby d1_43) rfl rfl ?_
      show Steps p.tables e below (T101.setTop (mkF m 44 #[.val (.ref a1), .val (.ref a2), .val (.int (0 : Int32)), .val (.int (0 : Int32))] [(.ref a2), (.ref a1)])) _
      refine XS.iconst X101.here hx rfl (hb hby d1_44) ?_
      show Steps p.tables e below (T101.setTop (mkF m 45 #[.val (.ref a1), .val (.ref a2), .val (.int (0 : Int32)), .val (.int (0 : Int32))] [(.int (ixx (2 : Fin 3))), (.ref a2), (.ref a1)])) _
      refine XS.iloadN X101.here hx rfl (hb hby d1_45) rfl ?_
      show Steps p.tables e below (T101.setTop (mkF m 46 #[.val (.ref a1), .val (.ref a2), .val (.int (0 : Int32)), .val (.int (0 : Int32))] [(.int (ixx (0 : Fin 3))), (.int (ixx (2 : Fin 3))), (.ref a2), (.ref a1)])) _
      refine st103 _ ?_
      exact kt
    by_cases hc49 : (comF cq tq (2 : Fin 3) (0 : Fin 3)) = true
    · refine Gl.fin X103 (v := some (.int ((0 : Int32) + (1 : Int32)))) (fun h => by rw [Bd.returns] at h; cases h) Bd.notSynchronized ?_ e103 (by decide) (by decide) (fun fs hr => ?_)
      · exact ⟨congrArg (fun z => some (Value.int z)) (by simp only [rkF, hc31, hc49, if_true, if_false, eq_self]; first | done | decide), N103, rfl⟩
      · show Steps p.tables e below (T103.setTop (mkF m 49 #[.val (.ref a1), .val (.ref a2), .val (.int (0 : Int32)), .val (.int (0 : Int32))] [(.int (b2i (comF cq tq (2 : Fin 3) (0 : Fin 3))))])) _
        refine XS.ifNo X103.here hx rfl (hb hby d1_49) rfl (own_nbf (b0_eq _) hc49) ?_
        show Steps p.tables e below (T103.setTop (mkF m 52 #[.val (.ref a1), .val (.ref a2), .val (.int (0 : Int32)), .val (.int (0 : Int32))] [])) _
        refine XS.iinc X103.here hx rfl (hb hby d1_52) rfl (l' := #[.val (.ref a1), .val (.ref a2), .val (.int (0 : Int32)), .val (.int ((0 : Int32) + (1 : Int32)))]) rfl ?_
        show Steps p.tables e below (T103.setTop (mkF m 55 #[.val (.ref a1), .val (.ref a2), .val (.int (0 : Int32)), .val (.int ((0 : Int32) + (1 : Int32)))] [])) _
        refine XS.iloadN X103.here hx rfl (hb hby d1_55) rfl ?_
        show Steps p.tables e below (T103.setTop (mkF m 56 #[.val (.ref a1), .val (.ref a2), .val (.int (0 : Int32)), .val (.int ((0 : Int32) + (1 : Int32)))] [(.int ((0 : Int32) + (1 : Int32)))])) _
        exact own_retI X103 hx Bd.returns (hb hby d1_56) hr
    · refine Gl.fin X103 (v := some (.int (0 : Int32))) (fun h => by rw [Bd.returns] at h; cases h) Bd.notSynchronized ?_ e103 (by decide) (by decide) (fun fs hr => ?_)
      · exact ⟨congrArg (fun z => some (Value.int z)) (by simp only [rkF, hc31, hc49, if_true, if_false, eq_self]; first | done | decide), N103, rfl⟩
      · show Steps p.tables e below (T103.setTop (mkF m 49 #[.val (.ref a1), .val (.ref a2), .val (.int (0 : Int32)), .val (.int (0 : Int32))] [(.int (b2i (comF cq tq (2 : Fin 3) (0 : Fin 3))))])) _
        refine XS.ifYes X103.here hx rfl (pc0 := 49) (pc' := 55) rfl (hb hby d1_49) rfl (own_nbt (b0_eq _) (Bool.eq_false_iff.mpr hc49)) (by decide) (by decide) ?_
        show Steps p.tables e below (T103.setTop (mkF m 55 #[.val (.ref a1), .val (.ref a2), .val (.int (0 : Int32)), .val (.int (0 : Int32))] [])) _
        refine XS.iloadN X103.here hx rfl (hb hby d1_55) rfl ?_
        show Steps p.tables e below (T103.setTop (mkF m 56 #[.val (.ref a1), .val (.ref a2), .val (.int (0 : Int32)), .val (.int (0 : Int32))] [(.int (0 : Int32))])) _
        exact own_retI X103 hx Bd.returns (hb hby d1_56) hr
theorem ef_rm1_1 (m : MethodId) (x0 : Addr) (x1 : Addr) (x2 : Int32) : entryFrame m #[(.ref x0), (.ref x1), (.int x2)] 4 = mkF m 0 #[.val (.ref x0), .val (.ref x1), .val (.int x2), .unset] [] := by first | (simp [entryFrame, mkF, argsToLocals, Value.category]; done) | rfl
theorem d1_6 : decode method_3_code 6 = .ok (.aload_n 0, 1) := by decide +kernel
theorem d1_7 : decode method_3_code 7 = .ok (.aload_n 1, 1) := by decide +kernel
theorem d1_8 : decode method_3_code 8 = .ok (.iconst 0, 1) := by decide +kernel
theorem d1_9 : decode method_3_code 9 = .ok (.iload_n 2, 1) := by decide +kernel
theorem d1_10 : decode method_3_code 10 = .ok (.invokestatic 7, 3) := by decide +kernel
theorem d1_13 : decode method_3_code 13 = .ok (.ifCond .eq 6, 3) := by decide +kernel
theorem d1_16 : decode method_3_code 16 = .ok (.iinc 3 1, 3) := by decide +kernel
def Q1_1 (Z : State) (a1 : Addr) (a2 : Addr) (cq : Fin 3 → Bool) (tq : Fin 3 → Fin 6) (h0 : Heap) (n0 : Nat) (v : Option Value) (h : Heap) (L : List Loc) : Prop := v = some (.int (ixx (rkF cq tq (1 : Fin 3)))) ∧ Fr n0 L ∧ h = h0
set_option maxRecDepth 65536 in
set_option maxHeartbeats 40000000 in
theorem rm1_1 (l : Launch) (Z : State) (a0 : Array Value) (hw : ∀ d ∈ tables_1, d.before a0 Z = true) (ws : List Jvm.Cond) (a1 : Addr) (a2 : Addr) (cq : Fin 3 → Bool) (tq : Fin 3 → Fin 6) (h0 : Heap) (n0 : Nat) (Z0 : n0 ≤ h0.size) (G_1 : ArG Z h0 a1 .boolean (fun j => .int (b2i (cq j)))) (G_2 : ArG Z h0 a2 .int (fun j => .int (tii (tq j)))) :
    OMet l Z (⟨"com/example/tenrec/tenrec/pool/IdleByLastCompletionRemovePinLaw", "rank", "([Z[II)I"⟩ : MethodName) method_3_code 4 (some .int) ws ({ frames := 1, cells := 0, slots := 0, locals := 15 } : Room) #[(.ref a1), (.ref a2), (.int (1 : Int32))] h0 (Q1_1 Z a1 a2 cq tq h0 n0) := by
  refine own_body (plainFor_of_name pn_com_example_tenrec_tenrec_pool_IdleByLastCompletionRemovePinLaw) ?_
  intro p e s m below meth c s₁ Bd hml0 hZ e0
  have hx := Bd.exec
  have hby := Bd.bytes
  have hml : c.maxLocals = 4 := hml0
  have hown : s.vm.findClass "com/example/tenrec/tenrec/pool/IdleByLastCompletionRemovePinLaw" = some m.cls := findClass_of_methodNamed Bd.named
  have hnm := (name_of_methodNamed Bd.named Bd.method).1
  have X0 : Stand p l e ({ frames := 1, cells := 0, slots := 0, locals := 15 } : Room) s m #[(.ref a1), (.ref a2), (.int (1 : Int32))] below meth c s₁ [] 0 0 := Stand.of_body Bd
  have N0 := Fr.nil n0
  have K0 : Keep h0 h0 [] := Keep.refl _ _
  rw [ef_rm1_1]
  obtain ⟨v101, T101, L101, X101, q101, st101⟩ := own_callS X0 hx hZ (y := (⟨"com/example/tenrec/tenrec/pool/IdleByLastCompletionRemovePinLaw", "comes", "([Z[III)Z"⟩ : MethodName)) hown (hw _ (List.mem_of_getElem? (i := 7) rfl)) (hw _ (List.mem_of_getElem? (i := 8) rfl)) (hw _ (List.mem_of_getElem? (i := 5) rfl)) (hw _ (List.mem_of_getElem? (i := 9) rfl)) (by decide) (hM := (rm2 l Z a0 hw [] a1 a2 (0 : Fin 3) (1 : Fin 3) cq tq h0 n0 Z0 G_1 G_2)) (by decide) (by decide) (by decide) (by decide) e0 (argsL := [(.ref a1), (.ref a2), (.int (ixx (0 : Fin 3))), (.int (ixx (1 : Fin 3)))]) (rest := []) (Ls := #[.val (.ref a1), .val (.ref a2), .val (.int (1 : Int32)), .val (.int (0 : Int32))]) (by rw [hml]; rfl) (lenOf pd___Z_III_Z rfl) (W := 0) (Nat.le_of_eq rfl) (hb hby d1_10)
  obtain ⟨rfl, N101q, e101⟩ := q101
  have N101 := Fr.app N0 N101q
  refine Gl.pre (S' := T101.setTop (mkF m 13 #[.val (.ref a1), .val (.ref a2), .val (.int (1 : Int32)), .val (.int (0 : Int32))] [(.int (b2i (comF cq tq (0 : Fin 3) (1 : Fin 3))))])) (fun t kt => ?_) ?_
  · show Steps p.tables e below (s₁.setTop (mkF m 0 #[.val (.ref a1), .val (.ref a2), .val (.int (1 : Int32)), .unset] [])) _
    refine XS.iconst X0.here hx rfl (hb hby d1_0) ?_
    show Steps p.tables e below (s₁.setTop (mkF m 1 #[.val (.ref a1), .val (.ref a2), .val (.int (1 : Int32)), .unset] [(.int (0 : Int32))])) _
    refine XS.istoreN X0.here hx rfl (hb hby d1_1) rfl (l' := #[.val (.ref a1), .val (.ref a2), .val (.int (1 : Int32)), .val (.int (0 : Int32))]) rfl ?_
    show Steps p.tables e below (s₁.setTop (mkF m 2 #[.val (.ref a1), .val (.ref a2), .val (.int (1 : Int32)), .val (.int (0 : Int32))] [])) _
    refine XS.iloadN X0.here hx rfl (hb hby d1_2) rfl ?_
    show Steps p.tables e below (s₁.setTop (mkF m 3 #[.val (.ref a1), .val (.ref a2), .val (.int (1 : Int32)), .val (.int (0 : Int32))] [(.int (1 : Int32))])) _
    refine XS.ifNo X0.here hx rfl (hb hby d1_3) rfl (own_f (i0_eq _) (by decide)) ?_
    show Steps p.tables e below (s₁.setTop (mkF m 6 #[.val (.ref a1), .val (.ref a2), .val (.int (1 : Int32)), .val (.int (0 : Int32))] [])) _
    refine XS.aloadN X0.here hx rfl (hb hby d1_6) rfl rfl ?_
    show Steps p.tables e below (s₁.setTop (mkF m 7 #[.val (.ref a1), .val (.ref a2), .val (.int (1 : Int32)), .val (.int (0 : Int32))] [(.ref a1)])) _
    refine XS.aloadN X0.here hx rfl (hb hby d1_7) rfl rfl ?_
    show Steps p.tables e below (s₁.setTop (mkF m 8 #[.val (.ref a1), .val (.ref a2), .val (.int (1 : Int32)), .val (.int (0 : Int32))] [(.ref a2), (.ref a1)])) _
    refine XS.iconst X0.here hx rfl (hb hby d1_8) ?_
    show Steps p.tables e below (s₁.setTop (mkF m 9 #[.val (.ref a1), .val (.ref a2), .val (.int (1 : Int32)), .val (.int (0 : Int32))] [(.int (ixx (0 : Fin 3))), (.ref a2), (.ref a1)])) _
    refine XS.iloadN X0.here hx rfl (hb hby d1_9) rfl ?_
    show Steps p.tables e below (s₁.setTop (mkF m 10 #[.val (.ref a1), .val (.ref a2), .val (.int (1 : Int32)), .val (.int (0 : Int32))] [(.int (ixx (1 : Fin 3))), (.int (ixx (0 : Fin 3))), (.ref a2), (.ref a1)])) _
    refine st101 _ ?_
    exact kt
  by_cases hc13 : (comF cq tq (0 : Fin 3) (1 : Fin 3)) = true
  · obtain ⟨v102, T102, L102, X102, q102, st102⟩ := own_callS X101 hx hZ (y := (⟨"com/example/tenrec/tenrec/pool/IdleByLastCompletionRemovePinLaw", "comes", "([Z[III)Z"⟩ : MethodName)) hown (hw _ (List.mem_of_getElem? (i := 7) rfl)) (hw _ (List.mem_of_getElem? (i := 8) rfl)) (hw _ (List.mem_of_getElem? (i := 5) rfl)) (hw _ (List.mem_of_getElem? (i := 9) rfl)) (by decide) (hM := (rm2 l Z a0 hw [] a1 a2 (2 : Fin 3) (1 : Fin 3) cq tq h0 n0 Z0 G_1 G_2)) (by decide) (by decide) (by decide) (by decide) e101 (argsL := [(.ref a1), (.ref a2), (.int (ixx (2 : Fin 3))), (.int (ixx (1 : Fin 3)))]) (rest := []) (Ls := #[.val (.ref a1), .val (.ref a2), .val (.int (1 : Int32)), .val (.int ((0 : Int32) + (1 : Int32)))]) (by rw [hml]; rfl) (lenOf pd___Z_III_Z rfl) (W := 0) (Nat.le_of_eq rfl) (hb hby d1_46)
    obtain ⟨rfl, N102q, e102⟩ := q102
    have N102 := Fr.app N101 N102q
    refine Gl.pre (S' := T102.setTop (mkF m 49 #[.val (.ref a1), .val (.ref a2), .val (.int (1 : Int32)), .val (.int ((0 : Int32) + (1 : Int32)))] [(.int (b2i (comF cq tq (2 : Fin 3) (1 : Fin 3))))])) (fun t kt => ?_) ?_
    · show Steps p.tables e below (T101.setTop (mkF m 13 #[.val (.ref a1), .val (.ref a2), .val (.int (1 : Int32)), .val (.int (0 : Int32))] [(.int (b2i (comF cq tq (0 : Fin 3) (1 : Fin 3))))])) _
      refine XS.ifNo X101.here hx rfl (hb hby d1_13) rfl (own_nbf (b0_eq _) hc13) ?_
      show Steps p.tables e below (T101.setTop (mkF m 16 #[.val (.ref a1), .val (.ref a2), .val (.int (1 : Int32)), .val (.int (0 : Int32))] [])) _
      refine XS.iinc X101.here hx rfl (hb hby d1_16) rfl (l' := #[.val (.ref a1), .val (.ref a2), .val (.int (1 : Int32)), .val (.int ((0 : Int32) + (1 : Int32)))]) rfl ?_
      show Steps p.tables e below (T101.setTop (mkF m 19 #[.val (.ref a1), .val (.ref a2), .val (.int (1 : Int32)), .val (.int ((0 : Int32) + (1 : Int32)))] [])) _
      refine XS.iloadN X101.here hx rfl (hb hby d1_19) rfl ?_
      show Steps p.tables e below (T101.setTop (mkF m 20 #[.val (.ref a1), .val (.ref a2), .val (.int (1 : Int32)), .val (.int ((0 : Int32) + (1 : Int32)))] [(.int (1 : Int32))])) _
      refine XS.iconst X101.here hx rfl (hb hby d1_20) ?_
      show Steps p.tables e below (T101.setTop (mkF m 21 #[.val (.ref a1), .val (.ref a2), .val (.int (1 : Int32)), .val (.int ((0 : Int32) + (1 : Int32)))] [(.int (1 : Int32)), (.int (1 : Int32))])) _
      refine XS.icmpYes X101.here hx rfl (pc0 := 21) (pc' := 37) rfl (hb hby d1_21) rfl (own_t (ic_eq _ _) (by decide)) (by decide) (by decide) ?_
      show Steps p.tables e below (T101.setTop (mkF m 37 #[.val (.ref a1), .val (.ref a2), .val (.int (1 : Int32)), .val (.int ((0 : Int32) + (1 : Int32)))] [])) _
      refine XS.iloadN X101.here hx rfl (hb hby d1_37) rfl ?_
      show Steps p.tables e below (T101.setTop (mkF m 38 #[.val (.ref a1), .val (.ref a2), .val (.int (1 : Int32)), .val (.int ((0 : Int32) + (1 : Int32)))] [(.int (1 : Int32))])) _
      refine XS.iconst X101.here hx rfl (hb hby d1_38) ?_
      show Steps p.tables e below (T101.setTop (mkF m 39 #[.val (.ref a1), .val (.ref a2), .val (.int (1 : Int32)), .val (.int ((0 : Int32) + (1 : Int32)))] [(.int (2 : Int32)), (.int (1 : Int32))])) _
      refine XS.icmpNo X101.here hx rfl (hb hby d1_39) rfl (own_f (ic_eq _ _) (by decide)) ?_
      show Steps p.tables e below (T101.setTop (mkF m 42 #[.val (.ref a1), .val (.ref a2), .val (.int (1 : Int32)), .val (.int ((0 : Int32) + (1 : Int32)))] [])) _
      refine XS.aloadN X101.here hx rfl (hb hby d1_42) rfl rfl ?_
      show Steps p.tables e below (T101.setTop (mkF m 43 #[.val (.ref a1), .val (.ref a2), .val (.int (1 : Int32)), .val (.int ((0 : Int32) + (1 : Int32)))] [(.ref a1)])) _
      refine XS.aloadN X101.here hx rfl (hb hby d1_43) rfl rfl ?_
      show Steps p.tables e below (T101.setTop (mkF m 44 #[.val (.ref a1), .val (.ref a2), .val (.int (1 : Int32)), .val (.int ((0 : Int32) + (1 : Int32)))] [(.ref a2), (.ref a1)])) _
      refine XS.iconst X101.here hx rfl (hb hby d1_44) ?_
      show Steps p.tables e below (T101.setTop (mkF m 45 #[.val (.ref a1), .val (.ref a2), .val (.int (1 : Int32)), .val (.int ((0 : Int32) + (1 : Int32)))] [(.int (ixx (2 : Fin 3))), (.ref a2), (.ref a1)])) _
      refine XS.iloadN X101.here hx rfl (hb hby d1_45) rfl ?_
      show Steps p.tables e below (T101.setTop (mkF m 46 #[.val (.ref a1), .val (.ref a2), .val (.int (1 : Int32)), .val (.int ((0 : Int32) + (1 : Int32)))] [(.int (ixx (1 : Fin 3))), (.int (ixx (2 : Fin 3))), (.ref a2), (.ref a1)])) _
      refine st102 _ ?_
      exact kt
    by_cases hc49 : (comF cq tq (2 : Fin 3) (1 : Fin 3)) = true
    · refine Gl.fin X102 (v := some (.int (((0 : Int32) + (1 : Int32)) + (1 : Int32)))) (fun h => by rw [Bd.returns] at h; cases h) Bd.notSynchronized ?_ e102 (by decide) (by decide) (fun fs hr => ?_)
      · exact ⟨congrArg (fun z => some (Value.int z)) (by simp only [rkF, hc13, hc49, if_true, if_false, eq_self]; first | done | decide), N102, rfl⟩
      · show Steps p.tables e below (T102.setTop (mkF m 49 #[.val (.ref a1), .val (.ref a2), .val (.int (1 : Int32)), .val (.int ((0 : Int32) + (1 : Int32)))] [(.int (b2i (comF cq tq (2 : Fin 3) (1 : Fin 3))))])) _
        refine XS.ifNo X102.here hx rfl (hb hby d1_49) rfl (own_nbf (b0_eq _) hc49) ?_
        show Steps p.tables e below (T102.setTop (mkF m 52 #[.val (.ref a1), .val (.ref a2), .val (.int (1 : Int32)), .val (.int ((0 : Int32) + (1 : Int32)))] [])) _
        refine XS.iinc X102.here hx rfl (hb hby d1_52) rfl (l' := #[.val (.ref a1), .val (.ref a2), .val (.int (1 : Int32)), .val (.int (((0 : Int32) + (1 : Int32)) + (1 : Int32)))]) rfl ?_
        show Steps p.tables e below (T102.setTop (mkF m 55 #[.val (.ref a1), .val (.ref a2), .val (.int (1 : Int32)), .val (.int (((0 : Int32) + (1 : Int32)) + (1 : Int32)))] [])) _
        refine XS.iloadN X102.here hx rfl (hb hby d1_55) rfl ?_
        show Steps p.tables e below (T102.setTop (mkF m 56 #[.val (.ref a1), .val (.ref a2), .val (.int (1 : Int32)), .val (.int (((0 : Int32) + (1 : Int32)) + (1 : Int32)))] [(.int (((0 : Int32) + (1 : Int32)) + (1 : Int32)))])) _
        exact own_retI X102 hx Bd.returns (hb hby d1_56) hr
    · refine Gl.fin X102 (v := some (.int ((0 : Int32) + (1 : Int32)))) (fun h => by rw [Bd.returns] at h; cases h) Bd.notSynchronized ?_ e102 (by decide) (by decide) (fun fs hr => ?_)
      · exact ⟨congrArg (fun z => some (Value.int z)) (by simp only [rkF, hc13, hc49, if_true, if_false, eq_self]; first | done | decide), N102, rfl⟩
      · show Steps p.tables e below (T102.setTop (mkF m 49 #[.val (.ref a1), .val (.ref a2), .val (.int (1 : Int32)), .val (.int ((0 : Int32) + (1 : Int32)))] [(.int (b2i (comF cq tq (2 : Fin 3) (1 : Fin 3))))])) _
        refine XS.ifYes X102.here hx rfl (pc0 := 49) (pc' := 55) rfl (hb hby d1_49) rfl (own_nbt (b0_eq _) (Bool.eq_false_iff.mpr hc49)) (by decide) (by decide) ?_
        show Steps p.tables e below (T102.setTop (mkF m 55 #[.val (.ref a1), .val (.ref a2), .val (.int (1 : Int32)), .val (.int ((0 : Int32) + (1 : Int32)))] [])) _
        refine XS.iloadN X102.here hx rfl (hb hby d1_55) rfl ?_
        show Steps p.tables e below (T102.setTop (mkF m 56 #[.val (.ref a1), .val (.ref a2), .val (.int (1 : Int32)), .val (.int ((0 : Int32) + (1 : Int32)))] [(.int ((0 : Int32) + (1 : Int32)))])) _
        exact own_retI X102 hx Bd.returns (hb hby d1_56) hr
  · obtain ⟨v103, T103, L103, X103, q103, st103⟩ := own_callS X101 hx hZ (y := (⟨"com/example/tenrec/tenrec/pool/IdleByLastCompletionRemovePinLaw", "comes", "([Z[III)Z"⟩ : MethodName)) hown (hw _ (List.mem_of_getElem? (i := 7) rfl)) (hw _ (List.mem_of_getElem? (i := 8) rfl)) (hw _ (List.mem_of_getElem? (i := 5) rfl)) (hw _ (List.mem_of_getElem? (i := 9) rfl)) (by decide) (hM := (rm2 l Z a0 hw [] a1 a2 (2 : Fin 3) (1 : Fin 3) cq tq h0 n0 Z0 G_1 G_2)) (by decide) (by decide) (by decide) (by decide) e101 (argsL := [(.ref a1), (.ref a2), (.int (ixx (2 : Fin 3))), (.int (ixx (1 : Fin 3)))]) (rest := []) (Ls := #[.val (.ref a1), .val (.ref a2), .val (.int (1 : Int32)), .val (.int (0 : Int32))]) (by rw [hml]; rfl) (lenOf pd___Z_III_Z rfl) (W := 0) (Nat.le_of_eq rfl) (hb hby d1_46)
    obtain ⟨rfl, N103q, e103⟩ := q103
    have N103 := Fr.app N101 N103q
    refine Gl.pre (S' := T103.setTop (mkF m 49 #[.val (.ref a1), .val (.ref a2), .val (.int (1 : Int32)), .val (.int (0 : Int32))] [(.int (b2i (comF cq tq (2 : Fin 3) (1 : Fin 3))))])) (fun t kt => ?_) ?_
    · show Steps p.tables e below (T101.setTop (mkF m 13 #[.val (.ref a1), .val (.ref a2), .val (.int (1 : Int32)), .val (.int (0 : Int32))] [(.int (b2i (comF cq tq (0 : Fin 3) (1 : Fin 3))))])) _
      refine XS.ifYes X101.here hx rfl (pc0 := 13) (pc' := 19) rfl (hb hby d1_13) rfl (own_nbt (b0_eq _) (Bool.eq_false_iff.mpr hc13)) (by decide) (by decide) ?_
      show Steps p.tables e below (T101.setTop (mkF m 19 #[.val (.ref a1), .val (.ref a2), .val (.int (1 : Int32)), .val (.int (0 : Int32))] [])) _
      refine XS.iloadN X101.here hx rfl (hb hby d1_19) rfl ?_
      show Steps p.tables e below (T101.setTop (mkF m 20 #[.val (.ref a1), .val (.ref a2), .val (.int (1 : Int32)), .val (.int (0 : Int32))] [(.int (1 : Int32))])) _
      refine XS.iconst X101.here hx rfl (hb hby d1_20) ?_
      show Steps p.tables e below (T101.setTop (mkF m 21 #[.val (.ref a1), .val (.ref a2), .val (.int (1 : Int32)), .val (.int (0 : Int32))] [(.int (1 : Int32)), (.int (1 : Int32))])) _
      refine XS.icmpYes X101.here hx rfl (pc0 := 21) (pc' := 37) rfl (hb hby d1_21) rfl (own_t (ic_eq _ _) (by decide)) (by decide) (by decide) ?_
      show Steps p.tables e below (T101.setTop (mkF m 37 #[.val (.ref a1), .val (.ref a2), .val (.int (1 : Int32)), .val (.int (0 : Int32))] [])) _
      refine XS.iloadN X101.here hx rfl (hb hby d1_37) rfl ?_
      show Steps p.tables e below (T101.setTop (mkF m 38 #[.val (.ref a1), .val (.ref a2), .val (.int (1 : Int32)), .val (.int (0 : Int32))] [(.int (1 : Int32))])) _
      refine XS.iconst X101.here hx rfl (hb hby d1_38) ?_
      show Steps p.tables e below (T101.setTop (mkF m 39 #[.val (.ref a1), .val (.ref a2), .val (.int (1 : Int32)), .val (.int (0 : Int32))] [(.int (2 : Int32)), (.int (1 : Int32))])) _
      refine XS.icmpNo X101.here hx rfl (hb hby d1_39) rfl (own_f (ic_eq _ _) (by decide)) ?_
      show Steps p.tables e below (T101.setTop (mkF m 42 #[.val (.ref a1), .val (.ref a2), .val (.int (1 : Int32)), .val (.int (0 : Int32))] [])) _
      refine XS.aloadN X101.here hx rfl (hb hby d1_42) rfl rfl ?_
      show Steps p.tables e below (T101.setTop (mkF m 43 #[.val (.ref a1), .val (.ref a2), .val (.int (1 : Int32)), .val (.int (0 : Int32))] [(.ref a1)])) _
      refine XS.aloadN X101.here hx rfl (hb hby d1_43) rfl rfl ?_
      show Steps p.tables e below (T101.setTop (mkF m 44 #[.val (.ref a1), .val (.ref a2), .val (.int (1 : Int32)), .val (.int (0 : Int32))] [(.ref a2), (.ref a1)])) _
      refine XS.iconst X101.here hx rfl (hb hby d1_44) ?_
      show Steps p.tables e below (T101.setTop (mkF m 45 #[.val (.ref a1), .val (.ref a2), .val (.int (1 : Int32)), .val (.int (0 : Int32))] [(.int (ixx (2 : Fin 3))), (.ref a2), (.ref a1)])) _
      refine XS.iloadN X101.here hx rfl (hb hby d1_45) rfl ?_
      show Steps p.tables e below (T101.setTop (mkF m 46 #[.val (.ref a1), .val (.ref a2), .val (.int (1 : Int32)), .val (.int (0 : Int32))] [(.int (ixx (1 : Fin 3))), (.int (ixx (2 : Fin 3))), (.ref a2), (.ref a1)])) _
      refine st103 _ ?_
      exact kt
    by_cases hc49 : (comF cq tq (2 : Fin 3) (1 : Fin 3)) = true
    · refine Gl.fin X103 (v := some (.int ((0 : Int32) + (1 : Int32)))) (fun h => by rw [Bd.returns] at h; cases h) Bd.notSynchronized ?_ e103 (by decide) (by decide) (fun fs hr => ?_)
      · exact ⟨congrArg (fun z => some (Value.int z)) (by simp only [rkF, hc13, hc49, if_true, if_false, eq_self]; first | done | decide), N103, rfl⟩
      · show Steps p.tables e below (T103.setTop (mkF m 49 #[.val (.ref a1), .val (.ref a2), .val (.int (1 : Int32)), .val (.int (0 : Int32))] [(.int (b2i (comF cq tq (2 : Fin 3) (1 : Fin 3))))])) _
        refine XS.ifNo X103.here hx rfl (hb hby d1_49) rfl (own_nbf (b0_eq _) hc49) ?_
        show Steps p.tables e below (T103.setTop (mkF m 52 #[.val (.ref a1), .val (.ref a2), .val (.int (1 : Int32)), .val (.int (0 : Int32))] [])) _
        refine XS.iinc X103.here hx rfl (hb hby d1_52) rfl (l' := #[.val (.ref a1), .val (.ref a2), .val (.int (1 : Int32)), .val (.int ((0 : Int32) + (1 : Int32)))]) rfl ?_
        show Steps p.tables e below (T103.setTop (mkF m 55 #[.val (.ref a1), .val (.ref a2), .val (.int (1 : Int32)), .val (.int ((0 : Int32) + (1 : Int32)))] [])) _
        refine XS.iloadN X103.here hx rfl (hb hby d1_55) rfl ?_
        show Steps p.tables e below (T103.setTop (mkF m 56 #[.val (.ref a1), .val (.ref a2), .val (.int (1 : Int32)), .val (.int ((0 : Int32) + (1 : Int32)))] [(.int ((0 : Int32) + (1 : Int32)))])) _
        exact own_retI X103 hx Bd.returns (hb hby d1_56) hr
    · refine Gl.fin X103 (v := some (.int (0 : Int32))) (fun h => by rw [Bd.returns] at h; cases h) Bd.notSynchronized ?_ e103 (by decide) (by decide) (fun fs hr => ?_)
      · exact ⟨congrArg (fun z => some (Value.int z)) (by simp only [rkF, hc13, hc49, if_true, if_false, eq_self]; first | done | decide), N103, rfl⟩
      · show Steps p.tables e below (T103.setTop (mkF m 49 #[.val (.ref a1), .val (.ref a2), .val (.int (1 : Int32)), .val (.int (0 : Int32))] [(.int (b2i (comF cq tq (2 : Fin 3) (1 : Fin 3))))])) _
        refine XS.ifYes X103.here hx rfl (pc0 := 49) (pc' := 55) rfl (hb hby d1_49) rfl (own_nbt (b0_eq _) (Bool.eq_false_iff.mpr hc49)) (by decide) (by decide) ?_
        show Steps p.tables e below (T103.setTop (mkF m 55 #[.val (.ref a1), .val (.ref a2), .val (.int (1 : Int32)), .val (.int (0 : Int32))] [])) _
        refine XS.iloadN X103.here hx rfl (hb hby d1_55) rfl ?_
        show Steps p.tables e below (T103.setTop (mkF m 56 #[.val (.ref a1), .val (.ref a2), .val (.int (1 : Int32)), .val (.int (0 : Int32))] [(.int (0 : Int32))])) _
        exact own_retI X103 hx Bd.returns (hb hby d1_56) hr
theorem ef_rm1_2 (m : MethodId) (x0 : Addr) (x1 : Addr) (x2 : Int32) : entryFrame m #[(.ref x0), (.ref x1), (.int x2)] 4 = mkF m 0 #[.val (.ref x0), .val (.ref x1), .val (.int x2), .unset] [] := by first | (simp [entryFrame, mkF, argsToLocals, Value.category]; done) | rfl
def Q1_2 (Z : State) (a1 : Addr) (a2 : Addr) (cq : Fin 3 → Bool) (tq : Fin 3 → Fin 6) (h0 : Heap) (n0 : Nat) (v : Option Value) (h : Heap) (L : List Loc) : Prop := v = some (.int (ixx (rkF cq tq (2 : Fin 3)))) ∧ Fr n0 L ∧ h = h0
set_option maxRecDepth 65536 in
set_option maxHeartbeats 40000000 in
theorem rm1_2 (l : Launch) (Z : State) (a0 : Array Value) (hw : ∀ d ∈ tables_1, d.before a0 Z = true) (ws : List Jvm.Cond) (a1 : Addr) (a2 : Addr) (cq : Fin 3 → Bool) (tq : Fin 3 → Fin 6) (h0 : Heap) (n0 : Nat) (Z0 : n0 ≤ h0.size) (G_1 : ArG Z h0 a1 .boolean (fun j => .int (b2i (cq j)))) (G_2 : ArG Z h0 a2 .int (fun j => .int (tii (tq j)))) :
    OMet l Z (⟨"com/example/tenrec/tenrec/pool/IdleByLastCompletionRemovePinLaw", "rank", "([Z[II)I"⟩ : MethodName) method_3_code 4 (some .int) ws ({ frames := 1, cells := 0, slots := 0, locals := 15 } : Room) #[(.ref a1), (.ref a2), (.int (2 : Int32))] h0 (Q1_2 Z a1 a2 cq tq h0 n0) := by
  refine own_body (plainFor_of_name pn_com_example_tenrec_tenrec_pool_IdleByLastCompletionRemovePinLaw) ?_
  intro p e s m below meth c s₁ Bd hml0 hZ e0
  have hx := Bd.exec
  have hby := Bd.bytes
  have hml : c.maxLocals = 4 := hml0
  have hown : s.vm.findClass "com/example/tenrec/tenrec/pool/IdleByLastCompletionRemovePinLaw" = some m.cls := findClass_of_methodNamed Bd.named
  have hnm := (name_of_methodNamed Bd.named Bd.method).1
  have X0 : Stand p l e ({ frames := 1, cells := 0, slots := 0, locals := 15 } : Room) s m #[(.ref a1), (.ref a2), (.int (2 : Int32))] below meth c s₁ [] 0 0 := Stand.of_body Bd
  have N0 := Fr.nil n0
  have K0 : Keep h0 h0 [] := Keep.refl _ _
  rw [ef_rm1_2]
  obtain ⟨v101, T101, L101, X101, q101, st101⟩ := own_callS X0 hx hZ (y := (⟨"com/example/tenrec/tenrec/pool/IdleByLastCompletionRemovePinLaw", "comes", "([Z[III)Z"⟩ : MethodName)) hown (hw _ (List.mem_of_getElem? (i := 7) rfl)) (hw _ (List.mem_of_getElem? (i := 8) rfl)) (hw _ (List.mem_of_getElem? (i := 5) rfl)) (hw _ (List.mem_of_getElem? (i := 9) rfl)) (by decide) (hM := (rm2 l Z a0 hw [] a1 a2 (0 : Fin 3) (2 : Fin 3) cq tq h0 n0 Z0 G_1 G_2)) (by decide) (by decide) (by decide) (by decide) e0 (argsL := [(.ref a1), (.ref a2), (.int (ixx (0 : Fin 3))), (.int (ixx (2 : Fin 3)))]) (rest := []) (Ls := #[.val (.ref a1), .val (.ref a2), .val (.int (2 : Int32)), .val (.int (0 : Int32))]) (by rw [hml]; rfl) (lenOf pd___Z_III_Z rfl) (W := 0) (Nat.le_of_eq rfl) (hb hby d1_10)
  obtain ⟨rfl, N101q, e101⟩ := q101
  have N101 := Fr.app N0 N101q
  refine Gl.pre (S' := T101.setTop (mkF m 13 #[.val (.ref a1), .val (.ref a2), .val (.int (2 : Int32)), .val (.int (0 : Int32))] [(.int (b2i (comF cq tq (0 : Fin 3) (2 : Fin 3))))])) (fun t kt => ?_) ?_
  · show Steps p.tables e below (s₁.setTop (mkF m 0 #[.val (.ref a1), .val (.ref a2), .val (.int (2 : Int32)), .unset] [])) _
    refine XS.iconst X0.here hx rfl (hb hby d1_0) ?_
    show Steps p.tables e below (s₁.setTop (mkF m 1 #[.val (.ref a1), .val (.ref a2), .val (.int (2 : Int32)), .unset] [(.int (0 : Int32))])) _
    refine XS.istoreN X0.here hx rfl (hb hby d1_1) rfl (l' := #[.val (.ref a1), .val (.ref a2), .val (.int (2 : Int32)), .val (.int (0 : Int32))]) rfl ?_
    show Steps p.tables e below (s₁.setTop (mkF m 2 #[.val (.ref a1), .val (.ref a2), .val (.int (2 : Int32)), .val (.int (0 : Int32))] [])) _
    refine XS.iloadN X0.here hx rfl (hb hby d1_2) rfl ?_
    show Steps p.tables e below (s₁.setTop (mkF m 3 #[.val (.ref a1), .val (.ref a2), .val (.int (2 : Int32)), .val (.int (0 : Int32))] [(.int (2 : Int32))])) _
    refine XS.ifNo X0.here hx rfl (hb hby d1_3) rfl (own_f (i0_eq _) (by decide)) ?_
    show Steps p.tables e below (s₁.setTop (mkF m 6 #[.val (.ref a1), .val (.ref a2), .val (.int (2 : Int32)), .val (.int (0 : Int32))] [])) _
    refine XS.aloadN X0.here hx rfl (hb hby d1_6) rfl rfl ?_
    show Steps p.tables e below (s₁.setTop (mkF m 7 #[.val (.ref a1), .val (.ref a2), .val (.int (2 : Int32)), .val (.int (0 : Int32))] [(.ref a1)])) _
    refine XS.aloadN X0.here hx rfl (hb hby d1_7) rfl rfl ?_
    show Steps p.tables e below (s₁.setTop (mkF m 8 #[.val (.ref a1), .val (.ref a2), .val (.int (2 : Int32)), .val (.int (0 : Int32))] [(.ref a2), (.ref a1)])) _
    refine XS.iconst X0.here hx rfl (hb hby d1_8) ?_
    show Steps p.tables e below (s₁.setTop (mkF m 9 #[.val (.ref a1), .val (.ref a2), .val (.int (2 : Int32)), .val (.int (0 : Int32))] [(.int (ixx (0 : Fin 3))), (.ref a2), (.ref a1)])) _
    refine XS.iloadN X0.here hx rfl (hb hby d1_9) rfl ?_
    show Steps p.tables e below (s₁.setTop (mkF m 10 #[.val (.ref a1), .val (.ref a2), .val (.int (2 : Int32)), .val (.int (0 : Int32))] [(.int (ixx (2 : Fin 3))), (.int (ixx (0 : Fin 3))), (.ref a2), (.ref a1)])) _
    refine st101 _ ?_
    exact kt
  by_cases hc13 : (comF cq tq (0 : Fin 3) (2 : Fin 3)) = true
  · obtain ⟨v102, T102, L102, X102, q102, st102⟩ := own_callS X101 hx hZ (y := (⟨"com/example/tenrec/tenrec/pool/IdleByLastCompletionRemovePinLaw", "comes", "([Z[III)Z"⟩ : MethodName)) hown (hw _ (List.mem_of_getElem? (i := 7) rfl)) (hw _ (List.mem_of_getElem? (i := 8) rfl)) (hw _ (List.mem_of_getElem? (i := 5) rfl)) (hw _ (List.mem_of_getElem? (i := 9) rfl)) (by decide) (hM := (rm2 l Z a0 hw [] a1 a2 (1 : Fin 3) (2 : Fin 3) cq tq h0 n0 Z0 G_1 G_2)) (by decide) (by decide) (by decide) (by decide) e101 (argsL := [(.ref a1), (.ref a2), (.int (ixx (1 : Fin 3))), (.int (ixx (2 : Fin 3)))]) (rest := []) (Ls := #[.val (.ref a1), .val (.ref a2), .val (.int (2 : Int32)), .val (.int ((0 : Int32) + (1 : Int32)))]) (by rw [hml]; rfl) (lenOf pd___Z_III_Z rfl) (W := 0) (Nat.le_of_eq rfl) (hb hby d1_28)
    obtain ⟨rfl, N102q, e102⟩ := q102
    have N102 := Fr.app N101 N102q
    refine Gl.pre (S' := T102.setTop (mkF m 31 #[.val (.ref a1), .val (.ref a2), .val (.int (2 : Int32)), .val (.int ((0 : Int32) + (1 : Int32)))] [(.int (b2i (comF cq tq (1 : Fin 3) (2 : Fin 3))))])) (fun t kt => ?_) ?_
    · show Steps p.tables e below (T101.setTop (mkF m 13 #[.val (.ref a1), .val (.ref a2), .val (.int (2 : Int32)), .val (.int (0 : Int32))] [(.int (b2i (comF cq tq (0 : Fin 3) (2 : Fin 3))))])) _
      refine XS.ifNo X101.here hx rfl (hb hby d1_13) rfl (own_nbf (b0_eq _) hc13) ?_
      show Steps p.tables e below (T101.setTop (mkF m 16 #[.val (.ref a1), .val (.ref a2), .val (.int (2 : Int32)), .val (.int (0 : Int32))] [])) _
      refine XS.iinc X101.here hx rfl (hb hby d1_16) rfl (l' := #[.val (.ref a1), .val (.ref a2), .val (.int (2 : Int32)), .val (.int ((0 : Int32) + (1 : Int32)))]) rfl ?_
      show Steps p.tables e below (T101.setTop (mkF m 19 #[.val (.ref a1), .val (.ref a2), .val (.int (2 : Int32)), .val (.int ((0 : Int32) + (1 : Int32)))] [])) _
      refine XS.iloadN X101.here hx rfl (hb hby d1_19) rfl ?_
      show Steps p.tables e below (T101.setTop (mkF m 20 #[.val (.ref a1), .val (.ref a2), .val (.int (2 : Int32)), .val (.int ((0 : Int32) + (1 : Int32)))] [(.int (2 : Int32))])) _
      refine XS.iconst X101.here hx rfl (hb hby d1_20) ?_
      show Steps p.tables e below (T101.setTop (mkF m 21 #[.val (.ref a1), .val (.ref a2), .val (.int (2 : Int32)), .val (.int ((0 : Int32) + (1 : Int32)))] [(.int (1 : Int32)), (.int (2 : Int32))])) _
      refine XS.icmpNo X101.here hx rfl (hb hby d1_21) rfl (own_f (ic_eq _ _) (by decide)) ?_
      show Steps p.tables e below (T101.setTop (mkF m 24 #[.val (.ref a1), .val (.ref a2), .val (.int (2 : Int32)), .val (.int ((0 : Int32) + (1 : Int32)))] [])) _
      refine XS.aloadN X101.here hx rfl (hb hby d1_24) rfl rfl ?_
      show Steps p.tables e below (T101.setTop (mkF m 25 #[.val (.ref a1), .val (.ref a2), .val (.int (2 : Int32)), .val (.int ((0 : Int32) + (1 : Int32)))] [(.ref a1)])) _
      refine XS.aloadN X101.here hx rfl (hb hby d1_25) rfl rfl ?_
      show Steps p.tables e below (T101.setTop (mkF m 26 #[.val (.ref a1), .val (.ref a2), .val (.int (2 : Int32)), .val (.int ((0 : Int32) + (1 : Int32)))] [(.ref a2), (.ref a1)])) _
      refine XS.iconst X101.here hx rfl (hb hby d1_26) ?_
      show Steps p.tables e below (T101.setTop (mkF m 27 #[.val (.ref a1), .val (.ref a2), .val (.int (2 : Int32)), .val (.int ((0 : Int32) + (1 : Int32)))] [(.int (ixx (1 : Fin 3))), (.ref a2), (.ref a1)])) _
      refine XS.iloadN X101.here hx rfl (hb hby d1_27) rfl ?_
      show Steps p.tables e below (T101.setTop (mkF m 28 #[.val (.ref a1), .val (.ref a2), .val (.int (2 : Int32)), .val (.int ((0 : Int32) + (1 : Int32)))] [(.int (ixx (2 : Fin 3))), (.int (ixx (1 : Fin 3))), (.ref a2), (.ref a1)])) _
      refine st102 _ ?_
      exact kt
    by_cases hc31 : (comF cq tq (1 : Fin 3) (2 : Fin 3)) = true
    · refine Gl.fin X102 (v := some (.int (((0 : Int32) + (1 : Int32)) + (1 : Int32)))) (fun h => by rw [Bd.returns] at h; cases h) Bd.notSynchronized ?_ e102 (by decide) (by decide) (fun fs hr => ?_)
      · exact ⟨congrArg (fun z => some (Value.int z)) (by simp only [rkF, hc13, hc31, if_true, if_false, eq_self]; first | done | decide), N102, rfl⟩
      · show Steps p.tables e below (T102.setTop (mkF m 31 #[.val (.ref a1), .val (.ref a2), .val (.int (2 : Int32)), .val (.int ((0 : Int32) + (1 : Int32)))] [(.int (b2i (comF cq tq (1 : Fin 3) (2 : Fin 3))))])) _
        refine XS.ifNo X102.here hx rfl (hb hby d1_31) rfl (own_nbf (b0_eq _) hc31) ?_
        show Steps p.tables e below (T102.setTop (mkF m 34 #[.val (.ref a1), .val (.ref a2), .val (.int (2 : Int32)), .val (.int ((0 : Int32) + (1 : Int32)))] [])) _
        refine XS.iinc X102.here hx rfl (hb hby d1_34) rfl (l' := #[.val (.ref a1), .val (.ref a2), .val (.int (2 : Int32)), .val (.int (((0 : Int32) + (1 : Int32)) + (1 : Int32)))]) rfl ?_
        show Steps p.tables e below (T102.setTop (mkF m 37 #[.val (.ref a1), .val (.ref a2), .val (.int (2 : Int32)), .val (.int (((0 : Int32) + (1 : Int32)) + (1 : Int32)))] [])) _
        refine XS.iloadN X102.here hx rfl (hb hby d1_37) rfl ?_
        show Steps p.tables e below (T102.setTop (mkF m 38 #[.val (.ref a1), .val (.ref a2), .val (.int (2 : Int32)), .val (.int (((0 : Int32) + (1 : Int32)) + (1 : Int32)))] [(.int (2 : Int32))])) _
        refine XS.iconst X102.here hx rfl (hb hby d1_38) ?_
        show Steps p.tables e below (T102.setTop (mkF m 39 #[.val (.ref a1), .val (.ref a2), .val (.int (2 : Int32)), .val (.int (((0 : Int32) + (1 : Int32)) + (1 : Int32)))] [(.int (2 : Int32)), (.int (2 : Int32))])) _
        refine XS.icmpYes X102.here hx rfl (pc0 := 39) (pc' := 55) rfl (hb hby d1_39) rfl (own_t (ic_eq _ _) (by decide)) (by decide) (by decide) ?_
        show Steps p.tables e below (T102.setTop (mkF m 55 #[.val (.ref a1), .val (.ref a2), .val (.int (2 : Int32)), .val (.int (((0 : Int32) + (1 : Int32)) + (1 : Int32)))] [])) _
        refine XS.iloadN X102.here hx rfl (hb hby d1_55) rfl ?_
        show Steps p.tables e below (T102.setTop (mkF m 56 #[.val (.ref a1), .val (.ref a2), .val (.int (2 : Int32)), .val (.int (((0 : Int32) + (1 : Int32)) + (1 : Int32)))] [(.int (((0 : Int32) + (1 : Int32)) + (1 : Int32)))])) _
        exact own_retI X102 hx Bd.returns (hb hby d1_56) hr
    · refine Gl.fin X102 (v := some (.int ((0 : Int32) + (1 : Int32)))) (fun h => by rw [Bd.returns] at h; cases h) Bd.notSynchronized ?_ e102 (by decide) (by decide) (fun fs hr => ?_)
      · exact ⟨congrArg (fun z => some (Value.int z)) (by simp only [rkF, hc13, hc31, if_true, if_false, eq_self]; first | done | decide), N102, rfl⟩
      · show Steps p.tables e below (T102.setTop (mkF m 31 #[.val (.ref a1), .val (.ref a2), .val (.int (2 : Int32)), .val (.int ((0 : Int32) + (1 : Int32)))] [(.int (b2i (comF cq tq (1 : Fin 3) (2 : Fin 3))))])) _
        refine XS.ifYes X102.here hx rfl (pc0 := 31) (pc' := 37) rfl (hb hby d1_31) rfl (own_nbt (b0_eq _) (Bool.eq_false_iff.mpr hc31)) (by decide) (by decide) ?_
        show Steps p.tables e below (T102.setTop (mkF m 37 #[.val (.ref a1), .val (.ref a2), .val (.int (2 : Int32)), .val (.int ((0 : Int32) + (1 : Int32)))] [])) _
        refine XS.iloadN X102.here hx rfl (hb hby d1_37) rfl ?_
        show Steps p.tables e below (T102.setTop (mkF m 38 #[.val (.ref a1), .val (.ref a2), .val (.int (2 : Int32)), .val (.int ((0 : Int32) + (1 : Int32)))] [(.int (2 : Int32))])) _
        refine XS.iconst X102.here hx rfl (hb hby d1_38) ?_
        show Steps p.tables e below (T102.setTop (mkF m 39 #[.val (.ref a1), .val (.ref a2), .val (.int (2 : Int32)), .val (.int ((0 : Int32) + (1 : Int32)))] [(.int (2 : Int32)), (.int (2 : Int32))])) _
        refine XS.icmpYes X102.here hx rfl (pc0 := 39) (pc' := 55) rfl (hb hby d1_39) rfl (own_t (ic_eq _ _) (by decide)) (by decide) (by decide) ?_
        show Steps p.tables e below (T102.setTop (mkF m 55 #[.val (.ref a1), .val (.ref a2), .val (.int (2 : Int32)), .val (.int ((0 : Int32) + (1 : Int32)))] [])) _
        refine XS.iloadN X102.here hx rfl (hb hby d1_55) rfl ?_
        show Steps p.tables e below (T102.setTop (mkF m 56 #[.val (.ref a1), .val (.ref a2), .val (.int (2 : Int32)), .val (.int ((0 : Int32) + (1 : Int32)))] [(.int ((0 : Int32) + (1 : Int32)))])) _
        exact own_retI X102 hx Bd.returns (hb hby d1_56) hr
  · obtain ⟨v103, T103, L103, X103, q103, st103⟩ := own_callS X101 hx hZ (y := (⟨"com/example/tenrec/tenrec/pool/IdleByLastCompletionRemovePinLaw", "comes", "([Z[III)Z"⟩ : MethodName)) hown (hw _ (List.mem_of_getElem? (i := 7) rfl)) (hw _ (List.mem_of_getElem? (i := 8) rfl)) (hw _ (List.mem_of_getElem? (i := 5) rfl)) (hw _ (List.mem_of_getElem? (i := 9) rfl)) (by decide) (hM := (rm2 l Z a0 hw [] a1 a2 (1 : Fin 3) (2 : Fin 3) cq tq h0 n0 Z0 G_1 G_2)) (by decide) (by decide) (by decide) (by decide) e101 (argsL := [(.ref a1), (.ref a2), (.int (ixx (1 : Fin 3))), (.int (ixx (2 : Fin 3)))]) (rest := []) (Ls := #[.val (.ref a1), .val (.ref a2), .val (.int (2 : Int32)), .val (.int (0 : Int32))]) (by rw [hml]; rfl) (lenOf pd___Z_III_Z rfl) (W := 0) (Nat.le_of_eq rfl) (hb hby d1_28)
    obtain ⟨rfl, N103q, e103⟩ := q103
    have N103 := Fr.app N101 N103q
    refine Gl.pre (S' := T103.setTop (mkF m 31 #[.val (.ref a1), .val (.ref a2), .val (.int (2 : Int32)), .val (.int (0 : Int32))] [(.int (b2i (comF cq tq (1 : Fin 3) (2 : Fin 3))))])) (fun t kt => ?_) ?_
    · show Steps p.tables e below (T101.setTop (mkF m 13 #[.val (.ref a1), .val (.ref a2), .val (.int (2 : Int32)), .val (.int (0 : Int32))] [(.int (b2i (comF cq tq (0 : Fin 3) (2 : Fin 3))))])) _
      refine XS.ifYes X101.here hx rfl (pc0 := 13) (pc' := 19) rfl (hb hby d1_13) rfl (own_nbt (b0_eq _) (Bool.eq_false_iff.mpr hc13)) (by decide) (by decide) ?_
      show Steps p.tables e below (T101.setTop (mkF m 19 #[.val (.ref a1), .val (.ref a2), .val (.int (2 : Int32)), .val (.int (0 : Int32))] [])) _
      refine XS.iloadN X101.here hx rfl (hb hby d1_19) rfl ?_
      show Steps p.tables e below (T101.setTop (mkF m 20 #[.val (.ref a1), .val (.ref a2), .val (.int (2 : Int32)), .val (.int (0 : Int32))] [(.int (2 : Int32))])) _
      refine XS.iconst X101.here hx rfl (hb hby d1_20) ?_
      show Steps p.tables e below (T101.setTop (mkF m 21 #[.val (.ref a1), .val (.ref a2), .val (.int (2 : Int32)), .val (.int (0 : Int32))] [(.int (1 : Int32)), (.int (2 : Int32))])) _
      refine XS.icmpNo X101.here hx rfl (hb hby d1_21) rfl (own_f (ic_eq _ _) (by decide)) ?_
      show Steps p.tables e below (T101.setTop (mkF m 24 #[.val (.ref a1), .val (.ref a2), .val (.int (2 : Int32)), .val (.int (0 : Int32))] [])) _
      refine XS.aloadN X101.here hx rfl (hb hby d1_24) rfl rfl ?_
      show Steps p.tables e below (T101.setTop (mkF m 25 #[.val (.ref a1), .val (.ref a2), .val (.int (2 : Int32)), .val (.int (0 : Int32))] [(.ref a1)])) _
      refine XS.aloadN X101.here hx rfl (hb hby d1_25) rfl rfl ?_
      show Steps p.tables e below (T101.setTop (mkF m 26 #[.val (.ref a1), .val (.ref a2), .val (.int (2 : Int32)), .val (.int (0 : Int32))] [(.ref a2), (.ref a1)])) _
      refine XS.iconst X101.here hx rfl (hb hby d1_26) ?_
      show Steps p.tables e below (T101.setTop (mkF m 27 #[.val (.ref a1), .val (.ref a2), .val (.int (2 : Int32)), .val (.int (0 : Int32))] [(.int (ixx (1 : Fin 3))), (.ref a2), (.ref a1)])) _
      refine XS.iloadN X101.here hx rfl (hb hby d1_27) rfl ?_
      show Steps p.tables e below (T101.setTop (mkF m 28 #[.val (.ref a1), .val (.ref a2), .val (.int (2 : Int32)), .val (.int (0 : Int32))] [(.int (ixx (2 : Fin 3))), (.int (ixx (1 : Fin 3))), (.ref a2), (.ref a1)])) _
      refine st103 _ ?_
      exact kt
    by_cases hc31 : (comF cq tq (1 : Fin 3) (2 : Fin 3)) = true
    · refine Gl.fin X103 (v := some (.int ((0 : Int32) + (1 : Int32)))) (fun h => by rw [Bd.returns] at h; cases h) Bd.notSynchronized ?_ e103 (by decide) (by decide) (fun fs hr => ?_)
      · exact ⟨congrArg (fun z => some (Value.int z)) (by simp only [rkF, hc13, hc31, if_true, if_false, eq_self]; first | done | decide), N103, rfl⟩
      · show Steps p.tables e below (T103.setTop (mkF m 31 #[.val (.ref a1), .val (.ref a2), .val (.int (2 : Int32)), .val (.int (0 : Int32))] [(.int (b2i (comF cq tq (1 : Fin 3) (2 : Fin 3))))])) _
        refine XS.ifNo X103.here hx rfl (hb hby d1_31) rfl (own_nbf (b0_eq _) hc31) ?_
        show Steps p.tables e below (T103.setTop (mkF m 34 #[.val (.ref a1), .val (.ref a2), .val (.int (2 : Int32)), .val (.int (0 : Int32))] [])) _
        refine XS.iinc X103.here hx rfl (hb hby d1_34) rfl (l' := #[.val (.ref a1), .val (.ref a2), .val (.int (2 : Int32)), .val (.int ((0 : Int32) + (1 : Int32)))]) rfl ?_
        show Steps p.tables e below (T103.setTop (mkF m 37 #[.val (.ref a1), .val (.ref a2), .val (.int (2 : Int32)), .val (.int ((0 : Int32) + (1 : Int32)))] [])) _
        refine XS.iloadN X103.here hx rfl (hb hby d1_37) rfl ?_
        show Steps p.tables e below (T103.setTop (mkF m 38 #[.val (.ref a1), .val (.ref a2), .val (.int (2 : Int32)), .val (.int ((0 : Int32) + (1 : Int32)))] [(.int (2 : Int32))])) _
        refine XS.iconst X103.here hx rfl (hb hby d1_38) ?_
        show Steps p.tables e below (T103.setTop (mkF m 39 #[.val (.ref a1), .val (.ref a2), .val (.int (2 : Int32)), .val (.int ((0 : Int32) + (1 : Int32)))] [(.int (2 : Int32)), (.int (2 : Int32))])) _
        refine XS.icmpYes X103.here hx rfl (pc0 := 39) (pc' := 55) rfl (hb hby d1_39) rfl (own_t (ic_eq _ _) (by decide)) (by decide) (by decide) ?_
        show Steps p.tables e below (T103.setTop (mkF m 55 #[.val (.ref a1), .val (.ref a2), .val (.int (2 : Int32)), .val (.int ((0 : Int32) + (1 : Int32)))] [])) _
        refine XS.iloadN X103.here hx rfl (hb hby d1_55) rfl ?_
        show Steps p.tables e below (T103.setTop (mkF m 56 #[.val (.ref a1), .val (.ref a2), .val (.int (2 : Int32)), .val (.int ((0 : Int32) + (1 : Int32)))] [(.int ((0 : Int32) + (1 : Int32)))])) _
        exact own_retI X103 hx Bd.returns (hb hby d1_56) hr
    · refine Gl.fin X103 (v := some (.int (0 : Int32))) (fun h => by rw [Bd.returns] at h; cases h) Bd.notSynchronized ?_ e103 (by decide) (by decide) (fun fs hr => ?_)
      · exact ⟨congrArg (fun z => some (Value.int z)) (by simp only [rkF, hc13, hc31, if_true, if_false, eq_self]; first | done | decide), N103, rfl⟩
      · show Steps p.tables e below (T103.setTop (mkF m 31 #[.val (.ref a1), .val (.ref a2), .val (.int (2 : Int32)), .val (.int (0 : Int32))] [(.int (b2i (comF cq tq (1 : Fin 3) (2 : Fin 3))))])) _
        refine XS.ifYes X103.here hx rfl (pc0 := 31) (pc' := 37) rfl (hb hby d1_31) rfl (own_nbt (b0_eq _) (Bool.eq_false_iff.mpr hc31)) (by decide) (by decide) ?_
        show Steps p.tables e below (T103.setTop (mkF m 37 #[.val (.ref a1), .val (.ref a2), .val (.int (2 : Int32)), .val (.int (0 : Int32))] [])) _
        refine XS.iloadN X103.here hx rfl (hb hby d1_37) rfl ?_
        show Steps p.tables e below (T103.setTop (mkF m 38 #[.val (.ref a1), .val (.ref a2), .val (.int (2 : Int32)), .val (.int (0 : Int32))] [(.int (2 : Int32))])) _
        refine XS.iconst X103.here hx rfl (hb hby d1_38) ?_
        show Steps p.tables e below (T103.setTop (mkF m 39 #[.val (.ref a1), .val (.ref a2), .val (.int (2 : Int32)), .val (.int (0 : Int32))] [(.int (2 : Int32)), (.int (2 : Int32))])) _
        refine XS.icmpYes X103.here hx rfl (pc0 := 39) (pc' := 55) rfl (hb hby d1_39) rfl (own_t (ic_eq _ _) (by decide)) (by decide) (by decide) ?_
        show Steps p.tables e below (T103.setTop (mkF m 55 #[.val (.ref a1), .val (.ref a2), .val (.int (2 : Int32)), .val (.int (0 : Int32))] [])) _
        refine XS.iloadN X103.here hx rfl (hb hby d1_55) rfl ?_
        show Steps p.tables e below (T103.setTop (mkF m 56 #[.val (.ref a1), .val (.ref a2), .val (.int (2 : Int32)), .val (.int (0 : Int32))] [(.int (0 : Int32))])) _
        exact own_retI X103 hx Bd.returns (hb hby d1_56) hr
theorem pn_java_util_Arrays : plainName "java/util/Arrays" = true := by first | (simp [plainName, overriddenIn]; done) | decide +kernel
theorem ef_rm5 (m : MethodId) (x0 : Addr) (x1 : UInt64) : entryFrame m #[(.ref x0), (.double x1)] 5 = mkF m 0 #[.val (.ref x0), .val (.double x1), .second, .unset, .unset] [] := by first | (simp [entryFrame, mkF, argsToLocals, Value.category]; done) | rfl
theorem d5_0 : decode jdk_65_method_113_code 0 = .ok (.iconst 0, 1) := by decide +kernel
theorem d5_1 : decode jdk_65_method_113_code 1 = .ok (.istore_n 3, 1) := by decide +kernel
theorem d5_2 : decode jdk_65_method_113_code 2 = .ok (.aload_n 0, 1) := by decide +kernel
theorem d5_3 : decode jdk_65_method_113_code 3 = .ok (.arraylength, 1) := by decide +kernel
theorem d5_4 : decode jdk_65_method_113_code 4 = .ok (.istore 4, 2) := by decide +kernel
theorem d5_6 : decode jdk_65_method_113_code 6 = .ok (.iload_n 3, 1) := by decide +kernel
theorem d5_7 : decode jdk_65_method_113_code 7 = .ok (.iload 4, 2) := by decide +kernel
theorem d5_9 : decode jdk_65_method_113_code 9 = .ok (.if_icmp .ge 13, 3) := by decide +kernel
theorem d5_12 : decode jdk_65_method_113_code 12 = .ok (.aload_n 0, 1) := by decide +kernel
theorem d5_13 : decode jdk_65_method_113_code 13 = .ok (.iload_n 3, 1) := by decide +kernel
theorem d5_14 : decode jdk_65_method_113_code 14 = .ok (.dload_n 1, 1) := by decide +kernel
theorem d5_15 : decode jdk_65_method_113_code 15 = .ok (.dastore, 1) := by decide +kernel
theorem d5_16 : decode jdk_65_method_113_code 16 = .ok (.iinc 3 1, 3) := by decide +kernel
theorem d5_19 : decode jdk_65_method_113_code 19 = .ok (.goto (-13), 3) := by decide +kernel
theorem d5_22 : decode jdk_65_method_113_code 22 = .ok (.return_, 1) := by decide +kernel
def Q5 (Z : State) (a1 : Addr) (q1 : UInt64) (k1 : ClassId) (h0 : Heap) (n0 : Nat) (v : Option Value) (h : Heap) (L : List Loc) : Prop := v = none ∧ Fr n0 L ∧ Keep h0 h [a1] ∧ ArG Z h a1 .double (fun _ => .double q1)
set_option maxRecDepth 65536 in
set_option maxHeartbeats 40000000 in
theorem rm5 (l : Launch) (Z : State) (a0 : Array Value) (hw : ∀ d ∈ tables_1, d.before a0 Z = true) (ws : List Jvm.Cond) (a1 : Addr) (q1 : UInt64) (k1 : ClassId) (h0 : Heap) (n0 : Nat) (Z0 : n0 ≤ h0.size) (g_a1 : n0 ≤ a1) (V_0 : Arv Z h0 a1 k1 .double 3 [(.double (0 : UInt64)), (.double (0 : UInt64)), (.double (0 : UInt64))] (.double (0 : UInt64))) :
    OMet l Z (⟨"java/util/Arrays", "fill", "([DD)V"⟩ : MethodName) jdk_65_method_113_code 5 none ws ({ frames := 0, cells := 0, slots := 0, locals := 0 } : Room) #[(.ref a1), (.double q1)] h0 (Q5 Z a1 q1 k1 h0 n0) := by
  refine own_body (plainFor_of_name pn_java_util_Arrays) ?_
  intro p e s m below meth c s₁ Bd hml0 hZ e0
  have hx := Bd.exec
  have hby := Bd.bytes
  have hml : c.maxLocals = 5 := hml0
  have hown : s.vm.findClass "java/util/Arrays" = some m.cls := findClass_of_methodNamed Bd.named
  have hnm := (name_of_methodNamed Bd.named Bd.method).1
  have X0 : Stand p l e ({ frames := 0, cells := 0, slots := 0, locals := 0 } : Room) s m #[(.ref a1), (.double q1)] below meth c s₁ [] 0 0 := Stand.of_body Bd
  have N0 := Fr.nil n0
  have K0 : Keep h0 h0 [a1] := Keep.refl _ _
  rw [ef_rm5]
  obtain ⟨cl101, Ar101, qa101, Sa101, Na101, Ha101, Ga101⟩ := id V_0
  obtain ⟨cl102, Ar102, qa102, Sa102, Na102, Ha102, Ga102⟩ := id V_0
  have hin102 : ¬ ((0 : Int32) < 0 ∨ cl102.slots.size ≤ ((0 : Int32)).toNatClampNeg) := inb_of Sa102 ⟨by decide, by decide⟩
  obtain ⟨T102, h102, X102, e102, W102, st102⟩ := stD X0 hx hZ e0 Ar102 (j := (0 : Int32)) hin102 (g := (mkF m 15 #[.val (.ref a1), .val (.double q1), .second, .val (.int (0 : Int32)), .val (.int (3 : Int32))] [(.double q1), (.int (0 : Int32)), (.ref a1)])) rfl rfl (hb hby d5_15)
  have V_a1_102 := Arv.set Ar102 qa102 Sa102 Na102 Ha102 Ga102 rfl W102 0 rfl (Nat.le_of_ble_eq_true rfl)
  have V102 : Arv Z h102 a1 k1 .double (3 : Int32) [(.double q1), (.double (0 : UInt64)), (.double (0 : UInt64))] (.double (0 : UInt64)) := V_a1_102
  have K102 : Keep h0 h102 [a1] := K0.wr W102 (Or.inl (List.mem_of_getElem? (i := 0) rfl))
  have N102 := Fr.snoc X102 N0 g_a1
  obtain ⟨cl103, Ar103, qa103, Sa103, Na103, Ha103, Ga103⟩ := id V102
  have hin103 : ¬ ((1 : Int32) < 0 ∨ cl103.slots.size ≤ ((1 : Int32)).toNatClampNeg) := inb_of Sa103 ⟨by decide, by decide⟩
  obtain ⟨T103, h103, X103, e103, W103, st103⟩ := stD X102 hx hZ e102 Ar103 (j := (1 : Int32)) hin103 (g := (mkF m 15 #[.val (.ref a1), .val (.double q1), .second, .val (.int (1 : Int32)), .val (.int (3 : Int32))] [(.double q1), (.int (1 : Int32)), (.ref a1)])) rfl rfl (hb hby d5_15)
  have V_a1_103 := Arv.set Ar103 qa103 Sa103 Na103 Ha103 Ga103 rfl W103 1 rfl (Nat.le_of_ble_eq_true rfl)
  have V103 : Arv Z h103 a1 k1 .double (3 : Int32) [(.double q1), (.double q1), (.double (0 : UInt64))] (.double (0 : UInt64)) := V_a1_103
  have K103 : Keep h0 h103 [a1] := K102.wr W103 (Or.inl (List.mem_of_getElem? (i := 0) rfl))
  have N103 := Fr.snoc X103 N102 g_a1
  obtain ⟨cl104, Ar104, qa104, Sa104, Na104, Ha104, Ga104⟩ := id V103
  have hin104 : ¬ ((2 : Int32) < 0 ∨ cl104.slots.size ≤ ((2 : Int32)).toNatClampNeg) := inb_of Sa104 ⟨by decide, by decide⟩
  obtain ⟨T104, h104, X104, e104, W104, st104⟩ := stD X103 hx hZ e103 Ar104 (j := (2 : Int32)) hin104 (g := (mkF m 15 #[.val (.ref a1), .val (.double q1), .second, .val (.int (2 : Int32)), .val (.int (3 : Int32))] [(.double q1), (.int (2 : Int32)), (.ref a1)])) rfl rfl (hb hby d5_15)
  have V_a1_104 := Arv.set Ar104 qa104 Sa104 Na104 Ha104 Ga104 rfl W104 2 rfl (Nat.le_of_ble_eq_true rfl)
  have V104 : Arv Z h104 a1 k1 .double (3 : Int32) [(.double q1), (.double q1), (.double q1)] (.double (0 : UInt64)) := V_a1_104
  have K104 : Keep h0 h104 [a1] := K103.wr W104 (Or.inl (List.mem_of_getElem? (i := 0) rfl))
  have N104 := Fr.snoc X104 N103 g_a1
  refine Gl.pre (S' := T104.setTop (mkF m 16 #[.val (.ref a1), .val (.double q1), .second, .val (.int (2 : Int32)), .val (.int (3 : Int32))] [])) (fun t kt => ?_) ?_
  · show Steps p.tables e below (s₁.setTop (mkF m 0 #[.val (.ref a1), .val (.double q1), .second, .unset, .unset] [])) _
    refine XS.iconst X0.here hx rfl (hb hby d5_0) ?_
    show Steps p.tables e below (s₁.setTop (mkF m 1 #[.val (.ref a1), .val (.double q1), .second, .unset, .unset] [(.int (0 : Int32))])) _
    refine XS.istoreN X0.here hx rfl (hb hby d5_1) rfl (l' := #[.val (.ref a1), .val (.double q1), .second, .val (.int (0 : Int32)), .unset]) rfl ?_
    show Steps p.tables e below (s₁.setTop (mkF m 2 #[.val (.ref a1), .val (.double q1), .second, .val (.int (0 : Int32)), .unset] [])) _
    refine XS.aloadN X0.here hx rfl (hb hby d5_2) rfl rfl ?_
    show Steps p.tables e below (s₁.setTop (mkF m 3 #[.val (.ref a1), .val (.double q1), .second, .val (.int (0 : Int32)), .unset] [(.ref a1)])) _
    refine X0.arraylength hx (own_hc e0 Ar101.1) (State.isArrayOf_alike hZ.alike Ar101.2.1) (g := (mkF m 3 #[.val (.ref a1), .val (.double q1), .second, .val (.int (0 : Int32)), .unset] [(.ref a1)])) rfl rfl (hb hby d5_3) _ ?_
    rw [len_of Sa101 Na101]
    show Steps p.tables e below (s₁.setTop (mkF m 4 #[.val (.ref a1), .val (.double q1), .second, .val (.int (0 : Int32)), .unset] [(.int (3 : Int32))])) _
    refine XS.istore X0.here hx rfl (hb hby d5_4) rfl (l' := #[.val (.ref a1), .val (.double q1), .second, .val (.int (0 : Int32)), .val (.int (3 : Int32))]) rfl ?_
    show Steps p.tables e below (s₁.setTop (mkF m 6 #[.val (.ref a1), .val (.double q1), .second, .val (.int (0 : Int32)), .val (.int (3 : Int32))] [])) _
    refine XS.iloadN X0.here hx rfl (hb hby d5_6) rfl ?_
    show Steps p.tables e below (s₁.setTop (mkF m 7 #[.val (.ref a1), .val (.double q1), .second, .val (.int (0 : Int32)), .val (.int (3 : Int32))] [(.int (0 : Int32))])) _
    refine XS.iload X0.here hx rfl (hb hby d5_7) rfl ?_
    show Steps p.tables e below (s₁.setTop (mkF m 9 #[.val (.ref a1), .val (.double q1), .second, .val (.int (0 : Int32)), .val (.int (3 : Int32))] [(.int (3 : Int32)), (.int (0 : Int32))])) _
    refine XS.icmpNo X0.here hx rfl (hb hby d5_9) rfl (own_nf (ic_ge _ _) (by decide)) ?_
    show Steps p.tables e below (s₁.setTop (mkF m 12 #[.val (.ref a1), .val (.double q1), .second, .val (.int (0 : Int32)), .val (.int (3 : Int32))] [])) _
    refine XS.aloadN X0.here hx rfl (hb hby d5_12) rfl rfl ?_
    show Steps p.tables e below (s₁.setTop (mkF m 13 #[.val (.ref a1), .val (.double q1), .second, .val (.int (0 : Int32)), .val (.int (3 : Int32))] [(.ref a1)])) _
    refine XS.iloadN X0.here hx rfl (hb hby d5_13) rfl ?_
    show Steps p.tables e below (s₁.setTop (mkF m 14 #[.val (.ref a1), .val (.double q1), .second, .val (.int (0 : Int32)), .val (.int (3 : Int32))] [(.int (0 : Int32)), (.ref a1)])) _
    refine XS.dloadN X0.here hx rfl (hb hby d5_14) rfl ?_
    show Steps p.tables e below (s₁.setTop (mkF m 15 #[.val (.ref a1), .val (.double q1), .second, .val (.int (0 : Int32)), .val (.int (3 : Int32))] [(.double q1), (.int (0 : Int32)), (.ref a1)])) _
    refine st102 _ ?_
    show Steps p.tables e below (T102.setTop (mkF m 16 #[.val (.ref a1), .val (.double q1), .second, .val (.int (0 : Int32)), .val (.int (3 : Int32))] [])) _
    refine XS.iinc X102.here hx rfl (hb hby d5_16) rfl (l' := #[.val (.ref a1), .val (.double q1), .second, .val (.int ((0 : Int32) + (1 : Int32))), .val (.int (3 : Int32))]) rfl ?_
    show Steps p.tables e below (T102.setTop (mkF m 19 #[.val (.ref a1), .val (.double q1), .second, .val (.int ((0 : Int32) + (1 : Int32))), .val (.int (3 : Int32))] [])) _
    refine XS.goto X102.here hx rfl (pc0 := 19) (pc' := 6) rfl (hb hby d5_19) (by decide) (by decide) ?_
    show Steps p.tables e below (T102.setTop (mkF m 6 #[.val (.ref a1), .val (.double q1), .second, .val (.int ((0 : Int32) + (1 : Int32))), .val (.int (3 : Int32))] [])) _
    refine XS.iloadN X102.here hx rfl (hb hby d5_6) rfl ?_
    show Steps p.tables e below (T102.setTop (mkF m 7 #[.val (.ref a1), .val (.double q1), .second, .val (.int ((0 : Int32) + (1 : Int32))), .val (.int (3 : Int32))] [(.int ((0 : Int32) + (1 : Int32)))])) _
    refine XS.iload X102.here hx rfl (hb hby d5_7) rfl ?_
    show Steps p.tables e below (T102.setTop (mkF m 9 #[.val (.ref a1), .val (.double q1), .second, .val (.int ((0 : Int32) + (1 : Int32))), .val (.int (3 : Int32))] [(.int (3 : Int32)), (.int ((0 : Int32) + (1 : Int32)))])) _
    refine XS.icmpNo X102.here hx rfl (hb hby d5_9) rfl (own_nf (ic_ge _ _) (by decide)) ?_
    show Steps p.tables e below (T102.setTop (mkF m 12 #[.val (.ref a1), .val (.double q1), .second, .val (.int (1 : Int32)), .val (.int (3 : Int32))] [])) _
    refine XS.aloadN X102.here hx rfl (hb hby d5_12) rfl rfl ?_
    show Steps p.tables e below (T102.setTop (mkF m 13 #[.val (.ref a1), .val (.double q1), .second, .val (.int (1 : Int32)), .val (.int (3 : Int32))] [(.ref a1)])) _
    refine XS.iloadN X102.here hx rfl (hb hby d5_13) rfl ?_
    show Steps p.tables e below (T102.setTop (mkF m 14 #[.val (.ref a1), .val (.double q1), .second, .val (.int (1 : Int32)), .val (.int (3 : Int32))] [(.int (1 : Int32)), (.ref a1)])) _
    refine XS.dloadN X102.here hx rfl (hb hby d5_14) rfl ?_
    show Steps p.tables e below (T102.setTop (mkF m 15 #[.val (.ref a1), .val (.double q1), .second, .val (.int (1 : Int32)), .val (.int (3 : Int32))] [(.double q1), (.int (1 : Int32)), (.ref a1)])) _
    refine st103 _ ?_
    show Steps p.tables e below (T103.setTop (mkF m 16 #[.val (.ref a1), .val (.double q1), .second, .val (.int (1 : Int32)), .val (.int (3 : Int32))] [])) _
    refine XS.iinc X103.here hx rfl (hb hby d5_16) rfl (l' := #[.val (.ref a1), .val (.double q1), .second, .val (.int ((1 : Int32) + (1 : Int32))), .val (.int (3 : Int32))]) rfl ?_
    show Steps p.tables e below (T103.setTop (mkF m 19 #[.val (.ref a1), .val (.double q1), .second, .val (.int ((1 : Int32) + (1 : Int32))), .val (.int (3 : Int32))] [])) _
    refine XS.goto X103.here hx rfl (pc0 := 19) (pc' := 6) rfl (hb hby d5_19) (by decide) (by decide) ?_
    show Steps p.tables e below (T103.setTop (mkF m 6 #[.val (.ref a1), .val (.double q1), .second, .val (.int ((1 : Int32) + (1 : Int32))), .val (.int (3 : Int32))] [])) _
    refine XS.iloadN X103.here hx rfl (hb hby d5_6) rfl ?_
    show Steps p.tables e below (T103.setTop (mkF m 7 #[.val (.ref a1), .val (.double q1), .second, .val (.int ((1 : Int32) + (1 : Int32))), .val (.int (3 : Int32))] [(.int ((1 : Int32) + (1 : Int32)))])) _
    refine XS.iload X103.here hx rfl (hb hby d5_7) rfl ?_
    show Steps p.tables e below (T103.setTop (mkF m 9 #[.val (.ref a1), .val (.double q1), .second, .val (.int ((1 : Int32) + (1 : Int32))), .val (.int (3 : Int32))] [(.int (3 : Int32)), (.int ((1 : Int32) + (1 : Int32)))])) _
    refine XS.icmpNo X103.here hx rfl (hb hby d5_9) rfl (own_nf (ic_ge _ _) (by decide)) ?_
    show Steps p.tables e below (T103.setTop (mkF m 12 #[.val (.ref a1), .val (.double q1), .second, .val (.int (2 : Int32)), .val (.int (3 : Int32))] [])) _
    refine XS.aloadN X103.here hx rfl (hb hby d5_12) rfl rfl ?_
    show Steps p.tables e below (T103.setTop (mkF m 13 #[.val (.ref a1), .val (.double q1), .second, .val (.int (2 : Int32)), .val (.int (3 : Int32))] [(.ref a1)])) _
    refine XS.iloadN X103.here hx rfl (hb hby d5_13) rfl ?_
    show Steps p.tables e below (T103.setTop (mkF m 14 #[.val (.ref a1), .val (.double q1), .second, .val (.int (2 : Int32)), .val (.int (3 : Int32))] [(.int (2 : Int32)), (.ref a1)])) _
    refine XS.dloadN X103.here hx rfl (hb hby d5_14) rfl ?_
    show Steps p.tables e below (T103.setTop (mkF m 15 #[.val (.ref a1), .val (.double q1), .second, .val (.int (2 : Int32)), .val (.int (3 : Int32))] [(.double q1), (.int (2 : Int32)), (.ref a1)])) _
    refine st104 _ ?_
    exact kt
  refine Gl.fin X104 (v := none) (fun _ => rfl) Bd.notSynchronized ?_ e104 (by decide) (by decide) (fun fs hr => ?_)
  · exact ⟨rfl, N104, K104, ArG.of3 V104⟩
  · show Steps p.tables e below (T104.setTop (mkF m 16 #[.val (.ref a1), .val (.double q1), .second, .val (.int (2 : Int32)), .val (.int (3 : Int32))] [])) _
    refine XS.iinc X104.here hx rfl (hb hby d5_16) rfl (l' := #[.val (.ref a1), .val (.double q1), .second, .val (.int ((2 : Int32) + (1 : Int32))), .val (.int (3 : Int32))]) rfl ?_
    show Steps p.tables e below (T104.setTop (mkF m 19 #[.val (.ref a1), .val (.double q1), .second, .val (.int ((2 : Int32) + (1 : Int32))), .val (.int (3 : Int32))] [])) _
    refine XS.goto X104.here hx rfl (pc0 := 19) (pc' := 6) rfl (hb hby d5_19) (by decide) (by decide) ?_
    show Steps p.tables e below (T104.setTop (mkF m 6 #[.val (.ref a1), .val (.double q1), .second, .val (.int ((2 : Int32) + (1 : Int32))), .val (.int (3 : Int32))] [])) _
    refine XS.iloadN X104.here hx rfl (hb hby d5_6) rfl ?_
    show Steps p.tables e below (T104.setTop (mkF m 7 #[.val (.ref a1), .val (.double q1), .second, .val (.int ((2 : Int32) + (1 : Int32))), .val (.int (3 : Int32))] [(.int ((2 : Int32) + (1 : Int32)))])) _
    refine XS.iload X104.here hx rfl (hb hby d5_7) rfl ?_
    show Steps p.tables e below (T104.setTop (mkF m 9 #[.val (.ref a1), .val (.double q1), .second, .val (.int ((2 : Int32) + (1 : Int32))), .val (.int (3 : Int32))] [(.int (3 : Int32)), (.int ((2 : Int32) + (1 : Int32)))])) _
    refine XS.icmpYes X104.here hx rfl (pc0 := 9) (pc' := 22) rfl (hb hby d5_9) rfl (own_nt (ic_ge _ _) (by decide)) (by decide) (by decide) ?_
    show Steps p.tables e below (T104.setTop (mkF m 22 #[.val (.ref a1), .val (.double q1), .second, .val (.int (3 : Int32)), .val (.int (3 : Int32))] [])) _
    exact X104.returnOut hx Bd.returns (hb hby d5_22) hr
theorem ef_rm3 (m : MethodId) (x0 : Addr) (x1 : Int32) : entryFrame m #[(.ref x0), (.int x1)] 2 = mkF m 0 #[.val (.ref x0), .val (.int x1)] [] := by first | (simp [entryFrame, mkF, argsToLocals, Value.category]; done) | rfl
theorem d3_0 : decode prog_31_method_1_code 0 = .ok (.aload_n 0, 1) := by decide +kernel
theorem d3_1 : decode prog_31_method_1_code 1 = .ok (.invokespecial 1, 3) := by decide +kernel
theorem d3_4 : decode prog_31_method_1_code 4 = .ok (.aload_n 0, 1) := by decide +kernel
theorem d3_5 : decode prog_31_method_1_code 5 = .ok (.iconst (-1), 1) := by decide +kernel
theorem d3_6 : decode prog_31_method_1_code 6 = .ok (.putfield 9, 3) := by decide +kernel
theorem d3_9 : decode prog_31_method_1_code 9 = .ok (.aload_n 0, 1) := by decide +kernel
theorem d3_10 : decode prog_31_method_1_code 10 = .ok (.iconst (-1), 1) := by decide +kernel
theorem d3_11 : decode prog_31_method_1_code 11 = .ok (.putfield 13, 3) := by decide +kernel
theorem d3_14 : decode prog_31_method_1_code 14 = .ok (.aload_n 0, 1) := by decide +kernel
theorem d3_15 : decode prog_31_method_1_code 15 = .ok (.iload_n 1, 1) := by decide +kernel
theorem d3_16 : decode prog_31_method_1_code 16 = .ok (.newarray .double, 2) := by decide +kernel
theorem d3_18 : decode prog_31_method_1_code 18 = .ok (.putfield 16, 3) := by decide +kernel
theorem d3_21 : decode prog_31_method_1_code 21 = .ok (.aload_n 0, 1) := by decide +kernel
theorem d3_22 : decode prog_31_method_1_code 22 = .ok (.getfield 16, 3) := by decide +kernel
theorem d3_25 : decode prog_31_method_1_code 25 = .ok (.ldc2_w 22, 3) := by decide +kernel
theorem d3_28 : decode prog_31_method_1_code 28 = .ok (.invokestatic 24, 3) := by decide +kernel
theorem pd___DD_V : parseMethodDescriptor "([DD)V" = some ⟨[(.array .double), .double], none⟩ := by decide +kernel
theorem d3_31 : decode prog_31_method_1_code 31 = .ok (.aload_n 0, 1) := by decide +kernel
theorem d3_32 : decode prog_31_method_1_code 32 = .ok (.iload_n 1, 1) := by decide +kernel
theorem d3_33 : decode prog_31_method_1_code 33 = .ok (.newarray .int, 2) := by decide +kernel
theorem d3_35 : decode prog_31_method_1_code 35 = .ok (.putfield 30, 3) := by decide +kernel
theorem d3_38 : decode prog_31_method_1_code 38 = .ok (.aload_n 0, 1) := by decide +kernel
theorem d3_39 : decode prog_31_method_1_code 39 = .ok (.iload_n 1, 1) := by decide +kernel
theorem d3_40 : decode prog_31_method_1_code 40 = .ok (.newarray .int, 2) := by decide +kernel
theorem d3_42 : decode prog_31_method_1_code 42 = .ok (.putfield 34, 3) := by decide +kernel
theorem d3_45 : decode prog_31_method_1_code 45 = .ok (.return_, 1) := by decide +kernel
def Q3 (Z : State) (o1 : Addr) (h0 : Heap) (n0 : Nat) (v : Option Value) (h : Heap) (L : List Loc) : Prop := ∃ lc bb ba : Addr, h0.size ≤ lc ∧ h0.size ≤ bb ∧ h0.size ≤ ba ∧ (lc ≠ bb ∧ lc ≠ ba ∧ bb ≠ ba) ∧ v = none ∧ Fr n0 L ∧ Keep h0 h [o1] ∧ OB Z h o1 lc bb ba S00 ∧ ArG Z h lc .double (fun j => .double (DDf ((fun _ => none) j)))
set_option maxRecDepth 65536 in
set_option maxHeartbeats 40000000 in
theorem rm3 (l : Launch) (Z : State) (a0 : Array Value) (hw : ∀ d ∈ tables_1, d.before a0 Z = true) (ws : List Jvm.Cond) (o1 : Addr) (h0 : Heap) (n0 : Nat) (Z0 : n0 ≤ h0.size) (g_o1 : n0 ≤ o1) (E_o : Exa Z h0 o1 "com/example/tenrec/tenrec/pool/IdleByLastCompletion") (F_first : Fld Z h0 o1 "com/example/tenrec/tenrec/pool/IdleByLastCompletion" "first" "I" (.int (0 : Int32))) (F_last : Fld Z h0 o1 "com/example/tenrec/tenrec/pool/IdleByLastCompletion" "last" "I" (.int (0 : Int32))) (F_lastCompletion : Fld Z h0 o1 "com/example/tenrec/tenrec/pool/IdleByLastCompletion" "lastCompletion" "[D" .null) (F_before : Fld Z h0 o1 "com/example/tenrec/tenrec/pool/IdleByLastCompletion" "before" "[I" .null) (F_after : Fld Z h0 o1 "com/example/tenrec/tenrec/pool/IdleByLastCompletion" "after" "[I" .null) :
    OMet l Z (⟨"com/example/tenrec/tenrec/pool/IdleByLastCompletion", "<init>", "(I)V"⟩ : MethodName) prog_31_method_1_code 2 none ws ({ frames := 1, cells := 3, slots := 9, locals := 17 } : Room) #[(.ref o1), (.int (3 : Int32))] h0 (Q3 Z o1 h0 n0) := by
  refine own_body (plainFor_of_name pn_com_example_tenrec_tenrec_pool_IdleByLastCompletion) ?_
  intro p e s m below meth c s₁ Bd hml0 hZ e0
  have hx := Bd.exec
  have hby := Bd.bytes
  have hml : c.maxLocals = 2 := hml0
  have hown : s.vm.findClass "com/example/tenrec/tenrec/pool/IdleByLastCompletion" = some m.cls := findClass_of_methodNamed Bd.named
  have hnm := (name_of_methodNamed Bd.named Bd.method).1
  have X0 : Stand p l e ({ frames := 1, cells := 3, slots := 9, locals := 17 } : Room) s m #[(.ref o1), (.int (3 : Int32))] below meth c s₁ [] 0 0 := Stand.of_body Bd
  have N0 := Fr.nil n0
  have K0 : Keep h0 h0 [o1] := Keep.refl _ _
  rw [ef_rm3]
  obtain ⟨T101, X101, e101, st101⟩ := initO X0 hx hZ hown (hw _ (List.mem_of_getElem? (i := 16) rfl)) (hw _ (List.mem_of_getElem? (i := 17) rfl)) (hw _ (List.mem_of_getElem? (i := 18) rfl)) e0 (g := (mkF m 1 #[.val (.ref o1), .val (.int (3 : Int32))] [(.ref o1)])) rfl (by rw [hml]; rfl) rfl (hb hby d3_1) (by decide) (W := 0) (by show 2 * 0 + _ ≤ _; exact Nat.le_of_eq rfl) (by decide)
  obtain ⟨T102, h102, X102, e102, W102, st102⟩ := putF X101 hx hZ hown (host := "") (Or.inl (hw _ (List.mem_of_getElem? (i := 19) rfl))) Via.refl e101 F_first E_o (Or.inl (hw _ (List.mem_of_getElem? (i := 20) rfl))) (hw _ (List.mem_of_getElem? (i := 11) rfl)) (ty := .int) (by decide) rfl rfl (g := (mkF m 6 #[.val (.ref o1), .val (.int (3 : Int32))] [(.int (-1 : Int32)), (.ref o1)])) rfl rfl (hb hby d3_6)
  have Fw102 := F_first.same W102
  have K102 : Keep h0 h102 [o1] := K0.wr W102 (Or.inl (List.mem_of_getElem? (i := 0) rfl))
  have N102 := Fr.snoc X102 N0 g_o1
  have f103 := (F_last.other W102 (Or.inr (slot_ne (Or.inl (hw _ (List.mem_of_getElem? (i := 22) rfl))) (Or.inl (hw _ (List.mem_of_getElem? (i := 20) rfl))) (by decide) (t := .int) (t' := .int) (by decide) (by decide))))
  have f104 := (E_o.wr W102)
  obtain ⟨T105, h105, X105, e105, W105, st105⟩ := putF X102 hx hZ hown (host := "") (Or.inl (hw _ (List.mem_of_getElem? (i := 21) rfl))) Via.refl e102 f103 f104 (Or.inl (hw _ (List.mem_of_getElem? (i := 22) rfl))) (hw _ (List.mem_of_getElem? (i := 11) rfl)) (ty := .int) (by decide) rfl rfl (g := (mkF m 11 #[.val (.ref o1), .val (.int (3 : Int32))] [(.int (-1 : Int32)), (.ref o1)])) rfl rfl (hb hby d3_11)
  have Fw105 := f103.same W105
  have K105 : Keep h0 h105 [o1] := K102.wr W105 (Or.inl (List.mem_of_getElem? (i := 0) rfl))
  have N105 := Fr.snoc X105 N102 g_o1
  obtain ⟨T106, h106, k106, X106, e106, E106, A106, st106⟩ := newP X105 hx hZ (hw _ (List.mem_of_getElem? (i := 23) rfl)) e105 (g := (mkF m 16 #[.val (.ref o1), .val (.int (3 : Int32))] [(.int (3 : Int32)), (.ref o1)])) rfl (hb hby d3_16) rfl (by decide) (cap := 3) (by decide) (by decide) (by decide) (by decide)
  obtain ⟨b106, g106⟩ : ∃ z, z = h105.size := ⟨_, rfl⟩
  have z107 : n0 ≤ h105.size := (Nat.le_trans (Nat.le_trans Z0 (Keep.of_wr W102).1) (Keep.of_wr W105).1)
  have g_b106 : n0 ≤ b106 := Nat.le_trans z107 (Nat.le_of_eq g106.symm)
  have sz_b106 : h0.size ≤ b106 := Nat.le_trans K105.1 (Nat.le_of_eq g106.symm)
  rw [← g106] at A106 st106
  have K106 : Keep h0 h106 [o1] := K105.ext E106
  have V_b106 : Arv Z h106 b106 k106 .double (3 : Int32) [(.double (0 : UInt64)), (.double (0 : UInt64)), (.double (0 : UInt64))] (.double (0 : UInt64)) := (Arv.new A106 (by decide)).pad (pad_rep [] (.double (0 : UInt64)) 3)
  have f108 := (((F_lastCompletion.other W102 (Or.inr (slot_ne (Or.inr (hw _ (List.mem_of_getElem? (i := 25) rfl))) (Or.inl (hw _ (List.mem_of_getElem? (i := 20) rfl))) (by decide) (t := (.array .double)) (t' := .int) (by decide) (by decide)))).other W105 (Or.inr (slot_ne (Or.inr (hw _ (List.mem_of_getElem? (i := 25) rfl))) (Or.inl (hw _ (List.mem_of_getElem? (i := 22) rfl))) (by decide) (t := (.array .double)) (t' := .int) (by decide) (by decide)))).ext E106)
  have f109 := ((f104.wr W105).ext E106)
  obtain ⟨T110, h110, X110, e110, W110, st110⟩ := putF X106 hx hZ hown (host := "") (Or.inl (hw _ (List.mem_of_getElem? (i := 24) rfl))) Via.refl e106 f108 f109 (Or.inr ⟨(hw _ (List.mem_of_getElem? (i := 25) rfl)), rfl, hnm⟩) (hw _ (List.mem_of_getElem? (i := 11) rfl)) (ty := (.array .double)) (by decide) rfl rfl (g := (mkF m 18 #[.val (.ref o1), .val (.int (3 : Int32))] [(.ref b106), (.ref o1)])) rfl rfl (hb hby d3_18)
  have Fw110 := f108.same W110
  have K110 : Keep h0 h110 [o1] := K106.wr W110 (Or.inl (List.mem_of_getElem? (i := 0) rfl))
  have N110 := Fr.snoc X110 N105 g_o1
  obtain ⟨T111, X111, e111, st111⟩ := getF X110 hx hZ hown (host := "") (Or.inl (hw _ (List.mem_of_getElem? (i := 24) rfl))) Via.refl e110 Fw110 (g := (mkF m 22 #[.val (.ref o1), .val (.int (3 : Int32))] [(.ref o1)])) rfl rfl (hb hby d3_22)
  have f113 := (V_b106.other W110 (Ne.symm (Nat.ne_of_lt (Nat.lt_of_lt_of_le (Nat.lt_of_lt_of_le (Nat.lt_of_lt_of_le E_o.lt (Keep.of_wr W102).1) (Keep.of_wr W105).1) (Nat.le_of_eq g106.symm)))))
  have z114 : n0 ≤ h110.size := (Nat.le_trans (Nat.le_trans z107 E106.1) (Keep.of_wr W110).1)
  obtain ⟨v112, T112, L112, X112, q112, st112⟩ := own_callS X111 hx hZ (y := (⟨"java/util/Arrays", "fill", "([DD)V"⟩ : MethodName)) hown (hw _ (List.mem_of_getElem? (i := 27) rfl)) (hw _ (List.mem_of_getElem? (i := 28) rfl)) (hw _ (List.mem_of_getElem? (i := 29) rfl)) (hw _ (List.mem_of_getElem? (i := 30) rfl)) (by decide) (hM := (rm5 l Z a0 hw [] b106 (18442240474082181120 : UInt64) k106 h110 n0 z114 g_b106 f113)) (by decide) (by decide) (by decide) (by decide) e111 (argsL := [(.ref b106), (.double (18442240474082181120 : UInt64))]) (rest := []) (Ls := #[.val (.ref o1), .val (.int (3 : Int32))]) (by rw [hml]; rfl) (lenOf pd___DD_V rfl) (W := 0) (Nat.le_of_eq rfl) (hb hby d3_28)
  obtain ⟨rfl, N112q, K112q, G112q⟩ := q112
  have N112 := Fr.app N110 N112q
  have K112 : Keep h0 T112.heap [o1] := K110.trans K112q (allS (Or.inr sz_b106) all0)
  obtain ⟨T115, h115, k115, X115, e115, E115, A115, st115⟩ := newP X112 hx hZ (hw _ (List.mem_of_getElem? (i := 0) rfl)) rfl (g := (mkF m 33 #[.val (.ref o1), .val (.int (3 : Int32))] [(.int (3 : Int32)), (.ref o1)])) rfl (hb hby d3_33) rfl (by decide) (cap := 3) (by decide) (by decide) (by decide) (by decide)
  obtain ⟨b115, g115⟩ : ∃ z, z = T112.heap.size := ⟨_, rfl⟩
  have z116 : n0 ≤ T112.heap.size := (Nat.le_trans z114 K112q.1)
  have g_b115 : n0 ≤ b115 := Nat.le_trans z116 (Nat.le_of_eq g115.symm)
  have sz_b115 : h0.size ≤ b115 := Nat.le_trans K112.1 (Nat.le_of_eq g115.symm)
  rw [← g115] at A115 st115
  have K115 : Keep h0 h115 [o1] := K112.ext E115
  have V_b115 : Arv Z h115 b115 k115 .int (3 : Int32) [(.int (0 : Int32)), (.int (0 : Int32)), (.int (0 : Int32))] (.int (0 : Int32)) := (Arv.new A115 (by decide)).pad (pad_rep [] (.int (0 : Int32)) 3)
  have f117 := ((((((F_before.other W102 (Or.inr (slot_ne (Or.inr (hw _ (List.mem_of_getElem? (i := 32) rfl))) (Or.inl (hw _ (List.mem_of_getElem? (i := 20) rfl))) (by decide) (t := (.array .int)) (t' := .int) (by decide) (by decide)))).other W105 (Or.inr (slot_ne (Or.inr (hw _ (List.mem_of_getElem? (i := 32) rfl))) (Or.inl (hw _ (List.mem_of_getElem? (i := 22) rfl))) (by decide) (t := (.array .int)) (t' := .int) (by decide) (by decide)))).ext E106).other W110 (Or.inr (slot_ne (Or.inr (hw _ (List.mem_of_getElem? (i := 32) rfl))) (Or.inr (hw _ (List.mem_of_getElem? (i := 25) rfl))) (by decide) (t := (.array .int)) (t' := (.array .double)) (by decide) (by decide)))).keep K112q (ninS (Nat.ne_of_lt (Nat.lt_of_lt_of_le (Nat.lt_of_lt_of_le (Nat.lt_of_lt_of_le E_o.lt (Keep.of_wr W102).1) (Keep.of_wr W105).1) (Nat.le_of_eq g106.symm))) nin0)).ext E115)
  have f118 := (((f109.wr W110).keep K112q).ext E115)
  obtain ⟨T119, h119, X119, e119, W119, st119⟩ := putF X115 hx hZ hown (host := "") (Or.inl (hw _ (List.mem_of_getElem? (i := 31) rfl))) Via.refl e115 f117 f118 (Or.inr ⟨(hw _ (List.mem_of_getElem? (i := 32) rfl)), rfl, hnm⟩) (hw _ (List.mem_of_getElem? (i := 11) rfl)) (ty := (.array .int)) (by decide) rfl rfl (g := (mkF m 35 #[.val (.ref o1), .val (.int (3 : Int32))] [(.ref b115), (.ref o1)])) rfl rfl (hb hby d3_35)
  have Fw119 := f117.same W119
  have K119 : Keep h0 h119 [o1] := K115.wr W119 (Or.inl (List.mem_of_getElem? (i := 0) rfl))
  have N119 := Fr.snoc X119 N112 g_o1
  obtain ⟨T120, h120, k120, X120, e120, E120, A120, st120⟩ := newP X119 hx hZ (hw _ (List.mem_of_getElem? (i := 0) rfl)) e119 (g := (mkF m 40 #[.val (.ref o1), .val (.int (3 : Int32))] [(.int (3 : Int32)), (.ref o1)])) rfl (hb hby d3_40) rfl (by decide) (cap := 3) (by decide) (by decide) (by decide) (by decide)
  obtain ⟨b120, g120⟩ : ∃ z, z = h119.size := ⟨_, rfl⟩
  have z121 : n0 ≤ h119.size := (Nat.le_trans (Nat.le_trans z116 E115.1) (Keep.of_wr W119).1)
  have g_b120 : n0 ≤ b120 := Nat.le_trans z121 (Nat.le_of_eq g120.symm)
  have sz_b120 : h0.size ≤ b120 := Nat.le_trans K119.1 (Nat.le_of_eq g120.symm)
  rw [← g120] at A120 st120
  have K120 : Keep h0 h120 [o1] := K119.ext E120
  have V_b120 : Arv Z h120 b120 k120 .int (3 : Int32) [(.int (0 : Int32)), (.int (0 : Int32)), (.int (0 : Int32))] (.int (0 : Int32)) := (Arv.new A120 (by decide)).pad (pad_rep [] (.int (0 : Int32)) 3)
  have f122 := ((((((((F_after.other W102 (Or.inr (slot_ne (Or.inr (hw _ (List.mem_of_getElem? (i := 34) rfl))) (Or.inl (hw _ (List.mem_of_getElem? (i := 20) rfl))) (by decide) (t := (.array .int)) (t' := .int) (by decide) (by decide)))).other W105 (Or.inr (slot_ne (Or.inr (hw _ (List.mem_of_getElem? (i := 34) rfl))) (Or.inl (hw _ (List.mem_of_getElem? (i := 22) rfl))) (by decide) (t := (.array .int)) (t' := .int) (by decide) (by decide)))).ext E106).other W110 (Or.inr (slot_ne (Or.inr (hw _ (List.mem_of_getElem? (i := 34) rfl))) (Or.inr (hw _ (List.mem_of_getElem? (i := 25) rfl))) (by decide) (t := (.array .int)) (t' := (.array .double)) (by decide) (by decide)))).keep K112q (ninS (Nat.ne_of_lt (Nat.lt_of_lt_of_le (Nat.lt_of_lt_of_le (Nat.lt_of_lt_of_le E_o.lt (Keep.of_wr W102).1) (Keep.of_wr W105).1) (Nat.le_of_eq g106.symm))) nin0)).ext E115).other W119 (Or.inr (slot_ne (Or.inr (hw _ (List.mem_of_getElem? (i := 34) rfl))) (Or.inr (hw _ (List.mem_of_getElem? (i := 32) rfl))) (by decide) (t := (.array .int)) (t' := (.array .int)) (by decide) (by decide)))).ext E120)
  have f123 := ((f118.wr W119).ext E120)
  obtain ⟨T124, h124, X124, e124, W124, st124⟩ := putF X120 hx hZ hown (host := "") (Or.inl (hw _ (List.mem_of_getElem? (i := 33) rfl))) Via.refl e120 f122 f123 (Or.inr ⟨(hw _ (List.mem_of_getElem? (i := 34) rfl)), rfl, hnm⟩) (hw _ (List.mem_of_getElem? (i := 11) rfl)) (ty := (.array .int)) (by decide) rfl rfl (g := (mkF m 42 #[.val (.ref o1), .val (.int (3 : Int32))] [(.ref b120), (.ref o1)])) rfl rfl (hb hby d3_42)
  have Fw124 := f122.same W124
  have K124 : Keep h0 h124 [o1] := K120.wr W124 (Or.inl (List.mem_of_getElem? (i := 0) rfl))
  have N124 := Fr.snoc X124 N119 g_o1
  have f125 := (f123.wr W124)
  have f126 := ((((((((Fw102.other W105 (Or.inr (slot_ne (Or.inl (hw _ (List.mem_of_getElem? (i := 20) rfl))) (Or.inl (hw _ (List.mem_of_getElem? (i := 22) rfl))) (by decide) (t := .int) (t' := .int) (by decide) (by decide)))).ext E106).other W110 (Or.inr (slot_ne (Or.inl (hw _ (List.mem_of_getElem? (i := 20) rfl))) (Or.inr (hw _ (List.mem_of_getElem? (i := 25) rfl))) (by decide) (t := .int) (t' := (.array .double)) (by decide) (by decide)))).keep K112q (ninS (Nat.ne_of_lt (Nat.lt_of_lt_of_le (Nat.lt_of_lt_of_le (Nat.lt_of_lt_of_le E_o.lt (Keep.of_wr W102).1) (Keep.of_wr W105).1) (Nat.le_of_eq g106.symm))) nin0)).ext E115).other W119 (Or.inr (slot_ne (Or.inl (hw _ (List.mem_of_getElem? (i := 20) rfl))) (Or.inr (hw _ (List.mem_of_getElem? (i := 32) rfl))) (by decide) (t := .int) (t' := (.array .int)) (by decide) (by decide)))).ext E120).other W124 (Or.inr (slot_ne (Or.inl (hw _ (List.mem_of_getElem? (i := 20) rfl))) (Or.inr (hw _ (List.mem_of_getElem? (i := 34) rfl))) (by decide) (t := .int) (t' := (.array .int)) (by decide) (by decide))))
  have f127 := (((((((Fw105.ext E106).other W110 (Or.inr (slot_ne (Or.inl (hw _ (List.mem_of_getElem? (i := 22) rfl))) (Or.inr (hw _ (List.mem_of_getElem? (i := 25) rfl))) (by decide) (t := .int) (t' := (.array .double)) (by decide) (by decide)))).keep K112q (ninS (Nat.ne_of_lt (Nat.lt_of_lt_of_le (Nat.lt_of_lt_of_le (Nat.lt_of_lt_of_le E_o.lt (Keep.of_wr W102).1) (Keep.of_wr W105).1) (Nat.le_of_eq g106.symm))) nin0)).ext E115).other W119 (Or.inr (slot_ne (Or.inl (hw _ (List.mem_of_getElem? (i := 22) rfl))) (Or.inr (hw _ (List.mem_of_getElem? (i := 32) rfl))) (by decide) (t := .int) (t' := (.array .int)) (by decide) (by decide)))).ext E120).other W124 (Or.inr (slot_ne (Or.inl (hw _ (List.mem_of_getElem? (i := 22) rfl))) (Or.inr (hw _ (List.mem_of_getElem? (i := 34) rfl))) (by decide) (t := .int) (t' := (.array .int)) (by decide) (by decide))))
  have f128 := (((((Fw110.keep K112q (ninS (Nat.ne_of_lt (Nat.lt_of_lt_of_le (Nat.lt_of_lt_of_le (Nat.lt_of_lt_of_le E_o.lt (Keep.of_wr W102).1) (Keep.of_wr W105).1) (Nat.le_of_eq g106.symm))) nin0)).ext E115).other W119 (Or.inr (slot_ne (Or.inr (hw _ (List.mem_of_getElem? (i := 25) rfl))) (Or.inr (hw _ (List.mem_of_getElem? (i := 32) rfl))) (by decide) (t := (.array .double)) (t' := (.array .int)) (by decide) (by decide)))).ext E120).other W124 (Or.inr (slot_ne (Or.inr (hw _ (List.mem_of_getElem? (i := 25) rfl))) (Or.inr (hw _ (List.mem_of_getElem? (i := 34) rfl))) (by decide) (t := (.array .double)) (t' := (.array .int)) (by decide) (by decide))))
  have f129 := ((Fw119.ext E120).other W124 (Or.inr (slot_ne (Or.inr (hw _ (List.mem_of_getElem? (i := 32) rfl))) (Or.inr (hw _ (List.mem_of_getElem? (i := 34) rfl))) (by decide) (t := (.array .int)) (t' := (.array .int)) (by decide) (by decide))))
  have f130 := (((V_b115.other W119 (Ne.symm (Nat.ne_of_lt (Nat.lt_of_lt_of_le (Nat.lt_of_lt_of_le (Nat.lt_of_lt_of_le (Nat.lt_of_lt_of_le (Nat.lt_of_lt_of_le (Nat.lt_of_lt_of_le E_o.lt (Keep.of_wr W102).1) (Keep.of_wr W105).1) E106.1) (Keep.of_wr W110).1) K112q.1) (Nat.le_of_eq g115.symm))))).ext E120).other W124 (Ne.symm (Nat.ne_of_lt (Nat.lt_of_lt_of_le (Nat.lt_of_lt_of_le (Nat.lt_of_lt_of_le (Nat.lt_of_lt_of_le (Nat.lt_of_lt_of_le (Nat.lt_of_lt_of_le E_o.lt (Keep.of_wr W102).1) (Keep.of_wr W105).1) E106.1) (Keep.of_wr W110).1) K112q.1) (Nat.le_of_eq g115.symm)))))
  have f131 := (V_b120.other W124 (Ne.symm (Nat.ne_of_lt (Nat.lt_of_lt_of_le (Nat.lt_of_lt_of_le (Nat.lt_of_lt_of_le (Nat.lt_of_lt_of_le (Nat.lt_of_lt_of_le (Nat.lt_of_lt_of_le (Nat.lt_of_lt_of_le (Nat.lt_of_lt_of_le E_o.lt (Keep.of_wr W102).1) (Keep.of_wr W105).1) E106.1) (Keep.of_wr W110).1) K112q.1) E115.1) (Keep.of_wr W119).1) (Nat.le_of_eq g120.symm)))))
  have f132 := ((((G112q.ext E115).other W119 (Ne.symm (Nat.ne_of_lt (Nat.lt_of_lt_of_le (Nat.lt_of_lt_of_le (Nat.lt_of_lt_of_le E_o.lt (Keep.of_wr W102).1) (Keep.of_wr W105).1) (Nat.le_of_eq g106.symm))))).ext E120).other W124 (Ne.symm (Nat.ne_of_lt (Nat.lt_of_lt_of_le (Nat.lt_of_lt_of_le (Nat.lt_of_lt_of_le E_o.lt (Keep.of_wr W102).1) (Keep.of_wr W105).1) (Nat.le_of_eq g106.symm)))))
  refine Gl.fin X124 (v := none) (fun _ => rfl) Bd.notSynchronized ?_ e124 (by decide) (by decide) (fun fs hr => ?_)
  · exact ⟨b106, b115, b120, sz_b106, sz_b115, sz_b120, ⟨(Nat.ne_of_lt (Nat.lt_of_lt_of_le (Nat.lt_of_lt_of_le (Nat.lt_of_lt_of_le V_b106.lt (Keep.of_wr W110).1) K112q.1) (Nat.le_of_eq g115.symm))), (Nat.ne_of_lt (Nat.lt_of_lt_of_le (Nat.lt_of_lt_of_le (Nat.lt_of_lt_of_le (Nat.lt_of_lt_of_le (Nat.lt_of_lt_of_le V_b106.lt (Keep.of_wr W110).1) K112q.1) E115.1) (Keep.of_wr W119).1) (Nat.le_of_eq g120.symm))), (Nat.ne_of_lt (Nat.lt_of_lt_of_le (Nat.lt_of_lt_of_le V_b115.lt (Keep.of_wr W119).1) (Nat.le_of_eq g120.symm)))⟩, rfl, N124, K124, ⟨f125, f126, f127, f128, f129, Fw124, ArG.of3 f130, ArG.of3 f131⟩, f132⟩
  · show Steps p.tables e below (s₁.setTop (mkF m 0 #[.val (.ref o1), .val (.int (3 : Int32))] [])) _
    refine XS.aloadN X0.here hx rfl (hb hby d3_0) rfl rfl ?_
    show Steps p.tables e below (s₁.setTop (mkF m 1 #[.val (.ref o1), .val (.int (3 : Int32))] [(.ref o1)])) _
    refine st101 _ ?_
    show Steps p.tables e below (T101.setTop (mkF m 4 #[.val (.ref o1), .val (.int (3 : Int32))] [])) _
    refine XS.aloadN X101.here hx rfl (hb hby d3_4) rfl rfl ?_
    show Steps p.tables e below (T101.setTop (mkF m 5 #[.val (.ref o1), .val (.int (3 : Int32))] [(.ref o1)])) _
    refine XS.iconst X101.here hx rfl (hb hby d3_5) ?_
    show Steps p.tables e below (T101.setTop (mkF m 6 #[.val (.ref o1), .val (.int (3 : Int32))] [(.int (-1 : Int32)), (.ref o1)])) _
    refine st102 _ ?_
    show Steps p.tables e below (T102.setTop (mkF m 9 #[.val (.ref o1), .val (.int (3 : Int32))] [])) _
    refine XS.aloadN X102.here hx rfl (hb hby d3_9) rfl rfl ?_
    show Steps p.tables e below (T102.setTop (mkF m 10 #[.val (.ref o1), .val (.int (3 : Int32))] [(.ref o1)])) _
    refine XS.iconst X102.here hx rfl (hb hby d3_10) ?_
    show Steps p.tables e below (T102.setTop (mkF m 11 #[.val (.ref o1), .val (.int (3 : Int32))] [(.int (-1 : Int32)), (.ref o1)])) _
    refine st105 _ ?_
    show Steps p.tables e below (T105.setTop (mkF m 14 #[.val (.ref o1), .val (.int (3 : Int32))] [])) _
    refine XS.aloadN X105.here hx rfl (hb hby d3_14) rfl rfl ?_
    show Steps p.tables e below (T105.setTop (mkF m 15 #[.val (.ref o1), .val (.int (3 : Int32))] [(.ref o1)])) _
    refine XS.iloadN X105.here hx rfl (hb hby d3_15) rfl ?_
    show Steps p.tables e below (T105.setTop (mkF m 16 #[.val (.ref o1), .val (.int (3 : Int32))] [(.int (3 : Int32)), (.ref o1)])) _
    refine st106 _ ?_
    show Steps p.tables e below (T106.setTop (mkF m 18 #[.val (.ref o1), .val (.int (3 : Int32))] [(.ref b106), (.ref o1)])) _
    refine st110 _ ?_
    show Steps p.tables e below (T110.setTop (mkF m 21 #[.val (.ref o1), .val (.int (3 : Int32))] [])) _
    refine XS.aloadN X110.here hx rfl (hb hby d3_21) rfl rfl ?_
    show Steps p.tables e below (T110.setTop (mkF m 22 #[.val (.ref o1), .val (.int (3 : Int32))] [(.ref o1)])) _
    refine st111 _ ?_
    show Steps p.tables e below (T111.setTop (mkF m 25 #[.val (.ref o1), .val (.int (3 : Int32))] [(.ref b106)])) _
    refine X111.ldc2DoubleC hx hown (mvT hZ (hw _ (List.mem_of_getElem? (i := 26) rfl))) (g := (mkF m 25 #[.val (.ref o1), .val (.int (3 : Int32))] [(.ref b106)])) rfl (hb hby d3_25) _ ?_
    show Steps p.tables e below (T111.setTop (mkF m 28 #[.val (.ref o1), .val (.int (3 : Int32))] [(.double (18442240474082181120 : UInt64)), (.ref b106)])) _
    refine st112 _ ?_
    show Steps p.tables e below (T112.setTop (mkF m 31 #[.val (.ref o1), .val (.int (3 : Int32))] [])) _
    refine XS.aloadN X112.here hx rfl (hb hby d3_31) rfl rfl ?_
    show Steps p.tables e below (T112.setTop (mkF m 32 #[.val (.ref o1), .val (.int (3 : Int32))] [(.ref o1)])) _
    refine XS.iloadN X112.here hx rfl (hb hby d3_32) rfl ?_
    show Steps p.tables e below (T112.setTop (mkF m 33 #[.val (.ref o1), .val (.int (3 : Int32))] [(.int (3 : Int32)), (.ref o1)])) _
    refine st115 _ ?_
    show Steps p.tables e below (T115.setTop (mkF m 35 #[.val (.ref o1), .val (.int (3 : Int32))] [(.ref b115), (.ref o1)])) _
    refine st119 _ ?_
    show Steps p.tables e below (T119.setTop (mkF m 38 #[.val (.ref o1), .val (.int (3 : Int32))] [])) _
    refine XS.aloadN X119.here hx rfl (hb hby d3_38) rfl rfl ?_
    show Steps p.tables e below (T119.setTop (mkF m 39 #[.val (.ref o1), .val (.int (3 : Int32))] [(.ref o1)])) _
    refine XS.iloadN X119.here hx rfl (hb hby d3_39) rfl ?_
    show Steps p.tables e below (T119.setTop (mkF m 40 #[.val (.ref o1), .val (.int (3 : Int32))] [(.int (3 : Int32)), (.ref o1)])) _
    refine st120 _ ?_
    show Steps p.tables e below (T120.setTop (mkF m 42 #[.val (.ref o1), .val (.int (3 : Int32))] [(.ref b120), (.ref o1)])) _
    refine st124 _ ?_
    show Steps p.tables e below (T124.setTop (mkF m 45 #[.val (.ref o1), .val (.int (3 : Int32))] [])) _
    exact X124.returnOut hx Bd.returns (hb hby d3_45) hr
theorem ef_rm0 (m : MethodId) (x0 : Int32) (x1 : Int32) (x2 : Int32) (x3 : Int32) : entryFrame m #[(.int x0), (.int x1), (.int x2), (.int x3)] maxLocals = mkF m 0 #[.val (.int x0), .val (.int x1), .val (.int x2), .val (.int x3), .unset, .unset, .unset, .unset, .unset, .unset, .unset, .unset, .unset, .unset, .unset, .unset, .unset, .unset, .unset, .unset, .unset, .unset, .unset, .unset, .unset, .unset, .unset] [] := by first | (simp [entryFrame, mkF, argsToLocals, Value.category, maxLocals]; done) | rfl
theorem pd___Z_II_I : parseMethodDescriptor "([Z[II)I" = some ⟨[(.array .boolean), (.array .int), .int], some .int⟩ := by decide +kernel
theorem pd__I_V : parseMethodDescriptor "(I)V" = some ⟨[.int], none⟩ := by decide +kernel
theorem pd___I : parseMethodDescriptor "()I" = some ⟨[], some .int⟩ := by decide +kernel
theorem pd__ID_V : parseMethodDescriptor "(ID)V" = some ⟨[.int, .double], none⟩ := by decide +kernel
def Q0 (Z : State) (p0 : Int32) (p1 : Int32) (p2 : Int32) (p3 : Int32) (h0 : Heap) (n0 : Nat) (v : Option Value) (h : Heap) (L : List Loc) : Prop := v = some (.int 1) ∧ Fr n0 L
set_option maxRecDepth 65536 in
set_option maxHeartbeats 40000000 in
theorem rm0 (l : Launch) (Z : State) (a0 : Array Value) (hw : ∀ d ∈ tables_1, d.before a0 Z = true) (ws : List Jvm.Cond) (p0 : Int32) (p1 : Int32) (p2 : Int32) (p3 : Int32) (h0 : Heap) (n0 : Nat) (Z0 : n0 ≤ h0.size) :
    OMet l Z x code maxLocals ret ws room_1 #[(.int p0), (.int p1), (.int p2), (.int p3)] h0 (Q0 Z p0 p1 p2 p3 h0 n0) := by
  refine own_body (plainFor_of_name pn_com_example_tenrec_tenrec_pool_IdleByLastCompletionRemovePinLaw) ?_
  intro p e s m below meth c s₁ Bd hml0 hZ e0
  have hx := Bd.exec
  have hby := Bd.bytes
  have hml : c.maxLocals = 27 := hml0
  have hown : s.vm.findClass "com/example/tenrec/tenrec/pool/IdleByLastCompletionRemovePinLaw" = some m.cls := findClass_of_methodNamed Bd.named
  have hnm := (name_of_methodNamed Bd.named Bd.method).1
  have X0 : Stand p l e room_1 s m #[(.int p0), (.int p1), (.int p2), (.int p3)] below meth c s₁ [] 0 0 := Stand.of_body Bd
  have N0 := Fr.nil n0
  have K0 : Keep h0 h0 [] := Keep.refl _ _
  rw [ef_rm0]
  obtain ⟨T101, h101, k101, X101, e101, E101, A101, st101⟩ := newP X0 hx hZ (hw _ (List.mem_of_getElem? (i := 0) rfl)) e0 (g := (mkF m 2 #[.val (.int p0), .val (.int p1), .val (.int p2), .val (.int p3), .unset, .unset, .unset, .unset, .unset, .unset, .unset, .unset, .unset, .unset, .unset, .unset, .unset, .unset, .unset, .unset, .unset, .unset, .unset, .unset, .unset, .unset, .unset] [(.int (18 : Int32))])) rfl (hb hby at_2) rfl (by decide) (cap := 18) (by decide) (by decide) (by decide) (by decide)
  obtain ⟨b101, g101⟩ : ∃ z, z = h0.size := ⟨_, rfl⟩
  have g_b101 : n0 ≤ b101 := Nat.le_trans Z0 (Nat.le_of_eq g101.symm)
  have sz_b101 : h0.size ≤ b101 := Nat.le_trans K0.1 (Nat.le_of_eq g101.symm)
  rw [← g101] at A101 st101
  have K101 : Keep h0 h101 [] := K0.ext E101
  have V_b101 : Arv Z h101 b101 k101 .int (18 : Int32) [(.int (0 : Int32)), (.int (0 : Int32)), (.int (0 : Int32)), (.int (0 : Int32)), (.int (0 : Int32)), (.int (0 : Int32)), (.int (0 : Int32)), (.int (0 : Int32)), (.int (0 : Int32)), (.int (0 : Int32)), (.int (0 : Int32)), (.int (0 : Int32)), (.int (0 : Int32)), (.int (0 : Int32)), (.int (0 : Int32)), (.int (0 : Int32)), (.int (0 : Int32)), (.int (0 : Int32))] (.int (0 : Int32)) := (Arv.new A101 (by decide)).pad (pad_rep [] (.int (0 : Int32)) 18)
  obtain ⟨cl102, Ar102, qa102, Sa102, Na102, Ha102, Ga102⟩ := id V_b101
  have hin102 : ¬ ((0 : Int32) < 0 ∨ cl102.slots.size ≤ ((0 : Int32)).toNatClampNeg) := inb_of Sa102 ⟨by decide, by decide⟩
  obtain ⟨T102, h102, X102, e102, W102, st102⟩ := stI X101 hx hZ e101 Ar102 (j := (0 : Int32)) hin102 (g := (mkF m 7 #[.val (.int p0), .val (.int p1), .val (.int p2), .val (.int p3), .unset, .unset, .unset, .unset, .unset, .unset, .unset, .unset, .unset, .unset, .unset, .unset, .unset, .unset, .unset, .unset, .unset, .unset, .unset, .unset, .unset, .unset, .unset] [(.int (0 : Int32)), (.int (0 : Int32)), (.ref b101), (.ref b101)])) rfl rfl (hb hby at_7)
  have V_b101_102 := Arv.set Ar102 qa102 Sa102 Na102 Ha102 Ga102 rfl W102 0 rfl (Nat.le_of_ble_eq_true rfl)
  have V102 : Arv Z h102 b101 k101 .int (18 : Int32) [(.int (0 : Int32)), (.int (0 : Int32)), (.int (0 : Int32)), (.int (0 : Int32)), (.int (0 : Int32)), (.int (0 : Int32)), (.int (0 : Int32)), (.int (0 : Int32)), (.int (0 : Int32)), (.int (0 : Int32)), (.int (0 : Int32)), (.int (0 : Int32)), (.int (0 : Int32)), (.int (0 : Int32)), (.int (0 : Int32)), (.int (0 : Int32)), (.int (0 : Int32)), (.int (0 : Int32))] (.int (0 : Int32)) := V_b101_102
  have K102 : Keep h0 h102 [] := K101.wr W102 (Or.inr sz_b101)
  have N102 := Fr.snoc X102 N0 g_b101
  obtain ⟨cl103, Ar103, qa103, Sa103, Na103, Ha103, Ga103⟩ := id V102
  have hin103 : ¬ ((1 : Int32) < 0 ∨ cl103.slots.size ≤ ((1 : Int32)).toNatClampNeg) := inb_of Sa103 ⟨by decide, by decide⟩
  obtain ⟨T103, h103, X103, e103, W103, st103⟩ := stI X102 hx hZ e102 Ar103 (j := (1 : Int32)) hin103 (g := (mkF m 11 #[.val (.int p0), .val (.int p1), .val (.int p2), .val (.int p3), .unset, .unset, .unset, .unset, .unset, .unset, .unset, .unset, .unset, .unset, .unset, .unset, .unset, .unset, .unset, .unset, .unset, .unset, .unset, .unset, .unset, .unset, .unset] [(.int (1 : Int32)), (.int (1 : Int32)), (.ref b101), (.ref b101)])) rfl rfl (hb hby at_11)
  have V_b101_103 := Arv.set Ar103 qa103 Sa103 Na103 Ha103 Ga103 rfl W103 1 rfl (Nat.le_of_ble_eq_true rfl)
  have V103 : Arv Z h103 b101 k101 .int (18 : Int32) [(.int (0 : Int32)), (.int (1 : Int32)), (.int (0 : Int32)), (.int (0 : Int32)), (.int (0 : Int32)), (.int (0 : Int32)), (.int (0 : Int32)), (.int (0 : Int32)), (.int (0 : Int32)), (.int (0 : Int32)), (.int (0 : Int32)), (.int (0 : Int32)), (.int (0 : Int32)), (.int (0 : Int32)), (.int (0 : Int32)), (.int (0 : Int32)), (.int (0 : Int32)), (.int (0 : Int32))] (.int (0 : Int32)) := V_b101_103
  have K103 : Keep h0 h103 [] := K102.wr W103 (Or.inr sz_b101)
  have N103 := Fr.snoc X103 N102 g_b101
  obtain ⟨cl104, Ar104, qa104, Sa104, Na104, Ha104, Ga104⟩ := id V103
  have hin104 : ¬ ((2 : Int32) < 0 ∨ cl104.slots.size ≤ ((2 : Int32)).toNatClampNeg) := inb_of Sa104 ⟨by decide, by decide⟩
  obtain ⟨T104, h104, X104, e104, W104, st104⟩ := stI X103 hx hZ e103 Ar104 (j := (2 : Int32)) hin104 (g := (mkF m 15 #[.val (.int p0), .val (.int p1), .val (.int p2), .val (.int p3), .unset, .unset, .unset, .unset, .unset, .unset, .unset, .unset, .unset, .unset, .unset, .unset, .unset, .unset, .unset, .unset, .unset, .unset, .unset, .unset, .unset, .unset, .unset] [(.int (2 : Int32)), (.int (2 : Int32)), (.ref b101), (.ref b101)])) rfl rfl (hb hby at_15)
  have V_b101_104 := Arv.set Ar104 qa104 Sa104 Na104 Ha104 Ga104 rfl W104 2 rfl (Nat.le_of_ble_eq_true rfl)
  have V104 : Arv Z h104 b101 k101 .int (18 : Int32) [(.int (0 : Int32)), (.int (1 : Int32)), (.int (2 : Int32)), (.int (0 : Int32)), (.int (0 : Int32)), (.int (0 : Int32)), (.int (0 : Int32)), (.int (0 : Int32)), (.int (0 : Int32)), (.int (0 : Int32)), (.int (0 : Int32)), (.int (0 : Int32)), (.int (0 : Int32)), (.int (0 : Int32)), (.int (0 : Int32)), (.int (0 : Int32)), (.int (0 : Int32)), (.int (0 : Int32))] (.int (0 : Int32)) := V_b101_104
  have K104 : Keep h0 h104 [] := K103.wr W104 (Or.inr sz_b101)
  have N104 := Fr.snoc X104 N103 g_b101
  obtain ⟨cl105, Ar105, qa105, Sa105, Na105, Ha105, Ga105⟩ := id V104
  have hin105 : ¬ ((3 : Int32) < 0 ∨ cl105.slots.size ≤ ((3 : Int32)).toNatClampNeg) := inb_of Sa105 ⟨by decide, by decide⟩
  obtain ⟨T105, h105, X105, e105, W105, st105⟩ := stI X104 hx hZ e104 Ar105 (j := (3 : Int32)) hin105 (g := (mkF m 19 #[.val (.int p0), .val (.int p1), .val (.int p2), .val (.int p3), .unset, .unset, .unset, .unset, .unset, .unset, .unset, .unset, .unset, .unset, .unset, .unset, .unset, .unset, .unset, .unset, .unset, .unset, .unset, .unset, .unset, .unset, .unset] [(.int (0 : Int32)), (.int (3 : Int32)), (.ref b101), (.ref b101)])) rfl rfl (hb hby at_19)
  have V_b101_105 := Arv.set Ar105 qa105 Sa105 Na105 Ha105 Ga105 rfl W105 3 rfl (Nat.le_of_ble_eq_true rfl)
  have V105 : Arv Z h105 b101 k101 .int (18 : Int32) [(.int (0 : Int32)), (.int (1 : Int32)), (.int (2 : Int32)), (.int (0 : Int32)), (.int (0 : Int32)), (.int (0 : Int32)), (.int (0 : Int32)), (.int (0 : Int32)), (.int (0 : Int32)), (.int (0 : Int32)), (.int (0 : Int32)), (.int (0 : Int32)), (.int (0 : Int32)), (.int (0 : Int32)), (.int (0 : Int32)), (.int (0 : Int32)), (.int (0 : Int32)), (.int (0 : Int32))] (.int (0 : Int32)) := V_b101_105
  have K105 : Keep h0 h105 [] := K104.wr W105 (Or.inr sz_b101)
  have N105 := Fr.snoc X105 N104 g_b101
  obtain ⟨cl106, Ar106, qa106, Sa106, Na106, Ha106, Ga106⟩ := id V105
  have hin106 : ¬ ((4 : Int32) < 0 ∨ cl106.slots.size ≤ ((4 : Int32)).toNatClampNeg) := inb_of Sa106 ⟨by decide, by decide⟩
  obtain ⟨T106, h106, X106, e106, W106, st106⟩ := stI X105 hx hZ e105 Ar106 (j := (4 : Int32)) hin106 (g := (mkF m 23 #[.val (.int p0), .val (.int p1), .val (.int p2), .val (.int p3), .unset, .unset, .unset, .unset, .unset, .unset, .unset, .unset, .unset, .unset, .unset, .unset, .unset, .unset, .unset, .unset, .unset, .unset, .unset, .unset, .unset, .unset, .unset] [(.int (2 : Int32)), (.int (4 : Int32)), (.ref b101), (.ref b101)])) rfl rfl (hb hby at_23)
  have V_b101_106 := Arv.set Ar106 qa106 Sa106 Na106 Ha106 Ga106 rfl W106 4 rfl (Nat.le_of_ble_eq_true rfl)
  have V106 : Arv Z h106 b101 k101 .int (18 : Int32) [(.int (0 : Int32)), (.int (1 : Int32)), (.int (2 : Int32)), (.int (0 : Int32)), (.int (2 : Int32)), (.int (0 : Int32)), (.int (0 : Int32)), (.int (0 : Int32)), (.int (0 : Int32)), (.int (0 : Int32)), (.int (0 : Int32)), (.int (0 : Int32)), (.int (0 : Int32)), (.int (0 : Int32)), (.int (0 : Int32)), (.int (0 : Int32)), (.int (0 : Int32)), (.int (0 : Int32))] (.int (0 : Int32)) := V_b101_106
  have K106 : Keep h0 h106 [] := K105.wr W106 (Or.inr sz_b101)
  have N106 := Fr.snoc X106 N105 g_b101
  obtain ⟨cl107, Ar107, qa107, Sa107, Na107, Ha107, Ga107⟩ := id V106
  have hin107 : ¬ ((5 : Int32) < 0 ∨ cl107.slots.size ≤ ((5 : Int32)).toNatClampNeg) := inb_of Sa107 ⟨by decide, by decide⟩
  obtain ⟨T107, h107, X107, e107, W107, st107⟩ := stI X106 hx hZ e106 Ar107 (j := (5 : Int32)) hin107 (g := (mkF m 27 #[.val (.int p0), .val (.int p1), .val (.int p2), .val (.int p3), .unset, .unset, .unset, .unset, .unset, .unset, .unset, .unset, .unset, .unset, .unset, .unset, .unset, .unset, .unset, .unset, .unset, .unset, .unset, .unset, .unset, .unset, .unset] [(.int (1 : Int32)), (.int (5 : Int32)), (.ref b101), (.ref b101)])) rfl rfl (hb hby at_27)
  have V_b101_107 := Arv.set Ar107 qa107 Sa107 Na107 Ha107 Ga107 rfl W107 5 rfl (Nat.le_of_ble_eq_true rfl)
  have V107 : Arv Z h107 b101 k101 .int (18 : Int32) [(.int (0 : Int32)), (.int (1 : Int32)), (.int (2 : Int32)), (.int (0 : Int32)), (.int (2 : Int32)), (.int (1 : Int32)), (.int (0 : Int32)), (.int (0 : Int32)), (.int (0 : Int32)), (.int (0 : Int32)), (.int (0 : Int32)), (.int (0 : Int32)), (.int (0 : Int32)), (.int (0 : Int32)), (.int (0 : Int32)), (.int (0 : Int32)), (.int (0 : Int32)), (.int (0 : Int32))] (.int (0 : Int32)) := V_b101_107
  have K107 : Keep h0 h107 [] := K106.wr W107 (Or.inr sz_b101)
  have N107 := Fr.snoc X107 N106 g_b101
  obtain ⟨cl108, Ar108, qa108, Sa108, Na108, Ha108, Ga108⟩ := id V107
  have hin108 : ¬ ((6 : Int32) < 0 ∨ cl108.slots.size ≤ ((6 : Int32)).toNatClampNeg) := inb_of Sa108 ⟨by decide, by decide⟩
  obtain ⟨T108, h108, X108, e108, W108, st108⟩ := stI X107 hx hZ e107 Ar108 (j := (6 : Int32)) hin108 (g := (mkF m 32 #[.val (.int p0), .val (.int p1), .val (.int p2), .val (.int p3), .unset, .unset, .unset, .unset, .unset, .unset, .unset, .unset, .unset, .unset, .unset, .unset, .unset, .unset, .unset, .unset, .unset, .unset, .unset, .unset, .unset, .unset, .unset] [(.int (1 : Int32)), (.int (6 : Int32)), (.ref b101), (.ref b101)])) rfl rfl (hb hby at_32)
  have V_b101_108 := Arv.set Ar108 qa108 Sa108 Na108 Ha108 Ga108 rfl W108 6 rfl (Nat.le_of_ble_eq_true rfl)
  have V108 : Arv Z h108 b101 k101 .int (18 : Int32) [(.int (0 : Int32)), (.int (1 : Int32)), (.int (2 : Int32)), (.int (0 : Int32)), (.int (2 : Int32)), (.int (1 : Int32)), (.int (1 : Int32)), (.int (0 : Int32)), (.int (0 : Int32)), (.int (0 : Int32)), (.int (0 : Int32)), (.int (0 : Int32)), (.int (0 : Int32)), (.int (0 : Int32)), (.int (0 : Int32)), (.int (0 : Int32)), (.int (0 : Int32)), (.int (0 : Int32))] (.int (0 : Int32)) := V_b101_108
  have K108 : Keep h0 h108 [] := K107.wr W108 (Or.inr sz_b101)
  have N108 := Fr.snoc X108 N107 g_b101
  refine Gl.pre (S' := T108.setTop (mkF m 34 #[.val (.int p0), .val (.int p1), .val (.int p2), .val (.int p3), .unset, .unset, .unset, .unset, .unset, .unset, .unset, .unset, .unset, .unset, .unset, .unset, .unset, .unset, .unset, .unset, .unset, .unset, .unset, .unset, .unset, .unset, .unset] [(.ref b101), (.ref b101)])) (fun t kt => ?_) ?_
  · show Steps p.tables e below (s₁.setTop (mkF m 0 #[.val (.int p0), .val (.int p1), .val (.int p2), .val (.int p3), .unset, .unset, .unset, .unset, .unset, .unset, .unset, .unset, .unset, .unset, .unset, .unset, .unset, .unset, .unset, .unset, .unset, .unset, .unset, .unset, .unset, .unset, .unset] [])) _
    refine XS.bipush X0.here hx rfl (hb hby at_0) ?_
    show Steps p.tables e below (s₁.setTop (mkF m 2 #[.val (.int p0), .val (.int p1), .val (.int p2), .val (.int p3), .unset, .unset, .unset, .unset, .unset, .unset, .unset, .unset, .unset, .unset, .unset, .unset, .unset, .unset, .unset, .unset, .unset, .unset, .unset, .unset, .unset, .unset, .unset] [(.int (18 : Int32))])) _
    refine st101 _ ?_
    show Steps p.tables e below (T101.setTop (mkF m 4 #[.val (.int p0), .val (.int p1), .val (.int p2), .val (.int p3), .unset, .unset, .unset, .unset, .unset, .unset, .unset, .unset, .unset, .unset, .unset, .unset, .unset, .unset, .unset, .unset, .unset, .unset, .unset, .unset, .unset, .unset, .unset] [(.ref b101)])) _
    refine XS.dup X101.here hx rfl (hb hby at_4) rfl rfl ?_
    show Steps p.tables e below (T101.setTop (mkF m 5 #[.val (.int p0), .val (.int p1), .val (.int p2), .val (.int p3), .unset, .unset, .unset, .unset, .unset, .unset, .unset, .unset, .unset, .unset, .unset, .unset, .unset, .unset, .unset, .unset, .unset, .unset, .unset, .unset, .unset, .unset, .unset] [(.ref b101), (.ref b101)])) _
    refine XS.iconst X101.here hx rfl (hb hby at_5) ?_
    show Steps p.tables e below (T101.setTop (mkF m 6 #[.val (.int p0), .val (.int p1), .val (.int p2), .val (.int p3), .unset, .unset, .unset, .unset, .unset, .unset, .unset, .unset, .unset, .unset, .unset, .unset, .unset, .unset, .unset, .unset, .unset, .unset, .unset, .unset, .unset, .unset, .unset] [(.int (0 : Int32)), (.ref b101), (.ref b101)])) _
    refine XS.iconst X101.here hx rfl (hb hby at_6) ?_
    show Steps p.tables e below (T101.setTop (mkF m 7 #[.val (.int p0), .val (.int p1), .val (.int p2), .val (.int p3), .unset, .unset, .unset, .unset, .unset, .unset, .unset, .unset, .unset, .unset, .unset, .unset, .unset, .unset, .unset, .unset, .unset, .unset, .unset, .unset, .unset, .unset, .unset] [(.int (0 : Int32)), (.int (0 : Int32)), (.ref b101), (.ref b101)])) _
    refine st102 _ ?_
    show Steps p.tables e below (T102.setTop (mkF m 8 #[.val (.int p0), .val (.int p1), .val (.int p2), .val (.int p3), .unset, .unset, .unset, .unset, .unset, .unset, .unset, .unset, .unset, .unset, .unset, .unset, .unset, .unset, .unset, .unset, .unset, .unset, .unset, .unset, .unset, .unset, .unset] [(.ref b101)])) _
    refine XS.dup X102.here hx rfl (hb hby at_8) rfl rfl ?_
    show Steps p.tables e below (T102.setTop (mkF m 9 #[.val (.int p0), .val (.int p1), .val (.int p2), .val (.int p3), .unset, .unset, .unset, .unset, .unset, .unset, .unset, .unset, .unset, .unset, .unset, .unset, .unset, .unset, .unset, .unset, .unset, .unset, .unset, .unset, .unset, .unset, .unset] [(.ref b101), (.ref b101)])) _
    refine XS.iconst X102.here hx rfl (hb hby at_9) ?_
    show Steps p.tables e below (T102.setTop (mkF m 10 #[.val (.int p0), .val (.int p1), .val (.int p2), .val (.int p3), .unset, .unset, .unset, .unset, .unset, .unset, .unset, .unset, .unset, .unset, .unset, .unset, .unset, .unset, .unset, .unset, .unset, .unset, .unset, .unset, .unset, .unset, .unset] [(.int (1 : Int32)), (.ref b101), (.ref b101)])) _
    refine XS.iconst X102.here hx rfl (hb hby at_10) ?_
    show Steps p.tables e below (T102.setTop (mkF m 11 #[.val (.int p0), .val (.int p1), .val (.int p2), .val (.int p3), .unset, .unset, .unset, .unset, .unset, .unset, .unset, .unset, .unset, .unset, .unset, .unset, .unset, .unset, .unset, .unset, .unset, .unset, .unset, .unset, .unset, .unset, .unset] [(.int (1 : Int32)), (.int (1 : Int32)), (.ref b101), (.ref b101)])) _
    refine st103 _ ?_
    show Steps p.tables e below (T103.setTop (mkF m 12 #[.val (.int p0), .val (.int p1), .val (.int p2), .val (.int p3), .unset, .unset, .unset, .unset, .unset, .unset, .unset, .unset, .unset, .unset, .unset, .unset, .unset, .unset, .unset, .unset, .unset, .unset, .unset, .unset, .unset, .unset, .unset] [(.ref b101)])) _
    refine XS.dup X103.here hx rfl (hb hby at_12) rfl rfl ?_
    show Steps p.tables e below (T103.setTop (mkF m 13 #[.val (.int p0), .val (.int p1), .val (.int p2), .val (.int p3), .unset, .unset, .unset, .unset, .unset, .unset, .unset, .unset, .unset, .unset, .unset, .unset, .unset, .unset, .unset, .unset, .unset, .unset, .unset, .unset, .unset, .unset, .unset] [(.ref b101), (.ref b101)])) _
    refine XS.iconst X103.here hx rfl (hb hby at_13) ?_
    show Steps p.tables e below (T103.setTop (mkF m 14 #[.val (.int p0), .val (.int p1), .val (.int p2), .val (.int p3), .unset, .unset, .unset, .unset, .unset, .unset, .unset, .unset, .unset, .unset, .unset, .unset, .unset, .unset, .unset, .unset, .unset, .unset, .unset, .unset, .unset, .unset, .unset] [(.int (2 : Int32)), (.ref b101), (.ref b101)])) _
    refine XS.iconst X103.here hx rfl (hb hby at_14) ?_
    show Steps p.tables e below (T103.setTop (mkF m 15 #[.val (.int p0), .val (.int p1), .val (.int p2), .val (.int p3), .unset, .unset, .unset, .unset, .unset, .unset, .unset, .unset, .unset, .unset, .unset, .unset, .unset, .unset, .unset, .unset, .unset, .unset, .unset, .unset, .unset, .unset, .unset] [(.int (2 : Int32)), (.int (2 : Int32)), (.ref b101), (.ref b101)])) _
    refine st104 _ ?_
    show Steps p.tables e below (T104.setTop (mkF m 16 #[.val (.int p0), .val (.int p1), .val (.int p2), .val (.int p3), .unset, .unset, .unset, .unset, .unset, .unset, .unset, .unset, .unset, .unset, .unset, .unset, .unset, .unset, .unset, .unset, .unset, .unset, .unset, .unset, .unset, .unset, .unset] [(.ref b101)])) _
    refine XS.dup X104.here hx rfl (hb hby at_16) rfl rfl ?_
    show Steps p.tables e below (T104.setTop (mkF m 17 #[.val (.int p0), .val (.int p1), .val (.int p2), .val (.int p3), .unset, .unset, .unset, .unset, .unset, .unset, .unset, .unset, .unset, .unset, .unset, .unset, .unset, .unset, .unset, .unset, .unset, .unset, .unset, .unset, .unset, .unset, .unset] [(.ref b101), (.ref b101)])) _
    refine XS.iconst X104.here hx rfl (hb hby at_17) ?_
    show Steps p.tables e below (T104.setTop (mkF m 18 #[.val (.int p0), .val (.int p1), .val (.int p2), .val (.int p3), .unset, .unset, .unset, .unset, .unset, .unset, .unset, .unset, .unset, .unset, .unset, .unset, .unset, .unset, .unset, .unset, .unset, .unset, .unset, .unset, .unset, .unset, .unset] [(.int (3 : Int32)), (.ref b101), (.ref b101)])) _
    refine XS.iconst X104.here hx rfl (hb hby at_18) ?_
    show Steps p.tables e below (T104.setTop (mkF m 19 #[.val (.int p0), .val (.int p1), .val (.int p2), .val (.int p3), .unset, .unset, .unset, .unset, .unset, .unset, .unset, .unset, .unset, .unset, .unset, .unset, .unset, .unset, .unset, .unset, .unset, .unset, .unset, .unset, .unset, .unset, .unset] [(.int (0 : Int32)), (.int (3 : Int32)), (.ref b101), (.ref b101)])) _
    refine st105 _ ?_
    show Steps p.tables e below (T105.setTop (mkF m 20 #[.val (.int p0), .val (.int p1), .val (.int p2), .val (.int p3), .unset, .unset, .unset, .unset, .unset, .unset, .unset, .unset, .unset, .unset, .unset, .unset, .unset, .unset, .unset, .unset, .unset, .unset, .unset, .unset, .unset, .unset, .unset] [(.ref b101)])) _
    refine XS.dup X105.here hx rfl (hb hby at_20) rfl rfl ?_
    show Steps p.tables e below (T105.setTop (mkF m 21 #[.val (.int p0), .val (.int p1), .val (.int p2), .val (.int p3), .unset, .unset, .unset, .unset, .unset, .unset, .unset, .unset, .unset, .unset, .unset, .unset, .unset, .unset, .unset, .unset, .unset, .unset, .unset, .unset, .unset, .unset, .unset] [(.ref b101), (.ref b101)])) _
    refine XS.iconst X105.here hx rfl (hb hby at_21) ?_
    show Steps p.tables e below (T105.setTop (mkF m 22 #[.val (.int p0), .val (.int p1), .val (.int p2), .val (.int p3), .unset, .unset, .unset, .unset, .unset, .unset, .unset, .unset, .unset, .unset, .unset, .unset, .unset, .unset, .unset, .unset, .unset, .unset, .unset, .unset, .unset, .unset, .unset] [(.int (4 : Int32)), (.ref b101), (.ref b101)])) _
    refine XS.iconst X105.here hx rfl (hb hby at_22) ?_
    show Steps p.tables e below (T105.setTop (mkF m 23 #[.val (.int p0), .val (.int p1), .val (.int p2), .val (.int p3), .unset, .unset, .unset, .unset, .unset, .unset, .unset, .unset, .unset, .unset, .unset, .unset, .unset, .unset, .unset, .unset, .unset, .unset, .unset, .unset, .unset, .unset, .unset] [(.int (2 : Int32)), (.int (4 : Int32)), (.ref b101), (.ref b101)])) _
    refine st106 _ ?_
    show Steps p.tables e below (T106.setTop (mkF m 24 #[.val (.int p0), .val (.int p1), .val (.int p2), .val (.int p3), .unset, .unset, .unset, .unset, .unset, .unset, .unset, .unset, .unset, .unset, .unset, .unset, .unset, .unset, .unset, .unset, .unset, .unset, .unset, .unset, .unset, .unset, .unset] [(.ref b101)])) _
    refine XS.dup X106.here hx rfl (hb hby at_24) rfl rfl ?_
    show Steps p.tables e below (T106.setTop (mkF m 25 #[.val (.int p0), .val (.int p1), .val (.int p2), .val (.int p3), .unset, .unset, .unset, .unset, .unset, .unset, .unset, .unset, .unset, .unset, .unset, .unset, .unset, .unset, .unset, .unset, .unset, .unset, .unset, .unset, .unset, .unset, .unset] [(.ref b101), (.ref b101)])) _
    refine XS.iconst X106.here hx rfl (hb hby at_25) ?_
    show Steps p.tables e below (T106.setTop (mkF m 26 #[.val (.int p0), .val (.int p1), .val (.int p2), .val (.int p3), .unset, .unset, .unset, .unset, .unset, .unset, .unset, .unset, .unset, .unset, .unset, .unset, .unset, .unset, .unset, .unset, .unset, .unset, .unset, .unset, .unset, .unset, .unset] [(.int (5 : Int32)), (.ref b101), (.ref b101)])) _
    refine XS.iconst X106.here hx rfl (hb hby at_26) ?_
    show Steps p.tables e below (T106.setTop (mkF m 27 #[.val (.int p0), .val (.int p1), .val (.int p2), .val (.int p3), .unset, .unset, .unset, .unset, .unset, .unset, .unset, .unset, .unset, .unset, .unset, .unset, .unset, .unset, .unset, .unset, .unset, .unset, .unset, .unset, .unset, .unset, .unset] [(.int (1 : Int32)), (.int (5 : Int32)), (.ref b101), (.ref b101)])) _
    refine st107 _ ?_
    show Steps p.tables e below (T107.setTop (mkF m 28 #[.val (.int p0), .val (.int p1), .val (.int p2), .val (.int p3), .unset, .unset, .unset, .unset, .unset, .unset, .unset, .unset, .unset, .unset, .unset, .unset, .unset, .unset, .unset, .unset, .unset, .unset, .unset, .unset, .unset, .unset, .unset] [(.ref b101)])) _
    refine XS.dup X107.here hx rfl (hb hby at_28) rfl rfl ?_
    show Steps p.tables e below (T107.setTop (mkF m 29 #[.val (.int p0), .val (.int p1), .val (.int p2), .val (.int p3), .unset, .unset, .unset, .unset, .unset, .unset, .unset, .unset, .unset, .unset, .unset, .unset, .unset, .unset, .unset, .unset, .unset, .unset, .unset, .unset, .unset, .unset, .unset] [(.ref b101), (.ref b101)])) _
    refine XS.bipush X107.here hx rfl (hb hby at_29) ?_
    show Steps p.tables e below (T107.setTop (mkF m 31 #[.val (.int p0), .val (.int p1), .val (.int p2), .val (.int p3), .unset, .unset, .unset, .unset, .unset, .unset, .unset, .unset, .unset, .unset, .unset, .unset, .unset, .unset, .unset, .unset, .unset, .unset, .unset, .unset, .unset, .unset, .unset] [(.int (6 : Int32)), (.ref b101), (.ref b101)])) _
    refine XS.iconst X107.here hx rfl (hb hby at_31) ?_
    show Steps p.tables e below (T107.setTop (mkF m 32 #[.val (.int p0), .val (.int p1), .val (.int p2), .val (.int p3), .unset, .unset, .unset, .unset, .unset, .unset, .unset, .unset, .unset, .unset, .unset, .unset, .unset, .unset, .unset, .unset, .unset, .unset, .unset, .unset, .unset, .unset, .unset] [(.int (1 : Int32)), (.int (6 : Int32)), (.ref b101), (.ref b101)])) _
    refine st108 _ ?_
    show Steps p.tables e below (T108.setTop (mkF m 33 #[.val (.int p0), .val (.int p1), .val (.int p2), .val (.int p3), .unset, .unset, .unset, .unset, .unset, .unset, .unset, .unset, .unset, .unset, .unset, .unset, .unset, .unset, .unset, .unset, .unset, .unset, .unset, .unset, .unset, .unset, .unset] [(.ref b101)])) _
    refine XS.dup X108.here hx rfl (hb hby at_33) rfl rfl ?_
    exact kt
  obtain ⟨cl109, Ar109, qa109, Sa109, Na109, Ha109, Ga109⟩ := id V108
  have hin109 : ¬ ((7 : Int32) < 0 ∨ cl109.slots.size ≤ ((7 : Int32)).toNatClampNeg) := inb_of Sa109 ⟨by decide, by decide⟩
  obtain ⟨T109, h109, X109, e109, W109, st109⟩ := stI X108 hx hZ e108 Ar109 (j := (7 : Int32)) hin109 (g := (mkF m 37 #[.val (.int p0), .val (.int p1), .val (.int p2), .val (.int p3), .unset, .unset, .unset, .unset, .unset, .unset, .unset, .unset, .unset, .unset, .unset, .unset, .unset, .unset, .unset, .unset, .unset, .unset, .unset, .unset, .unset, .unset, .unset] [(.int (0 : Int32)), (.int (7 : Int32)), (.ref b101), (.ref b101)])) rfl rfl (hb hby at_37)
  have V_b101_109 := Arv.set Ar109 qa109 Sa109 Na109 Ha109 Ga109 rfl W109 7 rfl (Nat.le_of_ble_eq_true rfl)
  have V109 : Arv Z h109 b101 k101 .int (18 : Int32) [(.int (0 : Int32)), (.int (1 : Int32)), (.int (2 : Int32)), (.int (0 : Int32)), (.int (2 : Int32)), (.int (1 : Int32)), (.int (1 : Int32)), (.int (0 : Int32)), (.int (0 : Int32)), (.int (0 : Int32)), (.int (0 : Int32)), (.int (0 : Int32)), (.int (0 : Int32)), (.int (0 : Int32)), (.int (0 : Int32)), (.int (0 : Int32)), (.int (0 : Int32)), (.int (0 : Int32))] (.int (0 : Int32)) := V_b101_109
  have K109 : Keep h0 h109 [] := K108.wr W109 (Or.inr sz_b101)
  have N109 := Fr.snoc X109 N108 g_b101
  obtain ⟨cl110, Ar110, qa110, Sa110, Na110, Ha110, Ga110⟩ := id V109
  have hin110 : ¬ ((8 : Int32) < 0 ∨ cl110.slots.size ≤ ((8 : Int32)).toNatClampNeg) := inb_of Sa110 ⟨by decide, by decide⟩
  obtain ⟨T110, h110, X110, e110, W110, st110⟩ := stI X109 hx hZ e109 Ar110 (j := (8 : Int32)) hin110 (g := (mkF m 42 #[.val (.int p0), .val (.int p1), .val (.int p2), .val (.int p3), .unset, .unset, .unset, .unset, .unset, .unset, .unset, .unset, .unset, .unset, .unset, .unset, .unset, .unset, .unset, .unset, .unset, .unset, .unset, .unset, .unset, .unset, .unset] [(.int (2 : Int32)), (.int (8 : Int32)), (.ref b101), (.ref b101)])) rfl rfl (hb hby at_42)
  have V_b101_110 := Arv.set Ar110 qa110 Sa110 Na110 Ha110 Ga110 rfl W110 8 rfl (Nat.le_of_ble_eq_true rfl)
  have V110 : Arv Z h110 b101 k101 .int (18 : Int32) [(.int (0 : Int32)), (.int (1 : Int32)), (.int (2 : Int32)), (.int (0 : Int32)), (.int (2 : Int32)), (.int (1 : Int32)), (.int (1 : Int32)), (.int (0 : Int32)), (.int (2 : Int32)), (.int (0 : Int32)), (.int (0 : Int32)), (.int (0 : Int32)), (.int (0 : Int32)), (.int (0 : Int32)), (.int (0 : Int32)), (.int (0 : Int32)), (.int (0 : Int32)), (.int (0 : Int32))] (.int (0 : Int32)) := V_b101_110
  have K110 : Keep h0 h110 [] := K109.wr W110 (Or.inr sz_b101)
  have N110 := Fr.snoc X110 N109 g_b101
  obtain ⟨cl111, Ar111, qa111, Sa111, Na111, Ha111, Ga111⟩ := id V110
  have hin111 : ¬ ((9 : Int32) < 0 ∨ cl111.slots.size ≤ ((9 : Int32)).toNatClampNeg) := inb_of Sa111 ⟨by decide, by decide⟩
  obtain ⟨T111, h111, X111, e111, W111, st111⟩ := stI X110 hx hZ e110 Ar111 (j := (9 : Int32)) hin111 (g := (mkF m 47 #[.val (.int p0), .val (.int p1), .val (.int p2), .val (.int p3), .unset, .unset, .unset, .unset, .unset, .unset, .unset, .unset, .unset, .unset, .unset, .unset, .unset, .unset, .unset, .unset, .unset, .unset, .unset, .unset, .unset, .unset, .unset] [(.int (1 : Int32)), (.int (9 : Int32)), (.ref b101), (.ref b101)])) rfl rfl (hb hby at_47)
  have V_b101_111 := Arv.set Ar111 qa111 Sa111 Na111 Ha111 Ga111 rfl W111 9 rfl (Nat.le_of_ble_eq_true rfl)
  have V111 : Arv Z h111 b101 k101 .int (18 : Int32) [(.int (0 : Int32)), (.int (1 : Int32)), (.int (2 : Int32)), (.int (0 : Int32)), (.int (2 : Int32)), (.int (1 : Int32)), (.int (1 : Int32)), (.int (0 : Int32)), (.int (2 : Int32)), (.int (1 : Int32)), (.int (0 : Int32)), (.int (0 : Int32)), (.int (0 : Int32)), (.int (0 : Int32)), (.int (0 : Int32)), (.int (0 : Int32)), (.int (0 : Int32)), (.int (0 : Int32))] (.int (0 : Int32)) := V_b101_111
  have K111 : Keep h0 h111 [] := K110.wr W111 (Or.inr sz_b101)
  have N111 := Fr.snoc X111 N110 g_b101
  obtain ⟨cl112, Ar112, qa112, Sa112, Na112, Ha112, Ga112⟩ := id V111
  have hin112 : ¬ ((10 : Int32) < 0 ∨ cl112.slots.size ≤ ((10 : Int32)).toNatClampNeg) := inb_of Sa112 ⟨by decide, by decide⟩
  obtain ⟨T112, h112, X112, e112, W112, st112⟩ := stI X111 hx hZ e111 Ar112 (j := (10 : Int32)) hin112 (g := (mkF m 52 #[.val (.int p0), .val (.int p1), .val (.int p2), .val (.int p3), .unset, .unset, .unset, .unset, .unset, .unset, .unset, .unset, .unset, .unset, .unset, .unset, .unset, .unset, .unset, .unset, .unset, .unset, .unset, .unset, .unset, .unset, .unset] [(.int (2 : Int32)), (.int (10 : Int32)), (.ref b101), (.ref b101)])) rfl rfl (hb hby at_52)
  have V_b101_112 := Arv.set Ar112 qa112 Sa112 Na112 Ha112 Ga112 rfl W112 10 rfl (Nat.le_of_ble_eq_true rfl)
  have V112 : Arv Z h112 b101 k101 .int (18 : Int32) [(.int (0 : Int32)), (.int (1 : Int32)), (.int (2 : Int32)), (.int (0 : Int32)), (.int (2 : Int32)), (.int (1 : Int32)), (.int (1 : Int32)), (.int (0 : Int32)), (.int (2 : Int32)), (.int (1 : Int32)), (.int (2 : Int32)), (.int (0 : Int32)), (.int (0 : Int32)), (.int (0 : Int32)), (.int (0 : Int32)), (.int (0 : Int32)), (.int (0 : Int32)), (.int (0 : Int32))] (.int (0 : Int32)) := V_b101_112
  have K112 : Keep h0 h112 [] := K111.wr W112 (Or.inr sz_b101)
  have N112 := Fr.snoc X112 N111 g_b101
  obtain ⟨cl113, Ar113, qa113, Sa113, Na113, Ha113, Ga113⟩ := id V112
  have hin113 : ¬ ((11 : Int32) < 0 ∨ cl113.slots.size ≤ ((11 : Int32)).toNatClampNeg) := inb_of Sa113 ⟨by decide, by decide⟩
  obtain ⟨T113, h113, X113, e113, W113, st113⟩ := stI X112 hx hZ e112 Ar113 (j := (11 : Int32)) hin113 (g := (mkF m 57 #[.val (.int p0), .val (.int p1), .val (.int p2), .val (.int p3), .unset, .unset, .unset, .unset, .unset, .unset, .unset, .unset, .unset, .unset, .unset, .unset, .unset, .unset, .unset, .unset, .unset, .unset, .unset, .unset, .unset, .unset, .unset] [(.int (0 : Int32)), (.int (11 : Int32)), (.ref b101), (.ref b101)])) rfl rfl (hb hby at_57)
  have V_b101_113 := Arv.set Ar113 qa113 Sa113 Na113 Ha113 Ga113 rfl W113 11 rfl (Nat.le_of_ble_eq_true rfl)
  have V113 : Arv Z h113 b101 k101 .int (18 : Int32) [(.int (0 : Int32)), (.int (1 : Int32)), (.int (2 : Int32)), (.int (0 : Int32)), (.int (2 : Int32)), (.int (1 : Int32)), (.int (1 : Int32)), (.int (0 : Int32)), (.int (2 : Int32)), (.int (1 : Int32)), (.int (2 : Int32)), (.int (0 : Int32)), (.int (0 : Int32)), (.int (0 : Int32)), (.int (0 : Int32)), (.int (0 : Int32)), (.int (0 : Int32)), (.int (0 : Int32))] (.int (0 : Int32)) := V_b101_113
  have K113 : Keep h0 h113 [] := K112.wr W113 (Or.inr sz_b101)
  have N113 := Fr.snoc X113 N112 g_b101
  obtain ⟨cl114, Ar114, qa114, Sa114, Na114, Ha114, Ga114⟩ := id V113
  have hin114 : ¬ ((12 : Int32) < 0 ∨ cl114.slots.size ≤ ((12 : Int32)).toNatClampNeg) := inb_of Sa114 ⟨by decide, by decide⟩
  obtain ⟨T114, h114, X114, e114, W114, st114⟩ := stI X113 hx hZ e113 Ar114 (j := (12 : Int32)) hin114 (g := (mkF m 62 #[.val (.int p0), .val (.int p1), .val (.int p2), .val (.int p3), .unset, .unset, .unset, .unset, .unset, .unset, .unset, .unset, .unset, .unset, .unset, .unset, .unset, .unset, .unset, .unset, .unset, .unset, .unset, .unset, .unset, .unset, .unset] [(.int (2 : Int32)), (.int (12 : Int32)), (.ref b101), (.ref b101)])) rfl rfl (hb hby at_62)
  have V_b101_114 := Arv.set Ar114 qa114 Sa114 Na114 Ha114 Ga114 rfl W114 12 rfl (Nat.le_of_ble_eq_true rfl)
  have V114 : Arv Z h114 b101 k101 .int (18 : Int32) [(.int (0 : Int32)), (.int (1 : Int32)), (.int (2 : Int32)), (.int (0 : Int32)), (.int (2 : Int32)), (.int (1 : Int32)), (.int (1 : Int32)), (.int (0 : Int32)), (.int (2 : Int32)), (.int (1 : Int32)), (.int (2 : Int32)), (.int (0 : Int32)), (.int (2 : Int32)), (.int (0 : Int32)), (.int (0 : Int32)), (.int (0 : Int32)), (.int (0 : Int32)), (.int (0 : Int32))] (.int (0 : Int32)) := V_b101_114
  have K114 : Keep h0 h114 [] := K113.wr W114 (Or.inr sz_b101)
  have N114 := Fr.snoc X114 N113 g_b101
  obtain ⟨cl115, Ar115, qa115, Sa115, Na115, Ha115, Ga115⟩ := id V114
  have hin115 : ¬ ((13 : Int32) < 0 ∨ cl115.slots.size ≤ ((13 : Int32)).toNatClampNeg) := inb_of Sa115 ⟨by decide, by decide⟩
  obtain ⟨T115, h115, X115, e115, W115, st115⟩ := stI X114 hx hZ e114 Ar115 (j := (13 : Int32)) hin115 (g := (mkF m 67 #[.val (.int p0), .val (.int p1), .val (.int p2), .val (.int p3), .unset, .unset, .unset, .unset, .unset, .unset, .unset, .unset, .unset, .unset, .unset, .unset, .unset, .unset, .unset, .unset, .unset, .unset, .unset, .unset, .unset, .unset, .unset] [(.int (0 : Int32)), (.int (13 : Int32)), (.ref b101), (.ref b101)])) rfl rfl (hb hby at_67)
  have V_b101_115 := Arv.set Ar115 qa115 Sa115 Na115 Ha115 Ga115 rfl W115 13 rfl (Nat.le_of_ble_eq_true rfl)
  have V115 : Arv Z h115 b101 k101 .int (18 : Int32) [(.int (0 : Int32)), (.int (1 : Int32)), (.int (2 : Int32)), (.int (0 : Int32)), (.int (2 : Int32)), (.int (1 : Int32)), (.int (1 : Int32)), (.int (0 : Int32)), (.int (2 : Int32)), (.int (1 : Int32)), (.int (2 : Int32)), (.int (0 : Int32)), (.int (2 : Int32)), (.int (0 : Int32)), (.int (0 : Int32)), (.int (0 : Int32)), (.int (0 : Int32)), (.int (0 : Int32))] (.int (0 : Int32)) := V_b101_115
  have K115 : Keep h0 h115 [] := K114.wr W115 (Or.inr sz_b101)
  have N115 := Fr.snoc X115 N114 g_b101
  obtain ⟨cl116, Ar116, qa116, Sa116, Na116, Ha116, Ga116⟩ := id V115
  have hin116 : ¬ ((14 : Int32) < 0 ∨ cl116.slots.size ≤ ((14 : Int32)).toNatClampNeg) := inb_of Sa116 ⟨by decide, by decide⟩
  obtain ⟨T116, h116, X116, e116, W116, st116⟩ := stI X115 hx hZ e115 Ar116 (j := (14 : Int32)) hin116 (g := (mkF m 72 #[.val (.int p0), .val (.int p1), .val (.int p2), .val (.int p3), .unset, .unset, .unset, .unset, .unset, .unset, .unset, .unset, .unset, .unset, .unset, .unset, .unset, .unset, .unset, .unset, .unset, .unset, .unset, .unset, .unset, .unset, .unset] [(.int (1 : Int32)), (.int (14 : Int32)), (.ref b101), (.ref b101)])) rfl rfl (hb hby at_72)
  have V_b101_116 := Arv.set Ar116 qa116 Sa116 Na116 Ha116 Ga116 rfl W116 14 rfl (Nat.le_of_ble_eq_true rfl)
  have V116 : Arv Z h116 b101 k101 .int (18 : Int32) [(.int (0 : Int32)), (.int (1 : Int32)), (.int (2 : Int32)), (.int (0 : Int32)), (.int (2 : Int32)), (.int (1 : Int32)), (.int (1 : Int32)), (.int (0 : Int32)), (.int (2 : Int32)), (.int (1 : Int32)), (.int (2 : Int32)), (.int (0 : Int32)), (.int (2 : Int32)), (.int (0 : Int32)), (.int (1 : Int32)), (.int (0 : Int32)), (.int (0 : Int32)), (.int (0 : Int32))] (.int (0 : Int32)) := V_b101_116
  have K116 : Keep h0 h116 [] := K115.wr W116 (Or.inr sz_b101)
  have N116 := Fr.snoc X116 N115 g_b101
  refine Gl.pre (S' := T116.setTop (mkF m 73 #[.val (.int p0), .val (.int p1), .val (.int p2), .val (.int p3), .unset, .unset, .unset, .unset, .unset, .unset, .unset, .unset, .unset, .unset, .unset, .unset, .unset, .unset, .unset, .unset, .unset, .unset, .unset, .unset, .unset, .unset, .unset] [(.ref b101)])) (fun t kt => ?_) ?_
  · show Steps p.tables e below (T108.setTop (mkF m 34 #[.val (.int p0), .val (.int p1), .val (.int p2), .val (.int p3), .unset, .unset, .unset, .unset, .unset, .unset, .unset, .unset, .unset, .unset, .unset, .unset, .unset, .unset, .unset, .unset, .unset, .unset, .unset, .unset, .unset, .unset, .unset] [(.ref b101), (.ref b101)])) _
    refine XS.bipush X108.here hx rfl (hb hby at_34) ?_
    show Steps p.tables e below (T108.setTop (mkF m 36 #[.val (.int p0), .val (.int p1), .val (.int p2), .val (.int p3), .unset, .unset, .unset, .unset, .unset, .unset, .unset, .unset, .unset, .unset, .unset, .unset, .unset, .unset, .unset, .unset, .unset, .unset, .unset, .unset, .unset, .unset, .unset] [(.int (7 : Int32)), (.ref b101), (.ref b101)])) _
    refine XS.iconst X108.here hx rfl (hb hby at_36) ?_
    show Steps p.tables e below (T108.setTop (mkF m 37 #[.val (.int p0), .val (.int p1), .val (.int p2), .val (.int p3), .unset, .unset, .unset, .unset, .unset, .unset, .unset, .unset, .unset, .unset, .unset, .unset, .unset, .unset, .unset, .unset, .unset, .unset, .unset, .unset, .unset, .unset, .unset] [(.int (0 : Int32)), (.int (7 : Int32)), (.ref b101), (.ref b101)])) _
    refine st109 _ ?_
    show Steps p.tables e below (T109.setTop (mkF m 38 #[.val (.int p0), .val (.int p1), .val (.int p2), .val (.int p3), .unset, .unset, .unset, .unset, .unset, .unset, .unset, .unset, .unset, .unset, .unset, .unset, .unset, .unset, .unset, .unset, .unset, .unset, .unset, .unset, .unset, .unset, .unset] [(.ref b101)])) _
    refine XS.dup X109.here hx rfl (hb hby at_38) rfl rfl ?_
    show Steps p.tables e below (T109.setTop (mkF m 39 #[.val (.int p0), .val (.int p1), .val (.int p2), .val (.int p3), .unset, .unset, .unset, .unset, .unset, .unset, .unset, .unset, .unset, .unset, .unset, .unset, .unset, .unset, .unset, .unset, .unset, .unset, .unset, .unset, .unset, .unset, .unset] [(.ref b101), (.ref b101)])) _
    refine XS.bipush X109.here hx rfl (hb hby at_39) ?_
    show Steps p.tables e below (T109.setTop (mkF m 41 #[.val (.int p0), .val (.int p1), .val (.int p2), .val (.int p3), .unset, .unset, .unset, .unset, .unset, .unset, .unset, .unset, .unset, .unset, .unset, .unset, .unset, .unset, .unset, .unset, .unset, .unset, .unset, .unset, .unset, .unset, .unset] [(.int (8 : Int32)), (.ref b101), (.ref b101)])) _
    refine XS.iconst X109.here hx rfl (hb hby at_41) ?_
    show Steps p.tables e below (T109.setTop (mkF m 42 #[.val (.int p0), .val (.int p1), .val (.int p2), .val (.int p3), .unset, .unset, .unset, .unset, .unset, .unset, .unset, .unset, .unset, .unset, .unset, .unset, .unset, .unset, .unset, .unset, .unset, .unset, .unset, .unset, .unset, .unset, .unset] [(.int (2 : Int32)), (.int (8 : Int32)), (.ref b101), (.ref b101)])) _
    refine st110 _ ?_
    show Steps p.tables e below (T110.setTop (mkF m 43 #[.val (.int p0), .val (.int p1), .val (.int p2), .val (.int p3), .unset, .unset, .unset, .unset, .unset, .unset, .unset, .unset, .unset, .unset, .unset, .unset, .unset, .unset, .unset, .unset, .unset, .unset, .unset, .unset, .unset, .unset, .unset] [(.ref b101)])) _
    refine XS.dup X110.here hx rfl (hb hby at_43) rfl rfl ?_
    show Steps p.tables e below (T110.setTop (mkF m 44 #[.val (.int p0), .val (.int p1), .val (.int p2), .val (.int p3), .unset, .unset, .unset, .unset, .unset, .unset, .unset, .unset, .unset, .unset, .unset, .unset, .unset, .unset, .unset, .unset, .unset, .unset, .unset, .unset, .unset, .unset, .unset] [(.ref b101), (.ref b101)])) _
    refine XS.bipush X110.here hx rfl (hb hby at_44) ?_
    show Steps p.tables e below (T110.setTop (mkF m 46 #[.val (.int p0), .val (.int p1), .val (.int p2), .val (.int p3), .unset, .unset, .unset, .unset, .unset, .unset, .unset, .unset, .unset, .unset, .unset, .unset, .unset, .unset, .unset, .unset, .unset, .unset, .unset, .unset, .unset, .unset, .unset] [(.int (9 : Int32)), (.ref b101), (.ref b101)])) _
    refine XS.iconst X110.here hx rfl (hb hby at_46) ?_
    show Steps p.tables e below (T110.setTop (mkF m 47 #[.val (.int p0), .val (.int p1), .val (.int p2), .val (.int p3), .unset, .unset, .unset, .unset, .unset, .unset, .unset, .unset, .unset, .unset, .unset, .unset, .unset, .unset, .unset, .unset, .unset, .unset, .unset, .unset, .unset, .unset, .unset] [(.int (1 : Int32)), (.int (9 : Int32)), (.ref b101), (.ref b101)])) _
    refine st111 _ ?_
    show Steps p.tables e below (T111.setTop (mkF m 48 #[.val (.int p0), .val (.int p1), .val (.int p2), .val (.int p3), .unset, .unset, .unset, .unset, .unset, .unset, .unset, .unset, .unset, .unset, .unset, .unset, .unset, .unset, .unset, .unset, .unset, .unset, .unset, .unset, .unset, .unset, .unset] [(.ref b101)])) _
    refine XS.dup X111.here hx rfl (hb hby at_48) rfl rfl ?_
    show Steps p.tables e below (T111.setTop (mkF m 49 #[.val (.int p0), .val (.int p1), .val (.int p2), .val (.int p3), .unset, .unset, .unset, .unset, .unset, .unset, .unset, .unset, .unset, .unset, .unset, .unset, .unset, .unset, .unset, .unset, .unset, .unset, .unset, .unset, .unset, .unset, .unset] [(.ref b101), (.ref b101)])) _
    refine XS.bipush X111.here hx rfl (hb hby at_49) ?_
    show Steps p.tables e below (T111.setTop (mkF m 51 #[.val (.int p0), .val (.int p1), .val (.int p2), .val (.int p3), .unset, .unset, .unset, .unset, .unset, .unset, .unset, .unset, .unset, .unset, .unset, .unset, .unset, .unset, .unset, .unset, .unset, .unset, .unset, .unset, .unset, .unset, .unset] [(.int (10 : Int32)), (.ref b101), (.ref b101)])) _
    refine XS.iconst X111.here hx rfl (hb hby at_51) ?_
    show Steps p.tables e below (T111.setTop (mkF m 52 #[.val (.int p0), .val (.int p1), .val (.int p2), .val (.int p3), .unset, .unset, .unset, .unset, .unset, .unset, .unset, .unset, .unset, .unset, .unset, .unset, .unset, .unset, .unset, .unset, .unset, .unset, .unset, .unset, .unset, .unset, .unset] [(.int (2 : Int32)), (.int (10 : Int32)), (.ref b101), (.ref b101)])) _
    refine st112 _ ?_
    show Steps p.tables e below (T112.setTop (mkF m 53 #[.val (.int p0), .val (.int p1), .val (.int p2), .val (.int p3), .unset, .unset, .unset, .unset, .unset, .unset, .unset, .unset, .unset, .unset, .unset, .unset, .unset, .unset, .unset, .unset, .unset, .unset, .unset, .unset, .unset, .unset, .unset] [(.ref b101)])) _
    refine XS.dup X112.here hx rfl (hb hby at_53) rfl rfl ?_
    show Steps p.tables e below (T112.setTop (mkF m 54 #[.val (.int p0), .val (.int p1), .val (.int p2), .val (.int p3), .unset, .unset, .unset, .unset, .unset, .unset, .unset, .unset, .unset, .unset, .unset, .unset, .unset, .unset, .unset, .unset, .unset, .unset, .unset, .unset, .unset, .unset, .unset] [(.ref b101), (.ref b101)])) _
    refine XS.bipush X112.here hx rfl (hb hby at_54) ?_
    show Steps p.tables e below (T112.setTop (mkF m 56 #[.val (.int p0), .val (.int p1), .val (.int p2), .val (.int p3), .unset, .unset, .unset, .unset, .unset, .unset, .unset, .unset, .unset, .unset, .unset, .unset, .unset, .unset, .unset, .unset, .unset, .unset, .unset, .unset, .unset, .unset, .unset] [(.int (11 : Int32)), (.ref b101), (.ref b101)])) _
    refine XS.iconst X112.here hx rfl (hb hby at_56) ?_
    show Steps p.tables e below (T112.setTop (mkF m 57 #[.val (.int p0), .val (.int p1), .val (.int p2), .val (.int p3), .unset, .unset, .unset, .unset, .unset, .unset, .unset, .unset, .unset, .unset, .unset, .unset, .unset, .unset, .unset, .unset, .unset, .unset, .unset, .unset, .unset, .unset, .unset] [(.int (0 : Int32)), (.int (11 : Int32)), (.ref b101), (.ref b101)])) _
    refine st113 _ ?_
    show Steps p.tables e below (T113.setTop (mkF m 58 #[.val (.int p0), .val (.int p1), .val (.int p2), .val (.int p3), .unset, .unset, .unset, .unset, .unset, .unset, .unset, .unset, .unset, .unset, .unset, .unset, .unset, .unset, .unset, .unset, .unset, .unset, .unset, .unset, .unset, .unset, .unset] [(.ref b101)])) _
    refine XS.dup X113.here hx rfl (hb hby at_58) rfl rfl ?_
    show Steps p.tables e below (T113.setTop (mkF m 59 #[.val (.int p0), .val (.int p1), .val (.int p2), .val (.int p3), .unset, .unset, .unset, .unset, .unset, .unset, .unset, .unset, .unset, .unset, .unset, .unset, .unset, .unset, .unset, .unset, .unset, .unset, .unset, .unset, .unset, .unset, .unset] [(.ref b101), (.ref b101)])) _
    refine XS.bipush X113.here hx rfl (hb hby at_59) ?_
    show Steps p.tables e below (T113.setTop (mkF m 61 #[.val (.int p0), .val (.int p1), .val (.int p2), .val (.int p3), .unset, .unset, .unset, .unset, .unset, .unset, .unset, .unset, .unset, .unset, .unset, .unset, .unset, .unset, .unset, .unset, .unset, .unset, .unset, .unset, .unset, .unset, .unset] [(.int (12 : Int32)), (.ref b101), (.ref b101)])) _
    refine XS.iconst X113.here hx rfl (hb hby at_61) ?_
    show Steps p.tables e below (T113.setTop (mkF m 62 #[.val (.int p0), .val (.int p1), .val (.int p2), .val (.int p3), .unset, .unset, .unset, .unset, .unset, .unset, .unset, .unset, .unset, .unset, .unset, .unset, .unset, .unset, .unset, .unset, .unset, .unset, .unset, .unset, .unset, .unset, .unset] [(.int (2 : Int32)), (.int (12 : Int32)), (.ref b101), (.ref b101)])) _
    refine st114 _ ?_
    show Steps p.tables e below (T114.setTop (mkF m 63 #[.val (.int p0), .val (.int p1), .val (.int p2), .val (.int p3), .unset, .unset, .unset, .unset, .unset, .unset, .unset, .unset, .unset, .unset, .unset, .unset, .unset, .unset, .unset, .unset, .unset, .unset, .unset, .unset, .unset, .unset, .unset] [(.ref b101)])) _
    refine XS.dup X114.here hx rfl (hb hby at_63) rfl rfl ?_
    show Steps p.tables e below (T114.setTop (mkF m 64 #[.val (.int p0), .val (.int p1), .val (.int p2), .val (.int p3), .unset, .unset, .unset, .unset, .unset, .unset, .unset, .unset, .unset, .unset, .unset, .unset, .unset, .unset, .unset, .unset, .unset, .unset, .unset, .unset, .unset, .unset, .unset] [(.ref b101), (.ref b101)])) _
    refine XS.bipush X114.here hx rfl (hb hby at_64) ?_
    show Steps p.tables e below (T114.setTop (mkF m 66 #[.val (.int p0), .val (.int p1), .val (.int p2), .val (.int p3), .unset, .unset, .unset, .unset, .unset, .unset, .unset, .unset, .unset, .unset, .unset, .unset, .unset, .unset, .unset, .unset, .unset, .unset, .unset, .unset, .unset, .unset, .unset] [(.int (13 : Int32)), (.ref b101), (.ref b101)])) _
    refine XS.iconst X114.here hx rfl (hb hby at_66) ?_
    show Steps p.tables e below (T114.setTop (mkF m 67 #[.val (.int p0), .val (.int p1), .val (.int p2), .val (.int p3), .unset, .unset, .unset, .unset, .unset, .unset, .unset, .unset, .unset, .unset, .unset, .unset, .unset, .unset, .unset, .unset, .unset, .unset, .unset, .unset, .unset, .unset, .unset] [(.int (0 : Int32)), (.int (13 : Int32)), (.ref b101), (.ref b101)])) _
    refine st115 _ ?_
    show Steps p.tables e below (T115.setTop (mkF m 68 #[.val (.int p0), .val (.int p1), .val (.int p2), .val (.int p3), .unset, .unset, .unset, .unset, .unset, .unset, .unset, .unset, .unset, .unset, .unset, .unset, .unset, .unset, .unset, .unset, .unset, .unset, .unset, .unset, .unset, .unset, .unset] [(.ref b101)])) _
    refine XS.dup X115.here hx rfl (hb hby at_68) rfl rfl ?_
    show Steps p.tables e below (T115.setTop (mkF m 69 #[.val (.int p0), .val (.int p1), .val (.int p2), .val (.int p3), .unset, .unset, .unset, .unset, .unset, .unset, .unset, .unset, .unset, .unset, .unset, .unset, .unset, .unset, .unset, .unset, .unset, .unset, .unset, .unset, .unset, .unset, .unset] [(.ref b101), (.ref b101)])) _
    refine XS.bipush X115.here hx rfl (hb hby at_69) ?_
    show Steps p.tables e below (T115.setTop (mkF m 71 #[.val (.int p0), .val (.int p1), .val (.int p2), .val (.int p3), .unset, .unset, .unset, .unset, .unset, .unset, .unset, .unset, .unset, .unset, .unset, .unset, .unset, .unset, .unset, .unset, .unset, .unset, .unset, .unset, .unset, .unset, .unset] [(.int (14 : Int32)), (.ref b101), (.ref b101)])) _
    refine XS.iconst X115.here hx rfl (hb hby at_71) ?_
    show Steps p.tables e below (T115.setTop (mkF m 72 #[.val (.int p0), .val (.int p1), .val (.int p2), .val (.int p3), .unset, .unset, .unset, .unset, .unset, .unset, .unset, .unset, .unset, .unset, .unset, .unset, .unset, .unset, .unset, .unset, .unset, .unset, .unset, .unset, .unset, .unset, .unset] [(.int (1 : Int32)), (.int (14 : Int32)), (.ref b101), (.ref b101)])) _
    refine st116 _ ?_
    exact kt
  obtain ⟨cl117, Ar117, qa117, Sa117, Na117, Ha117, Ga117⟩ := id V116
  have hin117 : ¬ ((15 : Int32) < 0 ∨ cl117.slots.size ≤ ((15 : Int32)).toNatClampNeg) := inb_of Sa117 ⟨by decide, by decide⟩
  obtain ⟨T117, h117, X117, e117, W117, st117⟩ := stI X116 hx hZ e116 Ar117 (j := (15 : Int32)) hin117 (g := (mkF m 77 #[.val (.int p0), .val (.int p1), .val (.int p2), .val (.int p3), .unset, .unset, .unset, .unset, .unset, .unset, .unset, .unset, .unset, .unset, .unset, .unset, .unset, .unset, .unset, .unset, .unset, .unset, .unset, .unset, .unset, .unset, .unset] [(.int (2 : Int32)), (.int (15 : Int32)), (.ref b101), (.ref b101)])) rfl rfl (hb hby at_77)
  have V_b101_117 := Arv.set Ar117 qa117 Sa117 Na117 Ha117 Ga117 rfl W117 15 rfl (Nat.le_of_ble_eq_true rfl)
  have V117 : Arv Z h117 b101 k101 .int (18 : Int32) [(.int (0 : Int32)), (.int (1 : Int32)), (.int (2 : Int32)), (.int (0 : Int32)), (.int (2 : Int32)), (.int (1 : Int32)), (.int (1 : Int32)), (.int (0 : Int32)), (.int (2 : Int32)), (.int (1 : Int32)), (.int (2 : Int32)), (.int (0 : Int32)), (.int (2 : Int32)), (.int (0 : Int32)), (.int (1 : Int32)), (.int (2 : Int32)), (.int (0 : Int32)), (.int (0 : Int32))] (.int (0 : Int32)) := V_b101_117
  have K117 : Keep h0 h117 [] := K116.wr W117 (Or.inr sz_b101)
  have N117 := Fr.snoc X117 N116 g_b101
  obtain ⟨cl118, Ar118, qa118, Sa118, Na118, Ha118, Ga118⟩ := id V117
  have hin118 : ¬ ((16 : Int32) < 0 ∨ cl118.slots.size ≤ ((16 : Int32)).toNatClampNeg) := inb_of Sa118 ⟨by decide, by decide⟩
  obtain ⟨T118, h118, X118, e118, W118, st118⟩ := stI X117 hx hZ e117 Ar118 (j := (16 : Int32)) hin118 (g := (mkF m 82 #[.val (.int p0), .val (.int p1), .val (.int p2), .val (.int p3), .unset, .unset, .unset, .unset, .unset, .unset, .unset, .unset, .unset, .unset, .unset, .unset, .unset, .unset, .unset, .unset, .unset, .unset, .unset, .unset, .unset, .unset, .unset] [(.int (1 : Int32)), (.int (16 : Int32)), (.ref b101), (.ref b101)])) rfl rfl (hb hby at_82)
  have V_b101_118 := Arv.set Ar118 qa118 Sa118 Na118 Ha118 Ga118 rfl W118 16 rfl (Nat.le_of_ble_eq_true rfl)
  have V118 : Arv Z h118 b101 k101 .int (18 : Int32) [(.int (0 : Int32)), (.int (1 : Int32)), (.int (2 : Int32)), (.int (0 : Int32)), (.int (2 : Int32)), (.int (1 : Int32)), (.int (1 : Int32)), (.int (0 : Int32)), (.int (2 : Int32)), (.int (1 : Int32)), (.int (2 : Int32)), (.int (0 : Int32)), (.int (2 : Int32)), (.int (0 : Int32)), (.int (1 : Int32)), (.int (2 : Int32)), (.int (1 : Int32)), (.int (0 : Int32))] (.int (0 : Int32)) := V_b101_118
  have K118 : Keep h0 h118 [] := K117.wr W118 (Or.inr sz_b101)
  have N118 := Fr.snoc X118 N117 g_b101
  obtain ⟨cl119, Ar119, qa119, Sa119, Na119, Ha119, Ga119⟩ := id V118
  have hin119 : ¬ ((17 : Int32) < 0 ∨ cl119.slots.size ≤ ((17 : Int32)).toNatClampNeg) := inb_of Sa119 ⟨by decide, by decide⟩
  obtain ⟨T119, h119, X119, e119, W119, st119⟩ := stI X118 hx hZ e118 Ar119 (j := (17 : Int32)) hin119 (g := (mkF m 87 #[.val (.int p0), .val (.int p1), .val (.int p2), .val (.int p3), .unset, .unset, .unset, .unset, .unset, .unset, .unset, .unset, .unset, .unset, .unset, .unset, .unset, .unset, .unset, .unset, .unset, .unset, .unset, .unset, .unset, .unset, .unset] [(.int (0 : Int32)), (.int (17 : Int32)), (.ref b101), (.ref b101)])) rfl rfl (hb hby at_87)
  have V_b101_119 := Arv.set Ar119 qa119 Sa119 Na119 Ha119 Ga119 rfl W119 17 rfl (Nat.le_of_ble_eq_true rfl)
  have V119 : Arv Z h119 b101 k101 .int (18 : Int32) [(.int (0 : Int32)), (.int (1 : Int32)), (.int (2 : Int32)), (.int (0 : Int32)), (.int (2 : Int32)), (.int (1 : Int32)), (.int (1 : Int32)), (.int (0 : Int32)), (.int (2 : Int32)), (.int (1 : Int32)), (.int (2 : Int32)), (.int (0 : Int32)), (.int (2 : Int32)), (.int (0 : Int32)), (.int (1 : Int32)), (.int (2 : Int32)), (.int (1 : Int32)), (.int (0 : Int32))] (.int (0 : Int32)) := V_b101_119
  have K119 : Keep h0 h119 [] := K118.wr W119 (Or.inr sz_b101)
  have N119 := Fr.snoc X119 N118 g_b101
  refine Gl.pre (S' := T119.setTop (mkF m 98 #[.val (.int p0), .val (.int p1), .val (.int p2), .val (.int p3), .val (.ref b101), .unset, .unset, .unset, .unset, .unset, .unset, .unset, .unset, .unset, .unset, .unset, .unset, .unset, .unset, .unset, .unset, .unset, .unset, .unset, .unset, .unset, .unset] [(.int ((p0 &&& (2147483647 : Int32)) % (6 : Int32))), (.int (3 : Int32))])) (fun t kt => ?_) ?_
  · show Steps p.tables e below (T116.setTop (mkF m 73 #[.val (.int p0), .val (.int p1), .val (.int p2), .val (.int p3), .unset, .unset, .unset, .unset, .unset, .unset, .unset, .unset, .unset, .unset, .unset, .unset, .unset, .unset, .unset, .unset, .unset, .unset, .unset, .unset, .unset, .unset, .unset] [(.ref b101)])) _
    refine XS.dup X116.here hx rfl (hb hby at_73) rfl rfl ?_
    show Steps p.tables e below (T116.setTop (mkF m 74 #[.val (.int p0), .val (.int p1), .val (.int p2), .val (.int p3), .unset, .unset, .unset, .unset, .unset, .unset, .unset, .unset, .unset, .unset, .unset, .unset, .unset, .unset, .unset, .unset, .unset, .unset, .unset, .unset, .unset, .unset, .unset] [(.ref b101), (.ref b101)])) _
    refine XS.bipush X116.here hx rfl (hb hby at_74) ?_
    show Steps p.tables e below (T116.setTop (mkF m 76 #[.val (.int p0), .val (.int p1), .val (.int p2), .val (.int p3), .unset, .unset, .unset, .unset, .unset, .unset, .unset, .unset, .unset, .unset, .unset, .unset, .unset, .unset, .unset, .unset, .unset, .unset, .unset, .unset, .unset, .unset, .unset] [(.int (15 : Int32)), (.ref b101), (.ref b101)])) _
    refine XS.iconst X116.here hx rfl (hb hby at_76) ?_
    show Steps p.tables e below (T116.setTop (mkF m 77 #[.val (.int p0), .val (.int p1), .val (.int p2), .val (.int p3), .unset, .unset, .unset, .unset, .unset, .unset, .unset, .unset, .unset, .unset, .unset, .unset, .unset, .unset, .unset, .unset, .unset, .unset, .unset, .unset, .unset, .unset, .unset] [(.int (2 : Int32)), (.int (15 : Int32)), (.ref b101), (.ref b101)])) _
    refine st117 _ ?_
    show Steps p.tables e below (T117.setTop (mkF m 78 #[.val (.int p0), .val (.int p1), .val (.int p2), .val (.int p3), .unset, .unset, .unset, .unset, .unset, .unset, .unset, .unset, .unset, .unset, .unset, .unset, .unset, .unset, .unset, .unset, .unset, .unset, .unset, .unset, .unset, .unset, .unset] [(.ref b101)])) _
    refine XS.dup X117.here hx rfl (hb hby at_78) rfl rfl ?_
    show Steps p.tables e below (T117.setTop (mkF m 79 #[.val (.int p0), .val (.int p1), .val (.int p2), .val (.int p3), .unset, .unset, .unset, .unset, .unset, .unset, .unset, .unset, .unset, .unset, .unset, .unset, .unset, .unset, .unset, .unset, .unset, .unset, .unset, .unset, .unset, .unset, .unset] [(.ref b101), (.ref b101)])) _
    refine XS.bipush X117.here hx rfl (hb hby at_79) ?_
    show Steps p.tables e below (T117.setTop (mkF m 81 #[.val (.int p0), .val (.int p1), .val (.int p2), .val (.int p3), .unset, .unset, .unset, .unset, .unset, .unset, .unset, .unset, .unset, .unset, .unset, .unset, .unset, .unset, .unset, .unset, .unset, .unset, .unset, .unset, .unset, .unset, .unset] [(.int (16 : Int32)), (.ref b101), (.ref b101)])) _
    refine XS.iconst X117.here hx rfl (hb hby at_81) ?_
    show Steps p.tables e below (T117.setTop (mkF m 82 #[.val (.int p0), .val (.int p1), .val (.int p2), .val (.int p3), .unset, .unset, .unset, .unset, .unset, .unset, .unset, .unset, .unset, .unset, .unset, .unset, .unset, .unset, .unset, .unset, .unset, .unset, .unset, .unset, .unset, .unset, .unset] [(.int (1 : Int32)), (.int (16 : Int32)), (.ref b101), (.ref b101)])) _
    refine st118 _ ?_
    show Steps p.tables e below (T118.setTop (mkF m 83 #[.val (.int p0), .val (.int p1), .val (.int p2), .val (.int p3), .unset, .unset, .unset, .unset, .unset, .unset, .unset, .unset, .unset, .unset, .unset, .unset, .unset, .unset, .unset, .unset, .unset, .unset, .unset, .unset, .unset, .unset, .unset] [(.ref b101)])) _
    refine XS.dup X118.here hx rfl (hb hby at_83) rfl rfl ?_
    show Steps p.tables e below (T118.setTop (mkF m 84 #[.val (.int p0), .val (.int p1), .val (.int p2), .val (.int p3), .unset, .unset, .unset, .unset, .unset, .unset, .unset, .unset, .unset, .unset, .unset, .unset, .unset, .unset, .unset, .unset, .unset, .unset, .unset, .unset, .unset, .unset, .unset] [(.ref b101), (.ref b101)])) _
    refine XS.bipush X118.here hx rfl (hb hby at_84) ?_
    show Steps p.tables e below (T118.setTop (mkF m 86 #[.val (.int p0), .val (.int p1), .val (.int p2), .val (.int p3), .unset, .unset, .unset, .unset, .unset, .unset, .unset, .unset, .unset, .unset, .unset, .unset, .unset, .unset, .unset, .unset, .unset, .unset, .unset, .unset, .unset, .unset, .unset] [(.int (17 : Int32)), (.ref b101), (.ref b101)])) _
    refine XS.iconst X118.here hx rfl (hb hby at_86) ?_
    show Steps p.tables e below (T118.setTop (mkF m 87 #[.val (.int p0), .val (.int p1), .val (.int p2), .val (.int p3), .unset, .unset, .unset, .unset, .unset, .unset, .unset, .unset, .unset, .unset, .unset, .unset, .unset, .unset, .unset, .unset, .unset, .unset, .unset, .unset, .unset, .unset, .unset] [(.int (0 : Int32)), (.int (17 : Int32)), (.ref b101), (.ref b101)])) _
    refine st119 _ ?_
    show Steps p.tables e below (T119.setTop (mkF m 88 #[.val (.int p0), .val (.int p1), .val (.int p2), .val (.int p3), .unset, .unset, .unset, .unset, .unset, .unset, .unset, .unset, .unset, .unset, .unset, .unset, .unset, .unset, .unset, .unset, .unset, .unset, .unset, .unset, .unset, .unset, .unset] [(.ref b101)])) _
    refine XS.astore X119.here hx rfl (hb hby at_88) rfl rfl (l' := #[.val (.int p0), .val (.int p1), .val (.int p2), .val (.int p3), .val (.ref b101), .unset, .unset, .unset, .unset, .unset, .unset, .unset, .unset, .unset, .unset, .unset, .unset, .unset, .unset, .unset, .unset, .unset, .unset, .unset, .unset, .unset, .unset]) rfl ?_
    show Steps p.tables e below (T119.setTop (mkF m 90 #[.val (.int p0), .val (.int p1), .val (.int p2), .val (.int p3), .val (.ref b101), .unset, .unset, .unset, .unset, .unset, .unset, .unset, .unset, .unset, .unset, .unset, .unset, .unset, .unset, .unset, .unset, .unset, .unset, .unset, .unset, .unset, .unset] [])) _
    refine XS.iconst X119.here hx rfl (hb hby at_90) ?_
    show Steps p.tables e below (T119.setTop (mkF m 91 #[.val (.int p0), .val (.int p1), .val (.int p2), .val (.int p3), .val (.ref b101), .unset, .unset, .unset, .unset, .unset, .unset, .unset, .unset, .unset, .unset, .unset, .unset, .unset, .unset, .unset, .unset, .unset, .unset, .unset, .unset, .unset, .unset] [(.int (3 : Int32))])) _
    refine XS.iloadN X119.here hx rfl (hb hby at_91) rfl ?_
    show Steps p.tables e below (T119.setTop (mkF m 92 #[.val (.int p0), .val (.int p1), .val (.int p2), .val (.int p3), .val (.ref b101), .unset, .unset, .unset, .unset, .unset, .unset, .unset, .unset, .unset, .unset, .unset, .unset, .unset, .unset, .unset, .unset, .unset, .unset, .unset, .unset, .unset, .unset] [(.int p0), (.int (3 : Int32))])) _
    refine X119.ldcInt hx hown (mvT hZ (hw _ (List.mem_of_getElem? (i := 1) rfl))) (g := (mkF m 92 #[.val (.int p0), .val (.int p1), .val (.int p2), .val (.int p3), .val (.ref b101), .unset, .unset, .unset, .unset, .unset, .unset, .unset, .unset, .unset, .unset, .unset, .unset, .unset, .unset, .unset, .unset, .unset, .unset, .unset, .unset, .unset, .unset] [(.int p0), (.int (3 : Int32))])) rfl (hb hby at_92) _ ?_
    show Steps p.tables e below (T119.setTop (mkF m 94 #[.val (.int p0), .val (.int p1), .val (.int p2), .val (.int p3), .val (.ref b101), .unset, .unset, .unset, .unset, .unset, .unset, .unset, .unset, .unset, .unset, .unset, .unset, .unset, .unset, .unset, .unset, .unset, .unset, .unset, .unset, .unset, .unset] [(.int (2147483647 : Int32)), (.int p0), (.int (3 : Int32))])) _
    refine XS.iand X119.here hx rfl (hb hby at_94) rfl ?_
    show Steps p.tables e below (T119.setTop (mkF m 95 #[.val (.int p0), .val (.int p1), .val (.int p2), .val (.int p3), .val (.ref b101), .unset, .unset, .unset, .unset, .unset, .unset, .unset, .unset, .unset, .unset, .unset, .unset, .unset, .unset, .unset, .unset, .unset, .unset, .unset, .unset, .unset, .unset] [(.int (p0 &&& (2147483647 : Int32))), (.int (3 : Int32))])) _
    refine XS.bipush X119.here hx rfl (hb hby at_95) ?_
    show Steps p.tables e below (T119.setTop (mkF m 97 #[.val (.int p0), .val (.int p1), .val (.int p2), .val (.int p3), .val (.ref b101), .unset, .unset, .unset, .unset, .unset, .unset, .unset, .unset, .unset, .unset, .unset, .unset, .unset, .unset, .unset, .unset, .unset, .unset, .unset, .unset, .unset, .unset] [(.int (6 : Int32)), (.int (p0 &&& (2147483647 : Int32))), (.int (3 : Int32))])) _
    refine iremM X119 hx rfl (hb hby at_97) rfl (by decide) ?_
    exact kt
  have m126 : ∀ (pi : Fin 6), Gl p e below s (Q0 Z p0 p1 p2 p3 h0 n0) room_1.cells room_1.slots (T119.setTop (mkF m 126 #[.val (.int p0), .val (.int p1), .val (.int p2), .val (.int p3), .val (.ref b101), .val (.int (i5F pi)), .val (.int (ixx (pmF pi 0))), .val (.int (ixx (pmF pi 1))), .val (.int (ixx (pmF pi 2))), .unset, .unset, .unset, .unset, .unset, .unset, .unset, .unset, .unset, .unset, .unset, .unset, .unset, .unset, .unset, .unset, .unset, .unset] [])) := by
    intro pi
    refine Gl.pre (S' := T119.setTop (mkF m 151 #[.val (.int p0), .val (.int p1), .val (.int p2), .val (.int p3), .val (.ref b101), .val (.int (i5F pi)), .val (.int (ixx (pmF pi 0))), .val (.int (ixx (pmF pi 1))), .val (.int (ixx (pmF pi 2))), .val (.int (p1 &&& (3 : Int32))), .val (.int ((p1 &&& (3 : Int32)) + (((p1.toUInt32 >>> ((2 : Int32) &&& 31).toUInt32).toInt32) &&& (1 : Int32)))), .val (.int (((p1 &&& (3 : Int32)) + (((p1.toUInt32 >>> ((2 : Int32) &&& 31).toUInt32).toInt32) &&& (1 : Int32))) + (((p1.toUInt32 >>> ((3 : Int32) &&& 31).toUInt32).toInt32) &&& (1 : Int32)))), .unset, .unset, .unset, .unset, .unset, .unset, .unset, .unset, .unset, .unset, .unset, .unset, .unset, .unset, .unset] [])) (fun t kt => ?_) ?_
    · show Steps p.tables e below (T119.setTop (mkF m 126 #[.val (.int p0), .val (.int p1), .val (.int p2), .val (.int p3), .val (.ref b101), .val (.int (i5F pi)), .val (.int (ixx (pmF pi 0))), .val (.int (ixx (pmF pi 1))), .val (.int (ixx (pmF pi 2))), .unset, .unset, .unset, .unset, .unset, .unset, .unset, .unset, .unset, .unset, .unset, .unset, .unset, .unset, .unset, .unset, .unset, .unset] [])) _
      refine XS.iloadN X119.here hx rfl (hb hby at_126) rfl ?_
      show Steps p.tables e below (T119.setTop (mkF m 127 #[.val (.int p0), .val (.int p1), .val (.int p2), .val (.int p3), .val (.ref b101), .val (.int (i5F pi)), .val (.int (ixx (pmF pi 0))), .val (.int (ixx (pmF pi 1))), .val (.int (ixx (pmF pi 2))), .unset, .unset, .unset, .unset, .unset, .unset, .unset, .unset, .unset, .unset, .unset, .unset, .unset, .unset, .unset, .unset, .unset, .unset] [(.int p1)])) _
      refine XS.iconst X119.here hx rfl (hb hby at_127) ?_
      show Steps p.tables e below (T119.setTop (mkF m 128 #[.val (.int p0), .val (.int p1), .val (.int p2), .val (.int p3), .val (.ref b101), .val (.int (i5F pi)), .val (.int (ixx (pmF pi 0))), .val (.int (ixx (pmF pi 1))), .val (.int (ixx (pmF pi 2))), .unset, .unset, .unset, .unset, .unset, .unset, .unset, .unset, .unset, .unset, .unset, .unset, .unset, .unset, .unset, .unset, .unset, .unset] [(.int (3 : Int32)), (.int p1)])) _
      refine XS.iand X119.here hx rfl (hb hby at_128) rfl ?_
      show Steps p.tables e below (T119.setTop (mkF m 129 #[.val (.int p0), .val (.int p1), .val (.int p2), .val (.int p3), .val (.ref b101), .val (.int (i5F pi)), .val (.int (ixx (pmF pi 0))), .val (.int (ixx (pmF pi 1))), .val (.int (ixx (pmF pi 2))), .unset, .unset, .unset, .unset, .unset, .unset, .unset, .unset, .unset, .unset, .unset, .unset, .unset, .unset, .unset, .unset, .unset, .unset] [(.int (p1 &&& (3 : Int32)))])) _
      refine XS.istore X119.here hx rfl (hb hby at_129) rfl (l' := #[.val (.int p0), .val (.int p1), .val (.int p2), .val (.int p3), .val (.ref b101), .val (.int (i5F pi)), .val (.int (ixx (pmF pi 0))), .val (.int (ixx (pmF pi 1))), .val (.int (ixx (pmF pi 2))), .val (.int (p1 &&& (3 : Int32))), .unset, .unset, .unset, .unset, .unset, .unset, .unset, .unset, .unset, .unset, .unset, .unset, .unset, .unset, .unset, .unset, .unset]) rfl ?_
      show Steps p.tables e below (T119.setTop (mkF m 131 #[.val (.int p0), .val (.int p1), .val (.int p2), .val (.int p3), .val (.ref b101), .val (.int (i5F pi)), .val (.int (ixx (pmF pi 0))), .val (.int (ixx (pmF pi 1))), .val (.int (ixx (pmF pi 2))), .val (.int (p1 &&& (3 : Int32))), .unset, .unset, .unset, .unset, .unset, .unset, .unset, .unset, .unset, .unset, .unset, .unset, .unset, .unset, .unset, .unset, .unset] [])) _
      refine XS.iload X119.here hx rfl (hb hby at_131) rfl ?_
      show Steps p.tables e below (T119.setTop (mkF m 133 #[.val (.int p0), .val (.int p1), .val (.int p2), .val (.int p3), .val (.ref b101), .val (.int (i5F pi)), .val (.int (ixx (pmF pi 0))), .val (.int (ixx (pmF pi 1))), .val (.int (ixx (pmF pi 2))), .val (.int (p1 &&& (3 : Int32))), .unset, .unset, .unset, .unset, .unset, .unset, .unset, .unset, .unset, .unset, .unset, .unset, .unset, .unset, .unset, .unset, .unset] [(.int (p1 &&& (3 : Int32)))])) _
      refine XS.iloadN X119.here hx rfl (hb hby at_133) rfl ?_
      show Steps p.tables e below (T119.setTop (mkF m 134 #[.val (.int p0), .val (.int p1), .val (.int p2), .val (.int p3), .val (.ref b101), .val (.int (i5F pi)), .val (.int (ixx (pmF pi 0))), .val (.int (ixx (pmF pi 1))), .val (.int (ixx (pmF pi 2))), .val (.int (p1 &&& (3 : Int32))), .unset, .unset, .unset, .unset, .unset, .unset, .unset, .unset, .unset, .unset, .unset, .unset, .unset, .unset, .unset, .unset, .unset] [(.int p1), (.int (p1 &&& (3 : Int32)))])) _
      refine XS.iconst X119.here hx rfl (hb hby at_134) ?_
      show Steps p.tables e below (T119.setTop (mkF m 135 #[.val (.int p0), .val (.int p1), .val (.int p2), .val (.int p3), .val (.ref b101), .val (.int (i5F pi)), .val (.int (ixx (pmF pi 0))), .val (.int (ixx (pmF pi 1))), .val (.int (ixx (pmF pi 2))), .val (.int (p1 &&& (3 : Int32))), .unset, .unset, .unset, .unset, .unset, .unset, .unset, .unset, .unset, .unset, .unset, .unset, .unset, .unset, .unset, .unset, .unset] [(.int (2 : Int32)), (.int p1), (.int (p1 &&& (3 : Int32)))])) _
      refine XS.iushr X119.here hx rfl (hb hby at_135) rfl ?_
      show Steps p.tables e below (T119.setTop (mkF m 136 #[.val (.int p0), .val (.int p1), .val (.int p2), .val (.int p3), .val (.ref b101), .val (.int (i5F pi)), .val (.int (ixx (pmF pi 0))), .val (.int (ixx (pmF pi 1))), .val (.int (ixx (pmF pi 2))), .val (.int (p1 &&& (3 : Int32))), .unset, .unset, .unset, .unset, .unset, .unset, .unset, .unset, .unset, .unset, .unset, .unset, .unset, .unset, .unset, .unset, .unset] [(.int ((p1.toUInt32 >>> ((2 : Int32) &&& 31).toUInt32).toInt32)), (.int (p1 &&& (3 : Int32)))])) _
      refine XS.iconst X119.here hx rfl (hb hby at_136) ?_
      show Steps p.tables e below (T119.setTop (mkF m 137 #[.val (.int p0), .val (.int p1), .val (.int p2), .val (.int p3), .val (.ref b101), .val (.int (i5F pi)), .val (.int (ixx (pmF pi 0))), .val (.int (ixx (pmF pi 1))), .val (.int (ixx (pmF pi 2))), .val (.int (p1 &&& (3 : Int32))), .unset, .unset, .unset, .unset, .unset, .unset, .unset, .unset, .unset, .unset, .unset, .unset, .unset, .unset, .unset, .unset, .unset] [(.int (1 : Int32)), (.int ((p1.toUInt32 >>> ((2 : Int32) &&& 31).toUInt32).toInt32)), (.int (p1 &&& (3 : Int32)))])) _
      refine XS.iand X119.here hx rfl (hb hby at_137) rfl ?_
      show Steps p.tables e below (T119.setTop (mkF m 138 #[.val (.int p0), .val (.int p1), .val (.int p2), .val (.int p3), .val (.ref b101), .val (.int (i5F pi)), .val (.int (ixx (pmF pi 0))), .val (.int (ixx (pmF pi 1))), .val (.int (ixx (pmF pi 2))), .val (.int (p1 &&& (3 : Int32))), .unset, .unset, .unset, .unset, .unset, .unset, .unset, .unset, .unset, .unset, .unset, .unset, .unset, .unset, .unset, .unset, .unset] [(.int (((p1.toUInt32 >>> ((2 : Int32) &&& 31).toUInt32).toInt32) &&& (1 : Int32))), (.int (p1 &&& (3 : Int32)))])) _
      refine XS.iadd X119.here hx rfl (hb hby at_138) rfl ?_
      show Steps p.tables e below (T119.setTop (mkF m 139 #[.val (.int p0), .val (.int p1), .val (.int p2), .val (.int p3), .val (.ref b101), .val (.int (i5F pi)), .val (.int (ixx (pmF pi 0))), .val (.int (ixx (pmF pi 1))), .val (.int (ixx (pmF pi 2))), .val (.int (p1 &&& (3 : Int32))), .unset, .unset, .unset, .unset, .unset, .unset, .unset, .unset, .unset, .unset, .unset, .unset, .unset, .unset, .unset, .unset, .unset] [(.int ((p1 &&& (3 : Int32)) + (((p1.toUInt32 >>> ((2 : Int32) &&& 31).toUInt32).toInt32) &&& (1 : Int32))))])) _
      refine XS.istore X119.here hx rfl (hb hby at_139) rfl (l' := #[.val (.int p0), .val (.int p1), .val (.int p2), .val (.int p3), .val (.ref b101), .val (.int (i5F pi)), .val (.int (ixx (pmF pi 0))), .val (.int (ixx (pmF pi 1))), .val (.int (ixx (pmF pi 2))), .val (.int (p1 &&& (3 : Int32))), .val (.int ((p1 &&& (3 : Int32)) + (((p1.toUInt32 >>> ((2 : Int32) &&& 31).toUInt32).toInt32) &&& (1 : Int32)))), .unset, .unset, .unset, .unset, .unset, .unset, .unset, .unset, .unset, .unset, .unset, .unset, .unset, .unset, .unset, .unset]) rfl ?_
      show Steps p.tables e below (T119.setTop (mkF m 141 #[.val (.int p0), .val (.int p1), .val (.int p2), .val (.int p3), .val (.ref b101), .val (.int (i5F pi)), .val (.int (ixx (pmF pi 0))), .val (.int (ixx (pmF pi 1))), .val (.int (ixx (pmF pi 2))), .val (.int (p1 &&& (3 : Int32))), .val (.int ((p1 &&& (3 : Int32)) + (((p1.toUInt32 >>> ((2 : Int32) &&& 31).toUInt32).toInt32) &&& (1 : Int32)))), .unset, .unset, .unset, .unset, .unset, .unset, .unset, .unset, .unset, .unset, .unset, .unset, .unset, .unset, .unset, .unset] [])) _
      refine XS.iload X119.here hx rfl (hb hby at_141) rfl ?_
      show Steps p.tables e below (T119.setTop (mkF m 143 #[.val (.int p0), .val (.int p1), .val (.int p2), .val (.int p3), .val (.ref b101), .val (.int (i5F pi)), .val (.int (ixx (pmF pi 0))), .val (.int (ixx (pmF pi 1))), .val (.int (ixx (pmF pi 2))), .val (.int (p1 &&& (3 : Int32))), .val (.int ((p1 &&& (3 : Int32)) + (((p1.toUInt32 >>> ((2 : Int32) &&& 31).toUInt32).toInt32) &&& (1 : Int32)))), .unset, .unset, .unset, .unset, .unset, .unset, .unset, .unset, .unset, .unset, .unset, .unset, .unset, .unset, .unset, .unset] [(.int ((p1 &&& (3 : Int32)) + (((p1.toUInt32 >>> ((2 : Int32) &&& 31).toUInt32).toInt32) &&& (1 : Int32))))])) _
      refine XS.iloadN X119.here hx rfl (hb hby at_143) rfl ?_
      show Steps p.tables e below (T119.setTop (mkF m 144 #[.val (.int p0), .val (.int p1), .val (.int p2), .val (.int p3), .val (.ref b101), .val (.int (i5F pi)), .val (.int (ixx (pmF pi 0))), .val (.int (ixx (pmF pi 1))), .val (.int (ixx (pmF pi 2))), .val (.int (p1 &&& (3 : Int32))), .val (.int ((p1 &&& (3 : Int32)) + (((p1.toUInt32 >>> ((2 : Int32) &&& 31).toUInt32).toInt32) &&& (1 : Int32)))), .unset, .unset, .unset, .unset, .unset, .unset, .unset, .unset, .unset, .unset, .unset, .unset, .unset, .unset, .unset, .unset] [(.int p1), (.int ((p1 &&& (3 : Int32)) + (((p1.toUInt32 >>> ((2 : Int32) &&& 31).toUInt32).toInt32) &&& (1 : Int32))))])) _
      refine XS.iconst X119.here hx rfl (hb hby at_144) ?_
      show Steps p.tables e below (T119.setTop (mkF m 145 #[.val (.int p0), .val (.int p1), .val (.int p2), .val (.int p3), .val (.ref b101), .val (.int (i5F pi)), .val (.int (ixx (pmF pi 0))), .val (.int (ixx (pmF pi 1))), .val (.int (ixx (pmF pi 2))), .val (.int (p1 &&& (3 : Int32))), .val (.int ((p1 &&& (3 : Int32)) + (((p1.toUInt32 >>> ((2 : Int32) &&& 31).toUInt32).toInt32) &&& (1 : Int32)))), .unset, .unset, .unset, .unset, .unset, .unset, .unset, .unset, .unset, .unset, .unset, .unset, .unset, .unset, .unset, .unset] [(.int (3 : Int32)), (.int p1), (.int ((p1 &&& (3 : Int32)) + (((p1.toUInt32 >>> ((2 : Int32) &&& 31).toUInt32).toInt32) &&& (1 : Int32))))])) _
      refine XS.iushr X119.here hx rfl (hb hby at_145) rfl ?_
      show Steps p.tables e below (T119.setTop (mkF m 146 #[.val (.int p0), .val (.int p1), .val (.int p2), .val (.int p3), .val (.ref b101), .val (.int (i5F pi)), .val (.int (ixx (pmF pi 0))), .val (.int (ixx (pmF pi 1))), .val (.int (ixx (pmF pi 2))), .val (.int (p1 &&& (3 : Int32))), .val (.int ((p1 &&& (3 : Int32)) + (((p1.toUInt32 >>> ((2 : Int32) &&& 31).toUInt32).toInt32) &&& (1 : Int32)))), .unset, .unset, .unset, .unset, .unset, .unset, .unset, .unset, .unset, .unset, .unset, .unset, .unset, .unset, .unset, .unset] [(.int ((p1.toUInt32 >>> ((3 : Int32) &&& 31).toUInt32).toInt32)), (.int ((p1 &&& (3 : Int32)) + (((p1.toUInt32 >>> ((2 : Int32) &&& 31).toUInt32).toInt32) &&& (1 : Int32))))])) _
      refine XS.iconst X119.here hx rfl (hb hby at_146) ?_
      show Steps p.tables e below (T119.setTop (mkF m 147 #[.val (.int p0), .val (.int p1), .val (.int p2), .val (.int p3), .val (.ref b101), .val (.int (i5F pi)), .val (.int (ixx (pmF pi 0))), .val (.int (ixx (pmF pi 1))), .val (.int (ixx (pmF pi 2))), .val (.int (p1 &&& (3 : Int32))), .val (.int ((p1 &&& (3 : Int32)) + (((p1.toUInt32 >>> ((2 : Int32) &&& 31).toUInt32).toInt32) &&& (1 : Int32)))), .unset, .unset, .unset, .unset, .unset, .unset, .unset, .unset, .unset, .unset, .unset, .unset, .unset, .unset, .unset, .unset] [(.int (1 : Int32)), (.int ((p1.toUInt32 >>> ((3 : Int32) &&& 31).toUInt32).toInt32)), (.int ((p1 &&& (3 : Int32)) + (((p1.toUInt32 >>> ((2 : Int32) &&& 31).toUInt32).toInt32) &&& (1 : Int32))))])) _
      refine XS.iand X119.here hx rfl (hb hby at_147) rfl ?_
      show Steps p.tables e below (T119.setTop (mkF m 148 #[.val (.int p0), .val (.int p1), .val (.int p2), .val (.int p3), .val (.ref b101), .val (.int (i5F pi)), .val (.int (ixx (pmF pi 0))), .val (.int (ixx (pmF pi 1))), .val (.int (ixx (pmF pi 2))), .val (.int (p1 &&& (3 : Int32))), .val (.int ((p1 &&& (3 : Int32)) + (((p1.toUInt32 >>> ((2 : Int32) &&& 31).toUInt32).toInt32) &&& (1 : Int32)))), .unset, .unset, .unset, .unset, .unset, .unset, .unset, .unset, .unset, .unset, .unset, .unset, .unset, .unset, .unset, .unset] [(.int (((p1.toUInt32 >>> ((3 : Int32) &&& 31).toUInt32).toInt32) &&& (1 : Int32))), (.int ((p1 &&& (3 : Int32)) + (((p1.toUInt32 >>> ((2 : Int32) &&& 31).toUInt32).toInt32) &&& (1 : Int32))))])) _
      refine XS.iadd X119.here hx rfl (hb hby at_148) rfl ?_
      show Steps p.tables e below (T119.setTop (mkF m 149 #[.val (.int p0), .val (.int p1), .val (.int p2), .val (.int p3), .val (.ref b101), .val (.int (i5F pi)), .val (.int (ixx (pmF pi 0))), .val (.int (ixx (pmF pi 1))), .val (.int (ixx (pmF pi 2))), .val (.int (p1 &&& (3 : Int32))), .val (.int ((p1 &&& (3 : Int32)) + (((p1.toUInt32 >>> ((2 : Int32) &&& 31).toUInt32).toInt32) &&& (1 : Int32)))), .unset, .unset, .unset, .unset, .unset, .unset, .unset, .unset, .unset, .unset, .unset, .unset, .unset, .unset, .unset, .unset] [(.int (((p1 &&& (3 : Int32)) + (((p1.toUInt32 >>> ((2 : Int32) &&& 31).toUInt32).toInt32) &&& (1 : Int32))) + (((p1.toUInt32 >>> ((3 : Int32) &&& 31).toUInt32).toInt32) &&& (1 : Int32))))])) _
      refine XS.istore X119.here hx rfl (hb hby at_149) rfl (l' := #[.val (.int p0), .val (.int p1), .val (.int p2), .val (.int p3), .val (.ref b101), .val (.int (i5F pi)), .val (.int (ixx (pmF pi 0))), .val (.int (ixx (pmF pi 1))), .val (.int (ixx (pmF pi 2))), .val (.int (p1 &&& (3 : Int32))), .val (.int ((p1 &&& (3 : Int32)) + (((p1.toUInt32 >>> ((2 : Int32) &&& 31).toUInt32).toInt32) &&& (1 : Int32)))), .val (.int (((p1 &&& (3 : Int32)) + (((p1.toUInt32 >>> ((2 : Int32) &&& 31).toUInt32).toInt32) &&& (1 : Int32))) + (((p1.toUInt32 >>> ((3 : Int32) &&& 31).toUInt32).toInt32) &&& (1 : Int32)))), .unset, .unset, .unset, .unset, .unset, .unset, .unset, .unset, .unset, .unset, .unset, .unset, .unset, .unset, .unset]) rfl ?_
      exact kt
    obtain ⟨tq0, dq1, dq2, q9, q10, q11⟩ := own_times p1
    rw [q11, q10, q9]
    refine Gl.pre (S' := T119.setTop (mkF m 156 #[.val (.int p0), .val (.int p1), .val (.int p2), .val (.int p3), .val (.ref b101), .val (.int (i5F pi)), .val (.int (ixx (pmF pi 0))), .val (.int (ixx (pmF pi 1))), .val (.int (ixx (pmF pi 2))), .val (.int (tii (t0F tq0))), .val (.int (tii (t1F tq0 dq1))), .val (.int (tii (t2F tq0 dq1 dq2))), .unset, .unset, .unset, .unset, .unset, .unset, .unset, .unset, .unset, .unset, .unset, .unset, .unset, .unset, .unset] [(.int (((p1.toUInt32 >>> ((4 : Int32) &&& 31).toUInt32).toInt32) &&& (1 : Int32)))])) (fun t kt => ?_) ?_
    · show Steps p.tables e below (T119.setTop (mkF m 151 #[.val (.int p0), .val (.int p1), .val (.int p2), .val (.int p3), .val (.ref b101), .val (.int (i5F pi)), .val (.int (ixx (pmF pi 0))), .val (.int (ixx (pmF pi 1))), .val (.int (ixx (pmF pi 2))), .val (.int (tii (t0F tq0))), .val (.int (tii (t1F tq0 dq1))), .val (.int (tii (t2F tq0 dq1 dq2))), .unset, .unset, .unset, .unset, .unset, .unset, .unset, .unset, .unset, .unset, .unset, .unset, .unset, .unset, .unset] [])) _
      refine XS.iloadN X119.here hx rfl (hb hby at_151) rfl ?_
      show Steps p.tables e below (T119.setTop (mkF m 152 #[.val (.int p0), .val (.int p1), .val (.int p2), .val (.int p3), .val (.ref b101), .val (.int (i5F pi)), .val (.int (ixx (pmF pi 0))), .val (.int (ixx (pmF pi 1))), .val (.int (ixx (pmF pi 2))), .val (.int (tii (t0F tq0))), .val (.int (tii (t1F tq0 dq1))), .val (.int (tii (t2F tq0 dq1 dq2))), .unset, .unset, .unset, .unset, .unset, .unset, .unset, .unset, .unset, .unset, .unset, .unset, .unset, .unset, .unset] [(.int p1)])) _
      refine XS.iconst X119.here hx rfl (hb hby at_152) ?_
      show Steps p.tables e below (T119.setTop (mkF m 153 #[.val (.int p0), .val (.int p1), .val (.int p2), .val (.int p3), .val (.ref b101), .val (.int (i5F pi)), .val (.int (ixx (pmF pi 0))), .val (.int (ixx (pmF pi 1))), .val (.int (ixx (pmF pi 2))), .val (.int (tii (t0F tq0))), .val (.int (tii (t1F tq0 dq1))), .val (.int (tii (t2F tq0 dq1 dq2))), .unset, .unset, .unset, .unset, .unset, .unset, .unset, .unset, .unset, .unset, .unset, .unset, .unset, .unset, .unset] [(.int (4 : Int32)), (.int p1)])) _
      refine XS.iushr X119.here hx rfl (hb hby at_153) rfl ?_
      show Steps p.tables e below (T119.setTop (mkF m 154 #[.val (.int p0), .val (.int p1), .val (.int p2), .val (.int p3), .val (.ref b101), .val (.int (i5F pi)), .val (.int (ixx (pmF pi 0))), .val (.int (ixx (pmF pi 1))), .val (.int (ixx (pmF pi 2))), .val (.int (tii (t0F tq0))), .val (.int (tii (t1F tq0 dq1))), .val (.int (tii (t2F tq0 dq1 dq2))), .unset, .unset, .unset, .unset, .unset, .unset, .unset, .unset, .unset, .unset, .unset, .unset, .unset, .unset, .unset] [(.int ((p1.toUInt32 >>> ((4 : Int32) &&& 31).toUInt32).toInt32))])) _
      refine XS.iconst X119.here hx rfl (hb hby at_154) ?_
      show Steps p.tables e below (T119.setTop (mkF m 155 #[.val (.int p0), .val (.int p1), .val (.int p2), .val (.int p3), .val (.ref b101), .val (.int (i5F pi)), .val (.int (ixx (pmF pi 0))), .val (.int (ixx (pmF pi 1))), .val (.int (ixx (pmF pi 2))), .val (.int (tii (t0F tq0))), .val (.int (tii (t1F tq0 dq1))), .val (.int (tii (t2F tq0 dq1 dq2))), .unset, .unset, .unset, .unset, .unset, .unset, .unset, .unset, .unset, .unset, .unset, .unset, .unset, .unset, .unset] [(.int (1 : Int32)), (.int ((p1.toUInt32 >>> ((4 : Int32) &&& 31).toUInt32).toInt32))])) _
      refine XS.iand X119.here hx rfl (hb hby at_155) rfl ?_
      exact kt
    refine Gl.pre (S' := T119.setTop (mkF m 164 #[.val (.int p0), .val (.int p1), .val (.int p2), .val (.int p3), .val (.ref b101), .val (.int (i5F pi)), .val (.int (ixx (pmF pi 0))), .val (.int (ixx (pmF pi 1))), .val (.int (ixx (pmF pi 2))), .val (.int (tii (t0F tq0))), .val (.int (tii (t1F tq0 dq1))), .val (.int (tii (t2F tq0 dq1 dq2))), .unset, .unset, .unset, .unset, .unset, .unset, .unset, .unset, .unset, .unset, .unset, .unset, .unset, .unset, .unset] [(.int (b2i (!decide (((p1.toUInt32 >>> ((4 : Int32) &&& 31).toUInt32).toInt32 &&& (1 : Int32)) = (0 : Int32)))))])) (fun t kt => ?_) ?_
    · by_cases hc156 : (((p1.toUInt32 >>> ((4 : Int32) &&& 31).toUInt32).toInt32) &&& (1 : Int32)) = (0 : Int32)
      · show Steps p.tables e below (T119.setTop (mkF m 156 #[.val (.int p0), .val (.int p1), .val (.int p2), .val (.int p3), .val (.ref b101), .val (.int (i5F pi)), .val (.int (ixx (pmF pi 0))), .val (.int (ixx (pmF pi 1))), .val (.int (ixx (pmF pi 2))), .val (.int (tii (t0F tq0))), .val (.int (tii (t1F tq0 dq1))), .val (.int (tii (t2F tq0 dq1 dq2))), .unset, .unset, .unset, .unset, .unset, .unset, .unset, .unset, .unset, .unset, .unset, .unset, .unset, .unset, .unset] [(.int (((p1.toUInt32 >>> ((4 : Int32) &&& 31).toUInt32).toInt32) &&& (1 : Int32)))])) _
        refine XS.ifYes X119.here hx rfl (pc0 := 156) (pc' := 163) rfl (hb hby at_156) rfl (own_t (i0_eq _) hc156) (by decide) (by decide) ?_
        show Steps p.tables e below (T119.setTop (mkF m 163 #[.val (.int p0), .val (.int p1), .val (.int p2), .val (.int p3), .val (.ref b101), .val (.int (i5F pi)), .val (.int (ixx (pmF pi 0))), .val (.int (ixx (pmF pi 1))), .val (.int (ixx (pmF pi 2))), .val (.int (tii (t0F tq0))), .val (.int (tii (t1F tq0 dq1))), .val (.int (tii (t2F tq0 dq1 dq2))), .unset, .unset, .unset, .unset, .unset, .unset, .unset, .unset, .unset, .unset, .unset, .unset, .unset, .unset, .unset] [])) _
        refine XS.iconst X119.here hx rfl (hb hby at_163) ?_
        rw [(by have q := hc156; first | (rw [decide_eq_true q]; rfl) | (rw [decide_eq_false q]; rfl) : (b2i (!decide (((p1.toUInt32 >>> ((4 : Int32) &&& 31).toUInt32).toInt32 &&& (1 : Int32)) = (0 : Int32)))) = (0 : Int32))] at kt
        exact kt
      · show Steps p.tables e below (T119.setTop (mkF m 156 #[.val (.int p0), .val (.int p1), .val (.int p2), .val (.int p3), .val (.ref b101), .val (.int (i5F pi)), .val (.int (ixx (pmF pi 0))), .val (.int (ixx (pmF pi 1))), .val (.int (ixx (pmF pi 2))), .val (.int (tii (t0F tq0))), .val (.int (tii (t1F tq0 dq1))), .val (.int (tii (t2F tq0 dq1 dq2))), .unset, .unset, .unset, .unset, .unset, .unset, .unset, .unset, .unset, .unset, .unset, .unset, .unset, .unset, .unset] [(.int (((p1.toUInt32 >>> ((4 : Int32) &&& 31).toUInt32).toInt32) &&& (1 : Int32)))])) _
        refine XS.ifNo X119.here hx rfl (hb hby at_156) rfl (own_f (i0_eq _) hc156) ?_
        show Steps p.tables e below (T119.setTop (mkF m 159 #[.val (.int p0), .val (.int p1), .val (.int p2), .val (.int p3), .val (.ref b101), .val (.int (i5F pi)), .val (.int (ixx (pmF pi 0))), .val (.int (ixx (pmF pi 1))), .val (.int (ixx (pmF pi 2))), .val (.int (tii (t0F tq0))), .val (.int (tii (t1F tq0 dq1))), .val (.int (tii (t2F tq0 dq1 dq2))), .unset, .unset, .unset, .unset, .unset, .unset, .unset, .unset, .unset, .unset, .unset, .unset, .unset, .unset, .unset] [])) _
        refine XS.iconst X119.here hx rfl (hb hby at_159) ?_
        show Steps p.tables e below (T119.setTop (mkF m 160 #[.val (.int p0), .val (.int p1), .val (.int p2), .val (.int p3), .val (.ref b101), .val (.int (i5F pi)), .val (.int (ixx (pmF pi 0))), .val (.int (ixx (pmF pi 1))), .val (.int (ixx (pmF pi 2))), .val (.int (tii (t0F tq0))), .val (.int (tii (t1F tq0 dq1))), .val (.int (tii (t2F tq0 dq1 dq2))), .unset, .unset, .unset, .unset, .unset, .unset, .unset, .unset, .unset, .unset, .unset, .unset, .unset, .unset, .unset] [(.int (1 : Int32))])) _
        refine XS.goto X119.here hx rfl (pc0 := 160) (pc' := 164) rfl (hb hby at_160) (by decide) (by decide) ?_
        rw [(by have q := hc156; first | (rw [decide_eq_true q]; rfl) | (rw [decide_eq_false q]; rfl) : (b2i (!decide (((p1.toUInt32 >>> ((4 : Int32) &&& 31).toUInt32).toInt32 &&& (1 : Int32)) = (0 : Int32)))) = (1 : Int32))] at kt
        exact kt
    obtain ⟨cf0, h_cf0⟩ : ∃ z : Bool, z = (!decide (((p1.toUInt32 >>> ((4 : Int32) &&& 31).toUInt32).toInt32 &&& (1 : Int32)) = (0 : Int32))) := ⟨_, rfl⟩
    rw [← h_cf0]
    refine Gl.pre (S' := T119.setTop (mkF m 171 #[.val (.int p0), .val (.int p1), .val (.int p2), .val (.int p3), .val (.ref b101), .val (.int (i5F pi)), .val (.int (ixx (pmF pi 0))), .val (.int (ixx (pmF pi 1))), .val (.int (ixx (pmF pi 2))), .val (.int (tii (t0F tq0))), .val (.int (tii (t1F tq0 dq1))), .val (.int (tii (t2F tq0 dq1 dq2))), .val (.int (b2i cf0)), .unset, .unset, .unset, .unset, .unset, .unset, .unset, .unset, .unset, .unset, .unset, .unset, .unset, .unset] [(.int (((p1.toUInt32 >>> ((5 : Int32) &&& 31).toUInt32).toInt32) &&& (1 : Int32)))])) (fun t kt => ?_) ?_
    · show Steps p.tables e below (T119.setTop (mkF m 164 #[.val (.int p0), .val (.int p1), .val (.int p2), .val (.int p3), .val (.ref b101), .val (.int (i5F pi)), .val (.int (ixx (pmF pi 0))), .val (.int (ixx (pmF pi 1))), .val (.int (ixx (pmF pi 2))), .val (.int (tii (t0F tq0))), .val (.int (tii (t1F tq0 dq1))), .val (.int (tii (t2F tq0 dq1 dq2))), .unset, .unset, .unset, .unset, .unset, .unset, .unset, .unset, .unset, .unset, .unset, .unset, .unset, .unset, .unset] [(.int (b2i cf0))])) _
      refine XS.istore X119.here hx rfl (hb hby at_164) rfl (l' := #[.val (.int p0), .val (.int p1), .val (.int p2), .val (.int p3), .val (.ref b101), .val (.int (i5F pi)), .val (.int (ixx (pmF pi 0))), .val (.int (ixx (pmF pi 1))), .val (.int (ixx (pmF pi 2))), .val (.int (tii (t0F tq0))), .val (.int (tii (t1F tq0 dq1))), .val (.int (tii (t2F tq0 dq1 dq2))), .val (.int (b2i cf0)), .unset, .unset, .unset, .unset, .unset, .unset, .unset, .unset, .unset, .unset, .unset, .unset, .unset, .unset]) rfl ?_
      show Steps p.tables e below (T119.setTop (mkF m 166 #[.val (.int p0), .val (.int p1), .val (.int p2), .val (.int p3), .val (.ref b101), .val (.int (i5F pi)), .val (.int (ixx (pmF pi 0))), .val (.int (ixx (pmF pi 1))), .val (.int (ixx (pmF pi 2))), .val (.int (tii (t0F tq0))), .val (.int (tii (t1F tq0 dq1))), .val (.int (tii (t2F tq0 dq1 dq2))), .val (.int (b2i cf0)), .unset, .unset, .unset, .unset, .unset, .unset, .unset, .unset, .unset, .unset, .unset, .unset, .unset, .unset] [])) _
      refine XS.iloadN X119.here hx rfl (hb hby at_166) rfl ?_
      show Steps p.tables e below (T119.setTop (mkF m 167 #[.val (.int p0), .val (.int p1), .val (.int p2), .val (.int p3), .val (.ref b101), .val (.int (i5F pi)), .val (.int (ixx (pmF pi 0))), .val (.int (ixx (pmF pi 1))), .val (.int (ixx (pmF pi 2))), .val (.int (tii (t0F tq0))), .val (.int (tii (t1F tq0 dq1))), .val (.int (tii (t2F tq0 dq1 dq2))), .val (.int (b2i cf0)), .unset, .unset, .unset, .unset, .unset, .unset, .unset, .unset, .unset, .unset, .unset, .unset, .unset, .unset] [(.int p1)])) _
      refine XS.iconst X119.here hx rfl (hb hby at_167) ?_
      show Steps p.tables e below (T119.setTop (mkF m 168 #[.val (.int p0), .val (.int p1), .val (.int p2), .val (.int p3), .val (.ref b101), .val (.int (i5F pi)), .val (.int (ixx (pmF pi 0))), .val (.int (ixx (pmF pi 1))), .val (.int (ixx (pmF pi 2))), .val (.int (tii (t0F tq0))), .val (.int (tii (t1F tq0 dq1))), .val (.int (tii (t2F tq0 dq1 dq2))), .val (.int (b2i cf0)), .unset, .unset, .unset, .unset, .unset, .unset, .unset, .unset, .unset, .unset, .unset, .unset, .unset, .unset] [(.int (5 : Int32)), (.int p1)])) _
      refine XS.iushr X119.here hx rfl (hb hby at_168) rfl ?_
      show Steps p.tables e below (T119.setTop (mkF m 169 #[.val (.int p0), .val (.int p1), .val (.int p2), .val (.int p3), .val (.ref b101), .val (.int (i5F pi)), .val (.int (ixx (pmF pi 0))), .val (.int (ixx (pmF pi 1))), .val (.int (ixx (pmF pi 2))), .val (.int (tii (t0F tq0))), .val (.int (tii (t1F tq0 dq1))), .val (.int (tii (t2F tq0 dq1 dq2))), .val (.int (b2i cf0)), .unset, .unset, .unset, .unset, .unset, .unset, .unset, .unset, .unset, .unset, .unset, .unset, .unset, .unset] [(.int ((p1.toUInt32 >>> ((5 : Int32) &&& 31).toUInt32).toInt32))])) _
      refine XS.iconst X119.here hx rfl (hb hby at_169) ?_
      show Steps p.tables e below (T119.setTop (mkF m 170 #[.val (.int p0), .val (.int p1), .val (.int p2), .val (.int p3), .val (.ref b101), .val (.int (i5F pi)), .val (.int (ixx (pmF pi 0))), .val (.int (ixx (pmF pi 1))), .val (.int (ixx (pmF pi 2))), .val (.int (tii (t0F tq0))), .val (.int (tii (t1F tq0 dq1))), .val (.int (tii (t2F tq0 dq1 dq2))), .val (.int (b2i cf0)), .unset, .unset, .unset, .unset, .unset, .unset, .unset, .unset, .unset, .unset, .unset, .unset, .unset, .unset] [(.int (1 : Int32)), (.int ((p1.toUInt32 >>> ((5 : Int32) &&& 31).toUInt32).toInt32))])) _
      refine XS.iand X119.here hx rfl (hb hby at_170) rfl ?_
      exact kt
    refine Gl.pre (S' := T119.setTop (mkF m 179 #[.val (.int p0), .val (.int p1), .val (.int p2), .val (.int p3), .val (.ref b101), .val (.int (i5F pi)), .val (.int (ixx (pmF pi 0))), .val (.int (ixx (pmF pi 1))), .val (.int (ixx (pmF pi 2))), .val (.int (tii (t0F tq0))), .val (.int (tii (t1F tq0 dq1))), .val (.int (tii (t2F tq0 dq1 dq2))), .val (.int (b2i cf0)), .unset, .unset, .unset, .unset, .unset, .unset, .unset, .unset, .unset, .unset, .unset, .unset, .unset, .unset] [(.int (b2i (!decide (((p1.toUInt32 >>> ((5 : Int32) &&& 31).toUInt32).toInt32 &&& (1 : Int32)) = (0 : Int32)))))])) (fun t kt => ?_) ?_
    · by_cases hc171 : (((p1.toUInt32 >>> ((5 : Int32) &&& 31).toUInt32).toInt32) &&& (1 : Int32)) = (0 : Int32)
      · show Steps p.tables e below (T119.setTop (mkF m 171 #[.val (.int p0), .val (.int p1), .val (.int p2), .val (.int p3), .val (.ref b101), .val (.int (i5F pi)), .val (.int (ixx (pmF pi 0))), .val (.int (ixx (pmF pi 1))), .val (.int (ixx (pmF pi 2))), .val (.int (tii (t0F tq0))), .val (.int (tii (t1F tq0 dq1))), .val (.int (tii (t2F tq0 dq1 dq2))), .val (.int (b2i cf0)), .unset, .unset, .unset, .unset, .unset, .unset, .unset, .unset, .unset, .unset, .unset, .unset, .unset, .unset] [(.int (((p1.toUInt32 >>> ((5 : Int32) &&& 31).toUInt32).toInt32) &&& (1 : Int32)))])) _
        refine XS.ifYes X119.here hx rfl (pc0 := 171) (pc' := 178) rfl (hb hby at_171) rfl (own_t (i0_eq _) hc171) (by decide) (by decide) ?_
        show Steps p.tables e below (T119.setTop (mkF m 178 #[.val (.int p0), .val (.int p1), .val (.int p2), .val (.int p3), .val (.ref b101), .val (.int (i5F pi)), .val (.int (ixx (pmF pi 0))), .val (.int (ixx (pmF pi 1))), .val (.int (ixx (pmF pi 2))), .val (.int (tii (t0F tq0))), .val (.int (tii (t1F tq0 dq1))), .val (.int (tii (t2F tq0 dq1 dq2))), .val (.int (b2i cf0)), .unset, .unset, .unset, .unset, .unset, .unset, .unset, .unset, .unset, .unset, .unset, .unset, .unset, .unset] [])) _
        refine XS.iconst X119.here hx rfl (hb hby at_178) ?_
        rw [(by have q := hc171; first | (rw [decide_eq_true q]; rfl) | (rw [decide_eq_false q]; rfl) : (b2i (!decide (((p1.toUInt32 >>> ((5 : Int32) &&& 31).toUInt32).toInt32 &&& (1 : Int32)) = (0 : Int32)))) = (0 : Int32))] at kt
        exact kt
      · show Steps p.tables e below (T119.setTop (mkF m 171 #[.val (.int p0), .val (.int p1), .val (.int p2), .val (.int p3), .val (.ref b101), .val (.int (i5F pi)), .val (.int (ixx (pmF pi 0))), .val (.int (ixx (pmF pi 1))), .val (.int (ixx (pmF pi 2))), .val (.int (tii (t0F tq0))), .val (.int (tii (t1F tq0 dq1))), .val (.int (tii (t2F tq0 dq1 dq2))), .val (.int (b2i cf0)), .unset, .unset, .unset, .unset, .unset, .unset, .unset, .unset, .unset, .unset, .unset, .unset, .unset, .unset] [(.int (((p1.toUInt32 >>> ((5 : Int32) &&& 31).toUInt32).toInt32) &&& (1 : Int32)))])) _
        refine XS.ifNo X119.here hx rfl (hb hby at_171) rfl (own_f (i0_eq _) hc171) ?_
        show Steps p.tables e below (T119.setTop (mkF m 174 #[.val (.int p0), .val (.int p1), .val (.int p2), .val (.int p3), .val (.ref b101), .val (.int (i5F pi)), .val (.int (ixx (pmF pi 0))), .val (.int (ixx (pmF pi 1))), .val (.int (ixx (pmF pi 2))), .val (.int (tii (t0F tq0))), .val (.int (tii (t1F tq0 dq1))), .val (.int (tii (t2F tq0 dq1 dq2))), .val (.int (b2i cf0)), .unset, .unset, .unset, .unset, .unset, .unset, .unset, .unset, .unset, .unset, .unset, .unset, .unset, .unset] [])) _
        refine XS.iconst X119.here hx rfl (hb hby at_174) ?_
        show Steps p.tables e below (T119.setTop (mkF m 175 #[.val (.int p0), .val (.int p1), .val (.int p2), .val (.int p3), .val (.ref b101), .val (.int (i5F pi)), .val (.int (ixx (pmF pi 0))), .val (.int (ixx (pmF pi 1))), .val (.int (ixx (pmF pi 2))), .val (.int (tii (t0F tq0))), .val (.int (tii (t1F tq0 dq1))), .val (.int (tii (t2F tq0 dq1 dq2))), .val (.int (b2i cf0)), .unset, .unset, .unset, .unset, .unset, .unset, .unset, .unset, .unset, .unset, .unset, .unset, .unset, .unset] [(.int (1 : Int32))])) _
        refine XS.goto X119.here hx rfl (pc0 := 175) (pc' := 179) rfl (hb hby at_175) (by decide) (by decide) ?_
        rw [(by have q := hc171; first | (rw [decide_eq_true q]; rfl) | (rw [decide_eq_false q]; rfl) : (b2i (!decide (((p1.toUInt32 >>> ((5 : Int32) &&& 31).toUInt32).toInt32 &&& (1 : Int32)) = (0 : Int32)))) = (1 : Int32))] at kt
        exact kt
    obtain ⟨cf1, h_cf1⟩ : ∃ z : Bool, z = (!decide (((p1.toUInt32 >>> ((5 : Int32) &&& 31).toUInt32).toInt32 &&& (1 : Int32)) = (0 : Int32))) := ⟨_, rfl⟩
    rw [← h_cf1]
    refine Gl.pre (S' := T119.setTop (mkF m 187 #[.val (.int p0), .val (.int p1), .val (.int p2), .val (.int p3), .val (.ref b101), .val (.int (i5F pi)), .val (.int (ixx (pmF pi 0))), .val (.int (ixx (pmF pi 1))), .val (.int (ixx (pmF pi 2))), .val (.int (tii (t0F tq0))), .val (.int (tii (t1F tq0 dq1))), .val (.int (tii (t2F tq0 dq1 dq2))), .val (.int (b2i cf0)), .val (.int (b2i cf1)), .unset, .unset, .unset, .unset, .unset, .unset, .unset, .unset, .unset, .unset, .unset, .unset, .unset] [(.int (((p1.toUInt32 >>> ((6 : Int32) &&& 31).toUInt32).toInt32) &&& (1 : Int32)))])) (fun t kt => ?_) ?_
    · show Steps p.tables e below (T119.setTop (mkF m 179 #[.val (.int p0), .val (.int p1), .val (.int p2), .val (.int p3), .val (.ref b101), .val (.int (i5F pi)), .val (.int (ixx (pmF pi 0))), .val (.int (ixx (pmF pi 1))), .val (.int (ixx (pmF pi 2))), .val (.int (tii (t0F tq0))), .val (.int (tii (t1F tq0 dq1))), .val (.int (tii (t2F tq0 dq1 dq2))), .val (.int (b2i cf0)), .unset, .unset, .unset, .unset, .unset, .unset, .unset, .unset, .unset, .unset, .unset, .unset, .unset, .unset] [(.int (b2i cf1))])) _
      refine XS.istore X119.here hx rfl (hb hby at_179) rfl (l' := #[.val (.int p0), .val (.int p1), .val (.int p2), .val (.int p3), .val (.ref b101), .val (.int (i5F pi)), .val (.int (ixx (pmF pi 0))), .val (.int (ixx (pmF pi 1))), .val (.int (ixx (pmF pi 2))), .val (.int (tii (t0F tq0))), .val (.int (tii (t1F tq0 dq1))), .val (.int (tii (t2F tq0 dq1 dq2))), .val (.int (b2i cf0)), .val (.int (b2i cf1)), .unset, .unset, .unset, .unset, .unset, .unset, .unset, .unset, .unset, .unset, .unset, .unset, .unset]) rfl ?_
      show Steps p.tables e below (T119.setTop (mkF m 181 #[.val (.int p0), .val (.int p1), .val (.int p2), .val (.int p3), .val (.ref b101), .val (.int (i5F pi)), .val (.int (ixx (pmF pi 0))), .val (.int (ixx (pmF pi 1))), .val (.int (ixx (pmF pi 2))), .val (.int (tii (t0F tq0))), .val (.int (tii (t1F tq0 dq1))), .val (.int (tii (t2F tq0 dq1 dq2))), .val (.int (b2i cf0)), .val (.int (b2i cf1)), .unset, .unset, .unset, .unset, .unset, .unset, .unset, .unset, .unset, .unset, .unset, .unset, .unset] [])) _
      refine XS.iloadN X119.here hx rfl (hb hby at_181) rfl ?_
      show Steps p.tables e below (T119.setTop (mkF m 182 #[.val (.int p0), .val (.int p1), .val (.int p2), .val (.int p3), .val (.ref b101), .val (.int (i5F pi)), .val (.int (ixx (pmF pi 0))), .val (.int (ixx (pmF pi 1))), .val (.int (ixx (pmF pi 2))), .val (.int (tii (t0F tq0))), .val (.int (tii (t1F tq0 dq1))), .val (.int (tii (t2F tq0 dq1 dq2))), .val (.int (b2i cf0)), .val (.int (b2i cf1)), .unset, .unset, .unset, .unset, .unset, .unset, .unset, .unset, .unset, .unset, .unset, .unset, .unset] [(.int p1)])) _
      refine XS.bipush X119.here hx rfl (hb hby at_182) ?_
      show Steps p.tables e below (T119.setTop (mkF m 184 #[.val (.int p0), .val (.int p1), .val (.int p2), .val (.int p3), .val (.ref b101), .val (.int (i5F pi)), .val (.int (ixx (pmF pi 0))), .val (.int (ixx (pmF pi 1))), .val (.int (ixx (pmF pi 2))), .val (.int (tii (t0F tq0))), .val (.int (tii (t1F tq0 dq1))), .val (.int (tii (t2F tq0 dq1 dq2))), .val (.int (b2i cf0)), .val (.int (b2i cf1)), .unset, .unset, .unset, .unset, .unset, .unset, .unset, .unset, .unset, .unset, .unset, .unset, .unset] [(.int (6 : Int32)), (.int p1)])) _
      refine XS.iushr X119.here hx rfl (hb hby at_184) rfl ?_
      show Steps p.tables e below (T119.setTop (mkF m 185 #[.val (.int p0), .val (.int p1), .val (.int p2), .val (.int p3), .val (.ref b101), .val (.int (i5F pi)), .val (.int (ixx (pmF pi 0))), .val (.int (ixx (pmF pi 1))), .val (.int (ixx (pmF pi 2))), .val (.int (tii (t0F tq0))), .val (.int (tii (t1F tq0 dq1))), .val (.int (tii (t2F tq0 dq1 dq2))), .val (.int (b2i cf0)), .val (.int (b2i cf1)), .unset, .unset, .unset, .unset, .unset, .unset, .unset, .unset, .unset, .unset, .unset, .unset, .unset] [(.int ((p1.toUInt32 >>> ((6 : Int32) &&& 31).toUInt32).toInt32))])) _
      refine XS.iconst X119.here hx rfl (hb hby at_185) ?_
      show Steps p.tables e below (T119.setTop (mkF m 186 #[.val (.int p0), .val (.int p1), .val (.int p2), .val (.int p3), .val (.ref b101), .val (.int (i5F pi)), .val (.int (ixx (pmF pi 0))), .val (.int (ixx (pmF pi 1))), .val (.int (ixx (pmF pi 2))), .val (.int (tii (t0F tq0))), .val (.int (tii (t1F tq0 dq1))), .val (.int (tii (t2F tq0 dq1 dq2))), .val (.int (b2i cf0)), .val (.int (b2i cf1)), .unset, .unset, .unset, .unset, .unset, .unset, .unset, .unset, .unset, .unset, .unset, .unset, .unset] [(.int (1 : Int32)), (.int ((p1.toUInt32 >>> ((6 : Int32) &&& 31).toUInt32).toInt32))])) _
      refine XS.iand X119.here hx rfl (hb hby at_186) rfl ?_
      exact kt
    refine Gl.pre (S' := T119.setTop (mkF m 195 #[.val (.int p0), .val (.int p1), .val (.int p2), .val (.int p3), .val (.ref b101), .val (.int (i5F pi)), .val (.int (ixx (pmF pi 0))), .val (.int (ixx (pmF pi 1))), .val (.int (ixx (pmF pi 2))), .val (.int (tii (t0F tq0))), .val (.int (tii (t1F tq0 dq1))), .val (.int (tii (t2F tq0 dq1 dq2))), .val (.int (b2i cf0)), .val (.int (b2i cf1)), .unset, .unset, .unset, .unset, .unset, .unset, .unset, .unset, .unset, .unset, .unset, .unset, .unset] [(.int (b2i (!decide (((p1.toUInt32 >>> ((6 : Int32) &&& 31).toUInt32).toInt32 &&& (1 : Int32)) = (0 : Int32)))))])) (fun t kt => ?_) ?_
    · by_cases hc187 : (((p1.toUInt32 >>> ((6 : Int32) &&& 31).toUInt32).toInt32) &&& (1 : Int32)) = (0 : Int32)
      · show Steps p.tables e below (T119.setTop (mkF m 187 #[.val (.int p0), .val (.int p1), .val (.int p2), .val (.int p3), .val (.ref b101), .val (.int (i5F pi)), .val (.int (ixx (pmF pi 0))), .val (.int (ixx (pmF pi 1))), .val (.int (ixx (pmF pi 2))), .val (.int (tii (t0F tq0))), .val (.int (tii (t1F tq0 dq1))), .val (.int (tii (t2F tq0 dq1 dq2))), .val (.int (b2i cf0)), .val (.int (b2i cf1)), .unset, .unset, .unset, .unset, .unset, .unset, .unset, .unset, .unset, .unset, .unset, .unset, .unset] [(.int (((p1.toUInt32 >>> ((6 : Int32) &&& 31).toUInt32).toInt32) &&& (1 : Int32)))])) _
        refine XS.ifYes X119.here hx rfl (pc0 := 187) (pc' := 194) rfl (hb hby at_187) rfl (own_t (i0_eq _) hc187) (by decide) (by decide) ?_
        show Steps p.tables e below (T119.setTop (mkF m 194 #[.val (.int p0), .val (.int p1), .val (.int p2), .val (.int p3), .val (.ref b101), .val (.int (i5F pi)), .val (.int (ixx (pmF pi 0))), .val (.int (ixx (pmF pi 1))), .val (.int (ixx (pmF pi 2))), .val (.int (tii (t0F tq0))), .val (.int (tii (t1F tq0 dq1))), .val (.int (tii (t2F tq0 dq1 dq2))), .val (.int (b2i cf0)), .val (.int (b2i cf1)), .unset, .unset, .unset, .unset, .unset, .unset, .unset, .unset, .unset, .unset, .unset, .unset, .unset] [])) _
        refine XS.iconst X119.here hx rfl (hb hby at_194) ?_
        rw [(by have q := hc187; first | (rw [decide_eq_true q]; rfl) | (rw [decide_eq_false q]; rfl) : (b2i (!decide (((p1.toUInt32 >>> ((6 : Int32) &&& 31).toUInt32).toInt32 &&& (1 : Int32)) = (0 : Int32)))) = (0 : Int32))] at kt
        exact kt
      · show Steps p.tables e below (T119.setTop (mkF m 187 #[.val (.int p0), .val (.int p1), .val (.int p2), .val (.int p3), .val (.ref b101), .val (.int (i5F pi)), .val (.int (ixx (pmF pi 0))), .val (.int (ixx (pmF pi 1))), .val (.int (ixx (pmF pi 2))), .val (.int (tii (t0F tq0))), .val (.int (tii (t1F tq0 dq1))), .val (.int (tii (t2F tq0 dq1 dq2))), .val (.int (b2i cf0)), .val (.int (b2i cf1)), .unset, .unset, .unset, .unset, .unset, .unset, .unset, .unset, .unset, .unset, .unset, .unset, .unset] [(.int (((p1.toUInt32 >>> ((6 : Int32) &&& 31).toUInt32).toInt32) &&& (1 : Int32)))])) _
        refine XS.ifNo X119.here hx rfl (hb hby at_187) rfl (own_f (i0_eq _) hc187) ?_
        show Steps p.tables e below (T119.setTop (mkF m 190 #[.val (.int p0), .val (.int p1), .val (.int p2), .val (.int p3), .val (.ref b101), .val (.int (i5F pi)), .val (.int (ixx (pmF pi 0))), .val (.int (ixx (pmF pi 1))), .val (.int (ixx (pmF pi 2))), .val (.int (tii (t0F tq0))), .val (.int (tii (t1F tq0 dq1))), .val (.int (tii (t2F tq0 dq1 dq2))), .val (.int (b2i cf0)), .val (.int (b2i cf1)), .unset, .unset, .unset, .unset, .unset, .unset, .unset, .unset, .unset, .unset, .unset, .unset, .unset] [])) _
        refine XS.iconst X119.here hx rfl (hb hby at_190) ?_
        show Steps p.tables e below (T119.setTop (mkF m 191 #[.val (.int p0), .val (.int p1), .val (.int p2), .val (.int p3), .val (.ref b101), .val (.int (i5F pi)), .val (.int (ixx (pmF pi 0))), .val (.int (ixx (pmF pi 1))), .val (.int (ixx (pmF pi 2))), .val (.int (tii (t0F tq0))), .val (.int (tii (t1F tq0 dq1))), .val (.int (tii (t2F tq0 dq1 dq2))), .val (.int (b2i cf0)), .val (.int (b2i cf1)), .unset, .unset, .unset, .unset, .unset, .unset, .unset, .unset, .unset, .unset, .unset, .unset, .unset] [(.int (1 : Int32))])) _
        refine XS.goto X119.here hx rfl (pc0 := 191) (pc' := 195) rfl (hb hby at_191) (by decide) (by decide) ?_
        rw [(by have q := hc187; first | (rw [decide_eq_true q]; rfl) | (rw [decide_eq_false q]; rfl) : (b2i (!decide (((p1.toUInt32 >>> ((6 : Int32) &&& 31).toUInt32).toInt32 &&& (1 : Int32)) = (0 : Int32)))) = (1 : Int32))] at kt
        exact kt
    obtain ⟨cf2, h_cf2⟩ : ∃ z : Bool, z = (!decide (((p1.toUInt32 >>> ((6 : Int32) &&& 31).toUInt32).toInt32 &&& (1 : Int32)) = (0 : Int32))) := ⟨_, rfl⟩
    rw [← h_cf2]
    obtain ⟨T120, h120, k120, X120, e120, E120, A120, st120⟩ := newP X119 hx hZ (hw _ (List.mem_of_getElem? (i := 2) rfl)) e119 (g := (mkF m 198 #[.val (.int p0), .val (.int p1), .val (.int p2), .val (.int p3), .val (.ref b101), .val (.int (i5F pi)), .val (.int (ixx (pmF pi 0))), .val (.int (ixx (pmF pi 1))), .val (.int (ixx (pmF pi 2))), .val (.int (tii (t0F tq0))), .val (.int (tii (t1F tq0 dq1))), .val (.int (tii (t2F tq0 dq1 dq2))), .val (.int (b2i cf0)), .val (.int (b2i cf1)), .val (.int (b2i cf2)), .unset, .unset, .unset, .unset, .unset, .unset, .unset, .unset, .unset, .unset, .unset, .unset] [(.int (3 : Int32))])) rfl (hb hby at_198) rfl (by decide) (cap := 3) (by decide) (by decide) (by decide) (by decide)
    obtain ⟨b120, g120⟩ : ∃ z, z = h119.size := ⟨_, rfl⟩
    have z121 : n0 ≤ h119.size := (Nat.le_trans (Nat.le_trans (Nat.le_trans (Nat.le_trans (Nat.le_trans (Nat.le_trans (Nat.le_trans (Nat.le_trans (Nat.le_trans (Nat.le_trans (Nat.le_trans (Nat.le_trans (Nat.le_trans (Nat.le_trans (Nat.le_trans (Nat.le_trans (Nat.le_trans (Nat.le_trans (Nat.le_trans Z0 E101.1) (Keep.of_wr W102).1) (Keep.of_wr W103).1) (Keep.of_wr W104).1) (Keep.of_wr W105).1) (Keep.of_wr W106).1) (Keep.of_wr W107).1) (Keep.of_wr W108).1) (Keep.of_wr W109).1) (Keep.of_wr W110).1) (Keep.of_wr W111).1) (Keep.of_wr W112).1) (Keep.of_wr W113).1) (Keep.of_wr W114).1) (Keep.of_wr W115).1) (Keep.of_wr W116).1) (Keep.of_wr W117).1) (Keep.of_wr W118).1) (Keep.of_wr W119).1)
    have g_b120 : n0 ≤ b120 := Nat.le_trans z121 (Nat.le_of_eq g120.symm)
    have sz_b120 : h0.size ≤ b120 := Nat.le_trans K119.1 (Nat.le_of_eq g120.symm)
    rw [← g120] at A120 st120
    have K120 : Keep h0 h120 [] := K119.ext E120
    have V_b120 : Arv Z h120 b120 k120 .boolean (3 : Int32) [(.int (0 : Int32)), (.int (0 : Int32)), (.int (0 : Int32))] (.int (0 : Int32)) := (Arv.new A120 (by decide)).pad (pad_rep [] (.int (0 : Int32)) 3)
    obtain ⟨T122, h122, k122, X122, e122, E122, A122, st122⟩ := newP X120 hx hZ (hw _ (List.mem_of_getElem? (i := 0) rfl)) e120 (g := (mkF m 203 #[.val (.int p0), .val (.int p1), .val (.int p2), .val (.int p3), .val (.ref b101), .val (.int (i5F pi)), .val (.int (ixx (pmF pi 0))), .val (.int (ixx (pmF pi 1))), .val (.int (ixx (pmF pi 2))), .val (.int (tii (t0F tq0))), .val (.int (tii (t1F tq0 dq1))), .val (.int (tii (t2F tq0 dq1 dq2))), .val (.int (b2i cf0)), .val (.int (b2i cf1)), .val (.int (b2i cf2)), .val (.ref b120), .unset, .unset, .unset, .unset, .unset, .unset, .unset, .unset, .unset, .unset, .unset] [(.int (3 : Int32))])) rfl (hb hby at_203) rfl (by decide) (cap := 3) (by decide) (by decide) (by decide) (by decide)
    obtain ⟨b122, g122⟩ : ∃ z, z = h120.size := ⟨_, rfl⟩
    have z123 : n0 ≤ h120.size := (Nat.le_trans z121 E120.1)
    have g_b122 : n0 ≤ b122 := Nat.le_trans z123 (Nat.le_of_eq g122.symm)
    have sz_b122 : h0.size ≤ b122 := Nat.le_trans K120.1 (Nat.le_of_eq g122.symm)
    rw [← g122] at A122 st122
    have K122 : Keep h0 h122 [] := K120.ext E122
    have V_b122 : Arv Z h122 b122 k122 .int (3 : Int32) [(.int (0 : Int32)), (.int (0 : Int32)), (.int (0 : Int32))] (.int (0 : Int32)) := (Arv.new A122 (by decide)).pad (pad_rep [] (.int (0 : Int32)) 3)
    have f125 := (V_b120.ext E122)
    have G124 : ArG Z h122 b120 .boolean (fun j => (.int (b2i ((fun _ => false) j)))) := ArG.of3 f125
    have G126 : ArG Z h122 b122 .int (fun j => (.int (tii ((fun _ => (0 : Fin 6)) j)))) := ArG.of3 V_b122
    obtain ⟨cl127, Ar127, Sa127, Ha127⟩ := id G124
    have hin127 : ¬ ((ixx (pmF pi 0)) < 0 ∨ cl127.slots.size ≤ ((ixx (pmF pi 0))).toNatClampNeg) := own_ing Sa127 (pmF pi 0)
    obtain ⟨T127, h127, X127, e127, W127, st127⟩ := stZ X122 hx hZ e122 Ar127 (j := (ixx (pmF pi 0))) hin127 (g := (mkF m 213 #[.val (.int p0), .val (.int p1), .val (.int p2), .val (.int p3), .val (.ref b101), .val (.int (i5F pi)), .val (.int (ixx (pmF pi 0))), .val (.int (ixx (pmF pi 1))), .val (.int (ixx (pmF pi 2))), .val (.int (tii (t0F tq0))), .val (.int (tii (t1F tq0 dq1))), .val (.int (tii (t2F tq0 dq1 dq2))), .val (.int (b2i cf0)), .val (.int (b2i cf1)), .val (.int (b2i cf2)), .val (.ref b120), .val (.ref b122), .unset, .unset, .unset, .unset, .unset, .unset, .unset, .unset, .unset, .unset] [(.int (b2i cf0)), (.int (ixx (pmF pi 0))), (.ref b120)])) rfl rfl (hb hby at_213)
    rw [own_nar_b2i] at W127
    have G127 : ArG Z h127 b120 .boolean (fun j => (.int (b2i ((upp (fun _ => false) (pmF pi 0) cf0) j)))) := (ArG.set Ar127 Sa127 Ha127 (i := (pmF pi 0)) W127).congr (fun j => by unfold upp; split <;> rfl)
    have K127 : Keep h0 h127 [] := K122.wr W127 (Or.inr sz_b120)
    have N127 := Fr.snoc X127 N119 g_b120
    have f129 := (G126.other W127 (Ne.symm (Nat.ne_of_lt (Nat.lt_of_lt_of_le V_b120.lt (Nat.le_of_eq g122.symm)))))
    obtain ⟨cl128, Ar128, Sa128, Ha128⟩ := id f129
    have hin128 : ¬ ((ixx (pmF pi 0)) < 0 ∨ cl128.slots.size ≤ ((ixx (pmF pi 0))).toNatClampNeg) := own_ing Sa128 (pmF pi 0)
    obtain ⟨T128, h128, X128, e128, W128, st128⟩ := stI X127 hx hZ e127 Ar128 (j := (ixx (pmF pi 0))) hin128 (g := (mkF m 220 #[.val (.int p0), .val (.int p1), .val (.int p2), .val (.int p3), .val (.ref b101), .val (.int (i5F pi)), .val (.int (ixx (pmF pi 0))), .val (.int (ixx (pmF pi 1))), .val (.int (ixx (pmF pi 2))), .val (.int (tii (t0F tq0))), .val (.int (tii (t1F tq0 dq1))), .val (.int (tii (t2F tq0 dq1 dq2))), .val (.int (b2i cf0)), .val (.int (b2i cf1)), .val (.int (b2i cf2)), .val (.ref b120), .val (.ref b122), .unset, .unset, .unset, .unset, .unset, .unset, .unset, .unset, .unset, .unset] [(.int (tii (t0F tq0))), (.int (ixx (pmF pi 0))), (.ref b122)])) rfl rfl (hb hby at_220)
    have G128 : ArG Z h128 b122 .int (fun j => (.int (tii ((upp (fun _ => (0 : Fin 6)) (pmF pi 0) (t0F tq0)) j)))) := (ArG.set Ar128 Sa128 Ha128 (i := (pmF pi 0)) W128).congr (fun j => by unfold upp; split <;> rfl)
    have K128 : Keep h0 h128 [] := K127.wr W128 (Or.inr sz_b122)
    have N128 := Fr.snoc X128 N127 g_b122
    have f131 := (G127.other W128 (Nat.ne_of_lt (Nat.lt_of_lt_of_le V_b120.lt (Nat.le_of_eq g122.symm))))
    obtain ⟨cl130, Ar130, Sa130, Ha130⟩ := id f131
    have hin130 : ¬ ((ixx (pmF pi 1)) < 0 ∨ cl130.slots.size ≤ ((ixx (pmF pi 1))).toNatClampNeg) := own_ing Sa130 (pmF pi 1)
    obtain ⟨T130, h130, X130, e130, W130, st130⟩ := stZ X128 hx hZ e128 Ar130 (j := (ixx (pmF pi 1))) hin130 (g := (mkF m 227 #[.val (.int p0), .val (.int p1), .val (.int p2), .val (.int p3), .val (.ref b101), .val (.int (i5F pi)), .val (.int (ixx (pmF pi 0))), .val (.int (ixx (pmF pi 1))), .val (.int (ixx (pmF pi 2))), .val (.int (tii (t0F tq0))), .val (.int (tii (t1F tq0 dq1))), .val (.int (tii (t2F tq0 dq1 dq2))), .val (.int (b2i cf0)), .val (.int (b2i cf1)), .val (.int (b2i cf2)), .val (.ref b120), .val (.ref b122), .unset, .unset, .unset, .unset, .unset, .unset, .unset, .unset, .unset, .unset] [(.int (b2i cf1)), (.int (ixx (pmF pi 1))), (.ref b120)])) rfl rfl (hb hby at_227)
    rw [own_nar_b2i] at W130
    have G130 : ArG Z h130 b120 .boolean (fun j => (.int (b2i ((upp (upp (fun _ => false) (pmF pi 0) cf0) (pmF pi 1) cf1) j)))) := (ArG.set Ar130 Sa130 Ha130 (i := (pmF pi 1)) W130).congr (fun j => by unfold upp; split <;> rfl)
    have K130 : Keep h0 h130 [] := K128.wr W130 (Or.inr sz_b120)
    have N130 := Fr.snoc X130 N128 g_b120
    have f133 := (G128.other W130 (Ne.symm (Nat.ne_of_lt (Nat.lt_of_lt_of_le V_b120.lt (Nat.le_of_eq g122.symm)))))
    obtain ⟨cl132, Ar132, Sa132, Ha132⟩ := id f133
    have hin132 : ¬ ((ixx (pmF pi 1)) < 0 ∨ cl132.slots.size ≤ ((ixx (pmF pi 1))).toNatClampNeg) := own_ing Sa132 (pmF pi 1)
    obtain ⟨T132, h132, X132, e132, W132, st132⟩ := stI X130 hx hZ e130 Ar132 (j := (ixx (pmF pi 1))) hin132 (g := (mkF m 234 #[.val (.int p0), .val (.int p1), .val (.int p2), .val (.int p3), .val (.ref b101), .val (.int (i5F pi)), .val (.int (ixx (pmF pi 0))), .val (.int (ixx (pmF pi 1))), .val (.int (ixx (pmF pi 2))), .val (.int (tii (t0F tq0))), .val (.int (tii (t1F tq0 dq1))), .val (.int (tii (t2F tq0 dq1 dq2))), .val (.int (b2i cf0)), .val (.int (b2i cf1)), .val (.int (b2i cf2)), .val (.ref b120), .val (.ref b122), .unset, .unset, .unset, .unset, .unset, .unset, .unset, .unset, .unset, .unset] [(.int (tii (t1F tq0 dq1))), (.int (ixx (pmF pi 1))), (.ref b122)])) rfl rfl (hb hby at_234)
    have G132 : ArG Z h132 b122 .int (fun j => (.int (tii ((upp (upp (fun _ => (0 : Fin 6)) (pmF pi 0) (t0F tq0)) (pmF pi 1) (t1F tq0 dq1)) j)))) := (ArG.set Ar132 Sa132 Ha132 (i := (pmF pi 1)) W132).congr (fun j => by unfold upp; split <;> rfl)
    have K132 : Keep h0 h132 [] := K130.wr W132 (Or.inr sz_b122)
    have N132 := Fr.snoc X132 N130 g_b122
    have f135 := (G130.other W132 (Nat.ne_of_lt (Nat.lt_of_lt_of_le V_b120.lt (Nat.le_of_eq g122.symm))))
    obtain ⟨cl134, Ar134, Sa134, Ha134⟩ := id f135
    have hin134 : ¬ ((ixx (pmF pi 2)) < 0 ∨ cl134.slots.size ≤ ((ixx (pmF pi 2))).toNatClampNeg) := own_ing Sa134 (pmF pi 2)
    obtain ⟨T134, h134, X134, e134, W134, st134⟩ := stZ X132 hx hZ e132 Ar134 (j := (ixx (pmF pi 2))) hin134 (g := (mkF m 241 #[.val (.int p0), .val (.int p1), .val (.int p2), .val (.int p3), .val (.ref b101), .val (.int (i5F pi)), .val (.int (ixx (pmF pi 0))), .val (.int (ixx (pmF pi 1))), .val (.int (ixx (pmF pi 2))), .val (.int (tii (t0F tq0))), .val (.int (tii (t1F tq0 dq1))), .val (.int (tii (t2F tq0 dq1 dq2))), .val (.int (b2i cf0)), .val (.int (b2i cf1)), .val (.int (b2i cf2)), .val (.ref b120), .val (.ref b122), .unset, .unset, .unset, .unset, .unset, .unset, .unset, .unset, .unset, .unset] [(.int (b2i cf2)), (.int (ixx (pmF pi 2))), (.ref b120)])) rfl rfl (hb hby at_241)
    rw [own_nar_b2i] at W134
    have G134 : ArG Z h134 b120 .boolean (fun j => (.int (b2i ((upp (upp (upp (fun _ => false) (pmF pi 0) cf0) (pmF pi 1) cf1) (pmF pi 2) cf2) j)))) := (ArG.set Ar134 Sa134 Ha134 (i := (pmF pi 2)) W134).congr (fun j => by unfold upp; split <;> rfl)
    have K134 : Keep h0 h134 [] := K132.wr W134 (Or.inr sz_b120)
    have N134 := Fr.snoc X134 N132 g_b120
    have f137 := (G132.other W134 (Ne.symm (Nat.ne_of_lt (Nat.lt_of_lt_of_le V_b120.lt (Nat.le_of_eq g122.symm)))))
    obtain ⟨cl136, Ar136, Sa136, Ha136⟩ := id f137
    have hin136 : ¬ ((ixx (pmF pi 2)) < 0 ∨ cl136.slots.size ≤ ((ixx (pmF pi 2))).toNatClampNeg) := own_ing Sa136 (pmF pi 2)
    obtain ⟨T136, h136, X136, e136, W136, st136⟩ := stI X134 hx hZ e134 Ar136 (j := (ixx (pmF pi 2))) hin136 (g := (mkF m 248 #[.val (.int p0), .val (.int p1), .val (.int p2), .val (.int p3), .val (.ref b101), .val (.int (i5F pi)), .val (.int (ixx (pmF pi 0))), .val (.int (ixx (pmF pi 1))), .val (.int (ixx (pmF pi 2))), .val (.int (tii (t0F tq0))), .val (.int (tii (t1F tq0 dq1))), .val (.int (tii (t2F tq0 dq1 dq2))), .val (.int (b2i cf0)), .val (.int (b2i cf1)), .val (.int (b2i cf2)), .val (.ref b120), .val (.ref b122), .unset, .unset, .unset, .unset, .unset, .unset, .unset, .unset, .unset, .unset] [(.int (tii (t2F tq0 dq1 dq2))), (.int (ixx (pmF pi 2))), (.ref b122)])) rfl rfl (hb hby at_248)
    have G136 : ArG Z h136 b122 .int (fun j => (.int (tii ((upp (upp (upp (fun _ => (0 : Fin 6)) (pmF pi 0) (t0F tq0)) (pmF pi 1) (t1F tq0 dq1)) (pmF pi 2) (t2F tq0 dq1 dq2)) j)))) := (ArG.set Ar136 Sa136 Ha136 (i := (pmF pi 2)) W136).congr (fun j => by unfold upp; split <;> rfl)
    have K136 : Keep h0 h136 [] := K134.wr W136 (Or.inr sz_b122)
    have N136 := Fr.snoc X136 N134 g_b122
    have f139 := (G134.other W136 (Nat.ne_of_lt (Nat.lt_of_lt_of_le V_b120.lt (Nat.le_of_eq g122.symm))))
    have G138 : ArG Z h136 b120 .boolean (fun j => (.int (b2i ((ccF pi cf0 cf1 cf2) j)))) := f139
    have G140 : ArG Z h136 b122 .int (fun j => (.int (tii ((ttF pi tq0 dq1 dq2) j)))) := G136
    refine Gl.pre (S' := T136.setTop (mkF m 249 #[.val (.int p0), .val (.int p1), .val (.int p2), .val (.int p3), .val (.ref b101), .val (.int (i5F pi)), .val (.int (ixx (pmF pi 0))), .val (.int (ixx (pmF pi 1))), .val (.int (ixx (pmF pi 2))), .val (.int (tii (t0F tq0))), .val (.int (tii (t1F tq0 dq1))), .val (.int (tii (t2F tq0 dq1 dq2))), .val (.int (b2i cf0)), .val (.int (b2i cf1)), .val (.int (b2i cf2)), .val (.ref b120), .val (.ref b122), .unset, .unset, .unset, .unset, .unset, .unset, .unset, .unset, .unset, .unset] [])) (fun t kt => ?_) ?_
    · show Steps p.tables e below (T119.setTop (mkF m 195 #[.val (.int p0), .val (.int p1), .val (.int p2), .val (.int p3), .val (.ref b101), .val (.int (i5F pi)), .val (.int (ixx (pmF pi 0))), .val (.int (ixx (pmF pi 1))), .val (.int (ixx (pmF pi 2))), .val (.int (tii (t0F tq0))), .val (.int (tii (t1F tq0 dq1))), .val (.int (tii (t2F tq0 dq1 dq2))), .val (.int (b2i cf0)), .val (.int (b2i cf1)), .unset, .unset, .unset, .unset, .unset, .unset, .unset, .unset, .unset, .unset, .unset, .unset, .unset] [(.int (b2i cf2))])) _
      refine XS.istore X119.here hx rfl (hb hby at_195) rfl (l' := #[.val (.int p0), .val (.int p1), .val (.int p2), .val (.int p3), .val (.ref b101), .val (.int (i5F pi)), .val (.int (ixx (pmF pi 0))), .val (.int (ixx (pmF pi 1))), .val (.int (ixx (pmF pi 2))), .val (.int (tii (t0F tq0))), .val (.int (tii (t1F tq0 dq1))), .val (.int (tii (t2F tq0 dq1 dq2))), .val (.int (b2i cf0)), .val (.int (b2i cf1)), .val (.int (b2i cf2)), .unset, .unset, .unset, .unset, .unset, .unset, .unset, .unset, .unset, .unset, .unset, .unset]) rfl ?_
      show Steps p.tables e below (T119.setTop (mkF m 197 #[.val (.int p0), .val (.int p1), .val (.int p2), .val (.int p3), .val (.ref b101), .val (.int (i5F pi)), .val (.int (ixx (pmF pi 0))), .val (.int (ixx (pmF pi 1))), .val (.int (ixx (pmF pi 2))), .val (.int (tii (t0F tq0))), .val (.int (tii (t1F tq0 dq1))), .val (.int (tii (t2F tq0 dq1 dq2))), .val (.int (b2i cf0)), .val (.int (b2i cf1)), .val (.int (b2i cf2)), .unset, .unset, .unset, .unset, .unset, .unset, .unset, .unset, .unset, .unset, .unset, .unset] [])) _
      refine XS.iconst X119.here hx rfl (hb hby at_197) ?_
      show Steps p.tables e below (T119.setTop (mkF m 198 #[.val (.int p0), .val (.int p1), .val (.int p2), .val (.int p3), .val (.ref b101), .val (.int (i5F pi)), .val (.int (ixx (pmF pi 0))), .val (.int (ixx (pmF pi 1))), .val (.int (ixx (pmF pi 2))), .val (.int (tii (t0F tq0))), .val (.int (tii (t1F tq0 dq1))), .val (.int (tii (t2F tq0 dq1 dq2))), .val (.int (b2i cf0)), .val (.int (b2i cf1)), .val (.int (b2i cf2)), .unset, .unset, .unset, .unset, .unset, .unset, .unset, .unset, .unset, .unset, .unset, .unset] [(.int (3 : Int32))])) _
      refine st120 _ ?_
      show Steps p.tables e below (T120.setTop (mkF m 200 #[.val (.int p0), .val (.int p1), .val (.int p2), .val (.int p3), .val (.ref b101), .val (.int (i5F pi)), .val (.int (ixx (pmF pi 0))), .val (.int (ixx (pmF pi 1))), .val (.int (ixx (pmF pi 2))), .val (.int (tii (t0F tq0))), .val (.int (tii (t1F tq0 dq1))), .val (.int (tii (t2F tq0 dq1 dq2))), .val (.int (b2i cf0)), .val (.int (b2i cf1)), .val (.int (b2i cf2)), .unset, .unset, .unset, .unset, .unset, .unset, .unset, .unset, .unset, .unset, .unset, .unset] [(.ref b120)])) _
      refine XS.astore X120.here hx rfl (hb hby at_200) rfl rfl (l' := #[.val (.int p0), .val (.int p1), .val (.int p2), .val (.int p3), .val (.ref b101), .val (.int (i5F pi)), .val (.int (ixx (pmF pi 0))), .val (.int (ixx (pmF pi 1))), .val (.int (ixx (pmF pi 2))), .val (.int (tii (t0F tq0))), .val (.int (tii (t1F tq0 dq1))), .val (.int (tii (t2F tq0 dq1 dq2))), .val (.int (b2i cf0)), .val (.int (b2i cf1)), .val (.int (b2i cf2)), .val (.ref b120), .unset, .unset, .unset, .unset, .unset, .unset, .unset, .unset, .unset, .unset, .unset]) rfl ?_
      show Steps p.tables e below (T120.setTop (mkF m 202 #[.val (.int p0), .val (.int p1), .val (.int p2), .val (.int p3), .val (.ref b101), .val (.int (i5F pi)), .val (.int (ixx (pmF pi 0))), .val (.int (ixx (pmF pi 1))), .val (.int (ixx (pmF pi 2))), .val (.int (tii (t0F tq0))), .val (.int (tii (t1F tq0 dq1))), .val (.int (tii (t2F tq0 dq1 dq2))), .val (.int (b2i cf0)), .val (.int (b2i cf1)), .val (.int (b2i cf2)), .val (.ref b120), .unset, .unset, .unset, .unset, .unset, .unset, .unset, .unset, .unset, .unset, .unset] [])) _
      refine XS.iconst X120.here hx rfl (hb hby at_202) ?_
      show Steps p.tables e below (T120.setTop (mkF m 203 #[.val (.int p0), .val (.int p1), .val (.int p2), .val (.int p3), .val (.ref b101), .val (.int (i5F pi)), .val (.int (ixx (pmF pi 0))), .val (.int (ixx (pmF pi 1))), .val (.int (ixx (pmF pi 2))), .val (.int (tii (t0F tq0))), .val (.int (tii (t1F tq0 dq1))), .val (.int (tii (t2F tq0 dq1 dq2))), .val (.int (b2i cf0)), .val (.int (b2i cf1)), .val (.int (b2i cf2)), .val (.ref b120), .unset, .unset, .unset, .unset, .unset, .unset, .unset, .unset, .unset, .unset, .unset] [(.int (3 : Int32))])) _
      refine st122 _ ?_
      show Steps p.tables e below (T122.setTop (mkF m 205 #[.val (.int p0), .val (.int p1), .val (.int p2), .val (.int p3), .val (.ref b101), .val (.int (i5F pi)), .val (.int (ixx (pmF pi 0))), .val (.int (ixx (pmF pi 1))), .val (.int (ixx (pmF pi 2))), .val (.int (tii (t0F tq0))), .val (.int (tii (t1F tq0 dq1))), .val (.int (tii (t2F tq0 dq1 dq2))), .val (.int (b2i cf0)), .val (.int (b2i cf1)), .val (.int (b2i cf2)), .val (.ref b120), .unset, .unset, .unset, .unset, .unset, .unset, .unset, .unset, .unset, .unset, .unset] [(.ref b122)])) _
      refine XS.astore X122.here hx rfl (hb hby at_205) rfl rfl (l' := #[.val (.int p0), .val (.int p1), .val (.int p2), .val (.int p3), .val (.ref b101), .val (.int (i5F pi)), .val (.int (ixx (pmF pi 0))), .val (.int (ixx (pmF pi 1))), .val (.int (ixx (pmF pi 2))), .val (.int (tii (t0F tq0))), .val (.int (tii (t1F tq0 dq1))), .val (.int (tii (t2F tq0 dq1 dq2))), .val (.int (b2i cf0)), .val (.int (b2i cf1)), .val (.int (b2i cf2)), .val (.ref b120), .val (.ref b122), .unset, .unset, .unset, .unset, .unset, .unset, .unset, .unset, .unset, .unset]) rfl ?_
      show Steps p.tables e below (T122.setTop (mkF m 207 #[.val (.int p0), .val (.int p1), .val (.int p2), .val (.int p3), .val (.ref b101), .val (.int (i5F pi)), .val (.int (ixx (pmF pi 0))), .val (.int (ixx (pmF pi 1))), .val (.int (ixx (pmF pi 2))), .val (.int (tii (t0F tq0))), .val (.int (tii (t1F tq0 dq1))), .val (.int (tii (t2F tq0 dq1 dq2))), .val (.int (b2i cf0)), .val (.int (b2i cf1)), .val (.int (b2i cf2)), .val (.ref b120), .val (.ref b122), .unset, .unset, .unset, .unset, .unset, .unset, .unset, .unset, .unset, .unset] [])) _
      refine XS.aload X122.here hx rfl (hb hby at_207) rfl rfl ?_
      show Steps p.tables e below (T122.setTop (mkF m 209 #[.val (.int p0), .val (.int p1), .val (.int p2), .val (.int p3), .val (.ref b101), .val (.int (i5F pi)), .val (.int (ixx (pmF pi 0))), .val (.int (ixx (pmF pi 1))), .val (.int (ixx (pmF pi 2))), .val (.int (tii (t0F tq0))), .val (.int (tii (t1F tq0 dq1))), .val (.int (tii (t2F tq0 dq1 dq2))), .val (.int (b2i cf0)), .val (.int (b2i cf1)), .val (.int (b2i cf2)), .val (.ref b120), .val (.ref b122), .unset, .unset, .unset, .unset, .unset, .unset, .unset, .unset, .unset, .unset] [(.ref b120)])) _
      refine XS.iload X122.here hx rfl (hb hby at_209) rfl ?_
      show Steps p.tables e below (T122.setTop (mkF m 211 #[.val (.int p0), .val (.int p1), .val (.int p2), .val (.int p3), .val (.ref b101), .val (.int (i5F pi)), .val (.int (ixx (pmF pi 0))), .val (.int (ixx (pmF pi 1))), .val (.int (ixx (pmF pi 2))), .val (.int (tii (t0F tq0))), .val (.int (tii (t1F tq0 dq1))), .val (.int (tii (t2F tq0 dq1 dq2))), .val (.int (b2i cf0)), .val (.int (b2i cf1)), .val (.int (b2i cf2)), .val (.ref b120), .val (.ref b122), .unset, .unset, .unset, .unset, .unset, .unset, .unset, .unset, .unset, .unset] [(.int (ixx (pmF pi 0))), (.ref b120)])) _
      refine XS.iload X122.here hx rfl (hb hby at_211) rfl ?_
      show Steps p.tables e below (T122.setTop (mkF m 213 #[.val (.int p0), .val (.int p1), .val (.int p2), .val (.int p3), .val (.ref b101), .val (.int (i5F pi)), .val (.int (ixx (pmF pi 0))), .val (.int (ixx (pmF pi 1))), .val (.int (ixx (pmF pi 2))), .val (.int (tii (t0F tq0))), .val (.int (tii (t1F tq0 dq1))), .val (.int (tii (t2F tq0 dq1 dq2))), .val (.int (b2i cf0)), .val (.int (b2i cf1)), .val (.int (b2i cf2)), .val (.ref b120), .val (.ref b122), .unset, .unset, .unset, .unset, .unset, .unset, .unset, .unset, .unset, .unset] [(.int (b2i cf0)), (.int (ixx (pmF pi 0))), (.ref b120)])) _
      refine st127 _ ?_
      show Steps p.tables e below (T127.setTop (mkF m 214 #[.val (.int p0), .val (.int p1), .val (.int p2), .val (.int p3), .val (.ref b101), .val (.int (i5F pi)), .val (.int (ixx (pmF pi 0))), .val (.int (ixx (pmF pi 1))), .val (.int (ixx (pmF pi 2))), .val (.int (tii (t0F tq0))), .val (.int (tii (t1F tq0 dq1))), .val (.int (tii (t2F tq0 dq1 dq2))), .val (.int (b2i cf0)), .val (.int (b2i cf1)), .val (.int (b2i cf2)), .val (.ref b120), .val (.ref b122), .unset, .unset, .unset, .unset, .unset, .unset, .unset, .unset, .unset, .unset] [])) _
      refine XS.aload X127.here hx rfl (hb hby at_214) rfl rfl ?_
      show Steps p.tables e below (T127.setTop (mkF m 216 #[.val (.int p0), .val (.int p1), .val (.int p2), .val (.int p3), .val (.ref b101), .val (.int (i5F pi)), .val (.int (ixx (pmF pi 0))), .val (.int (ixx (pmF pi 1))), .val (.int (ixx (pmF pi 2))), .val (.int (tii (t0F tq0))), .val (.int (tii (t1F tq0 dq1))), .val (.int (tii (t2F tq0 dq1 dq2))), .val (.int (b2i cf0)), .val (.int (b2i cf1)), .val (.int (b2i cf2)), .val (.ref b120), .val (.ref b122), .unset, .unset, .unset, .unset, .unset, .unset, .unset, .unset, .unset, .unset] [(.ref b122)])) _
      refine XS.iload X127.here hx rfl (hb hby at_216) rfl ?_
      show Steps p.tables e below (T127.setTop (mkF m 218 #[.val (.int p0), .val (.int p1), .val (.int p2), .val (.int p3), .val (.ref b101), .val (.int (i5F pi)), .val (.int (ixx (pmF pi 0))), .val (.int (ixx (pmF pi 1))), .val (.int (ixx (pmF pi 2))), .val (.int (tii (t0F tq0))), .val (.int (tii (t1F tq0 dq1))), .val (.int (tii (t2F tq0 dq1 dq2))), .val (.int (b2i cf0)), .val (.int (b2i cf1)), .val (.int (b2i cf2)), .val (.ref b120), .val (.ref b122), .unset, .unset, .unset, .unset, .unset, .unset, .unset, .unset, .unset, .unset] [(.int (ixx (pmF pi 0))), (.ref b122)])) _
      refine XS.iload X127.here hx rfl (hb hby at_218) rfl ?_
      show Steps p.tables e below (T127.setTop (mkF m 220 #[.val (.int p0), .val (.int p1), .val (.int p2), .val (.int p3), .val (.ref b101), .val (.int (i5F pi)), .val (.int (ixx (pmF pi 0))), .val (.int (ixx (pmF pi 1))), .val (.int (ixx (pmF pi 2))), .val (.int (tii (t0F tq0))), .val (.int (tii (t1F tq0 dq1))), .val (.int (tii (t2F tq0 dq1 dq2))), .val (.int (b2i cf0)), .val (.int (b2i cf1)), .val (.int (b2i cf2)), .val (.ref b120), .val (.ref b122), .unset, .unset, .unset, .unset, .unset, .unset, .unset, .unset, .unset, .unset] [(.int (tii (t0F tq0))), (.int (ixx (pmF pi 0))), (.ref b122)])) _
      refine st128 _ ?_
      show Steps p.tables e below (T128.setTop (mkF m 221 #[.val (.int p0), .val (.int p1), .val (.int p2), .val (.int p3), .val (.ref b101), .val (.int (i5F pi)), .val (.int (ixx (pmF pi 0))), .val (.int (ixx (pmF pi 1))), .val (.int (ixx (pmF pi 2))), .val (.int (tii (t0F tq0))), .val (.int (tii (t1F tq0 dq1))), .val (.int (tii (t2F tq0 dq1 dq2))), .val (.int (b2i cf0)), .val (.int (b2i cf1)), .val (.int (b2i cf2)), .val (.ref b120), .val (.ref b122), .unset, .unset, .unset, .unset, .unset, .unset, .unset, .unset, .unset, .unset] [])) _
      refine XS.aload X128.here hx rfl (hb hby at_221) rfl rfl ?_
      show Steps p.tables e below (T128.setTop (mkF m 223 #[.val (.int p0), .val (.int p1), .val (.int p2), .val (.int p3), .val (.ref b101), .val (.int (i5F pi)), .val (.int (ixx (pmF pi 0))), .val (.int (ixx (pmF pi 1))), .val (.int (ixx (pmF pi 2))), .val (.int (tii (t0F tq0))), .val (.int (tii (t1F tq0 dq1))), .val (.int (tii (t2F tq0 dq1 dq2))), .val (.int (b2i cf0)), .val (.int (b2i cf1)), .val (.int (b2i cf2)), .val (.ref b120), .val (.ref b122), .unset, .unset, .unset, .unset, .unset, .unset, .unset, .unset, .unset, .unset] [(.ref b120)])) _
      refine XS.iload X128.here hx rfl (hb hby at_223) rfl ?_
      show Steps p.tables e below (T128.setTop (mkF m 225 #[.val (.int p0), .val (.int p1), .val (.int p2), .val (.int p3), .val (.ref b101), .val (.int (i5F pi)), .val (.int (ixx (pmF pi 0))), .val (.int (ixx (pmF pi 1))), .val (.int (ixx (pmF pi 2))), .val (.int (tii (t0F tq0))), .val (.int (tii (t1F tq0 dq1))), .val (.int (tii (t2F tq0 dq1 dq2))), .val (.int (b2i cf0)), .val (.int (b2i cf1)), .val (.int (b2i cf2)), .val (.ref b120), .val (.ref b122), .unset, .unset, .unset, .unset, .unset, .unset, .unset, .unset, .unset, .unset] [(.int (ixx (pmF pi 1))), (.ref b120)])) _
      refine XS.iload X128.here hx rfl (hb hby at_225) rfl ?_
      show Steps p.tables e below (T128.setTop (mkF m 227 #[.val (.int p0), .val (.int p1), .val (.int p2), .val (.int p3), .val (.ref b101), .val (.int (i5F pi)), .val (.int (ixx (pmF pi 0))), .val (.int (ixx (pmF pi 1))), .val (.int (ixx (pmF pi 2))), .val (.int (tii (t0F tq0))), .val (.int (tii (t1F tq0 dq1))), .val (.int (tii (t2F tq0 dq1 dq2))), .val (.int (b2i cf0)), .val (.int (b2i cf1)), .val (.int (b2i cf2)), .val (.ref b120), .val (.ref b122), .unset, .unset, .unset, .unset, .unset, .unset, .unset, .unset, .unset, .unset] [(.int (b2i cf1)), (.int (ixx (pmF pi 1))), (.ref b120)])) _
      refine st130 _ ?_
      show Steps p.tables e below (T130.setTop (mkF m 228 #[.val (.int p0), .val (.int p1), .val (.int p2), .val (.int p3), .val (.ref b101), .val (.int (i5F pi)), .val (.int (ixx (pmF pi 0))), .val (.int (ixx (pmF pi 1))), .val (.int (ixx (pmF pi 2))), .val (.int (tii (t0F tq0))), .val (.int (tii (t1F tq0 dq1))), .val (.int (tii (t2F tq0 dq1 dq2))), .val (.int (b2i cf0)), .val (.int (b2i cf1)), .val (.int (b2i cf2)), .val (.ref b120), .val (.ref b122), .unset, .unset, .unset, .unset, .unset, .unset, .unset, .unset, .unset, .unset] [])) _
      refine XS.aload X130.here hx rfl (hb hby at_228) rfl rfl ?_
      show Steps p.tables e below (T130.setTop (mkF m 230 #[.val (.int p0), .val (.int p1), .val (.int p2), .val (.int p3), .val (.ref b101), .val (.int (i5F pi)), .val (.int (ixx (pmF pi 0))), .val (.int (ixx (pmF pi 1))), .val (.int (ixx (pmF pi 2))), .val (.int (tii (t0F tq0))), .val (.int (tii (t1F tq0 dq1))), .val (.int (tii (t2F tq0 dq1 dq2))), .val (.int (b2i cf0)), .val (.int (b2i cf1)), .val (.int (b2i cf2)), .val (.ref b120), .val (.ref b122), .unset, .unset, .unset, .unset, .unset, .unset, .unset, .unset, .unset, .unset] [(.ref b122)])) _
      refine XS.iload X130.here hx rfl (hb hby at_230) rfl ?_
      show Steps p.tables e below (T130.setTop (mkF m 232 #[.val (.int p0), .val (.int p1), .val (.int p2), .val (.int p3), .val (.ref b101), .val (.int (i5F pi)), .val (.int (ixx (pmF pi 0))), .val (.int (ixx (pmF pi 1))), .val (.int (ixx (pmF pi 2))), .val (.int (tii (t0F tq0))), .val (.int (tii (t1F tq0 dq1))), .val (.int (tii (t2F tq0 dq1 dq2))), .val (.int (b2i cf0)), .val (.int (b2i cf1)), .val (.int (b2i cf2)), .val (.ref b120), .val (.ref b122), .unset, .unset, .unset, .unset, .unset, .unset, .unset, .unset, .unset, .unset] [(.int (ixx (pmF pi 1))), (.ref b122)])) _
      refine XS.iload X130.here hx rfl (hb hby at_232) rfl ?_
      show Steps p.tables e below (T130.setTop (mkF m 234 #[.val (.int p0), .val (.int p1), .val (.int p2), .val (.int p3), .val (.ref b101), .val (.int (i5F pi)), .val (.int (ixx (pmF pi 0))), .val (.int (ixx (pmF pi 1))), .val (.int (ixx (pmF pi 2))), .val (.int (tii (t0F tq0))), .val (.int (tii (t1F tq0 dq1))), .val (.int (tii (t2F tq0 dq1 dq2))), .val (.int (b2i cf0)), .val (.int (b2i cf1)), .val (.int (b2i cf2)), .val (.ref b120), .val (.ref b122), .unset, .unset, .unset, .unset, .unset, .unset, .unset, .unset, .unset, .unset] [(.int (tii (t1F tq0 dq1))), (.int (ixx (pmF pi 1))), (.ref b122)])) _
      refine st132 _ ?_
      show Steps p.tables e below (T132.setTop (mkF m 235 #[.val (.int p0), .val (.int p1), .val (.int p2), .val (.int p3), .val (.ref b101), .val (.int (i5F pi)), .val (.int (ixx (pmF pi 0))), .val (.int (ixx (pmF pi 1))), .val (.int (ixx (pmF pi 2))), .val (.int (tii (t0F tq0))), .val (.int (tii (t1F tq0 dq1))), .val (.int (tii (t2F tq0 dq1 dq2))), .val (.int (b2i cf0)), .val (.int (b2i cf1)), .val (.int (b2i cf2)), .val (.ref b120), .val (.ref b122), .unset, .unset, .unset, .unset, .unset, .unset, .unset, .unset, .unset, .unset] [])) _
      refine XS.aload X132.here hx rfl (hb hby at_235) rfl rfl ?_
      show Steps p.tables e below (T132.setTop (mkF m 237 #[.val (.int p0), .val (.int p1), .val (.int p2), .val (.int p3), .val (.ref b101), .val (.int (i5F pi)), .val (.int (ixx (pmF pi 0))), .val (.int (ixx (pmF pi 1))), .val (.int (ixx (pmF pi 2))), .val (.int (tii (t0F tq0))), .val (.int (tii (t1F tq0 dq1))), .val (.int (tii (t2F tq0 dq1 dq2))), .val (.int (b2i cf0)), .val (.int (b2i cf1)), .val (.int (b2i cf2)), .val (.ref b120), .val (.ref b122), .unset, .unset, .unset, .unset, .unset, .unset, .unset, .unset, .unset, .unset] [(.ref b120)])) _
      refine XS.iload X132.here hx rfl (hb hby at_237) rfl ?_
      show Steps p.tables e below (T132.setTop (mkF m 239 #[.val (.int p0), .val (.int p1), .val (.int p2), .val (.int p3), .val (.ref b101), .val (.int (i5F pi)), .val (.int (ixx (pmF pi 0))), .val (.int (ixx (pmF pi 1))), .val (.int (ixx (pmF pi 2))), .val (.int (tii (t0F tq0))), .val (.int (tii (t1F tq0 dq1))), .val (.int (tii (t2F tq0 dq1 dq2))), .val (.int (b2i cf0)), .val (.int (b2i cf1)), .val (.int (b2i cf2)), .val (.ref b120), .val (.ref b122), .unset, .unset, .unset, .unset, .unset, .unset, .unset, .unset, .unset, .unset] [(.int (ixx (pmF pi 2))), (.ref b120)])) _
      refine XS.iload X132.here hx rfl (hb hby at_239) rfl ?_
      show Steps p.tables e below (T132.setTop (mkF m 241 #[.val (.int p0), .val (.int p1), .val (.int p2), .val (.int p3), .val (.ref b101), .val (.int (i5F pi)), .val (.int (ixx (pmF pi 0))), .val (.int (ixx (pmF pi 1))), .val (.int (ixx (pmF pi 2))), .val (.int (tii (t0F tq0))), .val (.int (tii (t1F tq0 dq1))), .val (.int (tii (t2F tq0 dq1 dq2))), .val (.int (b2i cf0)), .val (.int (b2i cf1)), .val (.int (b2i cf2)), .val (.ref b120), .val (.ref b122), .unset, .unset, .unset, .unset, .unset, .unset, .unset, .unset, .unset, .unset] [(.int (b2i cf2)), (.int (ixx (pmF pi 2))), (.ref b120)])) _
      refine st134 _ ?_
      show Steps p.tables e below (T134.setTop (mkF m 242 #[.val (.int p0), .val (.int p1), .val (.int p2), .val (.int p3), .val (.ref b101), .val (.int (i5F pi)), .val (.int (ixx (pmF pi 0))), .val (.int (ixx (pmF pi 1))), .val (.int (ixx (pmF pi 2))), .val (.int (tii (t0F tq0))), .val (.int (tii (t1F tq0 dq1))), .val (.int (tii (t2F tq0 dq1 dq2))), .val (.int (b2i cf0)), .val (.int (b2i cf1)), .val (.int (b2i cf2)), .val (.ref b120), .val (.ref b122), .unset, .unset, .unset, .unset, .unset, .unset, .unset, .unset, .unset, .unset] [])) _
      refine XS.aload X134.here hx rfl (hb hby at_242) rfl rfl ?_
      show Steps p.tables e below (T134.setTop (mkF m 244 #[.val (.int p0), .val (.int p1), .val (.int p2), .val (.int p3), .val (.ref b101), .val (.int (i5F pi)), .val (.int (ixx (pmF pi 0))), .val (.int (ixx (pmF pi 1))), .val (.int (ixx (pmF pi 2))), .val (.int (tii (t0F tq0))), .val (.int (tii (t1F tq0 dq1))), .val (.int (tii (t2F tq0 dq1 dq2))), .val (.int (b2i cf0)), .val (.int (b2i cf1)), .val (.int (b2i cf2)), .val (.ref b120), .val (.ref b122), .unset, .unset, .unset, .unset, .unset, .unset, .unset, .unset, .unset, .unset] [(.ref b122)])) _
      refine XS.iload X134.here hx rfl (hb hby at_244) rfl ?_
      show Steps p.tables e below (T134.setTop (mkF m 246 #[.val (.int p0), .val (.int p1), .val (.int p2), .val (.int p3), .val (.ref b101), .val (.int (i5F pi)), .val (.int (ixx (pmF pi 0))), .val (.int (ixx (pmF pi 1))), .val (.int (ixx (pmF pi 2))), .val (.int (tii (t0F tq0))), .val (.int (tii (t1F tq0 dq1))), .val (.int (tii (t2F tq0 dq1 dq2))), .val (.int (b2i cf0)), .val (.int (b2i cf1)), .val (.int (b2i cf2)), .val (.ref b120), .val (.ref b122), .unset, .unset, .unset, .unset, .unset, .unset, .unset, .unset, .unset, .unset] [(.int (ixx (pmF pi 2))), (.ref b122)])) _
      refine XS.iload X134.here hx rfl (hb hby at_246) rfl ?_
      show Steps p.tables e below (T134.setTop (mkF m 248 #[.val (.int p0), .val (.int p1), .val (.int p2), .val (.int p3), .val (.ref b101), .val (.int (i5F pi)), .val (.int (ixx (pmF pi 0))), .val (.int (ixx (pmF pi 1))), .val (.int (ixx (pmF pi 2))), .val (.int (tii (t0F tq0))), .val (.int (tii (t1F tq0 dq1))), .val (.int (tii (t2F tq0 dq1 dq2))), .val (.int (b2i cf0)), .val (.int (b2i cf1)), .val (.int (b2i cf2)), .val (.ref b120), .val (.ref b122), .unset, .unset, .unset, .unset, .unset, .unset, .unset, .unset, .unset, .unset] [(.int (tii (t2F tq0 dq1 dq2))), (.int (ixx (pmF pi 2))), (.ref b122)])) _
      refine st136 _ ?_
      exact kt
    obtain ⟨T141, h141, k141, X141, e141, E141, A141, st141⟩ := newP X136 hx hZ (hw _ (List.mem_of_getElem? (i := 0) rfl)) e136 (g := (mkF m 250 #[.val (.int p0), .val (.int p1), .val (.int p2), .val (.int p3), .val (.ref b101), .val (.int (i5F pi)), .val (.int (ixx (pmF pi 0))), .val (.int (ixx (pmF pi 1))), .val (.int (ixx (pmF pi 2))), .val (.int (tii (t0F tq0))), .val (.int (tii (t1F tq0 dq1))), .val (.int (tii (t2F tq0 dq1 dq2))), .val (.int (b2i cf0)), .val (.int (b2i cf1)), .val (.int (b2i cf2)), .val (.ref b120), .val (.ref b122), .unset, .unset, .unset, .unset, .unset, .unset, .unset, .unset, .unset, .unset] [(.int (3 : Int32))])) rfl (hb hby at_250) rfl (by decide) (cap := 3) (by decide) (by decide) (by decide) (by decide)
    obtain ⟨b141, g141⟩ : ∃ z, z = h136.size := ⟨_, rfl⟩
    have z142 : n0 ≤ h136.size := (Nat.le_trans (Nat.le_trans (Nat.le_trans (Nat.le_trans (Nat.le_trans (Nat.le_trans (Nat.le_trans z123 E122.1) (Keep.of_wr W127).1) (Keep.of_wr W128).1) (Keep.of_wr W130).1) (Keep.of_wr W132).1) (Keep.of_wr W134).1) (Keep.of_wr W136).1)
    have g_b141 : n0 ≤ b141 := Nat.le_trans z142 (Nat.le_of_eq g141.symm)
    have sz_b141 : h0.size ≤ b141 := Nat.le_trans K136.1 (Nat.le_of_eq g141.symm)
    rw [← g141] at A141 st141
    have K141 : Keep h0 h141 [] := K136.ext E141
    have V_b141 : Arv Z h141 b141 k141 .int (3 : Int32) [(.int (0 : Int32)), (.int (0 : Int32)), (.int (0 : Int32))] (.int (0 : Int32)) := (Arv.new A141 (by decide)).pad (pad_rep [] (.int (0 : Int32)) 3)
    have G143 : ArG Z h141 b141 .int (fun j => (.int (ixx ((fun _ => (0 : Fin 3)) j)))) := ArG.of3 V_b141
    have f145 := (G138.ext E141)
    have f146 := (G140.ext E141)
    have z147 : n0 ≤ h141.size := (Nat.le_trans z142 E141.1)
    obtain ⟨v144, T144, L144, X144, q144, st144⟩ := own_callS X141 hx hZ (y := (⟨"com/example/tenrec/tenrec/pool/IdleByLastCompletionRemovePinLaw", "rank", "([Z[II)I"⟩ : MethodName)) hown (hw _ (List.mem_of_getElem? (i := 3) rfl)) (hw _ (List.mem_of_getElem? (i := 4) rfl)) (hw _ (List.mem_of_getElem? (i := 5) rfl)) (hw _ (List.mem_of_getElem? (i := 6) rfl)) (by decide) (hM := (rm1_0 l Z a0 hw [] b120 b122 (ccF pi cf0 cf1 cf2) (ttF pi tq0 dq1 dq2) h141 n0 z147 f145 f146)) (by decide) (by decide) (by decide) (by decide) e141 (argsL := [(.ref b120), (.ref b122), (.int (0 : Int32))]) (rest := [(.ref b141)]) (Ls := #[.val (.int p0), .val (.int p1), .val (.int p2), .val (.int p3), .val (.ref b101), .val (.int (i5F pi)), .val (.int (ixx (pmF pi 0))), .val (.int (ixx (pmF pi 1))), .val (.int (ixx (pmF pi 2))), .val (.int (tii (t0F tq0))), .val (.int (tii (t1F tq0 dq1))), .val (.int (tii (t2F tq0 dq1 dq2))), .val (.int (b2i cf0)), .val (.int (b2i cf1)), .val (.int (b2i cf2)), .val (.ref b120), .val (.ref b122), .val (.ref b141), .unset, .unset, .unset, .unset, .unset, .unset, .unset, .unset, .unset]) (by rw [hml]; rfl) (lenOf pd___Z_II_I rfl) (W := 1) (Nat.le_of_eq rfl) (hb hby at_261)
    obtain ⟨rfl, N144q, e144⟩ := q144
    have N144 := Fr.app N136 N144q
    obtain ⟨cl148, Ar148, Sa148, Ha148⟩ := id G143
    have hin148 : ¬ ((ixx (rkF (ccF pi cf0 cf1 cf2) (ttF pi tq0 dq1 dq2) (0 : Fin 3))) < 0 ∨ cl148.slots.size ≤ ((ixx (rkF (ccF pi cf0 cf1 cf2) (ttF pi tq0 dq1 dq2) (0 : Fin 3)))).toNatClampNeg) := own_ing Sa148 (rkF (ccF pi cf0 cf1 cf2) (ttF pi tq0 dq1 dq2) (0 : Fin 3))
    obtain ⟨T148, h148, X148, e148, W148, st148⟩ := stI X144 hx hZ e144 Ar148 (j := (ixx (rkF (ccF pi cf0 cf1 cf2) (ttF pi tq0 dq1 dq2) (0 : Fin 3)))) hin148 (g := (mkF m 265 #[.val (.int p0), .val (.int p1), .val (.int p2), .val (.int p3), .val (.ref b101), .val (.int (i5F pi)), .val (.int (ixx (pmF pi 0))), .val (.int (ixx (pmF pi 1))), .val (.int (ixx (pmF pi 2))), .val (.int (tii (t0F tq0))), .val (.int (tii (t1F tq0 dq1))), .val (.int (tii (t2F tq0 dq1 dq2))), .val (.int (b2i cf0)), .val (.int (b2i cf1)), .val (.int (b2i cf2)), .val (.ref b120), .val (.ref b122), .val (.ref b141), .unset, .unset, .unset, .unset, .unset, .unset, .unset, .unset, .unset] [(.int (0 : Int32)), (.int (ixx (rkF (ccF pi cf0 cf1 cf2) (ttF pi tq0 dq1 dq2) (0 : Fin 3)))), (.ref b141)])) rfl rfl (hb hby at_265)
    have G148 : ArG Z h148 b141 .int (fun j => (.int (ixx ((upp (fun _ => (0 : Fin 3)) (rkF (ccF pi cf0 cf1 cf2) (ttF pi tq0 dq1 dq2) (0 : Fin 3)) (0 : Fin 3)) j)))) := (ArG.set Ar148 Sa148 Ha148 (i := (rkF (ccF pi cf0 cf1 cf2) (ttF pi tq0 dq1 dq2) (0 : Fin 3))) W148).congr (fun j => by unfold upp; split <;> rfl)
    have K148 : Keep h0 h148 [] := K141.wr W148 (Or.inr sz_b141)
    have N148 := Fr.snoc X148 N144 g_b141
    have f150 := (f145.other W148 (Nat.ne_of_lt (Nat.lt_of_lt_of_le (Nat.lt_of_lt_of_le (Nat.lt_of_lt_of_le (Nat.lt_of_lt_of_le (Nat.lt_of_lt_of_le (Nat.lt_of_lt_of_le (Nat.lt_of_lt_of_le (Nat.lt_of_lt_of_le V_b120.lt E122.1) (Keep.of_wr W127).1) (Keep.of_wr W128).1) (Keep.of_wr W130).1) (Keep.of_wr W132).1) (Keep.of_wr W134).1) (Keep.of_wr W136).1) (Nat.le_of_eq g141.symm))))
    have f151 := (f146.other W148 (Nat.ne_of_lt (Nat.lt_of_lt_of_le (Nat.lt_of_lt_of_le (Nat.lt_of_lt_of_le (Nat.lt_of_lt_of_le (Nat.lt_of_lt_of_le (Nat.lt_of_lt_of_le (Nat.lt_of_lt_of_le V_b122.lt (Keep.of_wr W127).1) (Keep.of_wr W128).1) (Keep.of_wr W130).1) (Keep.of_wr W132).1) (Keep.of_wr W134).1) (Keep.of_wr W136).1) (Nat.le_of_eq g141.symm))))
    have z152 : n0 ≤ h148.size := (Nat.le_trans z147 (Keep.of_wr W148).1)
    obtain ⟨v149, T149, L149, X149, q149, st149⟩ := own_callS X148 hx hZ (y := (⟨"com/example/tenrec/tenrec/pool/IdleByLastCompletionRemovePinLaw", "rank", "([Z[II)I"⟩ : MethodName)) hown (hw _ (List.mem_of_getElem? (i := 3) rfl)) (hw _ (List.mem_of_getElem? (i := 4) rfl)) (hw _ (List.mem_of_getElem? (i := 5) rfl)) (hw _ (List.mem_of_getElem? (i := 6) rfl)) (by decide) (hM := (rm1_1 l Z a0 hw [] b120 b122 (ccF pi cf0 cf1 cf2) (ttF pi tq0 dq1 dq2) h148 n0 z152 f150 f151)) (by decide) (by decide) (by decide) (by decide) e148 (argsL := [(.ref b120), (.ref b122), (.int (1 : Int32))]) (rest := [(.ref b141)]) (Ls := #[.val (.int p0), .val (.int p1), .val (.int p2), .val (.int p3), .val (.ref b101), .val (.int (i5F pi)), .val (.int (ixx (pmF pi 0))), .val (.int (ixx (pmF pi 1))), .val (.int (ixx (pmF pi 2))), .val (.int (tii (t0F tq0))), .val (.int (tii (t1F tq0 dq1))), .val (.int (tii (t2F tq0 dq1 dq2))), .val (.int (b2i cf0)), .val (.int (b2i cf1)), .val (.int (b2i cf2)), .val (.ref b120), .val (.ref b122), .val (.ref b141), .unset, .unset, .unset, .unset, .unset, .unset, .unset, .unset, .unset]) (by rw [hml]; rfl) (lenOf pd___Z_II_I rfl) (W := 1) (Nat.le_of_eq rfl) (hb hby at_273)
    obtain ⟨rfl, N149q, e149⟩ := q149
    have N149 := Fr.app N148 N149q
    obtain ⟨cl153, Ar153, Sa153, Ha153⟩ := id G148
    have hin153 : ¬ ((ixx (rkF (ccF pi cf0 cf1 cf2) (ttF pi tq0 dq1 dq2) (1 : Fin 3))) < 0 ∨ cl153.slots.size ≤ ((ixx (rkF (ccF pi cf0 cf1 cf2) (ttF pi tq0 dq1 dq2) (1 : Fin 3)))).toNatClampNeg) := own_ing Sa153 (rkF (ccF pi cf0 cf1 cf2) (ttF pi tq0 dq1 dq2) (1 : Fin 3))
    obtain ⟨T153, h153, X153, e153, W153, st153⟩ := stI X149 hx hZ e149 Ar153 (j := (ixx (rkF (ccF pi cf0 cf1 cf2) (ttF pi tq0 dq1 dq2) (1 : Fin 3)))) hin153 (g := (mkF m 277 #[.val (.int p0), .val (.int p1), .val (.int p2), .val (.int p3), .val (.ref b101), .val (.int (i5F pi)), .val (.int (ixx (pmF pi 0))), .val (.int (ixx (pmF pi 1))), .val (.int (ixx (pmF pi 2))), .val (.int (tii (t0F tq0))), .val (.int (tii (t1F tq0 dq1))), .val (.int (tii (t2F tq0 dq1 dq2))), .val (.int (b2i cf0)), .val (.int (b2i cf1)), .val (.int (b2i cf2)), .val (.ref b120), .val (.ref b122), .val (.ref b141), .unset, .unset, .unset, .unset, .unset, .unset, .unset, .unset, .unset] [(.int (1 : Int32)), (.int (ixx (rkF (ccF pi cf0 cf1 cf2) (ttF pi tq0 dq1 dq2) (1 : Fin 3)))), (.ref b141)])) rfl rfl (hb hby at_277)
    have G153 : ArG Z h153 b141 .int (fun j => (.int (ixx ((upp (upp (fun _ => (0 : Fin 3)) (rkF (ccF pi cf0 cf1 cf2) (ttF pi tq0 dq1 dq2) (0 : Fin 3)) (0 : Fin 3)) (rkF (ccF pi cf0 cf1 cf2) (ttF pi tq0 dq1 dq2) (1 : Fin 3)) (1 : Fin 3)) j)))) := (ArG.set Ar153 Sa153 Ha153 (i := (rkF (ccF pi cf0 cf1 cf2) (ttF pi tq0 dq1 dq2) (1 : Fin 3))) W153).congr (fun j => by unfold upp; split <;> rfl)
    have K153 : Keep h0 h153 [] := K148.wr W153 (Or.inr sz_b141)
    have N153 := Fr.snoc X153 N149 g_b141
    have f155 := (f150.other W153 (Nat.ne_of_lt (Nat.lt_of_lt_of_le (Nat.lt_of_lt_of_le (Nat.lt_of_lt_of_le (Nat.lt_of_lt_of_le (Nat.lt_of_lt_of_le (Nat.lt_of_lt_of_le (Nat.lt_of_lt_of_le (Nat.lt_of_lt_of_le V_b120.lt E122.1) (Keep.of_wr W127).1) (Keep.of_wr W128).1) (Keep.of_wr W130).1) (Keep.of_wr W132).1) (Keep.of_wr W134).1) (Keep.of_wr W136).1) (Nat.le_of_eq g141.symm))))
    have f156 := (f151.other W153 (Nat.ne_of_lt (Nat.lt_of_lt_of_le (Nat.lt_of_lt_of_le (Nat.lt_of_lt_of_le (Nat.lt_of_lt_of_le (Nat.lt_of_lt_of_le (Nat.lt_of_lt_of_le (Nat.lt_of_lt_of_le V_b122.lt (Keep.of_wr W127).1) (Keep.of_wr W128).1) (Keep.of_wr W130).1) (Keep.of_wr W132).1) (Keep.of_wr W134).1) (Keep.of_wr W136).1) (Nat.le_of_eq g141.symm))))
    have z157 : n0 ≤ h153.size := (Nat.le_trans z152 (Keep.of_wr W153).1)
    obtain ⟨v154, T154, L154, X154, q154, st154⟩ := own_callS X153 hx hZ (y := (⟨"com/example/tenrec/tenrec/pool/IdleByLastCompletionRemovePinLaw", "rank", "([Z[II)I"⟩ : MethodName)) hown (hw _ (List.mem_of_getElem? (i := 3) rfl)) (hw _ (List.mem_of_getElem? (i := 4) rfl)) (hw _ (List.mem_of_getElem? (i := 5) rfl)) (hw _ (List.mem_of_getElem? (i := 6) rfl)) (by decide) (hM := (rm1_2 l Z a0 hw [] b120 b122 (ccF pi cf0 cf1 cf2) (ttF pi tq0 dq1 dq2) h153 n0 z157 f155 f156)) (by decide) (by decide) (by decide) (by decide) e153 (argsL := [(.ref b120), (.ref b122), (.int (2 : Int32))]) (rest := [(.ref b141)]) (Ls := #[.val (.int p0), .val (.int p1), .val (.int p2), .val (.int p3), .val (.ref b101), .val (.int (i5F pi)), .val (.int (ixx (pmF pi 0))), .val (.int (ixx (pmF pi 1))), .val (.int (ixx (pmF pi 2))), .val (.int (tii (t0F tq0))), .val (.int (tii (t1F tq0 dq1))), .val (.int (tii (t2F tq0 dq1 dq2))), .val (.int (b2i cf0)), .val (.int (b2i cf1)), .val (.int (b2i cf2)), .val (.ref b120), .val (.ref b122), .val (.ref b141), .unset, .unset, .unset, .unset, .unset, .unset, .unset, .unset, .unset]) (by rw [hml]; rfl) (lenOf pd___Z_II_I rfl) (W := 1) (Nat.le_of_eq rfl) (hb hby at_285)
    obtain ⟨rfl, N154q, e154⟩ := q154
    have N154 := Fr.app N153 N154q
    obtain ⟨cl158, Ar158, Sa158, Ha158⟩ := id G153
    have hin158 : ¬ ((ixx (rkF (ccF pi cf0 cf1 cf2) (ttF pi tq0 dq1 dq2) (2 : Fin 3))) < 0 ∨ cl158.slots.size ≤ ((ixx (rkF (ccF pi cf0 cf1 cf2) (ttF pi tq0 dq1 dq2) (2 : Fin 3)))).toNatClampNeg) := own_ing Sa158 (rkF (ccF pi cf0 cf1 cf2) (ttF pi tq0 dq1 dq2) (2 : Fin 3))
    obtain ⟨T158, h158, X158, e158, W158, st158⟩ := stI X154 hx hZ e154 Ar158 (j := (ixx (rkF (ccF pi cf0 cf1 cf2) (ttF pi tq0 dq1 dq2) (2 : Fin 3)))) hin158 (g := (mkF m 289 #[.val (.int p0), .val (.int p1), .val (.int p2), .val (.int p3), .val (.ref b101), .val (.int (i5F pi)), .val (.int (ixx (pmF pi 0))), .val (.int (ixx (pmF pi 1))), .val (.int (ixx (pmF pi 2))), .val (.int (tii (t0F tq0))), .val (.int (tii (t1F tq0 dq1))), .val (.int (tii (t2F tq0 dq1 dq2))), .val (.int (b2i cf0)), .val (.int (b2i cf1)), .val (.int (b2i cf2)), .val (.ref b120), .val (.ref b122), .val (.ref b141), .unset, .unset, .unset, .unset, .unset, .unset, .unset, .unset, .unset] [(.int (2 : Int32)), (.int (ixx (rkF (ccF pi cf0 cf1 cf2) (ttF pi tq0 dq1 dq2) (2 : Fin 3)))), (.ref b141)])) rfl rfl (hb hby at_289)
    have G158 : ArG Z h158 b141 .int (fun j => (.int (ixx ((upp (upp (upp (fun _ => (0 : Fin 3)) (rkF (ccF pi cf0 cf1 cf2) (ttF pi tq0 dq1 dq2) (0 : Fin 3)) (0 : Fin 3)) (rkF (ccF pi cf0 cf1 cf2) (ttF pi tq0 dq1 dq2) (1 : Fin 3)) (1 : Fin 3)) (rkF (ccF pi cf0 cf1 cf2) (ttF pi tq0 dq1 dq2) (2 : Fin 3)) (2 : Fin 3)) j)))) := (ArG.set Ar158 Sa158 Ha158 (i := (rkF (ccF pi cf0 cf1 cf2) (ttF pi tq0 dq1 dq2) (2 : Fin 3))) W158).congr (fun j => by unfold upp; split <;> rfl)
    have K158 : Keep h0 h158 [] := K153.wr W158 (Or.inr sz_b141)
    have N158 := Fr.snoc X158 N154 g_b141
    have G159 : ArG Z h158 b141 .int (fun j => (.int (ixx ((odF (ccF pi cf0 cf1 cf2) (ttF pi tq0 dq1 dq2)) j)))) := G158
    obtain ⟨oq, hoq⟩ : ∃ z, z = (odF (ccF pi cf0 cf1 cf2) (ttF pi tq0 dq1 dq2)) := ⟨_, rfl⟩
    rw [← hoq] at G159
    refine Gl.pre (S' := T158.setTop (mkF m 296 #[.val (.int p0), .val (.int p1), .val (.int p2), .val (.int p3), .val (.ref b101), .val (.int (i5F pi)), .val (.int (ixx (pmF pi 0))), .val (.int (ixx (pmF pi 1))), .val (.int (ixx (pmF pi 2))), .val (.int (tii (t0F tq0))), .val (.int (tii (t1F tq0 dq1))), .val (.int (tii (t2F tq0 dq1 dq2))), .val (.int (b2i cf0)), .val (.int (b2i cf1)), .val (.int (b2i cf2)), .val (.ref b120), .val (.ref b122), .val (.ref b141), .unset, .unset, .unset, .unset, .unset, .unset, .unset, .unset, .unset] [(.int ((p2 &&& (2147483647 : Int32)) % (3 : Int32)))])) (fun t kt => ?_) ?_
    · show Steps p.tables e below (T136.setTop (mkF m 249 #[.val (.int p0), .val (.int p1), .val (.int p2), .val (.int p3), .val (.ref b101), .val (.int (i5F pi)), .val (.int (ixx (pmF pi 0))), .val (.int (ixx (pmF pi 1))), .val (.int (ixx (pmF pi 2))), .val (.int (tii (t0F tq0))), .val (.int (tii (t1F tq0 dq1))), .val (.int (tii (t2F tq0 dq1 dq2))), .val (.int (b2i cf0)), .val (.int (b2i cf1)), .val (.int (b2i cf2)), .val (.ref b120), .val (.ref b122), .unset, .unset, .unset, .unset, .unset, .unset, .unset, .unset, .unset, .unset] [])) _
      refine XS.iconst X136.here hx rfl (hb hby at_249) ?_
      show Steps p.tables e below (T136.setTop (mkF m 250 #[.val (.int p0), .val (.int p1), .val (.int p2), .val (.int p3), .val (.ref b101), .val (.int (i5F pi)), .val (.int (ixx (pmF pi 0))), .val (.int (ixx (pmF pi 1))), .val (.int (ixx (pmF pi 2))), .val (.int (tii (t0F tq0))), .val (.int (tii (t1F tq0 dq1))), .val (.int (tii (t2F tq0 dq1 dq2))), .val (.int (b2i cf0)), .val (.int (b2i cf1)), .val (.int (b2i cf2)), .val (.ref b120), .val (.ref b122), .unset, .unset, .unset, .unset, .unset, .unset, .unset, .unset, .unset, .unset] [(.int (3 : Int32))])) _
      refine st141 _ ?_
      show Steps p.tables e below (T141.setTop (mkF m 252 #[.val (.int p0), .val (.int p1), .val (.int p2), .val (.int p3), .val (.ref b101), .val (.int (i5F pi)), .val (.int (ixx (pmF pi 0))), .val (.int (ixx (pmF pi 1))), .val (.int (ixx (pmF pi 2))), .val (.int (tii (t0F tq0))), .val (.int (tii (t1F tq0 dq1))), .val (.int (tii (t2F tq0 dq1 dq2))), .val (.int (b2i cf0)), .val (.int (b2i cf1)), .val (.int (b2i cf2)), .val (.ref b120), .val (.ref b122), .unset, .unset, .unset, .unset, .unset, .unset, .unset, .unset, .unset, .unset] [(.ref b141)])) _
      refine XS.astore X141.here hx rfl (hb hby at_252) rfl rfl (l' := #[.val (.int p0), .val (.int p1), .val (.int p2), .val (.int p3), .val (.ref b101), .val (.int (i5F pi)), .val (.int (ixx (pmF pi 0))), .val (.int (ixx (pmF pi 1))), .val (.int (ixx (pmF pi 2))), .val (.int (tii (t0F tq0))), .val (.int (tii (t1F tq0 dq1))), .val (.int (tii (t2F tq0 dq1 dq2))), .val (.int (b2i cf0)), .val (.int (b2i cf1)), .val (.int (b2i cf2)), .val (.ref b120), .val (.ref b122), .val (.ref b141), .unset, .unset, .unset, .unset, .unset, .unset, .unset, .unset, .unset]) rfl ?_
      show Steps p.tables e below (T141.setTop (mkF m 254 #[.val (.int p0), .val (.int p1), .val (.int p2), .val (.int p3), .val (.ref b101), .val (.int (i5F pi)), .val (.int (ixx (pmF pi 0))), .val (.int (ixx (pmF pi 1))), .val (.int (ixx (pmF pi 2))), .val (.int (tii (t0F tq0))), .val (.int (tii (t1F tq0 dq1))), .val (.int (tii (t2F tq0 dq1 dq2))), .val (.int (b2i cf0)), .val (.int (b2i cf1)), .val (.int (b2i cf2)), .val (.ref b120), .val (.ref b122), .val (.ref b141), .unset, .unset, .unset, .unset, .unset, .unset, .unset, .unset, .unset] [])) _
      refine XS.aload X141.here hx rfl (hb hby at_254) rfl rfl ?_
      show Steps p.tables e below (T141.setTop (mkF m 256 #[.val (.int p0), .val (.int p1), .val (.int p2), .val (.int p3), .val (.ref b101), .val (.int (i5F pi)), .val (.int (ixx (pmF pi 0))), .val (.int (ixx (pmF pi 1))), .val (.int (ixx (pmF pi 2))), .val (.int (tii (t0F tq0))), .val (.int (tii (t1F tq0 dq1))), .val (.int (tii (t2F tq0 dq1 dq2))), .val (.int (b2i cf0)), .val (.int (b2i cf1)), .val (.int (b2i cf2)), .val (.ref b120), .val (.ref b122), .val (.ref b141), .unset, .unset, .unset, .unset, .unset, .unset, .unset, .unset, .unset] [(.ref b141)])) _
      refine XS.aload X141.here hx rfl (hb hby at_256) rfl rfl ?_
      show Steps p.tables e below (T141.setTop (mkF m 258 #[.val (.int p0), .val (.int p1), .val (.int p2), .val (.int p3), .val (.ref b101), .val (.int (i5F pi)), .val (.int (ixx (pmF pi 0))), .val (.int (ixx (pmF pi 1))), .val (.int (ixx (pmF pi 2))), .val (.int (tii (t0F tq0))), .val (.int (tii (t1F tq0 dq1))), .val (.int (tii (t2F tq0 dq1 dq2))), .val (.int (b2i cf0)), .val (.int (b2i cf1)), .val (.int (b2i cf2)), .val (.ref b120), .val (.ref b122), .val (.ref b141), .unset, .unset, .unset, .unset, .unset, .unset, .unset, .unset, .unset] [(.ref b120), (.ref b141)])) _
      refine XS.aload X141.here hx rfl (hb hby at_258) rfl rfl ?_
      show Steps p.tables e below (T141.setTop (mkF m 260 #[.val (.int p0), .val (.int p1), .val (.int p2), .val (.int p3), .val (.ref b101), .val (.int (i5F pi)), .val (.int (ixx (pmF pi 0))), .val (.int (ixx (pmF pi 1))), .val (.int (ixx (pmF pi 2))), .val (.int (tii (t0F tq0))), .val (.int (tii (t1F tq0 dq1))), .val (.int (tii (t2F tq0 dq1 dq2))), .val (.int (b2i cf0)), .val (.int (b2i cf1)), .val (.int (b2i cf2)), .val (.ref b120), .val (.ref b122), .val (.ref b141), .unset, .unset, .unset, .unset, .unset, .unset, .unset, .unset, .unset] [(.ref b122), (.ref b120), (.ref b141)])) _
      refine XS.iconst X141.here hx rfl (hb hby at_260) ?_
      show Steps p.tables e below (T141.setTop (mkF m 261 #[.val (.int p0), .val (.int p1), .val (.int p2), .val (.int p3), .val (.ref b101), .val (.int (i5F pi)), .val (.int (ixx (pmF pi 0))), .val (.int (ixx (pmF pi 1))), .val (.int (ixx (pmF pi 2))), .val (.int (tii (t0F tq0))), .val (.int (tii (t1F tq0 dq1))), .val (.int (tii (t2F tq0 dq1 dq2))), .val (.int (b2i cf0)), .val (.int (b2i cf1)), .val (.int (b2i cf2)), .val (.ref b120), .val (.ref b122), .val (.ref b141), .unset, .unset, .unset, .unset, .unset, .unset, .unset, .unset, .unset] [(.int (0 : Int32)), (.ref b122), (.ref b120), (.ref b141)])) _
      refine st144 _ ?_
      show Steps p.tables e below (T144.setTop (mkF m 264 #[.val (.int p0), .val (.int p1), .val (.int p2), .val (.int p3), .val (.ref b101), .val (.int (i5F pi)), .val (.int (ixx (pmF pi 0))), .val (.int (ixx (pmF pi 1))), .val (.int (ixx (pmF pi 2))), .val (.int (tii (t0F tq0))), .val (.int (tii (t1F tq0 dq1))), .val (.int (tii (t2F tq0 dq1 dq2))), .val (.int (b2i cf0)), .val (.int (b2i cf1)), .val (.int (b2i cf2)), .val (.ref b120), .val (.ref b122), .val (.ref b141), .unset, .unset, .unset, .unset, .unset, .unset, .unset, .unset, .unset] [(.int (ixx (rkF (ccF pi cf0 cf1 cf2) (ttF pi tq0 dq1 dq2) (0 : Fin 3)))), (.ref b141)])) _
      refine XS.iconst X144.here hx rfl (hb hby at_264) ?_
      show Steps p.tables e below (T144.setTop (mkF m 265 #[.val (.int p0), .val (.int p1), .val (.int p2), .val (.int p3), .val (.ref b101), .val (.int (i5F pi)), .val (.int (ixx (pmF pi 0))), .val (.int (ixx (pmF pi 1))), .val (.int (ixx (pmF pi 2))), .val (.int (tii (t0F tq0))), .val (.int (tii (t1F tq0 dq1))), .val (.int (tii (t2F tq0 dq1 dq2))), .val (.int (b2i cf0)), .val (.int (b2i cf1)), .val (.int (b2i cf2)), .val (.ref b120), .val (.ref b122), .val (.ref b141), .unset, .unset, .unset, .unset, .unset, .unset, .unset, .unset, .unset] [(.int (0 : Int32)), (.int (ixx (rkF (ccF pi cf0 cf1 cf2) (ttF pi tq0 dq1 dq2) (0 : Fin 3)))), (.ref b141)])) _
      refine st148 _ ?_
      show Steps p.tables e below (T148.setTop (mkF m 266 #[.val (.int p0), .val (.int p1), .val (.int p2), .val (.int p3), .val (.ref b101), .val (.int (i5F pi)), .val (.int (ixx (pmF pi 0))), .val (.int (ixx (pmF pi 1))), .val (.int (ixx (pmF pi 2))), .val (.int (tii (t0F tq0))), .val (.int (tii (t1F tq0 dq1))), .val (.int (tii (t2F tq0 dq1 dq2))), .val (.int (b2i cf0)), .val (.int (b2i cf1)), .val (.int (b2i cf2)), .val (.ref b120), .val (.ref b122), .val (.ref b141), .unset, .unset, .unset, .unset, .unset, .unset, .unset, .unset, .unset] [])) _
      refine XS.aload X148.here hx rfl (hb hby at_266) rfl rfl ?_
      show Steps p.tables e below (T148.setTop (mkF m 268 #[.val (.int p0), .val (.int p1), .val (.int p2), .val (.int p3), .val (.ref b101), .val (.int (i5F pi)), .val (.int (ixx (pmF pi 0))), .val (.int (ixx (pmF pi 1))), .val (.int (ixx (pmF pi 2))), .val (.int (tii (t0F tq0))), .val (.int (tii (t1F tq0 dq1))), .val (.int (tii (t2F tq0 dq1 dq2))), .val (.int (b2i cf0)), .val (.int (b2i cf1)), .val (.int (b2i cf2)), .val (.ref b120), .val (.ref b122), .val (.ref b141), .unset, .unset, .unset, .unset, .unset, .unset, .unset, .unset, .unset] [(.ref b141)])) _
      refine XS.aload X148.here hx rfl (hb hby at_268) rfl rfl ?_
      show Steps p.tables e below (T148.setTop (mkF m 270 #[.val (.int p0), .val (.int p1), .val (.int p2), .val (.int p3), .val (.ref b101), .val (.int (i5F pi)), .val (.int (ixx (pmF pi 0))), .val (.int (ixx (pmF pi 1))), .val (.int (ixx (pmF pi 2))), .val (.int (tii (t0F tq0))), .val (.int (tii (t1F tq0 dq1))), .val (.int (tii (t2F tq0 dq1 dq2))), .val (.int (b2i cf0)), .val (.int (b2i cf1)), .val (.int (b2i cf2)), .val (.ref b120), .val (.ref b122), .val (.ref b141), .unset, .unset, .unset, .unset, .unset, .unset, .unset, .unset, .unset] [(.ref b120), (.ref b141)])) _
      refine XS.aload X148.here hx rfl (hb hby at_270) rfl rfl ?_
      show Steps p.tables e below (T148.setTop (mkF m 272 #[.val (.int p0), .val (.int p1), .val (.int p2), .val (.int p3), .val (.ref b101), .val (.int (i5F pi)), .val (.int (ixx (pmF pi 0))), .val (.int (ixx (pmF pi 1))), .val (.int (ixx (pmF pi 2))), .val (.int (tii (t0F tq0))), .val (.int (tii (t1F tq0 dq1))), .val (.int (tii (t2F tq0 dq1 dq2))), .val (.int (b2i cf0)), .val (.int (b2i cf1)), .val (.int (b2i cf2)), .val (.ref b120), .val (.ref b122), .val (.ref b141), .unset, .unset, .unset, .unset, .unset, .unset, .unset, .unset, .unset] [(.ref b122), (.ref b120), (.ref b141)])) _
      refine XS.iconst X148.here hx rfl (hb hby at_272) ?_
      show Steps p.tables e below (T148.setTop (mkF m 273 #[.val (.int p0), .val (.int p1), .val (.int p2), .val (.int p3), .val (.ref b101), .val (.int (i5F pi)), .val (.int (ixx (pmF pi 0))), .val (.int (ixx (pmF pi 1))), .val (.int (ixx (pmF pi 2))), .val (.int (tii (t0F tq0))), .val (.int (tii (t1F tq0 dq1))), .val (.int (tii (t2F tq0 dq1 dq2))), .val (.int (b2i cf0)), .val (.int (b2i cf1)), .val (.int (b2i cf2)), .val (.ref b120), .val (.ref b122), .val (.ref b141), .unset, .unset, .unset, .unset, .unset, .unset, .unset, .unset, .unset] [(.int (1 : Int32)), (.ref b122), (.ref b120), (.ref b141)])) _
      refine st149 _ ?_
      show Steps p.tables e below (T149.setTop (mkF m 276 #[.val (.int p0), .val (.int p1), .val (.int p2), .val (.int p3), .val (.ref b101), .val (.int (i5F pi)), .val (.int (ixx (pmF pi 0))), .val (.int (ixx (pmF pi 1))), .val (.int (ixx (pmF pi 2))), .val (.int (tii (t0F tq0))), .val (.int (tii (t1F tq0 dq1))), .val (.int (tii (t2F tq0 dq1 dq2))), .val (.int (b2i cf0)), .val (.int (b2i cf1)), .val (.int (b2i cf2)), .val (.ref b120), .val (.ref b122), .val (.ref b141), .unset, .unset, .unset, .unset, .unset, .unset, .unset, .unset, .unset] [(.int (ixx (rkF (ccF pi cf0 cf1 cf2) (ttF pi tq0 dq1 dq2) (1 : Fin 3)))), (.ref b141)])) _
      refine XS.iconst X149.here hx rfl (hb hby at_276) ?_
      show Steps p.tables e below (T149.setTop (mkF m 277 #[.val (.int p0), .val (.int p1), .val (.int p2), .val (.int p3), .val (.ref b101), .val (.int (i5F pi)), .val (.int (ixx (pmF pi 0))), .val (.int (ixx (pmF pi 1))), .val (.int (ixx (pmF pi 2))), .val (.int (tii (t0F tq0))), .val (.int (tii (t1F tq0 dq1))), .val (.int (tii (t2F tq0 dq1 dq2))), .val (.int (b2i cf0)), .val (.int (b2i cf1)), .val (.int (b2i cf2)), .val (.ref b120), .val (.ref b122), .val (.ref b141), .unset, .unset, .unset, .unset, .unset, .unset, .unset, .unset, .unset] [(.int (1 : Int32)), (.int (ixx (rkF (ccF pi cf0 cf1 cf2) (ttF pi tq0 dq1 dq2) (1 : Fin 3)))), (.ref b141)])) _
      refine st153 _ ?_
      show Steps p.tables e below (T153.setTop (mkF m 278 #[.val (.int p0), .val (.int p1), .val (.int p2), .val (.int p3), .val (.ref b101), .val (.int (i5F pi)), .val (.int (ixx (pmF pi 0))), .val (.int (ixx (pmF pi 1))), .val (.int (ixx (pmF pi 2))), .val (.int (tii (t0F tq0))), .val (.int (tii (t1F tq0 dq1))), .val (.int (tii (t2F tq0 dq1 dq2))), .val (.int (b2i cf0)), .val (.int (b2i cf1)), .val (.int (b2i cf2)), .val (.ref b120), .val (.ref b122), .val (.ref b141), .unset, .unset, .unset, .unset, .unset, .unset, .unset, .unset, .unset] [])) _
      refine XS.aload X153.here hx rfl (hb hby at_278) rfl rfl ?_
      show Steps p.tables e below (T153.setTop (mkF m 280 #[.val (.int p0), .val (.int p1), .val (.int p2), .val (.int p3), .val (.ref b101), .val (.int (i5F pi)), .val (.int (ixx (pmF pi 0))), .val (.int (ixx (pmF pi 1))), .val (.int (ixx (pmF pi 2))), .val (.int (tii (t0F tq0))), .val (.int (tii (t1F tq0 dq1))), .val (.int (tii (t2F tq0 dq1 dq2))), .val (.int (b2i cf0)), .val (.int (b2i cf1)), .val (.int (b2i cf2)), .val (.ref b120), .val (.ref b122), .val (.ref b141), .unset, .unset, .unset, .unset, .unset, .unset, .unset, .unset, .unset] [(.ref b141)])) _
      refine XS.aload X153.here hx rfl (hb hby at_280) rfl rfl ?_
      show Steps p.tables e below (T153.setTop (mkF m 282 #[.val (.int p0), .val (.int p1), .val (.int p2), .val (.int p3), .val (.ref b101), .val (.int (i5F pi)), .val (.int (ixx (pmF pi 0))), .val (.int (ixx (pmF pi 1))), .val (.int (ixx (pmF pi 2))), .val (.int (tii (t0F tq0))), .val (.int (tii (t1F tq0 dq1))), .val (.int (tii (t2F tq0 dq1 dq2))), .val (.int (b2i cf0)), .val (.int (b2i cf1)), .val (.int (b2i cf2)), .val (.ref b120), .val (.ref b122), .val (.ref b141), .unset, .unset, .unset, .unset, .unset, .unset, .unset, .unset, .unset] [(.ref b120), (.ref b141)])) _
      refine XS.aload X153.here hx rfl (hb hby at_282) rfl rfl ?_
      show Steps p.tables e below (T153.setTop (mkF m 284 #[.val (.int p0), .val (.int p1), .val (.int p2), .val (.int p3), .val (.ref b101), .val (.int (i5F pi)), .val (.int (ixx (pmF pi 0))), .val (.int (ixx (pmF pi 1))), .val (.int (ixx (pmF pi 2))), .val (.int (tii (t0F tq0))), .val (.int (tii (t1F tq0 dq1))), .val (.int (tii (t2F tq0 dq1 dq2))), .val (.int (b2i cf0)), .val (.int (b2i cf1)), .val (.int (b2i cf2)), .val (.ref b120), .val (.ref b122), .val (.ref b141), .unset, .unset, .unset, .unset, .unset, .unset, .unset, .unset, .unset] [(.ref b122), (.ref b120), (.ref b141)])) _
      refine XS.iconst X153.here hx rfl (hb hby at_284) ?_
      show Steps p.tables e below (T153.setTop (mkF m 285 #[.val (.int p0), .val (.int p1), .val (.int p2), .val (.int p3), .val (.ref b101), .val (.int (i5F pi)), .val (.int (ixx (pmF pi 0))), .val (.int (ixx (pmF pi 1))), .val (.int (ixx (pmF pi 2))), .val (.int (tii (t0F tq0))), .val (.int (tii (t1F tq0 dq1))), .val (.int (tii (t2F tq0 dq1 dq2))), .val (.int (b2i cf0)), .val (.int (b2i cf1)), .val (.int (b2i cf2)), .val (.ref b120), .val (.ref b122), .val (.ref b141), .unset, .unset, .unset, .unset, .unset, .unset, .unset, .unset, .unset] [(.int (2 : Int32)), (.ref b122), (.ref b120), (.ref b141)])) _
      refine st154 _ ?_
      show Steps p.tables e below (T154.setTop (mkF m 288 #[.val (.int p0), .val (.int p1), .val (.int p2), .val (.int p3), .val (.ref b101), .val (.int (i5F pi)), .val (.int (ixx (pmF pi 0))), .val (.int (ixx (pmF pi 1))), .val (.int (ixx (pmF pi 2))), .val (.int (tii (t0F tq0))), .val (.int (tii (t1F tq0 dq1))), .val (.int (tii (t2F tq0 dq1 dq2))), .val (.int (b2i cf0)), .val (.int (b2i cf1)), .val (.int (b2i cf2)), .val (.ref b120), .val (.ref b122), .val (.ref b141), .unset, .unset, .unset, .unset, .unset, .unset, .unset, .unset, .unset] [(.int (ixx (rkF (ccF pi cf0 cf1 cf2) (ttF pi tq0 dq1 dq2) (2 : Fin 3)))), (.ref b141)])) _
      refine XS.iconst X154.here hx rfl (hb hby at_288) ?_
      show Steps p.tables e below (T154.setTop (mkF m 289 #[.val (.int p0), .val (.int p1), .val (.int p2), .val (.int p3), .val (.ref b101), .val (.int (i5F pi)), .val (.int (ixx (pmF pi 0))), .val (.int (ixx (pmF pi 1))), .val (.int (ixx (pmF pi 2))), .val (.int (tii (t0F tq0))), .val (.int (tii (t1F tq0 dq1))), .val (.int (tii (t2F tq0 dq1 dq2))), .val (.int (b2i cf0)), .val (.int (b2i cf1)), .val (.int (b2i cf2)), .val (.ref b120), .val (.ref b122), .val (.ref b141), .unset, .unset, .unset, .unset, .unset, .unset, .unset, .unset, .unset] [(.int (2 : Int32)), (.int (ixx (rkF (ccF pi cf0 cf1 cf2) (ttF pi tq0 dq1 dq2) (2 : Fin 3)))), (.ref b141)])) _
      refine st158 _ ?_
      show Steps p.tables e below (T158.setTop (mkF m 290 #[.val (.int p0), .val (.int p1), .val (.int p2), .val (.int p3), .val (.ref b101), .val (.int (i5F pi)), .val (.int (ixx (pmF pi 0))), .val (.int (ixx (pmF pi 1))), .val (.int (ixx (pmF pi 2))), .val (.int (tii (t0F tq0))), .val (.int (tii (t1F tq0 dq1))), .val (.int (tii (t2F tq0 dq1 dq2))), .val (.int (b2i cf0)), .val (.int (b2i cf1)), .val (.int (b2i cf2)), .val (.ref b120), .val (.ref b122), .val (.ref b141), .unset, .unset, .unset, .unset, .unset, .unset, .unset, .unset, .unset] [])) _
      refine XS.iloadN X158.here hx rfl (hb hby at_290) rfl ?_
      show Steps p.tables e below (T158.setTop (mkF m 291 #[.val (.int p0), .val (.int p1), .val (.int p2), .val (.int p3), .val (.ref b101), .val (.int (i5F pi)), .val (.int (ixx (pmF pi 0))), .val (.int (ixx (pmF pi 1))), .val (.int (ixx (pmF pi 2))), .val (.int (tii (t0F tq0))), .val (.int (tii (t1F tq0 dq1))), .val (.int (tii (t2F tq0 dq1 dq2))), .val (.int (b2i cf0)), .val (.int (b2i cf1)), .val (.int (b2i cf2)), .val (.ref b120), .val (.ref b122), .val (.ref b141), .unset, .unset, .unset, .unset, .unset, .unset, .unset, .unset, .unset] [(.int p2)])) _
      refine X158.ldcInt hx hown (mvT hZ (hw _ (List.mem_of_getElem? (i := 1) rfl))) (g := (mkF m 291 #[.val (.int p0), .val (.int p1), .val (.int p2), .val (.int p3), .val (.ref b101), .val (.int (i5F pi)), .val (.int (ixx (pmF pi 0))), .val (.int (ixx (pmF pi 1))), .val (.int (ixx (pmF pi 2))), .val (.int (tii (t0F tq0))), .val (.int (tii (t1F tq0 dq1))), .val (.int (tii (t2F tq0 dq1 dq2))), .val (.int (b2i cf0)), .val (.int (b2i cf1)), .val (.int (b2i cf2)), .val (.ref b120), .val (.ref b122), .val (.ref b141), .unset, .unset, .unset, .unset, .unset, .unset, .unset, .unset, .unset] [(.int p2)])) rfl (hb hby at_291) _ ?_
      show Steps p.tables e below (T158.setTop (mkF m 293 #[.val (.int p0), .val (.int p1), .val (.int p2), .val (.int p3), .val (.ref b101), .val (.int (i5F pi)), .val (.int (ixx (pmF pi 0))), .val (.int (ixx (pmF pi 1))), .val (.int (ixx (pmF pi 2))), .val (.int (tii (t0F tq0))), .val (.int (tii (t1F tq0 dq1))), .val (.int (tii (t2F tq0 dq1 dq2))), .val (.int (b2i cf0)), .val (.int (b2i cf1)), .val (.int (b2i cf2)), .val (.ref b120), .val (.ref b122), .val (.ref b141), .unset, .unset, .unset, .unset, .unset, .unset, .unset, .unset, .unset] [(.int (2147483647 : Int32)), (.int p2)])) _
      refine XS.iand X158.here hx rfl (hb hby at_293) rfl ?_
      show Steps p.tables e below (T158.setTop (mkF m 294 #[.val (.int p0), .val (.int p1), .val (.int p2), .val (.int p3), .val (.ref b101), .val (.int (i5F pi)), .val (.int (ixx (pmF pi 0))), .val (.int (ixx (pmF pi 1))), .val (.int (ixx (pmF pi 2))), .val (.int (tii (t0F tq0))), .val (.int (tii (t1F tq0 dq1))), .val (.int (tii (t2F tq0 dq1 dq2))), .val (.int (b2i cf0)), .val (.int (b2i cf1)), .val (.int (b2i cf2)), .val (.ref b120), .val (.ref b122), .val (.ref b141), .unset, .unset, .unset, .unset, .unset, .unset, .unset, .unset, .unset] [(.int (p2 &&& (2147483647 : Int32)))])) _
      refine XS.iconst X158.here hx rfl (hb hby at_294) ?_
      show Steps p.tables e below (T158.setTop (mkF m 295 #[.val (.int p0), .val (.int p1), .val (.int p2), .val (.int p3), .val (.ref b101), .val (.int (i5F pi)), .val (.int (ixx (pmF pi 0))), .val (.int (ixx (pmF pi 1))), .val (.int (ixx (pmF pi 2))), .val (.int (tii (t0F tq0))), .val (.int (tii (t1F tq0 dq1))), .val (.int (tii (t2F tq0 dq1 dq2))), .val (.int (b2i cf0)), .val (.int (b2i cf1)), .val (.int (b2i cf2)), .val (.ref b120), .val (.ref b122), .val (.ref b141), .unset, .unset, .unset, .unset, .unset, .unset, .unset, .unset, .unset] [(.int (3 : Int32)), (.int (p2 &&& (2147483647 : Int32)))])) _
      refine iremM X158 hx rfl (hb hby at_295) rfl (by decide) ?_
      exact kt
    obtain ⟨vq, hvq⟩ := own_v3 p2
    rw [hvq]
    refine Gl.pre (S' := T158.setTop (mkF m 301 #[.val (.int p0), .val (.int p1), .val (.int p2), .val (.int p3), .val (.ref b101), .val (.int (i5F pi)), .val (.int (ixx (pmF pi 0))), .val (.int (ixx (pmF pi 1))), .val (.int (ixx (pmF pi 2))), .val (.int (tii (t0F tq0))), .val (.int (tii (t1F tq0 dq1))), .val (.int (tii (t2F tq0 dq1 dq2))), .val (.int (b2i cf0)), .val (.int (b2i cf1)), .val (.int (b2i cf2)), .val (.ref b120), .val (.ref b122), .val (.ref b141), .val (.int (ixx vq)), .unset, .unset, .unset, .unset, .unset, .unset, .unset, .unset] [(.int (p3 &&& (1 : Int32)))])) (fun t kt => ?_) ?_
    · show Steps p.tables e below (T158.setTop (mkF m 296 #[.val (.int p0), .val (.int p1), .val (.int p2), .val (.int p3), .val (.ref b101), .val (.int (i5F pi)), .val (.int (ixx (pmF pi 0))), .val (.int (ixx (pmF pi 1))), .val (.int (ixx (pmF pi 2))), .val (.int (tii (t0F tq0))), .val (.int (tii (t1F tq0 dq1))), .val (.int (tii (t2F tq0 dq1 dq2))), .val (.int (b2i cf0)), .val (.int (b2i cf1)), .val (.int (b2i cf2)), .val (.ref b120), .val (.ref b122), .val (.ref b141), .unset, .unset, .unset, .unset, .unset, .unset, .unset, .unset, .unset] [(.int (ixx vq))])) _
      refine XS.istore X158.here hx rfl (hb hby at_296) rfl (l' := #[.val (.int p0), .val (.int p1), .val (.int p2), .val (.int p3), .val (.ref b101), .val (.int (i5F pi)), .val (.int (ixx (pmF pi 0))), .val (.int (ixx (pmF pi 1))), .val (.int (ixx (pmF pi 2))), .val (.int (tii (t0F tq0))), .val (.int (tii (t1F tq0 dq1))), .val (.int (tii (t2F tq0 dq1 dq2))), .val (.int (b2i cf0)), .val (.int (b2i cf1)), .val (.int (b2i cf2)), .val (.ref b120), .val (.ref b122), .val (.ref b141), .val (.int (ixx vq)), .unset, .unset, .unset, .unset, .unset, .unset, .unset, .unset]) rfl ?_
      show Steps p.tables e below (T158.setTop (mkF m 298 #[.val (.int p0), .val (.int p1), .val (.int p2), .val (.int p3), .val (.ref b101), .val (.int (i5F pi)), .val (.int (ixx (pmF pi 0))), .val (.int (ixx (pmF pi 1))), .val (.int (ixx (pmF pi 2))), .val (.int (tii (t0F tq0))), .val (.int (tii (t1F tq0 dq1))), .val (.int (tii (t2F tq0 dq1 dq2))), .val (.int (b2i cf0)), .val (.int (b2i cf1)), .val (.int (b2i cf2)), .val (.ref b120), .val (.ref b122), .val (.ref b141), .val (.int (ixx vq)), .unset, .unset, .unset, .unset, .unset, .unset, .unset, .unset] [])) _
      refine XS.iloadN X158.here hx rfl (hb hby at_298) rfl ?_
      show Steps p.tables e below (T158.setTop (mkF m 299 #[.val (.int p0), .val (.int p1), .val (.int p2), .val (.int p3), .val (.ref b101), .val (.int (i5F pi)), .val (.int (ixx (pmF pi 0))), .val (.int (ixx (pmF pi 1))), .val (.int (ixx (pmF pi 2))), .val (.int (tii (t0F tq0))), .val (.int (tii (t1F tq0 dq1))), .val (.int (tii (t2F tq0 dq1 dq2))), .val (.int (b2i cf0)), .val (.int (b2i cf1)), .val (.int (b2i cf2)), .val (.ref b120), .val (.ref b122), .val (.ref b141), .val (.int (ixx vq)), .unset, .unset, .unset, .unset, .unset, .unset, .unset, .unset] [(.int p3)])) _
      refine XS.iconst X158.here hx rfl (hb hby at_299) ?_
      show Steps p.tables e below (T158.setTop (mkF m 300 #[.val (.int p0), .val (.int p1), .val (.int p2), .val (.int p3), .val (.ref b101), .val (.int (i5F pi)), .val (.int (ixx (pmF pi 0))), .val (.int (ixx (pmF pi 1))), .val (.int (ixx (pmF pi 2))), .val (.int (tii (t0F tq0))), .val (.int (tii (t1F tq0 dq1))), .val (.int (tii (t2F tq0 dq1 dq2))), .val (.int (b2i cf0)), .val (.int (b2i cf1)), .val (.int (b2i cf2)), .val (.ref b120), .val (.ref b122), .val (.ref b141), .val (.int (ixx vq)), .unset, .unset, .unset, .unset, .unset, .unset, .unset, .unset] [(.int (1 : Int32)), (.int p3)])) _
      refine XS.iand X158.here hx rfl (hb hby at_300) rfl ?_
      exact kt
    refine Gl.pre (S' := T158.setTop (mkF m 309 #[.val (.int p0), .val (.int p1), .val (.int p2), .val (.int p3), .val (.ref b101), .val (.int (i5F pi)), .val (.int (ixx (pmF pi 0))), .val (.int (ixx (pmF pi 1))), .val (.int (ixx (pmF pi 2))), .val (.int (tii (t0F tq0))), .val (.int (tii (t1F tq0 dq1))), .val (.int (tii (t2F tq0 dq1 dq2))), .val (.int (b2i cf0)), .val (.int (b2i cf1)), .val (.int (b2i cf2)), .val (.ref b120), .val (.ref b122), .val (.ref b141), .val (.int (ixx vq)), .unset, .unset, .unset, .unset, .unset, .unset, .unset, .unset] [(.int (b2i (!decide ((p3 &&& (1 : Int32)) = (0 : Int32)))))])) (fun t kt => ?_) ?_
    · by_cases hc301 : (p3 &&& (1 : Int32)) = (0 : Int32)
      · show Steps p.tables e below (T158.setTop (mkF m 301 #[.val (.int p0), .val (.int p1), .val (.int p2), .val (.int p3), .val (.ref b101), .val (.int (i5F pi)), .val (.int (ixx (pmF pi 0))), .val (.int (ixx (pmF pi 1))), .val (.int (ixx (pmF pi 2))), .val (.int (tii (t0F tq0))), .val (.int (tii (t1F tq0 dq1))), .val (.int (tii (t2F tq0 dq1 dq2))), .val (.int (b2i cf0)), .val (.int (b2i cf1)), .val (.int (b2i cf2)), .val (.ref b120), .val (.ref b122), .val (.ref b141), .val (.int (ixx vq)), .unset, .unset, .unset, .unset, .unset, .unset, .unset, .unset] [(.int (p3 &&& (1 : Int32)))])) _
        refine XS.ifYes X158.here hx rfl (pc0 := 301) (pc' := 308) rfl (hb hby at_301) rfl (own_t (i0_eq _) hc301) (by decide) (by decide) ?_
        show Steps p.tables e below (T158.setTop (mkF m 308 #[.val (.int p0), .val (.int p1), .val (.int p2), .val (.int p3), .val (.ref b101), .val (.int (i5F pi)), .val (.int (ixx (pmF pi 0))), .val (.int (ixx (pmF pi 1))), .val (.int (ixx (pmF pi 2))), .val (.int (tii (t0F tq0))), .val (.int (tii (t1F tq0 dq1))), .val (.int (tii (t2F tq0 dq1 dq2))), .val (.int (b2i cf0)), .val (.int (b2i cf1)), .val (.int (b2i cf2)), .val (.ref b120), .val (.ref b122), .val (.ref b141), .val (.int (ixx vq)), .unset, .unset, .unset, .unset, .unset, .unset, .unset, .unset] [])) _
        refine XS.iconst X158.here hx rfl (hb hby at_308) ?_
        rw [(by have q := hc301; first | (rw [decide_eq_true q]; rfl) | (rw [decide_eq_false q]; rfl) : (b2i (!decide ((p3 &&& (1 : Int32)) = (0 : Int32)))) = (0 : Int32))] at kt
        exact kt
      · show Steps p.tables e below (T158.setTop (mkF m 301 #[.val (.int p0), .val (.int p1), .val (.int p2), .val (.int p3), .val (.ref b101), .val (.int (i5F pi)), .val (.int (ixx (pmF pi 0))), .val (.int (ixx (pmF pi 1))), .val (.int (ixx (pmF pi 2))), .val (.int (tii (t0F tq0))), .val (.int (tii (t1F tq0 dq1))), .val (.int (tii (t2F tq0 dq1 dq2))), .val (.int (b2i cf0)), .val (.int (b2i cf1)), .val (.int (b2i cf2)), .val (.ref b120), .val (.ref b122), .val (.ref b141), .val (.int (ixx vq)), .unset, .unset, .unset, .unset, .unset, .unset, .unset, .unset] [(.int (p3 &&& (1 : Int32)))])) _
        refine XS.ifNo X158.here hx rfl (hb hby at_301) rfl (own_f (i0_eq _) hc301) ?_
        show Steps p.tables e below (T158.setTop (mkF m 304 #[.val (.int p0), .val (.int p1), .val (.int p2), .val (.int p3), .val (.ref b101), .val (.int (i5F pi)), .val (.int (ixx (pmF pi 0))), .val (.int (ixx (pmF pi 1))), .val (.int (ixx (pmF pi 2))), .val (.int (tii (t0F tq0))), .val (.int (tii (t1F tq0 dq1))), .val (.int (tii (t2F tq0 dq1 dq2))), .val (.int (b2i cf0)), .val (.int (b2i cf1)), .val (.int (b2i cf2)), .val (.ref b120), .val (.ref b122), .val (.ref b141), .val (.int (ixx vq)), .unset, .unset, .unset, .unset, .unset, .unset, .unset, .unset] [])) _
        refine XS.iconst X158.here hx rfl (hb hby at_304) ?_
        show Steps p.tables e below (T158.setTop (mkF m 305 #[.val (.int p0), .val (.int p1), .val (.int p2), .val (.int p3), .val (.ref b101), .val (.int (i5F pi)), .val (.int (ixx (pmF pi 0))), .val (.int (ixx (pmF pi 1))), .val (.int (ixx (pmF pi 2))), .val (.int (tii (t0F tq0))), .val (.int (tii (t1F tq0 dq1))), .val (.int (tii (t2F tq0 dq1 dq2))), .val (.int (b2i cf0)), .val (.int (b2i cf1)), .val (.int (b2i cf2)), .val (.ref b120), .val (.ref b122), .val (.ref b141), .val (.int (ixx vq)), .unset, .unset, .unset, .unset, .unset, .unset, .unset, .unset] [(.int (1 : Int32))])) _
        refine XS.goto X158.here hx rfl (pc0 := 305) (pc' := 309) rfl (hb hby at_305) (by decide) (by decide) ?_
        rw [(by have q := hc301; first | (rw [decide_eq_true q]; rfl) | (rw [decide_eq_false q]; rfl) : (b2i (!decide ((p3 &&& (1 : Int32)) = (0 : Int32)))) = (1 : Int32))] at kt
        exact kt
    obtain ⟨rr, h_rr⟩ : ∃ z : Bool, z = (!decide ((p3 &&& (1 : Int32)) = (0 : Int32))) := ⟨_, rfl⟩
    rw [← h_rr]
    obtain ⟨T160, h160, X160, e160, E160, A160, D160, -, st160⟩ := newO X158 hx hZ hown (hw _ (List.mem_of_getElem? (i := 10) rfl)) (hw _ (List.mem_of_getElem? (i := 11) rfl)) (hw _ (List.mem_of_getElem? (i := 12) rfl)) e158 (g := (mkF m 311 #[.val (.int p0), .val (.int p1), .val (.int p2), .val (.int p3), .val (.ref b101), .val (.int (i5F pi)), .val (.int (ixx (pmF pi 0))), .val (.int (ixx (pmF pi 1))), .val (.int (ixx (pmF pi 2))), .val (.int (tii (t0F tq0))), .val (.int (tii (t1F tq0 dq1))), .val (.int (tii (t2F tq0 dq1 dq2))), .val (.int (b2i cf0)), .val (.int (b2i cf1)), .val (.int (b2i cf2)), .val (.ref b120), .val (.ref b122), .val (.ref b141), .val (.int (ixx vq)), .val (.int (b2i rr)), .unset, .unset, .unset, .unset, .unset, .unset, .unset] [])) rfl (hb hby at_311) (by decide) (by decide)
    obtain ⟨b160, g160⟩ : ∃ z, z = h158.size := ⟨_, rfl⟩
    have z161 : n0 ≤ h158.size := (Nat.le_trans z157 (Keep.of_wr W158).1)
    have g_b160 : n0 ≤ b160 := Nat.le_trans z161 (Nat.le_of_eq g160.symm)
    have sz_b160 : h0.size ≤ b160 := Nat.le_trans K158.1 (Nat.le_of_eq g160.symm)
    rw [← g160] at A160 D160 st160
    have K160 : Keep h0 h160 [] := K158.ext E160
    have F_first_b160 : Fld Z h160 b160 "com/example/tenrec/tenrec/pool/IdleByLastCompletion" "first" "I" (.int (0 : Int32)) := D160 (Or.inl (hw _ (List.mem_of_getElem? (i := 20) rfl))) (ty := .int) (by decide)
    have F_last_b160 : Fld Z h160 b160 "com/example/tenrec/tenrec/pool/IdleByLastCompletion" "last" "I" (.int (0 : Int32)) := D160 (Or.inl (hw _ (List.mem_of_getElem? (i := 22) rfl))) (ty := .int) (by decide)
    have F_lastCompletion_b160 : Fld Z h160 b160 "com/example/tenrec/tenrec/pool/IdleByLastCompletion" "lastCompletion" "[D" .null := D160 (Or.inr (hw _ (List.mem_of_getElem? (i := 25) rfl))) (ty := (.array .double)) (by decide)
    have F_before_b160 : Fld Z h160 b160 "com/example/tenrec/tenrec/pool/IdleByLastCompletion" "before" "[I" .null := D160 (Or.inr (hw _ (List.mem_of_getElem? (i := 32) rfl))) (ty := (.array .int)) (by decide)
    have F_after_b160 : Fld Z h160 b160 "com/example/tenrec/tenrec/pool/IdleByLastCompletion" "after" "[I" .null := D160 (Or.inr (hw _ (List.mem_of_getElem? (i := 34) rfl))) (ty := (.array .int)) (by decide)
    have z163 : n0 ≤ h160.size := (Nat.le_trans z161 E160.1)
    obtain ⟨v162, T162, L162, X162, q162, st162⟩ := own_callI X160 hx hZ (y := (⟨"com/example/tenrec/tenrec/pool/IdleByLastCompletion", "<init>", "(I)V"⟩ : MethodName)) rfl hown (hw _ (List.mem_of_getElem? (i := 13) rfl)) (hw _ (List.mem_of_getElem? (i := 14) rfl)) (hw _ (List.mem_of_getElem? (i := 12) rfl)) (hw _ (List.mem_of_getElem? (i := 15) rfl)) (by decide) (a := b160) (hM := (rm3 l Z a0 hw [] b160 h160 n0 z163 g_b160 A160 F_first_b160 F_last_b160 F_lastCompletion_b160 F_before_b160 F_after_b160)) (by decide) (by decide) (by decide) (by decide) e160 (argsL := [(.int (3 : Int32))]) (rest := [(.ref b160)]) (Ls := #[.val (.int p0), .val (.int p1), .val (.int p2), .val (.int p3), .val (.ref b101), .val (.int (i5F pi)), .val (.int (ixx (pmF pi 0))), .val (.int (ixx (pmF pi 1))), .val (.int (ixx (pmF pi 2))), .val (.int (tii (t0F tq0))), .val (.int (tii (t1F tq0 dq1))), .val (.int (tii (t2F tq0 dq1 dq2))), .val (.int (b2i cf0)), .val (.int (b2i cf1)), .val (.int (b2i cf2)), .val (.ref b120), .val (.ref b122), .val (.ref b141), .val (.int (ixx vq)), .val (.int (b2i rr)), .unset, .unset, .unset, .unset, .unset, .unset, .unset]) (by rw [hml]; rfl) (lenOf pd__I_V rfl) (W := 1) (Nat.le_of_eq rfl) (hb hby at_316)
    obtain ⟨lc162, bb162, ba162, szq_lc162, szq_bb162, szq_ba162, ⟨n1162, n2162, n3162⟩, rfl, N162q, K162q, ⟨E162q, Ff162q, Fl162q, Fc162q, Fb162q, Fa162q, Gb162q, Ga162q⟩, Gc162q⟩ := q162
    have N162 := Fr.app N158 N162q
    have K162 : Keep h0 T162.heap [] := K160.trans K162q (allS (Or.inr sz_b160) all0)
    have g_lc162 : n0 ≤ lc162 := Nat.le_trans z163 szq_lc162
    have sz_lc162 : h0.size ≤ lc162 := Nat.le_trans K160.1 szq_lc162
    have g_bb162 : n0 ≤ bb162 := Nat.le_trans z163 szq_bb162
    have sz_bb162 : h0.size ≤ bb162 := Nat.le_trans K160.1 szq_bb162
    have g_ba162 : n0 ≤ ba162 := Nat.le_trans z163 szq_ba162
    have sz_ba162 : h0.size ≤ ba162 := Nat.le_trans K160.1 szq_ba162
    refine Gl.pre (S' := T162.setTop (mkF m 321 #[.val (.int p0), .val (.int p1), .val (.int p2), .val (.int p3), .val (.ref b101), .val (.int (i5F pi)), .val (.int (ixx (pmF pi 0))), .val (.int (ixx (pmF pi 1))), .val (.int (ixx (pmF pi 2))), .val (.int (tii (t0F tq0))), .val (.int (tii (t1F tq0 dq1))), .val (.int (tii (t2F tq0 dq1 dq2))), .val (.int (b2i cf0)), .val (.int (b2i cf1)), .val (.int (b2i cf2)), .val (.ref b120), .val (.ref b122), .val (.ref b141), .val (.int (ixx vq)), .val (.int (b2i rr)), .val (.ref b160), .unset, .unset, .unset, .unset, .unset, .unset] [])) (fun t kt => ?_) ?_
    · show Steps p.tables e below (T158.setTop (mkF m 309 #[.val (.int p0), .val (.int p1), .val (.int p2), .val (.int p3), .val (.ref b101), .val (.int (i5F pi)), .val (.int (ixx (pmF pi 0))), .val (.int (ixx (pmF pi 1))), .val (.int (ixx (pmF pi 2))), .val (.int (tii (t0F tq0))), .val (.int (tii (t1F tq0 dq1))), .val (.int (tii (t2F tq0 dq1 dq2))), .val (.int (b2i cf0)), .val (.int (b2i cf1)), .val (.int (b2i cf2)), .val (.ref b120), .val (.ref b122), .val (.ref b141), .val (.int (ixx vq)), .unset, .unset, .unset, .unset, .unset, .unset, .unset, .unset] [(.int (b2i rr))])) _
      refine XS.istore X158.here hx rfl (hb hby at_309) rfl (l' := #[.val (.int p0), .val (.int p1), .val (.int p2), .val (.int p3), .val (.ref b101), .val (.int (i5F pi)), .val (.int (ixx (pmF pi 0))), .val (.int (ixx (pmF pi 1))), .val (.int (ixx (pmF pi 2))), .val (.int (tii (t0F tq0))), .val (.int (tii (t1F tq0 dq1))), .val (.int (tii (t2F tq0 dq1 dq2))), .val (.int (b2i cf0)), .val (.int (b2i cf1)), .val (.int (b2i cf2)), .val (.ref b120), .val (.ref b122), .val (.ref b141), .val (.int (ixx vq)), .val (.int (b2i rr)), .unset, .unset, .unset, .unset, .unset, .unset, .unset]) rfl ?_
      show Steps p.tables e below (T158.setTop (mkF m 311 #[.val (.int p0), .val (.int p1), .val (.int p2), .val (.int p3), .val (.ref b101), .val (.int (i5F pi)), .val (.int (ixx (pmF pi 0))), .val (.int (ixx (pmF pi 1))), .val (.int (ixx (pmF pi 2))), .val (.int (tii (t0F tq0))), .val (.int (tii (t1F tq0 dq1))), .val (.int (tii (t2F tq0 dq1 dq2))), .val (.int (b2i cf0)), .val (.int (b2i cf1)), .val (.int (b2i cf2)), .val (.ref b120), .val (.ref b122), .val (.ref b141), .val (.int (ixx vq)), .val (.int (b2i rr)), .unset, .unset, .unset, .unset, .unset, .unset, .unset] [])) _
      refine st160 _ ?_
      show Steps p.tables e below (T160.setTop (mkF m 314 #[.val (.int p0), .val (.int p1), .val (.int p2), .val (.int p3), .val (.ref b101), .val (.int (i5F pi)), .val (.int (ixx (pmF pi 0))), .val (.int (ixx (pmF pi 1))), .val (.int (ixx (pmF pi 2))), .val (.int (tii (t0F tq0))), .val (.int (tii (t1F tq0 dq1))), .val (.int (tii (t2F tq0 dq1 dq2))), .val (.int (b2i cf0)), .val (.int (b2i cf1)), .val (.int (b2i cf2)), .val (.ref b120), .val (.ref b122), .val (.ref b141), .val (.int (ixx vq)), .val (.int (b2i rr)), .unset, .unset, .unset, .unset, .unset, .unset, .unset] [(.ref b160)])) _
      refine XS.dup X160.here hx rfl (hb hby at_314) rfl rfl ?_
      show Steps p.tables e below (T160.setTop (mkF m 315 #[.val (.int p0), .val (.int p1), .val (.int p2), .val (.int p3), .val (.ref b101), .val (.int (i5F pi)), .val (.int (ixx (pmF pi 0))), .val (.int (ixx (pmF pi 1))), .val (.int (ixx (pmF pi 2))), .val (.int (tii (t0F tq0))), .val (.int (tii (t1F tq0 dq1))), .val (.int (tii (t2F tq0 dq1 dq2))), .val (.int (b2i cf0)), .val (.int (b2i cf1)), .val (.int (b2i cf2)), .val (.ref b120), .val (.ref b122), .val (.ref b141), .val (.int (ixx vq)), .val (.int (b2i rr)), .unset, .unset, .unset, .unset, .unset, .unset, .unset] [(.ref b160), (.ref b160)])) _
      refine XS.iconst X160.here hx rfl (hb hby at_315) ?_
      show Steps p.tables e below (T160.setTop (mkF m 316 #[.val (.int p0), .val (.int p1), .val (.int p2), .val (.int p3), .val (.ref b101), .val (.int (i5F pi)), .val (.int (ixx (pmF pi 0))), .val (.int (ixx (pmF pi 1))), .val (.int (ixx (pmF pi 2))), .val (.int (tii (t0F tq0))), .val (.int (tii (t1F tq0 dq1))), .val (.int (tii (t2F tq0 dq1 dq2))), .val (.int (b2i cf0)), .val (.int (b2i cf1)), .val (.int (b2i cf2)), .val (.ref b120), .val (.ref b122), .val (.ref b141), .val (.int (ixx vq)), .val (.int (b2i rr)), .unset, .unset, .unset, .unset, .unset, .unset, .unset] [(.int (3 : Int32)), (.ref b160), (.ref b160)])) _
      refine st162 _ ?_
      show Steps p.tables e below (T162.setTop (mkF m 319 #[.val (.int p0), .val (.int p1), .val (.int p2), .val (.int p3), .val (.ref b101), .val (.int (i5F pi)), .val (.int (ixx (pmF pi 0))), .val (.int (ixx (pmF pi 1))), .val (.int (ixx (pmF pi 2))), .val (.int (tii (t0F tq0))), .val (.int (tii (t1F tq0 dq1))), .val (.int (tii (t2F tq0 dq1 dq2))), .val (.int (b2i cf0)), .val (.int (b2i cf1)), .val (.int (b2i cf2)), .val (.ref b120), .val (.ref b122), .val (.ref b141), .val (.int (ixx vq)), .val (.int (b2i rr)), .unset, .unset, .unset, .unset, .unset, .unset, .unset] [(.ref b160)])) _
      refine XS.astore X162.here hx rfl (hb hby at_319) rfl rfl (l' := #[.val (.int p0), .val (.int p1), .val (.int p2), .val (.int p3), .val (.ref b101), .val (.int (i5F pi)), .val (.int (ixx (pmF pi 0))), .val (.int (ixx (pmF pi 1))), .val (.int (ixx (pmF pi 2))), .val (.int (tii (t0F tq0))), .val (.int (tii (t1F tq0 dq1))), .val (.int (tii (t2F tq0 dq1 dq2))), .val (.int (b2i cf0)), .val (.int (b2i cf1)), .val (.int (b2i cf2)), .val (.ref b120), .val (.ref b122), .val (.ref b141), .val (.int (ixx vq)), .val (.int (b2i rr)), .val (.ref b160), .unset, .unset, .unset, .unset, .unset, .unset]) rfl ?_
      exact kt
    have rest : ∀ (kq : Fin 3 → Option (Fin 6)) (T6 : State) (lo6 : List Loc) (h6 : Heap) (X6 : Stand p l e room_1 s m #[(.int p0), (.int p1), (.int p2), (.int p3)] below meth c T6 lo6 8 41) (e6 : T6.heap = h6) (N6 : Fr n0 lo6) (K6 : Keep h0 h6 []) (hob : OB Z h6 b160 lc162 bb162 ba162 S00) (Gc6 : ArG Z h6 lc162 .double (fun j => .double (DDf (kq j)))) (Go6 : ArG Z h6 b141 .int (fun j => .int (ixx (oq j)))) (hkq : kq = (kkF pi tq0 dq1 dq2 cf0 cf1 cf2)), Gl p e below s (Q0 Z p0 p1 p2 p3 h0 n0) room_1.cells room_1.slots (T6.setTop (mkF m 366 #[.val (.int p0), .val (.int p1), .val (.int p2), .val (.int p3), .val (.ref b101), .val (.int (i5F pi)), .val (.int (ixx (pmF pi 0))), .val (.int (ixx (pmF pi 1))), .val (.int (ixx (pmF pi 2))), .val (.int (tii (t0F tq0))), .val (.int (tii (t1F tq0 dq1))), .val (.int (tii (t2F tq0 dq1 dq2))), .val (.int (b2i cf0)), .val (.int (b2i cf1)), .val (.int (b2i cf2)), .val (.ref b120), .val (.ref b122), .val (.ref b141), .val (.int (ixx vq)), .val (.int (b2i rr)), .val (.ref b160), .unset, .unset, .unset, .unset, .unset, .unset] [])) := by
      intro kq T6 lo6 h6 X6 e6 N6 K6 hob Gc6 Go6 hkq
      obtain ⟨E_o, F_f, F_l, F_c, F_b, F_a, G_b, G_a⟩ := id hob
      obtain ⟨Sa, Sb, Sc, Sd, hA1, hA2, hA3, hA4, r0, r1, r2, s0, s1, s2, s3⟩ := own_run kq oq (pmF pi 0) (pmF pi 1) (pmF pi 2) vq (by rw [hkq, hoq]; exact chk_all pi tq0 dq1 dq2 cf0 cf1 cf2 vq)
      obtain ⟨v164, T164, L164, X164, q164, st164⟩ := own_callV X6 hx hZ (y := (⟨"com/example/tenrec/tenrec/pool/IdleByLastCompletion", "add", "(I)V"⟩ : MethodName)) (z := (⟨"com/example/tenrec/tenrec/pool/IdleByLastCompletion", "add", "(I)V"⟩ : MethodName)) hown (hw _ (List.mem_of_getElem? (i := 35) rfl)) (hw _ (List.mem_of_getElem? (i := 36) rfl)) (notFace_of_selects (args := #[]) (mvT hZ (hw _ (List.mem_of_getElem? (i := 38) rfl)))) (hw _ (List.mem_of_getElem? (i := 38) rfl)) (hw _ (List.mem_of_getElem? (i := 37) rfl)) (hw _ (List.mem_of_getElem? (i := 12) rfl)) (hw _ (List.mem_of_getElem? (i := 39) rfl)) (by decide) E_o (hM := (rm6 l Z a0 hw [] b160 (pmF pi 0) lc162 bb162 ba162 S00 kq Sa h6 n0 (Nat.le_trans Z0 K6.1) g_b160 g_bb162 g_ba162 ⟨(Nat.ne_of_lt (Nat.lt_of_lt_of_le A160.lt szq_lc162)), (Nat.ne_of_lt (Nat.lt_of_lt_of_le A160.lt szq_bb162)), (Nat.ne_of_lt (Nat.lt_of_lt_of_le A160.lt szq_ba162)), n1162, n2162, n3162⟩ ⟨E_o, F_f, F_l, F_c, F_b, F_a, G_b, G_a⟩ Gc6 hA1)) (by decide) (by decide) (by decide) (by decide) e6 (argsL := [(.int (ixx (pmF pi 0)))]) (rest := []) (Ls := #[.val (.int p0), .val (.int p1), .val (.int p2), .val (.int p3), .val (.ref b101), .val (.int (i5F pi)), .val (.int (ixx (pmF pi 0))), .val (.int (ixx (pmF pi 1))), .val (.int (ixx (pmF pi 2))), .val (.int (tii (t0F tq0))), .val (.int (tii (t1F tq0 dq1))), .val (.int (tii (t2F tq0 dq1 dq2))), .val (.int (b2i cf0)), .val (.int (b2i cf1)), .val (.int (b2i cf2)), .val (.ref b120), .val (.ref b122), .val (.ref b141), .val (.int (ixx vq)), .val (.int (b2i rr)), .val (.ref b160), .unset, .unset, .unset, .unset, .unset, .unset]) (by rw [hml]; rfl) (lenOf pd__I_V rfl) (W := 0) (Nat.le_of_eq rfl) (hb hby at_370)
      obtain ⟨rfl, N164q, K164q, E164q, Ff164q, Fl164q, Fc164q, Fb164q, Fa164q, Gb164q, Ga164q⟩ := q164
      have N164 := Fr.app N6 N164q
      have K164 : Keep h0 T164.heap [] := K6.trans K164q (allS (Or.inr sz_b160) (allS (Or.inr sz_bb162) (allS (Or.inr sz_ba162) all0)))
      have f166 := (Gc6.keep K164q (ninS (Ne.symm (Nat.ne_of_lt (Nat.lt_of_lt_of_le A160.lt szq_lc162))) (ninS n1162 (ninS n2162 nin0))))
      have z167 : n0 ≤ T164.heap.size := (Nat.le_trans (Nat.le_trans Z0 K6.1) K164q.1)
      obtain ⟨v165, T165, L165, X165, q165, st165⟩ := own_callV X164 hx hZ (y := (⟨"com/example/tenrec/tenrec/pool/IdleByLastCompletion", "add", "(I)V"⟩ : MethodName)) (z := (⟨"com/example/tenrec/tenrec/pool/IdleByLastCompletion", "add", "(I)V"⟩ : MethodName)) hown (hw _ (List.mem_of_getElem? (i := 35) rfl)) (hw _ (List.mem_of_getElem? (i := 36) rfl)) (notFace_of_selects (args := #[]) (mvT hZ (hw _ (List.mem_of_getElem? (i := 38) rfl)))) (hw _ (List.mem_of_getElem? (i := 38) rfl)) (hw _ (List.mem_of_getElem? (i := 37) rfl)) (hw _ (List.mem_of_getElem? (i := 12) rfl)) (hw _ (List.mem_of_getElem? (i := 39) rfl)) (by decide) E164q (hM := (rm6 l Z a0 hw [] b160 (pmF pi 1) lc162 bb162 ba162 Sa kq Sb T164.heap n0 z167 g_b160 g_bb162 g_ba162 ⟨(Nat.ne_of_lt (Nat.lt_of_lt_of_le A160.lt szq_lc162)), (Nat.ne_of_lt (Nat.lt_of_lt_of_le A160.lt szq_bb162)), (Nat.ne_of_lt (Nat.lt_of_lt_of_le A160.lt szq_ba162)), n1162, n2162, n3162⟩ ⟨E164q, Ff164q, Fl164q, Fc164q, Fb164q, Fa164q, Gb164q, Ga164q⟩ f166 hA2)) (by decide) (by decide) (by decide) (by decide) rfl (argsL := [(.int (ixx (pmF pi 1)))]) (rest := []) (Ls := #[.val (.int p0), .val (.int p1), .val (.int p2), .val (.int p3), .val (.ref b101), .val (.int (i5F pi)), .val (.int (ixx (pmF pi 0))), .val (.int (ixx (pmF pi 1))), .val (.int (ixx (pmF pi 2))), .val (.int (tii (t0F tq0))), .val (.int (tii (t1F tq0 dq1))), .val (.int (tii (t2F tq0 dq1 dq2))), .val (.int (b2i cf0)), .val (.int (b2i cf1)), .val (.int (b2i cf2)), .val (.ref b120), .val (.ref b122), .val (.ref b141), .val (.int (ixx vq)), .val (.int (b2i rr)), .val (.ref b160), .unset, .unset, .unset, .unset, .unset, .unset]) (by rw [hml]; rfl) (lenOf pd__I_V rfl) (W := 0) (Nat.le_of_eq rfl) (hb hby at_377)
      obtain ⟨rfl, N165q, K165q, E165q, Ff165q, Fl165q, Fc165q, Fb165q, Fa165q, Gb165q, Ga165q⟩ := q165
      have N165 := Fr.app N164 N165q
      have K165 : Keep h0 T165.heap [] := K164.trans K165q (allS (Or.inr sz_b160) (allS (Or.inr sz_bb162) (allS (Or.inr sz_ba162) all0)))
      have f169 := (f166.keep K165q (ninS (Ne.symm (Nat.ne_of_lt (Nat.lt_of_lt_of_le A160.lt szq_lc162))) (ninS n1162 (ninS n2162 nin0))))
      have z170 : n0 ≤ T165.heap.size := (Nat.le_trans z167 K165q.1)
      obtain ⟨v168, T168, L168, X168, q168, st168⟩ := own_callV X165 hx hZ (y := (⟨"com/example/tenrec/tenrec/pool/IdleByLastCompletion", "add", "(I)V"⟩ : MethodName)) (z := (⟨"com/example/tenrec/tenrec/pool/IdleByLastCompletion", "add", "(I)V"⟩ : MethodName)) hown (hw _ (List.mem_of_getElem? (i := 35) rfl)) (hw _ (List.mem_of_getElem? (i := 36) rfl)) (notFace_of_selects (args := #[]) (mvT hZ (hw _ (List.mem_of_getElem? (i := 38) rfl)))) (hw _ (List.mem_of_getElem? (i := 38) rfl)) (hw _ (List.mem_of_getElem? (i := 37) rfl)) (hw _ (List.mem_of_getElem? (i := 12) rfl)) (hw _ (List.mem_of_getElem? (i := 39) rfl)) (by decide) E165q (hM := (rm6 l Z a0 hw [] b160 (pmF pi 2) lc162 bb162 ba162 Sb kq Sc T165.heap n0 z170 g_b160 g_bb162 g_ba162 ⟨(Nat.ne_of_lt (Nat.lt_of_lt_of_le A160.lt szq_lc162)), (Nat.ne_of_lt (Nat.lt_of_lt_of_le A160.lt szq_bb162)), (Nat.ne_of_lt (Nat.lt_of_lt_of_le A160.lt szq_ba162)), n1162, n2162, n3162⟩ ⟨E165q, Ff165q, Fl165q, Fc165q, Fb165q, Fa165q, Gb165q, Ga165q⟩ f169 hA3)) (by decide) (by decide) (by decide) (by decide) rfl (argsL := [(.int (ixx (pmF pi 2)))]) (rest := []) (Ls := #[.val (.int p0), .val (.int p1), .val (.int p2), .val (.int p3), .val (.ref b101), .val (.int (i5F pi)), .val (.int (ixx (pmF pi 0))), .val (.int (ixx (pmF pi 1))), .val (.int (ixx (pmF pi 2))), .val (.int (tii (t0F tq0))), .val (.int (tii (t1F tq0 dq1))), .val (.int (tii (t2F tq0 dq1 dq2))), .val (.int (b2i cf0)), .val (.int (b2i cf1)), .val (.int (b2i cf2)), .val (.ref b120), .val (.ref b122), .val (.ref b141), .val (.int (ixx vq)), .val (.int (b2i rr)), .val (.ref b160), .unset, .unset, .unset, .unset, .unset, .unset]) (by rw [hml]; rfl) (lenOf pd__I_V rfl) (W := 0) (Nat.le_of_eq rfl) (hb hby at_384)
      obtain ⟨rfl, N168q, K168q, E168q, Ff168q, Fl168q, Fc168q, Fb168q, Fa168q, Gb168q, Ga168q⟩ := q168
      have N168 := Fr.app N165 N168q
      have K168 : Keep h0 T168.heap [] := K165.trans K168q (allS (Or.inr sz_b160) (allS (Or.inr sz_bb162) (allS (Or.inr sz_ba162) all0)))
      have z172 : n0 ≤ T168.heap.size := (Nat.le_trans z170 K168q.1)
      obtain ⟨v171, T171, L171, X171, q171, st171⟩ := own_callV X168 hx hZ (y := (⟨"com/example/tenrec/tenrec/pool/IdleByLastCompletion", "remove", "(I)V"⟩ : MethodName)) (z := (⟨"com/example/tenrec/tenrec/pool/IdleByLastCompletion", "remove", "(I)V"⟩ : MethodName)) hown (hw _ (List.mem_of_getElem? (i := 48) rfl)) (hw _ (List.mem_of_getElem? (i := 49) rfl)) (notFace_of_selects (args := #[]) (mvT hZ (hw _ (List.mem_of_getElem? (i := 51) rfl)))) (hw _ (List.mem_of_getElem? (i := 51) rfl)) (hw _ (List.mem_of_getElem? (i := 50) rfl)) (hw _ (List.mem_of_getElem? (i := 12) rfl)) (hw _ (List.mem_of_getElem? (i := 52) rfl)) (by decide) E168q (hM := (rm9 l Z a0 hw [] b160 vq lc162 bb162 ba162 Sc T168.heap n0 z172 g_b160 g_bb162 g_ba162 ⟨(Nat.ne_of_lt (Nat.lt_of_lt_of_le A160.lt szq_lc162)), (Nat.ne_of_lt (Nat.lt_of_lt_of_le A160.lt szq_bb162)), (Nat.ne_of_lt (Nat.lt_of_lt_of_le A160.lt szq_ba162)), n1162, n2162, n3162⟩ ⟨E168q, Ff168q, Fl168q, Fc168q, Fb168q, Fa168q, Gb168q, Ga168q⟩)) (by decide) (by decide) (by decide) (by decide) rfl (argsL := [(.int (ixx vq))]) (rest := []) (Ls := #[.val (.int p0), .val (.int p1), .val (.int p2), .val (.int p3), .val (.ref b101), .val (.int (i5F pi)), .val (.int (ixx (pmF pi 0))), .val (.int (ixx (pmF pi 1))), .val (.int (ixx (pmF pi 2))), .val (.int (tii (t0F tq0))), .val (.int (tii (t1F tq0 dq1))), .val (.int (tii (t2F tq0 dq1 dq2))), .val (.int (b2i cf0)), .val (.int (b2i cf1)), .val (.int (b2i cf2)), .val (.ref b120), .val (.ref b122), .val (.ref b141), .val (.int (ixx vq)), .val (.int (b2i rr)), .val (.ref b160), .unset, .unset, .unset, .unset, .unset, .unset]) (by rw [hml]; rfl) (lenOf pd__I_V rfl) (W := 0) (Nat.le_of_eq rfl) (hb hby at_391)
      obtain ⟨rfl, N171q, K171q, E171q, Ff171q, Fl171q, Fc171q, Fb171q, Fa171q, Gb171q, Ga171q⟩ := q171
      have N171 := Fr.app N168 N171q
      have K171 : Keep h0 T171.heap [] := K168.trans K171q (allS (Or.inr sz_b160) (allS (Or.inr sz_bb162) (allS (Or.inr sz_ba162) all0)))
      have f174 := ((((Go6.keep K164q (ninS (Ne.symm (Ne.symm (Nat.ne_of_lt (Nat.lt_of_lt_of_le (Nat.lt_of_lt_of_le (Nat.lt_of_lt_of_le (Nat.lt_of_lt_of_le V_b141.lt (Keep.of_wr W148).1) (Keep.of_wr W153).1) (Keep.of_wr W158).1) (Nat.le_of_eq g160.symm))))) (ninS (Ne.symm (Ne.symm (Nat.ne_of_lt (Nat.lt_of_lt_of_le (Nat.lt_of_lt_of_le (Nat.lt_of_lt_of_le (Nat.lt_of_lt_of_le (Nat.lt_of_lt_of_le V_b141.lt (Keep.of_wr W148).1) (Keep.of_wr W153).1) (Keep.of_wr W158).1) E160.1) szq_bb162)))) (ninS (Ne.symm (Ne.symm (Nat.ne_of_lt (Nat.lt_of_lt_of_le (Nat.lt_of_lt_of_le (Nat.lt_of_lt_of_le (Nat.lt_of_lt_of_le (Nat.lt_of_lt_of_le V_b141.lt (Keep.of_wr W148).1) (Keep.of_wr W153).1) (Keep.of_wr W158).1) E160.1) szq_ba162)))) nin0)))).keep K165q (ninS (Ne.symm (Ne.symm (Nat.ne_of_lt (Nat.lt_of_lt_of_le (Nat.lt_of_lt_of_le (Nat.lt_of_lt_of_le (Nat.lt_of_lt_of_le V_b141.lt (Keep.of_wr W148).1) (Keep.of_wr W153).1) (Keep.of_wr W158).1) (Nat.le_of_eq g160.symm))))) (ninS (Ne.symm (Ne.symm (Nat.ne_of_lt (Nat.lt_of_lt_of_le (Nat.lt_of_lt_of_le (Nat.lt_of_lt_of_le (Nat.lt_of_lt_of_le (Nat.lt_of_lt_of_le V_b141.lt (Keep.of_wr W148).1) (Keep.of_wr W153).1) (Keep.of_wr W158).1) E160.1) szq_bb162)))) (ninS (Ne.symm (Ne.symm (Nat.ne_of_lt (Nat.lt_of_lt_of_le (Nat.lt_of_lt_of_le (Nat.lt_of_lt_of_le (Nat.lt_of_lt_of_le (Nat.lt_of_lt_of_le V_b141.lt (Keep.of_wr W148).1) (Keep.of_wr W153).1) (Keep.of_wr W158).1) E160.1) szq_ba162)))) nin0)))).keep K168q (ninS (Ne.symm (Ne.symm (Nat.ne_of_lt (Nat.lt_of_lt_of_le (Nat.lt_of_lt_of_le (Nat.lt_of_lt_of_le (Nat.lt_of_lt_of_le V_b141.lt (Keep.of_wr W148).1) (Keep.of_wr W153).1) (Keep.of_wr W158).1) (Nat.le_of_eq g160.symm))))) (ninS (Ne.symm (Ne.symm (Nat.ne_of_lt (Nat.lt_of_lt_of_le (Nat.lt_of_lt_of_le (Nat.lt_of_lt_of_le (Nat.lt_of_lt_of_le (Nat.lt_of_lt_of_le V_b141.lt (Keep.of_wr W148).1) (Keep.of_wr W153).1) (Keep.of_wr W158).1) E160.1) szq_bb162)))) (ninS (Ne.symm (Ne.symm (Nat.ne_of_lt (Nat.lt_of_lt_of_le (Nat.lt_of_lt_of_le (Nat.lt_of_lt_of_le (Nat.lt_of_lt_of_le (Nat.lt_of_lt_of_le V_b141.lt (Keep.of_wr W148).1) (Keep.of_wr W153).1) (Keep.of_wr W158).1) E160.1) szq_ba162)))) nin0)))).keep K171q (ninS (Ne.symm (Ne.symm (Nat.ne_of_lt (Nat.lt_of_lt_of_le (Nat.lt_of_lt_of_le (Nat.lt_of_lt_of_le (Nat.lt_of_lt_of_le V_b141.lt (Keep.of_wr W148).1) (Keep.of_wr W153).1) (Keep.of_wr W158).1) (Nat.le_of_eq g160.symm))))) (ninS (Ne.symm (Ne.symm (Nat.ne_of_lt (Nat.lt_of_lt_of_le (Nat.lt_of_lt_of_le (Nat.lt_of_lt_of_le (Nat.lt_of_lt_of_le (Nat.lt_of_lt_of_le V_b141.lt (Keep.of_wr W148).1) (Keep.of_wr W153).1) (Keep.of_wr W158).1) E160.1) szq_bb162)))) (ninS (Ne.symm (Ne.symm (Nat.ne_of_lt (Nat.lt_of_lt_of_le (Nat.lt_of_lt_of_le (Nat.lt_of_lt_of_le (Nat.lt_of_lt_of_le (Nat.lt_of_lt_of_le V_b141.lt (Keep.of_wr W148).1) (Keep.of_wr W153).1) (Keep.of_wr W158).1) E160.1) szq_ba162)))) nin0))))
      obtain ⟨cl173, Ar173, Sa173, Ha173⟩ := id f174
      have hin173 : ¬ ((0 : Int32) < 0 ∨ cl173.slots.size ≤ ((0 : Int32)).toNatClampNeg) := own_ing Sa173 (0 : Fin 3)
      have hat173 : cl173.slots[((0 : Int32)).toNatClampNeg]? = some (.int (ixx (oq (0 : Fin 3)))) := own_atg Ha173 (0 : Fin 3)
      refine Gl.pre (S' := T171.setTop (mkF m 400 #[.val (.int p0), .val (.int p1), .val (.int p2), .val (.int p3), .val (.ref b101), .val (.int (i5F pi)), .val (.int (ixx (pmF pi 0))), .val (.int (ixx (pmF pi 1))), .val (.int (ixx (pmF pi 2))), .val (.int (tii (t0F tq0))), .val (.int (tii (t1F tq0 dq1))), .val (.int (tii (t2F tq0 dq1 dq2))), .val (.int (b2i cf0)), .val (.int (b2i cf1)), .val (.int (b2i cf2)), .val (.ref b120), .val (.ref b122), .val (.ref b141), .val (.int (ixx vq)), .val (.int (b2i rr)), .val (.ref b160), .unset, .unset, .unset, .unset, .unset, .unset] [(.int (ixx vq)), (.int (ixx (oq (0 : Fin 3))))])) (fun t kt => ?_) ?_
      · show Steps p.tables e below (T6.setTop (mkF m 366 #[.val (.int p0), .val (.int p1), .val (.int p2), .val (.int p3), .val (.ref b101), .val (.int (i5F pi)), .val (.int (ixx (pmF pi 0))), .val (.int (ixx (pmF pi 1))), .val (.int (ixx (pmF pi 2))), .val (.int (tii (t0F tq0))), .val (.int (tii (t1F tq0 dq1))), .val (.int (tii (t2F tq0 dq1 dq2))), .val (.int (b2i cf0)), .val (.int (b2i cf1)), .val (.int (b2i cf2)), .val (.ref b120), .val (.ref b122), .val (.ref b141), .val (.int (ixx vq)), .val (.int (b2i rr)), .val (.ref b160), .unset, .unset, .unset, .unset, .unset, .unset] [])) _
        refine XS.aload X6.here hx rfl (hb hby at_366) rfl rfl ?_
        show Steps p.tables e below (T6.setTop (mkF m 368 #[.val (.int p0), .val (.int p1), .val (.int p2), .val (.int p3), .val (.ref b101), .val (.int (i5F pi)), .val (.int (ixx (pmF pi 0))), .val (.int (ixx (pmF pi 1))), .val (.int (ixx (pmF pi 2))), .val (.int (tii (t0F tq0))), .val (.int (tii (t1F tq0 dq1))), .val (.int (tii (t2F tq0 dq1 dq2))), .val (.int (b2i cf0)), .val (.int (b2i cf1)), .val (.int (b2i cf2)), .val (.ref b120), .val (.ref b122), .val (.ref b141), .val (.int (ixx vq)), .val (.int (b2i rr)), .val (.ref b160), .unset, .unset, .unset, .unset, .unset, .unset] [(.ref b160)])) _
        refine XS.iload X6.here hx rfl (hb hby at_368) rfl ?_
        show Steps p.tables e below (T6.setTop (mkF m 370 #[.val (.int p0), .val (.int p1), .val (.int p2), .val (.int p3), .val (.ref b101), .val (.int (i5F pi)), .val (.int (ixx (pmF pi 0))), .val (.int (ixx (pmF pi 1))), .val (.int (ixx (pmF pi 2))), .val (.int (tii (t0F tq0))), .val (.int (tii (t1F tq0 dq1))), .val (.int (tii (t2F tq0 dq1 dq2))), .val (.int (b2i cf0)), .val (.int (b2i cf1)), .val (.int (b2i cf2)), .val (.ref b120), .val (.ref b122), .val (.ref b141), .val (.int (ixx vq)), .val (.int (b2i rr)), .val (.ref b160), .unset, .unset, .unset, .unset, .unset, .unset] [(.int (ixx (pmF pi 0))), (.ref b160)])) _
        refine st164 _ ?_
        show Steps p.tables e below (T164.setTop (mkF m 373 #[.val (.int p0), .val (.int p1), .val (.int p2), .val (.int p3), .val (.ref b101), .val (.int (i5F pi)), .val (.int (ixx (pmF pi 0))), .val (.int (ixx (pmF pi 1))), .val (.int (ixx (pmF pi 2))), .val (.int (tii (t0F tq0))), .val (.int (tii (t1F tq0 dq1))), .val (.int (tii (t2F tq0 dq1 dq2))), .val (.int (b2i cf0)), .val (.int (b2i cf1)), .val (.int (b2i cf2)), .val (.ref b120), .val (.ref b122), .val (.ref b141), .val (.int (ixx vq)), .val (.int (b2i rr)), .val (.ref b160), .unset, .unset, .unset, .unset, .unset, .unset] [])) _
        refine XS.aload X164.here hx rfl (hb hby at_373) rfl rfl ?_
        show Steps p.tables e below (T164.setTop (mkF m 375 #[.val (.int p0), .val (.int p1), .val (.int p2), .val (.int p3), .val (.ref b101), .val (.int (i5F pi)), .val (.int (ixx (pmF pi 0))), .val (.int (ixx (pmF pi 1))), .val (.int (ixx (pmF pi 2))), .val (.int (tii (t0F tq0))), .val (.int (tii (t1F tq0 dq1))), .val (.int (tii (t2F tq0 dq1 dq2))), .val (.int (b2i cf0)), .val (.int (b2i cf1)), .val (.int (b2i cf2)), .val (.ref b120), .val (.ref b122), .val (.ref b141), .val (.int (ixx vq)), .val (.int (b2i rr)), .val (.ref b160), .unset, .unset, .unset, .unset, .unset, .unset] [(.ref b160)])) _
        refine XS.iload X164.here hx rfl (hb hby at_375) rfl ?_
        show Steps p.tables e below (T164.setTop (mkF m 377 #[.val (.int p0), .val (.int p1), .val (.int p2), .val (.int p3), .val (.ref b101), .val (.int (i5F pi)), .val (.int (ixx (pmF pi 0))), .val (.int (ixx (pmF pi 1))), .val (.int (ixx (pmF pi 2))), .val (.int (tii (t0F tq0))), .val (.int (tii (t1F tq0 dq1))), .val (.int (tii (t2F tq0 dq1 dq2))), .val (.int (b2i cf0)), .val (.int (b2i cf1)), .val (.int (b2i cf2)), .val (.ref b120), .val (.ref b122), .val (.ref b141), .val (.int (ixx vq)), .val (.int (b2i rr)), .val (.ref b160), .unset, .unset, .unset, .unset, .unset, .unset] [(.int (ixx (pmF pi 1))), (.ref b160)])) _
        refine st165 _ ?_
        show Steps p.tables e below (T165.setTop (mkF m 380 #[.val (.int p0), .val (.int p1), .val (.int p2), .val (.int p3), .val (.ref b101), .val (.int (i5F pi)), .val (.int (ixx (pmF pi 0))), .val (.int (ixx (pmF pi 1))), .val (.int (ixx (pmF pi 2))), .val (.int (tii (t0F tq0))), .val (.int (tii (t1F tq0 dq1))), .val (.int (tii (t2F tq0 dq1 dq2))), .val (.int (b2i cf0)), .val (.int (b2i cf1)), .val (.int (b2i cf2)), .val (.ref b120), .val (.ref b122), .val (.ref b141), .val (.int (ixx vq)), .val (.int (b2i rr)), .val (.ref b160), .unset, .unset, .unset, .unset, .unset, .unset] [])) _
        refine XS.aload X165.here hx rfl (hb hby at_380) rfl rfl ?_
        show Steps p.tables e below (T165.setTop (mkF m 382 #[.val (.int p0), .val (.int p1), .val (.int p2), .val (.int p3), .val (.ref b101), .val (.int (i5F pi)), .val (.int (ixx (pmF pi 0))), .val (.int (ixx (pmF pi 1))), .val (.int (ixx (pmF pi 2))), .val (.int (tii (t0F tq0))), .val (.int (tii (t1F tq0 dq1))), .val (.int (tii (t2F tq0 dq1 dq2))), .val (.int (b2i cf0)), .val (.int (b2i cf1)), .val (.int (b2i cf2)), .val (.ref b120), .val (.ref b122), .val (.ref b141), .val (.int (ixx vq)), .val (.int (b2i rr)), .val (.ref b160), .unset, .unset, .unset, .unset, .unset, .unset] [(.ref b160)])) _
        refine XS.iload X165.here hx rfl (hb hby at_382) rfl ?_
        show Steps p.tables e below (T165.setTop (mkF m 384 #[.val (.int p0), .val (.int p1), .val (.int p2), .val (.int p3), .val (.ref b101), .val (.int (i5F pi)), .val (.int (ixx (pmF pi 0))), .val (.int (ixx (pmF pi 1))), .val (.int (ixx (pmF pi 2))), .val (.int (tii (t0F tq0))), .val (.int (tii (t1F tq0 dq1))), .val (.int (tii (t2F tq0 dq1 dq2))), .val (.int (b2i cf0)), .val (.int (b2i cf1)), .val (.int (b2i cf2)), .val (.ref b120), .val (.ref b122), .val (.ref b141), .val (.int (ixx vq)), .val (.int (b2i rr)), .val (.ref b160), .unset, .unset, .unset, .unset, .unset, .unset] [(.int (ixx (pmF pi 2))), (.ref b160)])) _
        refine st168 _ ?_
        show Steps p.tables e below (T168.setTop (mkF m 387 #[.val (.int p0), .val (.int p1), .val (.int p2), .val (.int p3), .val (.ref b101), .val (.int (i5F pi)), .val (.int (ixx (pmF pi 0))), .val (.int (ixx (pmF pi 1))), .val (.int (ixx (pmF pi 2))), .val (.int (tii (t0F tq0))), .val (.int (tii (t1F tq0 dq1))), .val (.int (tii (t2F tq0 dq1 dq2))), .val (.int (b2i cf0)), .val (.int (b2i cf1)), .val (.int (b2i cf2)), .val (.ref b120), .val (.ref b122), .val (.ref b141), .val (.int (ixx vq)), .val (.int (b2i rr)), .val (.ref b160), .unset, .unset, .unset, .unset, .unset, .unset] [])) _
        refine XS.aload X168.here hx rfl (hb hby at_387) rfl rfl ?_
        show Steps p.tables e below (T168.setTop (mkF m 389 #[.val (.int p0), .val (.int p1), .val (.int p2), .val (.int p3), .val (.ref b101), .val (.int (i5F pi)), .val (.int (ixx (pmF pi 0))), .val (.int (ixx (pmF pi 1))), .val (.int (ixx (pmF pi 2))), .val (.int (tii (t0F tq0))), .val (.int (tii (t1F tq0 dq1))), .val (.int (tii (t2F tq0 dq1 dq2))), .val (.int (b2i cf0)), .val (.int (b2i cf1)), .val (.int (b2i cf2)), .val (.ref b120), .val (.ref b122), .val (.ref b141), .val (.int (ixx vq)), .val (.int (b2i rr)), .val (.ref b160), .unset, .unset, .unset, .unset, .unset, .unset] [(.ref b160)])) _
        refine XS.iload X168.here hx rfl (hb hby at_389) rfl ?_
        show Steps p.tables e below (T168.setTop (mkF m 391 #[.val (.int p0), .val (.int p1), .val (.int p2), .val (.int p3), .val (.ref b101), .val (.int (i5F pi)), .val (.int (ixx (pmF pi 0))), .val (.int (ixx (pmF pi 1))), .val (.int (ixx (pmF pi 2))), .val (.int (tii (t0F tq0))), .val (.int (tii (t1F tq0 dq1))), .val (.int (tii (t2F tq0 dq1 dq2))), .val (.int (b2i cf0)), .val (.int (b2i cf1)), .val (.int (b2i cf2)), .val (.ref b120), .val (.ref b122), .val (.ref b141), .val (.int (ixx vq)), .val (.int (b2i rr)), .val (.ref b160), .unset, .unset, .unset, .unset, .unset, .unset] [(.int (ixx vq)), (.ref b160)])) _
        refine st171 _ ?_
        show Steps p.tables e below (T171.setTop (mkF m 394 #[.val (.int p0), .val (.int p1), .val (.int p2), .val (.int p3), .val (.ref b101), .val (.int (i5F pi)), .val (.int (ixx (pmF pi 0))), .val (.int (ixx (pmF pi 1))), .val (.int (ixx (pmF pi 2))), .val (.int (tii (t0F tq0))), .val (.int (tii (t1F tq0 dq1))), .val (.int (tii (t2F tq0 dq1 dq2))), .val (.int (b2i cf0)), .val (.int (b2i cf1)), .val (.int (b2i cf2)), .val (.ref b120), .val (.ref b122), .val (.ref b141), .val (.int (ixx vq)), .val (.int (b2i rr)), .val (.ref b160), .unset, .unset, .unset, .unset, .unset, .unset] [])) _
        refine XS.aload X171.here hx rfl (hb hby at_394) rfl rfl ?_
        show Steps p.tables e below (T171.setTop (mkF m 396 #[.val (.int p0), .val (.int p1), .val (.int p2), .val (.int p3), .val (.ref b101), .val (.int (i5F pi)), .val (.int (ixx (pmF pi 0))), .val (.int (ixx (pmF pi 1))), .val (.int (ixx (pmF pi 2))), .val (.int (tii (t0F tq0))), .val (.int (tii (t1F tq0 dq1))), .val (.int (tii (t2F tq0 dq1 dq2))), .val (.int (b2i cf0)), .val (.int (b2i cf1)), .val (.int (b2i cf2)), .val (.ref b120), .val (.ref b122), .val (.ref b141), .val (.int (ixx vq)), .val (.int (b2i rr)), .val (.ref b160), .unset, .unset, .unset, .unset, .unset, .unset] [(.ref b141)])) _
        refine XS.iconst X171.here hx rfl (hb hby at_396) ?_
        show Steps p.tables e below (T171.setTop (mkF m 397 #[.val (.int p0), .val (.int p1), .val (.int p2), .val (.int p3), .val (.ref b101), .val (.int (i5F pi)), .val (.int (ixx (pmF pi 0))), .val (.int (ixx (pmF pi 1))), .val (.int (ixx (pmF pi 2))), .val (.int (tii (t0F tq0))), .val (.int (tii (t1F tq0 dq1))), .val (.int (tii (t2F tq0 dq1 dq2))), .val (.int (b2i cf0)), .val (.int (b2i cf1)), .val (.int (b2i cf2)), .val (.ref b120), .val (.ref b122), .val (.ref b141), .val (.int (ixx vq)), .val (.int (b2i rr)), .val (.ref b160), .unset, .unset, .unset, .unset, .unset, .unset] [(.int (0 : Int32)), (.ref b141)])) _
        refine X171.iaload hx (j := (0 : Int32)) (v := (.int (ixx (oq (0 : Fin 3))))) (own_hc rfl Ar173.1) (State.isArrayOf_alike hZ.alike Ar173.2.1) Ar173.2.2 hin173 hat173 (g := (mkF m 397 #[.val (.int p0), .val (.int p1), .val (.int p2), .val (.int p3), .val (.ref b101), .val (.int (i5F pi)), .val (.int (ixx (pmF pi 0))), .val (.int (ixx (pmF pi 1))), .val (.int (ixx (pmF pi 2))), .val (.int (tii (t0F tq0))), .val (.int (tii (t1F tq0 dq1))), .val (.int (tii (t2F tq0 dq1 dq2))), .val (.int (b2i cf0)), .val (.int (b2i cf1)), .val (.int (b2i cf2)), .val (.ref b120), .val (.ref b122), .val (.ref b141), .val (.int (ixx vq)), .val (.int (b2i rr)), .val (.ref b160), .unset, .unset, .unset, .unset, .unset, .unset] [(.int (0 : Int32)), (.ref b141)])) rfl rfl (hb hby at_397) _ ?_
        show Steps p.tables e below (T171.setTop (mkF m 398 #[.val (.int p0), .val (.int p1), .val (.int p2), .val (.int p3), .val (.ref b101), .val (.int (i5F pi)), .val (.int (ixx (pmF pi 0))), .val (.int (ixx (pmF pi 1))), .val (.int (ixx (pmF pi 2))), .val (.int (tii (t0F tq0))), .val (.int (tii (t1F tq0 dq1))), .val (.int (tii (t2F tq0 dq1 dq2))), .val (.int (b2i cf0)), .val (.int (b2i cf1)), .val (.int (b2i cf2)), .val (.ref b120), .val (.ref b122), .val (.ref b141), .val (.int (ixx vq)), .val (.int (b2i rr)), .val (.ref b160), .unset, .unset, .unset, .unset, .unset, .unset] [(.int (ixx (oq (0 : Fin 3))))])) _
        refine XS.iload X171.here hx rfl (hb hby at_398) rfl ?_
        exact kt
      refine Gl.pre (S' := T171.setTop (mkF m 414 #[.val (.int p0), .val (.int p1), .val (.int p2), .val (.int p3), .val (.ref b101), .val (.int (i5F pi)), .val (.int (ixx (pmF pi 0))), .val (.int (ixx (pmF pi 1))), .val (.int (ixx (pmF pi 2))), .val (.int (tii (t0F tq0))), .val (.int (tii (t1F tq0 dq1))), .val (.int (tii (t2F tq0 dq1 dq2))), .val (.int (b2i cf0)), .val (.int (b2i cf1)), .val (.int (b2i cf2)), .val (.ref b120), .val (.ref b122), .val (.ref b141), .val (.int (ixx vq)), .val (.int (b2i rr)), .val (.ref b160), .unset, .unset, .unset, .unset, .unset, .unset] [(.int (ixx (e0F oq vq)))])) (fun t kt => ?_) ?_
      · by_cases hc400 : (ixx (oq (0 : Fin 3))) = (ixx vq)
        · obtain ⟨cl175, Ar175, Sa175, Ha175⟩ := id f174
          have hin175 : ¬ ((1 : Int32) < 0 ∨ cl175.slots.size ≤ ((1 : Int32)).toNatClampNeg) := own_ing Sa175 (1 : Fin 3)
          have hat175 : cl175.slots[((1 : Int32)).toNatClampNeg]? = some (.int (ixx (oq (1 : Fin 3)))) := own_atg Ha175 (1 : Fin 3)
          show Steps p.tables e below (T171.setTop (mkF m 400 #[.val (.int p0), .val (.int p1), .val (.int p2), .val (.int p3), .val (.ref b101), .val (.int (i5F pi)), .val (.int (ixx (pmF pi 0))), .val (.int (ixx (pmF pi 1))), .val (.int (ixx (pmF pi 2))), .val (.int (tii (t0F tq0))), .val (.int (tii (t1F tq0 dq1))), .val (.int (tii (t2F tq0 dq1 dq2))), .val (.int (b2i cf0)), .val (.int (b2i cf1)), .val (.int (b2i cf2)), .val (.ref b120), .val (.ref b122), .val (.ref b141), .val (.int (ixx vq)), .val (.int (b2i rr)), .val (.ref b160), .unset, .unset, .unset, .unset, .unset, .unset] [(.int (ixx vq)), (.int (ixx (oq (0 : Fin 3))))])) _
          refine XS.icmpNo X171.here hx rfl (hb hby at_400) rfl (own_nf (ic_ne _ _) hc400) ?_
          show Steps p.tables e below (T171.setTop (mkF m 403 #[.val (.int p0), .val (.int p1), .val (.int p2), .val (.int p3), .val (.ref b101), .val (.int (i5F pi)), .val (.int (ixx (pmF pi 0))), .val (.int (ixx (pmF pi 1))), .val (.int (ixx (pmF pi 2))), .val (.int (tii (t0F tq0))), .val (.int (tii (t1F tq0 dq1))), .val (.int (tii (t2F tq0 dq1 dq2))), .val (.int (b2i cf0)), .val (.int (b2i cf1)), .val (.int (b2i cf2)), .val (.ref b120), .val (.ref b122), .val (.ref b141), .val (.int (ixx vq)), .val (.int (b2i rr)), .val (.ref b160), .unset, .unset, .unset, .unset, .unset, .unset] [])) _
          refine XS.aload X171.here hx rfl (hb hby at_403) rfl rfl ?_
          show Steps p.tables e below (T171.setTop (mkF m 405 #[.val (.int p0), .val (.int p1), .val (.int p2), .val (.int p3), .val (.ref b101), .val (.int (i5F pi)), .val (.int (ixx (pmF pi 0))), .val (.int (ixx (pmF pi 1))), .val (.int (ixx (pmF pi 2))), .val (.int (tii (t0F tq0))), .val (.int (tii (t1F tq0 dq1))), .val (.int (tii (t2F tq0 dq1 dq2))), .val (.int (b2i cf0)), .val (.int (b2i cf1)), .val (.int (b2i cf2)), .val (.ref b120), .val (.ref b122), .val (.ref b141), .val (.int (ixx vq)), .val (.int (b2i rr)), .val (.ref b160), .unset, .unset, .unset, .unset, .unset, .unset] [(.ref b141)])) _
          refine XS.iconst X171.here hx rfl (hb hby at_405) ?_
          show Steps p.tables e below (T171.setTop (mkF m 406 #[.val (.int p0), .val (.int p1), .val (.int p2), .val (.int p3), .val (.ref b101), .val (.int (i5F pi)), .val (.int (ixx (pmF pi 0))), .val (.int (ixx (pmF pi 1))), .val (.int (ixx (pmF pi 2))), .val (.int (tii (t0F tq0))), .val (.int (tii (t1F tq0 dq1))), .val (.int (tii (t2F tq0 dq1 dq2))), .val (.int (b2i cf0)), .val (.int (b2i cf1)), .val (.int (b2i cf2)), .val (.ref b120), .val (.ref b122), .val (.ref b141), .val (.int (ixx vq)), .val (.int (b2i rr)), .val (.ref b160), .unset, .unset, .unset, .unset, .unset, .unset] [(.int (1 : Int32)), (.ref b141)])) _
          refine X171.iaload hx (j := (1 : Int32)) (v := (.int (ixx (oq (1 : Fin 3))))) (own_hc rfl Ar175.1) (State.isArrayOf_alike hZ.alike Ar175.2.1) Ar175.2.2 hin175 hat175 (g := (mkF m 406 #[.val (.int p0), .val (.int p1), .val (.int p2), .val (.int p3), .val (.ref b101), .val (.int (i5F pi)), .val (.int (ixx (pmF pi 0))), .val (.int (ixx (pmF pi 1))), .val (.int (ixx (pmF pi 2))), .val (.int (tii (t0F tq0))), .val (.int (tii (t1F tq0 dq1))), .val (.int (tii (t2F tq0 dq1 dq2))), .val (.int (b2i cf0)), .val (.int (b2i cf1)), .val (.int (b2i cf2)), .val (.ref b120), .val (.ref b122), .val (.ref b141), .val (.int (ixx vq)), .val (.int (b2i rr)), .val (.ref b160), .unset, .unset, .unset, .unset, .unset, .unset] [(.int (1 : Int32)), (.ref b141)])) rfl rfl (hb hby at_406) _ ?_
          show Steps p.tables e below (T171.setTop (mkF m 407 #[.val (.int p0), .val (.int p1), .val (.int p2), .val (.int p3), .val (.ref b101), .val (.int (i5F pi)), .val (.int (ixx (pmF pi 0))), .val (.int (ixx (pmF pi 1))), .val (.int (ixx (pmF pi 2))), .val (.int (tii (t0F tq0))), .val (.int (tii (t1F tq0 dq1))), .val (.int (tii (t2F tq0 dq1 dq2))), .val (.int (b2i cf0)), .val (.int (b2i cf1)), .val (.int (b2i cf2)), .val (.ref b120), .val (.ref b122), .val (.ref b141), .val (.int (ixx vq)), .val (.int (b2i rr)), .val (.ref b160), .unset, .unset, .unset, .unset, .unset, .unset] [(.int (ixx (oq (1 : Fin 3))))])) _
          refine XS.goto X171.here hx rfl (pc0 := 407) (pc' := 414) rfl (hb hby at_407) (by decide) (by decide) ?_
          rw [(by have q := hc400; first | (unfold e0F; rw [if_pos q]) | (unfold e0F; rw [if_neg q]) : (ixx (e0F oq vq)) = (ixx (oq (1 : Fin 3))))] at kt
          exact kt
        · obtain ⟨cl176, Ar176, Sa176, Ha176⟩ := id f174
          have hin176 : ¬ ((0 : Int32) < 0 ∨ cl176.slots.size ≤ ((0 : Int32)).toNatClampNeg) := own_ing Sa176 (0 : Fin 3)
          have hat176 : cl176.slots[((0 : Int32)).toNatClampNeg]? = some (.int (ixx (oq (0 : Fin 3)))) := own_atg Ha176 (0 : Fin 3)
          show Steps p.tables e below (T171.setTop (mkF m 400 #[.val (.int p0), .val (.int p1), .val (.int p2), .val (.int p3), .val (.ref b101), .val (.int (i5F pi)), .val (.int (ixx (pmF pi 0))), .val (.int (ixx (pmF pi 1))), .val (.int (ixx (pmF pi 2))), .val (.int (tii (t0F tq0))), .val (.int (tii (t1F tq0 dq1))), .val (.int (tii (t2F tq0 dq1 dq2))), .val (.int (b2i cf0)), .val (.int (b2i cf1)), .val (.int (b2i cf2)), .val (.ref b120), .val (.ref b122), .val (.ref b141), .val (.int (ixx vq)), .val (.int (b2i rr)), .val (.ref b160), .unset, .unset, .unset, .unset, .unset, .unset] [(.int (ixx vq)), (.int (ixx (oq (0 : Fin 3))))])) _
          refine XS.icmpYes X171.here hx rfl (pc0 := 400) (pc' := 410) rfl (hb hby at_400) rfl (own_nt (ic_ne _ _) hc400) (by decide) (by decide) ?_
          show Steps p.tables e below (T171.setTop (mkF m 410 #[.val (.int p0), .val (.int p1), .val (.int p2), .val (.int p3), .val (.ref b101), .val (.int (i5F pi)), .val (.int (ixx (pmF pi 0))), .val (.int (ixx (pmF pi 1))), .val (.int (ixx (pmF pi 2))), .val (.int (tii (t0F tq0))), .val (.int (tii (t1F tq0 dq1))), .val (.int (tii (t2F tq0 dq1 dq2))), .val (.int (b2i cf0)), .val (.int (b2i cf1)), .val (.int (b2i cf2)), .val (.ref b120), .val (.ref b122), .val (.ref b141), .val (.int (ixx vq)), .val (.int (b2i rr)), .val (.ref b160), .unset, .unset, .unset, .unset, .unset, .unset] [])) _
          refine XS.aload X171.here hx rfl (hb hby at_410) rfl rfl ?_
          show Steps p.tables e below (T171.setTop (mkF m 412 #[.val (.int p0), .val (.int p1), .val (.int p2), .val (.int p3), .val (.ref b101), .val (.int (i5F pi)), .val (.int (ixx (pmF pi 0))), .val (.int (ixx (pmF pi 1))), .val (.int (ixx (pmF pi 2))), .val (.int (tii (t0F tq0))), .val (.int (tii (t1F tq0 dq1))), .val (.int (tii (t2F tq0 dq1 dq2))), .val (.int (b2i cf0)), .val (.int (b2i cf1)), .val (.int (b2i cf2)), .val (.ref b120), .val (.ref b122), .val (.ref b141), .val (.int (ixx vq)), .val (.int (b2i rr)), .val (.ref b160), .unset, .unset, .unset, .unset, .unset, .unset] [(.ref b141)])) _
          refine XS.iconst X171.here hx rfl (hb hby at_412) ?_
          show Steps p.tables e below (T171.setTop (mkF m 413 #[.val (.int p0), .val (.int p1), .val (.int p2), .val (.int p3), .val (.ref b101), .val (.int (i5F pi)), .val (.int (ixx (pmF pi 0))), .val (.int (ixx (pmF pi 1))), .val (.int (ixx (pmF pi 2))), .val (.int (tii (t0F tq0))), .val (.int (tii (t1F tq0 dq1))), .val (.int (tii (t2F tq0 dq1 dq2))), .val (.int (b2i cf0)), .val (.int (b2i cf1)), .val (.int (b2i cf2)), .val (.ref b120), .val (.ref b122), .val (.ref b141), .val (.int (ixx vq)), .val (.int (b2i rr)), .val (.ref b160), .unset, .unset, .unset, .unset, .unset, .unset] [(.int (0 : Int32)), (.ref b141)])) _
          refine X171.iaload hx (j := (0 : Int32)) (v := (.int (ixx (oq (0 : Fin 3))))) (own_hc rfl Ar176.1) (State.isArrayOf_alike hZ.alike Ar176.2.1) Ar176.2.2 hin176 hat176 (g := (mkF m 413 #[.val (.int p0), .val (.int p1), .val (.int p2), .val (.int p3), .val (.ref b101), .val (.int (i5F pi)), .val (.int (ixx (pmF pi 0))), .val (.int (ixx (pmF pi 1))), .val (.int (ixx (pmF pi 2))), .val (.int (tii (t0F tq0))), .val (.int (tii (t1F tq0 dq1))), .val (.int (tii (t2F tq0 dq1 dq2))), .val (.int (b2i cf0)), .val (.int (b2i cf1)), .val (.int (b2i cf2)), .val (.ref b120), .val (.ref b122), .val (.ref b141), .val (.int (ixx vq)), .val (.int (b2i rr)), .val (.ref b160), .unset, .unset, .unset, .unset, .unset, .unset] [(.int (0 : Int32)), (.ref b141)])) rfl rfl (hb hby at_413) _ ?_
          rw [(by have q := hc400; first | (unfold e0F; rw [if_pos q]) | (unfold e0F; rw [if_neg q]) : (ixx (e0F oq vq)) = (ixx (oq (0 : Fin 3))))] at kt
          exact kt
      obtain ⟨cl177, Ar177, Sa177, Ha177⟩ := id f174
      have hin177 : ¬ ((2 : Int32) < 0 ∨ cl177.slots.size ≤ ((2 : Int32)).toNatClampNeg) := own_ing Sa177 (2 : Fin 3)
      have hat177 : cl177.slots[((2 : Int32)).toNatClampNeg]? = some (.int (ixx (oq (2 : Fin 3)))) := own_atg Ha177 (2 : Fin 3)
      refine Gl.pre (S' := T171.setTop (mkF m 422 #[.val (.int p0), .val (.int p1), .val (.int p2), .val (.int p3), .val (.ref b101), .val (.int (i5F pi)), .val (.int (ixx (pmF pi 0))), .val (.int (ixx (pmF pi 1))), .val (.int (ixx (pmF pi 2))), .val (.int (tii (t0F tq0))), .val (.int (tii (t1F tq0 dq1))), .val (.int (tii (t2F tq0 dq1 dq2))), .val (.int (b2i cf0)), .val (.int (b2i cf1)), .val (.int (b2i cf2)), .val (.ref b120), .val (.ref b122), .val (.ref b141), .val (.int (ixx vq)), .val (.int (b2i rr)), .val (.ref b160), .val (.int (ixx (e0F oq vq))), .unset, .unset, .unset, .unset, .unset] [(.int (ixx vq)), (.int (ixx (oq (2 : Fin 3))))])) (fun t kt => ?_) ?_
      · show Steps p.tables e below (T171.setTop (mkF m 414 #[.val (.int p0), .val (.int p1), .val (.int p2), .val (.int p3), .val (.ref b101), .val (.int (i5F pi)), .val (.int (ixx (pmF pi 0))), .val (.int (ixx (pmF pi 1))), .val (.int (ixx (pmF pi 2))), .val (.int (tii (t0F tq0))), .val (.int (tii (t1F tq0 dq1))), .val (.int (tii (t2F tq0 dq1 dq2))), .val (.int (b2i cf0)), .val (.int (b2i cf1)), .val (.int (b2i cf2)), .val (.ref b120), .val (.ref b122), .val (.ref b141), .val (.int (ixx vq)), .val (.int (b2i rr)), .val (.ref b160), .unset, .unset, .unset, .unset, .unset, .unset] [(.int (ixx (e0F oq vq)))])) _
        refine XS.istore X171.here hx rfl (hb hby at_414) rfl (l' := #[.val (.int p0), .val (.int p1), .val (.int p2), .val (.int p3), .val (.ref b101), .val (.int (i5F pi)), .val (.int (ixx (pmF pi 0))), .val (.int (ixx (pmF pi 1))), .val (.int (ixx (pmF pi 2))), .val (.int (tii (t0F tq0))), .val (.int (tii (t1F tq0 dq1))), .val (.int (tii (t2F tq0 dq1 dq2))), .val (.int (b2i cf0)), .val (.int (b2i cf1)), .val (.int (b2i cf2)), .val (.ref b120), .val (.ref b122), .val (.ref b141), .val (.int (ixx vq)), .val (.int (b2i rr)), .val (.ref b160), .val (.int (ixx (e0F oq vq))), .unset, .unset, .unset, .unset, .unset]) rfl ?_
        show Steps p.tables e below (T171.setTop (mkF m 416 #[.val (.int p0), .val (.int p1), .val (.int p2), .val (.int p3), .val (.ref b101), .val (.int (i5F pi)), .val (.int (ixx (pmF pi 0))), .val (.int (ixx (pmF pi 1))), .val (.int (ixx (pmF pi 2))), .val (.int (tii (t0F tq0))), .val (.int (tii (t1F tq0 dq1))), .val (.int (tii (t2F tq0 dq1 dq2))), .val (.int (b2i cf0)), .val (.int (b2i cf1)), .val (.int (b2i cf2)), .val (.ref b120), .val (.ref b122), .val (.ref b141), .val (.int (ixx vq)), .val (.int (b2i rr)), .val (.ref b160), .val (.int (ixx (e0F oq vq))), .unset, .unset, .unset, .unset, .unset] [])) _
        refine XS.aload X171.here hx rfl (hb hby at_416) rfl rfl ?_
        show Steps p.tables e below (T171.setTop (mkF m 418 #[.val (.int p0), .val (.int p1), .val (.int p2), .val (.int p3), .val (.ref b101), .val (.int (i5F pi)), .val (.int (ixx (pmF pi 0))), .val (.int (ixx (pmF pi 1))), .val (.int (ixx (pmF pi 2))), .val (.int (tii (t0F tq0))), .val (.int (tii (t1F tq0 dq1))), .val (.int (tii (t2F tq0 dq1 dq2))), .val (.int (b2i cf0)), .val (.int (b2i cf1)), .val (.int (b2i cf2)), .val (.ref b120), .val (.ref b122), .val (.ref b141), .val (.int (ixx vq)), .val (.int (b2i rr)), .val (.ref b160), .val (.int (ixx (e0F oq vq))), .unset, .unset, .unset, .unset, .unset] [(.ref b141)])) _
        refine XS.iconst X171.here hx rfl (hb hby at_418) ?_
        show Steps p.tables e below (T171.setTop (mkF m 419 #[.val (.int p0), .val (.int p1), .val (.int p2), .val (.int p3), .val (.ref b101), .val (.int (i5F pi)), .val (.int (ixx (pmF pi 0))), .val (.int (ixx (pmF pi 1))), .val (.int (ixx (pmF pi 2))), .val (.int (tii (t0F tq0))), .val (.int (tii (t1F tq0 dq1))), .val (.int (tii (t2F tq0 dq1 dq2))), .val (.int (b2i cf0)), .val (.int (b2i cf1)), .val (.int (b2i cf2)), .val (.ref b120), .val (.ref b122), .val (.ref b141), .val (.int (ixx vq)), .val (.int (b2i rr)), .val (.ref b160), .val (.int (ixx (e0F oq vq))), .unset, .unset, .unset, .unset, .unset] [(.int (2 : Int32)), (.ref b141)])) _
        refine X171.iaload hx (j := (2 : Int32)) (v := (.int (ixx (oq (2 : Fin 3))))) (own_hc rfl Ar177.1) (State.isArrayOf_alike hZ.alike Ar177.2.1) Ar177.2.2 hin177 hat177 (g := (mkF m 419 #[.val (.int p0), .val (.int p1), .val (.int p2), .val (.int p3), .val (.ref b101), .val (.int (i5F pi)), .val (.int (ixx (pmF pi 0))), .val (.int (ixx (pmF pi 1))), .val (.int (ixx (pmF pi 2))), .val (.int (tii (t0F tq0))), .val (.int (tii (t1F tq0 dq1))), .val (.int (tii (t2F tq0 dq1 dq2))), .val (.int (b2i cf0)), .val (.int (b2i cf1)), .val (.int (b2i cf2)), .val (.ref b120), .val (.ref b122), .val (.ref b141), .val (.int (ixx vq)), .val (.int (b2i rr)), .val (.ref b160), .val (.int (ixx (e0F oq vq))), .unset, .unset, .unset, .unset, .unset] [(.int (2 : Int32)), (.ref b141)])) rfl rfl (hb hby at_419) _ ?_
        show Steps p.tables e below (T171.setTop (mkF m 420 #[.val (.int p0), .val (.int p1), .val (.int p2), .val (.int p3), .val (.ref b101), .val (.int (i5F pi)), .val (.int (ixx (pmF pi 0))), .val (.int (ixx (pmF pi 1))), .val (.int (ixx (pmF pi 2))), .val (.int (tii (t0F tq0))), .val (.int (tii (t1F tq0 dq1))), .val (.int (tii (t2F tq0 dq1 dq2))), .val (.int (b2i cf0)), .val (.int (b2i cf1)), .val (.int (b2i cf2)), .val (.ref b120), .val (.ref b122), .val (.ref b141), .val (.int (ixx vq)), .val (.int (b2i rr)), .val (.ref b160), .val (.int (ixx (e0F oq vq))), .unset, .unset, .unset, .unset, .unset] [(.int (ixx (oq (2 : Fin 3))))])) _
        refine XS.iload X171.here hx rfl (hb hby at_420) rfl ?_
        exact kt
      refine Gl.pre (S' := T171.setTop (mkF m 436 #[.val (.int p0), .val (.int p1), .val (.int p2), .val (.int p3), .val (.ref b101), .val (.int (i5F pi)), .val (.int (ixx (pmF pi 0))), .val (.int (ixx (pmF pi 1))), .val (.int (ixx (pmF pi 2))), .val (.int (tii (t0F tq0))), .val (.int (tii (t1F tq0 dq1))), .val (.int (tii (t2F tq0 dq1 dq2))), .val (.int (b2i cf0)), .val (.int (b2i cf1)), .val (.int (b2i cf2)), .val (.ref b120), .val (.ref b122), .val (.ref b141), .val (.int (ixx vq)), .val (.int (b2i rr)), .val (.ref b160), .val (.int (ixx (e0F oq vq))), .unset, .unset, .unset, .unset, .unset] [(.int (ixx (e1F oq vq)))])) (fun t kt => ?_) ?_
      · by_cases hc422 : (ixx (oq (2 : Fin 3))) = (ixx vq)
        · obtain ⟨cl178, Ar178, Sa178, Ha178⟩ := id f174
          have hin178 : ¬ ((1 : Int32) < 0 ∨ cl178.slots.size ≤ ((1 : Int32)).toNatClampNeg) := own_ing Sa178 (1 : Fin 3)
          have hat178 : cl178.slots[((1 : Int32)).toNatClampNeg]? = some (.int (ixx (oq (1 : Fin 3)))) := own_atg Ha178 (1 : Fin 3)
          show Steps p.tables e below (T171.setTop (mkF m 422 #[.val (.int p0), .val (.int p1), .val (.int p2), .val (.int p3), .val (.ref b101), .val (.int (i5F pi)), .val (.int (ixx (pmF pi 0))), .val (.int (ixx (pmF pi 1))), .val (.int (ixx (pmF pi 2))), .val (.int (tii (t0F tq0))), .val (.int (tii (t1F tq0 dq1))), .val (.int (tii (t2F tq0 dq1 dq2))), .val (.int (b2i cf0)), .val (.int (b2i cf1)), .val (.int (b2i cf2)), .val (.ref b120), .val (.ref b122), .val (.ref b141), .val (.int (ixx vq)), .val (.int (b2i rr)), .val (.ref b160), .val (.int (ixx (e0F oq vq))), .unset, .unset, .unset, .unset, .unset] [(.int (ixx vq)), (.int (ixx (oq (2 : Fin 3))))])) _
          refine XS.icmpNo X171.here hx rfl (hb hby at_422) rfl (own_nf (ic_ne _ _) hc422) ?_
          show Steps p.tables e below (T171.setTop (mkF m 425 #[.val (.int p0), .val (.int p1), .val (.int p2), .val (.int p3), .val (.ref b101), .val (.int (i5F pi)), .val (.int (ixx (pmF pi 0))), .val (.int (ixx (pmF pi 1))), .val (.int (ixx (pmF pi 2))), .val (.int (tii (t0F tq0))), .val (.int (tii (t1F tq0 dq1))), .val (.int (tii (t2F tq0 dq1 dq2))), .val (.int (b2i cf0)), .val (.int (b2i cf1)), .val (.int (b2i cf2)), .val (.ref b120), .val (.ref b122), .val (.ref b141), .val (.int (ixx vq)), .val (.int (b2i rr)), .val (.ref b160), .val (.int (ixx (e0F oq vq))), .unset, .unset, .unset, .unset, .unset] [])) _
          refine XS.aload X171.here hx rfl (hb hby at_425) rfl rfl ?_
          show Steps p.tables e below (T171.setTop (mkF m 427 #[.val (.int p0), .val (.int p1), .val (.int p2), .val (.int p3), .val (.ref b101), .val (.int (i5F pi)), .val (.int (ixx (pmF pi 0))), .val (.int (ixx (pmF pi 1))), .val (.int (ixx (pmF pi 2))), .val (.int (tii (t0F tq0))), .val (.int (tii (t1F tq0 dq1))), .val (.int (tii (t2F tq0 dq1 dq2))), .val (.int (b2i cf0)), .val (.int (b2i cf1)), .val (.int (b2i cf2)), .val (.ref b120), .val (.ref b122), .val (.ref b141), .val (.int (ixx vq)), .val (.int (b2i rr)), .val (.ref b160), .val (.int (ixx (e0F oq vq))), .unset, .unset, .unset, .unset, .unset] [(.ref b141)])) _
          refine XS.iconst X171.here hx rfl (hb hby at_427) ?_
          show Steps p.tables e below (T171.setTop (mkF m 428 #[.val (.int p0), .val (.int p1), .val (.int p2), .val (.int p3), .val (.ref b101), .val (.int (i5F pi)), .val (.int (ixx (pmF pi 0))), .val (.int (ixx (pmF pi 1))), .val (.int (ixx (pmF pi 2))), .val (.int (tii (t0F tq0))), .val (.int (tii (t1F tq0 dq1))), .val (.int (tii (t2F tq0 dq1 dq2))), .val (.int (b2i cf0)), .val (.int (b2i cf1)), .val (.int (b2i cf2)), .val (.ref b120), .val (.ref b122), .val (.ref b141), .val (.int (ixx vq)), .val (.int (b2i rr)), .val (.ref b160), .val (.int (ixx (e0F oq vq))), .unset, .unset, .unset, .unset, .unset] [(.int (1 : Int32)), (.ref b141)])) _
          refine X171.iaload hx (j := (1 : Int32)) (v := (.int (ixx (oq (1 : Fin 3))))) (own_hc rfl Ar178.1) (State.isArrayOf_alike hZ.alike Ar178.2.1) Ar178.2.2 hin178 hat178 (g := (mkF m 428 #[.val (.int p0), .val (.int p1), .val (.int p2), .val (.int p3), .val (.ref b101), .val (.int (i5F pi)), .val (.int (ixx (pmF pi 0))), .val (.int (ixx (pmF pi 1))), .val (.int (ixx (pmF pi 2))), .val (.int (tii (t0F tq0))), .val (.int (tii (t1F tq0 dq1))), .val (.int (tii (t2F tq0 dq1 dq2))), .val (.int (b2i cf0)), .val (.int (b2i cf1)), .val (.int (b2i cf2)), .val (.ref b120), .val (.ref b122), .val (.ref b141), .val (.int (ixx vq)), .val (.int (b2i rr)), .val (.ref b160), .val (.int (ixx (e0F oq vq))), .unset, .unset, .unset, .unset, .unset] [(.int (1 : Int32)), (.ref b141)])) rfl rfl (hb hby at_428) _ ?_
          show Steps p.tables e below (T171.setTop (mkF m 429 #[.val (.int p0), .val (.int p1), .val (.int p2), .val (.int p3), .val (.ref b101), .val (.int (i5F pi)), .val (.int (ixx (pmF pi 0))), .val (.int (ixx (pmF pi 1))), .val (.int (ixx (pmF pi 2))), .val (.int (tii (t0F tq0))), .val (.int (tii (t1F tq0 dq1))), .val (.int (tii (t2F tq0 dq1 dq2))), .val (.int (b2i cf0)), .val (.int (b2i cf1)), .val (.int (b2i cf2)), .val (.ref b120), .val (.ref b122), .val (.ref b141), .val (.int (ixx vq)), .val (.int (b2i rr)), .val (.ref b160), .val (.int (ixx (e0F oq vq))), .unset, .unset, .unset, .unset, .unset] [(.int (ixx (oq (1 : Fin 3))))])) _
          refine XS.goto X171.here hx rfl (pc0 := 429) (pc' := 436) rfl (hb hby at_429) (by decide) (by decide) ?_
          rw [(by have q := hc422; first | (unfold e1F; rw [if_pos q]) | (unfold e1F; rw [if_neg q]) : (ixx (e1F oq vq)) = (ixx (oq (1 : Fin 3))))] at kt
          exact kt
        · obtain ⟨cl179, Ar179, Sa179, Ha179⟩ := id f174
          have hin179 : ¬ ((2 : Int32) < 0 ∨ cl179.slots.size ≤ ((2 : Int32)).toNatClampNeg) := own_ing Sa179 (2 : Fin 3)
          have hat179 : cl179.slots[((2 : Int32)).toNatClampNeg]? = some (.int (ixx (oq (2 : Fin 3)))) := own_atg Ha179 (2 : Fin 3)
          show Steps p.tables e below (T171.setTop (mkF m 422 #[.val (.int p0), .val (.int p1), .val (.int p2), .val (.int p3), .val (.ref b101), .val (.int (i5F pi)), .val (.int (ixx (pmF pi 0))), .val (.int (ixx (pmF pi 1))), .val (.int (ixx (pmF pi 2))), .val (.int (tii (t0F tq0))), .val (.int (tii (t1F tq0 dq1))), .val (.int (tii (t2F tq0 dq1 dq2))), .val (.int (b2i cf0)), .val (.int (b2i cf1)), .val (.int (b2i cf2)), .val (.ref b120), .val (.ref b122), .val (.ref b141), .val (.int (ixx vq)), .val (.int (b2i rr)), .val (.ref b160), .val (.int (ixx (e0F oq vq))), .unset, .unset, .unset, .unset, .unset] [(.int (ixx vq)), (.int (ixx (oq (2 : Fin 3))))])) _
          refine XS.icmpYes X171.here hx rfl (pc0 := 422) (pc' := 432) rfl (hb hby at_422) rfl (own_nt (ic_ne _ _) hc422) (by decide) (by decide) ?_
          show Steps p.tables e below (T171.setTop (mkF m 432 #[.val (.int p0), .val (.int p1), .val (.int p2), .val (.int p3), .val (.ref b101), .val (.int (i5F pi)), .val (.int (ixx (pmF pi 0))), .val (.int (ixx (pmF pi 1))), .val (.int (ixx (pmF pi 2))), .val (.int (tii (t0F tq0))), .val (.int (tii (t1F tq0 dq1))), .val (.int (tii (t2F tq0 dq1 dq2))), .val (.int (b2i cf0)), .val (.int (b2i cf1)), .val (.int (b2i cf2)), .val (.ref b120), .val (.ref b122), .val (.ref b141), .val (.int (ixx vq)), .val (.int (b2i rr)), .val (.ref b160), .val (.int (ixx (e0F oq vq))), .unset, .unset, .unset, .unset, .unset] [])) _
          refine XS.aload X171.here hx rfl (hb hby at_432) rfl rfl ?_
          show Steps p.tables e below (T171.setTop (mkF m 434 #[.val (.int p0), .val (.int p1), .val (.int p2), .val (.int p3), .val (.ref b101), .val (.int (i5F pi)), .val (.int (ixx (pmF pi 0))), .val (.int (ixx (pmF pi 1))), .val (.int (ixx (pmF pi 2))), .val (.int (tii (t0F tq0))), .val (.int (tii (t1F tq0 dq1))), .val (.int (tii (t2F tq0 dq1 dq2))), .val (.int (b2i cf0)), .val (.int (b2i cf1)), .val (.int (b2i cf2)), .val (.ref b120), .val (.ref b122), .val (.ref b141), .val (.int (ixx vq)), .val (.int (b2i rr)), .val (.ref b160), .val (.int (ixx (e0F oq vq))), .unset, .unset, .unset, .unset, .unset] [(.ref b141)])) _
          refine XS.iconst X171.here hx rfl (hb hby at_434) ?_
          show Steps p.tables e below (T171.setTop (mkF m 435 #[.val (.int p0), .val (.int p1), .val (.int p2), .val (.int p3), .val (.ref b101), .val (.int (i5F pi)), .val (.int (ixx (pmF pi 0))), .val (.int (ixx (pmF pi 1))), .val (.int (ixx (pmF pi 2))), .val (.int (tii (t0F tq0))), .val (.int (tii (t1F tq0 dq1))), .val (.int (tii (t2F tq0 dq1 dq2))), .val (.int (b2i cf0)), .val (.int (b2i cf1)), .val (.int (b2i cf2)), .val (.ref b120), .val (.ref b122), .val (.ref b141), .val (.int (ixx vq)), .val (.int (b2i rr)), .val (.ref b160), .val (.int (ixx (e0F oq vq))), .unset, .unset, .unset, .unset, .unset] [(.int (2 : Int32)), (.ref b141)])) _
          refine X171.iaload hx (j := (2 : Int32)) (v := (.int (ixx (oq (2 : Fin 3))))) (own_hc rfl Ar179.1) (State.isArrayOf_alike hZ.alike Ar179.2.1) Ar179.2.2 hin179 hat179 (g := (mkF m 435 #[.val (.int p0), .val (.int p1), .val (.int p2), .val (.int p3), .val (.ref b101), .val (.int (i5F pi)), .val (.int (ixx (pmF pi 0))), .val (.int (ixx (pmF pi 1))), .val (.int (ixx (pmF pi 2))), .val (.int (tii (t0F tq0))), .val (.int (tii (t1F tq0 dq1))), .val (.int (tii (t2F tq0 dq1 dq2))), .val (.int (b2i cf0)), .val (.int (b2i cf1)), .val (.int (b2i cf2)), .val (.ref b120), .val (.ref b122), .val (.ref b141), .val (.int (ixx vq)), .val (.int (b2i rr)), .val (.ref b160), .val (.int (ixx (e0F oq vq))), .unset, .unset, .unset, .unset, .unset] [(.int (2 : Int32)), (.ref b141)])) rfl rfl (hb hby at_435) _ ?_
          rw [(by have q := hc422; first | (unfold e1F; rw [if_pos q]) | (unfold e1F; rw [if_neg q]) : (ixx (e1F oq vq)) = (ixx (oq (2 : Fin 3))))] at kt
          exact kt
      have z181 : n0 ≤ T171.heap.size := (Nat.le_trans z172 K171q.1)
      obtain ⟨v180, T180, L180, X180, q180, st180⟩ := own_callV X171 hx hZ (y := (⟨"com/example/tenrec/tenrec/pool/IdleByLastCompletion", "first", "()I"⟩ : MethodName)) (z := (⟨"com/example/tenrec/tenrec/pool/IdleByLastCompletion", "first", "()I"⟩ : MethodName)) hown (hw _ (List.mem_of_getElem? (i := 53) rfl)) (hw _ (List.mem_of_getElem? (i := 54) rfl)) (notFace_of_selects (args := #[]) (mvT hZ (hw _ (List.mem_of_getElem? (i := 56) rfl)))) (hw _ (List.mem_of_getElem? (i := 56) rfl)) (hw _ (List.mem_of_getElem? (i := 55) rfl)) (hw _ (List.mem_of_getElem? (i := 12) rfl)) (hw _ (List.mem_of_getElem? (i := 57) rfl)) (by decide) E171q (hM := (rm10 l Z a0 hw [] b160 (enn (remF Sc vq).f) T171.heap n0 z181 Ff171q)) (by decide) (by decide) (by decide) (by decide) rfl (argsL := []) (rest := []) (Ls := #[.val (.int p0), .val (.int p1), .val (.int p2), .val (.int p3), .val (.ref b101), .val (.int (i5F pi)), .val (.int (ixx (pmF pi 0))), .val (.int (ixx (pmF pi 1))), .val (.int (ixx (pmF pi 2))), .val (.int (tii (t0F tq0))), .val (.int (tii (t1F tq0 dq1))), .val (.int (tii (t2F tq0 dq1 dq2))), .val (.int (b2i cf0)), .val (.int (b2i cf1)), .val (.int (b2i cf2)), .val (.ref b120), .val (.ref b122), .val (.ref b141), .val (.int (ixx vq)), .val (.int (b2i rr)), .val (.ref b160), .val (.int (ixx (e0F oq vq))), .val (.int (ixx (e1F oq vq))), .unset, .unset, .unset, .unset]) (by rw [hml]; rfl) (lenOf pd___I rfl) (W := 0) (Nat.le_of_eq rfl) (hb hby at_440)
      obtain ⟨rfl, N180q, e180⟩ := q180
      have N180 := Fr.app N171 N180q
      refine Gl.pre (S' := T180.setTop (mkF m 452 #[.val (.int p0), .val (.int p1), .val (.int p2), .val (.int p3), .val (.ref b101), .val (.int (i5F pi)), .val (.int (ixx (pmF pi 0))), .val (.int (ixx (pmF pi 1))), .val (.int (ixx (pmF pi 2))), .val (.int (tii (t0F tq0))), .val (.int (tii (t1F tq0 dq1))), .val (.int (tii (t2F tq0 dq1 dq2))), .val (.int (b2i cf0)), .val (.int (b2i cf1)), .val (.int (b2i cf2)), .val (.ref b120), .val (.ref b122), .val (.ref b141), .val (.int (ixx vq)), .val (.int (b2i rr)), .val (.ref b160), .val (.int (ixx (e0F oq vq))), .val (.int (ixx (e1F oq vq))), .unset, .unset, .unset, .unset] [(.int (b2i rr))])) (fun t kt => ?_) ?_
      · show Steps p.tables e below (T171.setTop (mkF m 436 #[.val (.int p0), .val (.int p1), .val (.int p2), .val (.int p3), .val (.ref b101), .val (.int (i5F pi)), .val (.int (ixx (pmF pi 0))), .val (.int (ixx (pmF pi 1))), .val (.int (ixx (pmF pi 2))), .val (.int (tii (t0F tq0))), .val (.int (tii (t1F tq0 dq1))), .val (.int (tii (t2F tq0 dq1 dq2))), .val (.int (b2i cf0)), .val (.int (b2i cf1)), .val (.int (b2i cf2)), .val (.ref b120), .val (.ref b122), .val (.ref b141), .val (.int (ixx vq)), .val (.int (b2i rr)), .val (.ref b160), .val (.int (ixx (e0F oq vq))), .unset, .unset, .unset, .unset, .unset] [(.int (ixx (e1F oq vq)))])) _
        refine XS.istore X171.here hx rfl (hb hby at_436) rfl (l' := #[.val (.int p0), .val (.int p1), .val (.int p2), .val (.int p3), .val (.ref b101), .val (.int (i5F pi)), .val (.int (ixx (pmF pi 0))), .val (.int (ixx (pmF pi 1))), .val (.int (ixx (pmF pi 2))), .val (.int (tii (t0F tq0))), .val (.int (tii (t1F tq0 dq1))), .val (.int (tii (t2F tq0 dq1 dq2))), .val (.int (b2i cf0)), .val (.int (b2i cf1)), .val (.int (b2i cf2)), .val (.ref b120), .val (.ref b122), .val (.ref b141), .val (.int (ixx vq)), .val (.int (b2i rr)), .val (.ref b160), .val (.int (ixx (e0F oq vq))), .val (.int (ixx (e1F oq vq))), .unset, .unset, .unset, .unset]) rfl ?_
        show Steps p.tables e below (T171.setTop (mkF m 438 #[.val (.int p0), .val (.int p1), .val (.int p2), .val (.int p3), .val (.ref b101), .val (.int (i5F pi)), .val (.int (ixx (pmF pi 0))), .val (.int (ixx (pmF pi 1))), .val (.int (ixx (pmF pi 2))), .val (.int (tii (t0F tq0))), .val (.int (tii (t1F tq0 dq1))), .val (.int (tii (t2F tq0 dq1 dq2))), .val (.int (b2i cf0)), .val (.int (b2i cf1)), .val (.int (b2i cf2)), .val (.ref b120), .val (.ref b122), .val (.ref b141), .val (.int (ixx vq)), .val (.int (b2i rr)), .val (.ref b160), .val (.int (ixx (e0F oq vq))), .val (.int (ixx (e1F oq vq))), .unset, .unset, .unset, .unset] [])) _
        refine XS.aload X171.here hx rfl (hb hby at_438) rfl rfl ?_
        show Steps p.tables e below (T171.setTop (mkF m 440 #[.val (.int p0), .val (.int p1), .val (.int p2), .val (.int p3), .val (.ref b101), .val (.int (i5F pi)), .val (.int (ixx (pmF pi 0))), .val (.int (ixx (pmF pi 1))), .val (.int (ixx (pmF pi 2))), .val (.int (tii (t0F tq0))), .val (.int (tii (t1F tq0 dq1))), .val (.int (tii (t2F tq0 dq1 dq2))), .val (.int (b2i cf0)), .val (.int (b2i cf1)), .val (.int (b2i cf2)), .val (.ref b120), .val (.ref b122), .val (.ref b141), .val (.int (ixx vq)), .val (.int (b2i rr)), .val (.ref b160), .val (.int (ixx (e0F oq vq))), .val (.int (ixx (e1F oq vq))), .unset, .unset, .unset, .unset] [(.ref b160)])) _
        refine st180 _ ?_
        show Steps p.tables e below (T180.setTop (mkF m 443 #[.val (.int p0), .val (.int p1), .val (.int p2), .val (.int p3), .val (.ref b101), .val (.int (i5F pi)), .val (.int (ixx (pmF pi 0))), .val (.int (ixx (pmF pi 1))), .val (.int (ixx (pmF pi 2))), .val (.int (tii (t0F tq0))), .val (.int (tii (t1F tq0 dq1))), .val (.int (tii (t2F tq0 dq1 dq2))), .val (.int (b2i cf0)), .val (.int (b2i cf1)), .val (.int (b2i cf2)), .val (.ref b120), .val (.ref b122), .val (.ref b141), .val (.int (ixx vq)), .val (.int (b2i rr)), .val (.ref b160), .val (.int (ixx (e0F oq vq))), .val (.int (ixx (e1F oq vq))), .unset, .unset, .unset, .unset] [(.int (enn (remF Sc vq).f))])) _
        refine XS.iload X180.here hx rfl (hb hby at_443) rfl ?_
        show Steps p.tables e below (T180.setTop (mkF m 445 #[.val (.int p0), .val (.int p1), .val (.int p2), .val (.int p3), .val (.ref b101), .val (.int (i5F pi)), .val (.int (ixx (pmF pi 0))), .val (.int (ixx (pmF pi 1))), .val (.int (ixx (pmF pi 2))), .val (.int (tii (t0F tq0))), .val (.int (tii (t1F tq0 dq1))), .val (.int (tii (t2F tq0 dq1 dq2))), .val (.int (b2i cf0)), .val (.int (b2i cf1)), .val (.int (b2i cf2)), .val (.ref b120), .val (.ref b122), .val (.ref b141), .val (.int (ixx vq)), .val (.int (b2i rr)), .val (.ref b160), .val (.int (ixx (e0F oq vq))), .val (.int (ixx (e1F oq vq))), .unset, .unset, .unset, .unset] [(.int (ixx (e0F oq vq))), (.int (enn (remF Sc vq).f))])) _
        refine XS.icmpYes X180.here hx rfl (pc0 := 445) (pc' := 450) rfl (hb hby at_445) rfl (own_t (ic_eq _ _) (congrArg enn r0)) (by decide) (by decide) ?_
        show Steps p.tables e below (T180.setTop (mkF m 450 #[.val (.int p0), .val (.int p1), .val (.int p2), .val (.int p3), .val (.ref b101), .val (.int (i5F pi)), .val (.int (ixx (pmF pi 0))), .val (.int (ixx (pmF pi 1))), .val (.int (ixx (pmF pi 2))), .val (.int (tii (t0F tq0))), .val (.int (tii (t1F tq0 dq1))), .val (.int (tii (t2F tq0 dq1 dq2))), .val (.int (b2i cf0)), .val (.int (b2i cf1)), .val (.int (b2i cf2)), .val (.ref b120), .val (.ref b122), .val (.ref b141), .val (.int (ixx vq)), .val (.int (b2i rr)), .val (.ref b160), .val (.int (ixx (e0F oq vq))), .val (.int (ixx (e1F oq vq))), .unset, .unset, .unset, .unset] [])) _
        refine XS.iload X180.here hx rfl (hb hby at_450) rfl ?_
        exact kt
      by_cases hc452 : rr = true
      · have f183 := ((f169.keep K168q (ninS (Ne.symm (Nat.ne_of_lt (Nat.lt_of_lt_of_le A160.lt szq_lc162))) (ninS n1162 (ninS n2162 nin0)))).keep K171q (ninS (Ne.symm (Nat.ne_of_lt (Nat.lt_of_lt_of_le A160.lt szq_lc162))) (ninS n1162 (ninS n2162 nin0))))
        obtain ⟨v182, T182, L182, X182, q182, st182⟩ := own_callV X180 hx hZ (y := (⟨"com/example/tenrec/tenrec/pool/IdleByLastCompletion", "add", "(I)V"⟩ : MethodName)) (z := (⟨"com/example/tenrec/tenrec/pool/IdleByLastCompletion", "add", "(I)V"⟩ : MethodName)) hown (hw _ (List.mem_of_getElem? (i := 35) rfl)) (hw _ (List.mem_of_getElem? (i := 36) rfl)) (notFace_of_selects (args := #[]) (mvT hZ (hw _ (List.mem_of_getElem? (i := 38) rfl)))) (hw _ (List.mem_of_getElem? (i := 38) rfl)) (hw _ (List.mem_of_getElem? (i := 37) rfl)) (hw _ (List.mem_of_getElem? (i := 12) rfl)) (hw _ (List.mem_of_getElem? (i := 39) rfl)) (by decide) E171q (hM := (rm6 l Z a0 hw [] b160 vq lc162 bb162 ba162 (remF Sc vq) kq Sd T171.heap n0 z181 g_b160 g_bb162 g_ba162 ⟨(Nat.ne_of_lt (Nat.lt_of_lt_of_le A160.lt szq_lc162)), (Nat.ne_of_lt (Nat.lt_of_lt_of_le A160.lt szq_bb162)), (Nat.ne_of_lt (Nat.lt_of_lt_of_le A160.lt szq_ba162)), n1162, n2162, n3162⟩ ⟨E171q, Ff171q, Fl171q, Fc171q, Fb171q, Fa171q, Gb171q, Ga171q⟩ f183 hA4)) (by decide) (by decide) (by decide) (by decide) e180 (argsL := [(.int (ixx vq))]) (rest := []) (Ls := #[.val (.int p0), .val (.int p1), .val (.int p2), .val (.int p3), .val (.ref b101), .val (.int (i5F pi)), .val (.int (ixx (pmF pi 0))), .val (.int (ixx (pmF pi 1))), .val (.int (ixx (pmF pi 2))), .val (.int (tii (t0F tq0))), .val (.int (tii (t1F tq0 dq1))), .val (.int (tii (t2F tq0 dq1 dq2))), .val (.int (b2i cf0)), .val (.int (b2i cf1)), .val (.int (b2i cf2)), .val (.ref b120), .val (.ref b122), .val (.ref b141), .val (.int (ixx vq)), .val (.int (b2i rr)), .val (.ref b160), .val (.int (ixx (e0F oq vq))), .val (.int (ixx (e1F oq vq))), .unset, .unset, .unset, .unset]) (by rw [hml]; rfl) (lenOf pd__I_V rfl) (W := 0) (Nat.le_of_eq rfl) (hb hby at_459)
        obtain ⟨rfl, N182q, K182q, E182q, Ff182q, Fl182q, Fc182q, Fb182q, Fa182q, Gb182q, Ga182q⟩ := q182
        have N182 := Fr.app N180 N182q
        have K182 : Keep h0 T182.heap [] := K171.trans K182q (allS (Or.inr sz_b160) (allS (Or.inr sz_bb162) (allS (Or.inr sz_ba162) all0)))
        have f185 := (f174.keep K182q (ninS (Ne.symm (Ne.symm (Nat.ne_of_lt (Nat.lt_of_lt_of_le (Nat.lt_of_lt_of_le (Nat.lt_of_lt_of_le (Nat.lt_of_lt_of_le V_b141.lt (Keep.of_wr W148).1) (Keep.of_wr W153).1) (Keep.of_wr W158).1) (Nat.le_of_eq g160.symm))))) (ninS (Ne.symm (Ne.symm (Nat.ne_of_lt (Nat.lt_of_lt_of_le (Nat.lt_of_lt_of_le (Nat.lt_of_lt_of_le (Nat.lt_of_lt_of_le (Nat.lt_of_lt_of_le V_b141.lt (Keep.of_wr W148).1) (Keep.of_wr W153).1) (Keep.of_wr W158).1) E160.1) szq_bb162)))) (ninS (Ne.symm (Ne.symm (Nat.ne_of_lt (Nat.lt_of_lt_of_le (Nat.lt_of_lt_of_le (Nat.lt_of_lt_of_le (Nat.lt_of_lt_of_le (Nat.lt_of_lt_of_le V_b141.lt (Keep.of_wr W148).1) (Keep.of_wr W153).1) (Keep.of_wr W158).1) E160.1) szq_ba162)))) nin0))))
        obtain ⟨cl184, Ar184, Sa184, Ha184⟩ := id f185
        have hin184 : ¬ ((0 : Int32) < 0 ∨ cl184.slots.size ≤ ((0 : Int32)).toNatClampNeg) := own_ing Sa184 (0 : Fin 3)
        have hat184 : cl184.slots[((0 : Int32)).toNatClampNeg]? = some (.int (ixx (oq (0 : Fin 3)))) := own_atg Ha184 (0 : Fin 3)
        obtain ⟨cl186, Ar186, Sa186, Ha186⟩ := id f185
        have hin186 : ¬ ((1 : Int32) < 0 ∨ cl186.slots.size ≤ ((1 : Int32)).toNatClampNeg) := own_ing Sa186 (1 : Fin 3)
        have hat186 : cl186.slots[((1 : Int32)).toNatClampNeg]? = some (.int (ixx (oq (1 : Fin 3)))) := own_atg Ha186 (1 : Fin 3)
        obtain ⟨cl187, Ar187, Sa187, Ha187⟩ := id f185
        have hin187 : ¬ ((2 : Int32) < 0 ∨ cl187.slots.size ≤ ((2 : Int32)).toNatClampNeg) := own_ing Sa187 (2 : Fin 3)
        have hat187 : cl187.slots[((2 : Int32)).toNatClampNeg]? = some (.int (ixx (oq (2 : Fin 3)))) := own_atg Ha187 (2 : Fin 3)
        have z189 : n0 ≤ T182.heap.size := (Nat.le_trans z181 K182q.1)
        obtain ⟨v188, T188, L188, X188, q188, st188⟩ := own_callV X182 hx hZ (y := (⟨"com/example/tenrec/tenrec/pool/IdleByLastCompletion", "first", "()I"⟩ : MethodName)) (z := (⟨"com/example/tenrec/tenrec/pool/IdleByLastCompletion", "first", "()I"⟩ : MethodName)) hown (hw _ (List.mem_of_getElem? (i := 53) rfl)) (hw _ (List.mem_of_getElem? (i := 54) rfl)) (notFace_of_selects (args := #[]) (mvT hZ (hw _ (List.mem_of_getElem? (i := 56) rfl)))) (hw _ (List.mem_of_getElem? (i := 56) rfl)) (hw _ (List.mem_of_getElem? (i := 55) rfl)) (hw _ (List.mem_of_getElem? (i := 12) rfl)) (hw _ (List.mem_of_getElem? (i := 57) rfl)) (by decide) E182q (hM := (rm10 l Z a0 hw [] b160 (enn Sd.f) T182.heap n0 z189 Ff182q)) (by decide) (by decide) (by decide) (by decide) rfl (argsL := []) (rest := []) (Ls := #[.val (.int p0), .val (.int p1), .val (.int p2), .val (.int p3), .val (.ref b101), .val (.int (i5F pi)), .val (.int (ixx (pmF pi 0))), .val (.int (ixx (pmF pi 1))), .val (.int (ixx (pmF pi 2))), .val (.int (tii (t0F tq0))), .val (.int (tii (t1F tq0 dq1))), .val (.int (tii (t2F tq0 dq1 dq2))), .val (.int (b2i cf0)), .val (.int (b2i cf1)), .val (.int (b2i cf2)), .val (.ref b120), .val (.ref b122), .val (.ref b141), .val (.int (ixx vq)), .val (.int (b2i rr)), .val (.ref b160), .val (.int (ixx (e0F oq vq))), .val (.int (ixx (e1F oq vq))), .val (.int (ixx (oq (0 : Fin 3)))), .val (.int (ixx (oq (1 : Fin 3)))), .val (.int (ixx (oq (2 : Fin 3)))), .unset]) (by rw [hml]; rfl) (lenOf pd___I rfl) (W := 0) (Nat.le_of_eq rfl) (hb hby at_496)
        obtain ⟨rfl, N188q, e188⟩ := q188
        have N188 := Fr.app N182 N188q
        refine Gl.pre (S' := T188.setTop (mkF m 510 #[.val (.int p0), .val (.int p1), .val (.int p2), .val (.int p3), .val (.ref b101), .val (.int (i5F pi)), .val (.int (ixx (pmF pi 0))), .val (.int (ixx (pmF pi 1))), .val (.int (ixx (pmF pi 2))), .val (.int (tii (t0F tq0))), .val (.int (tii (t1F tq0 dq1))), .val (.int (tii (t2F tq0 dq1 dq2))), .val (.int (b2i cf0)), .val (.int (b2i cf1)), .val (.int (b2i cf2)), .val (.ref b120), .val (.ref b122), .val (.ref b141), .val (.int (ixx vq)), .val (.int (b2i rr)), .val (.ref b160), .val (.int (ixx (e0F oq vq))), .val (.int (ixx (e1F oq vq))), .val (.int (ixx (oq (0 : Fin 3)))), .val (.int (ixx (oq (1 : Fin 3)))), .val (.int (ixx (oq (2 : Fin 3)))), .val (.int (enn Sd.f))] [])) (fun t kt => ?_) ?_
        · show Steps p.tables e below (T180.setTop (mkF m 452 #[.val (.int p0), .val (.int p1), .val (.int p2), .val (.int p3), .val (.ref b101), .val (.int (i5F pi)), .val (.int (ixx (pmF pi 0))), .val (.int (ixx (pmF pi 1))), .val (.int (ixx (pmF pi 2))), .val (.int (tii (t0F tq0))), .val (.int (tii (t1F tq0 dq1))), .val (.int (tii (t2F tq0 dq1 dq2))), .val (.int (b2i cf0)), .val (.int (b2i cf1)), .val (.int (b2i cf2)), .val (.ref b120), .val (.ref b122), .val (.ref b141), .val (.int (ixx vq)), .val (.int (b2i rr)), .val (.ref b160), .val (.int (ixx (e0F oq vq))), .val (.int (ixx (e1F oq vq))), .unset, .unset, .unset, .unset] [(.int (b2i rr))])) _
          refine XS.ifNo X180.here hx rfl (hb hby at_452) rfl (own_nbf (b0_eq _) hc452) ?_
          show Steps p.tables e below (T180.setTop (mkF m 455 #[.val (.int p0), .val (.int p1), .val (.int p2), .val (.int p3), .val (.ref b101), .val (.int (i5F pi)), .val (.int (ixx (pmF pi 0))), .val (.int (ixx (pmF pi 1))), .val (.int (ixx (pmF pi 2))), .val (.int (tii (t0F tq0))), .val (.int (tii (t1F tq0 dq1))), .val (.int (tii (t2F tq0 dq1 dq2))), .val (.int (b2i cf0)), .val (.int (b2i cf1)), .val (.int (b2i cf2)), .val (.ref b120), .val (.ref b122), .val (.ref b141), .val (.int (ixx vq)), .val (.int (b2i rr)), .val (.ref b160), .val (.int (ixx (e0F oq vq))), .val (.int (ixx (e1F oq vq))), .unset, .unset, .unset, .unset] [])) _
          refine XS.aload X180.here hx rfl (hb hby at_455) rfl rfl ?_
          show Steps p.tables e below (T180.setTop (mkF m 457 #[.val (.int p0), .val (.int p1), .val (.int p2), .val (.int p3), .val (.ref b101), .val (.int (i5F pi)), .val (.int (ixx (pmF pi 0))), .val (.int (ixx (pmF pi 1))), .val (.int (ixx (pmF pi 2))), .val (.int (tii (t0F tq0))), .val (.int (tii (t1F tq0 dq1))), .val (.int (tii (t2F tq0 dq1 dq2))), .val (.int (b2i cf0)), .val (.int (b2i cf1)), .val (.int (b2i cf2)), .val (.ref b120), .val (.ref b122), .val (.ref b141), .val (.int (ixx vq)), .val (.int (b2i rr)), .val (.ref b160), .val (.int (ixx (e0F oq vq))), .val (.int (ixx (e1F oq vq))), .unset, .unset, .unset, .unset] [(.ref b160)])) _
          refine XS.iload X180.here hx rfl (hb hby at_457) rfl ?_
          show Steps p.tables e below (T180.setTop (mkF m 459 #[.val (.int p0), .val (.int p1), .val (.int p2), .val (.int p3), .val (.ref b101), .val (.int (i5F pi)), .val (.int (ixx (pmF pi 0))), .val (.int (ixx (pmF pi 1))), .val (.int (ixx (pmF pi 2))), .val (.int (tii (t0F tq0))), .val (.int (tii (t1F tq0 dq1))), .val (.int (tii (t2F tq0 dq1 dq2))), .val (.int (b2i cf0)), .val (.int (b2i cf1)), .val (.int (b2i cf2)), .val (.ref b120), .val (.ref b122), .val (.ref b141), .val (.int (ixx vq)), .val (.int (b2i rr)), .val (.ref b160), .val (.int (ixx (e0F oq vq))), .val (.int (ixx (e1F oq vq))), .unset, .unset, .unset, .unset] [(.int (ixx vq)), (.ref b160)])) _
          refine st182 _ ?_
          show Steps p.tables e below (T182.setTop (mkF m 462 #[.val (.int p0), .val (.int p1), .val (.int p2), .val (.int p3), .val (.ref b101), .val (.int (i5F pi)), .val (.int (ixx (pmF pi 0))), .val (.int (ixx (pmF pi 1))), .val (.int (ixx (pmF pi 2))), .val (.int (tii (t0F tq0))), .val (.int (tii (t1F tq0 dq1))), .val (.int (tii (t2F tq0 dq1 dq2))), .val (.int (b2i cf0)), .val (.int (b2i cf1)), .val (.int (b2i cf2)), .val (.ref b120), .val (.ref b122), .val (.ref b141), .val (.int (ixx vq)), .val (.int (b2i rr)), .val (.ref b160), .val (.int (ixx (e0F oq vq))), .val (.int (ixx (e1F oq vq))), .unset, .unset, .unset, .unset] [])) _
          refine XS.aload X182.here hx rfl (hb hby at_462) rfl rfl ?_
          show Steps p.tables e below (T182.setTop (mkF m 464 #[.val (.int p0), .val (.int p1), .val (.int p2), .val (.int p3), .val (.ref b101), .val (.int (i5F pi)), .val (.int (ixx (pmF pi 0))), .val (.int (ixx (pmF pi 1))), .val (.int (ixx (pmF pi 2))), .val (.int (tii (t0F tq0))), .val (.int (tii (t1F tq0 dq1))), .val (.int (tii (t2F tq0 dq1 dq2))), .val (.int (b2i cf0)), .val (.int (b2i cf1)), .val (.int (b2i cf2)), .val (.ref b120), .val (.ref b122), .val (.ref b141), .val (.int (ixx vq)), .val (.int (b2i rr)), .val (.ref b160), .val (.int (ixx (e0F oq vq))), .val (.int (ixx (e1F oq vq))), .unset, .unset, .unset, .unset] [(.ref b141)])) _
          refine XS.iconst X182.here hx rfl (hb hby at_464) ?_
          show Steps p.tables e below (T182.setTop (mkF m 465 #[.val (.int p0), .val (.int p1), .val (.int p2), .val (.int p3), .val (.ref b101), .val (.int (i5F pi)), .val (.int (ixx (pmF pi 0))), .val (.int (ixx (pmF pi 1))), .val (.int (ixx (pmF pi 2))), .val (.int (tii (t0F tq0))), .val (.int (tii (t1F tq0 dq1))), .val (.int (tii (t2F tq0 dq1 dq2))), .val (.int (b2i cf0)), .val (.int (b2i cf1)), .val (.int (b2i cf2)), .val (.ref b120), .val (.ref b122), .val (.ref b141), .val (.int (ixx vq)), .val (.int (b2i rr)), .val (.ref b160), .val (.int (ixx (e0F oq vq))), .val (.int (ixx (e1F oq vq))), .unset, .unset, .unset, .unset] [(.int (0 : Int32)), (.ref b141)])) _
          refine X182.iaload hx (j := (0 : Int32)) (v := (.int (ixx (oq (0 : Fin 3))))) (own_hc rfl Ar184.1) (State.isArrayOf_alike hZ.alike Ar184.2.1) Ar184.2.2 hin184 hat184 (g := (mkF m 465 #[.val (.int p0), .val (.int p1), .val (.int p2), .val (.int p3), .val (.ref b101), .val (.int (i5F pi)), .val (.int (ixx (pmF pi 0))), .val (.int (ixx (pmF pi 1))), .val (.int (ixx (pmF pi 2))), .val (.int (tii (t0F tq0))), .val (.int (tii (t1F tq0 dq1))), .val (.int (tii (t2F tq0 dq1 dq2))), .val (.int (b2i cf0)), .val (.int (b2i cf1)), .val (.int (b2i cf2)), .val (.ref b120), .val (.ref b122), .val (.ref b141), .val (.int (ixx vq)), .val (.int (b2i rr)), .val (.ref b160), .val (.int (ixx (e0F oq vq))), .val (.int (ixx (e1F oq vq))), .unset, .unset, .unset, .unset] [(.int (0 : Int32)), (.ref b141)])) rfl rfl (hb hby at_465) _ ?_
          show Steps p.tables e below (T182.setTop (mkF m 466 #[.val (.int p0), .val (.int p1), .val (.int p2), .val (.int p3), .val (.ref b101), .val (.int (i5F pi)), .val (.int (ixx (pmF pi 0))), .val (.int (ixx (pmF pi 1))), .val (.int (ixx (pmF pi 2))), .val (.int (tii (t0F tq0))), .val (.int (tii (t1F tq0 dq1))), .val (.int (tii (t2F tq0 dq1 dq2))), .val (.int (b2i cf0)), .val (.int (b2i cf1)), .val (.int (b2i cf2)), .val (.ref b120), .val (.ref b122), .val (.ref b141), .val (.int (ixx vq)), .val (.int (b2i rr)), .val (.ref b160), .val (.int (ixx (e0F oq vq))), .val (.int (ixx (e1F oq vq))), .unset, .unset, .unset, .unset] [(.int (ixx (oq (0 : Fin 3))))])) _
          refine XS.istore X182.here hx rfl (hb hby at_466) rfl (l' := #[.val (.int p0), .val (.int p1), .val (.int p2), .val (.int p3), .val (.ref b101), .val (.int (i5F pi)), .val (.int (ixx (pmF pi 0))), .val (.int (ixx (pmF pi 1))), .val (.int (ixx (pmF pi 2))), .val (.int (tii (t0F tq0))), .val (.int (tii (t1F tq0 dq1))), .val (.int (tii (t2F tq0 dq1 dq2))), .val (.int (b2i cf0)), .val (.int (b2i cf1)), .val (.int (b2i cf2)), .val (.ref b120), .val (.ref b122), .val (.ref b141), .val (.int (ixx vq)), .val (.int (b2i rr)), .val (.ref b160), .val (.int (ixx (e0F oq vq))), .val (.int (ixx (e1F oq vq))), .val (.int (ixx (oq (0 : Fin 3)))), .unset, .unset, .unset]) rfl ?_
          show Steps p.tables e below (T182.setTop (mkF m 468 #[.val (.int p0), .val (.int p1), .val (.int p2), .val (.int p3), .val (.ref b101), .val (.int (i5F pi)), .val (.int (ixx (pmF pi 0))), .val (.int (ixx (pmF pi 1))), .val (.int (ixx (pmF pi 2))), .val (.int (tii (t0F tq0))), .val (.int (tii (t1F tq0 dq1))), .val (.int (tii (t2F tq0 dq1 dq2))), .val (.int (b2i cf0)), .val (.int (b2i cf1)), .val (.int (b2i cf2)), .val (.ref b120), .val (.ref b122), .val (.ref b141), .val (.int (ixx vq)), .val (.int (b2i rr)), .val (.ref b160), .val (.int (ixx (e0F oq vq))), .val (.int (ixx (e1F oq vq))), .val (.int (ixx (oq (0 : Fin 3)))), .unset, .unset, .unset] [])) _
          refine XS.aload X182.here hx rfl (hb hby at_468) rfl rfl ?_
          show Steps p.tables e below (T182.setTop (mkF m 470 #[.val (.int p0), .val (.int p1), .val (.int p2), .val (.int p3), .val (.ref b101), .val (.int (i5F pi)), .val (.int (ixx (pmF pi 0))), .val (.int (ixx (pmF pi 1))), .val (.int (ixx (pmF pi 2))), .val (.int (tii (t0F tq0))), .val (.int (tii (t1F tq0 dq1))), .val (.int (tii (t2F tq0 dq1 dq2))), .val (.int (b2i cf0)), .val (.int (b2i cf1)), .val (.int (b2i cf2)), .val (.ref b120), .val (.ref b122), .val (.ref b141), .val (.int (ixx vq)), .val (.int (b2i rr)), .val (.ref b160), .val (.int (ixx (e0F oq vq))), .val (.int (ixx (e1F oq vq))), .val (.int (ixx (oq (0 : Fin 3)))), .unset, .unset, .unset] [(.ref b141)])) _
          refine XS.iconst X182.here hx rfl (hb hby at_470) ?_
          show Steps p.tables e below (T182.setTop (mkF m 471 #[.val (.int p0), .val (.int p1), .val (.int p2), .val (.int p3), .val (.ref b101), .val (.int (i5F pi)), .val (.int (ixx (pmF pi 0))), .val (.int (ixx (pmF pi 1))), .val (.int (ixx (pmF pi 2))), .val (.int (tii (t0F tq0))), .val (.int (tii (t1F tq0 dq1))), .val (.int (tii (t2F tq0 dq1 dq2))), .val (.int (b2i cf0)), .val (.int (b2i cf1)), .val (.int (b2i cf2)), .val (.ref b120), .val (.ref b122), .val (.ref b141), .val (.int (ixx vq)), .val (.int (b2i rr)), .val (.ref b160), .val (.int (ixx (e0F oq vq))), .val (.int (ixx (e1F oq vq))), .val (.int (ixx (oq (0 : Fin 3)))), .unset, .unset, .unset] [(.int (1 : Int32)), (.ref b141)])) _
          refine X182.iaload hx (j := (1 : Int32)) (v := (.int (ixx (oq (1 : Fin 3))))) (own_hc rfl Ar186.1) (State.isArrayOf_alike hZ.alike Ar186.2.1) Ar186.2.2 hin186 hat186 (g := (mkF m 471 #[.val (.int p0), .val (.int p1), .val (.int p2), .val (.int p3), .val (.ref b101), .val (.int (i5F pi)), .val (.int (ixx (pmF pi 0))), .val (.int (ixx (pmF pi 1))), .val (.int (ixx (pmF pi 2))), .val (.int (tii (t0F tq0))), .val (.int (tii (t1F tq0 dq1))), .val (.int (tii (t2F tq0 dq1 dq2))), .val (.int (b2i cf0)), .val (.int (b2i cf1)), .val (.int (b2i cf2)), .val (.ref b120), .val (.ref b122), .val (.ref b141), .val (.int (ixx vq)), .val (.int (b2i rr)), .val (.ref b160), .val (.int (ixx (e0F oq vq))), .val (.int (ixx (e1F oq vq))), .val (.int (ixx (oq (0 : Fin 3)))), .unset, .unset, .unset] [(.int (1 : Int32)), (.ref b141)])) rfl rfl (hb hby at_471) _ ?_
          show Steps p.tables e below (T182.setTop (mkF m 472 #[.val (.int p0), .val (.int p1), .val (.int p2), .val (.int p3), .val (.ref b101), .val (.int (i5F pi)), .val (.int (ixx (pmF pi 0))), .val (.int (ixx (pmF pi 1))), .val (.int (ixx (pmF pi 2))), .val (.int (tii (t0F tq0))), .val (.int (tii (t1F tq0 dq1))), .val (.int (tii (t2F tq0 dq1 dq2))), .val (.int (b2i cf0)), .val (.int (b2i cf1)), .val (.int (b2i cf2)), .val (.ref b120), .val (.ref b122), .val (.ref b141), .val (.int (ixx vq)), .val (.int (b2i rr)), .val (.ref b160), .val (.int (ixx (e0F oq vq))), .val (.int (ixx (e1F oq vq))), .val (.int (ixx (oq (0 : Fin 3)))), .unset, .unset, .unset] [(.int (ixx (oq (1 : Fin 3))))])) _
          refine XS.istore X182.here hx rfl (hb hby at_472) rfl (l' := #[.val (.int p0), .val (.int p1), .val (.int p2), .val (.int p3), .val (.ref b101), .val (.int (i5F pi)), .val (.int (ixx (pmF pi 0))), .val (.int (ixx (pmF pi 1))), .val (.int (ixx (pmF pi 2))), .val (.int (tii (t0F tq0))), .val (.int (tii (t1F tq0 dq1))), .val (.int (tii (t2F tq0 dq1 dq2))), .val (.int (b2i cf0)), .val (.int (b2i cf1)), .val (.int (b2i cf2)), .val (.ref b120), .val (.ref b122), .val (.ref b141), .val (.int (ixx vq)), .val (.int (b2i rr)), .val (.ref b160), .val (.int (ixx (e0F oq vq))), .val (.int (ixx (e1F oq vq))), .val (.int (ixx (oq (0 : Fin 3)))), .val (.int (ixx (oq (1 : Fin 3)))), .unset, .unset]) rfl ?_
          show Steps p.tables e below (T182.setTop (mkF m 474 #[.val (.int p0), .val (.int p1), .val (.int p2), .val (.int p3), .val (.ref b101), .val (.int (i5F pi)), .val (.int (ixx (pmF pi 0))), .val (.int (ixx (pmF pi 1))), .val (.int (ixx (pmF pi 2))), .val (.int (tii (t0F tq0))), .val (.int (tii (t1F tq0 dq1))), .val (.int (tii (t2F tq0 dq1 dq2))), .val (.int (b2i cf0)), .val (.int (b2i cf1)), .val (.int (b2i cf2)), .val (.ref b120), .val (.ref b122), .val (.ref b141), .val (.int (ixx vq)), .val (.int (b2i rr)), .val (.ref b160), .val (.int (ixx (e0F oq vq))), .val (.int (ixx (e1F oq vq))), .val (.int (ixx (oq (0 : Fin 3)))), .val (.int (ixx (oq (1 : Fin 3)))), .unset, .unset] [])) _
          refine XS.aload X182.here hx rfl (hb hby at_474) rfl rfl ?_
          show Steps p.tables e below (T182.setTop (mkF m 476 #[.val (.int p0), .val (.int p1), .val (.int p2), .val (.int p3), .val (.ref b101), .val (.int (i5F pi)), .val (.int (ixx (pmF pi 0))), .val (.int (ixx (pmF pi 1))), .val (.int (ixx (pmF pi 2))), .val (.int (tii (t0F tq0))), .val (.int (tii (t1F tq0 dq1))), .val (.int (tii (t2F tq0 dq1 dq2))), .val (.int (b2i cf0)), .val (.int (b2i cf1)), .val (.int (b2i cf2)), .val (.ref b120), .val (.ref b122), .val (.ref b141), .val (.int (ixx vq)), .val (.int (b2i rr)), .val (.ref b160), .val (.int (ixx (e0F oq vq))), .val (.int (ixx (e1F oq vq))), .val (.int (ixx (oq (0 : Fin 3)))), .val (.int (ixx (oq (1 : Fin 3)))), .unset, .unset] [(.ref b141)])) _
          refine XS.iconst X182.here hx rfl (hb hby at_476) ?_
          show Steps p.tables e below (T182.setTop (mkF m 477 #[.val (.int p0), .val (.int p1), .val (.int p2), .val (.int p3), .val (.ref b101), .val (.int (i5F pi)), .val (.int (ixx (pmF pi 0))), .val (.int (ixx (pmF pi 1))), .val (.int (ixx (pmF pi 2))), .val (.int (tii (t0F tq0))), .val (.int (tii (t1F tq0 dq1))), .val (.int (tii (t2F tq0 dq1 dq2))), .val (.int (b2i cf0)), .val (.int (b2i cf1)), .val (.int (b2i cf2)), .val (.ref b120), .val (.ref b122), .val (.ref b141), .val (.int (ixx vq)), .val (.int (b2i rr)), .val (.ref b160), .val (.int (ixx (e0F oq vq))), .val (.int (ixx (e1F oq vq))), .val (.int (ixx (oq (0 : Fin 3)))), .val (.int (ixx (oq (1 : Fin 3)))), .unset, .unset] [(.int (2 : Int32)), (.ref b141)])) _
          refine X182.iaload hx (j := (2 : Int32)) (v := (.int (ixx (oq (2 : Fin 3))))) (own_hc rfl Ar187.1) (State.isArrayOf_alike hZ.alike Ar187.2.1) Ar187.2.2 hin187 hat187 (g := (mkF m 477 #[.val (.int p0), .val (.int p1), .val (.int p2), .val (.int p3), .val (.ref b101), .val (.int (i5F pi)), .val (.int (ixx (pmF pi 0))), .val (.int (ixx (pmF pi 1))), .val (.int (ixx (pmF pi 2))), .val (.int (tii (t0F tq0))), .val (.int (tii (t1F tq0 dq1))), .val (.int (tii (t2F tq0 dq1 dq2))), .val (.int (b2i cf0)), .val (.int (b2i cf1)), .val (.int (b2i cf2)), .val (.ref b120), .val (.ref b122), .val (.ref b141), .val (.int (ixx vq)), .val (.int (b2i rr)), .val (.ref b160), .val (.int (ixx (e0F oq vq))), .val (.int (ixx (e1F oq vq))), .val (.int (ixx (oq (0 : Fin 3)))), .val (.int (ixx (oq (1 : Fin 3)))), .unset, .unset] [(.int (2 : Int32)), (.ref b141)])) rfl rfl (hb hby at_477) _ ?_
          show Steps p.tables e below (T182.setTop (mkF m 478 #[.val (.int p0), .val (.int p1), .val (.int p2), .val (.int p3), .val (.ref b101), .val (.int (i5F pi)), .val (.int (ixx (pmF pi 0))), .val (.int (ixx (pmF pi 1))), .val (.int (ixx (pmF pi 2))), .val (.int (tii (t0F tq0))), .val (.int (tii (t1F tq0 dq1))), .val (.int (tii (t2F tq0 dq1 dq2))), .val (.int (b2i cf0)), .val (.int (b2i cf1)), .val (.int (b2i cf2)), .val (.ref b120), .val (.ref b122), .val (.ref b141), .val (.int (ixx vq)), .val (.int (b2i rr)), .val (.ref b160), .val (.int (ixx (e0F oq vq))), .val (.int (ixx (e1F oq vq))), .val (.int (ixx (oq (0 : Fin 3)))), .val (.int (ixx (oq (1 : Fin 3)))), .unset, .unset] [(.int (ixx (oq (2 : Fin 3))))])) _
          refine XS.istore X182.here hx rfl (hb hby at_478) rfl (l' := #[.val (.int p0), .val (.int p1), .val (.int p2), .val (.int p3), .val (.ref b101), .val (.int (i5F pi)), .val (.int (ixx (pmF pi 0))), .val (.int (ixx (pmF pi 1))), .val (.int (ixx (pmF pi 2))), .val (.int (tii (t0F tq0))), .val (.int (tii (t1F tq0 dq1))), .val (.int (tii (t2F tq0 dq1 dq2))), .val (.int (b2i cf0)), .val (.int (b2i cf1)), .val (.int (b2i cf2)), .val (.ref b120), .val (.ref b122), .val (.ref b141), .val (.int (ixx vq)), .val (.int (b2i rr)), .val (.ref b160), .val (.int (ixx (e0F oq vq))), .val (.int (ixx (e1F oq vq))), .val (.int (ixx (oq (0 : Fin 3)))), .val (.int (ixx (oq (1 : Fin 3)))), .val (.int (ixx (oq (2 : Fin 3)))), .unset]) rfl ?_
          show Steps p.tables e below (T182.setTop (mkF m 480 #[.val (.int p0), .val (.int p1), .val (.int p2), .val (.int p3), .val (.ref b101), .val (.int (i5F pi)), .val (.int (ixx (pmF pi 0))), .val (.int (ixx (pmF pi 1))), .val (.int (ixx (pmF pi 2))), .val (.int (tii (t0F tq0))), .val (.int (tii (t1F tq0 dq1))), .val (.int (tii (t2F tq0 dq1 dq2))), .val (.int (b2i cf0)), .val (.int (b2i cf1)), .val (.int (b2i cf2)), .val (.ref b120), .val (.ref b122), .val (.ref b141), .val (.int (ixx vq)), .val (.int (b2i rr)), .val (.ref b160), .val (.int (ixx (e0F oq vq))), .val (.int (ixx (e1F oq vq))), .val (.int (ixx (oq (0 : Fin 3)))), .val (.int (ixx (oq (1 : Fin 3)))), .val (.int (ixx (oq (2 : Fin 3)))), .unset] [])) _
          refine XS.goto X182.here hx rfl (pc0 := 480) (pc' := 494) rfl (hb hby at_480) (by decide) (by decide) ?_
          show Steps p.tables e below (T182.setTop (mkF m 494 #[.val (.int p0), .val (.int p1), .val (.int p2), .val (.int p3), .val (.ref b101), .val (.int (i5F pi)), .val (.int (ixx (pmF pi 0))), .val (.int (ixx (pmF pi 1))), .val (.int (ixx (pmF pi 2))), .val (.int (tii (t0F tq0))), .val (.int (tii (t1F tq0 dq1))), .val (.int (tii (t2F tq0 dq1 dq2))), .val (.int (b2i cf0)), .val (.int (b2i cf1)), .val (.int (b2i cf2)), .val (.ref b120), .val (.ref b122), .val (.ref b141), .val (.int (ixx vq)), .val (.int (b2i rr)), .val (.ref b160), .val (.int (ixx (e0F oq vq))), .val (.int (ixx (e1F oq vq))), .val (.int (ixx (oq (0 : Fin 3)))), .val (.int (ixx (oq (1 : Fin 3)))), .val (.int (ixx (oq (2 : Fin 3)))), .unset] [])) _
          refine XS.aload X182.here hx rfl (hb hby at_494) rfl rfl ?_
          show Steps p.tables e below (T182.setTop (mkF m 496 #[.val (.int p0), .val (.int p1), .val (.int p2), .val (.int p3), .val (.ref b101), .val (.int (i5F pi)), .val (.int (ixx (pmF pi 0))), .val (.int (ixx (pmF pi 1))), .val (.int (ixx (pmF pi 2))), .val (.int (tii (t0F tq0))), .val (.int (tii (t1F tq0 dq1))), .val (.int (tii (t2F tq0 dq1 dq2))), .val (.int (b2i cf0)), .val (.int (b2i cf1)), .val (.int (b2i cf2)), .val (.ref b120), .val (.ref b122), .val (.ref b141), .val (.int (ixx vq)), .val (.int (b2i rr)), .val (.ref b160), .val (.int (ixx (e0F oq vq))), .val (.int (ixx (e1F oq vq))), .val (.int (ixx (oq (0 : Fin 3)))), .val (.int (ixx (oq (1 : Fin 3)))), .val (.int (ixx (oq (2 : Fin 3)))), .unset] [(.ref b160)])) _
          refine st188 _ ?_
          show Steps p.tables e below (T188.setTop (mkF m 499 #[.val (.int p0), .val (.int p1), .val (.int p2), .val (.int p3), .val (.ref b101), .val (.int (i5F pi)), .val (.int (ixx (pmF pi 0))), .val (.int (ixx (pmF pi 1))), .val (.int (ixx (pmF pi 2))), .val (.int (tii (t0F tq0))), .val (.int (tii (t1F tq0 dq1))), .val (.int (tii (t2F tq0 dq1 dq2))), .val (.int (b2i cf0)), .val (.int (b2i cf1)), .val (.int (b2i cf2)), .val (.ref b120), .val (.ref b122), .val (.ref b141), .val (.int (ixx vq)), .val (.int (b2i rr)), .val (.ref b160), .val (.int (ixx (e0F oq vq))), .val (.int (ixx (e1F oq vq))), .val (.int (ixx (oq (0 : Fin 3)))), .val (.int (ixx (oq (1 : Fin 3)))), .val (.int (ixx (oq (2 : Fin 3)))), .unset] [(.int (enn Sd.f))])) _
          refine XS.istore X188.here hx rfl (hb hby at_499) rfl (l' := #[.val (.int p0), .val (.int p1), .val (.int p2), .val (.int p3), .val (.ref b101), .val (.int (i5F pi)), .val (.int (ixx (pmF pi 0))), .val (.int (ixx (pmF pi 1))), .val (.int (ixx (pmF pi 2))), .val (.int (tii (t0F tq0))), .val (.int (tii (t1F tq0 dq1))), .val (.int (tii (t2F tq0 dq1 dq2))), .val (.int (b2i cf0)), .val (.int (b2i cf1)), .val (.int (b2i cf2)), .val (.ref b120), .val (.ref b122), .val (.ref b141), .val (.int (ixx vq)), .val (.int (b2i rr)), .val (.ref b160), .val (.int (ixx (e0F oq vq))), .val (.int (ixx (e1F oq vq))), .val (.int (ixx (oq (0 : Fin 3)))), .val (.int (ixx (oq (1 : Fin 3)))), .val (.int (ixx (oq (2 : Fin 3)))), .val (.int (enn Sd.f))]) rfl ?_
          show Steps p.tables e below (T188.setTop (mkF m 501 #[.val (.int p0), .val (.int p1), .val (.int p2), .val (.int p3), .val (.ref b101), .val (.int (i5F pi)), .val (.int (ixx (pmF pi 0))), .val (.int (ixx (pmF pi 1))), .val (.int (ixx (pmF pi 2))), .val (.int (tii (t0F tq0))), .val (.int (tii (t1F tq0 dq1))), .val (.int (tii (t2F tq0 dq1 dq2))), .val (.int (b2i cf0)), .val (.int (b2i cf1)), .val (.int (b2i cf2)), .val (.ref b120), .val (.ref b122), .val (.ref b141), .val (.int (ixx vq)), .val (.int (b2i rr)), .val (.ref b160), .val (.int (ixx (e0F oq vq))), .val (.int (ixx (e1F oq vq))), .val (.int (ixx (oq (0 : Fin 3)))), .val (.int (ixx (oq (1 : Fin 3)))), .val (.int (ixx (oq (2 : Fin 3)))), .val (.int (enn Sd.f))] [])) _
          refine XS.iload X188.here hx rfl (hb hby at_501) rfl ?_
          show Steps p.tables e below (T188.setTop (mkF m 503 #[.val (.int p0), .val (.int p1), .val (.int p2), .val (.int p3), .val (.ref b101), .val (.int (i5F pi)), .val (.int (ixx (pmF pi 0))), .val (.int (ixx (pmF pi 1))), .val (.int (ixx (pmF pi 2))), .val (.int (tii (t0F tq0))), .val (.int (tii (t1F tq0 dq1))), .val (.int (tii (t2F tq0 dq1 dq2))), .val (.int (b2i cf0)), .val (.int (b2i cf1)), .val (.int (b2i cf2)), .val (.ref b120), .val (.ref b122), .val (.ref b141), .val (.int (ixx vq)), .val (.int (b2i rr)), .val (.ref b160), .val (.int (ixx (e0F oq vq))), .val (.int (ixx (e1F oq vq))), .val (.int (ixx (oq (0 : Fin 3)))), .val (.int (ixx (oq (1 : Fin 3)))), .val (.int (ixx (oq (2 : Fin 3)))), .val (.int (enn Sd.f))] [(.int (enn Sd.f))])) _
          refine XS.iload X188.here hx rfl (hb hby at_503) rfl ?_
          show Steps p.tables e below (T188.setTop (mkF m 505 #[.val (.int p0), .val (.int p1), .val (.int p2), .val (.int p3), .val (.ref b101), .val (.int (i5F pi)), .val (.int (ixx (pmF pi 0))), .val (.int (ixx (pmF pi 1))), .val (.int (ixx (pmF pi 2))), .val (.int (tii (t0F tq0))), .val (.int (tii (t1F tq0 dq1))), .val (.int (tii (t2F tq0 dq1 dq2))), .val (.int (b2i cf0)), .val (.int (b2i cf1)), .val (.int (b2i cf2)), .val (.ref b120), .val (.ref b122), .val (.ref b141), .val (.int (ixx vq)), .val (.int (b2i rr)), .val (.ref b160), .val (.int (ixx (e0F oq vq))), .val (.int (ixx (e1F oq vq))), .val (.int (ixx (oq (0 : Fin 3)))), .val (.int (ixx (oq (1 : Fin 3)))), .val (.int (ixx (oq (2 : Fin 3)))), .val (.int (enn Sd.f))] [(.int (ixx (oq (0 : Fin 3)))), (.int (enn Sd.f))])) _
          refine XS.icmpYes X188.here hx rfl (pc0 := 505) (pc' := 510) rfl (hb hby at_505) rfl (own_t (ic_eq _ _) (congrArg enn s0)) (by decide) (by decide) ?_
          exact kt
        rw [(congrArg enn s0 : (enn Sd.f) = ixx (oq (0 : Fin 3)))]
        obtain ⟨v190, T190, L190, X190, q190, st190⟩ := own_callV X188 hx hZ (y := (⟨"com/example/tenrec/tenrec/pool/IdleByLastCompletion", "remove", "(I)V"⟩ : MethodName)) (z := (⟨"com/example/tenrec/tenrec/pool/IdleByLastCompletion", "remove", "(I)V"⟩ : MethodName)) hown (hw _ (List.mem_of_getElem? (i := 48) rfl)) (hw _ (List.mem_of_getElem? (i := 49) rfl)) (notFace_of_selects (args := #[]) (mvT hZ (hw _ (List.mem_of_getElem? (i := 51) rfl)))) (hw _ (List.mem_of_getElem? (i := 51) rfl)) (hw _ (List.mem_of_getElem? (i := 50) rfl)) (hw _ (List.mem_of_getElem? (i := 12) rfl)) (hw _ (List.mem_of_getElem? (i := 52) rfl)) (by decide) E182q (hM := (rm9 l Z a0 hw [] b160 (oq (0 : Fin 3)) lc162 bb162 ba162 Sd T182.heap n0 z189 g_b160 g_bb162 g_ba162 ⟨(Nat.ne_of_lt (Nat.lt_of_lt_of_le A160.lt szq_lc162)), (Nat.ne_of_lt (Nat.lt_of_lt_of_le A160.lt szq_bb162)), (Nat.ne_of_lt (Nat.lt_of_lt_of_le A160.lt szq_ba162)), n1162, n2162, n3162⟩ ⟨E182q, Ff182q, Fl182q, Fc182q, Fb182q, Fa182q, Gb182q, Ga182q⟩)) (by decide) (by decide) (by decide) (by decide) e188 (argsL := [(.int (ixx (oq (0 : Fin 3))))]) (rest := []) (Ls := #[.val (.int p0), .val (.int p1), .val (.int p2), .val (.int p3), .val (.ref b101), .val (.int (i5F pi)), .val (.int (ixx (pmF pi 0))), .val (.int (ixx (pmF pi 1))), .val (.int (ixx (pmF pi 2))), .val (.int (tii (t0F tq0))), .val (.int (tii (t1F tq0 dq1))), .val (.int (tii (t2F tq0 dq1 dq2))), .val (.int (b2i cf0)), .val (.int (b2i cf1)), .val (.int (b2i cf2)), .val (.ref b120), .val (.ref b122), .val (.ref b141), .val (.int (ixx vq)), .val (.int (b2i rr)), .val (.ref b160), .val (.int (ixx (e0F oq vq))), .val (.int (ixx (e1F oq vq))), .val (.int (ixx (oq (0 : Fin 3)))), .val (.int (ixx (oq (1 : Fin 3)))), .val (.int (ixx (oq (2 : Fin 3)))), .val (.int (ixx (oq (0 : Fin 3))))]) (by rw [hml]; rfl) (lenOf pd__I_V rfl) (W := 0) (Nat.le_of_eq rfl) (hb hby at_514)
        obtain ⟨rfl, N190q, K190q, E190q, Ff190q, Fl190q, Fc190q, Fb190q, Fa190q, Gb190q, Ga190q⟩ := q190
        have N190 := Fr.app N188 N190q
        have K190 : Keep h0 T190.heap [] := K182.trans K190q (allS (Or.inr sz_b160) (allS (Or.inr sz_bb162) (allS (Or.inr sz_ba162) all0)))
        have z192 : n0 ≤ T190.heap.size := (Nat.le_trans z189 K190q.1)
        obtain ⟨v191, T191, L191, X191, q191, st191⟩ := own_callV X190 hx hZ (y := (⟨"com/example/tenrec/tenrec/pool/IdleByLastCompletion", "first", "()I"⟩ : MethodName)) (z := (⟨"com/example/tenrec/tenrec/pool/IdleByLastCompletion", "first", "()I"⟩ : MethodName)) hown (hw _ (List.mem_of_getElem? (i := 53) rfl)) (hw _ (List.mem_of_getElem? (i := 54) rfl)) (notFace_of_selects (args := #[]) (mvT hZ (hw _ (List.mem_of_getElem? (i := 56) rfl)))) (hw _ (List.mem_of_getElem? (i := 56) rfl)) (hw _ (List.mem_of_getElem? (i := 55) rfl)) (hw _ (List.mem_of_getElem? (i := 12) rfl)) (hw _ (List.mem_of_getElem? (i := 57) rfl)) (by decide) E190q (hM := (rm10 l Z a0 hw [] b160 (enn (remF Sd (oq (0 : Fin 3))).f) T190.heap n0 z192 Ff190q)) (by decide) (by decide) (by decide) (by decide) rfl (argsL := []) (rest := []) (Ls := #[.val (.int p0), .val (.int p1), .val (.int p2), .val (.int p3), .val (.ref b101), .val (.int (i5F pi)), .val (.int (ixx (pmF pi 0))), .val (.int (ixx (pmF pi 1))), .val (.int (ixx (pmF pi 2))), .val (.int (tii (t0F tq0))), .val (.int (tii (t1F tq0 dq1))), .val (.int (tii (t2F tq0 dq1 dq2))), .val (.int (b2i cf0)), .val (.int (b2i cf1)), .val (.int (b2i cf2)), .val (.ref b120), .val (.ref b122), .val (.ref b141), .val (.int (ixx vq)), .val (.int (b2i rr)), .val (.ref b160), .val (.int (ixx (e0F oq vq))), .val (.int (ixx (e1F oq vq))), .val (.int (ixx (oq (0 : Fin 3)))), .val (.int (ixx (oq (1 : Fin 3)))), .val (.int (ixx (oq (2 : Fin 3)))), .val (.int (ixx (oq (0 : Fin 3))))]) (by rw [hml]; rfl) (lenOf pd___I rfl) (W := 0) (Nat.le_of_eq rfl) (hb hby at_519)
        obtain ⟨rfl, N191q, e191⟩ := q191
        have N191 := Fr.app N190 N191q
        refine Gl.pre (S' := T191.setTop (mkF m 533 #[.val (.int p0), .val (.int p1), .val (.int p2), .val (.int p3), .val (.ref b101), .val (.int (i5F pi)), .val (.int (ixx (pmF pi 0))), .val (.int (ixx (pmF pi 1))), .val (.int (ixx (pmF pi 2))), .val (.int (tii (t0F tq0))), .val (.int (tii (t1F tq0 dq1))), .val (.int (tii (t2F tq0 dq1 dq2))), .val (.int (b2i cf0)), .val (.int (b2i cf1)), .val (.int (b2i cf2)), .val (.ref b120), .val (.ref b122), .val (.ref b141), .val (.int (ixx vq)), .val (.int (b2i rr)), .val (.ref b160), .val (.int (ixx (e0F oq vq))), .val (.int (ixx (e1F oq vq))), .val (.int (ixx (oq (0 : Fin 3)))), .val (.int (ixx (oq (1 : Fin 3)))), .val (.int (ixx (oq (2 : Fin 3)))), .val (.int (enn (remF Sd (oq (0 : Fin 3))).f))] [])) (fun t kt => ?_) ?_
        · show Steps p.tables e below (T188.setTop (mkF m 510 #[.val (.int p0), .val (.int p1), .val (.int p2), .val (.int p3), .val (.ref b101), .val (.int (i5F pi)), .val (.int (ixx (pmF pi 0))), .val (.int (ixx (pmF pi 1))), .val (.int (ixx (pmF pi 2))), .val (.int (tii (t0F tq0))), .val (.int (tii (t1F tq0 dq1))), .val (.int (tii (t2F tq0 dq1 dq2))), .val (.int (b2i cf0)), .val (.int (b2i cf1)), .val (.int (b2i cf2)), .val (.ref b120), .val (.ref b122), .val (.ref b141), .val (.int (ixx vq)), .val (.int (b2i rr)), .val (.ref b160), .val (.int (ixx (e0F oq vq))), .val (.int (ixx (e1F oq vq))), .val (.int (ixx (oq (0 : Fin 3)))), .val (.int (ixx (oq (1 : Fin 3)))), .val (.int (ixx (oq (2 : Fin 3)))), .val (.int (ixx (oq (0 : Fin 3))))] [])) _
          refine XS.aload X188.here hx rfl (hb hby at_510) rfl rfl ?_
          show Steps p.tables e below (T188.setTop (mkF m 512 #[.val (.int p0), .val (.int p1), .val (.int p2), .val (.int p3), .val (.ref b101), .val (.int (i5F pi)), .val (.int (ixx (pmF pi 0))), .val (.int (ixx (pmF pi 1))), .val (.int (ixx (pmF pi 2))), .val (.int (tii (t0F tq0))), .val (.int (tii (t1F tq0 dq1))), .val (.int (tii (t2F tq0 dq1 dq2))), .val (.int (b2i cf0)), .val (.int (b2i cf1)), .val (.int (b2i cf2)), .val (.ref b120), .val (.ref b122), .val (.ref b141), .val (.int (ixx vq)), .val (.int (b2i rr)), .val (.ref b160), .val (.int (ixx (e0F oq vq))), .val (.int (ixx (e1F oq vq))), .val (.int (ixx (oq (0 : Fin 3)))), .val (.int (ixx (oq (1 : Fin 3)))), .val (.int (ixx (oq (2 : Fin 3)))), .val (.int (ixx (oq (0 : Fin 3))))] [(.ref b160)])) _
          refine XS.iload X188.here hx rfl (hb hby at_512) rfl ?_
          show Steps p.tables e below (T188.setTop (mkF m 514 #[.val (.int p0), .val (.int p1), .val (.int p2), .val (.int p3), .val (.ref b101), .val (.int (i5F pi)), .val (.int (ixx (pmF pi 0))), .val (.int (ixx (pmF pi 1))), .val (.int (ixx (pmF pi 2))), .val (.int (tii (t0F tq0))), .val (.int (tii (t1F tq0 dq1))), .val (.int (tii (t2F tq0 dq1 dq2))), .val (.int (b2i cf0)), .val (.int (b2i cf1)), .val (.int (b2i cf2)), .val (.ref b120), .val (.ref b122), .val (.ref b141), .val (.int (ixx vq)), .val (.int (b2i rr)), .val (.ref b160), .val (.int (ixx (e0F oq vq))), .val (.int (ixx (e1F oq vq))), .val (.int (ixx (oq (0 : Fin 3)))), .val (.int (ixx (oq (1 : Fin 3)))), .val (.int (ixx (oq (2 : Fin 3)))), .val (.int (ixx (oq (0 : Fin 3))))] [(.int (ixx (oq (0 : Fin 3)))), (.ref b160)])) _
          refine st190 _ ?_
          show Steps p.tables e below (T190.setTop (mkF m 517 #[.val (.int p0), .val (.int p1), .val (.int p2), .val (.int p3), .val (.ref b101), .val (.int (i5F pi)), .val (.int (ixx (pmF pi 0))), .val (.int (ixx (pmF pi 1))), .val (.int (ixx (pmF pi 2))), .val (.int (tii (t0F tq0))), .val (.int (tii (t1F tq0 dq1))), .val (.int (tii (t2F tq0 dq1 dq2))), .val (.int (b2i cf0)), .val (.int (b2i cf1)), .val (.int (b2i cf2)), .val (.ref b120), .val (.ref b122), .val (.ref b141), .val (.int (ixx vq)), .val (.int (b2i rr)), .val (.ref b160), .val (.int (ixx (e0F oq vq))), .val (.int (ixx (e1F oq vq))), .val (.int (ixx (oq (0 : Fin 3)))), .val (.int (ixx (oq (1 : Fin 3)))), .val (.int (ixx (oq (2 : Fin 3)))), .val (.int (ixx (oq (0 : Fin 3))))] [])) _
          refine XS.aload X190.here hx rfl (hb hby at_517) rfl rfl ?_
          show Steps p.tables e below (T190.setTop (mkF m 519 #[.val (.int p0), .val (.int p1), .val (.int p2), .val (.int p3), .val (.ref b101), .val (.int (i5F pi)), .val (.int (ixx (pmF pi 0))), .val (.int (ixx (pmF pi 1))), .val (.int (ixx (pmF pi 2))), .val (.int (tii (t0F tq0))), .val (.int (tii (t1F tq0 dq1))), .val (.int (tii (t2F tq0 dq1 dq2))), .val (.int (b2i cf0)), .val (.int (b2i cf1)), .val (.int (b2i cf2)), .val (.ref b120), .val (.ref b122), .val (.ref b141), .val (.int (ixx vq)), .val (.int (b2i rr)), .val (.ref b160), .val (.int (ixx (e0F oq vq))), .val (.int (ixx (e1F oq vq))), .val (.int (ixx (oq (0 : Fin 3)))), .val (.int (ixx (oq (1 : Fin 3)))), .val (.int (ixx (oq (2 : Fin 3)))), .val (.int (ixx (oq (0 : Fin 3))))] [(.ref b160)])) _
          refine st191 _ ?_
          show Steps p.tables e below (T191.setTop (mkF m 522 #[.val (.int p0), .val (.int p1), .val (.int p2), .val (.int p3), .val (.ref b101), .val (.int (i5F pi)), .val (.int (ixx (pmF pi 0))), .val (.int (ixx (pmF pi 1))), .val (.int (ixx (pmF pi 2))), .val (.int (tii (t0F tq0))), .val (.int (tii (t1F tq0 dq1))), .val (.int (tii (t2F tq0 dq1 dq2))), .val (.int (b2i cf0)), .val (.int (b2i cf1)), .val (.int (b2i cf2)), .val (.ref b120), .val (.ref b122), .val (.ref b141), .val (.int (ixx vq)), .val (.int (b2i rr)), .val (.ref b160), .val (.int (ixx (e0F oq vq))), .val (.int (ixx (e1F oq vq))), .val (.int (ixx (oq (0 : Fin 3)))), .val (.int (ixx (oq (1 : Fin 3)))), .val (.int (ixx (oq (2 : Fin 3)))), .val (.int (ixx (oq (0 : Fin 3))))] [(.int (enn (remF Sd (oq (0 : Fin 3))).f))])) _
          refine XS.istore X191.here hx rfl (hb hby at_522) rfl (l' := #[.val (.int p0), .val (.int p1), .val (.int p2), .val (.int p3), .val (.ref b101), .val (.int (i5F pi)), .val (.int (ixx (pmF pi 0))), .val (.int (ixx (pmF pi 1))), .val (.int (ixx (pmF pi 2))), .val (.int (tii (t0F tq0))), .val (.int (tii (t1F tq0 dq1))), .val (.int (tii (t2F tq0 dq1 dq2))), .val (.int (b2i cf0)), .val (.int (b2i cf1)), .val (.int (b2i cf2)), .val (.ref b120), .val (.ref b122), .val (.ref b141), .val (.int (ixx vq)), .val (.int (b2i rr)), .val (.ref b160), .val (.int (ixx (e0F oq vq))), .val (.int (ixx (e1F oq vq))), .val (.int (ixx (oq (0 : Fin 3)))), .val (.int (ixx (oq (1 : Fin 3)))), .val (.int (ixx (oq (2 : Fin 3)))), .val (.int (enn (remF Sd (oq (0 : Fin 3))).f))]) rfl ?_
          show Steps p.tables e below (T191.setTop (mkF m 524 #[.val (.int p0), .val (.int p1), .val (.int p2), .val (.int p3), .val (.ref b101), .val (.int (i5F pi)), .val (.int (ixx (pmF pi 0))), .val (.int (ixx (pmF pi 1))), .val (.int (ixx (pmF pi 2))), .val (.int (tii (t0F tq0))), .val (.int (tii (t1F tq0 dq1))), .val (.int (tii (t2F tq0 dq1 dq2))), .val (.int (b2i cf0)), .val (.int (b2i cf1)), .val (.int (b2i cf2)), .val (.ref b120), .val (.ref b122), .val (.ref b141), .val (.int (ixx vq)), .val (.int (b2i rr)), .val (.ref b160), .val (.int (ixx (e0F oq vq))), .val (.int (ixx (e1F oq vq))), .val (.int (ixx (oq (0 : Fin 3)))), .val (.int (ixx (oq (1 : Fin 3)))), .val (.int (ixx (oq (2 : Fin 3)))), .val (.int (enn (remF Sd (oq (0 : Fin 3))).f))] [])) _
          refine XS.iload X191.here hx rfl (hb hby at_524) rfl ?_
          show Steps p.tables e below (T191.setTop (mkF m 526 #[.val (.int p0), .val (.int p1), .val (.int p2), .val (.int p3), .val (.ref b101), .val (.int (i5F pi)), .val (.int (ixx (pmF pi 0))), .val (.int (ixx (pmF pi 1))), .val (.int (ixx (pmF pi 2))), .val (.int (tii (t0F tq0))), .val (.int (tii (t1F tq0 dq1))), .val (.int (tii (t2F tq0 dq1 dq2))), .val (.int (b2i cf0)), .val (.int (b2i cf1)), .val (.int (b2i cf2)), .val (.ref b120), .val (.ref b122), .val (.ref b141), .val (.int (ixx vq)), .val (.int (b2i rr)), .val (.ref b160), .val (.int (ixx (e0F oq vq))), .val (.int (ixx (e1F oq vq))), .val (.int (ixx (oq (0 : Fin 3)))), .val (.int (ixx (oq (1 : Fin 3)))), .val (.int (ixx (oq (2 : Fin 3)))), .val (.int (enn (remF Sd (oq (0 : Fin 3))).f))] [(.int (enn (remF Sd (oq (0 : Fin 3))).f))])) _
          refine XS.iload X191.here hx rfl (hb hby at_526) rfl ?_
          show Steps p.tables e below (T191.setTop (mkF m 528 #[.val (.int p0), .val (.int p1), .val (.int p2), .val (.int p3), .val (.ref b101), .val (.int (i5F pi)), .val (.int (ixx (pmF pi 0))), .val (.int (ixx (pmF pi 1))), .val (.int (ixx (pmF pi 2))), .val (.int (tii (t0F tq0))), .val (.int (tii (t1F tq0 dq1))), .val (.int (tii (t2F tq0 dq1 dq2))), .val (.int (b2i cf0)), .val (.int (b2i cf1)), .val (.int (b2i cf2)), .val (.ref b120), .val (.ref b122), .val (.ref b141), .val (.int (ixx vq)), .val (.int (b2i rr)), .val (.ref b160), .val (.int (ixx (e0F oq vq))), .val (.int (ixx (e1F oq vq))), .val (.int (ixx (oq (0 : Fin 3)))), .val (.int (ixx (oq (1 : Fin 3)))), .val (.int (ixx (oq (2 : Fin 3)))), .val (.int (enn (remF Sd (oq (0 : Fin 3))).f))] [(.int (ixx (oq (1 : Fin 3)))), (.int (enn (remF Sd (oq (0 : Fin 3))).f))])) _
          refine XS.icmpYes X191.here hx rfl (pc0 := 528) (pc' := 533) rfl (hb hby at_528) rfl (own_t (ic_eq _ _) (congrArg enn s1)) (by decide) (by decide) ?_
          exact kt
        rw [(congrArg enn s1 : (enn (remF Sd (oq (0 : Fin 3))).f) = ixx (oq (1 : Fin 3)))]
        obtain ⟨v193, T193, L193, X193, q193, st193⟩ := own_callV X191 hx hZ (y := (⟨"com/example/tenrec/tenrec/pool/IdleByLastCompletion", "remove", "(I)V"⟩ : MethodName)) (z := (⟨"com/example/tenrec/tenrec/pool/IdleByLastCompletion", "remove", "(I)V"⟩ : MethodName)) hown (hw _ (List.mem_of_getElem? (i := 48) rfl)) (hw _ (List.mem_of_getElem? (i := 49) rfl)) (notFace_of_selects (args := #[]) (mvT hZ (hw _ (List.mem_of_getElem? (i := 51) rfl)))) (hw _ (List.mem_of_getElem? (i := 51) rfl)) (hw _ (List.mem_of_getElem? (i := 50) rfl)) (hw _ (List.mem_of_getElem? (i := 12) rfl)) (hw _ (List.mem_of_getElem? (i := 52) rfl)) (by decide) E190q (hM := (rm9 l Z a0 hw [] b160 (oq (1 : Fin 3)) lc162 bb162 ba162 (remF Sd (oq (0 : Fin 3))) T190.heap n0 z192 g_b160 g_bb162 g_ba162 ⟨(Nat.ne_of_lt (Nat.lt_of_lt_of_le A160.lt szq_lc162)), (Nat.ne_of_lt (Nat.lt_of_lt_of_le A160.lt szq_bb162)), (Nat.ne_of_lt (Nat.lt_of_lt_of_le A160.lt szq_ba162)), n1162, n2162, n3162⟩ ⟨E190q, Ff190q, Fl190q, Fc190q, Fb190q, Fa190q, Gb190q, Ga190q⟩)) (by decide) (by decide) (by decide) (by decide) e191 (argsL := [(.int (ixx (oq (1 : Fin 3))))]) (rest := []) (Ls := #[.val (.int p0), .val (.int p1), .val (.int p2), .val (.int p3), .val (.ref b101), .val (.int (i5F pi)), .val (.int (ixx (pmF pi 0))), .val (.int (ixx (pmF pi 1))), .val (.int (ixx (pmF pi 2))), .val (.int (tii (t0F tq0))), .val (.int (tii (t1F tq0 dq1))), .val (.int (tii (t2F tq0 dq1 dq2))), .val (.int (b2i cf0)), .val (.int (b2i cf1)), .val (.int (b2i cf2)), .val (.ref b120), .val (.ref b122), .val (.ref b141), .val (.int (ixx vq)), .val (.int (b2i rr)), .val (.ref b160), .val (.int (ixx (e0F oq vq))), .val (.int (ixx (e1F oq vq))), .val (.int (ixx (oq (0 : Fin 3)))), .val (.int (ixx (oq (1 : Fin 3)))), .val (.int (ixx (oq (2 : Fin 3)))), .val (.int (ixx (oq (1 : Fin 3))))]) (by rw [hml]; rfl) (lenOf pd__I_V rfl) (W := 0) (Nat.le_of_eq rfl) (hb hby at_537)
        obtain ⟨rfl, N193q, K193q, E193q, Ff193q, Fl193q, Fc193q, Fb193q, Fa193q, Gb193q, Ga193q⟩ := q193
        have N193 := Fr.app N191 N193q
        have K193 : Keep h0 T193.heap [] := K190.trans K193q (allS (Or.inr sz_b160) (allS (Or.inr sz_bb162) (allS (Or.inr sz_ba162) all0)))
        have z195 : n0 ≤ T193.heap.size := (Nat.le_trans z192 K193q.1)
        obtain ⟨v194, T194, L194, X194, q194, st194⟩ := own_callV X193 hx hZ (y := (⟨"com/example/tenrec/tenrec/pool/IdleByLastCompletion", "first", "()I"⟩ : MethodName)) (z := (⟨"com/example/tenrec/tenrec/pool/IdleByLastCompletion", "first", "()I"⟩ : MethodName)) hown (hw _ (List.mem_of_getElem? (i := 53) rfl)) (hw _ (List.mem_of_getElem? (i := 54) rfl)) (notFace_of_selects (args := #[]) (mvT hZ (hw _ (List.mem_of_getElem? (i := 56) rfl)))) (hw _ (List.mem_of_getElem? (i := 56) rfl)) (hw _ (List.mem_of_getElem? (i := 55) rfl)) (hw _ (List.mem_of_getElem? (i := 12) rfl)) (hw _ (List.mem_of_getElem? (i := 57) rfl)) (by decide) E193q (hM := (rm10 l Z a0 hw [] b160 (enn (remF (remF Sd (oq (0 : Fin 3))) (oq (1 : Fin 3))).f) T193.heap n0 z195 Ff193q)) (by decide) (by decide) (by decide) (by decide) rfl (argsL := []) (rest := []) (Ls := #[.val (.int p0), .val (.int p1), .val (.int p2), .val (.int p3), .val (.ref b101), .val (.int (i5F pi)), .val (.int (ixx (pmF pi 0))), .val (.int (ixx (pmF pi 1))), .val (.int (ixx (pmF pi 2))), .val (.int (tii (t0F tq0))), .val (.int (tii (t1F tq0 dq1))), .val (.int (tii (t2F tq0 dq1 dq2))), .val (.int (b2i cf0)), .val (.int (b2i cf1)), .val (.int (b2i cf2)), .val (.ref b120), .val (.ref b122), .val (.ref b141), .val (.int (ixx vq)), .val (.int (b2i rr)), .val (.ref b160), .val (.int (ixx (e0F oq vq))), .val (.int (ixx (e1F oq vq))), .val (.int (ixx (oq (0 : Fin 3)))), .val (.int (ixx (oq (1 : Fin 3)))), .val (.int (ixx (oq (2 : Fin 3)))), .val (.int (ixx (oq (1 : Fin 3))))]) (by rw [hml]; rfl) (lenOf pd___I rfl) (W := 0) (Nat.le_of_eq rfl) (hb hby at_542)
        obtain ⟨rfl, N194q, e194⟩ := q194
        have N194 := Fr.app N193 N194q
        refine Gl.pre (S' := T194.setTop (mkF m 564 #[.val (.int p0), .val (.int p1), .val (.int p2), .val (.int p3), .val (.ref b101), .val (.int (i5F pi)), .val (.int (ixx (pmF pi 0))), .val (.int (ixx (pmF pi 1))), .val (.int (ixx (pmF pi 2))), .val (.int (tii (t0F tq0))), .val (.int (tii (t1F tq0 dq1))), .val (.int (tii (t2F tq0 dq1 dq2))), .val (.int (b2i cf0)), .val (.int (b2i cf1)), .val (.int (b2i cf2)), .val (.ref b120), .val (.ref b122), .val (.ref b141), .val (.int (ixx vq)), .val (.int (b2i rr)), .val (.ref b160), .val (.int (ixx (e0F oq vq))), .val (.int (ixx (e1F oq vq))), .val (.int (ixx (oq (0 : Fin 3)))), .val (.int (ixx (oq (1 : Fin 3)))), .val (.int (ixx (oq (2 : Fin 3)))), .val (.int (enn (remF (remF Sd (oq (0 : Fin 3))) (oq (1 : Fin 3))).f))] [])) (fun t kt => ?_) ?_
        · show Steps p.tables e below (T191.setTop (mkF m 533 #[.val (.int p0), .val (.int p1), .val (.int p2), .val (.int p3), .val (.ref b101), .val (.int (i5F pi)), .val (.int (ixx (pmF pi 0))), .val (.int (ixx (pmF pi 1))), .val (.int (ixx (pmF pi 2))), .val (.int (tii (t0F tq0))), .val (.int (tii (t1F tq0 dq1))), .val (.int (tii (t2F tq0 dq1 dq2))), .val (.int (b2i cf0)), .val (.int (b2i cf1)), .val (.int (b2i cf2)), .val (.ref b120), .val (.ref b122), .val (.ref b141), .val (.int (ixx vq)), .val (.int (b2i rr)), .val (.ref b160), .val (.int (ixx (e0F oq vq))), .val (.int (ixx (e1F oq vq))), .val (.int (ixx (oq (0 : Fin 3)))), .val (.int (ixx (oq (1 : Fin 3)))), .val (.int (ixx (oq (2 : Fin 3)))), .val (.int (ixx (oq (1 : Fin 3))))] [])) _
          refine XS.aload X191.here hx rfl (hb hby at_533) rfl rfl ?_
          show Steps p.tables e below (T191.setTop (mkF m 535 #[.val (.int p0), .val (.int p1), .val (.int p2), .val (.int p3), .val (.ref b101), .val (.int (i5F pi)), .val (.int (ixx (pmF pi 0))), .val (.int (ixx (pmF pi 1))), .val (.int (ixx (pmF pi 2))), .val (.int (tii (t0F tq0))), .val (.int (tii (t1F tq0 dq1))), .val (.int (tii (t2F tq0 dq1 dq2))), .val (.int (b2i cf0)), .val (.int (b2i cf1)), .val (.int (b2i cf2)), .val (.ref b120), .val (.ref b122), .val (.ref b141), .val (.int (ixx vq)), .val (.int (b2i rr)), .val (.ref b160), .val (.int (ixx (e0F oq vq))), .val (.int (ixx (e1F oq vq))), .val (.int (ixx (oq (0 : Fin 3)))), .val (.int (ixx (oq (1 : Fin 3)))), .val (.int (ixx (oq (2 : Fin 3)))), .val (.int (ixx (oq (1 : Fin 3))))] [(.ref b160)])) _
          refine XS.iload X191.here hx rfl (hb hby at_535) rfl ?_
          show Steps p.tables e below (T191.setTop (mkF m 537 #[.val (.int p0), .val (.int p1), .val (.int p2), .val (.int p3), .val (.ref b101), .val (.int (i5F pi)), .val (.int (ixx (pmF pi 0))), .val (.int (ixx (pmF pi 1))), .val (.int (ixx (pmF pi 2))), .val (.int (tii (t0F tq0))), .val (.int (tii (t1F tq0 dq1))), .val (.int (tii (t2F tq0 dq1 dq2))), .val (.int (b2i cf0)), .val (.int (b2i cf1)), .val (.int (b2i cf2)), .val (.ref b120), .val (.ref b122), .val (.ref b141), .val (.int (ixx vq)), .val (.int (b2i rr)), .val (.ref b160), .val (.int (ixx (e0F oq vq))), .val (.int (ixx (e1F oq vq))), .val (.int (ixx (oq (0 : Fin 3)))), .val (.int (ixx (oq (1 : Fin 3)))), .val (.int (ixx (oq (2 : Fin 3)))), .val (.int (ixx (oq (1 : Fin 3))))] [(.int (ixx (oq (1 : Fin 3)))), (.ref b160)])) _
          refine st193 _ ?_
          show Steps p.tables e below (T193.setTop (mkF m 540 #[.val (.int p0), .val (.int p1), .val (.int p2), .val (.int p3), .val (.ref b101), .val (.int (i5F pi)), .val (.int (ixx (pmF pi 0))), .val (.int (ixx (pmF pi 1))), .val (.int (ixx (pmF pi 2))), .val (.int (tii (t0F tq0))), .val (.int (tii (t1F tq0 dq1))), .val (.int (tii (t2F tq0 dq1 dq2))), .val (.int (b2i cf0)), .val (.int (b2i cf1)), .val (.int (b2i cf2)), .val (.ref b120), .val (.ref b122), .val (.ref b141), .val (.int (ixx vq)), .val (.int (b2i rr)), .val (.ref b160), .val (.int (ixx (e0F oq vq))), .val (.int (ixx (e1F oq vq))), .val (.int (ixx (oq (0 : Fin 3)))), .val (.int (ixx (oq (1 : Fin 3)))), .val (.int (ixx (oq (2 : Fin 3)))), .val (.int (ixx (oq (1 : Fin 3))))] [])) _
          refine XS.aload X193.here hx rfl (hb hby at_540) rfl rfl ?_
          show Steps p.tables e below (T193.setTop (mkF m 542 #[.val (.int p0), .val (.int p1), .val (.int p2), .val (.int p3), .val (.ref b101), .val (.int (i5F pi)), .val (.int (ixx (pmF pi 0))), .val (.int (ixx (pmF pi 1))), .val (.int (ixx (pmF pi 2))), .val (.int (tii (t0F tq0))), .val (.int (tii (t1F tq0 dq1))), .val (.int (tii (t2F tq0 dq1 dq2))), .val (.int (b2i cf0)), .val (.int (b2i cf1)), .val (.int (b2i cf2)), .val (.ref b120), .val (.ref b122), .val (.ref b141), .val (.int (ixx vq)), .val (.int (b2i rr)), .val (.ref b160), .val (.int (ixx (e0F oq vq))), .val (.int (ixx (e1F oq vq))), .val (.int (ixx (oq (0 : Fin 3)))), .val (.int (ixx (oq (1 : Fin 3)))), .val (.int (ixx (oq (2 : Fin 3)))), .val (.int (ixx (oq (1 : Fin 3))))] [(.ref b160)])) _
          refine st194 _ ?_
          show Steps p.tables e below (T194.setTop (mkF m 545 #[.val (.int p0), .val (.int p1), .val (.int p2), .val (.int p3), .val (.ref b101), .val (.int (i5F pi)), .val (.int (ixx (pmF pi 0))), .val (.int (ixx (pmF pi 1))), .val (.int (ixx (pmF pi 2))), .val (.int (tii (t0F tq0))), .val (.int (tii (t1F tq0 dq1))), .val (.int (tii (t2F tq0 dq1 dq2))), .val (.int (b2i cf0)), .val (.int (b2i cf1)), .val (.int (b2i cf2)), .val (.ref b120), .val (.ref b122), .val (.ref b141), .val (.int (ixx vq)), .val (.int (b2i rr)), .val (.ref b160), .val (.int (ixx (e0F oq vq))), .val (.int (ixx (e1F oq vq))), .val (.int (ixx (oq (0 : Fin 3)))), .val (.int (ixx (oq (1 : Fin 3)))), .val (.int (ixx (oq (2 : Fin 3)))), .val (.int (ixx (oq (1 : Fin 3))))] [(.int (enn (remF (remF Sd (oq (0 : Fin 3))) (oq (1 : Fin 3))).f))])) _
          refine XS.istore X194.here hx rfl (hb hby at_545) rfl (l' := #[.val (.int p0), .val (.int p1), .val (.int p2), .val (.int p3), .val (.ref b101), .val (.int (i5F pi)), .val (.int (ixx (pmF pi 0))), .val (.int (ixx (pmF pi 1))), .val (.int (ixx (pmF pi 2))), .val (.int (tii (t0F tq0))), .val (.int (tii (t1F tq0 dq1))), .val (.int (tii (t2F tq0 dq1 dq2))), .val (.int (b2i cf0)), .val (.int (b2i cf1)), .val (.int (b2i cf2)), .val (.ref b120), .val (.ref b122), .val (.ref b141), .val (.int (ixx vq)), .val (.int (b2i rr)), .val (.ref b160), .val (.int (ixx (e0F oq vq))), .val (.int (ixx (e1F oq vq))), .val (.int (ixx (oq (0 : Fin 3)))), .val (.int (ixx (oq (1 : Fin 3)))), .val (.int (ixx (oq (2 : Fin 3)))), .val (.int (enn (remF (remF Sd (oq (0 : Fin 3))) (oq (1 : Fin 3))).f))]) rfl ?_
          show Steps p.tables e below (T194.setTop (mkF m 547 #[.val (.int p0), .val (.int p1), .val (.int p2), .val (.int p3), .val (.ref b101), .val (.int (i5F pi)), .val (.int (ixx (pmF pi 0))), .val (.int (ixx (pmF pi 1))), .val (.int (ixx (pmF pi 2))), .val (.int (tii (t0F tq0))), .val (.int (tii (t1F tq0 dq1))), .val (.int (tii (t2F tq0 dq1 dq2))), .val (.int (b2i cf0)), .val (.int (b2i cf1)), .val (.int (b2i cf2)), .val (.ref b120), .val (.ref b122), .val (.ref b141), .val (.int (ixx vq)), .val (.int (b2i rr)), .val (.ref b160), .val (.int (ixx (e0F oq vq))), .val (.int (ixx (e1F oq vq))), .val (.int (ixx (oq (0 : Fin 3)))), .val (.int (ixx (oq (1 : Fin 3)))), .val (.int (ixx (oq (2 : Fin 3)))), .val (.int (enn (remF (remF Sd (oq (0 : Fin 3))) (oq (1 : Fin 3))).f))] [])) _
          refine XS.iload X194.here hx rfl (hb hby at_547) rfl ?_
          show Steps p.tables e below (T194.setTop (mkF m 549 #[.val (.int p0), .val (.int p1), .val (.int p2), .val (.int p3), .val (.ref b101), .val (.int (i5F pi)), .val (.int (ixx (pmF pi 0))), .val (.int (ixx (pmF pi 1))), .val (.int (ixx (pmF pi 2))), .val (.int (tii (t0F tq0))), .val (.int (tii (t1F tq0 dq1))), .val (.int (tii (t2F tq0 dq1 dq2))), .val (.int (b2i cf0)), .val (.int (b2i cf1)), .val (.int (b2i cf2)), .val (.ref b120), .val (.ref b122), .val (.ref b141), .val (.int (ixx vq)), .val (.int (b2i rr)), .val (.ref b160), .val (.int (ixx (e0F oq vq))), .val (.int (ixx (e1F oq vq))), .val (.int (ixx (oq (0 : Fin 3)))), .val (.int (ixx (oq (1 : Fin 3)))), .val (.int (ixx (oq (2 : Fin 3)))), .val (.int (enn (remF (remF Sd (oq (0 : Fin 3))) (oq (1 : Fin 3))).f))] [(.int (enn (remF (remF Sd (oq (0 : Fin 3))) (oq (1 : Fin 3))).f))])) _
          refine XS.iload X194.here hx rfl (hb hby at_549) rfl ?_
          show Steps p.tables e below (T194.setTop (mkF m 551 #[.val (.int p0), .val (.int p1), .val (.int p2), .val (.int p3), .val (.ref b101), .val (.int (i5F pi)), .val (.int (ixx (pmF pi 0))), .val (.int (ixx (pmF pi 1))), .val (.int (ixx (pmF pi 2))), .val (.int (tii (t0F tq0))), .val (.int (tii (t1F tq0 dq1))), .val (.int (tii (t2F tq0 dq1 dq2))), .val (.int (b2i cf0)), .val (.int (b2i cf1)), .val (.int (b2i cf2)), .val (.ref b120), .val (.ref b122), .val (.ref b141), .val (.int (ixx vq)), .val (.int (b2i rr)), .val (.ref b160), .val (.int (ixx (e0F oq vq))), .val (.int (ixx (e1F oq vq))), .val (.int (ixx (oq (0 : Fin 3)))), .val (.int (ixx (oq (1 : Fin 3)))), .val (.int (ixx (oq (2 : Fin 3)))), .val (.int (enn (remF (remF Sd (oq (0 : Fin 3))) (oq (1 : Fin 3))).f))] [(.int (ixx (oq (2 : Fin 3)))), (.int (enn (remF (remF Sd (oq (0 : Fin 3))) (oq (1 : Fin 3))).f))])) _
          refine XS.icmpYes X194.here hx rfl (pc0 := 551) (pc' := 556) rfl (hb hby at_551) rfl (own_t (ic_eq _ _) (congrArg enn s2)) (by decide) (by decide) ?_
          show Steps p.tables e below (T194.setTop (mkF m 556 #[.val (.int p0), .val (.int p1), .val (.int p2), .val (.int p3), .val (.ref b101), .val (.int (i5F pi)), .val (.int (ixx (pmF pi 0))), .val (.int (ixx (pmF pi 1))), .val (.int (ixx (pmF pi 2))), .val (.int (tii (t0F tq0))), .val (.int (tii (t1F tq0 dq1))), .val (.int (tii (t2F tq0 dq1 dq2))), .val (.int (b2i cf0)), .val (.int (b2i cf1)), .val (.int (b2i cf2)), .val (.ref b120), .val (.ref b122), .val (.ref b141), .val (.int (ixx vq)), .val (.int (b2i rr)), .val (.ref b160), .val (.int (ixx (e0F oq vq))), .val (.int (ixx (e1F oq vq))), .val (.int (ixx (oq (0 : Fin 3)))), .val (.int (ixx (oq (1 : Fin 3)))), .val (.int (ixx (oq (2 : Fin 3)))), .val (.int (enn (remF (remF Sd (oq (0 : Fin 3))) (oq (1 : Fin 3))).f))] [])) _
          refine XS.iload X194.here hx rfl (hb hby at_556) rfl ?_
          show Steps p.tables e below (T194.setTop (mkF m 558 #[.val (.int p0), .val (.int p1), .val (.int p2), .val (.int p3), .val (.ref b101), .val (.int (i5F pi)), .val (.int (ixx (pmF pi 0))), .val (.int (ixx (pmF pi 1))), .val (.int (ixx (pmF pi 2))), .val (.int (tii (t0F tq0))), .val (.int (tii (t1F tq0 dq1))), .val (.int (tii (t2F tq0 dq1 dq2))), .val (.int (b2i cf0)), .val (.int (b2i cf1)), .val (.int (b2i cf2)), .val (.ref b120), .val (.ref b122), .val (.ref b141), .val (.int (ixx vq)), .val (.int (b2i rr)), .val (.ref b160), .val (.int (ixx (e0F oq vq))), .val (.int (ixx (e1F oq vq))), .val (.int (ixx (oq (0 : Fin 3)))), .val (.int (ixx (oq (1 : Fin 3)))), .val (.int (ixx (oq (2 : Fin 3)))), .val (.int (enn (remF (remF Sd (oq (0 : Fin 3))) (oq (1 : Fin 3))).f))] [(.int (ixx (oq (2 : Fin 3))))])) _
          refine XS.iconst X194.here hx rfl (hb hby at_558) ?_
          show Steps p.tables e below (T194.setTop (mkF m 559 #[.val (.int p0), .val (.int p1), .val (.int p2), .val (.int p3), .val (.ref b101), .val (.int (i5F pi)), .val (.int (ixx (pmF pi 0))), .val (.int (ixx (pmF pi 1))), .val (.int (ixx (pmF pi 2))), .val (.int (tii (t0F tq0))), .val (.int (tii (t1F tq0 dq1))), .val (.int (tii (t2F tq0 dq1 dq2))), .val (.int (b2i cf0)), .val (.int (b2i cf1)), .val (.int (b2i cf2)), .val (.ref b120), .val (.ref b122), .val (.ref b141), .val (.int (ixx vq)), .val (.int (b2i rr)), .val (.ref b160), .val (.int (ixx (e0F oq vq))), .val (.int (ixx (e1F oq vq))), .val (.int (ixx (oq (0 : Fin 3)))), .val (.int (ixx (oq (1 : Fin 3)))), .val (.int (ixx (oq (2 : Fin 3)))), .val (.int (enn (remF (remF Sd (oq (0 : Fin 3))) (oq (1 : Fin 3))).f))] [(.int (-1 : Int32)), (.int (ixx (oq (2 : Fin 3))))])) _
          refine XS.icmpYes X194.here hx rfl (pc0 := 559) (pc' := 564) rfl (hb hby at_559) rfl (own_nt (ic_ne _ _) (own_ix_ne _)) (by decide) (by decide) ?_
          exact kt
        rw [(congrArg enn s2 : (enn (remF (remF Sd (oq (0 : Fin 3))) (oq (1 : Fin 3))).f) = ixx (oq (2 : Fin 3)))]
        obtain ⟨v196, T196, L196, X196, q196, st196⟩ := own_callV X194 hx hZ (y := (⟨"com/example/tenrec/tenrec/pool/IdleByLastCompletion", "remove", "(I)V"⟩ : MethodName)) (z := (⟨"com/example/tenrec/tenrec/pool/IdleByLastCompletion", "remove", "(I)V"⟩ : MethodName)) hown (hw _ (List.mem_of_getElem? (i := 48) rfl)) (hw _ (List.mem_of_getElem? (i := 49) rfl)) (notFace_of_selects (args := #[]) (mvT hZ (hw _ (List.mem_of_getElem? (i := 51) rfl)))) (hw _ (List.mem_of_getElem? (i := 51) rfl)) (hw _ (List.mem_of_getElem? (i := 50) rfl)) (hw _ (List.mem_of_getElem? (i := 12) rfl)) (hw _ (List.mem_of_getElem? (i := 52) rfl)) (by decide) E193q (hM := (rm9 l Z a0 hw [] b160 (oq (2 : Fin 3)) lc162 bb162 ba162 (remF (remF Sd (oq (0 : Fin 3))) (oq (1 : Fin 3))) T193.heap n0 z195 g_b160 g_bb162 g_ba162 ⟨(Nat.ne_of_lt (Nat.lt_of_lt_of_le A160.lt szq_lc162)), (Nat.ne_of_lt (Nat.lt_of_lt_of_le A160.lt szq_bb162)), (Nat.ne_of_lt (Nat.lt_of_lt_of_le A160.lt szq_ba162)), n1162, n2162, n3162⟩ ⟨E193q, Ff193q, Fl193q, Fc193q, Fb193q, Fa193q, Gb193q, Ga193q⟩)) (by decide) (by decide) (by decide) (by decide) e194 (argsL := [(.int (ixx (oq (2 : Fin 3))))]) (rest := []) (Ls := #[.val (.int p0), .val (.int p1), .val (.int p2), .val (.int p3), .val (.ref b101), .val (.int (i5F pi)), .val (.int (ixx (pmF pi 0))), .val (.int (ixx (pmF pi 1))), .val (.int (ixx (pmF pi 2))), .val (.int (tii (t0F tq0))), .val (.int (tii (t1F tq0 dq1))), .val (.int (tii (t2F tq0 dq1 dq2))), .val (.int (b2i cf0)), .val (.int (b2i cf1)), .val (.int (b2i cf2)), .val (.ref b120), .val (.ref b122), .val (.ref b141), .val (.int (ixx vq)), .val (.int (b2i rr)), .val (.ref b160), .val (.int (ixx (e0F oq vq))), .val (.int (ixx (e1F oq vq))), .val (.int (ixx (oq (0 : Fin 3)))), .val (.int (ixx (oq (1 : Fin 3)))), .val (.int (ixx (oq (2 : Fin 3)))), .val (.int (ixx (oq (2 : Fin 3))))]) (by rw [hml]; rfl) (lenOf pd__I_V rfl) (W := 0) (Nat.le_of_eq rfl) (hb hby at_568)
        obtain ⟨rfl, N196q, K196q, E196q, Ff196q, Fl196q, Fc196q, Fb196q, Fa196q, Gb196q, Ga196q⟩ := q196
        have N196 := Fr.app N194 N196q
        have K196 : Keep h0 T196.heap [] := K193.trans K196q (allS (Or.inr sz_b160) (allS (Or.inr sz_bb162) (allS (Or.inr sz_ba162) all0)))
        have z198 : n0 ≤ T196.heap.size := (Nat.le_trans z195 K196q.1)
        obtain ⟨v197, T197, L197, X197, q197, st197⟩ := own_callV X196 hx hZ (y := (⟨"com/example/tenrec/tenrec/pool/IdleByLastCompletion", "first", "()I"⟩ : MethodName)) (z := (⟨"com/example/tenrec/tenrec/pool/IdleByLastCompletion", "first", "()I"⟩ : MethodName)) hown (hw _ (List.mem_of_getElem? (i := 53) rfl)) (hw _ (List.mem_of_getElem? (i := 54) rfl)) (notFace_of_selects (args := #[]) (mvT hZ (hw _ (List.mem_of_getElem? (i := 56) rfl)))) (hw _ (List.mem_of_getElem? (i := 56) rfl)) (hw _ (List.mem_of_getElem? (i := 55) rfl)) (hw _ (List.mem_of_getElem? (i := 12) rfl)) (hw _ (List.mem_of_getElem? (i := 57) rfl)) (by decide) E196q (hM := (rm10 l Z a0 hw [] b160 (enn (remF (remF (remF Sd (oq (0 : Fin 3))) (oq (1 : Fin 3))) (oq (2 : Fin 3))).f) T196.heap n0 z198 Ff196q)) (by decide) (by decide) (by decide) (by decide) rfl (argsL := []) (rest := []) (Ls := #[.val (.int p0), .val (.int p1), .val (.int p2), .val (.int p3), .val (.ref b101), .val (.int (i5F pi)), .val (.int (ixx (pmF pi 0))), .val (.int (ixx (pmF pi 1))), .val (.int (ixx (pmF pi 2))), .val (.int (tii (t0F tq0))), .val (.int (tii (t1F tq0 dq1))), .val (.int (tii (t2F tq0 dq1 dq2))), .val (.int (b2i cf0)), .val (.int (b2i cf1)), .val (.int (b2i cf2)), .val (.ref b120), .val (.ref b122), .val (.ref b141), .val (.int (ixx vq)), .val (.int (b2i rr)), .val (.ref b160), .val (.int (ixx (e0F oq vq))), .val (.int (ixx (e1F oq vq))), .val (.int (ixx (oq (0 : Fin 3)))), .val (.int (ixx (oq (1 : Fin 3)))), .val (.int (ixx (oq (2 : Fin 3)))), .val (.int (ixx (oq (2 : Fin 3))))]) (by rw [hml]; rfl) (lenOf pd___I rfl) (W := 0) (Nat.le_of_eq rfl) (hb hby at_573)
        obtain ⟨rfl, N197q, e197⟩ := q197
        have N197 := Fr.app N196 N197q
        refine Gl.fin X197 (v := some (.int (1 : Int32))) (fun h => by rw [Bd.returns] at h; cases h) Bd.notSynchronized ?_ e197 (by decide) (by decide) (fun fs hr => ?_)
        · exact ⟨rfl, N197⟩
        · show Steps p.tables e below (T194.setTop (mkF m 564 #[.val (.int p0), .val (.int p1), .val (.int p2), .val (.int p3), .val (.ref b101), .val (.int (i5F pi)), .val (.int (ixx (pmF pi 0))), .val (.int (ixx (pmF pi 1))), .val (.int (ixx (pmF pi 2))), .val (.int (tii (t0F tq0))), .val (.int (tii (t1F tq0 dq1))), .val (.int (tii (t2F tq0 dq1 dq2))), .val (.int (b2i cf0)), .val (.int (b2i cf1)), .val (.int (b2i cf2)), .val (.ref b120), .val (.ref b122), .val (.ref b141), .val (.int (ixx vq)), .val (.int (b2i rr)), .val (.ref b160), .val (.int (ixx (e0F oq vq))), .val (.int (ixx (e1F oq vq))), .val (.int (ixx (oq (0 : Fin 3)))), .val (.int (ixx (oq (1 : Fin 3)))), .val (.int (ixx (oq (2 : Fin 3)))), .val (.int (ixx (oq (2 : Fin 3))))] [])) _
          refine XS.aload X194.here hx rfl (hb hby at_564) rfl rfl ?_
          show Steps p.tables e below (T194.setTop (mkF m 566 #[.val (.int p0), .val (.int p1), .val (.int p2), .val (.int p3), .val (.ref b101), .val (.int (i5F pi)), .val (.int (ixx (pmF pi 0))), .val (.int (ixx (pmF pi 1))), .val (.int (ixx (pmF pi 2))), .val (.int (tii (t0F tq0))), .val (.int (tii (t1F tq0 dq1))), .val (.int (tii (t2F tq0 dq1 dq2))), .val (.int (b2i cf0)), .val (.int (b2i cf1)), .val (.int (b2i cf2)), .val (.ref b120), .val (.ref b122), .val (.ref b141), .val (.int (ixx vq)), .val (.int (b2i rr)), .val (.ref b160), .val (.int (ixx (e0F oq vq))), .val (.int (ixx (e1F oq vq))), .val (.int (ixx (oq (0 : Fin 3)))), .val (.int (ixx (oq (1 : Fin 3)))), .val (.int (ixx (oq (2 : Fin 3)))), .val (.int (ixx (oq (2 : Fin 3))))] [(.ref b160)])) _
          refine XS.iload X194.here hx rfl (hb hby at_566) rfl ?_
          show Steps p.tables e below (T194.setTop (mkF m 568 #[.val (.int p0), .val (.int p1), .val (.int p2), .val (.int p3), .val (.ref b101), .val (.int (i5F pi)), .val (.int (ixx (pmF pi 0))), .val (.int (ixx (pmF pi 1))), .val (.int (ixx (pmF pi 2))), .val (.int (tii (t0F tq0))), .val (.int (tii (t1F tq0 dq1))), .val (.int (tii (t2F tq0 dq1 dq2))), .val (.int (b2i cf0)), .val (.int (b2i cf1)), .val (.int (b2i cf2)), .val (.ref b120), .val (.ref b122), .val (.ref b141), .val (.int (ixx vq)), .val (.int (b2i rr)), .val (.ref b160), .val (.int (ixx (e0F oq vq))), .val (.int (ixx (e1F oq vq))), .val (.int (ixx (oq (0 : Fin 3)))), .val (.int (ixx (oq (1 : Fin 3)))), .val (.int (ixx (oq (2 : Fin 3)))), .val (.int (ixx (oq (2 : Fin 3))))] [(.int (ixx (oq (2 : Fin 3)))), (.ref b160)])) _
          refine st196 _ ?_
          show Steps p.tables e below (T196.setTop (mkF m 571 #[.val (.int p0), .val (.int p1), .val (.int p2), .val (.int p3), .val (.ref b101), .val (.int (i5F pi)), .val (.int (ixx (pmF pi 0))), .val (.int (ixx (pmF pi 1))), .val (.int (ixx (pmF pi 2))), .val (.int (tii (t0F tq0))), .val (.int (tii (t1F tq0 dq1))), .val (.int (tii (t2F tq0 dq1 dq2))), .val (.int (b2i cf0)), .val (.int (b2i cf1)), .val (.int (b2i cf2)), .val (.ref b120), .val (.ref b122), .val (.ref b141), .val (.int (ixx vq)), .val (.int (b2i rr)), .val (.ref b160), .val (.int (ixx (e0F oq vq))), .val (.int (ixx (e1F oq vq))), .val (.int (ixx (oq (0 : Fin 3)))), .val (.int (ixx (oq (1 : Fin 3)))), .val (.int (ixx (oq (2 : Fin 3)))), .val (.int (ixx (oq (2 : Fin 3))))] [])) _
          refine XS.aload X196.here hx rfl (hb hby at_571) rfl rfl ?_
          show Steps p.tables e below (T196.setTop (mkF m 573 #[.val (.int p0), .val (.int p1), .val (.int p2), .val (.int p3), .val (.ref b101), .val (.int (i5F pi)), .val (.int (ixx (pmF pi 0))), .val (.int (ixx (pmF pi 1))), .val (.int (ixx (pmF pi 2))), .val (.int (tii (t0F tq0))), .val (.int (tii (t1F tq0 dq1))), .val (.int (tii (t2F tq0 dq1 dq2))), .val (.int (b2i cf0)), .val (.int (b2i cf1)), .val (.int (b2i cf2)), .val (.ref b120), .val (.ref b122), .val (.ref b141), .val (.int (ixx vq)), .val (.int (b2i rr)), .val (.ref b160), .val (.int (ixx (e0F oq vq))), .val (.int (ixx (e1F oq vq))), .val (.int (ixx (oq (0 : Fin 3)))), .val (.int (ixx (oq (1 : Fin 3)))), .val (.int (ixx (oq (2 : Fin 3)))), .val (.int (ixx (oq (2 : Fin 3))))] [(.ref b160)])) _
          refine st197 _ ?_
          show Steps p.tables e below (T197.setTop (mkF m 576 #[.val (.int p0), .val (.int p1), .val (.int p2), .val (.int p3), .val (.ref b101), .val (.int (i5F pi)), .val (.int (ixx (pmF pi 0))), .val (.int (ixx (pmF pi 1))), .val (.int (ixx (pmF pi 2))), .val (.int (tii (t0F tq0))), .val (.int (tii (t1F tq0 dq1))), .val (.int (tii (t2F tq0 dq1 dq2))), .val (.int (b2i cf0)), .val (.int (b2i cf1)), .val (.int (b2i cf2)), .val (.ref b120), .val (.ref b122), .val (.ref b141), .val (.int (ixx vq)), .val (.int (b2i rr)), .val (.ref b160), .val (.int (ixx (e0F oq vq))), .val (.int (ixx (e1F oq vq))), .val (.int (ixx (oq (0 : Fin 3)))), .val (.int (ixx (oq (1 : Fin 3)))), .val (.int (ixx (oq (2 : Fin 3)))), .val (.int (ixx (oq (2 : Fin 3))))] [(.int (enn (remF (remF (remF Sd (oq (0 : Fin 3))) (oq (1 : Fin 3))) (oq (2 : Fin 3))).f))])) _
          refine XS.iconst X197.here hx rfl (hb hby at_576) ?_
          show Steps p.tables e below (T197.setTop (mkF m 577 #[.val (.int p0), .val (.int p1), .val (.int p2), .val (.int p3), .val (.ref b101), .val (.int (i5F pi)), .val (.int (ixx (pmF pi 0))), .val (.int (ixx (pmF pi 1))), .val (.int (ixx (pmF pi 2))), .val (.int (tii (t0F tq0))), .val (.int (tii (t1F tq0 dq1))), .val (.int (tii (t2F tq0 dq1 dq2))), .val (.int (b2i cf0)), .val (.int (b2i cf1)), .val (.int (b2i cf2)), .val (.ref b120), .val (.ref b122), .val (.ref b141), .val (.int (ixx vq)), .val (.int (b2i rr)), .val (.ref b160), .val (.int (ixx (e0F oq vq))), .val (.int (ixx (e1F oq vq))), .val (.int (ixx (oq (0 : Fin 3)))), .val (.int (ixx (oq (1 : Fin 3)))), .val (.int (ixx (oq (2 : Fin 3)))), .val (.int (ixx (oq (2 : Fin 3))))] [(.int (-1 : Int32)), (.int (enn (remF (remF (remF Sd (oq (0 : Fin 3))) (oq (1 : Fin 3))) (oq (2 : Fin 3))).f))])) _
          refine XS.icmpNo X197.here hx rfl (hb hby at_577) rfl (own_nf (ic_ne _ _) (congrArg enn s3)) ?_
          show Steps p.tables e below (T197.setTop (mkF m 580 #[.val (.int p0), .val (.int p1), .val (.int p2), .val (.int p3), .val (.ref b101), .val (.int (i5F pi)), .val (.int (ixx (pmF pi 0))), .val (.int (ixx (pmF pi 1))), .val (.int (ixx (pmF pi 2))), .val (.int (tii (t0F tq0))), .val (.int (tii (t1F tq0 dq1))), .val (.int (tii (t2F tq0 dq1 dq2))), .val (.int (b2i cf0)), .val (.int (b2i cf1)), .val (.int (b2i cf2)), .val (.ref b120), .val (.ref b122), .val (.ref b141), .val (.int (ixx vq)), .val (.int (b2i rr)), .val (.ref b160), .val (.int (ixx (e0F oq vq))), .val (.int (ixx (e1F oq vq))), .val (.int (ixx (oq (0 : Fin 3)))), .val (.int (ixx (oq (1 : Fin 3)))), .val (.int (ixx (oq (2 : Fin 3)))), .val (.int (ixx (oq (2 : Fin 3))))] [])) _
          refine XS.iconst X197.here hx rfl (hb hby at_580) ?_
          show Steps p.tables e below (T197.setTop (mkF m 581 #[.val (.int p0), .val (.int p1), .val (.int p2), .val (.int p3), .val (.ref b101), .val (.int (i5F pi)), .val (.int (ixx (pmF pi 0))), .val (.int (ixx (pmF pi 1))), .val (.int (ixx (pmF pi 2))), .val (.int (tii (t0F tq0))), .val (.int (tii (t1F tq0 dq1))), .val (.int (tii (t2F tq0 dq1 dq2))), .val (.int (b2i cf0)), .val (.int (b2i cf1)), .val (.int (b2i cf2)), .val (.ref b120), .val (.ref b122), .val (.ref b141), .val (.int (ixx vq)), .val (.int (b2i rr)), .val (.ref b160), .val (.int (ixx (e0F oq vq))), .val (.int (ixx (e1F oq vq))), .val (.int (ixx (oq (0 : Fin 3)))), .val (.int (ixx (oq (1 : Fin 3)))), .val (.int (ixx (oq (2 : Fin 3)))), .val (.int (ixx (oq (2 : Fin 3))))] [(.int (1 : Int32))])) _
          refine XS.goto X197.here hx rfl (pc0 := 581) (pc' := 585) rfl (hb hby at_581) (by decide) (by decide) ?_
          show Steps p.tables e below (T197.setTop (mkF m 585 #[.val (.int p0), .val (.int p1), .val (.int p2), .val (.int p3), .val (.ref b101), .val (.int (i5F pi)), .val (.int (ixx (pmF pi 0))), .val (.int (ixx (pmF pi 1))), .val (.int (ixx (pmF pi 2))), .val (.int (tii (t0F tq0))), .val (.int (tii (t1F tq0 dq1))), .val (.int (tii (t2F tq0 dq1 dq2))), .val (.int (b2i cf0)), .val (.int (b2i cf1)), .val (.int (b2i cf2)), .val (.ref b120), .val (.ref b122), .val (.ref b141), .val (.int (ixx vq)), .val (.int (b2i rr)), .val (.ref b160), .val (.int (ixx (e0F oq vq))), .val (.int (ixx (e1F oq vq))), .val (.int (ixx (oq (0 : Fin 3)))), .val (.int (ixx (oq (1 : Fin 3)))), .val (.int (ixx (oq (2 : Fin 3)))), .val (.int (ixx (oq (2 : Fin 3))))] [(.int (1 : Int32))])) _
          exact retN X197 hx (t := .boolean) Bd.returns (by simp) (hb hby at_585) hr
      · obtain ⟨v199, T199, L199, X199, q199, st199⟩ := own_callV X180 hx hZ (y := (⟨"com/example/tenrec/tenrec/pool/IdleByLastCompletion", "first", "()I"⟩ : MethodName)) (z := (⟨"com/example/tenrec/tenrec/pool/IdleByLastCompletion", "first", "()I"⟩ : MethodName)) hown (hw _ (List.mem_of_getElem? (i := 53) rfl)) (hw _ (List.mem_of_getElem? (i := 54) rfl)) (notFace_of_selects (args := #[]) (mvT hZ (hw _ (List.mem_of_getElem? (i := 56) rfl)))) (hw _ (List.mem_of_getElem? (i := 56) rfl)) (hw _ (List.mem_of_getElem? (i := 55) rfl)) (hw _ (List.mem_of_getElem? (i := 12) rfl)) (hw _ (List.mem_of_getElem? (i := 57) rfl)) (by decide) E171q (hM := (rm10 l Z a0 hw [] b160 (enn (remF Sc vq).f) T171.heap n0 z181 Ff171q)) (by decide) (by decide) (by decide) (by decide) e180 (argsL := []) (rest := []) (Ls := #[.val (.int p0), .val (.int p1), .val (.int p2), .val (.int p3), .val (.ref b101), .val (.int (i5F pi)), .val (.int (ixx (pmF pi 0))), .val (.int (ixx (pmF pi 1))), .val (.int (ixx (pmF pi 2))), .val (.int (tii (t0F tq0))), .val (.int (tii (t1F tq0 dq1))), .val (.int (tii (t2F tq0 dq1 dq2))), .val (.int (b2i cf0)), .val (.int (b2i cf1)), .val (.int (b2i cf2)), .val (.ref b120), .val (.ref b122), .val (.ref b141), .val (.int (ixx vq)), .val (.int (b2i rr)), .val (.ref b160), .val (.int (ixx (e0F oq vq))), .val (.int (ixx (e1F oq vq))), .val (.int (ixx (e0F oq vq))), .val (.int (ixx (e1F oq vq))), .val (.int (-1 : Int32)), .unset]) (by rw [hml]; rfl) (lenOf pd___I rfl) (W := 0) (Nat.le_of_eq rfl) (hb hby at_496)
        obtain ⟨rfl, N199q, e199⟩ := q199
        have N199 := Fr.app N180 N199q
        refine Gl.pre (S' := T199.setTop (mkF m 510 #[.val (.int p0), .val (.int p1), .val (.int p2), .val (.int p3), .val (.ref b101), .val (.int (i5F pi)), .val (.int (ixx (pmF pi 0))), .val (.int (ixx (pmF pi 1))), .val (.int (ixx (pmF pi 2))), .val (.int (tii (t0F tq0))), .val (.int (tii (t1F tq0 dq1))), .val (.int (tii (t2F tq0 dq1 dq2))), .val (.int (b2i cf0)), .val (.int (b2i cf1)), .val (.int (b2i cf2)), .val (.ref b120), .val (.ref b122), .val (.ref b141), .val (.int (ixx vq)), .val (.int (b2i rr)), .val (.ref b160), .val (.int (ixx (e0F oq vq))), .val (.int (ixx (e1F oq vq))), .val (.int (ixx (e0F oq vq))), .val (.int (ixx (e1F oq vq))), .val (.int (-1 : Int32)), .val (.int (enn (remF Sc vq).f))] [])) (fun t kt => ?_) ?_
        · show Steps p.tables e below (T180.setTop (mkF m 452 #[.val (.int p0), .val (.int p1), .val (.int p2), .val (.int p3), .val (.ref b101), .val (.int (i5F pi)), .val (.int (ixx (pmF pi 0))), .val (.int (ixx (pmF pi 1))), .val (.int (ixx (pmF pi 2))), .val (.int (tii (t0F tq0))), .val (.int (tii (t1F tq0 dq1))), .val (.int (tii (t2F tq0 dq1 dq2))), .val (.int (b2i cf0)), .val (.int (b2i cf1)), .val (.int (b2i cf2)), .val (.ref b120), .val (.ref b122), .val (.ref b141), .val (.int (ixx vq)), .val (.int (b2i rr)), .val (.ref b160), .val (.int (ixx (e0F oq vq))), .val (.int (ixx (e1F oq vq))), .unset, .unset, .unset, .unset] [(.int (b2i rr))])) _
          refine XS.ifYes X180.here hx rfl (pc0 := 452) (pc' := 483) rfl (hb hby at_452) rfl (own_nbt (b0_eq _) (Bool.eq_false_iff.mpr hc452)) (by decide) (by decide) ?_
          show Steps p.tables e below (T180.setTop (mkF m 483 #[.val (.int p0), .val (.int p1), .val (.int p2), .val (.int p3), .val (.ref b101), .val (.int (i5F pi)), .val (.int (ixx (pmF pi 0))), .val (.int (ixx (pmF pi 1))), .val (.int (ixx (pmF pi 2))), .val (.int (tii (t0F tq0))), .val (.int (tii (t1F tq0 dq1))), .val (.int (tii (t2F tq0 dq1 dq2))), .val (.int (b2i cf0)), .val (.int (b2i cf1)), .val (.int (b2i cf2)), .val (.ref b120), .val (.ref b122), .val (.ref b141), .val (.int (ixx vq)), .val (.int (b2i rr)), .val (.ref b160), .val (.int (ixx (e0F oq vq))), .val (.int (ixx (e1F oq vq))), .unset, .unset, .unset, .unset] [])) _
          refine XS.iload X180.here hx rfl (hb hby at_483) rfl ?_
          show Steps p.tables e below (T180.setTop (mkF m 485 #[.val (.int p0), .val (.int p1), .val (.int p2), .val (.int p3), .val (.ref b101), .val (.int (i5F pi)), .val (.int (ixx (pmF pi 0))), .val (.int (ixx (pmF pi 1))), .val (.int (ixx (pmF pi 2))), .val (.int (tii (t0F tq0))), .val (.int (tii (t1F tq0 dq1))), .val (.int (tii (t2F tq0 dq1 dq2))), .val (.int (b2i cf0)), .val (.int (b2i cf1)), .val (.int (b2i cf2)), .val (.ref b120), .val (.ref b122), .val (.ref b141), .val (.int (ixx vq)), .val (.int (b2i rr)), .val (.ref b160), .val (.int (ixx (e0F oq vq))), .val (.int (ixx (e1F oq vq))), .unset, .unset, .unset, .unset] [(.int (ixx (e0F oq vq)))])) _
          refine XS.istore X180.here hx rfl (hb hby at_485) rfl (l' := #[.val (.int p0), .val (.int p1), .val (.int p2), .val (.int p3), .val (.ref b101), .val (.int (i5F pi)), .val (.int (ixx (pmF pi 0))), .val (.int (ixx (pmF pi 1))), .val (.int (ixx (pmF pi 2))), .val (.int (tii (t0F tq0))), .val (.int (tii (t1F tq0 dq1))), .val (.int (tii (t2F tq0 dq1 dq2))), .val (.int (b2i cf0)), .val (.int (b2i cf1)), .val (.int (b2i cf2)), .val (.ref b120), .val (.ref b122), .val (.ref b141), .val (.int (ixx vq)), .val (.int (b2i rr)), .val (.ref b160), .val (.int (ixx (e0F oq vq))), .val (.int (ixx (e1F oq vq))), .val (.int (ixx (e0F oq vq))), .unset, .unset, .unset]) rfl ?_
          show Steps p.tables e below (T180.setTop (mkF m 487 #[.val (.int p0), .val (.int p1), .val (.int p2), .val (.int p3), .val (.ref b101), .val (.int (i5F pi)), .val (.int (ixx (pmF pi 0))), .val (.int (ixx (pmF pi 1))), .val (.int (ixx (pmF pi 2))), .val (.int (tii (t0F tq0))), .val (.int (tii (t1F tq0 dq1))), .val (.int (tii (t2F tq0 dq1 dq2))), .val (.int (b2i cf0)), .val (.int (b2i cf1)), .val (.int (b2i cf2)), .val (.ref b120), .val (.ref b122), .val (.ref b141), .val (.int (ixx vq)), .val (.int (b2i rr)), .val (.ref b160), .val (.int (ixx (e0F oq vq))), .val (.int (ixx (e1F oq vq))), .val (.int (ixx (e0F oq vq))), .unset, .unset, .unset] [])) _
          refine XS.iload X180.here hx rfl (hb hby at_487) rfl ?_
          show Steps p.tables e below (T180.setTop (mkF m 489 #[.val (.int p0), .val (.int p1), .val (.int p2), .val (.int p3), .val (.ref b101), .val (.int (i5F pi)), .val (.int (ixx (pmF pi 0))), .val (.int (ixx (pmF pi 1))), .val (.int (ixx (pmF pi 2))), .val (.int (tii (t0F tq0))), .val (.int (tii (t1F tq0 dq1))), .val (.int (tii (t2F tq0 dq1 dq2))), .val (.int (b2i cf0)), .val (.int (b2i cf1)), .val (.int (b2i cf2)), .val (.ref b120), .val (.ref b122), .val (.ref b141), .val (.int (ixx vq)), .val (.int (b2i rr)), .val (.ref b160), .val (.int (ixx (e0F oq vq))), .val (.int (ixx (e1F oq vq))), .val (.int (ixx (e0F oq vq))), .unset, .unset, .unset] [(.int (ixx (e1F oq vq)))])) _
          refine XS.istore X180.here hx rfl (hb hby at_489) rfl (l' := #[.val (.int p0), .val (.int p1), .val (.int p2), .val (.int p3), .val (.ref b101), .val (.int (i5F pi)), .val (.int (ixx (pmF pi 0))), .val (.int (ixx (pmF pi 1))), .val (.int (ixx (pmF pi 2))), .val (.int (tii (t0F tq0))), .val (.int (tii (t1F tq0 dq1))), .val (.int (tii (t2F tq0 dq1 dq2))), .val (.int (b2i cf0)), .val (.int (b2i cf1)), .val (.int (b2i cf2)), .val (.ref b120), .val (.ref b122), .val (.ref b141), .val (.int (ixx vq)), .val (.int (b2i rr)), .val (.ref b160), .val (.int (ixx (e0F oq vq))), .val (.int (ixx (e1F oq vq))), .val (.int (ixx (e0F oq vq))), .val (.int (ixx (e1F oq vq))), .unset, .unset]) rfl ?_
          show Steps p.tables e below (T180.setTop (mkF m 491 #[.val (.int p0), .val (.int p1), .val (.int p2), .val (.int p3), .val (.ref b101), .val (.int (i5F pi)), .val (.int (ixx (pmF pi 0))), .val (.int (ixx (pmF pi 1))), .val (.int (ixx (pmF pi 2))), .val (.int (tii (t0F tq0))), .val (.int (tii (t1F tq0 dq1))), .val (.int (tii (t2F tq0 dq1 dq2))), .val (.int (b2i cf0)), .val (.int (b2i cf1)), .val (.int (b2i cf2)), .val (.ref b120), .val (.ref b122), .val (.ref b141), .val (.int (ixx vq)), .val (.int (b2i rr)), .val (.ref b160), .val (.int (ixx (e0F oq vq))), .val (.int (ixx (e1F oq vq))), .val (.int (ixx (e0F oq vq))), .val (.int (ixx (e1F oq vq))), .unset, .unset] [])) _
          refine XS.iconst X180.here hx rfl (hb hby at_491) ?_
          show Steps p.tables e below (T180.setTop (mkF m 492 #[.val (.int p0), .val (.int p1), .val (.int p2), .val (.int p3), .val (.ref b101), .val (.int (i5F pi)), .val (.int (ixx (pmF pi 0))), .val (.int (ixx (pmF pi 1))), .val (.int (ixx (pmF pi 2))), .val (.int (tii (t0F tq0))), .val (.int (tii (t1F tq0 dq1))), .val (.int (tii (t2F tq0 dq1 dq2))), .val (.int (b2i cf0)), .val (.int (b2i cf1)), .val (.int (b2i cf2)), .val (.ref b120), .val (.ref b122), .val (.ref b141), .val (.int (ixx vq)), .val (.int (b2i rr)), .val (.ref b160), .val (.int (ixx (e0F oq vq))), .val (.int (ixx (e1F oq vq))), .val (.int (ixx (e0F oq vq))), .val (.int (ixx (e1F oq vq))), .unset, .unset] [(.int (-1 : Int32))])) _
          refine XS.istore X180.here hx rfl (hb hby at_492) rfl (l' := #[.val (.int p0), .val (.int p1), .val (.int p2), .val (.int p3), .val (.ref b101), .val (.int (i5F pi)), .val (.int (ixx (pmF pi 0))), .val (.int (ixx (pmF pi 1))), .val (.int (ixx (pmF pi 2))), .val (.int (tii (t0F tq0))), .val (.int (tii (t1F tq0 dq1))), .val (.int (tii (t2F tq0 dq1 dq2))), .val (.int (b2i cf0)), .val (.int (b2i cf1)), .val (.int (b2i cf2)), .val (.ref b120), .val (.ref b122), .val (.ref b141), .val (.int (ixx vq)), .val (.int (b2i rr)), .val (.ref b160), .val (.int (ixx (e0F oq vq))), .val (.int (ixx (e1F oq vq))), .val (.int (ixx (e0F oq vq))), .val (.int (ixx (e1F oq vq))), .val (.int (-1 : Int32)), .unset]) rfl ?_
          show Steps p.tables e below (T180.setTop (mkF m 494 #[.val (.int p0), .val (.int p1), .val (.int p2), .val (.int p3), .val (.ref b101), .val (.int (i5F pi)), .val (.int (ixx (pmF pi 0))), .val (.int (ixx (pmF pi 1))), .val (.int (ixx (pmF pi 2))), .val (.int (tii (t0F tq0))), .val (.int (tii (t1F tq0 dq1))), .val (.int (tii (t2F tq0 dq1 dq2))), .val (.int (b2i cf0)), .val (.int (b2i cf1)), .val (.int (b2i cf2)), .val (.ref b120), .val (.ref b122), .val (.ref b141), .val (.int (ixx vq)), .val (.int (b2i rr)), .val (.ref b160), .val (.int (ixx (e0F oq vq))), .val (.int (ixx (e1F oq vq))), .val (.int (ixx (e0F oq vq))), .val (.int (ixx (e1F oq vq))), .val (.int (-1 : Int32)), .unset] [])) _
          refine XS.aload X180.here hx rfl (hb hby at_494) rfl rfl ?_
          show Steps p.tables e below (T180.setTop (mkF m 496 #[.val (.int p0), .val (.int p1), .val (.int p2), .val (.int p3), .val (.ref b101), .val (.int (i5F pi)), .val (.int (ixx (pmF pi 0))), .val (.int (ixx (pmF pi 1))), .val (.int (ixx (pmF pi 2))), .val (.int (tii (t0F tq0))), .val (.int (tii (t1F tq0 dq1))), .val (.int (tii (t2F tq0 dq1 dq2))), .val (.int (b2i cf0)), .val (.int (b2i cf1)), .val (.int (b2i cf2)), .val (.ref b120), .val (.ref b122), .val (.ref b141), .val (.int (ixx vq)), .val (.int (b2i rr)), .val (.ref b160), .val (.int (ixx (e0F oq vq))), .val (.int (ixx (e1F oq vq))), .val (.int (ixx (e0F oq vq))), .val (.int (ixx (e1F oq vq))), .val (.int (-1 : Int32)), .unset] [(.ref b160)])) _
          refine st199 _ ?_
          show Steps p.tables e below (T199.setTop (mkF m 499 #[.val (.int p0), .val (.int p1), .val (.int p2), .val (.int p3), .val (.ref b101), .val (.int (i5F pi)), .val (.int (ixx (pmF pi 0))), .val (.int (ixx (pmF pi 1))), .val (.int (ixx (pmF pi 2))), .val (.int (tii (t0F tq0))), .val (.int (tii (t1F tq0 dq1))), .val (.int (tii (t2F tq0 dq1 dq2))), .val (.int (b2i cf0)), .val (.int (b2i cf1)), .val (.int (b2i cf2)), .val (.ref b120), .val (.ref b122), .val (.ref b141), .val (.int (ixx vq)), .val (.int (b2i rr)), .val (.ref b160), .val (.int (ixx (e0F oq vq))), .val (.int (ixx (e1F oq vq))), .val (.int (ixx (e0F oq vq))), .val (.int (ixx (e1F oq vq))), .val (.int (-1 : Int32)), .unset] [(.int (enn (remF Sc vq).f))])) _
          refine XS.istore X199.here hx rfl (hb hby at_499) rfl (l' := #[.val (.int p0), .val (.int p1), .val (.int p2), .val (.int p3), .val (.ref b101), .val (.int (i5F pi)), .val (.int (ixx (pmF pi 0))), .val (.int (ixx (pmF pi 1))), .val (.int (ixx (pmF pi 2))), .val (.int (tii (t0F tq0))), .val (.int (tii (t1F tq0 dq1))), .val (.int (tii (t2F tq0 dq1 dq2))), .val (.int (b2i cf0)), .val (.int (b2i cf1)), .val (.int (b2i cf2)), .val (.ref b120), .val (.ref b122), .val (.ref b141), .val (.int (ixx vq)), .val (.int (b2i rr)), .val (.ref b160), .val (.int (ixx (e0F oq vq))), .val (.int (ixx (e1F oq vq))), .val (.int (ixx (e0F oq vq))), .val (.int (ixx (e1F oq vq))), .val (.int (-1 : Int32)), .val (.int (enn (remF Sc vq).f))]) rfl ?_
          show Steps p.tables e below (T199.setTop (mkF m 501 #[.val (.int p0), .val (.int p1), .val (.int p2), .val (.int p3), .val (.ref b101), .val (.int (i5F pi)), .val (.int (ixx (pmF pi 0))), .val (.int (ixx (pmF pi 1))), .val (.int (ixx (pmF pi 2))), .val (.int (tii (t0F tq0))), .val (.int (tii (t1F tq0 dq1))), .val (.int (tii (t2F tq0 dq1 dq2))), .val (.int (b2i cf0)), .val (.int (b2i cf1)), .val (.int (b2i cf2)), .val (.ref b120), .val (.ref b122), .val (.ref b141), .val (.int (ixx vq)), .val (.int (b2i rr)), .val (.ref b160), .val (.int (ixx (e0F oq vq))), .val (.int (ixx (e1F oq vq))), .val (.int (ixx (e0F oq vq))), .val (.int (ixx (e1F oq vq))), .val (.int (-1 : Int32)), .val (.int (enn (remF Sc vq).f))] [])) _
          refine XS.iload X199.here hx rfl (hb hby at_501) rfl ?_
          show Steps p.tables e below (T199.setTop (mkF m 503 #[.val (.int p0), .val (.int p1), .val (.int p2), .val (.int p3), .val (.ref b101), .val (.int (i5F pi)), .val (.int (ixx (pmF pi 0))), .val (.int (ixx (pmF pi 1))), .val (.int (ixx (pmF pi 2))), .val (.int (tii (t0F tq0))), .val (.int (tii (t1F tq0 dq1))), .val (.int (tii (t2F tq0 dq1 dq2))), .val (.int (b2i cf0)), .val (.int (b2i cf1)), .val (.int (b2i cf2)), .val (.ref b120), .val (.ref b122), .val (.ref b141), .val (.int (ixx vq)), .val (.int (b2i rr)), .val (.ref b160), .val (.int (ixx (e0F oq vq))), .val (.int (ixx (e1F oq vq))), .val (.int (ixx (e0F oq vq))), .val (.int (ixx (e1F oq vq))), .val (.int (-1 : Int32)), .val (.int (enn (remF Sc vq).f))] [(.int (enn (remF Sc vq).f))])) _
          refine XS.iload X199.here hx rfl (hb hby at_503) rfl ?_
          show Steps p.tables e below (T199.setTop (mkF m 505 #[.val (.int p0), .val (.int p1), .val (.int p2), .val (.int p3), .val (.ref b101), .val (.int (i5F pi)), .val (.int (ixx (pmF pi 0))), .val (.int (ixx (pmF pi 1))), .val (.int (ixx (pmF pi 2))), .val (.int (tii (t0F tq0))), .val (.int (tii (t1F tq0 dq1))), .val (.int (tii (t2F tq0 dq1 dq2))), .val (.int (b2i cf0)), .val (.int (b2i cf1)), .val (.int (b2i cf2)), .val (.ref b120), .val (.ref b122), .val (.ref b141), .val (.int (ixx vq)), .val (.int (b2i rr)), .val (.ref b160), .val (.int (ixx (e0F oq vq))), .val (.int (ixx (e1F oq vq))), .val (.int (ixx (e0F oq vq))), .val (.int (ixx (e1F oq vq))), .val (.int (-1 : Int32)), .val (.int (enn (remF Sc vq).f))] [(.int (ixx (e0F oq vq))), (.int (enn (remF Sc vq).f))])) _
          refine XS.icmpYes X199.here hx rfl (pc0 := 505) (pc' := 510) rfl (hb hby at_505) rfl (own_t (ic_eq _ _) (congrArg enn r0)) (by decide) (by decide) ?_
          exact kt
        rw [(congrArg enn r0 : (enn (remF Sc vq).f) = ixx (e0F oq vq))]
        obtain ⟨v200, T200, L200, X200, q200, st200⟩ := own_callV X199 hx hZ (y := (⟨"com/example/tenrec/tenrec/pool/IdleByLastCompletion", "remove", "(I)V"⟩ : MethodName)) (z := (⟨"com/example/tenrec/tenrec/pool/IdleByLastCompletion", "remove", "(I)V"⟩ : MethodName)) hown (hw _ (List.mem_of_getElem? (i := 48) rfl)) (hw _ (List.mem_of_getElem? (i := 49) rfl)) (notFace_of_selects (args := #[]) (mvT hZ (hw _ (List.mem_of_getElem? (i := 51) rfl)))) (hw _ (List.mem_of_getElem? (i := 51) rfl)) (hw _ (List.mem_of_getElem? (i := 50) rfl)) (hw _ (List.mem_of_getElem? (i := 12) rfl)) (hw _ (List.mem_of_getElem? (i := 52) rfl)) (by decide) E171q (hM := (rm9 l Z a0 hw [] b160 (e0F oq vq) lc162 bb162 ba162 (remF Sc vq) T171.heap n0 z181 g_b160 g_bb162 g_ba162 ⟨(Nat.ne_of_lt (Nat.lt_of_lt_of_le A160.lt szq_lc162)), (Nat.ne_of_lt (Nat.lt_of_lt_of_le A160.lt szq_bb162)), (Nat.ne_of_lt (Nat.lt_of_lt_of_le A160.lt szq_ba162)), n1162, n2162, n3162⟩ ⟨E171q, Ff171q, Fl171q, Fc171q, Fb171q, Fa171q, Gb171q, Ga171q⟩)) (by decide) (by decide) (by decide) (by decide) e199 (argsL := [(.int (ixx (e0F oq vq)))]) (rest := []) (Ls := #[.val (.int p0), .val (.int p1), .val (.int p2), .val (.int p3), .val (.ref b101), .val (.int (i5F pi)), .val (.int (ixx (pmF pi 0))), .val (.int (ixx (pmF pi 1))), .val (.int (ixx (pmF pi 2))), .val (.int (tii (t0F tq0))), .val (.int (tii (t1F tq0 dq1))), .val (.int (tii (t2F tq0 dq1 dq2))), .val (.int (b2i cf0)), .val (.int (b2i cf1)), .val (.int (b2i cf2)), .val (.ref b120), .val (.ref b122), .val (.ref b141), .val (.int (ixx vq)), .val (.int (b2i rr)), .val (.ref b160), .val (.int (ixx (e0F oq vq))), .val (.int (ixx (e1F oq vq))), .val (.int (ixx (e0F oq vq))), .val (.int (ixx (e1F oq vq))), .val (.int (-1 : Int32)), .val (.int (ixx (e0F oq vq)))]) (by rw [hml]; rfl) (lenOf pd__I_V rfl) (W := 0) (Nat.le_of_eq rfl) (hb hby at_514)
        obtain ⟨rfl, N200q, K200q, E200q, Ff200q, Fl200q, Fc200q, Fb200q, Fa200q, Gb200q, Ga200q⟩ := q200
        have N200 := Fr.app N199 N200q
        have K200 : Keep h0 T200.heap [] := K171.trans K200q (allS (Or.inr sz_b160) (allS (Or.inr sz_bb162) (allS (Or.inr sz_ba162) all0)))
        have z202 : n0 ≤ T200.heap.size := (Nat.le_trans z181 K200q.1)
        obtain ⟨v201, T201, L201, X201, q201, st201⟩ := own_callV X200 hx hZ (y := (⟨"com/example/tenrec/tenrec/pool/IdleByLastCompletion", "first", "()I"⟩ : MethodName)) (z := (⟨"com/example/tenrec/tenrec/pool/IdleByLastCompletion", "first", "()I"⟩ : MethodName)) hown (hw _ (List.mem_of_getElem? (i := 53) rfl)) (hw _ (List.mem_of_getElem? (i := 54) rfl)) (notFace_of_selects (args := #[]) (mvT hZ (hw _ (List.mem_of_getElem? (i := 56) rfl)))) (hw _ (List.mem_of_getElem? (i := 56) rfl)) (hw _ (List.mem_of_getElem? (i := 55) rfl)) (hw _ (List.mem_of_getElem? (i := 12) rfl)) (hw _ (List.mem_of_getElem? (i := 57) rfl)) (by decide) E200q (hM := (rm10 l Z a0 hw [] b160 (enn (remF (remF Sc vq) (e0F oq vq)).f) T200.heap n0 z202 Ff200q)) (by decide) (by decide) (by decide) (by decide) rfl (argsL := []) (rest := []) (Ls := #[.val (.int p0), .val (.int p1), .val (.int p2), .val (.int p3), .val (.ref b101), .val (.int (i5F pi)), .val (.int (ixx (pmF pi 0))), .val (.int (ixx (pmF pi 1))), .val (.int (ixx (pmF pi 2))), .val (.int (tii (t0F tq0))), .val (.int (tii (t1F tq0 dq1))), .val (.int (tii (t2F tq0 dq1 dq2))), .val (.int (b2i cf0)), .val (.int (b2i cf1)), .val (.int (b2i cf2)), .val (.ref b120), .val (.ref b122), .val (.ref b141), .val (.int (ixx vq)), .val (.int (b2i rr)), .val (.ref b160), .val (.int (ixx (e0F oq vq))), .val (.int (ixx (e1F oq vq))), .val (.int (ixx (e0F oq vq))), .val (.int (ixx (e1F oq vq))), .val (.int (-1 : Int32)), .val (.int (ixx (e0F oq vq)))]) (by rw [hml]; rfl) (lenOf pd___I rfl) (W := 0) (Nat.le_of_eq rfl) (hb hby at_519)
        obtain ⟨rfl, N201q, e201⟩ := q201
        have N201 := Fr.app N200 N201q
        refine Gl.pre (S' := T201.setTop (mkF m 533 #[.val (.int p0), .val (.int p1), .val (.int p2), .val (.int p3), .val (.ref b101), .val (.int (i5F pi)), .val (.int (ixx (pmF pi 0))), .val (.int (ixx (pmF pi 1))), .val (.int (ixx (pmF pi 2))), .val (.int (tii (t0F tq0))), .val (.int (tii (t1F tq0 dq1))), .val (.int (tii (t2F tq0 dq1 dq2))), .val (.int (b2i cf0)), .val (.int (b2i cf1)), .val (.int (b2i cf2)), .val (.ref b120), .val (.ref b122), .val (.ref b141), .val (.int (ixx vq)), .val (.int (b2i rr)), .val (.ref b160), .val (.int (ixx (e0F oq vq))), .val (.int (ixx (e1F oq vq))), .val (.int (ixx (e0F oq vq))), .val (.int (ixx (e1F oq vq))), .val (.int (-1 : Int32)), .val (.int (enn (remF (remF Sc vq) (e0F oq vq)).f))] [])) (fun t kt => ?_) ?_
        · show Steps p.tables e below (T199.setTop (mkF m 510 #[.val (.int p0), .val (.int p1), .val (.int p2), .val (.int p3), .val (.ref b101), .val (.int (i5F pi)), .val (.int (ixx (pmF pi 0))), .val (.int (ixx (pmF pi 1))), .val (.int (ixx (pmF pi 2))), .val (.int (tii (t0F tq0))), .val (.int (tii (t1F tq0 dq1))), .val (.int (tii (t2F tq0 dq1 dq2))), .val (.int (b2i cf0)), .val (.int (b2i cf1)), .val (.int (b2i cf2)), .val (.ref b120), .val (.ref b122), .val (.ref b141), .val (.int (ixx vq)), .val (.int (b2i rr)), .val (.ref b160), .val (.int (ixx (e0F oq vq))), .val (.int (ixx (e1F oq vq))), .val (.int (ixx (e0F oq vq))), .val (.int (ixx (e1F oq vq))), .val (.int (-1 : Int32)), .val (.int (ixx (e0F oq vq)))] [])) _
          refine XS.aload X199.here hx rfl (hb hby at_510) rfl rfl ?_
          show Steps p.tables e below (T199.setTop (mkF m 512 #[.val (.int p0), .val (.int p1), .val (.int p2), .val (.int p3), .val (.ref b101), .val (.int (i5F pi)), .val (.int (ixx (pmF pi 0))), .val (.int (ixx (pmF pi 1))), .val (.int (ixx (pmF pi 2))), .val (.int (tii (t0F tq0))), .val (.int (tii (t1F tq0 dq1))), .val (.int (tii (t2F tq0 dq1 dq2))), .val (.int (b2i cf0)), .val (.int (b2i cf1)), .val (.int (b2i cf2)), .val (.ref b120), .val (.ref b122), .val (.ref b141), .val (.int (ixx vq)), .val (.int (b2i rr)), .val (.ref b160), .val (.int (ixx (e0F oq vq))), .val (.int (ixx (e1F oq vq))), .val (.int (ixx (e0F oq vq))), .val (.int (ixx (e1F oq vq))), .val (.int (-1 : Int32)), .val (.int (ixx (e0F oq vq)))] [(.ref b160)])) _
          refine XS.iload X199.here hx rfl (hb hby at_512) rfl ?_
          show Steps p.tables e below (T199.setTop (mkF m 514 #[.val (.int p0), .val (.int p1), .val (.int p2), .val (.int p3), .val (.ref b101), .val (.int (i5F pi)), .val (.int (ixx (pmF pi 0))), .val (.int (ixx (pmF pi 1))), .val (.int (ixx (pmF pi 2))), .val (.int (tii (t0F tq0))), .val (.int (tii (t1F tq0 dq1))), .val (.int (tii (t2F tq0 dq1 dq2))), .val (.int (b2i cf0)), .val (.int (b2i cf1)), .val (.int (b2i cf2)), .val (.ref b120), .val (.ref b122), .val (.ref b141), .val (.int (ixx vq)), .val (.int (b2i rr)), .val (.ref b160), .val (.int (ixx (e0F oq vq))), .val (.int (ixx (e1F oq vq))), .val (.int (ixx (e0F oq vq))), .val (.int (ixx (e1F oq vq))), .val (.int (-1 : Int32)), .val (.int (ixx (e0F oq vq)))] [(.int (ixx (e0F oq vq))), (.ref b160)])) _
          refine st200 _ ?_
          show Steps p.tables e below (T200.setTop (mkF m 517 #[.val (.int p0), .val (.int p1), .val (.int p2), .val (.int p3), .val (.ref b101), .val (.int (i5F pi)), .val (.int (ixx (pmF pi 0))), .val (.int (ixx (pmF pi 1))), .val (.int (ixx (pmF pi 2))), .val (.int (tii (t0F tq0))), .val (.int (tii (t1F tq0 dq1))), .val (.int (tii (t2F tq0 dq1 dq2))), .val (.int (b2i cf0)), .val (.int (b2i cf1)), .val (.int (b2i cf2)), .val (.ref b120), .val (.ref b122), .val (.ref b141), .val (.int (ixx vq)), .val (.int (b2i rr)), .val (.ref b160), .val (.int (ixx (e0F oq vq))), .val (.int (ixx (e1F oq vq))), .val (.int (ixx (e0F oq vq))), .val (.int (ixx (e1F oq vq))), .val (.int (-1 : Int32)), .val (.int (ixx (e0F oq vq)))] [])) _
          refine XS.aload X200.here hx rfl (hb hby at_517) rfl rfl ?_
          show Steps p.tables e below (T200.setTop (mkF m 519 #[.val (.int p0), .val (.int p1), .val (.int p2), .val (.int p3), .val (.ref b101), .val (.int (i5F pi)), .val (.int (ixx (pmF pi 0))), .val (.int (ixx (pmF pi 1))), .val (.int (ixx (pmF pi 2))), .val (.int (tii (t0F tq0))), .val (.int (tii (t1F tq0 dq1))), .val (.int (tii (t2F tq0 dq1 dq2))), .val (.int (b2i cf0)), .val (.int (b2i cf1)), .val (.int (b2i cf2)), .val (.ref b120), .val (.ref b122), .val (.ref b141), .val (.int (ixx vq)), .val (.int (b2i rr)), .val (.ref b160), .val (.int (ixx (e0F oq vq))), .val (.int (ixx (e1F oq vq))), .val (.int (ixx (e0F oq vq))), .val (.int (ixx (e1F oq vq))), .val (.int (-1 : Int32)), .val (.int (ixx (e0F oq vq)))] [(.ref b160)])) _
          refine st201 _ ?_
          show Steps p.tables e below (T201.setTop (mkF m 522 #[.val (.int p0), .val (.int p1), .val (.int p2), .val (.int p3), .val (.ref b101), .val (.int (i5F pi)), .val (.int (ixx (pmF pi 0))), .val (.int (ixx (pmF pi 1))), .val (.int (ixx (pmF pi 2))), .val (.int (tii (t0F tq0))), .val (.int (tii (t1F tq0 dq1))), .val (.int (tii (t2F tq0 dq1 dq2))), .val (.int (b2i cf0)), .val (.int (b2i cf1)), .val (.int (b2i cf2)), .val (.ref b120), .val (.ref b122), .val (.ref b141), .val (.int (ixx vq)), .val (.int (b2i rr)), .val (.ref b160), .val (.int (ixx (e0F oq vq))), .val (.int (ixx (e1F oq vq))), .val (.int (ixx (e0F oq vq))), .val (.int (ixx (e1F oq vq))), .val (.int (-1 : Int32)), .val (.int (ixx (e0F oq vq)))] [(.int (enn (remF (remF Sc vq) (e0F oq vq)).f))])) _
          refine XS.istore X201.here hx rfl (hb hby at_522) rfl (l' := #[.val (.int p0), .val (.int p1), .val (.int p2), .val (.int p3), .val (.ref b101), .val (.int (i5F pi)), .val (.int (ixx (pmF pi 0))), .val (.int (ixx (pmF pi 1))), .val (.int (ixx (pmF pi 2))), .val (.int (tii (t0F tq0))), .val (.int (tii (t1F tq0 dq1))), .val (.int (tii (t2F tq0 dq1 dq2))), .val (.int (b2i cf0)), .val (.int (b2i cf1)), .val (.int (b2i cf2)), .val (.ref b120), .val (.ref b122), .val (.ref b141), .val (.int (ixx vq)), .val (.int (b2i rr)), .val (.ref b160), .val (.int (ixx (e0F oq vq))), .val (.int (ixx (e1F oq vq))), .val (.int (ixx (e0F oq vq))), .val (.int (ixx (e1F oq vq))), .val (.int (-1 : Int32)), .val (.int (enn (remF (remF Sc vq) (e0F oq vq)).f))]) rfl ?_
          show Steps p.tables e below (T201.setTop (mkF m 524 #[.val (.int p0), .val (.int p1), .val (.int p2), .val (.int p3), .val (.ref b101), .val (.int (i5F pi)), .val (.int (ixx (pmF pi 0))), .val (.int (ixx (pmF pi 1))), .val (.int (ixx (pmF pi 2))), .val (.int (tii (t0F tq0))), .val (.int (tii (t1F tq0 dq1))), .val (.int (tii (t2F tq0 dq1 dq2))), .val (.int (b2i cf0)), .val (.int (b2i cf1)), .val (.int (b2i cf2)), .val (.ref b120), .val (.ref b122), .val (.ref b141), .val (.int (ixx vq)), .val (.int (b2i rr)), .val (.ref b160), .val (.int (ixx (e0F oq vq))), .val (.int (ixx (e1F oq vq))), .val (.int (ixx (e0F oq vq))), .val (.int (ixx (e1F oq vq))), .val (.int (-1 : Int32)), .val (.int (enn (remF (remF Sc vq) (e0F oq vq)).f))] [])) _
          refine XS.iload X201.here hx rfl (hb hby at_524) rfl ?_
          show Steps p.tables e below (T201.setTop (mkF m 526 #[.val (.int p0), .val (.int p1), .val (.int p2), .val (.int p3), .val (.ref b101), .val (.int (i5F pi)), .val (.int (ixx (pmF pi 0))), .val (.int (ixx (pmF pi 1))), .val (.int (ixx (pmF pi 2))), .val (.int (tii (t0F tq0))), .val (.int (tii (t1F tq0 dq1))), .val (.int (tii (t2F tq0 dq1 dq2))), .val (.int (b2i cf0)), .val (.int (b2i cf1)), .val (.int (b2i cf2)), .val (.ref b120), .val (.ref b122), .val (.ref b141), .val (.int (ixx vq)), .val (.int (b2i rr)), .val (.ref b160), .val (.int (ixx (e0F oq vq))), .val (.int (ixx (e1F oq vq))), .val (.int (ixx (e0F oq vq))), .val (.int (ixx (e1F oq vq))), .val (.int (-1 : Int32)), .val (.int (enn (remF (remF Sc vq) (e0F oq vq)).f))] [(.int (enn (remF (remF Sc vq) (e0F oq vq)).f))])) _
          refine XS.iload X201.here hx rfl (hb hby at_526) rfl ?_
          show Steps p.tables e below (T201.setTop (mkF m 528 #[.val (.int p0), .val (.int p1), .val (.int p2), .val (.int p3), .val (.ref b101), .val (.int (i5F pi)), .val (.int (ixx (pmF pi 0))), .val (.int (ixx (pmF pi 1))), .val (.int (ixx (pmF pi 2))), .val (.int (tii (t0F tq0))), .val (.int (tii (t1F tq0 dq1))), .val (.int (tii (t2F tq0 dq1 dq2))), .val (.int (b2i cf0)), .val (.int (b2i cf1)), .val (.int (b2i cf2)), .val (.ref b120), .val (.ref b122), .val (.ref b141), .val (.int (ixx vq)), .val (.int (b2i rr)), .val (.ref b160), .val (.int (ixx (e0F oq vq))), .val (.int (ixx (e1F oq vq))), .val (.int (ixx (e0F oq vq))), .val (.int (ixx (e1F oq vq))), .val (.int (-1 : Int32)), .val (.int (enn (remF (remF Sc vq) (e0F oq vq)).f))] [(.int (ixx (e1F oq vq))), (.int (enn (remF (remF Sc vq) (e0F oq vq)).f))])) _
          refine XS.icmpYes X201.here hx rfl (pc0 := 528) (pc' := 533) rfl (hb hby at_528) rfl (own_t (ic_eq _ _) (congrArg enn r1)) (by decide) (by decide) ?_
          exact kt
        rw [(congrArg enn r1 : (enn (remF (remF Sc vq) (e0F oq vq)).f) = ixx (e1F oq vq))]
        obtain ⟨v203, T203, L203, X203, q203, st203⟩ := own_callV X201 hx hZ (y := (⟨"com/example/tenrec/tenrec/pool/IdleByLastCompletion", "remove", "(I)V"⟩ : MethodName)) (z := (⟨"com/example/tenrec/tenrec/pool/IdleByLastCompletion", "remove", "(I)V"⟩ : MethodName)) hown (hw _ (List.mem_of_getElem? (i := 48) rfl)) (hw _ (List.mem_of_getElem? (i := 49) rfl)) (notFace_of_selects (args := #[]) (mvT hZ (hw _ (List.mem_of_getElem? (i := 51) rfl)))) (hw _ (List.mem_of_getElem? (i := 51) rfl)) (hw _ (List.mem_of_getElem? (i := 50) rfl)) (hw _ (List.mem_of_getElem? (i := 12) rfl)) (hw _ (List.mem_of_getElem? (i := 52) rfl)) (by decide) E200q (hM := (rm9 l Z a0 hw [] b160 (e1F oq vq) lc162 bb162 ba162 (remF (remF Sc vq) (e0F oq vq)) T200.heap n0 z202 g_b160 g_bb162 g_ba162 ⟨(Nat.ne_of_lt (Nat.lt_of_lt_of_le A160.lt szq_lc162)), (Nat.ne_of_lt (Nat.lt_of_lt_of_le A160.lt szq_bb162)), (Nat.ne_of_lt (Nat.lt_of_lt_of_le A160.lt szq_ba162)), n1162, n2162, n3162⟩ ⟨E200q, Ff200q, Fl200q, Fc200q, Fb200q, Fa200q, Gb200q, Ga200q⟩)) (by decide) (by decide) (by decide) (by decide) e201 (argsL := [(.int (ixx (e1F oq vq)))]) (rest := []) (Ls := #[.val (.int p0), .val (.int p1), .val (.int p2), .val (.int p3), .val (.ref b101), .val (.int (i5F pi)), .val (.int (ixx (pmF pi 0))), .val (.int (ixx (pmF pi 1))), .val (.int (ixx (pmF pi 2))), .val (.int (tii (t0F tq0))), .val (.int (tii (t1F tq0 dq1))), .val (.int (tii (t2F tq0 dq1 dq2))), .val (.int (b2i cf0)), .val (.int (b2i cf1)), .val (.int (b2i cf2)), .val (.ref b120), .val (.ref b122), .val (.ref b141), .val (.int (ixx vq)), .val (.int (b2i rr)), .val (.ref b160), .val (.int (ixx (e0F oq vq))), .val (.int (ixx (e1F oq vq))), .val (.int (ixx (e0F oq vq))), .val (.int (ixx (e1F oq vq))), .val (.int (-1 : Int32)), .val (.int (ixx (e1F oq vq)))]) (by rw [hml]; rfl) (lenOf pd__I_V rfl) (W := 0) (Nat.le_of_eq rfl) (hb hby at_537)
        obtain ⟨rfl, N203q, K203q, E203q, Ff203q, Fl203q, Fc203q, Fb203q, Fa203q, Gb203q, Ga203q⟩ := q203
        have N203 := Fr.app N201 N203q
        have K203 : Keep h0 T203.heap [] := K200.trans K203q (allS (Or.inr sz_b160) (allS (Or.inr sz_bb162) (allS (Or.inr sz_ba162) all0)))
        have z205 : n0 ≤ T203.heap.size := (Nat.le_trans z202 K203q.1)
        obtain ⟨v204, T204, L204, X204, q204, st204⟩ := own_callV X203 hx hZ (y := (⟨"com/example/tenrec/tenrec/pool/IdleByLastCompletion", "first", "()I"⟩ : MethodName)) (z := (⟨"com/example/tenrec/tenrec/pool/IdleByLastCompletion", "first", "()I"⟩ : MethodName)) hown (hw _ (List.mem_of_getElem? (i := 53) rfl)) (hw _ (List.mem_of_getElem? (i := 54) rfl)) (notFace_of_selects (args := #[]) (mvT hZ (hw _ (List.mem_of_getElem? (i := 56) rfl)))) (hw _ (List.mem_of_getElem? (i := 56) rfl)) (hw _ (List.mem_of_getElem? (i := 55) rfl)) (hw _ (List.mem_of_getElem? (i := 12) rfl)) (hw _ (List.mem_of_getElem? (i := 57) rfl)) (by decide) E203q (hM := (rm10 l Z a0 hw [] b160 (enn (remF (remF (remF Sc vq) (e0F oq vq)) (e1F oq vq)).f) T203.heap n0 z205 Ff203q)) (by decide) (by decide) (by decide) (by decide) rfl (argsL := []) (rest := []) (Ls := #[.val (.int p0), .val (.int p1), .val (.int p2), .val (.int p3), .val (.ref b101), .val (.int (i5F pi)), .val (.int (ixx (pmF pi 0))), .val (.int (ixx (pmF pi 1))), .val (.int (ixx (pmF pi 2))), .val (.int (tii (t0F tq0))), .val (.int (tii (t1F tq0 dq1))), .val (.int (tii (t2F tq0 dq1 dq2))), .val (.int (b2i cf0)), .val (.int (b2i cf1)), .val (.int (b2i cf2)), .val (.ref b120), .val (.ref b122), .val (.ref b141), .val (.int (ixx vq)), .val (.int (b2i rr)), .val (.ref b160), .val (.int (ixx (e0F oq vq))), .val (.int (ixx (e1F oq vq))), .val (.int (ixx (e0F oq vq))), .val (.int (ixx (e1F oq vq))), .val (.int (-1 : Int32)), .val (.int (ixx (e1F oq vq)))]) (by rw [hml]; rfl) (lenOf pd___I rfl) (W := 0) (Nat.le_of_eq rfl) (hb hby at_542)
        obtain ⟨rfl, N204q, e204⟩ := q204
        have N204 := Fr.app N203 N204q
        refine Gl.fin X204 (v := some (.int (1 : Int32))) (fun h => by rw [Bd.returns] at h; cases h) Bd.notSynchronized ?_ e204 (by decide) (by decide) (fun fs hr => ?_)
        · exact ⟨rfl, N204⟩
        · show Steps p.tables e below (T201.setTop (mkF m 533 #[.val (.int p0), .val (.int p1), .val (.int p2), .val (.int p3), .val (.ref b101), .val (.int (i5F pi)), .val (.int (ixx (pmF pi 0))), .val (.int (ixx (pmF pi 1))), .val (.int (ixx (pmF pi 2))), .val (.int (tii (t0F tq0))), .val (.int (tii (t1F tq0 dq1))), .val (.int (tii (t2F tq0 dq1 dq2))), .val (.int (b2i cf0)), .val (.int (b2i cf1)), .val (.int (b2i cf2)), .val (.ref b120), .val (.ref b122), .val (.ref b141), .val (.int (ixx vq)), .val (.int (b2i rr)), .val (.ref b160), .val (.int (ixx (e0F oq vq))), .val (.int (ixx (e1F oq vq))), .val (.int (ixx (e0F oq vq))), .val (.int (ixx (e1F oq vq))), .val (.int (-1 : Int32)), .val (.int (ixx (e1F oq vq)))] [])) _
          refine XS.aload X201.here hx rfl (hb hby at_533) rfl rfl ?_
          show Steps p.tables e below (T201.setTop (mkF m 535 #[.val (.int p0), .val (.int p1), .val (.int p2), .val (.int p3), .val (.ref b101), .val (.int (i5F pi)), .val (.int (ixx (pmF pi 0))), .val (.int (ixx (pmF pi 1))), .val (.int (ixx (pmF pi 2))), .val (.int (tii (t0F tq0))), .val (.int (tii (t1F tq0 dq1))), .val (.int (tii (t2F tq0 dq1 dq2))), .val (.int (b2i cf0)), .val (.int (b2i cf1)), .val (.int (b2i cf2)), .val (.ref b120), .val (.ref b122), .val (.ref b141), .val (.int (ixx vq)), .val (.int (b2i rr)), .val (.ref b160), .val (.int (ixx (e0F oq vq))), .val (.int (ixx (e1F oq vq))), .val (.int (ixx (e0F oq vq))), .val (.int (ixx (e1F oq vq))), .val (.int (-1 : Int32)), .val (.int (ixx (e1F oq vq)))] [(.ref b160)])) _
          refine XS.iload X201.here hx rfl (hb hby at_535) rfl ?_
          show Steps p.tables e below (T201.setTop (mkF m 537 #[.val (.int p0), .val (.int p1), .val (.int p2), .val (.int p3), .val (.ref b101), .val (.int (i5F pi)), .val (.int (ixx (pmF pi 0))), .val (.int (ixx (pmF pi 1))), .val (.int (ixx (pmF pi 2))), .val (.int (tii (t0F tq0))), .val (.int (tii (t1F tq0 dq1))), .val (.int (tii (t2F tq0 dq1 dq2))), .val (.int (b2i cf0)), .val (.int (b2i cf1)), .val (.int (b2i cf2)), .val (.ref b120), .val (.ref b122), .val (.ref b141), .val (.int (ixx vq)), .val (.int (b2i rr)), .val (.ref b160), .val (.int (ixx (e0F oq vq))), .val (.int (ixx (e1F oq vq))), .val (.int (ixx (e0F oq vq))), .val (.int (ixx (e1F oq vq))), .val (.int (-1 : Int32)), .val (.int (ixx (e1F oq vq)))] [(.int (ixx (e1F oq vq))), (.ref b160)])) _
          refine st203 _ ?_
          show Steps p.tables e below (T203.setTop (mkF m 540 #[.val (.int p0), .val (.int p1), .val (.int p2), .val (.int p3), .val (.ref b101), .val (.int (i5F pi)), .val (.int (ixx (pmF pi 0))), .val (.int (ixx (pmF pi 1))), .val (.int (ixx (pmF pi 2))), .val (.int (tii (t0F tq0))), .val (.int (tii (t1F tq0 dq1))), .val (.int (tii (t2F tq0 dq1 dq2))), .val (.int (b2i cf0)), .val (.int (b2i cf1)), .val (.int (b2i cf2)), .val (.ref b120), .val (.ref b122), .val (.ref b141), .val (.int (ixx vq)), .val (.int (b2i rr)), .val (.ref b160), .val (.int (ixx (e0F oq vq))), .val (.int (ixx (e1F oq vq))), .val (.int (ixx (e0F oq vq))), .val (.int (ixx (e1F oq vq))), .val (.int (-1 : Int32)), .val (.int (ixx (e1F oq vq)))] [])) _
          refine XS.aload X203.here hx rfl (hb hby at_540) rfl rfl ?_
          show Steps p.tables e below (T203.setTop (mkF m 542 #[.val (.int p0), .val (.int p1), .val (.int p2), .val (.int p3), .val (.ref b101), .val (.int (i5F pi)), .val (.int (ixx (pmF pi 0))), .val (.int (ixx (pmF pi 1))), .val (.int (ixx (pmF pi 2))), .val (.int (tii (t0F tq0))), .val (.int (tii (t1F tq0 dq1))), .val (.int (tii (t2F tq0 dq1 dq2))), .val (.int (b2i cf0)), .val (.int (b2i cf1)), .val (.int (b2i cf2)), .val (.ref b120), .val (.ref b122), .val (.ref b141), .val (.int (ixx vq)), .val (.int (b2i rr)), .val (.ref b160), .val (.int (ixx (e0F oq vq))), .val (.int (ixx (e1F oq vq))), .val (.int (ixx (e0F oq vq))), .val (.int (ixx (e1F oq vq))), .val (.int (-1 : Int32)), .val (.int (ixx (e1F oq vq)))] [(.ref b160)])) _
          refine st204 _ ?_
          show Steps p.tables e below (T204.setTop (mkF m 545 #[.val (.int p0), .val (.int p1), .val (.int p2), .val (.int p3), .val (.ref b101), .val (.int (i5F pi)), .val (.int (ixx (pmF pi 0))), .val (.int (ixx (pmF pi 1))), .val (.int (ixx (pmF pi 2))), .val (.int (tii (t0F tq0))), .val (.int (tii (t1F tq0 dq1))), .val (.int (tii (t2F tq0 dq1 dq2))), .val (.int (b2i cf0)), .val (.int (b2i cf1)), .val (.int (b2i cf2)), .val (.ref b120), .val (.ref b122), .val (.ref b141), .val (.int (ixx vq)), .val (.int (b2i rr)), .val (.ref b160), .val (.int (ixx (e0F oq vq))), .val (.int (ixx (e1F oq vq))), .val (.int (ixx (e0F oq vq))), .val (.int (ixx (e1F oq vq))), .val (.int (-1 : Int32)), .val (.int (ixx (e1F oq vq)))] [(.int (enn (remF (remF (remF Sc vq) (e0F oq vq)) (e1F oq vq)).f))])) _
          refine XS.istore X204.here hx rfl (hb hby at_545) rfl (l' := #[.val (.int p0), .val (.int p1), .val (.int p2), .val (.int p3), .val (.ref b101), .val (.int (i5F pi)), .val (.int (ixx (pmF pi 0))), .val (.int (ixx (pmF pi 1))), .val (.int (ixx (pmF pi 2))), .val (.int (tii (t0F tq0))), .val (.int (tii (t1F tq0 dq1))), .val (.int (tii (t2F tq0 dq1 dq2))), .val (.int (b2i cf0)), .val (.int (b2i cf1)), .val (.int (b2i cf2)), .val (.ref b120), .val (.ref b122), .val (.ref b141), .val (.int (ixx vq)), .val (.int (b2i rr)), .val (.ref b160), .val (.int (ixx (e0F oq vq))), .val (.int (ixx (e1F oq vq))), .val (.int (ixx (e0F oq vq))), .val (.int (ixx (e1F oq vq))), .val (.int (-1 : Int32)), .val (.int (enn (remF (remF (remF Sc vq) (e0F oq vq)) (e1F oq vq)).f))]) rfl ?_
          show Steps p.tables e below (T204.setTop (mkF m 547 #[.val (.int p0), .val (.int p1), .val (.int p2), .val (.int p3), .val (.ref b101), .val (.int (i5F pi)), .val (.int (ixx (pmF pi 0))), .val (.int (ixx (pmF pi 1))), .val (.int (ixx (pmF pi 2))), .val (.int (tii (t0F tq0))), .val (.int (tii (t1F tq0 dq1))), .val (.int (tii (t2F tq0 dq1 dq2))), .val (.int (b2i cf0)), .val (.int (b2i cf1)), .val (.int (b2i cf2)), .val (.ref b120), .val (.ref b122), .val (.ref b141), .val (.int (ixx vq)), .val (.int (b2i rr)), .val (.ref b160), .val (.int (ixx (e0F oq vq))), .val (.int (ixx (e1F oq vq))), .val (.int (ixx (e0F oq vq))), .val (.int (ixx (e1F oq vq))), .val (.int (-1 : Int32)), .val (.int (enn (remF (remF (remF Sc vq) (e0F oq vq)) (e1F oq vq)).f))] [])) _
          refine XS.iload X204.here hx rfl (hb hby at_547) rfl ?_
          show Steps p.tables e below (T204.setTop (mkF m 549 #[.val (.int p0), .val (.int p1), .val (.int p2), .val (.int p3), .val (.ref b101), .val (.int (i5F pi)), .val (.int (ixx (pmF pi 0))), .val (.int (ixx (pmF pi 1))), .val (.int (ixx (pmF pi 2))), .val (.int (tii (t0F tq0))), .val (.int (tii (t1F tq0 dq1))), .val (.int (tii (t2F tq0 dq1 dq2))), .val (.int (b2i cf0)), .val (.int (b2i cf1)), .val (.int (b2i cf2)), .val (.ref b120), .val (.ref b122), .val (.ref b141), .val (.int (ixx vq)), .val (.int (b2i rr)), .val (.ref b160), .val (.int (ixx (e0F oq vq))), .val (.int (ixx (e1F oq vq))), .val (.int (ixx (e0F oq vq))), .val (.int (ixx (e1F oq vq))), .val (.int (-1 : Int32)), .val (.int (enn (remF (remF (remF Sc vq) (e0F oq vq)) (e1F oq vq)).f))] [(.int (enn (remF (remF (remF Sc vq) (e0F oq vq)) (e1F oq vq)).f))])) _
          refine XS.iload X204.here hx rfl (hb hby at_549) rfl ?_
          show Steps p.tables e below (T204.setTop (mkF m 551 #[.val (.int p0), .val (.int p1), .val (.int p2), .val (.int p3), .val (.ref b101), .val (.int (i5F pi)), .val (.int (ixx (pmF pi 0))), .val (.int (ixx (pmF pi 1))), .val (.int (ixx (pmF pi 2))), .val (.int (tii (t0F tq0))), .val (.int (tii (t1F tq0 dq1))), .val (.int (tii (t2F tq0 dq1 dq2))), .val (.int (b2i cf0)), .val (.int (b2i cf1)), .val (.int (b2i cf2)), .val (.ref b120), .val (.ref b122), .val (.ref b141), .val (.int (ixx vq)), .val (.int (b2i rr)), .val (.ref b160), .val (.int (ixx (e0F oq vq))), .val (.int (ixx (e1F oq vq))), .val (.int (ixx (e0F oq vq))), .val (.int (ixx (e1F oq vq))), .val (.int (-1 : Int32)), .val (.int (enn (remF (remF (remF Sc vq) (e0F oq vq)) (e1F oq vq)).f))] [(.int (-1 : Int32)), (.int (enn (remF (remF (remF Sc vq) (e0F oq vq)) (e1F oq vq)).f))])) _
          refine XS.icmpYes X204.here hx rfl (pc0 := 551) (pc' := 556) rfl (hb hby at_551) rfl (own_t (ic_eq _ _) (congrArg enn r2)) (by decide) (by decide) ?_
          show Steps p.tables e below (T204.setTop (mkF m 556 #[.val (.int p0), .val (.int p1), .val (.int p2), .val (.int p3), .val (.ref b101), .val (.int (i5F pi)), .val (.int (ixx (pmF pi 0))), .val (.int (ixx (pmF pi 1))), .val (.int (ixx (pmF pi 2))), .val (.int (tii (t0F tq0))), .val (.int (tii (t1F tq0 dq1))), .val (.int (tii (t2F tq0 dq1 dq2))), .val (.int (b2i cf0)), .val (.int (b2i cf1)), .val (.int (b2i cf2)), .val (.ref b120), .val (.ref b122), .val (.ref b141), .val (.int (ixx vq)), .val (.int (b2i rr)), .val (.ref b160), .val (.int (ixx (e0F oq vq))), .val (.int (ixx (e1F oq vq))), .val (.int (ixx (e0F oq vq))), .val (.int (ixx (e1F oq vq))), .val (.int (-1 : Int32)), .val (.int (enn (remF (remF (remF Sc vq) (e0F oq vq)) (e1F oq vq)).f))] [])) _
          refine XS.iload X204.here hx rfl (hb hby at_556) rfl ?_
          show Steps p.tables e below (T204.setTop (mkF m 558 #[.val (.int p0), .val (.int p1), .val (.int p2), .val (.int p3), .val (.ref b101), .val (.int (i5F pi)), .val (.int (ixx (pmF pi 0))), .val (.int (ixx (pmF pi 1))), .val (.int (ixx (pmF pi 2))), .val (.int (tii (t0F tq0))), .val (.int (tii (t1F tq0 dq1))), .val (.int (tii (t2F tq0 dq1 dq2))), .val (.int (b2i cf0)), .val (.int (b2i cf1)), .val (.int (b2i cf2)), .val (.ref b120), .val (.ref b122), .val (.ref b141), .val (.int (ixx vq)), .val (.int (b2i rr)), .val (.ref b160), .val (.int (ixx (e0F oq vq))), .val (.int (ixx (e1F oq vq))), .val (.int (ixx (e0F oq vq))), .val (.int (ixx (e1F oq vq))), .val (.int (-1 : Int32)), .val (.int (enn (remF (remF (remF Sc vq) (e0F oq vq)) (e1F oq vq)).f))] [(.int (-1 : Int32))])) _
          refine XS.iconst X204.here hx rfl (hb hby at_558) ?_
          show Steps p.tables e below (T204.setTop (mkF m 559 #[.val (.int p0), .val (.int p1), .val (.int p2), .val (.int p3), .val (.ref b101), .val (.int (i5F pi)), .val (.int (ixx (pmF pi 0))), .val (.int (ixx (pmF pi 1))), .val (.int (ixx (pmF pi 2))), .val (.int (tii (t0F tq0))), .val (.int (tii (t1F tq0 dq1))), .val (.int (tii (t2F tq0 dq1 dq2))), .val (.int (b2i cf0)), .val (.int (b2i cf1)), .val (.int (b2i cf2)), .val (.ref b120), .val (.ref b122), .val (.ref b141), .val (.int (ixx vq)), .val (.int (b2i rr)), .val (.ref b160), .val (.int (ixx (e0F oq vq))), .val (.int (ixx (e1F oq vq))), .val (.int (ixx (e0F oq vq))), .val (.int (ixx (e1F oq vq))), .val (.int (-1 : Int32)), .val (.int (enn (remF (remF (remF Sc vq) (e0F oq vq)) (e1F oq vq)).f))] [(.int (-1 : Int32)), (.int (-1 : Int32))])) _
          refine XS.icmpNo X204.here hx rfl (hb hby at_559) rfl (own_nf (ic_ne _ _) (by decide)) ?_
          show Steps p.tables e below (T204.setTop (mkF m 562 #[.val (.int p0), .val (.int p1), .val (.int p2), .val (.int p3), .val (.ref b101), .val (.int (i5F pi)), .val (.int (ixx (pmF pi 0))), .val (.int (ixx (pmF pi 1))), .val (.int (ixx (pmF pi 2))), .val (.int (tii (t0F tq0))), .val (.int (tii (t1F tq0 dq1))), .val (.int (tii (t2F tq0 dq1 dq2))), .val (.int (b2i cf0)), .val (.int (b2i cf1)), .val (.int (b2i cf2)), .val (.ref b120), .val (.ref b122), .val (.ref b141), .val (.int (ixx vq)), .val (.int (b2i rr)), .val (.ref b160), .val (.int (ixx (e0F oq vq))), .val (.int (ixx (e1F oq vq))), .val (.int (ixx (e0F oq vq))), .val (.int (ixx (e1F oq vq))), .val (.int (-1 : Int32)), .val (.int (enn (remF (remF (remF Sc vq) (e0F oq vq)) (e1F oq vq)).f))] [])) _
          refine XS.iconst X204.here hx rfl (hb hby at_562) ?_
          show Steps p.tables e below (T204.setTop (mkF m 563 #[.val (.int p0), .val (.int p1), .val (.int p2), .val (.int p3), .val (.ref b101), .val (.int (i5F pi)), .val (.int (ixx (pmF pi 0))), .val (.int (ixx (pmF pi 1))), .val (.int (ixx (pmF pi 2))), .val (.int (tii (t0F tq0))), .val (.int (tii (t1F tq0 dq1))), .val (.int (tii (t2F tq0 dq1 dq2))), .val (.int (b2i cf0)), .val (.int (b2i cf1)), .val (.int (b2i cf2)), .val (.ref b120), .val (.ref b122), .val (.ref b141), .val (.int (ixx vq)), .val (.int (b2i rr)), .val (.ref b160), .val (.int (ixx (e0F oq vq))), .val (.int (ixx (e1F oq vq))), .val (.int (ixx (e0F oq vq))), .val (.int (ixx (e1F oq vq))), .val (.int (-1 : Int32)), .val (.int (enn (remF (remF (remF Sc vq) (e0F oq vq)) (e1F oq vq)).f))] [(.int (1 : Int32))])) _
          exact retN X204 hx (t := .boolean) Bd.returns (by simp) (hb hby at_563) hr
    refine Gl.pre (S' := T162.setTop (mkF m 323 #[.val (.int p0), .val (.int p1), .val (.int p2), .val (.int p3), .val (.ref b101), .val (.int (i5F pi)), .val (.int (ixx (pmF pi 0))), .val (.int (ixx (pmF pi 1))), .val (.int (ixx (pmF pi 2))), .val (.int (tii (t0F tq0))), .val (.int (tii (t1F tq0 dq1))), .val (.int (tii (t2F tq0 dq1 dq2))), .val (.int (b2i cf0)), .val (.int (b2i cf1)), .val (.int (b2i cf2)), .val (.ref b120), .val (.ref b122), .val (.ref b141), .val (.int (ixx vq)), .val (.int (b2i rr)), .val (.ref b160), .unset, .unset, .unset, .unset, .unset, .unset] [(.int (b2i cf0))])) (fun t kt => ?_) ?_
    · show Steps p.tables e below (T162.setTop (mkF m 321 #[.val (.int p0), .val (.int p1), .val (.int p2), .val (.int p3), .val (.ref b101), .val (.int (i5F pi)), .val (.int (ixx (pmF pi 0))), .val (.int (ixx (pmF pi 1))), .val (.int (ixx (pmF pi 2))), .val (.int (tii (t0F tq0))), .val (.int (tii (t1F tq0 dq1))), .val (.int (tii (t2F tq0 dq1 dq2))), .val (.int (b2i cf0)), .val (.int (b2i cf1)), .val (.int (b2i cf2)), .val (.ref b120), .val (.ref b122), .val (.ref b141), .val (.int (ixx vq)), .val (.int (b2i rr)), .val (.ref b160), .unset, .unset, .unset, .unset, .unset, .unset] [])) _
      refine XS.iload X162.here hx rfl (hb hby at_321) rfl ?_
      exact kt
    by_cases hc323 : cf0 = true
    · have z207 : n0 ≤ T162.heap.size := (Nat.le_trans z163 K162q.1)
      obtain ⟨v206, T206, L206, X206, q206, st206⟩ := own_callV X162 hx hZ (y := (⟨"com/example/tenrec/tenrec/pool/IdleByLastCompletion", "completed", "(ID)V"⟩ : MethodName)) (z := (⟨"com/example/tenrec/tenrec/pool/IdleByLastCompletion", "completed", "(ID)V"⟩ : MethodName)) hown (hw _ (List.mem_of_getElem? (i := 58) rfl)) (hw _ (List.mem_of_getElem? (i := 59) rfl)) (notFace_of_selects (args := #[]) (mvT hZ (hw _ (List.mem_of_getElem? (i := 61) rfl)))) (hw _ (List.mem_of_getElem? (i := 61) rfl)) (hw _ (List.mem_of_getElem? (i := 60) rfl)) (hw _ (List.mem_of_getElem? (i := 12) rfl)) (hw _ (List.mem_of_getElem? (i := 62) rfl)) (by decide) E162q (hM := (rm11 l Z a0 hw [] b160 (pmF pi 0) (t0F tq0) lc162 (fun _ => none) T162.heap n0 z207 g_lc162 Fc162q Gc162q)) (by decide) (by decide) (by decide) (by decide) rfl (argsL := [(.int (ixx (pmF pi 0))), (.double (FP.i2d (tii (t0F tq0))))]) (rest := []) (Ls := #[.val (.int p0), .val (.int p1), .val (.int p2), .val (.int p3), .val (.ref b101), .val (.int (i5F pi)), .val (.int (ixx (pmF pi 0))), .val (.int (ixx (pmF pi 1))), .val (.int (ixx (pmF pi 2))), .val (.int (tii (t0F tq0))), .val (.int (tii (t1F tq0 dq1))), .val (.int (tii (t2F tq0 dq1 dq2))), .val (.int (b2i cf0)), .val (.int (b2i cf1)), .val (.int (b2i cf2)), .val (.ref b120), .val (.ref b122), .val (.ref b141), .val (.int (ixx vq)), .val (.int (b2i rr)), .val (.ref b160), .unset, .unset, .unset, .unset, .unset, .unset]) (by rw [hml]; rfl) (lenOf pd__ID_V rfl) (W := 0) (Nat.le_of_eq rfl) (hb hby at_333)
      obtain ⟨rfl, N206q, K206q, G206q⟩ := q206
      have N206 := Fr.app N162 N206q
      have K206 : Keep h0 T206.heap [] := K162.trans K206q (allS (Or.inr sz_lc162) all0)
      refine Gl.pre (S' := T206.setTop (mkF m 338 #[.val (.int p0), .val (.int p1), .val (.int p2), .val (.int p3), .val (.ref b101), .val (.int (i5F pi)), .val (.int (ixx (pmF pi 0))), .val (.int (ixx (pmF pi 1))), .val (.int (ixx (pmF pi 2))), .val (.int (tii (t0F tq0))), .val (.int (tii (t1F tq0 dq1))), .val (.int (tii (t2F tq0 dq1 dq2))), .val (.int (b2i cf0)), .val (.int (b2i cf1)), .val (.int (b2i cf2)), .val (.ref b120), .val (.ref b122), .val (.ref b141), .val (.int (ixx vq)), .val (.int (b2i rr)), .val (.ref b160), .unset, .unset, .unset, .unset, .unset, .unset] [(.int (b2i cf1))])) (fun t kt => ?_) ?_
      · show Steps p.tables e below (T162.setTop (mkF m 323 #[.val (.int p0), .val (.int p1), .val (.int p2), .val (.int p3), .val (.ref b101), .val (.int (i5F pi)), .val (.int (ixx (pmF pi 0))), .val (.int (ixx (pmF pi 1))), .val (.int (ixx (pmF pi 2))), .val (.int (tii (t0F tq0))), .val (.int (tii (t1F tq0 dq1))), .val (.int (tii (t2F tq0 dq1 dq2))), .val (.int (b2i cf0)), .val (.int (b2i cf1)), .val (.int (b2i cf2)), .val (.ref b120), .val (.ref b122), .val (.ref b141), .val (.int (ixx vq)), .val (.int (b2i rr)), .val (.ref b160), .unset, .unset, .unset, .unset, .unset, .unset] [(.int (b2i cf0))])) _
        refine XS.ifNo X162.here hx rfl (hb hby at_323) rfl (own_nbf (b0_eq _) hc323) ?_
        show Steps p.tables e below (T162.setTop (mkF m 326 #[.val (.int p0), .val (.int p1), .val (.int p2), .val (.int p3), .val (.ref b101), .val (.int (i5F pi)), .val (.int (ixx (pmF pi 0))), .val (.int (ixx (pmF pi 1))), .val (.int (ixx (pmF pi 2))), .val (.int (tii (t0F tq0))), .val (.int (tii (t1F tq0 dq1))), .val (.int (tii (t2F tq0 dq1 dq2))), .val (.int (b2i cf0)), .val (.int (b2i cf1)), .val (.int (b2i cf2)), .val (.ref b120), .val (.ref b122), .val (.ref b141), .val (.int (ixx vq)), .val (.int (b2i rr)), .val (.ref b160), .unset, .unset, .unset, .unset, .unset, .unset] [])) _
        refine XS.aload X162.here hx rfl (hb hby at_326) rfl rfl ?_
        show Steps p.tables e below (T162.setTop (mkF m 328 #[.val (.int p0), .val (.int p1), .val (.int p2), .val (.int p3), .val (.ref b101), .val (.int (i5F pi)), .val (.int (ixx (pmF pi 0))), .val (.int (ixx (pmF pi 1))), .val (.int (ixx (pmF pi 2))), .val (.int (tii (t0F tq0))), .val (.int (tii (t1F tq0 dq1))), .val (.int (tii (t2F tq0 dq1 dq2))), .val (.int (b2i cf0)), .val (.int (b2i cf1)), .val (.int (b2i cf2)), .val (.ref b120), .val (.ref b122), .val (.ref b141), .val (.int (ixx vq)), .val (.int (b2i rr)), .val (.ref b160), .unset, .unset, .unset, .unset, .unset, .unset] [(.ref b160)])) _
        refine XS.iload X162.here hx rfl (hb hby at_328) rfl ?_
        show Steps p.tables e below (T162.setTop (mkF m 330 #[.val (.int p0), .val (.int p1), .val (.int p2), .val (.int p3), .val (.ref b101), .val (.int (i5F pi)), .val (.int (ixx (pmF pi 0))), .val (.int (ixx (pmF pi 1))), .val (.int (ixx (pmF pi 2))), .val (.int (tii (t0F tq0))), .val (.int (tii (t1F tq0 dq1))), .val (.int (tii (t2F tq0 dq1 dq2))), .val (.int (b2i cf0)), .val (.int (b2i cf1)), .val (.int (b2i cf2)), .val (.ref b120), .val (.ref b122), .val (.ref b141), .val (.int (ixx vq)), .val (.int (b2i rr)), .val (.ref b160), .unset, .unset, .unset, .unset, .unset, .unset] [(.int (ixx (pmF pi 0))), (.ref b160)])) _
        refine XS.iload X162.here hx rfl (hb hby at_330) rfl ?_
        show Steps p.tables e below (T162.setTop (mkF m 332 #[.val (.int p0), .val (.int p1), .val (.int p2), .val (.int p3), .val (.ref b101), .val (.int (i5F pi)), .val (.int (ixx (pmF pi 0))), .val (.int (ixx (pmF pi 1))), .val (.int (ixx (pmF pi 2))), .val (.int (tii (t0F tq0))), .val (.int (tii (t1F tq0 dq1))), .val (.int (tii (t2F tq0 dq1 dq2))), .val (.int (b2i cf0)), .val (.int (b2i cf1)), .val (.int (b2i cf2)), .val (.ref b120), .val (.ref b122), .val (.ref b141), .val (.int (ixx vq)), .val (.int (b2i rr)), .val (.ref b160), .unset, .unset, .unset, .unset, .unset, .unset] [(.int (tii (t0F tq0))), (.int (ixx (pmF pi 0))), (.ref b160)])) _
        refine XS.i2dS X162.here hx rfl (hb hby at_332) rfl rfl ?_
        show Steps p.tables e below (T162.setTop (mkF m 333 #[.val (.int p0), .val (.int p1), .val (.int p2), .val (.int p3), .val (.ref b101), .val (.int (i5F pi)), .val (.int (ixx (pmF pi 0))), .val (.int (ixx (pmF pi 1))), .val (.int (ixx (pmF pi 2))), .val (.int (tii (t0F tq0))), .val (.int (tii (t1F tq0 dq1))), .val (.int (tii (t2F tq0 dq1 dq2))), .val (.int (b2i cf0)), .val (.int (b2i cf1)), .val (.int (b2i cf2)), .val (.ref b120), .val (.ref b122), .val (.ref b141), .val (.int (ixx vq)), .val (.int (b2i rr)), .val (.ref b160), .unset, .unset, .unset, .unset, .unset, .unset] [(.double (FP.i2d (tii (t0F tq0)))), (.int (ixx (pmF pi 0))), (.ref b160)])) _
        refine st206 _ ?_
        show Steps p.tables e below (T206.setTop (mkF m 336 #[.val (.int p0), .val (.int p1), .val (.int p2), .val (.int p3), .val (.ref b101), .val (.int (i5F pi)), .val (.int (ixx (pmF pi 0))), .val (.int (ixx (pmF pi 1))), .val (.int (ixx (pmF pi 2))), .val (.int (tii (t0F tq0))), .val (.int (tii (t1F tq0 dq1))), .val (.int (tii (t2F tq0 dq1 dq2))), .val (.int (b2i cf0)), .val (.int (b2i cf1)), .val (.int (b2i cf2)), .val (.ref b120), .val (.ref b122), .val (.ref b141), .val (.int (ixx vq)), .val (.int (b2i rr)), .val (.ref b160), .unset, .unset, .unset, .unset, .unset, .unset] [])) _
        refine XS.iload X206.here hx rfl (hb hby at_336) rfl ?_
        exact kt
      by_cases hc338 : cf1 = true
      · have f209 := (Fc162q.keep K206q (ninS (Nat.ne_of_lt (Nat.lt_of_lt_of_le A160.lt szq_lc162)) nin0))
        have z210 : n0 ≤ T206.heap.size := (Nat.le_trans z207 K206q.1)
        have f211 := (E162q.keep K206q)
        obtain ⟨v208, T208, L208, X208, q208, st208⟩ := own_callV X206 hx hZ (y := (⟨"com/example/tenrec/tenrec/pool/IdleByLastCompletion", "completed", "(ID)V"⟩ : MethodName)) (z := (⟨"com/example/tenrec/tenrec/pool/IdleByLastCompletion", "completed", "(ID)V"⟩ : MethodName)) hown (hw _ (List.mem_of_getElem? (i := 58) rfl)) (hw _ (List.mem_of_getElem? (i := 59) rfl)) (notFace_of_selects (args := #[]) (mvT hZ (hw _ (List.mem_of_getElem? (i := 61) rfl)))) (hw _ (List.mem_of_getElem? (i := 61) rfl)) (hw _ (List.mem_of_getElem? (i := 60) rfl)) (hw _ (List.mem_of_getElem? (i := 12) rfl)) (hw _ (List.mem_of_getElem? (i := 62) rfl)) (by decide) f211 (hM := (rm11 l Z a0 hw [] b160 (pmF pi 1) (t1F tq0 dq1) lc162 (upp (fun _ => none) (pmF pi 0) (some (t0F tq0))) T206.heap n0 z210 g_lc162 f209 G206q)) (by decide) (by decide) (by decide) (by decide) rfl (argsL := [(.int (ixx (pmF pi 1))), (.double (FP.i2d (tii (t1F tq0 dq1))))]) (rest := []) (Ls := #[.val (.int p0), .val (.int p1), .val (.int p2), .val (.int p3), .val (.ref b101), .val (.int (i5F pi)), .val (.int (ixx (pmF pi 0))), .val (.int (ixx (pmF pi 1))), .val (.int (ixx (pmF pi 2))), .val (.int (tii (t0F tq0))), .val (.int (tii (t1F tq0 dq1))), .val (.int (tii (t2F tq0 dq1 dq2))), .val (.int (b2i cf0)), .val (.int (b2i cf1)), .val (.int (b2i cf2)), .val (.ref b120), .val (.ref b122), .val (.ref b141), .val (.int (ixx vq)), .val (.int (b2i rr)), .val (.ref b160), .unset, .unset, .unset, .unset, .unset, .unset]) (by rw [hml]; rfl) (lenOf pd__ID_V rfl) (W := 0) (Nat.le_of_eq rfl) (hb hby at_348)
        obtain ⟨rfl, N208q, K208q, G208q⟩ := q208
        have N208 := Fr.app N206 N208q
        have K208 : Keep h0 T208.heap [] := K206.trans K208q (allS (Or.inr sz_lc162) all0)
        refine Gl.pre (S' := T208.setTop (mkF m 353 #[.val (.int p0), .val (.int p1), .val (.int p2), .val (.int p3), .val (.ref b101), .val (.int (i5F pi)), .val (.int (ixx (pmF pi 0))), .val (.int (ixx (pmF pi 1))), .val (.int (ixx (pmF pi 2))), .val (.int (tii (t0F tq0))), .val (.int (tii (t1F tq0 dq1))), .val (.int (tii (t2F tq0 dq1 dq2))), .val (.int (b2i cf0)), .val (.int (b2i cf1)), .val (.int (b2i cf2)), .val (.ref b120), .val (.ref b122), .val (.ref b141), .val (.int (ixx vq)), .val (.int (b2i rr)), .val (.ref b160), .unset, .unset, .unset, .unset, .unset, .unset] [(.int (b2i cf2))])) (fun t kt => ?_) ?_
        · show Steps p.tables e below (T206.setTop (mkF m 338 #[.val (.int p0), .val (.int p1), .val (.int p2), .val (.int p3), .val (.ref b101), .val (.int (i5F pi)), .val (.int (ixx (pmF pi 0))), .val (.int (ixx (pmF pi 1))), .val (.int (ixx (pmF pi 2))), .val (.int (tii (t0F tq0))), .val (.int (tii (t1F tq0 dq1))), .val (.int (tii (t2F tq0 dq1 dq2))), .val (.int (b2i cf0)), .val (.int (b2i cf1)), .val (.int (b2i cf2)), .val (.ref b120), .val (.ref b122), .val (.ref b141), .val (.int (ixx vq)), .val (.int (b2i rr)), .val (.ref b160), .unset, .unset, .unset, .unset, .unset, .unset] [(.int (b2i cf1))])) _
          refine XS.ifNo X206.here hx rfl (hb hby at_338) rfl (own_nbf (b0_eq _) hc338) ?_
          show Steps p.tables e below (T206.setTop (mkF m 341 #[.val (.int p0), .val (.int p1), .val (.int p2), .val (.int p3), .val (.ref b101), .val (.int (i5F pi)), .val (.int (ixx (pmF pi 0))), .val (.int (ixx (pmF pi 1))), .val (.int (ixx (pmF pi 2))), .val (.int (tii (t0F tq0))), .val (.int (tii (t1F tq0 dq1))), .val (.int (tii (t2F tq0 dq1 dq2))), .val (.int (b2i cf0)), .val (.int (b2i cf1)), .val (.int (b2i cf2)), .val (.ref b120), .val (.ref b122), .val (.ref b141), .val (.int (ixx vq)), .val (.int (b2i rr)), .val (.ref b160), .unset, .unset, .unset, .unset, .unset, .unset] [])) _
          refine XS.aload X206.here hx rfl (hb hby at_341) rfl rfl ?_
          show Steps p.tables e below (T206.setTop (mkF m 343 #[.val (.int p0), .val (.int p1), .val (.int p2), .val (.int p3), .val (.ref b101), .val (.int (i5F pi)), .val (.int (ixx (pmF pi 0))), .val (.int (ixx (pmF pi 1))), .val (.int (ixx (pmF pi 2))), .val (.int (tii (t0F tq0))), .val (.int (tii (t1F tq0 dq1))), .val (.int (tii (t2F tq0 dq1 dq2))), .val (.int (b2i cf0)), .val (.int (b2i cf1)), .val (.int (b2i cf2)), .val (.ref b120), .val (.ref b122), .val (.ref b141), .val (.int (ixx vq)), .val (.int (b2i rr)), .val (.ref b160), .unset, .unset, .unset, .unset, .unset, .unset] [(.ref b160)])) _
          refine XS.iload X206.here hx rfl (hb hby at_343) rfl ?_
          show Steps p.tables e below (T206.setTop (mkF m 345 #[.val (.int p0), .val (.int p1), .val (.int p2), .val (.int p3), .val (.ref b101), .val (.int (i5F pi)), .val (.int (ixx (pmF pi 0))), .val (.int (ixx (pmF pi 1))), .val (.int (ixx (pmF pi 2))), .val (.int (tii (t0F tq0))), .val (.int (tii (t1F tq0 dq1))), .val (.int (tii (t2F tq0 dq1 dq2))), .val (.int (b2i cf0)), .val (.int (b2i cf1)), .val (.int (b2i cf2)), .val (.ref b120), .val (.ref b122), .val (.ref b141), .val (.int (ixx vq)), .val (.int (b2i rr)), .val (.ref b160), .unset, .unset, .unset, .unset, .unset, .unset] [(.int (ixx (pmF pi 1))), (.ref b160)])) _
          refine XS.iload X206.here hx rfl (hb hby at_345) rfl ?_
          show Steps p.tables e below (T206.setTop (mkF m 347 #[.val (.int p0), .val (.int p1), .val (.int p2), .val (.int p3), .val (.ref b101), .val (.int (i5F pi)), .val (.int (ixx (pmF pi 0))), .val (.int (ixx (pmF pi 1))), .val (.int (ixx (pmF pi 2))), .val (.int (tii (t0F tq0))), .val (.int (tii (t1F tq0 dq1))), .val (.int (tii (t2F tq0 dq1 dq2))), .val (.int (b2i cf0)), .val (.int (b2i cf1)), .val (.int (b2i cf2)), .val (.ref b120), .val (.ref b122), .val (.ref b141), .val (.int (ixx vq)), .val (.int (b2i rr)), .val (.ref b160), .unset, .unset, .unset, .unset, .unset, .unset] [(.int (tii (t1F tq0 dq1))), (.int (ixx (pmF pi 1))), (.ref b160)])) _
          refine XS.i2dS X206.here hx rfl (hb hby at_347) rfl rfl ?_
          show Steps p.tables e below (T206.setTop (mkF m 348 #[.val (.int p0), .val (.int p1), .val (.int p2), .val (.int p3), .val (.ref b101), .val (.int (i5F pi)), .val (.int (ixx (pmF pi 0))), .val (.int (ixx (pmF pi 1))), .val (.int (ixx (pmF pi 2))), .val (.int (tii (t0F tq0))), .val (.int (tii (t1F tq0 dq1))), .val (.int (tii (t2F tq0 dq1 dq2))), .val (.int (b2i cf0)), .val (.int (b2i cf1)), .val (.int (b2i cf2)), .val (.ref b120), .val (.ref b122), .val (.ref b141), .val (.int (ixx vq)), .val (.int (b2i rr)), .val (.ref b160), .unset, .unset, .unset, .unset, .unset, .unset] [(.double (FP.i2d (tii (t1F tq0 dq1)))), (.int (ixx (pmF pi 1))), (.ref b160)])) _
          refine st208 _ ?_
          show Steps p.tables e below (T208.setTop (mkF m 351 #[.val (.int p0), .val (.int p1), .val (.int p2), .val (.int p3), .val (.ref b101), .val (.int (i5F pi)), .val (.int (ixx (pmF pi 0))), .val (.int (ixx (pmF pi 1))), .val (.int (ixx (pmF pi 2))), .val (.int (tii (t0F tq0))), .val (.int (tii (t1F tq0 dq1))), .val (.int (tii (t2F tq0 dq1 dq2))), .val (.int (b2i cf0)), .val (.int (b2i cf1)), .val (.int (b2i cf2)), .val (.ref b120), .val (.ref b122), .val (.ref b141), .val (.int (ixx vq)), .val (.int (b2i rr)), .val (.ref b160), .unset, .unset, .unset, .unset, .unset, .unset] [])) _
          refine XS.iload X208.here hx rfl (hb hby at_351) rfl ?_
          exact kt
        by_cases hc353 : cf2 = true
        · have f213 := (f209.keep K208q (ninS (Nat.ne_of_lt (Nat.lt_of_lt_of_le A160.lt szq_lc162)) nin0))
          have z214 : n0 ≤ T208.heap.size := (Nat.le_trans z210 K208q.1)
          have f215 := (f211.keep K208q)
          obtain ⟨v212, T212, L212, X212, q212, st212⟩ := own_callV X208 hx hZ (y := (⟨"com/example/tenrec/tenrec/pool/IdleByLastCompletion", "completed", "(ID)V"⟩ : MethodName)) (z := (⟨"com/example/tenrec/tenrec/pool/IdleByLastCompletion", "completed", "(ID)V"⟩ : MethodName)) hown (hw _ (List.mem_of_getElem? (i := 58) rfl)) (hw _ (List.mem_of_getElem? (i := 59) rfl)) (notFace_of_selects (args := #[]) (mvT hZ (hw _ (List.mem_of_getElem? (i := 61) rfl)))) (hw _ (List.mem_of_getElem? (i := 61) rfl)) (hw _ (List.mem_of_getElem? (i := 60) rfl)) (hw _ (List.mem_of_getElem? (i := 12) rfl)) (hw _ (List.mem_of_getElem? (i := 62) rfl)) (by decide) f215 (hM := (rm11 l Z a0 hw [] b160 (pmF pi 2) (t2F tq0 dq1 dq2) lc162 (upp (upp (fun _ => none) (pmF pi 0) (some (t0F tq0))) (pmF pi 1) (some (t1F tq0 dq1))) T208.heap n0 z214 g_lc162 f213 G208q)) (by decide) (by decide) (by decide) (by decide) rfl (argsL := [(.int (ixx (pmF pi 2))), (.double (FP.i2d (tii (t2F tq0 dq1 dq2))))]) (rest := []) (Ls := #[.val (.int p0), .val (.int p1), .val (.int p2), .val (.int p3), .val (.ref b101), .val (.int (i5F pi)), .val (.int (ixx (pmF pi 0))), .val (.int (ixx (pmF pi 1))), .val (.int (ixx (pmF pi 2))), .val (.int (tii (t0F tq0))), .val (.int (tii (t1F tq0 dq1))), .val (.int (tii (t2F tq0 dq1 dq2))), .val (.int (b2i cf0)), .val (.int (b2i cf1)), .val (.int (b2i cf2)), .val (.ref b120), .val (.ref b122), .val (.ref b141), .val (.int (ixx vq)), .val (.int (b2i rr)), .val (.ref b160), .unset, .unset, .unset, .unset, .unset, .unset]) (by rw [hml]; rfl) (lenOf pd__ID_V rfl) (W := 0) (Nat.le_of_eq rfl) (hb hby at_363)
          obtain ⟨rfl, N212q, K212q, G212q⟩ := q212
          have N212 := Fr.app N208 N212q
          have K212 : Keep h0 T212.heap [] := K208.trans K212q (allS (Or.inr sz_lc162) all0)
          refine Gl.pre (S' := T212.setTop (mkF m 366 #[.val (.int p0), .val (.int p1), .val (.int p2), .val (.int p3), .val (.ref b101), .val (.int (i5F pi)), .val (.int (ixx (pmF pi 0))), .val (.int (ixx (pmF pi 1))), .val (.int (ixx (pmF pi 2))), .val (.int (tii (t0F tq0))), .val (.int (tii (t1F tq0 dq1))), .val (.int (tii (t2F tq0 dq1 dq2))), .val (.int (b2i cf0)), .val (.int (b2i cf1)), .val (.int (b2i cf2)), .val (.ref b120), .val (.ref b122), .val (.ref b141), .val (.int (ixx vq)), .val (.int (b2i rr)), .val (.ref b160), .unset, .unset, .unset, .unset, .unset, .unset] [])) (fun t kt => ?_) ?_
          · show Steps p.tables e below (T208.setTop (mkF m 353 #[.val (.int p0), .val (.int p1), .val (.int p2), .val (.int p3), .val (.ref b101), .val (.int (i5F pi)), .val (.int (ixx (pmF pi 0))), .val (.int (ixx (pmF pi 1))), .val (.int (ixx (pmF pi 2))), .val (.int (tii (t0F tq0))), .val (.int (tii (t1F tq0 dq1))), .val (.int (tii (t2F tq0 dq1 dq2))), .val (.int (b2i cf0)), .val (.int (b2i cf1)), .val (.int (b2i cf2)), .val (.ref b120), .val (.ref b122), .val (.ref b141), .val (.int (ixx vq)), .val (.int (b2i rr)), .val (.ref b160), .unset, .unset, .unset, .unset, .unset, .unset] [(.int (b2i cf2))])) _
            refine XS.ifNo X208.here hx rfl (hb hby at_353) rfl (own_nbf (b0_eq _) hc353) ?_
            show Steps p.tables e below (T208.setTop (mkF m 356 #[.val (.int p0), .val (.int p1), .val (.int p2), .val (.int p3), .val (.ref b101), .val (.int (i5F pi)), .val (.int (ixx (pmF pi 0))), .val (.int (ixx (pmF pi 1))), .val (.int (ixx (pmF pi 2))), .val (.int (tii (t0F tq0))), .val (.int (tii (t1F tq0 dq1))), .val (.int (tii (t2F tq0 dq1 dq2))), .val (.int (b2i cf0)), .val (.int (b2i cf1)), .val (.int (b2i cf2)), .val (.ref b120), .val (.ref b122), .val (.ref b141), .val (.int (ixx vq)), .val (.int (b2i rr)), .val (.ref b160), .unset, .unset, .unset, .unset, .unset, .unset] [])) _
            refine XS.aload X208.here hx rfl (hb hby at_356) rfl rfl ?_
            show Steps p.tables e below (T208.setTop (mkF m 358 #[.val (.int p0), .val (.int p1), .val (.int p2), .val (.int p3), .val (.ref b101), .val (.int (i5F pi)), .val (.int (ixx (pmF pi 0))), .val (.int (ixx (pmF pi 1))), .val (.int (ixx (pmF pi 2))), .val (.int (tii (t0F tq0))), .val (.int (tii (t1F tq0 dq1))), .val (.int (tii (t2F tq0 dq1 dq2))), .val (.int (b2i cf0)), .val (.int (b2i cf1)), .val (.int (b2i cf2)), .val (.ref b120), .val (.ref b122), .val (.ref b141), .val (.int (ixx vq)), .val (.int (b2i rr)), .val (.ref b160), .unset, .unset, .unset, .unset, .unset, .unset] [(.ref b160)])) _
            refine XS.iload X208.here hx rfl (hb hby at_358) rfl ?_
            show Steps p.tables e below (T208.setTop (mkF m 360 #[.val (.int p0), .val (.int p1), .val (.int p2), .val (.int p3), .val (.ref b101), .val (.int (i5F pi)), .val (.int (ixx (pmF pi 0))), .val (.int (ixx (pmF pi 1))), .val (.int (ixx (pmF pi 2))), .val (.int (tii (t0F tq0))), .val (.int (tii (t1F tq0 dq1))), .val (.int (tii (t2F tq0 dq1 dq2))), .val (.int (b2i cf0)), .val (.int (b2i cf1)), .val (.int (b2i cf2)), .val (.ref b120), .val (.ref b122), .val (.ref b141), .val (.int (ixx vq)), .val (.int (b2i rr)), .val (.ref b160), .unset, .unset, .unset, .unset, .unset, .unset] [(.int (ixx (pmF pi 2))), (.ref b160)])) _
            refine XS.iload X208.here hx rfl (hb hby at_360) rfl ?_
            show Steps p.tables e below (T208.setTop (mkF m 362 #[.val (.int p0), .val (.int p1), .val (.int p2), .val (.int p3), .val (.ref b101), .val (.int (i5F pi)), .val (.int (ixx (pmF pi 0))), .val (.int (ixx (pmF pi 1))), .val (.int (ixx (pmF pi 2))), .val (.int (tii (t0F tq0))), .val (.int (tii (t1F tq0 dq1))), .val (.int (tii (t2F tq0 dq1 dq2))), .val (.int (b2i cf0)), .val (.int (b2i cf1)), .val (.int (b2i cf2)), .val (.ref b120), .val (.ref b122), .val (.ref b141), .val (.int (ixx vq)), .val (.int (b2i rr)), .val (.ref b160), .unset, .unset, .unset, .unset, .unset, .unset] [(.int (tii (t2F tq0 dq1 dq2))), (.int (ixx (pmF pi 2))), (.ref b160)])) _
            refine XS.i2dS X208.here hx rfl (hb hby at_362) rfl rfl ?_
            show Steps p.tables e below (T208.setTop (mkF m 363 #[.val (.int p0), .val (.int p1), .val (.int p2), .val (.int p3), .val (.ref b101), .val (.int (i5F pi)), .val (.int (ixx (pmF pi 0))), .val (.int (ixx (pmF pi 1))), .val (.int (ixx (pmF pi 2))), .val (.int (tii (t0F tq0))), .val (.int (tii (t1F tq0 dq1))), .val (.int (tii (t2F tq0 dq1 dq2))), .val (.int (b2i cf0)), .val (.int (b2i cf1)), .val (.int (b2i cf2)), .val (.ref b120), .val (.ref b122), .val (.ref b141), .val (.int (ixx vq)), .val (.int (b2i rr)), .val (.ref b160), .unset, .unset, .unset, .unset, .unset, .unset] [(.double (FP.i2d (tii (t2F tq0 dq1 dq2)))), (.int (ixx (pmF pi 2))), (.ref b160)])) _
            refine st212 _ ?_
            exact kt
          have f216 := (f215.keep K212q)
          have f217 := (((Ff162q.keep K206q (ninS (Nat.ne_of_lt (Nat.lt_of_lt_of_le A160.lt szq_lc162)) nin0)).keep K208q (ninS (Nat.ne_of_lt (Nat.lt_of_lt_of_le A160.lt szq_lc162)) nin0)).keep K212q (ninS (Nat.ne_of_lt (Nat.lt_of_lt_of_le A160.lt szq_lc162)) nin0))
          have f218 := (((Fl162q.keep K206q (ninS (Nat.ne_of_lt (Nat.lt_of_lt_of_le A160.lt szq_lc162)) nin0)).keep K208q (ninS (Nat.ne_of_lt (Nat.lt_of_lt_of_le A160.lt szq_lc162)) nin0)).keep K212q (ninS (Nat.ne_of_lt (Nat.lt_of_lt_of_le A160.lt szq_lc162)) nin0))
          have f219 := (f213.keep K212q (ninS (Nat.ne_of_lt (Nat.lt_of_lt_of_le A160.lt szq_lc162)) nin0))
          have f220 := (((Fb162q.keep K206q (ninS (Nat.ne_of_lt (Nat.lt_of_lt_of_le A160.lt szq_lc162)) nin0)).keep K208q (ninS (Nat.ne_of_lt (Nat.lt_of_lt_of_le A160.lt szq_lc162)) nin0)).keep K212q (ninS (Nat.ne_of_lt (Nat.lt_of_lt_of_le A160.lt szq_lc162)) nin0))
          have f221 := (((Fa162q.keep K206q (ninS (Nat.ne_of_lt (Nat.lt_of_lt_of_le A160.lt szq_lc162)) nin0)).keep K208q (ninS (Nat.ne_of_lt (Nat.lt_of_lt_of_le A160.lt szq_lc162)) nin0)).keep K212q (ninS (Nat.ne_of_lt (Nat.lt_of_lt_of_le A160.lt szq_lc162)) nin0))
          have f222 := (((Gb162q.keep K206q (ninS (Ne.symm n1162) nin0)).keep K208q (ninS (Ne.symm n1162) nin0)).keep K212q (ninS (Ne.symm n1162) nin0))
          have f223 := (((Ga162q.keep K206q (ninS (Ne.symm n2162) nin0)).keep K208q (ninS (Ne.symm n2162) nin0)).keep K212q (ninS (Ne.symm n2162) nin0))
          have f224 := (((((G159.ext E160).keep K162q (ninS (Nat.ne_of_lt (Nat.lt_of_lt_of_le (Nat.lt_of_lt_of_le (Nat.lt_of_lt_of_le (Nat.lt_of_lt_of_le V_b141.lt (Keep.of_wr W148).1) (Keep.of_wr W153).1) (Keep.of_wr W158).1) (Nat.le_of_eq g160.symm))) nin0)).keep K206q (ninS (Nat.ne_of_lt (Nat.lt_of_lt_of_le (Nat.lt_of_lt_of_le (Nat.lt_of_lt_of_le (Nat.lt_of_lt_of_le (Nat.lt_of_lt_of_le V_b141.lt (Keep.of_wr W148).1) (Keep.of_wr W153).1) (Keep.of_wr W158).1) E160.1) szq_lc162)) nin0)).keep K208q (ninS (Nat.ne_of_lt (Nat.lt_of_lt_of_le (Nat.lt_of_lt_of_le (Nat.lt_of_lt_of_le (Nat.lt_of_lt_of_le (Nat.lt_of_lt_of_le V_b141.lt (Keep.of_wr W148).1) (Keep.of_wr W153).1) (Keep.of_wr W158).1) E160.1) szq_lc162)) nin0)).keep K212q (ninS (Nat.ne_of_lt (Nat.lt_of_lt_of_le (Nat.lt_of_lt_of_le (Nat.lt_of_lt_of_le (Nat.lt_of_lt_of_le (Nat.lt_of_lt_of_le V_b141.lt (Keep.of_wr W148).1) (Keep.of_wr W153).1) (Keep.of_wr W158).1) E160.1) szq_lc162)) nin0))
          exact rest _ _ _ _ X212 rfl N212 K212 ⟨f216, f217, f218, f219, f220, f221, f222, f223⟩ G212q f224 (by simp [kkF, kup, hc323, hc338, hc353])
        · refine Gl.pre (S' := T208.setTop (mkF m 366 #[.val (.int p0), .val (.int p1), .val (.int p2), .val (.int p3), .val (.ref b101), .val (.int (i5F pi)), .val (.int (ixx (pmF pi 0))), .val (.int (ixx (pmF pi 1))), .val (.int (ixx (pmF pi 2))), .val (.int (tii (t0F tq0))), .val (.int (tii (t1F tq0 dq1))), .val (.int (tii (t2F tq0 dq1 dq2))), .val (.int (b2i cf0)), .val (.int (b2i cf1)), .val (.int (b2i cf2)), .val (.ref b120), .val (.ref b122), .val (.ref b141), .val (.int (ixx vq)), .val (.int (b2i rr)), .val (.ref b160), .unset, .unset, .unset, .unset, .unset, .unset] [])) (fun t kt => ?_) ?_
          · show Steps p.tables e below (T208.setTop (mkF m 353 #[.val (.int p0), .val (.int p1), .val (.int p2), .val (.int p3), .val (.ref b101), .val (.int (i5F pi)), .val (.int (ixx (pmF pi 0))), .val (.int (ixx (pmF pi 1))), .val (.int (ixx (pmF pi 2))), .val (.int (tii (t0F tq0))), .val (.int (tii (t1F tq0 dq1))), .val (.int (tii (t2F tq0 dq1 dq2))), .val (.int (b2i cf0)), .val (.int (b2i cf1)), .val (.int (b2i cf2)), .val (.ref b120), .val (.ref b122), .val (.ref b141), .val (.int (ixx vq)), .val (.int (b2i rr)), .val (.ref b160), .unset, .unset, .unset, .unset, .unset, .unset] [(.int (b2i cf2))])) _
            refine XS.ifYes X208.here hx rfl (pc0 := 353) (pc' := 366) rfl (hb hby at_353) rfl (own_nbt (b0_eq _) (Bool.eq_false_iff.mpr hc353)) (by decide) (by decide) ?_
            exact kt
          have f225 := (f211.keep K208q)
          have f226 := ((Ff162q.keep K206q (ninS (Nat.ne_of_lt (Nat.lt_of_lt_of_le A160.lt szq_lc162)) nin0)).keep K208q (ninS (Nat.ne_of_lt (Nat.lt_of_lt_of_le A160.lt szq_lc162)) nin0))
          have f227 := ((Fl162q.keep K206q (ninS (Nat.ne_of_lt (Nat.lt_of_lt_of_le A160.lt szq_lc162)) nin0)).keep K208q (ninS (Nat.ne_of_lt (Nat.lt_of_lt_of_le A160.lt szq_lc162)) nin0))
          have f228 := (f209.keep K208q (ninS (Nat.ne_of_lt (Nat.lt_of_lt_of_le A160.lt szq_lc162)) nin0))
          have f229 := ((Fb162q.keep K206q (ninS (Nat.ne_of_lt (Nat.lt_of_lt_of_le A160.lt szq_lc162)) nin0)).keep K208q (ninS (Nat.ne_of_lt (Nat.lt_of_lt_of_le A160.lt szq_lc162)) nin0))
          have f230 := ((Fa162q.keep K206q (ninS (Nat.ne_of_lt (Nat.lt_of_lt_of_le A160.lt szq_lc162)) nin0)).keep K208q (ninS (Nat.ne_of_lt (Nat.lt_of_lt_of_le A160.lt szq_lc162)) nin0))
          have f231 := ((Gb162q.keep K206q (ninS (Ne.symm n1162) nin0)).keep K208q (ninS (Ne.symm n1162) nin0))
          have f232 := ((Ga162q.keep K206q (ninS (Ne.symm n2162) nin0)).keep K208q (ninS (Ne.symm n2162) nin0))
          have f233 := ((((G159.ext E160).keep K162q (ninS (Nat.ne_of_lt (Nat.lt_of_lt_of_le (Nat.lt_of_lt_of_le (Nat.lt_of_lt_of_le (Nat.lt_of_lt_of_le V_b141.lt (Keep.of_wr W148).1) (Keep.of_wr W153).1) (Keep.of_wr W158).1) (Nat.le_of_eq g160.symm))) nin0)).keep K206q (ninS (Nat.ne_of_lt (Nat.lt_of_lt_of_le (Nat.lt_of_lt_of_le (Nat.lt_of_lt_of_le (Nat.lt_of_lt_of_le (Nat.lt_of_lt_of_le V_b141.lt (Keep.of_wr W148).1) (Keep.of_wr W153).1) (Keep.of_wr W158).1) E160.1) szq_lc162)) nin0)).keep K208q (ninS (Nat.ne_of_lt (Nat.lt_of_lt_of_le (Nat.lt_of_lt_of_le (Nat.lt_of_lt_of_le (Nat.lt_of_lt_of_le (Nat.lt_of_lt_of_le V_b141.lt (Keep.of_wr W148).1) (Keep.of_wr W153).1) (Keep.of_wr W158).1) E160.1) szq_lc162)) nin0))
          exact rest _ _ _ _ X208 rfl N208 K208 ⟨f225, f226, f227, f228, f229, f230, f231, f232⟩ G208q f233 (by simp [kkF, kup, hc323, hc338, hc353])
      · refine Gl.pre (S' := T206.setTop (mkF m 353 #[.val (.int p0), .val (.int p1), .val (.int p2), .val (.int p3), .val (.ref b101), .val (.int (i5F pi)), .val (.int (ixx (pmF pi 0))), .val (.int (ixx (pmF pi 1))), .val (.int (ixx (pmF pi 2))), .val (.int (tii (t0F tq0))), .val (.int (tii (t1F tq0 dq1))), .val (.int (tii (t2F tq0 dq1 dq2))), .val (.int (b2i cf0)), .val (.int (b2i cf1)), .val (.int (b2i cf2)), .val (.ref b120), .val (.ref b122), .val (.ref b141), .val (.int (ixx vq)), .val (.int (b2i rr)), .val (.ref b160), .unset, .unset, .unset, .unset, .unset, .unset] [(.int (b2i cf2))])) (fun t kt => ?_) ?_
        · show Steps p.tables e below (T206.setTop (mkF m 338 #[.val (.int p0), .val (.int p1), .val (.int p2), .val (.int p3), .val (.ref b101), .val (.int (i5F pi)), .val (.int (ixx (pmF pi 0))), .val (.int (ixx (pmF pi 1))), .val (.int (ixx (pmF pi 2))), .val (.int (tii (t0F tq0))), .val (.int (tii (t1F tq0 dq1))), .val (.int (tii (t2F tq0 dq1 dq2))), .val (.int (b2i cf0)), .val (.int (b2i cf1)), .val (.int (b2i cf2)), .val (.ref b120), .val (.ref b122), .val (.ref b141), .val (.int (ixx vq)), .val (.int (b2i rr)), .val (.ref b160), .unset, .unset, .unset, .unset, .unset, .unset] [(.int (b2i cf1))])) _
          refine XS.ifYes X206.here hx rfl (pc0 := 338) (pc' := 351) rfl (hb hby at_338) rfl (own_nbt (b0_eq _) (Bool.eq_false_iff.mpr hc338)) (by decide) (by decide) ?_
          show Steps p.tables e below (T206.setTop (mkF m 351 #[.val (.int p0), .val (.int p1), .val (.int p2), .val (.int p3), .val (.ref b101), .val (.int (i5F pi)), .val (.int (ixx (pmF pi 0))), .val (.int (ixx (pmF pi 1))), .val (.int (ixx (pmF pi 2))), .val (.int (tii (t0F tq0))), .val (.int (tii (t1F tq0 dq1))), .val (.int (tii (t2F tq0 dq1 dq2))), .val (.int (b2i cf0)), .val (.int (b2i cf1)), .val (.int (b2i cf2)), .val (.ref b120), .val (.ref b122), .val (.ref b141), .val (.int (ixx vq)), .val (.int (b2i rr)), .val (.ref b160), .unset, .unset, .unset, .unset, .unset, .unset] [])) _
          refine XS.iload X206.here hx rfl (hb hby at_351) rfl ?_
          exact kt
        by_cases hc353 : cf2 = true
        · have f235 := (Fc162q.keep K206q (ninS (Nat.ne_of_lt (Nat.lt_of_lt_of_le A160.lt szq_lc162)) nin0))
          have z236 : n0 ≤ T206.heap.size := (Nat.le_trans z207 K206q.1)
          have f237 := (E162q.keep K206q)
          obtain ⟨v234, T234, L234, X234, q234, st234⟩ := own_callV X206 hx hZ (y := (⟨"com/example/tenrec/tenrec/pool/IdleByLastCompletion", "completed", "(ID)V"⟩ : MethodName)) (z := (⟨"com/example/tenrec/tenrec/pool/IdleByLastCompletion", "completed", "(ID)V"⟩ : MethodName)) hown (hw _ (List.mem_of_getElem? (i := 58) rfl)) (hw _ (List.mem_of_getElem? (i := 59) rfl)) (notFace_of_selects (args := #[]) (mvT hZ (hw _ (List.mem_of_getElem? (i := 61) rfl)))) (hw _ (List.mem_of_getElem? (i := 61) rfl)) (hw _ (List.mem_of_getElem? (i := 60) rfl)) (hw _ (List.mem_of_getElem? (i := 12) rfl)) (hw _ (List.mem_of_getElem? (i := 62) rfl)) (by decide) f237 (hM := (rm11 l Z a0 hw [] b160 (pmF pi 2) (t2F tq0 dq1 dq2) lc162 (upp (fun _ => none) (pmF pi 0) (some (t0F tq0))) T206.heap n0 z236 g_lc162 f235 G206q)) (by decide) (by decide) (by decide) (by decide) rfl (argsL := [(.int (ixx (pmF pi 2))), (.double (FP.i2d (tii (t2F tq0 dq1 dq2))))]) (rest := []) (Ls := #[.val (.int p0), .val (.int p1), .val (.int p2), .val (.int p3), .val (.ref b101), .val (.int (i5F pi)), .val (.int (ixx (pmF pi 0))), .val (.int (ixx (pmF pi 1))), .val (.int (ixx (pmF pi 2))), .val (.int (tii (t0F tq0))), .val (.int (tii (t1F tq0 dq1))), .val (.int (tii (t2F tq0 dq1 dq2))), .val (.int (b2i cf0)), .val (.int (b2i cf1)), .val (.int (b2i cf2)), .val (.ref b120), .val (.ref b122), .val (.ref b141), .val (.int (ixx vq)), .val (.int (b2i rr)), .val (.ref b160), .unset, .unset, .unset, .unset, .unset, .unset]) (by rw [hml]; rfl) (lenOf pd__ID_V rfl) (W := 0) (Nat.le_of_eq rfl) (hb hby at_363)
          obtain ⟨rfl, N234q, K234q, G234q⟩ := q234
          have N234 := Fr.app N206 N234q
          have K234 : Keep h0 T234.heap [] := K206.trans K234q (allS (Or.inr sz_lc162) all0)
          refine Gl.pre (S' := T234.setTop (mkF m 366 #[.val (.int p0), .val (.int p1), .val (.int p2), .val (.int p3), .val (.ref b101), .val (.int (i5F pi)), .val (.int (ixx (pmF pi 0))), .val (.int (ixx (pmF pi 1))), .val (.int (ixx (pmF pi 2))), .val (.int (tii (t0F tq0))), .val (.int (tii (t1F tq0 dq1))), .val (.int (tii (t2F tq0 dq1 dq2))), .val (.int (b2i cf0)), .val (.int (b2i cf1)), .val (.int (b2i cf2)), .val (.ref b120), .val (.ref b122), .val (.ref b141), .val (.int (ixx vq)), .val (.int (b2i rr)), .val (.ref b160), .unset, .unset, .unset, .unset, .unset, .unset] [])) (fun t kt => ?_) ?_
          · show Steps p.tables e below (T206.setTop (mkF m 353 #[.val (.int p0), .val (.int p1), .val (.int p2), .val (.int p3), .val (.ref b101), .val (.int (i5F pi)), .val (.int (ixx (pmF pi 0))), .val (.int (ixx (pmF pi 1))), .val (.int (ixx (pmF pi 2))), .val (.int (tii (t0F tq0))), .val (.int (tii (t1F tq0 dq1))), .val (.int (tii (t2F tq0 dq1 dq2))), .val (.int (b2i cf0)), .val (.int (b2i cf1)), .val (.int (b2i cf2)), .val (.ref b120), .val (.ref b122), .val (.ref b141), .val (.int (ixx vq)), .val (.int (b2i rr)), .val (.ref b160), .unset, .unset, .unset, .unset, .unset, .unset] [(.int (b2i cf2))])) _
            refine XS.ifNo X206.here hx rfl (hb hby at_353) rfl (own_nbf (b0_eq _) hc353) ?_
            show Steps p.tables e below (T206.setTop (mkF m 356 #[.val (.int p0), .val (.int p1), .val (.int p2), .val (.int p3), .val (.ref b101), .val (.int (i5F pi)), .val (.int (ixx (pmF pi 0))), .val (.int (ixx (pmF pi 1))), .val (.int (ixx (pmF pi 2))), .val (.int (tii (t0F tq0))), .val (.int (tii (t1F tq0 dq1))), .val (.int (tii (t2F tq0 dq1 dq2))), .val (.int (b2i cf0)), .val (.int (b2i cf1)), .val (.int (b2i cf2)), .val (.ref b120), .val (.ref b122), .val (.ref b141), .val (.int (ixx vq)), .val (.int (b2i rr)), .val (.ref b160), .unset, .unset, .unset, .unset, .unset, .unset] [])) _
            refine XS.aload X206.here hx rfl (hb hby at_356) rfl rfl ?_
            show Steps p.tables e below (T206.setTop (mkF m 358 #[.val (.int p0), .val (.int p1), .val (.int p2), .val (.int p3), .val (.ref b101), .val (.int (i5F pi)), .val (.int (ixx (pmF pi 0))), .val (.int (ixx (pmF pi 1))), .val (.int (ixx (pmF pi 2))), .val (.int (tii (t0F tq0))), .val (.int (tii (t1F tq0 dq1))), .val (.int (tii (t2F tq0 dq1 dq2))), .val (.int (b2i cf0)), .val (.int (b2i cf1)), .val (.int (b2i cf2)), .val (.ref b120), .val (.ref b122), .val (.ref b141), .val (.int (ixx vq)), .val (.int (b2i rr)), .val (.ref b160), .unset, .unset, .unset, .unset, .unset, .unset] [(.ref b160)])) _
            refine XS.iload X206.here hx rfl (hb hby at_358) rfl ?_
            show Steps p.tables e below (T206.setTop (mkF m 360 #[.val (.int p0), .val (.int p1), .val (.int p2), .val (.int p3), .val (.ref b101), .val (.int (i5F pi)), .val (.int (ixx (pmF pi 0))), .val (.int (ixx (pmF pi 1))), .val (.int (ixx (pmF pi 2))), .val (.int (tii (t0F tq0))), .val (.int (tii (t1F tq0 dq1))), .val (.int (tii (t2F tq0 dq1 dq2))), .val (.int (b2i cf0)), .val (.int (b2i cf1)), .val (.int (b2i cf2)), .val (.ref b120), .val (.ref b122), .val (.ref b141), .val (.int (ixx vq)), .val (.int (b2i rr)), .val (.ref b160), .unset, .unset, .unset, .unset, .unset, .unset] [(.int (ixx (pmF pi 2))), (.ref b160)])) _
            refine XS.iload X206.here hx rfl (hb hby at_360) rfl ?_
            show Steps p.tables e below (T206.setTop (mkF m 362 #[.val (.int p0), .val (.int p1), .val (.int p2), .val (.int p3), .val (.ref b101), .val (.int (i5F pi)), .val (.int (ixx (pmF pi 0))), .val (.int (ixx (pmF pi 1))), .val (.int (ixx (pmF pi 2))), .val (.int (tii (t0F tq0))), .val (.int (tii (t1F tq0 dq1))), .val (.int (tii (t2F tq0 dq1 dq2))), .val (.int (b2i cf0)), .val (.int (b2i cf1)), .val (.int (b2i cf2)), .val (.ref b120), .val (.ref b122), .val (.ref b141), .val (.int (ixx vq)), .val (.int (b2i rr)), .val (.ref b160), .unset, .unset, .unset, .unset, .unset, .unset] [(.int (tii (t2F tq0 dq1 dq2))), (.int (ixx (pmF pi 2))), (.ref b160)])) _
            refine XS.i2dS X206.here hx rfl (hb hby at_362) rfl rfl ?_
            show Steps p.tables e below (T206.setTop (mkF m 363 #[.val (.int p0), .val (.int p1), .val (.int p2), .val (.int p3), .val (.ref b101), .val (.int (i5F pi)), .val (.int (ixx (pmF pi 0))), .val (.int (ixx (pmF pi 1))), .val (.int (ixx (pmF pi 2))), .val (.int (tii (t0F tq0))), .val (.int (tii (t1F tq0 dq1))), .val (.int (tii (t2F tq0 dq1 dq2))), .val (.int (b2i cf0)), .val (.int (b2i cf1)), .val (.int (b2i cf2)), .val (.ref b120), .val (.ref b122), .val (.ref b141), .val (.int (ixx vq)), .val (.int (b2i rr)), .val (.ref b160), .unset, .unset, .unset, .unset, .unset, .unset] [(.double (FP.i2d (tii (t2F tq0 dq1 dq2)))), (.int (ixx (pmF pi 2))), (.ref b160)])) _
            refine st234 _ ?_
            exact kt
          have f238 := (f237.keep K234q)
          have f239 := ((Ff162q.keep K206q (ninS (Nat.ne_of_lt (Nat.lt_of_lt_of_le A160.lt szq_lc162)) nin0)).keep K234q (ninS (Nat.ne_of_lt (Nat.lt_of_lt_of_le A160.lt szq_lc162)) nin0))
          have f240 := ((Fl162q.keep K206q (ninS (Nat.ne_of_lt (Nat.lt_of_lt_of_le A160.lt szq_lc162)) nin0)).keep K234q (ninS (Nat.ne_of_lt (Nat.lt_of_lt_of_le A160.lt szq_lc162)) nin0))
          have f241 := (f235.keep K234q (ninS (Nat.ne_of_lt (Nat.lt_of_lt_of_le A160.lt szq_lc162)) nin0))
          have f242 := ((Fb162q.keep K206q (ninS (Nat.ne_of_lt (Nat.lt_of_lt_of_le A160.lt szq_lc162)) nin0)).keep K234q (ninS (Nat.ne_of_lt (Nat.lt_of_lt_of_le A160.lt szq_lc162)) nin0))
          have f243 := ((Fa162q.keep K206q (ninS (Nat.ne_of_lt (Nat.lt_of_lt_of_le A160.lt szq_lc162)) nin0)).keep K234q (ninS (Nat.ne_of_lt (Nat.lt_of_lt_of_le A160.lt szq_lc162)) nin0))
          have f244 := ((Gb162q.keep K206q (ninS (Ne.symm n1162) nin0)).keep K234q (ninS (Ne.symm n1162) nin0))
          have f245 := ((Ga162q.keep K206q (ninS (Ne.symm n2162) nin0)).keep K234q (ninS (Ne.symm n2162) nin0))
          have f246 := ((((G159.ext E160).keep K162q (ninS (Nat.ne_of_lt (Nat.lt_of_lt_of_le (Nat.lt_of_lt_of_le (Nat.lt_of_lt_of_le (Nat.lt_of_lt_of_le V_b141.lt (Keep.of_wr W148).1) (Keep.of_wr W153).1) (Keep.of_wr W158).1) (Nat.le_of_eq g160.symm))) nin0)).keep K206q (ninS (Nat.ne_of_lt (Nat.lt_of_lt_of_le (Nat.lt_of_lt_of_le (Nat.lt_of_lt_of_le (Nat.lt_of_lt_of_le (Nat.lt_of_lt_of_le V_b141.lt (Keep.of_wr W148).1) (Keep.of_wr W153).1) (Keep.of_wr W158).1) E160.1) szq_lc162)) nin0)).keep K234q (ninS (Nat.ne_of_lt (Nat.lt_of_lt_of_le (Nat.lt_of_lt_of_le (Nat.lt_of_lt_of_le (Nat.lt_of_lt_of_le (Nat.lt_of_lt_of_le V_b141.lt (Keep.of_wr W148).1) (Keep.of_wr W153).1) (Keep.of_wr W158).1) E160.1) szq_lc162)) nin0))
          exact rest _ _ _ _ X234 rfl N234 K234 ⟨f238, f239, f240, f241, f242, f243, f244, f245⟩ G234q f246 (by simp [kkF, kup, hc323, hc338, hc353])
        · refine Gl.pre (S' := T206.setTop (mkF m 366 #[.val (.int p0), .val (.int p1), .val (.int p2), .val (.int p3), .val (.ref b101), .val (.int (i5F pi)), .val (.int (ixx (pmF pi 0))), .val (.int (ixx (pmF pi 1))), .val (.int (ixx (pmF pi 2))), .val (.int (tii (t0F tq0))), .val (.int (tii (t1F tq0 dq1))), .val (.int (tii (t2F tq0 dq1 dq2))), .val (.int (b2i cf0)), .val (.int (b2i cf1)), .val (.int (b2i cf2)), .val (.ref b120), .val (.ref b122), .val (.ref b141), .val (.int (ixx vq)), .val (.int (b2i rr)), .val (.ref b160), .unset, .unset, .unset, .unset, .unset, .unset] [])) (fun t kt => ?_) ?_
          · show Steps p.tables e below (T206.setTop (mkF m 353 #[.val (.int p0), .val (.int p1), .val (.int p2), .val (.int p3), .val (.ref b101), .val (.int (i5F pi)), .val (.int (ixx (pmF pi 0))), .val (.int (ixx (pmF pi 1))), .val (.int (ixx (pmF pi 2))), .val (.int (tii (t0F tq0))), .val (.int (tii (t1F tq0 dq1))), .val (.int (tii (t2F tq0 dq1 dq2))), .val (.int (b2i cf0)), .val (.int (b2i cf1)), .val (.int (b2i cf2)), .val (.ref b120), .val (.ref b122), .val (.ref b141), .val (.int (ixx vq)), .val (.int (b2i rr)), .val (.ref b160), .unset, .unset, .unset, .unset, .unset, .unset] [(.int (b2i cf2))])) _
            refine XS.ifYes X206.here hx rfl (pc0 := 353) (pc' := 366) rfl (hb hby at_353) rfl (own_nbt (b0_eq _) (Bool.eq_false_iff.mpr hc353)) (by decide) (by decide) ?_
            exact kt
          have f247 := (E162q.keep K206q)
          have f248 := (Ff162q.keep K206q (ninS (Nat.ne_of_lt (Nat.lt_of_lt_of_le A160.lt szq_lc162)) nin0))
          have f249 := (Fl162q.keep K206q (ninS (Nat.ne_of_lt (Nat.lt_of_lt_of_le A160.lt szq_lc162)) nin0))
          have f250 := (Fc162q.keep K206q (ninS (Nat.ne_of_lt (Nat.lt_of_lt_of_le A160.lt szq_lc162)) nin0))
          have f251 := (Fb162q.keep K206q (ninS (Nat.ne_of_lt (Nat.lt_of_lt_of_le A160.lt szq_lc162)) nin0))
          have f252 := (Fa162q.keep K206q (ninS (Nat.ne_of_lt (Nat.lt_of_lt_of_le A160.lt szq_lc162)) nin0))
          have f253 := (Gb162q.keep K206q (ninS (Ne.symm n1162) nin0))
          have f254 := (Ga162q.keep K206q (ninS (Ne.symm n2162) nin0))
          have f255 := (((G159.ext E160).keep K162q (ninS (Nat.ne_of_lt (Nat.lt_of_lt_of_le (Nat.lt_of_lt_of_le (Nat.lt_of_lt_of_le (Nat.lt_of_lt_of_le V_b141.lt (Keep.of_wr W148).1) (Keep.of_wr W153).1) (Keep.of_wr W158).1) (Nat.le_of_eq g160.symm))) nin0)).keep K206q (ninS (Nat.ne_of_lt (Nat.lt_of_lt_of_le (Nat.lt_of_lt_of_le (Nat.lt_of_lt_of_le (Nat.lt_of_lt_of_le (Nat.lt_of_lt_of_le V_b141.lt (Keep.of_wr W148).1) (Keep.of_wr W153).1) (Keep.of_wr W158).1) E160.1) szq_lc162)) nin0))
          exact rest _ _ _ _ X206 rfl N206 K206 ⟨f247, f248, f249, f250, f251, f252, f253, f254⟩ G206q f255 (by simp [kkF, kup, hc323, hc338, hc353])
    · refine Gl.pre (S' := T162.setTop (mkF m 338 #[.val (.int p0), .val (.int p1), .val (.int p2), .val (.int p3), .val (.ref b101), .val (.int (i5F pi)), .val (.int (ixx (pmF pi 0))), .val (.int (ixx (pmF pi 1))), .val (.int (ixx (pmF pi 2))), .val (.int (tii (t0F tq0))), .val (.int (tii (t1F tq0 dq1))), .val (.int (tii (t2F tq0 dq1 dq2))), .val (.int (b2i cf0)), .val (.int (b2i cf1)), .val (.int (b2i cf2)), .val (.ref b120), .val (.ref b122), .val (.ref b141), .val (.int (ixx vq)), .val (.int (b2i rr)), .val (.ref b160), .unset, .unset, .unset, .unset, .unset, .unset] [(.int (b2i cf1))])) (fun t kt => ?_) ?_
      · show Steps p.tables e below (T162.setTop (mkF m 323 #[.val (.int p0), .val (.int p1), .val (.int p2), .val (.int p3), .val (.ref b101), .val (.int (i5F pi)), .val (.int (ixx (pmF pi 0))), .val (.int (ixx (pmF pi 1))), .val (.int (ixx (pmF pi 2))), .val (.int (tii (t0F tq0))), .val (.int (tii (t1F tq0 dq1))), .val (.int (tii (t2F tq0 dq1 dq2))), .val (.int (b2i cf0)), .val (.int (b2i cf1)), .val (.int (b2i cf2)), .val (.ref b120), .val (.ref b122), .val (.ref b141), .val (.int (ixx vq)), .val (.int (b2i rr)), .val (.ref b160), .unset, .unset, .unset, .unset, .unset, .unset] [(.int (b2i cf0))])) _
        refine XS.ifYes X162.here hx rfl (pc0 := 323) (pc' := 336) rfl (hb hby at_323) rfl (own_nbt (b0_eq _) (Bool.eq_false_iff.mpr hc323)) (by decide) (by decide) ?_
        show Steps p.tables e below (T162.setTop (mkF m 336 #[.val (.int p0), .val (.int p1), .val (.int p2), .val (.int p3), .val (.ref b101), .val (.int (i5F pi)), .val (.int (ixx (pmF pi 0))), .val (.int (ixx (pmF pi 1))), .val (.int (ixx (pmF pi 2))), .val (.int (tii (t0F tq0))), .val (.int (tii (t1F tq0 dq1))), .val (.int (tii (t2F tq0 dq1 dq2))), .val (.int (b2i cf0)), .val (.int (b2i cf1)), .val (.int (b2i cf2)), .val (.ref b120), .val (.ref b122), .val (.ref b141), .val (.int (ixx vq)), .val (.int (b2i rr)), .val (.ref b160), .unset, .unset, .unset, .unset, .unset, .unset] [])) _
        refine XS.iload X162.here hx rfl (hb hby at_336) rfl ?_
        exact kt
      by_cases hc338 : cf1 = true
      · have z257 : n0 ≤ T162.heap.size := (Nat.le_trans z163 K162q.1)
        obtain ⟨v256, T256, L256, X256, q256, st256⟩ := own_callV X162 hx hZ (y := (⟨"com/example/tenrec/tenrec/pool/IdleByLastCompletion", "completed", "(ID)V"⟩ : MethodName)) (z := (⟨"com/example/tenrec/tenrec/pool/IdleByLastCompletion", "completed", "(ID)V"⟩ : MethodName)) hown (hw _ (List.mem_of_getElem? (i := 58) rfl)) (hw _ (List.mem_of_getElem? (i := 59) rfl)) (notFace_of_selects (args := #[]) (mvT hZ (hw _ (List.mem_of_getElem? (i := 61) rfl)))) (hw _ (List.mem_of_getElem? (i := 61) rfl)) (hw _ (List.mem_of_getElem? (i := 60) rfl)) (hw _ (List.mem_of_getElem? (i := 12) rfl)) (hw _ (List.mem_of_getElem? (i := 62) rfl)) (by decide) E162q (hM := (rm11 l Z a0 hw [] b160 (pmF pi 1) (t1F tq0 dq1) lc162 (fun _ => none) T162.heap n0 z257 g_lc162 Fc162q Gc162q)) (by decide) (by decide) (by decide) (by decide) rfl (argsL := [(.int (ixx (pmF pi 1))), (.double (FP.i2d (tii (t1F tq0 dq1))))]) (rest := []) (Ls := #[.val (.int p0), .val (.int p1), .val (.int p2), .val (.int p3), .val (.ref b101), .val (.int (i5F pi)), .val (.int (ixx (pmF pi 0))), .val (.int (ixx (pmF pi 1))), .val (.int (ixx (pmF pi 2))), .val (.int (tii (t0F tq0))), .val (.int (tii (t1F tq0 dq1))), .val (.int (tii (t2F tq0 dq1 dq2))), .val (.int (b2i cf0)), .val (.int (b2i cf1)), .val (.int (b2i cf2)), .val (.ref b120), .val (.ref b122), .val (.ref b141), .val (.int (ixx vq)), .val (.int (b2i rr)), .val (.ref b160), .unset, .unset, .unset, .unset, .unset, .unset]) (by rw [hml]; rfl) (lenOf pd__ID_V rfl) (W := 0) (Nat.le_of_eq rfl) (hb hby at_348)
        obtain ⟨rfl, N256q, K256q, G256q⟩ := q256
        have N256 := Fr.app N162 N256q
        have K256 : Keep h0 T256.heap [] := K162.trans K256q (allS (Or.inr sz_lc162) all0)
        refine Gl.pre (S' := T256.setTop (mkF m 353 #[.val (.int p0), .val (.int p1), .val (.int p2), .val (.int p3), .val (.ref b101), .val (.int (i5F pi)), .val (.int (ixx (pmF pi 0))), .val (.int (ixx (pmF pi 1))), .val (.int (ixx (pmF pi 2))), .val (.int (tii (t0F tq0))), .val (.int (tii (t1F tq0 dq1))), .val (.int (tii (t2F tq0 dq1 dq2))), .val (.int (b2i cf0)), .val (.int (b2i cf1)), .val (.int (b2i cf2)), .val (.ref b120), .val (.ref b122), .val (.ref b141), .val (.int (ixx vq)), .val (.int (b2i rr)), .val (.ref b160), .unset, .unset, .unset, .unset, .unset, .unset] [(.int (b2i cf2))])) (fun t kt => ?_) ?_
        · show Steps p.tables e below (T162.setTop (mkF m 338 #[.val (.int p0), .val (.int p1), .val (.int p2), .val (.int p3), .val (.ref b101), .val (.int (i5F pi)), .val (.int (ixx (pmF pi 0))), .val (.int (ixx (pmF pi 1))), .val (.int (ixx (pmF pi 2))), .val (.int (tii (t0F tq0))), .val (.int (tii (t1F tq0 dq1))), .val (.int (tii (t2F tq0 dq1 dq2))), .val (.int (b2i cf0)), .val (.int (b2i cf1)), .val (.int (b2i cf2)), .val (.ref b120), .val (.ref b122), .val (.ref b141), .val (.int (ixx vq)), .val (.int (b2i rr)), .val (.ref b160), .unset, .unset, .unset, .unset, .unset, .unset] [(.int (b2i cf1))])) _
          refine XS.ifNo X162.here hx rfl (hb hby at_338) rfl (own_nbf (b0_eq _) hc338) ?_
          show Steps p.tables e below (T162.setTop (mkF m 341 #[.val (.int p0), .val (.int p1), .val (.int p2), .val (.int p3), .val (.ref b101), .val (.int (i5F pi)), .val (.int (ixx (pmF pi 0))), .val (.int (ixx (pmF pi 1))), .val (.int (ixx (pmF pi 2))), .val (.int (tii (t0F tq0))), .val (.int (tii (t1F tq0 dq1))), .val (.int (tii (t2F tq0 dq1 dq2))), .val (.int (b2i cf0)), .val (.int (b2i cf1)), .val (.int (b2i cf2)), .val (.ref b120), .val (.ref b122), .val (.ref b141), .val (.int (ixx vq)), .val (.int (b2i rr)), .val (.ref b160), .unset, .unset, .unset, .unset, .unset, .unset] [])) _
          refine XS.aload X162.here hx rfl (hb hby at_341) rfl rfl ?_
          show Steps p.tables e below (T162.setTop (mkF m 343 #[.val (.int p0), .val (.int p1), .val (.int p2), .val (.int p3), .val (.ref b101), .val (.int (i5F pi)), .val (.int (ixx (pmF pi 0))), .val (.int (ixx (pmF pi 1))), .val (.int (ixx (pmF pi 2))), .val (.int (tii (t0F tq0))), .val (.int (tii (t1F tq0 dq1))), .val (.int (tii (t2F tq0 dq1 dq2))), .val (.int (b2i cf0)), .val (.int (b2i cf1)), .val (.int (b2i cf2)), .val (.ref b120), .val (.ref b122), .val (.ref b141), .val (.int (ixx vq)), .val (.int (b2i rr)), .val (.ref b160), .unset, .unset, .unset, .unset, .unset, .unset] [(.ref b160)])) _
          refine XS.iload X162.here hx rfl (hb hby at_343) rfl ?_
          show Steps p.tables e below (T162.setTop (mkF m 345 #[.val (.int p0), .val (.int p1), .val (.int p2), .val (.int p3), .val (.ref b101), .val (.int (i5F pi)), .val (.int (ixx (pmF pi 0))), .val (.int (ixx (pmF pi 1))), .val (.int (ixx (pmF pi 2))), .val (.int (tii (t0F tq0))), .val (.int (tii (t1F tq0 dq1))), .val (.int (tii (t2F tq0 dq1 dq2))), .val (.int (b2i cf0)), .val (.int (b2i cf1)), .val (.int (b2i cf2)), .val (.ref b120), .val (.ref b122), .val (.ref b141), .val (.int (ixx vq)), .val (.int (b2i rr)), .val (.ref b160), .unset, .unset, .unset, .unset, .unset, .unset] [(.int (ixx (pmF pi 1))), (.ref b160)])) _
          refine XS.iload X162.here hx rfl (hb hby at_345) rfl ?_
          show Steps p.tables e below (T162.setTop (mkF m 347 #[.val (.int p0), .val (.int p1), .val (.int p2), .val (.int p3), .val (.ref b101), .val (.int (i5F pi)), .val (.int (ixx (pmF pi 0))), .val (.int (ixx (pmF pi 1))), .val (.int (ixx (pmF pi 2))), .val (.int (tii (t0F tq0))), .val (.int (tii (t1F tq0 dq1))), .val (.int (tii (t2F tq0 dq1 dq2))), .val (.int (b2i cf0)), .val (.int (b2i cf1)), .val (.int (b2i cf2)), .val (.ref b120), .val (.ref b122), .val (.ref b141), .val (.int (ixx vq)), .val (.int (b2i rr)), .val (.ref b160), .unset, .unset, .unset, .unset, .unset, .unset] [(.int (tii (t1F tq0 dq1))), (.int (ixx (pmF pi 1))), (.ref b160)])) _
          refine XS.i2dS X162.here hx rfl (hb hby at_347) rfl rfl ?_
          show Steps p.tables e below (T162.setTop (mkF m 348 #[.val (.int p0), .val (.int p1), .val (.int p2), .val (.int p3), .val (.ref b101), .val (.int (i5F pi)), .val (.int (ixx (pmF pi 0))), .val (.int (ixx (pmF pi 1))), .val (.int (ixx (pmF pi 2))), .val (.int (tii (t0F tq0))), .val (.int (tii (t1F tq0 dq1))), .val (.int (tii (t2F tq0 dq1 dq2))), .val (.int (b2i cf0)), .val (.int (b2i cf1)), .val (.int (b2i cf2)), .val (.ref b120), .val (.ref b122), .val (.ref b141), .val (.int (ixx vq)), .val (.int (b2i rr)), .val (.ref b160), .unset, .unset, .unset, .unset, .unset, .unset] [(.double (FP.i2d (tii (t1F tq0 dq1)))), (.int (ixx (pmF pi 1))), (.ref b160)])) _
          refine st256 _ ?_
          show Steps p.tables e below (T256.setTop (mkF m 351 #[.val (.int p0), .val (.int p1), .val (.int p2), .val (.int p3), .val (.ref b101), .val (.int (i5F pi)), .val (.int (ixx (pmF pi 0))), .val (.int (ixx (pmF pi 1))), .val (.int (ixx (pmF pi 2))), .val (.int (tii (t0F tq0))), .val (.int (tii (t1F tq0 dq1))), .val (.int (tii (t2F tq0 dq1 dq2))), .val (.int (b2i cf0)), .val (.int (b2i cf1)), .val (.int (b2i cf2)), .val (.ref b120), .val (.ref b122), .val (.ref b141), .val (.int (ixx vq)), .val (.int (b2i rr)), .val (.ref b160), .unset, .unset, .unset, .unset, .unset, .unset] [])) _
          refine XS.iload X256.here hx rfl (hb hby at_351) rfl ?_
          exact kt
        by_cases hc353 : cf2 = true
        · have f259 := (Fc162q.keep K256q (ninS (Nat.ne_of_lt (Nat.lt_of_lt_of_le A160.lt szq_lc162)) nin0))
          have z260 : n0 ≤ T256.heap.size := (Nat.le_trans z257 K256q.1)
          have f261 := (E162q.keep K256q)
          obtain ⟨v258, T258, L258, X258, q258, st258⟩ := own_callV X256 hx hZ (y := (⟨"com/example/tenrec/tenrec/pool/IdleByLastCompletion", "completed", "(ID)V"⟩ : MethodName)) (z := (⟨"com/example/tenrec/tenrec/pool/IdleByLastCompletion", "completed", "(ID)V"⟩ : MethodName)) hown (hw _ (List.mem_of_getElem? (i := 58) rfl)) (hw _ (List.mem_of_getElem? (i := 59) rfl)) (notFace_of_selects (args := #[]) (mvT hZ (hw _ (List.mem_of_getElem? (i := 61) rfl)))) (hw _ (List.mem_of_getElem? (i := 61) rfl)) (hw _ (List.mem_of_getElem? (i := 60) rfl)) (hw _ (List.mem_of_getElem? (i := 12) rfl)) (hw _ (List.mem_of_getElem? (i := 62) rfl)) (by decide) f261 (hM := (rm11 l Z a0 hw [] b160 (pmF pi 2) (t2F tq0 dq1 dq2) lc162 (upp (fun _ => none) (pmF pi 1) (some (t1F tq0 dq1))) T256.heap n0 z260 g_lc162 f259 G256q)) (by decide) (by decide) (by decide) (by decide) rfl (argsL := [(.int (ixx (pmF pi 2))), (.double (FP.i2d (tii (t2F tq0 dq1 dq2))))]) (rest := []) (Ls := #[.val (.int p0), .val (.int p1), .val (.int p2), .val (.int p3), .val (.ref b101), .val (.int (i5F pi)), .val (.int (ixx (pmF pi 0))), .val (.int (ixx (pmF pi 1))), .val (.int (ixx (pmF pi 2))), .val (.int (tii (t0F tq0))), .val (.int (tii (t1F tq0 dq1))), .val (.int (tii (t2F tq0 dq1 dq2))), .val (.int (b2i cf0)), .val (.int (b2i cf1)), .val (.int (b2i cf2)), .val (.ref b120), .val (.ref b122), .val (.ref b141), .val (.int (ixx vq)), .val (.int (b2i rr)), .val (.ref b160), .unset, .unset, .unset, .unset, .unset, .unset]) (by rw [hml]; rfl) (lenOf pd__ID_V rfl) (W := 0) (Nat.le_of_eq rfl) (hb hby at_363)
          obtain ⟨rfl, N258q, K258q, G258q⟩ := q258
          have N258 := Fr.app N256 N258q
          have K258 : Keep h0 T258.heap [] := K256.trans K258q (allS (Or.inr sz_lc162) all0)
          refine Gl.pre (S' := T258.setTop (mkF m 366 #[.val (.int p0), .val (.int p1), .val (.int p2), .val (.int p3), .val (.ref b101), .val (.int (i5F pi)), .val (.int (ixx (pmF pi 0))), .val (.int (ixx (pmF pi 1))), .val (.int (ixx (pmF pi 2))), .val (.int (tii (t0F tq0))), .val (.int (tii (t1F tq0 dq1))), .val (.int (tii (t2F tq0 dq1 dq2))), .val (.int (b2i cf0)), .val (.int (b2i cf1)), .val (.int (b2i cf2)), .val (.ref b120), .val (.ref b122), .val (.ref b141), .val (.int (ixx vq)), .val (.int (b2i rr)), .val (.ref b160), .unset, .unset, .unset, .unset, .unset, .unset] [])) (fun t kt => ?_) ?_
          · show Steps p.tables e below (T256.setTop (mkF m 353 #[.val (.int p0), .val (.int p1), .val (.int p2), .val (.int p3), .val (.ref b101), .val (.int (i5F pi)), .val (.int (ixx (pmF pi 0))), .val (.int (ixx (pmF pi 1))), .val (.int (ixx (pmF pi 2))), .val (.int (tii (t0F tq0))), .val (.int (tii (t1F tq0 dq1))), .val (.int (tii (t2F tq0 dq1 dq2))), .val (.int (b2i cf0)), .val (.int (b2i cf1)), .val (.int (b2i cf2)), .val (.ref b120), .val (.ref b122), .val (.ref b141), .val (.int (ixx vq)), .val (.int (b2i rr)), .val (.ref b160), .unset, .unset, .unset, .unset, .unset, .unset] [(.int (b2i cf2))])) _
            refine XS.ifNo X256.here hx rfl (hb hby at_353) rfl (own_nbf (b0_eq _) hc353) ?_
            show Steps p.tables e below (T256.setTop (mkF m 356 #[.val (.int p0), .val (.int p1), .val (.int p2), .val (.int p3), .val (.ref b101), .val (.int (i5F pi)), .val (.int (ixx (pmF pi 0))), .val (.int (ixx (pmF pi 1))), .val (.int (ixx (pmF pi 2))), .val (.int (tii (t0F tq0))), .val (.int (tii (t1F tq0 dq1))), .val (.int (tii (t2F tq0 dq1 dq2))), .val (.int (b2i cf0)), .val (.int (b2i cf1)), .val (.int (b2i cf2)), .val (.ref b120), .val (.ref b122), .val (.ref b141), .val (.int (ixx vq)), .val (.int (b2i rr)), .val (.ref b160), .unset, .unset, .unset, .unset, .unset, .unset] [])) _
            refine XS.aload X256.here hx rfl (hb hby at_356) rfl rfl ?_
            show Steps p.tables e below (T256.setTop (mkF m 358 #[.val (.int p0), .val (.int p1), .val (.int p2), .val (.int p3), .val (.ref b101), .val (.int (i5F pi)), .val (.int (ixx (pmF pi 0))), .val (.int (ixx (pmF pi 1))), .val (.int (ixx (pmF pi 2))), .val (.int (tii (t0F tq0))), .val (.int (tii (t1F tq0 dq1))), .val (.int (tii (t2F tq0 dq1 dq2))), .val (.int (b2i cf0)), .val (.int (b2i cf1)), .val (.int (b2i cf2)), .val (.ref b120), .val (.ref b122), .val (.ref b141), .val (.int (ixx vq)), .val (.int (b2i rr)), .val (.ref b160), .unset, .unset, .unset, .unset, .unset, .unset] [(.ref b160)])) _
            refine XS.iload X256.here hx rfl (hb hby at_358) rfl ?_
            show Steps p.tables e below (T256.setTop (mkF m 360 #[.val (.int p0), .val (.int p1), .val (.int p2), .val (.int p3), .val (.ref b101), .val (.int (i5F pi)), .val (.int (ixx (pmF pi 0))), .val (.int (ixx (pmF pi 1))), .val (.int (ixx (pmF pi 2))), .val (.int (tii (t0F tq0))), .val (.int (tii (t1F tq0 dq1))), .val (.int (tii (t2F tq0 dq1 dq2))), .val (.int (b2i cf0)), .val (.int (b2i cf1)), .val (.int (b2i cf2)), .val (.ref b120), .val (.ref b122), .val (.ref b141), .val (.int (ixx vq)), .val (.int (b2i rr)), .val (.ref b160), .unset, .unset, .unset, .unset, .unset, .unset] [(.int (ixx (pmF pi 2))), (.ref b160)])) _
            refine XS.iload X256.here hx rfl (hb hby at_360) rfl ?_
            show Steps p.tables e below (T256.setTop (mkF m 362 #[.val (.int p0), .val (.int p1), .val (.int p2), .val (.int p3), .val (.ref b101), .val (.int (i5F pi)), .val (.int (ixx (pmF pi 0))), .val (.int (ixx (pmF pi 1))), .val (.int (ixx (pmF pi 2))), .val (.int (tii (t0F tq0))), .val (.int (tii (t1F tq0 dq1))), .val (.int (tii (t2F tq0 dq1 dq2))), .val (.int (b2i cf0)), .val (.int (b2i cf1)), .val (.int (b2i cf2)), .val (.ref b120), .val (.ref b122), .val (.ref b141), .val (.int (ixx vq)), .val (.int (b2i rr)), .val (.ref b160), .unset, .unset, .unset, .unset, .unset, .unset] [(.int (tii (t2F tq0 dq1 dq2))), (.int (ixx (pmF pi 2))), (.ref b160)])) _
            refine XS.i2dS X256.here hx rfl (hb hby at_362) rfl rfl ?_
            show Steps p.tables e below (T256.setTop (mkF m 363 #[.val (.int p0), .val (.int p1), .val (.int p2), .val (.int p3), .val (.ref b101), .val (.int (i5F pi)), .val (.int (ixx (pmF pi 0))), .val (.int (ixx (pmF pi 1))), .val (.int (ixx (pmF pi 2))), .val (.int (tii (t0F tq0))), .val (.int (tii (t1F tq0 dq1))), .val (.int (tii (t2F tq0 dq1 dq2))), .val (.int (b2i cf0)), .val (.int (b2i cf1)), .val (.int (b2i cf2)), .val (.ref b120), .val (.ref b122), .val (.ref b141), .val (.int (ixx vq)), .val (.int (b2i rr)), .val (.ref b160), .unset, .unset, .unset, .unset, .unset, .unset] [(.double (FP.i2d (tii (t2F tq0 dq1 dq2)))), (.int (ixx (pmF pi 2))), (.ref b160)])) _
            refine st258 _ ?_
            exact kt
          have f262 := (f261.keep K258q)
          have f263 := ((Ff162q.keep K256q (ninS (Nat.ne_of_lt (Nat.lt_of_lt_of_le A160.lt szq_lc162)) nin0)).keep K258q (ninS (Nat.ne_of_lt (Nat.lt_of_lt_of_le A160.lt szq_lc162)) nin0))
          have f264 := ((Fl162q.keep K256q (ninS (Nat.ne_of_lt (Nat.lt_of_lt_of_le A160.lt szq_lc162)) nin0)).keep K258q (ninS (Nat.ne_of_lt (Nat.lt_of_lt_of_le A160.lt szq_lc162)) nin0))
          have f265 := (f259.keep K258q (ninS (Nat.ne_of_lt (Nat.lt_of_lt_of_le A160.lt szq_lc162)) nin0))
          have f266 := ((Fb162q.keep K256q (ninS (Nat.ne_of_lt (Nat.lt_of_lt_of_le A160.lt szq_lc162)) nin0)).keep K258q (ninS (Nat.ne_of_lt (Nat.lt_of_lt_of_le A160.lt szq_lc162)) nin0))
          have f267 := ((Fa162q.keep K256q (ninS (Nat.ne_of_lt (Nat.lt_of_lt_of_le A160.lt szq_lc162)) nin0)).keep K258q (ninS (Nat.ne_of_lt (Nat.lt_of_lt_of_le A160.lt szq_lc162)) nin0))
          have f268 := ((Gb162q.keep K256q (ninS (Ne.symm n1162) nin0)).keep K258q (ninS (Ne.symm n1162) nin0))
          have f269 := ((Ga162q.keep K256q (ninS (Ne.symm n2162) nin0)).keep K258q (ninS (Ne.symm n2162) nin0))
          have f270 := ((((G159.ext E160).keep K162q (ninS (Nat.ne_of_lt (Nat.lt_of_lt_of_le (Nat.lt_of_lt_of_le (Nat.lt_of_lt_of_le (Nat.lt_of_lt_of_le V_b141.lt (Keep.of_wr W148).1) (Keep.of_wr W153).1) (Keep.of_wr W158).1) (Nat.le_of_eq g160.symm))) nin0)).keep K256q (ninS (Nat.ne_of_lt (Nat.lt_of_lt_of_le (Nat.lt_of_lt_of_le (Nat.lt_of_lt_of_le (Nat.lt_of_lt_of_le (Nat.lt_of_lt_of_le V_b141.lt (Keep.of_wr W148).1) (Keep.of_wr W153).1) (Keep.of_wr W158).1) E160.1) szq_lc162)) nin0)).keep K258q (ninS (Nat.ne_of_lt (Nat.lt_of_lt_of_le (Nat.lt_of_lt_of_le (Nat.lt_of_lt_of_le (Nat.lt_of_lt_of_le (Nat.lt_of_lt_of_le V_b141.lt (Keep.of_wr W148).1) (Keep.of_wr W153).1) (Keep.of_wr W158).1) E160.1) szq_lc162)) nin0))
          exact rest _ _ _ _ X258 rfl N258 K258 ⟨f262, f263, f264, f265, f266, f267, f268, f269⟩ G258q f270 (by simp [kkF, kup, hc323, hc338, hc353])
        · refine Gl.pre (S' := T256.setTop (mkF m 366 #[.val (.int p0), .val (.int p1), .val (.int p2), .val (.int p3), .val (.ref b101), .val (.int (i5F pi)), .val (.int (ixx (pmF pi 0))), .val (.int (ixx (pmF pi 1))), .val (.int (ixx (pmF pi 2))), .val (.int (tii (t0F tq0))), .val (.int (tii (t1F tq0 dq1))), .val (.int (tii (t2F tq0 dq1 dq2))), .val (.int (b2i cf0)), .val (.int (b2i cf1)), .val (.int (b2i cf2)), .val (.ref b120), .val (.ref b122), .val (.ref b141), .val (.int (ixx vq)), .val (.int (b2i rr)), .val (.ref b160), .unset, .unset, .unset, .unset, .unset, .unset] [])) (fun t kt => ?_) ?_
          · show Steps p.tables e below (T256.setTop (mkF m 353 #[.val (.int p0), .val (.int p1), .val (.int p2), .val (.int p3), .val (.ref b101), .val (.int (i5F pi)), .val (.int (ixx (pmF pi 0))), .val (.int (ixx (pmF pi 1))), .val (.int (ixx (pmF pi 2))), .val (.int (tii (t0F tq0))), .val (.int (tii (t1F tq0 dq1))), .val (.int (tii (t2F tq0 dq1 dq2))), .val (.int (b2i cf0)), .val (.int (b2i cf1)), .val (.int (b2i cf2)), .val (.ref b120), .val (.ref b122), .val (.ref b141), .val (.int (ixx vq)), .val (.int (b2i rr)), .val (.ref b160), .unset, .unset, .unset, .unset, .unset, .unset] [(.int (b2i cf2))])) _
            refine XS.ifYes X256.here hx rfl (pc0 := 353) (pc' := 366) rfl (hb hby at_353) rfl (own_nbt (b0_eq _) (Bool.eq_false_iff.mpr hc353)) (by decide) (by decide) ?_
            exact kt
          have f271 := (E162q.keep K256q)
          have f272 := (Ff162q.keep K256q (ninS (Nat.ne_of_lt (Nat.lt_of_lt_of_le A160.lt szq_lc162)) nin0))
          have f273 := (Fl162q.keep K256q (ninS (Nat.ne_of_lt (Nat.lt_of_lt_of_le A160.lt szq_lc162)) nin0))
          have f274 := (Fc162q.keep K256q (ninS (Nat.ne_of_lt (Nat.lt_of_lt_of_le A160.lt szq_lc162)) nin0))
          have f275 := (Fb162q.keep K256q (ninS (Nat.ne_of_lt (Nat.lt_of_lt_of_le A160.lt szq_lc162)) nin0))
          have f276 := (Fa162q.keep K256q (ninS (Nat.ne_of_lt (Nat.lt_of_lt_of_le A160.lt szq_lc162)) nin0))
          have f277 := (Gb162q.keep K256q (ninS (Ne.symm n1162) nin0))
          have f278 := (Ga162q.keep K256q (ninS (Ne.symm n2162) nin0))
          have f279 := (((G159.ext E160).keep K162q (ninS (Nat.ne_of_lt (Nat.lt_of_lt_of_le (Nat.lt_of_lt_of_le (Nat.lt_of_lt_of_le (Nat.lt_of_lt_of_le V_b141.lt (Keep.of_wr W148).1) (Keep.of_wr W153).1) (Keep.of_wr W158).1) (Nat.le_of_eq g160.symm))) nin0)).keep K256q (ninS (Nat.ne_of_lt (Nat.lt_of_lt_of_le (Nat.lt_of_lt_of_le (Nat.lt_of_lt_of_le (Nat.lt_of_lt_of_le (Nat.lt_of_lt_of_le V_b141.lt (Keep.of_wr W148).1) (Keep.of_wr W153).1) (Keep.of_wr W158).1) E160.1) szq_lc162)) nin0))
          exact rest _ _ _ _ X256 rfl N256 K256 ⟨f271, f272, f273, f274, f275, f276, f277, f278⟩ G256q f279 (by simp [kkF, kup, hc323, hc338, hc353])
      · refine Gl.pre (S' := T162.setTop (mkF m 353 #[.val (.int p0), .val (.int p1), .val (.int p2), .val (.int p3), .val (.ref b101), .val (.int (i5F pi)), .val (.int (ixx (pmF pi 0))), .val (.int (ixx (pmF pi 1))), .val (.int (ixx (pmF pi 2))), .val (.int (tii (t0F tq0))), .val (.int (tii (t1F tq0 dq1))), .val (.int (tii (t2F tq0 dq1 dq2))), .val (.int (b2i cf0)), .val (.int (b2i cf1)), .val (.int (b2i cf2)), .val (.ref b120), .val (.ref b122), .val (.ref b141), .val (.int (ixx vq)), .val (.int (b2i rr)), .val (.ref b160), .unset, .unset, .unset, .unset, .unset, .unset] [(.int (b2i cf2))])) (fun t kt => ?_) ?_
        · show Steps p.tables e below (T162.setTop (mkF m 338 #[.val (.int p0), .val (.int p1), .val (.int p2), .val (.int p3), .val (.ref b101), .val (.int (i5F pi)), .val (.int (ixx (pmF pi 0))), .val (.int (ixx (pmF pi 1))), .val (.int (ixx (pmF pi 2))), .val (.int (tii (t0F tq0))), .val (.int (tii (t1F tq0 dq1))), .val (.int (tii (t2F tq0 dq1 dq2))), .val (.int (b2i cf0)), .val (.int (b2i cf1)), .val (.int (b2i cf2)), .val (.ref b120), .val (.ref b122), .val (.ref b141), .val (.int (ixx vq)), .val (.int (b2i rr)), .val (.ref b160), .unset, .unset, .unset, .unset, .unset, .unset] [(.int (b2i cf1))])) _
          refine XS.ifYes X162.here hx rfl (pc0 := 338) (pc' := 351) rfl (hb hby at_338) rfl (own_nbt (b0_eq _) (Bool.eq_false_iff.mpr hc338)) (by decide) (by decide) ?_
          show Steps p.tables e below (T162.setTop (mkF m 351 #[.val (.int p0), .val (.int p1), .val (.int p2), .val (.int p3), .val (.ref b101), .val (.int (i5F pi)), .val (.int (ixx (pmF pi 0))), .val (.int (ixx (pmF pi 1))), .val (.int (ixx (pmF pi 2))), .val (.int (tii (t0F tq0))), .val (.int (tii (t1F tq0 dq1))), .val (.int (tii (t2F tq0 dq1 dq2))), .val (.int (b2i cf0)), .val (.int (b2i cf1)), .val (.int (b2i cf2)), .val (.ref b120), .val (.ref b122), .val (.ref b141), .val (.int (ixx vq)), .val (.int (b2i rr)), .val (.ref b160), .unset, .unset, .unset, .unset, .unset, .unset] [])) _
          refine XS.iload X162.here hx rfl (hb hby at_351) rfl ?_
          exact kt
        by_cases hc353 : cf2 = true
        · have z281 : n0 ≤ T162.heap.size := (Nat.le_trans z163 K162q.1)
          obtain ⟨v280, T280, L280, X280, q280, st280⟩ := own_callV X162 hx hZ (y := (⟨"com/example/tenrec/tenrec/pool/IdleByLastCompletion", "completed", "(ID)V"⟩ : MethodName)) (z := (⟨"com/example/tenrec/tenrec/pool/IdleByLastCompletion", "completed", "(ID)V"⟩ : MethodName)) hown (hw _ (List.mem_of_getElem? (i := 58) rfl)) (hw _ (List.mem_of_getElem? (i := 59) rfl)) (notFace_of_selects (args := #[]) (mvT hZ (hw _ (List.mem_of_getElem? (i := 61) rfl)))) (hw _ (List.mem_of_getElem? (i := 61) rfl)) (hw _ (List.mem_of_getElem? (i := 60) rfl)) (hw _ (List.mem_of_getElem? (i := 12) rfl)) (hw _ (List.mem_of_getElem? (i := 62) rfl)) (by decide) E162q (hM := (rm11 l Z a0 hw [] b160 (pmF pi 2) (t2F tq0 dq1 dq2) lc162 (fun _ => none) T162.heap n0 z281 g_lc162 Fc162q Gc162q)) (by decide) (by decide) (by decide) (by decide) rfl (argsL := [(.int (ixx (pmF pi 2))), (.double (FP.i2d (tii (t2F tq0 dq1 dq2))))]) (rest := []) (Ls := #[.val (.int p0), .val (.int p1), .val (.int p2), .val (.int p3), .val (.ref b101), .val (.int (i5F pi)), .val (.int (ixx (pmF pi 0))), .val (.int (ixx (pmF pi 1))), .val (.int (ixx (pmF pi 2))), .val (.int (tii (t0F tq0))), .val (.int (tii (t1F tq0 dq1))), .val (.int (tii (t2F tq0 dq1 dq2))), .val (.int (b2i cf0)), .val (.int (b2i cf1)), .val (.int (b2i cf2)), .val (.ref b120), .val (.ref b122), .val (.ref b141), .val (.int (ixx vq)), .val (.int (b2i rr)), .val (.ref b160), .unset, .unset, .unset, .unset, .unset, .unset]) (by rw [hml]; rfl) (lenOf pd__ID_V rfl) (W := 0) (Nat.le_of_eq rfl) (hb hby at_363)
          obtain ⟨rfl, N280q, K280q, G280q⟩ := q280
          have N280 := Fr.app N162 N280q
          have K280 : Keep h0 T280.heap [] := K162.trans K280q (allS (Or.inr sz_lc162) all0)
          refine Gl.pre (S' := T280.setTop (mkF m 366 #[.val (.int p0), .val (.int p1), .val (.int p2), .val (.int p3), .val (.ref b101), .val (.int (i5F pi)), .val (.int (ixx (pmF pi 0))), .val (.int (ixx (pmF pi 1))), .val (.int (ixx (pmF pi 2))), .val (.int (tii (t0F tq0))), .val (.int (tii (t1F tq0 dq1))), .val (.int (tii (t2F tq0 dq1 dq2))), .val (.int (b2i cf0)), .val (.int (b2i cf1)), .val (.int (b2i cf2)), .val (.ref b120), .val (.ref b122), .val (.ref b141), .val (.int (ixx vq)), .val (.int (b2i rr)), .val (.ref b160), .unset, .unset, .unset, .unset, .unset, .unset] [])) (fun t kt => ?_) ?_
          · show Steps p.tables e below (T162.setTop (mkF m 353 #[.val (.int p0), .val (.int p1), .val (.int p2), .val (.int p3), .val (.ref b101), .val (.int (i5F pi)), .val (.int (ixx (pmF pi 0))), .val (.int (ixx (pmF pi 1))), .val (.int (ixx (pmF pi 2))), .val (.int (tii (t0F tq0))), .val (.int (tii (t1F tq0 dq1))), .val (.int (tii (t2F tq0 dq1 dq2))), .val (.int (b2i cf0)), .val (.int (b2i cf1)), .val (.int (b2i cf2)), .val (.ref b120), .val (.ref b122), .val (.ref b141), .val (.int (ixx vq)), .val (.int (b2i rr)), .val (.ref b160), .unset, .unset, .unset, .unset, .unset, .unset] [(.int (b2i cf2))])) _
            refine XS.ifNo X162.here hx rfl (hb hby at_353) rfl (own_nbf (b0_eq _) hc353) ?_
            show Steps p.tables e below (T162.setTop (mkF m 356 #[.val (.int p0), .val (.int p1), .val (.int p2), .val (.int p3), .val (.ref b101), .val (.int (i5F pi)), .val (.int (ixx (pmF pi 0))), .val (.int (ixx (pmF pi 1))), .val (.int (ixx (pmF pi 2))), .val (.int (tii (t0F tq0))), .val (.int (tii (t1F tq0 dq1))), .val (.int (tii (t2F tq0 dq1 dq2))), .val (.int (b2i cf0)), .val (.int (b2i cf1)), .val (.int (b2i cf2)), .val (.ref b120), .val (.ref b122), .val (.ref b141), .val (.int (ixx vq)), .val (.int (b2i rr)), .val (.ref b160), .unset, .unset, .unset, .unset, .unset, .unset] [])) _
            refine XS.aload X162.here hx rfl (hb hby at_356) rfl rfl ?_
            show Steps p.tables e below (T162.setTop (mkF m 358 #[.val (.int p0), .val (.int p1), .val (.int p2), .val (.int p3), .val (.ref b101), .val (.int (i5F pi)), .val (.int (ixx (pmF pi 0))), .val (.int (ixx (pmF pi 1))), .val (.int (ixx (pmF pi 2))), .val (.int (tii (t0F tq0))), .val (.int (tii (t1F tq0 dq1))), .val (.int (tii (t2F tq0 dq1 dq2))), .val (.int (b2i cf0)), .val (.int (b2i cf1)), .val (.int (b2i cf2)), .val (.ref b120), .val (.ref b122), .val (.ref b141), .val (.int (ixx vq)), .val (.int (b2i rr)), .val (.ref b160), .unset, .unset, .unset, .unset, .unset, .unset] [(.ref b160)])) _
            refine XS.iload X162.here hx rfl (hb hby at_358) rfl ?_
            show Steps p.tables e below (T162.setTop (mkF m 360 #[.val (.int p0), .val (.int p1), .val (.int p2), .val (.int p3), .val (.ref b101), .val (.int (i5F pi)), .val (.int (ixx (pmF pi 0))), .val (.int (ixx (pmF pi 1))), .val (.int (ixx (pmF pi 2))), .val (.int (tii (t0F tq0))), .val (.int (tii (t1F tq0 dq1))), .val (.int (tii (t2F tq0 dq1 dq2))), .val (.int (b2i cf0)), .val (.int (b2i cf1)), .val (.int (b2i cf2)), .val (.ref b120), .val (.ref b122), .val (.ref b141), .val (.int (ixx vq)), .val (.int (b2i rr)), .val (.ref b160), .unset, .unset, .unset, .unset, .unset, .unset] [(.int (ixx (pmF pi 2))), (.ref b160)])) _
            refine XS.iload X162.here hx rfl (hb hby at_360) rfl ?_
            show Steps p.tables e below (T162.setTop (mkF m 362 #[.val (.int p0), .val (.int p1), .val (.int p2), .val (.int p3), .val (.ref b101), .val (.int (i5F pi)), .val (.int (ixx (pmF pi 0))), .val (.int (ixx (pmF pi 1))), .val (.int (ixx (pmF pi 2))), .val (.int (tii (t0F tq0))), .val (.int (tii (t1F tq0 dq1))), .val (.int (tii (t2F tq0 dq1 dq2))), .val (.int (b2i cf0)), .val (.int (b2i cf1)), .val (.int (b2i cf2)), .val (.ref b120), .val (.ref b122), .val (.ref b141), .val (.int (ixx vq)), .val (.int (b2i rr)), .val (.ref b160), .unset, .unset, .unset, .unset, .unset, .unset] [(.int (tii (t2F tq0 dq1 dq2))), (.int (ixx (pmF pi 2))), (.ref b160)])) _
            refine XS.i2dS X162.here hx rfl (hb hby at_362) rfl rfl ?_
            show Steps p.tables e below (T162.setTop (mkF m 363 #[.val (.int p0), .val (.int p1), .val (.int p2), .val (.int p3), .val (.ref b101), .val (.int (i5F pi)), .val (.int (ixx (pmF pi 0))), .val (.int (ixx (pmF pi 1))), .val (.int (ixx (pmF pi 2))), .val (.int (tii (t0F tq0))), .val (.int (tii (t1F tq0 dq1))), .val (.int (tii (t2F tq0 dq1 dq2))), .val (.int (b2i cf0)), .val (.int (b2i cf1)), .val (.int (b2i cf2)), .val (.ref b120), .val (.ref b122), .val (.ref b141), .val (.int (ixx vq)), .val (.int (b2i rr)), .val (.ref b160), .unset, .unset, .unset, .unset, .unset, .unset] [(.double (FP.i2d (tii (t2F tq0 dq1 dq2)))), (.int (ixx (pmF pi 2))), (.ref b160)])) _
            refine st280 _ ?_
            exact kt
          have f282 := (E162q.keep K280q)
          have f283 := (Ff162q.keep K280q (ninS (Nat.ne_of_lt (Nat.lt_of_lt_of_le A160.lt szq_lc162)) nin0))
          have f284 := (Fl162q.keep K280q (ninS (Nat.ne_of_lt (Nat.lt_of_lt_of_le A160.lt szq_lc162)) nin0))
          have f285 := (Fc162q.keep K280q (ninS (Nat.ne_of_lt (Nat.lt_of_lt_of_le A160.lt szq_lc162)) nin0))
          have f286 := (Fb162q.keep K280q (ninS (Nat.ne_of_lt (Nat.lt_of_lt_of_le A160.lt szq_lc162)) nin0))
          have f287 := (Fa162q.keep K280q (ninS (Nat.ne_of_lt (Nat.lt_of_lt_of_le A160.lt szq_lc162)) nin0))
          have f288 := (Gb162q.keep K280q (ninS (Ne.symm n1162) nin0))
          have f289 := (Ga162q.keep K280q (ninS (Ne.symm n2162) nin0))
          have f290 := (((G159.ext E160).keep K162q (ninS (Nat.ne_of_lt (Nat.lt_of_lt_of_le (Nat.lt_of_lt_of_le (Nat.lt_of_lt_of_le (Nat.lt_of_lt_of_le V_b141.lt (Keep.of_wr W148).1) (Keep.of_wr W153).1) (Keep.of_wr W158).1) (Nat.le_of_eq g160.symm))) nin0)).keep K280q (ninS (Nat.ne_of_lt (Nat.lt_of_lt_of_le (Nat.lt_of_lt_of_le (Nat.lt_of_lt_of_le (Nat.lt_of_lt_of_le (Nat.lt_of_lt_of_le V_b141.lt (Keep.of_wr W148).1) (Keep.of_wr W153).1) (Keep.of_wr W158).1) E160.1) szq_lc162)) nin0))
          exact rest _ _ _ _ X280 rfl N280 K280 ⟨f282, f283, f284, f285, f286, f287, f288, f289⟩ G280q f290 (by simp [kkF, kup, hc323, hc338, hc353])
        · refine Gl.pre (S' := T162.setTop (mkF m 366 #[.val (.int p0), .val (.int p1), .val (.int p2), .val (.int p3), .val (.ref b101), .val (.int (i5F pi)), .val (.int (ixx (pmF pi 0))), .val (.int (ixx (pmF pi 1))), .val (.int (ixx (pmF pi 2))), .val (.int (tii (t0F tq0))), .val (.int (tii (t1F tq0 dq1))), .val (.int (tii (t2F tq0 dq1 dq2))), .val (.int (b2i cf0)), .val (.int (b2i cf1)), .val (.int (b2i cf2)), .val (.ref b120), .val (.ref b122), .val (.ref b141), .val (.int (ixx vq)), .val (.int (b2i rr)), .val (.ref b160), .unset, .unset, .unset, .unset, .unset, .unset] [])) (fun t kt => ?_) ?_
          · show Steps p.tables e below (T162.setTop (mkF m 353 #[.val (.int p0), .val (.int p1), .val (.int p2), .val (.int p3), .val (.ref b101), .val (.int (i5F pi)), .val (.int (ixx (pmF pi 0))), .val (.int (ixx (pmF pi 1))), .val (.int (ixx (pmF pi 2))), .val (.int (tii (t0F tq0))), .val (.int (tii (t1F tq0 dq1))), .val (.int (tii (t2F tq0 dq1 dq2))), .val (.int (b2i cf0)), .val (.int (b2i cf1)), .val (.int (b2i cf2)), .val (.ref b120), .val (.ref b122), .val (.ref b141), .val (.int (ixx vq)), .val (.int (b2i rr)), .val (.ref b160), .unset, .unset, .unset, .unset, .unset, .unset] [(.int (b2i cf2))])) _
            refine XS.ifYes X162.here hx rfl (pc0 := 353) (pc' := 366) rfl (hb hby at_353) rfl (own_nbt (b0_eq _) (Bool.eq_false_iff.mpr hc353)) (by decide) (by decide) ?_
            exact kt
          have f291 := ((G159.ext E160).keep K162q (ninS (Nat.ne_of_lt (Nat.lt_of_lt_of_le (Nat.lt_of_lt_of_le (Nat.lt_of_lt_of_le (Nat.lt_of_lt_of_le V_b141.lt (Keep.of_wr W148).1) (Keep.of_wr W153).1) (Keep.of_wr W158).1) (Nat.le_of_eq g160.symm))) nin0))
          exact rest _ _ _ _ X162 rfl N162 K162 ⟨E162q, Ff162q, Fl162q, Fc162q, Fb162q, Fa162q, Gb162q, Ga162q⟩ Gc162q f291 (by simp [kkF, kup, hc323, hc338, hc353])
  rcases own_mod6 p0 with hk | hk | hk | hk | hk | hk
  · rw [hk]
    obtain ⟨cl292, Ar292, qa292, Sa292, Na292, Ha292, Ga292⟩ := id V119
    have hin292 : ¬ ((0 : Int32) < 0 ∨ cl292.slots.size ≤ ((0 : Int32)).toNatClampNeg) := inb_of Sa292 ⟨by decide, by decide⟩
    have hat292 := Ha292.at (v := (.int (0 : Int32))) hin292 rfl
    obtain ⟨cl293, Ar293, qa293, Sa293, Na293, Ha293, Ga293⟩ := id V119
    have hin293 : ¬ ((1 : Int32) < 0 ∨ cl293.slots.size ≤ ((1 : Int32)).toNatClampNeg) := inb_of Sa293 ⟨by decide, by decide⟩
    have hat293 := Ha293.at (v := (.int (1 : Int32))) hin293 rfl
    obtain ⟨cl294, Ar294, qa294, Sa294, Na294, Ha294, Ga294⟩ := id V119
    have hin294 : ¬ ((2 : Int32) < 0 ∨ cl294.slots.size ≤ ((2 : Int32)).toNatClampNeg) := inb_of Sa294 ⟨by decide, by decide⟩
    have hat294 := Ha294.at (v := (.int (2 : Int32))) hin294 rfl
    refine Gl.pre (S' := T119.setTop (mkF m 126 #[.val (.int p0), .val (.int p1), .val (.int p2), .val (.int p3), .val (.ref b101), .val (.int (0 : Int32)), .val (.int (0 : Int32)), .val (.int (1 : Int32)), .val (.int (2 : Int32)), .unset, .unset, .unset, .unset, .unset, .unset, .unset, .unset, .unset, .unset, .unset, .unset, .unset, .unset, .unset, .unset, .unset, .unset] [])) (fun t kt => ?_) ?_
    · show Steps p.tables e below (T119.setTop (mkF m 98 #[.val (.int p0), .val (.int p1), .val (.int p2), .val (.int p3), .val (.ref b101), .unset, .unset, .unset, .unset, .unset, .unset, .unset, .unset, .unset, .unset, .unset, .unset, .unset, .unset, .unset, .unset, .unset, .unset, .unset, .unset, .unset, .unset] [(.int (0 : Int32)), (.int (3 : Int32))])) _
      refine XS.imul X119.here hx rfl (hb hby at_98) rfl ?_
      show Steps p.tables e below (T119.setTop (mkF m 99 #[.val (.int p0), .val (.int p1), .val (.int p2), .val (.int p3), .val (.ref b101), .unset, .unset, .unset, .unset, .unset, .unset, .unset, .unset, .unset, .unset, .unset, .unset, .unset, .unset, .unset, .unset, .unset, .unset, .unset, .unset, .unset, .unset] [(.int ((3 : Int32) * (0 : Int32)))])) _
      refine XS.istore X119.here hx rfl (hb hby at_99) rfl (l' := #[.val (.int p0), .val (.int p1), .val (.int p2), .val (.int p3), .val (.ref b101), .val (.int ((3 : Int32) * (0 : Int32))), .unset, .unset, .unset, .unset, .unset, .unset, .unset, .unset, .unset, .unset, .unset, .unset, .unset, .unset, .unset, .unset, .unset, .unset, .unset, .unset, .unset]) rfl ?_
      show Steps p.tables e below (T119.setTop (mkF m 101 #[.val (.int p0), .val (.int p1), .val (.int p2), .val (.int p3), .val (.ref b101), .val (.int (0 : Int32)), .unset, .unset, .unset, .unset, .unset, .unset, .unset, .unset, .unset, .unset, .unset, .unset, .unset, .unset, .unset, .unset, .unset, .unset, .unset, .unset, .unset] [])) _
      refine XS.aload X119.here hx rfl (hb hby at_101) rfl rfl ?_
      show Steps p.tables e below (T119.setTop (mkF m 103 #[.val (.int p0), .val (.int p1), .val (.int p2), .val (.int p3), .val (.ref b101), .val (.int (0 : Int32)), .unset, .unset, .unset, .unset, .unset, .unset, .unset, .unset, .unset, .unset, .unset, .unset, .unset, .unset, .unset, .unset, .unset, .unset, .unset, .unset, .unset] [(.ref b101)])) _
      refine XS.iload X119.here hx rfl (hb hby at_103) rfl ?_
      show Steps p.tables e below (T119.setTop (mkF m 105 #[.val (.int p0), .val (.int p1), .val (.int p2), .val (.int p3), .val (.ref b101), .val (.int (0 : Int32)), .unset, .unset, .unset, .unset, .unset, .unset, .unset, .unset, .unset, .unset, .unset, .unset, .unset, .unset, .unset, .unset, .unset, .unset, .unset, .unset, .unset] [(.int (0 : Int32)), (.ref b101)])) _
      refine X119.iaload hx (j := (0 : Int32)) (v := (.int (0 : Int32))) (own_hc e119 Ar292.1) (State.isArrayOf_alike hZ.alike Ar292.2.1) Ar292.2.2 hin292 hat292 (g := (mkF m 105 #[.val (.int p0), .val (.int p1), .val (.int p2), .val (.int p3), .val (.ref b101), .val (.int (0 : Int32)), .unset, .unset, .unset, .unset, .unset, .unset, .unset, .unset, .unset, .unset, .unset, .unset, .unset, .unset, .unset, .unset, .unset, .unset, .unset, .unset, .unset] [(.int (0 : Int32)), (.ref b101)])) rfl rfl (hb hby at_105) _ ?_
      show Steps p.tables e below (T119.setTop (mkF m 106 #[.val (.int p0), .val (.int p1), .val (.int p2), .val (.int p3), .val (.ref b101), .val (.int (0 : Int32)), .unset, .unset, .unset, .unset, .unset, .unset, .unset, .unset, .unset, .unset, .unset, .unset, .unset, .unset, .unset, .unset, .unset, .unset, .unset, .unset, .unset] [(.int (0 : Int32))])) _
      refine XS.istore X119.here hx rfl (hb hby at_106) rfl (l' := #[.val (.int p0), .val (.int p1), .val (.int p2), .val (.int p3), .val (.ref b101), .val (.int (0 : Int32)), .val (.int (0 : Int32)), .unset, .unset, .unset, .unset, .unset, .unset, .unset, .unset, .unset, .unset, .unset, .unset, .unset, .unset, .unset, .unset, .unset, .unset, .unset, .unset]) rfl ?_
      show Steps p.tables e below (T119.setTop (mkF m 108 #[.val (.int p0), .val (.int p1), .val (.int p2), .val (.int p3), .val (.ref b101), .val (.int (0 : Int32)), .val (.int (0 : Int32)), .unset, .unset, .unset, .unset, .unset, .unset, .unset, .unset, .unset, .unset, .unset, .unset, .unset, .unset, .unset, .unset, .unset, .unset, .unset, .unset] [])) _
      refine XS.aload X119.here hx rfl (hb hby at_108) rfl rfl ?_
      show Steps p.tables e below (T119.setTop (mkF m 110 #[.val (.int p0), .val (.int p1), .val (.int p2), .val (.int p3), .val (.ref b101), .val (.int (0 : Int32)), .val (.int (0 : Int32)), .unset, .unset, .unset, .unset, .unset, .unset, .unset, .unset, .unset, .unset, .unset, .unset, .unset, .unset, .unset, .unset, .unset, .unset, .unset, .unset] [(.ref b101)])) _
      refine XS.iload X119.here hx rfl (hb hby at_110) rfl ?_
      show Steps p.tables e below (T119.setTop (mkF m 112 #[.val (.int p0), .val (.int p1), .val (.int p2), .val (.int p3), .val (.ref b101), .val (.int (0 : Int32)), .val (.int (0 : Int32)), .unset, .unset, .unset, .unset, .unset, .unset, .unset, .unset, .unset, .unset, .unset, .unset, .unset, .unset, .unset, .unset, .unset, .unset, .unset, .unset] [(.int (0 : Int32)), (.ref b101)])) _
      refine XS.iconst X119.here hx rfl (hb hby at_112) ?_
      show Steps p.tables e below (T119.setTop (mkF m 113 #[.val (.int p0), .val (.int p1), .val (.int p2), .val (.int p3), .val (.ref b101), .val (.int (0 : Int32)), .val (.int (0 : Int32)), .unset, .unset, .unset, .unset, .unset, .unset, .unset, .unset, .unset, .unset, .unset, .unset, .unset, .unset, .unset, .unset, .unset, .unset, .unset, .unset] [(.int (1 : Int32)), (.int (0 : Int32)), (.ref b101)])) _
      refine XS.iadd X119.here hx rfl (hb hby at_113) rfl ?_
      show Steps p.tables e below (T119.setTop (mkF m 114 #[.val (.int p0), .val (.int p1), .val (.int p2), .val (.int p3), .val (.ref b101), .val (.int (0 : Int32)), .val (.int (0 : Int32)), .unset, .unset, .unset, .unset, .unset, .unset, .unset, .unset, .unset, .unset, .unset, .unset, .unset, .unset, .unset, .unset, .unset, .unset, .unset, .unset] [(.int (1 : Int32)), (.ref b101)])) _
      refine X119.iaload hx (j := (1 : Int32)) (v := (.int (1 : Int32))) (own_hc e119 Ar293.1) (State.isArrayOf_alike hZ.alike Ar293.2.1) Ar293.2.2 hin293 hat293 (g := (mkF m 114 #[.val (.int p0), .val (.int p1), .val (.int p2), .val (.int p3), .val (.ref b101), .val (.int (0 : Int32)), .val (.int (0 : Int32)), .unset, .unset, .unset, .unset, .unset, .unset, .unset, .unset, .unset, .unset, .unset, .unset, .unset, .unset, .unset, .unset, .unset, .unset, .unset, .unset] [(.int (1 : Int32)), (.ref b101)])) rfl rfl (hb hby at_114) _ ?_
      show Steps p.tables e below (T119.setTop (mkF m 115 #[.val (.int p0), .val (.int p1), .val (.int p2), .val (.int p3), .val (.ref b101), .val (.int (0 : Int32)), .val (.int (0 : Int32)), .unset, .unset, .unset, .unset, .unset, .unset, .unset, .unset, .unset, .unset, .unset, .unset, .unset, .unset, .unset, .unset, .unset, .unset, .unset, .unset] [(.int (1 : Int32))])) _
      refine XS.istore X119.here hx rfl (hb hby at_115) rfl (l' := #[.val (.int p0), .val (.int p1), .val (.int p2), .val (.int p3), .val (.ref b101), .val (.int (0 : Int32)), .val (.int (0 : Int32)), .val (.int (1 : Int32)), .unset, .unset, .unset, .unset, .unset, .unset, .unset, .unset, .unset, .unset, .unset, .unset, .unset, .unset, .unset, .unset, .unset, .unset, .unset]) rfl ?_
      show Steps p.tables e below (T119.setTop (mkF m 117 #[.val (.int p0), .val (.int p1), .val (.int p2), .val (.int p3), .val (.ref b101), .val (.int (0 : Int32)), .val (.int (0 : Int32)), .val (.int (1 : Int32)), .unset, .unset, .unset, .unset, .unset, .unset, .unset, .unset, .unset, .unset, .unset, .unset, .unset, .unset, .unset, .unset, .unset, .unset, .unset] [])) _
      refine XS.aload X119.here hx rfl (hb hby at_117) rfl rfl ?_
      show Steps p.tables e below (T119.setTop (mkF m 119 #[.val (.int p0), .val (.int p1), .val (.int p2), .val (.int p3), .val (.ref b101), .val (.int (0 : Int32)), .val (.int (0 : Int32)), .val (.int (1 : Int32)), .unset, .unset, .unset, .unset, .unset, .unset, .unset, .unset, .unset, .unset, .unset, .unset, .unset, .unset, .unset, .unset, .unset, .unset, .unset] [(.ref b101)])) _
      refine XS.iload X119.here hx rfl (hb hby at_119) rfl ?_
      show Steps p.tables e below (T119.setTop (mkF m 121 #[.val (.int p0), .val (.int p1), .val (.int p2), .val (.int p3), .val (.ref b101), .val (.int (0 : Int32)), .val (.int (0 : Int32)), .val (.int (1 : Int32)), .unset, .unset, .unset, .unset, .unset, .unset, .unset, .unset, .unset, .unset, .unset, .unset, .unset, .unset, .unset, .unset, .unset, .unset, .unset] [(.int (0 : Int32)), (.ref b101)])) _
      refine XS.iconst X119.here hx rfl (hb hby at_121) ?_
      show Steps p.tables e below (T119.setTop (mkF m 122 #[.val (.int p0), .val (.int p1), .val (.int p2), .val (.int p3), .val (.ref b101), .val (.int (0 : Int32)), .val (.int (0 : Int32)), .val (.int (1 : Int32)), .unset, .unset, .unset, .unset, .unset, .unset, .unset, .unset, .unset, .unset, .unset, .unset, .unset, .unset, .unset, .unset, .unset, .unset, .unset] [(.int (2 : Int32)), (.int (0 : Int32)), (.ref b101)])) _
      refine XS.iadd X119.here hx rfl (hb hby at_122) rfl ?_
      show Steps p.tables e below (T119.setTop (mkF m 123 #[.val (.int p0), .val (.int p1), .val (.int p2), .val (.int p3), .val (.ref b101), .val (.int (0 : Int32)), .val (.int (0 : Int32)), .val (.int (1 : Int32)), .unset, .unset, .unset, .unset, .unset, .unset, .unset, .unset, .unset, .unset, .unset, .unset, .unset, .unset, .unset, .unset, .unset, .unset, .unset] [(.int (2 : Int32)), (.ref b101)])) _
      refine X119.iaload hx (j := (2 : Int32)) (v := (.int (2 : Int32))) (own_hc e119 Ar294.1) (State.isArrayOf_alike hZ.alike Ar294.2.1) Ar294.2.2 hin294 hat294 (g := (mkF m 123 #[.val (.int p0), .val (.int p1), .val (.int p2), .val (.int p3), .val (.ref b101), .val (.int (0 : Int32)), .val (.int (0 : Int32)), .val (.int (1 : Int32)), .unset, .unset, .unset, .unset, .unset, .unset, .unset, .unset, .unset, .unset, .unset, .unset, .unset, .unset, .unset, .unset, .unset, .unset, .unset] [(.int (2 : Int32)), (.ref b101)])) rfl rfl (hb hby at_123) _ ?_
      show Steps p.tables e below (T119.setTop (mkF m 124 #[.val (.int p0), .val (.int p1), .val (.int p2), .val (.int p3), .val (.ref b101), .val (.int (0 : Int32)), .val (.int (0 : Int32)), .val (.int (1 : Int32)), .unset, .unset, .unset, .unset, .unset, .unset, .unset, .unset, .unset, .unset, .unset, .unset, .unset, .unset, .unset, .unset, .unset, .unset, .unset] [(.int (2 : Int32))])) _
      refine XS.istore X119.here hx rfl (hb hby at_124) rfl (l' := #[.val (.int p0), .val (.int p1), .val (.int p2), .val (.int p3), .val (.ref b101), .val (.int (0 : Int32)), .val (.int (0 : Int32)), .val (.int (1 : Int32)), .val (.int (2 : Int32)), .unset, .unset, .unset, .unset, .unset, .unset, .unset, .unset, .unset, .unset, .unset, .unset, .unset, .unset, .unset, .unset, .unset, .unset]) rfl ?_
      exact kt
    exact m126 (0 : Fin 6)
  · rw [hk]
    obtain ⟨cl295, Ar295, qa295, Sa295, Na295, Ha295, Ga295⟩ := id V119
    have hin295 : ¬ ((3 : Int32) < 0 ∨ cl295.slots.size ≤ ((3 : Int32)).toNatClampNeg) := inb_of Sa295 ⟨by decide, by decide⟩
    have hat295 := Ha295.at (v := (.int (0 : Int32))) hin295 rfl
    obtain ⟨cl296, Ar296, qa296, Sa296, Na296, Ha296, Ga296⟩ := id V119
    have hin296 : ¬ ((4 : Int32) < 0 ∨ cl296.slots.size ≤ ((4 : Int32)).toNatClampNeg) := inb_of Sa296 ⟨by decide, by decide⟩
    have hat296 := Ha296.at (v := (.int (2 : Int32))) hin296 rfl
    obtain ⟨cl297, Ar297, qa297, Sa297, Na297, Ha297, Ga297⟩ := id V119
    have hin297 : ¬ ((5 : Int32) < 0 ∨ cl297.slots.size ≤ ((5 : Int32)).toNatClampNeg) := inb_of Sa297 ⟨by decide, by decide⟩
    have hat297 := Ha297.at (v := (.int (1 : Int32))) hin297 rfl
    refine Gl.pre (S' := T119.setTop (mkF m 126 #[.val (.int p0), .val (.int p1), .val (.int p2), .val (.int p3), .val (.ref b101), .val (.int (3 : Int32)), .val (.int (0 : Int32)), .val (.int (2 : Int32)), .val (.int (1 : Int32)), .unset, .unset, .unset, .unset, .unset, .unset, .unset, .unset, .unset, .unset, .unset, .unset, .unset, .unset, .unset, .unset, .unset, .unset] [])) (fun t kt => ?_) ?_
    · show Steps p.tables e below (T119.setTop (mkF m 98 #[.val (.int p0), .val (.int p1), .val (.int p2), .val (.int p3), .val (.ref b101), .unset, .unset, .unset, .unset, .unset, .unset, .unset, .unset, .unset, .unset, .unset, .unset, .unset, .unset, .unset, .unset, .unset, .unset, .unset, .unset, .unset, .unset] [(.int (1 : Int32)), (.int (3 : Int32))])) _
      refine XS.imul X119.here hx rfl (hb hby at_98) rfl ?_
      show Steps p.tables e below (T119.setTop (mkF m 99 #[.val (.int p0), .val (.int p1), .val (.int p2), .val (.int p3), .val (.ref b101), .unset, .unset, .unset, .unset, .unset, .unset, .unset, .unset, .unset, .unset, .unset, .unset, .unset, .unset, .unset, .unset, .unset, .unset, .unset, .unset, .unset, .unset] [(.int ((3 : Int32) * (1 : Int32)))])) _
      refine XS.istore X119.here hx rfl (hb hby at_99) rfl (l' := #[.val (.int p0), .val (.int p1), .val (.int p2), .val (.int p3), .val (.ref b101), .val (.int ((3 : Int32) * (1 : Int32))), .unset, .unset, .unset, .unset, .unset, .unset, .unset, .unset, .unset, .unset, .unset, .unset, .unset, .unset, .unset, .unset, .unset, .unset, .unset, .unset, .unset]) rfl ?_
      show Steps p.tables e below (T119.setTop (mkF m 101 #[.val (.int p0), .val (.int p1), .val (.int p2), .val (.int p3), .val (.ref b101), .val (.int (3 : Int32)), .unset, .unset, .unset, .unset, .unset, .unset, .unset, .unset, .unset, .unset, .unset, .unset, .unset, .unset, .unset, .unset, .unset, .unset, .unset, .unset, .unset] [])) _
      refine XS.aload X119.here hx rfl (hb hby at_101) rfl rfl ?_
      show Steps p.tables e below (T119.setTop (mkF m 103 #[.val (.int p0), .val (.int p1), .val (.int p2), .val (.int p3), .val (.ref b101), .val (.int (3 : Int32)), .unset, .unset, .unset, .unset, .unset, .unset, .unset, .unset, .unset, .unset, .unset, .unset, .unset, .unset, .unset, .unset, .unset, .unset, .unset, .unset, .unset] [(.ref b101)])) _
      refine XS.iload X119.here hx rfl (hb hby at_103) rfl ?_
      show Steps p.tables e below (T119.setTop (mkF m 105 #[.val (.int p0), .val (.int p1), .val (.int p2), .val (.int p3), .val (.ref b101), .val (.int (3 : Int32)), .unset, .unset, .unset, .unset, .unset, .unset, .unset, .unset, .unset, .unset, .unset, .unset, .unset, .unset, .unset, .unset, .unset, .unset, .unset, .unset, .unset] [(.int (3 : Int32)), (.ref b101)])) _
      refine X119.iaload hx (j := (3 : Int32)) (v := (.int (0 : Int32))) (own_hc e119 Ar295.1) (State.isArrayOf_alike hZ.alike Ar295.2.1) Ar295.2.2 hin295 hat295 (g := (mkF m 105 #[.val (.int p0), .val (.int p1), .val (.int p2), .val (.int p3), .val (.ref b101), .val (.int (3 : Int32)), .unset, .unset, .unset, .unset, .unset, .unset, .unset, .unset, .unset, .unset, .unset, .unset, .unset, .unset, .unset, .unset, .unset, .unset, .unset, .unset, .unset] [(.int (3 : Int32)), (.ref b101)])) rfl rfl (hb hby at_105) _ ?_
      show Steps p.tables e below (T119.setTop (mkF m 106 #[.val (.int p0), .val (.int p1), .val (.int p2), .val (.int p3), .val (.ref b101), .val (.int (3 : Int32)), .unset, .unset, .unset, .unset, .unset, .unset, .unset, .unset, .unset, .unset, .unset, .unset, .unset, .unset, .unset, .unset, .unset, .unset, .unset, .unset, .unset] [(.int (0 : Int32))])) _
      refine XS.istore X119.here hx rfl (hb hby at_106) rfl (l' := #[.val (.int p0), .val (.int p1), .val (.int p2), .val (.int p3), .val (.ref b101), .val (.int (3 : Int32)), .val (.int (0 : Int32)), .unset, .unset, .unset, .unset, .unset, .unset, .unset, .unset, .unset, .unset, .unset, .unset, .unset, .unset, .unset, .unset, .unset, .unset, .unset, .unset]) rfl ?_
      show Steps p.tables e below (T119.setTop (mkF m 108 #[.val (.int p0), .val (.int p1), .val (.int p2), .val (.int p3), .val (.ref b101), .val (.int (3 : Int32)), .val (.int (0 : Int32)), .unset, .unset, .unset, .unset, .unset, .unset, .unset, .unset, .unset, .unset, .unset, .unset, .unset, .unset, .unset, .unset, .unset, .unset, .unset, .unset] [])) _
      refine XS.aload X119.here hx rfl (hb hby at_108) rfl rfl ?_
      show Steps p.tables e below (T119.setTop (mkF m 110 #[.val (.int p0), .val (.int p1), .val (.int p2), .val (.int p3), .val (.ref b101), .val (.int (3 : Int32)), .val (.int (0 : Int32)), .unset, .unset, .unset, .unset, .unset, .unset, .unset, .unset, .unset, .unset, .unset, .unset, .unset, .unset, .unset, .unset, .unset, .unset, .unset, .unset] [(.ref b101)])) _
      refine XS.iload X119.here hx rfl (hb hby at_110) rfl ?_
      show Steps p.tables e below (T119.setTop (mkF m 112 #[.val (.int p0), .val (.int p1), .val (.int p2), .val (.int p3), .val (.ref b101), .val (.int (3 : Int32)), .val (.int (0 : Int32)), .unset, .unset, .unset, .unset, .unset, .unset, .unset, .unset, .unset, .unset, .unset, .unset, .unset, .unset, .unset, .unset, .unset, .unset, .unset, .unset] [(.int (3 : Int32)), (.ref b101)])) _
      refine XS.iconst X119.here hx rfl (hb hby at_112) ?_
      show Steps p.tables e below (T119.setTop (mkF m 113 #[.val (.int p0), .val (.int p1), .val (.int p2), .val (.int p3), .val (.ref b101), .val (.int (3 : Int32)), .val (.int (0 : Int32)), .unset, .unset, .unset, .unset, .unset, .unset, .unset, .unset, .unset, .unset, .unset, .unset, .unset, .unset, .unset, .unset, .unset, .unset, .unset, .unset] [(.int (1 : Int32)), (.int (3 : Int32)), (.ref b101)])) _
      refine XS.iadd X119.here hx rfl (hb hby at_113) rfl ?_
      show Steps p.tables e below (T119.setTop (mkF m 114 #[.val (.int p0), .val (.int p1), .val (.int p2), .val (.int p3), .val (.ref b101), .val (.int (3 : Int32)), .val (.int (0 : Int32)), .unset, .unset, .unset, .unset, .unset, .unset, .unset, .unset, .unset, .unset, .unset, .unset, .unset, .unset, .unset, .unset, .unset, .unset, .unset, .unset] [(.int (4 : Int32)), (.ref b101)])) _
      refine X119.iaload hx (j := (4 : Int32)) (v := (.int (2 : Int32))) (own_hc e119 Ar296.1) (State.isArrayOf_alike hZ.alike Ar296.2.1) Ar296.2.2 hin296 hat296 (g := (mkF m 114 #[.val (.int p0), .val (.int p1), .val (.int p2), .val (.int p3), .val (.ref b101), .val (.int (3 : Int32)), .val (.int (0 : Int32)), .unset, .unset, .unset, .unset, .unset, .unset, .unset, .unset, .unset, .unset, .unset, .unset, .unset, .unset, .unset, .unset, .unset, .unset, .unset, .unset] [(.int (4 : Int32)), (.ref b101)])) rfl rfl (hb hby at_114) _ ?_
      show Steps p.tables e below (T119.setTop (mkF m 115 #[.val (.int p0), .val (.int p1), .val (.int p2), .val (.int p3), .val (.ref b101), .val (.int (3 : Int32)), .val (.int (0 : Int32)), .unset, .unset, .unset, .unset, .unset, .unset, .unset, .unset, .unset, .unset, .unset, .unset, .unset, .unset, .unset, .unset, .unset, .unset, .unset, .unset] [(.int (2 : Int32))])) _
      refine XS.istore X119.here hx rfl (hb hby at_115) rfl (l' := #[.val (.int p0), .val (.int p1), .val (.int p2), .val (.int p3), .val (.ref b101), .val (.int (3 : Int32)), .val (.int (0 : Int32)), .val (.int (2 : Int32)), .unset, .unset, .unset, .unset, .unset, .unset, .unset, .unset, .unset, .unset, .unset, .unset, .unset, .unset, .unset, .unset, .unset, .unset, .unset]) rfl ?_
      show Steps p.tables e below (T119.setTop (mkF m 117 #[.val (.int p0), .val (.int p1), .val (.int p2), .val (.int p3), .val (.ref b101), .val (.int (3 : Int32)), .val (.int (0 : Int32)), .val (.int (2 : Int32)), .unset, .unset, .unset, .unset, .unset, .unset, .unset, .unset, .unset, .unset, .unset, .unset, .unset, .unset, .unset, .unset, .unset, .unset, .unset] [])) _
      refine XS.aload X119.here hx rfl (hb hby at_117) rfl rfl ?_
      show Steps p.tables e below (T119.setTop (mkF m 119 #[.val (.int p0), .val (.int p1), .val (.int p2), .val (.int p3), .val (.ref b101), .val (.int (3 : Int32)), .val (.int (0 : Int32)), .val (.int (2 : Int32)), .unset, .unset, .unset, .unset, .unset, .unset, .unset, .unset, .unset, .unset, .unset, .unset, .unset, .unset, .unset, .unset, .unset, .unset, .unset] [(.ref b101)])) _
      refine XS.iload X119.here hx rfl (hb hby at_119) rfl ?_
      show Steps p.tables e below (T119.setTop (mkF m 121 #[.val (.int p0), .val (.int p1), .val (.int p2), .val (.int p3), .val (.ref b101), .val (.int (3 : Int32)), .val (.int (0 : Int32)), .val (.int (2 : Int32)), .unset, .unset, .unset, .unset, .unset, .unset, .unset, .unset, .unset, .unset, .unset, .unset, .unset, .unset, .unset, .unset, .unset, .unset, .unset] [(.int (3 : Int32)), (.ref b101)])) _
      refine XS.iconst X119.here hx rfl (hb hby at_121) ?_
      show Steps p.tables e below (T119.setTop (mkF m 122 #[.val (.int p0), .val (.int p1), .val (.int p2), .val (.int p3), .val (.ref b101), .val (.int (3 : Int32)), .val (.int (0 : Int32)), .val (.int (2 : Int32)), .unset, .unset, .unset, .unset, .unset, .unset, .unset, .unset, .unset, .unset, .unset, .unset, .unset, .unset, .unset, .unset, .unset, .unset, .unset] [(.int (2 : Int32)), (.int (3 : Int32)), (.ref b101)])) _
      refine XS.iadd X119.here hx rfl (hb hby at_122) rfl ?_
      show Steps p.tables e below (T119.setTop (mkF m 123 #[.val (.int p0), .val (.int p1), .val (.int p2), .val (.int p3), .val (.ref b101), .val (.int (3 : Int32)), .val (.int (0 : Int32)), .val (.int (2 : Int32)), .unset, .unset, .unset, .unset, .unset, .unset, .unset, .unset, .unset, .unset, .unset, .unset, .unset, .unset, .unset, .unset, .unset, .unset, .unset] [(.int (5 : Int32)), (.ref b101)])) _
      refine X119.iaload hx (j := (5 : Int32)) (v := (.int (1 : Int32))) (own_hc e119 Ar297.1) (State.isArrayOf_alike hZ.alike Ar297.2.1) Ar297.2.2 hin297 hat297 (g := (mkF m 123 #[.val (.int p0), .val (.int p1), .val (.int p2), .val (.int p3), .val (.ref b101), .val (.int (3 : Int32)), .val (.int (0 : Int32)), .val (.int (2 : Int32)), .unset, .unset, .unset, .unset, .unset, .unset, .unset, .unset, .unset, .unset, .unset, .unset, .unset, .unset, .unset, .unset, .unset, .unset, .unset] [(.int (5 : Int32)), (.ref b101)])) rfl rfl (hb hby at_123) _ ?_
      show Steps p.tables e below (T119.setTop (mkF m 124 #[.val (.int p0), .val (.int p1), .val (.int p2), .val (.int p3), .val (.ref b101), .val (.int (3 : Int32)), .val (.int (0 : Int32)), .val (.int (2 : Int32)), .unset, .unset, .unset, .unset, .unset, .unset, .unset, .unset, .unset, .unset, .unset, .unset, .unset, .unset, .unset, .unset, .unset, .unset, .unset] [(.int (1 : Int32))])) _
      refine XS.istore X119.here hx rfl (hb hby at_124) rfl (l' := #[.val (.int p0), .val (.int p1), .val (.int p2), .val (.int p3), .val (.ref b101), .val (.int (3 : Int32)), .val (.int (0 : Int32)), .val (.int (2 : Int32)), .val (.int (1 : Int32)), .unset, .unset, .unset, .unset, .unset, .unset, .unset, .unset, .unset, .unset, .unset, .unset, .unset, .unset, .unset, .unset, .unset, .unset]) rfl ?_
      exact kt
    exact m126 (1 : Fin 6)
  · rw [hk]
    obtain ⟨cl298, Ar298, qa298, Sa298, Na298, Ha298, Ga298⟩ := id V119
    have hin298 : ¬ ((6 : Int32) < 0 ∨ cl298.slots.size ≤ ((6 : Int32)).toNatClampNeg) := inb_of Sa298 ⟨by decide, by decide⟩
    have hat298 := Ha298.at (v := (.int (1 : Int32))) hin298 rfl
    obtain ⟨cl299, Ar299, qa299, Sa299, Na299, Ha299, Ga299⟩ := id V119
    have hin299 : ¬ ((7 : Int32) < 0 ∨ cl299.slots.size ≤ ((7 : Int32)).toNatClampNeg) := inb_of Sa299 ⟨by decide, by decide⟩
    have hat299 := Ha299.at (v := (.int (0 : Int32))) hin299 rfl
    obtain ⟨cl300, Ar300, qa300, Sa300, Na300, Ha300, Ga300⟩ := id V119
    have hin300 : ¬ ((8 : Int32) < 0 ∨ cl300.slots.size ≤ ((8 : Int32)).toNatClampNeg) := inb_of Sa300 ⟨by decide, by decide⟩
    have hat300 := Ha300.at (v := (.int (2 : Int32))) hin300 rfl
    refine Gl.pre (S' := T119.setTop (mkF m 126 #[.val (.int p0), .val (.int p1), .val (.int p2), .val (.int p3), .val (.ref b101), .val (.int (6 : Int32)), .val (.int (1 : Int32)), .val (.int (0 : Int32)), .val (.int (2 : Int32)), .unset, .unset, .unset, .unset, .unset, .unset, .unset, .unset, .unset, .unset, .unset, .unset, .unset, .unset, .unset, .unset, .unset, .unset] [])) (fun t kt => ?_) ?_
    · show Steps p.tables e below (T119.setTop (mkF m 98 #[.val (.int p0), .val (.int p1), .val (.int p2), .val (.int p3), .val (.ref b101), .unset, .unset, .unset, .unset, .unset, .unset, .unset, .unset, .unset, .unset, .unset, .unset, .unset, .unset, .unset, .unset, .unset, .unset, .unset, .unset, .unset, .unset] [(.int (2 : Int32)), (.int (3 : Int32))])) _
      refine XS.imul X119.here hx rfl (hb hby at_98) rfl ?_
      show Steps p.tables e below (T119.setTop (mkF m 99 #[.val (.int p0), .val (.int p1), .val (.int p2), .val (.int p3), .val (.ref b101), .unset, .unset, .unset, .unset, .unset, .unset, .unset, .unset, .unset, .unset, .unset, .unset, .unset, .unset, .unset, .unset, .unset, .unset, .unset, .unset, .unset, .unset] [(.int ((3 : Int32) * (2 : Int32)))])) _
      refine XS.istore X119.here hx rfl (hb hby at_99) rfl (l' := #[.val (.int p0), .val (.int p1), .val (.int p2), .val (.int p3), .val (.ref b101), .val (.int ((3 : Int32) * (2 : Int32))), .unset, .unset, .unset, .unset, .unset, .unset, .unset, .unset, .unset, .unset, .unset, .unset, .unset, .unset, .unset, .unset, .unset, .unset, .unset, .unset, .unset]) rfl ?_
      show Steps p.tables e below (T119.setTop (mkF m 101 #[.val (.int p0), .val (.int p1), .val (.int p2), .val (.int p3), .val (.ref b101), .val (.int (6 : Int32)), .unset, .unset, .unset, .unset, .unset, .unset, .unset, .unset, .unset, .unset, .unset, .unset, .unset, .unset, .unset, .unset, .unset, .unset, .unset, .unset, .unset] [])) _
      refine XS.aload X119.here hx rfl (hb hby at_101) rfl rfl ?_
      show Steps p.tables e below (T119.setTop (mkF m 103 #[.val (.int p0), .val (.int p1), .val (.int p2), .val (.int p3), .val (.ref b101), .val (.int (6 : Int32)), .unset, .unset, .unset, .unset, .unset, .unset, .unset, .unset, .unset, .unset, .unset, .unset, .unset, .unset, .unset, .unset, .unset, .unset, .unset, .unset, .unset] [(.ref b101)])) _
      refine XS.iload X119.here hx rfl (hb hby at_103) rfl ?_
      show Steps p.tables e below (T119.setTop (mkF m 105 #[.val (.int p0), .val (.int p1), .val (.int p2), .val (.int p3), .val (.ref b101), .val (.int (6 : Int32)), .unset, .unset, .unset, .unset, .unset, .unset, .unset, .unset, .unset, .unset, .unset, .unset, .unset, .unset, .unset, .unset, .unset, .unset, .unset, .unset, .unset] [(.int (6 : Int32)), (.ref b101)])) _
      refine X119.iaload hx (j := (6 : Int32)) (v := (.int (1 : Int32))) (own_hc e119 Ar298.1) (State.isArrayOf_alike hZ.alike Ar298.2.1) Ar298.2.2 hin298 hat298 (g := (mkF m 105 #[.val (.int p0), .val (.int p1), .val (.int p2), .val (.int p3), .val (.ref b101), .val (.int (6 : Int32)), .unset, .unset, .unset, .unset, .unset, .unset, .unset, .unset, .unset, .unset, .unset, .unset, .unset, .unset, .unset, .unset, .unset, .unset, .unset, .unset, .unset] [(.int (6 : Int32)), (.ref b101)])) rfl rfl (hb hby at_105) _ ?_
      show Steps p.tables e below (T119.setTop (mkF m 106 #[.val (.int p0), .val (.int p1), .val (.int p2), .val (.int p3), .val (.ref b101), .val (.int (6 : Int32)), .unset, .unset, .unset, .unset, .unset, .unset, .unset, .unset, .unset, .unset, .unset, .unset, .unset, .unset, .unset, .unset, .unset, .unset, .unset, .unset, .unset] [(.int (1 : Int32))])) _
      refine XS.istore X119.here hx rfl (hb hby at_106) rfl (l' := #[.val (.int p0), .val (.int p1), .val (.int p2), .val (.int p3), .val (.ref b101), .val (.int (6 : Int32)), .val (.int (1 : Int32)), .unset, .unset, .unset, .unset, .unset, .unset, .unset, .unset, .unset, .unset, .unset, .unset, .unset, .unset, .unset, .unset, .unset, .unset, .unset, .unset]) rfl ?_
      show Steps p.tables e below (T119.setTop (mkF m 108 #[.val (.int p0), .val (.int p1), .val (.int p2), .val (.int p3), .val (.ref b101), .val (.int (6 : Int32)), .val (.int (1 : Int32)), .unset, .unset, .unset, .unset, .unset, .unset, .unset, .unset, .unset, .unset, .unset, .unset, .unset, .unset, .unset, .unset, .unset, .unset, .unset, .unset] [])) _
      refine XS.aload X119.here hx rfl (hb hby at_108) rfl rfl ?_
      show Steps p.tables e below (T119.setTop (mkF m 110 #[.val (.int p0), .val (.int p1), .val (.int p2), .val (.int p3), .val (.ref b101), .val (.int (6 : Int32)), .val (.int (1 : Int32)), .unset, .unset, .unset, .unset, .unset, .unset, .unset, .unset, .unset, .unset, .unset, .unset, .unset, .unset, .unset, .unset, .unset, .unset, .unset, .unset] [(.ref b101)])) _
      refine XS.iload X119.here hx rfl (hb hby at_110) rfl ?_
      show Steps p.tables e below (T119.setTop (mkF m 112 #[.val (.int p0), .val (.int p1), .val (.int p2), .val (.int p3), .val (.ref b101), .val (.int (6 : Int32)), .val (.int (1 : Int32)), .unset, .unset, .unset, .unset, .unset, .unset, .unset, .unset, .unset, .unset, .unset, .unset, .unset, .unset, .unset, .unset, .unset, .unset, .unset, .unset] [(.int (6 : Int32)), (.ref b101)])) _
      refine XS.iconst X119.here hx rfl (hb hby at_112) ?_
      show Steps p.tables e below (T119.setTop (mkF m 113 #[.val (.int p0), .val (.int p1), .val (.int p2), .val (.int p3), .val (.ref b101), .val (.int (6 : Int32)), .val (.int (1 : Int32)), .unset, .unset, .unset, .unset, .unset, .unset, .unset, .unset, .unset, .unset, .unset, .unset, .unset, .unset, .unset, .unset, .unset, .unset, .unset, .unset] [(.int (1 : Int32)), (.int (6 : Int32)), (.ref b101)])) _
      refine XS.iadd X119.here hx rfl (hb hby at_113) rfl ?_
      show Steps p.tables e below (T119.setTop (mkF m 114 #[.val (.int p0), .val (.int p1), .val (.int p2), .val (.int p3), .val (.ref b101), .val (.int (6 : Int32)), .val (.int (1 : Int32)), .unset, .unset, .unset, .unset, .unset, .unset, .unset, .unset, .unset, .unset, .unset, .unset, .unset, .unset, .unset, .unset, .unset, .unset, .unset, .unset] [(.int (7 : Int32)), (.ref b101)])) _
      refine X119.iaload hx (j := (7 : Int32)) (v := (.int (0 : Int32))) (own_hc e119 Ar299.1) (State.isArrayOf_alike hZ.alike Ar299.2.1) Ar299.2.2 hin299 hat299 (g := (mkF m 114 #[.val (.int p0), .val (.int p1), .val (.int p2), .val (.int p3), .val (.ref b101), .val (.int (6 : Int32)), .val (.int (1 : Int32)), .unset, .unset, .unset, .unset, .unset, .unset, .unset, .unset, .unset, .unset, .unset, .unset, .unset, .unset, .unset, .unset, .unset, .unset, .unset, .unset] [(.int (7 : Int32)), (.ref b101)])) rfl rfl (hb hby at_114) _ ?_
      show Steps p.tables e below (T119.setTop (mkF m 115 #[.val (.int p0), .val (.int p1), .val (.int p2), .val (.int p3), .val (.ref b101), .val (.int (6 : Int32)), .val (.int (1 : Int32)), .unset, .unset, .unset, .unset, .unset, .unset, .unset, .unset, .unset, .unset, .unset, .unset, .unset, .unset, .unset, .unset, .unset, .unset, .unset, .unset] [(.int (0 : Int32))])) _
      refine XS.istore X119.here hx rfl (hb hby at_115) rfl (l' := #[.val (.int p0), .val (.int p1), .val (.int p2), .val (.int p3), .val (.ref b101), .val (.int (6 : Int32)), .val (.int (1 : Int32)), .val (.int (0 : Int32)), .unset, .unset, .unset, .unset, .unset, .unset, .unset, .unset, .unset, .unset, .unset, .unset, .unset, .unset, .unset, .unset, .unset, .unset, .unset]) rfl ?_
      show Steps p.tables e below (T119.setTop (mkF m 117 #[.val (.int p0), .val (.int p1), .val (.int p2), .val (.int p3), .val (.ref b101), .val (.int (6 : Int32)), .val (.int (1 : Int32)), .val (.int (0 : Int32)), .unset, .unset, .unset, .unset, .unset, .unset, .unset, .unset, .unset, .unset, .unset, .unset, .unset, .unset, .unset, .unset, .unset, .unset, .unset] [])) _
      refine XS.aload X119.here hx rfl (hb hby at_117) rfl rfl ?_
      show Steps p.tables e below (T119.setTop (mkF m 119 #[.val (.int p0), .val (.int p1), .val (.int p2), .val (.int p3), .val (.ref b101), .val (.int (6 : Int32)), .val (.int (1 : Int32)), .val (.int (0 : Int32)), .unset, .unset, .unset, .unset, .unset, .unset, .unset, .unset, .unset, .unset, .unset, .unset, .unset, .unset, .unset, .unset, .unset, .unset, .unset] [(.ref b101)])) _
      refine XS.iload X119.here hx rfl (hb hby at_119) rfl ?_
      show Steps p.tables e below (T119.setTop (mkF m 121 #[.val (.int p0), .val (.int p1), .val (.int p2), .val (.int p3), .val (.ref b101), .val (.int (6 : Int32)), .val (.int (1 : Int32)), .val (.int (0 : Int32)), .unset, .unset, .unset, .unset, .unset, .unset, .unset, .unset, .unset, .unset, .unset, .unset, .unset, .unset, .unset, .unset, .unset, .unset, .unset] [(.int (6 : Int32)), (.ref b101)])) _
      refine XS.iconst X119.here hx rfl (hb hby at_121) ?_
      show Steps p.tables e below (T119.setTop (mkF m 122 #[.val (.int p0), .val (.int p1), .val (.int p2), .val (.int p3), .val (.ref b101), .val (.int (6 : Int32)), .val (.int (1 : Int32)), .val (.int (0 : Int32)), .unset, .unset, .unset, .unset, .unset, .unset, .unset, .unset, .unset, .unset, .unset, .unset, .unset, .unset, .unset, .unset, .unset, .unset, .unset] [(.int (2 : Int32)), (.int (6 : Int32)), (.ref b101)])) _
      refine XS.iadd X119.here hx rfl (hb hby at_122) rfl ?_
      show Steps p.tables e below (T119.setTop (mkF m 123 #[.val (.int p0), .val (.int p1), .val (.int p2), .val (.int p3), .val (.ref b101), .val (.int (6 : Int32)), .val (.int (1 : Int32)), .val (.int (0 : Int32)), .unset, .unset, .unset, .unset, .unset, .unset, .unset, .unset, .unset, .unset, .unset, .unset, .unset, .unset, .unset, .unset, .unset, .unset, .unset] [(.int (8 : Int32)), (.ref b101)])) _
      refine X119.iaload hx (j := (8 : Int32)) (v := (.int (2 : Int32))) (own_hc e119 Ar300.1) (State.isArrayOf_alike hZ.alike Ar300.2.1) Ar300.2.2 hin300 hat300 (g := (mkF m 123 #[.val (.int p0), .val (.int p1), .val (.int p2), .val (.int p3), .val (.ref b101), .val (.int (6 : Int32)), .val (.int (1 : Int32)), .val (.int (0 : Int32)), .unset, .unset, .unset, .unset, .unset, .unset, .unset, .unset, .unset, .unset, .unset, .unset, .unset, .unset, .unset, .unset, .unset, .unset, .unset] [(.int (8 : Int32)), (.ref b101)])) rfl rfl (hb hby at_123) _ ?_
      show Steps p.tables e below (T119.setTop (mkF m 124 #[.val (.int p0), .val (.int p1), .val (.int p2), .val (.int p3), .val (.ref b101), .val (.int (6 : Int32)), .val (.int (1 : Int32)), .val (.int (0 : Int32)), .unset, .unset, .unset, .unset, .unset, .unset, .unset, .unset, .unset, .unset, .unset, .unset, .unset, .unset, .unset, .unset, .unset, .unset, .unset] [(.int (2 : Int32))])) _
      refine XS.istore X119.here hx rfl (hb hby at_124) rfl (l' := #[.val (.int p0), .val (.int p1), .val (.int p2), .val (.int p3), .val (.ref b101), .val (.int (6 : Int32)), .val (.int (1 : Int32)), .val (.int (0 : Int32)), .val (.int (2 : Int32)), .unset, .unset, .unset, .unset, .unset, .unset, .unset, .unset, .unset, .unset, .unset, .unset, .unset, .unset, .unset, .unset, .unset, .unset]) rfl ?_
      exact kt
    exact m126 (2 : Fin 6)
  · rw [hk]
    obtain ⟨cl301, Ar301, qa301, Sa301, Na301, Ha301, Ga301⟩ := id V119
    have hin301 : ¬ ((9 : Int32) < 0 ∨ cl301.slots.size ≤ ((9 : Int32)).toNatClampNeg) := inb_of Sa301 ⟨by decide, by decide⟩
    have hat301 := Ha301.at (v := (.int (1 : Int32))) hin301 rfl
    obtain ⟨cl302, Ar302, qa302, Sa302, Na302, Ha302, Ga302⟩ := id V119
    have hin302 : ¬ ((10 : Int32) < 0 ∨ cl302.slots.size ≤ ((10 : Int32)).toNatClampNeg) := inb_of Sa302 ⟨by decide, by decide⟩
    have hat302 := Ha302.at (v := (.int (2 : Int32))) hin302 rfl
    obtain ⟨cl303, Ar303, qa303, Sa303, Na303, Ha303, Ga303⟩ := id V119
    have hin303 : ¬ ((11 : Int32) < 0 ∨ cl303.slots.size ≤ ((11 : Int32)).toNatClampNeg) := inb_of Sa303 ⟨by decide, by decide⟩
    have hat303 := Ha303.at (v := (.int (0 : Int32))) hin303 rfl
    refine Gl.pre (S' := T119.setTop (mkF m 126 #[.val (.int p0), .val (.int p1), .val (.int p2), .val (.int p3), .val (.ref b101), .val (.int (9 : Int32)), .val (.int (1 : Int32)), .val (.int (2 : Int32)), .val (.int (0 : Int32)), .unset, .unset, .unset, .unset, .unset, .unset, .unset, .unset, .unset, .unset, .unset, .unset, .unset, .unset, .unset, .unset, .unset, .unset] [])) (fun t kt => ?_) ?_
    · show Steps p.tables e below (T119.setTop (mkF m 98 #[.val (.int p0), .val (.int p1), .val (.int p2), .val (.int p3), .val (.ref b101), .unset, .unset, .unset, .unset, .unset, .unset, .unset, .unset, .unset, .unset, .unset, .unset, .unset, .unset, .unset, .unset, .unset, .unset, .unset, .unset, .unset, .unset] [(.int (3 : Int32)), (.int (3 : Int32))])) _
      refine XS.imul X119.here hx rfl (hb hby at_98) rfl ?_
      show Steps p.tables e below (T119.setTop (mkF m 99 #[.val (.int p0), .val (.int p1), .val (.int p2), .val (.int p3), .val (.ref b101), .unset, .unset, .unset, .unset, .unset, .unset, .unset, .unset, .unset, .unset, .unset, .unset, .unset, .unset, .unset, .unset, .unset, .unset, .unset, .unset, .unset, .unset] [(.int ((3 : Int32) * (3 : Int32)))])) _
      refine XS.istore X119.here hx rfl (hb hby at_99) rfl (l' := #[.val (.int p0), .val (.int p1), .val (.int p2), .val (.int p3), .val (.ref b101), .val (.int ((3 : Int32) * (3 : Int32))), .unset, .unset, .unset, .unset, .unset, .unset, .unset, .unset, .unset, .unset, .unset, .unset, .unset, .unset, .unset, .unset, .unset, .unset, .unset, .unset, .unset]) rfl ?_
      show Steps p.tables e below (T119.setTop (mkF m 101 #[.val (.int p0), .val (.int p1), .val (.int p2), .val (.int p3), .val (.ref b101), .val (.int (9 : Int32)), .unset, .unset, .unset, .unset, .unset, .unset, .unset, .unset, .unset, .unset, .unset, .unset, .unset, .unset, .unset, .unset, .unset, .unset, .unset, .unset, .unset] [])) _
      refine XS.aload X119.here hx rfl (hb hby at_101) rfl rfl ?_
      show Steps p.tables e below (T119.setTop (mkF m 103 #[.val (.int p0), .val (.int p1), .val (.int p2), .val (.int p3), .val (.ref b101), .val (.int (9 : Int32)), .unset, .unset, .unset, .unset, .unset, .unset, .unset, .unset, .unset, .unset, .unset, .unset, .unset, .unset, .unset, .unset, .unset, .unset, .unset, .unset, .unset] [(.ref b101)])) _
      refine XS.iload X119.here hx rfl (hb hby at_103) rfl ?_
      show Steps p.tables e below (T119.setTop (mkF m 105 #[.val (.int p0), .val (.int p1), .val (.int p2), .val (.int p3), .val (.ref b101), .val (.int (9 : Int32)), .unset, .unset, .unset, .unset, .unset, .unset, .unset, .unset, .unset, .unset, .unset, .unset, .unset, .unset, .unset, .unset, .unset, .unset, .unset, .unset, .unset] [(.int (9 : Int32)), (.ref b101)])) _
      refine X119.iaload hx (j := (9 : Int32)) (v := (.int (1 : Int32))) (own_hc e119 Ar301.1) (State.isArrayOf_alike hZ.alike Ar301.2.1) Ar301.2.2 hin301 hat301 (g := (mkF m 105 #[.val (.int p0), .val (.int p1), .val (.int p2), .val (.int p3), .val (.ref b101), .val (.int (9 : Int32)), .unset, .unset, .unset, .unset, .unset, .unset, .unset, .unset, .unset, .unset, .unset, .unset, .unset, .unset, .unset, .unset, .unset, .unset, .unset, .unset, .unset] [(.int (9 : Int32)), (.ref b101)])) rfl rfl (hb hby at_105) _ ?_
      show Steps p.tables e below (T119.setTop (mkF m 106 #[.val (.int p0), .val (.int p1), .val (.int p2), .val (.int p3), .val (.ref b101), .val (.int (9 : Int32)), .unset, .unset, .unset, .unset, .unset, .unset, .unset, .unset, .unset, .unset, .unset, .unset, .unset, .unset, .unset, .unset, .unset, .unset, .unset, .unset, .unset] [(.int (1 : Int32))])) _
      refine XS.istore X119.here hx rfl (hb hby at_106) rfl (l' := #[.val (.int p0), .val (.int p1), .val (.int p2), .val (.int p3), .val (.ref b101), .val (.int (9 : Int32)), .val (.int (1 : Int32)), .unset, .unset, .unset, .unset, .unset, .unset, .unset, .unset, .unset, .unset, .unset, .unset, .unset, .unset, .unset, .unset, .unset, .unset, .unset, .unset]) rfl ?_
      show Steps p.tables e below (T119.setTop (mkF m 108 #[.val (.int p0), .val (.int p1), .val (.int p2), .val (.int p3), .val (.ref b101), .val (.int (9 : Int32)), .val (.int (1 : Int32)), .unset, .unset, .unset, .unset, .unset, .unset, .unset, .unset, .unset, .unset, .unset, .unset, .unset, .unset, .unset, .unset, .unset, .unset, .unset, .unset] [])) _
      refine XS.aload X119.here hx rfl (hb hby at_108) rfl rfl ?_
      show Steps p.tables e below (T119.setTop (mkF m 110 #[.val (.int p0), .val (.int p1), .val (.int p2), .val (.int p3), .val (.ref b101), .val (.int (9 : Int32)), .val (.int (1 : Int32)), .unset, .unset, .unset, .unset, .unset, .unset, .unset, .unset, .unset, .unset, .unset, .unset, .unset, .unset, .unset, .unset, .unset, .unset, .unset, .unset] [(.ref b101)])) _
      refine XS.iload X119.here hx rfl (hb hby at_110) rfl ?_
      show Steps p.tables e below (T119.setTop (mkF m 112 #[.val (.int p0), .val (.int p1), .val (.int p2), .val (.int p3), .val (.ref b101), .val (.int (9 : Int32)), .val (.int (1 : Int32)), .unset, .unset, .unset, .unset, .unset, .unset, .unset, .unset, .unset, .unset, .unset, .unset, .unset, .unset, .unset, .unset, .unset, .unset, .unset, .unset] [(.int (9 : Int32)), (.ref b101)])) _
      refine XS.iconst X119.here hx rfl (hb hby at_112) ?_
      show Steps p.tables e below (T119.setTop (mkF m 113 #[.val (.int p0), .val (.int p1), .val (.int p2), .val (.int p3), .val (.ref b101), .val (.int (9 : Int32)), .val (.int (1 : Int32)), .unset, .unset, .unset, .unset, .unset, .unset, .unset, .unset, .unset, .unset, .unset, .unset, .unset, .unset, .unset, .unset, .unset, .unset, .unset, .unset] [(.int (1 : Int32)), (.int (9 : Int32)), (.ref b101)])) _
      refine XS.iadd X119.here hx rfl (hb hby at_113) rfl ?_
      show Steps p.tables e below (T119.setTop (mkF m 114 #[.val (.int p0), .val (.int p1), .val (.int p2), .val (.int p3), .val (.ref b101), .val (.int (9 : Int32)), .val (.int (1 : Int32)), .unset, .unset, .unset, .unset, .unset, .unset, .unset, .unset, .unset, .unset, .unset, .unset, .unset, .unset, .unset, .unset, .unset, .unset, .unset, .unset] [(.int (10 : Int32)), (.ref b101)])) _
      refine X119.iaload hx (j := (10 : Int32)) (v := (.int (2 : Int32))) (own_hc e119 Ar302.1) (State.isArrayOf_alike hZ.alike Ar302.2.1) Ar302.2.2 hin302 hat302 (g := (mkF m 114 #[.val (.int p0), .val (.int p1), .val (.int p2), .val (.int p3), .val (.ref b101), .val (.int (9 : Int32)), .val (.int (1 : Int32)), .unset, .unset, .unset, .unset, .unset, .unset, .unset, .unset, .unset, .unset, .unset, .unset, .unset, .unset, .unset, .unset, .unset, .unset, .unset, .unset] [(.int (10 : Int32)), (.ref b101)])) rfl rfl (hb hby at_114) _ ?_
      show Steps p.tables e below (T119.setTop (mkF m 115 #[.val (.int p0), .val (.int p1), .val (.int p2), .val (.int p3), .val (.ref b101), .val (.int (9 : Int32)), .val (.int (1 : Int32)), .unset, .unset, .unset, .unset, .unset, .unset, .unset, .unset, .unset, .unset, .unset, .unset, .unset, .unset, .unset, .unset, .unset, .unset, .unset, .unset] [(.int (2 : Int32))])) _
      refine XS.istore X119.here hx rfl (hb hby at_115) rfl (l' := #[.val (.int p0), .val (.int p1), .val (.int p2), .val (.int p3), .val (.ref b101), .val (.int (9 : Int32)), .val (.int (1 : Int32)), .val (.int (2 : Int32)), .unset, .unset, .unset, .unset, .unset, .unset, .unset, .unset, .unset, .unset, .unset, .unset, .unset, .unset, .unset, .unset, .unset, .unset, .unset]) rfl ?_
      show Steps p.tables e below (T119.setTop (mkF m 117 #[.val (.int p0), .val (.int p1), .val (.int p2), .val (.int p3), .val (.ref b101), .val (.int (9 : Int32)), .val (.int (1 : Int32)), .val (.int (2 : Int32)), .unset, .unset, .unset, .unset, .unset, .unset, .unset, .unset, .unset, .unset, .unset, .unset, .unset, .unset, .unset, .unset, .unset, .unset, .unset] [])) _
      refine XS.aload X119.here hx rfl (hb hby at_117) rfl rfl ?_
      show Steps p.tables e below (T119.setTop (mkF m 119 #[.val (.int p0), .val (.int p1), .val (.int p2), .val (.int p3), .val (.ref b101), .val (.int (9 : Int32)), .val (.int (1 : Int32)), .val (.int (2 : Int32)), .unset, .unset, .unset, .unset, .unset, .unset, .unset, .unset, .unset, .unset, .unset, .unset, .unset, .unset, .unset, .unset, .unset, .unset, .unset] [(.ref b101)])) _
      refine XS.iload X119.here hx rfl (hb hby at_119) rfl ?_
      show Steps p.tables e below (T119.setTop (mkF m 121 #[.val (.int p0), .val (.int p1), .val (.int p2), .val (.int p3), .val (.ref b101), .val (.int (9 : Int32)), .val (.int (1 : Int32)), .val (.int (2 : Int32)), .unset, .unset, .unset, .unset, .unset, .unset, .unset, .unset, .unset, .unset, .unset, .unset, .unset, .unset, .unset, .unset, .unset, .unset, .unset] [(.int (9 : Int32)), (.ref b101)])) _
      refine XS.iconst X119.here hx rfl (hb hby at_121) ?_
      show Steps p.tables e below (T119.setTop (mkF m 122 #[.val (.int p0), .val (.int p1), .val (.int p2), .val (.int p3), .val (.ref b101), .val (.int (9 : Int32)), .val (.int (1 : Int32)), .val (.int (2 : Int32)), .unset, .unset, .unset, .unset, .unset, .unset, .unset, .unset, .unset, .unset, .unset, .unset, .unset, .unset, .unset, .unset, .unset, .unset, .unset] [(.int (2 : Int32)), (.int (9 : Int32)), (.ref b101)])) _
      refine XS.iadd X119.here hx rfl (hb hby at_122) rfl ?_
      show Steps p.tables e below (T119.setTop (mkF m 123 #[.val (.int p0), .val (.int p1), .val (.int p2), .val (.int p3), .val (.ref b101), .val (.int (9 : Int32)), .val (.int (1 : Int32)), .val (.int (2 : Int32)), .unset, .unset, .unset, .unset, .unset, .unset, .unset, .unset, .unset, .unset, .unset, .unset, .unset, .unset, .unset, .unset, .unset, .unset, .unset] [(.int (11 : Int32)), (.ref b101)])) _
      refine X119.iaload hx (j := (11 : Int32)) (v := (.int (0 : Int32))) (own_hc e119 Ar303.1) (State.isArrayOf_alike hZ.alike Ar303.2.1) Ar303.2.2 hin303 hat303 (g := (mkF m 123 #[.val (.int p0), .val (.int p1), .val (.int p2), .val (.int p3), .val (.ref b101), .val (.int (9 : Int32)), .val (.int (1 : Int32)), .val (.int (2 : Int32)), .unset, .unset, .unset, .unset, .unset, .unset, .unset, .unset, .unset, .unset, .unset, .unset, .unset, .unset, .unset, .unset, .unset, .unset, .unset] [(.int (11 : Int32)), (.ref b101)])) rfl rfl (hb hby at_123) _ ?_
      show Steps p.tables e below (T119.setTop (mkF m 124 #[.val (.int p0), .val (.int p1), .val (.int p2), .val (.int p3), .val (.ref b101), .val (.int (9 : Int32)), .val (.int (1 : Int32)), .val (.int (2 : Int32)), .unset, .unset, .unset, .unset, .unset, .unset, .unset, .unset, .unset, .unset, .unset, .unset, .unset, .unset, .unset, .unset, .unset, .unset, .unset] [(.int (0 : Int32))])) _
      refine XS.istore X119.here hx rfl (hb hby at_124) rfl (l' := #[.val (.int p0), .val (.int p1), .val (.int p2), .val (.int p3), .val (.ref b101), .val (.int (9 : Int32)), .val (.int (1 : Int32)), .val (.int (2 : Int32)), .val (.int (0 : Int32)), .unset, .unset, .unset, .unset, .unset, .unset, .unset, .unset, .unset, .unset, .unset, .unset, .unset, .unset, .unset, .unset, .unset, .unset]) rfl ?_
      exact kt
    exact m126 (3 : Fin 6)
  · rw [hk]
    obtain ⟨cl304, Ar304, qa304, Sa304, Na304, Ha304, Ga304⟩ := id V119
    have hin304 : ¬ ((12 : Int32) < 0 ∨ cl304.slots.size ≤ ((12 : Int32)).toNatClampNeg) := inb_of Sa304 ⟨by decide, by decide⟩
    have hat304 := Ha304.at (v := (.int (2 : Int32))) hin304 rfl
    obtain ⟨cl305, Ar305, qa305, Sa305, Na305, Ha305, Ga305⟩ := id V119
    have hin305 : ¬ ((13 : Int32) < 0 ∨ cl305.slots.size ≤ ((13 : Int32)).toNatClampNeg) := inb_of Sa305 ⟨by decide, by decide⟩
    have hat305 := Ha305.at (v := (.int (0 : Int32))) hin305 rfl
    obtain ⟨cl306, Ar306, qa306, Sa306, Na306, Ha306, Ga306⟩ := id V119
    have hin306 : ¬ ((14 : Int32) < 0 ∨ cl306.slots.size ≤ ((14 : Int32)).toNatClampNeg) := inb_of Sa306 ⟨by decide, by decide⟩
    have hat306 := Ha306.at (v := (.int (1 : Int32))) hin306 rfl
    refine Gl.pre (S' := T119.setTop (mkF m 126 #[.val (.int p0), .val (.int p1), .val (.int p2), .val (.int p3), .val (.ref b101), .val (.int (12 : Int32)), .val (.int (2 : Int32)), .val (.int (0 : Int32)), .val (.int (1 : Int32)), .unset, .unset, .unset, .unset, .unset, .unset, .unset, .unset, .unset, .unset, .unset, .unset, .unset, .unset, .unset, .unset, .unset, .unset] [])) (fun t kt => ?_) ?_
    · show Steps p.tables e below (T119.setTop (mkF m 98 #[.val (.int p0), .val (.int p1), .val (.int p2), .val (.int p3), .val (.ref b101), .unset, .unset, .unset, .unset, .unset, .unset, .unset, .unset, .unset, .unset, .unset, .unset, .unset, .unset, .unset, .unset, .unset, .unset, .unset, .unset, .unset, .unset] [(.int (4 : Int32)), (.int (3 : Int32))])) _
      refine XS.imul X119.here hx rfl (hb hby at_98) rfl ?_
      show Steps p.tables e below (T119.setTop (mkF m 99 #[.val (.int p0), .val (.int p1), .val (.int p2), .val (.int p3), .val (.ref b101), .unset, .unset, .unset, .unset, .unset, .unset, .unset, .unset, .unset, .unset, .unset, .unset, .unset, .unset, .unset, .unset, .unset, .unset, .unset, .unset, .unset, .unset] [(.int ((3 : Int32) * (4 : Int32)))])) _
      refine XS.istore X119.here hx rfl (hb hby at_99) rfl (l' := #[.val (.int p0), .val (.int p1), .val (.int p2), .val (.int p3), .val (.ref b101), .val (.int ((3 : Int32) * (4 : Int32))), .unset, .unset, .unset, .unset, .unset, .unset, .unset, .unset, .unset, .unset, .unset, .unset, .unset, .unset, .unset, .unset, .unset, .unset, .unset, .unset, .unset]) rfl ?_
      show Steps p.tables e below (T119.setTop (mkF m 101 #[.val (.int p0), .val (.int p1), .val (.int p2), .val (.int p3), .val (.ref b101), .val (.int (12 : Int32)), .unset, .unset, .unset, .unset, .unset, .unset, .unset, .unset, .unset, .unset, .unset, .unset, .unset, .unset, .unset, .unset, .unset, .unset, .unset, .unset, .unset] [])) _
      refine XS.aload X119.here hx rfl (hb hby at_101) rfl rfl ?_
      show Steps p.tables e below (T119.setTop (mkF m 103 #[.val (.int p0), .val (.int p1), .val (.int p2), .val (.int p3), .val (.ref b101), .val (.int (12 : Int32)), .unset, .unset, .unset, .unset, .unset, .unset, .unset, .unset, .unset, .unset, .unset, .unset, .unset, .unset, .unset, .unset, .unset, .unset, .unset, .unset, .unset] [(.ref b101)])) _
      refine XS.iload X119.here hx rfl (hb hby at_103) rfl ?_
      show Steps p.tables e below (T119.setTop (mkF m 105 #[.val (.int p0), .val (.int p1), .val (.int p2), .val (.int p3), .val (.ref b101), .val (.int (12 : Int32)), .unset, .unset, .unset, .unset, .unset, .unset, .unset, .unset, .unset, .unset, .unset, .unset, .unset, .unset, .unset, .unset, .unset, .unset, .unset, .unset, .unset] [(.int (12 : Int32)), (.ref b101)])) _
      refine X119.iaload hx (j := (12 : Int32)) (v := (.int (2 : Int32))) (own_hc e119 Ar304.1) (State.isArrayOf_alike hZ.alike Ar304.2.1) Ar304.2.2 hin304 hat304 (g := (mkF m 105 #[.val (.int p0), .val (.int p1), .val (.int p2), .val (.int p3), .val (.ref b101), .val (.int (12 : Int32)), .unset, .unset, .unset, .unset, .unset, .unset, .unset, .unset, .unset, .unset, .unset, .unset, .unset, .unset, .unset, .unset, .unset, .unset, .unset, .unset, .unset] [(.int (12 : Int32)), (.ref b101)])) rfl rfl (hb hby at_105) _ ?_
      show Steps p.tables e below (T119.setTop (mkF m 106 #[.val (.int p0), .val (.int p1), .val (.int p2), .val (.int p3), .val (.ref b101), .val (.int (12 : Int32)), .unset, .unset, .unset, .unset, .unset, .unset, .unset, .unset, .unset, .unset, .unset, .unset, .unset, .unset, .unset, .unset, .unset, .unset, .unset, .unset, .unset] [(.int (2 : Int32))])) _
      refine XS.istore X119.here hx rfl (hb hby at_106) rfl (l' := #[.val (.int p0), .val (.int p1), .val (.int p2), .val (.int p3), .val (.ref b101), .val (.int (12 : Int32)), .val (.int (2 : Int32)), .unset, .unset, .unset, .unset, .unset, .unset, .unset, .unset, .unset, .unset, .unset, .unset, .unset, .unset, .unset, .unset, .unset, .unset, .unset, .unset]) rfl ?_
      show Steps p.tables e below (T119.setTop (mkF m 108 #[.val (.int p0), .val (.int p1), .val (.int p2), .val (.int p3), .val (.ref b101), .val (.int (12 : Int32)), .val (.int (2 : Int32)), .unset, .unset, .unset, .unset, .unset, .unset, .unset, .unset, .unset, .unset, .unset, .unset, .unset, .unset, .unset, .unset, .unset, .unset, .unset, .unset] [])) _
      refine XS.aload X119.here hx rfl (hb hby at_108) rfl rfl ?_
      show Steps p.tables e below (T119.setTop (mkF m 110 #[.val (.int p0), .val (.int p1), .val (.int p2), .val (.int p3), .val (.ref b101), .val (.int (12 : Int32)), .val (.int (2 : Int32)), .unset, .unset, .unset, .unset, .unset, .unset, .unset, .unset, .unset, .unset, .unset, .unset, .unset, .unset, .unset, .unset, .unset, .unset, .unset, .unset] [(.ref b101)])) _
      refine XS.iload X119.here hx rfl (hb hby at_110) rfl ?_
      show Steps p.tables e below (T119.setTop (mkF m 112 #[.val (.int p0), .val (.int p1), .val (.int p2), .val (.int p3), .val (.ref b101), .val (.int (12 : Int32)), .val (.int (2 : Int32)), .unset, .unset, .unset, .unset, .unset, .unset, .unset, .unset, .unset, .unset, .unset, .unset, .unset, .unset, .unset, .unset, .unset, .unset, .unset, .unset] [(.int (12 : Int32)), (.ref b101)])) _
      refine XS.iconst X119.here hx rfl (hb hby at_112) ?_
      show Steps p.tables e below (T119.setTop (mkF m 113 #[.val (.int p0), .val (.int p1), .val (.int p2), .val (.int p3), .val (.ref b101), .val (.int (12 : Int32)), .val (.int (2 : Int32)), .unset, .unset, .unset, .unset, .unset, .unset, .unset, .unset, .unset, .unset, .unset, .unset, .unset, .unset, .unset, .unset, .unset, .unset, .unset, .unset] [(.int (1 : Int32)), (.int (12 : Int32)), (.ref b101)])) _
      refine XS.iadd X119.here hx rfl (hb hby at_113) rfl ?_
      show Steps p.tables e below (T119.setTop (mkF m 114 #[.val (.int p0), .val (.int p1), .val (.int p2), .val (.int p3), .val (.ref b101), .val (.int (12 : Int32)), .val (.int (2 : Int32)), .unset, .unset, .unset, .unset, .unset, .unset, .unset, .unset, .unset, .unset, .unset, .unset, .unset, .unset, .unset, .unset, .unset, .unset, .unset, .unset] [(.int (13 : Int32)), (.ref b101)])) _
      refine X119.iaload hx (j := (13 : Int32)) (v := (.int (0 : Int32))) (own_hc e119 Ar305.1) (State.isArrayOf_alike hZ.alike Ar305.2.1) Ar305.2.2 hin305 hat305 (g := (mkF m 114 #[.val (.int p0), .val (.int p1), .val (.int p2), .val (.int p3), .val (.ref b101), .val (.int (12 : Int32)), .val (.int (2 : Int32)), .unset, .unset, .unset, .unset, .unset, .unset, .unset, .unset, .unset, .unset, .unset, .unset, .unset, .unset, .unset, .unset, .unset, .unset, .unset, .unset] [(.int (13 : Int32)), (.ref b101)])) rfl rfl (hb hby at_114) _ ?_
      show Steps p.tables e below (T119.setTop (mkF m 115 #[.val (.int p0), .val (.int p1), .val (.int p2), .val (.int p3), .val (.ref b101), .val (.int (12 : Int32)), .val (.int (2 : Int32)), .unset, .unset, .unset, .unset, .unset, .unset, .unset, .unset, .unset, .unset, .unset, .unset, .unset, .unset, .unset, .unset, .unset, .unset, .unset, .unset] [(.int (0 : Int32))])) _
      refine XS.istore X119.here hx rfl (hb hby at_115) rfl (l' := #[.val (.int p0), .val (.int p1), .val (.int p2), .val (.int p3), .val (.ref b101), .val (.int (12 : Int32)), .val (.int (2 : Int32)), .val (.int (0 : Int32)), .unset, .unset, .unset, .unset, .unset, .unset, .unset, .unset, .unset, .unset, .unset, .unset, .unset, .unset, .unset, .unset, .unset, .unset, .unset]) rfl ?_
      show Steps p.tables e below (T119.setTop (mkF m 117 #[.val (.int p0), .val (.int p1), .val (.int p2), .val (.int p3), .val (.ref b101), .val (.int (12 : Int32)), .val (.int (2 : Int32)), .val (.int (0 : Int32)), .unset, .unset, .unset, .unset, .unset, .unset, .unset, .unset, .unset, .unset, .unset, .unset, .unset, .unset, .unset, .unset, .unset, .unset, .unset] [])) _
      refine XS.aload X119.here hx rfl (hb hby at_117) rfl rfl ?_
      show Steps p.tables e below (T119.setTop (mkF m 119 #[.val (.int p0), .val (.int p1), .val (.int p2), .val (.int p3), .val (.ref b101), .val (.int (12 : Int32)), .val (.int (2 : Int32)), .val (.int (0 : Int32)), .unset, .unset, .unset, .unset, .unset, .unset, .unset, .unset, .unset, .unset, .unset, .unset, .unset, .unset, .unset, .unset, .unset, .unset, .unset] [(.ref b101)])) _
      refine XS.iload X119.here hx rfl (hb hby at_119) rfl ?_
      show Steps p.tables e below (T119.setTop (mkF m 121 #[.val (.int p0), .val (.int p1), .val (.int p2), .val (.int p3), .val (.ref b101), .val (.int (12 : Int32)), .val (.int (2 : Int32)), .val (.int (0 : Int32)), .unset, .unset, .unset, .unset, .unset, .unset, .unset, .unset, .unset, .unset, .unset, .unset, .unset, .unset, .unset, .unset, .unset, .unset, .unset] [(.int (12 : Int32)), (.ref b101)])) _
      refine XS.iconst X119.here hx rfl (hb hby at_121) ?_
      show Steps p.tables e below (T119.setTop (mkF m 122 #[.val (.int p0), .val (.int p1), .val (.int p2), .val (.int p3), .val (.ref b101), .val (.int (12 : Int32)), .val (.int (2 : Int32)), .val (.int (0 : Int32)), .unset, .unset, .unset, .unset, .unset, .unset, .unset, .unset, .unset, .unset, .unset, .unset, .unset, .unset, .unset, .unset, .unset, .unset, .unset] [(.int (2 : Int32)), (.int (12 : Int32)), (.ref b101)])) _
      refine XS.iadd X119.here hx rfl (hb hby at_122) rfl ?_
      show Steps p.tables e below (T119.setTop (mkF m 123 #[.val (.int p0), .val (.int p1), .val (.int p2), .val (.int p3), .val (.ref b101), .val (.int (12 : Int32)), .val (.int (2 : Int32)), .val (.int (0 : Int32)), .unset, .unset, .unset, .unset, .unset, .unset, .unset, .unset, .unset, .unset, .unset, .unset, .unset, .unset, .unset, .unset, .unset, .unset, .unset] [(.int (14 : Int32)), (.ref b101)])) _
      refine X119.iaload hx (j := (14 : Int32)) (v := (.int (1 : Int32))) (own_hc e119 Ar306.1) (State.isArrayOf_alike hZ.alike Ar306.2.1) Ar306.2.2 hin306 hat306 (g := (mkF m 123 #[.val (.int p0), .val (.int p1), .val (.int p2), .val (.int p3), .val (.ref b101), .val (.int (12 : Int32)), .val (.int (2 : Int32)), .val (.int (0 : Int32)), .unset, .unset, .unset, .unset, .unset, .unset, .unset, .unset, .unset, .unset, .unset, .unset, .unset, .unset, .unset, .unset, .unset, .unset, .unset] [(.int (14 : Int32)), (.ref b101)])) rfl rfl (hb hby at_123) _ ?_
      show Steps p.tables e below (T119.setTop (mkF m 124 #[.val (.int p0), .val (.int p1), .val (.int p2), .val (.int p3), .val (.ref b101), .val (.int (12 : Int32)), .val (.int (2 : Int32)), .val (.int (0 : Int32)), .unset, .unset, .unset, .unset, .unset, .unset, .unset, .unset, .unset, .unset, .unset, .unset, .unset, .unset, .unset, .unset, .unset, .unset, .unset] [(.int (1 : Int32))])) _
      refine XS.istore X119.here hx rfl (hb hby at_124) rfl (l' := #[.val (.int p0), .val (.int p1), .val (.int p2), .val (.int p3), .val (.ref b101), .val (.int (12 : Int32)), .val (.int (2 : Int32)), .val (.int (0 : Int32)), .val (.int (1 : Int32)), .unset, .unset, .unset, .unset, .unset, .unset, .unset, .unset, .unset, .unset, .unset, .unset, .unset, .unset, .unset, .unset, .unset, .unset]) rfl ?_
      exact kt
    exact m126 (4 : Fin 6)
  · rw [hk]
    obtain ⟨cl307, Ar307, qa307, Sa307, Na307, Ha307, Ga307⟩ := id V119
    have hin307 : ¬ ((15 : Int32) < 0 ∨ cl307.slots.size ≤ ((15 : Int32)).toNatClampNeg) := inb_of Sa307 ⟨by decide, by decide⟩
    have hat307 := Ha307.at (v := (.int (2 : Int32))) hin307 rfl
    obtain ⟨cl308, Ar308, qa308, Sa308, Na308, Ha308, Ga308⟩ := id V119
    have hin308 : ¬ ((16 : Int32) < 0 ∨ cl308.slots.size ≤ ((16 : Int32)).toNatClampNeg) := inb_of Sa308 ⟨by decide, by decide⟩
    have hat308 := Ha308.at (v := (.int (1 : Int32))) hin308 rfl
    obtain ⟨cl309, Ar309, qa309, Sa309, Na309, Ha309, Ga309⟩ := id V119
    have hin309 : ¬ ((17 : Int32) < 0 ∨ cl309.slots.size ≤ ((17 : Int32)).toNatClampNeg) := inb_of Sa309 ⟨by decide, by decide⟩
    have hat309 := Ha309.at (v := (.int (0 : Int32))) hin309 rfl
    refine Gl.pre (S' := T119.setTop (mkF m 126 #[.val (.int p0), .val (.int p1), .val (.int p2), .val (.int p3), .val (.ref b101), .val (.int (15 : Int32)), .val (.int (2 : Int32)), .val (.int (1 : Int32)), .val (.int (0 : Int32)), .unset, .unset, .unset, .unset, .unset, .unset, .unset, .unset, .unset, .unset, .unset, .unset, .unset, .unset, .unset, .unset, .unset, .unset] [])) (fun t kt => ?_) ?_
    · show Steps p.tables e below (T119.setTop (mkF m 98 #[.val (.int p0), .val (.int p1), .val (.int p2), .val (.int p3), .val (.ref b101), .unset, .unset, .unset, .unset, .unset, .unset, .unset, .unset, .unset, .unset, .unset, .unset, .unset, .unset, .unset, .unset, .unset, .unset, .unset, .unset, .unset, .unset] [(.int (5 : Int32)), (.int (3 : Int32))])) _
      refine XS.imul X119.here hx rfl (hb hby at_98) rfl ?_
      show Steps p.tables e below (T119.setTop (mkF m 99 #[.val (.int p0), .val (.int p1), .val (.int p2), .val (.int p3), .val (.ref b101), .unset, .unset, .unset, .unset, .unset, .unset, .unset, .unset, .unset, .unset, .unset, .unset, .unset, .unset, .unset, .unset, .unset, .unset, .unset, .unset, .unset, .unset] [(.int ((3 : Int32) * (5 : Int32)))])) _
      refine XS.istore X119.here hx rfl (hb hby at_99) rfl (l' := #[.val (.int p0), .val (.int p1), .val (.int p2), .val (.int p3), .val (.ref b101), .val (.int ((3 : Int32) * (5 : Int32))), .unset, .unset, .unset, .unset, .unset, .unset, .unset, .unset, .unset, .unset, .unset, .unset, .unset, .unset, .unset, .unset, .unset, .unset, .unset, .unset, .unset]) rfl ?_
      show Steps p.tables e below (T119.setTop (mkF m 101 #[.val (.int p0), .val (.int p1), .val (.int p2), .val (.int p3), .val (.ref b101), .val (.int (15 : Int32)), .unset, .unset, .unset, .unset, .unset, .unset, .unset, .unset, .unset, .unset, .unset, .unset, .unset, .unset, .unset, .unset, .unset, .unset, .unset, .unset, .unset] [])) _
      refine XS.aload X119.here hx rfl (hb hby at_101) rfl rfl ?_
      show Steps p.tables e below (T119.setTop (mkF m 103 #[.val (.int p0), .val (.int p1), .val (.int p2), .val (.int p3), .val (.ref b101), .val (.int (15 : Int32)), .unset, .unset, .unset, .unset, .unset, .unset, .unset, .unset, .unset, .unset, .unset, .unset, .unset, .unset, .unset, .unset, .unset, .unset, .unset, .unset, .unset] [(.ref b101)])) _
      refine XS.iload X119.here hx rfl (hb hby at_103) rfl ?_
      show Steps p.tables e below (T119.setTop (mkF m 105 #[.val (.int p0), .val (.int p1), .val (.int p2), .val (.int p3), .val (.ref b101), .val (.int (15 : Int32)), .unset, .unset, .unset, .unset, .unset, .unset, .unset, .unset, .unset, .unset, .unset, .unset, .unset, .unset, .unset, .unset, .unset, .unset, .unset, .unset, .unset] [(.int (15 : Int32)), (.ref b101)])) _
      refine X119.iaload hx (j := (15 : Int32)) (v := (.int (2 : Int32))) (own_hc e119 Ar307.1) (State.isArrayOf_alike hZ.alike Ar307.2.1) Ar307.2.2 hin307 hat307 (g := (mkF m 105 #[.val (.int p0), .val (.int p1), .val (.int p2), .val (.int p3), .val (.ref b101), .val (.int (15 : Int32)), .unset, .unset, .unset, .unset, .unset, .unset, .unset, .unset, .unset, .unset, .unset, .unset, .unset, .unset, .unset, .unset, .unset, .unset, .unset, .unset, .unset] [(.int (15 : Int32)), (.ref b101)])) rfl rfl (hb hby at_105) _ ?_
      show Steps p.tables e below (T119.setTop (mkF m 106 #[.val (.int p0), .val (.int p1), .val (.int p2), .val (.int p3), .val (.ref b101), .val (.int (15 : Int32)), .unset, .unset, .unset, .unset, .unset, .unset, .unset, .unset, .unset, .unset, .unset, .unset, .unset, .unset, .unset, .unset, .unset, .unset, .unset, .unset, .unset] [(.int (2 : Int32))])) _
      refine XS.istore X119.here hx rfl (hb hby at_106) rfl (l' := #[.val (.int p0), .val (.int p1), .val (.int p2), .val (.int p3), .val (.ref b101), .val (.int (15 : Int32)), .val (.int (2 : Int32)), .unset, .unset, .unset, .unset, .unset, .unset, .unset, .unset, .unset, .unset, .unset, .unset, .unset, .unset, .unset, .unset, .unset, .unset, .unset, .unset]) rfl ?_
      show Steps p.tables e below (T119.setTop (mkF m 108 #[.val (.int p0), .val (.int p1), .val (.int p2), .val (.int p3), .val (.ref b101), .val (.int (15 : Int32)), .val (.int (2 : Int32)), .unset, .unset, .unset, .unset, .unset, .unset, .unset, .unset, .unset, .unset, .unset, .unset, .unset, .unset, .unset, .unset, .unset, .unset, .unset, .unset] [])) _
      refine XS.aload X119.here hx rfl (hb hby at_108) rfl rfl ?_
      show Steps p.tables e below (T119.setTop (mkF m 110 #[.val (.int p0), .val (.int p1), .val (.int p2), .val (.int p3), .val (.ref b101), .val (.int (15 : Int32)), .val (.int (2 : Int32)), .unset, .unset, .unset, .unset, .unset, .unset, .unset, .unset, .unset, .unset, .unset, .unset, .unset, .unset, .unset, .unset, .unset, .unset, .unset, .unset] [(.ref b101)])) _
      refine XS.iload X119.here hx rfl (hb hby at_110) rfl ?_
      show Steps p.tables e below (T119.setTop (mkF m 112 #[.val (.int p0), .val (.int p1), .val (.int p2), .val (.int p3), .val (.ref b101), .val (.int (15 : Int32)), .val (.int (2 : Int32)), .unset, .unset, .unset, .unset, .unset, .unset, .unset, .unset, .unset, .unset, .unset, .unset, .unset, .unset, .unset, .unset, .unset, .unset, .unset, .unset] [(.int (15 : Int32)), (.ref b101)])) _
      refine XS.iconst X119.here hx rfl (hb hby at_112) ?_
      show Steps p.tables e below (T119.setTop (mkF m 113 #[.val (.int p0), .val (.int p1), .val (.int p2), .val (.int p3), .val (.ref b101), .val (.int (15 : Int32)), .val (.int (2 : Int32)), .unset, .unset, .unset, .unset, .unset, .unset, .unset, .unset, .unset, .unset, .unset, .unset, .unset, .unset, .unset, .unset, .unset, .unset, .unset, .unset] [(.int (1 : Int32)), (.int (15 : Int32)), (.ref b101)])) _
      refine XS.iadd X119.here hx rfl (hb hby at_113) rfl ?_
      show Steps p.tables e below (T119.setTop (mkF m 114 #[.val (.int p0), .val (.int p1), .val (.int p2), .val (.int p3), .val (.ref b101), .val (.int (15 : Int32)), .val (.int (2 : Int32)), .unset, .unset, .unset, .unset, .unset, .unset, .unset, .unset, .unset, .unset, .unset, .unset, .unset, .unset, .unset, .unset, .unset, .unset, .unset, .unset] [(.int (16 : Int32)), (.ref b101)])) _
      refine X119.iaload hx (j := (16 : Int32)) (v := (.int (1 : Int32))) (own_hc e119 Ar308.1) (State.isArrayOf_alike hZ.alike Ar308.2.1) Ar308.2.2 hin308 hat308 (g := (mkF m 114 #[.val (.int p0), .val (.int p1), .val (.int p2), .val (.int p3), .val (.ref b101), .val (.int (15 : Int32)), .val (.int (2 : Int32)), .unset, .unset, .unset, .unset, .unset, .unset, .unset, .unset, .unset, .unset, .unset, .unset, .unset, .unset, .unset, .unset, .unset, .unset, .unset, .unset] [(.int (16 : Int32)), (.ref b101)])) rfl rfl (hb hby at_114) _ ?_
      show Steps p.tables e below (T119.setTop (mkF m 115 #[.val (.int p0), .val (.int p1), .val (.int p2), .val (.int p3), .val (.ref b101), .val (.int (15 : Int32)), .val (.int (2 : Int32)), .unset, .unset, .unset, .unset, .unset, .unset, .unset, .unset, .unset, .unset, .unset, .unset, .unset, .unset, .unset, .unset, .unset, .unset, .unset, .unset] [(.int (1 : Int32))])) _
      refine XS.istore X119.here hx rfl (hb hby at_115) rfl (l' := #[.val (.int p0), .val (.int p1), .val (.int p2), .val (.int p3), .val (.ref b101), .val (.int (15 : Int32)), .val (.int (2 : Int32)), .val (.int (1 : Int32)), .unset, .unset, .unset, .unset, .unset, .unset, .unset, .unset, .unset, .unset, .unset, .unset, .unset, .unset, .unset, .unset, .unset, .unset, .unset]) rfl ?_
      show Steps p.tables e below (T119.setTop (mkF m 117 #[.val (.int p0), .val (.int p1), .val (.int p2), .val (.int p3), .val (.ref b101), .val (.int (15 : Int32)), .val (.int (2 : Int32)), .val (.int (1 : Int32)), .unset, .unset, .unset, .unset, .unset, .unset, .unset, .unset, .unset, .unset, .unset, .unset, .unset, .unset, .unset, .unset, .unset, .unset, .unset] [])) _
      refine XS.aload X119.here hx rfl (hb hby at_117) rfl rfl ?_
      show Steps p.tables e below (T119.setTop (mkF m 119 #[.val (.int p0), .val (.int p1), .val (.int p2), .val (.int p3), .val (.ref b101), .val (.int (15 : Int32)), .val (.int (2 : Int32)), .val (.int (1 : Int32)), .unset, .unset, .unset, .unset, .unset, .unset, .unset, .unset, .unset, .unset, .unset, .unset, .unset, .unset, .unset, .unset, .unset, .unset, .unset] [(.ref b101)])) _
      refine XS.iload X119.here hx rfl (hb hby at_119) rfl ?_
      show Steps p.tables e below (T119.setTop (mkF m 121 #[.val (.int p0), .val (.int p1), .val (.int p2), .val (.int p3), .val (.ref b101), .val (.int (15 : Int32)), .val (.int (2 : Int32)), .val (.int (1 : Int32)), .unset, .unset, .unset, .unset, .unset, .unset, .unset, .unset, .unset, .unset, .unset, .unset, .unset, .unset, .unset, .unset, .unset, .unset, .unset] [(.int (15 : Int32)), (.ref b101)])) _
      refine XS.iconst X119.here hx rfl (hb hby at_121) ?_
      show Steps p.tables e below (T119.setTop (mkF m 122 #[.val (.int p0), .val (.int p1), .val (.int p2), .val (.int p3), .val (.ref b101), .val (.int (15 : Int32)), .val (.int (2 : Int32)), .val (.int (1 : Int32)), .unset, .unset, .unset, .unset, .unset, .unset, .unset, .unset, .unset, .unset, .unset, .unset, .unset, .unset, .unset, .unset, .unset, .unset, .unset] [(.int (2 : Int32)), (.int (15 : Int32)), (.ref b101)])) _
      refine XS.iadd X119.here hx rfl (hb hby at_122) rfl ?_
      show Steps p.tables e below (T119.setTop (mkF m 123 #[.val (.int p0), .val (.int p1), .val (.int p2), .val (.int p3), .val (.ref b101), .val (.int (15 : Int32)), .val (.int (2 : Int32)), .val (.int (1 : Int32)), .unset, .unset, .unset, .unset, .unset, .unset, .unset, .unset, .unset, .unset, .unset, .unset, .unset, .unset, .unset, .unset, .unset, .unset, .unset] [(.int (17 : Int32)), (.ref b101)])) _
      refine X119.iaload hx (j := (17 : Int32)) (v := (.int (0 : Int32))) (own_hc e119 Ar309.1) (State.isArrayOf_alike hZ.alike Ar309.2.1) Ar309.2.2 hin309 hat309 (g := (mkF m 123 #[.val (.int p0), .val (.int p1), .val (.int p2), .val (.int p3), .val (.ref b101), .val (.int (15 : Int32)), .val (.int (2 : Int32)), .val (.int (1 : Int32)), .unset, .unset, .unset, .unset, .unset, .unset, .unset, .unset, .unset, .unset, .unset, .unset, .unset, .unset, .unset, .unset, .unset, .unset, .unset] [(.int (17 : Int32)), (.ref b101)])) rfl rfl (hb hby at_123) _ ?_
      show Steps p.tables e below (T119.setTop (mkF m 124 #[.val (.int p0), .val (.int p1), .val (.int p2), .val (.int p3), .val (.ref b101), .val (.int (15 : Int32)), .val (.int (2 : Int32)), .val (.int (1 : Int32)), .unset, .unset, .unset, .unset, .unset, .unset, .unset, .unset, .unset, .unset, .unset, .unset, .unset, .unset, .unset, .unset, .unset, .unset, .unset] [(.int (0 : Int32))])) _
      refine XS.istore X119.here hx rfl (hb hby at_124) rfl (l' := #[.val (.int p0), .val (.int p1), .val (.int p2), .val (.int p3), .val (.ref b101), .val (.int (15 : Int32)), .val (.int (2 : Int32)), .val (.int (1 : Int32)), .val (.int (0 : Int32)), .unset, .unset, .unset, .unset, .unset, .unset, .unset, .unset, .unset, .unset, .unset, .unset, .unset, .unset, .unset, .unset, .unset, .unset]) rfl ?_
      exact kt
    exact m126 (5 : Fin 6)
set_option maxRecDepth 65536 in
set_option maxHeartbeats 40000000 in
theorem comes_1 {Post : Tables → Env → Array Value → State → Outcome → State → Prop} (hpost : ∀ tb e args s v u, (limb_1_1.after args s (.returned v) u = true ∧ limb_1_2.after args s (.returned v) u = true ∧ True) → FrameEnd s (.returned v) u (Jvm.fieldLocs frame_1_writes args s ++ Jvm.arrayLocs frame_1_arrays args s ++ Jvm.staticLocs frame_1_statics s) 24 192 → Post tb e args s (.returned v) u) :
    ArmFor flags0 classFile x code maxLocals ret World_1 tables_1 room_1 Calls_1 rest_1 Pre_1 Post := by
  intro l hfl _ _ p e ha hc hk s m args below hf hA hF happ hP
  obtain ⟨hcalls, hrest, hpre⟩ := hP
  obtain ⟨-, -, -, hnamed, -, -, -, hat⟩ := (Spec.applies_iff hf).mp happ
  obtain ⟨hg, hn⟩ := and_e (Cond.before_iff.mp (show (Jvm.Cond.and given_1 narrow_1).before args s = true from hpre))
  obtain ⟨hq0, hr0⟩ := and_e hg
  obtain ⟨hq1, hr1⟩ := and_e hr0
  obtain ⟨hq2, hr2⟩ := and_e hr1
  obtain ⟨hq3, hr3⟩ := and_e hr2
  obtain ⟨w0, w1, w2, w3, rfl⟩ : ∃ w0 w1 w2 w3 : Value, args = #[w0, w1, w2, w3] := by
    have hs : args.size = 4 := by simpa [Cond.value, given_1] using hq0
    obtain ⟨L⟩ := args
    match L, hs with
    | [w0, w1, w2, w3], _ => exact ⟨w0, w1, w2, w3, rfl⟩
  have hw := fun d (hd : d ∈ tables_1) => atoms_spec (ws := Jvm.Cond.code x code maxLocals ret :: tables_1) hat d (List.mem_cons_of_mem _ hd)
  have hfit : Fit s := fun {y c} hc i hi => by
    obtain ⟨ha, rfl⟩ := Array.getElem?_eq_some_iff.mp hc
    have q := List.all_eq_true.mp ((Array.all_eq_true_iff_forall_mem.mp hF) _ (Array.getElem_mem ha)) i (List.mem_range.mpr hi)
    simpa [Array.getElem?_eq_getElem hi] using q
  obtain ⟨i0, ei0⟩ := is_v hq1
  obtain rfl : w0 = (.int i0) := Option.some.inj ei0
  obtain ⟨i1, ei1⟩ := is_v hq2
  obtain rfl : w1 = (.int i1) := Option.some.inj ei1
  obtain ⟨i2, ei2⟩ := is_v hq3
  obtain rfl : w2 = (.int i2) := Option.some.inj ei2
  obtain ⟨i3, ei3⟩ := is_v hr3
  obtain rfl : w3 = (.int i3) := Option.some.inj ei3
  obtain ⟨n, o, h1, h2, h3, _, L, rfl, ⟨rfl, N⟩, hq⟩ := rm0 l s _ hw tables_1 i0 i1 i2 i3 s.heap s.heap.size (Nat.le_refl _) p e ha hc hk s m _ below hf ((Spec.applies_iff_loose hf).mp happ).1 ⟨rfl, State.Warmed39.refl s, rfl⟩ trivial
  refine ⟨n, _, h1, h2, h3, hpost _ _ _ _ _ _ ⟨Cond.after_iff.mpr rfl, Cond.after_iff.mpr (eq_i res_at (Term.int_eval (1)) rfl), trivial⟩ ⟨hq.1, hq.2.1, (hq.2.2.sift fun y hy => Or.inr (N y hy)).mono (by decide) (by decide)⟩⟩
theorem main_1_1 : Claimed_1_1 := comes_1 fun _ _ _ _ _ _ h hF => ⟨h.1, hF⟩
theorem main_1_2 : Claimed_1_2 := comes_1 fun _ _ _ _ _ _ h hF => ⟨h.2.1, hF⟩
end Jvm.Pilot.@@N@@
namespace Jvm.Pilot.@@N@@
open Jvm Jvm.ClassFile Sem Op Lib Jvm.Free Jvm.Stand Jvm.Pilot.@@N@@.Jvm.D
/-! MADE BY PROGRAM (witnessworld.py) out of the Statement's table words and the real class files: 12 classes; the members and pool entries that the words name. The judged class is class 1, her method 3. -/
namespace start1
open Jvm.ClassFile
def u (s : String) : CpInfo := .utf8 (stringToUtf16 s)
/-- a pool by its gaps: so many unusable entries, then the entry; so many at the end -/
def gap : Nat → List CpInfo → List CpInfo
  | 0, r => r
  | n + 1, r => .unusable :: gap n r
def poolList (es : List (Nat × CpInfo)) (last : Nat) : List CpInfo := es.foldr (fun e r => gap e.1 (e.2 :: r)) (gap last [])
def pool (es : List (Nat × CpInfo)) (last : Nat) : Array CpInfo := ⟨poolList es last⟩
def fileOf (pool : Array CpInfo) (this : Nat) (attrs : Array Attribute := #[]) (ms : Array MethodInfo := #[]) (fl : Nat := 33) (sup : Nat := 0) (ifs : Array Nat := #[]) (fds : Array FieldInfo := #[]) : ClassFile where
  minorVersion := 0
  majorVersion := 65
  constantPool := pool
  accessFlags := fl
  thisClass := this
  superClass := sup
  interfaces := ifs
  fields := fds
  methods := ms
  attributes := attrs
def plain (name : String) (sup : Option ClassId) : Class where
  name := name
  kind := .ordinary
  loader := none
  accessFlags := 33
  super := sup
  interfaces := #[]
  cf := none
  fields := #[]
  methods := #[]
  instanceTypes := #[]
  staticTypes := #[]
  resolved := #[]
  callSites := []
  init := .initialized
  statics := none
  mirror := none

def pool0 : Array CpInfo := pool [(5, u "<init>"), (0, u "()V"), (1, .class_ 10), (1, u "java/lang/Object")] 113

def k0c0 : Code := { maxStack := 0, maxLocals := 1, code := object_method_1_code, exceptionTable := #[], attributes := #[] }
def k0m0 : Method := { name := "<init>", desc := "()V", sig := { parameters := [], returnType := none }, accessFlags := 1, code := some k0c0 }
/-- java/lang/Object -/
def k0 : Class := { plain "java/lang/Object" none with
  accessFlags := 33
  interfaces := #[]
  cf := some (fileOf pool0 8 #[] #[{ accessFlags := 1, nameIndex := 5, descriptorIndex := 6, attributes := #[] }] 33 0 #[] #[])
  fields := #[]
  methods := #[k0m0]
  instanceTypes := #[]
  staticTypes := #[]
  resolved := Array.replicate 124 none
  statics := none }

def pool1 : Array CpInfo := pool [(2, .class_ 4), (1, u "java/lang/Object"), (0, u "<init>"), (0, u "()V"), (0, .methodref 8 9), (0, .class_ 10), (0, .nameAndType 11 12), (0, u "com/example/tenrec/tenrec/pool/IdleByLastCompletionRemovePinLaw"), (0, u "comes"), (0, u "([Z[III)Z"), (0, .integer 2147483647), (0, .methodref 8 15), (0, .nameAndType 16 17), (0, u "rank"), (0, u "([Z[II)I"), (0, .class_ 19), (0, u "com/example/tenrec/tenrec/pool/IdleByLastCompletion"), (0, .methodref 18 21), (0, .nameAndType 5 22), (0, u "(I)V"), (0, .methodref 18 24), (0, .nameAndType 25 26), (0, u "completed"), (0, u "(ID)V"), (0, .methodref 18 28), (0, .nameAndType 29 22), (0, u "add"), (0, .methodref 18 31), (0, .nameAndType 32 22), (0, u "remove"), (0, .methodref 18 34), (0, .nameAndType 35 36), (0, u "first"), (0, u "()I"), (3, u "law"), (0, u "(IIII)Z")] 6

def k1m0 : Method := { name := "<init>", desc := "()V", sig := { parameters := [], returnType := none }, accessFlags := 1, code := none }
def k1c1 : Code := { maxStack := 3, maxLocals := 4, code := method_2_code, exceptionTable := #[], attributes := #[] }
def k1m1 : Method := { name := "comes", desc := "([Z[III)Z", sig := { parameters := [(.array .boolean), (.array .int), .int, .int], returnType := some .boolean }, accessFlags := 10, code := some k1c1 }
def k1c2 : Code := { maxStack := 4, maxLocals := 4, code := method_3_code, exceptionTable := #[], attributes := #[] }
def k1m2 : Method := { name := "rank", desc := "([Z[II)I", sig := { parameters := [(.array .boolean), (.array .int), .int], returnType := some .int }, accessFlags := 10, code := some k1c2 }
def k1c3 : Code := { maxStack := 4, maxLocals := 27, code := code, exceptionTable := #[], attributes := #[] }
def k1m3 : Method := { name := "law", desc := "(IIII)Z", sig := { parameters := [.int, .int, .int, .int], returnType := some .boolean }, accessFlags := 9, code := some k1c3 }
/-- com/example/tenrec/tenrec/pool/IdleByLastCompletionRemovePinLaw -/
def k1 : Class := { plain "com/example/tenrec/tenrec/pool/IdleByLastCompletionRemovePinLaw" (some 0) with
  accessFlags := 49
  interfaces := #[]
  cf := some (fileOf pool1 8 #[] #[{ accessFlags := 1, nameIndex := 5, descriptorIndex := 6, attributes := #[] }, { accessFlags := 10, nameIndex := 11, descriptorIndex := 12, attributes := #[] }, { accessFlags := 10, nameIndex := 16, descriptorIndex := 17, attributes := #[] }, { accessFlags := 9, nameIndex := 40, descriptorIndex := 41, attributes := #[] }] 49 2 #[] #[])
  fields := #[]
  methods := #[k1m0, k1m1, k1m2, k1m3]
  instanceTypes := #[]
  staticTypes := #[]
  resolved := Array.replicate 48 none
  statics := none }

def pool2 : Array CpInfo := pool [(1, .methodref 2 3), (0, .class_ 4), (0, .nameAndType 5 6), (0, u "java/lang/Object"), (0, u "<init>"), (0, u "()V"), (0, .class_ 8), (0, u "com/example/tenrec/tenrec/pool/IdleByLastCompletion"), (0, .fieldref 7 10), (0, .nameAndType 11 12), (0, u "first"), (0, u "I"), (0, .fieldref 7 14), (0, .nameAndType 15 12), (0, u "last"), (0, .fieldref 7 17), (0, .nameAndType 18 19), (0, u "lastCompletion"), (0, u "[D"), (2, .double 18442240474082181120), (1, .methodref 25 26), (0, .class_ 27), (0, .nameAndType 28 29), (0, u "java/util/Arrays"), (0, u "fill"), (0, u "([DD)V"), (0, .fieldref 7 31), (0, .nameAndType 32 33), (0, u "before"), (0, u "[I"), (0, .fieldref 7 35), (0, .nameAndType 36 33), (0, u "after"), (0, .methodref 7 38), (0, .nameAndType 39 40), (0, u "link"), (0, u "(III)V"), (0, .methodref 7 42), (0, .nameAndType 43 44), (0, u "comesBefore"), (0, u "(II)Z"), (0, u "NONE"), (2, u "(I)V"), (2, u "completed"), (0, u "(ID)V"), (0, u "add"), (1, u "remove"), (0, u "()I")] 2

def k2c0 : Code := { maxStack := 3, maxLocals := 2, code := prog_31_method_1_code, exceptionTable := #[], attributes := #[] }
def k2m0 : Method := { name := "<init>", desc := "(I)V", sig := { parameters := [.int], returnType := none }, accessFlags := 0, code := some k2c0 }
def k2c1 : Code := { maxStack := 4, maxLocals := 4, code := prog_31_method_2_code, exceptionTable := #[], attributes := #[] }
def k2m1 : Method := { name := "completed", desc := "(ID)V", sig := { parameters := [.int, .double], returnType := none }, accessFlags := 0, code := some k2c1 }
def k2c2 : Code := { maxStack := 5, maxLocals := 3, code := prog_31_method_3_code, exceptionTable := #[], attributes := #[] }
def k2m2 : Method := { name := "add", desc := "(I)V", sig := { parameters := [.int], returnType := none }, accessFlags := 0, code := some k2c2 }
def k2c3 : Code := { maxStack := 4, maxLocals := 2, code := prog_31_method_4_code, exceptionTable := #[], attributes := #[] }
def k2m3 : Method := { name := "remove", desc := "(I)V", sig := { parameters := [.int], returnType := none }, accessFlags := 0, code := some k2c3 }
def k2c4 : Code := { maxStack := 1, maxLocals := 1, code := prog_31_method_5_code, exceptionTable := #[], attributes := #[] }
def k2m4 : Method := { name := "first", desc := "()I", sig := { parameters := [], returnType := some .int }, accessFlags := 0, code := some k2c4 }
def k2c5 : Code := { maxStack := 4, maxLocals := 3, code := prog_31_method_6_code, exceptionTable := #[], attributes := #[] }
def k2m5 : Method := { name := "comesBefore", desc := "(II)Z", sig := { parameters := [.int, .int], returnType := some .boolean }, accessFlags := 2, code := some k2c5 }
def k2c6 : Code := { maxStack := 3, maxLocals := 4, code := prog_31_method_7_code, exceptionTable := #[], attributes := #[] }
def k2m6 : Method := { name := "link", desc := "(III)V", sig := { parameters := [.int, .int, .int], returnType := none }, accessFlags := 2, code := some k2c6 }
/-- com/example/tenrec/tenrec/pool/IdleByLastCompletion -/
def k2 : Class := { plain "com/example/tenrec/tenrec/pool/IdleByLastCompletion" (some 0) with
  accessFlags := 48
  interfaces := #[]
  cf := some (fileOf pool2 7 #[] #[{ accessFlags := 0, nameIndex := 5, descriptorIndex := 48, attributes := #[] }, { accessFlags := 0, nameIndex := 51, descriptorIndex := 52, attributes := #[] }, { accessFlags := 0, nameIndex := 53, descriptorIndex := 48, attributes := #[] }, { accessFlags := 0, nameIndex := 55, descriptorIndex := 48, attributes := #[] }, { accessFlags := 0, nameIndex := 11, descriptorIndex := 56, attributes := #[] }, { accessFlags := 2, nameIndex := 43, descriptorIndex := 44, attributes := #[] }, { accessFlags := 2, nameIndex := 39, descriptorIndex := 40, attributes := #[] }] 48 2 #[] #[{ accessFlags := 26, nameIndex := 45, descriptorIndex := 12, attributes := #[] }, { accessFlags := 18, nameIndex := 18, descriptorIndex := 19, attributes := #[] }, { accessFlags := 18, nameIndex := 32, descriptorIndex := 33, attributes := #[] }, { accessFlags := 18, nameIndex := 36, descriptorIndex := 33, attributes := #[] }, { accessFlags := 2, nameIndex := 11, descriptorIndex := 12, attributes := #[] }, { accessFlags := 2, nameIndex := 15, descriptorIndex := 12, attributes := #[] }])
  fields := #[{ name := "NONE", type := .int, accessFlags := 26, slot := 0, constantValue := 0 }, { name := "lastCompletion", type := (.array .double), accessFlags := 18, slot := 0, constantValue := 0 }, { name := "before", type := (.array .int), accessFlags := 18, slot := 1, constantValue := 0 }, { name := "after", type := (.array .int), accessFlags := 18, slot := 2, constantValue := 0 }, { name := "first", type := .int, accessFlags := 2, slot := 3, constantValue := 0 }, { name := "last", type := .int, accessFlags := 2, slot := 4, constantValue := 0 }]
  methods := #[k2m0, k2m1, k2m2, k2m3, k2m4, k2m5, k2m6]
  instanceTypes := #[(.array .double), (.array .int), (.array .int), .int, .int]
  staticTypes := #[.int]
  resolved := Array.replicate 59 none
  statics := none }

def pool3 : Array CpInfo := pool [(2, .class_ 4), (1, u "java/lang/Object"), (0, u "<init>"), (0, u "()V"), (7, .class_ 16), (1, u "java/util/Arrays"), (57, .class_ 76), (1, u "java/util/Arrays$NaturalOrder"), (36, .class_ 115), (1, u "java/util/Arrays$LegacyMergeSort"), (1, u "Z"), (257, .class_ 376), (0, u "java/util/Arrays$ArrayList"), (68, u "$assertionsDisabled"), (269, u "MIN_ARRAY_SORT_GRAN"), (0, u "I"), (2, u "INSERTIONSORT_THRESHOLD"), (120, u "fill"), (13, u "([DD)V"), (120, .class_ 976), (0, u "java/util/Arrays$ArrayItr")] 52

def k3m0 : Method := { name := "<init>", desc := "()V", sig := { parameters := [], returnType := none }, accessFlags := 2, code := none }
def k3c1 : Code := { maxStack := 4, maxLocals := 5, code := jdk_65_method_113_code, exceptionTable := #[], attributes := #[] }
def k3m1 : Method := { name := "fill", desc := "([DD)V", sig := { parameters := [(.array .double), .double], returnType := none }, accessFlags := 9, code := some k3c1 }
/-- java/util/Arrays -/
def k3 : Class := { plain "java/util/Arrays" (some 0) with
  accessFlags := 49
  interfaces := #[]
  cf := some (fileOf pool3 14 #[.nestMembers #[975, 375, 113, 74]] #[{ accessFlags := 2, nameIndex := 5, descriptorIndex := 6, attributes := #[] }, { accessFlags := 9, nameIndex := 840, descriptorIndex := 854, attributes := #[] }] 49 2 #[] #[{ accessFlags := 26, nameIndex := 715, descriptorIndex := 716, attributes := #[] }, { accessFlags := 26, nameIndex := 719, descriptorIndex := 716, attributes := #[] }, { accessFlags := 4120, nameIndex := 445, descriptorIndex := 117, attributes := #[] }])
  fields := #[{ name := "MIN_ARRAY_SORT_GRAN", type := .int, accessFlags := 26, slot := 0, constantValue := 0 }, { name := "INSERTIONSORT_THRESHOLD", type := .int, accessFlags := 26, slot := 1, constantValue := 0 }, { name := "$assertionsDisabled", type := .boolean, accessFlags := 4120, slot := 2, constantValue := 0 }]
  methods := #[k3m0, k3m1]
  instanceTypes := #[]
  staticTypes := #[.int, .int, .boolean]
  resolved := Array.replicate 1029 none
  statics := none }

def pool4 : Array CpInfo := pool [(1, u "java/lang/Cloneable"), (0, .class_ 1), (0, u "java/lang/Object"), (0, .class_ 3)] 3

/-- java/lang/Cloneable -/
def k4 : Class := { plain "java/lang/Cloneable" (some 0) with
  accessFlags := 1537
  interfaces := #[]
  cf := some (fileOf pool4 2 #[] #[] 1537 4 #[] #[])
  fields := #[]
  methods := #[]
  instanceTypes := #[]
  staticTypes := #[]
  resolved := Array.replicate 8 none
  statics := none }

def pool5 : Array CpInfo := pool [(1, u "java/io/Serializable"), (0, .class_ 1), (0, u "java/lang/Object"), (0, .class_ 3)] 3

/-- java/io/Serializable -/
def k5 : Class := { plain "java/io/Serializable" (some 0) with
  accessFlags := 1537
  interfaces := #[]
  cf := some (fileOf pool5 2 #[] #[] 1537 4 #[] #[])
  fields := #[]
  methods := #[]
  instanceTypes := #[]
  staticTypes := #[]
  resolved := Array.replicate 8 none
  statics := none }

/-- the primitive boolean -/
def k6 : Class := { plain "boolean" none with kind := .primitive 'Z', accessFlags := 0x411 }
/-- [Z -/
def k7 : Class := { plain "[Z" (some 0) with kind := .array 6 .boolean, interfaces := #[4, 5], accessFlags := 1041 }

/-- the primitive byte -/
def k8 : Class := { plain "byte" none with kind := .primitive 'B', accessFlags := 0x411 }
/-- [B -/
def k9 : Class := { plain "[B" (some 0) with kind := .array 8 .byte, interfaces := #[4, 5], accessFlags := 1041 }

/-- the primitive int -/
def k10 : Class := { plain "int" none with kind := .primitive 'I', accessFlags := 0x411 }
/-- [I -/
def k11 : Class := { plain "[I" (some 0) with kind := .array 10 .int, interfaces := #[4, 5], accessFlags := 1041 }

/-- the primitive double -/
def k12 : Class := { plain "double" none with kind := .primitive 'D', accessFlags := 0x411 }
/-- [D -/
def k13 : Class := { plain "[D" (some 0) with kind := .array 12 .double, interfaces := #[4, 5], accessFlags := 1041 }

def heap : Heap := #[]
def classes : Array Class := #[k0, k1, k2, k3, k4, k5, k6, k7, k8, k9, k10, k11, k12, k13]
def interned : List (Array UInt16 × Addr) := []
def slotsUsed : Nat := 0
def theMethod : MethodId := ⟨1, 3⟩
def args0 : Array Value := #[.int 2, .int 93, .int 1, .int 1]
def aboutOver (below : List Frame) : State where
  vm := { classes := classes, interned := interned.toArray }
  heap := heap
  slotsUsed := slotsUsed
  threads := #[{ frames := .invoking theMethod args0 :: below }]
def below0 : List Frame := [.native { method := ⟨0, 0⟩, args := #[] }]
def about1 : State := aboutOver below0
def p0 : Program := .bare "" "" ""
def e0 : Env := launch0.env 0 0 0
theorem w_frames : about1.frames = Frame.invoking theMethod args0 :: below0 := rfl
set_option maxRecDepth 65536 in
theorem w_args : argsFit about1.vm theMethod args0 = true := by decide +kernel
set_option maxRecDepth 65536 in
theorem w_heap : heapFits about1 = true := by decide +kernel
set_option maxRecDepth 65536 in
theorem w_runnable : about1.curStatus? = some .runnable := by decide +kernel
set_option maxRecDepth 65536 in
theorem w_alone : about1.alone = true := by decide +kernel
set_option maxRecDepth 65536 in
theorem w_named : about1.methodNamed? x = some theMethod := by decide +kernel
set_option maxRecDepth 65536 in
theorem w_hears : about1.hears theMethod below0 = true := by decide +kernel
set_option maxRecDepth 65536 in
theorem w_ripe : about1.ripe theMethod args0 below0 = true := by decide +kernel
theorem w_running : about1.status = .running := rfl
set_option maxRecDepth 65536 in
theorem w_room : about1.hasRoom e0.platform room_1 = true :=
  launch0.hasRoom_least _ room_1 (by decide +kernel) (by decide +kernel) (by decide +kernel) (by decide +kernel) (by decide +kernel) (by decide +kernel)
theorem allAtoms_all (ts : List Jvm.Cond) (a : Array Jvm.Value) (st : Jvm.State) : (allAtoms ts).before a st = ts.all (fun c => c.before a st) := by
  induction ts with
  | nil => rfl
  | cons c t ih =>
    show (Jvm.Cond.and c (allAtoms t)).before a st = _
    rw [Jvm.Cond.before_and, ih, List.all_cons]
def words1 : List Jvm.Cond := Jvm.Cond.code x code maxLocals ret :: tables_1
/-- a 'code' word, met by the world's own term for the bytes: nothing is compared byte by byte -/
theorem code_word {y : MethodName} {bytes : ByteArray} {mx : Nat} {rt : Option FieldType} {a : Array Value} {s : State} {m : MethodId} {meth : Method} {c : Code} (h1 : s.methodNamed? y = some m) (h2 : s.vm.method? m = some meth) (h3 : meth.code = some c) (h4 : c.code = bytes)
    (h5 : (c.maxLocals == mx && c.exceptionTable.isEmpty && decide (c.maxStack ≤ mostOperands) && decide (meth.sig.returnType = rt) && !meth.locks && decide (parseMethodDescriptor y.desc = some meth.sig)) = true) : (Jvm.Cond.code y bytes mx rt).before a s = true := by
  simp only [Bool.and_eq_true, beq_iff_eq, Bool.not_eq_true', decide_eq_true_eq] at h5
  obtain ⟨⟨⟨⟨⟨g1, g2⟩, g3⟩, g4⟩, g5⟩, g6⟩ := h5
  simp [Cond.before, Cond.holds, Cond.value, h1, h2, h3, h4, g1, g2, g3, g4, g5, g6]
def isCode : Jvm.Cond → Bool
  | .code _ _ _ _ => true
  | _ => false
theorem all_split {L : List Jvm.Cond} {P : Jvm.Cond → Bool} (h1 : L.all (fun c => isCode c || P c) = true) (h2 : ∀ c ∈ L.filter isCode, P c = true) : L.all P = true := by
  refine List.all_eq_true.mpr fun c hc => ?_
  have h := List.all_eq_true.mp h1 c hc
  rcases Bool.eq_false_or_eq_true (isCode c) with hi | hi
  · exact h2 c (List.mem_filter.mpr ⟨hc, hi⟩)
  · simpa [hi] using h
set_option maxRecDepth 65536 in
theorem w_c0 : (Jvm.Cond.code x code maxLocals ret).before args0 about1 = true := code_word (m := ⟨1, 3⟩) (meth := k1m3) (c := k1c3) (by decide +kernel) rfl rfl rfl (by decide +kernel)
set_option maxRecDepth 65536 in
theorem w_c1 : (Jvm.Cond.code ({ cls := "com/example/tenrec/tenrec/pool/IdleByLastCompletionRemovePinLaw", name := "rank", desc := "([Z[II)I" } : Jvm.MethodName) method_3_code (4 : Nat) (Option.some Jvm.ClassFile.FieldType.int)).before args0 about1 = true := code_word (m := ⟨1, 2⟩) (meth := k1m2) (c := k1c2) (by decide +kernel) rfl rfl rfl (by decide +kernel)
set_option maxRecDepth 65536 in
theorem w_c2 : (Jvm.Cond.code ({ cls := "com/example/tenrec/tenrec/pool/IdleByLastCompletionRemovePinLaw", name := "comes", desc := "([Z[III)Z" } : Jvm.MethodName) method_2_code (4 : Nat) (Option.some Jvm.ClassFile.FieldType.boolean)).before args0 about1 = true := code_word (m := ⟨1, 1⟩) (meth := k1m1) (c := k1c1) (by decide +kernel) rfl rfl rfl (by decide +kernel)
set_option maxRecDepth 65536 in
theorem w_c3 : (Jvm.Cond.code ({ cls := "com/example/tenrec/tenrec/pool/IdleByLastCompletion", name := "<init>", desc := "(I)V" } : Jvm.MethodName) prog_31_method_1_code (2 : Nat) (Option.none : Option Jvm.ClassFile.FieldType)).before args0 about1 = true := code_word (m := ⟨2, 0⟩) (meth := k2m0) (c := k2c0) (by decide +kernel) rfl rfl rfl (by decide +kernel)
set_option maxRecDepth 65536 in
theorem w_c4 : (Jvm.Cond.code ({ cls := "java/lang/Object", name := "<init>", desc := "()V" } : Jvm.MethodName) object_method_1_code (1 : Nat) (Option.none : Option Jvm.ClassFile.FieldType)).before args0 about1 = true := code_word (m := ⟨0, 0⟩) (meth := k0m0) (c := k0c0) (by decide +kernel) rfl rfl rfl (by decide +kernel)
set_option maxRecDepth 65536 in
theorem w_c5 : (Jvm.Cond.code ({ cls := "java/util/Arrays", name := "fill", desc := "([DD)V" } : Jvm.MethodName) jdk_65_method_113_code (5 : Nat) (Option.none : Option Jvm.ClassFile.FieldType)).before args0 about1 = true := code_word (m := ⟨3, 1⟩) (meth := k3m1) (c := k3c1) (by decide +kernel) rfl rfl rfl (by decide +kernel)
set_option maxRecDepth 65536 in
theorem w_c6 : (Jvm.Cond.code ({ cls := "com/example/tenrec/tenrec/pool/IdleByLastCompletion", name := "add", desc := "(I)V" } : Jvm.MethodName) prog_31_method_3_code (3 : Nat) (Option.none : Option Jvm.ClassFile.FieldType)).before args0 about1 = true := code_word (m := ⟨2, 2⟩) (meth := k2m2) (c := k2c2) (by decide +kernel) rfl rfl rfl (by decide +kernel)
set_option maxRecDepth 65536 in
theorem w_c7 : (Jvm.Cond.code ({ cls := "com/example/tenrec/tenrec/pool/IdleByLastCompletion", name := "link", desc := "(III)V" } : Jvm.MethodName) prog_31_method_7_code (4 : Nat) (Option.none : Option Jvm.ClassFile.FieldType)).before args0 about1 = true := code_word (m := ⟨2, 6⟩) (meth := k2m6) (c := k2c6) (by decide +kernel) rfl rfl rfl (by decide +kernel)
set_option maxRecDepth 65536 in
theorem w_c8 : (Jvm.Cond.code ({ cls := "com/example/tenrec/tenrec/pool/IdleByLastCompletion", name := "comesBefore", desc := "(II)Z" } : Jvm.MethodName) prog_31_method_6_code (3 : Nat) (Option.some Jvm.ClassFile.FieldType.boolean)).before args0 about1 = true := code_word (m := ⟨2, 5⟩) (meth := k2m5) (c := k2c5) (by decide +kernel) rfl rfl rfl (by decide +kernel)
set_option maxRecDepth 65536 in
theorem w_c9 : (Jvm.Cond.code ({ cls := "com/example/tenrec/tenrec/pool/IdleByLastCompletion", name := "remove", desc := "(I)V" } : Jvm.MethodName) prog_31_method_4_code (2 : Nat) (Option.none : Option Jvm.ClassFile.FieldType)).before args0 about1 = true := code_word (m := ⟨2, 3⟩) (meth := k2m3) (c := k2c3) (by decide +kernel) rfl rfl rfl (by decide +kernel)
set_option maxRecDepth 65536 in
theorem w_c10 : (Jvm.Cond.code ({ cls := "com/example/tenrec/tenrec/pool/IdleByLastCompletion", name := "first", desc := "()I" } : Jvm.MethodName) prog_31_method_5_code (1 : Nat) (Option.some Jvm.ClassFile.FieldType.int)).before args0 about1 = true := code_word (m := ⟨2, 4⟩) (meth := k2m4) (c := k2c4) (by decide +kernel) rfl rfl rfl (by decide +kernel)
set_option maxRecDepth 65536 in
theorem w_c11 : (Jvm.Cond.code ({ cls := "com/example/tenrec/tenrec/pool/IdleByLastCompletion", name := "completed", desc := "(ID)V" } : Jvm.MethodName) prog_31_method_2_code (4 : Nat) (Option.none : Option Jvm.ClassFile.FieldType)).before args0 about1 = true := code_word (m := ⟨2, 1⟩) (meth := k2m1) (c := k2c1) (by decide +kernel) rfl rfl rfl (by decide +kernel)
def codes1 : List Jvm.Cond := [Jvm.Cond.code x code maxLocals ret, Jvm.Cond.code ({ cls := "com/example/tenrec/tenrec/pool/IdleByLastCompletionRemovePinLaw", name := "rank", desc := "([Z[II)I" } : Jvm.MethodName) method_3_code (4 : Nat) (Option.some Jvm.ClassFile.FieldType.int), Jvm.Cond.code ({ cls := "com/example/tenrec/tenrec/pool/IdleByLastCompletionRemovePinLaw", name := "comes", desc := "([Z[III)Z" } : Jvm.MethodName) method_2_code (4 : Nat) (Option.some Jvm.ClassFile.FieldType.boolean), Jvm.Cond.code ({ cls := "com/example/tenrec/tenrec/pool/IdleByLastCompletion", name := "<init>", desc := "(I)V" } : Jvm.MethodName) prog_31_method_1_code (2 : Nat) (Option.none : Option Jvm.ClassFile.FieldType), Jvm.Cond.code ({ cls := "java/lang/Object", name := "<init>", desc := "()V" } : Jvm.MethodName) object_method_1_code (1 : Nat) (Option.none : Option Jvm.ClassFile.FieldType), Jvm.Cond.code ({ cls := "java/util/Arrays", name := "fill", desc := "([DD)V" } : Jvm.MethodName) jdk_65_method_113_code (5 : Nat) (Option.none : Option Jvm.ClassFile.FieldType), Jvm.Cond.code ({ cls := "com/example/tenrec/tenrec/pool/IdleByLastCompletion", name := "add", desc := "(I)V" } : Jvm.MethodName) prog_31_method_3_code (3 : Nat) (Option.none : Option Jvm.ClassFile.FieldType), Jvm.Cond.code ({ cls := "com/example/tenrec/tenrec/pool/IdleByLastCompletion", name := "link", desc := "(III)V" } : Jvm.MethodName) prog_31_method_7_code (4 : Nat) (Option.none : Option Jvm.ClassFile.FieldType), Jvm.Cond.code ({ cls := "com/example/tenrec/tenrec/pool/IdleByLastCompletion", name := "comesBefore", desc := "(II)Z" } : Jvm.MethodName) prog_31_method_6_code (3 : Nat) (Option.some Jvm.ClassFile.FieldType.boolean), Jvm.Cond.code ({ cls := "com/example/tenrec/tenrec/pool/IdleByLastCompletion", name := "remove", desc := "(I)V" } : Jvm.MethodName) prog_31_method_4_code (2 : Nat) (Option.none : Option Jvm.ClassFile.FieldType), Jvm.Cond.code ({ cls := "com/example/tenrec/tenrec/pool/IdleByLastCompletion", name := "first", desc := "()I" } : Jvm.MethodName) prog_31_method_5_code (1 : Nat) (Option.some Jvm.ClassFile.FieldType.int), Jvm.Cond.code ({ cls := "com/example/tenrec/tenrec/pool/IdleByLastCompletion", name := "completed", desc := "(ID)V" } : Jvm.MethodName) prog_31_method_2_code (4 : Nat) (Option.none : Option Jvm.ClassFile.FieldType)]
set_option maxRecDepth 65536 in
theorem codes_eq : words1.filter isCode = codes1 := rfl
theorem w_codes : ∀ c ∈ words1.filter isCode, c.before args0 about1 = true := by
  rw [codes_eq]
  intro c hc
  simp only [codes1, List.mem_cons, List.not_mem_nil, or_false] at hc
  rcases hc with rfl | rfl | rfl | rfl | rfl | rfl | rfl | rfl | rfl | rfl | rfl | rfl
  · exact w_c0
  · exact w_c1
  · exact w_c2
  · exact w_c3
  · exact w_c4
  · exact w_c5
  · exact w_c6
  · exact w_c7
  · exact w_c8
  · exact w_c9
  · exact w_c10
  · exact w_c11
set_option maxRecDepth 65536 in
theorem w_t1 : (words1.take 24).all (fun c => isCode c || c.before args0 about1) = true := by decide +kernel
set_option maxRecDepth 65536 in
theorem w_t2 : ((words1.drop 24).take 24).all (fun c => isCode c || c.before args0 about1) = true := by decide +kernel
set_option maxRecDepth 65536 in
theorem w_t3 : ((words1.drop 24).drop 24).all (fun c => isCode c || c.before args0 about1) = true := by decide +kernel
theorem w_tables : (allAtoms (Jvm.Cond.code x code maxLocals ret :: tables_1)).before args0 about1 = true := by
  rw [allAtoms_all]
  show words1.all (fun c => c.before args0 about1) = true
  refine all_split ?_ w_codes
  rw [← List.take_append_drop 24 words1, List.all_append, w_t1, ← List.take_append_drop 24 (words1.drop 24), List.all_append, w_t2, w_t3]
  rfl
set_option maxRecDepth 65536 in
theorem w_case : (Jvm.Cond.and given_1 narrow_1).before args0 about1 = true := by decide +kernel
theorem w_applies : (headSpec (Jvm.Cond.code x code maxLocals ret :: tables_1) room_1).applies x e0.platform about1 = true :=
  (Spec.applies_iff w_frames).mpr ⟨w_running, w_runnable, w_alone, w_named, w_hears, w_ripe, w_room, w_tables⟩
theorem atStart : AtStart classFile x code maxLocals ret World_1 tables_1 room_1 Calls_1 rest_1 Pre_1 launch0 p0 e0 about1 theMethod args0 below0 :=
  ⟨lists_1, trivial, launch0.admits_env _ _ _, launch0.least_env, fairChoices_fair.cas, fairChoices_fair.clock, w_frames, w_args, w_heap, w_applies, trivial, trivial, w_case⟩
end start1
theorem witness_1 : WitnessClaimed_1 := ⟨start1.p0, start1.e0, start1.about1, start1.theMethod, start1.args0, start1.below0, start1.atStart⟩
end Jvm.Pilot.@@N@@
