import JvmDerived
import JvmDerived.Pilot.@@N@@Statement
import JvmDerived.Pilot.@@N@@Code
set_option linter.unusedVariables false
set_option linter.unusedSimpArgs false
namespace Jvm.Pilot.@@N@@
open Jvm Jvm.ClassFile Sem Op Lib Jvm.Free Jvm.Stand Jvm.LawKit Jvm.RoadKit Bundle Jvm.Pilot.@@N@@.Jvm.D
section OwnKit
variable {p : Program} {l : Launch} {e : Env} {R : Room} {s : State} {m : MethodId} {args : Array Value} {below : List Frame} {meth : Method} {c : Code} {T : State} {locs : List Loc} {cells slots : Nat} {Z : State} {a0 : Array Value} {h h0 : Heap}
/-- the run comes from S to an end of which Q speaks -/
def Gl (p : Program) (e : Env) (below : List Frame) (s : State) (Q : Option Value → Heap → List Loc → Prop) (cc kk : Nat) (S : State) : Prop :=
  ∃ t o, Steps p.tables e below S t ∧ t.status = .running ∧ Ended t below o ∧ ∃ v L, o = .returned v ∧ Q v t.heap L ∧ FrameEnd s o t L cc kk
theorem Gl.pre {Q : Option Value → Heap → List Loc → Prop} {cc kk : Nat} {S S' : State} (st : ∀ t, Steps p.tables e below S' t → Steps p.tables e below S t) (k : Gl p e below s Q cc kk S') : Gl p e below s Q cc kk S := by
  obtain ⟨t, o, h1, h2⟩ := k
  exact ⟨t, o, st _ h1, h2⟩
theorem Gl.ret {Q : Option Value → Heap → List Loc → Prop} {cc kk : Nat} {S : State} (X : Stand p l e R s m args below meth c T locs cells slots) {v : Option Value} (hv : meth.sig.returnType = none → v = none) (hlocks : meth.locks = false) (hQ : Q v T.heap locs) (hc : cells ≤ cc) (hk : slots ≤ kk)
    (st : ∀ fs, (∀ (f : JFrame) (acts : List Action), f.method = m → f.locked = none → f.entered = [] → (doReturn e (T.setTop f) acts v).1 = T.setFrames fs) → Steps p.tables e below S (T.setFrames fs)) : Gl p e below s Q cc kk S := by
  obtain ⟨fs, hr, hrun, hended, hW, hsame⟩ := X.leave (v := v) hv hlocks
  exact ⟨_, _, st fs hr, hrun, hended, _, _, rfl, hQ, ⟨_, rfl⟩, hW, hsame.mono hc hk⟩
theorem Gl.fin {Q : Option Value → Heap → List Loc → Prop} {cc kk : Nat} {S : State} (X : Stand p l e R s m args below meth c T locs cells slots) {v : Option Value} (hv : meth.sig.returnType = none → v = none) (hlocks : meth.locks = false) (hQ : Q v h locs) (eT : T.heap = h) (hc : cells ≤ cc) (hk : slots ≤ kk)
    (st : ∀ fs, (∀ (f : JFrame) (acts : List Action), f.method = m → f.locked = none → f.entered = [] → (doReturn e (T.setTop f) acts v).1 = T.setFrames fs) → Steps p.tables e below S (T.setFrames fs)) : Gl p e below s Q cc kk S :=
  Gl.ret X hv hlocks (by rw [eT]; exact hQ) hc hk st
abbrev OMet (l : Launch) (Z : State) (y : MethodName) (bytes : ByteArray) (maxL : Nat) (ret : Option FieldType) (ws : List Jvm.Cond) (rm : Room) (as' : Array Value) (h0 : Heap) (Q : Option Value → Heap → List Loc → Prop) : Prop :=
  MetFree l y (head1 (Jvm.Cond.code y bytes maxL ret :: ws) rm) (fun a U => a = as' ∧ Z.Warmed39 U.vm ∧ U.heap = h0) (fun _ _ _ _ _ => True) (fun _ U o U' => ∃ v L, o = .returned v ∧ Q v U'.heap L ∧ FrameEnd U o U' L rm.cells rm.slots)
theorem own_body {y : MethodName} {bytes : ByteArray} {maxL : Nat} {ret : Option FieldType} {ws : List Jvm.Cond} {rm : Room} {as' : Array Value} {Q : Option Value → Heap → List Loc → Prop} (hx : plainFor y = true)
    (H : ∀ p e s m below meth c s₁, BodyLoose p l y (head1 (Jvm.Cond.code y bytes maxL ret :: ws) rm) bytes maxL ret e s m as' below meth c s₁ → c.maxLocals = maxL → Z.Warmed39 s.vm → s₁.heap = h0 → Gl p e below s Q rm.cells rm.slots (s₁.setTop (entryFrame m as' maxL))) :
    OMet l Z y bytes maxL ret ws rm as' h0 Q := by
  refine MetFree.of_bodySF hx hisR ?_
  intro p e s m args below meth c s₁ Bd hml0 hP hK
  obtain ⟨rfl, hZ, hh⟩ := hP
  exact H p e s m below meth c s₁ Bd hml0 hZ (by rw [← hh, Bd.state]; rfl)
/-- an int is returned -/
theorem own_retI (X : Stand p l e R s m args below meth c T locs cells slots) (hx : p.tables.exec = Jvm.exec) {pc : Nat} {Ls : Array Slot} {z : Int32} {rest : List Value} (hret : meth.sig.returnType = some .int) (hd : decode c.code pc = .ok (.ireturn, 1)) {fs : List Frame}
    (hl : ∀ (f : JFrame) (acts : List Action), f.method = m → f.locked = none → f.entered = [] → (doReturn e (T.setTop f) acts (some (.int z))).1 = T.setFrames fs) : Steps p.tables e below (T.setTop (mkF m pc Ls (.int z :: rest))) (T.setFrames fs) :=
  retOut X hx hret rfl (Or.inl ⟨rfl, Or.inl rfl, z, rfl⟩) hd hl
theorem own_retJ (X : Stand p l e R s m args below meth c T locs cells slots) (hx : p.tables.exec = Jvm.exec) {pc : Nat} {Ls : Array Slot} {z : Int64} {rest : List Value} (hret : meth.sig.returnType = some .long) (hd : decode c.code pc = .ok (.lreturn, 1)) {fs : List Frame}
    (hl : ∀ (f : JFrame) (acts : List Action), f.method = m → f.locked = none → f.entered = [] → (doReturn e (T.setTop f) acts (some (.long z))).1 = T.setFrames fs) : Steps p.tables e below (T.setTop (mkF m pc Ls (.long z :: rest))) (T.setFrames fs) :=
  retOut X hx hret rfl (Or.inr (Or.inl ⟨rfl, rfl, z, rfl⟩)) hd hl
theorem own_retD (X : Stand p l e R s m args below meth c T locs cells slots) (hx : p.tables.exec = Jvm.exec) {pc : Nat} {Ls : Array Slot} {z : UInt64} {rest : List Value} (hret : meth.sig.returnType = some .double) (hd : decode c.code pc = .ok (.dreturn, 1)) {fs : List Frame}
    (hl : ∀ (f : JFrame) (acts : List Action), f.method = m → f.locked = none → f.entered = [] → (doReturn e (T.setTop f) acts (some (.double z))).1 = T.setFrames fs) : Steps p.tables e below (T.setTop (mkF m pc Ls (.double z :: rest))) (T.setFrames fs) :=
  retOut X hx hret rfl (Or.inr (Or.inr (Or.inl ⟨rfl, rfl, z, rfl⟩))) hd hl
theorem own_retR (X : Stand p l e R s m args below meth c T locs cells slots) (hx : p.tables.exec = Jvm.exec) {pc : Nat} {Ls : Array Slot} {w : Value} {t : FieldType} {rest : List Value} (hret : meth.sig.returnType = some t) (ht : t.isReference = true) (hn : narrow t w = w) (hw : w.isRef = true) (hd : decode c.code pc = .ok (.areturn, 1)) {fs : List Frame}
    (hl : ∀ (f : JFrame) (acts : List Action), f.method = m → f.locked = none → f.entered = [] → (doReturn e (T.setTop f) acts (some w)).1 = T.setFrames fs) : Steps p.tables e below (T.setTop (mkF m pc Ls (w :: rest))) (T.setFrames fs) :=
  retOut X hx hret hn (Or.inr (Or.inr (Or.inr (Or.inr ⟨rfl, ht, hw⟩)))) hd hl
/-- a static method by its contract -/
theorem own_callS (X : Stand p l e R s m args below meth c T locs cells slots) (hx : p.tables.exec = Jvm.exec) (hZ : Z.Warmed39 s.vm) {own : String} {index : Nat} {y : MethodName} {bytes : ByteArray} {maxL : Nat} {ret : Option FieldType} {rm : Room} {Q : Option Value → Heap → List Loc → Prop}
    (hown : s.vm.findClass own = some m.cls) (w1 : (Jvm.Cond.methodLink own index y).before a0 Z = true) (w2 : (Jvm.Cond.static y).before a0 Z = true) (w3 : (Jvm.Cond.initialized y.cls).before a0 Z = true) (w4 : (Jvm.Cond.code y bytes maxL ret).before a0 Z = true)
    (hy : y.cls ≠ "java/lang/invoke/MethodHandle" ∧ y.cls ≠ "java/lang/invoke/VarHandle") {argsL rest : List Value} (hM : OMet l Z y bytes maxL ret [] rm argsL.toArray h Q) {W : Nat} (hf : rm.frames + 1 ≤ R.frames) (hl : W + (maxL + 11) + rm.locals ≤ R.locals) (hc : cells + rm.cells ≤ R.cells) (hs : slots + rm.slots ≤ R.slots)
    (eT : T.heap = h) {pc : Nat} {Ls : Array Slot} (hsize : Ls.size = c.maxLocals) (hlen : ∀ sig, parseMethodDescriptor y.desc = some sig → argsL.length = sig.parameters.length) (hW : (rest.map fun v => v.category).sum ≤ W) (hd : decode c.code pc = .ok (.invokestatic index, 3)) :
    ∃ (v : Option Value) (T' : State) (L : List Loc), Stand p l e R s m args below meth c T' (locs ++ L) (cells + rm.cells) (slots + rm.slots) ∧ Q v T'.heap L ∧
      ∀ t, Steps p.tables e below (T'.setTop (mkF m (pc + 3) Ls (v.toList ++ rest))) t → Steps p.tables e below (T.setTop (mkF m pc Ls (argsL.reverse ++ rest))) t := by
  obtain ⟨v, _, ⟨T', L', k', n'⟩, -, X', ⟨L, hQ, hl', hy', hz'⟩, st⟩ := Jvm.LawKit.callS X hx (y := y) hown (mvT hZ w1) (mvT hZ w2) (mvT hZ w3) (mvT hZ w4) hy (backOf (W := W) hM hZ w4 w3 hf hl) (g := mkF m pc Ls (argsL.reverse ++ rest)) rfl hsize (argsL := argsL) (rest := rest) hlen rfl (by show 2 * 0 + _ ≤ _; omega) hd (fun _ _ => ⟨rfl, eT, hc, hs⟩)
  dsimp only [Pt.U, Pt.locs, Pt.cells, Pt.slots] at X' hl' hy' hz' st hQ
  subst hl' hy' hz'
  exact ⟨v, T', L, X', hQ, st⟩
/-- a constructor by its contract -/
theorem own_callI (X : Stand p l e R s m args below meth c T locs cells slots) (hx : p.tables.exec = Jvm.exec) (hZ : Z.Warmed39 s.vm) {own : String} {index : Nat} {y : MethodName} {bytes : ByteArray} {maxL : Nat} {rm : Room} {Q : Option Value → Heap → List Loc → Prop} (hy1 : y.name = "<init>")
    (hown : s.vm.findClass own = some m.cls) (w1 : (Jvm.Cond.methodLink own index y).before a0 Z = true) (w2 : (Jvm.Cond.instanceMethod y).before a0 Z = true) (w3 : (Jvm.Cond.initialized y.cls).before a0 Z = true) (w4 : (Jvm.Cond.code y bytes maxL none).before a0 Z = true)
    (hy : y.cls ≠ "java/lang/invoke/MethodHandle" ∧ y.cls ≠ "java/lang/invoke/VarHandle") {a : Addr} {argsL rest : List Value} (hM : OMet l Z y bytes maxL none [] rm (.ref a :: argsL).toArray h Q) {W : Nat} (hf : rm.frames + 1 ≤ R.frames) (hl : W + (maxL + 11) + rm.locals ≤ R.locals) (hc : cells + rm.cells ≤ R.cells) (hs : slots + rm.slots ≤ R.slots)
    (eT : T.heap = h) {pc : Nat} {Ls : Array Slot} (hsize : Ls.size = c.maxLocals) (hlen : ∀ sig, parseMethodDescriptor y.desc = some sig → argsL.length = sig.parameters.length) (hW : (rest.map fun v => v.category).sum ≤ W) (hd : decode c.code pc = .ok (.invokespecial index, 3)) :
    ∃ (v : Option Value) (T' : State) (L : List Loc), Stand p l e R s m args below meth c T' (locs ++ L) (cells + rm.cells) (slots + rm.slots) ∧ Q v T'.heap L ∧
      ∀ t, Steps p.tables e below (T'.setTop (mkF m (pc + 3) Ls (v.toList ++ rest))) t → Steps p.tables e below (T.setTop (mkF m pc Ls (argsL.reverse ++ .ref a :: rest))) t := by
  obtain ⟨v, _, ⟨T', L', k', n'⟩, -, X', ⟨L, hQ, hl', hy', hz'⟩, st⟩ := X.specialBack hx (y := y) hy1 hown (mvT hZ w1) (mvT hZ w2) (mvT hZ w4) hy (backOf (W := W) hM hZ w4 w3 hf hl) (g := mkF m pc Ls (argsL.reverse ++ .ref a :: rest)) rfl hsize (Steps.refl _) (a := a) (argsL := argsL) (rest := rest) hlen rfl (by show 2 * 0 + _ ≤ _; omega) hd (fun _ _ => ⟨rfl, eT, hc, hs⟩)
  dsimp only [Pt.U, Pt.locs, Pt.cells, Pt.slots] at X' hl' hy' hz' st hQ
  subst hl' hy' hz'
  exact ⟨v, T', L, X', hQ, fun t k => st.trans k⟩
/-- an instance method by its contract, the receiver's class known -/
theorem own_callV (X : Stand p l e R s m args below meth c T locs cells slots) (hx : p.tables.exec = Jvm.exec) (hZ : Z.Warmed39 s.vm) {own C : String} {index : Nat} {y z : MethodName} {bytes : ByteArray} {maxL : Nat} {ret : Option FieldType} {rm : Room} {Q : Option Value → Heap → List Loc → Prop}
    (hown : s.vm.findClass own = some m.cls) (w1 : (Jvm.Cond.methodLink own index y).before a0 Z = true) (wd : (Jvm.Cond.declares y).before a0 Z = true) (hnf : NotFace s y) (ws : (Jvm.Cond.selects C y z).before a0 Z = true) (w2 : (Jvm.Cond.instanceMethod z).before a0 Z = true) (w3 : (Jvm.Cond.initialized z.cls).before a0 Z = true) (w4 : (Jvm.Cond.code z bytes maxL ret).before a0 Z = true)
    (hy : y.cls ≠ "java/lang/invoke/MethodHandle" ∧ y.cls ≠ "java/lang/invoke/VarHandle") {a : Addr} (E : Exa Z h a C) {argsL rest : List Value} (hM : OMet l Z z bytes maxL ret [] rm (.ref a :: argsL).toArray h Q) {W : Nat} (hf : rm.frames + 1 ≤ R.frames) (hl : W + (maxL + 11) + rm.locals ≤ R.locals) (hc : cells + rm.cells ≤ R.cells) (hs : slots + rm.slots ≤ R.slots)
    (eT : T.heap = h) {pc : Nat} {Ls : Array Slot} (hsize : Ls.size = c.maxLocals) (hlen : ∀ sig, parseMethodDescriptor y.desc = some sig → argsL.length = sig.parameters.length) (hW : (rest.map fun v => v.category).sum ≤ W) (hd : decode c.code pc = .ok (.invokevirtual index, 3)) :
    ∃ (v : Option Value) (T' : State) (L : List Loc), Stand p l e R s m args below meth c T' (locs ++ L) (cells + rm.cells) (slots + rm.slots) ∧ Q v T'.heap L ∧
      ∀ t, Steps p.tables e below (T'.setTop (mkF m (pc + 3) Ls (v.toList ++ rest))) t → Steps p.tables e below (T.setTop (mkF m pc Ls (argsL.reverse ++ .ref a :: rest))) t := by
  obtain ⟨cB, kB, q1, q2, q3⟩ := isOf hZ eT E
  obtain ⟨v, _, ⟨T', L', k', n'⟩, -, X', ⟨L, hQ, hl', hy', hz'⟩, st⟩ := X.virtualBack hx (y := y) (z := z) hown (mvT hZ w1) (mvT hZ wd) hnf (mvT hZ ws) (mvT hZ w2) hy (backOf (W := W) hM hZ w4 w3 hf hl) q1 q3 (g := mkF m pc Ls (argsL.reverse ++ .ref a :: rest)) rfl hsize (Steps.refl _) (argsL := argsL) (rest := rest) hlen rfl (by show 2 * 0 + _ ≤ _; omega) hd (fun _ _ => ⟨rfl, eT, hc, hs⟩)
  dsimp only [Pt.U, Pt.locs, Pt.cells, Pt.slots] at X' hl' hy' hz' st hQ
  subst hl' hy' hz'
  exact ⟨v, T', L, X', hQ, fun t k => st.trans k⟩
/-- an inherited instance method: the link names a class that doesn't declare it -/
theorem own_callU (X : Stand p l e R s m args below meth c T locs cells slots) (hx : p.tables.exec = Jvm.exec) (hZ : Z.Warmed39 s.vm) {own C owner : String} {index : Nat} {y z : MethodName} {bytes : ByteArray} {maxL : Nat} {ret : Option FieldType} {rm : Room} {Q : Option Value → Heap → List Loc → Prop}
    (hown : s.vm.findClass own = some m.cls) (w1 : (Jvm.Cond.methodLink own index y).before a0 Z = true) (wm : (Jvm.Cond.sameMethod y.cls owner y.name y.desc).before a0 Z = true) (wd : (Jvm.Cond.declares ⟨owner, y.name, y.desc⟩).before a0 Z = true) (ws : (Jvm.Cond.selects C y z).before a0 Z = true) (w2 : (Jvm.Cond.instanceMethod z).before a0 Z = true) (w3 : (Jvm.Cond.initialized z.cls).before a0 Z = true) (w4 : (Jvm.Cond.code z bytes maxL ret).before a0 Z = true)
    (hy : owner ≠ "java/lang/invoke/MethodHandle" ∧ owner ≠ "java/lang/invoke/VarHandle") {a : Addr} (E : Exa Z h a C) {argsL rest : List Value} (hM : OMet l Z z bytes maxL ret [] rm (.ref a :: argsL).toArray h Q) {W : Nat} (hf : rm.frames + 1 ≤ R.frames) (hl : W + (maxL + 11) + rm.locals ≤ R.locals) (hc : cells + rm.cells ≤ R.cells) (hs : slots + rm.slots ≤ R.slots)
    (eT : T.heap = h) {pc : Nat} {Ls : Array Slot} (hsize : Ls.size = c.maxLocals) (hlen : ∀ sig, parseMethodDescriptor y.desc = some sig → argsL.length = sig.parameters.length) (hW : (rest.map fun v => v.category).sum ≤ W) (hd : decode c.code pc = .ok (.invokevirtual index, 3)) :
    ∃ (v : Option Value) (T' : State) (L : List Loc), Stand p l e R s m args below meth c T' (locs ++ L) (cells + rm.cells) (slots + rm.slots) ∧ Q v T'.heap L ∧
      ∀ t, Steps p.tables e below (T'.setTop (mkF m (pc + 3) Ls (v.toList ++ rest))) t → Steps p.tables e below (T.setTop (mkF m pc Ls (argsL.reverse ++ .ref a :: rest))) t := by
  obtain ⟨cB, kB, q1, q2, q3⟩ := isOf hZ eT E
  obtain ⟨v, _, ⟨T', L', k', n'⟩, -, X', ⟨L, hQ, hl', hy', hz'⟩, st⟩ := X.virtualBackUp hx (x := y) (y := z) (owner := owner) hown (mvT hZ w1) (mvT hZ wm) (mvT hZ wd) hy (mvT hZ ws) (mvT hZ w2) (backOf (W := W) hM hZ w4 w3 hf hl) q1 q3 (g := mkF m pc Ls (argsL.reverse ++ .ref a :: rest)) rfl hsize (Steps.refl _) (argsL := argsL) (rest := rest) hlen rfl (by show 2 * 0 + _ ≤ _; omega) hd (fun _ _ => ⟨rfl, eT, hc, hs⟩)
  dsimp only [Pt.U, Pt.locs, Pt.cells, Pt.slots] at X' hl' hy' hz' st hQ
  subst hl' hy' hz'
  exact ⟨v, T', L, X', hQ, fun t k => st.trans k⟩
/-- an interface's method by the contract of the body that the receiver's class selects -/
theorem own_callF (X : Stand p l e R s m args below meth c T locs cells slots) (hx : p.tables.exec = Jvm.exec) (hZ : Z.Warmed39 s.vm) {own C : String} {index count : Nat} {y z : MethodName} {bytes : ByteArray} {maxL : Nat} {ret : Option FieldType} {rm : Room} {Q : Option Value → Heap → List Loc → Prop}
    (hown : s.vm.findClass own = some m.cls) (w1 : (Jvm.Cond.methodLink own index y).before a0 Z = true) (wd : (Jvm.Cond.declares y).before a0 Z = true) (wf : (Jvm.Cond.interfaceMethod y.cls y.cls y.name y.desc).before args s = true) (ws : (Jvm.Cond.selects C y z).before a0 Z = true) (w2 : (Jvm.Cond.instanceMethod z).before a0 Z = true) (wp : (Jvm.Cond.publicMethod z).before a0 Z = true) (wu : (Jvm.Cond.unhidden C y.name y.desc).before a0 Z = true) (wc : (Jvm.Cond.castable C y.cls).before a0 Z = true) (w3 : (Jvm.Cond.initialized z.cls).before a0 Z = true) (w4 : (Jvm.Cond.code z bytes maxL ret).before a0 Z = true)
    (hy : y.cls ≠ "java/lang/invoke/MethodHandle" ∧ y.cls ≠ "java/lang/invoke/VarHandle") {a : Addr} (E : Exa Z h a C) {argsL rest : List Value} (hM : OMet l Z z bytes maxL ret [] rm (.ref a :: argsL).toArray h Q) {W : Nat} (hf : rm.frames + 1 ≤ R.frames) (hl : W + (maxL + 11) + rm.locals ≤ R.locals) (hc : cells + rm.cells ≤ R.cells) (hs : slots + rm.slots ≤ R.slots)
    (eT : T.heap = h) {pc : Nat} {Ls : Array Slot} (hsize : Ls.size = c.maxLocals) (hlen : ∀ sig, parseMethodDescriptor y.desc = some sig → argsL.length = sig.parameters.length) (hW : (rest.map fun v => v.category).sum ≤ W) (hd : decode c.code pc = .ok (.invokeinterface index count, 5)) :
    ∃ (v : Option Value) (T' : State) (L : List Loc), Stand p l e R s m args below meth c T' (locs ++ L) (cells + rm.cells) (slots + rm.slots) ∧ Q v T'.heap L ∧
      ∀ t, Steps p.tables e below (T'.setTop (mkF m (pc + 5) Ls (v.toList ++ rest))) t → Steps p.tables e below (T.setTop (mkF m pc Ls (argsL.reverse ++ .ref a :: rest))) t := by
  obtain ⟨cB, kB, q1, q2, q3⟩ := isOf hZ eT E
  obtain ⟨v, _, ⟨T', L', k', n'⟩, -, X', ⟨L, hQ, hl', hy', hz'⟩, st⟩ := X.interfaceBack hx (xi := y) (y := z) hown (mvT hZ w1) (mvT hZ wd) wf (mvT hZ ws) (mvT hZ w2) (mvT hZ wp) (mvT hZ wu) (mvT hZ wc) hy (backOf (W := W) hM hZ w4 w3 hf hl) q1 q2 q3 (g := mkF m pc Ls (argsL.reverse ++ .ref a :: rest)) rfl hsize (Steps.refl _) (argsL := argsL) (rest := rest) hlen rfl (by show 2 * 0 + _ ≤ _; omega) hd (fun _ _ => ⟨rfl, eT, hc, hs⟩)
  dsimp only [Pt.U, Pt.locs, Pt.cells, Pt.slots] at X' hl' hy' hz' st hQ
  subst hl' hy' hz'
  exact ⟨v, T', L, X', hQ, fun t k => st.trans k⟩
theorem own_hc {T : State} {h : Heap} {a : Addr} {cl : Cell} (q : T.heap = h) (r : h[a]? = some cl) : T.heap[a]? = some cl := by rw [q]; exact r
/-- what a Bool is as Java's int -/
def b2i (b : Bool) : Int32 := if b then 1 else 0
theorem b2i_t {b : Bool} (h : b = true) : b2i b = 1 := by simp [b2i, h]
theorem b2i_f {b : Bool} (h : b = false) : b2i b = 0 := by simp [b2i, h]
theorem b2i_inj {a b : Bool} : b2i a = b2i b ↔ a = b := by cases a <;> cases b <;> decide
/-- the branches' conditions in plain words -/
theorem ic_lt (x y : Int32) : if_icmp.holds .lt x y = decide (x < y) := by by_cases q : x < y <;> simp [q, tlt, flt]
theorem ic_ge (x y : Int32) : if_icmp.holds .ge x y = !decide (x < y) := by by_cases q : x < y <;> simp [q, tlt, flt]
theorem ic_gt (x y : Int32) : if_icmp.holds .gt x y = decide (y < x) := by by_cases q : y < x <;> simp [q, tlt, flt]
theorem ic_le (x y : Int32) : if_icmp.holds .le x y = !decide (y < x) := by by_cases q : y < x <;> simp [q, tlt, flt]
theorem ic_eq (x y : Int32) : if_icmp.holds .eq x y = decide (x = y) := by by_cases q : x = y <;> simp [q, teq, feq]
theorem ic_ne (x y : Int32) : if_icmp.holds .ne x y = !decide (x = y) := by by_cases q : x = y <;> simp [q, teq, feq]
theorem i0_lt (x : Int32) : ifCond.holds .lt x = decide (x < 0) := (if0 _ _).trans (ic_lt x 0)
theorem i0_ge (x : Int32) : ifCond.holds .ge x = !decide (x < 0) := (if0 _ _).trans (ic_ge x 0)
theorem i0_gt (x : Int32) : ifCond.holds .gt x = decide (0 < x) := (if0 _ _).trans (ic_gt x 0)
theorem i0_le (x : Int32) : ifCond.holds .le x = !decide (0 < x) := (if0 _ _).trans (ic_le x 0)
theorem i0_eq (x : Int32) : ifCond.holds .eq x = decide (x = 0) := (if0 _ _).trans (ic_eq x 0)
theorem i0_ne (x : Int32) : ifCond.holds .ne x = !decide (x = 0) := (if0 _ _).trans (ic_ne x 0)
theorem lw_lt (x y : Int64) : lcmpW x y < 0 ↔ x < y := by rw [lcW]; exact Jvm.RoadKit.lc_lt x y
theorem lw_gt (x y : Int64) : 0 < lcmpW x y ↔ y < x := by rw [lcW]; exact Jvm.RoadKit.lc_gt x y
theorem lw_eq (x y : Int64) : lcmpW x y = 0 ↔ x = y := by rw [lcW]; exact Jvm.RoadKit.lc_eq x y
theorem l0_lt (x y : Int64) : ifCond.holds .lt (lcmpW x y) = decide (x < y) := (i0_lt _).trans (by simp [lw_lt])
theorem l0_ge (x y : Int64) : ifCond.holds .ge (lcmpW x y) = !decide (x < y) := (i0_ge _).trans (by simp [lw_lt])
theorem l0_gt (x y : Int64) : ifCond.holds .gt (lcmpW x y) = decide (y < x) := (i0_gt _).trans (by simp [lw_gt])
theorem l0_le (x y : Int64) : ifCond.holds .le (lcmpW x y) = !decide (y < x) := (i0_le _).trans (by simp [lw_gt])
theorem l0_eq (x y : Int64) : ifCond.holds .eq (lcmpW x y) = decide (x = y) := (i0_eq _).trans (by simp [lw_eq])
theorem l0_ne (x y : Int64) : ifCond.holds .ne (lcmpW x y) = !decide (x = y) := (i0_ne _).trans (by simp [lw_eq])
theorem b0_eq (b : Bool) : ifCond.holds .eq (b2i b) = !b := by cases b <;> decide
theorem b0_ne (b : Bool) : ifCond.holds .ne (b2i b) = b := by cases b <;> decide
theorem own_t {P : Prop} [Decidable P] {u : Bool} (q : u = decide P) (hp : P) : u = true := by rw [q]; exact decide_eq_true hp
theorem own_f {P : Prop} [Decidable P] {u : Bool} (q : u = decide P) (hp : ¬ P) : u = false := by rw [q]; exact decide_eq_false hp
theorem own_nt {P : Prop} [Decidable P] {u : Bool} (q : u = !decide P) (hp : ¬ P) : u = true := by rw [q]; simp [hp]
theorem own_nf {P : Prop} [Decidable P] {u : Bool} (q : u = !decide P) (hp : P) : u = false := by rw [q]; simp [hp]
theorem own_bt {u b : Bool} (q : u = b) (hp : b = true) : u = true := q.trans hp
theorem own_bf {u b : Bool} (q : u = b) (hp : b = false) : u = false := q.trans hp
theorem own_nbt {u b : Bool} (q : u = !b) (hp : b = false) : u = true := by rw [q, hp]; rfl
theorem own_nbf {u b : Bool} (q : u = !b) (hp : b = true) : u = false := by rw [q, hp]; rfl
theorem own_retN (X : Stand p l e R s m args below meth c T locs cells slots) (hx : p.tables.exec = Jvm.exec) {pc : Nat} {Ls : Array Slot} {z z' : Int32} {t : FieldType} {rest : List Value} (hret : meth.sig.returnType = some t) (ht : t = .boolean ∨ t = .byte ∨ t = .char ∨ t = .short) (hn : nar t z = z')
    (hd : decode c.code pc = .ok (.ireturn, 1)) {fs : List Frame} (hl : ∀ (f : JFrame) (acts : List Action), f.method = m → f.locked = none → f.entered = [] → (doReturn e (T.setTop f) acts (some (.int z'))).1 = T.setFrames fs) :
    Steps p.tables e below (T.setTop (mkF m pc Ls (.int z :: rest))) (T.setFrames fs) := by
  subst hn
  exact retN X hx hret ht hd hl
theorem own_nar_b2i (b : Bool) : nar .boolean (b2i b) = b2i b := by cases b <;> decide
theorem own_narrow_b2i (b : Bool) : narrow .boolean (.int (b2i b)) = .int (b2i b) := by cases b <;> rfl
theorem own_fits_b2i (b : Bool) : fits .boolean (.int (b2i b)) = true := by cases b <;> rfl
theorem own_nar_i2b (x : Int32) : nar .byte x.toInt8.toInt32 = x.toInt8.toInt32 := by simp [nar]
theorem own_lrem (x y : Int64) : x - x / y * y = x % y := by
  apply Int64.toInt_inj.mp
  have h1 := Int64.le_toInt (x % y)
  have h2 := Int64.toInt_lt (x % y)
  have e : x.toInt - y.toInt * x.toInt.tdiv y.toInt = x.toInt.tmod y.toInt := (Int.tmod_def _ _).symm
  rw [Int64.toInt_sub, Int64.toInt_mul, Int64.toInt_div, Int.bmod_mul_bmod, Int.sub_bmod_bmod, Int.mul_comm (x.toInt.tdiv y.toInt), e, ← Int64.toInt_mod]
  exact Int.bmod_eq_of_le_mul_two (by omega) (by omega)
/-- getfield by an entry that is resolved already -/
theorem own_getFR (X : Stand p l e R s m args below meth c T locs cells slots) (hx : p.tables.exec = Jvm.exec) (hZ : Z.Warmed39 s.vm) {own O n d : String} {index : Nat} (hown : s.vm.findClass own = some m.cls) (w : (Jvm.Cond.fieldRef own index O n d).before a0 Z = true)
    (eT : T.heap = h) {a : Addr} {v : Value} (F : Fld Z h a O n d v) {g : JFrame} (hg : g.method = m) {rest : List Value} (hs : g.stack = .ref a :: rest) (hd : decode c.code g.pc = .ok (.getfield index, 3)) : ∃ T', Stand p l e R s m args below meth c T' locs cells slots ∧ T'.heap = h ∧ ∀ target, Steps p.tables e below (T'.setTop { g with pc := g.pc + 3, stack := v :: rest }) target → Steps p.tables e below (T.setTop g) target := by
  have hZT : Z.Warmed39 T.vm := wtrans hZ X.warmed
  have w' := Cond.fieldRef_warmed39 hZT w
  have hcur : (Z.setVm T.vm).vm.findClass own = some m.cls := (X.warmed.alike.findClass own _).trans hown
  obtain ⟨c', k', i', f', h1, hready⟩ := Cond.fieldRef_spec (s := Z.setVm T.vm) hcur w'
  obtain ⟨cell, cf, k, i, f, g1, g2, g3, g4, -, -, g7⟩ := F
  obtain ⟨k2, hi, -⟩ := State.fieldFound?_setVm (s := Z) hZT.alike g2
  have q := Option.some.inj (h1.symm.trans hi)
  simp only [Prod.mk.injEq] at q
  obtain ⟨rfl, -, -, rfl⟩ := q
  exact ⟨T, X, eT, fun target kt => (X.getfieldR hx hg hready g3 hs (by rw [eT]; exact g1) g4 g7 hd (Steps.refl _)).trans kt⟩
/-- the case's words on statics and fields, at the start -/
theorem own_sx {C n d K : String} (w1 : (Jvm.Cond.initialized C).before args s = true) (w2 : (Jvm.Cond.laysStatic C n d).before args s = true) (q : (Jvm.Cond.exactly (Term.static C n d) K).value args s none s [] = some true) : ∃ a : Addr, (Term.static C n d).eval args s none [] s = some (.ref a) ∧ Sta s s.heap C n d (.ref a) ∧ Exa s s.heap a K := by
  obtain ⟨a, ev⟩ := exa_v q
  exact ⟨a, ev, Sta.start ev (Or.inr ⟨w1, w2⟩), Exa.start ev q⟩
theorem own_fi {t : Term} {a : Addr} {C n d : String} {k : Int32} (ev : t.eval args s none [] s = some (.ref a)) (q : (Jvm.Cond.eq (Term.field t C n d) (Term.int k)).value args s none s [] = some true) : Fld s s.heap a C n d (.int k) := by
  obtain ⟨x, y, h1, h2, h3, h4⟩ := cmp_v (Or.inl q)
  have h5 : y = .int k := (Option.some.inj (h2.symm.trans (Term.int_eval k)) : _)
  subst h5
  obtain ⟨z, rfl⟩ : ∃ z, x = .int z := h4
  have e2 := h1
  rw [fld_at ev] at h1
  simp [Cond.value, e2, h2] at q
  subst q
  exact Fld.start h1
theorem own_fx {t : Term} {a : Addr} {C n d K : String} (ev : t.eval args s none [] s = some (.ref a)) (q : (Jvm.Cond.exactly (Term.field t C n d) K).value args s none s [] = some true) : ∃ b : Addr, (Term.field t C n d).eval args s none [] s = some (.ref b) ∧ Fld s s.heap a C n d (.ref b) ∧ Exa s s.heap b K := by
  obtain ⟨b, ev2⟩ := exa_v q
  exact ⟨b, ev2, Fld.start ((fld_at ev).symm.trans ev2), Exa.start ev2 q⟩
/-- a class that the chain of superclasses doesn't meet: its own word is 'instantiable' -/
theorem own_ns_root {Z : State} {a0 : Array Value} {O K : String} {n : Nat} (w : (Jvm.Cond.noSuperclass O).before a0 Z = true) (wi : (Jvm.Cond.instantiable K n).before a0 Z = true) (hn : O ≠ K) : NS Z O K := by
  obtain ⟨c, k, h1, h2, h3, -, -⟩ := Cond.noSuperclass_spec w
  obtain ⟨t, kt, g1, -⟩ := Cond.instantiable_spec wi
  have ne := ids_ne h1 g1 hn
  refine ⟨c, t, h1, g1, fun fuel => ?_⟩
  cases fuel with
  | zero => rfl
  | succ f => simp [Vm.isSubclassAux, ne, h2, h3]
theorem own_ns_no {Z : State} {a0 : Array Value} {C S K : String} {n : Nat} (w : (Jvm.Cond.superclass C S).before a0 Z = true) (wi : (Jvm.Cond.instantiable K n).before a0 Z = true) (q : NS Z C K) (hn : C ≠ K) : ∃ c t, Z.vm.findClass C = some c ∧ Z.vm.findClass K = some t ∧ Z.vm.assignable c t = false := by
  obtain ⟨c, t, h0, g0, n3⟩ := q
  obtain ⟨p, k, kp, h1, h2, h3, h4, h5, -, h7⟩ := Cond.superclass_spec h0 w
  obtain ⟨t', kt, g1, g2, g3, g4, -, -⟩ := Cond.instantiable_spec wi
  cases g0.symm.trans g1
  have g5 : kt.isInterface = false := by simp only [Bool.or_eq_false_iff] at g4; exact g4.1
  have ne := ids_ne h0 g0 hn
  refine ⟨c, t, h0, g0, ?_⟩
  show Z.vm.assignableAux (255 + 1) c t = false
  simp [Vm.assignableAux, ne, h2, g2, h5, g3, g5, Vm.isSubclass, n3]
/-- a static's cell isn't written by one who writes objects alone -/
theorem own_sta_keep {Z : State} {h h' : Heap} {C n d : String} {v : Value} {ws : List Addr} (F : Sta Z h C n d v) (K : Keep h h' ws) (q : ∀ x ∈ ws, ∃ C', Exa Z h x C') : Sta Z h' C n d v := by
  obtain ⟨cf, i, k, f, st, cell, h1, h2, h3, h4, h5, h6, h7⟩ := F
  refine ⟨cf, i, k, f, st, cell, h1, h2, h3, h4, K.2.1 st cell h5 (fun r => ?_), h6, h7⟩
  obtain ⟨C', c', k', g1, -, -, g4, -⟩ := q st r
  rw [h5] at g1
  cases g1
  rw [h6] at g4
  cases g4
theorem own_ne32 {x y : Int32} (h : x ≠ y) : Value.int x ≠ Value.int y := fun q => h (Value.int.inj q)
end OwnKit
theorem pn_com_example_tenrec_tenrec_pool_RequestQueue : plainName "com/example/tenrec/tenrec/pool/RequestQueue" = true := by first | (simp [plainName, overriddenIn]; done) | decide +kernel
theorem ef_rm1 (m : MethodId) (x0 : Addr) : entryFrame m #[(.ref x0)] 1 = mkF m 0 #[.val (.ref x0)] [] := by first | (simp [entryFrame, mkF, argsToLocals, Value.category]; done) | rfl
theorem d1_0 : decode prog_34_method_1_code 0 = .ok (.aload_n 0, 1) := by decide +kernel
theorem d1_1 : decode prog_34_method_1_code 1 = .ok (.invokespecial 1, 3) := by decide +kernel
theorem d1_4 : decode prog_34_method_1_code 4 = .ok (.aload_n 0, 1) := by decide +kernel
theorem d1_5 : decode prog_34_method_1_code 5 = .ok (.bipush 8, 2) := by decide +kernel
theorem d1_7 : decode prog_34_method_1_code 7 = .ok (.newarray .double, 2) := by decide +kernel
theorem d1_9 : decode prog_34_method_1_code 9 = .ok (.putfield 9, 3) := by decide +kernel
theorem d1_12 : decode prog_34_method_1_code 12 = .ok (.aload_n 0, 1) := by decide +kernel
theorem d1_13 : decode prog_34_method_1_code 13 = .ok (.bipush 8, 2) := by decide +kernel
theorem d1_15 : decode prog_34_method_1_code 15 = .ok (.newarray .double, 2) := by decide +kernel
theorem d1_17 : decode prog_34_method_1_code 17 = .ok (.putfield 13, 3) := by decide +kernel
theorem d1_20 : decode prog_34_method_1_code 20 = .ok (.return_, 1) := by decide +kernel
def Q1 (Z : State) (a1 : Addr) (h0 : Heap) (n0 : Nat) (v : Option Value) (h : Heap) (L : List Loc) : Prop := ∃ (b1 b2 : Addr) (k1 k2 : ClassId), h0.size ≤ b1 ∧ h0.size ≤ b2 ∧ b1 ≠ b2 ∧ v = none ∧ Fr n0 L ∧ Keep h0 h [a1] ∧ Exa Z h a1 "com/example/tenrec/tenrec/pool/RequestQueue" ∧ Fld Z h a1 "com/example/tenrec/tenrec/pool/RequestQueue" "arrivals" "[D" (.ref b1) ∧ Fld Z h a1 "com/example/tenrec/tenrec/pool/RequestQueue" "sizes" "[D" (.ref b2) ∧ Fld Z h a1 "com/example/tenrec/tenrec/pool/RequestQueue" "count" "I" (.int (0 : Int32)) ∧ Fld Z h a1 "com/example/tenrec/tenrec/pool/RequestQueue" "head" "I" (.int (0 : Int32)) ∧ Arv Z h b1 k1 .double (8 : Int32) [(.double (0 : UInt64)), (.double (0 : UInt64)), (.double (0 : UInt64)), (.double (0 : UInt64)), (.double (0 : UInt64)), (.double (0 : UInt64)), (.double (0 : UInt64)), (.double (0 : UInt64))] (.double (0 : UInt64)) ∧ Arv Z h b2 k2 .double (8 : Int32) [(.double (0 : UInt64)), (.double (0 : UInt64)), (.double (0 : UInt64)), (.double (0 : UInt64)), (.double (0 : UInt64)), (.double (0 : UInt64)), (.double (0 : UInt64)), (.double (0 : UInt64))] (.double (0 : UInt64))
set_option maxRecDepth 65536 in
set_option maxHeartbeats 40000000 in
theorem rm1 (l : Launch) (Z : State) (a0 : Array Value) (hw : ∀ d ∈ tables_1, d.before a0 Z = true) (ws : List Jvm.Cond) (a1 : Addr) (h0 : Heap) (n0 : Nat) (Z0 : n0 ≤ h0.size) (g_a1 : n0 ≤ a1) (E_a : Exa Z h0 a1 "com/example/tenrec/tenrec/pool/RequestQueue") (F_arrivals : Fld Z h0 a1 "com/example/tenrec/tenrec/pool/RequestQueue" "arrivals" "[D" .null) (F_sizes : Fld Z h0 a1 "com/example/tenrec/tenrec/pool/RequestQueue" "sizes" "[D" .null) (F_count : Fld Z h0 a1 "com/example/tenrec/tenrec/pool/RequestQueue" "count" "I" (.int (0 : Int32))) (F_head : Fld Z h0 a1 "com/example/tenrec/tenrec/pool/RequestQueue" "head" "I" (.int (0 : Int32))) :
    OMet l Z (⟨"com/example/tenrec/tenrec/pool/RequestQueue", "<init>", "()V"⟩ : MethodName) prog_34_method_1_code 1 none ws ({ frames := 1, cells := 2, slots := 16, locals := 13 } : Room) #[(.ref a1)] h0 (Q1 Z a1 h0 n0) := by
  refine own_body (plainFor_of_name pn_com_example_tenrec_tenrec_pool_RequestQueue) ?_
  intro p e s m below meth c s₁ Bd hml0 hZ e0
  have hx := Bd.exec
  have hby := Bd.bytes
  have hml : c.maxLocals = 1 := hml0
  have hown : s.vm.findClass "com/example/tenrec/tenrec/pool/RequestQueue" = some m.cls := findClass_of_methodNamed Bd.named
  have hnm := (name_of_methodNamed Bd.named Bd.method).1
  have X0 : Stand p l e ({ frames := 1, cells := 2, slots := 16, locals := 13 } : Room) s m #[(.ref a1)] below meth c s₁ [] 0 0 := Stand.of_body Bd
  have N0 := Fr.nil n0
  have K0 : Keep h0 h0 [a1] := Keep.refl _ _
  rw [ef_rm1]
  obtain ⟨T101, X101, e101, st101⟩ := initO X0 hx hZ hown (hw _ (List.mem_of_getElem? (i := 6) rfl)) (hw _ (List.mem_of_getElem? (i := 7) rfl)) (hw _ (List.mem_of_getElem? (i := 8) rfl)) e0 (g := (mkF m 1 #[.val (.ref a1)] [(.ref a1)])) rfl (by rw [hml]; rfl) rfl (hb hby d1_1) (by decide) (W := 0) (by show 2 * 0 + _ ≤ _; exact Nat.le_of_eq rfl) (by decide)
  obtain ⟨T102, h102, k102, X102, e102, E102, A102, st102⟩ := newP X101 hx hZ (hw _ (List.mem_of_getElem? (i := 9) rfl)) e101 (g := (mkF m 7 #[.val (.ref a1)] [(.int (8 : Int32)), (.ref a1)])) rfl (hb hby d1_7) rfl (by decide) (cap := 8) (by decide) (by decide) (by decide) (by decide)
  obtain ⟨b102, g102⟩ : ∃ z, z = h0.size := ⟨_, rfl⟩
  have g_b102 : n0 ≤ b102 := Nat.le_trans Z0 (Nat.le_of_eq g102.symm)
  have sz_b102 : h0.size ≤ b102 := Nat.le_trans K0.1 (Nat.le_of_eq g102.symm)
  rw [← g102] at A102 st102
  have K102 : Keep h0 h102 [a1] := K0.ext E102
  have V_b102 : Arv Z h102 b102 k102 .double (8 : Int32) [(.double (0 : UInt64)), (.double (0 : UInt64)), (.double (0 : UInt64)), (.double (0 : UInt64)), (.double (0 : UInt64)), (.double (0 : UInt64)), (.double (0 : UInt64)), (.double (0 : UInt64))] (.double (0 : UInt64)) := (Arv.new A102 (by decide)).pad (pad_rep [] (.double (0 : UInt64)) 8)
  have f103 := (F_arrivals.ext E102)
  have f104 := (E_a.ext E102)
  obtain ⟨T105, h105, X105, e105, W105, st105⟩ := putF X102 hx hZ hown (host := "") (Or.inl (hw _ (List.mem_of_getElem? (i := 10) rfl))) Via.refl e102 f103 f104 (Or.inl (hw _ (List.mem_of_getElem? (i := 11) rfl))) (hw _ (List.mem_of_getElem? (i := 1) rfl)) (ty := (.array .double)) (by decide) rfl rfl (g := (mkF m 9 #[.val (.ref a1)] [(.ref b102), (.ref a1)])) rfl rfl (hb hby d1_9)
  have Fw105 := f103.same W105
  have K105 : Keep h0 h105 [a1] := K102.wr W105 (Or.inl (List.mem_of_getElem? (i := 0) rfl))
  have N105 := Fr.snoc X105 N0 g_a1
  obtain ⟨T106, h106, k106, X106, e106, E106, A106, st106⟩ := newP X105 hx hZ (hw _ (List.mem_of_getElem? (i := 9) rfl)) e105 (g := (mkF m 15 #[.val (.ref a1)] [(.int (8 : Int32)), (.ref a1)])) rfl (hb hby d1_15) rfl (by decide) (cap := 8) (by decide) (by decide) (by decide) (by decide)
  obtain ⟨b106, g106⟩ : ∃ z, z = h105.size := ⟨_, rfl⟩
  have z107 : n0 ≤ h105.size := (Nat.le_trans (Nat.le_trans Z0 E102.1) (Keep.of_wr W105).1)
  have g_b106 : n0 ≤ b106 := Nat.le_trans z107 (Nat.le_of_eq g106.symm)
  have sz_b106 : h0.size ≤ b106 := Nat.le_trans K105.1 (Nat.le_of_eq g106.symm)
  rw [← g106] at A106 st106
  have K106 : Keep h0 h106 [a1] := K105.ext E106
  have V_b106 : Arv Z h106 b106 k106 .double (8 : Int32) [(.double (0 : UInt64)), (.double (0 : UInt64)), (.double (0 : UInt64)), (.double (0 : UInt64)), (.double (0 : UInt64)), (.double (0 : UInt64)), (.double (0 : UInt64)), (.double (0 : UInt64))] (.double (0 : UInt64)) := (Arv.new A106 (by decide)).pad (pad_rep [] (.double (0 : UInt64)) 8)
  have f108 := (((F_sizes.ext E102).other W105 (Or.inr (slot_ne (Or.inl (hw _ (List.mem_of_getElem? (i := 13) rfl))) (Or.inl (hw _ (List.mem_of_getElem? (i := 11) rfl))) (by decide) (t := (.array .double)) (t' := (.array .double)) (by decide) (by decide)))).ext E106)
  have f109 := ((f104.wr W105).ext E106)
  obtain ⟨T110, h110, X110, e110, W110, st110⟩ := putF X106 hx hZ hown (host := "") (Or.inl (hw _ (List.mem_of_getElem? (i := 12) rfl))) Via.refl e106 f108 f109 (Or.inl (hw _ (List.mem_of_getElem? (i := 13) rfl))) (hw _ (List.mem_of_getElem? (i := 1) rfl)) (ty := (.array .double)) (by decide) rfl rfl (g := (mkF m 17 #[.val (.ref a1)] [(.ref b106), (.ref a1)])) rfl rfl (hb hby d1_17)
  have Fw110 := f108.same W110
  have K110 : Keep h0 h110 [a1] := K106.wr W110 (Or.inl (List.mem_of_getElem? (i := 0) rfl))
  have N110 := Fr.snoc X110 N105 g_a1
  have f111 := (f109.wr W110)
  have f112 := ((Fw105.ext E106).other W110 (Or.inr (slot_ne (Or.inl (hw _ (List.mem_of_getElem? (i := 11) rfl))) (Or.inl (hw _ (List.mem_of_getElem? (i := 13) rfl))) (by decide) (t := (.array .double)) (t' := (.array .double)) (by decide) (by decide))))
  have f113 := ((((F_count.ext E102).other W105 (Or.inr (slot_ne (Or.inl (hw _ (List.mem_of_getElem? (i := 24) rfl))) (Or.inl (hw _ (List.mem_of_getElem? (i := 11) rfl))) (by decide) (t := .int) (t' := (.array .double)) (by decide) (by decide)))).ext E106).other W110 (Or.inr (slot_ne (Or.inl (hw _ (List.mem_of_getElem? (i := 24) rfl))) (Or.inl (hw _ (List.mem_of_getElem? (i := 13) rfl))) (by decide) (t := .int) (t' := (.array .double)) (by decide) (by decide))))
  have f114 := ((((F_head.ext E102).other W105 (Or.inr (slot_ne (Or.inl (hw _ (List.mem_of_getElem? (i := 26) rfl))) (Or.inl (hw _ (List.mem_of_getElem? (i := 11) rfl))) (by decide) (t := .int) (t' := (.array .double)) (by decide) (by decide)))).ext E106).other W110 (Or.inr (slot_ne (Or.inl (hw _ (List.mem_of_getElem? (i := 26) rfl))) (Or.inl (hw _ (List.mem_of_getElem? (i := 13) rfl))) (by decide) (t := .int) (t' := (.array .double)) (by decide) (by decide))))
  have f115 := (((V_b102.other W105 (Ne.symm (Nat.ne_of_lt (Nat.lt_of_lt_of_le E_a.lt (Nat.le_of_eq g102.symm))))).ext E106).other W110 (Ne.symm (Nat.ne_of_lt (Nat.lt_of_lt_of_le E_a.lt (Nat.le_of_eq g102.symm)))))
  have f116 := (V_b106.other W110 (Ne.symm (Nat.ne_of_lt (Nat.lt_of_lt_of_le (Nat.lt_of_lt_of_le (Nat.lt_of_lt_of_le E_a.lt E102.1) (Keep.of_wr W105).1) (Nat.le_of_eq g106.symm)))))
  refine Gl.fin X110 (v := none) (fun _ => rfl) Bd.notSynchronized ?_ e110 (by decide) (by decide) (fun fs hr => ?_)
  · exact ⟨_, _, _, _, sz_b102, sz_b106, (Nat.ne_of_lt (Nat.lt_of_lt_of_le (Nat.lt_of_lt_of_le V_b102.lt (Keep.of_wr W105).1) (Nat.le_of_eq g106.symm))), rfl, N110, K110, f111, f112, Fw110, f113, f114, f115, f116⟩
  · show Steps p.tables e below (s₁.setTop (mkF m 0 #[.val (.ref a1)] [])) _
    refine XS.aloadN X0.here hx rfl (hb hby d1_0) rfl rfl ?_
    show Steps p.tables e below (s₁.setTop (mkF m 1 #[.val (.ref a1)] [(.ref a1)])) _
    refine st101 _ ?_
    show Steps p.tables e below (T101.setTop (mkF m 4 #[.val (.ref a1)] [])) _
    refine XS.aloadN X101.here hx rfl (hb hby d1_4) rfl rfl ?_
    show Steps p.tables e below (T101.setTop (mkF m 5 #[.val (.ref a1)] [(.ref a1)])) _
    refine XS.bipush X101.here hx rfl (hb hby d1_5) ?_
    show Steps p.tables e below (T101.setTop (mkF m 7 #[.val (.ref a1)] [(.int (8 : Int32)), (.ref a1)])) _
    refine st102 _ ?_
    show Steps p.tables e below (T102.setTop (mkF m 9 #[.val (.ref a1)] [(.ref b102), (.ref a1)])) _
    refine st105 _ ?_
    show Steps p.tables e below (T105.setTop (mkF m 12 #[.val (.ref a1)] [])) _
    refine XS.aloadN X105.here hx rfl (hb hby d1_12) rfl rfl ?_
    show Steps p.tables e below (T105.setTop (mkF m 13 #[.val (.ref a1)] [(.ref a1)])) _
    refine XS.bipush X105.here hx rfl (hb hby d1_13) ?_
    show Steps p.tables e below (T105.setTop (mkF m 15 #[.val (.ref a1)] [(.int (8 : Int32)), (.ref a1)])) _
    refine st106 _ ?_
    show Steps p.tables e below (T106.setTop (mkF m 17 #[.val (.ref a1)] [(.ref b106), (.ref a1)])) _
    refine st110 _ ?_
    show Steps p.tables e below (T110.setTop (mkF m 20 #[.val (.ref a1)] [])) _
    exact X110.returnOut hx Bd.returns (hb hby d1_20) hr
theorem ef_rm6 (m : MethodId) (x0 : Addr) : entryFrame m #[(.ref x0)] 1 = mkF m 0 #[.val (.ref x0)] [] := by first | (simp [entryFrame, mkF, argsToLocals, Value.category]; done) | rfl
theorem d6_0 : decode prog_34_method_4_code 0 = .ok (.aload_n 0, 1) := by decide +kernel
theorem d6_1 : decode prog_34_method_4_code 1 = .ok (.getfield 16, 3) := by decide +kernel
theorem d6_4 : decode prog_34_method_4_code 4 = .ok (.ireturn, 1) := by decide +kernel
def Q6 (Z : State) (a1 : Addr) (w1 : Int32) (h0 : Heap) (n0 : Nat) (v : Option Value) (h : Heap) (L : List Loc) : Prop := v = some (.int w1) ∧ Fr n0 L ∧ h = h0
set_option maxRecDepth 65536 in
set_option maxHeartbeats 40000000 in
theorem rm6 (l : Launch) (Z : State) (a0 : Array Value) (hw : ∀ d ∈ tables_1, d.before a0 Z = true) (ws : List Jvm.Cond) (a1 : Addr) (w1 : Int32) (h0 : Heap) (n0 : Nat) (Z0 : n0 ≤ h0.size) (F_c : Fld Z h0 a1 "com/example/tenrec/tenrec/pool/RequestQueue" "count" "I" (.int w1)) :
    OMet l Z (⟨"com/example/tenrec/tenrec/pool/RequestQueue", "size", "()I"⟩ : MethodName) prog_34_method_4_code 1 (some .int) ws ({ frames := 0, cells := 0, slots := 0, locals := 0 } : Room) #[(.ref a1)] h0 (Q6 Z a1 w1 h0 n0) := by
  refine own_body (plainFor_of_name pn_com_example_tenrec_tenrec_pool_RequestQueue) ?_
  intro p e s m below meth c s₁ Bd hml0 hZ e0
  have hx := Bd.exec
  have hby := Bd.bytes
  have hml : c.maxLocals = 1 := hml0
  have hown : s.vm.findClass "com/example/tenrec/tenrec/pool/RequestQueue" = some m.cls := findClass_of_methodNamed Bd.named
  have hnm := (name_of_methodNamed Bd.named Bd.method).1
  have X0 : Stand p l e ({ frames := 0, cells := 0, slots := 0, locals := 0 } : Room) s m #[(.ref a1)] below meth c s₁ [] 0 0 := Stand.of_body Bd
  have N0 := Fr.nil n0
  have K0 : Keep h0 h0 [] := Keep.refl _ _
  rw [ef_rm6]
  obtain ⟨T101, X101, e101, st101⟩ := getF X0 hx hZ hown (host := "") (Or.inl (hw _ (List.mem_of_getElem? (i := 23) rfl))) Via.refl e0 F_c (g := (mkF m 1 #[.val (.ref a1)] [(.ref a1)])) rfl rfl (hb hby d6_1)
  refine Gl.fin X101 (v := some (.int w1)) (fun h => by rw [Bd.returns] at h; cases h) Bd.notSynchronized ?_ e101 (by decide) (by decide) (fun fs hr => ?_)
  · exact ⟨rfl, N0, rfl⟩
  · show Steps p.tables e below (s₁.setTop (mkF m 0 #[.val (.ref a1)] [])) _
    refine XS.aloadN X0.here hx rfl (hb hby d6_0) rfl rfl ?_
    show Steps p.tables e below (s₁.setTop (mkF m 1 #[.val (.ref a1)] [(.ref a1)])) _
    refine st101 _ ?_
    show Steps p.tables e below (T101.setTop (mkF m 4 #[.val (.ref a1)] [(.int w1)])) _
    exact own_retI X101 hx Bd.returns (hb hby d6_4) hr
theorem ef_rm7 (m : MethodId) (x0 : Addr) : entryFrame m #[(.ref x0)] 1 = mkF m 0 #[.val (.ref x0)] [] := by first | (simp [entryFrame, mkF, argsToLocals, Value.category]; done) | rfl
theorem d7_0 : decode prog_34_method_3_code 0 = .ok (.aload_n 0, 1) := by decide +kernel
theorem d7_1 : decode prog_34_method_3_code 1 = .ok (.getfield 16, 3) := by decide +kernel
theorem d7_4 : decode prog_34_method_3_code 4 = .ok (.ifCond .ne 7, 3) := by decide +kernel
theorem d7_7 : decode prog_34_method_3_code 7 = .ok (.iconst 1, 1) := by decide +kernel
theorem d7_8 : decode prog_34_method_3_code 8 = .ok (.goto 4, 3) := by decide +kernel
theorem d7_12 : decode prog_34_method_3_code 12 = .ok (.ireturn, 1) := by decide +kernel
theorem d7_11 : decode prog_34_method_3_code 11 = .ok (.iconst 0, 1) := by decide +kernel
def Q7 (Z : State) (a1 : Addr) (w1 : Int32) (h0 : Heap) (n0 : Nat) (v : Option Value) (h : Heap) (L : List Loc) : Prop := v = some (.int (b2i (decide (w1 = 0)))) ∧ Fr n0 L ∧ h = h0
set_option maxRecDepth 65536 in
set_option maxHeartbeats 40000000 in
theorem rm7 (l : Launch) (Z : State) (a0 : Array Value) (hw : ∀ d ∈ tables_1, d.before a0 Z = true) (ws : List Jvm.Cond) (a1 : Addr) (w1 : Int32) (h0 : Heap) (n0 : Nat) (Z0 : n0 ≤ h0.size) (F_c : Fld Z h0 a1 "com/example/tenrec/tenrec/pool/RequestQueue" "count" "I" (.int w1)) :
    OMet l Z (⟨"com/example/tenrec/tenrec/pool/RequestQueue", "isEmpty", "()Z"⟩ : MethodName) prog_34_method_3_code 1 (some .boolean) ws ({ frames := 0, cells := 0, slots := 0, locals := 0 } : Room) #[(.ref a1)] h0 (Q7 Z a1 w1 h0 n0) := by
  refine own_body (plainFor_of_name pn_com_example_tenrec_tenrec_pool_RequestQueue) ?_
  intro p e s m below meth c s₁ Bd hml0 hZ e0
  have hx := Bd.exec
  have hby := Bd.bytes
  have hml : c.maxLocals = 1 := hml0
  have hown : s.vm.findClass "com/example/tenrec/tenrec/pool/RequestQueue" = some m.cls := findClass_of_methodNamed Bd.named
  have hnm := (name_of_methodNamed Bd.named Bd.method).1
  have X0 : Stand p l e ({ frames := 0, cells := 0, slots := 0, locals := 0 } : Room) s m #[(.ref a1)] below meth c s₁ [] 0 0 := Stand.of_body Bd
  have N0 := Fr.nil n0
  have K0 : Keep h0 h0 [] := Keep.refl _ _
  rw [ef_rm7]
  obtain ⟨T101, X101, e101, st101⟩ := getF X0 hx hZ hown (host := "") (Or.inl (hw _ (List.mem_of_getElem? (i := 23) rfl))) Via.refl e0 F_c (g := (mkF m 1 #[.val (.ref a1)] [(.ref a1)])) rfl rfl (hb hby d7_1)
  refine Gl.pre (S' := T101.setTop (mkF m 4 #[.val (.ref a1)] [(.int w1)])) (fun t kt => ?_) ?_
  · show Steps p.tables e below (s₁.setTop (mkF m 0 #[.val (.ref a1)] [])) _
    refine XS.aloadN X0.here hx rfl (hb hby d7_0) rfl rfl ?_
    show Steps p.tables e below (s₁.setTop (mkF m 1 #[.val (.ref a1)] [(.ref a1)])) _
    refine st101 _ ?_
    exact kt
  by_cases hc4 : w1 = (0 : Int32)
  · refine Gl.fin X101 (v := some (.int (1 : Int32))) (fun h => by rw [Bd.returns] at h; cases h) Bd.notSynchronized ?_ e101 (by decide) (by decide) (fun fs hr => ?_)
    · exact ⟨by simp [b2i, hc4], N0, rfl⟩
    · show Steps p.tables e below (T101.setTop (mkF m 4 #[.val (.ref a1)] [(.int w1)])) _
      refine XS.ifNo X101.here hx rfl (hb hby d7_4) rfl (own_nf (i0_ne _) hc4) ?_
      show Steps p.tables e below (T101.setTop (mkF m 7 #[.val (.ref a1)] [])) _
      refine XS.iconst X101.here hx rfl (hb hby d7_7) ?_
      show Steps p.tables e below (T101.setTop (mkF m 8 #[.val (.ref a1)] [(.int (1 : Int32))])) _
      refine XS.goto X101.here hx rfl (pc0 := 8) (pc' := 12) rfl (hb hby d7_8) (by decide) (by decide) ?_
      show Steps p.tables e below (T101.setTop (mkF m 12 #[.val (.ref a1)] [(.int (1 : Int32))])) _
      exact retN X101 hx (t := .boolean) Bd.returns (by simp) (hb hby d7_12) hr
  · refine Gl.fin X101 (v := some (.int (0 : Int32))) (fun h => by rw [Bd.returns] at h; cases h) Bd.notSynchronized ?_ e101 (by decide) (by decide) (fun fs hr => ?_)
    · exact ⟨by simp [b2i, hc4], N0, rfl⟩
    · show Steps p.tables e below (T101.setTop (mkF m 4 #[.val (.ref a1)] [(.int w1)])) _
      refine XS.ifYes X101.here hx rfl (pc0 := 4) (pc' := 11) rfl (hb hby d7_4) rfl (own_nt (i0_ne _) hc4) (by decide) (by decide) ?_
      show Steps p.tables e below (T101.setTop (mkF m 11 #[.val (.ref a1)] [])) _
      refine XS.iconst X101.here hx rfl (hb hby d7_11) ?_
      show Steps p.tables e below (T101.setTop (mkF m 12 #[.val (.ref a1)] [(.int (0 : Int32))])) _
      exact retN X101 hx (t := .boolean) Bd.returns (by simp) (hb hby d7_12) hr
theorem ef_rm8_0 (m : MethodId) (x0 : Addr) : entryFrame m #[(.ref x0)] 1 = mkF m 0 #[.val (.ref x0)] [] := by first | (simp [entryFrame, mkF, argsToLocals, Value.category]; done) | rfl
theorem d8_0 : decode prog_34_method_5_code 0 = .ok (.aload_n 0, 1) := by decide +kernel
theorem d8_1 : decode prog_34_method_5_code 1 = .ok (.getfield 9, 3) := by decide +kernel
theorem d8_4 : decode prog_34_method_5_code 4 = .ok (.aload_n 0, 1) := by decide +kernel
theorem d8_5 : decode prog_34_method_5_code 5 = .ok (.getfield 23, 3) := by decide +kernel
theorem d8_8 : decode prog_34_method_5_code 8 = .ok (.daload, 1) := by decide +kernel
theorem d8_9 : decode prog_34_method_5_code 9 = .ok (.dreturn, 1) := by decide +kernel
def Q8_0 (Z : State) (a1 : Addr) (b1 : Addr) (k1 : ClassId) (x0 : UInt64) (x1 : UInt64) (x2 : UInt64) (x3 : UInt64) (x4 : UInt64) (x5 : UInt64) (x6 : UInt64) (x7 : UInt64) (h0 : Heap) (n0 : Nat) (v : Option Value) (h : Heap) (L : List Loc) : Prop := v = some (.double x0) ∧ Fr n0 L ∧ h = h0
set_option maxRecDepth 65536 in
set_option maxHeartbeats 40000000 in
theorem rm8_0 (l : Launch) (Z : State) (a0 : Array Value) (hw : ∀ d ∈ tables_1, d.before a0 Z = true) (ws : List Jvm.Cond) (a1 : Addr) (b1 : Addr) (k1 : ClassId) (x0 : UInt64) (x1 : UInt64) (x2 : UInt64) (x3 : UInt64) (x4 : UInt64) (x5 : UInt64) (x6 : UInt64) (x7 : UInt64) (h0 : Heap) (n0 : Nat) (Z0 : n0 ≤ h0.size) (F_f : Fld Z h0 a1 "com/example/tenrec/tenrec/pool/RequestQueue" "arrivals" "[D" (.ref b1)) (F_h : Fld Z h0 a1 "com/example/tenrec/tenrec/pool/RequestQueue" "head" "I" (.int (0 : Int32))) (V_f : Arv Z h0 b1 k1 .double (8 : Int32) [(.double x0), (.double x1), (.double x2), (.double x3), (.double x4), (.double x5), (.double x6), (.double x7)] (.double (0 : UInt64))) :
    OMet l Z (⟨"com/example/tenrec/tenrec/pool/RequestQueue", "firstArrival", "()D"⟩ : MethodName) prog_34_method_5_code 1 (some .double) ws ({ frames := 0, cells := 0, slots := 0, locals := 0 } : Room) #[(.ref a1)] h0 (Q8_0 Z a1 b1 k1 x0 x1 x2 x3 x4 x5 x6 x7 h0 n0) := by
  refine own_body (plainFor_of_name pn_com_example_tenrec_tenrec_pool_RequestQueue) ?_
  intro p e s m below meth c s₁ Bd hml0 hZ e0
  have hx := Bd.exec
  have hby := Bd.bytes
  have hml : c.maxLocals = 1 := hml0
  have hown : s.vm.findClass "com/example/tenrec/tenrec/pool/RequestQueue" = some m.cls := findClass_of_methodNamed Bd.named
  have hnm := (name_of_methodNamed Bd.named Bd.method).1
  have X0 : Stand p l e ({ frames := 0, cells := 0, slots := 0, locals := 0 } : Room) s m #[(.ref a1)] below meth c s₁ [] 0 0 := Stand.of_body Bd
  have N0 := Fr.nil n0
  have K0 : Keep h0 h0 [] := Keep.refl _ _
  rw [ef_rm8_0]
  obtain ⟨T101, X101, e101, st101⟩ := getF X0 hx hZ hown (host := "") (Or.inl (hw _ (List.mem_of_getElem? (i := 10) rfl))) Via.refl e0 F_f (g := (mkF m 1 #[.val (.ref a1)] [(.ref a1)])) rfl rfl (hb hby d8_1)
  obtain ⟨T102, X102, e102, st102⟩ := getF X101 hx hZ hown (host := "") (Or.inl (hw _ (List.mem_of_getElem? (i := 25) rfl))) Via.refl e101 F_h (g := (mkF m 5 #[.val (.ref a1)] [(.ref a1), (.ref b1)])) rfl rfl (hb hby d8_5)
  obtain ⟨cl103, Ar103, qa103, Sa103, Na103, Ha103, Ga103⟩ := id V_f
  have hin103 : ¬ ((0 : Int32) < 0 ∨ cl103.slots.size ≤ ((0 : Int32)).toNatClampNeg) := inb_of Sa103 ⟨by decide, by decide⟩
  have hat103 := Ha103.at (v := (.double x0)) hin103 rfl
  refine Gl.fin X102 (v := some (.double x0)) (fun h => by rw [Bd.returns] at h; cases h) Bd.notSynchronized ?_ e102 (by decide) (by decide) (fun fs hr => ?_)
  · exact ⟨rfl, N0, rfl⟩
  · show Steps p.tables e below (s₁.setTop (mkF m 0 #[.val (.ref a1)] [])) _
    refine XS.aloadN X0.here hx rfl (hb hby d8_0) rfl rfl ?_
    show Steps p.tables e below (s₁.setTop (mkF m 1 #[.val (.ref a1)] [(.ref a1)])) _
    refine st101 _ ?_
    show Steps p.tables e below (T101.setTop (mkF m 4 #[.val (.ref a1)] [(.ref b1)])) _
    refine XS.aloadN X101.here hx rfl (hb hby d8_4) rfl rfl ?_
    show Steps p.tables e below (T101.setTop (mkF m 5 #[.val (.ref a1)] [(.ref a1), (.ref b1)])) _
    refine st102 _ ?_
    show Steps p.tables e below (T102.setTop (mkF m 8 #[.val (.ref a1)] [(.int (0 : Int32)), (.ref b1)])) _
    refine X102.daload hx (j := (0 : Int32)) (v := (.double x0)) (own_hc e102 Ar103.1) (State.isArrayOf_alike hZ.alike Ar103.2.1) Ar103.2.2 hin103 hat103 (g := (mkF m 8 #[.val (.ref a1)] [(.int (0 : Int32)), (.ref b1)])) rfl rfl (hb hby d8_8) _ ?_
    show Steps p.tables e below (T102.setTop (mkF m 9 #[.val (.ref a1)] [(.double x0)])) _
    exact own_retD X102 hx Bd.returns (hb hby d8_9) hr
theorem ef_rm8_1 (m : MethodId) (x0 : Addr) : entryFrame m #[(.ref x0)] 1 = mkF m 0 #[.val (.ref x0)] [] := by first | (simp [entryFrame, mkF, argsToLocals, Value.category]; done) | rfl
def Q8_1 (Z : State) (a1 : Addr) (b1 : Addr) (k1 : ClassId) (x0 : UInt64) (x1 : UInt64) (x2 : UInt64) (x3 : UInt64) (x4 : UInt64) (x5 : UInt64) (x6 : UInt64) (x7 : UInt64) (h0 : Heap) (n0 : Nat) (v : Option Value) (h : Heap) (L : List Loc) : Prop := v = some (.double x1) ∧ Fr n0 L ∧ h = h0
set_option maxRecDepth 65536 in
set_option maxHeartbeats 40000000 in
theorem rm8_1 (l : Launch) (Z : State) (a0 : Array Value) (hw : ∀ d ∈ tables_1, d.before a0 Z = true) (ws : List Jvm.Cond) (a1 : Addr) (b1 : Addr) (k1 : ClassId) (x0 : UInt64) (x1 : UInt64) (x2 : UInt64) (x3 : UInt64) (x4 : UInt64) (x5 : UInt64) (x6 : UInt64) (x7 : UInt64) (h0 : Heap) (n0 : Nat) (Z0 : n0 ≤ h0.size) (F_f : Fld Z h0 a1 "com/example/tenrec/tenrec/pool/RequestQueue" "arrivals" "[D" (.ref b1)) (F_h : Fld Z h0 a1 "com/example/tenrec/tenrec/pool/RequestQueue" "head" "I" (.int (1 : Int32))) (V_f : Arv Z h0 b1 k1 .double (8 : Int32) [(.double x0), (.double x1), (.double x2), (.double x3), (.double x4), (.double x5), (.double x6), (.double x7)] (.double (0 : UInt64))) :
    OMet l Z (⟨"com/example/tenrec/tenrec/pool/RequestQueue", "firstArrival", "()D"⟩ : MethodName) prog_34_method_5_code 1 (some .double) ws ({ frames := 0, cells := 0, slots := 0, locals := 0 } : Room) #[(.ref a1)] h0 (Q8_1 Z a1 b1 k1 x0 x1 x2 x3 x4 x5 x6 x7 h0 n0) := by
  refine own_body (plainFor_of_name pn_com_example_tenrec_tenrec_pool_RequestQueue) ?_
  intro p e s m below meth c s₁ Bd hml0 hZ e0
  have hx := Bd.exec
  have hby := Bd.bytes
  have hml : c.maxLocals = 1 := hml0
  have hown : s.vm.findClass "com/example/tenrec/tenrec/pool/RequestQueue" = some m.cls := findClass_of_methodNamed Bd.named
  have hnm := (name_of_methodNamed Bd.named Bd.method).1
  have X0 : Stand p l e ({ frames := 0, cells := 0, slots := 0, locals := 0 } : Room) s m #[(.ref a1)] below meth c s₁ [] 0 0 := Stand.of_body Bd
  have N0 := Fr.nil n0
  have K0 : Keep h0 h0 [] := Keep.refl _ _
  rw [ef_rm8_1]
  obtain ⟨T101, X101, e101, st101⟩ := getF X0 hx hZ hown (host := "") (Or.inl (hw _ (List.mem_of_getElem? (i := 10) rfl))) Via.refl e0 F_f (g := (mkF m 1 #[.val (.ref a1)] [(.ref a1)])) rfl rfl (hb hby d8_1)
  obtain ⟨T102, X102, e102, st102⟩ := getF X101 hx hZ hown (host := "") (Or.inl (hw _ (List.mem_of_getElem? (i := 25) rfl))) Via.refl e101 F_h (g := (mkF m 5 #[.val (.ref a1)] [(.ref a1), (.ref b1)])) rfl rfl (hb hby d8_5)
  obtain ⟨cl103, Ar103, qa103, Sa103, Na103, Ha103, Ga103⟩ := id V_f
  have hin103 : ¬ ((1 : Int32) < 0 ∨ cl103.slots.size ≤ ((1 : Int32)).toNatClampNeg) := inb_of Sa103 ⟨by decide, by decide⟩
  have hat103 := Ha103.at (v := (.double x1)) hin103 rfl
  refine Gl.fin X102 (v := some (.double x1)) (fun h => by rw [Bd.returns] at h; cases h) Bd.notSynchronized ?_ e102 (by decide) (by decide) (fun fs hr => ?_)
  · exact ⟨rfl, N0, rfl⟩
  · show Steps p.tables e below (s₁.setTop (mkF m 0 #[.val (.ref a1)] [])) _
    refine XS.aloadN X0.here hx rfl (hb hby d8_0) rfl rfl ?_
    show Steps p.tables e below (s₁.setTop (mkF m 1 #[.val (.ref a1)] [(.ref a1)])) _
    refine st101 _ ?_
    show Steps p.tables e below (T101.setTop (mkF m 4 #[.val (.ref a1)] [(.ref b1)])) _
    refine XS.aloadN X101.here hx rfl (hb hby d8_4) rfl rfl ?_
    show Steps p.tables e below (T101.setTop (mkF m 5 #[.val (.ref a1)] [(.ref a1), (.ref b1)])) _
    refine st102 _ ?_
    show Steps p.tables e below (T102.setTop (mkF m 8 #[.val (.ref a1)] [(.int (1 : Int32)), (.ref b1)])) _
    refine X102.daload hx (j := (1 : Int32)) (v := (.double x1)) (own_hc e102 Ar103.1) (State.isArrayOf_alike hZ.alike Ar103.2.1) Ar103.2.2 hin103 hat103 (g := (mkF m 8 #[.val (.ref a1)] [(.int (1 : Int32)), (.ref b1)])) rfl rfl (hb hby d8_8) _ ?_
    show Steps p.tables e below (T102.setTop (mkF m 9 #[.val (.ref a1)] [(.double x1)])) _
    exact own_retD X102 hx Bd.returns (hb hby d8_9) hr
theorem ef_rm8_2 (m : MethodId) (x0 : Addr) : entryFrame m #[(.ref x0)] 1 = mkF m 0 #[.val (.ref x0)] [] := by first | (simp [entryFrame, mkF, argsToLocals, Value.category]; done) | rfl
def Q8_2 (Z : State) (a1 : Addr) (b1 : Addr) (k1 : ClassId) (x0 : UInt64) (x1 : UInt64) (x2 : UInt64) (x3 : UInt64) (x4 : UInt64) (x5 : UInt64) (x6 : UInt64) (x7 : UInt64) (h0 : Heap) (n0 : Nat) (v : Option Value) (h : Heap) (L : List Loc) : Prop := v = some (.double x2) ∧ Fr n0 L ∧ h = h0
set_option maxRecDepth 65536 in
set_option maxHeartbeats 40000000 in
theorem rm8_2 (l : Launch) (Z : State) (a0 : Array Value) (hw : ∀ d ∈ tables_1, d.before a0 Z = true) (ws : List Jvm.Cond) (a1 : Addr) (b1 : Addr) (k1 : ClassId) (x0 : UInt64) (x1 : UInt64) (x2 : UInt64) (x3 : UInt64) (x4 : UInt64) (x5 : UInt64) (x6 : UInt64) (x7 : UInt64) (h0 : Heap) (n0 : Nat) (Z0 : n0 ≤ h0.size) (F_f : Fld Z h0 a1 "com/example/tenrec/tenrec/pool/RequestQueue" "arrivals" "[D" (.ref b1)) (F_h : Fld Z h0 a1 "com/example/tenrec/tenrec/pool/RequestQueue" "head" "I" (.int (2 : Int32))) (V_f : Arv Z h0 b1 k1 .double (8 : Int32) [(.double x0), (.double x1), (.double x2), (.double x3), (.double x4), (.double x5), (.double x6), (.double x7)] (.double (0 : UInt64))) :
    OMet l Z (⟨"com/example/tenrec/tenrec/pool/RequestQueue", "firstArrival", "()D"⟩ : MethodName) prog_34_method_5_code 1 (some .double) ws ({ frames := 0, cells := 0, slots := 0, locals := 0 } : Room) #[(.ref a1)] h0 (Q8_2 Z a1 b1 k1 x0 x1 x2 x3 x4 x5 x6 x7 h0 n0) := by
  refine own_body (plainFor_of_name pn_com_example_tenrec_tenrec_pool_RequestQueue) ?_
  intro p e s m below meth c s₁ Bd hml0 hZ e0
  have hx := Bd.exec
  have hby := Bd.bytes
  have hml : c.maxLocals = 1 := hml0
  have hown : s.vm.findClass "com/example/tenrec/tenrec/pool/RequestQueue" = some m.cls := findClass_of_methodNamed Bd.named
  have hnm := (name_of_methodNamed Bd.named Bd.method).1
  have X0 : Stand p l e ({ frames := 0, cells := 0, slots := 0, locals := 0 } : Room) s m #[(.ref a1)] below meth c s₁ [] 0 0 := Stand.of_body Bd
  have N0 := Fr.nil n0
  have K0 : Keep h0 h0 [] := Keep.refl _ _
  rw [ef_rm8_2]
  obtain ⟨T101, X101, e101, st101⟩ := getF X0 hx hZ hown (host := "") (Or.inl (hw _ (List.mem_of_getElem? (i := 10) rfl))) Via.refl e0 F_f (g := (mkF m 1 #[.val (.ref a1)] [(.ref a1)])) rfl rfl (hb hby d8_1)
  obtain ⟨T102, X102, e102, st102⟩ := getF X101 hx hZ hown (host := "") (Or.inl (hw _ (List.mem_of_getElem? (i := 25) rfl))) Via.refl e101 F_h (g := (mkF m 5 #[.val (.ref a1)] [(.ref a1), (.ref b1)])) rfl rfl (hb hby d8_5)
  obtain ⟨cl103, Ar103, qa103, Sa103, Na103, Ha103, Ga103⟩ := id V_f
  have hin103 : ¬ ((2 : Int32) < 0 ∨ cl103.slots.size ≤ ((2 : Int32)).toNatClampNeg) := inb_of Sa103 ⟨by decide, by decide⟩
  have hat103 := Ha103.at (v := (.double x2)) hin103 rfl
  refine Gl.fin X102 (v := some (.double x2)) (fun h => by rw [Bd.returns] at h; cases h) Bd.notSynchronized ?_ e102 (by decide) (by decide) (fun fs hr => ?_)
  · exact ⟨rfl, N0, rfl⟩
  · show Steps p.tables e below (s₁.setTop (mkF m 0 #[.val (.ref a1)] [])) _
    refine XS.aloadN X0.here hx rfl (hb hby d8_0) rfl rfl ?_
    show Steps p.tables e below (s₁.setTop (mkF m 1 #[.val (.ref a1)] [(.ref a1)])) _
    refine st101 _ ?_
    show Steps p.tables e below (T101.setTop (mkF m 4 #[.val (.ref a1)] [(.ref b1)])) _
    refine XS.aloadN X101.here hx rfl (hb hby d8_4) rfl rfl ?_
    show Steps p.tables e below (T101.setTop (mkF m 5 #[.val (.ref a1)] [(.ref a1), (.ref b1)])) _
    refine st102 _ ?_
    show Steps p.tables e below (T102.setTop (mkF m 8 #[.val (.ref a1)] [(.int (2 : Int32)), (.ref b1)])) _
    refine X102.daload hx (j := (2 : Int32)) (v := (.double x2)) (own_hc e102 Ar103.1) (State.isArrayOf_alike hZ.alike Ar103.2.1) Ar103.2.2 hin103 hat103 (g := (mkF m 8 #[.val (.ref a1)] [(.int (2 : Int32)), (.ref b1)])) rfl rfl (hb hby d8_8) _ ?_
    show Steps p.tables e below (T102.setTop (mkF m 9 #[.val (.ref a1)] [(.double x2)])) _
    exact own_retD X102 hx Bd.returns (hb hby d8_9) hr
theorem ef_rm8_3 (m : MethodId) (x0 : Addr) : entryFrame m #[(.ref x0)] 1 = mkF m 0 #[.val (.ref x0)] [] := by first | (simp [entryFrame, mkF, argsToLocals, Value.category]; done) | rfl
def Q8_3 (Z : State) (a1 : Addr) (b1 : Addr) (k1 : ClassId) (x0 : UInt64) (x1 : UInt64) (x2 : UInt64) (x3 : UInt64) (x4 : UInt64) (x5 : UInt64) (x6 : UInt64) (x7 : UInt64) (h0 : Heap) (n0 : Nat) (v : Option Value) (h : Heap) (L : List Loc) : Prop := v = some (.double x3) ∧ Fr n0 L ∧ h = h0
set_option maxRecDepth 65536 in
set_option maxHeartbeats 40000000 in
theorem rm8_3 (l : Launch) (Z : State) (a0 : Array Value) (hw : ∀ d ∈ tables_1, d.before a0 Z = true) (ws : List Jvm.Cond) (a1 : Addr) (b1 : Addr) (k1 : ClassId) (x0 : UInt64) (x1 : UInt64) (x2 : UInt64) (x3 : UInt64) (x4 : UInt64) (x5 : UInt64) (x6 : UInt64) (x7 : UInt64) (h0 : Heap) (n0 : Nat) (Z0 : n0 ≤ h0.size) (F_f : Fld Z h0 a1 "com/example/tenrec/tenrec/pool/RequestQueue" "arrivals" "[D" (.ref b1)) (F_h : Fld Z h0 a1 "com/example/tenrec/tenrec/pool/RequestQueue" "head" "I" (.int (3 : Int32))) (V_f : Arv Z h0 b1 k1 .double (8 : Int32) [(.double x0), (.double x1), (.double x2), (.double x3), (.double x4), (.double x5), (.double x6), (.double x7)] (.double (0 : UInt64))) :
    OMet l Z (⟨"com/example/tenrec/tenrec/pool/RequestQueue", "firstArrival", "()D"⟩ : MethodName) prog_34_method_5_code 1 (some .double) ws ({ frames := 0, cells := 0, slots := 0, locals := 0 } : Room) #[(.ref a1)] h0 (Q8_3 Z a1 b1 k1 x0 x1 x2 x3 x4 x5 x6 x7 h0 n0) := by
  refine own_body (plainFor_of_name pn_com_example_tenrec_tenrec_pool_RequestQueue) ?_
  intro p e s m below meth c s₁ Bd hml0 hZ e0
  have hx := Bd.exec
  have hby := Bd.bytes
  have hml : c.maxLocals = 1 := hml0
  have hown : s.vm.findClass "com/example/tenrec/tenrec/pool/RequestQueue" = some m.cls := findClass_of_methodNamed Bd.named
  have hnm := (name_of_methodNamed Bd.named Bd.method).1
  have X0 : Stand p l e ({ frames := 0, cells := 0, slots := 0, locals := 0 } : Room) s m #[(.ref a1)] below meth c s₁ [] 0 0 := Stand.of_body Bd
  have N0 := Fr.nil n0
  have K0 : Keep h0 h0 [] := Keep.refl _ _
  rw [ef_rm8_3]
  obtain ⟨T101, X101, e101, st101⟩ := getF X0 hx hZ hown (host := "") (Or.inl (hw _ (List.mem_of_getElem? (i := 10) rfl))) Via.refl e0 F_f (g := (mkF m 1 #[.val (.ref a1)] [(.ref a1)])) rfl rfl (hb hby d8_1)
  obtain ⟨T102, X102, e102, st102⟩ := getF X101 hx hZ hown (host := "") (Or.inl (hw _ (List.mem_of_getElem? (i := 25) rfl))) Via.refl e101 F_h (g := (mkF m 5 #[.val (.ref a1)] [(.ref a1), (.ref b1)])) rfl rfl (hb hby d8_5)
  obtain ⟨cl103, Ar103, qa103, Sa103, Na103, Ha103, Ga103⟩ := id V_f
  have hin103 : ¬ ((3 : Int32) < 0 ∨ cl103.slots.size ≤ ((3 : Int32)).toNatClampNeg) := inb_of Sa103 ⟨by decide, by decide⟩
  have hat103 := Ha103.at (v := (.double x3)) hin103 rfl
  refine Gl.fin X102 (v := some (.double x3)) (fun h => by rw [Bd.returns] at h; cases h) Bd.notSynchronized ?_ e102 (by decide) (by decide) (fun fs hr => ?_)
  · exact ⟨rfl, N0, rfl⟩
  · show Steps p.tables e below (s₁.setTop (mkF m 0 #[.val (.ref a1)] [])) _
    refine XS.aloadN X0.here hx rfl (hb hby d8_0) rfl rfl ?_
    show Steps p.tables e below (s₁.setTop (mkF m 1 #[.val (.ref a1)] [(.ref a1)])) _
    refine st101 _ ?_
    show Steps p.tables e below (T101.setTop (mkF m 4 #[.val (.ref a1)] [(.ref b1)])) _
    refine XS.aloadN X101.here hx rfl (hb hby d8_4) rfl rfl ?_
    show Steps p.tables e below (T101.setTop (mkF m 5 #[.val (.ref a1)] [(.ref a1), (.ref b1)])) _
    refine st102 _ ?_
    show Steps p.tables e below (T102.setTop (mkF m 8 #[.val (.ref a1)] [(.int (3 : Int32)), (.ref b1)])) _
    refine X102.daload hx (j := (3 : Int32)) (v := (.double x3)) (own_hc e102 Ar103.1) (State.isArrayOf_alike hZ.alike Ar103.2.1) Ar103.2.2 hin103 hat103 (g := (mkF m 8 #[.val (.ref a1)] [(.int (3 : Int32)), (.ref b1)])) rfl rfl (hb hby d8_8) _ ?_
    show Steps p.tables e below (T102.setTop (mkF m 9 #[.val (.ref a1)] [(.double x3)])) _
    exact own_retD X102 hx Bd.returns (hb hby d8_9) hr
theorem ef_rm8_4 (m : MethodId) (x0 : Addr) : entryFrame m #[(.ref x0)] 1 = mkF m 0 #[.val (.ref x0)] [] := by first | (simp [entryFrame, mkF, argsToLocals, Value.category]; done) | rfl
def Q8_4 (Z : State) (a1 : Addr) (b1 : Addr) (k1 : ClassId) (x0 : UInt64) (x1 : UInt64) (x2 : UInt64) (x3 : UInt64) (x4 : UInt64) (x5 : UInt64) (x6 : UInt64) (x7 : UInt64) (h0 : Heap) (n0 : Nat) (v : Option Value) (h : Heap) (L : List Loc) : Prop := v = some (.double x4) ∧ Fr n0 L ∧ h = h0
set_option maxRecDepth 65536 in
set_option maxHeartbeats 40000000 in
theorem rm8_4 (l : Launch) (Z : State) (a0 : Array Value) (hw : ∀ d ∈ tables_1, d.before a0 Z = true) (ws : List Jvm.Cond) (a1 : Addr) (b1 : Addr) (k1 : ClassId) (x0 : UInt64) (x1 : UInt64) (x2 : UInt64) (x3 : UInt64) (x4 : UInt64) (x5 : UInt64) (x6 : UInt64) (x7 : UInt64) (h0 : Heap) (n0 : Nat) (Z0 : n0 ≤ h0.size) (F_f : Fld Z h0 a1 "com/example/tenrec/tenrec/pool/RequestQueue" "arrivals" "[D" (.ref b1)) (F_h : Fld Z h0 a1 "com/example/tenrec/tenrec/pool/RequestQueue" "head" "I" (.int (4 : Int32))) (V_f : Arv Z h0 b1 k1 .double (8 : Int32) [(.double x0), (.double x1), (.double x2), (.double x3), (.double x4), (.double x5), (.double x6), (.double x7)] (.double (0 : UInt64))) :
    OMet l Z (⟨"com/example/tenrec/tenrec/pool/RequestQueue", "firstArrival", "()D"⟩ : MethodName) prog_34_method_5_code 1 (some .double) ws ({ frames := 0, cells := 0, slots := 0, locals := 0 } : Room) #[(.ref a1)] h0 (Q8_4 Z a1 b1 k1 x0 x1 x2 x3 x4 x5 x6 x7 h0 n0) := by
  refine own_body (plainFor_of_name pn_com_example_tenrec_tenrec_pool_RequestQueue) ?_
  intro p e s m below meth c s₁ Bd hml0 hZ e0
  have hx := Bd.exec
  have hby := Bd.bytes
  have hml : c.maxLocals = 1 := hml0
  have hown : s.vm.findClass "com/example/tenrec/tenrec/pool/RequestQueue" = some m.cls := findClass_of_methodNamed Bd.named
  have hnm := (name_of_methodNamed Bd.named Bd.method).1
  have X0 : Stand p l e ({ frames := 0, cells := 0, slots := 0, locals := 0 } : Room) s m #[(.ref a1)] below meth c s₁ [] 0 0 := Stand.of_body Bd
  have N0 := Fr.nil n0
  have K0 : Keep h0 h0 [] := Keep.refl _ _
  rw [ef_rm8_4]
  obtain ⟨T101, X101, e101, st101⟩ := getF X0 hx hZ hown (host := "") (Or.inl (hw _ (List.mem_of_getElem? (i := 10) rfl))) Via.refl e0 F_f (g := (mkF m 1 #[.val (.ref a1)] [(.ref a1)])) rfl rfl (hb hby d8_1)
  obtain ⟨T102, X102, e102, st102⟩ := getF X101 hx hZ hown (host := "") (Or.inl (hw _ (List.mem_of_getElem? (i := 25) rfl))) Via.refl e101 F_h (g := (mkF m 5 #[.val (.ref a1)] [(.ref a1), (.ref b1)])) rfl rfl (hb hby d8_5)
  obtain ⟨cl103, Ar103, qa103, Sa103, Na103, Ha103, Ga103⟩ := id V_f
  have hin103 : ¬ ((4 : Int32) < 0 ∨ cl103.slots.size ≤ ((4 : Int32)).toNatClampNeg) := inb_of Sa103 ⟨by decide, by decide⟩
  have hat103 := Ha103.at (v := (.double x4)) hin103 rfl
  refine Gl.fin X102 (v := some (.double x4)) (fun h => by rw [Bd.returns] at h; cases h) Bd.notSynchronized ?_ e102 (by decide) (by decide) (fun fs hr => ?_)
  · exact ⟨rfl, N0, rfl⟩
  · show Steps p.tables e below (s₁.setTop (mkF m 0 #[.val (.ref a1)] [])) _
    refine XS.aloadN X0.here hx rfl (hb hby d8_0) rfl rfl ?_
    show Steps p.tables e below (s₁.setTop (mkF m 1 #[.val (.ref a1)] [(.ref a1)])) _
    refine st101 _ ?_
    show Steps p.tables e below (T101.setTop (mkF m 4 #[.val (.ref a1)] [(.ref b1)])) _
    refine XS.aloadN X101.here hx rfl (hb hby d8_4) rfl rfl ?_
    show Steps p.tables e below (T101.setTop (mkF m 5 #[.val (.ref a1)] [(.ref a1), (.ref b1)])) _
    refine st102 _ ?_
    show Steps p.tables e below (T102.setTop (mkF m 8 #[.val (.ref a1)] [(.int (4 : Int32)), (.ref b1)])) _
    refine X102.daload hx (j := (4 : Int32)) (v := (.double x4)) (own_hc e102 Ar103.1) (State.isArrayOf_alike hZ.alike Ar103.2.1) Ar103.2.2 hin103 hat103 (g := (mkF m 8 #[.val (.ref a1)] [(.int (4 : Int32)), (.ref b1)])) rfl rfl (hb hby d8_8) _ ?_
    show Steps p.tables e below (T102.setTop (mkF m 9 #[.val (.ref a1)] [(.double x4)])) _
    exact own_retD X102 hx Bd.returns (hb hby d8_9) hr
theorem ef_rm8_5 (m : MethodId) (x0 : Addr) : entryFrame m #[(.ref x0)] 1 = mkF m 0 #[.val (.ref x0)] [] := by first | (simp [entryFrame, mkF, argsToLocals, Value.category]; done) | rfl
def Q8_5 (Z : State) (a1 : Addr) (b1 : Addr) (k1 : ClassId) (x0 : UInt64) (x1 : UInt64) (x2 : UInt64) (x3 : UInt64) (x4 : UInt64) (x5 : UInt64) (x6 : UInt64) (x7 : UInt64) (h0 : Heap) (n0 : Nat) (v : Option Value) (h : Heap) (L : List Loc) : Prop := v = some (.double x5) ∧ Fr n0 L ∧ h = h0
set_option maxRecDepth 65536 in
set_option maxHeartbeats 40000000 in
theorem rm8_5 (l : Launch) (Z : State) (a0 : Array Value) (hw : ∀ d ∈ tables_1, d.before a0 Z = true) (ws : List Jvm.Cond) (a1 : Addr) (b1 : Addr) (k1 : ClassId) (x0 : UInt64) (x1 : UInt64) (x2 : UInt64) (x3 : UInt64) (x4 : UInt64) (x5 : UInt64) (x6 : UInt64) (x7 : UInt64) (h0 : Heap) (n0 : Nat) (Z0 : n0 ≤ h0.size) (F_f : Fld Z h0 a1 "com/example/tenrec/tenrec/pool/RequestQueue" "arrivals" "[D" (.ref b1)) (F_h : Fld Z h0 a1 "com/example/tenrec/tenrec/pool/RequestQueue" "head" "I" (.int (5 : Int32))) (V_f : Arv Z h0 b1 k1 .double (8 : Int32) [(.double x0), (.double x1), (.double x2), (.double x3), (.double x4), (.double x5), (.double x6), (.double x7)] (.double (0 : UInt64))) :
    OMet l Z (⟨"com/example/tenrec/tenrec/pool/RequestQueue", "firstArrival", "()D"⟩ : MethodName) prog_34_method_5_code 1 (some .double) ws ({ frames := 0, cells := 0, slots := 0, locals := 0 } : Room) #[(.ref a1)] h0 (Q8_5 Z a1 b1 k1 x0 x1 x2 x3 x4 x5 x6 x7 h0 n0) := by
  refine own_body (plainFor_of_name pn_com_example_tenrec_tenrec_pool_RequestQueue) ?_
  intro p e s m below meth c s₁ Bd hml0 hZ e0
  have hx := Bd.exec
  have hby := Bd.bytes
  have hml : c.maxLocals = 1 := hml0
  have hown : s.vm.findClass "com/example/tenrec/tenrec/pool/RequestQueue" = some m.cls := findClass_of_methodNamed Bd.named
  have hnm := (name_of_methodNamed Bd.named Bd.method).1
  have X0 : Stand p l e ({ frames := 0, cells := 0, slots := 0, locals := 0 } : Room) s m #[(.ref a1)] below meth c s₁ [] 0 0 := Stand.of_body Bd
  have N0 := Fr.nil n0
  have K0 : Keep h0 h0 [] := Keep.refl _ _
  rw [ef_rm8_5]
  obtain ⟨T101, X101, e101, st101⟩ := getF X0 hx hZ hown (host := "") (Or.inl (hw _ (List.mem_of_getElem? (i := 10) rfl))) Via.refl e0 F_f (g := (mkF m 1 #[.val (.ref a1)] [(.ref a1)])) rfl rfl (hb hby d8_1)
  obtain ⟨T102, X102, e102, st102⟩ := getF X101 hx hZ hown (host := "") (Or.inl (hw _ (List.mem_of_getElem? (i := 25) rfl))) Via.refl e101 F_h (g := (mkF m 5 #[.val (.ref a1)] [(.ref a1), (.ref b1)])) rfl rfl (hb hby d8_5)
  obtain ⟨cl103, Ar103, qa103, Sa103, Na103, Ha103, Ga103⟩ := id V_f
  have hin103 : ¬ ((5 : Int32) < 0 ∨ cl103.slots.size ≤ ((5 : Int32)).toNatClampNeg) := inb_of Sa103 ⟨by decide, by decide⟩
  have hat103 := Ha103.at (v := (.double x5)) hin103 rfl
  refine Gl.fin X102 (v := some (.double x5)) (fun h => by rw [Bd.returns] at h; cases h) Bd.notSynchronized ?_ e102 (by decide) (by decide) (fun fs hr => ?_)
  · exact ⟨rfl, N0, rfl⟩
  · show Steps p.tables e below (s₁.setTop (mkF m 0 #[.val (.ref a1)] [])) _
    refine XS.aloadN X0.here hx rfl (hb hby d8_0) rfl rfl ?_
    show Steps p.tables e below (s₁.setTop (mkF m 1 #[.val (.ref a1)] [(.ref a1)])) _
    refine st101 _ ?_
    show Steps p.tables e below (T101.setTop (mkF m 4 #[.val (.ref a1)] [(.ref b1)])) _
    refine XS.aloadN X101.here hx rfl (hb hby d8_4) rfl rfl ?_
    show Steps p.tables e below (T101.setTop (mkF m 5 #[.val (.ref a1)] [(.ref a1), (.ref b1)])) _
    refine st102 _ ?_
    show Steps p.tables e below (T102.setTop (mkF m 8 #[.val (.ref a1)] [(.int (5 : Int32)), (.ref b1)])) _
    refine X102.daload hx (j := (5 : Int32)) (v := (.double x5)) (own_hc e102 Ar103.1) (State.isArrayOf_alike hZ.alike Ar103.2.1) Ar103.2.2 hin103 hat103 (g := (mkF m 8 #[.val (.ref a1)] [(.int (5 : Int32)), (.ref b1)])) rfl rfl (hb hby d8_8) _ ?_
    show Steps p.tables e below (T102.setTop (mkF m 9 #[.val (.ref a1)] [(.double x5)])) _
    exact own_retD X102 hx Bd.returns (hb hby d8_9) hr
theorem ef_rm8_6 (m : MethodId) (x0 : Addr) : entryFrame m #[(.ref x0)] 1 = mkF m 0 #[.val (.ref x0)] [] := by first | (simp [entryFrame, mkF, argsToLocals, Value.category]; done) | rfl
def Q8_6 (Z : State) (a1 : Addr) (b1 : Addr) (k1 : ClassId) (x0 : UInt64) (x1 : UInt64) (x2 : UInt64) (x3 : UInt64) (x4 : UInt64) (x5 : UInt64) (x6 : UInt64) (x7 : UInt64) (h0 : Heap) (n0 : Nat) (v : Option Value) (h : Heap) (L : List Loc) : Prop := v = some (.double x6) ∧ Fr n0 L ∧ h = h0
set_option maxRecDepth 65536 in
set_option maxHeartbeats 40000000 in
theorem rm8_6 (l : Launch) (Z : State) (a0 : Array Value) (hw : ∀ d ∈ tables_1, d.before a0 Z = true) (ws : List Jvm.Cond) (a1 : Addr) (b1 : Addr) (k1 : ClassId) (x0 : UInt64) (x1 : UInt64) (x2 : UInt64) (x3 : UInt64) (x4 : UInt64) (x5 : UInt64) (x6 : UInt64) (x7 : UInt64) (h0 : Heap) (n0 : Nat) (Z0 : n0 ≤ h0.size) (F_f : Fld Z h0 a1 "com/example/tenrec/tenrec/pool/RequestQueue" "arrivals" "[D" (.ref b1)) (F_h : Fld Z h0 a1 "com/example/tenrec/tenrec/pool/RequestQueue" "head" "I" (.int (6 : Int32))) (V_f : Arv Z h0 b1 k1 .double (8 : Int32) [(.double x0), (.double x1), (.double x2), (.double x3), (.double x4), (.double x5), (.double x6), (.double x7)] (.double (0 : UInt64))) :
    OMet l Z (⟨"com/example/tenrec/tenrec/pool/RequestQueue", "firstArrival", "()D"⟩ : MethodName) prog_34_method_5_code 1 (some .double) ws ({ frames := 0, cells := 0, slots := 0, locals := 0 } : Room) #[(.ref a1)] h0 (Q8_6 Z a1 b1 k1 x0 x1 x2 x3 x4 x5 x6 x7 h0 n0) := by
  refine own_body (plainFor_of_name pn_com_example_tenrec_tenrec_pool_RequestQueue) ?_
  intro p e s m below meth c s₁ Bd hml0 hZ e0
  have hx := Bd.exec
  have hby := Bd.bytes
  have hml : c.maxLocals = 1 := hml0
  have hown : s.vm.findClass "com/example/tenrec/tenrec/pool/RequestQueue" = some m.cls := findClass_of_methodNamed Bd.named
  have hnm := (name_of_methodNamed Bd.named Bd.method).1
  have X0 : Stand p l e ({ frames := 0, cells := 0, slots := 0, locals := 0 } : Room) s m #[(.ref a1)] below meth c s₁ [] 0 0 := Stand.of_body Bd
  have N0 := Fr.nil n0
  have K0 : Keep h0 h0 [] := Keep.refl _ _
  rw [ef_rm8_6]
  obtain ⟨T101, X101, e101, st101⟩ := getF X0 hx hZ hown (host := "") (Or.inl (hw _ (List.mem_of_getElem? (i := 10) rfl))) Via.refl e0 F_f (g := (mkF m 1 #[.val (.ref a1)] [(.ref a1)])) rfl rfl (hb hby d8_1)
  obtain ⟨T102, X102, e102, st102⟩ := getF X101 hx hZ hown (host := "") (Or.inl (hw _ (List.mem_of_getElem? (i := 25) rfl))) Via.refl e101 F_h (g := (mkF m 5 #[.val (.ref a1)] [(.ref a1), (.ref b1)])) rfl rfl (hb hby d8_5)
  obtain ⟨cl103, Ar103, qa103, Sa103, Na103, Ha103, Ga103⟩ := id V_f
  have hin103 : ¬ ((6 : Int32) < 0 ∨ cl103.slots.size ≤ ((6 : Int32)).toNatClampNeg) := inb_of Sa103 ⟨by decide, by decide⟩
  have hat103 := Ha103.at (v := (.double x6)) hin103 rfl
  refine Gl.fin X102 (v := some (.double x6)) (fun h => by rw [Bd.returns] at h; cases h) Bd.notSynchronized ?_ e102 (by decide) (by decide) (fun fs hr => ?_)
  · exact ⟨rfl, N0, rfl⟩
  · show Steps p.tables e below (s₁.setTop (mkF m 0 #[.val (.ref a1)] [])) _
    refine XS.aloadN X0.here hx rfl (hb hby d8_0) rfl rfl ?_
    show Steps p.tables e below (s₁.setTop (mkF m 1 #[.val (.ref a1)] [(.ref a1)])) _
    refine st101 _ ?_
    show Steps p.tables e below (T101.setTop (mkF m 4 #[.val (.ref a1)] [(.ref b1)])) _
    refine XS.aloadN X101.here hx rfl (hb hby d8_4) rfl rfl ?_
    show Steps p.tables e below (T101.setTop (mkF m 5 #[.val (.ref a1)] [(.ref a1), (.ref b1)])) _
    refine st102 _ ?_
    show Steps p.tables e below (T102.setTop (mkF m 8 #[.val (.ref a1)] [(.int (6 : Int32)), (.ref b1)])) _
    refine X102.daload hx (j := (6 : Int32)) (v := (.double x6)) (own_hc e102 Ar103.1) (State.isArrayOf_alike hZ.alike Ar103.2.1) Ar103.2.2 hin103 hat103 (g := (mkF m 8 #[.val (.ref a1)] [(.int (6 : Int32)), (.ref b1)])) rfl rfl (hb hby d8_8) _ ?_
    show Steps p.tables e below (T102.setTop (mkF m 9 #[.val (.ref a1)] [(.double x6)])) _
    exact own_retD X102 hx Bd.returns (hb hby d8_9) hr
theorem ef_rm8_7 (m : MethodId) (x0 : Addr) : entryFrame m #[(.ref x0)] 1 = mkF m 0 #[.val (.ref x0)] [] := by first | (simp [entryFrame, mkF, argsToLocals, Value.category]; done) | rfl
def Q8_7 (Z : State) (a1 : Addr) (b1 : Addr) (k1 : ClassId) (x0 : UInt64) (x1 : UInt64) (x2 : UInt64) (x3 : UInt64) (x4 : UInt64) (x5 : UInt64) (x6 : UInt64) (x7 : UInt64) (h0 : Heap) (n0 : Nat) (v : Option Value) (h : Heap) (L : List Loc) : Prop := v = some (.double x7) ∧ Fr n0 L ∧ h = h0
set_option maxRecDepth 65536 in
set_option maxHeartbeats 40000000 in
theorem rm8_7 (l : Launch) (Z : State) (a0 : Array Value) (hw : ∀ d ∈ tables_1, d.before a0 Z = true) (ws : List Jvm.Cond) (a1 : Addr) (b1 : Addr) (k1 : ClassId) (x0 : UInt64) (x1 : UInt64) (x2 : UInt64) (x3 : UInt64) (x4 : UInt64) (x5 : UInt64) (x6 : UInt64) (x7 : UInt64) (h0 : Heap) (n0 : Nat) (Z0 : n0 ≤ h0.size) (F_f : Fld Z h0 a1 "com/example/tenrec/tenrec/pool/RequestQueue" "arrivals" "[D" (.ref b1)) (F_h : Fld Z h0 a1 "com/example/tenrec/tenrec/pool/RequestQueue" "head" "I" (.int (7 : Int32))) (V_f : Arv Z h0 b1 k1 .double (8 : Int32) [(.double x0), (.double x1), (.double x2), (.double x3), (.double x4), (.double x5), (.double x6), (.double x7)] (.double (0 : UInt64))) :
    OMet l Z (⟨"com/example/tenrec/tenrec/pool/RequestQueue", "firstArrival", "()D"⟩ : MethodName) prog_34_method_5_code 1 (some .double) ws ({ frames := 0, cells := 0, slots := 0, locals := 0 } : Room) #[(.ref a1)] h0 (Q8_7 Z a1 b1 k1 x0 x1 x2 x3 x4 x5 x6 x7 h0 n0) := by
  refine own_body (plainFor_of_name pn_com_example_tenrec_tenrec_pool_RequestQueue) ?_
  intro p e s m below meth c s₁ Bd hml0 hZ e0
  have hx := Bd.exec
  have hby := Bd.bytes
  have hml : c.maxLocals = 1 := hml0
  have hown : s.vm.findClass "com/example/tenrec/tenrec/pool/RequestQueue" = some m.cls := findClass_of_methodNamed Bd.named
  have hnm := (name_of_methodNamed Bd.named Bd.method).1
  have X0 : Stand p l e ({ frames := 0, cells := 0, slots := 0, locals := 0 } : Room) s m #[(.ref a1)] below meth c s₁ [] 0 0 := Stand.of_body Bd
  have N0 := Fr.nil n0
  have K0 : Keep h0 h0 [] := Keep.refl _ _
  rw [ef_rm8_7]
  obtain ⟨T101, X101, e101, st101⟩ := getF X0 hx hZ hown (host := "") (Or.inl (hw _ (List.mem_of_getElem? (i := 10) rfl))) Via.refl e0 F_f (g := (mkF m 1 #[.val (.ref a1)] [(.ref a1)])) rfl rfl (hb hby d8_1)
  obtain ⟨T102, X102, e102, st102⟩ := getF X101 hx hZ hown (host := "") (Or.inl (hw _ (List.mem_of_getElem? (i := 25) rfl))) Via.refl e101 F_h (g := (mkF m 5 #[.val (.ref a1)] [(.ref a1), (.ref b1)])) rfl rfl (hb hby d8_5)
  obtain ⟨cl103, Ar103, qa103, Sa103, Na103, Ha103, Ga103⟩ := id V_f
  have hin103 : ¬ ((7 : Int32) < 0 ∨ cl103.slots.size ≤ ((7 : Int32)).toNatClampNeg) := inb_of Sa103 ⟨by decide, by decide⟩
  have hat103 := Ha103.at (v := (.double x7)) hin103 rfl
  refine Gl.fin X102 (v := some (.double x7)) (fun h => by rw [Bd.returns] at h; cases h) Bd.notSynchronized ?_ e102 (by decide) (by decide) (fun fs hr => ?_)
  · exact ⟨rfl, N0, rfl⟩
  · show Steps p.tables e below (s₁.setTop (mkF m 0 #[.val (.ref a1)] [])) _
    refine XS.aloadN X0.here hx rfl (hb hby d8_0) rfl rfl ?_
    show Steps p.tables e below (s₁.setTop (mkF m 1 #[.val (.ref a1)] [(.ref a1)])) _
    refine st101 _ ?_
    show Steps p.tables e below (T101.setTop (mkF m 4 #[.val (.ref a1)] [(.ref b1)])) _
    refine XS.aloadN X101.here hx rfl (hb hby d8_4) rfl rfl ?_
    show Steps p.tables e below (T101.setTop (mkF m 5 #[.val (.ref a1)] [(.ref a1), (.ref b1)])) _
    refine st102 _ ?_
    show Steps p.tables e below (T102.setTop (mkF m 8 #[.val (.ref a1)] [(.int (7 : Int32)), (.ref b1)])) _
    refine X102.daload hx (j := (7 : Int32)) (v := (.double x7)) (own_hc e102 Ar103.1) (State.isArrayOf_alike hZ.alike Ar103.2.1) Ar103.2.2 hin103 hat103 (g := (mkF m 8 #[.val (.ref a1)] [(.int (7 : Int32)), (.ref b1)])) rfl rfl (hb hby d8_8) _ ?_
    show Steps p.tables e below (T102.setTop (mkF m 9 #[.val (.ref a1)] [(.double x7)])) _
    exact own_retD X102 hx Bd.returns (hb hby d8_9) hr
theorem ef_rm9_0 (m : MethodId) (x0 : Addr) : entryFrame m #[(.ref x0)] 1 = mkF m 0 #[.val (.ref x0)] [] := by first | (simp [entryFrame, mkF, argsToLocals, Value.category]; done) | rfl
theorem d9_0 : decode prog_34_method_6_code 0 = .ok (.aload_n 0, 1) := by decide +kernel
theorem d9_1 : decode prog_34_method_6_code 1 = .ok (.getfield 13, 3) := by decide +kernel
theorem d9_4 : decode prog_34_method_6_code 4 = .ok (.aload_n 0, 1) := by decide +kernel
theorem d9_5 : decode prog_34_method_6_code 5 = .ok (.getfield 23, 3) := by decide +kernel
theorem d9_8 : decode prog_34_method_6_code 8 = .ok (.daload, 1) := by decide +kernel
theorem d9_9 : decode prog_34_method_6_code 9 = .ok (.dreturn, 1) := by decide +kernel
def Q9_0 (Z : State) (a1 : Addr) (b1 : Addr) (k1 : ClassId) (x0 : UInt64) (x1 : UInt64) (x2 : UInt64) (x3 : UInt64) (x4 : UInt64) (x5 : UInt64) (x6 : UInt64) (x7 : UInt64) (h0 : Heap) (n0 : Nat) (v : Option Value) (h : Heap) (L : List Loc) : Prop := v = some (.double x0) ∧ Fr n0 L ∧ h = h0
set_option maxRecDepth 65536 in
set_option maxHeartbeats 40000000 in
theorem rm9_0 (l : Launch) (Z : State) (a0 : Array Value) (hw : ∀ d ∈ tables_1, d.before a0 Z = true) (ws : List Jvm.Cond) (a1 : Addr) (b1 : Addr) (k1 : ClassId) (x0 : UInt64) (x1 : UInt64) (x2 : UInt64) (x3 : UInt64) (x4 : UInt64) (x5 : UInt64) (x6 : UInt64) (x7 : UInt64) (h0 : Heap) (n0 : Nat) (Z0 : n0 ≤ h0.size) (F_f : Fld Z h0 a1 "com/example/tenrec/tenrec/pool/RequestQueue" "sizes" "[D" (.ref b1)) (F_h : Fld Z h0 a1 "com/example/tenrec/tenrec/pool/RequestQueue" "head" "I" (.int (0 : Int32))) (V_f : Arv Z h0 b1 k1 .double (8 : Int32) [(.double x0), (.double x1), (.double x2), (.double x3), (.double x4), (.double x5), (.double x6), (.double x7)] (.double (0 : UInt64))) :
    OMet l Z (⟨"com/example/tenrec/tenrec/pool/RequestQueue", "firstSize", "()D"⟩ : MethodName) prog_34_method_6_code 1 (some .double) ws ({ frames := 0, cells := 0, slots := 0, locals := 0 } : Room) #[(.ref a1)] h0 (Q9_0 Z a1 b1 k1 x0 x1 x2 x3 x4 x5 x6 x7 h0 n0) := by
  refine own_body (plainFor_of_name pn_com_example_tenrec_tenrec_pool_RequestQueue) ?_
  intro p e s m below meth c s₁ Bd hml0 hZ e0
  have hx := Bd.exec
  have hby := Bd.bytes
  have hml : c.maxLocals = 1 := hml0
  have hown : s.vm.findClass "com/example/tenrec/tenrec/pool/RequestQueue" = some m.cls := findClass_of_methodNamed Bd.named
  have hnm := (name_of_methodNamed Bd.named Bd.method).1
  have X0 : Stand p l e ({ frames := 0, cells := 0, slots := 0, locals := 0 } : Room) s m #[(.ref a1)] below meth c s₁ [] 0 0 := Stand.of_body Bd
  have N0 := Fr.nil n0
  have K0 : Keep h0 h0 [] := Keep.refl _ _
  rw [ef_rm9_0]
  obtain ⟨T101, X101, e101, st101⟩ := getF X0 hx hZ hown (host := "") (Or.inl (hw _ (List.mem_of_getElem? (i := 12) rfl))) Via.refl e0 F_f (g := (mkF m 1 #[.val (.ref a1)] [(.ref a1)])) rfl rfl (hb hby d9_1)
  obtain ⟨T102, X102, e102, st102⟩ := getF X101 hx hZ hown (host := "") (Or.inl (hw _ (List.mem_of_getElem? (i := 25) rfl))) Via.refl e101 F_h (g := (mkF m 5 #[.val (.ref a1)] [(.ref a1), (.ref b1)])) rfl rfl (hb hby d9_5)
  obtain ⟨cl103, Ar103, qa103, Sa103, Na103, Ha103, Ga103⟩ := id V_f
  have hin103 : ¬ ((0 : Int32) < 0 ∨ cl103.slots.size ≤ ((0 : Int32)).toNatClampNeg) := inb_of Sa103 ⟨by decide, by decide⟩
  have hat103 := Ha103.at (v := (.double x0)) hin103 rfl
  refine Gl.fin X102 (v := some (.double x0)) (fun h => by rw [Bd.returns] at h; cases h) Bd.notSynchronized ?_ e102 (by decide) (by decide) (fun fs hr => ?_)
  · exact ⟨rfl, N0, rfl⟩
  · show Steps p.tables e below (s₁.setTop (mkF m 0 #[.val (.ref a1)] [])) _
    refine XS.aloadN X0.here hx rfl (hb hby d9_0) rfl rfl ?_
    show Steps p.tables e below (s₁.setTop (mkF m 1 #[.val (.ref a1)] [(.ref a1)])) _
    refine st101 _ ?_
    show Steps p.tables e below (T101.setTop (mkF m 4 #[.val (.ref a1)] [(.ref b1)])) _
    refine XS.aloadN X101.here hx rfl (hb hby d9_4) rfl rfl ?_
    show Steps p.tables e below (T101.setTop (mkF m 5 #[.val (.ref a1)] [(.ref a1), (.ref b1)])) _
    refine st102 _ ?_
    show Steps p.tables e below (T102.setTop (mkF m 8 #[.val (.ref a1)] [(.int (0 : Int32)), (.ref b1)])) _
    refine X102.daload hx (j := (0 : Int32)) (v := (.double x0)) (own_hc e102 Ar103.1) (State.isArrayOf_alike hZ.alike Ar103.2.1) Ar103.2.2 hin103 hat103 (g := (mkF m 8 #[.val (.ref a1)] [(.int (0 : Int32)), (.ref b1)])) rfl rfl (hb hby d9_8) _ ?_
    show Steps p.tables e below (T102.setTop (mkF m 9 #[.val (.ref a1)] [(.double x0)])) _
    exact own_retD X102 hx Bd.returns (hb hby d9_9) hr
theorem ef_rm9_1 (m : MethodId) (x0 : Addr) : entryFrame m #[(.ref x0)] 1 = mkF m 0 #[.val (.ref x0)] [] := by first | (simp [entryFrame, mkF, argsToLocals, Value.category]; done) | rfl
def Q9_1 (Z : State) (a1 : Addr) (b1 : Addr) (k1 : ClassId) (x0 : UInt64) (x1 : UInt64) (x2 : UInt64) (x3 : UInt64) (x4 : UInt64) (x5 : UInt64) (x6 : UInt64) (x7 : UInt64) (h0 : Heap) (n0 : Nat) (v : Option Value) (h : Heap) (L : List Loc) : Prop := v = some (.double x1) ∧ Fr n0 L ∧ h = h0
set_option maxRecDepth 65536 in
set_option maxHeartbeats 40000000 in
theorem rm9_1 (l : Launch) (Z : State) (a0 : Array Value) (hw : ∀ d ∈ tables_1, d.before a0 Z = true) (ws : List Jvm.Cond) (a1 : Addr) (b1 : Addr) (k1 : ClassId) (x0 : UInt64) (x1 : UInt64) (x2 : UInt64) (x3 : UInt64) (x4 : UInt64) (x5 : UInt64) (x6 : UInt64) (x7 : UInt64) (h0 : Heap) (n0 : Nat) (Z0 : n0 ≤ h0.size) (F_f : Fld Z h0 a1 "com/example/tenrec/tenrec/pool/RequestQueue" "sizes" "[D" (.ref b1)) (F_h : Fld Z h0 a1 "com/example/tenrec/tenrec/pool/RequestQueue" "head" "I" (.int (1 : Int32))) (V_f : Arv Z h0 b1 k1 .double (8 : Int32) [(.double x0), (.double x1), (.double x2), (.double x3), (.double x4), (.double x5), (.double x6), (.double x7)] (.double (0 : UInt64))) :
    OMet l Z (⟨"com/example/tenrec/tenrec/pool/RequestQueue", "firstSize", "()D"⟩ : MethodName) prog_34_method_6_code 1 (some .double) ws ({ frames := 0, cells := 0, slots := 0, locals := 0 } : Room) #[(.ref a1)] h0 (Q9_1 Z a1 b1 k1 x0 x1 x2 x3 x4 x5 x6 x7 h0 n0) := by
  refine own_body (plainFor_of_name pn_com_example_tenrec_tenrec_pool_RequestQueue) ?_
  intro p e s m below meth c s₁ Bd hml0 hZ e0
  have hx := Bd.exec
  have hby := Bd.bytes
  have hml : c.maxLocals = 1 := hml0
  have hown : s.vm.findClass "com/example/tenrec/tenrec/pool/RequestQueue" = some m.cls := findClass_of_methodNamed Bd.named
  have hnm := (name_of_methodNamed Bd.named Bd.method).1
  have X0 : Stand p l e ({ frames := 0, cells := 0, slots := 0, locals := 0 } : Room) s m #[(.ref a1)] below meth c s₁ [] 0 0 := Stand.of_body Bd
  have N0 := Fr.nil n0
  have K0 : Keep h0 h0 [] := Keep.refl _ _
  rw [ef_rm9_1]
  obtain ⟨T101, X101, e101, st101⟩ := getF X0 hx hZ hown (host := "") (Or.inl (hw _ (List.mem_of_getElem? (i := 12) rfl))) Via.refl e0 F_f (g := (mkF m 1 #[.val (.ref a1)] [(.ref a1)])) rfl rfl (hb hby d9_1)
  obtain ⟨T102, X102, e102, st102⟩ := getF X101 hx hZ hown (host := "") (Or.inl (hw _ (List.mem_of_getElem? (i := 25) rfl))) Via.refl e101 F_h (g := (mkF m 5 #[.val (.ref a1)] [(.ref a1), (.ref b1)])) rfl rfl (hb hby d9_5)
  obtain ⟨cl103, Ar103, qa103, Sa103, Na103, Ha103, Ga103⟩ := id V_f
  have hin103 : ¬ ((1 : Int32) < 0 ∨ cl103.slots.size ≤ ((1 : Int32)).toNatClampNeg) := inb_of Sa103 ⟨by decide, by decide⟩
  have hat103 := Ha103.at (v := (.double x1)) hin103 rfl
  refine Gl.fin X102 (v := some (.double x1)) (fun h => by rw [Bd.returns] at h; cases h) Bd.notSynchronized ?_ e102 (by decide) (by decide) (fun fs hr => ?_)
  · exact ⟨rfl, N0, rfl⟩
  · show Steps p.tables e below (s₁.setTop (mkF m 0 #[.val (.ref a1)] [])) _
    refine XS.aloadN X0.here hx rfl (hb hby d9_0) rfl rfl ?_
    show Steps p.tables e below (s₁.setTop (mkF m 1 #[.val (.ref a1)] [(.ref a1)])) _
    refine st101 _ ?_
    show Steps p.tables e below (T101.setTop (mkF m 4 #[.val (.ref a1)] [(.ref b1)])) _
    refine XS.aloadN X101.here hx rfl (hb hby d9_4) rfl rfl ?_
    show Steps p.tables e below (T101.setTop (mkF m 5 #[.val (.ref a1)] [(.ref a1), (.ref b1)])) _
    refine st102 _ ?_
    show Steps p.tables e below (T102.setTop (mkF m 8 #[.val (.ref a1)] [(.int (1 : Int32)), (.ref b1)])) _
    refine X102.daload hx (j := (1 : Int32)) (v := (.double x1)) (own_hc e102 Ar103.1) (State.isArrayOf_alike hZ.alike Ar103.2.1) Ar103.2.2 hin103 hat103 (g := (mkF m 8 #[.val (.ref a1)] [(.int (1 : Int32)), (.ref b1)])) rfl rfl (hb hby d9_8) _ ?_
    show Steps p.tables e below (T102.setTop (mkF m 9 #[.val (.ref a1)] [(.double x1)])) _
    exact own_retD X102 hx Bd.returns (hb hby d9_9) hr
theorem ef_rm9_2 (m : MethodId) (x0 : Addr) : entryFrame m #[(.ref x0)] 1 = mkF m 0 #[.val (.ref x0)] [] := by first | (simp [entryFrame, mkF, argsToLocals, Value.category]; done) | rfl
def Q9_2 (Z : State) (a1 : Addr) (b1 : Addr) (k1 : ClassId) (x0 : UInt64) (x1 : UInt64) (x2 : UInt64) (x3 : UInt64) (x4 : UInt64) (x5 : UInt64) (x6 : UInt64) (x7 : UInt64) (h0 : Heap) (n0 : Nat) (v : Option Value) (h : Heap) (L : List Loc) : Prop := v = some (.double x2) ∧ Fr n0 L ∧ h = h0
set_option maxRecDepth 65536 in
set_option maxHeartbeats 40000000 in
theorem rm9_2 (l : Launch) (Z : State) (a0 : Array Value) (hw : ∀ d ∈ tables_1, d.before a0 Z = true) (ws : List Jvm.Cond) (a1 : Addr) (b1 : Addr) (k1 : ClassId) (x0 : UInt64) (x1 : UInt64) (x2 : UInt64) (x3 : UInt64) (x4 : UInt64) (x5 : UInt64) (x6 : UInt64) (x7 : UInt64) (h0 : Heap) (n0 : Nat) (Z0 : n0 ≤ h0.size) (F_f : Fld Z h0 a1 "com/example/tenrec/tenrec/pool/RequestQueue" "sizes" "[D" (.ref b1)) (F_h : Fld Z h0 a1 "com/example/tenrec/tenrec/pool/RequestQueue" "head" "I" (.int (2 : Int32))) (V_f : Arv Z h0 b1 k1 .double (8 : Int32) [(.double x0), (.double x1), (.double x2), (.double x3), (.double x4), (.double x5), (.double x6), (.double x7)] (.double (0 : UInt64))) :
    OMet l Z (⟨"com/example/tenrec/tenrec/pool/RequestQueue", "firstSize", "()D"⟩ : MethodName) prog_34_method_6_code 1 (some .double) ws ({ frames := 0, cells := 0, slots := 0, locals := 0 } : Room) #[(.ref a1)] h0 (Q9_2 Z a1 b1 k1 x0 x1 x2 x3 x4 x5 x6 x7 h0 n0) := by
  refine own_body (plainFor_of_name pn_com_example_tenrec_tenrec_pool_RequestQueue) ?_
  intro p e s m below meth c s₁ Bd hml0 hZ e0
  have hx := Bd.exec
  have hby := Bd.bytes
  have hml : c.maxLocals = 1 := hml0
  have hown : s.vm.findClass "com/example/tenrec/tenrec/pool/RequestQueue" = some m.cls := findClass_of_methodNamed Bd.named
  have hnm := (name_of_methodNamed Bd.named Bd.method).1
  have X0 : Stand p l e ({ frames := 0, cells := 0, slots := 0, locals := 0 } : Room) s m #[(.ref a1)] below meth c s₁ [] 0 0 := Stand.of_body Bd
  have N0 := Fr.nil n0
  have K0 : Keep h0 h0 [] := Keep.refl _ _
  rw [ef_rm9_2]
  obtain ⟨T101, X101, e101, st101⟩ := getF X0 hx hZ hown (host := "") (Or.inl (hw _ (List.mem_of_getElem? (i := 12) rfl))) Via.refl e0 F_f (g := (mkF m 1 #[.val (.ref a1)] [(.ref a1)])) rfl rfl (hb hby d9_1)
  obtain ⟨T102, X102, e102, st102⟩ := getF X101 hx hZ hown (host := "") (Or.inl (hw _ (List.mem_of_getElem? (i := 25) rfl))) Via.refl e101 F_h (g := (mkF m 5 #[.val (.ref a1)] [(.ref a1), (.ref b1)])) rfl rfl (hb hby d9_5)
  obtain ⟨cl103, Ar103, qa103, Sa103, Na103, Ha103, Ga103⟩ := id V_f
  have hin103 : ¬ ((2 : Int32) < 0 ∨ cl103.slots.size ≤ ((2 : Int32)).toNatClampNeg) := inb_of Sa103 ⟨by decide, by decide⟩
  have hat103 := Ha103.at (v := (.double x2)) hin103 rfl
  refine Gl.fin X102 (v := some (.double x2)) (fun h => by rw [Bd.returns] at h; cases h) Bd.notSynchronized ?_ e102 (by decide) (by decide) (fun fs hr => ?_)
  · exact ⟨rfl, N0, rfl⟩
  · show Steps p.tables e below (s₁.setTop (mkF m 0 #[.val (.ref a1)] [])) _
    refine XS.aloadN X0.here hx rfl (hb hby d9_0) rfl rfl ?_
    show Steps p.tables e below (s₁.setTop (mkF m 1 #[.val (.ref a1)] [(.ref a1)])) _
    refine st101 _ ?_
    show Steps p.tables e below (T101.setTop (mkF m 4 #[.val (.ref a1)] [(.ref b1)])) _
    refine XS.aloadN X101.here hx rfl (hb hby d9_4) rfl rfl ?_
    show Steps p.tables e below (T101.setTop (mkF m 5 #[.val (.ref a1)] [(.ref a1), (.ref b1)])) _
    refine st102 _ ?_
    show Steps p.tables e below (T102.setTop (mkF m 8 #[.val (.ref a1)] [(.int (2 : Int32)), (.ref b1)])) _
    refine X102.daload hx (j := (2 : Int32)) (v := (.double x2)) (own_hc e102 Ar103.1) (State.isArrayOf_alike hZ.alike Ar103.2.1) Ar103.2.2 hin103 hat103 (g := (mkF m 8 #[.val (.ref a1)] [(.int (2 : Int32)), (.ref b1)])) rfl rfl (hb hby d9_8) _ ?_
    show Steps p.tables e below (T102.setTop (mkF m 9 #[.val (.ref a1)] [(.double x2)])) _
    exact own_retD X102 hx Bd.returns (hb hby d9_9) hr
theorem ef_rm9_3 (m : MethodId) (x0 : Addr) : entryFrame m #[(.ref x0)] 1 = mkF m 0 #[.val (.ref x0)] [] := by first | (simp [entryFrame, mkF, argsToLocals, Value.category]; done) | rfl
def Q9_3 (Z : State) (a1 : Addr) (b1 : Addr) (k1 : ClassId) (x0 : UInt64) (x1 : UInt64) (x2 : UInt64) (x3 : UInt64) (x4 : UInt64) (x5 : UInt64) (x6 : UInt64) (x7 : UInt64) (h0 : Heap) (n0 : Nat) (v : Option Value) (h : Heap) (L : List Loc) : Prop := v = some (.double x3) ∧ Fr n0 L ∧ h = h0
set_option maxRecDepth 65536 in
set_option maxHeartbeats 40000000 in
theorem rm9_3 (l : Launch) (Z : State) (a0 : Array Value) (hw : ∀ d ∈ tables_1, d.before a0 Z = true) (ws : List Jvm.Cond) (a1 : Addr) (b1 : Addr) (k1 : ClassId) (x0 : UInt64) (x1 : UInt64) (x2 : UInt64) (x3 : UInt64) (x4 : UInt64) (x5 : UInt64) (x6 : UInt64) (x7 : UInt64) (h0 : Heap) (n0 : Nat) (Z0 : n0 ≤ h0.size) (F_f : Fld Z h0 a1 "com/example/tenrec/tenrec/pool/RequestQueue" "sizes" "[D" (.ref b1)) (F_h : Fld Z h0 a1 "com/example/tenrec/tenrec/pool/RequestQueue" "head" "I" (.int (3 : Int32))) (V_f : Arv Z h0 b1 k1 .double (8 : Int32) [(.double x0), (.double x1), (.double x2), (.double x3), (.double x4), (.double x5), (.double x6), (.double x7)] (.double (0 : UInt64))) :
    OMet l Z (⟨"com/example/tenrec/tenrec/pool/RequestQueue", "firstSize", "()D"⟩ : MethodName) prog_34_method_6_code 1 (some .double) ws ({ frames := 0, cells := 0, slots := 0, locals := 0 } : Room) #[(.ref a1)] h0 (Q9_3 Z a1 b1 k1 x0 x1 x2 x3 x4 x5 x6 x7 h0 n0) := by
  refine own_body (plainFor_of_name pn_com_example_tenrec_tenrec_pool_RequestQueue) ?_
  intro p e s m below meth c s₁ Bd hml0 hZ e0
  have hx := Bd.exec
  have hby := Bd.bytes
  have hml : c.maxLocals = 1 := hml0
  have hown : s.vm.findClass "com/example/tenrec/tenrec/pool/RequestQueue" = some m.cls := findClass_of_methodNamed Bd.named
  have hnm := (name_of_methodNamed Bd.named Bd.method).1
  have X0 : Stand p l e ({ frames := 0, cells := 0, slots := 0, locals := 0 } : Room) s m #[(.ref a1)] below meth c s₁ [] 0 0 := Stand.of_body Bd
  have N0 := Fr.nil n0
  have K0 : Keep h0 h0 [] := Keep.refl _ _
  rw [ef_rm9_3]
  obtain ⟨T101, X101, e101, st101⟩ := getF X0 hx hZ hown (host := "") (Or.inl (hw _ (List.mem_of_getElem? (i := 12) rfl))) Via.refl e0 F_f (g := (mkF m 1 #[.val (.ref a1)] [(.ref a1)])) rfl rfl (hb hby d9_1)
  obtain ⟨T102, X102, e102, st102⟩ := getF X101 hx hZ hown (host := "") (Or.inl (hw _ (List.mem_of_getElem? (i := 25) rfl))) Via.refl e101 F_h (g := (mkF m 5 #[.val (.ref a1)] [(.ref a1), (.ref b1)])) rfl rfl (hb hby d9_5)
  obtain ⟨cl103, Ar103, qa103, Sa103, Na103, Ha103, Ga103⟩ := id V_f
  have hin103 : ¬ ((3 : Int32) < 0 ∨ cl103.slots.size ≤ ((3 : Int32)).toNatClampNeg) := inb_of Sa103 ⟨by decide, by decide⟩
  have hat103 := Ha103.at (v := (.double x3)) hin103 rfl
  refine Gl.fin X102 (v := some (.double x3)) (fun h => by rw [Bd.returns] at h; cases h) Bd.notSynchronized ?_ e102 (by decide) (by decide) (fun fs hr => ?_)
  · exact ⟨rfl, N0, rfl⟩
  · show Steps p.tables e below (s₁.setTop (mkF m 0 #[.val (.ref a1)] [])) _
    refine XS.aloadN X0.here hx rfl (hb hby d9_0) rfl rfl ?_
    show Steps p.tables e below (s₁.setTop (mkF m 1 #[.val (.ref a1)] [(.ref a1)])) _
    refine st101 _ ?_
    show Steps p.tables e below (T101.setTop (mkF m 4 #[.val (.ref a1)] [(.ref b1)])) _
    refine XS.aloadN X101.here hx rfl (hb hby d9_4) rfl rfl ?_
    show Steps p.tables e below (T101.setTop (mkF m 5 #[.val (.ref a1)] [(.ref a1), (.ref b1)])) _
    refine st102 _ ?_
    show Steps p.tables e below (T102.setTop (mkF m 8 #[.val (.ref a1)] [(.int (3 : Int32)), (.ref b1)])) _
    refine X102.daload hx (j := (3 : Int32)) (v := (.double x3)) (own_hc e102 Ar103.1) (State.isArrayOf_alike hZ.alike Ar103.2.1) Ar103.2.2 hin103 hat103 (g := (mkF m 8 #[.val (.ref a1)] [(.int (3 : Int32)), (.ref b1)])) rfl rfl (hb hby d9_8) _ ?_
    show Steps p.tables e below (T102.setTop (mkF m 9 #[.val (.ref a1)] [(.double x3)])) _
    exact own_retD X102 hx Bd.returns (hb hby d9_9) hr
theorem ef_rm9_4 (m : MethodId) (x0 : Addr) : entryFrame m #[(.ref x0)] 1 = mkF m 0 #[.val (.ref x0)] [] := by first | (simp [entryFrame, mkF, argsToLocals, Value.category]; done) | rfl
def Q9_4 (Z : State) (a1 : Addr) (b1 : Addr) (k1 : ClassId) (x0 : UInt64) (x1 : UInt64) (x2 : UInt64) (x3 : UInt64) (x4 : UInt64) (x5 : UInt64) (x6 : UInt64) (x7 : UInt64) (h0 : Heap) (n0 : Nat) (v : Option Value) (h : Heap) (L : List Loc) : Prop := v = some (.double x4) ∧ Fr n0 L ∧ h = h0
set_option maxRecDepth 65536 in
set_option maxHeartbeats 40000000 in
theorem rm9_4 (l : Launch) (Z : State) (a0 : Array Value) (hw : ∀ d ∈ tables_1, d.before a0 Z = true) (ws : List Jvm.Cond) (a1 : Addr) (b1 : Addr) (k1 : ClassId) (x0 : UInt64) (x1 : UInt64) (x2 : UInt64) (x3 : UInt64) (x4 : UInt64) (x5 : UInt64) (x6 : UInt64) (x7 : UInt64) (h0 : Heap) (n0 : Nat) (Z0 : n0 ≤ h0.size) (F_f : Fld Z h0 a1 "com/example/tenrec/tenrec/pool/RequestQueue" "sizes" "[D" (.ref b1)) (F_h : Fld Z h0 a1 "com/example/tenrec/tenrec/pool/RequestQueue" "head" "I" (.int (4 : Int32))) (V_f : Arv Z h0 b1 k1 .double (8 : Int32) [(.double x0), (.double x1), (.double x2), (.double x3), (.double x4), (.double x5), (.double x6), (.double x7)] (.double (0 : UInt64))) :
    OMet l Z (⟨"com/example/tenrec/tenrec/pool/RequestQueue", "firstSize", "()D"⟩ : MethodName) prog_34_method_6_code 1 (some .double) ws ({ frames := 0, cells := 0, slots := 0, locals := 0 } : Room) #[(.ref a1)] h0 (Q9_4 Z a1 b1 k1 x0 x1 x2 x3 x4 x5 x6 x7 h0 n0) := by
  refine own_body (plainFor_of_name pn_com_example_tenrec_tenrec_pool_RequestQueue) ?_
  intro p e s m below meth c s₁ Bd hml0 hZ e0
  have hx := Bd.exec
  have hby := Bd.bytes
  have hml : c.maxLocals = 1 := hml0
  have hown : s.vm.findClass "com/example/tenrec/tenrec/pool/RequestQueue" = some m.cls := findClass_of_methodNamed Bd.named
  have hnm := (name_of_methodNamed Bd.named Bd.method).1
  have X0 : Stand p l e ({ frames := 0, cells := 0, slots := 0, locals := 0 } : Room) s m #[(.ref a1)] below meth c s₁ [] 0 0 := Stand.of_body Bd
  have N0 := Fr.nil n0
  have K0 : Keep h0 h0 [] := Keep.refl _ _
  rw [ef_rm9_4]
  obtain ⟨T101, X101, e101, st101⟩ := getF X0 hx hZ hown (host := "") (Or.inl (hw _ (List.mem_of_getElem? (i := 12) rfl))) Via.refl e0 F_f (g := (mkF m 1 #[.val (.ref a1)] [(.ref a1)])) rfl rfl (hb hby d9_1)
  obtain ⟨T102, X102, e102, st102⟩ := getF X101 hx hZ hown (host := "") (Or.inl (hw _ (List.mem_of_getElem? (i := 25) rfl))) Via.refl e101 F_h (g := (mkF m 5 #[.val (.ref a1)] [(.ref a1), (.ref b1)])) rfl rfl (hb hby d9_5)
  obtain ⟨cl103, Ar103, qa103, Sa103, Na103, Ha103, Ga103⟩ := id V_f
  have hin103 : ¬ ((4 : Int32) < 0 ∨ cl103.slots.size ≤ ((4 : Int32)).toNatClampNeg) := inb_of Sa103 ⟨by decide, by decide⟩
  have hat103 := Ha103.at (v := (.double x4)) hin103 rfl
  refine Gl.fin X102 (v := some (.double x4)) (fun h => by rw [Bd.returns] at h; cases h) Bd.notSynchronized ?_ e102 (by decide) (by decide) (fun fs hr => ?_)
  · exact ⟨rfl, N0, rfl⟩
  · show Steps p.tables e below (s₁.setTop (mkF m 0 #[.val (.ref a1)] [])) _
    refine XS.aloadN X0.here hx rfl (hb hby d9_0) rfl rfl ?_
    show Steps p.tables e below (s₁.setTop (mkF m 1 #[.val (.ref a1)] [(.ref a1)])) _
    refine st101 _ ?_
    show Steps p.tables e below (T101.setTop (mkF m 4 #[.val (.ref a1)] [(.ref b1)])) _
    refine XS.aloadN X101.here hx rfl (hb hby d9_4) rfl rfl ?_
    show Steps p.tables e below (T101.setTop (mkF m 5 #[.val (.ref a1)] [(.ref a1), (.ref b1)])) _
    refine st102 _ ?_
    show Steps p.tables e below (T102.setTop (mkF m 8 #[.val (.ref a1)] [(.int (4 : Int32)), (.ref b1)])) _
    refine X102.daload hx (j := (4 : Int32)) (v := (.double x4)) (own_hc e102 Ar103.1) (State.isArrayOf_alike hZ.alike Ar103.2.1) Ar103.2.2 hin103 hat103 (g := (mkF m 8 #[.val (.ref a1)] [(.int (4 : Int32)), (.ref b1)])) rfl rfl (hb hby d9_8) _ ?_
    show Steps p.tables e below (T102.setTop (mkF m 9 #[.val (.ref a1)] [(.double x4)])) _
    exact own_retD X102 hx Bd.returns (hb hby d9_9) hr
theorem ef_rm9_5 (m : MethodId) (x0 : Addr) : entryFrame m #[(.ref x0)] 1 = mkF m 0 #[.val (.ref x0)] [] := by first | (simp [entryFrame, mkF, argsToLocals, Value.category]; done) | rfl
def Q9_5 (Z : State) (a1 : Addr) (b1 : Addr) (k1 : ClassId) (x0 : UInt64) (x1 : UInt64) (x2 : UInt64) (x3 : UInt64) (x4 : UInt64) (x5 : UInt64) (x6 : UInt64) (x7 : UInt64) (h0 : Heap) (n0 : Nat) (v : Option Value) (h : Heap) (L : List Loc) : Prop := v = some (.double x5) ∧ Fr n0 L ∧ h = h0
set_option maxRecDepth 65536 in
set_option maxHeartbeats 40000000 in
theorem rm9_5 (l : Launch) (Z : State) (a0 : Array Value) (hw : ∀ d ∈ tables_1, d.before a0 Z = true) (ws : List Jvm.Cond) (a1 : Addr) (b1 : Addr) (k1 : ClassId) (x0 : UInt64) (x1 : UInt64) (x2 : UInt64) (x3 : UInt64) (x4 : UInt64) (x5 : UInt64) (x6 : UInt64) (x7 : UInt64) (h0 : Heap) (n0 : Nat) (Z0 : n0 ≤ h0.size) (F_f : Fld Z h0 a1 "com/example/tenrec/tenrec/pool/RequestQueue" "sizes" "[D" (.ref b1)) (F_h : Fld Z h0 a1 "com/example/tenrec/tenrec/pool/RequestQueue" "head" "I" (.int (5 : Int32))) (V_f : Arv Z h0 b1 k1 .double (8 : Int32) [(.double x0), (.double x1), (.double x2), (.double x3), (.double x4), (.double x5), (.double x6), (.double x7)] (.double (0 : UInt64))) :
    OMet l Z (⟨"com/example/tenrec/tenrec/pool/RequestQueue", "firstSize", "()D"⟩ : MethodName) prog_34_method_6_code 1 (some .double) ws ({ frames := 0, cells := 0, slots := 0, locals := 0 } : Room) #[(.ref a1)] h0 (Q9_5 Z a1 b1 k1 x0 x1 x2 x3 x4 x5 x6 x7 h0 n0) := by
  refine own_body (plainFor_of_name pn_com_example_tenrec_tenrec_pool_RequestQueue) ?_
  intro p e s m below meth c s₁ Bd hml0 hZ e0
  have hx := Bd.exec
  have hby := Bd.bytes
  have hml : c.maxLocals = 1 := hml0
  have hown : s.vm.findClass "com/example/tenrec/tenrec/pool/RequestQueue" = some m.cls := findClass_of_methodNamed Bd.named
  have hnm := (name_of_methodNamed Bd.named Bd.method).1
  have X0 : Stand p l e ({ frames := 0, cells := 0, slots := 0, locals := 0 } : Room) s m #[(.ref a1)] below meth c s₁ [] 0 0 := Stand.of_body Bd
  have N0 := Fr.nil n0
  have K0 : Keep h0 h0 [] := Keep.refl _ _
  rw [ef_rm9_5]
  obtain ⟨T101, X101, e101, st101⟩ := getF X0 hx hZ hown (host := "") (Or.inl (hw _ (List.mem_of_getElem? (i := 12) rfl))) Via.refl e0 F_f (g := (mkF m 1 #[.val (.ref a1)] [(.ref a1)])) rfl rfl (hb hby d9_1)
  obtain ⟨T102, X102, e102, st102⟩ := getF X101 hx hZ hown (host := "") (Or.inl (hw _ (List.mem_of_getElem? (i := 25) rfl))) Via.refl e101 F_h (g := (mkF m 5 #[.val (.ref a1)] [(.ref a1), (.ref b1)])) rfl rfl (hb hby d9_5)
  obtain ⟨cl103, Ar103, qa103, Sa103, Na103, Ha103, Ga103⟩ := id V_f
  have hin103 : ¬ ((5 : Int32) < 0 ∨ cl103.slots.size ≤ ((5 : Int32)).toNatClampNeg) := inb_of Sa103 ⟨by decide, by decide⟩
  have hat103 := Ha103.at (v := (.double x5)) hin103 rfl
  refine Gl.fin X102 (v := some (.double x5)) (fun h => by rw [Bd.returns] at h; cases h) Bd.notSynchronized ?_ e102 (by decide) (by decide) (fun fs hr => ?_)
  · exact ⟨rfl, N0, rfl⟩
  · show Steps p.tables e below (s₁.setTop (mkF m 0 #[.val (.ref a1)] [])) _
    refine XS.aloadN X0.here hx rfl (hb hby d9_0) rfl rfl ?_
    show Steps p.tables e below (s₁.setTop (mkF m 1 #[.val (.ref a1)] [(.ref a1)])) _
    refine st101 _ ?_
    show Steps p.tables e below (T101.setTop (mkF m 4 #[.val (.ref a1)] [(.ref b1)])) _
    refine XS.aloadN X101.here hx rfl (hb hby d9_4) rfl rfl ?_
    show Steps p.tables e below (T101.setTop (mkF m 5 #[.val (.ref a1)] [(.ref a1), (.ref b1)])) _
    refine st102 _ ?_
    show Steps p.tables e below (T102.setTop (mkF m 8 #[.val (.ref a1)] [(.int (5 : Int32)), (.ref b1)])) _
    refine X102.daload hx (j := (5 : Int32)) (v := (.double x5)) (own_hc e102 Ar103.1) (State.isArrayOf_alike hZ.alike Ar103.2.1) Ar103.2.2 hin103 hat103 (g := (mkF m 8 #[.val (.ref a1)] [(.int (5 : Int32)), (.ref b1)])) rfl rfl (hb hby d9_8) _ ?_
    show Steps p.tables e below (T102.setTop (mkF m 9 #[.val (.ref a1)] [(.double x5)])) _
    exact own_retD X102 hx Bd.returns (hb hby d9_9) hr
theorem ef_rm9_6 (m : MethodId) (x0 : Addr) : entryFrame m #[(.ref x0)] 1 = mkF m 0 #[.val (.ref x0)] [] := by first | (simp [entryFrame, mkF, argsToLocals, Value.category]; done) | rfl
def Q9_6 (Z : State) (a1 : Addr) (b1 : Addr) (k1 : ClassId) (x0 : UInt64) (x1 : UInt64) (x2 : UInt64) (x3 : UInt64) (x4 : UInt64) (x5 : UInt64) (x6 : UInt64) (x7 : UInt64) (h0 : Heap) (n0 : Nat) (v : Option Value) (h : Heap) (L : List Loc) : Prop := v = some (.double x6) ∧ Fr n0 L ∧ h = h0
set_option maxRecDepth 65536 in
set_option maxHeartbeats 40000000 in
theorem rm9_6 (l : Launch) (Z : State) (a0 : Array Value) (hw : ∀ d ∈ tables_1, d.before a0 Z = true) (ws : List Jvm.Cond) (a1 : Addr) (b1 : Addr) (k1 : ClassId) (x0 : UInt64) (x1 : UInt64) (x2 : UInt64) (x3 : UInt64) (x4 : UInt64) (x5 : UInt64) (x6 : UInt64) (x7 : UInt64) (h0 : Heap) (n0 : Nat) (Z0 : n0 ≤ h0.size) (F_f : Fld Z h0 a1 "com/example/tenrec/tenrec/pool/RequestQueue" "sizes" "[D" (.ref b1)) (F_h : Fld Z h0 a1 "com/example/tenrec/tenrec/pool/RequestQueue" "head" "I" (.int (6 : Int32))) (V_f : Arv Z h0 b1 k1 .double (8 : Int32) [(.double x0), (.double x1), (.double x2), (.double x3), (.double x4), (.double x5), (.double x6), (.double x7)] (.double (0 : UInt64))) :
    OMet l Z (⟨"com/example/tenrec/tenrec/pool/RequestQueue", "firstSize", "()D"⟩ : MethodName) prog_34_method_6_code 1 (some .double) ws ({ frames := 0, cells := 0, slots := 0, locals := 0 } : Room) #[(.ref a1)] h0 (Q9_6 Z a1 b1 k1 x0 x1 x2 x3 x4 x5 x6 x7 h0 n0) := by
  refine own_body (plainFor_of_name pn_com_example_tenrec_tenrec_pool_RequestQueue) ?_
  intro p e s m below meth c s₁ Bd hml0 hZ e0
  have hx := Bd.exec
  have hby := Bd.bytes
  have hml : c.maxLocals = 1 := hml0
  have hown : s.vm.findClass "com/example/tenrec/tenrec/pool/RequestQueue" = some m.cls := findClass_of_methodNamed Bd.named
  have hnm := (name_of_methodNamed Bd.named Bd.method).1
  have X0 : Stand p l e ({ frames := 0, cells := 0, slots := 0, locals := 0 } : Room) s m #[(.ref a1)] below meth c s₁ [] 0 0 := Stand.of_body Bd
  have N0 := Fr.nil n0
  have K0 : Keep h0 h0 [] := Keep.refl _ _
  rw [ef_rm9_6]
  obtain ⟨T101, X101, e101, st101⟩ := getF X0 hx hZ hown (host := "") (Or.inl (hw _ (List.mem_of_getElem? (i := 12) rfl))) Via.refl e0 F_f (g := (mkF m 1 #[.val (.ref a1)] [(.ref a1)])) rfl rfl (hb hby d9_1)
  obtain ⟨T102, X102, e102, st102⟩ := getF X101 hx hZ hown (host := "") (Or.inl (hw _ (List.mem_of_getElem? (i := 25) rfl))) Via.refl e101 F_h (g := (mkF m 5 #[.val (.ref a1)] [(.ref a1), (.ref b1)])) rfl rfl (hb hby d9_5)
  obtain ⟨cl103, Ar103, qa103, Sa103, Na103, Ha103, Ga103⟩ := id V_f
  have hin103 : ¬ ((6 : Int32) < 0 ∨ cl103.slots.size ≤ ((6 : Int32)).toNatClampNeg) := inb_of Sa103 ⟨by decide, by decide⟩
  have hat103 := Ha103.at (v := (.double x6)) hin103 rfl
  refine Gl.fin X102 (v := some (.double x6)) (fun h => by rw [Bd.returns] at h; cases h) Bd.notSynchronized ?_ e102 (by decide) (by decide) (fun fs hr => ?_)
  · exact ⟨rfl, N0, rfl⟩
  · show Steps p.tables e below (s₁.setTop (mkF m 0 #[.val (.ref a1)] [])) _
    refine XS.aloadN X0.here hx rfl (hb hby d9_0) rfl rfl ?_
    show Steps p.tables e below (s₁.setTop (mkF m 1 #[.val (.ref a1)] [(.ref a1)])) _
    refine st101 _ ?_
    show Steps p.tables e below (T101.setTop (mkF m 4 #[.val (.ref a1)] [(.ref b1)])) _
    refine XS.aloadN X101.here hx rfl (hb hby d9_4) rfl rfl ?_
    show Steps p.tables e below (T101.setTop (mkF m 5 #[.val (.ref a1)] [(.ref a1), (.ref b1)])) _
    refine st102 _ ?_
    show Steps p.tables e below (T102.setTop (mkF m 8 #[.val (.ref a1)] [(.int (6 : Int32)), (.ref b1)])) _
    refine X102.daload hx (j := (6 : Int32)) (v := (.double x6)) (own_hc e102 Ar103.1) (State.isArrayOf_alike hZ.alike Ar103.2.1) Ar103.2.2 hin103 hat103 (g := (mkF m 8 #[.val (.ref a1)] [(.int (6 : Int32)), (.ref b1)])) rfl rfl (hb hby d9_8) _ ?_
    show Steps p.tables e below (T102.setTop (mkF m 9 #[.val (.ref a1)] [(.double x6)])) _
    exact own_retD X102 hx Bd.returns (hb hby d9_9) hr
theorem ef_rm9_7 (m : MethodId) (x0 : Addr) : entryFrame m #[(.ref x0)] 1 = mkF m 0 #[.val (.ref x0)] [] := by first | (simp [entryFrame, mkF, argsToLocals, Value.category]; done) | rfl
def Q9_7 (Z : State) (a1 : Addr) (b1 : Addr) (k1 : ClassId) (x0 : UInt64) (x1 : UInt64) (x2 : UInt64) (x3 : UInt64) (x4 : UInt64) (x5 : UInt64) (x6 : UInt64) (x7 : UInt64) (h0 : Heap) (n0 : Nat) (v : Option Value) (h : Heap) (L : List Loc) : Prop := v = some (.double x7) ∧ Fr n0 L ∧ h = h0
set_option maxRecDepth 65536 in
set_option maxHeartbeats 40000000 in
theorem rm9_7 (l : Launch) (Z : State) (a0 : Array Value) (hw : ∀ d ∈ tables_1, d.before a0 Z = true) (ws : List Jvm.Cond) (a1 : Addr) (b1 : Addr) (k1 : ClassId) (x0 : UInt64) (x1 : UInt64) (x2 : UInt64) (x3 : UInt64) (x4 : UInt64) (x5 : UInt64) (x6 : UInt64) (x7 : UInt64) (h0 : Heap) (n0 : Nat) (Z0 : n0 ≤ h0.size) (F_f : Fld Z h0 a1 "com/example/tenrec/tenrec/pool/RequestQueue" "sizes" "[D" (.ref b1)) (F_h : Fld Z h0 a1 "com/example/tenrec/tenrec/pool/RequestQueue" "head" "I" (.int (7 : Int32))) (V_f : Arv Z h0 b1 k1 .double (8 : Int32) [(.double x0), (.double x1), (.double x2), (.double x3), (.double x4), (.double x5), (.double x6), (.double x7)] (.double (0 : UInt64))) :
    OMet l Z (⟨"com/example/tenrec/tenrec/pool/RequestQueue", "firstSize", "()D"⟩ : MethodName) prog_34_method_6_code 1 (some .double) ws ({ frames := 0, cells := 0, slots := 0, locals := 0 } : Room) #[(.ref a1)] h0 (Q9_7 Z a1 b1 k1 x0 x1 x2 x3 x4 x5 x6 x7 h0 n0) := by
  refine own_body (plainFor_of_name pn_com_example_tenrec_tenrec_pool_RequestQueue) ?_
  intro p e s m below meth c s₁ Bd hml0 hZ e0
  have hx := Bd.exec
  have hby := Bd.bytes
  have hml : c.maxLocals = 1 := hml0
  have hown : s.vm.findClass "com/example/tenrec/tenrec/pool/RequestQueue" = some m.cls := findClass_of_methodNamed Bd.named
  have hnm := (name_of_methodNamed Bd.named Bd.method).1
  have X0 : Stand p l e ({ frames := 0, cells := 0, slots := 0, locals := 0 } : Room) s m #[(.ref a1)] below meth c s₁ [] 0 0 := Stand.of_body Bd
  have N0 := Fr.nil n0
  have K0 : Keep h0 h0 [] := Keep.refl _ _
  rw [ef_rm9_7]
  obtain ⟨T101, X101, e101, st101⟩ := getF X0 hx hZ hown (host := "") (Or.inl (hw _ (List.mem_of_getElem? (i := 12) rfl))) Via.refl e0 F_f (g := (mkF m 1 #[.val (.ref a1)] [(.ref a1)])) rfl rfl (hb hby d9_1)
  obtain ⟨T102, X102, e102, st102⟩ := getF X101 hx hZ hown (host := "") (Or.inl (hw _ (List.mem_of_getElem? (i := 25) rfl))) Via.refl e101 F_h (g := (mkF m 5 #[.val (.ref a1)] [(.ref a1), (.ref b1)])) rfl rfl (hb hby d9_5)
  obtain ⟨cl103, Ar103, qa103, Sa103, Na103, Ha103, Ga103⟩ := id V_f
  have hin103 : ¬ ((7 : Int32) < 0 ∨ cl103.slots.size ≤ ((7 : Int32)).toNatClampNeg) := inb_of Sa103 ⟨by decide, by decide⟩
  have hat103 := Ha103.at (v := (.double x7)) hin103 rfl
  refine Gl.fin X102 (v := some (.double x7)) (fun h => by rw [Bd.returns] at h; cases h) Bd.notSynchronized ?_ e102 (by decide) (by decide) (fun fs hr => ?_)
  · exact ⟨rfl, N0, rfl⟩
  · show Steps p.tables e below (s₁.setTop (mkF m 0 #[.val (.ref a1)] [])) _
    refine XS.aloadN X0.here hx rfl (hb hby d9_0) rfl rfl ?_
    show Steps p.tables e below (s₁.setTop (mkF m 1 #[.val (.ref a1)] [(.ref a1)])) _
    refine st101 _ ?_
    show Steps p.tables e below (T101.setTop (mkF m 4 #[.val (.ref a1)] [(.ref b1)])) _
    refine XS.aloadN X101.here hx rfl (hb hby d9_4) rfl rfl ?_
    show Steps p.tables e below (T101.setTop (mkF m 5 #[.val (.ref a1)] [(.ref a1), (.ref b1)])) _
    refine st102 _ ?_
    show Steps p.tables e below (T102.setTop (mkF m 8 #[.val (.ref a1)] [(.int (7 : Int32)), (.ref b1)])) _
    refine X102.daload hx (j := (7 : Int32)) (v := (.double x7)) (own_hc e102 Ar103.1) (State.isArrayOf_alike hZ.alike Ar103.2.1) Ar103.2.2 hin103 hat103 (g := (mkF m 8 #[.val (.ref a1)] [(.int (7 : Int32)), (.ref b1)])) rfl rfl (hb hby d9_8) _ ?_
    show Steps p.tables e below (T102.setTop (mkF m 9 #[.val (.ref a1)] [(.double x7)])) _
    exact own_retD X102 hx Bd.returns (hb hby d9_9) hr
theorem ef_rm4_0_0 (m : MethodId) (x0 : Addr) (x1 : UInt64) (x2 : UInt64) : entryFrame m #[(.ref x0), (.double x1), (.double x2)] 7 = mkF m 0 #[.val (.ref x0), .val (.double x1), .second, .val (.double x2), .second, .unset, .unset] [] := by first | (simp [entryFrame, mkF, argsToLocals, Value.category]; done) | rfl
theorem d4_0 : decode prog_34_method_2_code 0 = .ok (.aload_n 0, 1) := by decide +kernel
theorem d4_1 : decode prog_34_method_2_code 1 = .ok (.getfield 16, 3) := by decide +kernel
theorem d4_4 : decode prog_34_method_2_code 4 = .ok (.aload_n 0, 1) := by decide +kernel
theorem d4_5 : decode prog_34_method_2_code 5 = .ok (.getfield 9, 3) := by decide +kernel
theorem d4_8 : decode prog_34_method_2_code 8 = .ok (.arraylength, 1) := by decide +kernel
theorem d4_9 : decode prog_34_method_2_code 9 = .ok (.if_icmp .ne 7, 3) := by decide +kernel
theorem d4_16 : decode prog_34_method_2_code 16 = .ok (.aload_n 0, 1) := by decide +kernel
theorem d4_17 : decode prog_34_method_2_code 17 = .ok (.getfield 9, 3) := by decide +kernel
theorem d4_20 : decode prog_34_method_2_code 20 = .ok (.arraylength, 1) := by decide +kernel
theorem d4_21 : decode prog_34_method_2_code 21 = .ok (.istore 5, 2) := by decide +kernel
theorem d4_23 : decode prog_34_method_2_code 23 = .ok (.aload_n 0, 1) := by decide +kernel
theorem d4_24 : decode prog_34_method_2_code 24 = .ok (.getfield 16, 3) := by decide +kernel
theorem d4_27 : decode prog_34_method_2_code 27 = .ok (.iload 5, 2) := by decide +kernel
theorem d4_29 : decode prog_34_method_2_code 29 = .ok (.aload_n 0, 1) := by decide +kernel
theorem d4_30 : decode prog_34_method_2_code 30 = .ok (.getfield 23, 3) := by decide +kernel
theorem d4_33 : decode prog_34_method_2_code 33 = .ok (.isub, 1) := by decide +kernel
theorem d4_34 : decode prog_34_method_2_code 34 = .ok (.if_icmp .ge 15, 3) := by decide +kernel
theorem d4_37 : decode prog_34_method_2_code 37 = .ok (.aload_n 0, 1) := by decide +kernel
theorem d4_38 : decode prog_34_method_2_code 38 = .ok (.getfield 23, 3) := by decide +kernel
theorem d4_41 : decode prog_34_method_2_code 41 = .ok (.aload_n 0, 1) := by decide +kernel
theorem d4_42 : decode prog_34_method_2_code 42 = .ok (.getfield 16, 3) := by decide +kernel
theorem d4_45 : decode prog_34_method_2_code 45 = .ok (.iadd, 1) := by decide +kernel
theorem d4_46 : decode prog_34_method_2_code 46 = .ok (.goto 15, 3) := by decide +kernel
theorem d4_61 : decode prog_34_method_2_code 61 = .ok (.istore 6, 2) := by decide +kernel
theorem d4_63 : decode prog_34_method_2_code 63 = .ok (.aload_n 0, 1) := by decide +kernel
theorem d4_64 : decode prog_34_method_2_code 64 = .ok (.getfield 9, 3) := by decide +kernel
theorem d4_67 : decode prog_34_method_2_code 67 = .ok (.iload 6, 2) := by decide +kernel
theorem d4_69 : decode prog_34_method_2_code 69 = .ok (.dload_n 1, 1) := by decide +kernel
theorem d4_70 : decode prog_34_method_2_code 70 = .ok (.dastore, 1) := by decide +kernel
theorem d4_71 : decode prog_34_method_2_code 71 = .ok (.aload_n 0, 1) := by decide +kernel
theorem d4_72 : decode prog_34_method_2_code 72 = .ok (.getfield 13, 3) := by decide +kernel
theorem d4_75 : decode prog_34_method_2_code 75 = .ok (.iload 6, 2) := by decide +kernel
theorem d4_77 : decode prog_34_method_2_code 77 = .ok (.dload_n 3, 1) := by decide +kernel
theorem d4_78 : decode prog_34_method_2_code 78 = .ok (.dastore, 1) := by decide +kernel
theorem d4_79 : decode prog_34_method_2_code 79 = .ok (.aload_n 0, 1) := by decide +kernel
theorem d4_80 : decode prog_34_method_2_code 80 = .ok (.dup, 1) := by decide +kernel
theorem d4_81 : decode prog_34_method_2_code 81 = .ok (.getfield 16, 3) := by decide +kernel
theorem d4_84 : decode prog_34_method_2_code 84 = .ok (.iconst 1, 1) := by decide +kernel
theorem d4_85 : decode prog_34_method_2_code 85 = .ok (.iadd, 1) := by decide +kernel
theorem d4_86 : decode prog_34_method_2_code 86 = .ok (.putfield 16, 3) := by decide +kernel
theorem d4_89 : decode prog_34_method_2_code 89 = .ok (.return_, 1) := by decide +kernel
def Q4_0_0 (Z : State) (a1 : Addr) (d1 : UInt64) (d2 : UInt64) (b1 : Addr) (b2 : Addr) (k1 : ClassId) (k2 : ClassId) (x0 : UInt64) (x1 : UInt64) (x2 : UInt64) (x3 : UInt64) (x4 : UInt64) (x5 : UInt64) (x6 : UInt64) (x7 : UInt64) (y0 : UInt64) (y1 : UInt64) (y2 : UInt64) (y3 : UInt64) (y4 : UInt64) (y5 : UInt64) (y6 : UInt64) (y7 : UInt64) (h0 : Heap) (n0 : Nat) (v : Option Value) (h : Heap) (L : List Loc) : Prop := v = none ∧ Fr n0 L ∧ Keep h0 h [a1, b1, b2] ∧ Exa Z h a1 "com/example/tenrec/tenrec/pool/RequestQueue" ∧ Fld Z h a1 "com/example/tenrec/tenrec/pool/RequestQueue" "arrivals" "[D" (.ref b1) ∧ Fld Z h a1 "com/example/tenrec/tenrec/pool/RequestQueue" "sizes" "[D" (.ref b2) ∧ Fld Z h a1 "com/example/tenrec/tenrec/pool/RequestQueue" "count" "I" (.int (1 : Int32)) ∧ Fld Z h a1 "com/example/tenrec/tenrec/pool/RequestQueue" "head" "I" (.int (0 : Int32)) ∧ Arv Z h b1 k1 .double (8 : Int32) [(.double d1), (.double x1), (.double x2), (.double x3), (.double x4), (.double x5), (.double x6), (.double x7)] (.double (0 : UInt64)) ∧ Arv Z h b2 k2 .double (8 : Int32) [(.double d2), (.double y1), (.double y2), (.double y3), (.double y4), (.double y5), (.double y6), (.double y7)] (.double (0 : UInt64))
set_option maxRecDepth 65536 in
set_option maxHeartbeats 40000000 in
theorem rm4_0_0 (l : Launch) (Z : State) (a0 : Array Value) (hw : ∀ d ∈ tables_1, d.before a0 Z = true) (ws : List Jvm.Cond) (a1 : Addr) (d1 : UInt64) (d2 : UInt64) (b1 : Addr) (b2 : Addr) (k1 : ClassId) (k2 : ClassId) (x0 : UInt64) (x1 : UInt64) (x2 : UInt64) (x3 : UInt64) (x4 : UInt64) (x5 : UInt64) (x6 : UInt64) (x7 : UInt64) (y0 : UInt64) (y1 : UInt64) (y2 : UInt64) (y3 : UInt64) (y4 : UInt64) (y5 : UInt64) (y6 : UInt64) (y7 : UInt64) (h0 : Heap) (n0 : Nat) (Z0 : n0 ≤ h0.size) (g_a1 : n0 ≤ a1) (g_b1 : n0 ≤ b1) (g_b2 : n0 ≤ b2) (ne1 : a1 ≠ b1) (ne2 : a1 ≠ b2) (ne3 : b1 ≠ b2) (E_a : Exa Z h0 a1 "com/example/tenrec/tenrec/pool/RequestQueue") (F_a : Fld Z h0 a1 "com/example/tenrec/tenrec/pool/RequestQueue" "arrivals" "[D" (.ref b1)) (F_s : Fld Z h0 a1 "com/example/tenrec/tenrec/pool/RequestQueue" "sizes" "[D" (.ref b2)) (F_c : Fld Z h0 a1 "com/example/tenrec/tenrec/pool/RequestQueue" "count" "I" (.int (0 : Int32))) (F_h : Fld Z h0 a1 "com/example/tenrec/tenrec/pool/RequestQueue" "head" "I" (.int (0 : Int32))) (V_a : Arv Z h0 b1 k1 .double (8 : Int32) [(.double x0), (.double x1), (.double x2), (.double x3), (.double x4), (.double x5), (.double x6), (.double x7)] (.double (0 : UInt64))) (V_s : Arv Z h0 b2 k2 .double (8 : Int32) [(.double y0), (.double y1), (.double y2), (.double y3), (.double y4), (.double y5), (.double y6), (.double y7)] (.double (0 : UInt64))) :
    OMet l Z (⟨"com/example/tenrec/tenrec/pool/RequestQueue", "add", "(DD)V"⟩ : MethodName) prog_34_method_2_code 7 none ws ({ frames := 0, cells := 0, slots := 0, locals := 0 } : Room) #[(.ref a1), (.double d1), (.double d2)] h0 (Q4_0_0 Z a1 d1 d2 b1 b2 k1 k2 x0 x1 x2 x3 x4 x5 x6 x7 y0 y1 y2 y3 y4 y5 y6 y7 h0 n0) := by
  refine own_body (plainFor_of_name pn_com_example_tenrec_tenrec_pool_RequestQueue) ?_
  intro p e s m below meth c s₁ Bd hml0 hZ e0
  have hx := Bd.exec
  have hby := Bd.bytes
  have hml : c.maxLocals = 7 := hml0
  have hown : s.vm.findClass "com/example/tenrec/tenrec/pool/RequestQueue" = some m.cls := findClass_of_methodNamed Bd.named
  have hnm := (name_of_methodNamed Bd.named Bd.method).1
  have X0 : Stand p l e ({ frames := 0, cells := 0, slots := 0, locals := 0 } : Room) s m #[(.ref a1), (.double d1), (.double d2)] below meth c s₁ [] 0 0 := Stand.of_body Bd
  have N0 := Fr.nil n0
  have K0 : Keep h0 h0 [a1, b1, b2] := Keep.refl _ _
  rw [ef_rm4_0_0]
  obtain ⟨T101, X101, e101, st101⟩ := getF X0 hx hZ hown (host := "") (Or.inl (hw _ (List.mem_of_getElem? (i := 23) rfl))) Via.refl e0 F_c (g := (mkF m 1 #[.val (.ref a1), .val (.double d1), .second, .val (.double d2), .second, .unset, .unset] [(.ref a1)])) rfl rfl (hb hby d4_1)
  obtain ⟨T102, X102, e102, st102⟩ := getF X101 hx hZ hown (host := "") (Or.inl (hw _ (List.mem_of_getElem? (i := 10) rfl))) Via.refl e101 F_a (g := (mkF m 5 #[.val (.ref a1), .val (.double d1), .second, .val (.double d2), .second, .unset, .unset] [(.ref a1), (.int (0 : Int32))])) rfl rfl (hb hby d4_5)
  obtain ⟨cl103, Ar103, qa103, Sa103, Na103, Ha103, Ga103⟩ := id V_a
  obtain ⟨T104, X104, e104, st104⟩ := getF X102 hx hZ hown (host := "") (Or.inl (hw _ (List.mem_of_getElem? (i := 10) rfl))) Via.refl e102 F_a (g := (mkF m 17 #[.val (.ref a1), .val (.double d1), .second, .val (.double d2), .second, .unset, .unset] [(.ref a1)])) rfl rfl (hb hby d4_17)
  obtain ⟨cl105, Ar105, qa105, Sa105, Na105, Ha105, Ga105⟩ := id V_a
  obtain ⟨T106, X106, e106, st106⟩ := getF X104 hx hZ hown (host := "") (Or.inl (hw _ (List.mem_of_getElem? (i := 23) rfl))) Via.refl e104 F_c (g := (mkF m 24 #[.val (.ref a1), .val (.double d1), .second, .val (.double d2), .second, .val (.int (8 : Int32)), .unset] [(.ref a1)])) rfl rfl (hb hby d4_24)
  obtain ⟨T107, X107, e107, st107⟩ := getF X106 hx hZ hown (host := "") (Or.inl (hw _ (List.mem_of_getElem? (i := 25) rfl))) Via.refl e106 F_h (g := (mkF m 30 #[.val (.ref a1), .val (.double d1), .second, .val (.double d2), .second, .val (.int (8 : Int32)), .unset] [(.ref a1), (.int (8 : Int32)), (.int (0 : Int32))])) rfl rfl (hb hby d4_30)
  obtain ⟨T108, X108, e108, st108⟩ := getF X107 hx hZ hown (host := "") (Or.inl (hw _ (List.mem_of_getElem? (i := 25) rfl))) Via.refl e107 F_h (g := (mkF m 38 #[.val (.ref a1), .val (.double d1), .second, .val (.double d2), .second, .val (.int (8 : Int32)), .unset] [(.ref a1)])) rfl rfl (hb hby d4_38)
  obtain ⟨T109, X109, e109, st109⟩ := getF X108 hx hZ hown (host := "") (Or.inl (hw _ (List.mem_of_getElem? (i := 23) rfl))) Via.refl e108 F_c (g := (mkF m 42 #[.val (.ref a1), .val (.double d1), .second, .val (.double d2), .second, .val (.int (8 : Int32)), .unset] [(.ref a1), (.int (0 : Int32))])) rfl rfl (hb hby d4_42)
  obtain ⟨T110, X110, e110, st110⟩ := getF X109 hx hZ hown (host := "") (Or.inl (hw _ (List.mem_of_getElem? (i := 10) rfl))) Via.refl e109 F_a (g := (mkF m 64 #[.val (.ref a1), .val (.double d1), .second, .val (.double d2), .second, .val (.int (8 : Int32)), .val (.int (0 : Int32))] [(.ref a1)])) rfl rfl (hb hby d4_64)
  obtain ⟨cl111, Ar111, qa111, Sa111, Na111, Ha111, Ga111⟩ := id V_a
  have hin111 : ¬ ((0 : Int32) < 0 ∨ cl111.slots.size ≤ ((0 : Int32)).toNatClampNeg) := inb_of Sa111 ⟨by decide, by decide⟩
  obtain ⟨T111, h111, X111, e111, W111, st111⟩ := stD X110 hx hZ e110 Ar111 (j := (0 : Int32)) hin111 (g := (mkF m 70 #[.val (.ref a1), .val (.double d1), .second, .val (.double d2), .second, .val (.int (8 : Int32)), .val (.int (0 : Int32))] [(.double d1), (.int (0 : Int32)), (.ref b1)])) rfl rfl (hb hby d4_70)
  have V_b1_111 := Arv.set Ar111 qa111 Sa111 Na111 Ha111 Ga111 rfl W111 0 rfl (Nat.le_of_ble_eq_true rfl)
  have V111 : Arv Z h111 b1 k1 .double (8 : Int32) [(.double d1), (.double x1), (.double x2), (.double x3), (.double x4), (.double x5), (.double x6), (.double x7)] (.double (0 : UInt64)) := V_b1_111
  have K111 : Keep h0 h111 [a1, b1, b2] := K0.wr W111 (Or.inl (List.mem_of_getElem? (i := 1) rfl))
  have N111 := Fr.snoc X111 N0 g_b1
  refine Gl.pre (S' := T111.setTop (mkF m 72 #[.val (.ref a1), .val (.double d1), .second, .val (.double d2), .second, .val (.int (8 : Int32)), .val (.int (0 : Int32))] [(.ref a1)])) (fun t kt => ?_) ?_
  · show Steps p.tables e below (s₁.setTop (mkF m 0 #[.val (.ref a1), .val (.double d1), .second, .val (.double d2), .second, .unset, .unset] [])) _
    refine XS.aloadN X0.here hx rfl (hb hby d4_0) rfl rfl ?_
    show Steps p.tables e below (s₁.setTop (mkF m 1 #[.val (.ref a1), .val (.double d1), .second, .val (.double d2), .second, .unset, .unset] [(.ref a1)])) _
    refine st101 _ ?_
    show Steps p.tables e below (T101.setTop (mkF m 4 #[.val (.ref a1), .val (.double d1), .second, .val (.double d2), .second, .unset, .unset] [(.int (0 : Int32))])) _
    refine XS.aloadN X101.here hx rfl (hb hby d4_4) rfl rfl ?_
    show Steps p.tables e below (T101.setTop (mkF m 5 #[.val (.ref a1), .val (.double d1), .second, .val (.double d2), .second, .unset, .unset] [(.ref a1), (.int (0 : Int32))])) _
    refine st102 _ ?_
    show Steps p.tables e below (T102.setTop (mkF m 8 #[.val (.ref a1), .val (.double d1), .second, .val (.double d2), .second, .unset, .unset] [(.ref b1), (.int (0 : Int32))])) _
    refine X102.arraylength hx (own_hc e102 Ar103.1) (State.isArrayOf_alike hZ.alike Ar103.2.1) (g := (mkF m 8 #[.val (.ref a1), .val (.double d1), .second, .val (.double d2), .second, .unset, .unset] [(.ref b1), (.int (0 : Int32))])) rfl rfl (hb hby d4_8) _ ?_
    rw [len_of Sa103 Na103]
    show Steps p.tables e below (T102.setTop (mkF m 9 #[.val (.ref a1), .val (.double d1), .second, .val (.double d2), .second, .unset, .unset] [(.int (8 : Int32)), (.int (0 : Int32))])) _
    refine XS.icmpYes X102.here hx rfl (pc0 := 9) (pc' := 16) rfl (hb hby d4_9) rfl (own_nt (ic_ne _ _) (by decide)) (by decide) (by decide) ?_
    show Steps p.tables e below (T102.setTop (mkF m 16 #[.val (.ref a1), .val (.double d1), .second, .val (.double d2), .second, .unset, .unset] [])) _
    refine XS.aloadN X102.here hx rfl (hb hby d4_16) rfl rfl ?_
    show Steps p.tables e below (T102.setTop (mkF m 17 #[.val (.ref a1), .val (.double d1), .second, .val (.double d2), .second, .unset, .unset] [(.ref a1)])) _
    refine st104 _ ?_
    show Steps p.tables e below (T104.setTop (mkF m 20 #[.val (.ref a1), .val (.double d1), .second, .val (.double d2), .second, .unset, .unset] [(.ref b1)])) _
    refine X104.arraylength hx (own_hc e104 Ar105.1) (State.isArrayOf_alike hZ.alike Ar105.2.1) (g := (mkF m 20 #[.val (.ref a1), .val (.double d1), .second, .val (.double d2), .second, .unset, .unset] [(.ref b1)])) rfl rfl (hb hby d4_20) _ ?_
    rw [len_of Sa105 Na105]
    show Steps p.tables e below (T104.setTop (mkF m 21 #[.val (.ref a1), .val (.double d1), .second, .val (.double d2), .second, .unset, .unset] [(.int (8 : Int32))])) _
    refine XS.istore X104.here hx rfl (hb hby d4_21) rfl (l' := #[.val (.ref a1), .val (.double d1), .second, .val (.double d2), .second, .val (.int (8 : Int32)), .unset]) rfl ?_
    show Steps p.tables e below (T104.setTop (mkF m 23 #[.val (.ref a1), .val (.double d1), .second, .val (.double d2), .second, .val (.int (8 : Int32)), .unset] [])) _
    refine XS.aloadN X104.here hx rfl (hb hby d4_23) rfl rfl ?_
    show Steps p.tables e below (T104.setTop (mkF m 24 #[.val (.ref a1), .val (.double d1), .second, .val (.double d2), .second, .val (.int (8 : Int32)), .unset] [(.ref a1)])) _
    refine st106 _ ?_
    show Steps p.tables e below (T106.setTop (mkF m 27 #[.val (.ref a1), .val (.double d1), .second, .val (.double d2), .second, .val (.int (8 : Int32)), .unset] [(.int (0 : Int32))])) _
    refine XS.iload X106.here hx rfl (hb hby d4_27) rfl ?_
    show Steps p.tables e below (T106.setTop (mkF m 29 #[.val (.ref a1), .val (.double d1), .second, .val (.double d2), .second, .val (.int (8 : Int32)), .unset] [(.int (8 : Int32)), (.int (0 : Int32))])) _
    refine XS.aloadN X106.here hx rfl (hb hby d4_29) rfl rfl ?_
    show Steps p.tables e below (T106.setTop (mkF m 30 #[.val (.ref a1), .val (.double d1), .second, .val (.double d2), .second, .val (.int (8 : Int32)), .unset] [(.ref a1), (.int (8 : Int32)), (.int (0 : Int32))])) _
    refine st107 _ ?_
    show Steps p.tables e below (T107.setTop (mkF m 33 #[.val (.ref a1), .val (.double d1), .second, .val (.double d2), .second, .val (.int (8 : Int32)), .unset] [(.int (0 : Int32)), (.int (8 : Int32)), (.int (0 : Int32))])) _
    refine XS.isub X107.here hx rfl (hb hby d4_33) rfl ?_
    show Steps p.tables e below (T107.setTop (mkF m 34 #[.val (.ref a1), .val (.double d1), .second, .val (.double d2), .second, .val (.int (8 : Int32)), .unset] [(.int (8 : Int32)), (.int (0 : Int32))])) _
    refine XS.icmpNo X107.here hx rfl (hb hby d4_34) rfl (own_nf (ic_ge _ _) (by decide)) ?_
    show Steps p.tables e below (T107.setTop (mkF m 37 #[.val (.ref a1), .val (.double d1), .second, .val (.double d2), .second, .val (.int (8 : Int32)), .unset] [])) _
    refine XS.aloadN X107.here hx rfl (hb hby d4_37) rfl rfl ?_
    show Steps p.tables e below (T107.setTop (mkF m 38 #[.val (.ref a1), .val (.double d1), .second, .val (.double d2), .second, .val (.int (8 : Int32)), .unset] [(.ref a1)])) _
    refine st108 _ ?_
    show Steps p.tables e below (T108.setTop (mkF m 41 #[.val (.ref a1), .val (.double d1), .second, .val (.double d2), .second, .val (.int (8 : Int32)), .unset] [(.int (0 : Int32))])) _
    refine XS.aloadN X108.here hx rfl (hb hby d4_41) rfl rfl ?_
    show Steps p.tables e below (T108.setTop (mkF m 42 #[.val (.ref a1), .val (.double d1), .second, .val (.double d2), .second, .val (.int (8 : Int32)), .unset] [(.ref a1), (.int (0 : Int32))])) _
    refine st109 _ ?_
    show Steps p.tables e below (T109.setTop (mkF m 45 #[.val (.ref a1), .val (.double d1), .second, .val (.double d2), .second, .val (.int (8 : Int32)), .unset] [(.int (0 : Int32)), (.int (0 : Int32))])) _
    refine XS.iadd X109.here hx rfl (hb hby d4_45) rfl ?_
    show Steps p.tables e below (T109.setTop (mkF m 46 #[.val (.ref a1), .val (.double d1), .second, .val (.double d2), .second, .val (.int (8 : Int32)), .unset] [(.int ((0 : Int32) + (0 : Int32)))])) _
    refine XS.goto X109.here hx rfl (pc0 := 46) (pc' := 61) rfl (hb hby d4_46) (by decide) (by decide) ?_
    show Steps p.tables e below (T109.setTop (mkF m 61 #[.val (.ref a1), .val (.double d1), .second, .val (.double d2), .second, .val (.int (8 : Int32)), .unset] [(.int (0 : Int32))])) _
    refine XS.istore X109.here hx rfl (hb hby d4_61) rfl (l' := #[.val (.ref a1), .val (.double d1), .second, .val (.double d2), .second, .val (.int (8 : Int32)), .val (.int (0 : Int32))]) rfl ?_
    show Steps p.tables e below (T109.setTop (mkF m 63 #[.val (.ref a1), .val (.double d1), .second, .val (.double d2), .second, .val (.int (8 : Int32)), .val (.int (0 : Int32))] [])) _
    refine XS.aloadN X109.here hx rfl (hb hby d4_63) rfl rfl ?_
    show Steps p.tables e below (T109.setTop (mkF m 64 #[.val (.ref a1), .val (.double d1), .second, .val (.double d2), .second, .val (.int (8 : Int32)), .val (.int (0 : Int32))] [(.ref a1)])) _
    refine st110 _ ?_
    show Steps p.tables e below (T110.setTop (mkF m 67 #[.val (.ref a1), .val (.double d1), .second, .val (.double d2), .second, .val (.int (8 : Int32)), .val (.int (0 : Int32))] [(.ref b1)])) _
    refine XS.iload X110.here hx rfl (hb hby d4_67) rfl ?_
    show Steps p.tables e below (T110.setTop (mkF m 69 #[.val (.ref a1), .val (.double d1), .second, .val (.double d2), .second, .val (.int (8 : Int32)), .val (.int (0 : Int32))] [(.int (0 : Int32)), (.ref b1)])) _
    refine XS.dloadN X110.here hx rfl (hb hby d4_69) rfl ?_
    show Steps p.tables e below (T110.setTop (mkF m 70 #[.val (.ref a1), .val (.double d1), .second, .val (.double d2), .second, .val (.int (8 : Int32)), .val (.int (0 : Int32))] [(.double d1), (.int (0 : Int32)), (.ref b1)])) _
    refine st111 _ ?_
    show Steps p.tables e below (T111.setTop (mkF m 71 #[.val (.ref a1), .val (.double d1), .second, .val (.double d2), .second, .val (.int (8 : Int32)), .val (.int (0 : Int32))] [])) _
    refine XS.aloadN X111.here hx rfl (hb hby d4_71) rfl rfl ?_
    exact kt
  have f112 := (F_s.other W111 (Or.inl ne1))
  obtain ⟨T113, X113, e113, st113⟩ := getF X111 hx hZ hown (host := "") (Or.inl (hw _ (List.mem_of_getElem? (i := 12) rfl))) Via.refl e111 f112 (g := (mkF m 72 #[.val (.ref a1), .val (.double d1), .second, .val (.double d2), .second, .val (.int (8 : Int32)), .val (.int (0 : Int32))] [(.ref a1)])) rfl rfl (hb hby d4_72)
  have f115 := (V_s.other W111 (Ne.symm ne3))
  obtain ⟨cl114, Ar114, qa114, Sa114, Na114, Ha114, Ga114⟩ := id f115
  have hin114 : ¬ ((0 : Int32) < 0 ∨ cl114.slots.size ≤ ((0 : Int32)).toNatClampNeg) := inb_of Sa114 ⟨by decide, by decide⟩
  obtain ⟨T114, h114, X114, e114, W114, st114⟩ := stD X113 hx hZ e113 Ar114 (j := (0 : Int32)) hin114 (g := (mkF m 78 #[.val (.ref a1), .val (.double d1), .second, .val (.double d2), .second, .val (.int (8 : Int32)), .val (.int (0 : Int32))] [(.double d2), (.int (0 : Int32)), (.ref b2)])) rfl rfl (hb hby d4_78)
  have V_b2_114 := Arv.set Ar114 qa114 Sa114 Na114 Ha114 Ga114 rfl W114 0 rfl (Nat.le_of_ble_eq_true rfl)
  have V114 : Arv Z h114 b2 k2 .double (8 : Int32) [(.double d2), (.double y1), (.double y2), (.double y3), (.double y4), (.double y5), (.double y6), (.double y7)] (.double (0 : UInt64)) := V_b2_114
  have K114 : Keep h0 h114 [a1, b1, b2] := K111.wr W114 (Or.inl (List.mem_of_getElem? (i := 2) rfl))
  have N114 := Fr.snoc X114 N111 g_b2
  have f116 := ((F_c.other W111 (Or.inl ne1)).other W114 (Or.inl ne2))
  obtain ⟨T117, X117, e117, st117⟩ := getF X114 hx hZ hown (host := "") (Or.inl (hw _ (List.mem_of_getElem? (i := 23) rfl))) Via.refl e114 f116 (g := (mkF m 81 #[.val (.ref a1), .val (.double d1), .second, .val (.double d2), .second, .val (.int (8 : Int32)), .val (.int (0 : Int32))] [(.ref a1), (.ref a1)])) rfl rfl (hb hby d4_81)
  have f118 := ((E_a.wr W111).wr W114)
  obtain ⟨T119, h119, X119, e119, W119, st119⟩ := putF X117 hx hZ hown (host := "") (Or.inl (hw _ (List.mem_of_getElem? (i := 23) rfl))) Via.refl e117 f116 f118 (Or.inl (hw _ (List.mem_of_getElem? (i := 24) rfl))) (hw _ (List.mem_of_getElem? (i := 1) rfl)) (ty := .int) (by decide) rfl rfl (g := (mkF m 86 #[.val (.ref a1), .val (.double d1), .second, .val (.double d2), .second, .val (.int (8 : Int32)), .val (.int (0 : Int32))] [(.int (1 : Int32)), (.ref a1)])) rfl rfl (hb hby d4_86)
  have Fw119 := f116.same W119
  have K119 : Keep h0 h119 [a1, b1, b2] := K114.wr W119 (Or.inl (List.mem_of_getElem? (i := 0) rfl))
  have N119 := Fr.snoc X119 N114 g_a1
  have f120 := (f118.wr W119)
  have f121 := (((F_a.other W111 (Or.inl ne1)).other W114 (Or.inl ne2)).other W119 (Or.inr (slot_ne (Or.inl (hw _ (List.mem_of_getElem? (i := 11) rfl))) (Or.inl (hw _ (List.mem_of_getElem? (i := 24) rfl))) (by decide) (t := (.array .double)) (t' := .int) (by decide) (by decide))))
  have f122 := ((f112.other W114 (Or.inl ne2)).other W119 (Or.inr (slot_ne (Or.inl (hw _ (List.mem_of_getElem? (i := 13) rfl))) (Or.inl (hw _ (List.mem_of_getElem? (i := 24) rfl))) (by decide) (t := (.array .double)) (t' := .int) (by decide) (by decide))))
  have f123 := (((F_h.other W111 (Or.inl ne1)).other W114 (Or.inl ne2)).other W119 (Or.inr (slot_ne (Or.inl (hw _ (List.mem_of_getElem? (i := 26) rfl))) (Or.inl (hw _ (List.mem_of_getElem? (i := 24) rfl))) (by decide) (t := .int) (t' := .int) (by decide) (by decide))))
  have f124 := ((V111.other W114 ne3).other W119 (Ne.symm ne1))
  have f125 := (V114.other W119 (Ne.symm ne2))
  refine Gl.fin X119 (v := none) (fun _ => rfl) Bd.notSynchronized ?_ e119 (by decide) (by decide) (fun fs hr => ?_)
  · exact ⟨rfl, N119, K119, f120, f121, f122, Fw119, f123, f124, f125⟩
  · show Steps p.tables e below (T111.setTop (mkF m 72 #[.val (.ref a1), .val (.double d1), .second, .val (.double d2), .second, .val (.int (8 : Int32)), .val (.int (0 : Int32))] [(.ref a1)])) _
    refine st113 _ ?_
    show Steps p.tables e below (T113.setTop (mkF m 75 #[.val (.ref a1), .val (.double d1), .second, .val (.double d2), .second, .val (.int (8 : Int32)), .val (.int (0 : Int32))] [(.ref b2)])) _
    refine XS.iload X113.here hx rfl (hb hby d4_75) rfl ?_
    show Steps p.tables e below (T113.setTop (mkF m 77 #[.val (.ref a1), .val (.double d1), .second, .val (.double d2), .second, .val (.int (8 : Int32)), .val (.int (0 : Int32))] [(.int (0 : Int32)), (.ref b2)])) _
    refine XS.dloadN X113.here hx rfl (hb hby d4_77) rfl ?_
    show Steps p.tables e below (T113.setTop (mkF m 78 #[.val (.ref a1), .val (.double d1), .second, .val (.double d2), .second, .val (.int (8 : Int32)), .val (.int (0 : Int32))] [(.double d2), (.int (0 : Int32)), (.ref b2)])) _
    refine st114 _ ?_
    show Steps p.tables e below (T114.setTop (mkF m 79 #[.val (.ref a1), .val (.double d1), .second, .val (.double d2), .second, .val (.int (8 : Int32)), .val (.int (0 : Int32))] [])) _
    refine XS.aloadN X114.here hx rfl (hb hby d4_79) rfl rfl ?_
    show Steps p.tables e below (T114.setTop (mkF m 80 #[.val (.ref a1), .val (.double d1), .second, .val (.double d2), .second, .val (.int (8 : Int32)), .val (.int (0 : Int32))] [(.ref a1)])) _
    refine XS.dup X114.here hx rfl (hb hby d4_80) rfl rfl ?_
    show Steps p.tables e below (T114.setTop (mkF m 81 #[.val (.ref a1), .val (.double d1), .second, .val (.double d2), .second, .val (.int (8 : Int32)), .val (.int (0 : Int32))] [(.ref a1), (.ref a1)])) _
    refine st117 _ ?_
    show Steps p.tables e below (T117.setTop (mkF m 84 #[.val (.ref a1), .val (.double d1), .second, .val (.double d2), .second, .val (.int (8 : Int32)), .val (.int (0 : Int32))] [(.int (0 : Int32)), (.ref a1)])) _
    refine XS.iconst X117.here hx rfl (hb hby d4_84) ?_
    show Steps p.tables e below (T117.setTop (mkF m 85 #[.val (.ref a1), .val (.double d1), .second, .val (.double d2), .second, .val (.int (8 : Int32)), .val (.int (0 : Int32))] [(.int (1 : Int32)), (.int (0 : Int32)), (.ref a1)])) _
    refine XS.iadd X117.here hx rfl (hb hby d4_85) rfl ?_
    show Steps p.tables e below (T117.setTop (mkF m 86 #[.val (.ref a1), .val (.double d1), .second, .val (.double d2), .second, .val (.int (8 : Int32)), .val (.int (0 : Int32))] [(.int (1 : Int32)), (.ref a1)])) _
    refine st119 _ ?_
    show Steps p.tables e below (T119.setTop (mkF m 89 #[.val (.ref a1), .val (.double d1), .second, .val (.double d2), .second, .val (.int (8 : Int32)), .val (.int (0 : Int32))] [])) _
    exact X119.returnOut hx Bd.returns (hb hby d4_89) hr
theorem pn_com_example_tenrec_tenrec_pool_RequestQueueRemoveFirstPinLaw : plainName "com/example/tenrec/tenrec/pool/RequestQueueRemoveFirstPinLaw" = true := by first | (simp [plainName, overriddenIn]; done) | decide +kernel
theorem ef_rm3_0_0 (m : MethodId) (x0 : Addr) (x1 : Int32) (x2 : Int32) (x3 : Int32) : entryFrame m #[(.ref x0), (.int x1), (.int x2), (.int x3)] 4 = mkF m 0 #[.val (.ref x0), .val (.int x1), .val (.int x2), .val (.int x3)] [] := by first | (simp [entryFrame, mkF, argsToLocals, Value.category]; done) | rfl
theorem d3_0 : decode method_2_code 0 = .ok (.aload_n 0, 1) := by decide +kernel
theorem d3_1 : decode method_2_code 1 = .ok (.iload_n 1, 1) := by decide +kernel
theorem d3_2 : decode method_2_code 2 = .ok (.iload_n 3, 1) := by decide +kernel
theorem d3_3 : decode method_2_code 3 = .ok (.iadd, 1) := by decide +kernel
theorem d3_4 : decode method_2_code 4 = .ok (.i2d, 1) := by decide +kernel
theorem d3_5 : decode method_2_code 5 = .ok (.iload_n 2, 1) := by decide +kernel
theorem d3_6 : decode method_2_code 6 = .ok (.iload_n 3, 1) := by decide +kernel
theorem d3_7 : decode method_2_code 7 = .ok (.isub, 1) := by decide +kernel
theorem d3_8 : decode method_2_code 8 = .ok (.i2d, 1) := by decide +kernel
theorem d3_9 : decode method_2_code 9 = .ok (.invokevirtual 7, 3) := by decide +kernel
theorem pd__DD_V : parseMethodDescriptor "(DD)V" = some ⟨[.double, .double], none⟩ := by decide +kernel
theorem d3_12 : decode method_2_code 12 = .ok (.return_, 1) := by decide +kernel
def Q3_0_0 (Z : State) (a1 : Addr) (p1 : Int32) (p2 : Int32) (p3 : Int32) (b1 : Addr) (b2 : Addr) (k1 : ClassId) (k2 : ClassId) (x0 : UInt64) (x1 : UInt64) (x2 : UInt64) (x3 : UInt64) (x4 : UInt64) (x5 : UInt64) (x6 : UInt64) (x7 : UInt64) (y0 : UInt64) (y1 : UInt64) (y2 : UInt64) (y3 : UInt64) (y4 : UInt64) (y5 : UInt64) (y6 : UInt64) (y7 : UInt64) (h0 : Heap) (n0 : Nat) (v : Option Value) (h : Heap) (L : List Loc) : Prop := v = none ∧ Fr n0 L ∧ Keep h0 h [a1, b1, b2] ∧ Exa Z h a1 "com/example/tenrec/tenrec/pool/RequestQueue" ∧ Fld Z h a1 "com/example/tenrec/tenrec/pool/RequestQueue" "arrivals" "[D" (.ref b1) ∧ Fld Z h a1 "com/example/tenrec/tenrec/pool/RequestQueue" "sizes" "[D" (.ref b2) ∧ Fld Z h a1 "com/example/tenrec/tenrec/pool/RequestQueue" "count" "I" (.int (1 : Int32)) ∧ Fld Z h a1 "com/example/tenrec/tenrec/pool/RequestQueue" "head" "I" (.int (0 : Int32)) ∧ Arv Z h b1 k1 .double (8 : Int32) [(.double (FP.i2d (p1 + p3))), (.double x1), (.double x2), (.double x3), (.double x4), (.double x5), (.double x6), (.double x7)] (.double (0 : UInt64)) ∧ Arv Z h b2 k2 .double (8 : Int32) [(.double (FP.i2d (p2 - p3))), (.double y1), (.double y2), (.double y3), (.double y4), (.double y5), (.double y6), (.double y7)] (.double (0 : UInt64))
set_option maxRecDepth 65536 in
set_option maxHeartbeats 40000000 in
theorem rm3_0_0 (l : Launch) (Z : State) (a0 : Array Value) (hw : ∀ d ∈ tables_1, d.before a0 Z = true) (ws : List Jvm.Cond) (a1 : Addr) (p1 : Int32) (p2 : Int32) (p3 : Int32) (b1 : Addr) (b2 : Addr) (k1 : ClassId) (k2 : ClassId) (x0 : UInt64) (x1 : UInt64) (x2 : UInt64) (x3 : UInt64) (x4 : UInt64) (x5 : UInt64) (x6 : UInt64) (x7 : UInt64) (y0 : UInt64) (y1 : UInt64) (y2 : UInt64) (y3 : UInt64) (y4 : UInt64) (y5 : UInt64) (y6 : UInt64) (y7 : UInt64) (h0 : Heap) (n0 : Nat) (Z0 : n0 ≤ h0.size) (g_a1 : n0 ≤ a1) (g_b1 : n0 ≤ b1) (g_b2 : n0 ≤ b2) (ne1 : a1 ≠ b1) (ne2 : a1 ≠ b2) (ne3 : b1 ≠ b2) (E_a : Exa Z h0 a1 "com/example/tenrec/tenrec/pool/RequestQueue") (F_a : Fld Z h0 a1 "com/example/tenrec/tenrec/pool/RequestQueue" "arrivals" "[D" (.ref b1)) (F_s : Fld Z h0 a1 "com/example/tenrec/tenrec/pool/RequestQueue" "sizes" "[D" (.ref b2)) (F_c : Fld Z h0 a1 "com/example/tenrec/tenrec/pool/RequestQueue" "count" "I" (.int (0 : Int32))) (F_h : Fld Z h0 a1 "com/example/tenrec/tenrec/pool/RequestQueue" "head" "I" (.int (0 : Int32))) (V_a : Arv Z h0 b1 k1 .double (8 : Int32) [(.double x0), (.double x1), (.double x2), (.double x3), (.double x4), (.double x5), (.double x6), (.double x7)] (.double (0 : UInt64))) (V_s : Arv Z h0 b2 k2 .double (8 : Int32) [(.double y0), (.double y1), (.double y2), (.double y3), (.double y4), (.double y5), (.double y6), (.double y7)] (.double (0 : UInt64))) :
    OMet l Z (⟨"com/example/tenrec/tenrec/pool/RequestQueueRemoveFirstPinLaw", "put", "(Lcom/example/tenrec/tenrec/pool/RequestQueue;III)V"⟩ : MethodName) method_2_code 4 none ws ({ frames := 1, cells := 0, slots := 0, locals := 18 } : Room) #[(.ref a1), (.int p1), (.int p2), (.int p3)] h0 (Q3_0_0 Z a1 p1 p2 p3 b1 b2 k1 k2 x0 x1 x2 x3 x4 x5 x6 x7 y0 y1 y2 y3 y4 y5 y6 y7 h0 n0) := by
  refine own_body (plainFor_of_name pn_com_example_tenrec_tenrec_pool_RequestQueueRemoveFirstPinLaw) ?_
  intro p e s m below meth c s₁ Bd hml0 hZ e0
  have hx := Bd.exec
  have hby := Bd.bytes
  have hml : c.maxLocals = 4 := hml0
  have hown : s.vm.findClass "com/example/tenrec/tenrec/pool/RequestQueueRemoveFirstPinLaw" = some m.cls := findClass_of_methodNamed Bd.named
  have hnm := (name_of_methodNamed Bd.named Bd.method).1
  have X0 : Stand p l e ({ frames := 1, cells := 0, slots := 0, locals := 18 } : Room) s m #[(.ref a1), (.int p1), (.int p2), (.int p3)] below meth c s₁ [] 0 0 := Stand.of_body Bd
  have N0 := Fr.nil n0
  have K0 : Keep h0 h0 [a1, b1, b2] := Keep.refl _ _
  rw [ef_rm3_0_0]
  obtain ⟨v101, T101, L101, X101, q101, st101⟩ := own_callV X0 hx hZ (y := (⟨"com/example/tenrec/tenrec/pool/RequestQueue", "add", "(DD)V"⟩ : MethodName)) (z := (⟨"com/example/tenrec/tenrec/pool/RequestQueue", "add", "(DD)V"⟩ : MethodName)) hown (hw _ (List.mem_of_getElem? (i := 18) rfl)) (hw _ (List.mem_of_getElem? (i := 19) rfl)) (notFace_of_selects (args := #[]) (mvT hZ (hw _ (List.mem_of_getElem? (i := 21) rfl)))) (hw _ (List.mem_of_getElem? (i := 21) rfl)) (hw _ (List.mem_of_getElem? (i := 20) rfl)) (hw _ (List.mem_of_getElem? (i := 2) rfl)) (hw _ (List.mem_of_getElem? (i := 22) rfl)) (by decide) E_a (hM := (rm4_0_0 l Z a0 hw [] a1 (FP.i2d (p1 + p3)) (FP.i2d (p2 - p3)) b1 b2 k1 k2 x0 x1 x2 x3 x4 x5 x6 x7 y0 y1 y2 y3 y4 y5 y6 y7 h0 n0 Z0 g_a1 g_b1 g_b2 ne1 ne2 ne3 E_a F_a F_s F_c F_h V_a V_s)) (by decide) (by decide) (by decide) (by decide) e0 (argsL := [(.double (FP.i2d (p1 + p3))), (.double (FP.i2d (p2 - p3)))]) (rest := []) (Ls := #[.val (.ref a1), .val (.int p1), .val (.int p2), .val (.int p3)]) (by rw [hml]; rfl) (lenOf pd__DD_V rfl) (W := 0) (Nat.le_of_eq rfl) (hb hby d3_9)
  obtain ⟨rfl, N101q, K101q, E101q, FA101q, FS101q, FC101q, FH101q, VA101q, VS101q⟩ := q101
  have N101 := Fr.app N0 N101q
  have K101 : Keep h0 T101.heap [a1, b1, b2] := K0.trans K101q (allS (Or.inl (List.mem_of_getElem? (i := 0) rfl)) (allS (Or.inl (List.mem_of_getElem? (i := 1) rfl)) (allS (Or.inl (List.mem_of_getElem? (i := 2) rfl)) all0)))
  refine Gl.fin X101 (v := none) (fun _ => rfl) Bd.notSynchronized ?_ rfl (by decide) (by decide) (fun fs hr => ?_)
  · exact ⟨rfl, N101, K101, E101q, FA101q, FS101q, FC101q, FH101q, VA101q, VS101q⟩
  · show Steps p.tables e below (s₁.setTop (mkF m 0 #[.val (.ref a1), .val (.int p1), .val (.int p2), .val (.int p3)] [])) _
    refine XS.aloadN X0.here hx rfl (hb hby d3_0) rfl rfl ?_
    show Steps p.tables e below (s₁.setTop (mkF m 1 #[.val (.ref a1), .val (.int p1), .val (.int p2), .val (.int p3)] [(.ref a1)])) _
    refine XS.iloadN X0.here hx rfl (hb hby d3_1) rfl ?_
    show Steps p.tables e below (s₁.setTop (mkF m 2 #[.val (.ref a1), .val (.int p1), .val (.int p2), .val (.int p3)] [(.int p1), (.ref a1)])) _
    refine XS.iloadN X0.here hx rfl (hb hby d3_2) rfl ?_
    show Steps p.tables e below (s₁.setTop (mkF m 3 #[.val (.ref a1), .val (.int p1), .val (.int p2), .val (.int p3)] [(.int p3), (.int p1), (.ref a1)])) _
    refine XS.iadd X0.here hx rfl (hb hby d3_3) rfl ?_
    show Steps p.tables e below (s₁.setTop (mkF m 4 #[.val (.ref a1), .val (.int p1), .val (.int p2), .val (.int p3)] [(.int (p1 + p3)), (.ref a1)])) _
    refine XS.i2dS X0.here hx rfl (hb hby d3_4) rfl rfl ?_
    show Steps p.tables e below (s₁.setTop (mkF m 5 #[.val (.ref a1), .val (.int p1), .val (.int p2), .val (.int p3)] [(.double (FP.i2d (p1 + p3))), (.ref a1)])) _
    refine XS.iloadN X0.here hx rfl (hb hby d3_5) rfl ?_
    show Steps p.tables e below (s₁.setTop (mkF m 6 #[.val (.ref a1), .val (.int p1), .val (.int p2), .val (.int p3)] [(.int p2), (.double (FP.i2d (p1 + p3))), (.ref a1)])) _
    refine XS.iloadN X0.here hx rfl (hb hby d3_6) rfl ?_
    show Steps p.tables e below (s₁.setTop (mkF m 7 #[.val (.ref a1), .val (.int p1), .val (.int p2), .val (.int p3)] [(.int p3), (.int p2), (.double (FP.i2d (p1 + p3))), (.ref a1)])) _
    refine XS.isub X0.here hx rfl (hb hby d3_7) rfl ?_
    show Steps p.tables e below (s₁.setTop (mkF m 8 #[.val (.ref a1), .val (.int p1), .val (.int p2), .val (.int p3)] [(.int (p2 - p3)), (.double (FP.i2d (p1 + p3))), (.ref a1)])) _
    refine XS.i2dS X0.here hx rfl (hb hby d3_8) rfl rfl ?_
    show Steps p.tables e below (s₁.setTop (mkF m 9 #[.val (.ref a1), .val (.int p1), .val (.int p2), .val (.int p3)] [(.double (FP.i2d (p2 - p3))), (.double (FP.i2d (p1 + p3))), (.ref a1)])) _
    refine st101 _ ?_
    show Steps p.tables e below (T101.setTop (mkF m 12 #[.val (.ref a1), .val (.int p1), .val (.int p2), .val (.int p3)] [])) _
    exact X101.returnOut hx Bd.returns (hb hby d3_12) hr
theorem ef_rm4_0_1 (m : MethodId) (x0 : Addr) (x1 : UInt64) (x2 : UInt64) : entryFrame m #[(.ref x0), (.double x1), (.double x2)] 7 = mkF m 0 #[.val (.ref x0), .val (.double x1), .second, .val (.double x2), .second, .unset, .unset] [] := by first | (simp [entryFrame, mkF, argsToLocals, Value.category]; done) | rfl
def Q4_0_1 (Z : State) (a1 : Addr) (d1 : UInt64) (d2 : UInt64) (b1 : Addr) (b2 : Addr) (k1 : ClassId) (k2 : ClassId) (x0 : UInt64) (x1 : UInt64) (x2 : UInt64) (x3 : UInt64) (x4 : UInt64) (x5 : UInt64) (x6 : UInt64) (x7 : UInt64) (y0 : UInt64) (y1 : UInt64) (y2 : UInt64) (y3 : UInt64) (y4 : UInt64) (y5 : UInt64) (y6 : UInt64) (y7 : UInt64) (h0 : Heap) (n0 : Nat) (v : Option Value) (h : Heap) (L : List Loc) : Prop := v = none ∧ Fr n0 L ∧ Keep h0 h [a1, b1, b2] ∧ Exa Z h a1 "com/example/tenrec/tenrec/pool/RequestQueue" ∧ Fld Z h a1 "com/example/tenrec/tenrec/pool/RequestQueue" "arrivals" "[D" (.ref b1) ∧ Fld Z h a1 "com/example/tenrec/tenrec/pool/RequestQueue" "sizes" "[D" (.ref b2) ∧ Fld Z h a1 "com/example/tenrec/tenrec/pool/RequestQueue" "count" "I" (.int (2 : Int32)) ∧ Fld Z h a1 "com/example/tenrec/tenrec/pool/RequestQueue" "head" "I" (.int (0 : Int32)) ∧ Arv Z h b1 k1 .double (8 : Int32) [(.double x0), (.double d1), (.double x2), (.double x3), (.double x4), (.double x5), (.double x6), (.double x7)] (.double (0 : UInt64)) ∧ Arv Z h b2 k2 .double (8 : Int32) [(.double y0), (.double d2), (.double y2), (.double y3), (.double y4), (.double y5), (.double y6), (.double y7)] (.double (0 : UInt64))
set_option maxRecDepth 65536 in
set_option maxHeartbeats 40000000 in
theorem rm4_0_1 (l : Launch) (Z : State) (a0 : Array Value) (hw : ∀ d ∈ tables_1, d.before a0 Z = true) (ws : List Jvm.Cond) (a1 : Addr) (d1 : UInt64) (d2 : UInt64) (b1 : Addr) (b2 : Addr) (k1 : ClassId) (k2 : ClassId) (x0 : UInt64) (x1 : UInt64) (x2 : UInt64) (x3 : UInt64) (x4 : UInt64) (x5 : UInt64) (x6 : UInt64) (x7 : UInt64) (y0 : UInt64) (y1 : UInt64) (y2 : UInt64) (y3 : UInt64) (y4 : UInt64) (y5 : UInt64) (y6 : UInt64) (y7 : UInt64) (h0 : Heap) (n0 : Nat) (Z0 : n0 ≤ h0.size) (g_a1 : n0 ≤ a1) (g_b1 : n0 ≤ b1) (g_b2 : n0 ≤ b2) (ne1 : a1 ≠ b1) (ne2 : a1 ≠ b2) (ne3 : b1 ≠ b2) (E_a : Exa Z h0 a1 "com/example/tenrec/tenrec/pool/RequestQueue") (F_a : Fld Z h0 a1 "com/example/tenrec/tenrec/pool/RequestQueue" "arrivals" "[D" (.ref b1)) (F_s : Fld Z h0 a1 "com/example/tenrec/tenrec/pool/RequestQueue" "sizes" "[D" (.ref b2)) (F_c : Fld Z h0 a1 "com/example/tenrec/tenrec/pool/RequestQueue" "count" "I" (.int (1 : Int32))) (F_h : Fld Z h0 a1 "com/example/tenrec/tenrec/pool/RequestQueue" "head" "I" (.int (0 : Int32))) (V_a : Arv Z h0 b1 k1 .double (8 : Int32) [(.double x0), (.double x1), (.double x2), (.double x3), (.double x4), (.double x5), (.double x6), (.double x7)] (.double (0 : UInt64))) (V_s : Arv Z h0 b2 k2 .double (8 : Int32) [(.double y0), (.double y1), (.double y2), (.double y3), (.double y4), (.double y5), (.double y6), (.double y7)] (.double (0 : UInt64))) :
    OMet l Z (⟨"com/example/tenrec/tenrec/pool/RequestQueue", "add", "(DD)V"⟩ : MethodName) prog_34_method_2_code 7 none ws ({ frames := 0, cells := 0, slots := 0, locals := 0 } : Room) #[(.ref a1), (.double d1), (.double d2)] h0 (Q4_0_1 Z a1 d1 d2 b1 b2 k1 k2 x0 x1 x2 x3 x4 x5 x6 x7 y0 y1 y2 y3 y4 y5 y6 y7 h0 n0) := by
  refine own_body (plainFor_of_name pn_com_example_tenrec_tenrec_pool_RequestQueue) ?_
  intro p e s m below meth c s₁ Bd hml0 hZ e0
  have hx := Bd.exec
  have hby := Bd.bytes
  have hml : c.maxLocals = 7 := hml0
  have hown : s.vm.findClass "com/example/tenrec/tenrec/pool/RequestQueue" = some m.cls := findClass_of_methodNamed Bd.named
  have hnm := (name_of_methodNamed Bd.named Bd.method).1
  have X0 : Stand p l e ({ frames := 0, cells := 0, slots := 0, locals := 0 } : Room) s m #[(.ref a1), (.double d1), (.double d2)] below meth c s₁ [] 0 0 := Stand.of_body Bd
  have N0 := Fr.nil n0
  have K0 : Keep h0 h0 [a1, b1, b2] := Keep.refl _ _
  rw [ef_rm4_0_1]
  obtain ⟨T101, X101, e101, st101⟩ := getF X0 hx hZ hown (host := "") (Or.inl (hw _ (List.mem_of_getElem? (i := 23) rfl))) Via.refl e0 F_c (g := (mkF m 1 #[.val (.ref a1), .val (.double d1), .second, .val (.double d2), .second, .unset, .unset] [(.ref a1)])) rfl rfl (hb hby d4_1)
  obtain ⟨T102, X102, e102, st102⟩ := getF X101 hx hZ hown (host := "") (Or.inl (hw _ (List.mem_of_getElem? (i := 10) rfl))) Via.refl e101 F_a (g := (mkF m 5 #[.val (.ref a1), .val (.double d1), .second, .val (.double d2), .second, .unset, .unset] [(.ref a1), (.int (1 : Int32))])) rfl rfl (hb hby d4_5)
  obtain ⟨cl103, Ar103, qa103, Sa103, Na103, Ha103, Ga103⟩ := id V_a
  obtain ⟨T104, X104, e104, st104⟩ := getF X102 hx hZ hown (host := "") (Or.inl (hw _ (List.mem_of_getElem? (i := 10) rfl))) Via.refl e102 F_a (g := (mkF m 17 #[.val (.ref a1), .val (.double d1), .second, .val (.double d2), .second, .unset, .unset] [(.ref a1)])) rfl rfl (hb hby d4_17)
  obtain ⟨cl105, Ar105, qa105, Sa105, Na105, Ha105, Ga105⟩ := id V_a
  obtain ⟨T106, X106, e106, st106⟩ := getF X104 hx hZ hown (host := "") (Or.inl (hw _ (List.mem_of_getElem? (i := 23) rfl))) Via.refl e104 F_c (g := (mkF m 24 #[.val (.ref a1), .val (.double d1), .second, .val (.double d2), .second, .val (.int (8 : Int32)), .unset] [(.ref a1)])) rfl rfl (hb hby d4_24)
  obtain ⟨T107, X107, e107, st107⟩ := getF X106 hx hZ hown (host := "") (Or.inl (hw _ (List.mem_of_getElem? (i := 25) rfl))) Via.refl e106 F_h (g := (mkF m 30 #[.val (.ref a1), .val (.double d1), .second, .val (.double d2), .second, .val (.int (8 : Int32)), .unset] [(.ref a1), (.int (8 : Int32)), (.int (1 : Int32))])) rfl rfl (hb hby d4_30)
  obtain ⟨T108, X108, e108, st108⟩ := getF X107 hx hZ hown (host := "") (Or.inl (hw _ (List.mem_of_getElem? (i := 25) rfl))) Via.refl e107 F_h (g := (mkF m 38 #[.val (.ref a1), .val (.double d1), .second, .val (.double d2), .second, .val (.int (8 : Int32)), .unset] [(.ref a1)])) rfl rfl (hb hby d4_38)
  obtain ⟨T109, X109, e109, st109⟩ := getF X108 hx hZ hown (host := "") (Or.inl (hw _ (List.mem_of_getElem? (i := 23) rfl))) Via.refl e108 F_c (g := (mkF m 42 #[.val (.ref a1), .val (.double d1), .second, .val (.double d2), .second, .val (.int (8 : Int32)), .unset] [(.ref a1), (.int (0 : Int32))])) rfl rfl (hb hby d4_42)
  obtain ⟨T110, X110, e110, st110⟩ := getF X109 hx hZ hown (host := "") (Or.inl (hw _ (List.mem_of_getElem? (i := 10) rfl))) Via.refl e109 F_a (g := (mkF m 64 #[.val (.ref a1), .val (.double d1), .second, .val (.double d2), .second, .val (.int (8 : Int32)), .val (.int (1 : Int32))] [(.ref a1)])) rfl rfl (hb hby d4_64)
  obtain ⟨cl111, Ar111, qa111, Sa111, Na111, Ha111, Ga111⟩ := id V_a
  have hin111 : ¬ ((1 : Int32) < 0 ∨ cl111.slots.size ≤ ((1 : Int32)).toNatClampNeg) := inb_of Sa111 ⟨by decide, by decide⟩
  obtain ⟨T111, h111, X111, e111, W111, st111⟩ := stD X110 hx hZ e110 Ar111 (j := (1 : Int32)) hin111 (g := (mkF m 70 #[.val (.ref a1), .val (.double d1), .second, .val (.double d2), .second, .val (.int (8 : Int32)), .val (.int (1 : Int32))] [(.double d1), (.int (1 : Int32)), (.ref b1)])) rfl rfl (hb hby d4_70)
  have V_b1_111 := Arv.set Ar111 qa111 Sa111 Na111 Ha111 Ga111 rfl W111 1 rfl (Nat.le_of_ble_eq_true rfl)
  have V111 : Arv Z h111 b1 k1 .double (8 : Int32) [(.double x0), (.double d1), (.double x2), (.double x3), (.double x4), (.double x5), (.double x6), (.double x7)] (.double (0 : UInt64)) := V_b1_111
  have K111 : Keep h0 h111 [a1, b1, b2] := K0.wr W111 (Or.inl (List.mem_of_getElem? (i := 1) rfl))
  have N111 := Fr.snoc X111 N0 g_b1
  refine Gl.pre (S' := T111.setTop (mkF m 72 #[.val (.ref a1), .val (.double d1), .second, .val (.double d2), .second, .val (.int (8 : Int32)), .val (.int (1 : Int32))] [(.ref a1)])) (fun t kt => ?_) ?_
  · show Steps p.tables e below (s₁.setTop (mkF m 0 #[.val (.ref a1), .val (.double d1), .second, .val (.double d2), .second, .unset, .unset] [])) _
    refine XS.aloadN X0.here hx rfl (hb hby d4_0) rfl rfl ?_
    show Steps p.tables e below (s₁.setTop (mkF m 1 #[.val (.ref a1), .val (.double d1), .second, .val (.double d2), .second, .unset, .unset] [(.ref a1)])) _
    refine st101 _ ?_
    show Steps p.tables e below (T101.setTop (mkF m 4 #[.val (.ref a1), .val (.double d1), .second, .val (.double d2), .second, .unset, .unset] [(.int (1 : Int32))])) _
    refine XS.aloadN X101.here hx rfl (hb hby d4_4) rfl rfl ?_
    show Steps p.tables e below (T101.setTop (mkF m 5 #[.val (.ref a1), .val (.double d1), .second, .val (.double d2), .second, .unset, .unset] [(.ref a1), (.int (1 : Int32))])) _
    refine st102 _ ?_
    show Steps p.tables e below (T102.setTop (mkF m 8 #[.val (.ref a1), .val (.double d1), .second, .val (.double d2), .second, .unset, .unset] [(.ref b1), (.int (1 : Int32))])) _
    refine X102.arraylength hx (own_hc e102 Ar103.1) (State.isArrayOf_alike hZ.alike Ar103.2.1) (g := (mkF m 8 #[.val (.ref a1), .val (.double d1), .second, .val (.double d2), .second, .unset, .unset] [(.ref b1), (.int (1 : Int32))])) rfl rfl (hb hby d4_8) _ ?_
    rw [len_of Sa103 Na103]
    show Steps p.tables e below (T102.setTop (mkF m 9 #[.val (.ref a1), .val (.double d1), .second, .val (.double d2), .second, .unset, .unset] [(.int (8 : Int32)), (.int (1 : Int32))])) _
    refine XS.icmpYes X102.here hx rfl (pc0 := 9) (pc' := 16) rfl (hb hby d4_9) rfl (own_nt (ic_ne _ _) (by decide)) (by decide) (by decide) ?_
    show Steps p.tables e below (T102.setTop (mkF m 16 #[.val (.ref a1), .val (.double d1), .second, .val (.double d2), .second, .unset, .unset] [])) _
    refine XS.aloadN X102.here hx rfl (hb hby d4_16) rfl rfl ?_
    show Steps p.tables e below (T102.setTop (mkF m 17 #[.val (.ref a1), .val (.double d1), .second, .val (.double d2), .second, .unset, .unset] [(.ref a1)])) _
    refine st104 _ ?_
    show Steps p.tables e below (T104.setTop (mkF m 20 #[.val (.ref a1), .val (.double d1), .second, .val (.double d2), .second, .unset, .unset] [(.ref b1)])) _
    refine X104.arraylength hx (own_hc e104 Ar105.1) (State.isArrayOf_alike hZ.alike Ar105.2.1) (g := (mkF m 20 #[.val (.ref a1), .val (.double d1), .second, .val (.double d2), .second, .unset, .unset] [(.ref b1)])) rfl rfl (hb hby d4_20) _ ?_
    rw [len_of Sa105 Na105]
    show Steps p.tables e below (T104.setTop (mkF m 21 #[.val (.ref a1), .val (.double d1), .second, .val (.double d2), .second, .unset, .unset] [(.int (8 : Int32))])) _
    refine XS.istore X104.here hx rfl (hb hby d4_21) rfl (l' := #[.val (.ref a1), .val (.double d1), .second, .val (.double d2), .second, .val (.int (8 : Int32)), .unset]) rfl ?_
    show Steps p.tables e below (T104.setTop (mkF m 23 #[.val (.ref a1), .val (.double d1), .second, .val (.double d2), .second, .val (.int (8 : Int32)), .unset] [])) _
    refine XS.aloadN X104.here hx rfl (hb hby d4_23) rfl rfl ?_
    show Steps p.tables e below (T104.setTop (mkF m 24 #[.val (.ref a1), .val (.double d1), .second, .val (.double d2), .second, .val (.int (8 : Int32)), .unset] [(.ref a1)])) _
    refine st106 _ ?_
    show Steps p.tables e below (T106.setTop (mkF m 27 #[.val (.ref a1), .val (.double d1), .second, .val (.double d2), .second, .val (.int (8 : Int32)), .unset] [(.int (1 : Int32))])) _
    refine XS.iload X106.here hx rfl (hb hby d4_27) rfl ?_
    show Steps p.tables e below (T106.setTop (mkF m 29 #[.val (.ref a1), .val (.double d1), .second, .val (.double d2), .second, .val (.int (8 : Int32)), .unset] [(.int (8 : Int32)), (.int (1 : Int32))])) _
    refine XS.aloadN X106.here hx rfl (hb hby d4_29) rfl rfl ?_
    show Steps p.tables e below (T106.setTop (mkF m 30 #[.val (.ref a1), .val (.double d1), .second, .val (.double d2), .second, .val (.int (8 : Int32)), .unset] [(.ref a1), (.int (8 : Int32)), (.int (1 : Int32))])) _
    refine st107 _ ?_
    show Steps p.tables e below (T107.setTop (mkF m 33 #[.val (.ref a1), .val (.double d1), .second, .val (.double d2), .second, .val (.int (8 : Int32)), .unset] [(.int (0 : Int32)), (.int (8 : Int32)), (.int (1 : Int32))])) _
    refine XS.isub X107.here hx rfl (hb hby d4_33) rfl ?_
    show Steps p.tables e below (T107.setTop (mkF m 34 #[.val (.ref a1), .val (.double d1), .second, .val (.double d2), .second, .val (.int (8 : Int32)), .unset] [(.int (8 : Int32)), (.int (1 : Int32))])) _
    refine XS.icmpNo X107.here hx rfl (hb hby d4_34) rfl (own_nf (ic_ge _ _) (by decide)) ?_
    show Steps p.tables e below (T107.setTop (mkF m 37 #[.val (.ref a1), .val (.double d1), .second, .val (.double d2), .second, .val (.int (8 : Int32)), .unset] [])) _
    refine XS.aloadN X107.here hx rfl (hb hby d4_37) rfl rfl ?_
    show Steps p.tables e below (T107.setTop (mkF m 38 #[.val (.ref a1), .val (.double d1), .second, .val (.double d2), .second, .val (.int (8 : Int32)), .unset] [(.ref a1)])) _
    refine st108 _ ?_
    show Steps p.tables e below (T108.setTop (mkF m 41 #[.val (.ref a1), .val (.double d1), .second, .val (.double d2), .second, .val (.int (8 : Int32)), .unset] [(.int (0 : Int32))])) _
    refine XS.aloadN X108.here hx rfl (hb hby d4_41) rfl rfl ?_
    show Steps p.tables e below (T108.setTop (mkF m 42 #[.val (.ref a1), .val (.double d1), .second, .val (.double d2), .second, .val (.int (8 : Int32)), .unset] [(.ref a1), (.int (0 : Int32))])) _
    refine st109 _ ?_
    show Steps p.tables e below (T109.setTop (mkF m 45 #[.val (.ref a1), .val (.double d1), .second, .val (.double d2), .second, .val (.int (8 : Int32)), .unset] [(.int (1 : Int32)), (.int (0 : Int32))])) _
    refine XS.iadd X109.here hx rfl (hb hby d4_45) rfl ?_
    show Steps p.tables e below (T109.setTop (mkF m 46 #[.val (.ref a1), .val (.double d1), .second, .val (.double d2), .second, .val (.int (8 : Int32)), .unset] [(.int ((0 : Int32) + (1 : Int32)))])) _
    refine XS.goto X109.here hx rfl (pc0 := 46) (pc' := 61) rfl (hb hby d4_46) (by decide) (by decide) ?_
    show Steps p.tables e below (T109.setTop (mkF m 61 #[.val (.ref a1), .val (.double d1), .second, .val (.double d2), .second, .val (.int (8 : Int32)), .unset] [(.int (1 : Int32))])) _
    refine XS.istore X109.here hx rfl (hb hby d4_61) rfl (l' := #[.val (.ref a1), .val (.double d1), .second, .val (.double d2), .second, .val (.int (8 : Int32)), .val (.int (1 : Int32))]) rfl ?_
    show Steps p.tables e below (T109.setTop (mkF m 63 #[.val (.ref a1), .val (.double d1), .second, .val (.double d2), .second, .val (.int (8 : Int32)), .val (.int (1 : Int32))] [])) _
    refine XS.aloadN X109.here hx rfl (hb hby d4_63) rfl rfl ?_
    show Steps p.tables e below (T109.setTop (mkF m 64 #[.val (.ref a1), .val (.double d1), .second, .val (.double d2), .second, .val (.int (8 : Int32)), .val (.int (1 : Int32))] [(.ref a1)])) _
    refine st110 _ ?_
    show Steps p.tables e below (T110.setTop (mkF m 67 #[.val (.ref a1), .val (.double d1), .second, .val (.double d2), .second, .val (.int (8 : Int32)), .val (.int (1 : Int32))] [(.ref b1)])) _
    refine XS.iload X110.here hx rfl (hb hby d4_67) rfl ?_
    show Steps p.tables e below (T110.setTop (mkF m 69 #[.val (.ref a1), .val (.double d1), .second, .val (.double d2), .second, .val (.int (8 : Int32)), .val (.int (1 : Int32))] [(.int (1 : Int32)), (.ref b1)])) _
    refine XS.dloadN X110.here hx rfl (hb hby d4_69) rfl ?_
    show Steps p.tables e below (T110.setTop (mkF m 70 #[.val (.ref a1), .val (.double d1), .second, .val (.double d2), .second, .val (.int (8 : Int32)), .val (.int (1 : Int32))] [(.double d1), (.int (1 : Int32)), (.ref b1)])) _
    refine st111 _ ?_
    show Steps p.tables e below (T111.setTop (mkF m 71 #[.val (.ref a1), .val (.double d1), .second, .val (.double d2), .second, .val (.int (8 : Int32)), .val (.int (1 : Int32))] [])) _
    refine XS.aloadN X111.here hx rfl (hb hby d4_71) rfl rfl ?_
    exact kt
  have f112 := (F_s.other W111 (Or.inl ne1))
  obtain ⟨T113, X113, e113, st113⟩ := getF X111 hx hZ hown (host := "") (Or.inl (hw _ (List.mem_of_getElem? (i := 12) rfl))) Via.refl e111 f112 (g := (mkF m 72 #[.val (.ref a1), .val (.double d1), .second, .val (.double d2), .second, .val (.int (8 : Int32)), .val (.int (1 : Int32))] [(.ref a1)])) rfl rfl (hb hby d4_72)
  have f115 := (V_s.other W111 (Ne.symm ne3))
  obtain ⟨cl114, Ar114, qa114, Sa114, Na114, Ha114, Ga114⟩ := id f115
  have hin114 : ¬ ((1 : Int32) < 0 ∨ cl114.slots.size ≤ ((1 : Int32)).toNatClampNeg) := inb_of Sa114 ⟨by decide, by decide⟩
  obtain ⟨T114, h114, X114, e114, W114, st114⟩ := stD X113 hx hZ e113 Ar114 (j := (1 : Int32)) hin114 (g := (mkF m 78 #[.val (.ref a1), .val (.double d1), .second, .val (.double d2), .second, .val (.int (8 : Int32)), .val (.int (1 : Int32))] [(.double d2), (.int (1 : Int32)), (.ref b2)])) rfl rfl (hb hby d4_78)
  have V_b2_114 := Arv.set Ar114 qa114 Sa114 Na114 Ha114 Ga114 rfl W114 1 rfl (Nat.le_of_ble_eq_true rfl)
  have V114 : Arv Z h114 b2 k2 .double (8 : Int32) [(.double y0), (.double d2), (.double y2), (.double y3), (.double y4), (.double y5), (.double y6), (.double y7)] (.double (0 : UInt64)) := V_b2_114
  have K114 : Keep h0 h114 [a1, b1, b2] := K111.wr W114 (Or.inl (List.mem_of_getElem? (i := 2) rfl))
  have N114 := Fr.snoc X114 N111 g_b2
  have f116 := ((F_c.other W111 (Or.inl ne1)).other W114 (Or.inl ne2))
  obtain ⟨T117, X117, e117, st117⟩ := getF X114 hx hZ hown (host := "") (Or.inl (hw _ (List.mem_of_getElem? (i := 23) rfl))) Via.refl e114 f116 (g := (mkF m 81 #[.val (.ref a1), .val (.double d1), .second, .val (.double d2), .second, .val (.int (8 : Int32)), .val (.int (1 : Int32))] [(.ref a1), (.ref a1)])) rfl rfl (hb hby d4_81)
  have f118 := ((E_a.wr W111).wr W114)
  obtain ⟨T119, h119, X119, e119, W119, st119⟩ := putF X117 hx hZ hown (host := "") (Or.inl (hw _ (List.mem_of_getElem? (i := 23) rfl))) Via.refl e117 f116 f118 (Or.inl (hw _ (List.mem_of_getElem? (i := 24) rfl))) (hw _ (List.mem_of_getElem? (i := 1) rfl)) (ty := .int) (by decide) rfl rfl (g := (mkF m 86 #[.val (.ref a1), .val (.double d1), .second, .val (.double d2), .second, .val (.int (8 : Int32)), .val (.int (1 : Int32))] [(.int (2 : Int32)), (.ref a1)])) rfl rfl (hb hby d4_86)
  have Fw119 := f116.same W119
  have K119 : Keep h0 h119 [a1, b1, b2] := K114.wr W119 (Or.inl (List.mem_of_getElem? (i := 0) rfl))
  have N119 := Fr.snoc X119 N114 g_a1
  have f120 := (f118.wr W119)
  have f121 := (((F_a.other W111 (Or.inl ne1)).other W114 (Or.inl ne2)).other W119 (Or.inr (slot_ne (Or.inl (hw _ (List.mem_of_getElem? (i := 11) rfl))) (Or.inl (hw _ (List.mem_of_getElem? (i := 24) rfl))) (by decide) (t := (.array .double)) (t' := .int) (by decide) (by decide))))
  have f122 := ((f112.other W114 (Or.inl ne2)).other W119 (Or.inr (slot_ne (Or.inl (hw _ (List.mem_of_getElem? (i := 13) rfl))) (Or.inl (hw _ (List.mem_of_getElem? (i := 24) rfl))) (by decide) (t := (.array .double)) (t' := .int) (by decide) (by decide))))
  have f123 := (((F_h.other W111 (Or.inl ne1)).other W114 (Or.inl ne2)).other W119 (Or.inr (slot_ne (Or.inl (hw _ (List.mem_of_getElem? (i := 26) rfl))) (Or.inl (hw _ (List.mem_of_getElem? (i := 24) rfl))) (by decide) (t := .int) (t' := .int) (by decide) (by decide))))
  have f124 := ((V111.other W114 ne3).other W119 (Ne.symm ne1))
  have f125 := (V114.other W119 (Ne.symm ne2))
  refine Gl.fin X119 (v := none) (fun _ => rfl) Bd.notSynchronized ?_ e119 (by decide) (by decide) (fun fs hr => ?_)
  · exact ⟨rfl, N119, K119, f120, f121, f122, Fw119, f123, f124, f125⟩
  · show Steps p.tables e below (T111.setTop (mkF m 72 #[.val (.ref a1), .val (.double d1), .second, .val (.double d2), .second, .val (.int (8 : Int32)), .val (.int (1 : Int32))] [(.ref a1)])) _
    refine st113 _ ?_
    show Steps p.tables e below (T113.setTop (mkF m 75 #[.val (.ref a1), .val (.double d1), .second, .val (.double d2), .second, .val (.int (8 : Int32)), .val (.int (1 : Int32))] [(.ref b2)])) _
    refine XS.iload X113.here hx rfl (hb hby d4_75) rfl ?_
    show Steps p.tables e below (T113.setTop (mkF m 77 #[.val (.ref a1), .val (.double d1), .second, .val (.double d2), .second, .val (.int (8 : Int32)), .val (.int (1 : Int32))] [(.int (1 : Int32)), (.ref b2)])) _
    refine XS.dloadN X113.here hx rfl (hb hby d4_77) rfl ?_
    show Steps p.tables e below (T113.setTop (mkF m 78 #[.val (.ref a1), .val (.double d1), .second, .val (.double d2), .second, .val (.int (8 : Int32)), .val (.int (1 : Int32))] [(.double d2), (.int (1 : Int32)), (.ref b2)])) _
    refine st114 _ ?_
    show Steps p.tables e below (T114.setTop (mkF m 79 #[.val (.ref a1), .val (.double d1), .second, .val (.double d2), .second, .val (.int (8 : Int32)), .val (.int (1 : Int32))] [])) _
    refine XS.aloadN X114.here hx rfl (hb hby d4_79) rfl rfl ?_
    show Steps p.tables e below (T114.setTop (mkF m 80 #[.val (.ref a1), .val (.double d1), .second, .val (.double d2), .second, .val (.int (8 : Int32)), .val (.int (1 : Int32))] [(.ref a1)])) _
    refine XS.dup X114.here hx rfl (hb hby d4_80) rfl rfl ?_
    show Steps p.tables e below (T114.setTop (mkF m 81 #[.val (.ref a1), .val (.double d1), .second, .val (.double d2), .second, .val (.int (8 : Int32)), .val (.int (1 : Int32))] [(.ref a1), (.ref a1)])) _
    refine st117 _ ?_
    show Steps p.tables e below (T117.setTop (mkF m 84 #[.val (.ref a1), .val (.double d1), .second, .val (.double d2), .second, .val (.int (8 : Int32)), .val (.int (1 : Int32))] [(.int (1 : Int32)), (.ref a1)])) _
    refine XS.iconst X117.here hx rfl (hb hby d4_84) ?_
    show Steps p.tables e below (T117.setTop (mkF m 85 #[.val (.ref a1), .val (.double d1), .second, .val (.double d2), .second, .val (.int (8 : Int32)), .val (.int (1 : Int32))] [(.int (1 : Int32)), (.int (1 : Int32)), (.ref a1)])) _
    refine XS.iadd X117.here hx rfl (hb hby d4_85) rfl ?_
    show Steps p.tables e below (T117.setTop (mkF m 86 #[.val (.ref a1), .val (.double d1), .second, .val (.double d2), .second, .val (.int (8 : Int32)), .val (.int (1 : Int32))] [(.int (2 : Int32)), (.ref a1)])) _
    refine st119 _ ?_
    show Steps p.tables e below (T119.setTop (mkF m 89 #[.val (.ref a1), .val (.double d1), .second, .val (.double d2), .second, .val (.int (8 : Int32)), .val (.int (1 : Int32))] [])) _
    exact X119.returnOut hx Bd.returns (hb hby d4_89) hr
theorem ef_rm3_0_1 (m : MethodId) (x0 : Addr) (x1 : Int32) (x2 : Int32) (x3 : Int32) : entryFrame m #[(.ref x0), (.int x1), (.int x2), (.int x3)] 4 = mkF m 0 #[.val (.ref x0), .val (.int x1), .val (.int x2), .val (.int x3)] [] := by first | (simp [entryFrame, mkF, argsToLocals, Value.category]; done) | rfl
def Q3_0_1 (Z : State) (a1 : Addr) (p1 : Int32) (p2 : Int32) (p3 : Int32) (b1 : Addr) (b2 : Addr) (k1 : ClassId) (k2 : ClassId) (x0 : UInt64) (x1 : UInt64) (x2 : UInt64) (x3 : UInt64) (x4 : UInt64) (x5 : UInt64) (x6 : UInt64) (x7 : UInt64) (y0 : UInt64) (y1 : UInt64) (y2 : UInt64) (y3 : UInt64) (y4 : UInt64) (y5 : UInt64) (y6 : UInt64) (y7 : UInt64) (h0 : Heap) (n0 : Nat) (v : Option Value) (h : Heap) (L : List Loc) : Prop := v = none ∧ Fr n0 L ∧ Keep h0 h [a1, b1, b2] ∧ Exa Z h a1 "com/example/tenrec/tenrec/pool/RequestQueue" ∧ Fld Z h a1 "com/example/tenrec/tenrec/pool/RequestQueue" "arrivals" "[D" (.ref b1) ∧ Fld Z h a1 "com/example/tenrec/tenrec/pool/RequestQueue" "sizes" "[D" (.ref b2) ∧ Fld Z h a1 "com/example/tenrec/tenrec/pool/RequestQueue" "count" "I" (.int (2 : Int32)) ∧ Fld Z h a1 "com/example/tenrec/tenrec/pool/RequestQueue" "head" "I" (.int (0 : Int32)) ∧ Arv Z h b1 k1 .double (8 : Int32) [(.double x0), (.double (FP.i2d (p1 + p3))), (.double x2), (.double x3), (.double x4), (.double x5), (.double x6), (.double x7)] (.double (0 : UInt64)) ∧ Arv Z h b2 k2 .double (8 : Int32) [(.double y0), (.double (FP.i2d (p2 - p3))), (.double y2), (.double y3), (.double y4), (.double y5), (.double y6), (.double y7)] (.double (0 : UInt64))
set_option maxRecDepth 65536 in
set_option maxHeartbeats 40000000 in
theorem rm3_0_1 (l : Launch) (Z : State) (a0 : Array Value) (hw : ∀ d ∈ tables_1, d.before a0 Z = true) (ws : List Jvm.Cond) (a1 : Addr) (p1 : Int32) (p2 : Int32) (p3 : Int32) (b1 : Addr) (b2 : Addr) (k1 : ClassId) (k2 : ClassId) (x0 : UInt64) (x1 : UInt64) (x2 : UInt64) (x3 : UInt64) (x4 : UInt64) (x5 : UInt64) (x6 : UInt64) (x7 : UInt64) (y0 : UInt64) (y1 : UInt64) (y2 : UInt64) (y3 : UInt64) (y4 : UInt64) (y5 : UInt64) (y6 : UInt64) (y7 : UInt64) (h0 : Heap) (n0 : Nat) (Z0 : n0 ≤ h0.size) (g_a1 : n0 ≤ a1) (g_b1 : n0 ≤ b1) (g_b2 : n0 ≤ b2) (ne1 : a1 ≠ b1) (ne2 : a1 ≠ b2) (ne3 : b1 ≠ b2) (E_a : Exa Z h0 a1 "com/example/tenrec/tenrec/pool/RequestQueue") (F_a : Fld Z h0 a1 "com/example/tenrec/tenrec/pool/RequestQueue" "arrivals" "[D" (.ref b1)) (F_s : Fld Z h0 a1 "com/example/tenrec/tenrec/pool/RequestQueue" "sizes" "[D" (.ref b2)) (F_c : Fld Z h0 a1 "com/example/tenrec/tenrec/pool/RequestQueue" "count" "I" (.int (1 : Int32))) (F_h : Fld Z h0 a1 "com/example/tenrec/tenrec/pool/RequestQueue" "head" "I" (.int (0 : Int32))) (V_a : Arv Z h0 b1 k1 .double (8 : Int32) [(.double x0), (.double x1), (.double x2), (.double x3), (.double x4), (.double x5), (.double x6), (.double x7)] (.double (0 : UInt64))) (V_s : Arv Z h0 b2 k2 .double (8 : Int32) [(.double y0), (.double y1), (.double y2), (.double y3), (.double y4), (.double y5), (.double y6), (.double y7)] (.double (0 : UInt64))) :
    OMet l Z (⟨"com/example/tenrec/tenrec/pool/RequestQueueRemoveFirstPinLaw", "put", "(Lcom/example/tenrec/tenrec/pool/RequestQueue;III)V"⟩ : MethodName) method_2_code 4 none ws ({ frames := 1, cells := 0, slots := 0, locals := 18 } : Room) #[(.ref a1), (.int p1), (.int p2), (.int p3)] h0 (Q3_0_1 Z a1 p1 p2 p3 b1 b2 k1 k2 x0 x1 x2 x3 x4 x5 x6 x7 y0 y1 y2 y3 y4 y5 y6 y7 h0 n0) := by
  refine own_body (plainFor_of_name pn_com_example_tenrec_tenrec_pool_RequestQueueRemoveFirstPinLaw) ?_
  intro p e s m below meth c s₁ Bd hml0 hZ e0
  have hx := Bd.exec
  have hby := Bd.bytes
  have hml : c.maxLocals = 4 := hml0
  have hown : s.vm.findClass "com/example/tenrec/tenrec/pool/RequestQueueRemoveFirstPinLaw" = some m.cls := findClass_of_methodNamed Bd.named
  have hnm := (name_of_methodNamed Bd.named Bd.method).1
  have X0 : Stand p l e ({ frames := 1, cells := 0, slots := 0, locals := 18 } : Room) s m #[(.ref a1), (.int p1), (.int p2), (.int p3)] below meth c s₁ [] 0 0 := Stand.of_body Bd
  have N0 := Fr.nil n0
  have K0 : Keep h0 h0 [a1, b1, b2] := Keep.refl _ _
  rw [ef_rm3_0_1]
  obtain ⟨v101, T101, L101, X101, q101, st101⟩ := own_callV X0 hx hZ (y := (⟨"com/example/tenrec/tenrec/pool/RequestQueue", "add", "(DD)V"⟩ : MethodName)) (z := (⟨"com/example/tenrec/tenrec/pool/RequestQueue", "add", "(DD)V"⟩ : MethodName)) hown (hw _ (List.mem_of_getElem? (i := 18) rfl)) (hw _ (List.mem_of_getElem? (i := 19) rfl)) (notFace_of_selects (args := #[]) (mvT hZ (hw _ (List.mem_of_getElem? (i := 21) rfl)))) (hw _ (List.mem_of_getElem? (i := 21) rfl)) (hw _ (List.mem_of_getElem? (i := 20) rfl)) (hw _ (List.mem_of_getElem? (i := 2) rfl)) (hw _ (List.mem_of_getElem? (i := 22) rfl)) (by decide) E_a (hM := (rm4_0_1 l Z a0 hw [] a1 (FP.i2d (p1 + p3)) (FP.i2d (p2 - p3)) b1 b2 k1 k2 x0 x1 x2 x3 x4 x5 x6 x7 y0 y1 y2 y3 y4 y5 y6 y7 h0 n0 Z0 g_a1 g_b1 g_b2 ne1 ne2 ne3 E_a F_a F_s F_c F_h V_a V_s)) (by decide) (by decide) (by decide) (by decide) e0 (argsL := [(.double (FP.i2d (p1 + p3))), (.double (FP.i2d (p2 - p3)))]) (rest := []) (Ls := #[.val (.ref a1), .val (.int p1), .val (.int p2), .val (.int p3)]) (by rw [hml]; rfl) (lenOf pd__DD_V rfl) (W := 0) (Nat.le_of_eq rfl) (hb hby d3_9)
  obtain ⟨rfl, N101q, K101q, E101q, FA101q, FS101q, FC101q, FH101q, VA101q, VS101q⟩ := q101
  have N101 := Fr.app N0 N101q
  have K101 : Keep h0 T101.heap [a1, b1, b2] := K0.trans K101q (allS (Or.inl (List.mem_of_getElem? (i := 0) rfl)) (allS (Or.inl (List.mem_of_getElem? (i := 1) rfl)) (allS (Or.inl (List.mem_of_getElem? (i := 2) rfl)) all0)))
  refine Gl.fin X101 (v := none) (fun _ => rfl) Bd.notSynchronized ?_ rfl (by decide) (by decide) (fun fs hr => ?_)
  · exact ⟨rfl, N101, K101, E101q, FA101q, FS101q, FC101q, FH101q, VA101q, VS101q⟩
  · show Steps p.tables e below (s₁.setTop (mkF m 0 #[.val (.ref a1), .val (.int p1), .val (.int p2), .val (.int p3)] [])) _
    refine XS.aloadN X0.here hx rfl (hb hby d3_0) rfl rfl ?_
    show Steps p.tables e below (s₁.setTop (mkF m 1 #[.val (.ref a1), .val (.int p1), .val (.int p2), .val (.int p3)] [(.ref a1)])) _
    refine XS.iloadN X0.here hx rfl (hb hby d3_1) rfl ?_
    show Steps p.tables e below (s₁.setTop (mkF m 2 #[.val (.ref a1), .val (.int p1), .val (.int p2), .val (.int p3)] [(.int p1), (.ref a1)])) _
    refine XS.iloadN X0.here hx rfl (hb hby d3_2) rfl ?_
    show Steps p.tables e below (s₁.setTop (mkF m 3 #[.val (.ref a1), .val (.int p1), .val (.int p2), .val (.int p3)] [(.int p3), (.int p1), (.ref a1)])) _
    refine XS.iadd X0.here hx rfl (hb hby d3_3) rfl ?_
    show Steps p.tables e below (s₁.setTop (mkF m 4 #[.val (.ref a1), .val (.int p1), .val (.int p2), .val (.int p3)] [(.int (p1 + p3)), (.ref a1)])) _
    refine XS.i2dS X0.here hx rfl (hb hby d3_4) rfl rfl ?_
    show Steps p.tables e below (s₁.setTop (mkF m 5 #[.val (.ref a1), .val (.int p1), .val (.int p2), .val (.int p3)] [(.double (FP.i2d (p1 + p3))), (.ref a1)])) _
    refine XS.iloadN X0.here hx rfl (hb hby d3_5) rfl ?_
    show Steps p.tables e below (s₁.setTop (mkF m 6 #[.val (.ref a1), .val (.int p1), .val (.int p2), .val (.int p3)] [(.int p2), (.double (FP.i2d (p1 + p3))), (.ref a1)])) _
    refine XS.iloadN X0.here hx rfl (hb hby d3_6) rfl ?_
    show Steps p.tables e below (s₁.setTop (mkF m 7 #[.val (.ref a1), .val (.int p1), .val (.int p2), .val (.int p3)] [(.int p3), (.int p2), (.double (FP.i2d (p1 + p3))), (.ref a1)])) _
    refine XS.isub X0.here hx rfl (hb hby d3_7) rfl ?_
    show Steps p.tables e below (s₁.setTop (mkF m 8 #[.val (.ref a1), .val (.int p1), .val (.int p2), .val (.int p3)] [(.int (p2 - p3)), (.double (FP.i2d (p1 + p3))), (.ref a1)])) _
    refine XS.i2dS X0.here hx rfl (hb hby d3_8) rfl rfl ?_
    show Steps p.tables e below (s₁.setTop (mkF m 9 #[.val (.ref a1), .val (.int p1), .val (.int p2), .val (.int p3)] [(.double (FP.i2d (p2 - p3))), (.double (FP.i2d (p1 + p3))), (.ref a1)])) _
    refine st101 _ ?_
    show Steps p.tables e below (T101.setTop (mkF m 12 #[.val (.ref a1), .val (.int p1), .val (.int p2), .val (.int p3)] [])) _
    exact X101.returnOut hx Bd.returns (hb hby d3_12) hr
theorem ef_rm4_0_2 (m : MethodId) (x0 : Addr) (x1 : UInt64) (x2 : UInt64) : entryFrame m #[(.ref x0), (.double x1), (.double x2)] 7 = mkF m 0 #[.val (.ref x0), .val (.double x1), .second, .val (.double x2), .second, .unset, .unset] [] := by first | (simp [entryFrame, mkF, argsToLocals, Value.category]; done) | rfl
def Q4_0_2 (Z : State) (a1 : Addr) (d1 : UInt64) (d2 : UInt64) (b1 : Addr) (b2 : Addr) (k1 : ClassId) (k2 : ClassId) (x0 : UInt64) (x1 : UInt64) (x2 : UInt64) (x3 : UInt64) (x4 : UInt64) (x5 : UInt64) (x6 : UInt64) (x7 : UInt64) (y0 : UInt64) (y1 : UInt64) (y2 : UInt64) (y3 : UInt64) (y4 : UInt64) (y5 : UInt64) (y6 : UInt64) (y7 : UInt64) (h0 : Heap) (n0 : Nat) (v : Option Value) (h : Heap) (L : List Loc) : Prop := v = none ∧ Fr n0 L ∧ Keep h0 h [a1, b1, b2] ∧ Exa Z h a1 "com/example/tenrec/tenrec/pool/RequestQueue" ∧ Fld Z h a1 "com/example/tenrec/tenrec/pool/RequestQueue" "arrivals" "[D" (.ref b1) ∧ Fld Z h a1 "com/example/tenrec/tenrec/pool/RequestQueue" "sizes" "[D" (.ref b2) ∧ Fld Z h a1 "com/example/tenrec/tenrec/pool/RequestQueue" "count" "I" (.int (3 : Int32)) ∧ Fld Z h a1 "com/example/tenrec/tenrec/pool/RequestQueue" "head" "I" (.int (0 : Int32)) ∧ Arv Z h b1 k1 .double (8 : Int32) [(.double x0), (.double x1), (.double d1), (.double x3), (.double x4), (.double x5), (.double x6), (.double x7)] (.double (0 : UInt64)) ∧ Arv Z h b2 k2 .double (8 : Int32) [(.double y0), (.double y1), (.double d2), (.double y3), (.double y4), (.double y5), (.double y6), (.double y7)] (.double (0 : UInt64))
set_option maxRecDepth 65536 in
set_option maxHeartbeats 40000000 in
theorem rm4_0_2 (l : Launch) (Z : State) (a0 : Array Value) (hw : ∀ d ∈ tables_1, d.before a0 Z = true) (ws : List Jvm.Cond) (a1 : Addr) (d1 : UInt64) (d2 : UInt64) (b1 : Addr) (b2 : Addr) (k1 : ClassId) (k2 : ClassId) (x0 : UInt64) (x1 : UInt64) (x2 : UInt64) (x3 : UInt64) (x4 : UInt64) (x5 : UInt64) (x6 : UInt64) (x7 : UInt64) (y0 : UInt64) (y1 : UInt64) (y2 : UInt64) (y3 : UInt64) (y4 : UInt64) (y5 : UInt64) (y6 : UInt64) (y7 : UInt64) (h0 : Heap) (n0 : Nat) (Z0 : n0 ≤ h0.size) (g_a1 : n0 ≤ a1) (g_b1 : n0 ≤ b1) (g_b2 : n0 ≤ b2) (ne1 : a1 ≠ b1) (ne2 : a1 ≠ b2) (ne3 : b1 ≠ b2) (E_a : Exa Z h0 a1 "com/example/tenrec/tenrec/pool/RequestQueue") (F_a : Fld Z h0 a1 "com/example/tenrec/tenrec/pool/RequestQueue" "arrivals" "[D" (.ref b1)) (F_s : Fld Z h0 a1 "com/example/tenrec/tenrec/pool/RequestQueue" "sizes" "[D" (.ref b2)) (F_c : Fld Z h0 a1 "com/example/tenrec/tenrec/pool/RequestQueue" "count" "I" (.int (2 : Int32))) (F_h : Fld Z h0 a1 "com/example/tenrec/tenrec/pool/RequestQueue" "head" "I" (.int (0 : Int32))) (V_a : Arv Z h0 b1 k1 .double (8 : Int32) [(.double x0), (.double x1), (.double x2), (.double x3), (.double x4), (.double x5), (.double x6), (.double x7)] (.double (0 : UInt64))) (V_s : Arv Z h0 b2 k2 .double (8 : Int32) [(.double y0), (.double y1), (.double y2), (.double y3), (.double y4), (.double y5), (.double y6), (.double y7)] (.double (0 : UInt64))) :
    OMet l Z (⟨"com/example/tenrec/tenrec/pool/RequestQueue", "add", "(DD)V"⟩ : MethodName) prog_34_method_2_code 7 none ws ({ frames := 0, cells := 0, slots := 0, locals := 0 } : Room) #[(.ref a1), (.double d1), (.double d2)] h0 (Q4_0_2 Z a1 d1 d2 b1 b2 k1 k2 x0 x1 x2 x3 x4 x5 x6 x7 y0 y1 y2 y3 y4 y5 y6 y7 h0 n0) := by
  refine own_body (plainFor_of_name pn_com_example_tenrec_tenrec_pool_RequestQueue) ?_
  intro p e s m below meth c s₁ Bd hml0 hZ e0
  have hx := Bd.exec
  have hby := Bd.bytes
  have hml : c.maxLocals = 7 := hml0
  have hown : s.vm.findClass "com/example/tenrec/tenrec/pool/RequestQueue" = some m.cls := findClass_of_methodNamed Bd.named
  have hnm := (name_of_methodNamed Bd.named Bd.method).1
  have X0 : Stand p l e ({ frames := 0, cells := 0, slots := 0, locals := 0 } : Room) s m #[(.ref a1), (.double d1), (.double d2)] below meth c s₁ [] 0 0 := Stand.of_body Bd
  have N0 := Fr.nil n0
  have K0 : Keep h0 h0 [a1, b1, b2] := Keep.refl _ _
  rw [ef_rm4_0_2]
  obtain ⟨T101, X101, e101, st101⟩ := getF X0 hx hZ hown (host := "") (Or.inl (hw _ (List.mem_of_getElem? (i := 23) rfl))) Via.refl e0 F_c (g := (mkF m 1 #[.val (.ref a1), .val (.double d1), .second, .val (.double d2), .second, .unset, .unset] [(.ref a1)])) rfl rfl (hb hby d4_1)
  obtain ⟨T102, X102, e102, st102⟩ := getF X101 hx hZ hown (host := "") (Or.inl (hw _ (List.mem_of_getElem? (i := 10) rfl))) Via.refl e101 F_a (g := (mkF m 5 #[.val (.ref a1), .val (.double d1), .second, .val (.double d2), .second, .unset, .unset] [(.ref a1), (.int (2 : Int32))])) rfl rfl (hb hby d4_5)
  obtain ⟨cl103, Ar103, qa103, Sa103, Na103, Ha103, Ga103⟩ := id V_a
  obtain ⟨T104, X104, e104, st104⟩ := getF X102 hx hZ hown (host := "") (Or.inl (hw _ (List.mem_of_getElem? (i := 10) rfl))) Via.refl e102 F_a (g := (mkF m 17 #[.val (.ref a1), .val (.double d1), .second, .val (.double d2), .second, .unset, .unset] [(.ref a1)])) rfl rfl (hb hby d4_17)
  obtain ⟨cl105, Ar105, qa105, Sa105, Na105, Ha105, Ga105⟩ := id V_a
  obtain ⟨T106, X106, e106, st106⟩ := getF X104 hx hZ hown (host := "") (Or.inl (hw _ (List.mem_of_getElem? (i := 23) rfl))) Via.refl e104 F_c (g := (mkF m 24 #[.val (.ref a1), .val (.double d1), .second, .val (.double d2), .second, .val (.int (8 : Int32)), .unset] [(.ref a1)])) rfl rfl (hb hby d4_24)
  obtain ⟨T107, X107, e107, st107⟩ := getF X106 hx hZ hown (host := "") (Or.inl (hw _ (List.mem_of_getElem? (i := 25) rfl))) Via.refl e106 F_h (g := (mkF m 30 #[.val (.ref a1), .val (.double d1), .second, .val (.double d2), .second, .val (.int (8 : Int32)), .unset] [(.ref a1), (.int (8 : Int32)), (.int (2 : Int32))])) rfl rfl (hb hby d4_30)
  obtain ⟨T108, X108, e108, st108⟩ := getF X107 hx hZ hown (host := "") (Or.inl (hw _ (List.mem_of_getElem? (i := 25) rfl))) Via.refl e107 F_h (g := (mkF m 38 #[.val (.ref a1), .val (.double d1), .second, .val (.double d2), .second, .val (.int (8 : Int32)), .unset] [(.ref a1)])) rfl rfl (hb hby d4_38)
  obtain ⟨T109, X109, e109, st109⟩ := getF X108 hx hZ hown (host := "") (Or.inl (hw _ (List.mem_of_getElem? (i := 23) rfl))) Via.refl e108 F_c (g := (mkF m 42 #[.val (.ref a1), .val (.double d1), .second, .val (.double d2), .second, .val (.int (8 : Int32)), .unset] [(.ref a1), (.int (0 : Int32))])) rfl rfl (hb hby d4_42)
  obtain ⟨T110, X110, e110, st110⟩ := getF X109 hx hZ hown (host := "") (Or.inl (hw _ (List.mem_of_getElem? (i := 10) rfl))) Via.refl e109 F_a (g := (mkF m 64 #[.val (.ref a1), .val (.double d1), .second, .val (.double d2), .second, .val (.int (8 : Int32)), .val (.int (2 : Int32))] [(.ref a1)])) rfl rfl (hb hby d4_64)
  obtain ⟨cl111, Ar111, qa111, Sa111, Na111, Ha111, Ga111⟩ := id V_a
  have hin111 : ¬ ((2 : Int32) < 0 ∨ cl111.slots.size ≤ ((2 : Int32)).toNatClampNeg) := inb_of Sa111 ⟨by decide, by decide⟩
  obtain ⟨T111, h111, X111, e111, W111, st111⟩ := stD X110 hx hZ e110 Ar111 (j := (2 : Int32)) hin111 (g := (mkF m 70 #[.val (.ref a1), .val (.double d1), .second, .val (.double d2), .second, .val (.int (8 : Int32)), .val (.int (2 : Int32))] [(.double d1), (.int (2 : Int32)), (.ref b1)])) rfl rfl (hb hby d4_70)
  have V_b1_111 := Arv.set Ar111 qa111 Sa111 Na111 Ha111 Ga111 rfl W111 2 rfl (Nat.le_of_ble_eq_true rfl)
  have V111 : Arv Z h111 b1 k1 .double (8 : Int32) [(.double x0), (.double x1), (.double d1), (.double x3), (.double x4), (.double x5), (.double x6), (.double x7)] (.double (0 : UInt64)) := V_b1_111
  have K111 : Keep h0 h111 [a1, b1, b2] := K0.wr W111 (Or.inl (List.mem_of_getElem? (i := 1) rfl))
  have N111 := Fr.snoc X111 N0 g_b1
  refine Gl.pre (S' := T111.setTop (mkF m 72 #[.val (.ref a1), .val (.double d1), .second, .val (.double d2), .second, .val (.int (8 : Int32)), .val (.int (2 : Int32))] [(.ref a1)])) (fun t kt => ?_) ?_
  · show Steps p.tables e below (s₁.setTop (mkF m 0 #[.val (.ref a1), .val (.double d1), .second, .val (.double d2), .second, .unset, .unset] [])) _
    refine XS.aloadN X0.here hx rfl (hb hby d4_0) rfl rfl ?_
    show Steps p.tables e below (s₁.setTop (mkF m 1 #[.val (.ref a1), .val (.double d1), .second, .val (.double d2), .second, .unset, .unset] [(.ref a1)])) _
    refine st101 _ ?_
    show Steps p.tables e below (T101.setTop (mkF m 4 #[.val (.ref a1), .val (.double d1), .second, .val (.double d2), .second, .unset, .unset] [(.int (2 : Int32))])) _
    refine XS.aloadN X101.here hx rfl (hb hby d4_4) rfl rfl ?_
    show Steps p.tables e below (T101.setTop (mkF m 5 #[.val (.ref a1), .val (.double d1), .second, .val (.double d2), .second, .unset, .unset] [(.ref a1), (.int (2 : Int32))])) _
    refine st102 _ ?_
    show Steps p.tables e below (T102.setTop (mkF m 8 #[.val (.ref a1), .val (.double d1), .second, .val (.double d2), .second, .unset, .unset] [(.ref b1), (.int (2 : Int32))])) _
    refine X102.arraylength hx (own_hc e102 Ar103.1) (State.isArrayOf_alike hZ.alike Ar103.2.1) (g := (mkF m 8 #[.val (.ref a1), .val (.double d1), .second, .val (.double d2), .second, .unset, .unset] [(.ref b1), (.int (2 : Int32))])) rfl rfl (hb hby d4_8) _ ?_
    rw [len_of Sa103 Na103]
    show Steps p.tables e below (T102.setTop (mkF m 9 #[.val (.ref a1), .val (.double d1), .second, .val (.double d2), .second, .unset, .unset] [(.int (8 : Int32)), (.int (2 : Int32))])) _
    refine XS.icmpYes X102.here hx rfl (pc0 := 9) (pc' := 16) rfl (hb hby d4_9) rfl (own_nt (ic_ne _ _) (by decide)) (by decide) (by decide) ?_
    show Steps p.tables e below (T102.setTop (mkF m 16 #[.val (.ref a1), .val (.double d1), .second, .val (.double d2), .second, .unset, .unset] [])) _
    refine XS.aloadN X102.here hx rfl (hb hby d4_16) rfl rfl ?_
    show Steps p.tables e below (T102.setTop (mkF m 17 #[.val (.ref a1), .val (.double d1), .second, .val (.double d2), .second, .unset, .unset] [(.ref a1)])) _
    refine st104 _ ?_
    show Steps p.tables e below (T104.setTop (mkF m 20 #[.val (.ref a1), .val (.double d1), .second, .val (.double d2), .second, .unset, .unset] [(.ref b1)])) _
    refine X104.arraylength hx (own_hc e104 Ar105.1) (State.isArrayOf_alike hZ.alike Ar105.2.1) (g := (mkF m 20 #[.val (.ref a1), .val (.double d1), .second, .val (.double d2), .second, .unset, .unset] [(.ref b1)])) rfl rfl (hb hby d4_20) _ ?_
    rw [len_of Sa105 Na105]
    show Steps p.tables e below (T104.setTop (mkF m 21 #[.val (.ref a1), .val (.double d1), .second, .val (.double d2), .second, .unset, .unset] [(.int (8 : Int32))])) _
    refine XS.istore X104.here hx rfl (hb hby d4_21) rfl (l' := #[.val (.ref a1), .val (.double d1), .second, .val (.double d2), .second, .val (.int (8 : Int32)), .unset]) rfl ?_
    show Steps p.tables e below (T104.setTop (mkF m 23 #[.val (.ref a1), .val (.double d1), .second, .val (.double d2), .second, .val (.int (8 : Int32)), .unset] [])) _
    refine XS.aloadN X104.here hx rfl (hb hby d4_23) rfl rfl ?_
    show Steps p.tables e below (T104.setTop (mkF m 24 #[.val (.ref a1), .val (.double d1), .second, .val (.double d2), .second, .val (.int (8 : Int32)), .unset] [(.ref a1)])) _
    refine st106 _ ?_
    show Steps p.tables e below (T106.setTop (mkF m 27 #[.val (.ref a1), .val (.double d1), .second, .val (.double d2), .second, .val (.int (8 : Int32)), .unset] [(.int (2 : Int32))])) _
    refine XS.iload X106.here hx rfl (hb hby d4_27) rfl ?_
    show Steps p.tables e below (T106.setTop (mkF m 29 #[.val (.ref a1), .val (.double d1), .second, .val (.double d2), .second, .val (.int (8 : Int32)), .unset] [(.int (8 : Int32)), (.int (2 : Int32))])) _
    refine XS.aloadN X106.here hx rfl (hb hby d4_29) rfl rfl ?_
    show Steps p.tables e below (T106.setTop (mkF m 30 #[.val (.ref a1), .val (.double d1), .second, .val (.double d2), .second, .val (.int (8 : Int32)), .unset] [(.ref a1), (.int (8 : Int32)), (.int (2 : Int32))])) _
    refine st107 _ ?_
    show Steps p.tables e below (T107.setTop (mkF m 33 #[.val (.ref a1), .val (.double d1), .second, .val (.double d2), .second, .val (.int (8 : Int32)), .unset] [(.int (0 : Int32)), (.int (8 : Int32)), (.int (2 : Int32))])) _
    refine XS.isub X107.here hx rfl (hb hby d4_33) rfl ?_
    show Steps p.tables e below (T107.setTop (mkF m 34 #[.val (.ref a1), .val (.double d1), .second, .val (.double d2), .second, .val (.int (8 : Int32)), .unset] [(.int (8 : Int32)), (.int (2 : Int32))])) _
    refine XS.icmpNo X107.here hx rfl (hb hby d4_34) rfl (own_nf (ic_ge _ _) (by decide)) ?_
    show Steps p.tables e below (T107.setTop (mkF m 37 #[.val (.ref a1), .val (.double d1), .second, .val (.double d2), .second, .val (.int (8 : Int32)), .unset] [])) _
    refine XS.aloadN X107.here hx rfl (hb hby d4_37) rfl rfl ?_
    show Steps p.tables e below (T107.setTop (mkF m 38 #[.val (.ref a1), .val (.double d1), .second, .val (.double d2), .second, .val (.int (8 : Int32)), .unset] [(.ref a1)])) _
    refine st108 _ ?_
    show Steps p.tables e below (T108.setTop (mkF m 41 #[.val (.ref a1), .val (.double d1), .second, .val (.double d2), .second, .val (.int (8 : Int32)), .unset] [(.int (0 : Int32))])) _
    refine XS.aloadN X108.here hx rfl (hb hby d4_41) rfl rfl ?_
    show Steps p.tables e below (T108.setTop (mkF m 42 #[.val (.ref a1), .val (.double d1), .second, .val (.double d2), .second, .val (.int (8 : Int32)), .unset] [(.ref a1), (.int (0 : Int32))])) _
    refine st109 _ ?_
    show Steps p.tables e below (T109.setTop (mkF m 45 #[.val (.ref a1), .val (.double d1), .second, .val (.double d2), .second, .val (.int (8 : Int32)), .unset] [(.int (2 : Int32)), (.int (0 : Int32))])) _
    refine XS.iadd X109.here hx rfl (hb hby d4_45) rfl ?_
    show Steps p.tables e below (T109.setTop (mkF m 46 #[.val (.ref a1), .val (.double d1), .second, .val (.double d2), .second, .val (.int (8 : Int32)), .unset] [(.int ((0 : Int32) + (2 : Int32)))])) _
    refine XS.goto X109.here hx rfl (pc0 := 46) (pc' := 61) rfl (hb hby d4_46) (by decide) (by decide) ?_
    show Steps p.tables e below (T109.setTop (mkF m 61 #[.val (.ref a1), .val (.double d1), .second, .val (.double d2), .second, .val (.int (8 : Int32)), .unset] [(.int (2 : Int32))])) _
    refine XS.istore X109.here hx rfl (hb hby d4_61) rfl (l' := #[.val (.ref a1), .val (.double d1), .second, .val (.double d2), .second, .val (.int (8 : Int32)), .val (.int (2 : Int32))]) rfl ?_
    show Steps p.tables e below (T109.setTop (mkF m 63 #[.val (.ref a1), .val (.double d1), .second, .val (.double d2), .second, .val (.int (8 : Int32)), .val (.int (2 : Int32))] [])) _
    refine XS.aloadN X109.here hx rfl (hb hby d4_63) rfl rfl ?_
    show Steps p.tables e below (T109.setTop (mkF m 64 #[.val (.ref a1), .val (.double d1), .second, .val (.double d2), .second, .val (.int (8 : Int32)), .val (.int (2 : Int32))] [(.ref a1)])) _
    refine st110 _ ?_
    show Steps p.tables e below (T110.setTop (mkF m 67 #[.val (.ref a1), .val (.double d1), .second, .val (.double d2), .second, .val (.int (8 : Int32)), .val (.int (2 : Int32))] [(.ref b1)])) _
    refine XS.iload X110.here hx rfl (hb hby d4_67) rfl ?_
    show Steps p.tables e below (T110.setTop (mkF m 69 #[.val (.ref a1), .val (.double d1), .second, .val (.double d2), .second, .val (.int (8 : Int32)), .val (.int (2 : Int32))] [(.int (2 : Int32)), (.ref b1)])) _
    refine XS.dloadN X110.here hx rfl (hb hby d4_69) rfl ?_
    show Steps p.tables e below (T110.setTop (mkF m 70 #[.val (.ref a1), .val (.double d1), .second, .val (.double d2), .second, .val (.int (8 : Int32)), .val (.int (2 : Int32))] [(.double d1), (.int (2 : Int32)), (.ref b1)])) _
    refine st111 _ ?_
    show Steps p.tables e below (T111.setTop (mkF m 71 #[.val (.ref a1), .val (.double d1), .second, .val (.double d2), .second, .val (.int (8 : Int32)), .val (.int (2 : Int32))] [])) _
    refine XS.aloadN X111.here hx rfl (hb hby d4_71) rfl rfl ?_
    exact kt
  have f112 := (F_s.other W111 (Or.inl ne1))
  obtain ⟨T113, X113, e113, st113⟩ := getF X111 hx hZ hown (host := "") (Or.inl (hw _ (List.mem_of_getElem? (i := 12) rfl))) Via.refl e111 f112 (g := (mkF m 72 #[.val (.ref a1), .val (.double d1), .second, .val (.double d2), .second, .val (.int (8 : Int32)), .val (.int (2 : Int32))] [(.ref a1)])) rfl rfl (hb hby d4_72)
  have f115 := (V_s.other W111 (Ne.symm ne3))
  obtain ⟨cl114, Ar114, qa114, Sa114, Na114, Ha114, Ga114⟩ := id f115
  have hin114 : ¬ ((2 : Int32) < 0 ∨ cl114.slots.size ≤ ((2 : Int32)).toNatClampNeg) := inb_of Sa114 ⟨by decide, by decide⟩
  obtain ⟨T114, h114, X114, e114, W114, st114⟩ := stD X113 hx hZ e113 Ar114 (j := (2 : Int32)) hin114 (g := (mkF m 78 #[.val (.ref a1), .val (.double d1), .second, .val (.double d2), .second, .val (.int (8 : Int32)), .val (.int (2 : Int32))] [(.double d2), (.int (2 : Int32)), (.ref b2)])) rfl rfl (hb hby d4_78)
  have V_b2_114 := Arv.set Ar114 qa114 Sa114 Na114 Ha114 Ga114 rfl W114 2 rfl (Nat.le_of_ble_eq_true rfl)
  have V114 : Arv Z h114 b2 k2 .double (8 : Int32) [(.double y0), (.double y1), (.double d2), (.double y3), (.double y4), (.double y5), (.double y6), (.double y7)] (.double (0 : UInt64)) := V_b2_114
  have K114 : Keep h0 h114 [a1, b1, b2] := K111.wr W114 (Or.inl (List.mem_of_getElem? (i := 2) rfl))
  have N114 := Fr.snoc X114 N111 g_b2
  have f116 := ((F_c.other W111 (Or.inl ne1)).other W114 (Or.inl ne2))
  obtain ⟨T117, X117, e117, st117⟩ := getF X114 hx hZ hown (host := "") (Or.inl (hw _ (List.mem_of_getElem? (i := 23) rfl))) Via.refl e114 f116 (g := (mkF m 81 #[.val (.ref a1), .val (.double d1), .second, .val (.double d2), .second, .val (.int (8 : Int32)), .val (.int (2 : Int32))] [(.ref a1), (.ref a1)])) rfl rfl (hb hby d4_81)
  have f118 := ((E_a.wr W111).wr W114)
  obtain ⟨T119, h119, X119, e119, W119, st119⟩ := putF X117 hx hZ hown (host := "") (Or.inl (hw _ (List.mem_of_getElem? (i := 23) rfl))) Via.refl e117 f116 f118 (Or.inl (hw _ (List.mem_of_getElem? (i := 24) rfl))) (hw _ (List.mem_of_getElem? (i := 1) rfl)) (ty := .int) (by decide) rfl rfl (g := (mkF m 86 #[.val (.ref a1), .val (.double d1), .second, .val (.double d2), .second, .val (.int (8 : Int32)), .val (.int (2 : Int32))] [(.int (3 : Int32)), (.ref a1)])) rfl rfl (hb hby d4_86)
  have Fw119 := f116.same W119
  have K119 : Keep h0 h119 [a1, b1, b2] := K114.wr W119 (Or.inl (List.mem_of_getElem? (i := 0) rfl))
  have N119 := Fr.snoc X119 N114 g_a1
  have f120 := (f118.wr W119)
  have f121 := (((F_a.other W111 (Or.inl ne1)).other W114 (Or.inl ne2)).other W119 (Or.inr (slot_ne (Or.inl (hw _ (List.mem_of_getElem? (i := 11) rfl))) (Or.inl (hw _ (List.mem_of_getElem? (i := 24) rfl))) (by decide) (t := (.array .double)) (t' := .int) (by decide) (by decide))))
  have f122 := ((f112.other W114 (Or.inl ne2)).other W119 (Or.inr (slot_ne (Or.inl (hw _ (List.mem_of_getElem? (i := 13) rfl))) (Or.inl (hw _ (List.mem_of_getElem? (i := 24) rfl))) (by decide) (t := (.array .double)) (t' := .int) (by decide) (by decide))))
  have f123 := (((F_h.other W111 (Or.inl ne1)).other W114 (Or.inl ne2)).other W119 (Or.inr (slot_ne (Or.inl (hw _ (List.mem_of_getElem? (i := 26) rfl))) (Or.inl (hw _ (List.mem_of_getElem? (i := 24) rfl))) (by decide) (t := .int) (t' := .int) (by decide) (by decide))))
  have f124 := ((V111.other W114 ne3).other W119 (Ne.symm ne1))
  have f125 := (V114.other W119 (Ne.symm ne2))
  refine Gl.fin X119 (v := none) (fun _ => rfl) Bd.notSynchronized ?_ e119 (by decide) (by decide) (fun fs hr => ?_)
  · exact ⟨rfl, N119, K119, f120, f121, f122, Fw119, f123, f124, f125⟩
  · show Steps p.tables e below (T111.setTop (mkF m 72 #[.val (.ref a1), .val (.double d1), .second, .val (.double d2), .second, .val (.int (8 : Int32)), .val (.int (2 : Int32))] [(.ref a1)])) _
    refine st113 _ ?_
    show Steps p.tables e below (T113.setTop (mkF m 75 #[.val (.ref a1), .val (.double d1), .second, .val (.double d2), .second, .val (.int (8 : Int32)), .val (.int (2 : Int32))] [(.ref b2)])) _
    refine XS.iload X113.here hx rfl (hb hby d4_75) rfl ?_
    show Steps p.tables e below (T113.setTop (mkF m 77 #[.val (.ref a1), .val (.double d1), .second, .val (.double d2), .second, .val (.int (8 : Int32)), .val (.int (2 : Int32))] [(.int (2 : Int32)), (.ref b2)])) _
    refine XS.dloadN X113.here hx rfl (hb hby d4_77) rfl ?_
    show Steps p.tables e below (T113.setTop (mkF m 78 #[.val (.ref a1), .val (.double d1), .second, .val (.double d2), .second, .val (.int (8 : Int32)), .val (.int (2 : Int32))] [(.double d2), (.int (2 : Int32)), (.ref b2)])) _
    refine st114 _ ?_
    show Steps p.tables e below (T114.setTop (mkF m 79 #[.val (.ref a1), .val (.double d1), .second, .val (.double d2), .second, .val (.int (8 : Int32)), .val (.int (2 : Int32))] [])) _
    refine XS.aloadN X114.here hx rfl (hb hby d4_79) rfl rfl ?_
    show Steps p.tables e below (T114.setTop (mkF m 80 #[.val (.ref a1), .val (.double d1), .second, .val (.double d2), .second, .val (.int (8 : Int32)), .val (.int (2 : Int32))] [(.ref a1)])) _
    refine XS.dup X114.here hx rfl (hb hby d4_80) rfl rfl ?_
    show Steps p.tables e below (T114.setTop (mkF m 81 #[.val (.ref a1), .val (.double d1), .second, .val (.double d2), .second, .val (.int (8 : Int32)), .val (.int (2 : Int32))] [(.ref a1), (.ref a1)])) _
    refine st117 _ ?_
    show Steps p.tables e below (T117.setTop (mkF m 84 #[.val (.ref a1), .val (.double d1), .second, .val (.double d2), .second, .val (.int (8 : Int32)), .val (.int (2 : Int32))] [(.int (2 : Int32)), (.ref a1)])) _
    refine XS.iconst X117.here hx rfl (hb hby d4_84) ?_
    show Steps p.tables e below (T117.setTop (mkF m 85 #[.val (.ref a1), .val (.double d1), .second, .val (.double d2), .second, .val (.int (8 : Int32)), .val (.int (2 : Int32))] [(.int (1 : Int32)), (.int (2 : Int32)), (.ref a1)])) _
    refine XS.iadd X117.here hx rfl (hb hby d4_85) rfl ?_
    show Steps p.tables e below (T117.setTop (mkF m 86 #[.val (.ref a1), .val (.double d1), .second, .val (.double d2), .second, .val (.int (8 : Int32)), .val (.int (2 : Int32))] [(.int (3 : Int32)), (.ref a1)])) _
    refine st119 _ ?_
    show Steps p.tables e below (T119.setTop (mkF m 89 #[.val (.ref a1), .val (.double d1), .second, .val (.double d2), .second, .val (.int (8 : Int32)), .val (.int (2 : Int32))] [])) _
    exact X119.returnOut hx Bd.returns (hb hby d4_89) hr
theorem ef_rm3_0_2 (m : MethodId) (x0 : Addr) (x1 : Int32) (x2 : Int32) (x3 : Int32) : entryFrame m #[(.ref x0), (.int x1), (.int x2), (.int x3)] 4 = mkF m 0 #[.val (.ref x0), .val (.int x1), .val (.int x2), .val (.int x3)] [] := by first | (simp [entryFrame, mkF, argsToLocals, Value.category]; done) | rfl
def Q3_0_2 (Z : State) (a1 : Addr) (p1 : Int32) (p2 : Int32) (p3 : Int32) (b1 : Addr) (b2 : Addr) (k1 : ClassId) (k2 : ClassId) (x0 : UInt64) (x1 : UInt64) (x2 : UInt64) (x3 : UInt64) (x4 : UInt64) (x5 : UInt64) (x6 : UInt64) (x7 : UInt64) (y0 : UInt64) (y1 : UInt64) (y2 : UInt64) (y3 : UInt64) (y4 : UInt64) (y5 : UInt64) (y6 : UInt64) (y7 : UInt64) (h0 : Heap) (n0 : Nat) (v : Option Value) (h : Heap) (L : List Loc) : Prop := v = none ∧ Fr n0 L ∧ Keep h0 h [a1, b1, b2] ∧ Exa Z h a1 "com/example/tenrec/tenrec/pool/RequestQueue" ∧ Fld Z h a1 "com/example/tenrec/tenrec/pool/RequestQueue" "arrivals" "[D" (.ref b1) ∧ Fld Z h a1 "com/example/tenrec/tenrec/pool/RequestQueue" "sizes" "[D" (.ref b2) ∧ Fld Z h a1 "com/example/tenrec/tenrec/pool/RequestQueue" "count" "I" (.int (3 : Int32)) ∧ Fld Z h a1 "com/example/tenrec/tenrec/pool/RequestQueue" "head" "I" (.int (0 : Int32)) ∧ Arv Z h b1 k1 .double (8 : Int32) [(.double x0), (.double x1), (.double (FP.i2d (p1 + p3))), (.double x3), (.double x4), (.double x5), (.double x6), (.double x7)] (.double (0 : UInt64)) ∧ Arv Z h b2 k2 .double (8 : Int32) [(.double y0), (.double y1), (.double (FP.i2d (p2 - p3))), (.double y3), (.double y4), (.double y5), (.double y6), (.double y7)] (.double (0 : UInt64))
set_option maxRecDepth 65536 in
set_option maxHeartbeats 40000000 in
theorem rm3_0_2 (l : Launch) (Z : State) (a0 : Array Value) (hw : ∀ d ∈ tables_1, d.before a0 Z = true) (ws : List Jvm.Cond) (a1 : Addr) (p1 : Int32) (p2 : Int32) (p3 : Int32) (b1 : Addr) (b2 : Addr) (k1 : ClassId) (k2 : ClassId) (x0 : UInt64) (x1 : UInt64) (x2 : UInt64) (x3 : UInt64) (x4 : UInt64) (x5 : UInt64) (x6 : UInt64) (x7 : UInt64) (y0 : UInt64) (y1 : UInt64) (y2 : UInt64) (y3 : UInt64) (y4 : UInt64) (y5 : UInt64) (y6 : UInt64) (y7 : UInt64) (h0 : Heap) (n0 : Nat) (Z0 : n0 ≤ h0.size) (g_a1 : n0 ≤ a1) (g_b1 : n0 ≤ b1) (g_b2 : n0 ≤ b2) (ne1 : a1 ≠ b1) (ne2 : a1 ≠ b2) (ne3 : b1 ≠ b2) (E_a : Exa Z h0 a1 "com/example/tenrec/tenrec/pool/RequestQueue") (F_a : Fld Z h0 a1 "com/example/tenrec/tenrec/pool/RequestQueue" "arrivals" "[D" (.ref b1)) (F_s : Fld Z h0 a1 "com/example/tenrec/tenrec/pool/RequestQueue" "sizes" "[D" (.ref b2)) (F_c : Fld Z h0 a1 "com/example/tenrec/tenrec/pool/RequestQueue" "count" "I" (.int (2 : Int32))) (F_h : Fld Z h0 a1 "com/example/tenrec/tenrec/pool/RequestQueue" "head" "I" (.int (0 : Int32))) (V_a : Arv Z h0 b1 k1 .double (8 : Int32) [(.double x0), (.double x1), (.double x2), (.double x3), (.double x4), (.double x5), (.double x6), (.double x7)] (.double (0 : UInt64))) (V_s : Arv Z h0 b2 k2 .double (8 : Int32) [(.double y0), (.double y1), (.double y2), (.double y3), (.double y4), (.double y5), (.double y6), (.double y7)] (.double (0 : UInt64))) :
    OMet l Z (⟨"com/example/tenrec/tenrec/pool/RequestQueueRemoveFirstPinLaw", "put", "(Lcom/example/tenrec/tenrec/pool/RequestQueue;III)V"⟩ : MethodName) method_2_code 4 none ws ({ frames := 1, cells := 0, slots := 0, locals := 18 } : Room) #[(.ref a1), (.int p1), (.int p2), (.int p3)] h0 (Q3_0_2 Z a1 p1 p2 p3 b1 b2 k1 k2 x0 x1 x2 x3 x4 x5 x6 x7 y0 y1 y2 y3 y4 y5 y6 y7 h0 n0) := by
  refine own_body (plainFor_of_name pn_com_example_tenrec_tenrec_pool_RequestQueueRemoveFirstPinLaw) ?_
  intro p e s m below meth c s₁ Bd hml0 hZ e0
  have hx := Bd.exec
  have hby := Bd.bytes
  have hml : c.maxLocals = 4 := hml0
  have hown : s.vm.findClass "com/example/tenrec/tenrec/pool/RequestQueueRemoveFirstPinLaw" = some m.cls := findClass_of_methodNamed Bd.named
  have hnm := (name_of_methodNamed Bd.named Bd.method).1
  have X0 : Stand p l e ({ frames := 1, cells := 0, slots := 0, locals := 18 } : Room) s m #[(.ref a1), (.int p1), (.int p2), (.int p3)] below meth c s₁ [] 0 0 := Stand.of_body Bd
  have N0 := Fr.nil n0
  have K0 : Keep h0 h0 [a1, b1, b2] := Keep.refl _ _
  rw [ef_rm3_0_2]
  obtain ⟨v101, T101, L101, X101, q101, st101⟩ := own_callV X0 hx hZ (y := (⟨"com/example/tenrec/tenrec/pool/RequestQueue", "add", "(DD)V"⟩ : MethodName)) (z := (⟨"com/example/tenrec/tenrec/pool/RequestQueue", "add", "(DD)V"⟩ : MethodName)) hown (hw _ (List.mem_of_getElem? (i := 18) rfl)) (hw _ (List.mem_of_getElem? (i := 19) rfl)) (notFace_of_selects (args := #[]) (mvT hZ (hw _ (List.mem_of_getElem? (i := 21) rfl)))) (hw _ (List.mem_of_getElem? (i := 21) rfl)) (hw _ (List.mem_of_getElem? (i := 20) rfl)) (hw _ (List.mem_of_getElem? (i := 2) rfl)) (hw _ (List.mem_of_getElem? (i := 22) rfl)) (by decide) E_a (hM := (rm4_0_2 l Z a0 hw [] a1 (FP.i2d (p1 + p3)) (FP.i2d (p2 - p3)) b1 b2 k1 k2 x0 x1 x2 x3 x4 x5 x6 x7 y0 y1 y2 y3 y4 y5 y6 y7 h0 n0 Z0 g_a1 g_b1 g_b2 ne1 ne2 ne3 E_a F_a F_s F_c F_h V_a V_s)) (by decide) (by decide) (by decide) (by decide) e0 (argsL := [(.double (FP.i2d (p1 + p3))), (.double (FP.i2d (p2 - p3)))]) (rest := []) (Ls := #[.val (.ref a1), .val (.int p1), .val (.int p2), .val (.int p3)]) (by rw [hml]; rfl) (lenOf pd__DD_V rfl) (W := 0) (Nat.le_of_eq rfl) (hb hby d3_9)
  obtain ⟨rfl, N101q, K101q, E101q, FA101q, FS101q, FC101q, FH101q, VA101q, VS101q⟩ := q101
  have N101 := Fr.app N0 N101q
  have K101 : Keep h0 T101.heap [a1, b1, b2] := K0.trans K101q (allS (Or.inl (List.mem_of_getElem? (i := 0) rfl)) (allS (Or.inl (List.mem_of_getElem? (i := 1) rfl)) (allS (Or.inl (List.mem_of_getElem? (i := 2) rfl)) all0)))
  refine Gl.fin X101 (v := none) (fun _ => rfl) Bd.notSynchronized ?_ rfl (by decide) (by decide) (fun fs hr => ?_)
  · exact ⟨rfl, N101, K101, E101q, FA101q, FS101q, FC101q, FH101q, VA101q, VS101q⟩
  · show Steps p.tables e below (s₁.setTop (mkF m 0 #[.val (.ref a1), .val (.int p1), .val (.int p2), .val (.int p3)] [])) _
    refine XS.aloadN X0.here hx rfl (hb hby d3_0) rfl rfl ?_
    show Steps p.tables e below (s₁.setTop (mkF m 1 #[.val (.ref a1), .val (.int p1), .val (.int p2), .val (.int p3)] [(.ref a1)])) _
    refine XS.iloadN X0.here hx rfl (hb hby d3_1) rfl ?_
    show Steps p.tables e below (s₁.setTop (mkF m 2 #[.val (.ref a1), .val (.int p1), .val (.int p2), .val (.int p3)] [(.int p1), (.ref a1)])) _
    refine XS.iloadN X0.here hx rfl (hb hby d3_2) rfl ?_
    show Steps p.tables e below (s₁.setTop (mkF m 3 #[.val (.ref a1), .val (.int p1), .val (.int p2), .val (.int p3)] [(.int p3), (.int p1), (.ref a1)])) _
    refine XS.iadd X0.here hx rfl (hb hby d3_3) rfl ?_
    show Steps p.tables e below (s₁.setTop (mkF m 4 #[.val (.ref a1), .val (.int p1), .val (.int p2), .val (.int p3)] [(.int (p1 + p3)), (.ref a1)])) _
    refine XS.i2dS X0.here hx rfl (hb hby d3_4) rfl rfl ?_
    show Steps p.tables e below (s₁.setTop (mkF m 5 #[.val (.ref a1), .val (.int p1), .val (.int p2), .val (.int p3)] [(.double (FP.i2d (p1 + p3))), (.ref a1)])) _
    refine XS.iloadN X0.here hx rfl (hb hby d3_5) rfl ?_
    show Steps p.tables e below (s₁.setTop (mkF m 6 #[.val (.ref a1), .val (.int p1), .val (.int p2), .val (.int p3)] [(.int p2), (.double (FP.i2d (p1 + p3))), (.ref a1)])) _
    refine XS.iloadN X0.here hx rfl (hb hby d3_6) rfl ?_
    show Steps p.tables e below (s₁.setTop (mkF m 7 #[.val (.ref a1), .val (.int p1), .val (.int p2), .val (.int p3)] [(.int p3), (.int p2), (.double (FP.i2d (p1 + p3))), (.ref a1)])) _
    refine XS.isub X0.here hx rfl (hb hby d3_7) rfl ?_
    show Steps p.tables e below (s₁.setTop (mkF m 8 #[.val (.ref a1), .val (.int p1), .val (.int p2), .val (.int p3)] [(.int (p2 - p3)), (.double (FP.i2d (p1 + p3))), (.ref a1)])) _
    refine XS.i2dS X0.here hx rfl (hb hby d3_8) rfl rfl ?_
    show Steps p.tables e below (s₁.setTop (mkF m 9 #[.val (.ref a1), .val (.int p1), .val (.int p2), .val (.int p3)] [(.double (FP.i2d (p2 - p3))), (.double (FP.i2d (p1 + p3))), (.ref a1)])) _
    refine st101 _ ?_
    show Steps p.tables e below (T101.setTop (mkF m 12 #[.val (.ref a1), .val (.int p1), .val (.int p2), .val (.int p3)] [])) _
    exact X101.returnOut hx Bd.returns (hb hby d3_12) hr
theorem ef_rm4_0_3 (m : MethodId) (x0 : Addr) (x1 : UInt64) (x2 : UInt64) : entryFrame m #[(.ref x0), (.double x1), (.double x2)] 7 = mkF m 0 #[.val (.ref x0), .val (.double x1), .second, .val (.double x2), .second, .unset, .unset] [] := by first | (simp [entryFrame, mkF, argsToLocals, Value.category]; done) | rfl
def Q4_0_3 (Z : State) (a1 : Addr) (d1 : UInt64) (d2 : UInt64) (b1 : Addr) (b2 : Addr) (k1 : ClassId) (k2 : ClassId) (x0 : UInt64) (x1 : UInt64) (x2 : UInt64) (x3 : UInt64) (x4 : UInt64) (x5 : UInt64) (x6 : UInt64) (x7 : UInt64) (y0 : UInt64) (y1 : UInt64) (y2 : UInt64) (y3 : UInt64) (y4 : UInt64) (y5 : UInt64) (y6 : UInt64) (y7 : UInt64) (h0 : Heap) (n0 : Nat) (v : Option Value) (h : Heap) (L : List Loc) : Prop := v = none ∧ Fr n0 L ∧ Keep h0 h [a1, b1, b2] ∧ Exa Z h a1 "com/example/tenrec/tenrec/pool/RequestQueue" ∧ Fld Z h a1 "com/example/tenrec/tenrec/pool/RequestQueue" "arrivals" "[D" (.ref b1) ∧ Fld Z h a1 "com/example/tenrec/tenrec/pool/RequestQueue" "sizes" "[D" (.ref b2) ∧ Fld Z h a1 "com/example/tenrec/tenrec/pool/RequestQueue" "count" "I" (.int (4 : Int32)) ∧ Fld Z h a1 "com/example/tenrec/tenrec/pool/RequestQueue" "head" "I" (.int (0 : Int32)) ∧ Arv Z h b1 k1 .double (8 : Int32) [(.double x0), (.double x1), (.double x2), (.double d1), (.double x4), (.double x5), (.double x6), (.double x7)] (.double (0 : UInt64)) ∧ Arv Z h b2 k2 .double (8 : Int32) [(.double y0), (.double y1), (.double y2), (.double d2), (.double y4), (.double y5), (.double y6), (.double y7)] (.double (0 : UInt64))
set_option maxRecDepth 65536 in
set_option maxHeartbeats 40000000 in
theorem rm4_0_3 (l : Launch) (Z : State) (a0 : Array Value) (hw : ∀ d ∈ tables_1, d.before a0 Z = true) (ws : List Jvm.Cond) (a1 : Addr) (d1 : UInt64) (d2 : UInt64) (b1 : Addr) (b2 : Addr) (k1 : ClassId) (k2 : ClassId) (x0 : UInt64) (x1 : UInt64) (x2 : UInt64) (x3 : UInt64) (x4 : UInt64) (x5 : UInt64) (x6 : UInt64) (x7 : UInt64) (y0 : UInt64) (y1 : UInt64) (y2 : UInt64) (y3 : UInt64) (y4 : UInt64) (y5 : UInt64) (y6 : UInt64) (y7 : UInt64) (h0 : Heap) (n0 : Nat) (Z0 : n0 ≤ h0.size) (g_a1 : n0 ≤ a1) (g_b1 : n0 ≤ b1) (g_b2 : n0 ≤ b2) (ne1 : a1 ≠ b1) (ne2 : a1 ≠ b2) (ne3 : b1 ≠ b2) (E_a : Exa Z h0 a1 "com/example/tenrec/tenrec/pool/RequestQueue") (F_a : Fld Z h0 a1 "com/example/tenrec/tenrec/pool/RequestQueue" "arrivals" "[D" (.ref b1)) (F_s : Fld Z h0 a1 "com/example/tenrec/tenrec/pool/RequestQueue" "sizes" "[D" (.ref b2)) (F_c : Fld Z h0 a1 "com/example/tenrec/tenrec/pool/RequestQueue" "count" "I" (.int (3 : Int32))) (F_h : Fld Z h0 a1 "com/example/tenrec/tenrec/pool/RequestQueue" "head" "I" (.int (0 : Int32))) (V_a : Arv Z h0 b1 k1 .double (8 : Int32) [(.double x0), (.double x1), (.double x2), (.double x3), (.double x4), (.double x5), (.double x6), (.double x7)] (.double (0 : UInt64))) (V_s : Arv Z h0 b2 k2 .double (8 : Int32) [(.double y0), (.double y1), (.double y2), (.double y3), (.double y4), (.double y5), (.double y6), (.double y7)] (.double (0 : UInt64))) :
    OMet l Z (⟨"com/example/tenrec/tenrec/pool/RequestQueue", "add", "(DD)V"⟩ : MethodName) prog_34_method_2_code 7 none ws ({ frames := 0, cells := 0, slots := 0, locals := 0 } : Room) #[(.ref a1), (.double d1), (.double d2)] h0 (Q4_0_3 Z a1 d1 d2 b1 b2 k1 k2 x0 x1 x2 x3 x4 x5 x6 x7 y0 y1 y2 y3 y4 y5 y6 y7 h0 n0) := by
  refine own_body (plainFor_of_name pn_com_example_tenrec_tenrec_pool_RequestQueue) ?_
  intro p e s m below meth c s₁ Bd hml0 hZ e0
  have hx := Bd.exec
  have hby := Bd.bytes
  have hml : c.maxLocals = 7 := hml0
  have hown : s.vm.findClass "com/example/tenrec/tenrec/pool/RequestQueue" = some m.cls := findClass_of_methodNamed Bd.named
  have hnm := (name_of_methodNamed Bd.named Bd.method).1
  have X0 : Stand p l e ({ frames := 0, cells := 0, slots := 0, locals := 0 } : Room) s m #[(.ref a1), (.double d1), (.double d2)] below meth c s₁ [] 0 0 := Stand.of_body Bd
  have N0 := Fr.nil n0
  have K0 : Keep h0 h0 [a1, b1, b2] := Keep.refl _ _
  rw [ef_rm4_0_3]
  obtain ⟨T101, X101, e101, st101⟩ := getF X0 hx hZ hown (host := "") (Or.inl (hw _ (List.mem_of_getElem? (i := 23) rfl))) Via.refl e0 F_c (g := (mkF m 1 #[.val (.ref a1), .val (.double d1), .second, .val (.double d2), .second, .unset, .unset] [(.ref a1)])) rfl rfl (hb hby d4_1)
  obtain ⟨T102, X102, e102, st102⟩ := getF X101 hx hZ hown (host := "") (Or.inl (hw _ (List.mem_of_getElem? (i := 10) rfl))) Via.refl e101 F_a (g := (mkF m 5 #[.val (.ref a1), .val (.double d1), .second, .val (.double d2), .second, .unset, .unset] [(.ref a1), (.int (3 : Int32))])) rfl rfl (hb hby d4_5)
  obtain ⟨cl103, Ar103, qa103, Sa103, Na103, Ha103, Ga103⟩ := id V_a
  obtain ⟨T104, X104, e104, st104⟩ := getF X102 hx hZ hown (host := "") (Or.inl (hw _ (List.mem_of_getElem? (i := 10) rfl))) Via.refl e102 F_a (g := (mkF m 17 #[.val (.ref a1), .val (.double d1), .second, .val (.double d2), .second, .unset, .unset] [(.ref a1)])) rfl rfl (hb hby d4_17)
  obtain ⟨cl105, Ar105, qa105, Sa105, Na105, Ha105, Ga105⟩ := id V_a
  obtain ⟨T106, X106, e106, st106⟩ := getF X104 hx hZ hown (host := "") (Or.inl (hw _ (List.mem_of_getElem? (i := 23) rfl))) Via.refl e104 F_c (g := (mkF m 24 #[.val (.ref a1), .val (.double d1), .second, .val (.double d2), .second, .val (.int (8 : Int32)), .unset] [(.ref a1)])) rfl rfl (hb hby d4_24)
  obtain ⟨T107, X107, e107, st107⟩ := getF X106 hx hZ hown (host := "") (Or.inl (hw _ (List.mem_of_getElem? (i := 25) rfl))) Via.refl e106 F_h (g := (mkF m 30 #[.val (.ref a1), .val (.double d1), .second, .val (.double d2), .second, .val (.int (8 : Int32)), .unset] [(.ref a1), (.int (8 : Int32)), (.int (3 : Int32))])) rfl rfl (hb hby d4_30)
  obtain ⟨T108, X108, e108, st108⟩ := getF X107 hx hZ hown (host := "") (Or.inl (hw _ (List.mem_of_getElem? (i := 25) rfl))) Via.refl e107 F_h (g := (mkF m 38 #[.val (.ref a1), .val (.double d1), .second, .val (.double d2), .second, .val (.int (8 : Int32)), .unset] [(.ref a1)])) rfl rfl (hb hby d4_38)
  obtain ⟨T109, X109, e109, st109⟩ := getF X108 hx hZ hown (host := "") (Or.inl (hw _ (List.mem_of_getElem? (i := 23) rfl))) Via.refl e108 F_c (g := (mkF m 42 #[.val (.ref a1), .val (.double d1), .second, .val (.double d2), .second, .val (.int (8 : Int32)), .unset] [(.ref a1), (.int (0 : Int32))])) rfl rfl (hb hby d4_42)
  obtain ⟨T110, X110, e110, st110⟩ := getF X109 hx hZ hown (host := "") (Or.inl (hw _ (List.mem_of_getElem? (i := 10) rfl))) Via.refl e109 F_a (g := (mkF m 64 #[.val (.ref a1), .val (.double d1), .second, .val (.double d2), .second, .val (.int (8 : Int32)), .val (.int (3 : Int32))] [(.ref a1)])) rfl rfl (hb hby d4_64)
  obtain ⟨cl111, Ar111, qa111, Sa111, Na111, Ha111, Ga111⟩ := id V_a
  have hin111 : ¬ ((3 : Int32) < 0 ∨ cl111.slots.size ≤ ((3 : Int32)).toNatClampNeg) := inb_of Sa111 ⟨by decide, by decide⟩
  obtain ⟨T111, h111, X111, e111, W111, st111⟩ := stD X110 hx hZ e110 Ar111 (j := (3 : Int32)) hin111 (g := (mkF m 70 #[.val (.ref a1), .val (.double d1), .second, .val (.double d2), .second, .val (.int (8 : Int32)), .val (.int (3 : Int32))] [(.double d1), (.int (3 : Int32)), (.ref b1)])) rfl rfl (hb hby d4_70)
  have V_b1_111 := Arv.set Ar111 qa111 Sa111 Na111 Ha111 Ga111 rfl W111 3 rfl (Nat.le_of_ble_eq_true rfl)
  have V111 : Arv Z h111 b1 k1 .double (8 : Int32) [(.double x0), (.double x1), (.double x2), (.double d1), (.double x4), (.double x5), (.double x6), (.double x7)] (.double (0 : UInt64)) := V_b1_111
  have K111 : Keep h0 h111 [a1, b1, b2] := K0.wr W111 (Or.inl (List.mem_of_getElem? (i := 1) rfl))
  have N111 := Fr.snoc X111 N0 g_b1
  refine Gl.pre (S' := T111.setTop (mkF m 72 #[.val (.ref a1), .val (.double d1), .second, .val (.double d2), .second, .val (.int (8 : Int32)), .val (.int (3 : Int32))] [(.ref a1)])) (fun t kt => ?_) ?_
  · show Steps p.tables e below (s₁.setTop (mkF m 0 #[.val (.ref a1), .val (.double d1), .second, .val (.double d2), .second, .unset, .unset] [])) _
    refine XS.aloadN X0.here hx rfl (hb hby d4_0) rfl rfl ?_
    show Steps p.tables e below (s₁.setTop (mkF m 1 #[.val (.ref a1), .val (.double d1), .second, .val (.double d2), .second, .unset, .unset] [(.ref a1)])) _
    refine st101 _ ?_
    show Steps p.tables e below (T101.setTop (mkF m 4 #[.val (.ref a1), .val (.double d1), .second, .val (.double d2), .second, .unset, .unset] [(.int (3 : Int32))])) _
    refine XS.aloadN X101.here hx rfl (hb hby d4_4) rfl rfl ?_
    show Steps p.tables e below (T101.setTop (mkF m 5 #[.val (.ref a1), .val (.double d1), .second, .val (.double d2), .second, .unset, .unset] [(.ref a1), (.int (3 : Int32))])) _
    refine st102 _ ?_
    show Steps p.tables e below (T102.setTop (mkF m 8 #[.val (.ref a1), .val (.double d1), .second, .val (.double d2), .second, .unset, .unset] [(.ref b1), (.int (3 : Int32))])) _
    refine X102.arraylength hx (own_hc e102 Ar103.1) (State.isArrayOf_alike hZ.alike Ar103.2.1) (g := (mkF m 8 #[.val (.ref a1), .val (.double d1), .second, .val (.double d2), .second, .unset, .unset] [(.ref b1), (.int (3 : Int32))])) rfl rfl (hb hby d4_8) _ ?_
    rw [len_of Sa103 Na103]
    show Steps p.tables e below (T102.setTop (mkF m 9 #[.val (.ref a1), .val (.double d1), .second, .val (.double d2), .second, .unset, .unset] [(.int (8 : Int32)), (.int (3 : Int32))])) _
    refine XS.icmpYes X102.here hx rfl (pc0 := 9) (pc' := 16) rfl (hb hby d4_9) rfl (own_nt (ic_ne _ _) (by decide)) (by decide) (by decide) ?_
    show Steps p.tables e below (T102.setTop (mkF m 16 #[.val (.ref a1), .val (.double d1), .second, .val (.double d2), .second, .unset, .unset] [])) _
    refine XS.aloadN X102.here hx rfl (hb hby d4_16) rfl rfl ?_
    show Steps p.tables e below (T102.setTop (mkF m 17 #[.val (.ref a1), .val (.double d1), .second, .val (.double d2), .second, .unset, .unset] [(.ref a1)])) _
    refine st104 _ ?_
    show Steps p.tables e below (T104.setTop (mkF m 20 #[.val (.ref a1), .val (.double d1), .second, .val (.double d2), .second, .unset, .unset] [(.ref b1)])) _
    refine X104.arraylength hx (own_hc e104 Ar105.1) (State.isArrayOf_alike hZ.alike Ar105.2.1) (g := (mkF m 20 #[.val (.ref a1), .val (.double d1), .second, .val (.double d2), .second, .unset, .unset] [(.ref b1)])) rfl rfl (hb hby d4_20) _ ?_
    rw [len_of Sa105 Na105]
    show Steps p.tables e below (T104.setTop (mkF m 21 #[.val (.ref a1), .val (.double d1), .second, .val (.double d2), .second, .unset, .unset] [(.int (8 : Int32))])) _
    refine XS.istore X104.here hx rfl (hb hby d4_21) rfl (l' := #[.val (.ref a1), .val (.double d1), .second, .val (.double d2), .second, .val (.int (8 : Int32)), .unset]) rfl ?_
    show Steps p.tables e below (T104.setTop (mkF m 23 #[.val (.ref a1), .val (.double d1), .second, .val (.double d2), .second, .val (.int (8 : Int32)), .unset] [])) _
    refine XS.aloadN X104.here hx rfl (hb hby d4_23) rfl rfl ?_
    show Steps p.tables e below (T104.setTop (mkF m 24 #[.val (.ref a1), .val (.double d1), .second, .val (.double d2), .second, .val (.int (8 : Int32)), .unset] [(.ref a1)])) _
    refine st106 _ ?_
    show Steps p.tables e below (T106.setTop (mkF m 27 #[.val (.ref a1), .val (.double d1), .second, .val (.double d2), .second, .val (.int (8 : Int32)), .unset] [(.int (3 : Int32))])) _
    refine XS.iload X106.here hx rfl (hb hby d4_27) rfl ?_
    show Steps p.tables e below (T106.setTop (mkF m 29 #[.val (.ref a1), .val (.double d1), .second, .val (.double d2), .second, .val (.int (8 : Int32)), .unset] [(.int (8 : Int32)), (.int (3 : Int32))])) _
    refine XS.aloadN X106.here hx rfl (hb hby d4_29) rfl rfl ?_
    show Steps p.tables e below (T106.setTop (mkF m 30 #[.val (.ref a1), .val (.double d1), .second, .val (.double d2), .second, .val (.int (8 : Int32)), .unset] [(.ref a1), (.int (8 : Int32)), (.int (3 : Int32))])) _
    refine st107 _ ?_
    show Steps p.tables e below (T107.setTop (mkF m 33 #[.val (.ref a1), .val (.double d1), .second, .val (.double d2), .second, .val (.int (8 : Int32)), .unset] [(.int (0 : Int32)), (.int (8 : Int32)), (.int (3 : Int32))])) _
    refine XS.isub X107.here hx rfl (hb hby d4_33) rfl ?_
    show Steps p.tables e below (T107.setTop (mkF m 34 #[.val (.ref a1), .val (.double d1), .second, .val (.double d2), .second, .val (.int (8 : Int32)), .unset] [(.int (8 : Int32)), (.int (3 : Int32))])) _
    refine XS.icmpNo X107.here hx rfl (hb hby d4_34) rfl (own_nf (ic_ge _ _) (by decide)) ?_
    show Steps p.tables e below (T107.setTop (mkF m 37 #[.val (.ref a1), .val (.double d1), .second, .val (.double d2), .second, .val (.int (8 : Int32)), .unset] [])) _
    refine XS.aloadN X107.here hx rfl (hb hby d4_37) rfl rfl ?_
    show Steps p.tables e below (T107.setTop (mkF m 38 #[.val (.ref a1), .val (.double d1), .second, .val (.double d2), .second, .val (.int (8 : Int32)), .unset] [(.ref a1)])) _
    refine st108 _ ?_
    show Steps p.tables e below (T108.setTop (mkF m 41 #[.val (.ref a1), .val (.double d1), .second, .val (.double d2), .second, .val (.int (8 : Int32)), .unset] [(.int (0 : Int32))])) _
    refine XS.aloadN X108.here hx rfl (hb hby d4_41) rfl rfl ?_
    show Steps p.tables e below (T108.setTop (mkF m 42 #[.val (.ref a1), .val (.double d1), .second, .val (.double d2), .second, .val (.int (8 : Int32)), .unset] [(.ref a1), (.int (0 : Int32))])) _
    refine st109 _ ?_
    show Steps p.tables e below (T109.setTop (mkF m 45 #[.val (.ref a1), .val (.double d1), .second, .val (.double d2), .second, .val (.int (8 : Int32)), .unset] [(.int (3 : Int32)), (.int (0 : Int32))])) _
    refine XS.iadd X109.here hx rfl (hb hby d4_45) rfl ?_
    show Steps p.tables e below (T109.setTop (mkF m 46 #[.val (.ref a1), .val (.double d1), .second, .val (.double d2), .second, .val (.int (8 : Int32)), .unset] [(.int ((0 : Int32) + (3 : Int32)))])) _
    refine XS.goto X109.here hx rfl (pc0 := 46) (pc' := 61) rfl (hb hby d4_46) (by decide) (by decide) ?_
    show Steps p.tables e below (T109.setTop (mkF m 61 #[.val (.ref a1), .val (.double d1), .second, .val (.double d2), .second, .val (.int (8 : Int32)), .unset] [(.int (3 : Int32))])) _
    refine XS.istore X109.here hx rfl (hb hby d4_61) rfl (l' := #[.val (.ref a1), .val (.double d1), .second, .val (.double d2), .second, .val (.int (8 : Int32)), .val (.int (3 : Int32))]) rfl ?_
    show Steps p.tables e below (T109.setTop (mkF m 63 #[.val (.ref a1), .val (.double d1), .second, .val (.double d2), .second, .val (.int (8 : Int32)), .val (.int (3 : Int32))] [])) _
    refine XS.aloadN X109.here hx rfl (hb hby d4_63) rfl rfl ?_
    show Steps p.tables e below (T109.setTop (mkF m 64 #[.val (.ref a1), .val (.double d1), .second, .val (.double d2), .second, .val (.int (8 : Int32)), .val (.int (3 : Int32))] [(.ref a1)])) _
    refine st110 _ ?_
    show Steps p.tables e below (T110.setTop (mkF m 67 #[.val (.ref a1), .val (.double d1), .second, .val (.double d2), .second, .val (.int (8 : Int32)), .val (.int (3 : Int32))] [(.ref b1)])) _
    refine XS.iload X110.here hx rfl (hb hby d4_67) rfl ?_
    show Steps p.tables e below (T110.setTop (mkF m 69 #[.val (.ref a1), .val (.double d1), .second, .val (.double d2), .second, .val (.int (8 : Int32)), .val (.int (3 : Int32))] [(.int (3 : Int32)), (.ref b1)])) _
    refine XS.dloadN X110.here hx rfl (hb hby d4_69) rfl ?_
    show Steps p.tables e below (T110.setTop (mkF m 70 #[.val (.ref a1), .val (.double d1), .second, .val (.double d2), .second, .val (.int (8 : Int32)), .val (.int (3 : Int32))] [(.double d1), (.int (3 : Int32)), (.ref b1)])) _
    refine st111 _ ?_
    show Steps p.tables e below (T111.setTop (mkF m 71 #[.val (.ref a1), .val (.double d1), .second, .val (.double d2), .second, .val (.int (8 : Int32)), .val (.int (3 : Int32))] [])) _
    refine XS.aloadN X111.here hx rfl (hb hby d4_71) rfl rfl ?_
    exact kt
  have f112 := (F_s.other W111 (Or.inl ne1))
  obtain ⟨T113, X113, e113, st113⟩ := getF X111 hx hZ hown (host := "") (Or.inl (hw _ (List.mem_of_getElem? (i := 12) rfl))) Via.refl e111 f112 (g := (mkF m 72 #[.val (.ref a1), .val (.double d1), .second, .val (.double d2), .second, .val (.int (8 : Int32)), .val (.int (3 : Int32))] [(.ref a1)])) rfl rfl (hb hby d4_72)
  have f115 := (V_s.other W111 (Ne.symm ne3))
  obtain ⟨cl114, Ar114, qa114, Sa114, Na114, Ha114, Ga114⟩ := id f115
  have hin114 : ¬ ((3 : Int32) < 0 ∨ cl114.slots.size ≤ ((3 : Int32)).toNatClampNeg) := inb_of Sa114 ⟨by decide, by decide⟩
  obtain ⟨T114, h114, X114, e114, W114, st114⟩ := stD X113 hx hZ e113 Ar114 (j := (3 : Int32)) hin114 (g := (mkF m 78 #[.val (.ref a1), .val (.double d1), .second, .val (.double d2), .second, .val (.int (8 : Int32)), .val (.int (3 : Int32))] [(.double d2), (.int (3 : Int32)), (.ref b2)])) rfl rfl (hb hby d4_78)
  have V_b2_114 := Arv.set Ar114 qa114 Sa114 Na114 Ha114 Ga114 rfl W114 3 rfl (Nat.le_of_ble_eq_true rfl)
  have V114 : Arv Z h114 b2 k2 .double (8 : Int32) [(.double y0), (.double y1), (.double y2), (.double d2), (.double y4), (.double y5), (.double y6), (.double y7)] (.double (0 : UInt64)) := V_b2_114
  have K114 : Keep h0 h114 [a1, b1, b2] := K111.wr W114 (Or.inl (List.mem_of_getElem? (i := 2) rfl))
  have N114 := Fr.snoc X114 N111 g_b2
  have f116 := ((F_c.other W111 (Or.inl ne1)).other W114 (Or.inl ne2))
  obtain ⟨T117, X117, e117, st117⟩ := getF X114 hx hZ hown (host := "") (Or.inl (hw _ (List.mem_of_getElem? (i := 23) rfl))) Via.refl e114 f116 (g := (mkF m 81 #[.val (.ref a1), .val (.double d1), .second, .val (.double d2), .second, .val (.int (8 : Int32)), .val (.int (3 : Int32))] [(.ref a1), (.ref a1)])) rfl rfl (hb hby d4_81)
  have f118 := ((E_a.wr W111).wr W114)
  obtain ⟨T119, h119, X119, e119, W119, st119⟩ := putF X117 hx hZ hown (host := "") (Or.inl (hw _ (List.mem_of_getElem? (i := 23) rfl))) Via.refl e117 f116 f118 (Or.inl (hw _ (List.mem_of_getElem? (i := 24) rfl))) (hw _ (List.mem_of_getElem? (i := 1) rfl)) (ty := .int) (by decide) rfl rfl (g := (mkF m 86 #[.val (.ref a1), .val (.double d1), .second, .val (.double d2), .second, .val (.int (8 : Int32)), .val (.int (3 : Int32))] [(.int (4 : Int32)), (.ref a1)])) rfl rfl (hb hby d4_86)
  have Fw119 := f116.same W119
  have K119 : Keep h0 h119 [a1, b1, b2] := K114.wr W119 (Or.inl (List.mem_of_getElem? (i := 0) rfl))
  have N119 := Fr.snoc X119 N114 g_a1
  have f120 := (f118.wr W119)
  have f121 := (((F_a.other W111 (Or.inl ne1)).other W114 (Or.inl ne2)).other W119 (Or.inr (slot_ne (Or.inl (hw _ (List.mem_of_getElem? (i := 11) rfl))) (Or.inl (hw _ (List.mem_of_getElem? (i := 24) rfl))) (by decide) (t := (.array .double)) (t' := .int) (by decide) (by decide))))
  have f122 := ((f112.other W114 (Or.inl ne2)).other W119 (Or.inr (slot_ne (Or.inl (hw _ (List.mem_of_getElem? (i := 13) rfl))) (Or.inl (hw _ (List.mem_of_getElem? (i := 24) rfl))) (by decide) (t := (.array .double)) (t' := .int) (by decide) (by decide))))
  have f123 := (((F_h.other W111 (Or.inl ne1)).other W114 (Or.inl ne2)).other W119 (Or.inr (slot_ne (Or.inl (hw _ (List.mem_of_getElem? (i := 26) rfl))) (Or.inl (hw _ (List.mem_of_getElem? (i := 24) rfl))) (by decide) (t := .int) (t' := .int) (by decide) (by decide))))
  have f124 := ((V111.other W114 ne3).other W119 (Ne.symm ne1))
  have f125 := (V114.other W119 (Ne.symm ne2))
  refine Gl.fin X119 (v := none) (fun _ => rfl) Bd.notSynchronized ?_ e119 (by decide) (by decide) (fun fs hr => ?_)
  · exact ⟨rfl, N119, K119, f120, f121, f122, Fw119, f123, f124, f125⟩
  · show Steps p.tables e below (T111.setTop (mkF m 72 #[.val (.ref a1), .val (.double d1), .second, .val (.double d2), .second, .val (.int (8 : Int32)), .val (.int (3 : Int32))] [(.ref a1)])) _
    refine st113 _ ?_
    show Steps p.tables e below (T113.setTop (mkF m 75 #[.val (.ref a1), .val (.double d1), .second, .val (.double d2), .second, .val (.int (8 : Int32)), .val (.int (3 : Int32))] [(.ref b2)])) _
    refine XS.iload X113.here hx rfl (hb hby d4_75) rfl ?_
    show Steps p.tables e below (T113.setTop (mkF m 77 #[.val (.ref a1), .val (.double d1), .second, .val (.double d2), .second, .val (.int (8 : Int32)), .val (.int (3 : Int32))] [(.int (3 : Int32)), (.ref b2)])) _
    refine XS.dloadN X113.here hx rfl (hb hby d4_77) rfl ?_
    show Steps p.tables e below (T113.setTop (mkF m 78 #[.val (.ref a1), .val (.double d1), .second, .val (.double d2), .second, .val (.int (8 : Int32)), .val (.int (3 : Int32))] [(.double d2), (.int (3 : Int32)), (.ref b2)])) _
    refine st114 _ ?_
    show Steps p.tables e below (T114.setTop (mkF m 79 #[.val (.ref a1), .val (.double d1), .second, .val (.double d2), .second, .val (.int (8 : Int32)), .val (.int (3 : Int32))] [])) _
    refine XS.aloadN X114.here hx rfl (hb hby d4_79) rfl rfl ?_
    show Steps p.tables e below (T114.setTop (mkF m 80 #[.val (.ref a1), .val (.double d1), .second, .val (.double d2), .second, .val (.int (8 : Int32)), .val (.int (3 : Int32))] [(.ref a1)])) _
    refine XS.dup X114.here hx rfl (hb hby d4_80) rfl rfl ?_
    show Steps p.tables e below (T114.setTop (mkF m 81 #[.val (.ref a1), .val (.double d1), .second, .val (.double d2), .second, .val (.int (8 : Int32)), .val (.int (3 : Int32))] [(.ref a1), (.ref a1)])) _
    refine st117 _ ?_
    show Steps p.tables e below (T117.setTop (mkF m 84 #[.val (.ref a1), .val (.double d1), .second, .val (.double d2), .second, .val (.int (8 : Int32)), .val (.int (3 : Int32))] [(.int (3 : Int32)), (.ref a1)])) _
    refine XS.iconst X117.here hx rfl (hb hby d4_84) ?_
    show Steps p.tables e below (T117.setTop (mkF m 85 #[.val (.ref a1), .val (.double d1), .second, .val (.double d2), .second, .val (.int (8 : Int32)), .val (.int (3 : Int32))] [(.int (1 : Int32)), (.int (3 : Int32)), (.ref a1)])) _
    refine XS.iadd X117.here hx rfl (hb hby d4_85) rfl ?_
    show Steps p.tables e below (T117.setTop (mkF m 86 #[.val (.ref a1), .val (.double d1), .second, .val (.double d2), .second, .val (.int (8 : Int32)), .val (.int (3 : Int32))] [(.int (4 : Int32)), (.ref a1)])) _
    refine st119 _ ?_
    show Steps p.tables e below (T119.setTop (mkF m 89 #[.val (.ref a1), .val (.double d1), .second, .val (.double d2), .second, .val (.int (8 : Int32)), .val (.int (3 : Int32))] [])) _
    exact X119.returnOut hx Bd.returns (hb hby d4_89) hr
theorem ef_rm3_0_3 (m : MethodId) (x0 : Addr) (x1 : Int32) (x2 : Int32) (x3 : Int32) : entryFrame m #[(.ref x0), (.int x1), (.int x2), (.int x3)] 4 = mkF m 0 #[.val (.ref x0), .val (.int x1), .val (.int x2), .val (.int x3)] [] := by first | (simp [entryFrame, mkF, argsToLocals, Value.category]; done) | rfl
def Q3_0_3 (Z : State) (a1 : Addr) (p1 : Int32) (p2 : Int32) (p3 : Int32) (b1 : Addr) (b2 : Addr) (k1 : ClassId) (k2 : ClassId) (x0 : UInt64) (x1 : UInt64) (x2 : UInt64) (x3 : UInt64) (x4 : UInt64) (x5 : UInt64) (x6 : UInt64) (x7 : UInt64) (y0 : UInt64) (y1 : UInt64) (y2 : UInt64) (y3 : UInt64) (y4 : UInt64) (y5 : UInt64) (y6 : UInt64) (y7 : UInt64) (h0 : Heap) (n0 : Nat) (v : Option Value) (h : Heap) (L : List Loc) : Prop := v = none ∧ Fr n0 L ∧ Keep h0 h [a1, b1, b2] ∧ Exa Z h a1 "com/example/tenrec/tenrec/pool/RequestQueue" ∧ Fld Z h a1 "com/example/tenrec/tenrec/pool/RequestQueue" "arrivals" "[D" (.ref b1) ∧ Fld Z h a1 "com/example/tenrec/tenrec/pool/RequestQueue" "sizes" "[D" (.ref b2) ∧ Fld Z h a1 "com/example/tenrec/tenrec/pool/RequestQueue" "count" "I" (.int (4 : Int32)) ∧ Fld Z h a1 "com/example/tenrec/tenrec/pool/RequestQueue" "head" "I" (.int (0 : Int32)) ∧ Arv Z h b1 k1 .double (8 : Int32) [(.double x0), (.double x1), (.double x2), (.double (FP.i2d (p1 + p3))), (.double x4), (.double x5), (.double x6), (.double x7)] (.double (0 : UInt64)) ∧ Arv Z h b2 k2 .double (8 : Int32) [(.double y0), (.double y1), (.double y2), (.double (FP.i2d (p2 - p3))), (.double y4), (.double y5), (.double y6), (.double y7)] (.double (0 : UInt64))
set_option maxRecDepth 65536 in
set_option maxHeartbeats 40000000 in
theorem rm3_0_3 (l : Launch) (Z : State) (a0 : Array Value) (hw : ∀ d ∈ tables_1, d.before a0 Z = true) (ws : List Jvm.Cond) (a1 : Addr) (p1 : Int32) (p2 : Int32) (p3 : Int32) (b1 : Addr) (b2 : Addr) (k1 : ClassId) (k2 : ClassId) (x0 : UInt64) (x1 : UInt64) (x2 : UInt64) (x3 : UInt64) (x4 : UInt64) (x5 : UInt64) (x6 : UInt64) (x7 : UInt64) (y0 : UInt64) (y1 : UInt64) (y2 : UInt64) (y3 : UInt64) (y4 : UInt64) (y5 : UInt64) (y6 : UInt64) (y7 : UInt64) (h0 : Heap) (n0 : Nat) (Z0 : n0 ≤ h0.size) (g_a1 : n0 ≤ a1) (g_b1 : n0 ≤ b1) (g_b2 : n0 ≤ b2) (ne1 : a1 ≠ b1) (ne2 : a1 ≠ b2) (ne3 : b1 ≠ b2) (E_a : Exa Z h0 a1 "com/example/tenrec/tenrec/pool/RequestQueue") (F_a : Fld Z h0 a1 "com/example/tenrec/tenrec/pool/RequestQueue" "arrivals" "[D" (.ref b1)) (F_s : Fld Z h0 a1 "com/example/tenrec/tenrec/pool/RequestQueue" "sizes" "[D" (.ref b2)) (F_c : Fld Z h0 a1 "com/example/tenrec/tenrec/pool/RequestQueue" "count" "I" (.int (3 : Int32))) (F_h : Fld Z h0 a1 "com/example/tenrec/tenrec/pool/RequestQueue" "head" "I" (.int (0 : Int32))) (V_a : Arv Z h0 b1 k1 .double (8 : Int32) [(.double x0), (.double x1), (.double x2), (.double x3), (.double x4), (.double x5), (.double x6), (.double x7)] (.double (0 : UInt64))) (V_s : Arv Z h0 b2 k2 .double (8 : Int32) [(.double y0), (.double y1), (.double y2), (.double y3), (.double y4), (.double y5), (.double y6), (.double y7)] (.double (0 : UInt64))) :
    OMet l Z (⟨"com/example/tenrec/tenrec/pool/RequestQueueRemoveFirstPinLaw", "put", "(Lcom/example/tenrec/tenrec/pool/RequestQueue;III)V"⟩ : MethodName) method_2_code 4 none ws ({ frames := 1, cells := 0, slots := 0, locals := 18 } : Room) #[(.ref a1), (.int p1), (.int p2), (.int p3)] h0 (Q3_0_3 Z a1 p1 p2 p3 b1 b2 k1 k2 x0 x1 x2 x3 x4 x5 x6 x7 y0 y1 y2 y3 y4 y5 y6 y7 h0 n0) := by
  refine own_body (plainFor_of_name pn_com_example_tenrec_tenrec_pool_RequestQueueRemoveFirstPinLaw) ?_
  intro p e s m below meth c s₁ Bd hml0 hZ e0
  have hx := Bd.exec
  have hby := Bd.bytes
  have hml : c.maxLocals = 4 := hml0
  have hown : s.vm.findClass "com/example/tenrec/tenrec/pool/RequestQueueRemoveFirstPinLaw" = some m.cls := findClass_of_methodNamed Bd.named
  have hnm := (name_of_methodNamed Bd.named Bd.method).1
  have X0 : Stand p l e ({ frames := 1, cells := 0, slots := 0, locals := 18 } : Room) s m #[(.ref a1), (.int p1), (.int p2), (.int p3)] below meth c s₁ [] 0 0 := Stand.of_body Bd
  have N0 := Fr.nil n0
  have K0 : Keep h0 h0 [a1, b1, b2] := Keep.refl _ _
  rw [ef_rm3_0_3]
  obtain ⟨v101, T101, L101, X101, q101, st101⟩ := own_callV X0 hx hZ (y := (⟨"com/example/tenrec/tenrec/pool/RequestQueue", "add", "(DD)V"⟩ : MethodName)) (z := (⟨"com/example/tenrec/tenrec/pool/RequestQueue", "add", "(DD)V"⟩ : MethodName)) hown (hw _ (List.mem_of_getElem? (i := 18) rfl)) (hw _ (List.mem_of_getElem? (i := 19) rfl)) (notFace_of_selects (args := #[]) (mvT hZ (hw _ (List.mem_of_getElem? (i := 21) rfl)))) (hw _ (List.mem_of_getElem? (i := 21) rfl)) (hw _ (List.mem_of_getElem? (i := 20) rfl)) (hw _ (List.mem_of_getElem? (i := 2) rfl)) (hw _ (List.mem_of_getElem? (i := 22) rfl)) (by decide) E_a (hM := (rm4_0_3 l Z a0 hw [] a1 (FP.i2d (p1 + p3)) (FP.i2d (p2 - p3)) b1 b2 k1 k2 x0 x1 x2 x3 x4 x5 x6 x7 y0 y1 y2 y3 y4 y5 y6 y7 h0 n0 Z0 g_a1 g_b1 g_b2 ne1 ne2 ne3 E_a F_a F_s F_c F_h V_a V_s)) (by decide) (by decide) (by decide) (by decide) e0 (argsL := [(.double (FP.i2d (p1 + p3))), (.double (FP.i2d (p2 - p3)))]) (rest := []) (Ls := #[.val (.ref a1), .val (.int p1), .val (.int p2), .val (.int p3)]) (by rw [hml]; rfl) (lenOf pd__DD_V rfl) (W := 0) (Nat.le_of_eq rfl) (hb hby d3_9)
  obtain ⟨rfl, N101q, K101q, E101q, FA101q, FS101q, FC101q, FH101q, VA101q, VS101q⟩ := q101
  have N101 := Fr.app N0 N101q
  have K101 : Keep h0 T101.heap [a1, b1, b2] := K0.trans K101q (allS (Or.inl (List.mem_of_getElem? (i := 0) rfl)) (allS (Or.inl (List.mem_of_getElem? (i := 1) rfl)) (allS (Or.inl (List.mem_of_getElem? (i := 2) rfl)) all0)))
  refine Gl.fin X101 (v := none) (fun _ => rfl) Bd.notSynchronized ?_ rfl (by decide) (by decide) (fun fs hr => ?_)
  · exact ⟨rfl, N101, K101, E101q, FA101q, FS101q, FC101q, FH101q, VA101q, VS101q⟩
  · show Steps p.tables e below (s₁.setTop (mkF m 0 #[.val (.ref a1), .val (.int p1), .val (.int p2), .val (.int p3)] [])) _
    refine XS.aloadN X0.here hx rfl (hb hby d3_0) rfl rfl ?_
    show Steps p.tables e below (s₁.setTop (mkF m 1 #[.val (.ref a1), .val (.int p1), .val (.int p2), .val (.int p3)] [(.ref a1)])) _
    refine XS.iloadN X0.here hx rfl (hb hby d3_1) rfl ?_
    show Steps p.tables e below (s₁.setTop (mkF m 2 #[.val (.ref a1), .val (.int p1), .val (.int p2), .val (.int p3)] [(.int p1), (.ref a1)])) _
    refine XS.iloadN X0.here hx rfl (hb hby d3_2) rfl ?_
    show Steps p.tables e below (s₁.setTop (mkF m 3 #[.val (.ref a1), .val (.int p1), .val (.int p2), .val (.int p3)] [(.int p3), (.int p1), (.ref a1)])) _
    refine XS.iadd X0.here hx rfl (hb hby d3_3) rfl ?_
    show Steps p.tables e below (s₁.setTop (mkF m 4 #[.val (.ref a1), .val (.int p1), .val (.int p2), .val (.int p3)] [(.int (p1 + p3)), (.ref a1)])) _
    refine XS.i2dS X0.here hx rfl (hb hby d3_4) rfl rfl ?_
    show Steps p.tables e below (s₁.setTop (mkF m 5 #[.val (.ref a1), .val (.int p1), .val (.int p2), .val (.int p3)] [(.double (FP.i2d (p1 + p3))), (.ref a1)])) _
    refine XS.iloadN X0.here hx rfl (hb hby d3_5) rfl ?_
    show Steps p.tables e below (s₁.setTop (mkF m 6 #[.val (.ref a1), .val (.int p1), .val (.int p2), .val (.int p3)] [(.int p2), (.double (FP.i2d (p1 + p3))), (.ref a1)])) _
    refine XS.iloadN X0.here hx rfl (hb hby d3_6) rfl ?_
    show Steps p.tables e below (s₁.setTop (mkF m 7 #[.val (.ref a1), .val (.int p1), .val (.int p2), .val (.int p3)] [(.int p3), (.int p2), (.double (FP.i2d (p1 + p3))), (.ref a1)])) _
    refine XS.isub X0.here hx rfl (hb hby d3_7) rfl ?_
    show Steps p.tables e below (s₁.setTop (mkF m 8 #[.val (.ref a1), .val (.int p1), .val (.int p2), .val (.int p3)] [(.int (p2 - p3)), (.double (FP.i2d (p1 + p3))), (.ref a1)])) _
    refine XS.i2dS X0.here hx rfl (hb hby d3_8) rfl rfl ?_
    show Steps p.tables e below (s₁.setTop (mkF m 9 #[.val (.ref a1), .val (.int p1), .val (.int p2), .val (.int p3)] [(.double (FP.i2d (p2 - p3))), (.double (FP.i2d (p1 + p3))), (.ref a1)])) _
    refine st101 _ ?_
    show Steps p.tables e below (T101.setTop (mkF m 12 #[.val (.ref a1), .val (.int p1), .val (.int p2), .val (.int p3)] [])) _
    exact X101.returnOut hx Bd.returns (hb hby d3_12) hr
theorem ef_rm4_0_4 (m : MethodId) (x0 : Addr) (x1 : UInt64) (x2 : UInt64) : entryFrame m #[(.ref x0), (.double x1), (.double x2)] 7 = mkF m 0 #[.val (.ref x0), .val (.double x1), .second, .val (.double x2), .second, .unset, .unset] [] := by first | (simp [entryFrame, mkF, argsToLocals, Value.category]; done) | rfl
def Q4_0_4 (Z : State) (a1 : Addr) (d1 : UInt64) (d2 : UInt64) (b1 : Addr) (b2 : Addr) (k1 : ClassId) (k2 : ClassId) (x0 : UInt64) (x1 : UInt64) (x2 : UInt64) (x3 : UInt64) (x4 : UInt64) (x5 : UInt64) (x6 : UInt64) (x7 : UInt64) (y0 : UInt64) (y1 : UInt64) (y2 : UInt64) (y3 : UInt64) (y4 : UInt64) (y5 : UInt64) (y6 : UInt64) (y7 : UInt64) (h0 : Heap) (n0 : Nat) (v : Option Value) (h : Heap) (L : List Loc) : Prop := v = none ∧ Fr n0 L ∧ Keep h0 h [a1, b1, b2] ∧ Exa Z h a1 "com/example/tenrec/tenrec/pool/RequestQueue" ∧ Fld Z h a1 "com/example/tenrec/tenrec/pool/RequestQueue" "arrivals" "[D" (.ref b1) ∧ Fld Z h a1 "com/example/tenrec/tenrec/pool/RequestQueue" "sizes" "[D" (.ref b2) ∧ Fld Z h a1 "com/example/tenrec/tenrec/pool/RequestQueue" "count" "I" (.int (5 : Int32)) ∧ Fld Z h a1 "com/example/tenrec/tenrec/pool/RequestQueue" "head" "I" (.int (0 : Int32)) ∧ Arv Z h b1 k1 .double (8 : Int32) [(.double x0), (.double x1), (.double x2), (.double x3), (.double d1), (.double x5), (.double x6), (.double x7)] (.double (0 : UInt64)) ∧ Arv Z h b2 k2 .double (8 : Int32) [(.double y0), (.double y1), (.double y2), (.double y3), (.double d2), (.double y5), (.double y6), (.double y7)] (.double (0 : UInt64))
set_option maxRecDepth 65536 in
set_option maxHeartbeats 40000000 in
theorem rm4_0_4 (l : Launch) (Z : State) (a0 : Array Value) (hw : ∀ d ∈ tables_1, d.before a0 Z = true) (ws : List Jvm.Cond) (a1 : Addr) (d1 : UInt64) (d2 : UInt64) (b1 : Addr) (b2 : Addr) (k1 : ClassId) (k2 : ClassId) (x0 : UInt64) (x1 : UInt64) (x2 : UInt64) (x3 : UInt64) (x4 : UInt64) (x5 : UInt64) (x6 : UInt64) (x7 : UInt64) (y0 : UInt64) (y1 : UInt64) (y2 : UInt64) (y3 : UInt64) (y4 : UInt64) (y5 : UInt64) (y6 : UInt64) (y7 : UInt64) (h0 : Heap) (n0 : Nat) (Z0 : n0 ≤ h0.size) (g_a1 : n0 ≤ a1) (g_b1 : n0 ≤ b1) (g_b2 : n0 ≤ b2) (ne1 : a1 ≠ b1) (ne2 : a1 ≠ b2) (ne3 : b1 ≠ b2) (E_a : Exa Z h0 a1 "com/example/tenrec/tenrec/pool/RequestQueue") (F_a : Fld Z h0 a1 "com/example/tenrec/tenrec/pool/RequestQueue" "arrivals" "[D" (.ref b1)) (F_s : Fld Z h0 a1 "com/example/tenrec/tenrec/pool/RequestQueue" "sizes" "[D" (.ref b2)) (F_c : Fld Z h0 a1 "com/example/tenrec/tenrec/pool/RequestQueue" "count" "I" (.int (4 : Int32))) (F_h : Fld Z h0 a1 "com/example/tenrec/tenrec/pool/RequestQueue" "head" "I" (.int (0 : Int32))) (V_a : Arv Z h0 b1 k1 .double (8 : Int32) [(.double x0), (.double x1), (.double x2), (.double x3), (.double x4), (.double x5), (.double x6), (.double x7)] (.double (0 : UInt64))) (V_s : Arv Z h0 b2 k2 .double (8 : Int32) [(.double y0), (.double y1), (.double y2), (.double y3), (.double y4), (.double y5), (.double y6), (.double y7)] (.double (0 : UInt64))) :
    OMet l Z (⟨"com/example/tenrec/tenrec/pool/RequestQueue", "add", "(DD)V"⟩ : MethodName) prog_34_method_2_code 7 none ws ({ frames := 0, cells := 0, slots := 0, locals := 0 } : Room) #[(.ref a1), (.double d1), (.double d2)] h0 (Q4_0_4 Z a1 d1 d2 b1 b2 k1 k2 x0 x1 x2 x3 x4 x5 x6 x7 y0 y1 y2 y3 y4 y5 y6 y7 h0 n0) := by
  refine own_body (plainFor_of_name pn_com_example_tenrec_tenrec_pool_RequestQueue) ?_
  intro p e s m below meth c s₁ Bd hml0 hZ e0
  have hx := Bd.exec
  have hby := Bd.bytes
  have hml : c.maxLocals = 7 := hml0
  have hown : s.vm.findClass "com/example/tenrec/tenrec/pool/RequestQueue" = some m.cls := findClass_of_methodNamed Bd.named
  have hnm := (name_of_methodNamed Bd.named Bd.method).1
  have X0 : Stand p l e ({ frames := 0, cells := 0, slots := 0, locals := 0 } : Room) s m #[(.ref a1), (.double d1), (.double d2)] below meth c s₁ [] 0 0 := Stand.of_body Bd
  have N0 := Fr.nil n0
  have K0 : Keep h0 h0 [a1, b1, b2] := Keep.refl _ _
  rw [ef_rm4_0_4]
  obtain ⟨T101, X101, e101, st101⟩ := getF X0 hx hZ hown (host := "") (Or.inl (hw _ (List.mem_of_getElem? (i := 23) rfl))) Via.refl e0 F_c (g := (mkF m 1 #[.val (.ref a1), .val (.double d1), .second, .val (.double d2), .second, .unset, .unset] [(.ref a1)])) rfl rfl (hb hby d4_1)
  obtain ⟨T102, X102, e102, st102⟩ := getF X101 hx hZ hown (host := "") (Or.inl (hw _ (List.mem_of_getElem? (i := 10) rfl))) Via.refl e101 F_a (g := (mkF m 5 #[.val (.ref a1), .val (.double d1), .second, .val (.double d2), .second, .unset, .unset] [(.ref a1), (.int (4 : Int32))])) rfl rfl (hb hby d4_5)
  obtain ⟨cl103, Ar103, qa103, Sa103, Na103, Ha103, Ga103⟩ := id V_a
  obtain ⟨T104, X104, e104, st104⟩ := getF X102 hx hZ hown (host := "") (Or.inl (hw _ (List.mem_of_getElem? (i := 10) rfl))) Via.refl e102 F_a (g := (mkF m 17 #[.val (.ref a1), .val (.double d1), .second, .val (.double d2), .second, .unset, .unset] [(.ref a1)])) rfl rfl (hb hby d4_17)
  obtain ⟨cl105, Ar105, qa105, Sa105, Na105, Ha105, Ga105⟩ := id V_a
  obtain ⟨T106, X106, e106, st106⟩ := getF X104 hx hZ hown (host := "") (Or.inl (hw _ (List.mem_of_getElem? (i := 23) rfl))) Via.refl e104 F_c (g := (mkF m 24 #[.val (.ref a1), .val (.double d1), .second, .val (.double d2), .second, .val (.int (8 : Int32)), .unset] [(.ref a1)])) rfl rfl (hb hby d4_24)
  obtain ⟨T107, X107, e107, st107⟩ := getF X106 hx hZ hown (host := "") (Or.inl (hw _ (List.mem_of_getElem? (i := 25) rfl))) Via.refl e106 F_h (g := (mkF m 30 #[.val (.ref a1), .val (.double d1), .second, .val (.double d2), .second, .val (.int (8 : Int32)), .unset] [(.ref a1), (.int (8 : Int32)), (.int (4 : Int32))])) rfl rfl (hb hby d4_30)
  obtain ⟨T108, X108, e108, st108⟩ := getF X107 hx hZ hown (host := "") (Or.inl (hw _ (List.mem_of_getElem? (i := 25) rfl))) Via.refl e107 F_h (g := (mkF m 38 #[.val (.ref a1), .val (.double d1), .second, .val (.double d2), .second, .val (.int (8 : Int32)), .unset] [(.ref a1)])) rfl rfl (hb hby d4_38)
  obtain ⟨T109, X109, e109, st109⟩ := getF X108 hx hZ hown (host := "") (Or.inl (hw _ (List.mem_of_getElem? (i := 23) rfl))) Via.refl e108 F_c (g := (mkF m 42 #[.val (.ref a1), .val (.double d1), .second, .val (.double d2), .second, .val (.int (8 : Int32)), .unset] [(.ref a1), (.int (0 : Int32))])) rfl rfl (hb hby d4_42)
  obtain ⟨T110, X110, e110, st110⟩ := getF X109 hx hZ hown (host := "") (Or.inl (hw _ (List.mem_of_getElem? (i := 10) rfl))) Via.refl e109 F_a (g := (mkF m 64 #[.val (.ref a1), .val (.double d1), .second, .val (.double d2), .second, .val (.int (8 : Int32)), .val (.int (4 : Int32))] [(.ref a1)])) rfl rfl (hb hby d4_64)
  obtain ⟨cl111, Ar111, qa111, Sa111, Na111, Ha111, Ga111⟩ := id V_a
  have hin111 : ¬ ((4 : Int32) < 0 ∨ cl111.slots.size ≤ ((4 : Int32)).toNatClampNeg) := inb_of Sa111 ⟨by decide, by decide⟩
  obtain ⟨T111, h111, X111, e111, W111, st111⟩ := stD X110 hx hZ e110 Ar111 (j := (4 : Int32)) hin111 (g := (mkF m 70 #[.val (.ref a1), .val (.double d1), .second, .val (.double d2), .second, .val (.int (8 : Int32)), .val (.int (4 : Int32))] [(.double d1), (.int (4 : Int32)), (.ref b1)])) rfl rfl (hb hby d4_70)
  have V_b1_111 := Arv.set Ar111 qa111 Sa111 Na111 Ha111 Ga111 rfl W111 4 rfl (Nat.le_of_ble_eq_true rfl)
  have V111 : Arv Z h111 b1 k1 .double (8 : Int32) [(.double x0), (.double x1), (.double x2), (.double x3), (.double d1), (.double x5), (.double x6), (.double x7)] (.double (0 : UInt64)) := V_b1_111
  have K111 : Keep h0 h111 [a1, b1, b2] := K0.wr W111 (Or.inl (List.mem_of_getElem? (i := 1) rfl))
  have N111 := Fr.snoc X111 N0 g_b1
  refine Gl.pre (S' := T111.setTop (mkF m 72 #[.val (.ref a1), .val (.double d1), .second, .val (.double d2), .second, .val (.int (8 : Int32)), .val (.int (4 : Int32))] [(.ref a1)])) (fun t kt => ?_) ?_
  · show Steps p.tables e below (s₁.setTop (mkF m 0 #[.val (.ref a1), .val (.double d1), .second, .val (.double d2), .second, .unset, .unset] [])) _
    refine XS.aloadN X0.here hx rfl (hb hby d4_0) rfl rfl ?_
    show Steps p.tables e below (s₁.setTop (mkF m 1 #[.val (.ref a1), .val (.double d1), .second, .val (.double d2), .second, .unset, .unset] [(.ref a1)])) _
    refine st101 _ ?_
    show Steps p.tables e below (T101.setTop (mkF m 4 #[.val (.ref a1), .val (.double d1), .second, .val (.double d2), .second, .unset, .unset] [(.int (4 : Int32))])) _
    refine XS.aloadN X101.here hx rfl (hb hby d4_4) rfl rfl ?_
    show Steps p.tables e below (T101.setTop (mkF m 5 #[.val (.ref a1), .val (.double d1), .second, .val (.double d2), .second, .unset, .unset] [(.ref a1), (.int (4 : Int32))])) _
    refine st102 _ ?_
    show Steps p.tables e below (T102.setTop (mkF m 8 #[.val (.ref a1), .val (.double d1), .second, .val (.double d2), .second, .unset, .unset] [(.ref b1), (.int (4 : Int32))])) _
    refine X102.arraylength hx (own_hc e102 Ar103.1) (State.isArrayOf_alike hZ.alike Ar103.2.1) (g := (mkF m 8 #[.val (.ref a1), .val (.double d1), .second, .val (.double d2), .second, .unset, .unset] [(.ref b1), (.int (4 : Int32))])) rfl rfl (hb hby d4_8) _ ?_
    rw [len_of Sa103 Na103]
    show Steps p.tables e below (T102.setTop (mkF m 9 #[.val (.ref a1), .val (.double d1), .second, .val (.double d2), .second, .unset, .unset] [(.int (8 : Int32)), (.int (4 : Int32))])) _
    refine XS.icmpYes X102.here hx rfl (pc0 := 9) (pc' := 16) rfl (hb hby d4_9) rfl (own_nt (ic_ne _ _) (by decide)) (by decide) (by decide) ?_
    show Steps p.tables e below (T102.setTop (mkF m 16 #[.val (.ref a1), .val (.double d1), .second, .val (.double d2), .second, .unset, .unset] [])) _
    refine XS.aloadN X102.here hx rfl (hb hby d4_16) rfl rfl ?_
    show Steps p.tables e below (T102.setTop (mkF m 17 #[.val (.ref a1), .val (.double d1), .second, .val (.double d2), .second, .unset, .unset] [(.ref a1)])) _
    refine st104 _ ?_
    show Steps p.tables e below (T104.setTop (mkF m 20 #[.val (.ref a1), .val (.double d1), .second, .val (.double d2), .second, .unset, .unset] [(.ref b1)])) _
    refine X104.arraylength hx (own_hc e104 Ar105.1) (State.isArrayOf_alike hZ.alike Ar105.2.1) (g := (mkF m 20 #[.val (.ref a1), .val (.double d1), .second, .val (.double d2), .second, .unset, .unset] [(.ref b1)])) rfl rfl (hb hby d4_20) _ ?_
    rw [len_of Sa105 Na105]
    show Steps p.tables e below (T104.setTop (mkF m 21 #[.val (.ref a1), .val (.double d1), .second, .val (.double d2), .second, .unset, .unset] [(.int (8 : Int32))])) _
    refine XS.istore X104.here hx rfl (hb hby d4_21) rfl (l' := #[.val (.ref a1), .val (.double d1), .second, .val (.double d2), .second, .val (.int (8 : Int32)), .unset]) rfl ?_
    show Steps p.tables e below (T104.setTop (mkF m 23 #[.val (.ref a1), .val (.double d1), .second, .val (.double d2), .second, .val (.int (8 : Int32)), .unset] [])) _
    refine XS.aloadN X104.here hx rfl (hb hby d4_23) rfl rfl ?_
    show Steps p.tables e below (T104.setTop (mkF m 24 #[.val (.ref a1), .val (.double d1), .second, .val (.double d2), .second, .val (.int (8 : Int32)), .unset] [(.ref a1)])) _
    refine st106 _ ?_
    show Steps p.tables e below (T106.setTop (mkF m 27 #[.val (.ref a1), .val (.double d1), .second, .val (.double d2), .second, .val (.int (8 : Int32)), .unset] [(.int (4 : Int32))])) _
    refine XS.iload X106.here hx rfl (hb hby d4_27) rfl ?_
    show Steps p.tables e below (T106.setTop (mkF m 29 #[.val (.ref a1), .val (.double d1), .second, .val (.double d2), .second, .val (.int (8 : Int32)), .unset] [(.int (8 : Int32)), (.int (4 : Int32))])) _
    refine XS.aloadN X106.here hx rfl (hb hby d4_29) rfl rfl ?_
    show Steps p.tables e below (T106.setTop (mkF m 30 #[.val (.ref a1), .val (.double d1), .second, .val (.double d2), .second, .val (.int (8 : Int32)), .unset] [(.ref a1), (.int (8 : Int32)), (.int (4 : Int32))])) _
    refine st107 _ ?_
    show Steps p.tables e below (T107.setTop (mkF m 33 #[.val (.ref a1), .val (.double d1), .second, .val (.double d2), .second, .val (.int (8 : Int32)), .unset] [(.int (0 : Int32)), (.int (8 : Int32)), (.int (4 : Int32))])) _
    refine XS.isub X107.here hx rfl (hb hby d4_33) rfl ?_
    show Steps p.tables e below (T107.setTop (mkF m 34 #[.val (.ref a1), .val (.double d1), .second, .val (.double d2), .second, .val (.int (8 : Int32)), .unset] [(.int (8 : Int32)), (.int (4 : Int32))])) _
    refine XS.icmpNo X107.here hx rfl (hb hby d4_34) rfl (own_nf (ic_ge _ _) (by decide)) ?_
    show Steps p.tables e below (T107.setTop (mkF m 37 #[.val (.ref a1), .val (.double d1), .second, .val (.double d2), .second, .val (.int (8 : Int32)), .unset] [])) _
    refine XS.aloadN X107.here hx rfl (hb hby d4_37) rfl rfl ?_
    show Steps p.tables e below (T107.setTop (mkF m 38 #[.val (.ref a1), .val (.double d1), .second, .val (.double d2), .second, .val (.int (8 : Int32)), .unset] [(.ref a1)])) _
    refine st108 _ ?_
    show Steps p.tables e below (T108.setTop (mkF m 41 #[.val (.ref a1), .val (.double d1), .second, .val (.double d2), .second, .val (.int (8 : Int32)), .unset] [(.int (0 : Int32))])) _
    refine XS.aloadN X108.here hx rfl (hb hby d4_41) rfl rfl ?_
    show Steps p.tables e below (T108.setTop (mkF m 42 #[.val (.ref a1), .val (.double d1), .second, .val (.double d2), .second, .val (.int (8 : Int32)), .unset] [(.ref a1), (.int (0 : Int32))])) _
    refine st109 _ ?_
    show Steps p.tables e below (T109.setTop (mkF m 45 #[.val (.ref a1), .val (.double d1), .second, .val (.double d2), .second, .val (.int (8 : Int32)), .unset] [(.int (4 : Int32)), (.int (0 : Int32))])) _
    refine XS.iadd X109.here hx rfl (hb hby d4_45) rfl ?_
    show Steps p.tables e below (T109.setTop (mkF m 46 #[.val (.ref a1), .val (.double d1), .second, .val (.double d2), .second, .val (.int (8 : Int32)), .unset] [(.int ((0 : Int32) + (4 : Int32)))])) _
    refine XS.goto X109.here hx rfl (pc0 := 46) (pc' := 61) rfl (hb hby d4_46) (by decide) (by decide) ?_
    show Steps p.tables e below (T109.setTop (mkF m 61 #[.val (.ref a1), .val (.double d1), .second, .val (.double d2), .second, .val (.int (8 : Int32)), .unset] [(.int (4 : Int32))])) _
    refine XS.istore X109.here hx rfl (hb hby d4_61) rfl (l' := #[.val (.ref a1), .val (.double d1), .second, .val (.double d2), .second, .val (.int (8 : Int32)), .val (.int (4 : Int32))]) rfl ?_
    show Steps p.tables e below (T109.setTop (mkF m 63 #[.val (.ref a1), .val (.double d1), .second, .val (.double d2), .second, .val (.int (8 : Int32)), .val (.int (4 : Int32))] [])) _
    refine XS.aloadN X109.here hx rfl (hb hby d4_63) rfl rfl ?_
    show Steps p.tables e below (T109.setTop (mkF m 64 #[.val (.ref a1), .val (.double d1), .second, .val (.double d2), .second, .val (.int (8 : Int32)), .val (.int (4 : Int32))] [(.ref a1)])) _
    refine st110 _ ?_
    show Steps p.tables e below (T110.setTop (mkF m 67 #[.val (.ref a1), .val (.double d1), .second, .val (.double d2), .second, .val (.int (8 : Int32)), .val (.int (4 : Int32))] [(.ref b1)])) _
    refine XS.iload X110.here hx rfl (hb hby d4_67) rfl ?_
    show Steps p.tables e below (T110.setTop (mkF m 69 #[.val (.ref a1), .val (.double d1), .second, .val (.double d2), .second, .val (.int (8 : Int32)), .val (.int (4 : Int32))] [(.int (4 : Int32)), (.ref b1)])) _
    refine XS.dloadN X110.here hx rfl (hb hby d4_69) rfl ?_
    show Steps p.tables e below (T110.setTop (mkF m 70 #[.val (.ref a1), .val (.double d1), .second, .val (.double d2), .second, .val (.int (8 : Int32)), .val (.int (4 : Int32))] [(.double d1), (.int (4 : Int32)), (.ref b1)])) _
    refine st111 _ ?_
    show Steps p.tables e below (T111.setTop (mkF m 71 #[.val (.ref a1), .val (.double d1), .second, .val (.double d2), .second, .val (.int (8 : Int32)), .val (.int (4 : Int32))] [])) _
    refine XS.aloadN X111.here hx rfl (hb hby d4_71) rfl rfl ?_
    exact kt
  have f112 := (F_s.other W111 (Or.inl ne1))
  obtain ⟨T113, X113, e113, st113⟩ := getF X111 hx hZ hown (host := "") (Or.inl (hw _ (List.mem_of_getElem? (i := 12) rfl))) Via.refl e111 f112 (g := (mkF m 72 #[.val (.ref a1), .val (.double d1), .second, .val (.double d2), .second, .val (.int (8 : Int32)), .val (.int (4 : Int32))] [(.ref a1)])) rfl rfl (hb hby d4_72)
  have f115 := (V_s.other W111 (Ne.symm ne3))
  obtain ⟨cl114, Ar114, qa114, Sa114, Na114, Ha114, Ga114⟩ := id f115
  have hin114 : ¬ ((4 : Int32) < 0 ∨ cl114.slots.size ≤ ((4 : Int32)).toNatClampNeg) := inb_of Sa114 ⟨by decide, by decide⟩
  obtain ⟨T114, h114, X114, e114, W114, st114⟩ := stD X113 hx hZ e113 Ar114 (j := (4 : Int32)) hin114 (g := (mkF m 78 #[.val (.ref a1), .val (.double d1), .second, .val (.double d2), .second, .val (.int (8 : Int32)), .val (.int (4 : Int32))] [(.double d2), (.int (4 : Int32)), (.ref b2)])) rfl rfl (hb hby d4_78)
  have V_b2_114 := Arv.set Ar114 qa114 Sa114 Na114 Ha114 Ga114 rfl W114 4 rfl (Nat.le_of_ble_eq_true rfl)
  have V114 : Arv Z h114 b2 k2 .double (8 : Int32) [(.double y0), (.double y1), (.double y2), (.double y3), (.double d2), (.double y5), (.double y6), (.double y7)] (.double (0 : UInt64)) := V_b2_114
  have K114 : Keep h0 h114 [a1, b1, b2] := K111.wr W114 (Or.inl (List.mem_of_getElem? (i := 2) rfl))
  have N114 := Fr.snoc X114 N111 g_b2
  have f116 := ((F_c.other W111 (Or.inl ne1)).other W114 (Or.inl ne2))
  obtain ⟨T117, X117, e117, st117⟩ := getF X114 hx hZ hown (host := "") (Or.inl (hw _ (List.mem_of_getElem? (i := 23) rfl))) Via.refl e114 f116 (g := (mkF m 81 #[.val (.ref a1), .val (.double d1), .second, .val (.double d2), .second, .val (.int (8 : Int32)), .val (.int (4 : Int32))] [(.ref a1), (.ref a1)])) rfl rfl (hb hby d4_81)
  have f118 := ((E_a.wr W111).wr W114)
  obtain ⟨T119, h119, X119, e119, W119, st119⟩ := putF X117 hx hZ hown (host := "") (Or.inl (hw _ (List.mem_of_getElem? (i := 23) rfl))) Via.refl e117 f116 f118 (Or.inl (hw _ (List.mem_of_getElem? (i := 24) rfl))) (hw _ (List.mem_of_getElem? (i := 1) rfl)) (ty := .int) (by decide) rfl rfl (g := (mkF m 86 #[.val (.ref a1), .val (.double d1), .second, .val (.double d2), .second, .val (.int (8 : Int32)), .val (.int (4 : Int32))] [(.int (5 : Int32)), (.ref a1)])) rfl rfl (hb hby d4_86)
  have Fw119 := f116.same W119
  have K119 : Keep h0 h119 [a1, b1, b2] := K114.wr W119 (Or.inl (List.mem_of_getElem? (i := 0) rfl))
  have N119 := Fr.snoc X119 N114 g_a1
  have f120 := (f118.wr W119)
  have f121 := (((F_a.other W111 (Or.inl ne1)).other W114 (Or.inl ne2)).other W119 (Or.inr (slot_ne (Or.inl (hw _ (List.mem_of_getElem? (i := 11) rfl))) (Or.inl (hw _ (List.mem_of_getElem? (i := 24) rfl))) (by decide) (t := (.array .double)) (t' := .int) (by decide) (by decide))))
  have f122 := ((f112.other W114 (Or.inl ne2)).other W119 (Or.inr (slot_ne (Or.inl (hw _ (List.mem_of_getElem? (i := 13) rfl))) (Or.inl (hw _ (List.mem_of_getElem? (i := 24) rfl))) (by decide) (t := (.array .double)) (t' := .int) (by decide) (by decide))))
  have f123 := (((F_h.other W111 (Or.inl ne1)).other W114 (Or.inl ne2)).other W119 (Or.inr (slot_ne (Or.inl (hw _ (List.mem_of_getElem? (i := 26) rfl))) (Or.inl (hw _ (List.mem_of_getElem? (i := 24) rfl))) (by decide) (t := .int) (t' := .int) (by decide) (by decide))))
  have f124 := ((V111.other W114 ne3).other W119 (Ne.symm ne1))
  have f125 := (V114.other W119 (Ne.symm ne2))
  refine Gl.fin X119 (v := none) (fun _ => rfl) Bd.notSynchronized ?_ e119 (by decide) (by decide) (fun fs hr => ?_)
  · exact ⟨rfl, N119, K119, f120, f121, f122, Fw119, f123, f124, f125⟩
  · show Steps p.tables e below (T111.setTop (mkF m 72 #[.val (.ref a1), .val (.double d1), .second, .val (.double d2), .second, .val (.int (8 : Int32)), .val (.int (4 : Int32))] [(.ref a1)])) _
    refine st113 _ ?_
    show Steps p.tables e below (T113.setTop (mkF m 75 #[.val (.ref a1), .val (.double d1), .second, .val (.double d2), .second, .val (.int (8 : Int32)), .val (.int (4 : Int32))] [(.ref b2)])) _
    refine XS.iload X113.here hx rfl (hb hby d4_75) rfl ?_
    show Steps p.tables e below (T113.setTop (mkF m 77 #[.val (.ref a1), .val (.double d1), .second, .val (.double d2), .second, .val (.int (8 : Int32)), .val (.int (4 : Int32))] [(.int (4 : Int32)), (.ref b2)])) _
    refine XS.dloadN X113.here hx rfl (hb hby d4_77) rfl ?_
    show Steps p.tables e below (T113.setTop (mkF m 78 #[.val (.ref a1), .val (.double d1), .second, .val (.double d2), .second, .val (.int (8 : Int32)), .val (.int (4 : Int32))] [(.double d2), (.int (4 : Int32)), (.ref b2)])) _
    refine st114 _ ?_
    show Steps p.tables e below (T114.setTop (mkF m 79 #[.val (.ref a1), .val (.double d1), .second, .val (.double d2), .second, .val (.int (8 : Int32)), .val (.int (4 : Int32))] [])) _
    refine XS.aloadN X114.here hx rfl (hb hby d4_79) rfl rfl ?_
    show Steps p.tables e below (T114.setTop (mkF m 80 #[.val (.ref a1), .val (.double d1), .second, .val (.double d2), .second, .val (.int (8 : Int32)), .val (.int (4 : Int32))] [(.ref a1)])) _
    refine XS.dup X114.here hx rfl (hb hby d4_80) rfl rfl ?_
    show Steps p.tables e below (T114.setTop (mkF m 81 #[.val (.ref a1), .val (.double d1), .second, .val (.double d2), .second, .val (.int (8 : Int32)), .val (.int (4 : Int32))] [(.ref a1), (.ref a1)])) _
    refine st117 _ ?_
    show Steps p.tables e below (T117.setTop (mkF m 84 #[.val (.ref a1), .val (.double d1), .second, .val (.double d2), .second, .val (.int (8 : Int32)), .val (.int (4 : Int32))] [(.int (4 : Int32)), (.ref a1)])) _
    refine XS.iconst X117.here hx rfl (hb hby d4_84) ?_
    show Steps p.tables e below (T117.setTop (mkF m 85 #[.val (.ref a1), .val (.double d1), .second, .val (.double d2), .second, .val (.int (8 : Int32)), .val (.int (4 : Int32))] [(.int (1 : Int32)), (.int (4 : Int32)), (.ref a1)])) _
    refine XS.iadd X117.here hx rfl (hb hby d4_85) rfl ?_
    show Steps p.tables e below (T117.setTop (mkF m 86 #[.val (.ref a1), .val (.double d1), .second, .val (.double d2), .second, .val (.int (8 : Int32)), .val (.int (4 : Int32))] [(.int (5 : Int32)), (.ref a1)])) _
    refine st119 _ ?_
    show Steps p.tables e below (T119.setTop (mkF m 89 #[.val (.ref a1), .val (.double d1), .second, .val (.double d2), .second, .val (.int (8 : Int32)), .val (.int (4 : Int32))] [])) _
    exact X119.returnOut hx Bd.returns (hb hby d4_89) hr
theorem ef_rm3_0_4 (m : MethodId) (x0 : Addr) (x1 : Int32) (x2 : Int32) (x3 : Int32) : entryFrame m #[(.ref x0), (.int x1), (.int x2), (.int x3)] 4 = mkF m 0 #[.val (.ref x0), .val (.int x1), .val (.int x2), .val (.int x3)] [] := by first | (simp [entryFrame, mkF, argsToLocals, Value.category]; done) | rfl
def Q3_0_4 (Z : State) (a1 : Addr) (p1 : Int32) (p2 : Int32) (p3 : Int32) (b1 : Addr) (b2 : Addr) (k1 : ClassId) (k2 : ClassId) (x0 : UInt64) (x1 : UInt64) (x2 : UInt64) (x3 : UInt64) (x4 : UInt64) (x5 : UInt64) (x6 : UInt64) (x7 : UInt64) (y0 : UInt64) (y1 : UInt64) (y2 : UInt64) (y3 : UInt64) (y4 : UInt64) (y5 : UInt64) (y6 : UInt64) (y7 : UInt64) (h0 : Heap) (n0 : Nat) (v : Option Value) (h : Heap) (L : List Loc) : Prop := v = none ∧ Fr n0 L ∧ Keep h0 h [a1, b1, b2] ∧ Exa Z h a1 "com/example/tenrec/tenrec/pool/RequestQueue" ∧ Fld Z h a1 "com/example/tenrec/tenrec/pool/RequestQueue" "arrivals" "[D" (.ref b1) ∧ Fld Z h a1 "com/example/tenrec/tenrec/pool/RequestQueue" "sizes" "[D" (.ref b2) ∧ Fld Z h a1 "com/example/tenrec/tenrec/pool/RequestQueue" "count" "I" (.int (5 : Int32)) ∧ Fld Z h a1 "com/example/tenrec/tenrec/pool/RequestQueue" "head" "I" (.int (0 : Int32)) ∧ Arv Z h b1 k1 .double (8 : Int32) [(.double x0), (.double x1), (.double x2), (.double x3), (.double (FP.i2d (p1 + p3))), (.double x5), (.double x6), (.double x7)] (.double (0 : UInt64)) ∧ Arv Z h b2 k2 .double (8 : Int32) [(.double y0), (.double y1), (.double y2), (.double y3), (.double (FP.i2d (p2 - p3))), (.double y5), (.double y6), (.double y7)] (.double (0 : UInt64))
set_option maxRecDepth 65536 in
set_option maxHeartbeats 40000000 in
theorem rm3_0_4 (l : Launch) (Z : State) (a0 : Array Value) (hw : ∀ d ∈ tables_1, d.before a0 Z = true) (ws : List Jvm.Cond) (a1 : Addr) (p1 : Int32) (p2 : Int32) (p3 : Int32) (b1 : Addr) (b2 : Addr) (k1 : ClassId) (k2 : ClassId) (x0 : UInt64) (x1 : UInt64) (x2 : UInt64) (x3 : UInt64) (x4 : UInt64) (x5 : UInt64) (x6 : UInt64) (x7 : UInt64) (y0 : UInt64) (y1 : UInt64) (y2 : UInt64) (y3 : UInt64) (y4 : UInt64) (y5 : UInt64) (y6 : UInt64) (y7 : UInt64) (h0 : Heap) (n0 : Nat) (Z0 : n0 ≤ h0.size) (g_a1 : n0 ≤ a1) (g_b1 : n0 ≤ b1) (g_b2 : n0 ≤ b2) (ne1 : a1 ≠ b1) (ne2 : a1 ≠ b2) (ne3 : b1 ≠ b2) (E_a : Exa Z h0 a1 "com/example/tenrec/tenrec/pool/RequestQueue") (F_a : Fld Z h0 a1 "com/example/tenrec/tenrec/pool/RequestQueue" "arrivals" "[D" (.ref b1)) (F_s : Fld Z h0 a1 "com/example/tenrec/tenrec/pool/RequestQueue" "sizes" "[D" (.ref b2)) (F_c : Fld Z h0 a1 "com/example/tenrec/tenrec/pool/RequestQueue" "count" "I" (.int (4 : Int32))) (F_h : Fld Z h0 a1 "com/example/tenrec/tenrec/pool/RequestQueue" "head" "I" (.int (0 : Int32))) (V_a : Arv Z h0 b1 k1 .double (8 : Int32) [(.double x0), (.double x1), (.double x2), (.double x3), (.double x4), (.double x5), (.double x6), (.double x7)] (.double (0 : UInt64))) (V_s : Arv Z h0 b2 k2 .double (8 : Int32) [(.double y0), (.double y1), (.double y2), (.double y3), (.double y4), (.double y5), (.double y6), (.double y7)] (.double (0 : UInt64))) :
    OMet l Z (⟨"com/example/tenrec/tenrec/pool/RequestQueueRemoveFirstPinLaw", "put", "(Lcom/example/tenrec/tenrec/pool/RequestQueue;III)V"⟩ : MethodName) method_2_code 4 none ws ({ frames := 1, cells := 0, slots := 0, locals := 18 } : Room) #[(.ref a1), (.int p1), (.int p2), (.int p3)] h0 (Q3_0_4 Z a1 p1 p2 p3 b1 b2 k1 k2 x0 x1 x2 x3 x4 x5 x6 x7 y0 y1 y2 y3 y4 y5 y6 y7 h0 n0) := by
  refine own_body (plainFor_of_name pn_com_example_tenrec_tenrec_pool_RequestQueueRemoveFirstPinLaw) ?_
  intro p e s m below meth c s₁ Bd hml0 hZ e0
  have hx := Bd.exec
  have hby := Bd.bytes
  have hml : c.maxLocals = 4 := hml0
  have hown : s.vm.findClass "com/example/tenrec/tenrec/pool/RequestQueueRemoveFirstPinLaw" = some m.cls := findClass_of_methodNamed Bd.named
  have hnm := (name_of_methodNamed Bd.named Bd.method).1
  have X0 : Stand p l e ({ frames := 1, cells := 0, slots := 0, locals := 18 } : Room) s m #[(.ref a1), (.int p1), (.int p2), (.int p3)] below meth c s₁ [] 0 0 := Stand.of_body Bd
  have N0 := Fr.nil n0
  have K0 : Keep h0 h0 [a1, b1, b2] := Keep.refl _ _
  rw [ef_rm3_0_4]
  obtain ⟨v101, T101, L101, X101, q101, st101⟩ := own_callV X0 hx hZ (y := (⟨"com/example/tenrec/tenrec/pool/RequestQueue", "add", "(DD)V"⟩ : MethodName)) (z := (⟨"com/example/tenrec/tenrec/pool/RequestQueue", "add", "(DD)V"⟩ : MethodName)) hown (hw _ (List.mem_of_getElem? (i := 18) rfl)) (hw _ (List.mem_of_getElem? (i := 19) rfl)) (notFace_of_selects (args := #[]) (mvT hZ (hw _ (List.mem_of_getElem? (i := 21) rfl)))) (hw _ (List.mem_of_getElem? (i := 21) rfl)) (hw _ (List.mem_of_getElem? (i := 20) rfl)) (hw _ (List.mem_of_getElem? (i := 2) rfl)) (hw _ (List.mem_of_getElem? (i := 22) rfl)) (by decide) E_a (hM := (rm4_0_4 l Z a0 hw [] a1 (FP.i2d (p1 + p3)) (FP.i2d (p2 - p3)) b1 b2 k1 k2 x0 x1 x2 x3 x4 x5 x6 x7 y0 y1 y2 y3 y4 y5 y6 y7 h0 n0 Z0 g_a1 g_b1 g_b2 ne1 ne2 ne3 E_a F_a F_s F_c F_h V_a V_s)) (by decide) (by decide) (by decide) (by decide) e0 (argsL := [(.double (FP.i2d (p1 + p3))), (.double (FP.i2d (p2 - p3)))]) (rest := []) (Ls := #[.val (.ref a1), .val (.int p1), .val (.int p2), .val (.int p3)]) (by rw [hml]; rfl) (lenOf pd__DD_V rfl) (W := 0) (Nat.le_of_eq rfl) (hb hby d3_9)
  obtain ⟨rfl, N101q, K101q, E101q, FA101q, FS101q, FC101q, FH101q, VA101q, VS101q⟩ := q101
  have N101 := Fr.app N0 N101q
  have K101 : Keep h0 T101.heap [a1, b1, b2] := K0.trans K101q (allS (Or.inl (List.mem_of_getElem? (i := 0) rfl)) (allS (Or.inl (List.mem_of_getElem? (i := 1) rfl)) (allS (Or.inl (List.mem_of_getElem? (i := 2) rfl)) all0)))
  refine Gl.fin X101 (v := none) (fun _ => rfl) Bd.notSynchronized ?_ rfl (by decide) (by decide) (fun fs hr => ?_)
  · exact ⟨rfl, N101, K101, E101q, FA101q, FS101q, FC101q, FH101q, VA101q, VS101q⟩
  · show Steps p.tables e below (s₁.setTop (mkF m 0 #[.val (.ref a1), .val (.int p1), .val (.int p2), .val (.int p3)] [])) _
    refine XS.aloadN X0.here hx rfl (hb hby d3_0) rfl rfl ?_
    show Steps p.tables e below (s₁.setTop (mkF m 1 #[.val (.ref a1), .val (.int p1), .val (.int p2), .val (.int p3)] [(.ref a1)])) _
    refine XS.iloadN X0.here hx rfl (hb hby d3_1) rfl ?_
    show Steps p.tables e below (s₁.setTop (mkF m 2 #[.val (.ref a1), .val (.int p1), .val (.int p2), .val (.int p3)] [(.int p1), (.ref a1)])) _
    refine XS.iloadN X0.here hx rfl (hb hby d3_2) rfl ?_
    show Steps p.tables e below (s₁.setTop (mkF m 3 #[.val (.ref a1), .val (.int p1), .val (.int p2), .val (.int p3)] [(.int p3), (.int p1), (.ref a1)])) _
    refine XS.iadd X0.here hx rfl (hb hby d3_3) rfl ?_
    show Steps p.tables e below (s₁.setTop (mkF m 4 #[.val (.ref a1), .val (.int p1), .val (.int p2), .val (.int p3)] [(.int (p1 + p3)), (.ref a1)])) _
    refine XS.i2dS X0.here hx rfl (hb hby d3_4) rfl rfl ?_
    show Steps p.tables e below (s₁.setTop (mkF m 5 #[.val (.ref a1), .val (.int p1), .val (.int p2), .val (.int p3)] [(.double (FP.i2d (p1 + p3))), (.ref a1)])) _
    refine XS.iloadN X0.here hx rfl (hb hby d3_5) rfl ?_
    show Steps p.tables e below (s₁.setTop (mkF m 6 #[.val (.ref a1), .val (.int p1), .val (.int p2), .val (.int p3)] [(.int p2), (.double (FP.i2d (p1 + p3))), (.ref a1)])) _
    refine XS.iloadN X0.here hx rfl (hb hby d3_6) rfl ?_
    show Steps p.tables e below (s₁.setTop (mkF m 7 #[.val (.ref a1), .val (.int p1), .val (.int p2), .val (.int p3)] [(.int p3), (.int p2), (.double (FP.i2d (p1 + p3))), (.ref a1)])) _
    refine XS.isub X0.here hx rfl (hb hby d3_7) rfl ?_
    show Steps p.tables e below (s₁.setTop (mkF m 8 #[.val (.ref a1), .val (.int p1), .val (.int p2), .val (.int p3)] [(.int (p2 - p3)), (.double (FP.i2d (p1 + p3))), (.ref a1)])) _
    refine XS.i2dS X0.here hx rfl (hb hby d3_8) rfl rfl ?_
    show Steps p.tables e below (s₁.setTop (mkF m 9 #[.val (.ref a1), .val (.int p1), .val (.int p2), .val (.int p3)] [(.double (FP.i2d (p2 - p3))), (.double (FP.i2d (p1 + p3))), (.ref a1)])) _
    refine st101 _ ?_
    show Steps p.tables e below (T101.setTop (mkF m 12 #[.val (.ref a1), .val (.int p1), .val (.int p2), .val (.int p3)] [])) _
    exact X101.returnOut hx Bd.returns (hb hby d3_12) hr
theorem ef_rm4_0_5 (m : MethodId) (x0 : Addr) (x1 : UInt64) (x2 : UInt64) : entryFrame m #[(.ref x0), (.double x1), (.double x2)] 7 = mkF m 0 #[.val (.ref x0), .val (.double x1), .second, .val (.double x2), .second, .unset, .unset] [] := by first | (simp [entryFrame, mkF, argsToLocals, Value.category]; done) | rfl
def Q4_0_5 (Z : State) (a1 : Addr) (d1 : UInt64) (d2 : UInt64) (b1 : Addr) (b2 : Addr) (k1 : ClassId) (k2 : ClassId) (x0 : UInt64) (x1 : UInt64) (x2 : UInt64) (x3 : UInt64) (x4 : UInt64) (x5 : UInt64) (x6 : UInt64) (x7 : UInt64) (y0 : UInt64) (y1 : UInt64) (y2 : UInt64) (y3 : UInt64) (y4 : UInt64) (y5 : UInt64) (y6 : UInt64) (y7 : UInt64) (h0 : Heap) (n0 : Nat) (v : Option Value) (h : Heap) (L : List Loc) : Prop := v = none ∧ Fr n0 L ∧ Keep h0 h [a1, b1, b2] ∧ Exa Z h a1 "com/example/tenrec/tenrec/pool/RequestQueue" ∧ Fld Z h a1 "com/example/tenrec/tenrec/pool/RequestQueue" "arrivals" "[D" (.ref b1) ∧ Fld Z h a1 "com/example/tenrec/tenrec/pool/RequestQueue" "sizes" "[D" (.ref b2) ∧ Fld Z h a1 "com/example/tenrec/tenrec/pool/RequestQueue" "count" "I" (.int (6 : Int32)) ∧ Fld Z h a1 "com/example/tenrec/tenrec/pool/RequestQueue" "head" "I" (.int (0 : Int32)) ∧ Arv Z h b1 k1 .double (8 : Int32) [(.double x0), (.double x1), (.double x2), (.double x3), (.double x4), (.double d1), (.double x6), (.double x7)] (.double (0 : UInt64)) ∧ Arv Z h b2 k2 .double (8 : Int32) [(.double y0), (.double y1), (.double y2), (.double y3), (.double y4), (.double d2), (.double y6), (.double y7)] (.double (0 : UInt64))
set_option maxRecDepth 65536 in
set_option maxHeartbeats 40000000 in
theorem rm4_0_5 (l : Launch) (Z : State) (a0 : Array Value) (hw : ∀ d ∈ tables_1, d.before a0 Z = true) (ws : List Jvm.Cond) (a1 : Addr) (d1 : UInt64) (d2 : UInt64) (b1 : Addr) (b2 : Addr) (k1 : ClassId) (k2 : ClassId) (x0 : UInt64) (x1 : UInt64) (x2 : UInt64) (x3 : UInt64) (x4 : UInt64) (x5 : UInt64) (x6 : UInt64) (x7 : UInt64) (y0 : UInt64) (y1 : UInt64) (y2 : UInt64) (y3 : UInt64) (y4 : UInt64) (y5 : UInt64) (y6 : UInt64) (y7 : UInt64) (h0 : Heap) (n0 : Nat) (Z0 : n0 ≤ h0.size) (g_a1 : n0 ≤ a1) (g_b1 : n0 ≤ b1) (g_b2 : n0 ≤ b2) (ne1 : a1 ≠ b1) (ne2 : a1 ≠ b2) (ne3 : b1 ≠ b2) (E_a : Exa Z h0 a1 "com/example/tenrec/tenrec/pool/RequestQueue") (F_a : Fld Z h0 a1 "com/example/tenrec/tenrec/pool/RequestQueue" "arrivals" "[D" (.ref b1)) (F_s : Fld Z h0 a1 "com/example/tenrec/tenrec/pool/RequestQueue" "sizes" "[D" (.ref b2)) (F_c : Fld Z h0 a1 "com/example/tenrec/tenrec/pool/RequestQueue" "count" "I" (.int (5 : Int32))) (F_h : Fld Z h0 a1 "com/example/tenrec/tenrec/pool/RequestQueue" "head" "I" (.int (0 : Int32))) (V_a : Arv Z h0 b1 k1 .double (8 : Int32) [(.double x0), (.double x1), (.double x2), (.double x3), (.double x4), (.double x5), (.double x6), (.double x7)] (.double (0 : UInt64))) (V_s : Arv Z h0 b2 k2 .double (8 : Int32) [(.double y0), (.double y1), (.double y2), (.double y3), (.double y4), (.double y5), (.double y6), (.double y7)] (.double (0 : UInt64))) :
    OMet l Z (⟨"com/example/tenrec/tenrec/pool/RequestQueue", "add", "(DD)V"⟩ : MethodName) prog_34_method_2_code 7 none ws ({ frames := 0, cells := 0, slots := 0, locals := 0 } : Room) #[(.ref a1), (.double d1), (.double d2)] h0 (Q4_0_5 Z a1 d1 d2 b1 b2 k1 k2 x0 x1 x2 x3 x4 x5 x6 x7 y0 y1 y2 y3 y4 y5 y6 y7 h0 n0) := by
  refine own_body (plainFor_of_name pn_com_example_tenrec_tenrec_pool_RequestQueue) ?_
  intro p e s m below meth c s₁ Bd hml0 hZ e0
  have hx := Bd.exec
  have hby := Bd.bytes
  have hml : c.maxLocals = 7 := hml0
  have hown : s.vm.findClass "com/example/tenrec/tenrec/pool/RequestQueue" = some m.cls := findClass_of_methodNamed Bd.named
  have hnm := (name_of_methodNamed Bd.named Bd.method).1
  have X0 : Stand p l e ({ frames := 0, cells := 0, slots := 0, locals := 0 } : Room) s m #[(.ref a1), (.double d1), (.double d2)] below meth c s₁ [] 0 0 := Stand.of_body Bd
  have N0 := Fr.nil n0
  have K0 : Keep h0 h0 [a1, b1, b2] := Keep.refl _ _
  rw [ef_rm4_0_5]
  obtain ⟨T101, X101, e101, st101⟩ := getF X0 hx hZ hown (host := "") (Or.inl (hw _ (List.mem_of_getElem? (i := 23) rfl))) Via.refl e0 F_c (g := (mkF m 1 #[.val (.ref a1), .val (.double d1), .second, .val (.double d2), .second, .unset, .unset] [(.ref a1)])) rfl rfl (hb hby d4_1)
  obtain ⟨T102, X102, e102, st102⟩ := getF X101 hx hZ hown (host := "") (Or.inl (hw _ (List.mem_of_getElem? (i := 10) rfl))) Via.refl e101 F_a (g := (mkF m 5 #[.val (.ref a1), .val (.double d1), .second, .val (.double d2), .second, .unset, .unset] [(.ref a1), (.int (5 : Int32))])) rfl rfl (hb hby d4_5)
  obtain ⟨cl103, Ar103, qa103, Sa103, Na103, Ha103, Ga103⟩ := id V_a
  obtain ⟨T104, X104, e104, st104⟩ := getF X102 hx hZ hown (host := "") (Or.inl (hw _ (List.mem_of_getElem? (i := 10) rfl))) Via.refl e102 F_a (g := (mkF m 17 #[.val (.ref a1), .val (.double d1), .second, .val (.double d2), .second, .unset, .unset] [(.ref a1)])) rfl rfl (hb hby d4_17)
  obtain ⟨cl105, Ar105, qa105, Sa105, Na105, Ha105, Ga105⟩ := id V_a
  obtain ⟨T106, X106, e106, st106⟩ := getF X104 hx hZ hown (host := "") (Or.inl (hw _ (List.mem_of_getElem? (i := 23) rfl))) Via.refl e104 F_c (g := (mkF m 24 #[.val (.ref a1), .val (.double d1), .second, .val (.double d2), .second, .val (.int (8 : Int32)), .unset] [(.ref a1)])) rfl rfl (hb hby d4_24)
  obtain ⟨T107, X107, e107, st107⟩ := getF X106 hx hZ hown (host := "") (Or.inl (hw _ (List.mem_of_getElem? (i := 25) rfl))) Via.refl e106 F_h (g := (mkF m 30 #[.val (.ref a1), .val (.double d1), .second, .val (.double d2), .second, .val (.int (8 : Int32)), .unset] [(.ref a1), (.int (8 : Int32)), (.int (5 : Int32))])) rfl rfl (hb hby d4_30)
  obtain ⟨T108, X108, e108, st108⟩ := getF X107 hx hZ hown (host := "") (Or.inl (hw _ (List.mem_of_getElem? (i := 25) rfl))) Via.refl e107 F_h (g := (mkF m 38 #[.val (.ref a1), .val (.double d1), .second, .val (.double d2), .second, .val (.int (8 : Int32)), .unset] [(.ref a1)])) rfl rfl (hb hby d4_38)
  obtain ⟨T109, X109, e109, st109⟩ := getF X108 hx hZ hown (host := "") (Or.inl (hw _ (List.mem_of_getElem? (i := 23) rfl))) Via.refl e108 F_c (g := (mkF m 42 #[.val (.ref a1), .val (.double d1), .second, .val (.double d2), .second, .val (.int (8 : Int32)), .unset] [(.ref a1), (.int (0 : Int32))])) rfl rfl (hb hby d4_42)
  obtain ⟨T110, X110, e110, st110⟩ := getF X109 hx hZ hown (host := "") (Or.inl (hw _ (List.mem_of_getElem? (i := 10) rfl))) Via.refl e109 F_a (g := (mkF m 64 #[.val (.ref a1), .val (.double d1), .second, .val (.double d2), .second, .val (.int (8 : Int32)), .val (.int (5 : Int32))] [(.ref a1)])) rfl rfl (hb hby d4_64)
  obtain ⟨cl111, Ar111, qa111, Sa111, Na111, Ha111, Ga111⟩ := id V_a
  have hin111 : ¬ ((5 : Int32) < 0 ∨ cl111.slots.size ≤ ((5 : Int32)).toNatClampNeg) := inb_of Sa111 ⟨by decide, by decide⟩
  obtain ⟨T111, h111, X111, e111, W111, st111⟩ := stD X110 hx hZ e110 Ar111 (j := (5 : Int32)) hin111 (g := (mkF m 70 #[.val (.ref a1), .val (.double d1), .second, .val (.double d2), .second, .val (.int (8 : Int32)), .val (.int (5 : Int32))] [(.double d1), (.int (5 : Int32)), (.ref b1)])) rfl rfl (hb hby d4_70)
  have V_b1_111 := Arv.set Ar111 qa111 Sa111 Na111 Ha111 Ga111 rfl W111 5 rfl (Nat.le_of_ble_eq_true rfl)
  have V111 : Arv Z h111 b1 k1 .double (8 : Int32) [(.double x0), (.double x1), (.double x2), (.double x3), (.double x4), (.double d1), (.double x6), (.double x7)] (.double (0 : UInt64)) := V_b1_111
  have K111 : Keep h0 h111 [a1, b1, b2] := K0.wr W111 (Or.inl (List.mem_of_getElem? (i := 1) rfl))
  have N111 := Fr.snoc X111 N0 g_b1
  refine Gl.pre (S' := T111.setTop (mkF m 72 #[.val (.ref a1), .val (.double d1), .second, .val (.double d2), .second, .val (.int (8 : Int32)), .val (.int (5 : Int32))] [(.ref a1)])) (fun t kt => ?_) ?_
  · show Steps p.tables e below (s₁.setTop (mkF m 0 #[.val (.ref a1), .val (.double d1), .second, .val (.double d2), .second, .unset, .unset] [])) _
    refine XS.aloadN X0.here hx rfl (hb hby d4_0) rfl rfl ?_
    show Steps p.tables e below (s₁.setTop (mkF m 1 #[.val (.ref a1), .val (.double d1), .second, .val (.double d2), .second, .unset, .unset] [(.ref a1)])) _
    refine st101 _ ?_
    show Steps p.tables e below (T101.setTop (mkF m 4 #[.val (.ref a1), .val (.double d1), .second, .val (.double d2), .second, .unset, .unset] [(.int (5 : Int32))])) _
    refine XS.aloadN X101.here hx rfl (hb hby d4_4) rfl rfl ?_
    show Steps p.tables e below (T101.setTop (mkF m 5 #[.val (.ref a1), .val (.double d1), .second, .val (.double d2), .second, .unset, .unset] [(.ref a1), (.int (5 : Int32))])) _
    refine st102 _ ?_
    show Steps p.tables e below (T102.setTop (mkF m 8 #[.val (.ref a1), .val (.double d1), .second, .val (.double d2), .second, .unset, .unset] [(.ref b1), (.int (5 : Int32))])) _
    refine X102.arraylength hx (own_hc e102 Ar103.1) (State.isArrayOf_alike hZ.alike Ar103.2.1) (g := (mkF m 8 #[.val (.ref a1), .val (.double d1), .second, .val (.double d2), .second, .unset, .unset] [(.ref b1), (.int (5 : Int32))])) rfl rfl (hb hby d4_8) _ ?_
    rw [len_of Sa103 Na103]
    show Steps p.tables e below (T102.setTop (mkF m 9 #[.val (.ref a1), .val (.double d1), .second, .val (.double d2), .second, .unset, .unset] [(.int (8 : Int32)), (.int (5 : Int32))])) _
    refine XS.icmpYes X102.here hx rfl (pc0 := 9) (pc' := 16) rfl (hb hby d4_9) rfl (own_nt (ic_ne _ _) (by decide)) (by decide) (by decide) ?_
    show Steps p.tables e below (T102.setTop (mkF m 16 #[.val (.ref a1), .val (.double d1), .second, .val (.double d2), .second, .unset, .unset] [])) _
    refine XS.aloadN X102.here hx rfl (hb hby d4_16) rfl rfl ?_
    show Steps p.tables e below (T102.setTop (mkF m 17 #[.val (.ref a1), .val (.double d1), .second, .val (.double d2), .second, .unset, .unset] [(.ref a1)])) _
    refine st104 _ ?_
    show Steps p.tables e below (T104.setTop (mkF m 20 #[.val (.ref a1), .val (.double d1), .second, .val (.double d2), .second, .unset, .unset] [(.ref b1)])) _
    refine X104.arraylength hx (own_hc e104 Ar105.1) (State.isArrayOf_alike hZ.alike Ar105.2.1) (g := (mkF m 20 #[.val (.ref a1), .val (.double d1), .second, .val (.double d2), .second, .unset, .unset] [(.ref b1)])) rfl rfl (hb hby d4_20) _ ?_
    rw [len_of Sa105 Na105]
    show Steps p.tables e below (T104.setTop (mkF m 21 #[.val (.ref a1), .val (.double d1), .second, .val (.double d2), .second, .unset, .unset] [(.int (8 : Int32))])) _
    refine XS.istore X104.here hx rfl (hb hby d4_21) rfl (l' := #[.val (.ref a1), .val (.double d1), .second, .val (.double d2), .second, .val (.int (8 : Int32)), .unset]) rfl ?_
    show Steps p.tables e below (T104.setTop (mkF m 23 #[.val (.ref a1), .val (.double d1), .second, .val (.double d2), .second, .val (.int (8 : Int32)), .unset] [])) _
    refine XS.aloadN X104.here hx rfl (hb hby d4_23) rfl rfl ?_
    show Steps p.tables e below (T104.setTop (mkF m 24 #[.val (.ref a1), .val (.double d1), .second, .val (.double d2), .second, .val (.int (8 : Int32)), .unset] [(.ref a1)])) _
    refine st106 _ ?_
    show Steps p.tables e below (T106.setTop (mkF m 27 #[.val (.ref a1), .val (.double d1), .second, .val (.double d2), .second, .val (.int (8 : Int32)), .unset] [(.int (5 : Int32))])) _
    refine XS.iload X106.here hx rfl (hb hby d4_27) rfl ?_
    show Steps p.tables e below (T106.setTop (mkF m 29 #[.val (.ref a1), .val (.double d1), .second, .val (.double d2), .second, .val (.int (8 : Int32)), .unset] [(.int (8 : Int32)), (.int (5 : Int32))])) _
    refine XS.aloadN X106.here hx rfl (hb hby d4_29) rfl rfl ?_
    show Steps p.tables e below (T106.setTop (mkF m 30 #[.val (.ref a1), .val (.double d1), .second, .val (.double d2), .second, .val (.int (8 : Int32)), .unset] [(.ref a1), (.int (8 : Int32)), (.int (5 : Int32))])) _
    refine st107 _ ?_
    show Steps p.tables e below (T107.setTop (mkF m 33 #[.val (.ref a1), .val (.double d1), .second, .val (.double d2), .second, .val (.int (8 : Int32)), .unset] [(.int (0 : Int32)), (.int (8 : Int32)), (.int (5 : Int32))])) _
    refine XS.isub X107.here hx rfl (hb hby d4_33) rfl ?_
    show Steps p.tables e below (T107.setTop (mkF m 34 #[.val (.ref a1), .val (.double d1), .second, .val (.double d2), .second, .val (.int (8 : Int32)), .unset] [(.int (8 : Int32)), (.int (5 : Int32))])) _
    refine XS.icmpNo X107.here hx rfl (hb hby d4_34) rfl (own_nf (ic_ge _ _) (by decide)) ?_
    show Steps p.tables e below (T107.setTop (mkF m 37 #[.val (.ref a1), .val (.double d1), .second, .val (.double d2), .second, .val (.int (8 : Int32)), .unset] [])) _
    refine XS.aloadN X107.here hx rfl (hb hby d4_37) rfl rfl ?_
    show Steps p.tables e below (T107.setTop (mkF m 38 #[.val (.ref a1), .val (.double d1), .second, .val (.double d2), .second, .val (.int (8 : Int32)), .unset] [(.ref a1)])) _
    refine st108 _ ?_
    show Steps p.tables e below (T108.setTop (mkF m 41 #[.val (.ref a1), .val (.double d1), .second, .val (.double d2), .second, .val (.int (8 : Int32)), .unset] [(.int (0 : Int32))])) _
    refine XS.aloadN X108.here hx rfl (hb hby d4_41) rfl rfl ?_
    show Steps p.tables e below (T108.setTop (mkF m 42 #[.val (.ref a1), .val (.double d1), .second, .val (.double d2), .second, .val (.int (8 : Int32)), .unset] [(.ref a1), (.int (0 : Int32))])) _
    refine st109 _ ?_
    show Steps p.tables e below (T109.setTop (mkF m 45 #[.val (.ref a1), .val (.double d1), .second, .val (.double d2), .second, .val (.int (8 : Int32)), .unset] [(.int (5 : Int32)), (.int (0 : Int32))])) _
    refine XS.iadd X109.here hx rfl (hb hby d4_45) rfl ?_
    show Steps p.tables e below (T109.setTop (mkF m 46 #[.val (.ref a1), .val (.double d1), .second, .val (.double d2), .second, .val (.int (8 : Int32)), .unset] [(.int ((0 : Int32) + (5 : Int32)))])) _
    refine XS.goto X109.here hx rfl (pc0 := 46) (pc' := 61) rfl (hb hby d4_46) (by decide) (by decide) ?_
    show Steps p.tables e below (T109.setTop (mkF m 61 #[.val (.ref a1), .val (.double d1), .second, .val (.double d2), .second, .val (.int (8 : Int32)), .unset] [(.int (5 : Int32))])) _
    refine XS.istore X109.here hx rfl (hb hby d4_61) rfl (l' := #[.val (.ref a1), .val (.double d1), .second, .val (.double d2), .second, .val (.int (8 : Int32)), .val (.int (5 : Int32))]) rfl ?_
    show Steps p.tables e below (T109.setTop (mkF m 63 #[.val (.ref a1), .val (.double d1), .second, .val (.double d2), .second, .val (.int (8 : Int32)), .val (.int (5 : Int32))] [])) _
    refine XS.aloadN X109.here hx rfl (hb hby d4_63) rfl rfl ?_
    show Steps p.tables e below (T109.setTop (mkF m 64 #[.val (.ref a1), .val (.double d1), .second, .val (.double d2), .second, .val (.int (8 : Int32)), .val (.int (5 : Int32))] [(.ref a1)])) _
    refine st110 _ ?_
    show Steps p.tables e below (T110.setTop (mkF m 67 #[.val (.ref a1), .val (.double d1), .second, .val (.double d2), .second, .val (.int (8 : Int32)), .val (.int (5 : Int32))] [(.ref b1)])) _
    refine XS.iload X110.here hx rfl (hb hby d4_67) rfl ?_
    show Steps p.tables e below (T110.setTop (mkF m 69 #[.val (.ref a1), .val (.double d1), .second, .val (.double d2), .second, .val (.int (8 : Int32)), .val (.int (5 : Int32))] [(.int (5 : Int32)), (.ref b1)])) _
    refine XS.dloadN X110.here hx rfl (hb hby d4_69) rfl ?_
    show Steps p.tables e below (T110.setTop (mkF m 70 #[.val (.ref a1), .val (.double d1), .second, .val (.double d2), .second, .val (.int (8 : Int32)), .val (.int (5 : Int32))] [(.double d1), (.int (5 : Int32)), (.ref b1)])) _
    refine st111 _ ?_
    show Steps p.tables e below (T111.setTop (mkF m 71 #[.val (.ref a1), .val (.double d1), .second, .val (.double d2), .second, .val (.int (8 : Int32)), .val (.int (5 : Int32))] [])) _
    refine XS.aloadN X111.here hx rfl (hb hby d4_71) rfl rfl ?_
    exact kt
  have f112 := (F_s.other W111 (Or.inl ne1))
  obtain ⟨T113, X113, e113, st113⟩ := getF X111 hx hZ hown (host := "") (Or.inl (hw _ (List.mem_of_getElem? (i := 12) rfl))) Via.refl e111 f112 (g := (mkF m 72 #[.val (.ref a1), .val (.double d1), .second, .val (.double d2), .second, .val (.int (8 : Int32)), .val (.int (5 : Int32))] [(.ref a1)])) rfl rfl (hb hby d4_72)
  have f115 := (V_s.other W111 (Ne.symm ne3))
  obtain ⟨cl114, Ar114, qa114, Sa114, Na114, Ha114, Ga114⟩ := id f115
  have hin114 : ¬ ((5 : Int32) < 0 ∨ cl114.slots.size ≤ ((5 : Int32)).toNatClampNeg) := inb_of Sa114 ⟨by decide, by decide⟩
  obtain ⟨T114, h114, X114, e114, W114, st114⟩ := stD X113 hx hZ e113 Ar114 (j := (5 : Int32)) hin114 (g := (mkF m 78 #[.val (.ref a1), .val (.double d1), .second, .val (.double d2), .second, .val (.int (8 : Int32)), .val (.int (5 : Int32))] [(.double d2), (.int (5 : Int32)), (.ref b2)])) rfl rfl (hb hby d4_78)
  have V_b2_114 := Arv.set Ar114 qa114 Sa114 Na114 Ha114 Ga114 rfl W114 5 rfl (Nat.le_of_ble_eq_true rfl)
  have V114 : Arv Z h114 b2 k2 .double (8 : Int32) [(.double y0), (.double y1), (.double y2), (.double y3), (.double y4), (.double d2), (.double y6), (.double y7)] (.double (0 : UInt64)) := V_b2_114
  have K114 : Keep h0 h114 [a1, b1, b2] := K111.wr W114 (Or.inl (List.mem_of_getElem? (i := 2) rfl))
  have N114 := Fr.snoc X114 N111 g_b2
  have f116 := ((F_c.other W111 (Or.inl ne1)).other W114 (Or.inl ne2))
  obtain ⟨T117, X117, e117, st117⟩ := getF X114 hx hZ hown (host := "") (Or.inl (hw _ (List.mem_of_getElem? (i := 23) rfl))) Via.refl e114 f116 (g := (mkF m 81 #[.val (.ref a1), .val (.double d1), .second, .val (.double d2), .second, .val (.int (8 : Int32)), .val (.int (5 : Int32))] [(.ref a1), (.ref a1)])) rfl rfl (hb hby d4_81)
  have f118 := ((E_a.wr W111).wr W114)
  obtain ⟨T119, h119, X119, e119, W119, st119⟩ := putF X117 hx hZ hown (host := "") (Or.inl (hw _ (List.mem_of_getElem? (i := 23) rfl))) Via.refl e117 f116 f118 (Or.inl (hw _ (List.mem_of_getElem? (i := 24) rfl))) (hw _ (List.mem_of_getElem? (i := 1) rfl)) (ty := .int) (by decide) rfl rfl (g := (mkF m 86 #[.val (.ref a1), .val (.double d1), .second, .val (.double d2), .second, .val (.int (8 : Int32)), .val (.int (5 : Int32))] [(.int (6 : Int32)), (.ref a1)])) rfl rfl (hb hby d4_86)
  have Fw119 := f116.same W119
  have K119 : Keep h0 h119 [a1, b1, b2] := K114.wr W119 (Or.inl (List.mem_of_getElem? (i := 0) rfl))
  have N119 := Fr.snoc X119 N114 g_a1
  have f120 := (f118.wr W119)
  have f121 := (((F_a.other W111 (Or.inl ne1)).other W114 (Or.inl ne2)).other W119 (Or.inr (slot_ne (Or.inl (hw _ (List.mem_of_getElem? (i := 11) rfl))) (Or.inl (hw _ (List.mem_of_getElem? (i := 24) rfl))) (by decide) (t := (.array .double)) (t' := .int) (by decide) (by decide))))
  have f122 := ((f112.other W114 (Or.inl ne2)).other W119 (Or.inr (slot_ne (Or.inl (hw _ (List.mem_of_getElem? (i := 13) rfl))) (Or.inl (hw _ (List.mem_of_getElem? (i := 24) rfl))) (by decide) (t := (.array .double)) (t' := .int) (by decide) (by decide))))
  have f123 := (((F_h.other W111 (Or.inl ne1)).other W114 (Or.inl ne2)).other W119 (Or.inr (slot_ne (Or.inl (hw _ (List.mem_of_getElem? (i := 26) rfl))) (Or.inl (hw _ (List.mem_of_getElem? (i := 24) rfl))) (by decide) (t := .int) (t' := .int) (by decide) (by decide))))
  have f124 := ((V111.other W114 ne3).other W119 (Ne.symm ne1))
  have f125 := (V114.other W119 (Ne.symm ne2))
  refine Gl.fin X119 (v := none) (fun _ => rfl) Bd.notSynchronized ?_ e119 (by decide) (by decide) (fun fs hr => ?_)
  · exact ⟨rfl, N119, K119, f120, f121, f122, Fw119, f123, f124, f125⟩
  · show Steps p.tables e below (T111.setTop (mkF m 72 #[.val (.ref a1), .val (.double d1), .second, .val (.double d2), .second, .val (.int (8 : Int32)), .val (.int (5 : Int32))] [(.ref a1)])) _
    refine st113 _ ?_
    show Steps p.tables e below (T113.setTop (mkF m 75 #[.val (.ref a1), .val (.double d1), .second, .val (.double d2), .second, .val (.int (8 : Int32)), .val (.int (5 : Int32))] [(.ref b2)])) _
    refine XS.iload X113.here hx rfl (hb hby d4_75) rfl ?_
    show Steps p.tables e below (T113.setTop (mkF m 77 #[.val (.ref a1), .val (.double d1), .second, .val (.double d2), .second, .val (.int (8 : Int32)), .val (.int (5 : Int32))] [(.int (5 : Int32)), (.ref b2)])) _
    refine XS.dloadN X113.here hx rfl (hb hby d4_77) rfl ?_
    show Steps p.tables e below (T113.setTop (mkF m 78 #[.val (.ref a1), .val (.double d1), .second, .val (.double d2), .second, .val (.int (8 : Int32)), .val (.int (5 : Int32))] [(.double d2), (.int (5 : Int32)), (.ref b2)])) _
    refine st114 _ ?_
    show Steps p.tables e below (T114.setTop (mkF m 79 #[.val (.ref a1), .val (.double d1), .second, .val (.double d2), .second, .val (.int (8 : Int32)), .val (.int (5 : Int32))] [])) _
    refine XS.aloadN X114.here hx rfl (hb hby d4_79) rfl rfl ?_
    show Steps p.tables e below (T114.setTop (mkF m 80 #[.val (.ref a1), .val (.double d1), .second, .val (.double d2), .second, .val (.int (8 : Int32)), .val (.int (5 : Int32))] [(.ref a1)])) _
    refine XS.dup X114.here hx rfl (hb hby d4_80) rfl rfl ?_
    show Steps p.tables e below (T114.setTop (mkF m 81 #[.val (.ref a1), .val (.double d1), .second, .val (.double d2), .second, .val (.int (8 : Int32)), .val (.int (5 : Int32))] [(.ref a1), (.ref a1)])) _
    refine st117 _ ?_
    show Steps p.tables e below (T117.setTop (mkF m 84 #[.val (.ref a1), .val (.double d1), .second, .val (.double d2), .second, .val (.int (8 : Int32)), .val (.int (5 : Int32))] [(.int (5 : Int32)), (.ref a1)])) _
    refine XS.iconst X117.here hx rfl (hb hby d4_84) ?_
    show Steps p.tables e below (T117.setTop (mkF m 85 #[.val (.ref a1), .val (.double d1), .second, .val (.double d2), .second, .val (.int (8 : Int32)), .val (.int (5 : Int32))] [(.int (1 : Int32)), (.int (5 : Int32)), (.ref a1)])) _
    refine XS.iadd X117.here hx rfl (hb hby d4_85) rfl ?_
    show Steps p.tables e below (T117.setTop (mkF m 86 #[.val (.ref a1), .val (.double d1), .second, .val (.double d2), .second, .val (.int (8 : Int32)), .val (.int (5 : Int32))] [(.int (6 : Int32)), (.ref a1)])) _
    refine st119 _ ?_
    show Steps p.tables e below (T119.setTop (mkF m 89 #[.val (.ref a1), .val (.double d1), .second, .val (.double d2), .second, .val (.int (8 : Int32)), .val (.int (5 : Int32))] [])) _
    exact X119.returnOut hx Bd.returns (hb hby d4_89) hr
theorem ef_rm3_0_5 (m : MethodId) (x0 : Addr) (x1 : Int32) (x2 : Int32) (x3 : Int32) : entryFrame m #[(.ref x0), (.int x1), (.int x2), (.int x3)] 4 = mkF m 0 #[.val (.ref x0), .val (.int x1), .val (.int x2), .val (.int x3)] [] := by first | (simp [entryFrame, mkF, argsToLocals, Value.category]; done) | rfl
def Q3_0_5 (Z : State) (a1 : Addr) (p1 : Int32) (p2 : Int32) (p3 : Int32) (b1 : Addr) (b2 : Addr) (k1 : ClassId) (k2 : ClassId) (x0 : UInt64) (x1 : UInt64) (x2 : UInt64) (x3 : UInt64) (x4 : UInt64) (x5 : UInt64) (x6 : UInt64) (x7 : UInt64) (y0 : UInt64) (y1 : UInt64) (y2 : UInt64) (y3 : UInt64) (y4 : UInt64) (y5 : UInt64) (y6 : UInt64) (y7 : UInt64) (h0 : Heap) (n0 : Nat) (v : Option Value) (h : Heap) (L : List Loc) : Prop := v = none ∧ Fr n0 L ∧ Keep h0 h [a1, b1, b2] ∧ Exa Z h a1 "com/example/tenrec/tenrec/pool/RequestQueue" ∧ Fld Z h a1 "com/example/tenrec/tenrec/pool/RequestQueue" "arrivals" "[D" (.ref b1) ∧ Fld Z h a1 "com/example/tenrec/tenrec/pool/RequestQueue" "sizes" "[D" (.ref b2) ∧ Fld Z h a1 "com/example/tenrec/tenrec/pool/RequestQueue" "count" "I" (.int (6 : Int32)) ∧ Fld Z h a1 "com/example/tenrec/tenrec/pool/RequestQueue" "head" "I" (.int (0 : Int32)) ∧ Arv Z h b1 k1 .double (8 : Int32) [(.double x0), (.double x1), (.double x2), (.double x3), (.double x4), (.double (FP.i2d (p1 + p3))), (.double x6), (.double x7)] (.double (0 : UInt64)) ∧ Arv Z h b2 k2 .double (8 : Int32) [(.double y0), (.double y1), (.double y2), (.double y3), (.double y4), (.double (FP.i2d (p2 - p3))), (.double y6), (.double y7)] (.double (0 : UInt64))
set_option maxRecDepth 65536 in
set_option maxHeartbeats 40000000 in
theorem rm3_0_5 (l : Launch) (Z : State) (a0 : Array Value) (hw : ∀ d ∈ tables_1, d.before a0 Z = true) (ws : List Jvm.Cond) (a1 : Addr) (p1 : Int32) (p2 : Int32) (p3 : Int32) (b1 : Addr) (b2 : Addr) (k1 : ClassId) (k2 : ClassId) (x0 : UInt64) (x1 : UInt64) (x2 : UInt64) (x3 : UInt64) (x4 : UInt64) (x5 : UInt64) (x6 : UInt64) (x7 : UInt64) (y0 : UInt64) (y1 : UInt64) (y2 : UInt64) (y3 : UInt64) (y4 : UInt64) (y5 : UInt64) (y6 : UInt64) (y7 : UInt64) (h0 : Heap) (n0 : Nat) (Z0 : n0 ≤ h0.size) (g_a1 : n0 ≤ a1) (g_b1 : n0 ≤ b1) (g_b2 : n0 ≤ b2) (ne1 : a1 ≠ b1) (ne2 : a1 ≠ b2) (ne3 : b1 ≠ b2) (E_a : Exa Z h0 a1 "com/example/tenrec/tenrec/pool/RequestQueue") (F_a : Fld Z h0 a1 "com/example/tenrec/tenrec/pool/RequestQueue" "arrivals" "[D" (.ref b1)) (F_s : Fld Z h0 a1 "com/example/tenrec/tenrec/pool/RequestQueue" "sizes" "[D" (.ref b2)) (F_c : Fld Z h0 a1 "com/example/tenrec/tenrec/pool/RequestQueue" "count" "I" (.int (5 : Int32))) (F_h : Fld Z h0 a1 "com/example/tenrec/tenrec/pool/RequestQueue" "head" "I" (.int (0 : Int32))) (V_a : Arv Z h0 b1 k1 .double (8 : Int32) [(.double x0), (.double x1), (.double x2), (.double x3), (.double x4), (.double x5), (.double x6), (.double x7)] (.double (0 : UInt64))) (V_s : Arv Z h0 b2 k2 .double (8 : Int32) [(.double y0), (.double y1), (.double y2), (.double y3), (.double y4), (.double y5), (.double y6), (.double y7)] (.double (0 : UInt64))) :
    OMet l Z (⟨"com/example/tenrec/tenrec/pool/RequestQueueRemoveFirstPinLaw", "put", "(Lcom/example/tenrec/tenrec/pool/RequestQueue;III)V"⟩ : MethodName) method_2_code 4 none ws ({ frames := 1, cells := 0, slots := 0, locals := 18 } : Room) #[(.ref a1), (.int p1), (.int p2), (.int p3)] h0 (Q3_0_5 Z a1 p1 p2 p3 b1 b2 k1 k2 x0 x1 x2 x3 x4 x5 x6 x7 y0 y1 y2 y3 y4 y5 y6 y7 h0 n0) := by
  refine own_body (plainFor_of_name pn_com_example_tenrec_tenrec_pool_RequestQueueRemoveFirstPinLaw) ?_
  intro p e s m below meth c s₁ Bd hml0 hZ e0
  have hx := Bd.exec
  have hby := Bd.bytes
  have hml : c.maxLocals = 4 := hml0
  have hown : s.vm.findClass "com/example/tenrec/tenrec/pool/RequestQueueRemoveFirstPinLaw" = some m.cls := findClass_of_methodNamed Bd.named
  have hnm := (name_of_methodNamed Bd.named Bd.method).1
  have X0 : Stand p l e ({ frames := 1, cells := 0, slots := 0, locals := 18 } : Room) s m #[(.ref a1), (.int p1), (.int p2), (.int p3)] below meth c s₁ [] 0 0 := Stand.of_body Bd
  have N0 := Fr.nil n0
  have K0 : Keep h0 h0 [a1, b1, b2] := Keep.refl _ _
  rw [ef_rm3_0_5]
  obtain ⟨v101, T101, L101, X101, q101, st101⟩ := own_callV X0 hx hZ (y := (⟨"com/example/tenrec/tenrec/pool/RequestQueue", "add", "(DD)V"⟩ : MethodName)) (z := (⟨"com/example/tenrec/tenrec/pool/RequestQueue", "add", "(DD)V"⟩ : MethodName)) hown (hw _ (List.mem_of_getElem? (i := 18) rfl)) (hw _ (List.mem_of_getElem? (i := 19) rfl)) (notFace_of_selects (args := #[]) (mvT hZ (hw _ (List.mem_of_getElem? (i := 21) rfl)))) (hw _ (List.mem_of_getElem? (i := 21) rfl)) (hw _ (List.mem_of_getElem? (i := 20) rfl)) (hw _ (List.mem_of_getElem? (i := 2) rfl)) (hw _ (List.mem_of_getElem? (i := 22) rfl)) (by decide) E_a (hM := (rm4_0_5 l Z a0 hw [] a1 (FP.i2d (p1 + p3)) (FP.i2d (p2 - p3)) b1 b2 k1 k2 x0 x1 x2 x3 x4 x5 x6 x7 y0 y1 y2 y3 y4 y5 y6 y7 h0 n0 Z0 g_a1 g_b1 g_b2 ne1 ne2 ne3 E_a F_a F_s F_c F_h V_a V_s)) (by decide) (by decide) (by decide) (by decide) e0 (argsL := [(.double (FP.i2d (p1 + p3))), (.double (FP.i2d (p2 - p3)))]) (rest := []) (Ls := #[.val (.ref a1), .val (.int p1), .val (.int p2), .val (.int p3)]) (by rw [hml]; rfl) (lenOf pd__DD_V rfl) (W := 0) (Nat.le_of_eq rfl) (hb hby d3_9)
  obtain ⟨rfl, N101q, K101q, E101q, FA101q, FS101q, FC101q, FH101q, VA101q, VS101q⟩ := q101
  have N101 := Fr.app N0 N101q
  have K101 : Keep h0 T101.heap [a1, b1, b2] := K0.trans K101q (allS (Or.inl (List.mem_of_getElem? (i := 0) rfl)) (allS (Or.inl (List.mem_of_getElem? (i := 1) rfl)) (allS (Or.inl (List.mem_of_getElem? (i := 2) rfl)) all0)))
  refine Gl.fin X101 (v := none) (fun _ => rfl) Bd.notSynchronized ?_ rfl (by decide) (by decide) (fun fs hr => ?_)
  · exact ⟨rfl, N101, K101, E101q, FA101q, FS101q, FC101q, FH101q, VA101q, VS101q⟩
  · show Steps p.tables e below (s₁.setTop (mkF m 0 #[.val (.ref a1), .val (.int p1), .val (.int p2), .val (.int p3)] [])) _
    refine XS.aloadN X0.here hx rfl (hb hby d3_0) rfl rfl ?_
    show Steps p.tables e below (s₁.setTop (mkF m 1 #[.val (.ref a1), .val (.int p1), .val (.int p2), .val (.int p3)] [(.ref a1)])) _
    refine XS.iloadN X0.here hx rfl (hb hby d3_1) rfl ?_
    show Steps p.tables e below (s₁.setTop (mkF m 2 #[.val (.ref a1), .val (.int p1), .val (.int p2), .val (.int p3)] [(.int p1), (.ref a1)])) _
    refine XS.iloadN X0.here hx rfl (hb hby d3_2) rfl ?_
    show Steps p.tables e below (s₁.setTop (mkF m 3 #[.val (.ref a1), .val (.int p1), .val (.int p2), .val (.int p3)] [(.int p3), (.int p1), (.ref a1)])) _
    refine XS.iadd X0.here hx rfl (hb hby d3_3) rfl ?_
    show Steps p.tables e below (s₁.setTop (mkF m 4 #[.val (.ref a1), .val (.int p1), .val (.int p2), .val (.int p3)] [(.int (p1 + p3)), (.ref a1)])) _
    refine XS.i2dS X0.here hx rfl (hb hby d3_4) rfl rfl ?_
    show Steps p.tables e below (s₁.setTop (mkF m 5 #[.val (.ref a1), .val (.int p1), .val (.int p2), .val (.int p3)] [(.double (FP.i2d (p1 + p3))), (.ref a1)])) _
    refine XS.iloadN X0.here hx rfl (hb hby d3_5) rfl ?_
    show Steps p.tables e below (s₁.setTop (mkF m 6 #[.val (.ref a1), .val (.int p1), .val (.int p2), .val (.int p3)] [(.int p2), (.double (FP.i2d (p1 + p3))), (.ref a1)])) _
    refine XS.iloadN X0.here hx rfl (hb hby d3_6) rfl ?_
    show Steps p.tables e below (s₁.setTop (mkF m 7 #[.val (.ref a1), .val (.int p1), .val (.int p2), .val (.int p3)] [(.int p3), (.int p2), (.double (FP.i2d (p1 + p3))), (.ref a1)])) _
    refine XS.isub X0.here hx rfl (hb hby d3_7) rfl ?_
    show Steps p.tables e below (s₁.setTop (mkF m 8 #[.val (.ref a1), .val (.int p1), .val (.int p2), .val (.int p3)] [(.int (p2 - p3)), (.double (FP.i2d (p1 + p3))), (.ref a1)])) _
    refine XS.i2dS X0.here hx rfl (hb hby d3_8) rfl rfl ?_
    show Steps p.tables e below (s₁.setTop (mkF m 9 #[.val (.ref a1), .val (.int p1), .val (.int p2), .val (.int p3)] [(.double (FP.i2d (p2 - p3))), (.double (FP.i2d (p1 + p3))), (.ref a1)])) _
    refine st101 _ ?_
    show Steps p.tables e below (T101.setTop (mkF m 12 #[.val (.ref a1), .val (.int p1), .val (.int p2), .val (.int p3)] [])) _
    exact X101.returnOut hx Bd.returns (hb hby d3_12) hr
theorem ef_rm4_0_6 (m : MethodId) (x0 : Addr) (x1 : UInt64) (x2 : UInt64) : entryFrame m #[(.ref x0), (.double x1), (.double x2)] 7 = mkF m 0 #[.val (.ref x0), .val (.double x1), .second, .val (.double x2), .second, .unset, .unset] [] := by first | (simp [entryFrame, mkF, argsToLocals, Value.category]; done) | rfl
def Q4_0_6 (Z : State) (a1 : Addr) (d1 : UInt64) (d2 : UInt64) (b1 : Addr) (b2 : Addr) (k1 : ClassId) (k2 : ClassId) (x0 : UInt64) (x1 : UInt64) (x2 : UInt64) (x3 : UInt64) (x4 : UInt64) (x5 : UInt64) (x6 : UInt64) (x7 : UInt64) (y0 : UInt64) (y1 : UInt64) (y2 : UInt64) (y3 : UInt64) (y4 : UInt64) (y5 : UInt64) (y6 : UInt64) (y7 : UInt64) (h0 : Heap) (n0 : Nat) (v : Option Value) (h : Heap) (L : List Loc) : Prop := v = none ∧ Fr n0 L ∧ Keep h0 h [a1, b1, b2] ∧ Exa Z h a1 "com/example/tenrec/tenrec/pool/RequestQueue" ∧ Fld Z h a1 "com/example/tenrec/tenrec/pool/RequestQueue" "arrivals" "[D" (.ref b1) ∧ Fld Z h a1 "com/example/tenrec/tenrec/pool/RequestQueue" "sizes" "[D" (.ref b2) ∧ Fld Z h a1 "com/example/tenrec/tenrec/pool/RequestQueue" "count" "I" (.int (7 : Int32)) ∧ Fld Z h a1 "com/example/tenrec/tenrec/pool/RequestQueue" "head" "I" (.int (0 : Int32)) ∧ Arv Z h b1 k1 .double (8 : Int32) [(.double x0), (.double x1), (.double x2), (.double x3), (.double x4), (.double x5), (.double d1), (.double x7)] (.double (0 : UInt64)) ∧ Arv Z h b2 k2 .double (8 : Int32) [(.double y0), (.double y1), (.double y2), (.double y3), (.double y4), (.double y5), (.double d2), (.double y7)] (.double (0 : UInt64))
set_option maxRecDepth 65536 in
set_option maxHeartbeats 40000000 in
theorem rm4_0_6 (l : Launch) (Z : State) (a0 : Array Value) (hw : ∀ d ∈ tables_1, d.before a0 Z = true) (ws : List Jvm.Cond) (a1 : Addr) (d1 : UInt64) (d2 : UInt64) (b1 : Addr) (b2 : Addr) (k1 : ClassId) (k2 : ClassId) (x0 : UInt64) (x1 : UInt64) (x2 : UInt64) (x3 : UInt64) (x4 : UInt64) (x5 : UInt64) (x6 : UInt64) (x7 : UInt64) (y0 : UInt64) (y1 : UInt64) (y2 : UInt64) (y3 : UInt64) (y4 : UInt64) (y5 : UInt64) (y6 : UInt64) (y7 : UInt64) (h0 : Heap) (n0 : Nat) (Z0 : n0 ≤ h0.size) (g_a1 : n0 ≤ a1) (g_b1 : n0 ≤ b1) (g_b2 : n0 ≤ b2) (ne1 : a1 ≠ b1) (ne2 : a1 ≠ b2) (ne3 : b1 ≠ b2) (E_a : Exa Z h0 a1 "com/example/tenrec/tenrec/pool/RequestQueue") (F_a : Fld Z h0 a1 "com/example/tenrec/tenrec/pool/RequestQueue" "arrivals" "[D" (.ref b1)) (F_s : Fld Z h0 a1 "com/example/tenrec/tenrec/pool/RequestQueue" "sizes" "[D" (.ref b2)) (F_c : Fld Z h0 a1 "com/example/tenrec/tenrec/pool/RequestQueue" "count" "I" (.int (6 : Int32))) (F_h : Fld Z h0 a1 "com/example/tenrec/tenrec/pool/RequestQueue" "head" "I" (.int (0 : Int32))) (V_a : Arv Z h0 b1 k1 .double (8 : Int32) [(.double x0), (.double x1), (.double x2), (.double x3), (.double x4), (.double x5), (.double x6), (.double x7)] (.double (0 : UInt64))) (V_s : Arv Z h0 b2 k2 .double (8 : Int32) [(.double y0), (.double y1), (.double y2), (.double y3), (.double y4), (.double y5), (.double y6), (.double y7)] (.double (0 : UInt64))) :
    OMet l Z (⟨"com/example/tenrec/tenrec/pool/RequestQueue", "add", "(DD)V"⟩ : MethodName) prog_34_method_2_code 7 none ws ({ frames := 0, cells := 0, slots := 0, locals := 0 } : Room) #[(.ref a1), (.double d1), (.double d2)] h0 (Q4_0_6 Z a1 d1 d2 b1 b2 k1 k2 x0 x1 x2 x3 x4 x5 x6 x7 y0 y1 y2 y3 y4 y5 y6 y7 h0 n0) := by
  refine own_body (plainFor_of_name pn_com_example_tenrec_tenrec_pool_RequestQueue) ?_
  intro p e s m below meth c s₁ Bd hml0 hZ e0
  have hx := Bd.exec
  have hby := Bd.bytes
  have hml : c.maxLocals = 7 := hml0
  have hown : s.vm.findClass "com/example/tenrec/tenrec/pool/RequestQueue" = some m.cls := findClass_of_methodNamed Bd.named
  have hnm := (name_of_methodNamed Bd.named Bd.method).1
  have X0 : Stand p l e ({ frames := 0, cells := 0, slots := 0, locals := 0 } : Room) s m #[(.ref a1), (.double d1), (.double d2)] below meth c s₁ [] 0 0 := Stand.of_body Bd
  have N0 := Fr.nil n0
  have K0 : Keep h0 h0 [a1, b1, b2] := Keep.refl _ _
  rw [ef_rm4_0_6]
  obtain ⟨T101, X101, e101, st101⟩ := getF X0 hx hZ hown (host := "") (Or.inl (hw _ (List.mem_of_getElem? (i := 23) rfl))) Via.refl e0 F_c (g := (mkF m 1 #[.val (.ref a1), .val (.double d1), .second, .val (.double d2), .second, .unset, .unset] [(.ref a1)])) rfl rfl (hb hby d4_1)
  obtain ⟨T102, X102, e102, st102⟩ := getF X101 hx hZ hown (host := "") (Or.inl (hw _ (List.mem_of_getElem? (i := 10) rfl))) Via.refl e101 F_a (g := (mkF m 5 #[.val (.ref a1), .val (.double d1), .second, .val (.double d2), .second, .unset, .unset] [(.ref a1), (.int (6 : Int32))])) rfl rfl (hb hby d4_5)
  obtain ⟨cl103, Ar103, qa103, Sa103, Na103, Ha103, Ga103⟩ := id V_a
  obtain ⟨T104, X104, e104, st104⟩ := getF X102 hx hZ hown (host := "") (Or.inl (hw _ (List.mem_of_getElem? (i := 10) rfl))) Via.refl e102 F_a (g := (mkF m 17 #[.val (.ref a1), .val (.double d1), .second, .val (.double d2), .second, .unset, .unset] [(.ref a1)])) rfl rfl (hb hby d4_17)
  obtain ⟨cl105, Ar105, qa105, Sa105, Na105, Ha105, Ga105⟩ := id V_a
  obtain ⟨T106, X106, e106, st106⟩ := getF X104 hx hZ hown (host := "") (Or.inl (hw _ (List.mem_of_getElem? (i := 23) rfl))) Via.refl e104 F_c (g := (mkF m 24 #[.val (.ref a1), .val (.double d1), .second, .val (.double d2), .second, .val (.int (8 : Int32)), .unset] [(.ref a1)])) rfl rfl (hb hby d4_24)
  obtain ⟨T107, X107, e107, st107⟩ := getF X106 hx hZ hown (host := "") (Or.inl (hw _ (List.mem_of_getElem? (i := 25) rfl))) Via.refl e106 F_h (g := (mkF m 30 #[.val (.ref a1), .val (.double d1), .second, .val (.double d2), .second, .val (.int (8 : Int32)), .unset] [(.ref a1), (.int (8 : Int32)), (.int (6 : Int32))])) rfl rfl (hb hby d4_30)
  obtain ⟨T108, X108, e108, st108⟩ := getF X107 hx hZ hown (host := "") (Or.inl (hw _ (List.mem_of_getElem? (i := 25) rfl))) Via.refl e107 F_h (g := (mkF m 38 #[.val (.ref a1), .val (.double d1), .second, .val (.double d2), .second, .val (.int (8 : Int32)), .unset] [(.ref a1)])) rfl rfl (hb hby d4_38)
  obtain ⟨T109, X109, e109, st109⟩ := getF X108 hx hZ hown (host := "") (Or.inl (hw _ (List.mem_of_getElem? (i := 23) rfl))) Via.refl e108 F_c (g := (mkF m 42 #[.val (.ref a1), .val (.double d1), .second, .val (.double d2), .second, .val (.int (8 : Int32)), .unset] [(.ref a1), (.int (0 : Int32))])) rfl rfl (hb hby d4_42)
  obtain ⟨T110, X110, e110, st110⟩ := getF X109 hx hZ hown (host := "") (Or.inl (hw _ (List.mem_of_getElem? (i := 10) rfl))) Via.refl e109 F_a (g := (mkF m 64 #[.val (.ref a1), .val (.double d1), .second, .val (.double d2), .second, .val (.int (8 : Int32)), .val (.int (6 : Int32))] [(.ref a1)])) rfl rfl (hb hby d4_64)
  obtain ⟨cl111, Ar111, qa111, Sa111, Na111, Ha111, Ga111⟩ := id V_a
  have hin111 : ¬ ((6 : Int32) < 0 ∨ cl111.slots.size ≤ ((6 : Int32)).toNatClampNeg) := inb_of Sa111 ⟨by decide, by decide⟩
  obtain ⟨T111, h111, X111, e111, W111, st111⟩ := stD X110 hx hZ e110 Ar111 (j := (6 : Int32)) hin111 (g := (mkF m 70 #[.val (.ref a1), .val (.double d1), .second, .val (.double d2), .second, .val (.int (8 : Int32)), .val (.int (6 : Int32))] [(.double d1), (.int (6 : Int32)), (.ref b1)])) rfl rfl (hb hby d4_70)
  have V_b1_111 := Arv.set Ar111 qa111 Sa111 Na111 Ha111 Ga111 rfl W111 6 rfl (Nat.le_of_ble_eq_true rfl)
  have V111 : Arv Z h111 b1 k1 .double (8 : Int32) [(.double x0), (.double x1), (.double x2), (.double x3), (.double x4), (.double x5), (.double d1), (.double x7)] (.double (0 : UInt64)) := V_b1_111
  have K111 : Keep h0 h111 [a1, b1, b2] := K0.wr W111 (Or.inl (List.mem_of_getElem? (i := 1) rfl))
  have N111 := Fr.snoc X111 N0 g_b1
  refine Gl.pre (S' := T111.setTop (mkF m 72 #[.val (.ref a1), .val (.double d1), .second, .val (.double d2), .second, .val (.int (8 : Int32)), .val (.int (6 : Int32))] [(.ref a1)])) (fun t kt => ?_) ?_
  · show Steps p.tables e below (s₁.setTop (mkF m 0 #[.val (.ref a1), .val (.double d1), .second, .val (.double d2), .second, .unset, .unset] [])) _
    refine XS.aloadN X0.here hx rfl (hb hby d4_0) rfl rfl ?_
    show Steps p.tables e below (s₁.setTop (mkF m 1 #[.val (.ref a1), .val (.double d1), .second, .val (.double d2), .second, .unset, .unset] [(.ref a1)])) _
    refine st101 _ ?_
    show Steps p.tables e below (T101.setTop (mkF m 4 #[.val (.ref a1), .val (.double d1), .second, .val (.double d2), .second, .unset, .unset] [(.int (6 : Int32))])) _
    refine XS.aloadN X101.here hx rfl (hb hby d4_4) rfl rfl ?_
    show Steps p.tables e below (T101.setTop (mkF m 5 #[.val (.ref a1), .val (.double d1), .second, .val (.double d2), .second, .unset, .unset] [(.ref a1), (.int (6 : Int32))])) _
    refine st102 _ ?_
    show Steps p.tables e below (T102.setTop (mkF m 8 #[.val (.ref a1), .val (.double d1), .second, .val (.double d2), .second, .unset, .unset] [(.ref b1), (.int (6 : Int32))])) _
    refine X102.arraylength hx (own_hc e102 Ar103.1) (State.isArrayOf_alike hZ.alike Ar103.2.1) (g := (mkF m 8 #[.val (.ref a1), .val (.double d1), .second, .val (.double d2), .second, .unset, .unset] [(.ref b1), (.int (6 : Int32))])) rfl rfl (hb hby d4_8) _ ?_
    rw [len_of Sa103 Na103]
    show Steps p.tables e below (T102.setTop (mkF m 9 #[.val (.ref a1), .val (.double d1), .second, .val (.double d2), .second, .unset, .unset] [(.int (8 : Int32)), (.int (6 : Int32))])) _
    refine XS.icmpYes X102.here hx rfl (pc0 := 9) (pc' := 16) rfl (hb hby d4_9) rfl (own_nt (ic_ne _ _) (by decide)) (by decide) (by decide) ?_
    show Steps p.tables e below (T102.setTop (mkF m 16 #[.val (.ref a1), .val (.double d1), .second, .val (.double d2), .second, .unset, .unset] [])) _
    refine XS.aloadN X102.here hx rfl (hb hby d4_16) rfl rfl ?_
    show Steps p.tables e below (T102.setTop (mkF m 17 #[.val (.ref a1), .val (.double d1), .second, .val (.double d2), .second, .unset, .unset] [(.ref a1)])) _
    refine st104 _ ?_
    show Steps p.tables e below (T104.setTop (mkF m 20 #[.val (.ref a1), .val (.double d1), .second, .val (.double d2), .second, .unset, .unset] [(.ref b1)])) _
    refine X104.arraylength hx (own_hc e104 Ar105.1) (State.isArrayOf_alike hZ.alike Ar105.2.1) (g := (mkF m 20 #[.val (.ref a1), .val (.double d1), .second, .val (.double d2), .second, .unset, .unset] [(.ref b1)])) rfl rfl (hb hby d4_20) _ ?_
    rw [len_of Sa105 Na105]
    show Steps p.tables e below (T104.setTop (mkF m 21 #[.val (.ref a1), .val (.double d1), .second, .val (.double d2), .second, .unset, .unset] [(.int (8 : Int32))])) _
    refine XS.istore X104.here hx rfl (hb hby d4_21) rfl (l' := #[.val (.ref a1), .val (.double d1), .second, .val (.double d2), .second, .val (.int (8 : Int32)), .unset]) rfl ?_
    show Steps p.tables e below (T104.setTop (mkF m 23 #[.val (.ref a1), .val (.double d1), .second, .val (.double d2), .second, .val (.int (8 : Int32)), .unset] [])) _
    refine XS.aloadN X104.here hx rfl (hb hby d4_23) rfl rfl ?_
    show Steps p.tables e below (T104.setTop (mkF m 24 #[.val (.ref a1), .val (.double d1), .second, .val (.double d2), .second, .val (.int (8 : Int32)), .unset] [(.ref a1)])) _
    refine st106 _ ?_
    show Steps p.tables e below (T106.setTop (mkF m 27 #[.val (.ref a1), .val (.double d1), .second, .val (.double d2), .second, .val (.int (8 : Int32)), .unset] [(.int (6 : Int32))])) _
    refine XS.iload X106.here hx rfl (hb hby d4_27) rfl ?_
    show Steps p.tables e below (T106.setTop (mkF m 29 #[.val (.ref a1), .val (.double d1), .second, .val (.double d2), .second, .val (.int (8 : Int32)), .unset] [(.int (8 : Int32)), (.int (6 : Int32))])) _
    refine XS.aloadN X106.here hx rfl (hb hby d4_29) rfl rfl ?_
    show Steps p.tables e below (T106.setTop (mkF m 30 #[.val (.ref a1), .val (.double d1), .second, .val (.double d2), .second, .val (.int (8 : Int32)), .unset] [(.ref a1), (.int (8 : Int32)), (.int (6 : Int32))])) _
    refine st107 _ ?_
    show Steps p.tables e below (T107.setTop (mkF m 33 #[.val (.ref a1), .val (.double d1), .second, .val (.double d2), .second, .val (.int (8 : Int32)), .unset] [(.int (0 : Int32)), (.int (8 : Int32)), (.int (6 : Int32))])) _
    refine XS.isub X107.here hx rfl (hb hby d4_33) rfl ?_
    show Steps p.tables e below (T107.setTop (mkF m 34 #[.val (.ref a1), .val (.double d1), .second, .val (.double d2), .second, .val (.int (8 : Int32)), .unset] [(.int (8 : Int32)), (.int (6 : Int32))])) _
    refine XS.icmpNo X107.here hx rfl (hb hby d4_34) rfl (own_nf (ic_ge _ _) (by decide)) ?_
    show Steps p.tables e below (T107.setTop (mkF m 37 #[.val (.ref a1), .val (.double d1), .second, .val (.double d2), .second, .val (.int (8 : Int32)), .unset] [])) _
    refine XS.aloadN X107.here hx rfl (hb hby d4_37) rfl rfl ?_
    show Steps p.tables e below (T107.setTop (mkF m 38 #[.val (.ref a1), .val (.double d1), .second, .val (.double d2), .second, .val (.int (8 : Int32)), .unset] [(.ref a1)])) _
    refine st108 _ ?_
    show Steps p.tables e below (T108.setTop (mkF m 41 #[.val (.ref a1), .val (.double d1), .second, .val (.double d2), .second, .val (.int (8 : Int32)), .unset] [(.int (0 : Int32))])) _
    refine XS.aloadN X108.here hx rfl (hb hby d4_41) rfl rfl ?_
    show Steps p.tables e below (T108.setTop (mkF m 42 #[.val (.ref a1), .val (.double d1), .second, .val (.double d2), .second, .val (.int (8 : Int32)), .unset] [(.ref a1), (.int (0 : Int32))])) _
    refine st109 _ ?_
    show Steps p.tables e below (T109.setTop (mkF m 45 #[.val (.ref a1), .val (.double d1), .second, .val (.double d2), .second, .val (.int (8 : Int32)), .unset] [(.int (6 : Int32)), (.int (0 : Int32))])) _
    refine XS.iadd X109.here hx rfl (hb hby d4_45) rfl ?_
    show Steps p.tables e below (T109.setTop (mkF m 46 #[.val (.ref a1), .val (.double d1), .second, .val (.double d2), .second, .val (.int (8 : Int32)), .unset] [(.int ((0 : Int32) + (6 : Int32)))])) _
    refine XS.goto X109.here hx rfl (pc0 := 46) (pc' := 61) rfl (hb hby d4_46) (by decide) (by decide) ?_
    show Steps p.tables e below (T109.setTop (mkF m 61 #[.val (.ref a1), .val (.double d1), .second, .val (.double d2), .second, .val (.int (8 : Int32)), .unset] [(.int (6 : Int32))])) _
    refine XS.istore X109.here hx rfl (hb hby d4_61) rfl (l' := #[.val (.ref a1), .val (.double d1), .second, .val (.double d2), .second, .val (.int (8 : Int32)), .val (.int (6 : Int32))]) rfl ?_
    show Steps p.tables e below (T109.setTop (mkF m 63 #[.val (.ref a1), .val (.double d1), .second, .val (.double d2), .second, .val (.int (8 : Int32)), .val (.int (6 : Int32))] [])) _
    refine XS.aloadN X109.here hx rfl (hb hby d4_63) rfl rfl ?_
    show Steps p.tables e below (T109.setTop (mkF m 64 #[.val (.ref a1), .val (.double d1), .second, .val (.double d2), .second, .val (.int (8 : Int32)), .val (.int (6 : Int32))] [(.ref a1)])) _
    refine st110 _ ?_
    show Steps p.tables e below (T110.setTop (mkF m 67 #[.val (.ref a1), .val (.double d1), .second, .val (.double d2), .second, .val (.int (8 : Int32)), .val (.int (6 : Int32))] [(.ref b1)])) _
    refine XS.iload X110.here hx rfl (hb hby d4_67) rfl ?_
    show Steps p.tables e below (T110.setTop (mkF m 69 #[.val (.ref a1), .val (.double d1), .second, .val (.double d2), .second, .val (.int (8 : Int32)), .val (.int (6 : Int32))] [(.int (6 : Int32)), (.ref b1)])) _
    refine XS.dloadN X110.here hx rfl (hb hby d4_69) rfl ?_
    show Steps p.tables e below (T110.setTop (mkF m 70 #[.val (.ref a1), .val (.double d1), .second, .val (.double d2), .second, .val (.int (8 : Int32)), .val (.int (6 : Int32))] [(.double d1), (.int (6 : Int32)), (.ref b1)])) _
    refine st111 _ ?_
    show Steps p.tables e below (T111.setTop (mkF m 71 #[.val (.ref a1), .val (.double d1), .second, .val (.double d2), .second, .val (.int (8 : Int32)), .val (.int (6 : Int32))] [])) _
    refine XS.aloadN X111.here hx rfl (hb hby d4_71) rfl rfl ?_
    exact kt
  have f112 := (F_s.other W111 (Or.inl ne1))
  obtain ⟨T113, X113, e113, st113⟩ := getF X111 hx hZ hown (host := "") (Or.inl (hw _ (List.mem_of_getElem? (i := 12) rfl))) Via.refl e111 f112 (g := (mkF m 72 #[.val (.ref a1), .val (.double d1), .second, .val (.double d2), .second, .val (.int (8 : Int32)), .val (.int (6 : Int32))] [(.ref a1)])) rfl rfl (hb hby d4_72)
  have f115 := (V_s.other W111 (Ne.symm ne3))
  obtain ⟨cl114, Ar114, qa114, Sa114, Na114, Ha114, Ga114⟩ := id f115
  have hin114 : ¬ ((6 : Int32) < 0 ∨ cl114.slots.size ≤ ((6 : Int32)).toNatClampNeg) := inb_of Sa114 ⟨by decide, by decide⟩
  obtain ⟨T114, h114, X114, e114, W114, st114⟩ := stD X113 hx hZ e113 Ar114 (j := (6 : Int32)) hin114 (g := (mkF m 78 #[.val (.ref a1), .val (.double d1), .second, .val (.double d2), .second, .val (.int (8 : Int32)), .val (.int (6 : Int32))] [(.double d2), (.int (6 : Int32)), (.ref b2)])) rfl rfl (hb hby d4_78)
  have V_b2_114 := Arv.set Ar114 qa114 Sa114 Na114 Ha114 Ga114 rfl W114 6 rfl (Nat.le_of_ble_eq_true rfl)
  have V114 : Arv Z h114 b2 k2 .double (8 : Int32) [(.double y0), (.double y1), (.double y2), (.double y3), (.double y4), (.double y5), (.double d2), (.double y7)] (.double (0 : UInt64)) := V_b2_114
  have K114 : Keep h0 h114 [a1, b1, b2] := K111.wr W114 (Or.inl (List.mem_of_getElem? (i := 2) rfl))
  have N114 := Fr.snoc X114 N111 g_b2
  have f116 := ((F_c.other W111 (Or.inl ne1)).other W114 (Or.inl ne2))
  obtain ⟨T117, X117, e117, st117⟩ := getF X114 hx hZ hown (host := "") (Or.inl (hw _ (List.mem_of_getElem? (i := 23) rfl))) Via.refl e114 f116 (g := (mkF m 81 #[.val (.ref a1), .val (.double d1), .second, .val (.double d2), .second, .val (.int (8 : Int32)), .val (.int (6 : Int32))] [(.ref a1), (.ref a1)])) rfl rfl (hb hby d4_81)
  have f118 := ((E_a.wr W111).wr W114)
  obtain ⟨T119, h119, X119, e119, W119, st119⟩ := putF X117 hx hZ hown (host := "") (Or.inl (hw _ (List.mem_of_getElem? (i := 23) rfl))) Via.refl e117 f116 f118 (Or.inl (hw _ (List.mem_of_getElem? (i := 24) rfl))) (hw _ (List.mem_of_getElem? (i := 1) rfl)) (ty := .int) (by decide) rfl rfl (g := (mkF m 86 #[.val (.ref a1), .val (.double d1), .second, .val (.double d2), .second, .val (.int (8 : Int32)), .val (.int (6 : Int32))] [(.int (7 : Int32)), (.ref a1)])) rfl rfl (hb hby d4_86)
  have Fw119 := f116.same W119
  have K119 : Keep h0 h119 [a1, b1, b2] := K114.wr W119 (Or.inl (List.mem_of_getElem? (i := 0) rfl))
  have N119 := Fr.snoc X119 N114 g_a1
  have f120 := (f118.wr W119)
  have f121 := (((F_a.other W111 (Or.inl ne1)).other W114 (Or.inl ne2)).other W119 (Or.inr (slot_ne (Or.inl (hw _ (List.mem_of_getElem? (i := 11) rfl))) (Or.inl (hw _ (List.mem_of_getElem? (i := 24) rfl))) (by decide) (t := (.array .double)) (t' := .int) (by decide) (by decide))))
  have f122 := ((f112.other W114 (Or.inl ne2)).other W119 (Or.inr (slot_ne (Or.inl (hw _ (List.mem_of_getElem? (i := 13) rfl))) (Or.inl (hw _ (List.mem_of_getElem? (i := 24) rfl))) (by decide) (t := (.array .double)) (t' := .int) (by decide) (by decide))))
  have f123 := (((F_h.other W111 (Or.inl ne1)).other W114 (Or.inl ne2)).other W119 (Or.inr (slot_ne (Or.inl (hw _ (List.mem_of_getElem? (i := 26) rfl))) (Or.inl (hw _ (List.mem_of_getElem? (i := 24) rfl))) (by decide) (t := .int) (t' := .int) (by decide) (by decide))))
  have f124 := ((V111.other W114 ne3).other W119 (Ne.symm ne1))
  have f125 := (V114.other W119 (Ne.symm ne2))
  refine Gl.fin X119 (v := none) (fun _ => rfl) Bd.notSynchronized ?_ e119 (by decide) (by decide) (fun fs hr => ?_)
  · exact ⟨rfl, N119, K119, f120, f121, f122, Fw119, f123, f124, f125⟩
  · show Steps p.tables e below (T111.setTop (mkF m 72 #[.val (.ref a1), .val (.double d1), .second, .val (.double d2), .second, .val (.int (8 : Int32)), .val (.int (6 : Int32))] [(.ref a1)])) _
    refine st113 _ ?_
    show Steps p.tables e below (T113.setTop (mkF m 75 #[.val (.ref a1), .val (.double d1), .second, .val (.double d2), .second, .val (.int (8 : Int32)), .val (.int (6 : Int32))] [(.ref b2)])) _
    refine XS.iload X113.here hx rfl (hb hby d4_75) rfl ?_
    show Steps p.tables e below (T113.setTop (mkF m 77 #[.val (.ref a1), .val (.double d1), .second, .val (.double d2), .second, .val (.int (8 : Int32)), .val (.int (6 : Int32))] [(.int (6 : Int32)), (.ref b2)])) _
    refine XS.dloadN X113.here hx rfl (hb hby d4_77) rfl ?_
    show Steps p.tables e below (T113.setTop (mkF m 78 #[.val (.ref a1), .val (.double d1), .second, .val (.double d2), .second, .val (.int (8 : Int32)), .val (.int (6 : Int32))] [(.double d2), (.int (6 : Int32)), (.ref b2)])) _
    refine st114 _ ?_
    show Steps p.tables e below (T114.setTop (mkF m 79 #[.val (.ref a1), .val (.double d1), .second, .val (.double d2), .second, .val (.int (8 : Int32)), .val (.int (6 : Int32))] [])) _
    refine XS.aloadN X114.here hx rfl (hb hby d4_79) rfl rfl ?_
    show Steps p.tables e below (T114.setTop (mkF m 80 #[.val (.ref a1), .val (.double d1), .second, .val (.double d2), .second, .val (.int (8 : Int32)), .val (.int (6 : Int32))] [(.ref a1)])) _
    refine XS.dup X114.here hx rfl (hb hby d4_80) rfl rfl ?_
    show Steps p.tables e below (T114.setTop (mkF m 81 #[.val (.ref a1), .val (.double d1), .second, .val (.double d2), .second, .val (.int (8 : Int32)), .val (.int (6 : Int32))] [(.ref a1), (.ref a1)])) _
    refine st117 _ ?_
    show Steps p.tables e below (T117.setTop (mkF m 84 #[.val (.ref a1), .val (.double d1), .second, .val (.double d2), .second, .val (.int (8 : Int32)), .val (.int (6 : Int32))] [(.int (6 : Int32)), (.ref a1)])) _
    refine XS.iconst X117.here hx rfl (hb hby d4_84) ?_
    show Steps p.tables e below (T117.setTop (mkF m 85 #[.val (.ref a1), .val (.double d1), .second, .val (.double d2), .second, .val (.int (8 : Int32)), .val (.int (6 : Int32))] [(.int (1 : Int32)), (.int (6 : Int32)), (.ref a1)])) _
    refine XS.iadd X117.here hx rfl (hb hby d4_85) rfl ?_
    show Steps p.tables e below (T117.setTop (mkF m 86 #[.val (.ref a1), .val (.double d1), .second, .val (.double d2), .second, .val (.int (8 : Int32)), .val (.int (6 : Int32))] [(.int (7 : Int32)), (.ref a1)])) _
    refine st119 _ ?_
    show Steps p.tables e below (T119.setTop (mkF m 89 #[.val (.ref a1), .val (.double d1), .second, .val (.double d2), .second, .val (.int (8 : Int32)), .val (.int (6 : Int32))] [])) _
    exact X119.returnOut hx Bd.returns (hb hby d4_89) hr
theorem ef_rm3_0_6 (m : MethodId) (x0 : Addr) (x1 : Int32) (x2 : Int32) (x3 : Int32) : entryFrame m #[(.ref x0), (.int x1), (.int x2), (.int x3)] 4 = mkF m 0 #[.val (.ref x0), .val (.int x1), .val (.int x2), .val (.int x3)] [] := by first | (simp [entryFrame, mkF, argsToLocals, Value.category]; done) | rfl
def Q3_0_6 (Z : State) (a1 : Addr) (p1 : Int32) (p2 : Int32) (p3 : Int32) (b1 : Addr) (b2 : Addr) (k1 : ClassId) (k2 : ClassId) (x0 : UInt64) (x1 : UInt64) (x2 : UInt64) (x3 : UInt64) (x4 : UInt64) (x5 : UInt64) (x6 : UInt64) (x7 : UInt64) (y0 : UInt64) (y1 : UInt64) (y2 : UInt64) (y3 : UInt64) (y4 : UInt64) (y5 : UInt64) (y6 : UInt64) (y7 : UInt64) (h0 : Heap) (n0 : Nat) (v : Option Value) (h : Heap) (L : List Loc) : Prop := v = none ∧ Fr n0 L ∧ Keep h0 h [a1, b1, b2] ∧ Exa Z h a1 "com/example/tenrec/tenrec/pool/RequestQueue" ∧ Fld Z h a1 "com/example/tenrec/tenrec/pool/RequestQueue" "arrivals" "[D" (.ref b1) ∧ Fld Z h a1 "com/example/tenrec/tenrec/pool/RequestQueue" "sizes" "[D" (.ref b2) ∧ Fld Z h a1 "com/example/tenrec/tenrec/pool/RequestQueue" "count" "I" (.int (7 : Int32)) ∧ Fld Z h a1 "com/example/tenrec/tenrec/pool/RequestQueue" "head" "I" (.int (0 : Int32)) ∧ Arv Z h b1 k1 .double (8 : Int32) [(.double x0), (.double x1), (.double x2), (.double x3), (.double x4), (.double x5), (.double (FP.i2d (p1 + p3))), (.double x7)] (.double (0 : UInt64)) ∧ Arv Z h b2 k2 .double (8 : Int32) [(.double y0), (.double y1), (.double y2), (.double y3), (.double y4), (.double y5), (.double (FP.i2d (p2 - p3))), (.double y7)] (.double (0 : UInt64))
set_option maxRecDepth 65536 in
set_option maxHeartbeats 40000000 in
theorem rm3_0_6 (l : Launch) (Z : State) (a0 : Array Value) (hw : ∀ d ∈ tables_1, d.before a0 Z = true) (ws : List Jvm.Cond) (a1 : Addr) (p1 : Int32) (p2 : Int32) (p3 : Int32) (b1 : Addr) (b2 : Addr) (k1 : ClassId) (k2 : ClassId) (x0 : UInt64) (x1 : UInt64) (x2 : UInt64) (x3 : UInt64) (x4 : UInt64) (x5 : UInt64) (x6 : UInt64) (x7 : UInt64) (y0 : UInt64) (y1 : UInt64) (y2 : UInt64) (y3 : UInt64) (y4 : UInt64) (y5 : UInt64) (y6 : UInt64) (y7 : UInt64) (h0 : Heap) (n0 : Nat) (Z0 : n0 ≤ h0.size) (g_a1 : n0 ≤ a1) (g_b1 : n0 ≤ b1) (g_b2 : n0 ≤ b2) (ne1 : a1 ≠ b1) (ne2 : a1 ≠ b2) (ne3 : b1 ≠ b2) (E_a : Exa Z h0 a1 "com/example/tenrec/tenrec/pool/RequestQueue") (F_a : Fld Z h0 a1 "com/example/tenrec/tenrec/pool/RequestQueue" "arrivals" "[D" (.ref b1)) (F_s : Fld Z h0 a1 "com/example/tenrec/tenrec/pool/RequestQueue" "sizes" "[D" (.ref b2)) (F_c : Fld Z h0 a1 "com/example/tenrec/tenrec/pool/RequestQueue" "count" "I" (.int (6 : Int32))) (F_h : Fld Z h0 a1 "com/example/tenrec/tenrec/pool/RequestQueue" "head" "I" (.int (0 : Int32))) (V_a : Arv Z h0 b1 k1 .double (8 : Int32) [(.double x0), (.double x1), (.double x2), (.double x3), (.double x4), (.double x5), (.double x6), (.double x7)] (.double (0 : UInt64))) (V_s : Arv Z h0 b2 k2 .double (8 : Int32) [(.double y0), (.double y1), (.double y2), (.double y3), (.double y4), (.double y5), (.double y6), (.double y7)] (.double (0 : UInt64))) :
    OMet l Z (⟨"com/example/tenrec/tenrec/pool/RequestQueueRemoveFirstPinLaw", "put", "(Lcom/example/tenrec/tenrec/pool/RequestQueue;III)V"⟩ : MethodName) method_2_code 4 none ws ({ frames := 1, cells := 0, slots := 0, locals := 18 } : Room) #[(.ref a1), (.int p1), (.int p2), (.int p3)] h0 (Q3_0_6 Z a1 p1 p2 p3 b1 b2 k1 k2 x0 x1 x2 x3 x4 x5 x6 x7 y0 y1 y2 y3 y4 y5 y6 y7 h0 n0) := by
  refine own_body (plainFor_of_name pn_com_example_tenrec_tenrec_pool_RequestQueueRemoveFirstPinLaw) ?_
  intro p e s m below meth c s₁ Bd hml0 hZ e0
  have hx := Bd.exec
  have hby := Bd.bytes
  have hml : c.maxLocals = 4 := hml0
  have hown : s.vm.findClass "com/example/tenrec/tenrec/pool/RequestQueueRemoveFirstPinLaw" = some m.cls := findClass_of_methodNamed Bd.named
  have hnm := (name_of_methodNamed Bd.named Bd.method).1
  have X0 : Stand p l e ({ frames := 1, cells := 0, slots := 0, locals := 18 } : Room) s m #[(.ref a1), (.int p1), (.int p2), (.int p3)] below meth c s₁ [] 0 0 := Stand.of_body Bd
  have N0 := Fr.nil n0
  have K0 : Keep h0 h0 [a1, b1, b2] := Keep.refl _ _
  rw [ef_rm3_0_6]
  obtain ⟨v101, T101, L101, X101, q101, st101⟩ := own_callV X0 hx hZ (y := (⟨"com/example/tenrec/tenrec/pool/RequestQueue", "add", "(DD)V"⟩ : MethodName)) (z := (⟨"com/example/tenrec/tenrec/pool/RequestQueue", "add", "(DD)V"⟩ : MethodName)) hown (hw _ (List.mem_of_getElem? (i := 18) rfl)) (hw _ (List.mem_of_getElem? (i := 19) rfl)) (notFace_of_selects (args := #[]) (mvT hZ (hw _ (List.mem_of_getElem? (i := 21) rfl)))) (hw _ (List.mem_of_getElem? (i := 21) rfl)) (hw _ (List.mem_of_getElem? (i := 20) rfl)) (hw _ (List.mem_of_getElem? (i := 2) rfl)) (hw _ (List.mem_of_getElem? (i := 22) rfl)) (by decide) E_a (hM := (rm4_0_6 l Z a0 hw [] a1 (FP.i2d (p1 + p3)) (FP.i2d (p2 - p3)) b1 b2 k1 k2 x0 x1 x2 x3 x4 x5 x6 x7 y0 y1 y2 y3 y4 y5 y6 y7 h0 n0 Z0 g_a1 g_b1 g_b2 ne1 ne2 ne3 E_a F_a F_s F_c F_h V_a V_s)) (by decide) (by decide) (by decide) (by decide) e0 (argsL := [(.double (FP.i2d (p1 + p3))), (.double (FP.i2d (p2 - p3)))]) (rest := []) (Ls := #[.val (.ref a1), .val (.int p1), .val (.int p2), .val (.int p3)]) (by rw [hml]; rfl) (lenOf pd__DD_V rfl) (W := 0) (Nat.le_of_eq rfl) (hb hby d3_9)
  obtain ⟨rfl, N101q, K101q, E101q, FA101q, FS101q, FC101q, FH101q, VA101q, VS101q⟩ := q101
  have N101 := Fr.app N0 N101q
  have K101 : Keep h0 T101.heap [a1, b1, b2] := K0.trans K101q (allS (Or.inl (List.mem_of_getElem? (i := 0) rfl)) (allS (Or.inl (List.mem_of_getElem? (i := 1) rfl)) (allS (Or.inl (List.mem_of_getElem? (i := 2) rfl)) all0)))
  refine Gl.fin X101 (v := none) (fun _ => rfl) Bd.notSynchronized ?_ rfl (by decide) (by decide) (fun fs hr => ?_)
  · exact ⟨rfl, N101, K101, E101q, FA101q, FS101q, FC101q, FH101q, VA101q, VS101q⟩
  · show Steps p.tables e below (s₁.setTop (mkF m 0 #[.val (.ref a1), .val (.int p1), .val (.int p2), .val (.int p3)] [])) _
    refine XS.aloadN X0.here hx rfl (hb hby d3_0) rfl rfl ?_
    show Steps p.tables e below (s₁.setTop (mkF m 1 #[.val (.ref a1), .val (.int p1), .val (.int p2), .val (.int p3)] [(.ref a1)])) _
    refine XS.iloadN X0.here hx rfl (hb hby d3_1) rfl ?_
    show Steps p.tables e below (s₁.setTop (mkF m 2 #[.val (.ref a1), .val (.int p1), .val (.int p2), .val (.int p3)] [(.int p1), (.ref a1)])) _
    refine XS.iloadN X0.here hx rfl (hb hby d3_2) rfl ?_
    show Steps p.tables e below (s₁.setTop (mkF m 3 #[.val (.ref a1), .val (.int p1), .val (.int p2), .val (.int p3)] [(.int p3), (.int p1), (.ref a1)])) _
    refine XS.iadd X0.here hx rfl (hb hby d3_3) rfl ?_
    show Steps p.tables e below (s₁.setTop (mkF m 4 #[.val (.ref a1), .val (.int p1), .val (.int p2), .val (.int p3)] [(.int (p1 + p3)), (.ref a1)])) _
    refine XS.i2dS X0.here hx rfl (hb hby d3_4) rfl rfl ?_
    show Steps p.tables e below (s₁.setTop (mkF m 5 #[.val (.ref a1), .val (.int p1), .val (.int p2), .val (.int p3)] [(.double (FP.i2d (p1 + p3))), (.ref a1)])) _
    refine XS.iloadN X0.here hx rfl (hb hby d3_5) rfl ?_
    show Steps p.tables e below (s₁.setTop (mkF m 6 #[.val (.ref a1), .val (.int p1), .val (.int p2), .val (.int p3)] [(.int p2), (.double (FP.i2d (p1 + p3))), (.ref a1)])) _
    refine XS.iloadN X0.here hx rfl (hb hby d3_6) rfl ?_
    show Steps p.tables e below (s₁.setTop (mkF m 7 #[.val (.ref a1), .val (.int p1), .val (.int p2), .val (.int p3)] [(.int p3), (.int p2), (.double (FP.i2d (p1 + p3))), (.ref a1)])) _
    refine XS.isub X0.here hx rfl (hb hby d3_7) rfl ?_
    show Steps p.tables e below (s₁.setTop (mkF m 8 #[.val (.ref a1), .val (.int p1), .val (.int p2), .val (.int p3)] [(.int (p2 - p3)), (.double (FP.i2d (p1 + p3))), (.ref a1)])) _
    refine XS.i2dS X0.here hx rfl (hb hby d3_8) rfl rfl ?_
    show Steps p.tables e below (s₁.setTop (mkF m 9 #[.val (.ref a1), .val (.int p1), .val (.int p2), .val (.int p3)] [(.double (FP.i2d (p2 - p3))), (.double (FP.i2d (p1 + p3))), (.ref a1)])) _
    refine st101 _ ?_
    show Steps p.tables e below (T101.setTop (mkF m 12 #[.val (.ref a1), .val (.int p1), .val (.int p2), .val (.int p3)] [])) _
    exact X101.returnOut hx Bd.returns (hb hby d3_12) hr
theorem ef_rm4_0_7 (m : MethodId) (x0 : Addr) (x1 : UInt64) (x2 : UInt64) : entryFrame m #[(.ref x0), (.double x1), (.double x2)] 7 = mkF m 0 #[.val (.ref x0), .val (.double x1), .second, .val (.double x2), .second, .unset, .unset] [] := by first | (simp [entryFrame, mkF, argsToLocals, Value.category]; done) | rfl
def Q4_0_7 (Z : State) (a1 : Addr) (d1 : UInt64) (d2 : UInt64) (b1 : Addr) (b2 : Addr) (k1 : ClassId) (k2 : ClassId) (x0 : UInt64) (x1 : UInt64) (x2 : UInt64) (x3 : UInt64) (x4 : UInt64) (x5 : UInt64) (x6 : UInt64) (x7 : UInt64) (y0 : UInt64) (y1 : UInt64) (y2 : UInt64) (y3 : UInt64) (y4 : UInt64) (y5 : UInt64) (y6 : UInt64) (y7 : UInt64) (h0 : Heap) (n0 : Nat) (v : Option Value) (h : Heap) (L : List Loc) : Prop := v = none ∧ Fr n0 L ∧ Keep h0 h [a1, b1, b2] ∧ Exa Z h a1 "com/example/tenrec/tenrec/pool/RequestQueue" ∧ Fld Z h a1 "com/example/tenrec/tenrec/pool/RequestQueue" "arrivals" "[D" (.ref b1) ∧ Fld Z h a1 "com/example/tenrec/tenrec/pool/RequestQueue" "sizes" "[D" (.ref b2) ∧ Fld Z h a1 "com/example/tenrec/tenrec/pool/RequestQueue" "count" "I" (.int (8 : Int32)) ∧ Fld Z h a1 "com/example/tenrec/tenrec/pool/RequestQueue" "head" "I" (.int (0 : Int32)) ∧ Arv Z h b1 k1 .double (8 : Int32) [(.double x0), (.double x1), (.double x2), (.double x3), (.double x4), (.double x5), (.double x6), (.double d1)] (.double (0 : UInt64)) ∧ Arv Z h b2 k2 .double (8 : Int32) [(.double y0), (.double y1), (.double y2), (.double y3), (.double y4), (.double y5), (.double y6), (.double d2)] (.double (0 : UInt64))
set_option maxRecDepth 65536 in
set_option maxHeartbeats 40000000 in
theorem rm4_0_7 (l : Launch) (Z : State) (a0 : Array Value) (hw : ∀ d ∈ tables_1, d.before a0 Z = true) (ws : List Jvm.Cond) (a1 : Addr) (d1 : UInt64) (d2 : UInt64) (b1 : Addr) (b2 : Addr) (k1 : ClassId) (k2 : ClassId) (x0 : UInt64) (x1 : UInt64) (x2 : UInt64) (x3 : UInt64) (x4 : UInt64) (x5 : UInt64) (x6 : UInt64) (x7 : UInt64) (y0 : UInt64) (y1 : UInt64) (y2 : UInt64) (y3 : UInt64) (y4 : UInt64) (y5 : UInt64) (y6 : UInt64) (y7 : UInt64) (h0 : Heap) (n0 : Nat) (Z0 : n0 ≤ h0.size) (g_a1 : n0 ≤ a1) (g_b1 : n0 ≤ b1) (g_b2 : n0 ≤ b2) (ne1 : a1 ≠ b1) (ne2 : a1 ≠ b2) (ne3 : b1 ≠ b2) (E_a : Exa Z h0 a1 "com/example/tenrec/tenrec/pool/RequestQueue") (F_a : Fld Z h0 a1 "com/example/tenrec/tenrec/pool/RequestQueue" "arrivals" "[D" (.ref b1)) (F_s : Fld Z h0 a1 "com/example/tenrec/tenrec/pool/RequestQueue" "sizes" "[D" (.ref b2)) (F_c : Fld Z h0 a1 "com/example/tenrec/tenrec/pool/RequestQueue" "count" "I" (.int (7 : Int32))) (F_h : Fld Z h0 a1 "com/example/tenrec/tenrec/pool/RequestQueue" "head" "I" (.int (0 : Int32))) (V_a : Arv Z h0 b1 k1 .double (8 : Int32) [(.double x0), (.double x1), (.double x2), (.double x3), (.double x4), (.double x5), (.double x6), (.double x7)] (.double (0 : UInt64))) (V_s : Arv Z h0 b2 k2 .double (8 : Int32) [(.double y0), (.double y1), (.double y2), (.double y3), (.double y4), (.double y5), (.double y6), (.double y7)] (.double (0 : UInt64))) :
    OMet l Z (⟨"com/example/tenrec/tenrec/pool/RequestQueue", "add", "(DD)V"⟩ : MethodName) prog_34_method_2_code 7 none ws ({ frames := 0, cells := 0, slots := 0, locals := 0 } : Room) #[(.ref a1), (.double d1), (.double d2)] h0 (Q4_0_7 Z a1 d1 d2 b1 b2 k1 k2 x0 x1 x2 x3 x4 x5 x6 x7 y0 y1 y2 y3 y4 y5 y6 y7 h0 n0) := by
  refine own_body (plainFor_of_name pn_com_example_tenrec_tenrec_pool_RequestQueue) ?_
  intro p e s m below meth c s₁ Bd hml0 hZ e0
  have hx := Bd.exec
  have hby := Bd.bytes
  have hml : c.maxLocals = 7 := hml0
  have hown : s.vm.findClass "com/example/tenrec/tenrec/pool/RequestQueue" = some m.cls := findClass_of_methodNamed Bd.named
  have hnm := (name_of_methodNamed Bd.named Bd.method).1
  have X0 : Stand p l e ({ frames := 0, cells := 0, slots := 0, locals := 0 } : Room) s m #[(.ref a1), (.double d1), (.double d2)] below meth c s₁ [] 0 0 := Stand.of_body Bd
  have N0 := Fr.nil n0
  have K0 : Keep h0 h0 [a1, b1, b2] := Keep.refl _ _
  rw [ef_rm4_0_7]
  obtain ⟨T101, X101, e101, st101⟩ := getF X0 hx hZ hown (host := "") (Or.inl (hw _ (List.mem_of_getElem? (i := 23) rfl))) Via.refl e0 F_c (g := (mkF m 1 #[.val (.ref a1), .val (.double d1), .second, .val (.double d2), .second, .unset, .unset] [(.ref a1)])) rfl rfl (hb hby d4_1)
  obtain ⟨T102, X102, e102, st102⟩ := getF X101 hx hZ hown (host := "") (Or.inl (hw _ (List.mem_of_getElem? (i := 10) rfl))) Via.refl e101 F_a (g := (mkF m 5 #[.val (.ref a1), .val (.double d1), .second, .val (.double d2), .second, .unset, .unset] [(.ref a1), (.int (7 : Int32))])) rfl rfl (hb hby d4_5)
  obtain ⟨cl103, Ar103, qa103, Sa103, Na103, Ha103, Ga103⟩ := id V_a
  obtain ⟨T104, X104, e104, st104⟩ := getF X102 hx hZ hown (host := "") (Or.inl (hw _ (List.mem_of_getElem? (i := 10) rfl))) Via.refl e102 F_a (g := (mkF m 17 #[.val (.ref a1), .val (.double d1), .second, .val (.double d2), .second, .unset, .unset] [(.ref a1)])) rfl rfl (hb hby d4_17)
  obtain ⟨cl105, Ar105, qa105, Sa105, Na105, Ha105, Ga105⟩ := id V_a
  obtain ⟨T106, X106, e106, st106⟩ := getF X104 hx hZ hown (host := "") (Or.inl (hw _ (List.mem_of_getElem? (i := 23) rfl))) Via.refl e104 F_c (g := (mkF m 24 #[.val (.ref a1), .val (.double d1), .second, .val (.double d2), .second, .val (.int (8 : Int32)), .unset] [(.ref a1)])) rfl rfl (hb hby d4_24)
  obtain ⟨T107, X107, e107, st107⟩ := getF X106 hx hZ hown (host := "") (Or.inl (hw _ (List.mem_of_getElem? (i := 25) rfl))) Via.refl e106 F_h (g := (mkF m 30 #[.val (.ref a1), .val (.double d1), .second, .val (.double d2), .second, .val (.int (8 : Int32)), .unset] [(.ref a1), (.int (8 : Int32)), (.int (7 : Int32))])) rfl rfl (hb hby d4_30)
  obtain ⟨T108, X108, e108, st108⟩ := getF X107 hx hZ hown (host := "") (Or.inl (hw _ (List.mem_of_getElem? (i := 25) rfl))) Via.refl e107 F_h (g := (mkF m 38 #[.val (.ref a1), .val (.double d1), .second, .val (.double d2), .second, .val (.int (8 : Int32)), .unset] [(.ref a1)])) rfl rfl (hb hby d4_38)
  obtain ⟨T109, X109, e109, st109⟩ := getF X108 hx hZ hown (host := "") (Or.inl (hw _ (List.mem_of_getElem? (i := 23) rfl))) Via.refl e108 F_c (g := (mkF m 42 #[.val (.ref a1), .val (.double d1), .second, .val (.double d2), .second, .val (.int (8 : Int32)), .unset] [(.ref a1), (.int (0 : Int32))])) rfl rfl (hb hby d4_42)
  obtain ⟨T110, X110, e110, st110⟩ := getF X109 hx hZ hown (host := "") (Or.inl (hw _ (List.mem_of_getElem? (i := 10) rfl))) Via.refl e109 F_a (g := (mkF m 64 #[.val (.ref a1), .val (.double d1), .second, .val (.double d2), .second, .val (.int (8 : Int32)), .val (.int (7 : Int32))] [(.ref a1)])) rfl rfl (hb hby d4_64)
  obtain ⟨cl111, Ar111, qa111, Sa111, Na111, Ha111, Ga111⟩ := id V_a
  have hin111 : ¬ ((7 : Int32) < 0 ∨ cl111.slots.size ≤ ((7 : Int32)).toNatClampNeg) := inb_of Sa111 ⟨by decide, by decide⟩
  obtain ⟨T111, h111, X111, e111, W111, st111⟩ := stD X110 hx hZ e110 Ar111 (j := (7 : Int32)) hin111 (g := (mkF m 70 #[.val (.ref a1), .val (.double d1), .second, .val (.double d2), .second, .val (.int (8 : Int32)), .val (.int (7 : Int32))] [(.double d1), (.int (7 : Int32)), (.ref b1)])) rfl rfl (hb hby d4_70)
  have V_b1_111 := Arv.set Ar111 qa111 Sa111 Na111 Ha111 Ga111 rfl W111 7 rfl (Nat.le_of_ble_eq_true rfl)
  have V111 : Arv Z h111 b1 k1 .double (8 : Int32) [(.double x0), (.double x1), (.double x2), (.double x3), (.double x4), (.double x5), (.double x6), (.double d1)] (.double (0 : UInt64)) := V_b1_111
  have K111 : Keep h0 h111 [a1, b1, b2] := K0.wr W111 (Or.inl (List.mem_of_getElem? (i := 1) rfl))
  have N111 := Fr.snoc X111 N0 g_b1
  refine Gl.pre (S' := T111.setTop (mkF m 72 #[.val (.ref a1), .val (.double d1), .second, .val (.double d2), .second, .val (.int (8 : Int32)), .val (.int (7 : Int32))] [(.ref a1)])) (fun t kt => ?_) ?_
  · show Steps p.tables e below (s₁.setTop (mkF m 0 #[.val (.ref a1), .val (.double d1), .second, .val (.double d2), .second, .unset, .unset] [])) _
    refine XS.aloadN X0.here hx rfl (hb hby d4_0) rfl rfl ?_
    show Steps p.tables e below (s₁.setTop (mkF m 1 #[.val (.ref a1), .val (.double d1), .second, .val (.double d2), .second, .unset, .unset] [(.ref a1)])) _
    refine st101 _ ?_
    show Steps p.tables e below (T101.setTop (mkF m 4 #[.val (.ref a1), .val (.double d1), .second, .val (.double d2), .second, .unset, .unset] [(.int (7 : Int32))])) _
    refine XS.aloadN X101.here hx rfl (hb hby d4_4) rfl rfl ?_
    show Steps p.tables e below (T101.setTop (mkF m 5 #[.val (.ref a1), .val (.double d1), .second, .val (.double d2), .second, .unset, .unset] [(.ref a1), (.int (7 : Int32))])) _
    refine st102 _ ?_
    show Steps p.tables e below (T102.setTop (mkF m 8 #[.val (.ref a1), .val (.double d1), .second, .val (.double d2), .second, .unset, .unset] [(.ref b1), (.int (7 : Int32))])) _
    refine X102.arraylength hx (own_hc e102 Ar103.1) (State.isArrayOf_alike hZ.alike Ar103.2.1) (g := (mkF m 8 #[.val (.ref a1), .val (.double d1), .second, .val (.double d2), .second, .unset, .unset] [(.ref b1), (.int (7 : Int32))])) rfl rfl (hb hby d4_8) _ ?_
    rw [len_of Sa103 Na103]
    show Steps p.tables e below (T102.setTop (mkF m 9 #[.val (.ref a1), .val (.double d1), .second, .val (.double d2), .second, .unset, .unset] [(.int (8 : Int32)), (.int (7 : Int32))])) _
    refine XS.icmpYes X102.here hx rfl (pc0 := 9) (pc' := 16) rfl (hb hby d4_9) rfl (own_nt (ic_ne _ _) (by decide)) (by decide) (by decide) ?_
    show Steps p.tables e below (T102.setTop (mkF m 16 #[.val (.ref a1), .val (.double d1), .second, .val (.double d2), .second, .unset, .unset] [])) _
    refine XS.aloadN X102.here hx rfl (hb hby d4_16) rfl rfl ?_
    show Steps p.tables e below (T102.setTop (mkF m 17 #[.val (.ref a1), .val (.double d1), .second, .val (.double d2), .second, .unset, .unset] [(.ref a1)])) _
    refine st104 _ ?_
    show Steps p.tables e below (T104.setTop (mkF m 20 #[.val (.ref a1), .val (.double d1), .second, .val (.double d2), .second, .unset, .unset] [(.ref b1)])) _
    refine X104.arraylength hx (own_hc e104 Ar105.1) (State.isArrayOf_alike hZ.alike Ar105.2.1) (g := (mkF m 20 #[.val (.ref a1), .val (.double d1), .second, .val (.double d2), .second, .unset, .unset] [(.ref b1)])) rfl rfl (hb hby d4_20) _ ?_
    rw [len_of Sa105 Na105]
    show Steps p.tables e below (T104.setTop (mkF m 21 #[.val (.ref a1), .val (.double d1), .second, .val (.double d2), .second, .unset, .unset] [(.int (8 : Int32))])) _
    refine XS.istore X104.here hx rfl (hb hby d4_21) rfl (l' := #[.val (.ref a1), .val (.double d1), .second, .val (.double d2), .second, .val (.int (8 : Int32)), .unset]) rfl ?_
    show Steps p.tables e below (T104.setTop (mkF m 23 #[.val (.ref a1), .val (.double d1), .second, .val (.double d2), .second, .val (.int (8 : Int32)), .unset] [])) _
    refine XS.aloadN X104.here hx rfl (hb hby d4_23) rfl rfl ?_
    show Steps p.tables e below (T104.setTop (mkF m 24 #[.val (.ref a1), .val (.double d1), .second, .val (.double d2), .second, .val (.int (8 : Int32)), .unset] [(.ref a1)])) _
    refine st106 _ ?_
    show Steps p.tables e below (T106.setTop (mkF m 27 #[.val (.ref a1), .val (.double d1), .second, .val (.double d2), .second, .val (.int (8 : Int32)), .unset] [(.int (7 : Int32))])) _
    refine XS.iload X106.here hx rfl (hb hby d4_27) rfl ?_
    show Steps p.tables e below (T106.setTop (mkF m 29 #[.val (.ref a1), .val (.double d1), .second, .val (.double d2), .second, .val (.int (8 : Int32)), .unset] [(.int (8 : Int32)), (.int (7 : Int32))])) _
    refine XS.aloadN X106.here hx rfl (hb hby d4_29) rfl rfl ?_
    show Steps p.tables e below (T106.setTop (mkF m 30 #[.val (.ref a1), .val (.double d1), .second, .val (.double d2), .second, .val (.int (8 : Int32)), .unset] [(.ref a1), (.int (8 : Int32)), (.int (7 : Int32))])) _
    refine st107 _ ?_
    show Steps p.tables e below (T107.setTop (mkF m 33 #[.val (.ref a1), .val (.double d1), .second, .val (.double d2), .second, .val (.int (8 : Int32)), .unset] [(.int (0 : Int32)), (.int (8 : Int32)), (.int (7 : Int32))])) _
    refine XS.isub X107.here hx rfl (hb hby d4_33) rfl ?_
    show Steps p.tables e below (T107.setTop (mkF m 34 #[.val (.ref a1), .val (.double d1), .second, .val (.double d2), .second, .val (.int (8 : Int32)), .unset] [(.int (8 : Int32)), (.int (7 : Int32))])) _
    refine XS.icmpNo X107.here hx rfl (hb hby d4_34) rfl (own_nf (ic_ge _ _) (by decide)) ?_
    show Steps p.tables e below (T107.setTop (mkF m 37 #[.val (.ref a1), .val (.double d1), .second, .val (.double d2), .second, .val (.int (8 : Int32)), .unset] [])) _
    refine XS.aloadN X107.here hx rfl (hb hby d4_37) rfl rfl ?_
    show Steps p.tables e below (T107.setTop (mkF m 38 #[.val (.ref a1), .val (.double d1), .second, .val (.double d2), .second, .val (.int (8 : Int32)), .unset] [(.ref a1)])) _
    refine st108 _ ?_
    show Steps p.tables e below (T108.setTop (mkF m 41 #[.val (.ref a1), .val (.double d1), .second, .val (.double d2), .second, .val (.int (8 : Int32)), .unset] [(.int (0 : Int32))])) _
    refine XS.aloadN X108.here hx rfl (hb hby d4_41) rfl rfl ?_
    show Steps p.tables e below (T108.setTop (mkF m 42 #[.val (.ref a1), .val (.double d1), .second, .val (.double d2), .second, .val (.int (8 : Int32)), .unset] [(.ref a1), (.int (0 : Int32))])) _
    refine st109 _ ?_
    show Steps p.tables e below (T109.setTop (mkF m 45 #[.val (.ref a1), .val (.double d1), .second, .val (.double d2), .second, .val (.int (8 : Int32)), .unset] [(.int (7 : Int32)), (.int (0 : Int32))])) _
    refine XS.iadd X109.here hx rfl (hb hby d4_45) rfl ?_
    show Steps p.tables e below (T109.setTop (mkF m 46 #[.val (.ref a1), .val (.double d1), .second, .val (.double d2), .second, .val (.int (8 : Int32)), .unset] [(.int ((0 : Int32) + (7 : Int32)))])) _
    refine XS.goto X109.here hx rfl (pc0 := 46) (pc' := 61) rfl (hb hby d4_46) (by decide) (by decide) ?_
    show Steps p.tables e below (T109.setTop (mkF m 61 #[.val (.ref a1), .val (.double d1), .second, .val (.double d2), .second, .val (.int (8 : Int32)), .unset] [(.int (7 : Int32))])) _
    refine XS.istore X109.here hx rfl (hb hby d4_61) rfl (l' := #[.val (.ref a1), .val (.double d1), .second, .val (.double d2), .second, .val (.int (8 : Int32)), .val (.int (7 : Int32))]) rfl ?_
    show Steps p.tables e below (T109.setTop (mkF m 63 #[.val (.ref a1), .val (.double d1), .second, .val (.double d2), .second, .val (.int (8 : Int32)), .val (.int (7 : Int32))] [])) _
    refine XS.aloadN X109.here hx rfl (hb hby d4_63) rfl rfl ?_
    show Steps p.tables e below (T109.setTop (mkF m 64 #[.val (.ref a1), .val (.double d1), .second, .val (.double d2), .second, .val (.int (8 : Int32)), .val (.int (7 : Int32))] [(.ref a1)])) _
    refine st110 _ ?_
    show Steps p.tables e below (T110.setTop (mkF m 67 #[.val (.ref a1), .val (.double d1), .second, .val (.double d2), .second, .val (.int (8 : Int32)), .val (.int (7 : Int32))] [(.ref b1)])) _
    refine XS.iload X110.here hx rfl (hb hby d4_67) rfl ?_
    show Steps p.tables e below (T110.setTop (mkF m 69 #[.val (.ref a1), .val (.double d1), .second, .val (.double d2), .second, .val (.int (8 : Int32)), .val (.int (7 : Int32))] [(.int (7 : Int32)), (.ref b1)])) _
    refine XS.dloadN X110.here hx rfl (hb hby d4_69) rfl ?_
    show Steps p.tables e below (T110.setTop (mkF m 70 #[.val (.ref a1), .val (.double d1), .second, .val (.double d2), .second, .val (.int (8 : Int32)), .val (.int (7 : Int32))] [(.double d1), (.int (7 : Int32)), (.ref b1)])) _
    refine st111 _ ?_
    show Steps p.tables e below (T111.setTop (mkF m 71 #[.val (.ref a1), .val (.double d1), .second, .val (.double d2), .second, .val (.int (8 : Int32)), .val (.int (7 : Int32))] [])) _
    refine XS.aloadN X111.here hx rfl (hb hby d4_71) rfl rfl ?_
    exact kt
  have f112 := (F_s.other W111 (Or.inl ne1))
  obtain ⟨T113, X113, e113, st113⟩ := getF X111 hx hZ hown (host := "") (Or.inl (hw _ (List.mem_of_getElem? (i := 12) rfl))) Via.refl e111 f112 (g := (mkF m 72 #[.val (.ref a1), .val (.double d1), .second, .val (.double d2), .second, .val (.int (8 : Int32)), .val (.int (7 : Int32))] [(.ref a1)])) rfl rfl (hb hby d4_72)
  have f115 := (V_s.other W111 (Ne.symm ne3))
  obtain ⟨cl114, Ar114, qa114, Sa114, Na114, Ha114, Ga114⟩ := id f115
  have hin114 : ¬ ((7 : Int32) < 0 ∨ cl114.slots.size ≤ ((7 : Int32)).toNatClampNeg) := inb_of Sa114 ⟨by decide, by decide⟩
  obtain ⟨T114, h114, X114, e114, W114, st114⟩ := stD X113 hx hZ e113 Ar114 (j := (7 : Int32)) hin114 (g := (mkF m 78 #[.val (.ref a1), .val (.double d1), .second, .val (.double d2), .second, .val (.int (8 : Int32)), .val (.int (7 : Int32))] [(.double d2), (.int (7 : Int32)), (.ref b2)])) rfl rfl (hb hby d4_78)
  have V_b2_114 := Arv.set Ar114 qa114 Sa114 Na114 Ha114 Ga114 rfl W114 7 rfl (Nat.le_of_ble_eq_true rfl)
  have V114 : Arv Z h114 b2 k2 .double (8 : Int32) [(.double y0), (.double y1), (.double y2), (.double y3), (.double y4), (.double y5), (.double y6), (.double d2)] (.double (0 : UInt64)) := V_b2_114
  have K114 : Keep h0 h114 [a1, b1, b2] := K111.wr W114 (Or.inl (List.mem_of_getElem? (i := 2) rfl))
  have N114 := Fr.snoc X114 N111 g_b2
  have f116 := ((F_c.other W111 (Or.inl ne1)).other W114 (Or.inl ne2))
  obtain ⟨T117, X117, e117, st117⟩ := getF X114 hx hZ hown (host := "") (Or.inl (hw _ (List.mem_of_getElem? (i := 23) rfl))) Via.refl e114 f116 (g := (mkF m 81 #[.val (.ref a1), .val (.double d1), .second, .val (.double d2), .second, .val (.int (8 : Int32)), .val (.int (7 : Int32))] [(.ref a1), (.ref a1)])) rfl rfl (hb hby d4_81)
  have f118 := ((E_a.wr W111).wr W114)
  obtain ⟨T119, h119, X119, e119, W119, st119⟩ := putF X117 hx hZ hown (host := "") (Or.inl (hw _ (List.mem_of_getElem? (i := 23) rfl))) Via.refl e117 f116 f118 (Or.inl (hw _ (List.mem_of_getElem? (i := 24) rfl))) (hw _ (List.mem_of_getElem? (i := 1) rfl)) (ty := .int) (by decide) rfl rfl (g := (mkF m 86 #[.val (.ref a1), .val (.double d1), .second, .val (.double d2), .second, .val (.int (8 : Int32)), .val (.int (7 : Int32))] [(.int (8 : Int32)), (.ref a1)])) rfl rfl (hb hby d4_86)
  have Fw119 := f116.same W119
  have K119 : Keep h0 h119 [a1, b1, b2] := K114.wr W119 (Or.inl (List.mem_of_getElem? (i := 0) rfl))
  have N119 := Fr.snoc X119 N114 g_a1
  have f120 := (f118.wr W119)
  have f121 := (((F_a.other W111 (Or.inl ne1)).other W114 (Or.inl ne2)).other W119 (Or.inr (slot_ne (Or.inl (hw _ (List.mem_of_getElem? (i := 11) rfl))) (Or.inl (hw _ (List.mem_of_getElem? (i := 24) rfl))) (by decide) (t := (.array .double)) (t' := .int) (by decide) (by decide))))
  have f122 := ((f112.other W114 (Or.inl ne2)).other W119 (Or.inr (slot_ne (Or.inl (hw _ (List.mem_of_getElem? (i := 13) rfl))) (Or.inl (hw _ (List.mem_of_getElem? (i := 24) rfl))) (by decide) (t := (.array .double)) (t' := .int) (by decide) (by decide))))
  have f123 := (((F_h.other W111 (Or.inl ne1)).other W114 (Or.inl ne2)).other W119 (Or.inr (slot_ne (Or.inl (hw _ (List.mem_of_getElem? (i := 26) rfl))) (Or.inl (hw _ (List.mem_of_getElem? (i := 24) rfl))) (by decide) (t := .int) (t' := .int) (by decide) (by decide))))
  have f124 := ((V111.other W114 ne3).other W119 (Ne.symm ne1))
  have f125 := (V114.other W119 (Ne.symm ne2))
  refine Gl.fin X119 (v := none) (fun _ => rfl) Bd.notSynchronized ?_ e119 (by decide) (by decide) (fun fs hr => ?_)
  · exact ⟨rfl, N119, K119, f120, f121, f122, Fw119, f123, f124, f125⟩
  · show Steps p.tables e below (T111.setTop (mkF m 72 #[.val (.ref a1), .val (.double d1), .second, .val (.double d2), .second, .val (.int (8 : Int32)), .val (.int (7 : Int32))] [(.ref a1)])) _
    refine st113 _ ?_
    show Steps p.tables e below (T113.setTop (mkF m 75 #[.val (.ref a1), .val (.double d1), .second, .val (.double d2), .second, .val (.int (8 : Int32)), .val (.int (7 : Int32))] [(.ref b2)])) _
    refine XS.iload X113.here hx rfl (hb hby d4_75) rfl ?_
    show Steps p.tables e below (T113.setTop (mkF m 77 #[.val (.ref a1), .val (.double d1), .second, .val (.double d2), .second, .val (.int (8 : Int32)), .val (.int (7 : Int32))] [(.int (7 : Int32)), (.ref b2)])) _
    refine XS.dloadN X113.here hx rfl (hb hby d4_77) rfl ?_
    show Steps p.tables e below (T113.setTop (mkF m 78 #[.val (.ref a1), .val (.double d1), .second, .val (.double d2), .second, .val (.int (8 : Int32)), .val (.int (7 : Int32))] [(.double d2), (.int (7 : Int32)), (.ref b2)])) _
    refine st114 _ ?_
    show Steps p.tables e below (T114.setTop (mkF m 79 #[.val (.ref a1), .val (.double d1), .second, .val (.double d2), .second, .val (.int (8 : Int32)), .val (.int (7 : Int32))] [])) _
    refine XS.aloadN X114.here hx rfl (hb hby d4_79) rfl rfl ?_
    show Steps p.tables e below (T114.setTop (mkF m 80 #[.val (.ref a1), .val (.double d1), .second, .val (.double d2), .second, .val (.int (8 : Int32)), .val (.int (7 : Int32))] [(.ref a1)])) _
    refine XS.dup X114.here hx rfl (hb hby d4_80) rfl rfl ?_
    show Steps p.tables e below (T114.setTop (mkF m 81 #[.val (.ref a1), .val (.double d1), .second, .val (.double d2), .second, .val (.int (8 : Int32)), .val (.int (7 : Int32))] [(.ref a1), (.ref a1)])) _
    refine st117 _ ?_
    show Steps p.tables e below (T117.setTop (mkF m 84 #[.val (.ref a1), .val (.double d1), .second, .val (.double d2), .second, .val (.int (8 : Int32)), .val (.int (7 : Int32))] [(.int (7 : Int32)), (.ref a1)])) _
    refine XS.iconst X117.here hx rfl (hb hby d4_84) ?_
    show Steps p.tables e below (T117.setTop (mkF m 85 #[.val (.ref a1), .val (.double d1), .second, .val (.double d2), .second, .val (.int (8 : Int32)), .val (.int (7 : Int32))] [(.int (1 : Int32)), (.int (7 : Int32)), (.ref a1)])) _
    refine XS.iadd X117.here hx rfl (hb hby d4_85) rfl ?_
    show Steps p.tables e below (T117.setTop (mkF m 86 #[.val (.ref a1), .val (.double d1), .second, .val (.double d2), .second, .val (.int (8 : Int32)), .val (.int (7 : Int32))] [(.int (8 : Int32)), (.ref a1)])) _
    refine st119 _ ?_
    show Steps p.tables e below (T119.setTop (mkF m 89 #[.val (.ref a1), .val (.double d1), .second, .val (.double d2), .second, .val (.int (8 : Int32)), .val (.int (7 : Int32))] [])) _
    exact X119.returnOut hx Bd.returns (hb hby d4_89) hr
theorem ef_rm3_0_7 (m : MethodId) (x0 : Addr) (x1 : Int32) (x2 : Int32) (x3 : Int32) : entryFrame m #[(.ref x0), (.int x1), (.int x2), (.int x3)] 4 = mkF m 0 #[.val (.ref x0), .val (.int x1), .val (.int x2), .val (.int x3)] [] := by first | (simp [entryFrame, mkF, argsToLocals, Value.category]; done) | rfl
def Q3_0_7 (Z : State) (a1 : Addr) (p1 : Int32) (p2 : Int32) (p3 : Int32) (b1 : Addr) (b2 : Addr) (k1 : ClassId) (k2 : ClassId) (x0 : UInt64) (x1 : UInt64) (x2 : UInt64) (x3 : UInt64) (x4 : UInt64) (x5 : UInt64) (x6 : UInt64) (x7 : UInt64) (y0 : UInt64) (y1 : UInt64) (y2 : UInt64) (y3 : UInt64) (y4 : UInt64) (y5 : UInt64) (y6 : UInt64) (y7 : UInt64) (h0 : Heap) (n0 : Nat) (v : Option Value) (h : Heap) (L : List Loc) : Prop := v = none ∧ Fr n0 L ∧ Keep h0 h [a1, b1, b2] ∧ Exa Z h a1 "com/example/tenrec/tenrec/pool/RequestQueue" ∧ Fld Z h a1 "com/example/tenrec/tenrec/pool/RequestQueue" "arrivals" "[D" (.ref b1) ∧ Fld Z h a1 "com/example/tenrec/tenrec/pool/RequestQueue" "sizes" "[D" (.ref b2) ∧ Fld Z h a1 "com/example/tenrec/tenrec/pool/RequestQueue" "count" "I" (.int (8 : Int32)) ∧ Fld Z h a1 "com/example/tenrec/tenrec/pool/RequestQueue" "head" "I" (.int (0 : Int32)) ∧ Arv Z h b1 k1 .double (8 : Int32) [(.double x0), (.double x1), (.double x2), (.double x3), (.double x4), (.double x5), (.double x6), (.double (FP.i2d (p1 + p3)))] (.double (0 : UInt64)) ∧ Arv Z h b2 k2 .double (8 : Int32) [(.double y0), (.double y1), (.double y2), (.double y3), (.double y4), (.double y5), (.double y6), (.double (FP.i2d (p2 - p3)))] (.double (0 : UInt64))
set_option maxRecDepth 65536 in
set_option maxHeartbeats 40000000 in
theorem rm3_0_7 (l : Launch) (Z : State) (a0 : Array Value) (hw : ∀ d ∈ tables_1, d.before a0 Z = true) (ws : List Jvm.Cond) (a1 : Addr) (p1 : Int32) (p2 : Int32) (p3 : Int32) (b1 : Addr) (b2 : Addr) (k1 : ClassId) (k2 : ClassId) (x0 : UInt64) (x1 : UInt64) (x2 : UInt64) (x3 : UInt64) (x4 : UInt64) (x5 : UInt64) (x6 : UInt64) (x7 : UInt64) (y0 : UInt64) (y1 : UInt64) (y2 : UInt64) (y3 : UInt64) (y4 : UInt64) (y5 : UInt64) (y6 : UInt64) (y7 : UInt64) (h0 : Heap) (n0 : Nat) (Z0 : n0 ≤ h0.size) (g_a1 : n0 ≤ a1) (g_b1 : n0 ≤ b1) (g_b2 : n0 ≤ b2) (ne1 : a1 ≠ b1) (ne2 : a1 ≠ b2) (ne3 : b1 ≠ b2) (E_a : Exa Z h0 a1 "com/example/tenrec/tenrec/pool/RequestQueue") (F_a : Fld Z h0 a1 "com/example/tenrec/tenrec/pool/RequestQueue" "arrivals" "[D" (.ref b1)) (F_s : Fld Z h0 a1 "com/example/tenrec/tenrec/pool/RequestQueue" "sizes" "[D" (.ref b2)) (F_c : Fld Z h0 a1 "com/example/tenrec/tenrec/pool/RequestQueue" "count" "I" (.int (7 : Int32))) (F_h : Fld Z h0 a1 "com/example/tenrec/tenrec/pool/RequestQueue" "head" "I" (.int (0 : Int32))) (V_a : Arv Z h0 b1 k1 .double (8 : Int32) [(.double x0), (.double x1), (.double x2), (.double x3), (.double x4), (.double x5), (.double x6), (.double x7)] (.double (0 : UInt64))) (V_s : Arv Z h0 b2 k2 .double (8 : Int32) [(.double y0), (.double y1), (.double y2), (.double y3), (.double y4), (.double y5), (.double y6), (.double y7)] (.double (0 : UInt64))) :
    OMet l Z (⟨"com/example/tenrec/tenrec/pool/RequestQueueRemoveFirstPinLaw", "put", "(Lcom/example/tenrec/tenrec/pool/RequestQueue;III)V"⟩ : MethodName) method_2_code 4 none ws ({ frames := 1, cells := 0, slots := 0, locals := 18 } : Room) #[(.ref a1), (.int p1), (.int p2), (.int p3)] h0 (Q3_0_7 Z a1 p1 p2 p3 b1 b2 k1 k2 x0 x1 x2 x3 x4 x5 x6 x7 y0 y1 y2 y3 y4 y5 y6 y7 h0 n0) := by
  refine own_body (plainFor_of_name pn_com_example_tenrec_tenrec_pool_RequestQueueRemoveFirstPinLaw) ?_
  intro p e s m below meth c s₁ Bd hml0 hZ e0
  have hx := Bd.exec
  have hby := Bd.bytes
  have hml : c.maxLocals = 4 := hml0
  have hown : s.vm.findClass "com/example/tenrec/tenrec/pool/RequestQueueRemoveFirstPinLaw" = some m.cls := findClass_of_methodNamed Bd.named
  have hnm := (name_of_methodNamed Bd.named Bd.method).1
  have X0 : Stand p l e ({ frames := 1, cells := 0, slots := 0, locals := 18 } : Room) s m #[(.ref a1), (.int p1), (.int p2), (.int p3)] below meth c s₁ [] 0 0 := Stand.of_body Bd
  have N0 := Fr.nil n0
  have K0 : Keep h0 h0 [a1, b1, b2] := Keep.refl _ _
  rw [ef_rm3_0_7]
  obtain ⟨v101, T101, L101, X101, q101, st101⟩ := own_callV X0 hx hZ (y := (⟨"com/example/tenrec/tenrec/pool/RequestQueue", "add", "(DD)V"⟩ : MethodName)) (z := (⟨"com/example/tenrec/tenrec/pool/RequestQueue", "add", "(DD)V"⟩ : MethodName)) hown (hw _ (List.mem_of_getElem? (i := 18) rfl)) (hw _ (List.mem_of_getElem? (i := 19) rfl)) (notFace_of_selects (args := #[]) (mvT hZ (hw _ (List.mem_of_getElem? (i := 21) rfl)))) (hw _ (List.mem_of_getElem? (i := 21) rfl)) (hw _ (List.mem_of_getElem? (i := 20) rfl)) (hw _ (List.mem_of_getElem? (i := 2) rfl)) (hw _ (List.mem_of_getElem? (i := 22) rfl)) (by decide) E_a (hM := (rm4_0_7 l Z a0 hw [] a1 (FP.i2d (p1 + p3)) (FP.i2d (p2 - p3)) b1 b2 k1 k2 x0 x1 x2 x3 x4 x5 x6 x7 y0 y1 y2 y3 y4 y5 y6 y7 h0 n0 Z0 g_a1 g_b1 g_b2 ne1 ne2 ne3 E_a F_a F_s F_c F_h V_a V_s)) (by decide) (by decide) (by decide) (by decide) e0 (argsL := [(.double (FP.i2d (p1 + p3))), (.double (FP.i2d (p2 - p3)))]) (rest := []) (Ls := #[.val (.ref a1), .val (.int p1), .val (.int p2), .val (.int p3)]) (by rw [hml]; rfl) (lenOf pd__DD_V rfl) (W := 0) (Nat.le_of_eq rfl) (hb hby d3_9)
  obtain ⟨rfl, N101q, K101q, E101q, FA101q, FS101q, FC101q, FH101q, VA101q, VS101q⟩ := q101
  have N101 := Fr.app N0 N101q
  have K101 : Keep h0 T101.heap [a1, b1, b2] := K0.trans K101q (allS (Or.inl (List.mem_of_getElem? (i := 0) rfl)) (allS (Or.inl (List.mem_of_getElem? (i := 1) rfl)) (allS (Or.inl (List.mem_of_getElem? (i := 2) rfl)) all0)))
  refine Gl.fin X101 (v := none) (fun _ => rfl) Bd.notSynchronized ?_ rfl (by decide) (by decide) (fun fs hr => ?_)
  · exact ⟨rfl, N101, K101, E101q, FA101q, FS101q, FC101q, FH101q, VA101q, VS101q⟩
  · show Steps p.tables e below (s₁.setTop (mkF m 0 #[.val (.ref a1), .val (.int p1), .val (.int p2), .val (.int p3)] [])) _
    refine XS.aloadN X0.here hx rfl (hb hby d3_0) rfl rfl ?_
    show Steps p.tables e below (s₁.setTop (mkF m 1 #[.val (.ref a1), .val (.int p1), .val (.int p2), .val (.int p3)] [(.ref a1)])) _
    refine XS.iloadN X0.here hx rfl (hb hby d3_1) rfl ?_
    show Steps p.tables e below (s₁.setTop (mkF m 2 #[.val (.ref a1), .val (.int p1), .val (.int p2), .val (.int p3)] [(.int p1), (.ref a1)])) _
    refine XS.iloadN X0.here hx rfl (hb hby d3_2) rfl ?_
    show Steps p.tables e below (s₁.setTop (mkF m 3 #[.val (.ref a1), .val (.int p1), .val (.int p2), .val (.int p3)] [(.int p3), (.int p1), (.ref a1)])) _
    refine XS.iadd X0.here hx rfl (hb hby d3_3) rfl ?_
    show Steps p.tables e below (s₁.setTop (mkF m 4 #[.val (.ref a1), .val (.int p1), .val (.int p2), .val (.int p3)] [(.int (p1 + p3)), (.ref a1)])) _
    refine XS.i2dS X0.here hx rfl (hb hby d3_4) rfl rfl ?_
    show Steps p.tables e below (s₁.setTop (mkF m 5 #[.val (.ref a1), .val (.int p1), .val (.int p2), .val (.int p3)] [(.double (FP.i2d (p1 + p3))), (.ref a1)])) _
    refine XS.iloadN X0.here hx rfl (hb hby d3_5) rfl ?_
    show Steps p.tables e below (s₁.setTop (mkF m 6 #[.val (.ref a1), .val (.int p1), .val (.int p2), .val (.int p3)] [(.int p2), (.double (FP.i2d (p1 + p3))), (.ref a1)])) _
    refine XS.iloadN X0.here hx rfl (hb hby d3_6) rfl ?_
    show Steps p.tables e below (s₁.setTop (mkF m 7 #[.val (.ref a1), .val (.int p1), .val (.int p2), .val (.int p3)] [(.int p3), (.int p2), (.double (FP.i2d (p1 + p3))), (.ref a1)])) _
    refine XS.isub X0.here hx rfl (hb hby d3_7) rfl ?_
    show Steps p.tables e below (s₁.setTop (mkF m 8 #[.val (.ref a1), .val (.int p1), .val (.int p2), .val (.int p3)] [(.int (p2 - p3)), (.double (FP.i2d (p1 + p3))), (.ref a1)])) _
    refine XS.i2dS X0.here hx rfl (hb hby d3_8) rfl rfl ?_
    show Steps p.tables e below (s₁.setTop (mkF m 9 #[.val (.ref a1), .val (.int p1), .val (.int p2), .val (.int p3)] [(.double (FP.i2d (p2 - p3))), (.double (FP.i2d (p1 + p3))), (.ref a1)])) _
    refine st101 _ ?_
    show Steps p.tables e below (T101.setTop (mkF m 12 #[.val (.ref a1), .val (.int p1), .val (.int p2), .val (.int p3)] [])) _
    exact X101.returnOut hx Bd.returns (hb hby d3_12) hr
theorem ef_rm5_0_8 (m : MethodId) (x0 : Addr) (x1 : Int32) (x2 : Int32) (x3 : Int32) (x4 : Int32) : entryFrame m #[(.ref x0), (.int x1), (.int x2), (.int x3), (.int x4)] 5 = mkF m 0 #[.val (.ref x0), .val (.int x1), .val (.int x2), .val (.int x3), .val (.int x4)] [] := by first | (simp [entryFrame, mkF, argsToLocals, Value.category]; done) | rfl
theorem d5_0 : decode method_3_code 0 = .ok (.aload_n 0, 1) := by decide +kernel
theorem d5_1 : decode method_3_code 1 = .ok (.invokevirtual 13, 3) := by decide +kernel
theorem pd___I : parseMethodDescriptor "()I" = some ⟨[], some .int⟩ := by decide +kernel
theorem d5_4 : decode method_3_code 4 = .ok (.iload_n 1, 1) := by decide +kernel
theorem d5_5 : decode method_3_code 5 = .ok (.if_icmp .ne 7, 3) := by decide +kernel
theorem d5_8 : decode method_3_code 8 = .ok (.iconst 1, 1) := by decide +kernel
theorem d5_9 : decode method_3_code 9 = .ok (.goto 4, 3) := by decide +kernel
theorem d5_13 : decode method_3_code 13 = .ok (.aload_n 0, 1) := by decide +kernel
theorem d5_14 : decode method_3_code 14 = .ok (.invokevirtual 17, 3) := by decide +kernel
theorem pd___Z : parseMethodDescriptor "()Z" = some ⟨[], some .boolean⟩ := by decide +kernel
theorem d5_17 : decode method_3_code 17 = .ok (.ifCond .ne 7, 3) := by decide +kernel
theorem d5_20 : decode method_3_code 20 = .ok (.iconst 1, 1) := by decide +kernel
theorem d5_21 : decode method_3_code 21 = .ok (.goto 4, 3) := by decide +kernel
theorem d5_25 : decode method_3_code 25 = .ok (.iand, 1) := by decide +kernel
theorem d5_26 : decode method_3_code 26 = .ok (.aload_n 0, 1) := by decide +kernel
theorem d5_27 : decode method_3_code 27 = .ok (.invokevirtual 21, 3) := by decide +kernel
theorem pd___D : parseMethodDescriptor "()D" = some ⟨[], some .double⟩ := by decide +kernel
theorem d5_30 : decode method_3_code 30 = .ok (.iload_n 2, 1) := by decide +kernel
theorem d5_31 : decode method_3_code 31 = .ok (.iload 4, 2) := by decide +kernel
theorem d5_33 : decode method_3_code 33 = .ok (.iadd, 1) := by decide +kernel
theorem d5_34 : decode method_3_code 34 = .ok (.i2d, 1) := by decide +kernel
theorem d5_35 : decode method_3_code 35 = .ok (.dcmp .l, 1) := by decide +kernel
theorem d5_36 : decode method_3_code 36 = .ok (.ifCond .ne 7, 3) := by decide +kernel
theorem d5_39 : decode method_3_code 39 = .ok (.iconst 1, 1) := by decide +kernel
theorem d5_40 : decode method_3_code 40 = .ok (.goto 4, 3) := by decide +kernel
theorem d5_44 : decode method_3_code 44 = .ok (.iand, 1) := by decide +kernel
theorem d5_45 : decode method_3_code 45 = .ok (.aload_n 0, 1) := by decide +kernel
theorem d5_46 : decode method_3_code 46 = .ok (.invokevirtual 25, 3) := by decide +kernel
theorem d5_49 : decode method_3_code 49 = .ok (.iload_n 3, 1) := by decide +kernel
theorem d5_50 : decode method_3_code 50 = .ok (.iload 4, 2) := by decide +kernel
theorem d5_52 : decode method_3_code 52 = .ok (.isub, 1) := by decide +kernel
theorem d5_53 : decode method_3_code 53 = .ok (.i2d, 1) := by decide +kernel
theorem d5_54 : decode method_3_code 54 = .ok (.dcmp .l, 1) := by decide +kernel
theorem d5_55 : decode method_3_code 55 = .ok (.ifCond .ne 7, 3) := by decide +kernel
theorem d5_58 : decode method_3_code 58 = .ok (.iconst 1, 1) := by decide +kernel
theorem d5_59 : decode method_3_code 59 = .ok (.goto 4, 3) := by decide +kernel
theorem d5_63 : decode method_3_code 63 = .ok (.iand, 1) := by decide +kernel
theorem d5_64 : decode method_3_code 64 = .ok (.ireturn, 1) := by decide +kernel
def Q5_0_8 (Z : State) (a1 : Addr) (p2 : Int32) (p3 : Int32) (p4 : Int32) (b1 : Addr) (b2 : Addr) (k1 : ClassId) (k2 : ClassId) (x1 : UInt64) (x2 : UInt64) (x3 : UInt64) (x4 : UInt64) (x5 : UInt64) (x6 : UInt64) (x7 : UInt64) (y1 : UInt64) (y2 : UInt64) (y3 : UInt64) (y4 : UInt64) (y5 : UInt64) (y6 : UInt64) (y7 : UInt64) (h0 : Heap) (n0 : Nat) (v : Option Value) (h : Heap) (L : List Loc) : Prop := v = some (.int 1) ∧ Fr n0 L ∧ h = h0
set_option maxRecDepth 65536 in
set_option maxHeartbeats 40000000 in
theorem rm5_0_8 (l : Launch) (Z : State) (a0 : Array Value) (hw : ∀ d ∈ tables_1, d.before a0 Z = true) (ws : List Jvm.Cond) (a1 : Addr) (p2 : Int32) (p3 : Int32) (p4 : Int32) (b1 : Addr) (b2 : Addr) (k1 : ClassId) (k2 : ClassId) (x1 : UInt64) (x2 : UInt64) (x3 : UInt64) (x4 : UInt64) (x5 : UInt64) (x6 : UInt64) (x7 : UInt64) (y1 : UInt64) (y2 : UInt64) (y3 : UInt64) (y4 : UInt64) (y5 : UInt64) (y6 : UInt64) (y7 : UInt64) (h0 : Heap) (n0 : Nat) (Z0 : n0 ≤ h0.size) (g_a1 : n0 ≤ a1) (g_b1 : n0 ≤ b1) (g_b2 : n0 ≤ b2) (ne1 : a1 ≠ b1) (ne2 : a1 ≠ b2) (ne3 : b1 ≠ b2) (E_a : Exa Z h0 a1 "com/example/tenrec/tenrec/pool/RequestQueue") (F_a : Fld Z h0 a1 "com/example/tenrec/tenrec/pool/RequestQueue" "arrivals" "[D" (.ref b1)) (F_s : Fld Z h0 a1 "com/example/tenrec/tenrec/pool/RequestQueue" "sizes" "[D" (.ref b2)) (F_c : Fld Z h0 a1 "com/example/tenrec/tenrec/pool/RequestQueue" "count" "I" (.int (8 : Int32))) (F_h : Fld Z h0 a1 "com/example/tenrec/tenrec/pool/RequestQueue" "head" "I" (.int (0 : Int32))) (V_a : Arv Z h0 b1 k1 .double (8 : Int32) [(.double (FP.i2d (p2 + p4))), (.double x1), (.double x2), (.double x3), (.double x4), (.double x5), (.double x6), (.double x7)] (.double (0 : UInt64))) (V_s : Arv Z h0 b2 k2 .double (8 : Int32) [(.double (FP.i2d (p3 - p4))), (.double y1), (.double y2), (.double y3), (.double y4), (.double y5), (.double y6), (.double y7)] (.double (0 : UInt64))) :
    OMet l Z (⟨"com/example/tenrec/tenrec/pool/RequestQueueRemoveFirstPinLaw", "front", "(Lcom/example/tenrec/tenrec/pool/RequestQueue;IIII)Z"⟩ : MethodName) method_3_code 5 (some .boolean) ws ({ frames := 1, cells := 0, slots := 0, locals := 15 } : Room) #[(.ref a1), (.int (8 : Int32)), (.int p2), (.int p3), (.int p4)] h0 (Q5_0_8 Z a1 p2 p3 p4 b1 b2 k1 k2 x1 x2 x3 x4 x5 x6 x7 y1 y2 y3 y4 y5 y6 y7 h0 n0) := by
  refine own_body (plainFor_of_name pn_com_example_tenrec_tenrec_pool_RequestQueueRemoveFirstPinLaw) ?_
  intro p e s m below meth c s₁ Bd hml0 hZ e0
  have hx := Bd.exec
  have hby := Bd.bytes
  have hml : c.maxLocals = 5 := hml0
  have hown : s.vm.findClass "com/example/tenrec/tenrec/pool/RequestQueueRemoveFirstPinLaw" = some m.cls := findClass_of_methodNamed Bd.named
  have hnm := (name_of_methodNamed Bd.named Bd.method).1
  have X0 : Stand p l e ({ frames := 1, cells := 0, slots := 0, locals := 15 } : Room) s m #[(.ref a1), (.int (8 : Int32)), (.int p2), (.int p3), (.int p4)] below meth c s₁ [] 0 0 := Stand.of_body Bd
  have N0 := Fr.nil n0
  have K0 : Keep h0 h0 [] := Keep.refl _ _
  rw [ef_rm5_0_8]
  obtain ⟨v101, T101, L101, X101, q101, st101⟩ := own_callV X0 hx hZ (y := (⟨"com/example/tenrec/tenrec/pool/RequestQueue", "size", "()I"⟩ : MethodName)) (z := (⟨"com/example/tenrec/tenrec/pool/RequestQueue", "size", "()I"⟩ : MethodName)) hown (hw _ (List.mem_of_getElem? (i := 30) rfl)) (hw _ (List.mem_of_getElem? (i := 31) rfl)) (notFace_of_selects (args := #[]) (mvT hZ (hw _ (List.mem_of_getElem? (i := 33) rfl)))) (hw _ (List.mem_of_getElem? (i := 33) rfl)) (hw _ (List.mem_of_getElem? (i := 32) rfl)) (hw _ (List.mem_of_getElem? (i := 2) rfl)) (hw _ (List.mem_of_getElem? (i := 34) rfl)) (by decide) E_a (hM := (rm6 l Z a0 hw [] a1 (8 : Int32) h0 n0 Z0 F_c)) (by decide) (by decide) (by decide) (by decide) e0 (argsL := []) (rest := []) (Ls := #[.val (.ref a1), .val (.int (8 : Int32)), .val (.int p2), .val (.int p3), .val (.int p4)]) (by rw [hml]; rfl) (lenOf pd___I rfl) (W := 0) (Nat.le_of_eq rfl) (hb hby d5_1)
  obtain ⟨rfl, N101q, e101⟩ := q101
  have N101 := Fr.app N0 N101q
  obtain ⟨v102, T102, L102, X102, q102, st102⟩ := own_callV X101 hx hZ (y := (⟨"com/example/tenrec/tenrec/pool/RequestQueue", "isEmpty", "()Z"⟩ : MethodName)) (z := (⟨"com/example/tenrec/tenrec/pool/RequestQueue", "isEmpty", "()Z"⟩ : MethodName)) hown (hw _ (List.mem_of_getElem? (i := 35) rfl)) (hw _ (List.mem_of_getElem? (i := 36) rfl)) (notFace_of_selects (args := #[]) (mvT hZ (hw _ (List.mem_of_getElem? (i := 38) rfl)))) (hw _ (List.mem_of_getElem? (i := 38) rfl)) (hw _ (List.mem_of_getElem? (i := 37) rfl)) (hw _ (List.mem_of_getElem? (i := 2) rfl)) (hw _ (List.mem_of_getElem? (i := 39) rfl)) (by decide) E_a (hM := (rm7 l Z a0 hw [] a1 (8 : Int32) h0 n0 Z0 F_c)) (by decide) (by decide) (by decide) (by decide) e101 (argsL := []) (rest := [(.int (1 : Int32))]) (Ls := #[.val (.ref a1), .val (.int (8 : Int32)), .val (.int p2), .val (.int p3), .val (.int p4)]) (by rw [hml]; rfl) (lenOf pd___Z rfl) (W := 1) (Nat.le_of_eq rfl) (hb hby d5_14)
  obtain ⟨rfl, N102q, e102⟩ := q102
  have N102 := Fr.app N101 N102q
  obtain ⟨v103, T103, L103, X103, q103, st103⟩ := own_callV X102 hx hZ (y := (⟨"com/example/tenrec/tenrec/pool/RequestQueue", "firstArrival", "()D"⟩ : MethodName)) (z := (⟨"com/example/tenrec/tenrec/pool/RequestQueue", "firstArrival", "()D"⟩ : MethodName)) hown (hw _ (List.mem_of_getElem? (i := 40) rfl)) (hw _ (List.mem_of_getElem? (i := 41) rfl)) (notFace_of_selects (args := #[]) (mvT hZ (hw _ (List.mem_of_getElem? (i := 43) rfl)))) (hw _ (List.mem_of_getElem? (i := 43) rfl)) (hw _ (List.mem_of_getElem? (i := 42) rfl)) (hw _ (List.mem_of_getElem? (i := 2) rfl)) (hw _ (List.mem_of_getElem? (i := 44) rfl)) (by decide) E_a (hM := (rm8_0 l Z a0 hw [] a1 b1 k1 (FP.i2d (p2 + p4)) x1 x2 x3 x4 x5 x6 x7 h0 n0 Z0 F_a F_h V_a)) (by decide) (by decide) (by decide) (by decide) e102 (argsL := []) (rest := [(.int (1 : Int32))]) (Ls := #[.val (.ref a1), .val (.int (8 : Int32)), .val (.int p2), .val (.int p3), .val (.int p4)]) (by rw [hml]; rfl) (lenOf pd___D rfl) (W := 1) (Nat.le_of_eq rfl) (hb hby d5_27)
  obtain ⟨rfl, N103q, e103⟩ := q103
  have N103 := Fr.app N102 N103q
  obtain ⟨v104, T104, L104, X104, q104, st104⟩ := own_callV X103 hx hZ (y := (⟨"com/example/tenrec/tenrec/pool/RequestQueue", "firstSize", "()D"⟩ : MethodName)) (z := (⟨"com/example/tenrec/tenrec/pool/RequestQueue", "firstSize", "()D"⟩ : MethodName)) hown (hw _ (List.mem_of_getElem? (i := 45) rfl)) (hw _ (List.mem_of_getElem? (i := 46) rfl)) (notFace_of_selects (args := #[]) (mvT hZ (hw _ (List.mem_of_getElem? (i := 48) rfl)))) (hw _ (List.mem_of_getElem? (i := 48) rfl)) (hw _ (List.mem_of_getElem? (i := 47) rfl)) (hw _ (List.mem_of_getElem? (i := 2) rfl)) (hw _ (List.mem_of_getElem? (i := 49) rfl)) (by decide) E_a (hM := (rm9_0 l Z a0 hw [] a1 b2 k2 (FP.i2d (p3 - p4)) y1 y2 y3 y4 y5 y6 y7 h0 n0 Z0 F_s F_h V_s)) (by decide) (by decide) (by decide) (by decide) e103 (argsL := []) (rest := [(.int (1 : Int32))]) (Ls := #[.val (.ref a1), .val (.int (8 : Int32)), .val (.int p2), .val (.int p3), .val (.int p4)]) (by rw [hml]; rfl) (lenOf pd___D rfl) (W := 1) (Nat.le_of_eq rfl) (hb hby d5_46)
  obtain ⟨rfl, N104q, e104⟩ := q104
  have N104 := Fr.app N103 N104q
  refine Gl.pre (S' := T104.setTop (mkF m 58 #[.val (.ref a1), .val (.int (8 : Int32)), .val (.int p2), .val (.int p3), .val (.int p4)] [(.int (1 : Int32))])) (fun t kt => ?_) ?_
  · show Steps p.tables e below (s₁.setTop (mkF m 0 #[.val (.ref a1), .val (.int (8 : Int32)), .val (.int p2), .val (.int p3), .val (.int p4)] [])) _
    refine XS.aloadN X0.here hx rfl (hb hby d5_0) rfl rfl ?_
    show Steps p.tables e below (s₁.setTop (mkF m 1 #[.val (.ref a1), .val (.int (8 : Int32)), .val (.int p2), .val (.int p3), .val (.int p4)] [(.ref a1)])) _
    refine st101 _ ?_
    show Steps p.tables e below (T101.setTop (mkF m 4 #[.val (.ref a1), .val (.int (8 : Int32)), .val (.int p2), .val (.int p3), .val (.int p4)] [(.int (8 : Int32))])) _
    refine XS.iloadN X101.here hx rfl (hb hby d5_4) rfl ?_
    show Steps p.tables e below (T101.setTop (mkF m 5 #[.val (.ref a1), .val (.int (8 : Int32)), .val (.int p2), .val (.int p3), .val (.int p4)] [(.int (8 : Int32)), (.int (8 : Int32))])) _
    refine XS.icmpNo X101.here hx rfl (hb hby d5_5) rfl (own_nf (ic_ne _ _) (by decide)) ?_
    show Steps p.tables e below (T101.setTop (mkF m 8 #[.val (.ref a1), .val (.int (8 : Int32)), .val (.int p2), .val (.int p3), .val (.int p4)] [])) _
    refine XS.iconst X101.here hx rfl (hb hby d5_8) ?_
    show Steps p.tables e below (T101.setTop (mkF m 9 #[.val (.ref a1), .val (.int (8 : Int32)), .val (.int p2), .val (.int p3), .val (.int p4)] [(.int (1 : Int32))])) _
    refine XS.goto X101.here hx rfl (pc0 := 9) (pc' := 13) rfl (hb hby d5_9) (by decide) (by decide) ?_
    show Steps p.tables e below (T101.setTop (mkF m 13 #[.val (.ref a1), .val (.int (8 : Int32)), .val (.int p2), .val (.int p3), .val (.int p4)] [(.int (1 : Int32))])) _
    refine XS.aloadN X101.here hx rfl (hb hby d5_13) rfl rfl ?_
    show Steps p.tables e below (T101.setTop (mkF m 14 #[.val (.ref a1), .val (.int (8 : Int32)), .val (.int p2), .val (.int p3), .val (.int p4)] [(.ref a1), (.int (1 : Int32))])) _
    refine st102 _ ?_
    show Steps p.tables e below (T102.setTop (mkF m 17 #[.val (.ref a1), .val (.int (8 : Int32)), .val (.int p2), .val (.int p3), .val (.int p4)] [(.int (0 : Int32)), (.int (1 : Int32))])) _
    refine XS.ifNo X102.here hx rfl (hb hby d5_17) rfl (own_nf (i0_ne _) (by decide)) ?_
    show Steps p.tables e below (T102.setTop (mkF m 20 #[.val (.ref a1), .val (.int (8 : Int32)), .val (.int p2), .val (.int p3), .val (.int p4)] [(.int (1 : Int32))])) _
    refine XS.iconst X102.here hx rfl (hb hby d5_20) ?_
    show Steps p.tables e below (T102.setTop (mkF m 21 #[.val (.ref a1), .val (.int (8 : Int32)), .val (.int p2), .val (.int p3), .val (.int p4)] [(.int (1 : Int32)), (.int (1 : Int32))])) _
    refine XS.goto X102.here hx rfl (pc0 := 21) (pc' := 25) rfl (hb hby d5_21) (by decide) (by decide) ?_
    show Steps p.tables e below (T102.setTop (mkF m 25 #[.val (.ref a1), .val (.int (8 : Int32)), .val (.int p2), .val (.int p3), .val (.int p4)] [(.int (1 : Int32)), (.int (1 : Int32))])) _
    refine XS.iand X102.here hx rfl (hb hby d5_25) rfl ?_
    show Steps p.tables e below (T102.setTop (mkF m 26 #[.val (.ref a1), .val (.int (8 : Int32)), .val (.int p2), .val (.int p3), .val (.int p4)] [(.int (1 : Int32))])) _
    refine XS.aloadN X102.here hx rfl (hb hby d5_26) rfl rfl ?_
    show Steps p.tables e below (T102.setTop (mkF m 27 #[.val (.ref a1), .val (.int (8 : Int32)), .val (.int p2), .val (.int p3), .val (.int p4)] [(.ref a1), (.int (1 : Int32))])) _
    refine st103 _ ?_
    show Steps p.tables e below (T103.setTop (mkF m 30 #[.val (.ref a1), .val (.int (8 : Int32)), .val (.int p2), .val (.int p3), .val (.int p4)] [(.double (FP.i2d (p2 + p4))), (.int (1 : Int32))])) _
    refine XS.iloadN X103.here hx rfl (hb hby d5_30) rfl ?_
    show Steps p.tables e below (T103.setTop (mkF m 31 #[.val (.ref a1), .val (.int (8 : Int32)), .val (.int p2), .val (.int p3), .val (.int p4)] [(.int p2), (.double (FP.i2d (p2 + p4))), (.int (1 : Int32))])) _
    refine XS.iload X103.here hx rfl (hb hby d5_31) rfl ?_
    show Steps p.tables e below (T103.setTop (mkF m 33 #[.val (.ref a1), .val (.int (8 : Int32)), .val (.int p2), .val (.int p3), .val (.int p4)] [(.int p4), (.int p2), (.double (FP.i2d (p2 + p4))), (.int (1 : Int32))])) _
    refine XS.iadd X103.here hx rfl (hb hby d5_33) rfl ?_
    show Steps p.tables e below (T103.setTop (mkF m 34 #[.val (.ref a1), .val (.int (8 : Int32)), .val (.int p2), .val (.int p3), .val (.int p4)] [(.int (p2 + p4)), (.double (FP.i2d (p2 + p4))), (.int (1 : Int32))])) _
    refine XS.i2dS X103.here hx rfl (hb hby d5_34) rfl rfl ?_
    show Steps p.tables e below (T103.setTop (mkF m 35 #[.val (.ref a1), .val (.int (8 : Int32)), .val (.int p2), .val (.int p3), .val (.int p4)] [(.double (FP.i2d (p2 + p4))), (.double (FP.i2d (p2 + p4))), (.int (1 : Int32))])) _
    refine XS.dcmpS X103.here hx rfl (hb hby d5_35) rfl (dcmpV_self (nn_w (i2d_w _)) _) ?_
    show Steps p.tables e below (T103.setTop (mkF m 36 #[.val (.ref a1), .val (.int (8 : Int32)), .val (.int p2), .val (.int p3), .val (.int p4)] [(.int (0 : Int32)), (.int (1 : Int32))])) _
    refine XS.ifNo X103.here hx rfl (hb hby d5_36) rfl (own_nf (i0_ne _) (by decide)) ?_
    show Steps p.tables e below (T103.setTop (mkF m 39 #[.val (.ref a1), .val (.int (8 : Int32)), .val (.int p2), .val (.int p3), .val (.int p4)] [(.int (1 : Int32))])) _
    refine XS.iconst X103.here hx rfl (hb hby d5_39) ?_
    show Steps p.tables e below (T103.setTop (mkF m 40 #[.val (.ref a1), .val (.int (8 : Int32)), .val (.int p2), .val (.int p3), .val (.int p4)] [(.int (1 : Int32)), (.int (1 : Int32))])) _
    refine XS.goto X103.here hx rfl (pc0 := 40) (pc' := 44) rfl (hb hby d5_40) (by decide) (by decide) ?_
    show Steps p.tables e below (T103.setTop (mkF m 44 #[.val (.ref a1), .val (.int (8 : Int32)), .val (.int p2), .val (.int p3), .val (.int p4)] [(.int (1 : Int32)), (.int (1 : Int32))])) _
    refine XS.iand X103.here hx rfl (hb hby d5_44) rfl ?_
    show Steps p.tables e below (T103.setTop (mkF m 45 #[.val (.ref a1), .val (.int (8 : Int32)), .val (.int p2), .val (.int p3), .val (.int p4)] [(.int (1 : Int32))])) _
    refine XS.aloadN X103.here hx rfl (hb hby d5_45) rfl rfl ?_
    show Steps p.tables e below (T103.setTop (mkF m 46 #[.val (.ref a1), .val (.int (8 : Int32)), .val (.int p2), .val (.int p3), .val (.int p4)] [(.ref a1), (.int (1 : Int32))])) _
    refine st104 _ ?_
    show Steps p.tables e below (T104.setTop (mkF m 49 #[.val (.ref a1), .val (.int (8 : Int32)), .val (.int p2), .val (.int p3), .val (.int p4)] [(.double (FP.i2d (p3 - p4))), (.int (1 : Int32))])) _
    refine XS.iloadN X104.here hx rfl (hb hby d5_49) rfl ?_
    show Steps p.tables e below (T104.setTop (mkF m 50 #[.val (.ref a1), .val (.int (8 : Int32)), .val (.int p2), .val (.int p3), .val (.int p4)] [(.int p3), (.double (FP.i2d (p3 - p4))), (.int (1 : Int32))])) _
    refine XS.iload X104.here hx rfl (hb hby d5_50) rfl ?_
    show Steps p.tables e below (T104.setTop (mkF m 52 #[.val (.ref a1), .val (.int (8 : Int32)), .val (.int p2), .val (.int p3), .val (.int p4)] [(.int p4), (.int p3), (.double (FP.i2d (p3 - p4))), (.int (1 : Int32))])) _
    refine XS.isub X104.here hx rfl (hb hby d5_52) rfl ?_
    show Steps p.tables e below (T104.setTop (mkF m 53 #[.val (.ref a1), .val (.int (8 : Int32)), .val (.int p2), .val (.int p3), .val (.int p4)] [(.int (p3 - p4)), (.double (FP.i2d (p3 - p4))), (.int (1 : Int32))])) _
    refine XS.i2dS X104.here hx rfl (hb hby d5_53) rfl rfl ?_
    show Steps p.tables e below (T104.setTop (mkF m 54 #[.val (.ref a1), .val (.int (8 : Int32)), .val (.int p2), .val (.int p3), .val (.int p4)] [(.double (FP.i2d (p3 - p4))), (.double (FP.i2d (p3 - p4))), (.int (1 : Int32))])) _
    refine XS.dcmpS X104.here hx rfl (hb hby d5_54) rfl (dcmpV_self (nn_w (i2d_w _)) _) ?_
    show Steps p.tables e below (T104.setTop (mkF m 55 #[.val (.ref a1), .val (.int (8 : Int32)), .val (.int p2), .val (.int p3), .val (.int p4)] [(.int (0 : Int32)), (.int (1 : Int32))])) _
    refine XS.ifNo X104.here hx rfl (hb hby d5_55) rfl (own_nf (i0_ne _) (by decide)) ?_
    exact kt
  refine Gl.fin X104 (v := some (.int (1 : Int32))) (fun h => by rw [Bd.returns] at h; cases h) Bd.notSynchronized ?_ e104 (by decide) (by decide) (fun fs hr => ?_)
  · exact ⟨rfl, N104, rfl⟩
  · show Steps p.tables e below (T104.setTop (mkF m 58 #[.val (.ref a1), .val (.int (8 : Int32)), .val (.int p2), .val (.int p3), .val (.int p4)] [(.int (1 : Int32))])) _
    refine XS.iconst X104.here hx rfl (hb hby d5_58) ?_
    show Steps p.tables e below (T104.setTop (mkF m 59 #[.val (.ref a1), .val (.int (8 : Int32)), .val (.int p2), .val (.int p3), .val (.int p4)] [(.int (1 : Int32)), (.int (1 : Int32))])) _
    refine XS.goto X104.here hx rfl (pc0 := 59) (pc' := 63) rfl (hb hby d5_59) (by decide) (by decide) ?_
    show Steps p.tables e below (T104.setTop (mkF m 63 #[.val (.ref a1), .val (.int (8 : Int32)), .val (.int p2), .val (.int p3), .val (.int p4)] [(.int (1 : Int32)), (.int (1 : Int32))])) _
    refine XS.iand X104.here hx rfl (hb hby d5_63) rfl ?_
    show Steps p.tables e below (T104.setTop (mkF m 64 #[.val (.ref a1), .val (.int (8 : Int32)), .val (.int p2), .val (.int p3), .val (.int p4)] [(.int (1 : Int32))])) _
    exact retN X104 hx (t := .boolean) Bd.returns (by simp) (hb hby d5_64) hr
theorem ef_rm10_0_8 (m : MethodId) (x0 : Addr) : entryFrame m #[(.ref x0)] 1 = mkF m 0 #[.val (.ref x0)] [] := by first | (simp [entryFrame, mkF, argsToLocals, Value.category]; done) | rfl
theorem d10_0 : decode prog_34_method_7_code 0 = .ok (.aload_n 0, 1) := by decide +kernel
theorem d10_1 : decode prog_34_method_7_code 1 = .ok (.aload_n 0, 1) := by decide +kernel
theorem d10_2 : decode prog_34_method_7_code 2 = .ok (.getfield 23, 3) := by decide +kernel
theorem d10_5 : decode prog_34_method_7_code 5 = .ok (.aload_n 0, 1) := by decide +kernel
theorem d10_6 : decode prog_34_method_7_code 6 = .ok (.getfield 9, 3) := by decide +kernel
theorem d10_9 : decode prog_34_method_7_code 9 = .ok (.arraylength, 1) := by decide +kernel
theorem d10_10 : decode prog_34_method_7_code 10 = .ok (.iconst 1, 1) := by decide +kernel
theorem d10_11 : decode prog_34_method_7_code 11 = .ok (.isub, 1) := by decide +kernel
theorem d10_12 : decode prog_34_method_7_code 12 = .ok (.if_icmp .ne 7, 3) := by decide +kernel
theorem d10_19 : decode prog_34_method_7_code 19 = .ok (.aload_n 0, 1) := by decide +kernel
theorem d10_20 : decode prog_34_method_7_code 20 = .ok (.getfield 23, 3) := by decide +kernel
theorem d10_23 : decode prog_34_method_7_code 23 = .ok (.iconst 1, 1) := by decide +kernel
theorem d10_24 : decode prog_34_method_7_code 24 = .ok (.iadd, 1) := by decide +kernel
theorem d10_25 : decode prog_34_method_7_code 25 = .ok (.putfield 23, 3) := by decide +kernel
theorem d10_28 : decode prog_34_method_7_code 28 = .ok (.aload_n 0, 1) := by decide +kernel
theorem d10_29 : decode prog_34_method_7_code 29 = .ok (.dup, 1) := by decide +kernel
theorem d10_30 : decode prog_34_method_7_code 30 = .ok (.getfield 16, 3) := by decide +kernel
theorem d10_33 : decode prog_34_method_7_code 33 = .ok (.iconst 1, 1) := by decide +kernel
theorem d10_34 : decode prog_34_method_7_code 34 = .ok (.isub, 1) := by decide +kernel
theorem d10_35 : decode prog_34_method_7_code 35 = .ok (.putfield 16, 3) := by decide +kernel
theorem d10_38 : decode prog_34_method_7_code 38 = .ok (.return_, 1) := by decide +kernel
def Q10_0_8 (Z : State) (a1 : Addr) (b1 : Addr) (b2 : Addr) (k1 : ClassId) (k2 : ClassId) (x0 : UInt64) (x1 : UInt64) (x2 : UInt64) (x3 : UInt64) (x4 : UInt64) (x5 : UInt64) (x6 : UInt64) (x7 : UInt64) (y0 : UInt64) (y1 : UInt64) (y2 : UInt64) (y3 : UInt64) (y4 : UInt64) (y5 : UInt64) (y6 : UInt64) (y7 : UInt64) (h0 : Heap) (n0 : Nat) (v : Option Value) (h : Heap) (L : List Loc) : Prop := v = none ∧ Fr n0 L ∧ Keep h0 h [a1] ∧ Exa Z h a1 "com/example/tenrec/tenrec/pool/RequestQueue" ∧ Fld Z h a1 "com/example/tenrec/tenrec/pool/RequestQueue" "arrivals" "[D" (.ref b1) ∧ Fld Z h a1 "com/example/tenrec/tenrec/pool/RequestQueue" "sizes" "[D" (.ref b2) ∧ Fld Z h a1 "com/example/tenrec/tenrec/pool/RequestQueue" "count" "I" (.int (7 : Int32)) ∧ Fld Z h a1 "com/example/tenrec/tenrec/pool/RequestQueue" "head" "I" (.int (1 : Int32)) ∧ Arv Z h b1 k1 .double (8 : Int32) [(.double x0), (.double x1), (.double x2), (.double x3), (.double x4), (.double x5), (.double x6), (.double x7)] (.double (0 : UInt64)) ∧ Arv Z h b2 k2 .double (8 : Int32) [(.double y0), (.double y1), (.double y2), (.double y3), (.double y4), (.double y5), (.double y6), (.double y7)] (.double (0 : UInt64))
set_option maxRecDepth 65536 in
set_option maxHeartbeats 40000000 in
theorem rm10_0_8 (l : Launch) (Z : State) (a0 : Array Value) (hw : ∀ d ∈ tables_1, d.before a0 Z = true) (ws : List Jvm.Cond) (a1 : Addr) (b1 : Addr) (b2 : Addr) (k1 : ClassId) (k2 : ClassId) (x0 : UInt64) (x1 : UInt64) (x2 : UInt64) (x3 : UInt64) (x4 : UInt64) (x5 : UInt64) (x6 : UInt64) (x7 : UInt64) (y0 : UInt64) (y1 : UInt64) (y2 : UInt64) (y3 : UInt64) (y4 : UInt64) (y5 : UInt64) (y6 : UInt64) (y7 : UInt64) (h0 : Heap) (n0 : Nat) (Z0 : n0 ≤ h0.size) (g_a1 : n0 ≤ a1) (g_b1 : n0 ≤ b1) (g_b2 : n0 ≤ b2) (ne1 : a1 ≠ b1) (ne2 : a1 ≠ b2) (ne3 : b1 ≠ b2) (E_a : Exa Z h0 a1 "com/example/tenrec/tenrec/pool/RequestQueue") (F_a : Fld Z h0 a1 "com/example/tenrec/tenrec/pool/RequestQueue" "arrivals" "[D" (.ref b1)) (F_s : Fld Z h0 a1 "com/example/tenrec/tenrec/pool/RequestQueue" "sizes" "[D" (.ref b2)) (F_c : Fld Z h0 a1 "com/example/tenrec/tenrec/pool/RequestQueue" "count" "I" (.int (8 : Int32))) (F_h : Fld Z h0 a1 "com/example/tenrec/tenrec/pool/RequestQueue" "head" "I" (.int (0 : Int32))) (V_a : Arv Z h0 b1 k1 .double (8 : Int32) [(.double x0), (.double x1), (.double x2), (.double x3), (.double x4), (.double x5), (.double x6), (.double x7)] (.double (0 : UInt64))) (V_s : Arv Z h0 b2 k2 .double (8 : Int32) [(.double y0), (.double y1), (.double y2), (.double y3), (.double y4), (.double y5), (.double y6), (.double y7)] (.double (0 : UInt64))) :
    OMet l Z (⟨"com/example/tenrec/tenrec/pool/RequestQueue", "removeFirst", "()V"⟩ : MethodName) prog_34_method_7_code 1 none ws ({ frames := 0, cells := 0, slots := 0, locals := 0 } : Room) #[(.ref a1)] h0 (Q10_0_8 Z a1 b1 b2 k1 k2 x0 x1 x2 x3 x4 x5 x6 x7 y0 y1 y2 y3 y4 y5 y6 y7 h0 n0) := by
  refine own_body (plainFor_of_name pn_com_example_tenrec_tenrec_pool_RequestQueue) ?_
  intro p e s m below meth c s₁ Bd hml0 hZ e0
  have hx := Bd.exec
  have hby := Bd.bytes
  have hml : c.maxLocals = 1 := hml0
  have hown : s.vm.findClass "com/example/tenrec/tenrec/pool/RequestQueue" = some m.cls := findClass_of_methodNamed Bd.named
  have hnm := (name_of_methodNamed Bd.named Bd.method).1
  have X0 : Stand p l e ({ frames := 0, cells := 0, slots := 0, locals := 0 } : Room) s m #[(.ref a1)] below meth c s₁ [] 0 0 := Stand.of_body Bd
  have N0 := Fr.nil n0
  have K0 : Keep h0 h0 [a1] := Keep.refl _ _
  rw [ef_rm10_0_8]
  obtain ⟨T101, X101, e101, st101⟩ := getF X0 hx hZ hown (host := "") (Or.inl (hw _ (List.mem_of_getElem? (i := 25) rfl))) Via.refl e0 F_h (g := (mkF m 2 #[.val (.ref a1)] [(.ref a1), (.ref a1)])) rfl rfl (hb hby d10_2)
  obtain ⟨T102, X102, e102, st102⟩ := getF X101 hx hZ hown (host := "") (Or.inl (hw _ (List.mem_of_getElem? (i := 10) rfl))) Via.refl e101 F_a (g := (mkF m 6 #[.val (.ref a1)] [(.ref a1), (.int (0 : Int32)), (.ref a1)])) rfl rfl (hb hby d10_6)
  obtain ⟨cl103, Ar103, qa103, Sa103, Na103, Ha103, Ga103⟩ := id V_a
  obtain ⟨T104, X104, e104, st104⟩ := getF X102 hx hZ hown (host := "") (Or.inl (hw _ (List.mem_of_getElem? (i := 25) rfl))) Via.refl e102 F_h (g := (mkF m 20 #[.val (.ref a1)] [(.ref a1), (.ref a1)])) rfl rfl (hb hby d10_20)
  obtain ⟨T105, h105, X105, e105, W105, st105⟩ := putF X104 hx hZ hown (host := "") (Or.inl (hw _ (List.mem_of_getElem? (i := 25) rfl))) Via.refl e104 F_h E_a (Or.inl (hw _ (List.mem_of_getElem? (i := 26) rfl))) (hw _ (List.mem_of_getElem? (i := 1) rfl)) (ty := .int) (by decide) rfl rfl (g := (mkF m 25 #[.val (.ref a1)] [(.int (1 : Int32)), (.ref a1)])) rfl rfl (hb hby d10_25)
  have Fw105 := F_h.same W105
  have K105 : Keep h0 h105 [a1] := K0.wr W105 (Or.inl (List.mem_of_getElem? (i := 0) rfl))
  have N105 := Fr.snoc X105 N0 g_a1
  have f106 := (F_c.other W105 (Or.inr (slot_ne (Or.inl (hw _ (List.mem_of_getElem? (i := 24) rfl))) (Or.inl (hw _ (List.mem_of_getElem? (i := 26) rfl))) (by decide) (t := .int) (t' := .int) (by decide) (by decide))))
  obtain ⟨T107, X107, e107, st107⟩ := getF X105 hx hZ hown (host := "") (Or.inl (hw _ (List.mem_of_getElem? (i := 23) rfl))) Via.refl e105 f106 (g := (mkF m 30 #[.val (.ref a1)] [(.ref a1), (.ref a1)])) rfl rfl (hb hby d10_30)
  have f108 := (E_a.wr W105)
  obtain ⟨T109, h109, X109, e109, W109, st109⟩ := putF X107 hx hZ hown (host := "") (Or.inl (hw _ (List.mem_of_getElem? (i := 23) rfl))) Via.refl e107 f106 f108 (Or.inl (hw _ (List.mem_of_getElem? (i := 24) rfl))) (hw _ (List.mem_of_getElem? (i := 1) rfl)) (ty := .int) (by decide) rfl rfl (g := (mkF m 35 #[.val (.ref a1)] [(.int (7 : Int32)), (.ref a1)])) rfl rfl (hb hby d10_35)
  have Fw109 := f106.same W109
  have K109 : Keep h0 h109 [a1] := K105.wr W109 (Or.inl (List.mem_of_getElem? (i := 0) rfl))
  have N109 := Fr.snoc X109 N105 g_a1
  have f110 := (f108.wr W109)
  have f111 := ((F_a.other W105 (Or.inr (slot_ne (Or.inl (hw _ (List.mem_of_getElem? (i := 11) rfl))) (Or.inl (hw _ (List.mem_of_getElem? (i := 26) rfl))) (by decide) (t := (.array .double)) (t' := .int) (by decide) (by decide)))).other W109 (Or.inr (slot_ne (Or.inl (hw _ (List.mem_of_getElem? (i := 11) rfl))) (Or.inl (hw _ (List.mem_of_getElem? (i := 24) rfl))) (by decide) (t := (.array .double)) (t' := .int) (by decide) (by decide))))
  have f112 := ((F_s.other W105 (Or.inr (slot_ne (Or.inl (hw _ (List.mem_of_getElem? (i := 13) rfl))) (Or.inl (hw _ (List.mem_of_getElem? (i := 26) rfl))) (by decide) (t := (.array .double)) (t' := .int) (by decide) (by decide)))).other W109 (Or.inr (slot_ne (Or.inl (hw _ (List.mem_of_getElem? (i := 13) rfl))) (Or.inl (hw _ (List.mem_of_getElem? (i := 24) rfl))) (by decide) (t := (.array .double)) (t' := .int) (by decide) (by decide))))
  have f113 := (Fw105.other W109 (Or.inr (slot_ne (Or.inl (hw _ (List.mem_of_getElem? (i := 26) rfl))) (Or.inl (hw _ (List.mem_of_getElem? (i := 24) rfl))) (by decide) (t := .int) (t' := .int) (by decide) (by decide))))
  have f114 := ((V_a.other W105 (Ne.symm ne1)).other W109 (Ne.symm ne1))
  have f115 := ((V_s.other W105 (Ne.symm ne2)).other W109 (Ne.symm ne2))
  refine Gl.fin X109 (v := none) (fun _ => rfl) Bd.notSynchronized ?_ e109 (by decide) (by decide) (fun fs hr => ?_)
  · exact ⟨rfl, N109, K109, f110, f111, f112, Fw109, f113, f114, f115⟩
  · show Steps p.tables e below (s₁.setTop (mkF m 0 #[.val (.ref a1)] [])) _
    refine XS.aloadN X0.here hx rfl (hb hby d10_0) rfl rfl ?_
    show Steps p.tables e below (s₁.setTop (mkF m 1 #[.val (.ref a1)] [(.ref a1)])) _
    refine XS.aloadN X0.here hx rfl (hb hby d10_1) rfl rfl ?_
    show Steps p.tables e below (s₁.setTop (mkF m 2 #[.val (.ref a1)] [(.ref a1), (.ref a1)])) _
    refine st101 _ ?_
    show Steps p.tables e below (T101.setTop (mkF m 5 #[.val (.ref a1)] [(.int (0 : Int32)), (.ref a1)])) _
    refine XS.aloadN X101.here hx rfl (hb hby d10_5) rfl rfl ?_
    show Steps p.tables e below (T101.setTop (mkF m 6 #[.val (.ref a1)] [(.ref a1), (.int (0 : Int32)), (.ref a1)])) _
    refine st102 _ ?_
    show Steps p.tables e below (T102.setTop (mkF m 9 #[.val (.ref a1)] [(.ref b1), (.int (0 : Int32)), (.ref a1)])) _
    refine X102.arraylength hx (own_hc e102 Ar103.1) (State.isArrayOf_alike hZ.alike Ar103.2.1) (g := (mkF m 9 #[.val (.ref a1)] [(.ref b1), (.int (0 : Int32)), (.ref a1)])) rfl rfl (hb hby d10_9) _ ?_
    rw [len_of Sa103 Na103]
    show Steps p.tables e below (T102.setTop (mkF m 10 #[.val (.ref a1)] [(.int (8 : Int32)), (.int (0 : Int32)), (.ref a1)])) _
    refine XS.iconst X102.here hx rfl (hb hby d10_10) ?_
    show Steps p.tables e below (T102.setTop (mkF m 11 #[.val (.ref a1)] [(.int (1 : Int32)), (.int (8 : Int32)), (.int (0 : Int32)), (.ref a1)])) _
    refine XS.isub X102.here hx rfl (hb hby d10_11) rfl ?_
    show Steps p.tables e below (T102.setTop (mkF m 12 #[.val (.ref a1)] [(.int (7 : Int32)), (.int (0 : Int32)), (.ref a1)])) _
    refine XS.icmpYes X102.here hx rfl (pc0 := 12) (pc' := 19) rfl (hb hby d10_12) rfl (own_nt (ic_ne _ _) (by decide)) (by decide) (by decide) ?_
    show Steps p.tables e below (T102.setTop (mkF m 19 #[.val (.ref a1)] [(.ref a1)])) _
    refine XS.aloadN X102.here hx rfl (hb hby d10_19) rfl rfl ?_
    show Steps p.tables e below (T102.setTop (mkF m 20 #[.val (.ref a1)] [(.ref a1), (.ref a1)])) _
    refine st104 _ ?_
    show Steps p.tables e below (T104.setTop (mkF m 23 #[.val (.ref a1)] [(.int (0 : Int32)), (.ref a1)])) _
    refine XS.iconst X104.here hx rfl (hb hby d10_23) ?_
    show Steps p.tables e below (T104.setTop (mkF m 24 #[.val (.ref a1)] [(.int (1 : Int32)), (.int (0 : Int32)), (.ref a1)])) _
    refine XS.iadd X104.here hx rfl (hb hby d10_24) rfl ?_
    show Steps p.tables e below (T104.setTop (mkF m 25 #[.val (.ref a1)] [(.int (1 : Int32)), (.ref a1)])) _
    refine st105 _ ?_
    show Steps p.tables e below (T105.setTop (mkF m 28 #[.val (.ref a1)] [])) _
    refine XS.aloadN X105.here hx rfl (hb hby d10_28) rfl rfl ?_
    show Steps p.tables e below (T105.setTop (mkF m 29 #[.val (.ref a1)] [(.ref a1)])) _
    refine XS.dup X105.here hx rfl (hb hby d10_29) rfl rfl ?_
    show Steps p.tables e below (T105.setTop (mkF m 30 #[.val (.ref a1)] [(.ref a1), (.ref a1)])) _
    refine st107 _ ?_
    show Steps p.tables e below (T107.setTop (mkF m 33 #[.val (.ref a1)] [(.int (8 : Int32)), (.ref a1)])) _
    refine XS.iconst X107.here hx rfl (hb hby d10_33) ?_
    show Steps p.tables e below (T107.setTop (mkF m 34 #[.val (.ref a1)] [(.int (1 : Int32)), (.int (8 : Int32)), (.ref a1)])) _
    refine XS.isub X107.here hx rfl (hb hby d10_34) rfl ?_
    show Steps p.tables e below (T107.setTop (mkF m 35 #[.val (.ref a1)] [(.int (7 : Int32)), (.ref a1)])) _
    refine st109 _ ?_
    show Steps p.tables e below (T109.setTop (mkF m 38 #[.val (.ref a1)] [])) _
    exact X109.returnOut hx Bd.returns (hb hby d10_38) hr
theorem ef_rm5_1_7 (m : MethodId) (x0 : Addr) (x1 : Int32) (x2 : Int32) (x3 : Int32) (x4 : Int32) : entryFrame m #[(.ref x0), (.int x1), (.int x2), (.int x3), (.int x4)] 5 = mkF m 0 #[.val (.ref x0), .val (.int x1), .val (.int x2), .val (.int x3), .val (.int x4)] [] := by first | (simp [entryFrame, mkF, argsToLocals, Value.category]; done) | rfl
def Q5_1_7 (Z : State) (a1 : Addr) (p2 : Int32) (p3 : Int32) (p4 : Int32) (b1 : Addr) (b2 : Addr) (k1 : ClassId) (k2 : ClassId) (x0 : UInt64) (x2 : UInt64) (x3 : UInt64) (x4 : UInt64) (x5 : UInt64) (x6 : UInt64) (x7 : UInt64) (y0 : UInt64) (y2 : UInt64) (y3 : UInt64) (y4 : UInt64) (y5 : UInt64) (y6 : UInt64) (y7 : UInt64) (h0 : Heap) (n0 : Nat) (v : Option Value) (h : Heap) (L : List Loc) : Prop := v = some (.int 1) ∧ Fr n0 L ∧ h = h0
set_option maxRecDepth 65536 in
set_option maxHeartbeats 40000000 in
theorem rm5_1_7 (l : Launch) (Z : State) (a0 : Array Value) (hw : ∀ d ∈ tables_1, d.before a0 Z = true) (ws : List Jvm.Cond) (a1 : Addr) (p2 : Int32) (p3 : Int32) (p4 : Int32) (b1 : Addr) (b2 : Addr) (k1 : ClassId) (k2 : ClassId) (x0 : UInt64) (x2 : UInt64) (x3 : UInt64) (x4 : UInt64) (x5 : UInt64) (x6 : UInt64) (x7 : UInt64) (y0 : UInt64) (y2 : UInt64) (y3 : UInt64) (y4 : UInt64) (y5 : UInt64) (y6 : UInt64) (y7 : UInt64) (h0 : Heap) (n0 : Nat) (Z0 : n0 ≤ h0.size) (g_a1 : n0 ≤ a1) (g_b1 : n0 ≤ b1) (g_b2 : n0 ≤ b2) (ne1 : a1 ≠ b1) (ne2 : a1 ≠ b2) (ne3 : b1 ≠ b2) (E_a : Exa Z h0 a1 "com/example/tenrec/tenrec/pool/RequestQueue") (F_a : Fld Z h0 a1 "com/example/tenrec/tenrec/pool/RequestQueue" "arrivals" "[D" (.ref b1)) (F_s : Fld Z h0 a1 "com/example/tenrec/tenrec/pool/RequestQueue" "sizes" "[D" (.ref b2)) (F_c : Fld Z h0 a1 "com/example/tenrec/tenrec/pool/RequestQueue" "count" "I" (.int (7 : Int32))) (F_h : Fld Z h0 a1 "com/example/tenrec/tenrec/pool/RequestQueue" "head" "I" (.int (1 : Int32))) (V_a : Arv Z h0 b1 k1 .double (8 : Int32) [(.double x0), (.double (FP.i2d (p2 + p4))), (.double x2), (.double x3), (.double x4), (.double x5), (.double x6), (.double x7)] (.double (0 : UInt64))) (V_s : Arv Z h0 b2 k2 .double (8 : Int32) [(.double y0), (.double (FP.i2d (p3 - p4))), (.double y2), (.double y3), (.double y4), (.double y5), (.double y6), (.double y7)] (.double (0 : UInt64))) :
    OMet l Z (⟨"com/example/tenrec/tenrec/pool/RequestQueueRemoveFirstPinLaw", "front", "(Lcom/example/tenrec/tenrec/pool/RequestQueue;IIII)Z"⟩ : MethodName) method_3_code 5 (some .boolean) ws ({ frames := 1, cells := 0, slots := 0, locals := 15 } : Room) #[(.ref a1), (.int (7 : Int32)), (.int p2), (.int p3), (.int p4)] h0 (Q5_1_7 Z a1 p2 p3 p4 b1 b2 k1 k2 x0 x2 x3 x4 x5 x6 x7 y0 y2 y3 y4 y5 y6 y7 h0 n0) := by
  refine own_body (plainFor_of_name pn_com_example_tenrec_tenrec_pool_RequestQueueRemoveFirstPinLaw) ?_
  intro p e s m below meth c s₁ Bd hml0 hZ e0
  have hx := Bd.exec
  have hby := Bd.bytes
  have hml : c.maxLocals = 5 := hml0
  have hown : s.vm.findClass "com/example/tenrec/tenrec/pool/RequestQueueRemoveFirstPinLaw" = some m.cls := findClass_of_methodNamed Bd.named
  have hnm := (name_of_methodNamed Bd.named Bd.method).1
  have X0 : Stand p l e ({ frames := 1, cells := 0, slots := 0, locals := 15 } : Room) s m #[(.ref a1), (.int (7 : Int32)), (.int p2), (.int p3), (.int p4)] below meth c s₁ [] 0 0 := Stand.of_body Bd
  have N0 := Fr.nil n0
  have K0 : Keep h0 h0 [] := Keep.refl _ _
  rw [ef_rm5_1_7]
  obtain ⟨v101, T101, L101, X101, q101, st101⟩ := own_callV X0 hx hZ (y := (⟨"com/example/tenrec/tenrec/pool/RequestQueue", "size", "()I"⟩ : MethodName)) (z := (⟨"com/example/tenrec/tenrec/pool/RequestQueue", "size", "()I"⟩ : MethodName)) hown (hw _ (List.mem_of_getElem? (i := 30) rfl)) (hw _ (List.mem_of_getElem? (i := 31) rfl)) (notFace_of_selects (args := #[]) (mvT hZ (hw _ (List.mem_of_getElem? (i := 33) rfl)))) (hw _ (List.mem_of_getElem? (i := 33) rfl)) (hw _ (List.mem_of_getElem? (i := 32) rfl)) (hw _ (List.mem_of_getElem? (i := 2) rfl)) (hw _ (List.mem_of_getElem? (i := 34) rfl)) (by decide) E_a (hM := (rm6 l Z a0 hw [] a1 (7 : Int32) h0 n0 Z0 F_c)) (by decide) (by decide) (by decide) (by decide) e0 (argsL := []) (rest := []) (Ls := #[.val (.ref a1), .val (.int (7 : Int32)), .val (.int p2), .val (.int p3), .val (.int p4)]) (by rw [hml]; rfl) (lenOf pd___I rfl) (W := 0) (Nat.le_of_eq rfl) (hb hby d5_1)
  obtain ⟨rfl, N101q, e101⟩ := q101
  have N101 := Fr.app N0 N101q
  obtain ⟨v102, T102, L102, X102, q102, st102⟩ := own_callV X101 hx hZ (y := (⟨"com/example/tenrec/tenrec/pool/RequestQueue", "isEmpty", "()Z"⟩ : MethodName)) (z := (⟨"com/example/tenrec/tenrec/pool/RequestQueue", "isEmpty", "()Z"⟩ : MethodName)) hown (hw _ (List.mem_of_getElem? (i := 35) rfl)) (hw _ (List.mem_of_getElem? (i := 36) rfl)) (notFace_of_selects (args := #[]) (mvT hZ (hw _ (List.mem_of_getElem? (i := 38) rfl)))) (hw _ (List.mem_of_getElem? (i := 38) rfl)) (hw _ (List.mem_of_getElem? (i := 37) rfl)) (hw _ (List.mem_of_getElem? (i := 2) rfl)) (hw _ (List.mem_of_getElem? (i := 39) rfl)) (by decide) E_a (hM := (rm7 l Z a0 hw [] a1 (7 : Int32) h0 n0 Z0 F_c)) (by decide) (by decide) (by decide) (by decide) e101 (argsL := []) (rest := [(.int (1 : Int32))]) (Ls := #[.val (.ref a1), .val (.int (7 : Int32)), .val (.int p2), .val (.int p3), .val (.int p4)]) (by rw [hml]; rfl) (lenOf pd___Z rfl) (W := 1) (Nat.le_of_eq rfl) (hb hby d5_14)
  obtain ⟨rfl, N102q, e102⟩ := q102
  have N102 := Fr.app N101 N102q
  obtain ⟨v103, T103, L103, X103, q103, st103⟩ := own_callV X102 hx hZ (y := (⟨"com/example/tenrec/tenrec/pool/RequestQueue", "firstArrival", "()D"⟩ : MethodName)) (z := (⟨"com/example/tenrec/tenrec/pool/RequestQueue", "firstArrival", "()D"⟩ : MethodName)) hown (hw _ (List.mem_of_getElem? (i := 40) rfl)) (hw _ (List.mem_of_getElem? (i := 41) rfl)) (notFace_of_selects (args := #[]) (mvT hZ (hw _ (List.mem_of_getElem? (i := 43) rfl)))) (hw _ (List.mem_of_getElem? (i := 43) rfl)) (hw _ (List.mem_of_getElem? (i := 42) rfl)) (hw _ (List.mem_of_getElem? (i := 2) rfl)) (hw _ (List.mem_of_getElem? (i := 44) rfl)) (by decide) E_a (hM := (rm8_1 l Z a0 hw [] a1 b1 k1 x0 (FP.i2d (p2 + p4)) x2 x3 x4 x5 x6 x7 h0 n0 Z0 F_a F_h V_a)) (by decide) (by decide) (by decide) (by decide) e102 (argsL := []) (rest := [(.int (1 : Int32))]) (Ls := #[.val (.ref a1), .val (.int (7 : Int32)), .val (.int p2), .val (.int p3), .val (.int p4)]) (by rw [hml]; rfl) (lenOf pd___D rfl) (W := 1) (Nat.le_of_eq rfl) (hb hby d5_27)
  obtain ⟨rfl, N103q, e103⟩ := q103
  have N103 := Fr.app N102 N103q
  obtain ⟨v104, T104, L104, X104, q104, st104⟩ := own_callV X103 hx hZ (y := (⟨"com/example/tenrec/tenrec/pool/RequestQueue", "firstSize", "()D"⟩ : MethodName)) (z := (⟨"com/example/tenrec/tenrec/pool/RequestQueue", "firstSize", "()D"⟩ : MethodName)) hown (hw _ (List.mem_of_getElem? (i := 45) rfl)) (hw _ (List.mem_of_getElem? (i := 46) rfl)) (notFace_of_selects (args := #[]) (mvT hZ (hw _ (List.mem_of_getElem? (i := 48) rfl)))) (hw _ (List.mem_of_getElem? (i := 48) rfl)) (hw _ (List.mem_of_getElem? (i := 47) rfl)) (hw _ (List.mem_of_getElem? (i := 2) rfl)) (hw _ (List.mem_of_getElem? (i := 49) rfl)) (by decide) E_a (hM := (rm9_1 l Z a0 hw [] a1 b2 k2 y0 (FP.i2d (p3 - p4)) y2 y3 y4 y5 y6 y7 h0 n0 Z0 F_s F_h V_s)) (by decide) (by decide) (by decide) (by decide) e103 (argsL := []) (rest := [(.int (1 : Int32))]) (Ls := #[.val (.ref a1), .val (.int (7 : Int32)), .val (.int p2), .val (.int p3), .val (.int p4)]) (by rw [hml]; rfl) (lenOf pd___D rfl) (W := 1) (Nat.le_of_eq rfl) (hb hby d5_46)
  obtain ⟨rfl, N104q, e104⟩ := q104
  have N104 := Fr.app N103 N104q
  refine Gl.pre (S' := T104.setTop (mkF m 58 #[.val (.ref a1), .val (.int (7 : Int32)), .val (.int p2), .val (.int p3), .val (.int p4)] [(.int (1 : Int32))])) (fun t kt => ?_) ?_
  · show Steps p.tables e below (s₁.setTop (mkF m 0 #[.val (.ref a1), .val (.int (7 : Int32)), .val (.int p2), .val (.int p3), .val (.int p4)] [])) _
    refine XS.aloadN X0.here hx rfl (hb hby d5_0) rfl rfl ?_
    show Steps p.tables e below (s₁.setTop (mkF m 1 #[.val (.ref a1), .val (.int (7 : Int32)), .val (.int p2), .val (.int p3), .val (.int p4)] [(.ref a1)])) _
    refine st101 _ ?_
    show Steps p.tables e below (T101.setTop (mkF m 4 #[.val (.ref a1), .val (.int (7 : Int32)), .val (.int p2), .val (.int p3), .val (.int p4)] [(.int (7 : Int32))])) _
    refine XS.iloadN X101.here hx rfl (hb hby d5_4) rfl ?_
    show Steps p.tables e below (T101.setTop (mkF m 5 #[.val (.ref a1), .val (.int (7 : Int32)), .val (.int p2), .val (.int p3), .val (.int p4)] [(.int (7 : Int32)), (.int (7 : Int32))])) _
    refine XS.icmpNo X101.here hx rfl (hb hby d5_5) rfl (own_nf (ic_ne _ _) (by decide)) ?_
    show Steps p.tables e below (T101.setTop (mkF m 8 #[.val (.ref a1), .val (.int (7 : Int32)), .val (.int p2), .val (.int p3), .val (.int p4)] [])) _
    refine XS.iconst X101.here hx rfl (hb hby d5_8) ?_
    show Steps p.tables e below (T101.setTop (mkF m 9 #[.val (.ref a1), .val (.int (7 : Int32)), .val (.int p2), .val (.int p3), .val (.int p4)] [(.int (1 : Int32))])) _
    refine XS.goto X101.here hx rfl (pc0 := 9) (pc' := 13) rfl (hb hby d5_9) (by decide) (by decide) ?_
    show Steps p.tables e below (T101.setTop (mkF m 13 #[.val (.ref a1), .val (.int (7 : Int32)), .val (.int p2), .val (.int p3), .val (.int p4)] [(.int (1 : Int32))])) _
    refine XS.aloadN X101.here hx rfl (hb hby d5_13) rfl rfl ?_
    show Steps p.tables e below (T101.setTop (mkF m 14 #[.val (.ref a1), .val (.int (7 : Int32)), .val (.int p2), .val (.int p3), .val (.int p4)] [(.ref a1), (.int (1 : Int32))])) _
    refine st102 _ ?_
    show Steps p.tables e below (T102.setTop (mkF m 17 #[.val (.ref a1), .val (.int (7 : Int32)), .val (.int p2), .val (.int p3), .val (.int p4)] [(.int (0 : Int32)), (.int (1 : Int32))])) _
    refine XS.ifNo X102.here hx rfl (hb hby d5_17) rfl (own_nf (i0_ne _) (by decide)) ?_
    show Steps p.tables e below (T102.setTop (mkF m 20 #[.val (.ref a1), .val (.int (7 : Int32)), .val (.int p2), .val (.int p3), .val (.int p4)] [(.int (1 : Int32))])) _
    refine XS.iconst X102.here hx rfl (hb hby d5_20) ?_
    show Steps p.tables e below (T102.setTop (mkF m 21 #[.val (.ref a1), .val (.int (7 : Int32)), .val (.int p2), .val (.int p3), .val (.int p4)] [(.int (1 : Int32)), (.int (1 : Int32))])) _
    refine XS.goto X102.here hx rfl (pc0 := 21) (pc' := 25) rfl (hb hby d5_21) (by decide) (by decide) ?_
    show Steps p.tables e below (T102.setTop (mkF m 25 #[.val (.ref a1), .val (.int (7 : Int32)), .val (.int p2), .val (.int p3), .val (.int p4)] [(.int (1 : Int32)), (.int (1 : Int32))])) _
    refine XS.iand X102.here hx rfl (hb hby d5_25) rfl ?_
    show Steps p.tables e below (T102.setTop (mkF m 26 #[.val (.ref a1), .val (.int (7 : Int32)), .val (.int p2), .val (.int p3), .val (.int p4)] [(.int (1 : Int32))])) _
    refine XS.aloadN X102.here hx rfl (hb hby d5_26) rfl rfl ?_
    show Steps p.tables e below (T102.setTop (mkF m 27 #[.val (.ref a1), .val (.int (7 : Int32)), .val (.int p2), .val (.int p3), .val (.int p4)] [(.ref a1), (.int (1 : Int32))])) _
    refine st103 _ ?_
    show Steps p.tables e below (T103.setTop (mkF m 30 #[.val (.ref a1), .val (.int (7 : Int32)), .val (.int p2), .val (.int p3), .val (.int p4)] [(.double (FP.i2d (p2 + p4))), (.int (1 : Int32))])) _
    refine XS.iloadN X103.here hx rfl (hb hby d5_30) rfl ?_
    show Steps p.tables e below (T103.setTop (mkF m 31 #[.val (.ref a1), .val (.int (7 : Int32)), .val (.int p2), .val (.int p3), .val (.int p4)] [(.int p2), (.double (FP.i2d (p2 + p4))), (.int (1 : Int32))])) _
    refine XS.iload X103.here hx rfl (hb hby d5_31) rfl ?_
    show Steps p.tables e below (T103.setTop (mkF m 33 #[.val (.ref a1), .val (.int (7 : Int32)), .val (.int p2), .val (.int p3), .val (.int p4)] [(.int p4), (.int p2), (.double (FP.i2d (p2 + p4))), (.int (1 : Int32))])) _
    refine XS.iadd X103.here hx rfl (hb hby d5_33) rfl ?_
    show Steps p.tables e below (T103.setTop (mkF m 34 #[.val (.ref a1), .val (.int (7 : Int32)), .val (.int p2), .val (.int p3), .val (.int p4)] [(.int (p2 + p4)), (.double (FP.i2d (p2 + p4))), (.int (1 : Int32))])) _
    refine XS.i2dS X103.here hx rfl (hb hby d5_34) rfl rfl ?_
    show Steps p.tables e below (T103.setTop (mkF m 35 #[.val (.ref a1), .val (.int (7 : Int32)), .val (.int p2), .val (.int p3), .val (.int p4)] [(.double (FP.i2d (p2 + p4))), (.double (FP.i2d (p2 + p4))), (.int (1 : Int32))])) _
    refine XS.dcmpS X103.here hx rfl (hb hby d5_35) rfl (dcmpV_self (nn_w (i2d_w _)) _) ?_
    show Steps p.tables e below (T103.setTop (mkF m 36 #[.val (.ref a1), .val (.int (7 : Int32)), .val (.int p2), .val (.int p3), .val (.int p4)] [(.int (0 : Int32)), (.int (1 : Int32))])) _
    refine XS.ifNo X103.here hx rfl (hb hby d5_36) rfl (own_nf (i0_ne _) (by decide)) ?_
    show Steps p.tables e below (T103.setTop (mkF m 39 #[.val (.ref a1), .val (.int (7 : Int32)), .val (.int p2), .val (.int p3), .val (.int p4)] [(.int (1 : Int32))])) _
    refine XS.iconst X103.here hx rfl (hb hby d5_39) ?_
    show Steps p.tables e below (T103.setTop (mkF m 40 #[.val (.ref a1), .val (.int (7 : Int32)), .val (.int p2), .val (.int p3), .val (.int p4)] [(.int (1 : Int32)), (.int (1 : Int32))])) _
    refine XS.goto X103.here hx rfl (pc0 := 40) (pc' := 44) rfl (hb hby d5_40) (by decide) (by decide) ?_
    show Steps p.tables e below (T103.setTop (mkF m 44 #[.val (.ref a1), .val (.int (7 : Int32)), .val (.int p2), .val (.int p3), .val (.int p4)] [(.int (1 : Int32)), (.int (1 : Int32))])) _
    refine XS.iand X103.here hx rfl (hb hby d5_44) rfl ?_
    show Steps p.tables e below (T103.setTop (mkF m 45 #[.val (.ref a1), .val (.int (7 : Int32)), .val (.int p2), .val (.int p3), .val (.int p4)] [(.int (1 : Int32))])) _
    refine XS.aloadN X103.here hx rfl (hb hby d5_45) rfl rfl ?_
    show Steps p.tables e below (T103.setTop (mkF m 46 #[.val (.ref a1), .val (.int (7 : Int32)), .val (.int p2), .val (.int p3), .val (.int p4)] [(.ref a1), (.int (1 : Int32))])) _
    refine st104 _ ?_
    show Steps p.tables e below (T104.setTop (mkF m 49 #[.val (.ref a1), .val (.int (7 : Int32)), .val (.int p2), .val (.int p3), .val (.int p4)] [(.double (FP.i2d (p3 - p4))), (.int (1 : Int32))])) _
    refine XS.iloadN X104.here hx rfl (hb hby d5_49) rfl ?_
    show Steps p.tables e below (T104.setTop (mkF m 50 #[.val (.ref a1), .val (.int (7 : Int32)), .val (.int p2), .val (.int p3), .val (.int p4)] [(.int p3), (.double (FP.i2d (p3 - p4))), (.int (1 : Int32))])) _
    refine XS.iload X104.here hx rfl (hb hby d5_50) rfl ?_
    show Steps p.tables e below (T104.setTop (mkF m 52 #[.val (.ref a1), .val (.int (7 : Int32)), .val (.int p2), .val (.int p3), .val (.int p4)] [(.int p4), (.int p3), (.double (FP.i2d (p3 - p4))), (.int (1 : Int32))])) _
    refine XS.isub X104.here hx rfl (hb hby d5_52) rfl ?_
    show Steps p.tables e below (T104.setTop (mkF m 53 #[.val (.ref a1), .val (.int (7 : Int32)), .val (.int p2), .val (.int p3), .val (.int p4)] [(.int (p3 - p4)), (.double (FP.i2d (p3 - p4))), (.int (1 : Int32))])) _
    refine XS.i2dS X104.here hx rfl (hb hby d5_53) rfl rfl ?_
    show Steps p.tables e below (T104.setTop (mkF m 54 #[.val (.ref a1), .val (.int (7 : Int32)), .val (.int p2), .val (.int p3), .val (.int p4)] [(.double (FP.i2d (p3 - p4))), (.double (FP.i2d (p3 - p4))), (.int (1 : Int32))])) _
    refine XS.dcmpS X104.here hx rfl (hb hby d5_54) rfl (dcmpV_self (nn_w (i2d_w _)) _) ?_
    show Steps p.tables e below (T104.setTop (mkF m 55 #[.val (.ref a1), .val (.int (7 : Int32)), .val (.int p2), .val (.int p3), .val (.int p4)] [(.int (0 : Int32)), (.int (1 : Int32))])) _
    refine XS.ifNo X104.here hx rfl (hb hby d5_55) rfl (own_nf (i0_ne _) (by decide)) ?_
    exact kt
  refine Gl.fin X104 (v := some (.int (1 : Int32))) (fun h => by rw [Bd.returns] at h; cases h) Bd.notSynchronized ?_ e104 (by decide) (by decide) (fun fs hr => ?_)
  · exact ⟨rfl, N104, rfl⟩
  · show Steps p.tables e below (T104.setTop (mkF m 58 #[.val (.ref a1), .val (.int (7 : Int32)), .val (.int p2), .val (.int p3), .val (.int p4)] [(.int (1 : Int32))])) _
    refine XS.iconst X104.here hx rfl (hb hby d5_58) ?_
    show Steps p.tables e below (T104.setTop (mkF m 59 #[.val (.ref a1), .val (.int (7 : Int32)), .val (.int p2), .val (.int p3), .val (.int p4)] [(.int (1 : Int32)), (.int (1 : Int32))])) _
    refine XS.goto X104.here hx rfl (pc0 := 59) (pc' := 63) rfl (hb hby d5_59) (by decide) (by decide) ?_
    show Steps p.tables e below (T104.setTop (mkF m 63 #[.val (.ref a1), .val (.int (7 : Int32)), .val (.int p2), .val (.int p3), .val (.int p4)] [(.int (1 : Int32)), (.int (1 : Int32))])) _
    refine XS.iand X104.here hx rfl (hb hby d5_63) rfl ?_
    show Steps p.tables e below (T104.setTop (mkF m 64 #[.val (.ref a1), .val (.int (7 : Int32)), .val (.int p2), .val (.int p3), .val (.int p4)] [(.int (1 : Int32))])) _
    exact retN X104 hx (t := .boolean) Bd.returns (by simp) (hb hby d5_64) hr
theorem ef_rm10_1_7 (m : MethodId) (x0 : Addr) : entryFrame m #[(.ref x0)] 1 = mkF m 0 #[.val (.ref x0)] [] := by first | (simp [entryFrame, mkF, argsToLocals, Value.category]; done) | rfl
def Q10_1_7 (Z : State) (a1 : Addr) (b1 : Addr) (b2 : Addr) (k1 : ClassId) (k2 : ClassId) (x0 : UInt64) (x1 : UInt64) (x2 : UInt64) (x3 : UInt64) (x4 : UInt64) (x5 : UInt64) (x6 : UInt64) (x7 : UInt64) (y0 : UInt64) (y1 : UInt64) (y2 : UInt64) (y3 : UInt64) (y4 : UInt64) (y5 : UInt64) (y6 : UInt64) (y7 : UInt64) (h0 : Heap) (n0 : Nat) (v : Option Value) (h : Heap) (L : List Loc) : Prop := v = none ∧ Fr n0 L ∧ Keep h0 h [a1] ∧ Exa Z h a1 "com/example/tenrec/tenrec/pool/RequestQueue" ∧ Fld Z h a1 "com/example/tenrec/tenrec/pool/RequestQueue" "arrivals" "[D" (.ref b1) ∧ Fld Z h a1 "com/example/tenrec/tenrec/pool/RequestQueue" "sizes" "[D" (.ref b2) ∧ Fld Z h a1 "com/example/tenrec/tenrec/pool/RequestQueue" "count" "I" (.int (6 : Int32)) ∧ Fld Z h a1 "com/example/tenrec/tenrec/pool/RequestQueue" "head" "I" (.int (2 : Int32)) ∧ Arv Z h b1 k1 .double (8 : Int32) [(.double x0), (.double x1), (.double x2), (.double x3), (.double x4), (.double x5), (.double x6), (.double x7)] (.double (0 : UInt64)) ∧ Arv Z h b2 k2 .double (8 : Int32) [(.double y0), (.double y1), (.double y2), (.double y3), (.double y4), (.double y5), (.double y6), (.double y7)] (.double (0 : UInt64))
set_option maxRecDepth 65536 in
set_option maxHeartbeats 40000000 in
theorem rm10_1_7 (l : Launch) (Z : State) (a0 : Array Value) (hw : ∀ d ∈ tables_1, d.before a0 Z = true) (ws : List Jvm.Cond) (a1 : Addr) (b1 : Addr) (b2 : Addr) (k1 : ClassId) (k2 : ClassId) (x0 : UInt64) (x1 : UInt64) (x2 : UInt64) (x3 : UInt64) (x4 : UInt64) (x5 : UInt64) (x6 : UInt64) (x7 : UInt64) (y0 : UInt64) (y1 : UInt64) (y2 : UInt64) (y3 : UInt64) (y4 : UInt64) (y5 : UInt64) (y6 : UInt64) (y7 : UInt64) (h0 : Heap) (n0 : Nat) (Z0 : n0 ≤ h0.size) (g_a1 : n0 ≤ a1) (g_b1 : n0 ≤ b1) (g_b2 : n0 ≤ b2) (ne1 : a1 ≠ b1) (ne2 : a1 ≠ b2) (ne3 : b1 ≠ b2) (E_a : Exa Z h0 a1 "com/example/tenrec/tenrec/pool/RequestQueue") (F_a : Fld Z h0 a1 "com/example/tenrec/tenrec/pool/RequestQueue" "arrivals" "[D" (.ref b1)) (F_s : Fld Z h0 a1 "com/example/tenrec/tenrec/pool/RequestQueue" "sizes" "[D" (.ref b2)) (F_c : Fld Z h0 a1 "com/example/tenrec/tenrec/pool/RequestQueue" "count" "I" (.int (7 : Int32))) (F_h : Fld Z h0 a1 "com/example/tenrec/tenrec/pool/RequestQueue" "head" "I" (.int (1 : Int32))) (V_a : Arv Z h0 b1 k1 .double (8 : Int32) [(.double x0), (.double x1), (.double x2), (.double x3), (.double x4), (.double x5), (.double x6), (.double x7)] (.double (0 : UInt64))) (V_s : Arv Z h0 b2 k2 .double (8 : Int32) [(.double y0), (.double y1), (.double y2), (.double y3), (.double y4), (.double y5), (.double y6), (.double y7)] (.double (0 : UInt64))) :
    OMet l Z (⟨"com/example/tenrec/tenrec/pool/RequestQueue", "removeFirst", "()V"⟩ : MethodName) prog_34_method_7_code 1 none ws ({ frames := 0, cells := 0, slots := 0, locals := 0 } : Room) #[(.ref a1)] h0 (Q10_1_7 Z a1 b1 b2 k1 k2 x0 x1 x2 x3 x4 x5 x6 x7 y0 y1 y2 y3 y4 y5 y6 y7 h0 n0) := by
  refine own_body (plainFor_of_name pn_com_example_tenrec_tenrec_pool_RequestQueue) ?_
  intro p e s m below meth c s₁ Bd hml0 hZ e0
  have hx := Bd.exec
  have hby := Bd.bytes
  have hml : c.maxLocals = 1 := hml0
  have hown : s.vm.findClass "com/example/tenrec/tenrec/pool/RequestQueue" = some m.cls := findClass_of_methodNamed Bd.named
  have hnm := (name_of_methodNamed Bd.named Bd.method).1
  have X0 : Stand p l e ({ frames := 0, cells := 0, slots := 0, locals := 0 } : Room) s m #[(.ref a1)] below meth c s₁ [] 0 0 := Stand.of_body Bd
  have N0 := Fr.nil n0
  have K0 : Keep h0 h0 [a1] := Keep.refl _ _
  rw [ef_rm10_1_7]
  obtain ⟨T101, X101, e101, st101⟩ := getF X0 hx hZ hown (host := "") (Or.inl (hw _ (List.mem_of_getElem? (i := 25) rfl))) Via.refl e0 F_h (g := (mkF m 2 #[.val (.ref a1)] [(.ref a1), (.ref a1)])) rfl rfl (hb hby d10_2)
  obtain ⟨T102, X102, e102, st102⟩ := getF X101 hx hZ hown (host := "") (Or.inl (hw _ (List.mem_of_getElem? (i := 10) rfl))) Via.refl e101 F_a (g := (mkF m 6 #[.val (.ref a1)] [(.ref a1), (.int (1 : Int32)), (.ref a1)])) rfl rfl (hb hby d10_6)
  obtain ⟨cl103, Ar103, qa103, Sa103, Na103, Ha103, Ga103⟩ := id V_a
  obtain ⟨T104, X104, e104, st104⟩ := getF X102 hx hZ hown (host := "") (Or.inl (hw _ (List.mem_of_getElem? (i := 25) rfl))) Via.refl e102 F_h (g := (mkF m 20 #[.val (.ref a1)] [(.ref a1), (.ref a1)])) rfl rfl (hb hby d10_20)
  obtain ⟨T105, h105, X105, e105, W105, st105⟩ := putF X104 hx hZ hown (host := "") (Or.inl (hw _ (List.mem_of_getElem? (i := 25) rfl))) Via.refl e104 F_h E_a (Or.inl (hw _ (List.mem_of_getElem? (i := 26) rfl))) (hw _ (List.mem_of_getElem? (i := 1) rfl)) (ty := .int) (by decide) rfl rfl (g := (mkF m 25 #[.val (.ref a1)] [(.int (2 : Int32)), (.ref a1)])) rfl rfl (hb hby d10_25)
  have Fw105 := F_h.same W105
  have K105 : Keep h0 h105 [a1] := K0.wr W105 (Or.inl (List.mem_of_getElem? (i := 0) rfl))
  have N105 := Fr.snoc X105 N0 g_a1
  have f106 := (F_c.other W105 (Or.inr (slot_ne (Or.inl (hw _ (List.mem_of_getElem? (i := 24) rfl))) (Or.inl (hw _ (List.mem_of_getElem? (i := 26) rfl))) (by decide) (t := .int) (t' := .int) (by decide) (by decide))))
  obtain ⟨T107, X107, e107, st107⟩ := getF X105 hx hZ hown (host := "") (Or.inl (hw _ (List.mem_of_getElem? (i := 23) rfl))) Via.refl e105 f106 (g := (mkF m 30 #[.val (.ref a1)] [(.ref a1), (.ref a1)])) rfl rfl (hb hby d10_30)
  have f108 := (E_a.wr W105)
  obtain ⟨T109, h109, X109, e109, W109, st109⟩ := putF X107 hx hZ hown (host := "") (Or.inl (hw _ (List.mem_of_getElem? (i := 23) rfl))) Via.refl e107 f106 f108 (Or.inl (hw _ (List.mem_of_getElem? (i := 24) rfl))) (hw _ (List.mem_of_getElem? (i := 1) rfl)) (ty := .int) (by decide) rfl rfl (g := (mkF m 35 #[.val (.ref a1)] [(.int (6 : Int32)), (.ref a1)])) rfl rfl (hb hby d10_35)
  have Fw109 := f106.same W109
  have K109 : Keep h0 h109 [a1] := K105.wr W109 (Or.inl (List.mem_of_getElem? (i := 0) rfl))
  have N109 := Fr.snoc X109 N105 g_a1
  have f110 := (f108.wr W109)
  have f111 := ((F_a.other W105 (Or.inr (slot_ne (Or.inl (hw _ (List.mem_of_getElem? (i := 11) rfl))) (Or.inl (hw _ (List.mem_of_getElem? (i := 26) rfl))) (by decide) (t := (.array .double)) (t' := .int) (by decide) (by decide)))).other W109 (Or.inr (slot_ne (Or.inl (hw _ (List.mem_of_getElem? (i := 11) rfl))) (Or.inl (hw _ (List.mem_of_getElem? (i := 24) rfl))) (by decide) (t := (.array .double)) (t' := .int) (by decide) (by decide))))
  have f112 := ((F_s.other W105 (Or.inr (slot_ne (Or.inl (hw _ (List.mem_of_getElem? (i := 13) rfl))) (Or.inl (hw _ (List.mem_of_getElem? (i := 26) rfl))) (by decide) (t := (.array .double)) (t' := .int) (by decide) (by decide)))).other W109 (Or.inr (slot_ne (Or.inl (hw _ (List.mem_of_getElem? (i := 13) rfl))) (Or.inl (hw _ (List.mem_of_getElem? (i := 24) rfl))) (by decide) (t := (.array .double)) (t' := .int) (by decide) (by decide))))
  have f113 := (Fw105.other W109 (Or.inr (slot_ne (Or.inl (hw _ (List.mem_of_getElem? (i := 26) rfl))) (Or.inl (hw _ (List.mem_of_getElem? (i := 24) rfl))) (by decide) (t := .int) (t' := .int) (by decide) (by decide))))
  have f114 := ((V_a.other W105 (Ne.symm ne1)).other W109 (Ne.symm ne1))
  have f115 := ((V_s.other W105 (Ne.symm ne2)).other W109 (Ne.symm ne2))
  refine Gl.fin X109 (v := none) (fun _ => rfl) Bd.notSynchronized ?_ e109 (by decide) (by decide) (fun fs hr => ?_)
  · exact ⟨rfl, N109, K109, f110, f111, f112, Fw109, f113, f114, f115⟩
  · show Steps p.tables e below (s₁.setTop (mkF m 0 #[.val (.ref a1)] [])) _
    refine XS.aloadN X0.here hx rfl (hb hby d10_0) rfl rfl ?_
    show Steps p.tables e below (s₁.setTop (mkF m 1 #[.val (.ref a1)] [(.ref a1)])) _
    refine XS.aloadN X0.here hx rfl (hb hby d10_1) rfl rfl ?_
    show Steps p.tables e below (s₁.setTop (mkF m 2 #[.val (.ref a1)] [(.ref a1), (.ref a1)])) _
    refine st101 _ ?_
    show Steps p.tables e below (T101.setTop (mkF m 5 #[.val (.ref a1)] [(.int (1 : Int32)), (.ref a1)])) _
    refine XS.aloadN X101.here hx rfl (hb hby d10_5) rfl rfl ?_
    show Steps p.tables e below (T101.setTop (mkF m 6 #[.val (.ref a1)] [(.ref a1), (.int (1 : Int32)), (.ref a1)])) _
    refine st102 _ ?_
    show Steps p.tables e below (T102.setTop (mkF m 9 #[.val (.ref a1)] [(.ref b1), (.int (1 : Int32)), (.ref a1)])) _
    refine X102.arraylength hx (own_hc e102 Ar103.1) (State.isArrayOf_alike hZ.alike Ar103.2.1) (g := (mkF m 9 #[.val (.ref a1)] [(.ref b1), (.int (1 : Int32)), (.ref a1)])) rfl rfl (hb hby d10_9) _ ?_
    rw [len_of Sa103 Na103]
    show Steps p.tables e below (T102.setTop (mkF m 10 #[.val (.ref a1)] [(.int (8 : Int32)), (.int (1 : Int32)), (.ref a1)])) _
    refine XS.iconst X102.here hx rfl (hb hby d10_10) ?_
    show Steps p.tables e below (T102.setTop (mkF m 11 #[.val (.ref a1)] [(.int (1 : Int32)), (.int (8 : Int32)), (.int (1 : Int32)), (.ref a1)])) _
    refine XS.isub X102.here hx rfl (hb hby d10_11) rfl ?_
    show Steps p.tables e below (T102.setTop (mkF m 12 #[.val (.ref a1)] [(.int (7 : Int32)), (.int (1 : Int32)), (.ref a1)])) _
    refine XS.icmpYes X102.here hx rfl (pc0 := 12) (pc' := 19) rfl (hb hby d10_12) rfl (own_nt (ic_ne _ _) (by decide)) (by decide) (by decide) ?_
    show Steps p.tables e below (T102.setTop (mkF m 19 #[.val (.ref a1)] [(.ref a1)])) _
    refine XS.aloadN X102.here hx rfl (hb hby d10_19) rfl rfl ?_
    show Steps p.tables e below (T102.setTop (mkF m 20 #[.val (.ref a1)] [(.ref a1), (.ref a1)])) _
    refine st104 _ ?_
    show Steps p.tables e below (T104.setTop (mkF m 23 #[.val (.ref a1)] [(.int (1 : Int32)), (.ref a1)])) _
    refine XS.iconst X104.here hx rfl (hb hby d10_23) ?_
    show Steps p.tables e below (T104.setTop (mkF m 24 #[.val (.ref a1)] [(.int (1 : Int32)), (.int (1 : Int32)), (.ref a1)])) _
    refine XS.iadd X104.here hx rfl (hb hby d10_24) rfl ?_
    show Steps p.tables e below (T104.setTop (mkF m 25 #[.val (.ref a1)] [(.int (2 : Int32)), (.ref a1)])) _
    refine st105 _ ?_
    show Steps p.tables e below (T105.setTop (mkF m 28 #[.val (.ref a1)] [])) _
    refine XS.aloadN X105.here hx rfl (hb hby d10_28) rfl rfl ?_
    show Steps p.tables e below (T105.setTop (mkF m 29 #[.val (.ref a1)] [(.ref a1)])) _
    refine XS.dup X105.here hx rfl (hb hby d10_29) rfl rfl ?_
    show Steps p.tables e below (T105.setTop (mkF m 30 #[.val (.ref a1)] [(.ref a1), (.ref a1)])) _
    refine st107 _ ?_
    show Steps p.tables e below (T107.setTop (mkF m 33 #[.val (.ref a1)] [(.int (7 : Int32)), (.ref a1)])) _
    refine XS.iconst X107.here hx rfl (hb hby d10_33) ?_
    show Steps p.tables e below (T107.setTop (mkF m 34 #[.val (.ref a1)] [(.int (1 : Int32)), (.int (7 : Int32)), (.ref a1)])) _
    refine XS.isub X107.here hx rfl (hb hby d10_34) rfl ?_
    show Steps p.tables e below (T107.setTop (mkF m 35 #[.val (.ref a1)] [(.int (6 : Int32)), (.ref a1)])) _
    refine st109 _ ?_
    show Steps p.tables e below (T109.setTop (mkF m 38 #[.val (.ref a1)] [])) _
    exact X109.returnOut hx Bd.returns (hb hby d10_38) hr
theorem ef_rm5_2_6 (m : MethodId) (x0 : Addr) (x1 : Int32) (x2 : Int32) (x3 : Int32) (x4 : Int32) : entryFrame m #[(.ref x0), (.int x1), (.int x2), (.int x3), (.int x4)] 5 = mkF m 0 #[.val (.ref x0), .val (.int x1), .val (.int x2), .val (.int x3), .val (.int x4)] [] := by first | (simp [entryFrame, mkF, argsToLocals, Value.category]; done) | rfl
def Q5_2_6 (Z : State) (a1 : Addr) (p2 : Int32) (p3 : Int32) (p4 : Int32) (b1 : Addr) (b2 : Addr) (k1 : ClassId) (k2 : ClassId) (x0 : UInt64) (x1 : UInt64) (x3 : UInt64) (x4 : UInt64) (x5 : UInt64) (x6 : UInt64) (x7 : UInt64) (y0 : UInt64) (y1 : UInt64) (y3 : UInt64) (y4 : UInt64) (y5 : UInt64) (y6 : UInt64) (y7 : UInt64) (h0 : Heap) (n0 : Nat) (v : Option Value) (h : Heap) (L : List Loc) : Prop := v = some (.int 1) ∧ Fr n0 L ∧ h = h0
set_option maxRecDepth 65536 in
set_option maxHeartbeats 40000000 in
theorem rm5_2_6 (l : Launch) (Z : State) (a0 : Array Value) (hw : ∀ d ∈ tables_1, d.before a0 Z = true) (ws : List Jvm.Cond) (a1 : Addr) (p2 : Int32) (p3 : Int32) (p4 : Int32) (b1 : Addr) (b2 : Addr) (k1 : ClassId) (k2 : ClassId) (x0 : UInt64) (x1 : UInt64) (x3 : UInt64) (x4 : UInt64) (x5 : UInt64) (x6 : UInt64) (x7 : UInt64) (y0 : UInt64) (y1 : UInt64) (y3 : UInt64) (y4 : UInt64) (y5 : UInt64) (y6 : UInt64) (y7 : UInt64) (h0 : Heap) (n0 : Nat) (Z0 : n0 ≤ h0.size) (g_a1 : n0 ≤ a1) (g_b1 : n0 ≤ b1) (g_b2 : n0 ≤ b2) (ne1 : a1 ≠ b1) (ne2 : a1 ≠ b2) (ne3 : b1 ≠ b2) (E_a : Exa Z h0 a1 "com/example/tenrec/tenrec/pool/RequestQueue") (F_a : Fld Z h0 a1 "com/example/tenrec/tenrec/pool/RequestQueue" "arrivals" "[D" (.ref b1)) (F_s : Fld Z h0 a1 "com/example/tenrec/tenrec/pool/RequestQueue" "sizes" "[D" (.ref b2)) (F_c : Fld Z h0 a1 "com/example/tenrec/tenrec/pool/RequestQueue" "count" "I" (.int (6 : Int32))) (F_h : Fld Z h0 a1 "com/example/tenrec/tenrec/pool/RequestQueue" "head" "I" (.int (2 : Int32))) (V_a : Arv Z h0 b1 k1 .double (8 : Int32) [(.double x0), (.double x1), (.double (FP.i2d (p2 + p4))), (.double x3), (.double x4), (.double x5), (.double x6), (.double x7)] (.double (0 : UInt64))) (V_s : Arv Z h0 b2 k2 .double (8 : Int32) [(.double y0), (.double y1), (.double (FP.i2d (p3 - p4))), (.double y3), (.double y4), (.double y5), (.double y6), (.double y7)] (.double (0 : UInt64))) :
    OMet l Z (⟨"com/example/tenrec/tenrec/pool/RequestQueueRemoveFirstPinLaw", "front", "(Lcom/example/tenrec/tenrec/pool/RequestQueue;IIII)Z"⟩ : MethodName) method_3_code 5 (some .boolean) ws ({ frames := 1, cells := 0, slots := 0, locals := 15 } : Room) #[(.ref a1), (.int (6 : Int32)), (.int p2), (.int p3), (.int p4)] h0 (Q5_2_6 Z a1 p2 p3 p4 b1 b2 k1 k2 x0 x1 x3 x4 x5 x6 x7 y0 y1 y3 y4 y5 y6 y7 h0 n0) := by
  refine own_body (plainFor_of_name pn_com_example_tenrec_tenrec_pool_RequestQueueRemoveFirstPinLaw) ?_
  intro p e s m below meth c s₁ Bd hml0 hZ e0
  have hx := Bd.exec
  have hby := Bd.bytes
  have hml : c.maxLocals = 5 := hml0
  have hown : s.vm.findClass "com/example/tenrec/tenrec/pool/RequestQueueRemoveFirstPinLaw" = some m.cls := findClass_of_methodNamed Bd.named
  have hnm := (name_of_methodNamed Bd.named Bd.method).1
  have X0 : Stand p l e ({ frames := 1, cells := 0, slots := 0, locals := 15 } : Room) s m #[(.ref a1), (.int (6 : Int32)), (.int p2), (.int p3), (.int p4)] below meth c s₁ [] 0 0 := Stand.of_body Bd
  have N0 := Fr.nil n0
  have K0 : Keep h0 h0 [] := Keep.refl _ _
  rw [ef_rm5_2_6]
  obtain ⟨v101, T101, L101, X101, q101, st101⟩ := own_callV X0 hx hZ (y := (⟨"com/example/tenrec/tenrec/pool/RequestQueue", "size", "()I"⟩ : MethodName)) (z := (⟨"com/example/tenrec/tenrec/pool/RequestQueue", "size", "()I"⟩ : MethodName)) hown (hw _ (List.mem_of_getElem? (i := 30) rfl)) (hw _ (List.mem_of_getElem? (i := 31) rfl)) (notFace_of_selects (args := #[]) (mvT hZ (hw _ (List.mem_of_getElem? (i := 33) rfl)))) (hw _ (List.mem_of_getElem? (i := 33) rfl)) (hw _ (List.mem_of_getElem? (i := 32) rfl)) (hw _ (List.mem_of_getElem? (i := 2) rfl)) (hw _ (List.mem_of_getElem? (i := 34) rfl)) (by decide) E_a (hM := (rm6 l Z a0 hw [] a1 (6 : Int32) h0 n0 Z0 F_c)) (by decide) (by decide) (by decide) (by decide) e0 (argsL := []) (rest := []) (Ls := #[.val (.ref a1), .val (.int (6 : Int32)), .val (.int p2), .val (.int p3), .val (.int p4)]) (by rw [hml]; rfl) (lenOf pd___I rfl) (W := 0) (Nat.le_of_eq rfl) (hb hby d5_1)
  obtain ⟨rfl, N101q, e101⟩ := q101
  have N101 := Fr.app N0 N101q
  obtain ⟨v102, T102, L102, X102, q102, st102⟩ := own_callV X101 hx hZ (y := (⟨"com/example/tenrec/tenrec/pool/RequestQueue", "isEmpty", "()Z"⟩ : MethodName)) (z := (⟨"com/example/tenrec/tenrec/pool/RequestQueue", "isEmpty", "()Z"⟩ : MethodName)) hown (hw _ (List.mem_of_getElem? (i := 35) rfl)) (hw _ (List.mem_of_getElem? (i := 36) rfl)) (notFace_of_selects (args := #[]) (mvT hZ (hw _ (List.mem_of_getElem? (i := 38) rfl)))) (hw _ (List.mem_of_getElem? (i := 38) rfl)) (hw _ (List.mem_of_getElem? (i := 37) rfl)) (hw _ (List.mem_of_getElem? (i := 2) rfl)) (hw _ (List.mem_of_getElem? (i := 39) rfl)) (by decide) E_a (hM := (rm7 l Z a0 hw [] a1 (6 : Int32) h0 n0 Z0 F_c)) (by decide) (by decide) (by decide) (by decide) e101 (argsL := []) (rest := [(.int (1 : Int32))]) (Ls := #[.val (.ref a1), .val (.int (6 : Int32)), .val (.int p2), .val (.int p3), .val (.int p4)]) (by rw [hml]; rfl) (lenOf pd___Z rfl) (W := 1) (Nat.le_of_eq rfl) (hb hby d5_14)
  obtain ⟨rfl, N102q, e102⟩ := q102
  have N102 := Fr.app N101 N102q
  obtain ⟨v103, T103, L103, X103, q103, st103⟩ := own_callV X102 hx hZ (y := (⟨"com/example/tenrec/tenrec/pool/RequestQueue", "firstArrival", "()D"⟩ : MethodName)) (z := (⟨"com/example/tenrec/tenrec/pool/RequestQueue", "firstArrival", "()D"⟩ : MethodName)) hown (hw _ (List.mem_of_getElem? (i := 40) rfl)) (hw _ (List.mem_of_getElem? (i := 41) rfl)) (notFace_of_selects (args := #[]) (mvT hZ (hw _ (List.mem_of_getElem? (i := 43) rfl)))) (hw _ (List.mem_of_getElem? (i := 43) rfl)) (hw _ (List.mem_of_getElem? (i := 42) rfl)) (hw _ (List.mem_of_getElem? (i := 2) rfl)) (hw _ (List.mem_of_getElem? (i := 44) rfl)) (by decide) E_a (hM := (rm8_2 l Z a0 hw [] a1 b1 k1 x0 x1 (FP.i2d (p2 + p4)) x3 x4 x5 x6 x7 h0 n0 Z0 F_a F_h V_a)) (by decide) (by decide) (by decide) (by decide) e102 (argsL := []) (rest := [(.int (1 : Int32))]) (Ls := #[.val (.ref a1), .val (.int (6 : Int32)), .val (.int p2), .val (.int p3), .val (.int p4)]) (by rw [hml]; rfl) (lenOf pd___D rfl) (W := 1) (Nat.le_of_eq rfl) (hb hby d5_27)
  obtain ⟨rfl, N103q, e103⟩ := q103
  have N103 := Fr.app N102 N103q
  obtain ⟨v104, T104, L104, X104, q104, st104⟩ := own_callV X103 hx hZ (y := (⟨"com/example/tenrec/tenrec/pool/RequestQueue", "firstSize", "()D"⟩ : MethodName)) (z := (⟨"com/example/tenrec/tenrec/pool/RequestQueue", "firstSize", "()D"⟩ : MethodName)) hown (hw _ (List.mem_of_getElem? (i := 45) rfl)) (hw _ (List.mem_of_getElem? (i := 46) rfl)) (notFace_of_selects (args := #[]) (mvT hZ (hw _ (List.mem_of_getElem? (i := 48) rfl)))) (hw _ (List.mem_of_getElem? (i := 48) rfl)) (hw _ (List.mem_of_getElem? (i := 47) rfl)) (hw _ (List.mem_of_getElem? (i := 2) rfl)) (hw _ (List.mem_of_getElem? (i := 49) rfl)) (by decide) E_a (hM := (rm9_2 l Z a0 hw [] a1 b2 k2 y0 y1 (FP.i2d (p3 - p4)) y3 y4 y5 y6 y7 h0 n0 Z0 F_s F_h V_s)) (by decide) (by decide) (by decide) (by decide) e103 (argsL := []) (rest := [(.int (1 : Int32))]) (Ls := #[.val (.ref a1), .val (.int (6 : Int32)), .val (.int p2), .val (.int p3), .val (.int p4)]) (by rw [hml]; rfl) (lenOf pd___D rfl) (W := 1) (Nat.le_of_eq rfl) (hb hby d5_46)
  obtain ⟨rfl, N104q, e104⟩ := q104
  have N104 := Fr.app N103 N104q
  refine Gl.pre (S' := T104.setTop (mkF m 58 #[.val (.ref a1), .val (.int (6 : Int32)), .val (.int p2), .val (.int p3), .val (.int p4)] [(.int (1 : Int32))])) (fun t kt => ?_) ?_
  · show Steps p.tables e below (s₁.setTop (mkF m 0 #[.val (.ref a1), .val (.int (6 : Int32)), .val (.int p2), .val (.int p3), .val (.int p4)] [])) _
    refine XS.aloadN X0.here hx rfl (hb hby d5_0) rfl rfl ?_
    show Steps p.tables e below (s₁.setTop (mkF m 1 #[.val (.ref a1), .val (.int (6 : Int32)), .val (.int p2), .val (.int p3), .val (.int p4)] [(.ref a1)])) _
    refine st101 _ ?_
    show Steps p.tables e below (T101.setTop (mkF m 4 #[.val (.ref a1), .val (.int (6 : Int32)), .val (.int p2), .val (.int p3), .val (.int p4)] [(.int (6 : Int32))])) _
    refine XS.iloadN X101.here hx rfl (hb hby d5_4) rfl ?_
    show Steps p.tables e below (T101.setTop (mkF m 5 #[.val (.ref a1), .val (.int (6 : Int32)), .val (.int p2), .val (.int p3), .val (.int p4)] [(.int (6 : Int32)), (.int (6 : Int32))])) _
    refine XS.icmpNo X101.here hx rfl (hb hby d5_5) rfl (own_nf (ic_ne _ _) (by decide)) ?_
    show Steps p.tables e below (T101.setTop (mkF m 8 #[.val (.ref a1), .val (.int (6 : Int32)), .val (.int p2), .val (.int p3), .val (.int p4)] [])) _
    refine XS.iconst X101.here hx rfl (hb hby d5_8) ?_
    show Steps p.tables e below (T101.setTop (mkF m 9 #[.val (.ref a1), .val (.int (6 : Int32)), .val (.int p2), .val (.int p3), .val (.int p4)] [(.int (1 : Int32))])) _
    refine XS.goto X101.here hx rfl (pc0 := 9) (pc' := 13) rfl (hb hby d5_9) (by decide) (by decide) ?_
    show Steps p.tables e below (T101.setTop (mkF m 13 #[.val (.ref a1), .val (.int (6 : Int32)), .val (.int p2), .val (.int p3), .val (.int p4)] [(.int (1 : Int32))])) _
    refine XS.aloadN X101.here hx rfl (hb hby d5_13) rfl rfl ?_
    show Steps p.tables e below (T101.setTop (mkF m 14 #[.val (.ref a1), .val (.int (6 : Int32)), .val (.int p2), .val (.int p3), .val (.int p4)] [(.ref a1), (.int (1 : Int32))])) _
    refine st102 _ ?_
    show Steps p.tables e below (T102.setTop (mkF m 17 #[.val (.ref a1), .val (.int (6 : Int32)), .val (.int p2), .val (.int p3), .val (.int p4)] [(.int (0 : Int32)), (.int (1 : Int32))])) _
    refine XS.ifNo X102.here hx rfl (hb hby d5_17) rfl (own_nf (i0_ne _) (by decide)) ?_
    show Steps p.tables e below (T102.setTop (mkF m 20 #[.val (.ref a1), .val (.int (6 : Int32)), .val (.int p2), .val (.int p3), .val (.int p4)] [(.int (1 : Int32))])) _
    refine XS.iconst X102.here hx rfl (hb hby d5_20) ?_
    show Steps p.tables e below (T102.setTop (mkF m 21 #[.val (.ref a1), .val (.int (6 : Int32)), .val (.int p2), .val (.int p3), .val (.int p4)] [(.int (1 : Int32)), (.int (1 : Int32))])) _
    refine XS.goto X102.here hx rfl (pc0 := 21) (pc' := 25) rfl (hb hby d5_21) (by decide) (by decide) ?_
    show Steps p.tables e below (T102.setTop (mkF m 25 #[.val (.ref a1), .val (.int (6 : Int32)), .val (.int p2), .val (.int p3), .val (.int p4)] [(.int (1 : Int32)), (.int (1 : Int32))])) _
    refine XS.iand X102.here hx rfl (hb hby d5_25) rfl ?_
    show Steps p.tables e below (T102.setTop (mkF m 26 #[.val (.ref a1), .val (.int (6 : Int32)), .val (.int p2), .val (.int p3), .val (.int p4)] [(.int (1 : Int32))])) _
    refine XS.aloadN X102.here hx rfl (hb hby d5_26) rfl rfl ?_
    show Steps p.tables e below (T102.setTop (mkF m 27 #[.val (.ref a1), .val (.int (6 : Int32)), .val (.int p2), .val (.int p3), .val (.int p4)] [(.ref a1), (.int (1 : Int32))])) _
    refine st103 _ ?_
    show Steps p.tables e below (T103.setTop (mkF m 30 #[.val (.ref a1), .val (.int (6 : Int32)), .val (.int p2), .val (.int p3), .val (.int p4)] [(.double (FP.i2d (p2 + p4))), (.int (1 : Int32))])) _
    refine XS.iloadN X103.here hx rfl (hb hby d5_30) rfl ?_
    show Steps p.tables e below (T103.setTop (mkF m 31 #[.val (.ref a1), .val (.int (6 : Int32)), .val (.int p2), .val (.int p3), .val (.int p4)] [(.int p2), (.double (FP.i2d (p2 + p4))), (.int (1 : Int32))])) _
    refine XS.iload X103.here hx rfl (hb hby d5_31) rfl ?_
    show Steps p.tables e below (T103.setTop (mkF m 33 #[.val (.ref a1), .val (.int (6 : Int32)), .val (.int p2), .val (.int p3), .val (.int p4)] [(.int p4), (.int p2), (.double (FP.i2d (p2 + p4))), (.int (1 : Int32))])) _
    refine XS.iadd X103.here hx rfl (hb hby d5_33) rfl ?_
    show Steps p.tables e below (T103.setTop (mkF m 34 #[.val (.ref a1), .val (.int (6 : Int32)), .val (.int p2), .val (.int p3), .val (.int p4)] [(.int (p2 + p4)), (.double (FP.i2d (p2 + p4))), (.int (1 : Int32))])) _
    refine XS.i2dS X103.here hx rfl (hb hby d5_34) rfl rfl ?_
    show Steps p.tables e below (T103.setTop (mkF m 35 #[.val (.ref a1), .val (.int (6 : Int32)), .val (.int p2), .val (.int p3), .val (.int p4)] [(.double (FP.i2d (p2 + p4))), (.double (FP.i2d (p2 + p4))), (.int (1 : Int32))])) _
    refine XS.dcmpS X103.here hx rfl (hb hby d5_35) rfl (dcmpV_self (nn_w (i2d_w _)) _) ?_
    show Steps p.tables e below (T103.setTop (mkF m 36 #[.val (.ref a1), .val (.int (6 : Int32)), .val (.int p2), .val (.int p3), .val (.int p4)] [(.int (0 : Int32)), (.int (1 : Int32))])) _
    refine XS.ifNo X103.here hx rfl (hb hby d5_36) rfl (own_nf (i0_ne _) (by decide)) ?_
    show Steps p.tables e below (T103.setTop (mkF m 39 #[.val (.ref a1), .val (.int (6 : Int32)), .val (.int p2), .val (.int p3), .val (.int p4)] [(.int (1 : Int32))])) _
    refine XS.iconst X103.here hx rfl (hb hby d5_39) ?_
    show Steps p.tables e below (T103.setTop (mkF m 40 #[.val (.ref a1), .val (.int (6 : Int32)), .val (.int p2), .val (.int p3), .val (.int p4)] [(.int (1 : Int32)), (.int (1 : Int32))])) _
    refine XS.goto X103.here hx rfl (pc0 := 40) (pc' := 44) rfl (hb hby d5_40) (by decide) (by decide) ?_
    show Steps p.tables e below (T103.setTop (mkF m 44 #[.val (.ref a1), .val (.int (6 : Int32)), .val (.int p2), .val (.int p3), .val (.int p4)] [(.int (1 : Int32)), (.int (1 : Int32))])) _
    refine XS.iand X103.here hx rfl (hb hby d5_44) rfl ?_
    show Steps p.tables e below (T103.setTop (mkF m 45 #[.val (.ref a1), .val (.int (6 : Int32)), .val (.int p2), .val (.int p3), .val (.int p4)] [(.int (1 : Int32))])) _
    refine XS.aloadN X103.here hx rfl (hb hby d5_45) rfl rfl ?_
    show Steps p.tables e below (T103.setTop (mkF m 46 #[.val (.ref a1), .val (.int (6 : Int32)), .val (.int p2), .val (.int p3), .val (.int p4)] [(.ref a1), (.int (1 : Int32))])) _
    refine st104 _ ?_
    show Steps p.tables e below (T104.setTop (mkF m 49 #[.val (.ref a1), .val (.int (6 : Int32)), .val (.int p2), .val (.int p3), .val (.int p4)] [(.double (FP.i2d (p3 - p4))), (.int (1 : Int32))])) _
    refine XS.iloadN X104.here hx rfl (hb hby d5_49) rfl ?_
    show Steps p.tables e below (T104.setTop (mkF m 50 #[.val (.ref a1), .val (.int (6 : Int32)), .val (.int p2), .val (.int p3), .val (.int p4)] [(.int p3), (.double (FP.i2d (p3 - p4))), (.int (1 : Int32))])) _
    refine XS.iload X104.here hx rfl (hb hby d5_50) rfl ?_
    show Steps p.tables e below (T104.setTop (mkF m 52 #[.val (.ref a1), .val (.int (6 : Int32)), .val (.int p2), .val (.int p3), .val (.int p4)] [(.int p4), (.int p3), (.double (FP.i2d (p3 - p4))), (.int (1 : Int32))])) _
    refine XS.isub X104.here hx rfl (hb hby d5_52) rfl ?_
    show Steps p.tables e below (T104.setTop (mkF m 53 #[.val (.ref a1), .val (.int (6 : Int32)), .val (.int p2), .val (.int p3), .val (.int p4)] [(.int (p3 - p4)), (.double (FP.i2d (p3 - p4))), (.int (1 : Int32))])) _
    refine XS.i2dS X104.here hx rfl (hb hby d5_53) rfl rfl ?_
    show Steps p.tables e below (T104.setTop (mkF m 54 #[.val (.ref a1), .val (.int (6 : Int32)), .val (.int p2), .val (.int p3), .val (.int p4)] [(.double (FP.i2d (p3 - p4))), (.double (FP.i2d (p3 - p4))), (.int (1 : Int32))])) _
    refine XS.dcmpS X104.here hx rfl (hb hby d5_54) rfl (dcmpV_self (nn_w (i2d_w _)) _) ?_
    show Steps p.tables e below (T104.setTop (mkF m 55 #[.val (.ref a1), .val (.int (6 : Int32)), .val (.int p2), .val (.int p3), .val (.int p4)] [(.int (0 : Int32)), (.int (1 : Int32))])) _
    refine XS.ifNo X104.here hx rfl (hb hby d5_55) rfl (own_nf (i0_ne _) (by decide)) ?_
    exact kt
  refine Gl.fin X104 (v := some (.int (1 : Int32))) (fun h => by rw [Bd.returns] at h; cases h) Bd.notSynchronized ?_ e104 (by decide) (by decide) (fun fs hr => ?_)
  · exact ⟨rfl, N104, rfl⟩
  · show Steps p.tables e below (T104.setTop (mkF m 58 #[.val (.ref a1), .val (.int (6 : Int32)), .val (.int p2), .val (.int p3), .val (.int p4)] [(.int (1 : Int32))])) _
    refine XS.iconst X104.here hx rfl (hb hby d5_58) ?_
    show Steps p.tables e below (T104.setTop (mkF m 59 #[.val (.ref a1), .val (.int (6 : Int32)), .val (.int p2), .val (.int p3), .val (.int p4)] [(.int (1 : Int32)), (.int (1 : Int32))])) _
    refine XS.goto X104.here hx rfl (pc0 := 59) (pc' := 63) rfl (hb hby d5_59) (by decide) (by decide) ?_
    show Steps p.tables e below (T104.setTop (mkF m 63 #[.val (.ref a1), .val (.int (6 : Int32)), .val (.int p2), .val (.int p3), .val (.int p4)] [(.int (1 : Int32)), (.int (1 : Int32))])) _
    refine XS.iand X104.here hx rfl (hb hby d5_63) rfl ?_
    show Steps p.tables e below (T104.setTop (mkF m 64 #[.val (.ref a1), .val (.int (6 : Int32)), .val (.int p2), .val (.int p3), .val (.int p4)] [(.int (1 : Int32))])) _
    exact retN X104 hx (t := .boolean) Bd.returns (by simp) (hb hby d5_64) hr
theorem ef_rm10_2_6 (m : MethodId) (x0 : Addr) : entryFrame m #[(.ref x0)] 1 = mkF m 0 #[.val (.ref x0)] [] := by first | (simp [entryFrame, mkF, argsToLocals, Value.category]; done) | rfl
def Q10_2_6 (Z : State) (a1 : Addr) (b1 : Addr) (b2 : Addr) (k1 : ClassId) (k2 : ClassId) (x0 : UInt64) (x1 : UInt64) (x2 : UInt64) (x3 : UInt64) (x4 : UInt64) (x5 : UInt64) (x6 : UInt64) (x7 : UInt64) (y0 : UInt64) (y1 : UInt64) (y2 : UInt64) (y3 : UInt64) (y4 : UInt64) (y5 : UInt64) (y6 : UInt64) (y7 : UInt64) (h0 : Heap) (n0 : Nat) (v : Option Value) (h : Heap) (L : List Loc) : Prop := v = none ∧ Fr n0 L ∧ Keep h0 h [a1] ∧ Exa Z h a1 "com/example/tenrec/tenrec/pool/RequestQueue" ∧ Fld Z h a1 "com/example/tenrec/tenrec/pool/RequestQueue" "arrivals" "[D" (.ref b1) ∧ Fld Z h a1 "com/example/tenrec/tenrec/pool/RequestQueue" "sizes" "[D" (.ref b2) ∧ Fld Z h a1 "com/example/tenrec/tenrec/pool/RequestQueue" "count" "I" (.int (5 : Int32)) ∧ Fld Z h a1 "com/example/tenrec/tenrec/pool/RequestQueue" "head" "I" (.int (3 : Int32)) ∧ Arv Z h b1 k1 .double (8 : Int32) [(.double x0), (.double x1), (.double x2), (.double x3), (.double x4), (.double x5), (.double x6), (.double x7)] (.double (0 : UInt64)) ∧ Arv Z h b2 k2 .double (8 : Int32) [(.double y0), (.double y1), (.double y2), (.double y3), (.double y4), (.double y5), (.double y6), (.double y7)] (.double (0 : UInt64))
set_option maxRecDepth 65536 in
set_option maxHeartbeats 40000000 in
theorem rm10_2_6 (l : Launch) (Z : State) (a0 : Array Value) (hw : ∀ d ∈ tables_1, d.before a0 Z = true) (ws : List Jvm.Cond) (a1 : Addr) (b1 : Addr) (b2 : Addr) (k1 : ClassId) (k2 : ClassId) (x0 : UInt64) (x1 : UInt64) (x2 : UInt64) (x3 : UInt64) (x4 : UInt64) (x5 : UInt64) (x6 : UInt64) (x7 : UInt64) (y0 : UInt64) (y1 : UInt64) (y2 : UInt64) (y3 : UInt64) (y4 : UInt64) (y5 : UInt64) (y6 : UInt64) (y7 : UInt64) (h0 : Heap) (n0 : Nat) (Z0 : n0 ≤ h0.size) (g_a1 : n0 ≤ a1) (g_b1 : n0 ≤ b1) (g_b2 : n0 ≤ b2) (ne1 : a1 ≠ b1) (ne2 : a1 ≠ b2) (ne3 : b1 ≠ b2) (E_a : Exa Z h0 a1 "com/example/tenrec/tenrec/pool/RequestQueue") (F_a : Fld Z h0 a1 "com/example/tenrec/tenrec/pool/RequestQueue" "arrivals" "[D" (.ref b1)) (F_s : Fld Z h0 a1 "com/example/tenrec/tenrec/pool/RequestQueue" "sizes" "[D" (.ref b2)) (F_c : Fld Z h0 a1 "com/example/tenrec/tenrec/pool/RequestQueue" "count" "I" (.int (6 : Int32))) (F_h : Fld Z h0 a1 "com/example/tenrec/tenrec/pool/RequestQueue" "head" "I" (.int (2 : Int32))) (V_a : Arv Z h0 b1 k1 .double (8 : Int32) [(.double x0), (.double x1), (.double x2), (.double x3), (.double x4), (.double x5), (.double x6), (.double x7)] (.double (0 : UInt64))) (V_s : Arv Z h0 b2 k2 .double (8 : Int32) [(.double y0), (.double y1), (.double y2), (.double y3), (.double y4), (.double y5), (.double y6), (.double y7)] (.double (0 : UInt64))) :
    OMet l Z (⟨"com/example/tenrec/tenrec/pool/RequestQueue", "removeFirst", "()V"⟩ : MethodName) prog_34_method_7_code 1 none ws ({ frames := 0, cells := 0, slots := 0, locals := 0 } : Room) #[(.ref a1)] h0 (Q10_2_6 Z a1 b1 b2 k1 k2 x0 x1 x2 x3 x4 x5 x6 x7 y0 y1 y2 y3 y4 y5 y6 y7 h0 n0) := by
  refine own_body (plainFor_of_name pn_com_example_tenrec_tenrec_pool_RequestQueue) ?_
  intro p e s m below meth c s₁ Bd hml0 hZ e0
  have hx := Bd.exec
  have hby := Bd.bytes
  have hml : c.maxLocals = 1 := hml0
  have hown : s.vm.findClass "com/example/tenrec/tenrec/pool/RequestQueue" = some m.cls := findClass_of_methodNamed Bd.named
  have hnm := (name_of_methodNamed Bd.named Bd.method).1
  have X0 : Stand p l e ({ frames := 0, cells := 0, slots := 0, locals := 0 } : Room) s m #[(.ref a1)] below meth c s₁ [] 0 0 := Stand.of_body Bd
  have N0 := Fr.nil n0
  have K0 : Keep h0 h0 [a1] := Keep.refl _ _
  rw [ef_rm10_2_6]
  obtain ⟨T101, X101, e101, st101⟩ := getF X0 hx hZ hown (host := "") (Or.inl (hw _ (List.mem_of_getElem? (i := 25) rfl))) Via.refl e0 F_h (g := (mkF m 2 #[.val (.ref a1)] [(.ref a1), (.ref a1)])) rfl rfl (hb hby d10_2)
  obtain ⟨T102, X102, e102, st102⟩ := getF X101 hx hZ hown (host := "") (Or.inl (hw _ (List.mem_of_getElem? (i := 10) rfl))) Via.refl e101 F_a (g := (mkF m 6 #[.val (.ref a1)] [(.ref a1), (.int (2 : Int32)), (.ref a1)])) rfl rfl (hb hby d10_6)
  obtain ⟨cl103, Ar103, qa103, Sa103, Na103, Ha103, Ga103⟩ := id V_a
  obtain ⟨T104, X104, e104, st104⟩ := getF X102 hx hZ hown (host := "") (Or.inl (hw _ (List.mem_of_getElem? (i := 25) rfl))) Via.refl e102 F_h (g := (mkF m 20 #[.val (.ref a1)] [(.ref a1), (.ref a1)])) rfl rfl (hb hby d10_20)
  obtain ⟨T105, h105, X105, e105, W105, st105⟩ := putF X104 hx hZ hown (host := "") (Or.inl (hw _ (List.mem_of_getElem? (i := 25) rfl))) Via.refl e104 F_h E_a (Or.inl (hw _ (List.mem_of_getElem? (i := 26) rfl))) (hw _ (List.mem_of_getElem? (i := 1) rfl)) (ty := .int) (by decide) rfl rfl (g := (mkF m 25 #[.val (.ref a1)] [(.int (3 : Int32)), (.ref a1)])) rfl rfl (hb hby d10_25)
  have Fw105 := F_h.same W105
  have K105 : Keep h0 h105 [a1] := K0.wr W105 (Or.inl (List.mem_of_getElem? (i := 0) rfl))
  have N105 := Fr.snoc X105 N0 g_a1
  have f106 := (F_c.other W105 (Or.inr (slot_ne (Or.inl (hw _ (List.mem_of_getElem? (i := 24) rfl))) (Or.inl (hw _ (List.mem_of_getElem? (i := 26) rfl))) (by decide) (t := .int) (t' := .int) (by decide) (by decide))))
  obtain ⟨T107, X107, e107, st107⟩ := getF X105 hx hZ hown (host := "") (Or.inl (hw _ (List.mem_of_getElem? (i := 23) rfl))) Via.refl e105 f106 (g := (mkF m 30 #[.val (.ref a1)] [(.ref a1), (.ref a1)])) rfl rfl (hb hby d10_30)
  have f108 := (E_a.wr W105)
  obtain ⟨T109, h109, X109, e109, W109, st109⟩ := putF X107 hx hZ hown (host := "") (Or.inl (hw _ (List.mem_of_getElem? (i := 23) rfl))) Via.refl e107 f106 f108 (Or.inl (hw _ (List.mem_of_getElem? (i := 24) rfl))) (hw _ (List.mem_of_getElem? (i := 1) rfl)) (ty := .int) (by decide) rfl rfl (g := (mkF m 35 #[.val (.ref a1)] [(.int (5 : Int32)), (.ref a1)])) rfl rfl (hb hby d10_35)
  have Fw109 := f106.same W109
  have K109 : Keep h0 h109 [a1] := K105.wr W109 (Or.inl (List.mem_of_getElem? (i := 0) rfl))
  have N109 := Fr.snoc X109 N105 g_a1
  have f110 := (f108.wr W109)
  have f111 := ((F_a.other W105 (Or.inr (slot_ne (Or.inl (hw _ (List.mem_of_getElem? (i := 11) rfl))) (Or.inl (hw _ (List.mem_of_getElem? (i := 26) rfl))) (by decide) (t := (.array .double)) (t' := .int) (by decide) (by decide)))).other W109 (Or.inr (slot_ne (Or.inl (hw _ (List.mem_of_getElem? (i := 11) rfl))) (Or.inl (hw _ (List.mem_of_getElem? (i := 24) rfl))) (by decide) (t := (.array .double)) (t' := .int) (by decide) (by decide))))
  have f112 := ((F_s.other W105 (Or.inr (slot_ne (Or.inl (hw _ (List.mem_of_getElem? (i := 13) rfl))) (Or.inl (hw _ (List.mem_of_getElem? (i := 26) rfl))) (by decide) (t := (.array .double)) (t' := .int) (by decide) (by decide)))).other W109 (Or.inr (slot_ne (Or.inl (hw _ (List.mem_of_getElem? (i := 13) rfl))) (Or.inl (hw _ (List.mem_of_getElem? (i := 24) rfl))) (by decide) (t := (.array .double)) (t' := .int) (by decide) (by decide))))
  have f113 := (Fw105.other W109 (Or.inr (slot_ne (Or.inl (hw _ (List.mem_of_getElem? (i := 26) rfl))) (Or.inl (hw _ (List.mem_of_getElem? (i := 24) rfl))) (by decide) (t := .int) (t' := .int) (by decide) (by decide))))
  have f114 := ((V_a.other W105 (Ne.symm ne1)).other W109 (Ne.symm ne1))
  have f115 := ((V_s.other W105 (Ne.symm ne2)).other W109 (Ne.symm ne2))
  refine Gl.fin X109 (v := none) (fun _ => rfl) Bd.notSynchronized ?_ e109 (by decide) (by decide) (fun fs hr => ?_)
  · exact ⟨rfl, N109, K109, f110, f111, f112, Fw109, f113, f114, f115⟩
  · show Steps p.tables e below (s₁.setTop (mkF m 0 #[.val (.ref a1)] [])) _
    refine XS.aloadN X0.here hx rfl (hb hby d10_0) rfl rfl ?_
    show Steps p.tables e below (s₁.setTop (mkF m 1 #[.val (.ref a1)] [(.ref a1)])) _
    refine XS.aloadN X0.here hx rfl (hb hby d10_1) rfl rfl ?_
    show Steps p.tables e below (s₁.setTop (mkF m 2 #[.val (.ref a1)] [(.ref a1), (.ref a1)])) _
    refine st101 _ ?_
    show Steps p.tables e below (T101.setTop (mkF m 5 #[.val (.ref a1)] [(.int (2 : Int32)), (.ref a1)])) _
    refine XS.aloadN X101.here hx rfl (hb hby d10_5) rfl rfl ?_
    show Steps p.tables e below (T101.setTop (mkF m 6 #[.val (.ref a1)] [(.ref a1), (.int (2 : Int32)), (.ref a1)])) _
    refine st102 _ ?_
    show Steps p.tables e below (T102.setTop (mkF m 9 #[.val (.ref a1)] [(.ref b1), (.int (2 : Int32)), (.ref a1)])) _
    refine X102.arraylength hx (own_hc e102 Ar103.1) (State.isArrayOf_alike hZ.alike Ar103.2.1) (g := (mkF m 9 #[.val (.ref a1)] [(.ref b1), (.int (2 : Int32)), (.ref a1)])) rfl rfl (hb hby d10_9) _ ?_
    rw [len_of Sa103 Na103]
    show Steps p.tables e below (T102.setTop (mkF m 10 #[.val (.ref a1)] [(.int (8 : Int32)), (.int (2 : Int32)), (.ref a1)])) _
    refine XS.iconst X102.here hx rfl (hb hby d10_10) ?_
    show Steps p.tables e below (T102.setTop (mkF m 11 #[.val (.ref a1)] [(.int (1 : Int32)), (.int (8 : Int32)), (.int (2 : Int32)), (.ref a1)])) _
    refine XS.isub X102.here hx rfl (hb hby d10_11) rfl ?_
    show Steps p.tables e below (T102.setTop (mkF m 12 #[.val (.ref a1)] [(.int (7 : Int32)), (.int (2 : Int32)), (.ref a1)])) _
    refine XS.icmpYes X102.here hx rfl (pc0 := 12) (pc' := 19) rfl (hb hby d10_12) rfl (own_nt (ic_ne _ _) (by decide)) (by decide) (by decide) ?_
    show Steps p.tables e below (T102.setTop (mkF m 19 #[.val (.ref a1)] [(.ref a1)])) _
    refine XS.aloadN X102.here hx rfl (hb hby d10_19) rfl rfl ?_
    show Steps p.tables e below (T102.setTop (mkF m 20 #[.val (.ref a1)] [(.ref a1), (.ref a1)])) _
    refine st104 _ ?_
    show Steps p.tables e below (T104.setTop (mkF m 23 #[.val (.ref a1)] [(.int (2 : Int32)), (.ref a1)])) _
    refine XS.iconst X104.here hx rfl (hb hby d10_23) ?_
    show Steps p.tables e below (T104.setTop (mkF m 24 #[.val (.ref a1)] [(.int (1 : Int32)), (.int (2 : Int32)), (.ref a1)])) _
    refine XS.iadd X104.here hx rfl (hb hby d10_24) rfl ?_
    show Steps p.tables e below (T104.setTop (mkF m 25 #[.val (.ref a1)] [(.int (3 : Int32)), (.ref a1)])) _
    refine st105 _ ?_
    show Steps p.tables e below (T105.setTop (mkF m 28 #[.val (.ref a1)] [])) _
    refine XS.aloadN X105.here hx rfl (hb hby d10_28) rfl rfl ?_
    show Steps p.tables e below (T105.setTop (mkF m 29 #[.val (.ref a1)] [(.ref a1)])) _
    refine XS.dup X105.here hx rfl (hb hby d10_29) rfl rfl ?_
    show Steps p.tables e below (T105.setTop (mkF m 30 #[.val (.ref a1)] [(.ref a1), (.ref a1)])) _
    refine st107 _ ?_
    show Steps p.tables e below (T107.setTop (mkF m 33 #[.val (.ref a1)] [(.int (6 : Int32)), (.ref a1)])) _
    refine XS.iconst X107.here hx rfl (hb hby d10_33) ?_
    show Steps p.tables e below (T107.setTop (mkF m 34 #[.val (.ref a1)] [(.int (1 : Int32)), (.int (6 : Int32)), (.ref a1)])) _
    refine XS.isub X107.here hx rfl (hb hby d10_34) rfl ?_
    show Steps p.tables e below (T107.setTop (mkF m 35 #[.val (.ref a1)] [(.int (5 : Int32)), (.ref a1)])) _
    refine st109 _ ?_
    show Steps p.tables e below (T109.setTop (mkF m 38 #[.val (.ref a1)] [])) _
    exact X109.returnOut hx Bd.returns (hb hby d10_38) hr
theorem ef_rm5_3_5 (m : MethodId) (x0 : Addr) (x1 : Int32) (x2 : Int32) (x3 : Int32) (x4 : Int32) : entryFrame m #[(.ref x0), (.int x1), (.int x2), (.int x3), (.int x4)] 5 = mkF m 0 #[.val (.ref x0), .val (.int x1), .val (.int x2), .val (.int x3), .val (.int x4)] [] := by first | (simp [entryFrame, mkF, argsToLocals, Value.category]; done) | rfl
def Q5_3_5 (Z : State) (a1 : Addr) (p2 : Int32) (p3 : Int32) (p4 : Int32) (b1 : Addr) (b2 : Addr) (k1 : ClassId) (k2 : ClassId) (x0 : UInt64) (x1 : UInt64) (x2 : UInt64) (x4 : UInt64) (x5 : UInt64) (x6 : UInt64) (x7 : UInt64) (y0 : UInt64) (y1 : UInt64) (y2 : UInt64) (y4 : UInt64) (y5 : UInt64) (y6 : UInt64) (y7 : UInt64) (h0 : Heap) (n0 : Nat) (v : Option Value) (h : Heap) (L : List Loc) : Prop := v = some (.int 1) ∧ Fr n0 L ∧ h = h0
set_option maxRecDepth 65536 in
set_option maxHeartbeats 40000000 in
theorem rm5_3_5 (l : Launch) (Z : State) (a0 : Array Value) (hw : ∀ d ∈ tables_1, d.before a0 Z = true) (ws : List Jvm.Cond) (a1 : Addr) (p2 : Int32) (p3 : Int32) (p4 : Int32) (b1 : Addr) (b2 : Addr) (k1 : ClassId) (k2 : ClassId) (x0 : UInt64) (x1 : UInt64) (x2 : UInt64) (x4 : UInt64) (x5 : UInt64) (x6 : UInt64) (x7 : UInt64) (y0 : UInt64) (y1 : UInt64) (y2 : UInt64) (y4 : UInt64) (y5 : UInt64) (y6 : UInt64) (y7 : UInt64) (h0 : Heap) (n0 : Nat) (Z0 : n0 ≤ h0.size) (g_a1 : n0 ≤ a1) (g_b1 : n0 ≤ b1) (g_b2 : n0 ≤ b2) (ne1 : a1 ≠ b1) (ne2 : a1 ≠ b2) (ne3 : b1 ≠ b2) (E_a : Exa Z h0 a1 "com/example/tenrec/tenrec/pool/RequestQueue") (F_a : Fld Z h0 a1 "com/example/tenrec/tenrec/pool/RequestQueue" "arrivals" "[D" (.ref b1)) (F_s : Fld Z h0 a1 "com/example/tenrec/tenrec/pool/RequestQueue" "sizes" "[D" (.ref b2)) (F_c : Fld Z h0 a1 "com/example/tenrec/tenrec/pool/RequestQueue" "count" "I" (.int (5 : Int32))) (F_h : Fld Z h0 a1 "com/example/tenrec/tenrec/pool/RequestQueue" "head" "I" (.int (3 : Int32))) (V_a : Arv Z h0 b1 k1 .double (8 : Int32) [(.double x0), (.double x1), (.double x2), (.double (FP.i2d (p2 + p4))), (.double x4), (.double x5), (.double x6), (.double x7)] (.double (0 : UInt64))) (V_s : Arv Z h0 b2 k2 .double (8 : Int32) [(.double y0), (.double y1), (.double y2), (.double (FP.i2d (p3 - p4))), (.double y4), (.double y5), (.double y6), (.double y7)] (.double (0 : UInt64))) :
    OMet l Z (⟨"com/example/tenrec/tenrec/pool/RequestQueueRemoveFirstPinLaw", "front", "(Lcom/example/tenrec/tenrec/pool/RequestQueue;IIII)Z"⟩ : MethodName) method_3_code 5 (some .boolean) ws ({ frames := 1, cells := 0, slots := 0, locals := 15 } : Room) #[(.ref a1), (.int (5 : Int32)), (.int p2), (.int p3), (.int p4)] h0 (Q5_3_5 Z a1 p2 p3 p4 b1 b2 k1 k2 x0 x1 x2 x4 x5 x6 x7 y0 y1 y2 y4 y5 y6 y7 h0 n0) := by
  refine own_body (plainFor_of_name pn_com_example_tenrec_tenrec_pool_RequestQueueRemoveFirstPinLaw) ?_
  intro p e s m below meth c s₁ Bd hml0 hZ e0
  have hx := Bd.exec
  have hby := Bd.bytes
  have hml : c.maxLocals = 5 := hml0
  have hown : s.vm.findClass "com/example/tenrec/tenrec/pool/RequestQueueRemoveFirstPinLaw" = some m.cls := findClass_of_methodNamed Bd.named
  have hnm := (name_of_methodNamed Bd.named Bd.method).1
  have X0 : Stand p l e ({ frames := 1, cells := 0, slots := 0, locals := 15 } : Room) s m #[(.ref a1), (.int (5 : Int32)), (.int p2), (.int p3), (.int p4)] below meth c s₁ [] 0 0 := Stand.of_body Bd
  have N0 := Fr.nil n0
  have K0 : Keep h0 h0 [] := Keep.refl _ _
  rw [ef_rm5_3_5]
  obtain ⟨v101, T101, L101, X101, q101, st101⟩ := own_callV X0 hx hZ (y := (⟨"com/example/tenrec/tenrec/pool/RequestQueue", "size", "()I"⟩ : MethodName)) (z := (⟨"com/example/tenrec/tenrec/pool/RequestQueue", "size", "()I"⟩ : MethodName)) hown (hw _ (List.mem_of_getElem? (i := 30) rfl)) (hw _ (List.mem_of_getElem? (i := 31) rfl)) (notFace_of_selects (args := #[]) (mvT hZ (hw _ (List.mem_of_getElem? (i := 33) rfl)))) (hw _ (List.mem_of_getElem? (i := 33) rfl)) (hw _ (List.mem_of_getElem? (i := 32) rfl)) (hw _ (List.mem_of_getElem? (i := 2) rfl)) (hw _ (List.mem_of_getElem? (i := 34) rfl)) (by decide) E_a (hM := (rm6 l Z a0 hw [] a1 (5 : Int32) h0 n0 Z0 F_c)) (by decide) (by decide) (by decide) (by decide) e0 (argsL := []) (rest := []) (Ls := #[.val (.ref a1), .val (.int (5 : Int32)), .val (.int p2), .val (.int p3), .val (.int p4)]) (by rw [hml]; rfl) (lenOf pd___I rfl) (W := 0) (Nat.le_of_eq rfl) (hb hby d5_1)
  obtain ⟨rfl, N101q, e101⟩ := q101
  have N101 := Fr.app N0 N101q
  obtain ⟨v102, T102, L102, X102, q102, st102⟩ := own_callV X101 hx hZ (y := (⟨"com/example/tenrec/tenrec/pool/RequestQueue", "isEmpty", "()Z"⟩ : MethodName)) (z := (⟨"com/example/tenrec/tenrec/pool/RequestQueue", "isEmpty", "()Z"⟩ : MethodName)) hown (hw _ (List.mem_of_getElem? (i := 35) rfl)) (hw _ (List.mem_of_getElem? (i := 36) rfl)) (notFace_of_selects (args := #[]) (mvT hZ (hw _ (List.mem_of_getElem? (i := 38) rfl)))) (hw _ (List.mem_of_getElem? (i := 38) rfl)) (hw _ (List.mem_of_getElem? (i := 37) rfl)) (hw _ (List.mem_of_getElem? (i := 2) rfl)) (hw _ (List.mem_of_getElem? (i := 39) rfl)) (by decide) E_a (hM := (rm7 l Z a0 hw [] a1 (5 : Int32) h0 n0 Z0 F_c)) (by decide) (by decide) (by decide) (by decide) e101 (argsL := []) (rest := [(.int (1 : Int32))]) (Ls := #[.val (.ref a1), .val (.int (5 : Int32)), .val (.int p2), .val (.int p3), .val (.int p4)]) (by rw [hml]; rfl) (lenOf pd___Z rfl) (W := 1) (Nat.le_of_eq rfl) (hb hby d5_14)
  obtain ⟨rfl, N102q, e102⟩ := q102
  have N102 := Fr.app N101 N102q
  obtain ⟨v103, T103, L103, X103, q103, st103⟩ := own_callV X102 hx hZ (y := (⟨"com/example/tenrec/tenrec/pool/RequestQueue", "firstArrival", "()D"⟩ : MethodName)) (z := (⟨"com/example/tenrec/tenrec/pool/RequestQueue", "firstArrival", "()D"⟩ : MethodName)) hown (hw _ (List.mem_of_getElem? (i := 40) rfl)) (hw _ (List.mem_of_getElem? (i := 41) rfl)) (notFace_of_selects (args := #[]) (mvT hZ (hw _ (List.mem_of_getElem? (i := 43) rfl)))) (hw _ (List.mem_of_getElem? (i := 43) rfl)) (hw _ (List.mem_of_getElem? (i := 42) rfl)) (hw _ (List.mem_of_getElem? (i := 2) rfl)) (hw _ (List.mem_of_getElem? (i := 44) rfl)) (by decide) E_a (hM := (rm8_3 l Z a0 hw [] a1 b1 k1 x0 x1 x2 (FP.i2d (p2 + p4)) x4 x5 x6 x7 h0 n0 Z0 F_a F_h V_a)) (by decide) (by decide) (by decide) (by decide) e102 (argsL := []) (rest := [(.int (1 : Int32))]) (Ls := #[.val (.ref a1), .val (.int (5 : Int32)), .val (.int p2), .val (.int p3), .val (.int p4)]) (by rw [hml]; rfl) (lenOf pd___D rfl) (W := 1) (Nat.le_of_eq rfl) (hb hby d5_27)
  obtain ⟨rfl, N103q, e103⟩ := q103
  have N103 := Fr.app N102 N103q
  obtain ⟨v104, T104, L104, X104, q104, st104⟩ := own_callV X103 hx hZ (y := (⟨"com/example/tenrec/tenrec/pool/RequestQueue", "firstSize", "()D"⟩ : MethodName)) (z := (⟨"com/example/tenrec/tenrec/pool/RequestQueue", "firstSize", "()D"⟩ : MethodName)) hown (hw _ (List.mem_of_getElem? (i := 45) rfl)) (hw _ (List.mem_of_getElem? (i := 46) rfl)) (notFace_of_selects (args := #[]) (mvT hZ (hw _ (List.mem_of_getElem? (i := 48) rfl)))) (hw _ (List.mem_of_getElem? (i := 48) rfl)) (hw _ (List.mem_of_getElem? (i := 47) rfl)) (hw _ (List.mem_of_getElem? (i := 2) rfl)) (hw _ (List.mem_of_getElem? (i := 49) rfl)) (by decide) E_a (hM := (rm9_3 l Z a0 hw [] a1 b2 k2 y0 y1 y2 (FP.i2d (p3 - p4)) y4 y5 y6 y7 h0 n0 Z0 F_s F_h V_s)) (by decide) (by decide) (by decide) (by decide) e103 (argsL := []) (rest := [(.int (1 : Int32))]) (Ls := #[.val (.ref a1), .val (.int (5 : Int32)), .val (.int p2), .val (.int p3), .val (.int p4)]) (by rw [hml]; rfl) (lenOf pd___D rfl) (W := 1) (Nat.le_of_eq rfl) (hb hby d5_46)
  obtain ⟨rfl, N104q, e104⟩ := q104
  have N104 := Fr.app N103 N104q
  refine Gl.pre (S' := T104.setTop (mkF m 58 #[.val (.ref a1), .val (.int (5 : Int32)), .val (.int p2), .val (.int p3), .val (.int p4)] [(.int (1 : Int32))])) (fun t kt => ?_) ?_
  · show Steps p.tables e below (s₁.setTop (mkF m 0 #[.val (.ref a1), .val (.int (5 : Int32)), .val (.int p2), .val (.int p3), .val (.int p4)] [])) _
    refine XS.aloadN X0.here hx rfl (hb hby d5_0) rfl rfl ?_
    show Steps p.tables e below (s₁.setTop (mkF m 1 #[.val (.ref a1), .val (.int (5 : Int32)), .val (.int p2), .val (.int p3), .val (.int p4)] [(.ref a1)])) _
    refine st101 _ ?_
    show Steps p.tables e below (T101.setTop (mkF m 4 #[.val (.ref a1), .val (.int (5 : Int32)), .val (.int p2), .val (.int p3), .val (.int p4)] [(.int (5 : Int32))])) _
    refine XS.iloadN X101.here hx rfl (hb hby d5_4) rfl ?_
    show Steps p.tables e below (T101.setTop (mkF m 5 #[.val (.ref a1), .val (.int (5 : Int32)), .val (.int p2), .val (.int p3), .val (.int p4)] [(.int (5 : Int32)), (.int (5 : Int32))])) _
    refine XS.icmpNo X101.here hx rfl (hb hby d5_5) rfl (own_nf (ic_ne _ _) (by decide)) ?_
    show Steps p.tables e below (T101.setTop (mkF m 8 #[.val (.ref a1), .val (.int (5 : Int32)), .val (.int p2), .val (.int p3), .val (.int p4)] [])) _
    refine XS.iconst X101.here hx rfl (hb hby d5_8) ?_
    show Steps p.tables e below (T101.setTop (mkF m 9 #[.val (.ref a1), .val (.int (5 : Int32)), .val (.int p2), .val (.int p3), .val (.int p4)] [(.int (1 : Int32))])) _
    refine XS.goto X101.here hx rfl (pc0 := 9) (pc' := 13) rfl (hb hby d5_9) (by decide) (by decide) ?_
    show Steps p.tables e below (T101.setTop (mkF m 13 #[.val (.ref a1), .val (.int (5 : Int32)), .val (.int p2), .val (.int p3), .val (.int p4)] [(.int (1 : Int32))])) _
    refine XS.aloadN X101.here hx rfl (hb hby d5_13) rfl rfl ?_
    show Steps p.tables e below (T101.setTop (mkF m 14 #[.val (.ref a1), .val (.int (5 : Int32)), .val (.int p2), .val (.int p3), .val (.int p4)] [(.ref a1), (.int (1 : Int32))])) _
    refine st102 _ ?_
    show Steps p.tables e below (T102.setTop (mkF m 17 #[.val (.ref a1), .val (.int (5 : Int32)), .val (.int p2), .val (.int p3), .val (.int p4)] [(.int (0 : Int32)), (.int (1 : Int32))])) _
    refine XS.ifNo X102.here hx rfl (hb hby d5_17) rfl (own_nf (i0_ne _) (by decide)) ?_
    show Steps p.tables e below (T102.setTop (mkF m 20 #[.val (.ref a1), .val (.int (5 : Int32)), .val (.int p2), .val (.int p3), .val (.int p4)] [(.int (1 : Int32))])) _
    refine XS.iconst X102.here hx rfl (hb hby d5_20) ?_
    show Steps p.tables e below (T102.setTop (mkF m 21 #[.val (.ref a1), .val (.int (5 : Int32)), .val (.int p2), .val (.int p3), .val (.int p4)] [(.int (1 : Int32)), (.int (1 : Int32))])) _
    refine XS.goto X102.here hx rfl (pc0 := 21) (pc' := 25) rfl (hb hby d5_21) (by decide) (by decide) ?_
    show Steps p.tables e below (T102.setTop (mkF m 25 #[.val (.ref a1), .val (.int (5 : Int32)), .val (.int p2), .val (.int p3), .val (.int p4)] [(.int (1 : Int32)), (.int (1 : Int32))])) _
    refine XS.iand X102.here hx rfl (hb hby d5_25) rfl ?_
    show Steps p.tables e below (T102.setTop (mkF m 26 #[.val (.ref a1), .val (.int (5 : Int32)), .val (.int p2), .val (.int p3), .val (.int p4)] [(.int (1 : Int32))])) _
    refine XS.aloadN X102.here hx rfl (hb hby d5_26) rfl rfl ?_
    show Steps p.tables e below (T102.setTop (mkF m 27 #[.val (.ref a1), .val (.int (5 : Int32)), .val (.int p2), .val (.int p3), .val (.int p4)] [(.ref a1), (.int (1 : Int32))])) _
    refine st103 _ ?_
    show Steps p.tables e below (T103.setTop (mkF m 30 #[.val (.ref a1), .val (.int (5 : Int32)), .val (.int p2), .val (.int p3), .val (.int p4)] [(.double (FP.i2d (p2 + p4))), (.int (1 : Int32))])) _
    refine XS.iloadN X103.here hx rfl (hb hby d5_30) rfl ?_
    show Steps p.tables e below (T103.setTop (mkF m 31 #[.val (.ref a1), .val (.int (5 : Int32)), .val (.int p2), .val (.int p3), .val (.int p4)] [(.int p2), (.double (FP.i2d (p2 + p4))), (.int (1 : Int32))])) _
    refine XS.iload X103.here hx rfl (hb hby d5_31) rfl ?_
    show Steps p.tables e below (T103.setTop (mkF m 33 #[.val (.ref a1), .val (.int (5 : Int32)), .val (.int p2), .val (.int p3), .val (.int p4)] [(.int p4), (.int p2), (.double (FP.i2d (p2 + p4))), (.int (1 : Int32))])) _
    refine XS.iadd X103.here hx rfl (hb hby d5_33) rfl ?_
    show Steps p.tables e below (T103.setTop (mkF m 34 #[.val (.ref a1), .val (.int (5 : Int32)), .val (.int p2), .val (.int p3), .val (.int p4)] [(.int (p2 + p4)), (.double (FP.i2d (p2 + p4))), (.int (1 : Int32))])) _
    refine XS.i2dS X103.here hx rfl (hb hby d5_34) rfl rfl ?_
    show Steps p.tables e below (T103.setTop (mkF m 35 #[.val (.ref a1), .val (.int (5 : Int32)), .val (.int p2), .val (.int p3), .val (.int p4)] [(.double (FP.i2d (p2 + p4))), (.double (FP.i2d (p2 + p4))), (.int (1 : Int32))])) _
    refine XS.dcmpS X103.here hx rfl (hb hby d5_35) rfl (dcmpV_self (nn_w (i2d_w _)) _) ?_
    show Steps p.tables e below (T103.setTop (mkF m 36 #[.val (.ref a1), .val (.int (5 : Int32)), .val (.int p2), .val (.int p3), .val (.int p4)] [(.int (0 : Int32)), (.int (1 : Int32))])) _
    refine XS.ifNo X103.here hx rfl (hb hby d5_36) rfl (own_nf (i0_ne _) (by decide)) ?_
    show Steps p.tables e below (T103.setTop (mkF m 39 #[.val (.ref a1), .val (.int (5 : Int32)), .val (.int p2), .val (.int p3), .val (.int p4)] [(.int (1 : Int32))])) _
    refine XS.iconst X103.here hx rfl (hb hby d5_39) ?_
    show Steps p.tables e below (T103.setTop (mkF m 40 #[.val (.ref a1), .val (.int (5 : Int32)), .val (.int p2), .val (.int p3), .val (.int p4)] [(.int (1 : Int32)), (.int (1 : Int32))])) _
    refine XS.goto X103.here hx rfl (pc0 := 40) (pc' := 44) rfl (hb hby d5_40) (by decide) (by decide) ?_
    show Steps p.tables e below (T103.setTop (mkF m 44 #[.val (.ref a1), .val (.int (5 : Int32)), .val (.int p2), .val (.int p3), .val (.int p4)] [(.int (1 : Int32)), (.int (1 : Int32))])) _
    refine XS.iand X103.here hx rfl (hb hby d5_44) rfl ?_
    show Steps p.tables e below (T103.setTop (mkF m 45 #[.val (.ref a1), .val (.int (5 : Int32)), .val (.int p2), .val (.int p3), .val (.int p4)] [(.int (1 : Int32))])) _
    refine XS.aloadN X103.here hx rfl (hb hby d5_45) rfl rfl ?_
    show Steps p.tables e below (T103.setTop (mkF m 46 #[.val (.ref a1), .val (.int (5 : Int32)), .val (.int p2), .val (.int p3), .val (.int p4)] [(.ref a1), (.int (1 : Int32))])) _
    refine st104 _ ?_
    show Steps p.tables e below (T104.setTop (mkF m 49 #[.val (.ref a1), .val (.int (5 : Int32)), .val (.int p2), .val (.int p3), .val (.int p4)] [(.double (FP.i2d (p3 - p4))), (.int (1 : Int32))])) _
    refine XS.iloadN X104.here hx rfl (hb hby d5_49) rfl ?_
    show Steps p.tables e below (T104.setTop (mkF m 50 #[.val (.ref a1), .val (.int (5 : Int32)), .val (.int p2), .val (.int p3), .val (.int p4)] [(.int p3), (.double (FP.i2d (p3 - p4))), (.int (1 : Int32))])) _
    refine XS.iload X104.here hx rfl (hb hby d5_50) rfl ?_
    show Steps p.tables e below (T104.setTop (mkF m 52 #[.val (.ref a1), .val (.int (5 : Int32)), .val (.int p2), .val (.int p3), .val (.int p4)] [(.int p4), (.int p3), (.double (FP.i2d (p3 - p4))), (.int (1 : Int32))])) _
    refine XS.isub X104.here hx rfl (hb hby d5_52) rfl ?_
    show Steps p.tables e below (T104.setTop (mkF m 53 #[.val (.ref a1), .val (.int (5 : Int32)), .val (.int p2), .val (.int p3), .val (.int p4)] [(.int (p3 - p4)), (.double (FP.i2d (p3 - p4))), (.int (1 : Int32))])) _
    refine XS.i2dS X104.here hx rfl (hb hby d5_53) rfl rfl ?_
    show Steps p.tables e below (T104.setTop (mkF m 54 #[.val (.ref a1), .val (.int (5 : Int32)), .val (.int p2), .val (.int p3), .val (.int p4)] [(.double (FP.i2d (p3 - p4))), (.double (FP.i2d (p3 - p4))), (.int (1 : Int32))])) _
    refine XS.dcmpS X104.here hx rfl (hb hby d5_54) rfl (dcmpV_self (nn_w (i2d_w _)) _) ?_
    show Steps p.tables e below (T104.setTop (mkF m 55 #[.val (.ref a1), .val (.int (5 : Int32)), .val (.int p2), .val (.int p3), .val (.int p4)] [(.int (0 : Int32)), (.int (1 : Int32))])) _
    refine XS.ifNo X104.here hx rfl (hb hby d5_55) rfl (own_nf (i0_ne _) (by decide)) ?_
    exact kt
  refine Gl.fin X104 (v := some (.int (1 : Int32))) (fun h => by rw [Bd.returns] at h; cases h) Bd.notSynchronized ?_ e104 (by decide) (by decide) (fun fs hr => ?_)
  · exact ⟨rfl, N104, rfl⟩
  · show Steps p.tables e below (T104.setTop (mkF m 58 #[.val (.ref a1), .val (.int (5 : Int32)), .val (.int p2), .val (.int p3), .val (.int p4)] [(.int (1 : Int32))])) _
    refine XS.iconst X104.here hx rfl (hb hby d5_58) ?_
    show Steps p.tables e below (T104.setTop (mkF m 59 #[.val (.ref a1), .val (.int (5 : Int32)), .val (.int p2), .val (.int p3), .val (.int p4)] [(.int (1 : Int32)), (.int (1 : Int32))])) _
    refine XS.goto X104.here hx rfl (pc0 := 59) (pc' := 63) rfl (hb hby d5_59) (by decide) (by decide) ?_
    show Steps p.tables e below (T104.setTop (mkF m 63 #[.val (.ref a1), .val (.int (5 : Int32)), .val (.int p2), .val (.int p3), .val (.int p4)] [(.int (1 : Int32)), (.int (1 : Int32))])) _
    refine XS.iand X104.here hx rfl (hb hby d5_63) rfl ?_
    show Steps p.tables e below (T104.setTop (mkF m 64 #[.val (.ref a1), .val (.int (5 : Int32)), .val (.int p2), .val (.int p3), .val (.int p4)] [(.int (1 : Int32))])) _
    exact retN X104 hx (t := .boolean) Bd.returns (by simp) (hb hby d5_64) hr
theorem ef_rm10_3_5 (m : MethodId) (x0 : Addr) : entryFrame m #[(.ref x0)] 1 = mkF m 0 #[.val (.ref x0)] [] := by first | (simp [entryFrame, mkF, argsToLocals, Value.category]; done) | rfl
def Q10_3_5 (Z : State) (a1 : Addr) (b1 : Addr) (b2 : Addr) (k1 : ClassId) (k2 : ClassId) (x0 : UInt64) (x1 : UInt64) (x2 : UInt64) (x3 : UInt64) (x4 : UInt64) (x5 : UInt64) (x6 : UInt64) (x7 : UInt64) (y0 : UInt64) (y1 : UInt64) (y2 : UInt64) (y3 : UInt64) (y4 : UInt64) (y5 : UInt64) (y6 : UInt64) (y7 : UInt64) (h0 : Heap) (n0 : Nat) (v : Option Value) (h : Heap) (L : List Loc) : Prop := v = none ∧ Fr n0 L ∧ Keep h0 h [a1] ∧ Exa Z h a1 "com/example/tenrec/tenrec/pool/RequestQueue" ∧ Fld Z h a1 "com/example/tenrec/tenrec/pool/RequestQueue" "arrivals" "[D" (.ref b1) ∧ Fld Z h a1 "com/example/tenrec/tenrec/pool/RequestQueue" "sizes" "[D" (.ref b2) ∧ Fld Z h a1 "com/example/tenrec/tenrec/pool/RequestQueue" "count" "I" (.int (4 : Int32)) ∧ Fld Z h a1 "com/example/tenrec/tenrec/pool/RequestQueue" "head" "I" (.int (4 : Int32)) ∧ Arv Z h b1 k1 .double (8 : Int32) [(.double x0), (.double x1), (.double x2), (.double x3), (.double x4), (.double x5), (.double x6), (.double x7)] (.double (0 : UInt64)) ∧ Arv Z h b2 k2 .double (8 : Int32) [(.double y0), (.double y1), (.double y2), (.double y3), (.double y4), (.double y5), (.double y6), (.double y7)] (.double (0 : UInt64))
set_option maxRecDepth 65536 in
set_option maxHeartbeats 40000000 in
theorem rm10_3_5 (l : Launch) (Z : State) (a0 : Array Value) (hw : ∀ d ∈ tables_1, d.before a0 Z = true) (ws : List Jvm.Cond) (a1 : Addr) (b1 : Addr) (b2 : Addr) (k1 : ClassId) (k2 : ClassId) (x0 : UInt64) (x1 : UInt64) (x2 : UInt64) (x3 : UInt64) (x4 : UInt64) (x5 : UInt64) (x6 : UInt64) (x7 : UInt64) (y0 : UInt64) (y1 : UInt64) (y2 : UInt64) (y3 : UInt64) (y4 : UInt64) (y5 : UInt64) (y6 : UInt64) (y7 : UInt64) (h0 : Heap) (n0 : Nat) (Z0 : n0 ≤ h0.size) (g_a1 : n0 ≤ a1) (g_b1 : n0 ≤ b1) (g_b2 : n0 ≤ b2) (ne1 : a1 ≠ b1) (ne2 : a1 ≠ b2) (ne3 : b1 ≠ b2) (E_a : Exa Z h0 a1 "com/example/tenrec/tenrec/pool/RequestQueue") (F_a : Fld Z h0 a1 "com/example/tenrec/tenrec/pool/RequestQueue" "arrivals" "[D" (.ref b1)) (F_s : Fld Z h0 a1 "com/example/tenrec/tenrec/pool/RequestQueue" "sizes" "[D" (.ref b2)) (F_c : Fld Z h0 a1 "com/example/tenrec/tenrec/pool/RequestQueue" "count" "I" (.int (5 : Int32))) (F_h : Fld Z h0 a1 "com/example/tenrec/tenrec/pool/RequestQueue" "head" "I" (.int (3 : Int32))) (V_a : Arv Z h0 b1 k1 .double (8 : Int32) [(.double x0), (.double x1), (.double x2), (.double x3), (.double x4), (.double x5), (.double x6), (.double x7)] (.double (0 : UInt64))) (V_s : Arv Z h0 b2 k2 .double (8 : Int32) [(.double y0), (.double y1), (.double y2), (.double y3), (.double y4), (.double y5), (.double y6), (.double y7)] (.double (0 : UInt64))) :
    OMet l Z (⟨"com/example/tenrec/tenrec/pool/RequestQueue", "removeFirst", "()V"⟩ : MethodName) prog_34_method_7_code 1 none ws ({ frames := 0, cells := 0, slots := 0, locals := 0 } : Room) #[(.ref a1)] h0 (Q10_3_5 Z a1 b1 b2 k1 k2 x0 x1 x2 x3 x4 x5 x6 x7 y0 y1 y2 y3 y4 y5 y6 y7 h0 n0) := by
  refine own_body (plainFor_of_name pn_com_example_tenrec_tenrec_pool_RequestQueue) ?_
  intro p e s m below meth c s₁ Bd hml0 hZ e0
  have hx := Bd.exec
  have hby := Bd.bytes
  have hml : c.maxLocals = 1 := hml0
  have hown : s.vm.findClass "com/example/tenrec/tenrec/pool/RequestQueue" = some m.cls := findClass_of_methodNamed Bd.named
  have hnm := (name_of_methodNamed Bd.named Bd.method).1
  have X0 : Stand p l e ({ frames := 0, cells := 0, slots := 0, locals := 0 } : Room) s m #[(.ref a1)] below meth c s₁ [] 0 0 := Stand.of_body Bd
  have N0 := Fr.nil n0
  have K0 : Keep h0 h0 [a1] := Keep.refl _ _
  rw [ef_rm10_3_5]
  obtain ⟨T101, X101, e101, st101⟩ := getF X0 hx hZ hown (host := "") (Or.inl (hw _ (List.mem_of_getElem? (i := 25) rfl))) Via.refl e0 F_h (g := (mkF m 2 #[.val (.ref a1)] [(.ref a1), (.ref a1)])) rfl rfl (hb hby d10_2)
  obtain ⟨T102, X102, e102, st102⟩ := getF X101 hx hZ hown (host := "") (Or.inl (hw _ (List.mem_of_getElem? (i := 10) rfl))) Via.refl e101 F_a (g := (mkF m 6 #[.val (.ref a1)] [(.ref a1), (.int (3 : Int32)), (.ref a1)])) rfl rfl (hb hby d10_6)
  obtain ⟨cl103, Ar103, qa103, Sa103, Na103, Ha103, Ga103⟩ := id V_a
  obtain ⟨T104, X104, e104, st104⟩ := getF X102 hx hZ hown (host := "") (Or.inl (hw _ (List.mem_of_getElem? (i := 25) rfl))) Via.refl e102 F_h (g := (mkF m 20 #[.val (.ref a1)] [(.ref a1), (.ref a1)])) rfl rfl (hb hby d10_20)
  obtain ⟨T105, h105, X105, e105, W105, st105⟩ := putF X104 hx hZ hown (host := "") (Or.inl (hw _ (List.mem_of_getElem? (i := 25) rfl))) Via.refl e104 F_h E_a (Or.inl (hw _ (List.mem_of_getElem? (i := 26) rfl))) (hw _ (List.mem_of_getElem? (i := 1) rfl)) (ty := .int) (by decide) rfl rfl (g := (mkF m 25 #[.val (.ref a1)] [(.int (4 : Int32)), (.ref a1)])) rfl rfl (hb hby d10_25)
  have Fw105 := F_h.same W105
  have K105 : Keep h0 h105 [a1] := K0.wr W105 (Or.inl (List.mem_of_getElem? (i := 0) rfl))
  have N105 := Fr.snoc X105 N0 g_a1
  have f106 := (F_c.other W105 (Or.inr (slot_ne (Or.inl (hw _ (List.mem_of_getElem? (i := 24) rfl))) (Or.inl (hw _ (List.mem_of_getElem? (i := 26) rfl))) (by decide) (t := .int) (t' := .int) (by decide) (by decide))))
  obtain ⟨T107, X107, e107, st107⟩ := getF X105 hx hZ hown (host := "") (Or.inl (hw _ (List.mem_of_getElem? (i := 23) rfl))) Via.refl e105 f106 (g := (mkF m 30 #[.val (.ref a1)] [(.ref a1), (.ref a1)])) rfl rfl (hb hby d10_30)
  have f108 := (E_a.wr W105)
  obtain ⟨T109, h109, X109, e109, W109, st109⟩ := putF X107 hx hZ hown (host := "") (Or.inl (hw _ (List.mem_of_getElem? (i := 23) rfl))) Via.refl e107 f106 f108 (Or.inl (hw _ (List.mem_of_getElem? (i := 24) rfl))) (hw _ (List.mem_of_getElem? (i := 1) rfl)) (ty := .int) (by decide) rfl rfl (g := (mkF m 35 #[.val (.ref a1)] [(.int (4 : Int32)), (.ref a1)])) rfl rfl (hb hby d10_35)
  have Fw109 := f106.same W109
  have K109 : Keep h0 h109 [a1] := K105.wr W109 (Or.inl (List.mem_of_getElem? (i := 0) rfl))
  have N109 := Fr.snoc X109 N105 g_a1
  have f110 := (f108.wr W109)
  have f111 := ((F_a.other W105 (Or.inr (slot_ne (Or.inl (hw _ (List.mem_of_getElem? (i := 11) rfl))) (Or.inl (hw _ (List.mem_of_getElem? (i := 26) rfl))) (by decide) (t := (.array .double)) (t' := .int) (by decide) (by decide)))).other W109 (Or.inr (slot_ne (Or.inl (hw _ (List.mem_of_getElem? (i := 11) rfl))) (Or.inl (hw _ (List.mem_of_getElem? (i := 24) rfl))) (by decide) (t := (.array .double)) (t' := .int) (by decide) (by decide))))
  have f112 := ((F_s.other W105 (Or.inr (slot_ne (Or.inl (hw _ (List.mem_of_getElem? (i := 13) rfl))) (Or.inl (hw _ (List.mem_of_getElem? (i := 26) rfl))) (by decide) (t := (.array .double)) (t' := .int) (by decide) (by decide)))).other W109 (Or.inr (slot_ne (Or.inl (hw _ (List.mem_of_getElem? (i := 13) rfl))) (Or.inl (hw _ (List.mem_of_getElem? (i := 24) rfl))) (by decide) (t := (.array .double)) (t' := .int) (by decide) (by decide))))
  have f113 := (Fw105.other W109 (Or.inr (slot_ne (Or.inl (hw _ (List.mem_of_getElem? (i := 26) rfl))) (Or.inl (hw _ (List.mem_of_getElem? (i := 24) rfl))) (by decide) (t := .int) (t' := .int) (by decide) (by decide))))
  have f114 := ((V_a.other W105 (Ne.symm ne1)).other W109 (Ne.symm ne1))
  have f115 := ((V_s.other W105 (Ne.symm ne2)).other W109 (Ne.symm ne2))
  refine Gl.fin X109 (v := none) (fun _ => rfl) Bd.notSynchronized ?_ e109 (by decide) (by decide) (fun fs hr => ?_)
  · exact ⟨rfl, N109, K109, f110, f111, f112, Fw109, f113, f114, f115⟩
  · show Steps p.tables e below (s₁.setTop (mkF m 0 #[.val (.ref a1)] [])) _
    refine XS.aloadN X0.here hx rfl (hb hby d10_0) rfl rfl ?_
    show Steps p.tables e below (s₁.setTop (mkF m 1 #[.val (.ref a1)] [(.ref a1)])) _
    refine XS.aloadN X0.here hx rfl (hb hby d10_1) rfl rfl ?_
    show Steps p.tables e below (s₁.setTop (mkF m 2 #[.val (.ref a1)] [(.ref a1), (.ref a1)])) _
    refine st101 _ ?_
    show Steps p.tables e below (T101.setTop (mkF m 5 #[.val (.ref a1)] [(.int (3 : Int32)), (.ref a1)])) _
    refine XS.aloadN X101.here hx rfl (hb hby d10_5) rfl rfl ?_
    show Steps p.tables e below (T101.setTop (mkF m 6 #[.val (.ref a1)] [(.ref a1), (.int (3 : Int32)), (.ref a1)])) _
    refine st102 _ ?_
    show Steps p.tables e below (T102.setTop (mkF m 9 #[.val (.ref a1)] [(.ref b1), (.int (3 : Int32)), (.ref a1)])) _
    refine X102.arraylength hx (own_hc e102 Ar103.1) (State.isArrayOf_alike hZ.alike Ar103.2.1) (g := (mkF m 9 #[.val (.ref a1)] [(.ref b1), (.int (3 : Int32)), (.ref a1)])) rfl rfl (hb hby d10_9) _ ?_
    rw [len_of Sa103 Na103]
    show Steps p.tables e below (T102.setTop (mkF m 10 #[.val (.ref a1)] [(.int (8 : Int32)), (.int (3 : Int32)), (.ref a1)])) _
    refine XS.iconst X102.here hx rfl (hb hby d10_10) ?_
    show Steps p.tables e below (T102.setTop (mkF m 11 #[.val (.ref a1)] [(.int (1 : Int32)), (.int (8 : Int32)), (.int (3 : Int32)), (.ref a1)])) _
    refine XS.isub X102.here hx rfl (hb hby d10_11) rfl ?_
    show Steps p.tables e below (T102.setTop (mkF m 12 #[.val (.ref a1)] [(.int (7 : Int32)), (.int (3 : Int32)), (.ref a1)])) _
    refine XS.icmpYes X102.here hx rfl (pc0 := 12) (pc' := 19) rfl (hb hby d10_12) rfl (own_nt (ic_ne _ _) (by decide)) (by decide) (by decide) ?_
    show Steps p.tables e below (T102.setTop (mkF m 19 #[.val (.ref a1)] [(.ref a1)])) _
    refine XS.aloadN X102.here hx rfl (hb hby d10_19) rfl rfl ?_
    show Steps p.tables e below (T102.setTop (mkF m 20 #[.val (.ref a1)] [(.ref a1), (.ref a1)])) _
    refine st104 _ ?_
    show Steps p.tables e below (T104.setTop (mkF m 23 #[.val (.ref a1)] [(.int (3 : Int32)), (.ref a1)])) _
    refine XS.iconst X104.here hx rfl (hb hby d10_23) ?_
    show Steps p.tables e below (T104.setTop (mkF m 24 #[.val (.ref a1)] [(.int (1 : Int32)), (.int (3 : Int32)), (.ref a1)])) _
    refine XS.iadd X104.here hx rfl (hb hby d10_24) rfl ?_
    show Steps p.tables e below (T104.setTop (mkF m 25 #[.val (.ref a1)] [(.int (4 : Int32)), (.ref a1)])) _
    refine st105 _ ?_
    show Steps p.tables e below (T105.setTop (mkF m 28 #[.val (.ref a1)] [])) _
    refine XS.aloadN X105.here hx rfl (hb hby d10_28) rfl rfl ?_
    show Steps p.tables e below (T105.setTop (mkF m 29 #[.val (.ref a1)] [(.ref a1)])) _
    refine XS.dup X105.here hx rfl (hb hby d10_29) rfl rfl ?_
    show Steps p.tables e below (T105.setTop (mkF m 30 #[.val (.ref a1)] [(.ref a1), (.ref a1)])) _
    refine st107 _ ?_
    show Steps p.tables e below (T107.setTop (mkF m 33 #[.val (.ref a1)] [(.int (5 : Int32)), (.ref a1)])) _
    refine XS.iconst X107.here hx rfl (hb hby d10_33) ?_
    show Steps p.tables e below (T107.setTop (mkF m 34 #[.val (.ref a1)] [(.int (1 : Int32)), (.int (5 : Int32)), (.ref a1)])) _
    refine XS.isub X107.here hx rfl (hb hby d10_34) rfl ?_
    show Steps p.tables e below (T107.setTop (mkF m 35 #[.val (.ref a1)] [(.int (4 : Int32)), (.ref a1)])) _
    refine st109 _ ?_
    show Steps p.tables e below (T109.setTop (mkF m 38 #[.val (.ref a1)] [])) _
    exact X109.returnOut hx Bd.returns (hb hby d10_38) hr
theorem ef_rm5_4_4 (m : MethodId) (x0 : Addr) (x1 : Int32) (x2 : Int32) (x3 : Int32) (x4 : Int32) : entryFrame m #[(.ref x0), (.int x1), (.int x2), (.int x3), (.int x4)] 5 = mkF m 0 #[.val (.ref x0), .val (.int x1), .val (.int x2), .val (.int x3), .val (.int x4)] [] := by first | (simp [entryFrame, mkF, argsToLocals, Value.category]; done) | rfl
def Q5_4_4 (Z : State) (a1 : Addr) (p2 : Int32) (p3 : Int32) (p4 : Int32) (b1 : Addr) (b2 : Addr) (k1 : ClassId) (k2 : ClassId) (x0 : UInt64) (x1 : UInt64) (x2 : UInt64) (x3 : UInt64) (x5 : UInt64) (x6 : UInt64) (x7 : UInt64) (y0 : UInt64) (y1 : UInt64) (y2 : UInt64) (y3 : UInt64) (y5 : UInt64) (y6 : UInt64) (y7 : UInt64) (h0 : Heap) (n0 : Nat) (v : Option Value) (h : Heap) (L : List Loc) : Prop := v = some (.int 1) ∧ Fr n0 L ∧ h = h0
set_option maxRecDepth 65536 in
set_option maxHeartbeats 40000000 in
theorem rm5_4_4 (l : Launch) (Z : State) (a0 : Array Value) (hw : ∀ d ∈ tables_1, d.before a0 Z = true) (ws : List Jvm.Cond) (a1 : Addr) (p2 : Int32) (p3 : Int32) (p4 : Int32) (b1 : Addr) (b2 : Addr) (k1 : ClassId) (k2 : ClassId) (x0 : UInt64) (x1 : UInt64) (x2 : UInt64) (x3 : UInt64) (x5 : UInt64) (x6 : UInt64) (x7 : UInt64) (y0 : UInt64) (y1 : UInt64) (y2 : UInt64) (y3 : UInt64) (y5 : UInt64) (y6 : UInt64) (y7 : UInt64) (h0 : Heap) (n0 : Nat) (Z0 : n0 ≤ h0.size) (g_a1 : n0 ≤ a1) (g_b1 : n0 ≤ b1) (g_b2 : n0 ≤ b2) (ne1 : a1 ≠ b1) (ne2 : a1 ≠ b2) (ne3 : b1 ≠ b2) (E_a : Exa Z h0 a1 "com/example/tenrec/tenrec/pool/RequestQueue") (F_a : Fld Z h0 a1 "com/example/tenrec/tenrec/pool/RequestQueue" "arrivals" "[D" (.ref b1)) (F_s : Fld Z h0 a1 "com/example/tenrec/tenrec/pool/RequestQueue" "sizes" "[D" (.ref b2)) (F_c : Fld Z h0 a1 "com/example/tenrec/tenrec/pool/RequestQueue" "count" "I" (.int (4 : Int32))) (F_h : Fld Z h0 a1 "com/example/tenrec/tenrec/pool/RequestQueue" "head" "I" (.int (4 : Int32))) (V_a : Arv Z h0 b1 k1 .double (8 : Int32) [(.double x0), (.double x1), (.double x2), (.double x3), (.double (FP.i2d (p2 + p4))), (.double x5), (.double x6), (.double x7)] (.double (0 : UInt64))) (V_s : Arv Z h0 b2 k2 .double (8 : Int32) [(.double y0), (.double y1), (.double y2), (.double y3), (.double (FP.i2d (p3 - p4))), (.double y5), (.double y6), (.double y7)] (.double (0 : UInt64))) :
    OMet l Z (⟨"com/example/tenrec/tenrec/pool/RequestQueueRemoveFirstPinLaw", "front", "(Lcom/example/tenrec/tenrec/pool/RequestQueue;IIII)Z"⟩ : MethodName) method_3_code 5 (some .boolean) ws ({ frames := 1, cells := 0, slots := 0, locals := 15 } : Room) #[(.ref a1), (.int (4 : Int32)), (.int p2), (.int p3), (.int p4)] h0 (Q5_4_4 Z a1 p2 p3 p4 b1 b2 k1 k2 x0 x1 x2 x3 x5 x6 x7 y0 y1 y2 y3 y5 y6 y7 h0 n0) := by
  refine own_body (plainFor_of_name pn_com_example_tenrec_tenrec_pool_RequestQueueRemoveFirstPinLaw) ?_
  intro p e s m below meth c s₁ Bd hml0 hZ e0
  have hx := Bd.exec
  have hby := Bd.bytes
  have hml : c.maxLocals = 5 := hml0
  have hown : s.vm.findClass "com/example/tenrec/tenrec/pool/RequestQueueRemoveFirstPinLaw" = some m.cls := findClass_of_methodNamed Bd.named
  have hnm := (name_of_methodNamed Bd.named Bd.method).1
  have X0 : Stand p l e ({ frames := 1, cells := 0, slots := 0, locals := 15 } : Room) s m #[(.ref a1), (.int (4 : Int32)), (.int p2), (.int p3), (.int p4)] below meth c s₁ [] 0 0 := Stand.of_body Bd
  have N0 := Fr.nil n0
  have K0 : Keep h0 h0 [] := Keep.refl _ _
  rw [ef_rm5_4_4]
  obtain ⟨v101, T101, L101, X101, q101, st101⟩ := own_callV X0 hx hZ (y := (⟨"com/example/tenrec/tenrec/pool/RequestQueue", "size", "()I"⟩ : MethodName)) (z := (⟨"com/example/tenrec/tenrec/pool/RequestQueue", "size", "()I"⟩ : MethodName)) hown (hw _ (List.mem_of_getElem? (i := 30) rfl)) (hw _ (List.mem_of_getElem? (i := 31) rfl)) (notFace_of_selects (args := #[]) (mvT hZ (hw _ (List.mem_of_getElem? (i := 33) rfl)))) (hw _ (List.mem_of_getElem? (i := 33) rfl)) (hw _ (List.mem_of_getElem? (i := 32) rfl)) (hw _ (List.mem_of_getElem? (i := 2) rfl)) (hw _ (List.mem_of_getElem? (i := 34) rfl)) (by decide) E_a (hM := (rm6 l Z a0 hw [] a1 (4 : Int32) h0 n0 Z0 F_c)) (by decide) (by decide) (by decide) (by decide) e0 (argsL := []) (rest := []) (Ls := #[.val (.ref a1), .val (.int (4 : Int32)), .val (.int p2), .val (.int p3), .val (.int p4)]) (by rw [hml]; rfl) (lenOf pd___I rfl) (W := 0) (Nat.le_of_eq rfl) (hb hby d5_1)
  obtain ⟨rfl, N101q, e101⟩ := q101
  have N101 := Fr.app N0 N101q
  obtain ⟨v102, T102, L102, X102, q102, st102⟩ := own_callV X101 hx hZ (y := (⟨"com/example/tenrec/tenrec/pool/RequestQueue", "isEmpty", "()Z"⟩ : MethodName)) (z := (⟨"com/example/tenrec/tenrec/pool/RequestQueue", "isEmpty", "()Z"⟩ : MethodName)) hown (hw _ (List.mem_of_getElem? (i := 35) rfl)) (hw _ (List.mem_of_getElem? (i := 36) rfl)) (notFace_of_selects (args := #[]) (mvT hZ (hw _ (List.mem_of_getElem? (i := 38) rfl)))) (hw _ (List.mem_of_getElem? (i := 38) rfl)) (hw _ (List.mem_of_getElem? (i := 37) rfl)) (hw _ (List.mem_of_getElem? (i := 2) rfl)) (hw _ (List.mem_of_getElem? (i := 39) rfl)) (by decide) E_a (hM := (rm7 l Z a0 hw [] a1 (4 : Int32) h0 n0 Z0 F_c)) (by decide) (by decide) (by decide) (by decide) e101 (argsL := []) (rest := [(.int (1 : Int32))]) (Ls := #[.val (.ref a1), .val (.int (4 : Int32)), .val (.int p2), .val (.int p3), .val (.int p4)]) (by rw [hml]; rfl) (lenOf pd___Z rfl) (W := 1) (Nat.le_of_eq rfl) (hb hby d5_14)
  obtain ⟨rfl, N102q, e102⟩ := q102
  have N102 := Fr.app N101 N102q
  obtain ⟨v103, T103, L103, X103, q103, st103⟩ := own_callV X102 hx hZ (y := (⟨"com/example/tenrec/tenrec/pool/RequestQueue", "firstArrival", "()D"⟩ : MethodName)) (z := (⟨"com/example/tenrec/tenrec/pool/RequestQueue", "firstArrival", "()D"⟩ : MethodName)) hown (hw _ (List.mem_of_getElem? (i := 40) rfl)) (hw _ (List.mem_of_getElem? (i := 41) rfl)) (notFace_of_selects (args := #[]) (mvT hZ (hw _ (List.mem_of_getElem? (i := 43) rfl)))) (hw _ (List.mem_of_getElem? (i := 43) rfl)) (hw _ (List.mem_of_getElem? (i := 42) rfl)) (hw _ (List.mem_of_getElem? (i := 2) rfl)) (hw _ (List.mem_of_getElem? (i := 44) rfl)) (by decide) E_a (hM := (rm8_4 l Z a0 hw [] a1 b1 k1 x0 x1 x2 x3 (FP.i2d (p2 + p4)) x5 x6 x7 h0 n0 Z0 F_a F_h V_a)) (by decide) (by decide) (by decide) (by decide) e102 (argsL := []) (rest := [(.int (1 : Int32))]) (Ls := #[.val (.ref a1), .val (.int (4 : Int32)), .val (.int p2), .val (.int p3), .val (.int p4)]) (by rw [hml]; rfl) (lenOf pd___D rfl) (W := 1) (Nat.le_of_eq rfl) (hb hby d5_27)
  obtain ⟨rfl, N103q, e103⟩ := q103
  have N103 := Fr.app N102 N103q
  obtain ⟨v104, T104, L104, X104, q104, st104⟩ := own_callV X103 hx hZ (y := (⟨"com/example/tenrec/tenrec/pool/RequestQueue", "firstSize", "()D"⟩ : MethodName)) (z := (⟨"com/example/tenrec/tenrec/pool/RequestQueue", "firstSize", "()D"⟩ : MethodName)) hown (hw _ (List.mem_of_getElem? (i := 45) rfl)) (hw _ (List.mem_of_getElem? (i := 46) rfl)) (notFace_of_selects (args := #[]) (mvT hZ (hw _ (List.mem_of_getElem? (i := 48) rfl)))) (hw _ (List.mem_of_getElem? (i := 48) rfl)) (hw _ (List.mem_of_getElem? (i := 47) rfl)) (hw _ (List.mem_of_getElem? (i := 2) rfl)) (hw _ (List.mem_of_getElem? (i := 49) rfl)) (by decide) E_a (hM := (rm9_4 l Z a0 hw [] a1 b2 k2 y0 y1 y2 y3 (FP.i2d (p3 - p4)) y5 y6 y7 h0 n0 Z0 F_s F_h V_s)) (by decide) (by decide) (by decide) (by decide) e103 (argsL := []) (rest := [(.int (1 : Int32))]) (Ls := #[.val (.ref a1), .val (.int (4 : Int32)), .val (.int p2), .val (.int p3), .val (.int p4)]) (by rw [hml]; rfl) (lenOf pd___D rfl) (W := 1) (Nat.le_of_eq rfl) (hb hby d5_46)
  obtain ⟨rfl, N104q, e104⟩ := q104
  have N104 := Fr.app N103 N104q
  refine Gl.pre (S' := T104.setTop (mkF m 58 #[.val (.ref a1), .val (.int (4 : Int32)), .val (.int p2), .val (.int p3), .val (.int p4)] [(.int (1 : Int32))])) (fun t kt => ?_) ?_
  · show Steps p.tables e below (s₁.setTop (mkF m 0 #[.val (.ref a1), .val (.int (4 : Int32)), .val (.int p2), .val (.int p3), .val (.int p4)] [])) _
    refine XS.aloadN X0.here hx rfl (hb hby d5_0) rfl rfl ?_
    show Steps p.tables e below (s₁.setTop (mkF m 1 #[.val (.ref a1), .val (.int (4 : Int32)), .val (.int p2), .val (.int p3), .val (.int p4)] [(.ref a1)])) _
    refine st101 _ ?_
    show Steps p.tables e below (T101.setTop (mkF m 4 #[.val (.ref a1), .val (.int (4 : Int32)), .val (.int p2), .val (.int p3), .val (.int p4)] [(.int (4 : Int32))])) _
    refine XS.iloadN X101.here hx rfl (hb hby d5_4) rfl ?_
    show Steps p.tables e below (T101.setTop (mkF m 5 #[.val (.ref a1), .val (.int (4 : Int32)), .val (.int p2), .val (.int p3), .val (.int p4)] [(.int (4 : Int32)), (.int (4 : Int32))])) _
    refine XS.icmpNo X101.here hx rfl (hb hby d5_5) rfl (own_nf (ic_ne _ _) (by decide)) ?_
    show Steps p.tables e below (T101.setTop (mkF m 8 #[.val (.ref a1), .val (.int (4 : Int32)), .val (.int p2), .val (.int p3), .val (.int p4)] [])) _
    refine XS.iconst X101.here hx rfl (hb hby d5_8) ?_
    show Steps p.tables e below (T101.setTop (mkF m 9 #[.val (.ref a1), .val (.int (4 : Int32)), .val (.int p2), .val (.int p3), .val (.int p4)] [(.int (1 : Int32))])) _
    refine XS.goto X101.here hx rfl (pc0 := 9) (pc' := 13) rfl (hb hby d5_9) (by decide) (by decide) ?_
    show Steps p.tables e below (T101.setTop (mkF m 13 #[.val (.ref a1), .val (.int (4 : Int32)), .val (.int p2), .val (.int p3), .val (.int p4)] [(.int (1 : Int32))])) _
    refine XS.aloadN X101.here hx rfl (hb hby d5_13) rfl rfl ?_
    show Steps p.tables e below (T101.setTop (mkF m 14 #[.val (.ref a1), .val (.int (4 : Int32)), .val (.int p2), .val (.int p3), .val (.int p4)] [(.ref a1), (.int (1 : Int32))])) _
    refine st102 _ ?_
    show Steps p.tables e below (T102.setTop (mkF m 17 #[.val (.ref a1), .val (.int (4 : Int32)), .val (.int p2), .val (.int p3), .val (.int p4)] [(.int (0 : Int32)), (.int (1 : Int32))])) _
    refine XS.ifNo X102.here hx rfl (hb hby d5_17) rfl (own_nf (i0_ne _) (by decide)) ?_
    show Steps p.tables e below (T102.setTop (mkF m 20 #[.val (.ref a1), .val (.int (4 : Int32)), .val (.int p2), .val (.int p3), .val (.int p4)] [(.int (1 : Int32))])) _
    refine XS.iconst X102.here hx rfl (hb hby d5_20) ?_
    show Steps p.tables e below (T102.setTop (mkF m 21 #[.val (.ref a1), .val (.int (4 : Int32)), .val (.int p2), .val (.int p3), .val (.int p4)] [(.int (1 : Int32)), (.int (1 : Int32))])) _
    refine XS.goto X102.here hx rfl (pc0 := 21) (pc' := 25) rfl (hb hby d5_21) (by decide) (by decide) ?_
    show Steps p.tables e below (T102.setTop (mkF m 25 #[.val (.ref a1), .val (.int (4 : Int32)), .val (.int p2), .val (.int p3), .val (.int p4)] [(.int (1 : Int32)), (.int (1 : Int32))])) _
    refine XS.iand X102.here hx rfl (hb hby d5_25) rfl ?_
    show Steps p.tables e below (T102.setTop (mkF m 26 #[.val (.ref a1), .val (.int (4 : Int32)), .val (.int p2), .val (.int p3), .val (.int p4)] [(.int (1 : Int32))])) _
    refine XS.aloadN X102.here hx rfl (hb hby d5_26) rfl rfl ?_
    show Steps p.tables e below (T102.setTop (mkF m 27 #[.val (.ref a1), .val (.int (4 : Int32)), .val (.int p2), .val (.int p3), .val (.int p4)] [(.ref a1), (.int (1 : Int32))])) _
    refine st103 _ ?_
    show Steps p.tables e below (T103.setTop (mkF m 30 #[.val (.ref a1), .val (.int (4 : Int32)), .val (.int p2), .val (.int p3), .val (.int p4)] [(.double (FP.i2d (p2 + p4))), (.int (1 : Int32))])) _
    refine XS.iloadN X103.here hx rfl (hb hby d5_30) rfl ?_
    show Steps p.tables e below (T103.setTop (mkF m 31 #[.val (.ref a1), .val (.int (4 : Int32)), .val (.int p2), .val (.int p3), .val (.int p4)] [(.int p2), (.double (FP.i2d (p2 + p4))), (.int (1 : Int32))])) _
    refine XS.iload X103.here hx rfl (hb hby d5_31) rfl ?_
    show Steps p.tables e below (T103.setTop (mkF m 33 #[.val (.ref a1), .val (.int (4 : Int32)), .val (.int p2), .val (.int p3), .val (.int p4)] [(.int p4), (.int p2), (.double (FP.i2d (p2 + p4))), (.int (1 : Int32))])) _
    refine XS.iadd X103.here hx rfl (hb hby d5_33) rfl ?_
    show Steps p.tables e below (T103.setTop (mkF m 34 #[.val (.ref a1), .val (.int (4 : Int32)), .val (.int p2), .val (.int p3), .val (.int p4)] [(.int (p2 + p4)), (.double (FP.i2d (p2 + p4))), (.int (1 : Int32))])) _
    refine XS.i2dS X103.here hx rfl (hb hby d5_34) rfl rfl ?_
    show Steps p.tables e below (T103.setTop (mkF m 35 #[.val (.ref a1), .val (.int (4 : Int32)), .val (.int p2), .val (.int p3), .val (.int p4)] [(.double (FP.i2d (p2 + p4))), (.double (FP.i2d (p2 + p4))), (.int (1 : Int32))])) _
    refine XS.dcmpS X103.here hx rfl (hb hby d5_35) rfl (dcmpV_self (nn_w (i2d_w _)) _) ?_
    show Steps p.tables e below (T103.setTop (mkF m 36 #[.val (.ref a1), .val (.int (4 : Int32)), .val (.int p2), .val (.int p3), .val (.int p4)] [(.int (0 : Int32)), (.int (1 : Int32))])) _
    refine XS.ifNo X103.here hx rfl (hb hby d5_36) rfl (own_nf (i0_ne _) (by decide)) ?_
    show Steps p.tables e below (T103.setTop (mkF m 39 #[.val (.ref a1), .val (.int (4 : Int32)), .val (.int p2), .val (.int p3), .val (.int p4)] [(.int (1 : Int32))])) _
    refine XS.iconst X103.here hx rfl (hb hby d5_39) ?_
    show Steps p.tables e below (T103.setTop (mkF m 40 #[.val (.ref a1), .val (.int (4 : Int32)), .val (.int p2), .val (.int p3), .val (.int p4)] [(.int (1 : Int32)), (.int (1 : Int32))])) _
    refine XS.goto X103.here hx rfl (pc0 := 40) (pc' := 44) rfl (hb hby d5_40) (by decide) (by decide) ?_
    show Steps p.tables e below (T103.setTop (mkF m 44 #[.val (.ref a1), .val (.int (4 : Int32)), .val (.int p2), .val (.int p3), .val (.int p4)] [(.int (1 : Int32)), (.int (1 : Int32))])) _
    refine XS.iand X103.here hx rfl (hb hby d5_44) rfl ?_
    show Steps p.tables e below (T103.setTop (mkF m 45 #[.val (.ref a1), .val (.int (4 : Int32)), .val (.int p2), .val (.int p3), .val (.int p4)] [(.int (1 : Int32))])) _
    refine XS.aloadN X103.here hx rfl (hb hby d5_45) rfl rfl ?_
    show Steps p.tables e below (T103.setTop (mkF m 46 #[.val (.ref a1), .val (.int (4 : Int32)), .val (.int p2), .val (.int p3), .val (.int p4)] [(.ref a1), (.int (1 : Int32))])) _
    refine st104 _ ?_
    show Steps p.tables e below (T104.setTop (mkF m 49 #[.val (.ref a1), .val (.int (4 : Int32)), .val (.int p2), .val (.int p3), .val (.int p4)] [(.double (FP.i2d (p3 - p4))), (.int (1 : Int32))])) _
    refine XS.iloadN X104.here hx rfl (hb hby d5_49) rfl ?_
    show Steps p.tables e below (T104.setTop (mkF m 50 #[.val (.ref a1), .val (.int (4 : Int32)), .val (.int p2), .val (.int p3), .val (.int p4)] [(.int p3), (.double (FP.i2d (p3 - p4))), (.int (1 : Int32))])) _
    refine XS.iload X104.here hx rfl (hb hby d5_50) rfl ?_
    show Steps p.tables e below (T104.setTop (mkF m 52 #[.val (.ref a1), .val (.int (4 : Int32)), .val (.int p2), .val (.int p3), .val (.int p4)] [(.int p4), (.int p3), (.double (FP.i2d (p3 - p4))), (.int (1 : Int32))])) _
    refine XS.isub X104.here hx rfl (hb hby d5_52) rfl ?_
    show Steps p.tables e below (T104.setTop (mkF m 53 #[.val (.ref a1), .val (.int (4 : Int32)), .val (.int p2), .val (.int p3), .val (.int p4)] [(.int (p3 - p4)), (.double (FP.i2d (p3 - p4))), (.int (1 : Int32))])) _
    refine XS.i2dS X104.here hx rfl (hb hby d5_53) rfl rfl ?_
    show Steps p.tables e below (T104.setTop (mkF m 54 #[.val (.ref a1), .val (.int (4 : Int32)), .val (.int p2), .val (.int p3), .val (.int p4)] [(.double (FP.i2d (p3 - p4))), (.double (FP.i2d (p3 - p4))), (.int (1 : Int32))])) _
    refine XS.dcmpS X104.here hx rfl (hb hby d5_54) rfl (dcmpV_self (nn_w (i2d_w _)) _) ?_
    show Steps p.tables e below (T104.setTop (mkF m 55 #[.val (.ref a1), .val (.int (4 : Int32)), .val (.int p2), .val (.int p3), .val (.int p4)] [(.int (0 : Int32)), (.int (1 : Int32))])) _
    refine XS.ifNo X104.here hx rfl (hb hby d5_55) rfl (own_nf (i0_ne _) (by decide)) ?_
    exact kt
  refine Gl.fin X104 (v := some (.int (1 : Int32))) (fun h => by rw [Bd.returns] at h; cases h) Bd.notSynchronized ?_ e104 (by decide) (by decide) (fun fs hr => ?_)
  · exact ⟨rfl, N104, rfl⟩
  · show Steps p.tables e below (T104.setTop (mkF m 58 #[.val (.ref a1), .val (.int (4 : Int32)), .val (.int p2), .val (.int p3), .val (.int p4)] [(.int (1 : Int32))])) _
    refine XS.iconst X104.here hx rfl (hb hby d5_58) ?_
    show Steps p.tables e below (T104.setTop (mkF m 59 #[.val (.ref a1), .val (.int (4 : Int32)), .val (.int p2), .val (.int p3), .val (.int p4)] [(.int (1 : Int32)), (.int (1 : Int32))])) _
    refine XS.goto X104.here hx rfl (pc0 := 59) (pc' := 63) rfl (hb hby d5_59) (by decide) (by decide) ?_
    show Steps p.tables e below (T104.setTop (mkF m 63 #[.val (.ref a1), .val (.int (4 : Int32)), .val (.int p2), .val (.int p3), .val (.int p4)] [(.int (1 : Int32)), (.int (1 : Int32))])) _
    refine XS.iand X104.here hx rfl (hb hby d5_63) rfl ?_
    show Steps p.tables e below (T104.setTop (mkF m 64 #[.val (.ref a1), .val (.int (4 : Int32)), .val (.int p2), .val (.int p3), .val (.int p4)] [(.int (1 : Int32))])) _
    exact retN X104 hx (t := .boolean) Bd.returns (by simp) (hb hby d5_64) hr
theorem ef_rm10_4_4 (m : MethodId) (x0 : Addr) : entryFrame m #[(.ref x0)] 1 = mkF m 0 #[.val (.ref x0)] [] := by first | (simp [entryFrame, mkF, argsToLocals, Value.category]; done) | rfl
def Q10_4_4 (Z : State) (a1 : Addr) (b1 : Addr) (b2 : Addr) (k1 : ClassId) (k2 : ClassId) (x0 : UInt64) (x1 : UInt64) (x2 : UInt64) (x3 : UInt64) (x4 : UInt64) (x5 : UInt64) (x6 : UInt64) (x7 : UInt64) (y0 : UInt64) (y1 : UInt64) (y2 : UInt64) (y3 : UInt64) (y4 : UInt64) (y5 : UInt64) (y6 : UInt64) (y7 : UInt64) (h0 : Heap) (n0 : Nat) (v : Option Value) (h : Heap) (L : List Loc) : Prop := v = none ∧ Fr n0 L ∧ Keep h0 h [a1] ∧ Exa Z h a1 "com/example/tenrec/tenrec/pool/RequestQueue" ∧ Fld Z h a1 "com/example/tenrec/tenrec/pool/RequestQueue" "arrivals" "[D" (.ref b1) ∧ Fld Z h a1 "com/example/tenrec/tenrec/pool/RequestQueue" "sizes" "[D" (.ref b2) ∧ Fld Z h a1 "com/example/tenrec/tenrec/pool/RequestQueue" "count" "I" (.int (3 : Int32)) ∧ Fld Z h a1 "com/example/tenrec/tenrec/pool/RequestQueue" "head" "I" (.int (5 : Int32)) ∧ Arv Z h b1 k1 .double (8 : Int32) [(.double x0), (.double x1), (.double x2), (.double x3), (.double x4), (.double x5), (.double x6), (.double x7)] (.double (0 : UInt64)) ∧ Arv Z h b2 k2 .double (8 : Int32) [(.double y0), (.double y1), (.double y2), (.double y3), (.double y4), (.double y5), (.double y6), (.double y7)] (.double (0 : UInt64))
set_option maxRecDepth 65536 in
set_option maxHeartbeats 40000000 in
theorem rm10_4_4 (l : Launch) (Z : State) (a0 : Array Value) (hw : ∀ d ∈ tables_1, d.before a0 Z = true) (ws : List Jvm.Cond) (a1 : Addr) (b1 : Addr) (b2 : Addr) (k1 : ClassId) (k2 : ClassId) (x0 : UInt64) (x1 : UInt64) (x2 : UInt64) (x3 : UInt64) (x4 : UInt64) (x5 : UInt64) (x6 : UInt64) (x7 : UInt64) (y0 : UInt64) (y1 : UInt64) (y2 : UInt64) (y3 : UInt64) (y4 : UInt64) (y5 : UInt64) (y6 : UInt64) (y7 : UInt64) (h0 : Heap) (n0 : Nat) (Z0 : n0 ≤ h0.size) (g_a1 : n0 ≤ a1) (g_b1 : n0 ≤ b1) (g_b2 : n0 ≤ b2) (ne1 : a1 ≠ b1) (ne2 : a1 ≠ b2) (ne3 : b1 ≠ b2) (E_a : Exa Z h0 a1 "com/example/tenrec/tenrec/pool/RequestQueue") (F_a : Fld Z h0 a1 "com/example/tenrec/tenrec/pool/RequestQueue" "arrivals" "[D" (.ref b1)) (F_s : Fld Z h0 a1 "com/example/tenrec/tenrec/pool/RequestQueue" "sizes" "[D" (.ref b2)) (F_c : Fld Z h0 a1 "com/example/tenrec/tenrec/pool/RequestQueue" "count" "I" (.int (4 : Int32))) (F_h : Fld Z h0 a1 "com/example/tenrec/tenrec/pool/RequestQueue" "head" "I" (.int (4 : Int32))) (V_a : Arv Z h0 b1 k1 .double (8 : Int32) [(.double x0), (.double x1), (.double x2), (.double x3), (.double x4), (.double x5), (.double x6), (.double x7)] (.double (0 : UInt64))) (V_s : Arv Z h0 b2 k2 .double (8 : Int32) [(.double y0), (.double y1), (.double y2), (.double y3), (.double y4), (.double y5), (.double y6), (.double y7)] (.double (0 : UInt64))) :
    OMet l Z (⟨"com/example/tenrec/tenrec/pool/RequestQueue", "removeFirst", "()V"⟩ : MethodName) prog_34_method_7_code 1 none ws ({ frames := 0, cells := 0, slots := 0, locals := 0 } : Room) #[(.ref a1)] h0 (Q10_4_4 Z a1 b1 b2 k1 k2 x0 x1 x2 x3 x4 x5 x6 x7 y0 y1 y2 y3 y4 y5 y6 y7 h0 n0) := by
  refine own_body (plainFor_of_name pn_com_example_tenrec_tenrec_pool_RequestQueue) ?_
  intro p e s m below meth c s₁ Bd hml0 hZ e0
  have hx := Bd.exec
  have hby := Bd.bytes
  have hml : c.maxLocals = 1 := hml0
  have hown : s.vm.findClass "com/example/tenrec/tenrec/pool/RequestQueue" = some m.cls := findClass_of_methodNamed Bd.named
  have hnm := (name_of_methodNamed Bd.named Bd.method).1
  have X0 : Stand p l e ({ frames := 0, cells := 0, slots := 0, locals := 0 } : Room) s m #[(.ref a1)] below meth c s₁ [] 0 0 := Stand.of_body Bd
  have N0 := Fr.nil n0
  have K0 : Keep h0 h0 [a1] := Keep.refl _ _
  rw [ef_rm10_4_4]
  obtain ⟨T101, X101, e101, st101⟩ := getF X0 hx hZ hown (host := "") (Or.inl (hw _ (List.mem_of_getElem? (i := 25) rfl))) Via.refl e0 F_h (g := (mkF m 2 #[.val (.ref a1)] [(.ref a1), (.ref a1)])) rfl rfl (hb hby d10_2)
  obtain ⟨T102, X102, e102, st102⟩ := getF X101 hx hZ hown (host := "") (Or.inl (hw _ (List.mem_of_getElem? (i := 10) rfl))) Via.refl e101 F_a (g := (mkF m 6 #[.val (.ref a1)] [(.ref a1), (.int (4 : Int32)), (.ref a1)])) rfl rfl (hb hby d10_6)
  obtain ⟨cl103, Ar103, qa103, Sa103, Na103, Ha103, Ga103⟩ := id V_a
  obtain ⟨T104, X104, e104, st104⟩ := getF X102 hx hZ hown (host := "") (Or.inl (hw _ (List.mem_of_getElem? (i := 25) rfl))) Via.refl e102 F_h (g := (mkF m 20 #[.val (.ref a1)] [(.ref a1), (.ref a1)])) rfl rfl (hb hby d10_20)
  obtain ⟨T105, h105, X105, e105, W105, st105⟩ := putF X104 hx hZ hown (host := "") (Or.inl (hw _ (List.mem_of_getElem? (i := 25) rfl))) Via.refl e104 F_h E_a (Or.inl (hw _ (List.mem_of_getElem? (i := 26) rfl))) (hw _ (List.mem_of_getElem? (i := 1) rfl)) (ty := .int) (by decide) rfl rfl (g := (mkF m 25 #[.val (.ref a1)] [(.int (5 : Int32)), (.ref a1)])) rfl rfl (hb hby d10_25)
  have Fw105 := F_h.same W105
  have K105 : Keep h0 h105 [a1] := K0.wr W105 (Or.inl (List.mem_of_getElem? (i := 0) rfl))
  have N105 := Fr.snoc X105 N0 g_a1
  have f106 := (F_c.other W105 (Or.inr (slot_ne (Or.inl (hw _ (List.mem_of_getElem? (i := 24) rfl))) (Or.inl (hw _ (List.mem_of_getElem? (i := 26) rfl))) (by decide) (t := .int) (t' := .int) (by decide) (by decide))))
  obtain ⟨T107, X107, e107, st107⟩ := getF X105 hx hZ hown (host := "") (Or.inl (hw _ (List.mem_of_getElem? (i := 23) rfl))) Via.refl e105 f106 (g := (mkF m 30 #[.val (.ref a1)] [(.ref a1), (.ref a1)])) rfl rfl (hb hby d10_30)
  have f108 := (E_a.wr W105)
  obtain ⟨T109, h109, X109, e109, W109, st109⟩ := putF X107 hx hZ hown (host := "") (Or.inl (hw _ (List.mem_of_getElem? (i := 23) rfl))) Via.refl e107 f106 f108 (Or.inl (hw _ (List.mem_of_getElem? (i := 24) rfl))) (hw _ (List.mem_of_getElem? (i := 1) rfl)) (ty := .int) (by decide) rfl rfl (g := (mkF m 35 #[.val (.ref a1)] [(.int (3 : Int32)), (.ref a1)])) rfl rfl (hb hby d10_35)
  have Fw109 := f106.same W109
  have K109 : Keep h0 h109 [a1] := K105.wr W109 (Or.inl (List.mem_of_getElem? (i := 0) rfl))
  have N109 := Fr.snoc X109 N105 g_a1
  have f110 := (f108.wr W109)
  have f111 := ((F_a.other W105 (Or.inr (slot_ne (Or.inl (hw _ (List.mem_of_getElem? (i := 11) rfl))) (Or.inl (hw _ (List.mem_of_getElem? (i := 26) rfl))) (by decide) (t := (.array .double)) (t' := .int) (by decide) (by decide)))).other W109 (Or.inr (slot_ne (Or.inl (hw _ (List.mem_of_getElem? (i := 11) rfl))) (Or.inl (hw _ (List.mem_of_getElem? (i := 24) rfl))) (by decide) (t := (.array .double)) (t' := .int) (by decide) (by decide))))
  have f112 := ((F_s.other W105 (Or.inr (slot_ne (Or.inl (hw _ (List.mem_of_getElem? (i := 13) rfl))) (Or.inl (hw _ (List.mem_of_getElem? (i := 26) rfl))) (by decide) (t := (.array .double)) (t' := .int) (by decide) (by decide)))).other W109 (Or.inr (slot_ne (Or.inl (hw _ (List.mem_of_getElem? (i := 13) rfl))) (Or.inl (hw _ (List.mem_of_getElem? (i := 24) rfl))) (by decide) (t := (.array .double)) (t' := .int) (by decide) (by decide))))
  have f113 := (Fw105.other W109 (Or.inr (slot_ne (Or.inl (hw _ (List.mem_of_getElem? (i := 26) rfl))) (Or.inl (hw _ (List.mem_of_getElem? (i := 24) rfl))) (by decide) (t := .int) (t' := .int) (by decide) (by decide))))
  have f114 := ((V_a.other W105 (Ne.symm ne1)).other W109 (Ne.symm ne1))
  have f115 := ((V_s.other W105 (Ne.symm ne2)).other W109 (Ne.symm ne2))
  refine Gl.fin X109 (v := none) (fun _ => rfl) Bd.notSynchronized ?_ e109 (by decide) (by decide) (fun fs hr => ?_)
  · exact ⟨rfl, N109, K109, f110, f111, f112, Fw109, f113, f114, f115⟩
  · show Steps p.tables e below (s₁.setTop (mkF m 0 #[.val (.ref a1)] [])) _
    refine XS.aloadN X0.here hx rfl (hb hby d10_0) rfl rfl ?_
    show Steps p.tables e below (s₁.setTop (mkF m 1 #[.val (.ref a1)] [(.ref a1)])) _
    refine XS.aloadN X0.here hx rfl (hb hby d10_1) rfl rfl ?_
    show Steps p.tables e below (s₁.setTop (mkF m 2 #[.val (.ref a1)] [(.ref a1), (.ref a1)])) _
    refine st101 _ ?_
    show Steps p.tables e below (T101.setTop (mkF m 5 #[.val (.ref a1)] [(.int (4 : Int32)), (.ref a1)])) _
    refine XS.aloadN X101.here hx rfl (hb hby d10_5) rfl rfl ?_
    show Steps p.tables e below (T101.setTop (mkF m 6 #[.val (.ref a1)] [(.ref a1), (.int (4 : Int32)), (.ref a1)])) _
    refine st102 _ ?_
    show Steps p.tables e below (T102.setTop (mkF m 9 #[.val (.ref a1)] [(.ref b1), (.int (4 : Int32)), (.ref a1)])) _
    refine X102.arraylength hx (own_hc e102 Ar103.1) (State.isArrayOf_alike hZ.alike Ar103.2.1) (g := (mkF m 9 #[.val (.ref a1)] [(.ref b1), (.int (4 : Int32)), (.ref a1)])) rfl rfl (hb hby d10_9) _ ?_
    rw [len_of Sa103 Na103]
    show Steps p.tables e below (T102.setTop (mkF m 10 #[.val (.ref a1)] [(.int (8 : Int32)), (.int (4 : Int32)), (.ref a1)])) _
    refine XS.iconst X102.here hx rfl (hb hby d10_10) ?_
    show Steps p.tables e below (T102.setTop (mkF m 11 #[.val (.ref a1)] [(.int (1 : Int32)), (.int (8 : Int32)), (.int (4 : Int32)), (.ref a1)])) _
    refine XS.isub X102.here hx rfl (hb hby d10_11) rfl ?_
    show Steps p.tables e below (T102.setTop (mkF m 12 #[.val (.ref a1)] [(.int (7 : Int32)), (.int (4 : Int32)), (.ref a1)])) _
    refine XS.icmpYes X102.here hx rfl (pc0 := 12) (pc' := 19) rfl (hb hby d10_12) rfl (own_nt (ic_ne _ _) (by decide)) (by decide) (by decide) ?_
    show Steps p.tables e below (T102.setTop (mkF m 19 #[.val (.ref a1)] [(.ref a1)])) _
    refine XS.aloadN X102.here hx rfl (hb hby d10_19) rfl rfl ?_
    show Steps p.tables e below (T102.setTop (mkF m 20 #[.val (.ref a1)] [(.ref a1), (.ref a1)])) _
    refine st104 _ ?_
    show Steps p.tables e below (T104.setTop (mkF m 23 #[.val (.ref a1)] [(.int (4 : Int32)), (.ref a1)])) _
    refine XS.iconst X104.here hx rfl (hb hby d10_23) ?_
    show Steps p.tables e below (T104.setTop (mkF m 24 #[.val (.ref a1)] [(.int (1 : Int32)), (.int (4 : Int32)), (.ref a1)])) _
    refine XS.iadd X104.here hx rfl (hb hby d10_24) rfl ?_
    show Steps p.tables e below (T104.setTop (mkF m 25 #[.val (.ref a1)] [(.int (5 : Int32)), (.ref a1)])) _
    refine st105 _ ?_
    show Steps p.tables e below (T105.setTop (mkF m 28 #[.val (.ref a1)] [])) _
    refine XS.aloadN X105.here hx rfl (hb hby d10_28) rfl rfl ?_
    show Steps p.tables e below (T105.setTop (mkF m 29 #[.val (.ref a1)] [(.ref a1)])) _
    refine XS.dup X105.here hx rfl (hb hby d10_29) rfl rfl ?_
    show Steps p.tables e below (T105.setTop (mkF m 30 #[.val (.ref a1)] [(.ref a1), (.ref a1)])) _
    refine st107 _ ?_
    show Steps p.tables e below (T107.setTop (mkF m 33 #[.val (.ref a1)] [(.int (4 : Int32)), (.ref a1)])) _
    refine XS.iconst X107.here hx rfl (hb hby d10_33) ?_
    show Steps p.tables e below (T107.setTop (mkF m 34 #[.val (.ref a1)] [(.int (1 : Int32)), (.int (4 : Int32)), (.ref a1)])) _
    refine XS.isub X107.here hx rfl (hb hby d10_34) rfl ?_
    show Steps p.tables e below (T107.setTop (mkF m 35 #[.val (.ref a1)] [(.int (3 : Int32)), (.ref a1)])) _
    refine st109 _ ?_
    show Steps p.tables e below (T109.setTop (mkF m 38 #[.val (.ref a1)] [])) _
    exact X109.returnOut hx Bd.returns (hb hby d10_38) hr
theorem ef_rm5_5_3 (m : MethodId) (x0 : Addr) (x1 : Int32) (x2 : Int32) (x3 : Int32) (x4 : Int32) : entryFrame m #[(.ref x0), (.int x1), (.int x2), (.int x3), (.int x4)] 5 = mkF m 0 #[.val (.ref x0), .val (.int x1), .val (.int x2), .val (.int x3), .val (.int x4)] [] := by first | (simp [entryFrame, mkF, argsToLocals, Value.category]; done) | rfl
def Q5_5_3 (Z : State) (a1 : Addr) (p2 : Int32) (p3 : Int32) (p4 : Int32) (b1 : Addr) (b2 : Addr) (k1 : ClassId) (k2 : ClassId) (x0 : UInt64) (x1 : UInt64) (x2 : UInt64) (x3 : UInt64) (x4 : UInt64) (x6 : UInt64) (x7 : UInt64) (y0 : UInt64) (y1 : UInt64) (y2 : UInt64) (y3 : UInt64) (y4 : UInt64) (y6 : UInt64) (y7 : UInt64) (h0 : Heap) (n0 : Nat) (v : Option Value) (h : Heap) (L : List Loc) : Prop := v = some (.int 1) ∧ Fr n0 L ∧ h = h0
set_option maxRecDepth 65536 in
set_option maxHeartbeats 40000000 in
theorem rm5_5_3 (l : Launch) (Z : State) (a0 : Array Value) (hw : ∀ d ∈ tables_1, d.before a0 Z = true) (ws : List Jvm.Cond) (a1 : Addr) (p2 : Int32) (p3 : Int32) (p4 : Int32) (b1 : Addr) (b2 : Addr) (k1 : ClassId) (k2 : ClassId) (x0 : UInt64) (x1 : UInt64) (x2 : UInt64) (x3 : UInt64) (x4 : UInt64) (x6 : UInt64) (x7 : UInt64) (y0 : UInt64) (y1 : UInt64) (y2 : UInt64) (y3 : UInt64) (y4 : UInt64) (y6 : UInt64) (y7 : UInt64) (h0 : Heap) (n0 : Nat) (Z0 : n0 ≤ h0.size) (g_a1 : n0 ≤ a1) (g_b1 : n0 ≤ b1) (g_b2 : n0 ≤ b2) (ne1 : a1 ≠ b1) (ne2 : a1 ≠ b2) (ne3 : b1 ≠ b2) (E_a : Exa Z h0 a1 "com/example/tenrec/tenrec/pool/RequestQueue") (F_a : Fld Z h0 a1 "com/example/tenrec/tenrec/pool/RequestQueue" "arrivals" "[D" (.ref b1)) (F_s : Fld Z h0 a1 "com/example/tenrec/tenrec/pool/RequestQueue" "sizes" "[D" (.ref b2)) (F_c : Fld Z h0 a1 "com/example/tenrec/tenrec/pool/RequestQueue" "count" "I" (.int (3 : Int32))) (F_h : Fld Z h0 a1 "com/example/tenrec/tenrec/pool/RequestQueue" "head" "I" (.int (5 : Int32))) (V_a : Arv Z h0 b1 k1 .double (8 : Int32) [(.double x0), (.double x1), (.double x2), (.double x3), (.double x4), (.double (FP.i2d (p2 + p4))), (.double x6), (.double x7)] (.double (0 : UInt64))) (V_s : Arv Z h0 b2 k2 .double (8 : Int32) [(.double y0), (.double y1), (.double y2), (.double y3), (.double y4), (.double (FP.i2d (p3 - p4))), (.double y6), (.double y7)] (.double (0 : UInt64))) :
    OMet l Z (⟨"com/example/tenrec/tenrec/pool/RequestQueueRemoveFirstPinLaw", "front", "(Lcom/example/tenrec/tenrec/pool/RequestQueue;IIII)Z"⟩ : MethodName) method_3_code 5 (some .boolean) ws ({ frames := 1, cells := 0, slots := 0, locals := 15 } : Room) #[(.ref a1), (.int (3 : Int32)), (.int p2), (.int p3), (.int p4)] h0 (Q5_5_3 Z a1 p2 p3 p4 b1 b2 k1 k2 x0 x1 x2 x3 x4 x6 x7 y0 y1 y2 y3 y4 y6 y7 h0 n0) := by
  refine own_body (plainFor_of_name pn_com_example_tenrec_tenrec_pool_RequestQueueRemoveFirstPinLaw) ?_
  intro p e s m below meth c s₁ Bd hml0 hZ e0
  have hx := Bd.exec
  have hby := Bd.bytes
  have hml : c.maxLocals = 5 := hml0
  have hown : s.vm.findClass "com/example/tenrec/tenrec/pool/RequestQueueRemoveFirstPinLaw" = some m.cls := findClass_of_methodNamed Bd.named
  have hnm := (name_of_methodNamed Bd.named Bd.method).1
  have X0 : Stand p l e ({ frames := 1, cells := 0, slots := 0, locals := 15 } : Room) s m #[(.ref a1), (.int (3 : Int32)), (.int p2), (.int p3), (.int p4)] below meth c s₁ [] 0 0 := Stand.of_body Bd
  have N0 := Fr.nil n0
  have K0 : Keep h0 h0 [] := Keep.refl _ _
  rw [ef_rm5_5_3]
  obtain ⟨v101, T101, L101, X101, q101, st101⟩ := own_callV X0 hx hZ (y := (⟨"com/example/tenrec/tenrec/pool/RequestQueue", "size", "()I"⟩ : MethodName)) (z := (⟨"com/example/tenrec/tenrec/pool/RequestQueue", "size", "()I"⟩ : MethodName)) hown (hw _ (List.mem_of_getElem? (i := 30) rfl)) (hw _ (List.mem_of_getElem? (i := 31) rfl)) (notFace_of_selects (args := #[]) (mvT hZ (hw _ (List.mem_of_getElem? (i := 33) rfl)))) (hw _ (List.mem_of_getElem? (i := 33) rfl)) (hw _ (List.mem_of_getElem? (i := 32) rfl)) (hw _ (List.mem_of_getElem? (i := 2) rfl)) (hw _ (List.mem_of_getElem? (i := 34) rfl)) (by decide) E_a (hM := (rm6 l Z a0 hw [] a1 (3 : Int32) h0 n0 Z0 F_c)) (by decide) (by decide) (by decide) (by decide) e0 (argsL := []) (rest := []) (Ls := #[.val (.ref a1), .val (.int (3 : Int32)), .val (.int p2), .val (.int p3), .val (.int p4)]) (by rw [hml]; rfl) (lenOf pd___I rfl) (W := 0) (Nat.le_of_eq rfl) (hb hby d5_1)
  obtain ⟨rfl, N101q, e101⟩ := q101
  have N101 := Fr.app N0 N101q
  obtain ⟨v102, T102, L102, X102, q102, st102⟩ := own_callV X101 hx hZ (y := (⟨"com/example/tenrec/tenrec/pool/RequestQueue", "isEmpty", "()Z"⟩ : MethodName)) (z := (⟨"com/example/tenrec/tenrec/pool/RequestQueue", "isEmpty", "()Z"⟩ : MethodName)) hown (hw _ (List.mem_of_getElem? (i := 35) rfl)) (hw _ (List.mem_of_getElem? (i := 36) rfl)) (notFace_of_selects (args := #[]) (mvT hZ (hw _ (List.mem_of_getElem? (i := 38) rfl)))) (hw _ (List.mem_of_getElem? (i := 38) rfl)) (hw _ (List.mem_of_getElem? (i := 37) rfl)) (hw _ (List.mem_of_getElem? (i := 2) rfl)) (hw _ (List.mem_of_getElem? (i := 39) rfl)) (by decide) E_a (hM := (rm7 l Z a0 hw [] a1 (3 : Int32) h0 n0 Z0 F_c)) (by decide) (by decide) (by decide) (by decide) e101 (argsL := []) (rest := [(.int (1 : Int32))]) (Ls := #[.val (.ref a1), .val (.int (3 : Int32)), .val (.int p2), .val (.int p3), .val (.int p4)]) (by rw [hml]; rfl) (lenOf pd___Z rfl) (W := 1) (Nat.le_of_eq rfl) (hb hby d5_14)
  obtain ⟨rfl, N102q, e102⟩ := q102
  have N102 := Fr.app N101 N102q
  obtain ⟨v103, T103, L103, X103, q103, st103⟩ := own_callV X102 hx hZ (y := (⟨"com/example/tenrec/tenrec/pool/RequestQueue", "firstArrival", "()D"⟩ : MethodName)) (z := (⟨"com/example/tenrec/tenrec/pool/RequestQueue", "firstArrival", "()D"⟩ : MethodName)) hown (hw _ (List.mem_of_getElem? (i := 40) rfl)) (hw _ (List.mem_of_getElem? (i := 41) rfl)) (notFace_of_selects (args := #[]) (mvT hZ (hw _ (List.mem_of_getElem? (i := 43) rfl)))) (hw _ (List.mem_of_getElem? (i := 43) rfl)) (hw _ (List.mem_of_getElem? (i := 42) rfl)) (hw _ (List.mem_of_getElem? (i := 2) rfl)) (hw _ (List.mem_of_getElem? (i := 44) rfl)) (by decide) E_a (hM := (rm8_5 l Z a0 hw [] a1 b1 k1 x0 x1 x2 x3 x4 (FP.i2d (p2 + p4)) x6 x7 h0 n0 Z0 F_a F_h V_a)) (by decide) (by decide) (by decide) (by decide) e102 (argsL := []) (rest := [(.int (1 : Int32))]) (Ls := #[.val (.ref a1), .val (.int (3 : Int32)), .val (.int p2), .val (.int p3), .val (.int p4)]) (by rw [hml]; rfl) (lenOf pd___D rfl) (W := 1) (Nat.le_of_eq rfl) (hb hby d5_27)
  obtain ⟨rfl, N103q, e103⟩ := q103
  have N103 := Fr.app N102 N103q
  obtain ⟨v104, T104, L104, X104, q104, st104⟩ := own_callV X103 hx hZ (y := (⟨"com/example/tenrec/tenrec/pool/RequestQueue", "firstSize", "()D"⟩ : MethodName)) (z := (⟨"com/example/tenrec/tenrec/pool/RequestQueue", "firstSize", "()D"⟩ : MethodName)) hown (hw _ (List.mem_of_getElem? (i := 45) rfl)) (hw _ (List.mem_of_getElem? (i := 46) rfl)) (notFace_of_selects (args := #[]) (mvT hZ (hw _ (List.mem_of_getElem? (i := 48) rfl)))) (hw _ (List.mem_of_getElem? (i := 48) rfl)) (hw _ (List.mem_of_getElem? (i := 47) rfl)) (hw _ (List.mem_of_getElem? (i := 2) rfl)) (hw _ (List.mem_of_getElem? (i := 49) rfl)) (by decide) E_a (hM := (rm9_5 l Z a0 hw [] a1 b2 k2 y0 y1 y2 y3 y4 (FP.i2d (p3 - p4)) y6 y7 h0 n0 Z0 F_s F_h V_s)) (by decide) (by decide) (by decide) (by decide) e103 (argsL := []) (rest := [(.int (1 : Int32))]) (Ls := #[.val (.ref a1), .val (.int (3 : Int32)), .val (.int p2), .val (.int p3), .val (.int p4)]) (by rw [hml]; rfl) (lenOf pd___D rfl) (W := 1) (Nat.le_of_eq rfl) (hb hby d5_46)
  obtain ⟨rfl, N104q, e104⟩ := q104
  have N104 := Fr.app N103 N104q
  refine Gl.pre (S' := T104.setTop (mkF m 58 #[.val (.ref a1), .val (.int (3 : Int32)), .val (.int p2), .val (.int p3), .val (.int p4)] [(.int (1 : Int32))])) (fun t kt => ?_) ?_
  · show Steps p.tables e below (s₁.setTop (mkF m 0 #[.val (.ref a1), .val (.int (3 : Int32)), .val (.int p2), .val (.int p3), .val (.int p4)] [])) _
    refine XS.aloadN X0.here hx rfl (hb hby d5_0) rfl rfl ?_
    show Steps p.tables e below (s₁.setTop (mkF m 1 #[.val (.ref a1), .val (.int (3 : Int32)), .val (.int p2), .val (.int p3), .val (.int p4)] [(.ref a1)])) _
    refine st101 _ ?_
    show Steps p.tables e below (T101.setTop (mkF m 4 #[.val (.ref a1), .val (.int (3 : Int32)), .val (.int p2), .val (.int p3), .val (.int p4)] [(.int (3 : Int32))])) _
    refine XS.iloadN X101.here hx rfl (hb hby d5_4) rfl ?_
    show Steps p.tables e below (T101.setTop (mkF m 5 #[.val (.ref a1), .val (.int (3 : Int32)), .val (.int p2), .val (.int p3), .val (.int p4)] [(.int (3 : Int32)), (.int (3 : Int32))])) _
    refine XS.icmpNo X101.here hx rfl (hb hby d5_5) rfl (own_nf (ic_ne _ _) (by decide)) ?_
    show Steps p.tables e below (T101.setTop (mkF m 8 #[.val (.ref a1), .val (.int (3 : Int32)), .val (.int p2), .val (.int p3), .val (.int p4)] [])) _
    refine XS.iconst X101.here hx rfl (hb hby d5_8) ?_
    show Steps p.tables e below (T101.setTop (mkF m 9 #[.val (.ref a1), .val (.int (3 : Int32)), .val (.int p2), .val (.int p3), .val (.int p4)] [(.int (1 : Int32))])) _
    refine XS.goto X101.here hx rfl (pc0 := 9) (pc' := 13) rfl (hb hby d5_9) (by decide) (by decide) ?_
    show Steps p.tables e below (T101.setTop (mkF m 13 #[.val (.ref a1), .val (.int (3 : Int32)), .val (.int p2), .val (.int p3), .val (.int p4)] [(.int (1 : Int32))])) _
    refine XS.aloadN X101.here hx rfl (hb hby d5_13) rfl rfl ?_
    show Steps p.tables e below (T101.setTop (mkF m 14 #[.val (.ref a1), .val (.int (3 : Int32)), .val (.int p2), .val (.int p3), .val (.int p4)] [(.ref a1), (.int (1 : Int32))])) _
    refine st102 _ ?_
    show Steps p.tables e below (T102.setTop (mkF m 17 #[.val (.ref a1), .val (.int (3 : Int32)), .val (.int p2), .val (.int p3), .val (.int p4)] [(.int (0 : Int32)), (.int (1 : Int32))])) _
    refine XS.ifNo X102.here hx rfl (hb hby d5_17) rfl (own_nf (i0_ne _) (by decide)) ?_
    show Steps p.tables e below (T102.setTop (mkF m 20 #[.val (.ref a1), .val (.int (3 : Int32)), .val (.int p2), .val (.int p3), .val (.int p4)] [(.int (1 : Int32))])) _
    refine XS.iconst X102.here hx rfl (hb hby d5_20) ?_
    show Steps p.tables e below (T102.setTop (mkF m 21 #[.val (.ref a1), .val (.int (3 : Int32)), .val (.int p2), .val (.int p3), .val (.int p4)] [(.int (1 : Int32)), (.int (1 : Int32))])) _
    refine XS.goto X102.here hx rfl (pc0 := 21) (pc' := 25) rfl (hb hby d5_21) (by decide) (by decide) ?_
    show Steps p.tables e below (T102.setTop (mkF m 25 #[.val (.ref a1), .val (.int (3 : Int32)), .val (.int p2), .val (.int p3), .val (.int p4)] [(.int (1 : Int32)), (.int (1 : Int32))])) _
    refine XS.iand X102.here hx rfl (hb hby d5_25) rfl ?_
    show Steps p.tables e below (T102.setTop (mkF m 26 #[.val (.ref a1), .val (.int (3 : Int32)), .val (.int p2), .val (.int p3), .val (.int p4)] [(.int (1 : Int32))])) _
    refine XS.aloadN X102.here hx rfl (hb hby d5_26) rfl rfl ?_
    show Steps p.tables e below (T102.setTop (mkF m 27 #[.val (.ref a1), .val (.int (3 : Int32)), .val (.int p2), .val (.int p3), .val (.int p4)] [(.ref a1), (.int (1 : Int32))])) _
    refine st103 _ ?_
    show Steps p.tables e below (T103.setTop (mkF m 30 #[.val (.ref a1), .val (.int (3 : Int32)), .val (.int p2), .val (.int p3), .val (.int p4)] [(.double (FP.i2d (p2 + p4))), (.int (1 : Int32))])) _
    refine XS.iloadN X103.here hx rfl (hb hby d5_30) rfl ?_
    show Steps p.tables e below (T103.setTop (mkF m 31 #[.val (.ref a1), .val (.int (3 : Int32)), .val (.int p2), .val (.int p3), .val (.int p4)] [(.int p2), (.double (FP.i2d (p2 + p4))), (.int (1 : Int32))])) _
    refine XS.iload X103.here hx rfl (hb hby d5_31) rfl ?_
    show Steps p.tables e below (T103.setTop (mkF m 33 #[.val (.ref a1), .val (.int (3 : Int32)), .val (.int p2), .val (.int p3), .val (.int p4)] [(.int p4), (.int p2), (.double (FP.i2d (p2 + p4))), (.int (1 : Int32))])) _
    refine XS.iadd X103.here hx rfl (hb hby d5_33) rfl ?_
    show Steps p.tables e below (T103.setTop (mkF m 34 #[.val (.ref a1), .val (.int (3 : Int32)), .val (.int p2), .val (.int p3), .val (.int p4)] [(.int (p2 + p4)), (.double (FP.i2d (p2 + p4))), (.int (1 : Int32))])) _
    refine XS.i2dS X103.here hx rfl (hb hby d5_34) rfl rfl ?_
    show Steps p.tables e below (T103.setTop (mkF m 35 #[.val (.ref a1), .val (.int (3 : Int32)), .val (.int p2), .val (.int p3), .val (.int p4)] [(.double (FP.i2d (p2 + p4))), (.double (FP.i2d (p2 + p4))), (.int (1 : Int32))])) _
    refine XS.dcmpS X103.here hx rfl (hb hby d5_35) rfl (dcmpV_self (nn_w (i2d_w _)) _) ?_
    show Steps p.tables e below (T103.setTop (mkF m 36 #[.val (.ref a1), .val (.int (3 : Int32)), .val (.int p2), .val (.int p3), .val (.int p4)] [(.int (0 : Int32)), (.int (1 : Int32))])) _
    refine XS.ifNo X103.here hx rfl (hb hby d5_36) rfl (own_nf (i0_ne _) (by decide)) ?_
    show Steps p.tables e below (T103.setTop (mkF m 39 #[.val (.ref a1), .val (.int (3 : Int32)), .val (.int p2), .val (.int p3), .val (.int p4)] [(.int (1 : Int32))])) _
    refine XS.iconst X103.here hx rfl (hb hby d5_39) ?_
    show Steps p.tables e below (T103.setTop (mkF m 40 #[.val (.ref a1), .val (.int (3 : Int32)), .val (.int p2), .val (.int p3), .val (.int p4)] [(.int (1 : Int32)), (.int (1 : Int32))])) _
    refine XS.goto X103.here hx rfl (pc0 := 40) (pc' := 44) rfl (hb hby d5_40) (by decide) (by decide) ?_
    show Steps p.tables e below (T103.setTop (mkF m 44 #[.val (.ref a1), .val (.int (3 : Int32)), .val (.int p2), .val (.int p3), .val (.int p4)] [(.int (1 : Int32)), (.int (1 : Int32))])) _
    refine XS.iand X103.here hx rfl (hb hby d5_44) rfl ?_
    show Steps p.tables e below (T103.setTop (mkF m 45 #[.val (.ref a1), .val (.int (3 : Int32)), .val (.int p2), .val (.int p3), .val (.int p4)] [(.int (1 : Int32))])) _
    refine XS.aloadN X103.here hx rfl (hb hby d5_45) rfl rfl ?_
    show Steps p.tables e below (T103.setTop (mkF m 46 #[.val (.ref a1), .val (.int (3 : Int32)), .val (.int p2), .val (.int p3), .val (.int p4)] [(.ref a1), (.int (1 : Int32))])) _
    refine st104 _ ?_
    show Steps p.tables e below (T104.setTop (mkF m 49 #[.val (.ref a1), .val (.int (3 : Int32)), .val (.int p2), .val (.int p3), .val (.int p4)] [(.double (FP.i2d (p3 - p4))), (.int (1 : Int32))])) _
    refine XS.iloadN X104.here hx rfl (hb hby d5_49) rfl ?_
    show Steps p.tables e below (T104.setTop (mkF m 50 #[.val (.ref a1), .val (.int (3 : Int32)), .val (.int p2), .val (.int p3), .val (.int p4)] [(.int p3), (.double (FP.i2d (p3 - p4))), (.int (1 : Int32))])) _
    refine XS.iload X104.here hx rfl (hb hby d5_50) rfl ?_
    show Steps p.tables e below (T104.setTop (mkF m 52 #[.val (.ref a1), .val (.int (3 : Int32)), .val (.int p2), .val (.int p3), .val (.int p4)] [(.int p4), (.int p3), (.double (FP.i2d (p3 - p4))), (.int (1 : Int32))])) _
    refine XS.isub X104.here hx rfl (hb hby d5_52) rfl ?_
    show Steps p.tables e below (T104.setTop (mkF m 53 #[.val (.ref a1), .val (.int (3 : Int32)), .val (.int p2), .val (.int p3), .val (.int p4)] [(.int (p3 - p4)), (.double (FP.i2d (p3 - p4))), (.int (1 : Int32))])) _
    refine XS.i2dS X104.here hx rfl (hb hby d5_53) rfl rfl ?_
    show Steps p.tables e below (T104.setTop (mkF m 54 #[.val (.ref a1), .val (.int (3 : Int32)), .val (.int p2), .val (.int p3), .val (.int p4)] [(.double (FP.i2d (p3 - p4))), (.double (FP.i2d (p3 - p4))), (.int (1 : Int32))])) _
    refine XS.dcmpS X104.here hx rfl (hb hby d5_54) rfl (dcmpV_self (nn_w (i2d_w _)) _) ?_
    show Steps p.tables e below (T104.setTop (mkF m 55 #[.val (.ref a1), .val (.int (3 : Int32)), .val (.int p2), .val (.int p3), .val (.int p4)] [(.int (0 : Int32)), (.int (1 : Int32))])) _
    refine XS.ifNo X104.here hx rfl (hb hby d5_55) rfl (own_nf (i0_ne _) (by decide)) ?_
    exact kt
  refine Gl.fin X104 (v := some (.int (1 : Int32))) (fun h => by rw [Bd.returns] at h; cases h) Bd.notSynchronized ?_ e104 (by decide) (by decide) (fun fs hr => ?_)
  · exact ⟨rfl, N104, rfl⟩
  · show Steps p.tables e below (T104.setTop (mkF m 58 #[.val (.ref a1), .val (.int (3 : Int32)), .val (.int p2), .val (.int p3), .val (.int p4)] [(.int (1 : Int32))])) _
    refine XS.iconst X104.here hx rfl (hb hby d5_58) ?_
    show Steps p.tables e below (T104.setTop (mkF m 59 #[.val (.ref a1), .val (.int (3 : Int32)), .val (.int p2), .val (.int p3), .val (.int p4)] [(.int (1 : Int32)), (.int (1 : Int32))])) _
    refine XS.goto X104.here hx rfl (pc0 := 59) (pc' := 63) rfl (hb hby d5_59) (by decide) (by decide) ?_
    show Steps p.tables e below (T104.setTop (mkF m 63 #[.val (.ref a1), .val (.int (3 : Int32)), .val (.int p2), .val (.int p3), .val (.int p4)] [(.int (1 : Int32)), (.int (1 : Int32))])) _
    refine XS.iand X104.here hx rfl (hb hby d5_63) rfl ?_
    show Steps p.tables e below (T104.setTop (mkF m 64 #[.val (.ref a1), .val (.int (3 : Int32)), .val (.int p2), .val (.int p3), .val (.int p4)] [(.int (1 : Int32))])) _
    exact retN X104 hx (t := .boolean) Bd.returns (by simp) (hb hby d5_64) hr
theorem ef_rm10_5_3 (m : MethodId) (x0 : Addr) : entryFrame m #[(.ref x0)] 1 = mkF m 0 #[.val (.ref x0)] [] := by first | (simp [entryFrame, mkF, argsToLocals, Value.category]; done) | rfl
def Q10_5_3 (Z : State) (a1 : Addr) (b1 : Addr) (b2 : Addr) (k1 : ClassId) (k2 : ClassId) (x0 : UInt64) (x1 : UInt64) (x2 : UInt64) (x3 : UInt64) (x4 : UInt64) (x5 : UInt64) (x6 : UInt64) (x7 : UInt64) (y0 : UInt64) (y1 : UInt64) (y2 : UInt64) (y3 : UInt64) (y4 : UInt64) (y5 : UInt64) (y6 : UInt64) (y7 : UInt64) (h0 : Heap) (n0 : Nat) (v : Option Value) (h : Heap) (L : List Loc) : Prop := v = none ∧ Fr n0 L ∧ Keep h0 h [a1] ∧ Exa Z h a1 "com/example/tenrec/tenrec/pool/RequestQueue" ∧ Fld Z h a1 "com/example/tenrec/tenrec/pool/RequestQueue" "arrivals" "[D" (.ref b1) ∧ Fld Z h a1 "com/example/tenrec/tenrec/pool/RequestQueue" "sizes" "[D" (.ref b2) ∧ Fld Z h a1 "com/example/tenrec/tenrec/pool/RequestQueue" "count" "I" (.int (2 : Int32)) ∧ Fld Z h a1 "com/example/tenrec/tenrec/pool/RequestQueue" "head" "I" (.int (6 : Int32)) ∧ Arv Z h b1 k1 .double (8 : Int32) [(.double x0), (.double x1), (.double x2), (.double x3), (.double x4), (.double x5), (.double x6), (.double x7)] (.double (0 : UInt64)) ∧ Arv Z h b2 k2 .double (8 : Int32) [(.double y0), (.double y1), (.double y2), (.double y3), (.double y4), (.double y5), (.double y6), (.double y7)] (.double (0 : UInt64))
set_option maxRecDepth 65536 in
set_option maxHeartbeats 40000000 in
theorem rm10_5_3 (l : Launch) (Z : State) (a0 : Array Value) (hw : ∀ d ∈ tables_1, d.before a0 Z = true) (ws : List Jvm.Cond) (a1 : Addr) (b1 : Addr) (b2 : Addr) (k1 : ClassId) (k2 : ClassId) (x0 : UInt64) (x1 : UInt64) (x2 : UInt64) (x3 : UInt64) (x4 : UInt64) (x5 : UInt64) (x6 : UInt64) (x7 : UInt64) (y0 : UInt64) (y1 : UInt64) (y2 : UInt64) (y3 : UInt64) (y4 : UInt64) (y5 : UInt64) (y6 : UInt64) (y7 : UInt64) (h0 : Heap) (n0 : Nat) (Z0 : n0 ≤ h0.size) (g_a1 : n0 ≤ a1) (g_b1 : n0 ≤ b1) (g_b2 : n0 ≤ b2) (ne1 : a1 ≠ b1) (ne2 : a1 ≠ b2) (ne3 : b1 ≠ b2) (E_a : Exa Z h0 a1 "com/example/tenrec/tenrec/pool/RequestQueue") (F_a : Fld Z h0 a1 "com/example/tenrec/tenrec/pool/RequestQueue" "arrivals" "[D" (.ref b1)) (F_s : Fld Z h0 a1 "com/example/tenrec/tenrec/pool/RequestQueue" "sizes" "[D" (.ref b2)) (F_c : Fld Z h0 a1 "com/example/tenrec/tenrec/pool/RequestQueue" "count" "I" (.int (3 : Int32))) (F_h : Fld Z h0 a1 "com/example/tenrec/tenrec/pool/RequestQueue" "head" "I" (.int (5 : Int32))) (V_a : Arv Z h0 b1 k1 .double (8 : Int32) [(.double x0), (.double x1), (.double x2), (.double x3), (.double x4), (.double x5), (.double x6), (.double x7)] (.double (0 : UInt64))) (V_s : Arv Z h0 b2 k2 .double (8 : Int32) [(.double y0), (.double y1), (.double y2), (.double y3), (.double y4), (.double y5), (.double y6), (.double y7)] (.double (0 : UInt64))) :
    OMet l Z (⟨"com/example/tenrec/tenrec/pool/RequestQueue", "removeFirst", "()V"⟩ : MethodName) prog_34_method_7_code 1 none ws ({ frames := 0, cells := 0, slots := 0, locals := 0 } : Room) #[(.ref a1)] h0 (Q10_5_3 Z a1 b1 b2 k1 k2 x0 x1 x2 x3 x4 x5 x6 x7 y0 y1 y2 y3 y4 y5 y6 y7 h0 n0) := by
  refine own_body (plainFor_of_name pn_com_example_tenrec_tenrec_pool_RequestQueue) ?_
  intro p e s m below meth c s₁ Bd hml0 hZ e0
  have hx := Bd.exec
  have hby := Bd.bytes
  have hml : c.maxLocals = 1 := hml0
  have hown : s.vm.findClass "com/example/tenrec/tenrec/pool/RequestQueue" = some m.cls := findClass_of_methodNamed Bd.named
  have hnm := (name_of_methodNamed Bd.named Bd.method).1
  have X0 : Stand p l e ({ frames := 0, cells := 0, slots := 0, locals := 0 } : Room) s m #[(.ref a1)] below meth c s₁ [] 0 0 := Stand.of_body Bd
  have N0 := Fr.nil n0
  have K0 : Keep h0 h0 [a1] := Keep.refl _ _
  rw [ef_rm10_5_3]
  obtain ⟨T101, X101, e101, st101⟩ := getF X0 hx hZ hown (host := "") (Or.inl (hw _ (List.mem_of_getElem? (i := 25) rfl))) Via.refl e0 F_h (g := (mkF m 2 #[.val (.ref a1)] [(.ref a1), (.ref a1)])) rfl rfl (hb hby d10_2)
  obtain ⟨T102, X102, e102, st102⟩ := getF X101 hx hZ hown (host := "") (Or.inl (hw _ (List.mem_of_getElem? (i := 10) rfl))) Via.refl e101 F_a (g := (mkF m 6 #[.val (.ref a1)] [(.ref a1), (.int (5 : Int32)), (.ref a1)])) rfl rfl (hb hby d10_6)
  obtain ⟨cl103, Ar103, qa103, Sa103, Na103, Ha103, Ga103⟩ := id V_a
  obtain ⟨T104, X104, e104, st104⟩ := getF X102 hx hZ hown (host := "") (Or.inl (hw _ (List.mem_of_getElem? (i := 25) rfl))) Via.refl e102 F_h (g := (mkF m 20 #[.val (.ref a1)] [(.ref a1), (.ref a1)])) rfl rfl (hb hby d10_20)
  obtain ⟨T105, h105, X105, e105, W105, st105⟩ := putF X104 hx hZ hown (host := "") (Or.inl (hw _ (List.mem_of_getElem? (i := 25) rfl))) Via.refl e104 F_h E_a (Or.inl (hw _ (List.mem_of_getElem? (i := 26) rfl))) (hw _ (List.mem_of_getElem? (i := 1) rfl)) (ty := .int) (by decide) rfl rfl (g := (mkF m 25 #[.val (.ref a1)] [(.int (6 : Int32)), (.ref a1)])) rfl rfl (hb hby d10_25)
  have Fw105 := F_h.same W105
  have K105 : Keep h0 h105 [a1] := K0.wr W105 (Or.inl (List.mem_of_getElem? (i := 0) rfl))
  have N105 := Fr.snoc X105 N0 g_a1
  have f106 := (F_c.other W105 (Or.inr (slot_ne (Or.inl (hw _ (List.mem_of_getElem? (i := 24) rfl))) (Or.inl (hw _ (List.mem_of_getElem? (i := 26) rfl))) (by decide) (t := .int) (t' := .int) (by decide) (by decide))))
  obtain ⟨T107, X107, e107, st107⟩ := getF X105 hx hZ hown (host := "") (Or.inl (hw _ (List.mem_of_getElem? (i := 23) rfl))) Via.refl e105 f106 (g := (mkF m 30 #[.val (.ref a1)] [(.ref a1), (.ref a1)])) rfl rfl (hb hby d10_30)
  have f108 := (E_a.wr W105)
  obtain ⟨T109, h109, X109, e109, W109, st109⟩ := putF X107 hx hZ hown (host := "") (Or.inl (hw _ (List.mem_of_getElem? (i := 23) rfl))) Via.refl e107 f106 f108 (Or.inl (hw _ (List.mem_of_getElem? (i := 24) rfl))) (hw _ (List.mem_of_getElem? (i := 1) rfl)) (ty := .int) (by decide) rfl rfl (g := (mkF m 35 #[.val (.ref a1)] [(.int (2 : Int32)), (.ref a1)])) rfl rfl (hb hby d10_35)
  have Fw109 := f106.same W109
  have K109 : Keep h0 h109 [a1] := K105.wr W109 (Or.inl (List.mem_of_getElem? (i := 0) rfl))
  have N109 := Fr.snoc X109 N105 g_a1
  have f110 := (f108.wr W109)
  have f111 := ((F_a.other W105 (Or.inr (slot_ne (Or.inl (hw _ (List.mem_of_getElem? (i := 11) rfl))) (Or.inl (hw _ (List.mem_of_getElem? (i := 26) rfl))) (by decide) (t := (.array .double)) (t' := .int) (by decide) (by decide)))).other W109 (Or.inr (slot_ne (Or.inl (hw _ (List.mem_of_getElem? (i := 11) rfl))) (Or.inl (hw _ (List.mem_of_getElem? (i := 24) rfl))) (by decide) (t := (.array .double)) (t' := .int) (by decide) (by decide))))
  have f112 := ((F_s.other W105 (Or.inr (slot_ne (Or.inl (hw _ (List.mem_of_getElem? (i := 13) rfl))) (Or.inl (hw _ (List.mem_of_getElem? (i := 26) rfl))) (by decide) (t := (.array .double)) (t' := .int) (by decide) (by decide)))).other W109 (Or.inr (slot_ne (Or.inl (hw _ (List.mem_of_getElem? (i := 13) rfl))) (Or.inl (hw _ (List.mem_of_getElem? (i := 24) rfl))) (by decide) (t := (.array .double)) (t' := .int) (by decide) (by decide))))
  have f113 := (Fw105.other W109 (Or.inr (slot_ne (Or.inl (hw _ (List.mem_of_getElem? (i := 26) rfl))) (Or.inl (hw _ (List.mem_of_getElem? (i := 24) rfl))) (by decide) (t := .int) (t' := .int) (by decide) (by decide))))
  have f114 := ((V_a.other W105 (Ne.symm ne1)).other W109 (Ne.symm ne1))
  have f115 := ((V_s.other W105 (Ne.symm ne2)).other W109 (Ne.symm ne2))
  refine Gl.fin X109 (v := none) (fun _ => rfl) Bd.notSynchronized ?_ e109 (by decide) (by decide) (fun fs hr => ?_)
  · exact ⟨rfl, N109, K109, f110, f111, f112, Fw109, f113, f114, f115⟩
  · show Steps p.tables e below (s₁.setTop (mkF m 0 #[.val (.ref a1)] [])) _
    refine XS.aloadN X0.here hx rfl (hb hby d10_0) rfl rfl ?_
    show Steps p.tables e below (s₁.setTop (mkF m 1 #[.val (.ref a1)] [(.ref a1)])) _
    refine XS.aloadN X0.here hx rfl (hb hby d10_1) rfl rfl ?_
    show Steps p.tables e below (s₁.setTop (mkF m 2 #[.val (.ref a1)] [(.ref a1), (.ref a1)])) _
    refine st101 _ ?_
    show Steps p.tables e below (T101.setTop (mkF m 5 #[.val (.ref a1)] [(.int (5 : Int32)), (.ref a1)])) _
    refine XS.aloadN X101.here hx rfl (hb hby d10_5) rfl rfl ?_
    show Steps p.tables e below (T101.setTop (mkF m 6 #[.val (.ref a1)] [(.ref a1), (.int (5 : Int32)), (.ref a1)])) _
    refine st102 _ ?_
    show Steps p.tables e below (T102.setTop (mkF m 9 #[.val (.ref a1)] [(.ref b1), (.int (5 : Int32)), (.ref a1)])) _
    refine X102.arraylength hx (own_hc e102 Ar103.1) (State.isArrayOf_alike hZ.alike Ar103.2.1) (g := (mkF m 9 #[.val (.ref a1)] [(.ref b1), (.int (5 : Int32)), (.ref a1)])) rfl rfl (hb hby d10_9) _ ?_
    rw [len_of Sa103 Na103]
    show Steps p.tables e below (T102.setTop (mkF m 10 #[.val (.ref a1)] [(.int (8 : Int32)), (.int (5 : Int32)), (.ref a1)])) _
    refine XS.iconst X102.here hx rfl (hb hby d10_10) ?_
    show Steps p.tables e below (T102.setTop (mkF m 11 #[.val (.ref a1)] [(.int (1 : Int32)), (.int (8 : Int32)), (.int (5 : Int32)), (.ref a1)])) _
    refine XS.isub X102.here hx rfl (hb hby d10_11) rfl ?_
    show Steps p.tables e below (T102.setTop (mkF m 12 #[.val (.ref a1)] [(.int (7 : Int32)), (.int (5 : Int32)), (.ref a1)])) _
    refine XS.icmpYes X102.here hx rfl (pc0 := 12) (pc' := 19) rfl (hb hby d10_12) rfl (own_nt (ic_ne _ _) (by decide)) (by decide) (by decide) ?_
    show Steps p.tables e below (T102.setTop (mkF m 19 #[.val (.ref a1)] [(.ref a1)])) _
    refine XS.aloadN X102.here hx rfl (hb hby d10_19) rfl rfl ?_
    show Steps p.tables e below (T102.setTop (mkF m 20 #[.val (.ref a1)] [(.ref a1), (.ref a1)])) _
    refine st104 _ ?_
    show Steps p.tables e below (T104.setTop (mkF m 23 #[.val (.ref a1)] [(.int (5 : Int32)), (.ref a1)])) _
    refine XS.iconst X104.here hx rfl (hb hby d10_23) ?_
    show Steps p.tables e below (T104.setTop (mkF m 24 #[.val (.ref a1)] [(.int (1 : Int32)), (.int (5 : Int32)), (.ref a1)])) _
    refine XS.iadd X104.here hx rfl (hb hby d10_24) rfl ?_
    show Steps p.tables e below (T104.setTop (mkF m 25 #[.val (.ref a1)] [(.int (6 : Int32)), (.ref a1)])) _
    refine st105 _ ?_
    show Steps p.tables e below (T105.setTop (mkF m 28 #[.val (.ref a1)] [])) _
    refine XS.aloadN X105.here hx rfl (hb hby d10_28) rfl rfl ?_
    show Steps p.tables e below (T105.setTop (mkF m 29 #[.val (.ref a1)] [(.ref a1)])) _
    refine XS.dup X105.here hx rfl (hb hby d10_29) rfl rfl ?_
    show Steps p.tables e below (T105.setTop (mkF m 30 #[.val (.ref a1)] [(.ref a1), (.ref a1)])) _
    refine st107 _ ?_
    show Steps p.tables e below (T107.setTop (mkF m 33 #[.val (.ref a1)] [(.int (3 : Int32)), (.ref a1)])) _
    refine XS.iconst X107.here hx rfl (hb hby d10_33) ?_
    show Steps p.tables e below (T107.setTop (mkF m 34 #[.val (.ref a1)] [(.int (1 : Int32)), (.int (3 : Int32)), (.ref a1)])) _
    refine XS.isub X107.here hx rfl (hb hby d10_34) rfl ?_
    show Steps p.tables e below (T107.setTop (mkF m 35 #[.val (.ref a1)] [(.int (2 : Int32)), (.ref a1)])) _
    refine st109 _ ?_
    show Steps p.tables e below (T109.setTop (mkF m 38 #[.val (.ref a1)] [])) _
    exact X109.returnOut hx Bd.returns (hb hby d10_38) hr
theorem ef_rm5_6_2 (m : MethodId) (x0 : Addr) (x1 : Int32) (x2 : Int32) (x3 : Int32) (x4 : Int32) : entryFrame m #[(.ref x0), (.int x1), (.int x2), (.int x3), (.int x4)] 5 = mkF m 0 #[.val (.ref x0), .val (.int x1), .val (.int x2), .val (.int x3), .val (.int x4)] [] := by first | (simp [entryFrame, mkF, argsToLocals, Value.category]; done) | rfl
def Q5_6_2 (Z : State) (a1 : Addr) (p2 : Int32) (p3 : Int32) (p4 : Int32) (b1 : Addr) (b2 : Addr) (k1 : ClassId) (k2 : ClassId) (x0 : UInt64) (x1 : UInt64) (x2 : UInt64) (x3 : UInt64) (x4 : UInt64) (x5 : UInt64) (x7 : UInt64) (y0 : UInt64) (y1 : UInt64) (y2 : UInt64) (y3 : UInt64) (y4 : UInt64) (y5 : UInt64) (y7 : UInt64) (h0 : Heap) (n0 : Nat) (v : Option Value) (h : Heap) (L : List Loc) : Prop := v = some (.int 1) ∧ Fr n0 L ∧ h = h0
set_option maxRecDepth 65536 in
set_option maxHeartbeats 40000000 in
theorem rm5_6_2 (l : Launch) (Z : State) (a0 : Array Value) (hw : ∀ d ∈ tables_1, d.before a0 Z = true) (ws : List Jvm.Cond) (a1 : Addr) (p2 : Int32) (p3 : Int32) (p4 : Int32) (b1 : Addr) (b2 : Addr) (k1 : ClassId) (k2 : ClassId) (x0 : UInt64) (x1 : UInt64) (x2 : UInt64) (x3 : UInt64) (x4 : UInt64) (x5 : UInt64) (x7 : UInt64) (y0 : UInt64) (y1 : UInt64) (y2 : UInt64) (y3 : UInt64) (y4 : UInt64) (y5 : UInt64) (y7 : UInt64) (h0 : Heap) (n0 : Nat) (Z0 : n0 ≤ h0.size) (g_a1 : n0 ≤ a1) (g_b1 : n0 ≤ b1) (g_b2 : n0 ≤ b2) (ne1 : a1 ≠ b1) (ne2 : a1 ≠ b2) (ne3 : b1 ≠ b2) (E_a : Exa Z h0 a1 "com/example/tenrec/tenrec/pool/RequestQueue") (F_a : Fld Z h0 a1 "com/example/tenrec/tenrec/pool/RequestQueue" "arrivals" "[D" (.ref b1)) (F_s : Fld Z h0 a1 "com/example/tenrec/tenrec/pool/RequestQueue" "sizes" "[D" (.ref b2)) (F_c : Fld Z h0 a1 "com/example/tenrec/tenrec/pool/RequestQueue" "count" "I" (.int (2 : Int32))) (F_h : Fld Z h0 a1 "com/example/tenrec/tenrec/pool/RequestQueue" "head" "I" (.int (6 : Int32))) (V_a : Arv Z h0 b1 k1 .double (8 : Int32) [(.double x0), (.double x1), (.double x2), (.double x3), (.double x4), (.double x5), (.double (FP.i2d (p2 + p4))), (.double x7)] (.double (0 : UInt64))) (V_s : Arv Z h0 b2 k2 .double (8 : Int32) [(.double y0), (.double y1), (.double y2), (.double y3), (.double y4), (.double y5), (.double (FP.i2d (p3 - p4))), (.double y7)] (.double (0 : UInt64))) :
    OMet l Z (⟨"com/example/tenrec/tenrec/pool/RequestQueueRemoveFirstPinLaw", "front", "(Lcom/example/tenrec/tenrec/pool/RequestQueue;IIII)Z"⟩ : MethodName) method_3_code 5 (some .boolean) ws ({ frames := 1, cells := 0, slots := 0, locals := 15 } : Room) #[(.ref a1), (.int (2 : Int32)), (.int p2), (.int p3), (.int p4)] h0 (Q5_6_2 Z a1 p2 p3 p4 b1 b2 k1 k2 x0 x1 x2 x3 x4 x5 x7 y0 y1 y2 y3 y4 y5 y7 h0 n0) := by
  refine own_body (plainFor_of_name pn_com_example_tenrec_tenrec_pool_RequestQueueRemoveFirstPinLaw) ?_
  intro p e s m below meth c s₁ Bd hml0 hZ e0
  have hx := Bd.exec
  have hby := Bd.bytes
  have hml : c.maxLocals = 5 := hml0
  have hown : s.vm.findClass "com/example/tenrec/tenrec/pool/RequestQueueRemoveFirstPinLaw" = some m.cls := findClass_of_methodNamed Bd.named
  have hnm := (name_of_methodNamed Bd.named Bd.method).1
  have X0 : Stand p l e ({ frames := 1, cells := 0, slots := 0, locals := 15 } : Room) s m #[(.ref a1), (.int (2 : Int32)), (.int p2), (.int p3), (.int p4)] below meth c s₁ [] 0 0 := Stand.of_body Bd
  have N0 := Fr.nil n0
  have K0 : Keep h0 h0 [] := Keep.refl _ _
  rw [ef_rm5_6_2]
  obtain ⟨v101, T101, L101, X101, q101, st101⟩ := own_callV X0 hx hZ (y := (⟨"com/example/tenrec/tenrec/pool/RequestQueue", "size", "()I"⟩ : MethodName)) (z := (⟨"com/example/tenrec/tenrec/pool/RequestQueue", "size", "()I"⟩ : MethodName)) hown (hw _ (List.mem_of_getElem? (i := 30) rfl)) (hw _ (List.mem_of_getElem? (i := 31) rfl)) (notFace_of_selects (args := #[]) (mvT hZ (hw _ (List.mem_of_getElem? (i := 33) rfl)))) (hw _ (List.mem_of_getElem? (i := 33) rfl)) (hw _ (List.mem_of_getElem? (i := 32) rfl)) (hw _ (List.mem_of_getElem? (i := 2) rfl)) (hw _ (List.mem_of_getElem? (i := 34) rfl)) (by decide) E_a (hM := (rm6 l Z a0 hw [] a1 (2 : Int32) h0 n0 Z0 F_c)) (by decide) (by decide) (by decide) (by decide) e0 (argsL := []) (rest := []) (Ls := #[.val (.ref a1), .val (.int (2 : Int32)), .val (.int p2), .val (.int p3), .val (.int p4)]) (by rw [hml]; rfl) (lenOf pd___I rfl) (W := 0) (Nat.le_of_eq rfl) (hb hby d5_1)
  obtain ⟨rfl, N101q, e101⟩ := q101
  have N101 := Fr.app N0 N101q
  obtain ⟨v102, T102, L102, X102, q102, st102⟩ := own_callV X101 hx hZ (y := (⟨"com/example/tenrec/tenrec/pool/RequestQueue", "isEmpty", "()Z"⟩ : MethodName)) (z := (⟨"com/example/tenrec/tenrec/pool/RequestQueue", "isEmpty", "()Z"⟩ : MethodName)) hown (hw _ (List.mem_of_getElem? (i := 35) rfl)) (hw _ (List.mem_of_getElem? (i := 36) rfl)) (notFace_of_selects (args := #[]) (mvT hZ (hw _ (List.mem_of_getElem? (i := 38) rfl)))) (hw _ (List.mem_of_getElem? (i := 38) rfl)) (hw _ (List.mem_of_getElem? (i := 37) rfl)) (hw _ (List.mem_of_getElem? (i := 2) rfl)) (hw _ (List.mem_of_getElem? (i := 39) rfl)) (by decide) E_a (hM := (rm7 l Z a0 hw [] a1 (2 : Int32) h0 n0 Z0 F_c)) (by decide) (by decide) (by decide) (by decide) e101 (argsL := []) (rest := [(.int (1 : Int32))]) (Ls := #[.val (.ref a1), .val (.int (2 : Int32)), .val (.int p2), .val (.int p3), .val (.int p4)]) (by rw [hml]; rfl) (lenOf pd___Z rfl) (W := 1) (Nat.le_of_eq rfl) (hb hby d5_14)
  obtain ⟨rfl, N102q, e102⟩ := q102
  have N102 := Fr.app N101 N102q
  obtain ⟨v103, T103, L103, X103, q103, st103⟩ := own_callV X102 hx hZ (y := (⟨"com/example/tenrec/tenrec/pool/RequestQueue", "firstArrival", "()D"⟩ : MethodName)) (z := (⟨"com/example/tenrec/tenrec/pool/RequestQueue", "firstArrival", "()D"⟩ : MethodName)) hown (hw _ (List.mem_of_getElem? (i := 40) rfl)) (hw _ (List.mem_of_getElem? (i := 41) rfl)) (notFace_of_selects (args := #[]) (mvT hZ (hw _ (List.mem_of_getElem? (i := 43) rfl)))) (hw _ (List.mem_of_getElem? (i := 43) rfl)) (hw _ (List.mem_of_getElem? (i := 42) rfl)) (hw _ (List.mem_of_getElem? (i := 2) rfl)) (hw _ (List.mem_of_getElem? (i := 44) rfl)) (by decide) E_a (hM := (rm8_6 l Z a0 hw [] a1 b1 k1 x0 x1 x2 x3 x4 x5 (FP.i2d (p2 + p4)) x7 h0 n0 Z0 F_a F_h V_a)) (by decide) (by decide) (by decide) (by decide) e102 (argsL := []) (rest := [(.int (1 : Int32))]) (Ls := #[.val (.ref a1), .val (.int (2 : Int32)), .val (.int p2), .val (.int p3), .val (.int p4)]) (by rw [hml]; rfl) (lenOf pd___D rfl) (W := 1) (Nat.le_of_eq rfl) (hb hby d5_27)
  obtain ⟨rfl, N103q, e103⟩ := q103
  have N103 := Fr.app N102 N103q
  obtain ⟨v104, T104, L104, X104, q104, st104⟩ := own_callV X103 hx hZ (y := (⟨"com/example/tenrec/tenrec/pool/RequestQueue", "firstSize", "()D"⟩ : MethodName)) (z := (⟨"com/example/tenrec/tenrec/pool/RequestQueue", "firstSize", "()D"⟩ : MethodName)) hown (hw _ (List.mem_of_getElem? (i := 45) rfl)) (hw _ (List.mem_of_getElem? (i := 46) rfl)) (notFace_of_selects (args := #[]) (mvT hZ (hw _ (List.mem_of_getElem? (i := 48) rfl)))) (hw _ (List.mem_of_getElem? (i := 48) rfl)) (hw _ (List.mem_of_getElem? (i := 47) rfl)) (hw _ (List.mem_of_getElem? (i := 2) rfl)) (hw _ (List.mem_of_getElem? (i := 49) rfl)) (by decide) E_a (hM := (rm9_6 l Z a0 hw [] a1 b2 k2 y0 y1 y2 y3 y4 y5 (FP.i2d (p3 - p4)) y7 h0 n0 Z0 F_s F_h V_s)) (by decide) (by decide) (by decide) (by decide) e103 (argsL := []) (rest := [(.int (1 : Int32))]) (Ls := #[.val (.ref a1), .val (.int (2 : Int32)), .val (.int p2), .val (.int p3), .val (.int p4)]) (by rw [hml]; rfl) (lenOf pd___D rfl) (W := 1) (Nat.le_of_eq rfl) (hb hby d5_46)
  obtain ⟨rfl, N104q, e104⟩ := q104
  have N104 := Fr.app N103 N104q
  refine Gl.pre (S' := T104.setTop (mkF m 58 #[.val (.ref a1), .val (.int (2 : Int32)), .val (.int p2), .val (.int p3), .val (.int p4)] [(.int (1 : Int32))])) (fun t kt => ?_) ?_
  · show Steps p.tables e below (s₁.setTop (mkF m 0 #[.val (.ref a1), .val (.int (2 : Int32)), .val (.int p2), .val (.int p3), .val (.int p4)] [])) _
    refine XS.aloadN X0.here hx rfl (hb hby d5_0) rfl rfl ?_
    show Steps p.tables e below (s₁.setTop (mkF m 1 #[.val (.ref a1), .val (.int (2 : Int32)), .val (.int p2), .val (.int p3), .val (.int p4)] [(.ref a1)])) _
    refine st101 _ ?_
    show Steps p.tables e below (T101.setTop (mkF m 4 #[.val (.ref a1), .val (.int (2 : Int32)), .val (.int p2), .val (.int p3), .val (.int p4)] [(.int (2 : Int32))])) _
    refine XS.iloadN X101.here hx rfl (hb hby d5_4) rfl ?_
    show Steps p.tables e below (T101.setTop (mkF m 5 #[.val (.ref a1), .val (.int (2 : Int32)), .val (.int p2), .val (.int p3), .val (.int p4)] [(.int (2 : Int32)), (.int (2 : Int32))])) _
    refine XS.icmpNo X101.here hx rfl (hb hby d5_5) rfl (own_nf (ic_ne _ _) (by decide)) ?_
    show Steps p.tables e below (T101.setTop (mkF m 8 #[.val (.ref a1), .val (.int (2 : Int32)), .val (.int p2), .val (.int p3), .val (.int p4)] [])) _
    refine XS.iconst X101.here hx rfl (hb hby d5_8) ?_
    show Steps p.tables e below (T101.setTop (mkF m 9 #[.val (.ref a1), .val (.int (2 : Int32)), .val (.int p2), .val (.int p3), .val (.int p4)] [(.int (1 : Int32))])) _
    refine XS.goto X101.here hx rfl (pc0 := 9) (pc' := 13) rfl (hb hby d5_9) (by decide) (by decide) ?_
    show Steps p.tables e below (T101.setTop (mkF m 13 #[.val (.ref a1), .val (.int (2 : Int32)), .val (.int p2), .val (.int p3), .val (.int p4)] [(.int (1 : Int32))])) _
    refine XS.aloadN X101.here hx rfl (hb hby d5_13) rfl rfl ?_
    show Steps p.tables e below (T101.setTop (mkF m 14 #[.val (.ref a1), .val (.int (2 : Int32)), .val (.int p2), .val (.int p3), .val (.int p4)] [(.ref a1), (.int (1 : Int32))])) _
    refine st102 _ ?_
    show Steps p.tables e below (T102.setTop (mkF m 17 #[.val (.ref a1), .val (.int (2 : Int32)), .val (.int p2), .val (.int p3), .val (.int p4)] [(.int (0 : Int32)), (.int (1 : Int32))])) _
    refine XS.ifNo X102.here hx rfl (hb hby d5_17) rfl (own_nf (i0_ne _) (by decide)) ?_
    show Steps p.tables e below (T102.setTop (mkF m 20 #[.val (.ref a1), .val (.int (2 : Int32)), .val (.int p2), .val (.int p3), .val (.int p4)] [(.int (1 : Int32))])) _
    refine XS.iconst X102.here hx rfl (hb hby d5_20) ?_
    show Steps p.tables e below (T102.setTop (mkF m 21 #[.val (.ref a1), .val (.int (2 : Int32)), .val (.int p2), .val (.int p3), .val (.int p4)] [(.int (1 : Int32)), (.int (1 : Int32))])) _
    refine XS.goto X102.here hx rfl (pc0 := 21) (pc' := 25) rfl (hb hby d5_21) (by decide) (by decide) ?_
    show Steps p.tables e below (T102.setTop (mkF m 25 #[.val (.ref a1), .val (.int (2 : Int32)), .val (.int p2), .val (.int p3), .val (.int p4)] [(.int (1 : Int32)), (.int (1 : Int32))])) _
    refine XS.iand X102.here hx rfl (hb hby d5_25) rfl ?_
    show Steps p.tables e below (T102.setTop (mkF m 26 #[.val (.ref a1), .val (.int (2 : Int32)), .val (.int p2), .val (.int p3), .val (.int p4)] [(.int (1 : Int32))])) _
    refine XS.aloadN X102.here hx rfl (hb hby d5_26) rfl rfl ?_
    show Steps p.tables e below (T102.setTop (mkF m 27 #[.val (.ref a1), .val (.int (2 : Int32)), .val (.int p2), .val (.int p3), .val (.int p4)] [(.ref a1), (.int (1 : Int32))])) _
    refine st103 _ ?_
    show Steps p.tables e below (T103.setTop (mkF m 30 #[.val (.ref a1), .val (.int (2 : Int32)), .val (.int p2), .val (.int p3), .val (.int p4)] [(.double (FP.i2d (p2 + p4))), (.int (1 : Int32))])) _
    refine XS.iloadN X103.here hx rfl (hb hby d5_30) rfl ?_
    show Steps p.tables e below (T103.setTop (mkF m 31 #[.val (.ref a1), .val (.int (2 : Int32)), .val (.int p2), .val (.int p3), .val (.int p4)] [(.int p2), (.double (FP.i2d (p2 + p4))), (.int (1 : Int32))])) _
    refine XS.iload X103.here hx rfl (hb hby d5_31) rfl ?_
    show Steps p.tables e below (T103.setTop (mkF m 33 #[.val (.ref a1), .val (.int (2 : Int32)), .val (.int p2), .val (.int p3), .val (.int p4)] [(.int p4), (.int p2), (.double (FP.i2d (p2 + p4))), (.int (1 : Int32))])) _
    refine XS.iadd X103.here hx rfl (hb hby d5_33) rfl ?_
    show Steps p.tables e below (T103.setTop (mkF m 34 #[.val (.ref a1), .val (.int (2 : Int32)), .val (.int p2), .val (.int p3), .val (.int p4)] [(.int (p2 + p4)), (.double (FP.i2d (p2 + p4))), (.int (1 : Int32))])) _
    refine XS.i2dS X103.here hx rfl (hb hby d5_34) rfl rfl ?_
    show Steps p.tables e below (T103.setTop (mkF m 35 #[.val (.ref a1), .val (.int (2 : Int32)), .val (.int p2), .val (.int p3), .val (.int p4)] [(.double (FP.i2d (p2 + p4))), (.double (FP.i2d (p2 + p4))), (.int (1 : Int32))])) _
    refine XS.dcmpS X103.here hx rfl (hb hby d5_35) rfl (dcmpV_self (nn_w (i2d_w _)) _) ?_
    show Steps p.tables e below (T103.setTop (mkF m 36 #[.val (.ref a1), .val (.int (2 : Int32)), .val (.int p2), .val (.int p3), .val (.int p4)] [(.int (0 : Int32)), (.int (1 : Int32))])) _
    refine XS.ifNo X103.here hx rfl (hb hby d5_36) rfl (own_nf (i0_ne _) (by decide)) ?_
    show Steps p.tables e below (T103.setTop (mkF m 39 #[.val (.ref a1), .val (.int (2 : Int32)), .val (.int p2), .val (.int p3), .val (.int p4)] [(.int (1 : Int32))])) _
    refine XS.iconst X103.here hx rfl (hb hby d5_39) ?_
    show Steps p.tables e below (T103.setTop (mkF m 40 #[.val (.ref a1), .val (.int (2 : Int32)), .val (.int p2), .val (.int p3), .val (.int p4)] [(.int (1 : Int32)), (.int (1 : Int32))])) _
    refine XS.goto X103.here hx rfl (pc0 := 40) (pc' := 44) rfl (hb hby d5_40) (by decide) (by decide) ?_
    show Steps p.tables e below (T103.setTop (mkF m 44 #[.val (.ref a1), .val (.int (2 : Int32)), .val (.int p2), .val (.int p3), .val (.int p4)] [(.int (1 : Int32)), (.int (1 : Int32))])) _
    refine XS.iand X103.here hx rfl (hb hby d5_44) rfl ?_
    show Steps p.tables e below (T103.setTop (mkF m 45 #[.val (.ref a1), .val (.int (2 : Int32)), .val (.int p2), .val (.int p3), .val (.int p4)] [(.int (1 : Int32))])) _
    refine XS.aloadN X103.here hx rfl (hb hby d5_45) rfl rfl ?_
    show Steps p.tables e below (T103.setTop (mkF m 46 #[.val (.ref a1), .val (.int (2 : Int32)), .val (.int p2), .val (.int p3), .val (.int p4)] [(.ref a1), (.int (1 : Int32))])) _
    refine st104 _ ?_
    show Steps p.tables e below (T104.setTop (mkF m 49 #[.val (.ref a1), .val (.int (2 : Int32)), .val (.int p2), .val (.int p3), .val (.int p4)] [(.double (FP.i2d (p3 - p4))), (.int (1 : Int32))])) _
    refine XS.iloadN X104.here hx rfl (hb hby d5_49) rfl ?_
    show Steps p.tables e below (T104.setTop (mkF m 50 #[.val (.ref a1), .val (.int (2 : Int32)), .val (.int p2), .val (.int p3), .val (.int p4)] [(.int p3), (.double (FP.i2d (p3 - p4))), (.int (1 : Int32))])) _
    refine XS.iload X104.here hx rfl (hb hby d5_50) rfl ?_
    show Steps p.tables e below (T104.setTop (mkF m 52 #[.val (.ref a1), .val (.int (2 : Int32)), .val (.int p2), .val (.int p3), .val (.int p4)] [(.int p4), (.int p3), (.double (FP.i2d (p3 - p4))), (.int (1 : Int32))])) _
    refine XS.isub X104.here hx rfl (hb hby d5_52) rfl ?_
    show Steps p.tables e below (T104.setTop (mkF m 53 #[.val (.ref a1), .val (.int (2 : Int32)), .val (.int p2), .val (.int p3), .val (.int p4)] [(.int (p3 - p4)), (.double (FP.i2d (p3 - p4))), (.int (1 : Int32))])) _
    refine XS.i2dS X104.here hx rfl (hb hby d5_53) rfl rfl ?_
    show Steps p.tables e below (T104.setTop (mkF m 54 #[.val (.ref a1), .val (.int (2 : Int32)), .val (.int p2), .val (.int p3), .val (.int p4)] [(.double (FP.i2d (p3 - p4))), (.double (FP.i2d (p3 - p4))), (.int (1 : Int32))])) _
    refine XS.dcmpS X104.here hx rfl (hb hby d5_54) rfl (dcmpV_self (nn_w (i2d_w _)) _) ?_
    show Steps p.tables e below (T104.setTop (mkF m 55 #[.val (.ref a1), .val (.int (2 : Int32)), .val (.int p2), .val (.int p3), .val (.int p4)] [(.int (0 : Int32)), (.int (1 : Int32))])) _
    refine XS.ifNo X104.here hx rfl (hb hby d5_55) rfl (own_nf (i0_ne _) (by decide)) ?_
    exact kt
  refine Gl.fin X104 (v := some (.int (1 : Int32))) (fun h => by rw [Bd.returns] at h; cases h) Bd.notSynchronized ?_ e104 (by decide) (by decide) (fun fs hr => ?_)
  · exact ⟨rfl, N104, rfl⟩
  · show Steps p.tables e below (T104.setTop (mkF m 58 #[.val (.ref a1), .val (.int (2 : Int32)), .val (.int p2), .val (.int p3), .val (.int p4)] [(.int (1 : Int32))])) _
    refine XS.iconst X104.here hx rfl (hb hby d5_58) ?_
    show Steps p.tables e below (T104.setTop (mkF m 59 #[.val (.ref a1), .val (.int (2 : Int32)), .val (.int p2), .val (.int p3), .val (.int p4)] [(.int (1 : Int32)), (.int (1 : Int32))])) _
    refine XS.goto X104.here hx rfl (pc0 := 59) (pc' := 63) rfl (hb hby d5_59) (by decide) (by decide) ?_
    show Steps p.tables e below (T104.setTop (mkF m 63 #[.val (.ref a1), .val (.int (2 : Int32)), .val (.int p2), .val (.int p3), .val (.int p4)] [(.int (1 : Int32)), (.int (1 : Int32))])) _
    refine XS.iand X104.here hx rfl (hb hby d5_63) rfl ?_
    show Steps p.tables e below (T104.setTop (mkF m 64 #[.val (.ref a1), .val (.int (2 : Int32)), .val (.int p2), .val (.int p3), .val (.int p4)] [(.int (1 : Int32))])) _
    exact retN X104 hx (t := .boolean) Bd.returns (by simp) (hb hby d5_64) hr
theorem ef_rm10_6_2 (m : MethodId) (x0 : Addr) : entryFrame m #[(.ref x0)] 1 = mkF m 0 #[.val (.ref x0)] [] := by first | (simp [entryFrame, mkF, argsToLocals, Value.category]; done) | rfl
def Q10_6_2 (Z : State) (a1 : Addr) (b1 : Addr) (b2 : Addr) (k1 : ClassId) (k2 : ClassId) (x0 : UInt64) (x1 : UInt64) (x2 : UInt64) (x3 : UInt64) (x4 : UInt64) (x5 : UInt64) (x6 : UInt64) (x7 : UInt64) (y0 : UInt64) (y1 : UInt64) (y2 : UInt64) (y3 : UInt64) (y4 : UInt64) (y5 : UInt64) (y6 : UInt64) (y7 : UInt64) (h0 : Heap) (n0 : Nat) (v : Option Value) (h : Heap) (L : List Loc) : Prop := v = none ∧ Fr n0 L ∧ Keep h0 h [a1] ∧ Exa Z h a1 "com/example/tenrec/tenrec/pool/RequestQueue" ∧ Fld Z h a1 "com/example/tenrec/tenrec/pool/RequestQueue" "arrivals" "[D" (.ref b1) ∧ Fld Z h a1 "com/example/tenrec/tenrec/pool/RequestQueue" "sizes" "[D" (.ref b2) ∧ Fld Z h a1 "com/example/tenrec/tenrec/pool/RequestQueue" "count" "I" (.int (1 : Int32)) ∧ Fld Z h a1 "com/example/tenrec/tenrec/pool/RequestQueue" "head" "I" (.int (7 : Int32)) ∧ Arv Z h b1 k1 .double (8 : Int32) [(.double x0), (.double x1), (.double x2), (.double x3), (.double x4), (.double x5), (.double x6), (.double x7)] (.double (0 : UInt64)) ∧ Arv Z h b2 k2 .double (8 : Int32) [(.double y0), (.double y1), (.double y2), (.double y3), (.double y4), (.double y5), (.double y6), (.double y7)] (.double (0 : UInt64))
set_option maxRecDepth 65536 in
set_option maxHeartbeats 40000000 in
theorem rm10_6_2 (l : Launch) (Z : State) (a0 : Array Value) (hw : ∀ d ∈ tables_1, d.before a0 Z = true) (ws : List Jvm.Cond) (a1 : Addr) (b1 : Addr) (b2 : Addr) (k1 : ClassId) (k2 : ClassId) (x0 : UInt64) (x1 : UInt64) (x2 : UInt64) (x3 : UInt64) (x4 : UInt64) (x5 : UInt64) (x6 : UInt64) (x7 : UInt64) (y0 : UInt64) (y1 : UInt64) (y2 : UInt64) (y3 : UInt64) (y4 : UInt64) (y5 : UInt64) (y6 : UInt64) (y7 : UInt64) (h0 : Heap) (n0 : Nat) (Z0 : n0 ≤ h0.size) (g_a1 : n0 ≤ a1) (g_b1 : n0 ≤ b1) (g_b2 : n0 ≤ b2) (ne1 : a1 ≠ b1) (ne2 : a1 ≠ b2) (ne3 : b1 ≠ b2) (E_a : Exa Z h0 a1 "com/example/tenrec/tenrec/pool/RequestQueue") (F_a : Fld Z h0 a1 "com/example/tenrec/tenrec/pool/RequestQueue" "arrivals" "[D" (.ref b1)) (F_s : Fld Z h0 a1 "com/example/tenrec/tenrec/pool/RequestQueue" "sizes" "[D" (.ref b2)) (F_c : Fld Z h0 a1 "com/example/tenrec/tenrec/pool/RequestQueue" "count" "I" (.int (2 : Int32))) (F_h : Fld Z h0 a1 "com/example/tenrec/tenrec/pool/RequestQueue" "head" "I" (.int (6 : Int32))) (V_a : Arv Z h0 b1 k1 .double (8 : Int32) [(.double x0), (.double x1), (.double x2), (.double x3), (.double x4), (.double x5), (.double x6), (.double x7)] (.double (0 : UInt64))) (V_s : Arv Z h0 b2 k2 .double (8 : Int32) [(.double y0), (.double y1), (.double y2), (.double y3), (.double y4), (.double y5), (.double y6), (.double y7)] (.double (0 : UInt64))) :
    OMet l Z (⟨"com/example/tenrec/tenrec/pool/RequestQueue", "removeFirst", "()V"⟩ : MethodName) prog_34_method_7_code 1 none ws ({ frames := 0, cells := 0, slots := 0, locals := 0 } : Room) #[(.ref a1)] h0 (Q10_6_2 Z a1 b1 b2 k1 k2 x0 x1 x2 x3 x4 x5 x6 x7 y0 y1 y2 y3 y4 y5 y6 y7 h0 n0) := by
  refine own_body (plainFor_of_name pn_com_example_tenrec_tenrec_pool_RequestQueue) ?_
  intro p e s m below meth c s₁ Bd hml0 hZ e0
  have hx := Bd.exec
  have hby := Bd.bytes
  have hml : c.maxLocals = 1 := hml0
  have hown : s.vm.findClass "com/example/tenrec/tenrec/pool/RequestQueue" = some m.cls := findClass_of_methodNamed Bd.named
  have hnm := (name_of_methodNamed Bd.named Bd.method).1
  have X0 : Stand p l e ({ frames := 0, cells := 0, slots := 0, locals := 0 } : Room) s m #[(.ref a1)] below meth c s₁ [] 0 0 := Stand.of_body Bd
  have N0 := Fr.nil n0
  have K0 : Keep h0 h0 [a1] := Keep.refl _ _
  rw [ef_rm10_6_2]
  obtain ⟨T101, X101, e101, st101⟩ := getF X0 hx hZ hown (host := "") (Or.inl (hw _ (List.mem_of_getElem? (i := 25) rfl))) Via.refl e0 F_h (g := (mkF m 2 #[.val (.ref a1)] [(.ref a1), (.ref a1)])) rfl rfl (hb hby d10_2)
  obtain ⟨T102, X102, e102, st102⟩ := getF X101 hx hZ hown (host := "") (Or.inl (hw _ (List.mem_of_getElem? (i := 10) rfl))) Via.refl e101 F_a (g := (mkF m 6 #[.val (.ref a1)] [(.ref a1), (.int (6 : Int32)), (.ref a1)])) rfl rfl (hb hby d10_6)
  obtain ⟨cl103, Ar103, qa103, Sa103, Na103, Ha103, Ga103⟩ := id V_a
  obtain ⟨T104, X104, e104, st104⟩ := getF X102 hx hZ hown (host := "") (Or.inl (hw _ (List.mem_of_getElem? (i := 25) rfl))) Via.refl e102 F_h (g := (mkF m 20 #[.val (.ref a1)] [(.ref a1), (.ref a1)])) rfl rfl (hb hby d10_20)
  obtain ⟨T105, h105, X105, e105, W105, st105⟩ := putF X104 hx hZ hown (host := "") (Or.inl (hw _ (List.mem_of_getElem? (i := 25) rfl))) Via.refl e104 F_h E_a (Or.inl (hw _ (List.mem_of_getElem? (i := 26) rfl))) (hw _ (List.mem_of_getElem? (i := 1) rfl)) (ty := .int) (by decide) rfl rfl (g := (mkF m 25 #[.val (.ref a1)] [(.int (7 : Int32)), (.ref a1)])) rfl rfl (hb hby d10_25)
  have Fw105 := F_h.same W105
  have K105 : Keep h0 h105 [a1] := K0.wr W105 (Or.inl (List.mem_of_getElem? (i := 0) rfl))
  have N105 := Fr.snoc X105 N0 g_a1
  have f106 := (F_c.other W105 (Or.inr (slot_ne (Or.inl (hw _ (List.mem_of_getElem? (i := 24) rfl))) (Or.inl (hw _ (List.mem_of_getElem? (i := 26) rfl))) (by decide) (t := .int) (t' := .int) (by decide) (by decide))))
  obtain ⟨T107, X107, e107, st107⟩ := getF X105 hx hZ hown (host := "") (Or.inl (hw _ (List.mem_of_getElem? (i := 23) rfl))) Via.refl e105 f106 (g := (mkF m 30 #[.val (.ref a1)] [(.ref a1), (.ref a1)])) rfl rfl (hb hby d10_30)
  have f108 := (E_a.wr W105)
  obtain ⟨T109, h109, X109, e109, W109, st109⟩ := putF X107 hx hZ hown (host := "") (Or.inl (hw _ (List.mem_of_getElem? (i := 23) rfl))) Via.refl e107 f106 f108 (Or.inl (hw _ (List.mem_of_getElem? (i := 24) rfl))) (hw _ (List.mem_of_getElem? (i := 1) rfl)) (ty := .int) (by decide) rfl rfl (g := (mkF m 35 #[.val (.ref a1)] [(.int (1 : Int32)), (.ref a1)])) rfl rfl (hb hby d10_35)
  have Fw109 := f106.same W109
  have K109 : Keep h0 h109 [a1] := K105.wr W109 (Or.inl (List.mem_of_getElem? (i := 0) rfl))
  have N109 := Fr.snoc X109 N105 g_a1
  have f110 := (f108.wr W109)
  have f111 := ((F_a.other W105 (Or.inr (slot_ne (Or.inl (hw _ (List.mem_of_getElem? (i := 11) rfl))) (Or.inl (hw _ (List.mem_of_getElem? (i := 26) rfl))) (by decide) (t := (.array .double)) (t' := .int) (by decide) (by decide)))).other W109 (Or.inr (slot_ne (Or.inl (hw _ (List.mem_of_getElem? (i := 11) rfl))) (Or.inl (hw _ (List.mem_of_getElem? (i := 24) rfl))) (by decide) (t := (.array .double)) (t' := .int) (by decide) (by decide))))
  have f112 := ((F_s.other W105 (Or.inr (slot_ne (Or.inl (hw _ (List.mem_of_getElem? (i := 13) rfl))) (Or.inl (hw _ (List.mem_of_getElem? (i := 26) rfl))) (by decide) (t := (.array .double)) (t' := .int) (by decide) (by decide)))).other W109 (Or.inr (slot_ne (Or.inl (hw _ (List.mem_of_getElem? (i := 13) rfl))) (Or.inl (hw _ (List.mem_of_getElem? (i := 24) rfl))) (by decide) (t := (.array .double)) (t' := .int) (by decide) (by decide))))
  have f113 := (Fw105.other W109 (Or.inr (slot_ne (Or.inl (hw _ (List.mem_of_getElem? (i := 26) rfl))) (Or.inl (hw _ (List.mem_of_getElem? (i := 24) rfl))) (by decide) (t := .int) (t' := .int) (by decide) (by decide))))
  have f114 := ((V_a.other W105 (Ne.symm ne1)).other W109 (Ne.symm ne1))
  have f115 := ((V_s.other W105 (Ne.symm ne2)).other W109 (Ne.symm ne2))
  refine Gl.fin X109 (v := none) (fun _ => rfl) Bd.notSynchronized ?_ e109 (by decide) (by decide) (fun fs hr => ?_)
  · exact ⟨rfl, N109, K109, f110, f111, f112, Fw109, f113, f114, f115⟩
  · show Steps p.tables e below (s₁.setTop (mkF m 0 #[.val (.ref a1)] [])) _
    refine XS.aloadN X0.here hx rfl (hb hby d10_0) rfl rfl ?_
    show Steps p.tables e below (s₁.setTop (mkF m 1 #[.val (.ref a1)] [(.ref a1)])) _
    refine XS.aloadN X0.here hx rfl (hb hby d10_1) rfl rfl ?_
    show Steps p.tables e below (s₁.setTop (mkF m 2 #[.val (.ref a1)] [(.ref a1), (.ref a1)])) _
    refine st101 _ ?_
    show Steps p.tables e below (T101.setTop (mkF m 5 #[.val (.ref a1)] [(.int (6 : Int32)), (.ref a1)])) _
    refine XS.aloadN X101.here hx rfl (hb hby d10_5) rfl rfl ?_
    show Steps p.tables e below (T101.setTop (mkF m 6 #[.val (.ref a1)] [(.ref a1), (.int (6 : Int32)), (.ref a1)])) _
    refine st102 _ ?_
    show Steps p.tables e below (T102.setTop (mkF m 9 #[.val (.ref a1)] [(.ref b1), (.int (6 : Int32)), (.ref a1)])) _
    refine X102.arraylength hx (own_hc e102 Ar103.1) (State.isArrayOf_alike hZ.alike Ar103.2.1) (g := (mkF m 9 #[.val (.ref a1)] [(.ref b1), (.int (6 : Int32)), (.ref a1)])) rfl rfl (hb hby d10_9) _ ?_
    rw [len_of Sa103 Na103]
    show Steps p.tables e below (T102.setTop (mkF m 10 #[.val (.ref a1)] [(.int (8 : Int32)), (.int (6 : Int32)), (.ref a1)])) _
    refine XS.iconst X102.here hx rfl (hb hby d10_10) ?_
    show Steps p.tables e below (T102.setTop (mkF m 11 #[.val (.ref a1)] [(.int (1 : Int32)), (.int (8 : Int32)), (.int (6 : Int32)), (.ref a1)])) _
    refine XS.isub X102.here hx rfl (hb hby d10_11) rfl ?_
    show Steps p.tables e below (T102.setTop (mkF m 12 #[.val (.ref a1)] [(.int (7 : Int32)), (.int (6 : Int32)), (.ref a1)])) _
    refine XS.icmpYes X102.here hx rfl (pc0 := 12) (pc' := 19) rfl (hb hby d10_12) rfl (own_nt (ic_ne _ _) (by decide)) (by decide) (by decide) ?_
    show Steps p.tables e below (T102.setTop (mkF m 19 #[.val (.ref a1)] [(.ref a1)])) _
    refine XS.aloadN X102.here hx rfl (hb hby d10_19) rfl rfl ?_
    show Steps p.tables e below (T102.setTop (mkF m 20 #[.val (.ref a1)] [(.ref a1), (.ref a1)])) _
    refine st104 _ ?_
    show Steps p.tables e below (T104.setTop (mkF m 23 #[.val (.ref a1)] [(.int (6 : Int32)), (.ref a1)])) _
    refine XS.iconst X104.here hx rfl (hb hby d10_23) ?_
    show Steps p.tables e below (T104.setTop (mkF m 24 #[.val (.ref a1)] [(.int (1 : Int32)), (.int (6 : Int32)), (.ref a1)])) _
    refine XS.iadd X104.here hx rfl (hb hby d10_24) rfl ?_
    show Steps p.tables e below (T104.setTop (mkF m 25 #[.val (.ref a1)] [(.int (7 : Int32)), (.ref a1)])) _
    refine st105 _ ?_
    show Steps p.tables e below (T105.setTop (mkF m 28 #[.val (.ref a1)] [])) _
    refine XS.aloadN X105.here hx rfl (hb hby d10_28) rfl rfl ?_
    show Steps p.tables e below (T105.setTop (mkF m 29 #[.val (.ref a1)] [(.ref a1)])) _
    refine XS.dup X105.here hx rfl (hb hby d10_29) rfl rfl ?_
    show Steps p.tables e below (T105.setTop (mkF m 30 #[.val (.ref a1)] [(.ref a1), (.ref a1)])) _
    refine st107 _ ?_
    show Steps p.tables e below (T107.setTop (mkF m 33 #[.val (.ref a1)] [(.int (2 : Int32)), (.ref a1)])) _
    refine XS.iconst X107.here hx rfl (hb hby d10_33) ?_
    show Steps p.tables e below (T107.setTop (mkF m 34 #[.val (.ref a1)] [(.int (1 : Int32)), (.int (2 : Int32)), (.ref a1)])) _
    refine XS.isub X107.here hx rfl (hb hby d10_34) rfl ?_
    show Steps p.tables e below (T107.setTop (mkF m 35 #[.val (.ref a1)] [(.int (1 : Int32)), (.ref a1)])) _
    refine st109 _ ?_
    show Steps p.tables e below (T109.setTop (mkF m 38 #[.val (.ref a1)] [])) _
    exact X109.returnOut hx Bd.returns (hb hby d10_38) hr
theorem ef_rm5_7_1 (m : MethodId) (x0 : Addr) (x1 : Int32) (x2 : Int32) (x3 : Int32) (x4 : Int32) : entryFrame m #[(.ref x0), (.int x1), (.int x2), (.int x3), (.int x4)] 5 = mkF m 0 #[.val (.ref x0), .val (.int x1), .val (.int x2), .val (.int x3), .val (.int x4)] [] := by first | (simp [entryFrame, mkF, argsToLocals, Value.category]; done) | rfl
def Q5_7_1 (Z : State) (a1 : Addr) (p2 : Int32) (p3 : Int32) (p4 : Int32) (b1 : Addr) (b2 : Addr) (k1 : ClassId) (k2 : ClassId) (x0 : UInt64) (x1 : UInt64) (x2 : UInt64) (x3 : UInt64) (x4 : UInt64) (x5 : UInt64) (x6 : UInt64) (y0 : UInt64) (y1 : UInt64) (y2 : UInt64) (y3 : UInt64) (y4 : UInt64) (y5 : UInt64) (y6 : UInt64) (h0 : Heap) (n0 : Nat) (v : Option Value) (h : Heap) (L : List Loc) : Prop := v = some (.int 1) ∧ Fr n0 L ∧ h = h0
set_option maxRecDepth 65536 in
set_option maxHeartbeats 40000000 in
theorem rm5_7_1 (l : Launch) (Z : State) (a0 : Array Value) (hw : ∀ d ∈ tables_1, d.before a0 Z = true) (ws : List Jvm.Cond) (a1 : Addr) (p2 : Int32) (p3 : Int32) (p4 : Int32) (b1 : Addr) (b2 : Addr) (k1 : ClassId) (k2 : ClassId) (x0 : UInt64) (x1 : UInt64) (x2 : UInt64) (x3 : UInt64) (x4 : UInt64) (x5 : UInt64) (x6 : UInt64) (y0 : UInt64) (y1 : UInt64) (y2 : UInt64) (y3 : UInt64) (y4 : UInt64) (y5 : UInt64) (y6 : UInt64) (h0 : Heap) (n0 : Nat) (Z0 : n0 ≤ h0.size) (g_a1 : n0 ≤ a1) (g_b1 : n0 ≤ b1) (g_b2 : n0 ≤ b2) (ne1 : a1 ≠ b1) (ne2 : a1 ≠ b2) (ne3 : b1 ≠ b2) (E_a : Exa Z h0 a1 "com/example/tenrec/tenrec/pool/RequestQueue") (F_a : Fld Z h0 a1 "com/example/tenrec/tenrec/pool/RequestQueue" "arrivals" "[D" (.ref b1)) (F_s : Fld Z h0 a1 "com/example/tenrec/tenrec/pool/RequestQueue" "sizes" "[D" (.ref b2)) (F_c : Fld Z h0 a1 "com/example/tenrec/tenrec/pool/RequestQueue" "count" "I" (.int (1 : Int32))) (F_h : Fld Z h0 a1 "com/example/tenrec/tenrec/pool/RequestQueue" "head" "I" (.int (7 : Int32))) (V_a : Arv Z h0 b1 k1 .double (8 : Int32) [(.double x0), (.double x1), (.double x2), (.double x3), (.double x4), (.double x5), (.double x6), (.double (FP.i2d (p2 + p4)))] (.double (0 : UInt64))) (V_s : Arv Z h0 b2 k2 .double (8 : Int32) [(.double y0), (.double y1), (.double y2), (.double y3), (.double y4), (.double y5), (.double y6), (.double (FP.i2d (p3 - p4)))] (.double (0 : UInt64))) :
    OMet l Z (⟨"com/example/tenrec/tenrec/pool/RequestQueueRemoveFirstPinLaw", "front", "(Lcom/example/tenrec/tenrec/pool/RequestQueue;IIII)Z"⟩ : MethodName) method_3_code 5 (some .boolean) ws ({ frames := 1, cells := 0, slots := 0, locals := 15 } : Room) #[(.ref a1), (.int (1 : Int32)), (.int p2), (.int p3), (.int p4)] h0 (Q5_7_1 Z a1 p2 p3 p4 b1 b2 k1 k2 x0 x1 x2 x3 x4 x5 x6 y0 y1 y2 y3 y4 y5 y6 h0 n0) := by
  refine own_body (plainFor_of_name pn_com_example_tenrec_tenrec_pool_RequestQueueRemoveFirstPinLaw) ?_
  intro p e s m below meth c s₁ Bd hml0 hZ e0
  have hx := Bd.exec
  have hby := Bd.bytes
  have hml : c.maxLocals = 5 := hml0
  have hown : s.vm.findClass "com/example/tenrec/tenrec/pool/RequestQueueRemoveFirstPinLaw" = some m.cls := findClass_of_methodNamed Bd.named
  have hnm := (name_of_methodNamed Bd.named Bd.method).1
  have X0 : Stand p l e ({ frames := 1, cells := 0, slots := 0, locals := 15 } : Room) s m #[(.ref a1), (.int (1 : Int32)), (.int p2), (.int p3), (.int p4)] below meth c s₁ [] 0 0 := Stand.of_body Bd
  have N0 := Fr.nil n0
  have K0 : Keep h0 h0 [] := Keep.refl _ _
  rw [ef_rm5_7_1]
  obtain ⟨v101, T101, L101, X101, q101, st101⟩ := own_callV X0 hx hZ (y := (⟨"com/example/tenrec/tenrec/pool/RequestQueue", "size", "()I"⟩ : MethodName)) (z := (⟨"com/example/tenrec/tenrec/pool/RequestQueue", "size", "()I"⟩ : MethodName)) hown (hw _ (List.mem_of_getElem? (i := 30) rfl)) (hw _ (List.mem_of_getElem? (i := 31) rfl)) (notFace_of_selects (args := #[]) (mvT hZ (hw _ (List.mem_of_getElem? (i := 33) rfl)))) (hw _ (List.mem_of_getElem? (i := 33) rfl)) (hw _ (List.mem_of_getElem? (i := 32) rfl)) (hw _ (List.mem_of_getElem? (i := 2) rfl)) (hw _ (List.mem_of_getElem? (i := 34) rfl)) (by decide) E_a (hM := (rm6 l Z a0 hw [] a1 (1 : Int32) h0 n0 Z0 F_c)) (by decide) (by decide) (by decide) (by decide) e0 (argsL := []) (rest := []) (Ls := #[.val (.ref a1), .val (.int (1 : Int32)), .val (.int p2), .val (.int p3), .val (.int p4)]) (by rw [hml]; rfl) (lenOf pd___I rfl) (W := 0) (Nat.le_of_eq rfl) (hb hby d5_1)
  obtain ⟨rfl, N101q, e101⟩ := q101
  have N101 := Fr.app N0 N101q
  obtain ⟨v102, T102, L102, X102, q102, st102⟩ := own_callV X101 hx hZ (y := (⟨"com/example/tenrec/tenrec/pool/RequestQueue", "isEmpty", "()Z"⟩ : MethodName)) (z := (⟨"com/example/tenrec/tenrec/pool/RequestQueue", "isEmpty", "()Z"⟩ : MethodName)) hown (hw _ (List.mem_of_getElem? (i := 35) rfl)) (hw _ (List.mem_of_getElem? (i := 36) rfl)) (notFace_of_selects (args := #[]) (mvT hZ (hw _ (List.mem_of_getElem? (i := 38) rfl)))) (hw _ (List.mem_of_getElem? (i := 38) rfl)) (hw _ (List.mem_of_getElem? (i := 37) rfl)) (hw _ (List.mem_of_getElem? (i := 2) rfl)) (hw _ (List.mem_of_getElem? (i := 39) rfl)) (by decide) E_a (hM := (rm7 l Z a0 hw [] a1 (1 : Int32) h0 n0 Z0 F_c)) (by decide) (by decide) (by decide) (by decide) e101 (argsL := []) (rest := [(.int (1 : Int32))]) (Ls := #[.val (.ref a1), .val (.int (1 : Int32)), .val (.int p2), .val (.int p3), .val (.int p4)]) (by rw [hml]; rfl) (lenOf pd___Z rfl) (W := 1) (Nat.le_of_eq rfl) (hb hby d5_14)
  obtain ⟨rfl, N102q, e102⟩ := q102
  have N102 := Fr.app N101 N102q
  obtain ⟨v103, T103, L103, X103, q103, st103⟩ := own_callV X102 hx hZ (y := (⟨"com/example/tenrec/tenrec/pool/RequestQueue", "firstArrival", "()D"⟩ : MethodName)) (z := (⟨"com/example/tenrec/tenrec/pool/RequestQueue", "firstArrival", "()D"⟩ : MethodName)) hown (hw _ (List.mem_of_getElem? (i := 40) rfl)) (hw _ (List.mem_of_getElem? (i := 41) rfl)) (notFace_of_selects (args := #[]) (mvT hZ (hw _ (List.mem_of_getElem? (i := 43) rfl)))) (hw _ (List.mem_of_getElem? (i := 43) rfl)) (hw _ (List.mem_of_getElem? (i := 42) rfl)) (hw _ (List.mem_of_getElem? (i := 2) rfl)) (hw _ (List.mem_of_getElem? (i := 44) rfl)) (by decide) E_a (hM := (rm8_7 l Z a0 hw [] a1 b1 k1 x0 x1 x2 x3 x4 x5 x6 (FP.i2d (p2 + p4)) h0 n0 Z0 F_a F_h V_a)) (by decide) (by decide) (by decide) (by decide) e102 (argsL := []) (rest := [(.int (1 : Int32))]) (Ls := #[.val (.ref a1), .val (.int (1 : Int32)), .val (.int p2), .val (.int p3), .val (.int p4)]) (by rw [hml]; rfl) (lenOf pd___D rfl) (W := 1) (Nat.le_of_eq rfl) (hb hby d5_27)
  obtain ⟨rfl, N103q, e103⟩ := q103
  have N103 := Fr.app N102 N103q
  obtain ⟨v104, T104, L104, X104, q104, st104⟩ := own_callV X103 hx hZ (y := (⟨"com/example/tenrec/tenrec/pool/RequestQueue", "firstSize", "()D"⟩ : MethodName)) (z := (⟨"com/example/tenrec/tenrec/pool/RequestQueue", "firstSize", "()D"⟩ : MethodName)) hown (hw _ (List.mem_of_getElem? (i := 45) rfl)) (hw _ (List.mem_of_getElem? (i := 46) rfl)) (notFace_of_selects (args := #[]) (mvT hZ (hw _ (List.mem_of_getElem? (i := 48) rfl)))) (hw _ (List.mem_of_getElem? (i := 48) rfl)) (hw _ (List.mem_of_getElem? (i := 47) rfl)) (hw _ (List.mem_of_getElem? (i := 2) rfl)) (hw _ (List.mem_of_getElem? (i := 49) rfl)) (by decide) E_a (hM := (rm9_7 l Z a0 hw [] a1 b2 k2 y0 y1 y2 y3 y4 y5 y6 (FP.i2d (p3 - p4)) h0 n0 Z0 F_s F_h V_s)) (by decide) (by decide) (by decide) (by decide) e103 (argsL := []) (rest := [(.int (1 : Int32))]) (Ls := #[.val (.ref a1), .val (.int (1 : Int32)), .val (.int p2), .val (.int p3), .val (.int p4)]) (by rw [hml]; rfl) (lenOf pd___D rfl) (W := 1) (Nat.le_of_eq rfl) (hb hby d5_46)
  obtain ⟨rfl, N104q, e104⟩ := q104
  have N104 := Fr.app N103 N104q
  refine Gl.pre (S' := T104.setTop (mkF m 58 #[.val (.ref a1), .val (.int (1 : Int32)), .val (.int p2), .val (.int p3), .val (.int p4)] [(.int (1 : Int32))])) (fun t kt => ?_) ?_
  · show Steps p.tables e below (s₁.setTop (mkF m 0 #[.val (.ref a1), .val (.int (1 : Int32)), .val (.int p2), .val (.int p3), .val (.int p4)] [])) _
    refine XS.aloadN X0.here hx rfl (hb hby d5_0) rfl rfl ?_
    show Steps p.tables e below (s₁.setTop (mkF m 1 #[.val (.ref a1), .val (.int (1 : Int32)), .val (.int p2), .val (.int p3), .val (.int p4)] [(.ref a1)])) _
    refine st101 _ ?_
    show Steps p.tables e below (T101.setTop (mkF m 4 #[.val (.ref a1), .val (.int (1 : Int32)), .val (.int p2), .val (.int p3), .val (.int p4)] [(.int (1 : Int32))])) _
    refine XS.iloadN X101.here hx rfl (hb hby d5_4) rfl ?_
    show Steps p.tables e below (T101.setTop (mkF m 5 #[.val (.ref a1), .val (.int (1 : Int32)), .val (.int p2), .val (.int p3), .val (.int p4)] [(.int (1 : Int32)), (.int (1 : Int32))])) _
    refine XS.icmpNo X101.here hx rfl (hb hby d5_5) rfl (own_nf (ic_ne _ _) (by decide)) ?_
    show Steps p.tables e below (T101.setTop (mkF m 8 #[.val (.ref a1), .val (.int (1 : Int32)), .val (.int p2), .val (.int p3), .val (.int p4)] [])) _
    refine XS.iconst X101.here hx rfl (hb hby d5_8) ?_
    show Steps p.tables e below (T101.setTop (mkF m 9 #[.val (.ref a1), .val (.int (1 : Int32)), .val (.int p2), .val (.int p3), .val (.int p4)] [(.int (1 : Int32))])) _
    refine XS.goto X101.here hx rfl (pc0 := 9) (pc' := 13) rfl (hb hby d5_9) (by decide) (by decide) ?_
    show Steps p.tables e below (T101.setTop (mkF m 13 #[.val (.ref a1), .val (.int (1 : Int32)), .val (.int p2), .val (.int p3), .val (.int p4)] [(.int (1 : Int32))])) _
    refine XS.aloadN X101.here hx rfl (hb hby d5_13) rfl rfl ?_
    show Steps p.tables e below (T101.setTop (mkF m 14 #[.val (.ref a1), .val (.int (1 : Int32)), .val (.int p2), .val (.int p3), .val (.int p4)] [(.ref a1), (.int (1 : Int32))])) _
    refine st102 _ ?_
    show Steps p.tables e below (T102.setTop (mkF m 17 #[.val (.ref a1), .val (.int (1 : Int32)), .val (.int p2), .val (.int p3), .val (.int p4)] [(.int (0 : Int32)), (.int (1 : Int32))])) _
    refine XS.ifNo X102.here hx rfl (hb hby d5_17) rfl (own_nf (i0_ne _) (by decide)) ?_
    show Steps p.tables e below (T102.setTop (mkF m 20 #[.val (.ref a1), .val (.int (1 : Int32)), .val (.int p2), .val (.int p3), .val (.int p4)] [(.int (1 : Int32))])) _
    refine XS.iconst X102.here hx rfl (hb hby d5_20) ?_
    show Steps p.tables e below (T102.setTop (mkF m 21 #[.val (.ref a1), .val (.int (1 : Int32)), .val (.int p2), .val (.int p3), .val (.int p4)] [(.int (1 : Int32)), (.int (1 : Int32))])) _
    refine XS.goto X102.here hx rfl (pc0 := 21) (pc' := 25) rfl (hb hby d5_21) (by decide) (by decide) ?_
    show Steps p.tables e below (T102.setTop (mkF m 25 #[.val (.ref a1), .val (.int (1 : Int32)), .val (.int p2), .val (.int p3), .val (.int p4)] [(.int (1 : Int32)), (.int (1 : Int32))])) _
    refine XS.iand X102.here hx rfl (hb hby d5_25) rfl ?_
    show Steps p.tables e below (T102.setTop (mkF m 26 #[.val (.ref a1), .val (.int (1 : Int32)), .val (.int p2), .val (.int p3), .val (.int p4)] [(.int (1 : Int32))])) _
    refine XS.aloadN X102.here hx rfl (hb hby d5_26) rfl rfl ?_
    show Steps p.tables e below (T102.setTop (mkF m 27 #[.val (.ref a1), .val (.int (1 : Int32)), .val (.int p2), .val (.int p3), .val (.int p4)] [(.ref a1), (.int (1 : Int32))])) _
    refine st103 _ ?_
    show Steps p.tables e below (T103.setTop (mkF m 30 #[.val (.ref a1), .val (.int (1 : Int32)), .val (.int p2), .val (.int p3), .val (.int p4)] [(.double (FP.i2d (p2 + p4))), (.int (1 : Int32))])) _
    refine XS.iloadN X103.here hx rfl (hb hby d5_30) rfl ?_
    show Steps p.tables e below (T103.setTop (mkF m 31 #[.val (.ref a1), .val (.int (1 : Int32)), .val (.int p2), .val (.int p3), .val (.int p4)] [(.int p2), (.double (FP.i2d (p2 + p4))), (.int (1 : Int32))])) _
    refine XS.iload X103.here hx rfl (hb hby d5_31) rfl ?_
    show Steps p.tables e below (T103.setTop (mkF m 33 #[.val (.ref a1), .val (.int (1 : Int32)), .val (.int p2), .val (.int p3), .val (.int p4)] [(.int p4), (.int p2), (.double (FP.i2d (p2 + p4))), (.int (1 : Int32))])) _
    refine XS.iadd X103.here hx rfl (hb hby d5_33) rfl ?_
    show Steps p.tables e below (T103.setTop (mkF m 34 #[.val (.ref a1), .val (.int (1 : Int32)), .val (.int p2), .val (.int p3), .val (.int p4)] [(.int (p2 + p4)), (.double (FP.i2d (p2 + p4))), (.int (1 : Int32))])) _
    refine XS.i2dS X103.here hx rfl (hb hby d5_34) rfl rfl ?_
    show Steps p.tables e below (T103.setTop (mkF m 35 #[.val (.ref a1), .val (.int (1 : Int32)), .val (.int p2), .val (.int p3), .val (.int p4)] [(.double (FP.i2d (p2 + p4))), (.double (FP.i2d (p2 + p4))), (.int (1 : Int32))])) _
    refine XS.dcmpS X103.here hx rfl (hb hby d5_35) rfl (dcmpV_self (nn_w (i2d_w _)) _) ?_
    show Steps p.tables e below (T103.setTop (mkF m 36 #[.val (.ref a1), .val (.int (1 : Int32)), .val (.int p2), .val (.int p3), .val (.int p4)] [(.int (0 : Int32)), (.int (1 : Int32))])) _
    refine XS.ifNo X103.here hx rfl (hb hby d5_36) rfl (own_nf (i0_ne _) (by decide)) ?_
    show Steps p.tables e below (T103.setTop (mkF m 39 #[.val (.ref a1), .val (.int (1 : Int32)), .val (.int p2), .val (.int p3), .val (.int p4)] [(.int (1 : Int32))])) _
    refine XS.iconst X103.here hx rfl (hb hby d5_39) ?_
    show Steps p.tables e below (T103.setTop (mkF m 40 #[.val (.ref a1), .val (.int (1 : Int32)), .val (.int p2), .val (.int p3), .val (.int p4)] [(.int (1 : Int32)), (.int (1 : Int32))])) _
    refine XS.goto X103.here hx rfl (pc0 := 40) (pc' := 44) rfl (hb hby d5_40) (by decide) (by decide) ?_
    show Steps p.tables e below (T103.setTop (mkF m 44 #[.val (.ref a1), .val (.int (1 : Int32)), .val (.int p2), .val (.int p3), .val (.int p4)] [(.int (1 : Int32)), (.int (1 : Int32))])) _
    refine XS.iand X103.here hx rfl (hb hby d5_44) rfl ?_
    show Steps p.tables e below (T103.setTop (mkF m 45 #[.val (.ref a1), .val (.int (1 : Int32)), .val (.int p2), .val (.int p3), .val (.int p4)] [(.int (1 : Int32))])) _
    refine XS.aloadN X103.here hx rfl (hb hby d5_45) rfl rfl ?_
    show Steps p.tables e below (T103.setTop (mkF m 46 #[.val (.ref a1), .val (.int (1 : Int32)), .val (.int p2), .val (.int p3), .val (.int p4)] [(.ref a1), (.int (1 : Int32))])) _
    refine st104 _ ?_
    show Steps p.tables e below (T104.setTop (mkF m 49 #[.val (.ref a1), .val (.int (1 : Int32)), .val (.int p2), .val (.int p3), .val (.int p4)] [(.double (FP.i2d (p3 - p4))), (.int (1 : Int32))])) _
    refine XS.iloadN X104.here hx rfl (hb hby d5_49) rfl ?_
    show Steps p.tables e below (T104.setTop (mkF m 50 #[.val (.ref a1), .val (.int (1 : Int32)), .val (.int p2), .val (.int p3), .val (.int p4)] [(.int p3), (.double (FP.i2d (p3 - p4))), (.int (1 : Int32))])) _
    refine XS.iload X104.here hx rfl (hb hby d5_50) rfl ?_
    show Steps p.tables e below (T104.setTop (mkF m 52 #[.val (.ref a1), .val (.int (1 : Int32)), .val (.int p2), .val (.int p3), .val (.int p4)] [(.int p4), (.int p3), (.double (FP.i2d (p3 - p4))), (.int (1 : Int32))])) _
    refine XS.isub X104.here hx rfl (hb hby d5_52) rfl ?_
    show Steps p.tables e below (T104.setTop (mkF m 53 #[.val (.ref a1), .val (.int (1 : Int32)), .val (.int p2), .val (.int p3), .val (.int p4)] [(.int (p3 - p4)), (.double (FP.i2d (p3 - p4))), (.int (1 : Int32))])) _
    refine XS.i2dS X104.here hx rfl (hb hby d5_53) rfl rfl ?_
    show Steps p.tables e below (T104.setTop (mkF m 54 #[.val (.ref a1), .val (.int (1 : Int32)), .val (.int p2), .val (.int p3), .val (.int p4)] [(.double (FP.i2d (p3 - p4))), (.double (FP.i2d (p3 - p4))), (.int (1 : Int32))])) _
    refine XS.dcmpS X104.here hx rfl (hb hby d5_54) rfl (dcmpV_self (nn_w (i2d_w _)) _) ?_
    show Steps p.tables e below (T104.setTop (mkF m 55 #[.val (.ref a1), .val (.int (1 : Int32)), .val (.int p2), .val (.int p3), .val (.int p4)] [(.int (0 : Int32)), (.int (1 : Int32))])) _
    refine XS.ifNo X104.here hx rfl (hb hby d5_55) rfl (own_nf (i0_ne _) (by decide)) ?_
    exact kt
  refine Gl.fin X104 (v := some (.int (1 : Int32))) (fun h => by rw [Bd.returns] at h; cases h) Bd.notSynchronized ?_ e104 (by decide) (by decide) (fun fs hr => ?_)
  · exact ⟨rfl, N104, rfl⟩
  · show Steps p.tables e below (T104.setTop (mkF m 58 #[.val (.ref a1), .val (.int (1 : Int32)), .val (.int p2), .val (.int p3), .val (.int p4)] [(.int (1 : Int32))])) _
    refine XS.iconst X104.here hx rfl (hb hby d5_58) ?_
    show Steps p.tables e below (T104.setTop (mkF m 59 #[.val (.ref a1), .val (.int (1 : Int32)), .val (.int p2), .val (.int p3), .val (.int p4)] [(.int (1 : Int32)), (.int (1 : Int32))])) _
    refine XS.goto X104.here hx rfl (pc0 := 59) (pc' := 63) rfl (hb hby d5_59) (by decide) (by decide) ?_
    show Steps p.tables e below (T104.setTop (mkF m 63 #[.val (.ref a1), .val (.int (1 : Int32)), .val (.int p2), .val (.int p3), .val (.int p4)] [(.int (1 : Int32)), (.int (1 : Int32))])) _
    refine XS.iand X104.here hx rfl (hb hby d5_63) rfl ?_
    show Steps p.tables e below (T104.setTop (mkF m 64 #[.val (.ref a1), .val (.int (1 : Int32)), .val (.int p2), .val (.int p3), .val (.int p4)] [(.int (1 : Int32))])) _
    exact retN X104 hx (t := .boolean) Bd.returns (by simp) (hb hby d5_64) hr
theorem ef_rm4_7_1 (m : MethodId) (x0 : Addr) (x1 : UInt64) (x2 : UInt64) : entryFrame m #[(.ref x0), (.double x1), (.double x2)] 7 = mkF m 0 #[.val (.ref x0), .val (.double x1), .second, .val (.double x2), .second, .unset, .unset] [] := by first | (simp [entryFrame, mkF, argsToLocals, Value.category]; done) | rfl
theorem d4_49 : decode prog_34_method_2_code 49 = .ok (.aload_n 0, 1) := by decide +kernel
theorem d4_50 : decode prog_34_method_2_code 50 = .ok (.getfield 23, 3) := by decide +kernel
theorem d4_53 : decode prog_34_method_2_code 53 = .ok (.iload 5, 2) := by decide +kernel
theorem d4_55 : decode prog_34_method_2_code 55 = .ok (.aload_n 0, 1) := by decide +kernel
theorem d4_56 : decode prog_34_method_2_code 56 = .ok (.getfield 16, 3) := by decide +kernel
theorem d4_59 : decode prog_34_method_2_code 59 = .ok (.isub, 1) := by decide +kernel
theorem d4_60 : decode prog_34_method_2_code 60 = .ok (.isub, 1) := by decide +kernel
def Q4_7_1 (Z : State) (a1 : Addr) (d1 : UInt64) (d2 : UInt64) (b1 : Addr) (b2 : Addr) (k1 : ClassId) (k2 : ClassId) (x0 : UInt64) (x1 : UInt64) (x2 : UInt64) (x3 : UInt64) (x4 : UInt64) (x5 : UInt64) (x6 : UInt64) (x7 : UInt64) (y0 : UInt64) (y1 : UInt64) (y2 : UInt64) (y3 : UInt64) (y4 : UInt64) (y5 : UInt64) (y6 : UInt64) (y7 : UInt64) (h0 : Heap) (n0 : Nat) (v : Option Value) (h : Heap) (L : List Loc) : Prop := v = none ∧ Fr n0 L ∧ Keep h0 h [a1, b1, b2] ∧ Exa Z h a1 "com/example/tenrec/tenrec/pool/RequestQueue" ∧ Fld Z h a1 "com/example/tenrec/tenrec/pool/RequestQueue" "arrivals" "[D" (.ref b1) ∧ Fld Z h a1 "com/example/tenrec/tenrec/pool/RequestQueue" "sizes" "[D" (.ref b2) ∧ Fld Z h a1 "com/example/tenrec/tenrec/pool/RequestQueue" "count" "I" (.int (2 : Int32)) ∧ Fld Z h a1 "com/example/tenrec/tenrec/pool/RequestQueue" "head" "I" (.int (7 : Int32)) ∧ Arv Z h b1 k1 .double (8 : Int32) [(.double d1), (.double x1), (.double x2), (.double x3), (.double x4), (.double x5), (.double x6), (.double x7)] (.double (0 : UInt64)) ∧ Arv Z h b2 k2 .double (8 : Int32) [(.double d2), (.double y1), (.double y2), (.double y3), (.double y4), (.double y5), (.double y6), (.double y7)] (.double (0 : UInt64))
set_option maxRecDepth 65536 in
set_option maxHeartbeats 40000000 in
theorem rm4_7_1 (l : Launch) (Z : State) (a0 : Array Value) (hw : ∀ d ∈ tables_1, d.before a0 Z = true) (ws : List Jvm.Cond) (a1 : Addr) (d1 : UInt64) (d2 : UInt64) (b1 : Addr) (b2 : Addr) (k1 : ClassId) (k2 : ClassId) (x0 : UInt64) (x1 : UInt64) (x2 : UInt64) (x3 : UInt64) (x4 : UInt64) (x5 : UInt64) (x6 : UInt64) (x7 : UInt64) (y0 : UInt64) (y1 : UInt64) (y2 : UInt64) (y3 : UInt64) (y4 : UInt64) (y5 : UInt64) (y6 : UInt64) (y7 : UInt64) (h0 : Heap) (n0 : Nat) (Z0 : n0 ≤ h0.size) (g_a1 : n0 ≤ a1) (g_b1 : n0 ≤ b1) (g_b2 : n0 ≤ b2) (ne1 : a1 ≠ b1) (ne2 : a1 ≠ b2) (ne3 : b1 ≠ b2) (E_a : Exa Z h0 a1 "com/example/tenrec/tenrec/pool/RequestQueue") (F_a : Fld Z h0 a1 "com/example/tenrec/tenrec/pool/RequestQueue" "arrivals" "[D" (.ref b1)) (F_s : Fld Z h0 a1 "com/example/tenrec/tenrec/pool/RequestQueue" "sizes" "[D" (.ref b2)) (F_c : Fld Z h0 a1 "com/example/tenrec/tenrec/pool/RequestQueue" "count" "I" (.int (1 : Int32))) (F_h : Fld Z h0 a1 "com/example/tenrec/tenrec/pool/RequestQueue" "head" "I" (.int (7 : Int32))) (V_a : Arv Z h0 b1 k1 .double (8 : Int32) [(.double x0), (.double x1), (.double x2), (.double x3), (.double x4), (.double x5), (.double x6), (.double x7)] (.double (0 : UInt64))) (V_s : Arv Z h0 b2 k2 .double (8 : Int32) [(.double y0), (.double y1), (.double y2), (.double y3), (.double y4), (.double y5), (.double y6), (.double y7)] (.double (0 : UInt64))) :
    OMet l Z (⟨"com/example/tenrec/tenrec/pool/RequestQueue", "add", "(DD)V"⟩ : MethodName) prog_34_method_2_code 7 none ws ({ frames := 0, cells := 0, slots := 0, locals := 0 } : Room) #[(.ref a1), (.double d1), (.double d2)] h0 (Q4_7_1 Z a1 d1 d2 b1 b2 k1 k2 x0 x1 x2 x3 x4 x5 x6 x7 y0 y1 y2 y3 y4 y5 y6 y7 h0 n0) := by
  refine own_body (plainFor_of_name pn_com_example_tenrec_tenrec_pool_RequestQueue) ?_
  intro p e s m below meth c s₁ Bd hml0 hZ e0
  have hx := Bd.exec
  have hby := Bd.bytes
  have hml : c.maxLocals = 7 := hml0
  have hown : s.vm.findClass "com/example/tenrec/tenrec/pool/RequestQueue" = some m.cls := findClass_of_methodNamed Bd.named
  have hnm := (name_of_methodNamed Bd.named Bd.method).1
  have X0 : Stand p l e ({ frames := 0, cells := 0, slots := 0, locals := 0 } : Room) s m #[(.ref a1), (.double d1), (.double d2)] below meth c s₁ [] 0 0 := Stand.of_body Bd
  have N0 := Fr.nil n0
  have K0 : Keep h0 h0 [a1, b1, b2] := Keep.refl _ _
  rw [ef_rm4_7_1]
  obtain ⟨T101, X101, e101, st101⟩ := getF X0 hx hZ hown (host := "") (Or.inl (hw _ (List.mem_of_getElem? (i := 23) rfl))) Via.refl e0 F_c (g := (mkF m 1 #[.val (.ref a1), .val (.double d1), .second, .val (.double d2), .second, .unset, .unset] [(.ref a1)])) rfl rfl (hb hby d4_1)
  obtain ⟨T102, X102, e102, st102⟩ := getF X101 hx hZ hown (host := "") (Or.inl (hw _ (List.mem_of_getElem? (i := 10) rfl))) Via.refl e101 F_a (g := (mkF m 5 #[.val (.ref a1), .val (.double d1), .second, .val (.double d2), .second, .unset, .unset] [(.ref a1), (.int (1 : Int32))])) rfl rfl (hb hby d4_5)
  obtain ⟨cl103, Ar103, qa103, Sa103, Na103, Ha103, Ga103⟩ := id V_a
  obtain ⟨T104, X104, e104, st104⟩ := getF X102 hx hZ hown (host := "") (Or.inl (hw _ (List.mem_of_getElem? (i := 10) rfl))) Via.refl e102 F_a (g := (mkF m 17 #[.val (.ref a1), .val (.double d1), .second, .val (.double d2), .second, .unset, .unset] [(.ref a1)])) rfl rfl (hb hby d4_17)
  obtain ⟨cl105, Ar105, qa105, Sa105, Na105, Ha105, Ga105⟩ := id V_a
  obtain ⟨T106, X106, e106, st106⟩ := getF X104 hx hZ hown (host := "") (Or.inl (hw _ (List.mem_of_getElem? (i := 23) rfl))) Via.refl e104 F_c (g := (mkF m 24 #[.val (.ref a1), .val (.double d1), .second, .val (.double d2), .second, .val (.int (8 : Int32)), .unset] [(.ref a1)])) rfl rfl (hb hby d4_24)
  obtain ⟨T107, X107, e107, st107⟩ := getF X106 hx hZ hown (host := "") (Or.inl (hw _ (List.mem_of_getElem? (i := 25) rfl))) Via.refl e106 F_h (g := (mkF m 30 #[.val (.ref a1), .val (.double d1), .second, .val (.double d2), .second, .val (.int (8 : Int32)), .unset] [(.ref a1), (.int (8 : Int32)), (.int (1 : Int32))])) rfl rfl (hb hby d4_30)
  obtain ⟨T108, X108, e108, st108⟩ := getF X107 hx hZ hown (host := "") (Or.inl (hw _ (List.mem_of_getElem? (i := 25) rfl))) Via.refl e107 F_h (g := (mkF m 50 #[.val (.ref a1), .val (.double d1), .second, .val (.double d2), .second, .val (.int (8 : Int32)), .unset] [(.ref a1)])) rfl rfl (hb hby d4_50)
  obtain ⟨T109, X109, e109, st109⟩ := getF X108 hx hZ hown (host := "") (Or.inl (hw _ (List.mem_of_getElem? (i := 23) rfl))) Via.refl e108 F_c (g := (mkF m 56 #[.val (.ref a1), .val (.double d1), .second, .val (.double d2), .second, .val (.int (8 : Int32)), .unset] [(.ref a1), (.int (8 : Int32)), (.int (7 : Int32))])) rfl rfl (hb hby d4_56)
  obtain ⟨T110, X110, e110, st110⟩ := getF X109 hx hZ hown (host := "") (Or.inl (hw _ (List.mem_of_getElem? (i := 10) rfl))) Via.refl e109 F_a (g := (mkF m 64 #[.val (.ref a1), .val (.double d1), .second, .val (.double d2), .second, .val (.int (8 : Int32)), .val (.int (0 : Int32))] [(.ref a1)])) rfl rfl (hb hby d4_64)
  obtain ⟨cl111, Ar111, qa111, Sa111, Na111, Ha111, Ga111⟩ := id V_a
  have hin111 : ¬ ((0 : Int32) < 0 ∨ cl111.slots.size ≤ ((0 : Int32)).toNatClampNeg) := inb_of Sa111 ⟨by decide, by decide⟩
  obtain ⟨T111, h111, X111, e111, W111, st111⟩ := stD X110 hx hZ e110 Ar111 (j := (0 : Int32)) hin111 (g := (mkF m 70 #[.val (.ref a1), .val (.double d1), .second, .val (.double d2), .second, .val (.int (8 : Int32)), .val (.int (0 : Int32))] [(.double d1), (.int (0 : Int32)), (.ref b1)])) rfl rfl (hb hby d4_70)
  have V_b1_111 := Arv.set Ar111 qa111 Sa111 Na111 Ha111 Ga111 rfl W111 0 rfl (Nat.le_of_ble_eq_true rfl)
  have V111 : Arv Z h111 b1 k1 .double (8 : Int32) [(.double d1), (.double x1), (.double x2), (.double x3), (.double x4), (.double x5), (.double x6), (.double x7)] (.double (0 : UInt64)) := V_b1_111
  have K111 : Keep h0 h111 [a1, b1, b2] := K0.wr W111 (Or.inl (List.mem_of_getElem? (i := 1) rfl))
  have N111 := Fr.snoc X111 N0 g_b1
  refine Gl.pre (S' := T111.setTop (mkF m 71 #[.val (.ref a1), .val (.double d1), .second, .val (.double d2), .second, .val (.int (8 : Int32)), .val (.int (0 : Int32))] [])) (fun t kt => ?_) ?_
  · show Steps p.tables e below (s₁.setTop (mkF m 0 #[.val (.ref a1), .val (.double d1), .second, .val (.double d2), .second, .unset, .unset] [])) _
    refine XS.aloadN X0.here hx rfl (hb hby d4_0) rfl rfl ?_
    show Steps p.tables e below (s₁.setTop (mkF m 1 #[.val (.ref a1), .val (.double d1), .second, .val (.double d2), .second, .unset, .unset] [(.ref a1)])) _
    refine st101 _ ?_
    show Steps p.tables e below (T101.setTop (mkF m 4 #[.val (.ref a1), .val (.double d1), .second, .val (.double d2), .second, .unset, .unset] [(.int (1 : Int32))])) _
    refine XS.aloadN X101.here hx rfl (hb hby d4_4) rfl rfl ?_
    show Steps p.tables e below (T101.setTop (mkF m 5 #[.val (.ref a1), .val (.double d1), .second, .val (.double d2), .second, .unset, .unset] [(.ref a1), (.int (1 : Int32))])) _
    refine st102 _ ?_
    show Steps p.tables e below (T102.setTop (mkF m 8 #[.val (.ref a1), .val (.double d1), .second, .val (.double d2), .second, .unset, .unset] [(.ref b1), (.int (1 : Int32))])) _
    refine X102.arraylength hx (own_hc e102 Ar103.1) (State.isArrayOf_alike hZ.alike Ar103.2.1) (g := (mkF m 8 #[.val (.ref a1), .val (.double d1), .second, .val (.double d2), .second, .unset, .unset] [(.ref b1), (.int (1 : Int32))])) rfl rfl (hb hby d4_8) _ ?_
    rw [len_of Sa103 Na103]
    show Steps p.tables e below (T102.setTop (mkF m 9 #[.val (.ref a1), .val (.double d1), .second, .val (.double d2), .second, .unset, .unset] [(.int (8 : Int32)), (.int (1 : Int32))])) _
    refine XS.icmpYes X102.here hx rfl (pc0 := 9) (pc' := 16) rfl (hb hby d4_9) rfl (own_nt (ic_ne _ _) (by decide)) (by decide) (by decide) ?_
    show Steps p.tables e below (T102.setTop (mkF m 16 #[.val (.ref a1), .val (.double d1), .second, .val (.double d2), .second, .unset, .unset] [])) _
    refine XS.aloadN X102.here hx rfl (hb hby d4_16) rfl rfl ?_
    show Steps p.tables e below (T102.setTop (mkF m 17 #[.val (.ref a1), .val (.double d1), .second, .val (.double d2), .second, .unset, .unset] [(.ref a1)])) _
    refine st104 _ ?_
    show Steps p.tables e below (T104.setTop (mkF m 20 #[.val (.ref a1), .val (.double d1), .second, .val (.double d2), .second, .unset, .unset] [(.ref b1)])) _
    refine X104.arraylength hx (own_hc e104 Ar105.1) (State.isArrayOf_alike hZ.alike Ar105.2.1) (g := (mkF m 20 #[.val (.ref a1), .val (.double d1), .second, .val (.double d2), .second, .unset, .unset] [(.ref b1)])) rfl rfl (hb hby d4_20) _ ?_
    rw [len_of Sa105 Na105]
    show Steps p.tables e below (T104.setTop (mkF m 21 #[.val (.ref a1), .val (.double d1), .second, .val (.double d2), .second, .unset, .unset] [(.int (8 : Int32))])) _
    refine XS.istore X104.here hx rfl (hb hby d4_21) rfl (l' := #[.val (.ref a1), .val (.double d1), .second, .val (.double d2), .second, .val (.int (8 : Int32)), .unset]) rfl ?_
    show Steps p.tables e below (T104.setTop (mkF m 23 #[.val (.ref a1), .val (.double d1), .second, .val (.double d2), .second, .val (.int (8 : Int32)), .unset] [])) _
    refine XS.aloadN X104.here hx rfl (hb hby d4_23) rfl rfl ?_
    show Steps p.tables e below (T104.setTop (mkF m 24 #[.val (.ref a1), .val (.double d1), .second, .val (.double d2), .second, .val (.int (8 : Int32)), .unset] [(.ref a1)])) _
    refine st106 _ ?_
    show Steps p.tables e below (T106.setTop (mkF m 27 #[.val (.ref a1), .val (.double d1), .second, .val (.double d2), .second, .val (.int (8 : Int32)), .unset] [(.int (1 : Int32))])) _
    refine XS.iload X106.here hx rfl (hb hby d4_27) rfl ?_
    show Steps p.tables e below (T106.setTop (mkF m 29 #[.val (.ref a1), .val (.double d1), .second, .val (.double d2), .second, .val (.int (8 : Int32)), .unset] [(.int (8 : Int32)), (.int (1 : Int32))])) _
    refine XS.aloadN X106.here hx rfl (hb hby d4_29) rfl rfl ?_
    show Steps p.tables e below (T106.setTop (mkF m 30 #[.val (.ref a1), .val (.double d1), .second, .val (.double d2), .second, .val (.int (8 : Int32)), .unset] [(.ref a1), (.int (8 : Int32)), (.int (1 : Int32))])) _
    refine st107 _ ?_
    show Steps p.tables e below (T107.setTop (mkF m 33 #[.val (.ref a1), .val (.double d1), .second, .val (.double d2), .second, .val (.int (8 : Int32)), .unset] [(.int (7 : Int32)), (.int (8 : Int32)), (.int (1 : Int32))])) _
    refine XS.isub X107.here hx rfl (hb hby d4_33) rfl ?_
    show Steps p.tables e below (T107.setTop (mkF m 34 #[.val (.ref a1), .val (.double d1), .second, .val (.double d2), .second, .val (.int (8 : Int32)), .unset] [(.int (1 : Int32)), (.int (1 : Int32))])) _
    refine XS.icmpYes X107.here hx rfl (pc0 := 34) (pc' := 49) rfl (hb hby d4_34) rfl (own_nt (ic_ge _ _) (by decide)) (by decide) (by decide) ?_
    show Steps p.tables e below (T107.setTop (mkF m 49 #[.val (.ref a1), .val (.double d1), .second, .val (.double d2), .second, .val (.int (8 : Int32)), .unset] [])) _
    refine XS.aloadN X107.here hx rfl (hb hby d4_49) rfl rfl ?_
    show Steps p.tables e below (T107.setTop (mkF m 50 #[.val (.ref a1), .val (.double d1), .second, .val (.double d2), .second, .val (.int (8 : Int32)), .unset] [(.ref a1)])) _
    refine st108 _ ?_
    show Steps p.tables e below (T108.setTop (mkF m 53 #[.val (.ref a1), .val (.double d1), .second, .val (.double d2), .second, .val (.int (8 : Int32)), .unset] [(.int (7 : Int32))])) _
    refine XS.iload X108.here hx rfl (hb hby d4_53) rfl ?_
    show Steps p.tables e below (T108.setTop (mkF m 55 #[.val (.ref a1), .val (.double d1), .second, .val (.double d2), .second, .val (.int (8 : Int32)), .unset] [(.int (8 : Int32)), (.int (7 : Int32))])) _
    refine XS.aloadN X108.here hx rfl (hb hby d4_55) rfl rfl ?_
    show Steps p.tables e below (T108.setTop (mkF m 56 #[.val (.ref a1), .val (.double d1), .second, .val (.double d2), .second, .val (.int (8 : Int32)), .unset] [(.ref a1), (.int (8 : Int32)), (.int (7 : Int32))])) _
    refine st109 _ ?_
    show Steps p.tables e below (T109.setTop (mkF m 59 #[.val (.ref a1), .val (.double d1), .second, .val (.double d2), .second, .val (.int (8 : Int32)), .unset] [(.int (1 : Int32)), (.int (8 : Int32)), (.int (7 : Int32))])) _
    refine XS.isub X109.here hx rfl (hb hby d4_59) rfl ?_
    show Steps p.tables e below (T109.setTop (mkF m 60 #[.val (.ref a1), .val (.double d1), .second, .val (.double d2), .second, .val (.int (8 : Int32)), .unset] [(.int ((8 : Int32) - (1 : Int32))), (.int (7 : Int32))])) _
    refine XS.isub X109.here hx rfl (hb hby d4_60) rfl ?_
    show Steps p.tables e below (T109.setTop (mkF m 61 #[.val (.ref a1), .val (.double d1), .second, .val (.double d2), .second, .val (.int (8 : Int32)), .unset] [(.int (0 : Int32))])) _
    refine XS.istore X109.here hx rfl (hb hby d4_61) rfl (l' := #[.val (.ref a1), .val (.double d1), .second, .val (.double d2), .second, .val (.int (8 : Int32)), .val (.int (0 : Int32))]) rfl ?_
    show Steps p.tables e below (T109.setTop (mkF m 63 #[.val (.ref a1), .val (.double d1), .second, .val (.double d2), .second, .val (.int (8 : Int32)), .val (.int (0 : Int32))] [])) _
    refine XS.aloadN X109.here hx rfl (hb hby d4_63) rfl rfl ?_
    show Steps p.tables e below (T109.setTop (mkF m 64 #[.val (.ref a1), .val (.double d1), .second, .val (.double d2), .second, .val (.int (8 : Int32)), .val (.int (0 : Int32))] [(.ref a1)])) _
    refine st110 _ ?_
    show Steps p.tables e below (T110.setTop (mkF m 67 #[.val (.ref a1), .val (.double d1), .second, .val (.double d2), .second, .val (.int (8 : Int32)), .val (.int (0 : Int32))] [(.ref b1)])) _
    refine XS.iload X110.here hx rfl (hb hby d4_67) rfl ?_
    show Steps p.tables e below (T110.setTop (mkF m 69 #[.val (.ref a1), .val (.double d1), .second, .val (.double d2), .second, .val (.int (8 : Int32)), .val (.int (0 : Int32))] [(.int (0 : Int32)), (.ref b1)])) _
    refine XS.dloadN X110.here hx rfl (hb hby d4_69) rfl ?_
    show Steps p.tables e below (T110.setTop (mkF m 70 #[.val (.ref a1), .val (.double d1), .second, .val (.double d2), .second, .val (.int (8 : Int32)), .val (.int (0 : Int32))] [(.double d1), (.int (0 : Int32)), (.ref b1)])) _
    refine st111 _ ?_
    exact kt
  have f112 := (F_s.other W111 (Or.inl ne1))
  obtain ⟨T113, X113, e113, st113⟩ := getF X111 hx hZ hown (host := "") (Or.inl (hw _ (List.mem_of_getElem? (i := 12) rfl))) Via.refl e111 f112 (g := (mkF m 72 #[.val (.ref a1), .val (.double d1), .second, .val (.double d2), .second, .val (.int (8 : Int32)), .val (.int (0 : Int32))] [(.ref a1)])) rfl rfl (hb hby d4_72)
  have f115 := (V_s.other W111 (Ne.symm ne3))
  obtain ⟨cl114, Ar114, qa114, Sa114, Na114, Ha114, Ga114⟩ := id f115
  have hin114 : ¬ ((0 : Int32) < 0 ∨ cl114.slots.size ≤ ((0 : Int32)).toNatClampNeg) := inb_of Sa114 ⟨by decide, by decide⟩
  obtain ⟨T114, h114, X114, e114, W114, st114⟩ := stD X113 hx hZ e113 Ar114 (j := (0 : Int32)) hin114 (g := (mkF m 78 #[.val (.ref a1), .val (.double d1), .second, .val (.double d2), .second, .val (.int (8 : Int32)), .val (.int (0 : Int32))] [(.double d2), (.int (0 : Int32)), (.ref b2)])) rfl rfl (hb hby d4_78)
  have V_b2_114 := Arv.set Ar114 qa114 Sa114 Na114 Ha114 Ga114 rfl W114 0 rfl (Nat.le_of_ble_eq_true rfl)
  have V114 : Arv Z h114 b2 k2 .double (8 : Int32) [(.double d2), (.double y1), (.double y2), (.double y3), (.double y4), (.double y5), (.double y6), (.double y7)] (.double (0 : UInt64)) := V_b2_114
  have K114 : Keep h0 h114 [a1, b1, b2] := K111.wr W114 (Or.inl (List.mem_of_getElem? (i := 2) rfl))
  have N114 := Fr.snoc X114 N111 g_b2
  have f116 := ((F_c.other W111 (Or.inl ne1)).other W114 (Or.inl ne2))
  obtain ⟨T117, X117, e117, st117⟩ := getF X114 hx hZ hown (host := "") (Or.inl (hw _ (List.mem_of_getElem? (i := 23) rfl))) Via.refl e114 f116 (g := (mkF m 81 #[.val (.ref a1), .val (.double d1), .second, .val (.double d2), .second, .val (.int (8 : Int32)), .val (.int (0 : Int32))] [(.ref a1), (.ref a1)])) rfl rfl (hb hby d4_81)
  have f118 := ((E_a.wr W111).wr W114)
  obtain ⟨T119, h119, X119, e119, W119, st119⟩ := putF X117 hx hZ hown (host := "") (Or.inl (hw _ (List.mem_of_getElem? (i := 23) rfl))) Via.refl e117 f116 f118 (Or.inl (hw _ (List.mem_of_getElem? (i := 24) rfl))) (hw _ (List.mem_of_getElem? (i := 1) rfl)) (ty := .int) (by decide) rfl rfl (g := (mkF m 86 #[.val (.ref a1), .val (.double d1), .second, .val (.double d2), .second, .val (.int (8 : Int32)), .val (.int (0 : Int32))] [(.int (2 : Int32)), (.ref a1)])) rfl rfl (hb hby d4_86)
  have Fw119 := f116.same W119
  have K119 : Keep h0 h119 [a1, b1, b2] := K114.wr W119 (Or.inl (List.mem_of_getElem? (i := 0) rfl))
  have N119 := Fr.snoc X119 N114 g_a1
  have f120 := (f118.wr W119)
  have f121 := (((F_a.other W111 (Or.inl ne1)).other W114 (Or.inl ne2)).other W119 (Or.inr (slot_ne (Or.inl (hw _ (List.mem_of_getElem? (i := 11) rfl))) (Or.inl (hw _ (List.mem_of_getElem? (i := 24) rfl))) (by decide) (t := (.array .double)) (t' := .int) (by decide) (by decide))))
  have f122 := ((f112.other W114 (Or.inl ne2)).other W119 (Or.inr (slot_ne (Or.inl (hw _ (List.mem_of_getElem? (i := 13) rfl))) (Or.inl (hw _ (List.mem_of_getElem? (i := 24) rfl))) (by decide) (t := (.array .double)) (t' := .int) (by decide) (by decide))))
  have f123 := (((F_h.other W111 (Or.inl ne1)).other W114 (Or.inl ne2)).other W119 (Or.inr (slot_ne (Or.inl (hw _ (List.mem_of_getElem? (i := 26) rfl))) (Or.inl (hw _ (List.mem_of_getElem? (i := 24) rfl))) (by decide) (t := .int) (t' := .int) (by decide) (by decide))))
  have f124 := ((V111.other W114 ne3).other W119 (Ne.symm ne1))
  have f125 := (V114.other W119 (Ne.symm ne2))
  refine Gl.fin X119 (v := none) (fun _ => rfl) Bd.notSynchronized ?_ e119 (by decide) (by decide) (fun fs hr => ?_)
  · exact ⟨rfl, N119, K119, f120, f121, f122, Fw119, f123, f124, f125⟩
  · show Steps p.tables e below (T111.setTop (mkF m 71 #[.val (.ref a1), .val (.double d1), .second, .val (.double d2), .second, .val (.int (8 : Int32)), .val (.int (0 : Int32))] [])) _
    refine XS.aloadN X111.here hx rfl (hb hby d4_71) rfl rfl ?_
    show Steps p.tables e below (T111.setTop (mkF m 72 #[.val (.ref a1), .val (.double d1), .second, .val (.double d2), .second, .val (.int (8 : Int32)), .val (.int (0 : Int32))] [(.ref a1)])) _
    refine st113 _ ?_
    show Steps p.tables e below (T113.setTop (mkF m 75 #[.val (.ref a1), .val (.double d1), .second, .val (.double d2), .second, .val (.int (8 : Int32)), .val (.int (0 : Int32))] [(.ref b2)])) _
    refine XS.iload X113.here hx rfl (hb hby d4_75) rfl ?_
    show Steps p.tables e below (T113.setTop (mkF m 77 #[.val (.ref a1), .val (.double d1), .second, .val (.double d2), .second, .val (.int (8 : Int32)), .val (.int (0 : Int32))] [(.int (0 : Int32)), (.ref b2)])) _
    refine XS.dloadN X113.here hx rfl (hb hby d4_77) rfl ?_
    show Steps p.tables e below (T113.setTop (mkF m 78 #[.val (.ref a1), .val (.double d1), .second, .val (.double d2), .second, .val (.int (8 : Int32)), .val (.int (0 : Int32))] [(.double d2), (.int (0 : Int32)), (.ref b2)])) _
    refine st114 _ ?_
    show Steps p.tables e below (T114.setTop (mkF m 79 #[.val (.ref a1), .val (.double d1), .second, .val (.double d2), .second, .val (.int (8 : Int32)), .val (.int (0 : Int32))] [])) _
    refine XS.aloadN X114.here hx rfl (hb hby d4_79) rfl rfl ?_
    show Steps p.tables e below (T114.setTop (mkF m 80 #[.val (.ref a1), .val (.double d1), .second, .val (.double d2), .second, .val (.int (8 : Int32)), .val (.int (0 : Int32))] [(.ref a1)])) _
    refine XS.dup X114.here hx rfl (hb hby d4_80) rfl rfl ?_
    show Steps p.tables e below (T114.setTop (mkF m 81 #[.val (.ref a1), .val (.double d1), .second, .val (.double d2), .second, .val (.int (8 : Int32)), .val (.int (0 : Int32))] [(.ref a1), (.ref a1)])) _
    refine st117 _ ?_
    show Steps p.tables e below (T117.setTop (mkF m 84 #[.val (.ref a1), .val (.double d1), .second, .val (.double d2), .second, .val (.int (8 : Int32)), .val (.int (0 : Int32))] [(.int (1 : Int32)), (.ref a1)])) _
    refine XS.iconst X117.here hx rfl (hb hby d4_84) ?_
    show Steps p.tables e below (T117.setTop (mkF m 85 #[.val (.ref a1), .val (.double d1), .second, .val (.double d2), .second, .val (.int (8 : Int32)), .val (.int (0 : Int32))] [(.int (1 : Int32)), (.int (1 : Int32)), (.ref a1)])) _
    refine XS.iadd X117.here hx rfl (hb hby d4_85) rfl ?_
    show Steps p.tables e below (T117.setTop (mkF m 86 #[.val (.ref a1), .val (.double d1), .second, .val (.double d2), .second, .val (.int (8 : Int32)), .val (.int (0 : Int32))] [(.int (2 : Int32)), (.ref a1)])) _
    refine st119 _ ?_
    show Steps p.tables e below (T119.setTop (mkF m 89 #[.val (.ref a1), .val (.double d1), .second, .val (.double d2), .second, .val (.int (8 : Int32)), .val (.int (0 : Int32))] [])) _
    exact X119.returnOut hx Bd.returns (hb hby d4_89) hr
theorem ef_rm3_7_1 (m : MethodId) (x0 : Addr) (x1 : Int32) (x2 : Int32) (x3 : Int32) : entryFrame m #[(.ref x0), (.int x1), (.int x2), (.int x3)] 4 = mkF m 0 #[.val (.ref x0), .val (.int x1), .val (.int x2), .val (.int x3)] [] := by first | (simp [entryFrame, mkF, argsToLocals, Value.category]; done) | rfl
def Q3_7_1 (Z : State) (a1 : Addr) (p1 : Int32) (p2 : Int32) (p3 : Int32) (b1 : Addr) (b2 : Addr) (k1 : ClassId) (k2 : ClassId) (x0 : UInt64) (x1 : UInt64) (x2 : UInt64) (x3 : UInt64) (x4 : UInt64) (x5 : UInt64) (x6 : UInt64) (x7 : UInt64) (y0 : UInt64) (y1 : UInt64) (y2 : UInt64) (y3 : UInt64) (y4 : UInt64) (y5 : UInt64) (y6 : UInt64) (y7 : UInt64) (h0 : Heap) (n0 : Nat) (v : Option Value) (h : Heap) (L : List Loc) : Prop := v = none ∧ Fr n0 L ∧ Keep h0 h [a1, b1, b2] ∧ Exa Z h a1 "com/example/tenrec/tenrec/pool/RequestQueue" ∧ Fld Z h a1 "com/example/tenrec/tenrec/pool/RequestQueue" "arrivals" "[D" (.ref b1) ∧ Fld Z h a1 "com/example/tenrec/tenrec/pool/RequestQueue" "sizes" "[D" (.ref b2) ∧ Fld Z h a1 "com/example/tenrec/tenrec/pool/RequestQueue" "count" "I" (.int (2 : Int32)) ∧ Fld Z h a1 "com/example/tenrec/tenrec/pool/RequestQueue" "head" "I" (.int (7 : Int32)) ∧ Arv Z h b1 k1 .double (8 : Int32) [(.double (FP.i2d (p1 + p3))), (.double x1), (.double x2), (.double x3), (.double x4), (.double x5), (.double x6), (.double x7)] (.double (0 : UInt64)) ∧ Arv Z h b2 k2 .double (8 : Int32) [(.double (FP.i2d (p2 - p3))), (.double y1), (.double y2), (.double y3), (.double y4), (.double y5), (.double y6), (.double y7)] (.double (0 : UInt64))
set_option maxRecDepth 65536 in
set_option maxHeartbeats 40000000 in
theorem rm3_7_1 (l : Launch) (Z : State) (a0 : Array Value) (hw : ∀ d ∈ tables_1, d.before a0 Z = true) (ws : List Jvm.Cond) (a1 : Addr) (p1 : Int32) (p2 : Int32) (p3 : Int32) (b1 : Addr) (b2 : Addr) (k1 : ClassId) (k2 : ClassId) (x0 : UInt64) (x1 : UInt64) (x2 : UInt64) (x3 : UInt64) (x4 : UInt64) (x5 : UInt64) (x6 : UInt64) (x7 : UInt64) (y0 : UInt64) (y1 : UInt64) (y2 : UInt64) (y3 : UInt64) (y4 : UInt64) (y5 : UInt64) (y6 : UInt64) (y7 : UInt64) (h0 : Heap) (n0 : Nat) (Z0 : n0 ≤ h0.size) (g_a1 : n0 ≤ a1) (g_b1 : n0 ≤ b1) (g_b2 : n0 ≤ b2) (ne1 : a1 ≠ b1) (ne2 : a1 ≠ b2) (ne3 : b1 ≠ b2) (E_a : Exa Z h0 a1 "com/example/tenrec/tenrec/pool/RequestQueue") (F_a : Fld Z h0 a1 "com/example/tenrec/tenrec/pool/RequestQueue" "arrivals" "[D" (.ref b1)) (F_s : Fld Z h0 a1 "com/example/tenrec/tenrec/pool/RequestQueue" "sizes" "[D" (.ref b2)) (F_c : Fld Z h0 a1 "com/example/tenrec/tenrec/pool/RequestQueue" "count" "I" (.int (1 : Int32))) (F_h : Fld Z h0 a1 "com/example/tenrec/tenrec/pool/RequestQueue" "head" "I" (.int (7 : Int32))) (V_a : Arv Z h0 b1 k1 .double (8 : Int32) [(.double x0), (.double x1), (.double x2), (.double x3), (.double x4), (.double x5), (.double x6), (.double x7)] (.double (0 : UInt64))) (V_s : Arv Z h0 b2 k2 .double (8 : Int32) [(.double y0), (.double y1), (.double y2), (.double y3), (.double y4), (.double y5), (.double y6), (.double y7)] (.double (0 : UInt64))) :
    OMet l Z (⟨"com/example/tenrec/tenrec/pool/RequestQueueRemoveFirstPinLaw", "put", "(Lcom/example/tenrec/tenrec/pool/RequestQueue;III)V"⟩ : MethodName) method_2_code 4 none ws ({ frames := 1, cells := 0, slots := 0, locals := 18 } : Room) #[(.ref a1), (.int p1), (.int p2), (.int p3)] h0 (Q3_7_1 Z a1 p1 p2 p3 b1 b2 k1 k2 x0 x1 x2 x3 x4 x5 x6 x7 y0 y1 y2 y3 y4 y5 y6 y7 h0 n0) := by
  refine own_body (plainFor_of_name pn_com_example_tenrec_tenrec_pool_RequestQueueRemoveFirstPinLaw) ?_
  intro p e s m below meth c s₁ Bd hml0 hZ e0
  have hx := Bd.exec
  have hby := Bd.bytes
  have hml : c.maxLocals = 4 := hml0
  have hown : s.vm.findClass "com/example/tenrec/tenrec/pool/RequestQueueRemoveFirstPinLaw" = some m.cls := findClass_of_methodNamed Bd.named
  have hnm := (name_of_methodNamed Bd.named Bd.method).1
  have X0 : Stand p l e ({ frames := 1, cells := 0, slots := 0, locals := 18 } : Room) s m #[(.ref a1), (.int p1), (.int p2), (.int p3)] below meth c s₁ [] 0 0 := Stand.of_body Bd
  have N0 := Fr.nil n0
  have K0 : Keep h0 h0 [a1, b1, b2] := Keep.refl _ _
  rw [ef_rm3_7_1]
  obtain ⟨v101, T101, L101, X101, q101, st101⟩ := own_callV X0 hx hZ (y := (⟨"com/example/tenrec/tenrec/pool/RequestQueue", "add", "(DD)V"⟩ : MethodName)) (z := (⟨"com/example/tenrec/tenrec/pool/RequestQueue", "add", "(DD)V"⟩ : MethodName)) hown (hw _ (List.mem_of_getElem? (i := 18) rfl)) (hw _ (List.mem_of_getElem? (i := 19) rfl)) (notFace_of_selects (args := #[]) (mvT hZ (hw _ (List.mem_of_getElem? (i := 21) rfl)))) (hw _ (List.mem_of_getElem? (i := 21) rfl)) (hw _ (List.mem_of_getElem? (i := 20) rfl)) (hw _ (List.mem_of_getElem? (i := 2) rfl)) (hw _ (List.mem_of_getElem? (i := 22) rfl)) (by decide) E_a (hM := (rm4_7_1 l Z a0 hw [] a1 (FP.i2d (p1 + p3)) (FP.i2d (p2 - p3)) b1 b2 k1 k2 x0 x1 x2 x3 x4 x5 x6 x7 y0 y1 y2 y3 y4 y5 y6 y7 h0 n0 Z0 g_a1 g_b1 g_b2 ne1 ne2 ne3 E_a F_a F_s F_c F_h V_a V_s)) (by decide) (by decide) (by decide) (by decide) e0 (argsL := [(.double (FP.i2d (p1 + p3))), (.double (FP.i2d (p2 - p3)))]) (rest := []) (Ls := #[.val (.ref a1), .val (.int p1), .val (.int p2), .val (.int p3)]) (by rw [hml]; rfl) (lenOf pd__DD_V rfl) (W := 0) (Nat.le_of_eq rfl) (hb hby d3_9)
  obtain ⟨rfl, N101q, K101q, E101q, FA101q, FS101q, FC101q, FH101q, VA101q, VS101q⟩ := q101
  have N101 := Fr.app N0 N101q
  have K101 : Keep h0 T101.heap [a1, b1, b2] := K0.trans K101q (allS (Or.inl (List.mem_of_getElem? (i := 0) rfl)) (allS (Or.inl (List.mem_of_getElem? (i := 1) rfl)) (allS (Or.inl (List.mem_of_getElem? (i := 2) rfl)) all0)))
  refine Gl.fin X101 (v := none) (fun _ => rfl) Bd.notSynchronized ?_ rfl (by decide) (by decide) (fun fs hr => ?_)
  · exact ⟨rfl, N101, K101, E101q, FA101q, FS101q, FC101q, FH101q, VA101q, VS101q⟩
  · show Steps p.tables e below (s₁.setTop (mkF m 0 #[.val (.ref a1), .val (.int p1), .val (.int p2), .val (.int p3)] [])) _
    refine XS.aloadN X0.here hx rfl (hb hby d3_0) rfl rfl ?_
    show Steps p.tables e below (s₁.setTop (mkF m 1 #[.val (.ref a1), .val (.int p1), .val (.int p2), .val (.int p3)] [(.ref a1)])) _
    refine XS.iloadN X0.here hx rfl (hb hby d3_1) rfl ?_
    show Steps p.tables e below (s₁.setTop (mkF m 2 #[.val (.ref a1), .val (.int p1), .val (.int p2), .val (.int p3)] [(.int p1), (.ref a1)])) _
    refine XS.iloadN X0.here hx rfl (hb hby d3_2) rfl ?_
    show Steps p.tables e below (s₁.setTop (mkF m 3 #[.val (.ref a1), .val (.int p1), .val (.int p2), .val (.int p3)] [(.int p3), (.int p1), (.ref a1)])) _
    refine XS.iadd X0.here hx rfl (hb hby d3_3) rfl ?_
    show Steps p.tables e below (s₁.setTop (mkF m 4 #[.val (.ref a1), .val (.int p1), .val (.int p2), .val (.int p3)] [(.int (p1 + p3)), (.ref a1)])) _
    refine XS.i2dS X0.here hx rfl (hb hby d3_4) rfl rfl ?_
    show Steps p.tables e below (s₁.setTop (mkF m 5 #[.val (.ref a1), .val (.int p1), .val (.int p2), .val (.int p3)] [(.double (FP.i2d (p1 + p3))), (.ref a1)])) _
    refine XS.iloadN X0.here hx rfl (hb hby d3_5) rfl ?_
    show Steps p.tables e below (s₁.setTop (mkF m 6 #[.val (.ref a1), .val (.int p1), .val (.int p2), .val (.int p3)] [(.int p2), (.double (FP.i2d (p1 + p3))), (.ref a1)])) _
    refine XS.iloadN X0.here hx rfl (hb hby d3_6) rfl ?_
    show Steps p.tables e below (s₁.setTop (mkF m 7 #[.val (.ref a1), .val (.int p1), .val (.int p2), .val (.int p3)] [(.int p3), (.int p2), (.double (FP.i2d (p1 + p3))), (.ref a1)])) _
    refine XS.isub X0.here hx rfl (hb hby d3_7) rfl ?_
    show Steps p.tables e below (s₁.setTop (mkF m 8 #[.val (.ref a1), .val (.int p1), .val (.int p2), .val (.int p3)] [(.int (p2 - p3)), (.double (FP.i2d (p1 + p3))), (.ref a1)])) _
    refine XS.i2dS X0.here hx rfl (hb hby d3_8) rfl rfl ?_
    show Steps p.tables e below (s₁.setTop (mkF m 9 #[.val (.ref a1), .val (.int p1), .val (.int p2), .val (.int p3)] [(.double (FP.i2d (p2 - p3))), (.double (FP.i2d (p1 + p3))), (.ref a1)])) _
    refine st101 _ ?_
    show Steps p.tables e below (T101.setTop (mkF m 12 #[.val (.ref a1), .val (.int p1), .val (.int p2), .val (.int p3)] [])) _
    exact X101.returnOut hx Bd.returns (hb hby d3_12) hr
theorem ef_rm5_7_2 (m : MethodId) (x0 : Addr) (x1 : Int32) (x2 : Int32) (x3 : Int32) (x4 : Int32) : entryFrame m #[(.ref x0), (.int x1), (.int x2), (.int x3), (.int x4)] 5 = mkF m 0 #[.val (.ref x0), .val (.int x1), .val (.int x2), .val (.int x3), .val (.int x4)] [] := by first | (simp [entryFrame, mkF, argsToLocals, Value.category]; done) | rfl
def Q5_7_2 (Z : State) (a1 : Addr) (p2 : Int32) (p3 : Int32) (p4 : Int32) (b1 : Addr) (b2 : Addr) (k1 : ClassId) (k2 : ClassId) (x0 : UInt64) (x1 : UInt64) (x2 : UInt64) (x3 : UInt64) (x4 : UInt64) (x5 : UInt64) (x6 : UInt64) (y0 : UInt64) (y1 : UInt64) (y2 : UInt64) (y3 : UInt64) (y4 : UInt64) (y5 : UInt64) (y6 : UInt64) (h0 : Heap) (n0 : Nat) (v : Option Value) (h : Heap) (L : List Loc) : Prop := v = some (.int 1) ∧ Fr n0 L ∧ h = h0
set_option maxRecDepth 65536 in
set_option maxHeartbeats 40000000 in
theorem rm5_7_2 (l : Launch) (Z : State) (a0 : Array Value) (hw : ∀ d ∈ tables_1, d.before a0 Z = true) (ws : List Jvm.Cond) (a1 : Addr) (p2 : Int32) (p3 : Int32) (p4 : Int32) (b1 : Addr) (b2 : Addr) (k1 : ClassId) (k2 : ClassId) (x0 : UInt64) (x1 : UInt64) (x2 : UInt64) (x3 : UInt64) (x4 : UInt64) (x5 : UInt64) (x6 : UInt64) (y0 : UInt64) (y1 : UInt64) (y2 : UInt64) (y3 : UInt64) (y4 : UInt64) (y5 : UInt64) (y6 : UInt64) (h0 : Heap) (n0 : Nat) (Z0 : n0 ≤ h0.size) (g_a1 : n0 ≤ a1) (g_b1 : n0 ≤ b1) (g_b2 : n0 ≤ b2) (ne1 : a1 ≠ b1) (ne2 : a1 ≠ b2) (ne3 : b1 ≠ b2) (E_a : Exa Z h0 a1 "com/example/tenrec/tenrec/pool/RequestQueue") (F_a : Fld Z h0 a1 "com/example/tenrec/tenrec/pool/RequestQueue" "arrivals" "[D" (.ref b1)) (F_s : Fld Z h0 a1 "com/example/tenrec/tenrec/pool/RequestQueue" "sizes" "[D" (.ref b2)) (F_c : Fld Z h0 a1 "com/example/tenrec/tenrec/pool/RequestQueue" "count" "I" (.int (2 : Int32))) (F_h : Fld Z h0 a1 "com/example/tenrec/tenrec/pool/RequestQueue" "head" "I" (.int (7 : Int32))) (V_a : Arv Z h0 b1 k1 .double (8 : Int32) [(.double x0), (.double x1), (.double x2), (.double x3), (.double x4), (.double x5), (.double x6), (.double (FP.i2d (p2 + p4)))] (.double (0 : UInt64))) (V_s : Arv Z h0 b2 k2 .double (8 : Int32) [(.double y0), (.double y1), (.double y2), (.double y3), (.double y4), (.double y5), (.double y6), (.double (FP.i2d (p3 - p4)))] (.double (0 : UInt64))) :
    OMet l Z (⟨"com/example/tenrec/tenrec/pool/RequestQueueRemoveFirstPinLaw", "front", "(Lcom/example/tenrec/tenrec/pool/RequestQueue;IIII)Z"⟩ : MethodName) method_3_code 5 (some .boolean) ws ({ frames := 1, cells := 0, slots := 0, locals := 15 } : Room) #[(.ref a1), (.int (2 : Int32)), (.int p2), (.int p3), (.int p4)] h0 (Q5_7_2 Z a1 p2 p3 p4 b1 b2 k1 k2 x0 x1 x2 x3 x4 x5 x6 y0 y1 y2 y3 y4 y5 y6 h0 n0) := by
  refine own_body (plainFor_of_name pn_com_example_tenrec_tenrec_pool_RequestQueueRemoveFirstPinLaw) ?_
  intro p e s m below meth c s₁ Bd hml0 hZ e0
  have hx := Bd.exec
  have hby := Bd.bytes
  have hml : c.maxLocals = 5 := hml0
  have hown : s.vm.findClass "com/example/tenrec/tenrec/pool/RequestQueueRemoveFirstPinLaw" = some m.cls := findClass_of_methodNamed Bd.named
  have hnm := (name_of_methodNamed Bd.named Bd.method).1
  have X0 : Stand p l e ({ frames := 1, cells := 0, slots := 0, locals := 15 } : Room) s m #[(.ref a1), (.int (2 : Int32)), (.int p2), (.int p3), (.int p4)] below meth c s₁ [] 0 0 := Stand.of_body Bd
  have N0 := Fr.nil n0
  have K0 : Keep h0 h0 [] := Keep.refl _ _
  rw [ef_rm5_7_2]
  obtain ⟨v101, T101, L101, X101, q101, st101⟩ := own_callV X0 hx hZ (y := (⟨"com/example/tenrec/tenrec/pool/RequestQueue", "size", "()I"⟩ : MethodName)) (z := (⟨"com/example/tenrec/tenrec/pool/RequestQueue", "size", "()I"⟩ : MethodName)) hown (hw _ (List.mem_of_getElem? (i := 30) rfl)) (hw _ (List.mem_of_getElem? (i := 31) rfl)) (notFace_of_selects (args := #[]) (mvT hZ (hw _ (List.mem_of_getElem? (i := 33) rfl)))) (hw _ (List.mem_of_getElem? (i := 33) rfl)) (hw _ (List.mem_of_getElem? (i := 32) rfl)) (hw _ (List.mem_of_getElem? (i := 2) rfl)) (hw _ (List.mem_of_getElem? (i := 34) rfl)) (by decide) E_a (hM := (rm6 l Z a0 hw [] a1 (2 : Int32) h0 n0 Z0 F_c)) (by decide) (by decide) (by decide) (by decide) e0 (argsL := []) (rest := []) (Ls := #[.val (.ref a1), .val (.int (2 : Int32)), .val (.int p2), .val (.int p3), .val (.int p4)]) (by rw [hml]; rfl) (lenOf pd___I rfl) (W := 0) (Nat.le_of_eq rfl) (hb hby d5_1)
  obtain ⟨rfl, N101q, e101⟩ := q101
  have N101 := Fr.app N0 N101q
  obtain ⟨v102, T102, L102, X102, q102, st102⟩ := own_callV X101 hx hZ (y := (⟨"com/example/tenrec/tenrec/pool/RequestQueue", "isEmpty", "()Z"⟩ : MethodName)) (z := (⟨"com/example/tenrec/tenrec/pool/RequestQueue", "isEmpty", "()Z"⟩ : MethodName)) hown (hw _ (List.mem_of_getElem? (i := 35) rfl)) (hw _ (List.mem_of_getElem? (i := 36) rfl)) (notFace_of_selects (args := #[]) (mvT hZ (hw _ (List.mem_of_getElem? (i := 38) rfl)))) (hw _ (List.mem_of_getElem? (i := 38) rfl)) (hw _ (List.mem_of_getElem? (i := 37) rfl)) (hw _ (List.mem_of_getElem? (i := 2) rfl)) (hw _ (List.mem_of_getElem? (i := 39) rfl)) (by decide) E_a (hM := (rm7 l Z a0 hw [] a1 (2 : Int32) h0 n0 Z0 F_c)) (by decide) (by decide) (by decide) (by decide) e101 (argsL := []) (rest := [(.int (1 : Int32))]) (Ls := #[.val (.ref a1), .val (.int (2 : Int32)), .val (.int p2), .val (.int p3), .val (.int p4)]) (by rw [hml]; rfl) (lenOf pd___Z rfl) (W := 1) (Nat.le_of_eq rfl) (hb hby d5_14)
  obtain ⟨rfl, N102q, e102⟩ := q102
  have N102 := Fr.app N101 N102q
  obtain ⟨v103, T103, L103, X103, q103, st103⟩ := own_callV X102 hx hZ (y := (⟨"com/example/tenrec/tenrec/pool/RequestQueue", "firstArrival", "()D"⟩ : MethodName)) (z := (⟨"com/example/tenrec/tenrec/pool/RequestQueue", "firstArrival", "()D"⟩ : MethodName)) hown (hw _ (List.mem_of_getElem? (i := 40) rfl)) (hw _ (List.mem_of_getElem? (i := 41) rfl)) (notFace_of_selects (args := #[]) (mvT hZ (hw _ (List.mem_of_getElem? (i := 43) rfl)))) (hw _ (List.mem_of_getElem? (i := 43) rfl)) (hw _ (List.mem_of_getElem? (i := 42) rfl)) (hw _ (List.mem_of_getElem? (i := 2) rfl)) (hw _ (List.mem_of_getElem? (i := 44) rfl)) (by decide) E_a (hM := (rm8_7 l Z a0 hw [] a1 b1 k1 x0 x1 x2 x3 x4 x5 x6 (FP.i2d (p2 + p4)) h0 n0 Z0 F_a F_h V_a)) (by decide) (by decide) (by decide) (by decide) e102 (argsL := []) (rest := [(.int (1 : Int32))]) (Ls := #[.val (.ref a1), .val (.int (2 : Int32)), .val (.int p2), .val (.int p3), .val (.int p4)]) (by rw [hml]; rfl) (lenOf pd___D rfl) (W := 1) (Nat.le_of_eq rfl) (hb hby d5_27)
  obtain ⟨rfl, N103q, e103⟩ := q103
  have N103 := Fr.app N102 N103q
  obtain ⟨v104, T104, L104, X104, q104, st104⟩ := own_callV X103 hx hZ (y := (⟨"com/example/tenrec/tenrec/pool/RequestQueue", "firstSize", "()D"⟩ : MethodName)) (z := (⟨"com/example/tenrec/tenrec/pool/RequestQueue", "firstSize", "()D"⟩ : MethodName)) hown (hw _ (List.mem_of_getElem? (i := 45) rfl)) (hw _ (List.mem_of_getElem? (i := 46) rfl)) (notFace_of_selects (args := #[]) (mvT hZ (hw _ (List.mem_of_getElem? (i := 48) rfl)))) (hw _ (List.mem_of_getElem? (i := 48) rfl)) (hw _ (List.mem_of_getElem? (i := 47) rfl)) (hw _ (List.mem_of_getElem? (i := 2) rfl)) (hw _ (List.mem_of_getElem? (i := 49) rfl)) (by decide) E_a (hM := (rm9_7 l Z a0 hw [] a1 b2 k2 y0 y1 y2 y3 y4 y5 y6 (FP.i2d (p3 - p4)) h0 n0 Z0 F_s F_h V_s)) (by decide) (by decide) (by decide) (by decide) e103 (argsL := []) (rest := [(.int (1 : Int32))]) (Ls := #[.val (.ref a1), .val (.int (2 : Int32)), .val (.int p2), .val (.int p3), .val (.int p4)]) (by rw [hml]; rfl) (lenOf pd___D rfl) (W := 1) (Nat.le_of_eq rfl) (hb hby d5_46)
  obtain ⟨rfl, N104q, e104⟩ := q104
  have N104 := Fr.app N103 N104q
  refine Gl.pre (S' := T104.setTop (mkF m 58 #[.val (.ref a1), .val (.int (2 : Int32)), .val (.int p2), .val (.int p3), .val (.int p4)] [(.int (1 : Int32))])) (fun t kt => ?_) ?_
  · show Steps p.tables e below (s₁.setTop (mkF m 0 #[.val (.ref a1), .val (.int (2 : Int32)), .val (.int p2), .val (.int p3), .val (.int p4)] [])) _
    refine XS.aloadN X0.here hx rfl (hb hby d5_0) rfl rfl ?_
    show Steps p.tables e below (s₁.setTop (mkF m 1 #[.val (.ref a1), .val (.int (2 : Int32)), .val (.int p2), .val (.int p3), .val (.int p4)] [(.ref a1)])) _
    refine st101 _ ?_
    show Steps p.tables e below (T101.setTop (mkF m 4 #[.val (.ref a1), .val (.int (2 : Int32)), .val (.int p2), .val (.int p3), .val (.int p4)] [(.int (2 : Int32))])) _
    refine XS.iloadN X101.here hx rfl (hb hby d5_4) rfl ?_
    show Steps p.tables e below (T101.setTop (mkF m 5 #[.val (.ref a1), .val (.int (2 : Int32)), .val (.int p2), .val (.int p3), .val (.int p4)] [(.int (2 : Int32)), (.int (2 : Int32))])) _
    refine XS.icmpNo X101.here hx rfl (hb hby d5_5) rfl (own_nf (ic_ne _ _) (by decide)) ?_
    show Steps p.tables e below (T101.setTop (mkF m 8 #[.val (.ref a1), .val (.int (2 : Int32)), .val (.int p2), .val (.int p3), .val (.int p4)] [])) _
    refine XS.iconst X101.here hx rfl (hb hby d5_8) ?_
    show Steps p.tables e below (T101.setTop (mkF m 9 #[.val (.ref a1), .val (.int (2 : Int32)), .val (.int p2), .val (.int p3), .val (.int p4)] [(.int (1 : Int32))])) _
    refine XS.goto X101.here hx rfl (pc0 := 9) (pc' := 13) rfl (hb hby d5_9) (by decide) (by decide) ?_
    show Steps p.tables e below (T101.setTop (mkF m 13 #[.val (.ref a1), .val (.int (2 : Int32)), .val (.int p2), .val (.int p3), .val (.int p4)] [(.int (1 : Int32))])) _
    refine XS.aloadN X101.here hx rfl (hb hby d5_13) rfl rfl ?_
    show Steps p.tables e below (T101.setTop (mkF m 14 #[.val (.ref a1), .val (.int (2 : Int32)), .val (.int p2), .val (.int p3), .val (.int p4)] [(.ref a1), (.int (1 : Int32))])) _
    refine st102 _ ?_
    show Steps p.tables e below (T102.setTop (mkF m 17 #[.val (.ref a1), .val (.int (2 : Int32)), .val (.int p2), .val (.int p3), .val (.int p4)] [(.int (0 : Int32)), (.int (1 : Int32))])) _
    refine XS.ifNo X102.here hx rfl (hb hby d5_17) rfl (own_nf (i0_ne _) (by decide)) ?_
    show Steps p.tables e below (T102.setTop (mkF m 20 #[.val (.ref a1), .val (.int (2 : Int32)), .val (.int p2), .val (.int p3), .val (.int p4)] [(.int (1 : Int32))])) _
    refine XS.iconst X102.here hx rfl (hb hby d5_20) ?_
    show Steps p.tables e below (T102.setTop (mkF m 21 #[.val (.ref a1), .val (.int (2 : Int32)), .val (.int p2), .val (.int p3), .val (.int p4)] [(.int (1 : Int32)), (.int (1 : Int32))])) _
    refine XS.goto X102.here hx rfl (pc0 := 21) (pc' := 25) rfl (hb hby d5_21) (by decide) (by decide) ?_
    show Steps p.tables e below (T102.setTop (mkF m 25 #[.val (.ref a1), .val (.int (2 : Int32)), .val (.int p2), .val (.int p3), .val (.int p4)] [(.int (1 : Int32)), (.int (1 : Int32))])) _
    refine XS.iand X102.here hx rfl (hb hby d5_25) rfl ?_
    show Steps p.tables e below (T102.setTop (mkF m 26 #[.val (.ref a1), .val (.int (2 : Int32)), .val (.int p2), .val (.int p3), .val (.int p4)] [(.int (1 : Int32))])) _
    refine XS.aloadN X102.here hx rfl (hb hby d5_26) rfl rfl ?_
    show Steps p.tables e below (T102.setTop (mkF m 27 #[.val (.ref a1), .val (.int (2 : Int32)), .val (.int p2), .val (.int p3), .val (.int p4)] [(.ref a1), (.int (1 : Int32))])) _
    refine st103 _ ?_
    show Steps p.tables e below (T103.setTop (mkF m 30 #[.val (.ref a1), .val (.int (2 : Int32)), .val (.int p2), .val (.int p3), .val (.int p4)] [(.double (FP.i2d (p2 + p4))), (.int (1 : Int32))])) _
    refine XS.iloadN X103.here hx rfl (hb hby d5_30) rfl ?_
    show Steps p.tables e below (T103.setTop (mkF m 31 #[.val (.ref a1), .val (.int (2 : Int32)), .val (.int p2), .val (.int p3), .val (.int p4)] [(.int p2), (.double (FP.i2d (p2 + p4))), (.int (1 : Int32))])) _
    refine XS.iload X103.here hx rfl (hb hby d5_31) rfl ?_
    show Steps p.tables e below (T103.setTop (mkF m 33 #[.val (.ref a1), .val (.int (2 : Int32)), .val (.int p2), .val (.int p3), .val (.int p4)] [(.int p4), (.int p2), (.double (FP.i2d (p2 + p4))), (.int (1 : Int32))])) _
    refine XS.iadd X103.here hx rfl (hb hby d5_33) rfl ?_
    show Steps p.tables e below (T103.setTop (mkF m 34 #[.val (.ref a1), .val (.int (2 : Int32)), .val (.int p2), .val (.int p3), .val (.int p4)] [(.int (p2 + p4)), (.double (FP.i2d (p2 + p4))), (.int (1 : Int32))])) _
    refine XS.i2dS X103.here hx rfl (hb hby d5_34) rfl rfl ?_
    show Steps p.tables e below (T103.setTop (mkF m 35 #[.val (.ref a1), .val (.int (2 : Int32)), .val (.int p2), .val (.int p3), .val (.int p4)] [(.double (FP.i2d (p2 + p4))), (.double (FP.i2d (p2 + p4))), (.int (1 : Int32))])) _
    refine XS.dcmpS X103.here hx rfl (hb hby d5_35) rfl (dcmpV_self (nn_w (i2d_w _)) _) ?_
    show Steps p.tables e below (T103.setTop (mkF m 36 #[.val (.ref a1), .val (.int (2 : Int32)), .val (.int p2), .val (.int p3), .val (.int p4)] [(.int (0 : Int32)), (.int (1 : Int32))])) _
    refine XS.ifNo X103.here hx rfl (hb hby d5_36) rfl (own_nf (i0_ne _) (by decide)) ?_
    show Steps p.tables e below (T103.setTop (mkF m 39 #[.val (.ref a1), .val (.int (2 : Int32)), .val (.int p2), .val (.int p3), .val (.int p4)] [(.int (1 : Int32))])) _
    refine XS.iconst X103.here hx rfl (hb hby d5_39) ?_
    show Steps p.tables e below (T103.setTop (mkF m 40 #[.val (.ref a1), .val (.int (2 : Int32)), .val (.int p2), .val (.int p3), .val (.int p4)] [(.int (1 : Int32)), (.int (1 : Int32))])) _
    refine XS.goto X103.here hx rfl (pc0 := 40) (pc' := 44) rfl (hb hby d5_40) (by decide) (by decide) ?_
    show Steps p.tables e below (T103.setTop (mkF m 44 #[.val (.ref a1), .val (.int (2 : Int32)), .val (.int p2), .val (.int p3), .val (.int p4)] [(.int (1 : Int32)), (.int (1 : Int32))])) _
    refine XS.iand X103.here hx rfl (hb hby d5_44) rfl ?_
    show Steps p.tables e below (T103.setTop (mkF m 45 #[.val (.ref a1), .val (.int (2 : Int32)), .val (.int p2), .val (.int p3), .val (.int p4)] [(.int (1 : Int32))])) _
    refine XS.aloadN X103.here hx rfl (hb hby d5_45) rfl rfl ?_
    show Steps p.tables e below (T103.setTop (mkF m 46 #[.val (.ref a1), .val (.int (2 : Int32)), .val (.int p2), .val (.int p3), .val (.int p4)] [(.ref a1), (.int (1 : Int32))])) _
    refine st104 _ ?_
    show Steps p.tables e below (T104.setTop (mkF m 49 #[.val (.ref a1), .val (.int (2 : Int32)), .val (.int p2), .val (.int p3), .val (.int p4)] [(.double (FP.i2d (p3 - p4))), (.int (1 : Int32))])) _
    refine XS.iloadN X104.here hx rfl (hb hby d5_49) rfl ?_
    show Steps p.tables e below (T104.setTop (mkF m 50 #[.val (.ref a1), .val (.int (2 : Int32)), .val (.int p2), .val (.int p3), .val (.int p4)] [(.int p3), (.double (FP.i2d (p3 - p4))), (.int (1 : Int32))])) _
    refine XS.iload X104.here hx rfl (hb hby d5_50) rfl ?_
    show Steps p.tables e below (T104.setTop (mkF m 52 #[.val (.ref a1), .val (.int (2 : Int32)), .val (.int p2), .val (.int p3), .val (.int p4)] [(.int p4), (.int p3), (.double (FP.i2d (p3 - p4))), (.int (1 : Int32))])) _
    refine XS.isub X104.here hx rfl (hb hby d5_52) rfl ?_
    show Steps p.tables e below (T104.setTop (mkF m 53 #[.val (.ref a1), .val (.int (2 : Int32)), .val (.int p2), .val (.int p3), .val (.int p4)] [(.int (p3 - p4)), (.double (FP.i2d (p3 - p4))), (.int (1 : Int32))])) _
    refine XS.i2dS X104.here hx rfl (hb hby d5_53) rfl rfl ?_
    show Steps p.tables e below (T104.setTop (mkF m 54 #[.val (.ref a1), .val (.int (2 : Int32)), .val (.int p2), .val (.int p3), .val (.int p4)] [(.double (FP.i2d (p3 - p4))), (.double (FP.i2d (p3 - p4))), (.int (1 : Int32))])) _
    refine XS.dcmpS X104.here hx rfl (hb hby d5_54) rfl (dcmpV_self (nn_w (i2d_w _)) _) ?_
    show Steps p.tables e below (T104.setTop (mkF m 55 #[.val (.ref a1), .val (.int (2 : Int32)), .val (.int p2), .val (.int p3), .val (.int p4)] [(.int (0 : Int32)), (.int (1 : Int32))])) _
    refine XS.ifNo X104.here hx rfl (hb hby d5_55) rfl (own_nf (i0_ne _) (by decide)) ?_
    exact kt
  refine Gl.fin X104 (v := some (.int (1 : Int32))) (fun h => by rw [Bd.returns] at h; cases h) Bd.notSynchronized ?_ e104 (by decide) (by decide) (fun fs hr => ?_)
  · exact ⟨rfl, N104, rfl⟩
  · show Steps p.tables e below (T104.setTop (mkF m 58 #[.val (.ref a1), .val (.int (2 : Int32)), .val (.int p2), .val (.int p3), .val (.int p4)] [(.int (1 : Int32))])) _
    refine XS.iconst X104.here hx rfl (hb hby d5_58) ?_
    show Steps p.tables e below (T104.setTop (mkF m 59 #[.val (.ref a1), .val (.int (2 : Int32)), .val (.int p2), .val (.int p3), .val (.int p4)] [(.int (1 : Int32)), (.int (1 : Int32))])) _
    refine XS.goto X104.here hx rfl (pc0 := 59) (pc' := 63) rfl (hb hby d5_59) (by decide) (by decide) ?_
    show Steps p.tables e below (T104.setTop (mkF m 63 #[.val (.ref a1), .val (.int (2 : Int32)), .val (.int p2), .val (.int p3), .val (.int p4)] [(.int (1 : Int32)), (.int (1 : Int32))])) _
    refine XS.iand X104.here hx rfl (hb hby d5_63) rfl ?_
    show Steps p.tables e below (T104.setTop (mkF m 64 #[.val (.ref a1), .val (.int (2 : Int32)), .val (.int p2), .val (.int p3), .val (.int p4)] [(.int (1 : Int32))])) _
    exact retN X104 hx (t := .boolean) Bd.returns (by simp) (hb hby d5_64) hr
theorem ef_rm10_7_2 (m : MethodId) (x0 : Addr) : entryFrame m #[(.ref x0)] 1 = mkF m 0 #[.val (.ref x0)] [] := by first | (simp [entryFrame, mkF, argsToLocals, Value.category]; done) | rfl
theorem d10_15 : decode prog_34_method_7_code 15 = .ok (.iconst 0, 1) := by decide +kernel
theorem d10_16 : decode prog_34_method_7_code 16 = .ok (.goto 9, 3) := by decide +kernel
def Q10_7_2 (Z : State) (a1 : Addr) (b1 : Addr) (b2 : Addr) (k1 : ClassId) (k2 : ClassId) (x0 : UInt64) (x1 : UInt64) (x2 : UInt64) (x3 : UInt64) (x4 : UInt64) (x5 : UInt64) (x6 : UInt64) (x7 : UInt64) (y0 : UInt64) (y1 : UInt64) (y2 : UInt64) (y3 : UInt64) (y4 : UInt64) (y5 : UInt64) (y6 : UInt64) (y7 : UInt64) (h0 : Heap) (n0 : Nat) (v : Option Value) (h : Heap) (L : List Loc) : Prop := v = none ∧ Fr n0 L ∧ Keep h0 h [a1] ∧ Exa Z h a1 "com/example/tenrec/tenrec/pool/RequestQueue" ∧ Fld Z h a1 "com/example/tenrec/tenrec/pool/RequestQueue" "arrivals" "[D" (.ref b1) ∧ Fld Z h a1 "com/example/tenrec/tenrec/pool/RequestQueue" "sizes" "[D" (.ref b2) ∧ Fld Z h a1 "com/example/tenrec/tenrec/pool/RequestQueue" "count" "I" (.int (1 : Int32)) ∧ Fld Z h a1 "com/example/tenrec/tenrec/pool/RequestQueue" "head" "I" (.int (0 : Int32)) ∧ Arv Z h b1 k1 .double (8 : Int32) [(.double x0), (.double x1), (.double x2), (.double x3), (.double x4), (.double x5), (.double x6), (.double x7)] (.double (0 : UInt64)) ∧ Arv Z h b2 k2 .double (8 : Int32) [(.double y0), (.double y1), (.double y2), (.double y3), (.double y4), (.double y5), (.double y6), (.double y7)] (.double (0 : UInt64))
set_option maxRecDepth 65536 in
set_option maxHeartbeats 40000000 in
theorem rm10_7_2 (l : Launch) (Z : State) (a0 : Array Value) (hw : ∀ d ∈ tables_1, d.before a0 Z = true) (ws : List Jvm.Cond) (a1 : Addr) (b1 : Addr) (b2 : Addr) (k1 : ClassId) (k2 : ClassId) (x0 : UInt64) (x1 : UInt64) (x2 : UInt64) (x3 : UInt64) (x4 : UInt64) (x5 : UInt64) (x6 : UInt64) (x7 : UInt64) (y0 : UInt64) (y1 : UInt64) (y2 : UInt64) (y3 : UInt64) (y4 : UInt64) (y5 : UInt64) (y6 : UInt64) (y7 : UInt64) (h0 : Heap) (n0 : Nat) (Z0 : n0 ≤ h0.size) (g_a1 : n0 ≤ a1) (g_b1 : n0 ≤ b1) (g_b2 : n0 ≤ b2) (ne1 : a1 ≠ b1) (ne2 : a1 ≠ b2) (ne3 : b1 ≠ b2) (E_a : Exa Z h0 a1 "com/example/tenrec/tenrec/pool/RequestQueue") (F_a : Fld Z h0 a1 "com/example/tenrec/tenrec/pool/RequestQueue" "arrivals" "[D" (.ref b1)) (F_s : Fld Z h0 a1 "com/example/tenrec/tenrec/pool/RequestQueue" "sizes" "[D" (.ref b2)) (F_c : Fld Z h0 a1 "com/example/tenrec/tenrec/pool/RequestQueue" "count" "I" (.int (2 : Int32))) (F_h : Fld Z h0 a1 "com/example/tenrec/tenrec/pool/RequestQueue" "head" "I" (.int (7 : Int32))) (V_a : Arv Z h0 b1 k1 .double (8 : Int32) [(.double x0), (.double x1), (.double x2), (.double x3), (.double x4), (.double x5), (.double x6), (.double x7)] (.double (0 : UInt64))) (V_s : Arv Z h0 b2 k2 .double (8 : Int32) [(.double y0), (.double y1), (.double y2), (.double y3), (.double y4), (.double y5), (.double y6), (.double y7)] (.double (0 : UInt64))) :
    OMet l Z (⟨"com/example/tenrec/tenrec/pool/RequestQueue", "removeFirst", "()V"⟩ : MethodName) prog_34_method_7_code 1 none ws ({ frames := 0, cells := 0, slots := 0, locals := 0 } : Room) #[(.ref a1)] h0 (Q10_7_2 Z a1 b1 b2 k1 k2 x0 x1 x2 x3 x4 x5 x6 x7 y0 y1 y2 y3 y4 y5 y6 y7 h0 n0) := by
  refine own_body (plainFor_of_name pn_com_example_tenrec_tenrec_pool_RequestQueue) ?_
  intro p e s m below meth c s₁ Bd hml0 hZ e0
  have hx := Bd.exec
  have hby := Bd.bytes
  have hml : c.maxLocals = 1 := hml0
  have hown : s.vm.findClass "com/example/tenrec/tenrec/pool/RequestQueue" = some m.cls := findClass_of_methodNamed Bd.named
  have hnm := (name_of_methodNamed Bd.named Bd.method).1
  have X0 : Stand p l e ({ frames := 0, cells := 0, slots := 0, locals := 0 } : Room) s m #[(.ref a1)] below meth c s₁ [] 0 0 := Stand.of_body Bd
  have N0 := Fr.nil n0
  have K0 : Keep h0 h0 [a1] := Keep.refl _ _
  rw [ef_rm10_7_2]
  obtain ⟨T101, X101, e101, st101⟩ := getF X0 hx hZ hown (host := "") (Or.inl (hw _ (List.mem_of_getElem? (i := 25) rfl))) Via.refl e0 F_h (g := (mkF m 2 #[.val (.ref a1)] [(.ref a1), (.ref a1)])) rfl rfl (hb hby d10_2)
  obtain ⟨T102, X102, e102, st102⟩ := getF X101 hx hZ hown (host := "") (Or.inl (hw _ (List.mem_of_getElem? (i := 10) rfl))) Via.refl e101 F_a (g := (mkF m 6 #[.val (.ref a1)] [(.ref a1), (.int (7 : Int32)), (.ref a1)])) rfl rfl (hb hby d10_6)
  obtain ⟨cl103, Ar103, qa103, Sa103, Na103, Ha103, Ga103⟩ := id V_a
  obtain ⟨T104, h104, X104, e104, W104, st104⟩ := putF X102 hx hZ hown (host := "") (Or.inl (hw _ (List.mem_of_getElem? (i := 25) rfl))) Via.refl e102 F_h E_a (Or.inl (hw _ (List.mem_of_getElem? (i := 26) rfl))) (hw _ (List.mem_of_getElem? (i := 1) rfl)) (ty := .int) (by decide) rfl rfl (g := (mkF m 25 #[.val (.ref a1)] [(.int (0 : Int32)), (.ref a1)])) rfl rfl (hb hby d10_25)
  have Fw104 := F_h.same W104
  have K104 : Keep h0 h104 [a1] := K0.wr W104 (Or.inl (List.mem_of_getElem? (i := 0) rfl))
  have N104 := Fr.snoc X104 N0 g_a1
  have f105 := (F_c.other W104 (Or.inr (slot_ne (Or.inl (hw _ (List.mem_of_getElem? (i := 24) rfl))) (Or.inl (hw _ (List.mem_of_getElem? (i := 26) rfl))) (by decide) (t := .int) (t' := .int) (by decide) (by decide))))
  obtain ⟨T106, X106, e106, st106⟩ := getF X104 hx hZ hown (host := "") (Or.inl (hw _ (List.mem_of_getElem? (i := 23) rfl))) Via.refl e104 f105 (g := (mkF m 30 #[.val (.ref a1)] [(.ref a1), (.ref a1)])) rfl rfl (hb hby d10_30)
  have f107 := (E_a.wr W104)
  obtain ⟨T108, h108, X108, e108, W108, st108⟩ := putF X106 hx hZ hown (host := "") (Or.inl (hw _ (List.mem_of_getElem? (i := 23) rfl))) Via.refl e106 f105 f107 (Or.inl (hw _ (List.mem_of_getElem? (i := 24) rfl))) (hw _ (List.mem_of_getElem? (i := 1) rfl)) (ty := .int) (by decide) rfl rfl (g := (mkF m 35 #[.val (.ref a1)] [(.int (1 : Int32)), (.ref a1)])) rfl rfl (hb hby d10_35)
  have Fw108 := f105.same W108
  have K108 : Keep h0 h108 [a1] := K104.wr W108 (Or.inl (List.mem_of_getElem? (i := 0) rfl))
  have N108 := Fr.snoc X108 N104 g_a1
  have f109 := (f107.wr W108)
  have f110 := ((F_a.other W104 (Or.inr (slot_ne (Or.inl (hw _ (List.mem_of_getElem? (i := 11) rfl))) (Or.inl (hw _ (List.mem_of_getElem? (i := 26) rfl))) (by decide) (t := (.array .double)) (t' := .int) (by decide) (by decide)))).other W108 (Or.inr (slot_ne (Or.inl (hw _ (List.mem_of_getElem? (i := 11) rfl))) (Or.inl (hw _ (List.mem_of_getElem? (i := 24) rfl))) (by decide) (t := (.array .double)) (t' := .int) (by decide) (by decide))))
  have f111 := ((F_s.other W104 (Or.inr (slot_ne (Or.inl (hw _ (List.mem_of_getElem? (i := 13) rfl))) (Or.inl (hw _ (List.mem_of_getElem? (i := 26) rfl))) (by decide) (t := (.array .double)) (t' := .int) (by decide) (by decide)))).other W108 (Or.inr (slot_ne (Or.inl (hw _ (List.mem_of_getElem? (i := 13) rfl))) (Or.inl (hw _ (List.mem_of_getElem? (i := 24) rfl))) (by decide) (t := (.array .double)) (t' := .int) (by decide) (by decide))))
  have f112 := (Fw104.other W108 (Or.inr (slot_ne (Or.inl (hw _ (List.mem_of_getElem? (i := 26) rfl))) (Or.inl (hw _ (List.mem_of_getElem? (i := 24) rfl))) (by decide) (t := .int) (t' := .int) (by decide) (by decide))))
  have f113 := ((V_a.other W104 (Ne.symm ne1)).other W108 (Ne.symm ne1))
  have f114 := ((V_s.other W104 (Ne.symm ne2)).other W108 (Ne.symm ne2))
  refine Gl.fin X108 (v := none) (fun _ => rfl) Bd.notSynchronized ?_ e108 (by decide) (by decide) (fun fs hr => ?_)
  · exact ⟨rfl, N108, K108, f109, f110, f111, Fw108, f112, f113, f114⟩
  · show Steps p.tables e below (s₁.setTop (mkF m 0 #[.val (.ref a1)] [])) _
    refine XS.aloadN X0.here hx rfl (hb hby d10_0) rfl rfl ?_
    show Steps p.tables e below (s₁.setTop (mkF m 1 #[.val (.ref a1)] [(.ref a1)])) _
    refine XS.aloadN X0.here hx rfl (hb hby d10_1) rfl rfl ?_
    show Steps p.tables e below (s₁.setTop (mkF m 2 #[.val (.ref a1)] [(.ref a1), (.ref a1)])) _
    refine st101 _ ?_
    show Steps p.tables e below (T101.setTop (mkF m 5 #[.val (.ref a1)] [(.int (7 : Int32)), (.ref a1)])) _
    refine XS.aloadN X101.here hx rfl (hb hby d10_5) rfl rfl ?_
    show Steps p.tables e below (T101.setTop (mkF m 6 #[.val (.ref a1)] [(.ref a1), (.int (7 : Int32)), (.ref a1)])) _
    refine st102 _ ?_
    show Steps p.tables e below (T102.setTop (mkF m 9 #[.val (.ref a1)] [(.ref b1), (.int (7 : Int32)), (.ref a1)])) _
    refine X102.arraylength hx (own_hc e102 Ar103.1) (State.isArrayOf_alike hZ.alike Ar103.2.1) (g := (mkF m 9 #[.val (.ref a1)] [(.ref b1), (.int (7 : Int32)), (.ref a1)])) rfl rfl (hb hby d10_9) _ ?_
    rw [len_of Sa103 Na103]
    show Steps p.tables e below (T102.setTop (mkF m 10 #[.val (.ref a1)] [(.int (8 : Int32)), (.int (7 : Int32)), (.ref a1)])) _
    refine XS.iconst X102.here hx rfl (hb hby d10_10) ?_
    show Steps p.tables e below (T102.setTop (mkF m 11 #[.val (.ref a1)] [(.int (1 : Int32)), (.int (8 : Int32)), (.int (7 : Int32)), (.ref a1)])) _
    refine XS.isub X102.here hx rfl (hb hby d10_11) rfl ?_
    show Steps p.tables e below (T102.setTop (mkF m 12 #[.val (.ref a1)] [(.int (7 : Int32)), (.int (7 : Int32)), (.ref a1)])) _
    refine XS.icmpNo X102.here hx rfl (hb hby d10_12) rfl (own_nf (ic_ne _ _) (by decide)) ?_
    show Steps p.tables e below (T102.setTop (mkF m 15 #[.val (.ref a1)] [(.ref a1)])) _
    refine XS.iconst X102.here hx rfl (hb hby d10_15) ?_
    show Steps p.tables e below (T102.setTop (mkF m 16 #[.val (.ref a1)] [(.int (0 : Int32)), (.ref a1)])) _
    refine XS.goto X102.here hx rfl (pc0 := 16) (pc' := 25) rfl (hb hby d10_16) (by decide) (by decide) ?_
    show Steps p.tables e below (T102.setTop (mkF m 25 #[.val (.ref a1)] [(.int (0 : Int32)), (.ref a1)])) _
    refine st104 _ ?_
    show Steps p.tables e below (T104.setTop (mkF m 28 #[.val (.ref a1)] [])) _
    refine XS.aloadN X104.here hx rfl (hb hby d10_28) rfl rfl ?_
    show Steps p.tables e below (T104.setTop (mkF m 29 #[.val (.ref a1)] [(.ref a1)])) _
    refine XS.dup X104.here hx rfl (hb hby d10_29) rfl rfl ?_
    show Steps p.tables e below (T104.setTop (mkF m 30 #[.val (.ref a1)] [(.ref a1), (.ref a1)])) _
    refine st106 _ ?_
    show Steps p.tables e below (T106.setTop (mkF m 33 #[.val (.ref a1)] [(.int (2 : Int32)), (.ref a1)])) _
    refine XS.iconst X106.here hx rfl (hb hby d10_33) ?_
    show Steps p.tables e below (T106.setTop (mkF m 34 #[.val (.ref a1)] [(.int (1 : Int32)), (.int (2 : Int32)), (.ref a1)])) _
    refine XS.isub X106.here hx rfl (hb hby d10_34) rfl ?_
    show Steps p.tables e below (T106.setTop (mkF m 35 #[.val (.ref a1)] [(.int (1 : Int32)), (.ref a1)])) _
    refine st108 _ ?_
    show Steps p.tables e below (T108.setTop (mkF m 38 #[.val (.ref a1)] [])) _
    exact X108.returnOut hx Bd.returns (hb hby d10_38) hr
theorem ef_rm5_0_1 (m : MethodId) (x0 : Addr) (x1 : Int32) (x2 : Int32) (x3 : Int32) (x4 : Int32) : entryFrame m #[(.ref x0), (.int x1), (.int x2), (.int x3), (.int x4)] 5 = mkF m 0 #[.val (.ref x0), .val (.int x1), .val (.int x2), .val (.int x3), .val (.int x4)] [] := by first | (simp [entryFrame, mkF, argsToLocals, Value.category]; done) | rfl
def Q5_0_1 (Z : State) (a1 : Addr) (p2 : Int32) (p3 : Int32) (p4 : Int32) (b1 : Addr) (b2 : Addr) (k1 : ClassId) (k2 : ClassId) (x1 : UInt64) (x2 : UInt64) (x3 : UInt64) (x4 : UInt64) (x5 : UInt64) (x6 : UInt64) (x7 : UInt64) (y1 : UInt64) (y2 : UInt64) (y3 : UInt64) (y4 : UInt64) (y5 : UInt64) (y6 : UInt64) (y7 : UInt64) (h0 : Heap) (n0 : Nat) (v : Option Value) (h : Heap) (L : List Loc) : Prop := v = some (.int 1) ∧ Fr n0 L ∧ h = h0
set_option maxRecDepth 65536 in
set_option maxHeartbeats 40000000 in
theorem rm5_0_1 (l : Launch) (Z : State) (a0 : Array Value) (hw : ∀ d ∈ tables_1, d.before a0 Z = true) (ws : List Jvm.Cond) (a1 : Addr) (p2 : Int32) (p3 : Int32) (p4 : Int32) (b1 : Addr) (b2 : Addr) (k1 : ClassId) (k2 : ClassId) (x1 : UInt64) (x2 : UInt64) (x3 : UInt64) (x4 : UInt64) (x5 : UInt64) (x6 : UInt64) (x7 : UInt64) (y1 : UInt64) (y2 : UInt64) (y3 : UInt64) (y4 : UInt64) (y5 : UInt64) (y6 : UInt64) (y7 : UInt64) (h0 : Heap) (n0 : Nat) (Z0 : n0 ≤ h0.size) (g_a1 : n0 ≤ a1) (g_b1 : n0 ≤ b1) (g_b2 : n0 ≤ b2) (ne1 : a1 ≠ b1) (ne2 : a1 ≠ b2) (ne3 : b1 ≠ b2) (E_a : Exa Z h0 a1 "com/example/tenrec/tenrec/pool/RequestQueue") (F_a : Fld Z h0 a1 "com/example/tenrec/tenrec/pool/RequestQueue" "arrivals" "[D" (.ref b1)) (F_s : Fld Z h0 a1 "com/example/tenrec/tenrec/pool/RequestQueue" "sizes" "[D" (.ref b2)) (F_c : Fld Z h0 a1 "com/example/tenrec/tenrec/pool/RequestQueue" "count" "I" (.int (1 : Int32))) (F_h : Fld Z h0 a1 "com/example/tenrec/tenrec/pool/RequestQueue" "head" "I" (.int (0 : Int32))) (V_a : Arv Z h0 b1 k1 .double (8 : Int32) [(.double (FP.i2d (p2 + p4))), (.double x1), (.double x2), (.double x3), (.double x4), (.double x5), (.double x6), (.double x7)] (.double (0 : UInt64))) (V_s : Arv Z h0 b2 k2 .double (8 : Int32) [(.double (FP.i2d (p3 - p4))), (.double y1), (.double y2), (.double y3), (.double y4), (.double y5), (.double y6), (.double y7)] (.double (0 : UInt64))) :
    OMet l Z (⟨"com/example/tenrec/tenrec/pool/RequestQueueRemoveFirstPinLaw", "front", "(Lcom/example/tenrec/tenrec/pool/RequestQueue;IIII)Z"⟩ : MethodName) method_3_code 5 (some .boolean) ws ({ frames := 1, cells := 0, slots := 0, locals := 15 } : Room) #[(.ref a1), (.int (1 : Int32)), (.int p2), (.int p3), (.int p4)] h0 (Q5_0_1 Z a1 p2 p3 p4 b1 b2 k1 k2 x1 x2 x3 x4 x5 x6 x7 y1 y2 y3 y4 y5 y6 y7 h0 n0) := by
  refine own_body (plainFor_of_name pn_com_example_tenrec_tenrec_pool_RequestQueueRemoveFirstPinLaw) ?_
  intro p e s m below meth c s₁ Bd hml0 hZ e0
  have hx := Bd.exec
  have hby := Bd.bytes
  have hml : c.maxLocals = 5 := hml0
  have hown : s.vm.findClass "com/example/tenrec/tenrec/pool/RequestQueueRemoveFirstPinLaw" = some m.cls := findClass_of_methodNamed Bd.named
  have hnm := (name_of_methodNamed Bd.named Bd.method).1
  have X0 : Stand p l e ({ frames := 1, cells := 0, slots := 0, locals := 15 } : Room) s m #[(.ref a1), (.int (1 : Int32)), (.int p2), (.int p3), (.int p4)] below meth c s₁ [] 0 0 := Stand.of_body Bd
  have N0 := Fr.nil n0
  have K0 : Keep h0 h0 [] := Keep.refl _ _
  rw [ef_rm5_0_1]
  obtain ⟨v101, T101, L101, X101, q101, st101⟩ := own_callV X0 hx hZ (y := (⟨"com/example/tenrec/tenrec/pool/RequestQueue", "size", "()I"⟩ : MethodName)) (z := (⟨"com/example/tenrec/tenrec/pool/RequestQueue", "size", "()I"⟩ : MethodName)) hown (hw _ (List.mem_of_getElem? (i := 30) rfl)) (hw _ (List.mem_of_getElem? (i := 31) rfl)) (notFace_of_selects (args := #[]) (mvT hZ (hw _ (List.mem_of_getElem? (i := 33) rfl)))) (hw _ (List.mem_of_getElem? (i := 33) rfl)) (hw _ (List.mem_of_getElem? (i := 32) rfl)) (hw _ (List.mem_of_getElem? (i := 2) rfl)) (hw _ (List.mem_of_getElem? (i := 34) rfl)) (by decide) E_a (hM := (rm6 l Z a0 hw [] a1 (1 : Int32) h0 n0 Z0 F_c)) (by decide) (by decide) (by decide) (by decide) e0 (argsL := []) (rest := []) (Ls := #[.val (.ref a1), .val (.int (1 : Int32)), .val (.int p2), .val (.int p3), .val (.int p4)]) (by rw [hml]; rfl) (lenOf pd___I rfl) (W := 0) (Nat.le_of_eq rfl) (hb hby d5_1)
  obtain ⟨rfl, N101q, e101⟩ := q101
  have N101 := Fr.app N0 N101q
  obtain ⟨v102, T102, L102, X102, q102, st102⟩ := own_callV X101 hx hZ (y := (⟨"com/example/tenrec/tenrec/pool/RequestQueue", "isEmpty", "()Z"⟩ : MethodName)) (z := (⟨"com/example/tenrec/tenrec/pool/RequestQueue", "isEmpty", "()Z"⟩ : MethodName)) hown (hw _ (List.mem_of_getElem? (i := 35) rfl)) (hw _ (List.mem_of_getElem? (i := 36) rfl)) (notFace_of_selects (args := #[]) (mvT hZ (hw _ (List.mem_of_getElem? (i := 38) rfl)))) (hw _ (List.mem_of_getElem? (i := 38) rfl)) (hw _ (List.mem_of_getElem? (i := 37) rfl)) (hw _ (List.mem_of_getElem? (i := 2) rfl)) (hw _ (List.mem_of_getElem? (i := 39) rfl)) (by decide) E_a (hM := (rm7 l Z a0 hw [] a1 (1 : Int32) h0 n0 Z0 F_c)) (by decide) (by decide) (by decide) (by decide) e101 (argsL := []) (rest := [(.int (1 : Int32))]) (Ls := #[.val (.ref a1), .val (.int (1 : Int32)), .val (.int p2), .val (.int p3), .val (.int p4)]) (by rw [hml]; rfl) (lenOf pd___Z rfl) (W := 1) (Nat.le_of_eq rfl) (hb hby d5_14)
  obtain ⟨rfl, N102q, e102⟩ := q102
  have N102 := Fr.app N101 N102q
  obtain ⟨v103, T103, L103, X103, q103, st103⟩ := own_callV X102 hx hZ (y := (⟨"com/example/tenrec/tenrec/pool/RequestQueue", "firstArrival", "()D"⟩ : MethodName)) (z := (⟨"com/example/tenrec/tenrec/pool/RequestQueue", "firstArrival", "()D"⟩ : MethodName)) hown (hw _ (List.mem_of_getElem? (i := 40) rfl)) (hw _ (List.mem_of_getElem? (i := 41) rfl)) (notFace_of_selects (args := #[]) (mvT hZ (hw _ (List.mem_of_getElem? (i := 43) rfl)))) (hw _ (List.mem_of_getElem? (i := 43) rfl)) (hw _ (List.mem_of_getElem? (i := 42) rfl)) (hw _ (List.mem_of_getElem? (i := 2) rfl)) (hw _ (List.mem_of_getElem? (i := 44) rfl)) (by decide) E_a (hM := (rm8_0 l Z a0 hw [] a1 b1 k1 (FP.i2d (p2 + p4)) x1 x2 x3 x4 x5 x6 x7 h0 n0 Z0 F_a F_h V_a)) (by decide) (by decide) (by decide) (by decide) e102 (argsL := []) (rest := [(.int (1 : Int32))]) (Ls := #[.val (.ref a1), .val (.int (1 : Int32)), .val (.int p2), .val (.int p3), .val (.int p4)]) (by rw [hml]; rfl) (lenOf pd___D rfl) (W := 1) (Nat.le_of_eq rfl) (hb hby d5_27)
  obtain ⟨rfl, N103q, e103⟩ := q103
  have N103 := Fr.app N102 N103q
  obtain ⟨v104, T104, L104, X104, q104, st104⟩ := own_callV X103 hx hZ (y := (⟨"com/example/tenrec/tenrec/pool/RequestQueue", "firstSize", "()D"⟩ : MethodName)) (z := (⟨"com/example/tenrec/tenrec/pool/RequestQueue", "firstSize", "()D"⟩ : MethodName)) hown (hw _ (List.mem_of_getElem? (i := 45) rfl)) (hw _ (List.mem_of_getElem? (i := 46) rfl)) (notFace_of_selects (args := #[]) (mvT hZ (hw _ (List.mem_of_getElem? (i := 48) rfl)))) (hw _ (List.mem_of_getElem? (i := 48) rfl)) (hw _ (List.mem_of_getElem? (i := 47) rfl)) (hw _ (List.mem_of_getElem? (i := 2) rfl)) (hw _ (List.mem_of_getElem? (i := 49) rfl)) (by decide) E_a (hM := (rm9_0 l Z a0 hw [] a1 b2 k2 (FP.i2d (p3 - p4)) y1 y2 y3 y4 y5 y6 y7 h0 n0 Z0 F_s F_h V_s)) (by decide) (by decide) (by decide) (by decide) e103 (argsL := []) (rest := [(.int (1 : Int32))]) (Ls := #[.val (.ref a1), .val (.int (1 : Int32)), .val (.int p2), .val (.int p3), .val (.int p4)]) (by rw [hml]; rfl) (lenOf pd___D rfl) (W := 1) (Nat.le_of_eq rfl) (hb hby d5_46)
  obtain ⟨rfl, N104q, e104⟩ := q104
  have N104 := Fr.app N103 N104q
  refine Gl.pre (S' := T104.setTop (mkF m 58 #[.val (.ref a1), .val (.int (1 : Int32)), .val (.int p2), .val (.int p3), .val (.int p4)] [(.int (1 : Int32))])) (fun t kt => ?_) ?_
  · show Steps p.tables e below (s₁.setTop (mkF m 0 #[.val (.ref a1), .val (.int (1 : Int32)), .val (.int p2), .val (.int p3), .val (.int p4)] [])) _
    refine XS.aloadN X0.here hx rfl (hb hby d5_0) rfl rfl ?_
    show Steps p.tables e below (s₁.setTop (mkF m 1 #[.val (.ref a1), .val (.int (1 : Int32)), .val (.int p2), .val (.int p3), .val (.int p4)] [(.ref a1)])) _
    refine st101 _ ?_
    show Steps p.tables e below (T101.setTop (mkF m 4 #[.val (.ref a1), .val (.int (1 : Int32)), .val (.int p2), .val (.int p3), .val (.int p4)] [(.int (1 : Int32))])) _
    refine XS.iloadN X101.here hx rfl (hb hby d5_4) rfl ?_
    show Steps p.tables e below (T101.setTop (mkF m 5 #[.val (.ref a1), .val (.int (1 : Int32)), .val (.int p2), .val (.int p3), .val (.int p4)] [(.int (1 : Int32)), (.int (1 : Int32))])) _
    refine XS.icmpNo X101.here hx rfl (hb hby d5_5) rfl (own_nf (ic_ne _ _) (by decide)) ?_
    show Steps p.tables e below (T101.setTop (mkF m 8 #[.val (.ref a1), .val (.int (1 : Int32)), .val (.int p2), .val (.int p3), .val (.int p4)] [])) _
    refine XS.iconst X101.here hx rfl (hb hby d5_8) ?_
    show Steps p.tables e below (T101.setTop (mkF m 9 #[.val (.ref a1), .val (.int (1 : Int32)), .val (.int p2), .val (.int p3), .val (.int p4)] [(.int (1 : Int32))])) _
    refine XS.goto X101.here hx rfl (pc0 := 9) (pc' := 13) rfl (hb hby d5_9) (by decide) (by decide) ?_
    show Steps p.tables e below (T101.setTop (mkF m 13 #[.val (.ref a1), .val (.int (1 : Int32)), .val (.int p2), .val (.int p3), .val (.int p4)] [(.int (1 : Int32))])) _
    refine XS.aloadN X101.here hx rfl (hb hby d5_13) rfl rfl ?_
    show Steps p.tables e below (T101.setTop (mkF m 14 #[.val (.ref a1), .val (.int (1 : Int32)), .val (.int p2), .val (.int p3), .val (.int p4)] [(.ref a1), (.int (1 : Int32))])) _
    refine st102 _ ?_
    show Steps p.tables e below (T102.setTop (mkF m 17 #[.val (.ref a1), .val (.int (1 : Int32)), .val (.int p2), .val (.int p3), .val (.int p4)] [(.int (0 : Int32)), (.int (1 : Int32))])) _
    refine XS.ifNo X102.here hx rfl (hb hby d5_17) rfl (own_nf (i0_ne _) (by decide)) ?_
    show Steps p.tables e below (T102.setTop (mkF m 20 #[.val (.ref a1), .val (.int (1 : Int32)), .val (.int p2), .val (.int p3), .val (.int p4)] [(.int (1 : Int32))])) _
    refine XS.iconst X102.here hx rfl (hb hby d5_20) ?_
    show Steps p.tables e below (T102.setTop (mkF m 21 #[.val (.ref a1), .val (.int (1 : Int32)), .val (.int p2), .val (.int p3), .val (.int p4)] [(.int (1 : Int32)), (.int (1 : Int32))])) _
    refine XS.goto X102.here hx rfl (pc0 := 21) (pc' := 25) rfl (hb hby d5_21) (by decide) (by decide) ?_
    show Steps p.tables e below (T102.setTop (mkF m 25 #[.val (.ref a1), .val (.int (1 : Int32)), .val (.int p2), .val (.int p3), .val (.int p4)] [(.int (1 : Int32)), (.int (1 : Int32))])) _
    refine XS.iand X102.here hx rfl (hb hby d5_25) rfl ?_
    show Steps p.tables e below (T102.setTop (mkF m 26 #[.val (.ref a1), .val (.int (1 : Int32)), .val (.int p2), .val (.int p3), .val (.int p4)] [(.int (1 : Int32))])) _
    refine XS.aloadN X102.here hx rfl (hb hby d5_26) rfl rfl ?_
    show Steps p.tables e below (T102.setTop (mkF m 27 #[.val (.ref a1), .val (.int (1 : Int32)), .val (.int p2), .val (.int p3), .val (.int p4)] [(.ref a1), (.int (1 : Int32))])) _
    refine st103 _ ?_
    show Steps p.tables e below (T103.setTop (mkF m 30 #[.val (.ref a1), .val (.int (1 : Int32)), .val (.int p2), .val (.int p3), .val (.int p4)] [(.double (FP.i2d (p2 + p4))), (.int (1 : Int32))])) _
    refine XS.iloadN X103.here hx rfl (hb hby d5_30) rfl ?_
    show Steps p.tables e below (T103.setTop (mkF m 31 #[.val (.ref a1), .val (.int (1 : Int32)), .val (.int p2), .val (.int p3), .val (.int p4)] [(.int p2), (.double (FP.i2d (p2 + p4))), (.int (1 : Int32))])) _
    refine XS.iload X103.here hx rfl (hb hby d5_31) rfl ?_
    show Steps p.tables e below (T103.setTop (mkF m 33 #[.val (.ref a1), .val (.int (1 : Int32)), .val (.int p2), .val (.int p3), .val (.int p4)] [(.int p4), (.int p2), (.double (FP.i2d (p2 + p4))), (.int (1 : Int32))])) _
    refine XS.iadd X103.here hx rfl (hb hby d5_33) rfl ?_
    show Steps p.tables e below (T103.setTop (mkF m 34 #[.val (.ref a1), .val (.int (1 : Int32)), .val (.int p2), .val (.int p3), .val (.int p4)] [(.int (p2 + p4)), (.double (FP.i2d (p2 + p4))), (.int (1 : Int32))])) _
    refine XS.i2dS X103.here hx rfl (hb hby d5_34) rfl rfl ?_
    show Steps p.tables e below (T103.setTop (mkF m 35 #[.val (.ref a1), .val (.int (1 : Int32)), .val (.int p2), .val (.int p3), .val (.int p4)] [(.double (FP.i2d (p2 + p4))), (.double (FP.i2d (p2 + p4))), (.int (1 : Int32))])) _
    refine XS.dcmpS X103.here hx rfl (hb hby d5_35) rfl (dcmpV_self (nn_w (i2d_w _)) _) ?_
    show Steps p.tables e below (T103.setTop (mkF m 36 #[.val (.ref a1), .val (.int (1 : Int32)), .val (.int p2), .val (.int p3), .val (.int p4)] [(.int (0 : Int32)), (.int (1 : Int32))])) _
    refine XS.ifNo X103.here hx rfl (hb hby d5_36) rfl (own_nf (i0_ne _) (by decide)) ?_
    show Steps p.tables e below (T103.setTop (mkF m 39 #[.val (.ref a1), .val (.int (1 : Int32)), .val (.int p2), .val (.int p3), .val (.int p4)] [(.int (1 : Int32))])) _
    refine XS.iconst X103.here hx rfl (hb hby d5_39) ?_
    show Steps p.tables e below (T103.setTop (mkF m 40 #[.val (.ref a1), .val (.int (1 : Int32)), .val (.int p2), .val (.int p3), .val (.int p4)] [(.int (1 : Int32)), (.int (1 : Int32))])) _
    refine XS.goto X103.here hx rfl (pc0 := 40) (pc' := 44) rfl (hb hby d5_40) (by decide) (by decide) ?_
    show Steps p.tables e below (T103.setTop (mkF m 44 #[.val (.ref a1), .val (.int (1 : Int32)), .val (.int p2), .val (.int p3), .val (.int p4)] [(.int (1 : Int32)), (.int (1 : Int32))])) _
    refine XS.iand X103.here hx rfl (hb hby d5_44) rfl ?_
    show Steps p.tables e below (T103.setTop (mkF m 45 #[.val (.ref a1), .val (.int (1 : Int32)), .val (.int p2), .val (.int p3), .val (.int p4)] [(.int (1 : Int32))])) _
    refine XS.aloadN X103.here hx rfl (hb hby d5_45) rfl rfl ?_
    show Steps p.tables e below (T103.setTop (mkF m 46 #[.val (.ref a1), .val (.int (1 : Int32)), .val (.int p2), .val (.int p3), .val (.int p4)] [(.ref a1), (.int (1 : Int32))])) _
    refine st104 _ ?_
    show Steps p.tables e below (T104.setTop (mkF m 49 #[.val (.ref a1), .val (.int (1 : Int32)), .val (.int p2), .val (.int p3), .val (.int p4)] [(.double (FP.i2d (p3 - p4))), (.int (1 : Int32))])) _
    refine XS.iloadN X104.here hx rfl (hb hby d5_49) rfl ?_
    show Steps p.tables e below (T104.setTop (mkF m 50 #[.val (.ref a1), .val (.int (1 : Int32)), .val (.int p2), .val (.int p3), .val (.int p4)] [(.int p3), (.double (FP.i2d (p3 - p4))), (.int (1 : Int32))])) _
    refine XS.iload X104.here hx rfl (hb hby d5_50) rfl ?_
    show Steps p.tables e below (T104.setTop (mkF m 52 #[.val (.ref a1), .val (.int (1 : Int32)), .val (.int p2), .val (.int p3), .val (.int p4)] [(.int p4), (.int p3), (.double (FP.i2d (p3 - p4))), (.int (1 : Int32))])) _
    refine XS.isub X104.here hx rfl (hb hby d5_52) rfl ?_
    show Steps p.tables e below (T104.setTop (mkF m 53 #[.val (.ref a1), .val (.int (1 : Int32)), .val (.int p2), .val (.int p3), .val (.int p4)] [(.int (p3 - p4)), (.double (FP.i2d (p3 - p4))), (.int (1 : Int32))])) _
    refine XS.i2dS X104.here hx rfl (hb hby d5_53) rfl rfl ?_
    show Steps p.tables e below (T104.setTop (mkF m 54 #[.val (.ref a1), .val (.int (1 : Int32)), .val (.int p2), .val (.int p3), .val (.int p4)] [(.double (FP.i2d (p3 - p4))), (.double (FP.i2d (p3 - p4))), (.int (1 : Int32))])) _
    refine XS.dcmpS X104.here hx rfl (hb hby d5_54) rfl (dcmpV_self (nn_w (i2d_w _)) _) ?_
    show Steps p.tables e below (T104.setTop (mkF m 55 #[.val (.ref a1), .val (.int (1 : Int32)), .val (.int p2), .val (.int p3), .val (.int p4)] [(.int (0 : Int32)), (.int (1 : Int32))])) _
    refine XS.ifNo X104.here hx rfl (hb hby d5_55) rfl (own_nf (i0_ne _) (by decide)) ?_
    exact kt
  refine Gl.fin X104 (v := some (.int (1 : Int32))) (fun h => by rw [Bd.returns] at h; cases h) Bd.notSynchronized ?_ e104 (by decide) (by decide) (fun fs hr => ?_)
  · exact ⟨rfl, N104, rfl⟩
  · show Steps p.tables e below (T104.setTop (mkF m 58 #[.val (.ref a1), .val (.int (1 : Int32)), .val (.int p2), .val (.int p3), .val (.int p4)] [(.int (1 : Int32))])) _
    refine XS.iconst X104.here hx rfl (hb hby d5_58) ?_
    show Steps p.tables e below (T104.setTop (mkF m 59 #[.val (.ref a1), .val (.int (1 : Int32)), .val (.int p2), .val (.int p3), .val (.int p4)] [(.int (1 : Int32)), (.int (1 : Int32))])) _
    refine XS.goto X104.here hx rfl (pc0 := 59) (pc' := 63) rfl (hb hby d5_59) (by decide) (by decide) ?_
    show Steps p.tables e below (T104.setTop (mkF m 63 #[.val (.ref a1), .val (.int (1 : Int32)), .val (.int p2), .val (.int p3), .val (.int p4)] [(.int (1 : Int32)), (.int (1 : Int32))])) _
    refine XS.iand X104.here hx rfl (hb hby d5_63) rfl ?_
    show Steps p.tables e below (T104.setTop (mkF m 64 #[.val (.ref a1), .val (.int (1 : Int32)), .val (.int p2), .val (.int p3), .val (.int p4)] [(.int (1 : Int32))])) _
    exact retN X104 hx (t := .boolean) Bd.returns (by simp) (hb hby d5_64) hr
theorem ef_rm10_0_1 (m : MethodId) (x0 : Addr) : entryFrame m #[(.ref x0)] 1 = mkF m 0 #[.val (.ref x0)] [] := by first | (simp [entryFrame, mkF, argsToLocals, Value.category]; done) | rfl
def Q10_0_1 (Z : State) (a1 : Addr) (b1 : Addr) (b2 : Addr) (k1 : ClassId) (k2 : ClassId) (x0 : UInt64) (x1 : UInt64) (x2 : UInt64) (x3 : UInt64) (x4 : UInt64) (x5 : UInt64) (x6 : UInt64) (x7 : UInt64) (y0 : UInt64) (y1 : UInt64) (y2 : UInt64) (y3 : UInt64) (y4 : UInt64) (y5 : UInt64) (y6 : UInt64) (y7 : UInt64) (h0 : Heap) (n0 : Nat) (v : Option Value) (h : Heap) (L : List Loc) : Prop := v = none ∧ Fr n0 L ∧ Keep h0 h [a1] ∧ Exa Z h a1 "com/example/tenrec/tenrec/pool/RequestQueue" ∧ Fld Z h a1 "com/example/tenrec/tenrec/pool/RequestQueue" "arrivals" "[D" (.ref b1) ∧ Fld Z h a1 "com/example/tenrec/tenrec/pool/RequestQueue" "sizes" "[D" (.ref b2) ∧ Fld Z h a1 "com/example/tenrec/tenrec/pool/RequestQueue" "count" "I" (.int (0 : Int32)) ∧ Fld Z h a1 "com/example/tenrec/tenrec/pool/RequestQueue" "head" "I" (.int (1 : Int32)) ∧ Arv Z h b1 k1 .double (8 : Int32) [(.double x0), (.double x1), (.double x2), (.double x3), (.double x4), (.double x5), (.double x6), (.double x7)] (.double (0 : UInt64)) ∧ Arv Z h b2 k2 .double (8 : Int32) [(.double y0), (.double y1), (.double y2), (.double y3), (.double y4), (.double y5), (.double y6), (.double y7)] (.double (0 : UInt64))
set_option maxRecDepth 65536 in
set_option maxHeartbeats 40000000 in
theorem rm10_0_1 (l : Launch) (Z : State) (a0 : Array Value) (hw : ∀ d ∈ tables_1, d.before a0 Z = true) (ws : List Jvm.Cond) (a1 : Addr) (b1 : Addr) (b2 : Addr) (k1 : ClassId) (k2 : ClassId) (x0 : UInt64) (x1 : UInt64) (x2 : UInt64) (x3 : UInt64) (x4 : UInt64) (x5 : UInt64) (x6 : UInt64) (x7 : UInt64) (y0 : UInt64) (y1 : UInt64) (y2 : UInt64) (y3 : UInt64) (y4 : UInt64) (y5 : UInt64) (y6 : UInt64) (y7 : UInt64) (h0 : Heap) (n0 : Nat) (Z0 : n0 ≤ h0.size) (g_a1 : n0 ≤ a1) (g_b1 : n0 ≤ b1) (g_b2 : n0 ≤ b2) (ne1 : a1 ≠ b1) (ne2 : a1 ≠ b2) (ne3 : b1 ≠ b2) (E_a : Exa Z h0 a1 "com/example/tenrec/tenrec/pool/RequestQueue") (F_a : Fld Z h0 a1 "com/example/tenrec/tenrec/pool/RequestQueue" "arrivals" "[D" (.ref b1)) (F_s : Fld Z h0 a1 "com/example/tenrec/tenrec/pool/RequestQueue" "sizes" "[D" (.ref b2)) (F_c : Fld Z h0 a1 "com/example/tenrec/tenrec/pool/RequestQueue" "count" "I" (.int (1 : Int32))) (F_h : Fld Z h0 a1 "com/example/tenrec/tenrec/pool/RequestQueue" "head" "I" (.int (0 : Int32))) (V_a : Arv Z h0 b1 k1 .double (8 : Int32) [(.double x0), (.double x1), (.double x2), (.double x3), (.double x4), (.double x5), (.double x6), (.double x7)] (.double (0 : UInt64))) (V_s : Arv Z h0 b2 k2 .double (8 : Int32) [(.double y0), (.double y1), (.double y2), (.double y3), (.double y4), (.double y5), (.double y6), (.double y7)] (.double (0 : UInt64))) :
    OMet l Z (⟨"com/example/tenrec/tenrec/pool/RequestQueue", "removeFirst", "()V"⟩ : MethodName) prog_34_method_7_code 1 none ws ({ frames := 0, cells := 0, slots := 0, locals := 0 } : Room) #[(.ref a1)] h0 (Q10_0_1 Z a1 b1 b2 k1 k2 x0 x1 x2 x3 x4 x5 x6 x7 y0 y1 y2 y3 y4 y5 y6 y7 h0 n0) := by
  refine own_body (plainFor_of_name pn_com_example_tenrec_tenrec_pool_RequestQueue) ?_
  intro p e s m below meth c s₁ Bd hml0 hZ e0
  have hx := Bd.exec
  have hby := Bd.bytes
  have hml : c.maxLocals = 1 := hml0
  have hown : s.vm.findClass "com/example/tenrec/tenrec/pool/RequestQueue" = some m.cls := findClass_of_methodNamed Bd.named
  have hnm := (name_of_methodNamed Bd.named Bd.method).1
  have X0 : Stand p l e ({ frames := 0, cells := 0, slots := 0, locals := 0 } : Room) s m #[(.ref a1)] below meth c s₁ [] 0 0 := Stand.of_body Bd
  have N0 := Fr.nil n0
  have K0 : Keep h0 h0 [a1] := Keep.refl _ _
  rw [ef_rm10_0_1]
  obtain ⟨T101, X101, e101, st101⟩ := getF X0 hx hZ hown (host := "") (Or.inl (hw _ (List.mem_of_getElem? (i := 25) rfl))) Via.refl e0 F_h (g := (mkF m 2 #[.val (.ref a1)] [(.ref a1), (.ref a1)])) rfl rfl (hb hby d10_2)
  obtain ⟨T102, X102, e102, st102⟩ := getF X101 hx hZ hown (host := "") (Or.inl (hw _ (List.mem_of_getElem? (i := 10) rfl))) Via.refl e101 F_a (g := (mkF m 6 #[.val (.ref a1)] [(.ref a1), (.int (0 : Int32)), (.ref a1)])) rfl rfl (hb hby d10_6)
  obtain ⟨cl103, Ar103, qa103, Sa103, Na103, Ha103, Ga103⟩ := id V_a
  obtain ⟨T104, X104, e104, st104⟩ := getF X102 hx hZ hown (host := "") (Or.inl (hw _ (List.mem_of_getElem? (i := 25) rfl))) Via.refl e102 F_h (g := (mkF m 20 #[.val (.ref a1)] [(.ref a1), (.ref a1)])) rfl rfl (hb hby d10_20)
  obtain ⟨T105, h105, X105, e105, W105, st105⟩ := putF X104 hx hZ hown (host := "") (Or.inl (hw _ (List.mem_of_getElem? (i := 25) rfl))) Via.refl e104 F_h E_a (Or.inl (hw _ (List.mem_of_getElem? (i := 26) rfl))) (hw _ (List.mem_of_getElem? (i := 1) rfl)) (ty := .int) (by decide) rfl rfl (g := (mkF m 25 #[.val (.ref a1)] [(.int (1 : Int32)), (.ref a1)])) rfl rfl (hb hby d10_25)
  have Fw105 := F_h.same W105
  have K105 : Keep h0 h105 [a1] := K0.wr W105 (Or.inl (List.mem_of_getElem? (i := 0) rfl))
  have N105 := Fr.snoc X105 N0 g_a1
  have f106 := (F_c.other W105 (Or.inr (slot_ne (Or.inl (hw _ (List.mem_of_getElem? (i := 24) rfl))) (Or.inl (hw _ (List.mem_of_getElem? (i := 26) rfl))) (by decide) (t := .int) (t' := .int) (by decide) (by decide))))
  obtain ⟨T107, X107, e107, st107⟩ := getF X105 hx hZ hown (host := "") (Or.inl (hw _ (List.mem_of_getElem? (i := 23) rfl))) Via.refl e105 f106 (g := (mkF m 30 #[.val (.ref a1)] [(.ref a1), (.ref a1)])) rfl rfl (hb hby d10_30)
  have f108 := (E_a.wr W105)
  obtain ⟨T109, h109, X109, e109, W109, st109⟩ := putF X107 hx hZ hown (host := "") (Or.inl (hw _ (List.mem_of_getElem? (i := 23) rfl))) Via.refl e107 f106 f108 (Or.inl (hw _ (List.mem_of_getElem? (i := 24) rfl))) (hw _ (List.mem_of_getElem? (i := 1) rfl)) (ty := .int) (by decide) rfl rfl (g := (mkF m 35 #[.val (.ref a1)] [(.int (0 : Int32)), (.ref a1)])) rfl rfl (hb hby d10_35)
  have Fw109 := f106.same W109
  have K109 : Keep h0 h109 [a1] := K105.wr W109 (Or.inl (List.mem_of_getElem? (i := 0) rfl))
  have N109 := Fr.snoc X109 N105 g_a1
  have f110 := (f108.wr W109)
  have f111 := ((F_a.other W105 (Or.inr (slot_ne (Or.inl (hw _ (List.mem_of_getElem? (i := 11) rfl))) (Or.inl (hw _ (List.mem_of_getElem? (i := 26) rfl))) (by decide) (t := (.array .double)) (t' := .int) (by decide) (by decide)))).other W109 (Or.inr (slot_ne (Or.inl (hw _ (List.mem_of_getElem? (i := 11) rfl))) (Or.inl (hw _ (List.mem_of_getElem? (i := 24) rfl))) (by decide) (t := (.array .double)) (t' := .int) (by decide) (by decide))))
  have f112 := ((F_s.other W105 (Or.inr (slot_ne (Or.inl (hw _ (List.mem_of_getElem? (i := 13) rfl))) (Or.inl (hw _ (List.mem_of_getElem? (i := 26) rfl))) (by decide) (t := (.array .double)) (t' := .int) (by decide) (by decide)))).other W109 (Or.inr (slot_ne (Or.inl (hw _ (List.mem_of_getElem? (i := 13) rfl))) (Or.inl (hw _ (List.mem_of_getElem? (i := 24) rfl))) (by decide) (t := (.array .double)) (t' := .int) (by decide) (by decide))))
  have f113 := (Fw105.other W109 (Or.inr (slot_ne (Or.inl (hw _ (List.mem_of_getElem? (i := 26) rfl))) (Or.inl (hw _ (List.mem_of_getElem? (i := 24) rfl))) (by decide) (t := .int) (t' := .int) (by decide) (by decide))))
  have f114 := ((V_a.other W105 (Ne.symm ne1)).other W109 (Ne.symm ne1))
  have f115 := ((V_s.other W105 (Ne.symm ne2)).other W109 (Ne.symm ne2))
  refine Gl.fin X109 (v := none) (fun _ => rfl) Bd.notSynchronized ?_ e109 (by decide) (by decide) (fun fs hr => ?_)
  · exact ⟨rfl, N109, K109, f110, f111, f112, Fw109, f113, f114, f115⟩
  · show Steps p.tables e below (s₁.setTop (mkF m 0 #[.val (.ref a1)] [])) _
    refine XS.aloadN X0.here hx rfl (hb hby d10_0) rfl rfl ?_
    show Steps p.tables e below (s₁.setTop (mkF m 1 #[.val (.ref a1)] [(.ref a1)])) _
    refine XS.aloadN X0.here hx rfl (hb hby d10_1) rfl rfl ?_
    show Steps p.tables e below (s₁.setTop (mkF m 2 #[.val (.ref a1)] [(.ref a1), (.ref a1)])) _
    refine st101 _ ?_
    show Steps p.tables e below (T101.setTop (mkF m 5 #[.val (.ref a1)] [(.int (0 : Int32)), (.ref a1)])) _
    refine XS.aloadN X101.here hx rfl (hb hby d10_5) rfl rfl ?_
    show Steps p.tables e below (T101.setTop (mkF m 6 #[.val (.ref a1)] [(.ref a1), (.int (0 : Int32)), (.ref a1)])) _
    refine st102 _ ?_
    show Steps p.tables e below (T102.setTop (mkF m 9 #[.val (.ref a1)] [(.ref b1), (.int (0 : Int32)), (.ref a1)])) _
    refine X102.arraylength hx (own_hc e102 Ar103.1) (State.isArrayOf_alike hZ.alike Ar103.2.1) (g := (mkF m 9 #[.val (.ref a1)] [(.ref b1), (.int (0 : Int32)), (.ref a1)])) rfl rfl (hb hby d10_9) _ ?_
    rw [len_of Sa103 Na103]
    show Steps p.tables e below (T102.setTop (mkF m 10 #[.val (.ref a1)] [(.int (8 : Int32)), (.int (0 : Int32)), (.ref a1)])) _
    refine XS.iconst X102.here hx rfl (hb hby d10_10) ?_
    show Steps p.tables e below (T102.setTop (mkF m 11 #[.val (.ref a1)] [(.int (1 : Int32)), (.int (8 : Int32)), (.int (0 : Int32)), (.ref a1)])) _
    refine XS.isub X102.here hx rfl (hb hby d10_11) rfl ?_
    show Steps p.tables e below (T102.setTop (mkF m 12 #[.val (.ref a1)] [(.int (7 : Int32)), (.int (0 : Int32)), (.ref a1)])) _
    refine XS.icmpYes X102.here hx rfl (pc0 := 12) (pc' := 19) rfl (hb hby d10_12) rfl (own_nt (ic_ne _ _) (by decide)) (by decide) (by decide) ?_
    show Steps p.tables e below (T102.setTop (mkF m 19 #[.val (.ref a1)] [(.ref a1)])) _
    refine XS.aloadN X102.here hx rfl (hb hby d10_19) rfl rfl ?_
    show Steps p.tables e below (T102.setTop (mkF m 20 #[.val (.ref a1)] [(.ref a1), (.ref a1)])) _
    refine st104 _ ?_
    show Steps p.tables e below (T104.setTop (mkF m 23 #[.val (.ref a1)] [(.int (0 : Int32)), (.ref a1)])) _
    refine XS.iconst X104.here hx rfl (hb hby d10_23) ?_
    show Steps p.tables e below (T104.setTop (mkF m 24 #[.val (.ref a1)] [(.int (1 : Int32)), (.int (0 : Int32)), (.ref a1)])) _
    refine XS.iadd X104.here hx rfl (hb hby d10_24) rfl ?_
    show Steps p.tables e below (T104.setTop (mkF m 25 #[.val (.ref a1)] [(.int (1 : Int32)), (.ref a1)])) _
    refine st105 _ ?_
    show Steps p.tables e below (T105.setTop (mkF m 28 #[.val (.ref a1)] [])) _
    refine XS.aloadN X105.here hx rfl (hb hby d10_28) rfl rfl ?_
    show Steps p.tables e below (T105.setTop (mkF m 29 #[.val (.ref a1)] [(.ref a1)])) _
    refine XS.dup X105.here hx rfl (hb hby d10_29) rfl rfl ?_
    show Steps p.tables e below (T105.setTop (mkF m 30 #[.val (.ref a1)] [(.ref a1), (.ref a1)])) _
    refine st107 _ ?_
    show Steps p.tables e below (T107.setTop (mkF m 33 #[.val (.ref a1)] [(.int (1 : Int32)), (.ref a1)])) _
    refine XS.iconst X107.here hx rfl (hb hby d10_33) ?_
    show Steps p.tables e below (T107.setTop (mkF m 34 #[.val (.ref a1)] [(.int (1 : Int32)), (.int (1 : Int32)), (.ref a1)])) _
    refine XS.isub X107.here hx rfl (hb hby d10_34) rfl ?_
    show Steps p.tables e below (T107.setTop (mkF m 35 #[.val (.ref a1)] [(.int (0 : Int32)), (.ref a1)])) _
    refine st109 _ ?_
    show Steps p.tables e below (T109.setTop (mkF m 38 #[.val (.ref a1)] [])) _
    exact X109.returnOut hx Bd.returns (hb hby d10_38) hr
theorem ef_rm0 (m : MethodId) (x0 : Int32) (x1 : Int32) : entryFrame m #[(.int x0), (.int x1)] maxLocals = mkF m 0 #[.val (.int x0), .val (.int x1), .unset, .unset] [] := by first | (simp [entryFrame, mkF, argsToLocals, Value.category, maxLocals]; done) | rfl
theorem pd___V : parseMethodDescriptor "()V" = some ⟨[], none⟩ := by decide +kernel
theorem pd__Lcom_example_tenrec_tenrec_pool_RequestQueue_III_V : parseMethodDescriptor "(Lcom/example/tenrec/tenrec/pool/RequestQueue;III)V" = some ⟨[(.object "com/example/tenrec/tenrec/pool/RequestQueue"), .int, .int, .int], none⟩ := by decide +kernel
theorem pd__Lcom_example_tenrec_tenrec_pool_RequestQueue_IIII_Z : parseMethodDescriptor "(Lcom/example/tenrec/tenrec/pool/RequestQueue;IIII)Z" = some ⟨[(.object "com/example/tenrec/tenrec/pool/RequestQueue"), .int, .int, .int, .int], some .boolean⟩ := by decide +kernel
def Q0 (Z : State) (p0 : Int32) (p1 : Int32) (h0 : Heap) (n0 : Nat) (v : Option Value) (h : Heap) (L : List Loc) : Prop := v = some (.int 1) ∧ Fr n0 L
set_option maxRecDepth 65536 in
set_option maxHeartbeats 40000000 in
theorem rm0 (l : Launch) (Z : State) (a0 : Array Value) (hw : ∀ d ∈ tables_1, d.before a0 Z = true) (ws : List Jvm.Cond) (p0 : Int32) (p1 : Int32) (h0 : Heap) (n0 : Nat) (Z0 : n0 ≤ h0.size) :
    OMet l Z x code maxLocals ret ws room_1 #[(.int p0), (.int p1)] h0 (Q0 Z p0 p1 h0 n0) := by
  refine own_body (plainFor_of_name pn_com_example_tenrec_tenrec_pool_RequestQueueRemoveFirstPinLaw) ?_
  intro p e s m below meth c s₁ Bd hml0 hZ e0
  have hx := Bd.exec
  have hby := Bd.bytes
  have hml : c.maxLocals = 4 := hml0
  have hown : s.vm.findClass "com/example/tenrec/tenrec/pool/RequestQueueRemoveFirstPinLaw" = some m.cls := findClass_of_methodNamed Bd.named
  have hnm := (name_of_methodNamed Bd.named Bd.method).1
  have X0 : Stand p l e room_1 s m #[(.int p0), (.int p1)] below meth c s₁ [] 0 0 := Stand.of_body Bd
  have N0 := Fr.nil n0
  have K0 : Keep h0 h0 [] := Keep.refl _ _
  rw [ef_rm0]
  obtain ⟨T101, h101, X101, e101, E101, A101, D101, -, st101⟩ := newO X0 hx hZ hown (hw _ (List.mem_of_getElem? (i := 0) rfl)) (hw _ (List.mem_of_getElem? (i := 1) rfl)) (hw _ (List.mem_of_getElem? (i := 2) rfl)) e0 (g := (mkF m 0 #[.val (.int p0), .val (.int p1), .unset, .unset] [])) rfl (hb hby at_0) (by decide) (by decide)
  obtain ⟨b101, g101⟩ : ∃ z, z = h0.size := ⟨_, rfl⟩
  have g_b101 : n0 ≤ b101 := Nat.le_trans Z0 (Nat.le_of_eq g101.symm)
  have sz_b101 : h0.size ≤ b101 := Nat.le_trans K0.1 (Nat.le_of_eq g101.symm)
  rw [← g101] at A101 D101 st101
  have K101 : Keep h0 h101 [] := K0.ext E101
  have F_arrivals_b101 : Fld Z h101 b101 "com/example/tenrec/tenrec/pool/RequestQueue" "arrivals" "[D" .null := D101 (Or.inl (hw _ (List.mem_of_getElem? (i := 11) rfl))) (ty := (.array .double)) (by decide)
  have F_sizes_b101 : Fld Z h101 b101 "com/example/tenrec/tenrec/pool/RequestQueue" "sizes" "[D" .null := D101 (Or.inl (hw _ (List.mem_of_getElem? (i := 13) rfl))) (ty := (.array .double)) (by decide)
  have F_count_b101 : Fld Z h101 b101 "com/example/tenrec/tenrec/pool/RequestQueue" "count" "I" (.int (0 : Int32)) := D101 (Or.inl (hw _ (List.mem_of_getElem? (i := 24) rfl))) (ty := .int) (by decide)
  have F_head_b101 : Fld Z h101 b101 "com/example/tenrec/tenrec/pool/RequestQueue" "head" "I" (.int (0 : Int32)) := D101 (Or.inl (hw _ (List.mem_of_getElem? (i := 26) rfl))) (ty := .int) (by decide)
  have z103 : n0 ≤ h101.size := (Nat.le_trans Z0 E101.1)
  obtain ⟨v102, T102, L102, X102, q102, st102⟩ := own_callI X101 hx hZ (y := (⟨"com/example/tenrec/tenrec/pool/RequestQueue", "<init>", "()V"⟩ : MethodName)) rfl hown (hw _ (List.mem_of_getElem? (i := 3) rfl)) (hw _ (List.mem_of_getElem? (i := 4) rfl)) (hw _ (List.mem_of_getElem? (i := 2) rfl)) (hw _ (List.mem_of_getElem? (i := 5) rfl)) (by decide) (a := b101) (hM := (rm1 l Z a0 hw [] b101 h101 n0 z103 g_b101 A101 F_arrivals_b101 F_sizes_b101 F_count_b101 F_head_b101)) (by decide) (by decide) (by decide) (by decide) e101 (argsL := []) (rest := [(.ref b101)]) (Ls := #[.val (.int p0), .val (.int p1), .unset, .unset]) (by rw [hml]; rfl) (lenOf pd___V rfl) (W := 1) (Nat.le_of_eq rfl) (hb hby at_4)
  obtain ⟨b1102, b2102, k1102, k2102, szq_b1102, szq_b2102, ne3102, rfl, N102q, K102q, E102q, FA102q, FS102q, FC102q, FH102q, VA102q, VS102q⟩ := q102
  have N102 := Fr.app N0 N102q
  have K102 : Keep h0 T102.heap [] := K101.trans K102q (allS (Or.inr sz_b101) all0)
  have g_b1102 : n0 ≤ b1102 := Nat.le_trans z103 szq_b1102
  have sz_b1102 : h0.size ≤ b1102 := Nat.le_trans K101.1 szq_b1102
  have g_b2102 : n0 ≤ b2102 := Nat.le_trans z103 szq_b2102
  have sz_b2102 : h0.size ≤ b2102 := Nat.le_trans K101.1 szq_b2102
  have z105 : n0 ≤ T102.heap.size := (Nat.le_trans z103 K102q.1)
  obtain ⟨v104, T104, L104, X104, q104, st104⟩ := own_callS X102 hx hZ (y := (⟨"com/example/tenrec/tenrec/pool/RequestQueueRemoveFirstPinLaw", "put", "(Lcom/example/tenrec/tenrec/pool/RequestQueue;III)V"⟩ : MethodName)) hown (hw _ (List.mem_of_getElem? (i := 14) rfl)) (hw _ (List.mem_of_getElem? (i := 15) rfl)) (hw _ (List.mem_of_getElem? (i := 16) rfl)) (hw _ (List.mem_of_getElem? (i := 17) rfl)) (by decide) (hM := (rm3_0_0 l Z a0 hw [] b101 p0 p1 (0 : Int32) b1102 b2102 k1102 k2102 (0 : UInt64) (0 : UInt64) (0 : UInt64) (0 : UInt64) (0 : UInt64) (0 : UInt64) (0 : UInt64) (0 : UInt64) (0 : UInt64) (0 : UInt64) (0 : UInt64) (0 : UInt64) (0 : UInt64) (0 : UInt64) (0 : UInt64) (0 : UInt64) T102.heap n0 z105 g_b101 g_b1102 g_b2102 (Nat.ne_of_lt (Nat.lt_of_lt_of_le A101.lt szq_b1102)) (Nat.ne_of_lt (Nat.lt_of_lt_of_le A101.lt szq_b2102)) ne3102 E102q FA102q FS102q FC102q FH102q VA102q VS102q)) (by decide) (by decide) (by decide) (by decide) rfl (argsL := [(.ref b101), (.int p0), (.int p1), (.int (0 : Int32))]) (rest := []) (Ls := #[.val (.int p0), .val (.int p1), .val (.ref b101), .unset]) (by rw [hml]; rfl) (lenOf pd__Lcom_example_tenrec_tenrec_pool_RequestQueue_III_V rfl) (W := 0) (Nat.le_of_eq rfl) (hb hby at_12)
  obtain ⟨rfl, N104q, K104q, E104q, FA104q, FS104q, FC104q, FH104q, VA104q, VS104q⟩ := q104
  have N104 := Fr.app N102 N104q
  have K104 : Keep h0 T104.heap [] := K102.trans K104q (allS (Or.inr sz_b101) (allS (Or.inr sz_b1102) (allS (Or.inr sz_b2102) all0)))
  have z107 : n0 ≤ T104.heap.size := (Nat.le_trans z105 K104q.1)
  obtain ⟨v106, T106, L106, X106, q106, st106⟩ := own_callS X104 hx hZ (y := (⟨"com/example/tenrec/tenrec/pool/RequestQueueRemoveFirstPinLaw", "put", "(Lcom/example/tenrec/tenrec/pool/RequestQueue;III)V"⟩ : MethodName)) hown (hw _ (List.mem_of_getElem? (i := 14) rfl)) (hw _ (List.mem_of_getElem? (i := 15) rfl)) (hw _ (List.mem_of_getElem? (i := 16) rfl)) (hw _ (List.mem_of_getElem? (i := 17) rfl)) (by decide) (hM := (rm3_0_1 l Z a0 hw [] b101 p0 p1 (1 : Int32) b1102 b2102 k1102 k2102 (FP.i2d (p0 + (0 : Int32))) (0 : UInt64) (0 : UInt64) (0 : UInt64) (0 : UInt64) (0 : UInt64) (0 : UInt64) (0 : UInt64) (FP.i2d (p1 - (0 : Int32))) (0 : UInt64) (0 : UInt64) (0 : UInt64) (0 : UInt64) (0 : UInt64) (0 : UInt64) (0 : UInt64) T104.heap n0 z107 g_b101 g_b1102 g_b2102 (Nat.ne_of_lt (Nat.lt_of_lt_of_le A101.lt szq_b1102)) (Nat.ne_of_lt (Nat.lt_of_lt_of_le A101.lt szq_b2102)) ne3102 E104q FA104q FS104q FC104q FH104q VA104q VS104q)) (by decide) (by decide) (by decide) (by decide) rfl (argsL := [(.ref b101), (.int p0), (.int p1), (.int (1 : Int32))]) (rest := []) (Ls := #[.val (.int p0), .val (.int p1), .val (.ref b101), .unset]) (by rw [hml]; rfl) (lenOf pd__Lcom_example_tenrec_tenrec_pool_RequestQueue_III_V rfl) (W := 0) (Nat.le_of_eq rfl) (hb hby at_19)
  obtain ⟨rfl, N106q, K106q, E106q, FA106q, FS106q, FC106q, FH106q, VA106q, VS106q⟩ := q106
  have N106 := Fr.app N104 N106q
  have K106 : Keep h0 T106.heap [] := K104.trans K106q (allS (Or.inr sz_b101) (allS (Or.inr sz_b1102) (allS (Or.inr sz_b2102) all0)))
  have z109 : n0 ≤ T106.heap.size := (Nat.le_trans z107 K106q.1)
  obtain ⟨v108, T108, L108, X108, q108, st108⟩ := own_callS X106 hx hZ (y := (⟨"com/example/tenrec/tenrec/pool/RequestQueueRemoveFirstPinLaw", "put", "(Lcom/example/tenrec/tenrec/pool/RequestQueue;III)V"⟩ : MethodName)) hown (hw _ (List.mem_of_getElem? (i := 14) rfl)) (hw _ (List.mem_of_getElem? (i := 15) rfl)) (hw _ (List.mem_of_getElem? (i := 16) rfl)) (hw _ (List.mem_of_getElem? (i := 17) rfl)) (by decide) (hM := (rm3_0_2 l Z a0 hw [] b101 p0 p1 (2 : Int32) b1102 b2102 k1102 k2102 (FP.i2d (p0 + (0 : Int32))) (FP.i2d (p0 + (1 : Int32))) (0 : UInt64) (0 : UInt64) (0 : UInt64) (0 : UInt64) (0 : UInt64) (0 : UInt64) (FP.i2d (p1 - (0 : Int32))) (FP.i2d (p1 - (1 : Int32))) (0 : UInt64) (0 : UInt64) (0 : UInt64) (0 : UInt64) (0 : UInt64) (0 : UInt64) T106.heap n0 z109 g_b101 g_b1102 g_b2102 (Nat.ne_of_lt (Nat.lt_of_lt_of_le A101.lt szq_b1102)) (Nat.ne_of_lt (Nat.lt_of_lt_of_le A101.lt szq_b2102)) ne3102 E106q FA106q FS106q FC106q FH106q VA106q VS106q)) (by decide) (by decide) (by decide) (by decide) rfl (argsL := [(.ref b101), (.int p0), (.int p1), (.int (2 : Int32))]) (rest := []) (Ls := #[.val (.int p0), .val (.int p1), .val (.ref b101), .unset]) (by rw [hml]; rfl) (lenOf pd__Lcom_example_tenrec_tenrec_pool_RequestQueue_III_V rfl) (W := 0) (Nat.le_of_eq rfl) (hb hby at_26)
  obtain ⟨rfl, N108q, K108q, E108q, FA108q, FS108q, FC108q, FH108q, VA108q, VS108q⟩ := q108
  have N108 := Fr.app N106 N108q
  have K108 : Keep h0 T108.heap [] := K106.trans K108q (allS (Or.inr sz_b101) (allS (Or.inr sz_b1102) (allS (Or.inr sz_b2102) all0)))
  have z111 : n0 ≤ T108.heap.size := (Nat.le_trans z109 K108q.1)
  obtain ⟨v110, T110, L110, X110, q110, st110⟩ := own_callS X108 hx hZ (y := (⟨"com/example/tenrec/tenrec/pool/RequestQueueRemoveFirstPinLaw", "put", "(Lcom/example/tenrec/tenrec/pool/RequestQueue;III)V"⟩ : MethodName)) hown (hw _ (List.mem_of_getElem? (i := 14) rfl)) (hw _ (List.mem_of_getElem? (i := 15) rfl)) (hw _ (List.mem_of_getElem? (i := 16) rfl)) (hw _ (List.mem_of_getElem? (i := 17) rfl)) (by decide) (hM := (rm3_0_3 l Z a0 hw [] b101 p0 p1 (3 : Int32) b1102 b2102 k1102 k2102 (FP.i2d (p0 + (0 : Int32))) (FP.i2d (p0 + (1 : Int32))) (FP.i2d (p0 + (2 : Int32))) (0 : UInt64) (0 : UInt64) (0 : UInt64) (0 : UInt64) (0 : UInt64) (FP.i2d (p1 - (0 : Int32))) (FP.i2d (p1 - (1 : Int32))) (FP.i2d (p1 - (2 : Int32))) (0 : UInt64) (0 : UInt64) (0 : UInt64) (0 : UInt64) (0 : UInt64) T108.heap n0 z111 g_b101 g_b1102 g_b2102 (Nat.ne_of_lt (Nat.lt_of_lt_of_le A101.lt szq_b1102)) (Nat.ne_of_lt (Nat.lt_of_lt_of_le A101.lt szq_b2102)) ne3102 E108q FA108q FS108q FC108q FH108q VA108q VS108q)) (by decide) (by decide) (by decide) (by decide) rfl (argsL := [(.ref b101), (.int p0), (.int p1), (.int (3 : Int32))]) (rest := []) (Ls := #[.val (.int p0), .val (.int p1), .val (.ref b101), .unset]) (by rw [hml]; rfl) (lenOf pd__Lcom_example_tenrec_tenrec_pool_RequestQueue_III_V rfl) (W := 0) (Nat.le_of_eq rfl) (hb hby at_33)
  obtain ⟨rfl, N110q, K110q, E110q, FA110q, FS110q, FC110q, FH110q, VA110q, VS110q⟩ := q110
  have N110 := Fr.app N108 N110q
  have K110 : Keep h0 T110.heap [] := K108.trans K110q (allS (Or.inr sz_b101) (allS (Or.inr sz_b1102) (allS (Or.inr sz_b2102) all0)))
  have z113 : n0 ≤ T110.heap.size := (Nat.le_trans z111 K110q.1)
  obtain ⟨v112, T112, L112, X112, q112, st112⟩ := own_callS X110 hx hZ (y := (⟨"com/example/tenrec/tenrec/pool/RequestQueueRemoveFirstPinLaw", "put", "(Lcom/example/tenrec/tenrec/pool/RequestQueue;III)V"⟩ : MethodName)) hown (hw _ (List.mem_of_getElem? (i := 14) rfl)) (hw _ (List.mem_of_getElem? (i := 15) rfl)) (hw _ (List.mem_of_getElem? (i := 16) rfl)) (hw _ (List.mem_of_getElem? (i := 17) rfl)) (by decide) (hM := (rm3_0_4 l Z a0 hw [] b101 p0 p1 (4 : Int32) b1102 b2102 k1102 k2102 (FP.i2d (p0 + (0 : Int32))) (FP.i2d (p0 + (1 : Int32))) (FP.i2d (p0 + (2 : Int32))) (FP.i2d (p0 + (3 : Int32))) (0 : UInt64) (0 : UInt64) (0 : UInt64) (0 : UInt64) (FP.i2d (p1 - (0 : Int32))) (FP.i2d (p1 - (1 : Int32))) (FP.i2d (p1 - (2 : Int32))) (FP.i2d (p1 - (3 : Int32))) (0 : UInt64) (0 : UInt64) (0 : UInt64) (0 : UInt64) T110.heap n0 z113 g_b101 g_b1102 g_b2102 (Nat.ne_of_lt (Nat.lt_of_lt_of_le A101.lt szq_b1102)) (Nat.ne_of_lt (Nat.lt_of_lt_of_le A101.lt szq_b2102)) ne3102 E110q FA110q FS110q FC110q FH110q VA110q VS110q)) (by decide) (by decide) (by decide) (by decide) rfl (argsL := [(.ref b101), (.int p0), (.int p1), (.int (4 : Int32))]) (rest := []) (Ls := #[.val (.int p0), .val (.int p1), .val (.ref b101), .unset]) (by rw [hml]; rfl) (lenOf pd__Lcom_example_tenrec_tenrec_pool_RequestQueue_III_V rfl) (W := 0) (Nat.le_of_eq rfl) (hb hby at_40)
  obtain ⟨rfl, N112q, K112q, E112q, FA112q, FS112q, FC112q, FH112q, VA112q, VS112q⟩ := q112
  have N112 := Fr.app N110 N112q
  have K112 : Keep h0 T112.heap [] := K110.trans K112q (allS (Or.inr sz_b101) (allS (Or.inr sz_b1102) (allS (Or.inr sz_b2102) all0)))
  refine Gl.pre (S' := T112.setTop (mkF m 45 #[.val (.int p0), .val (.int p1), .val (.ref b101), .unset] [(.int p0), (.ref b101)])) (fun t kt => ?_) ?_
  · show Steps p.tables e below (s₁.setTop (mkF m 0 #[.val (.int p0), .val (.int p1), .unset, .unset] [])) _
    refine st101 _ ?_
    show Steps p.tables e below (T101.setTop (mkF m 3 #[.val (.int p0), .val (.int p1), .unset, .unset] [(.ref b101)])) _
    refine XS.dup X101.here hx rfl (hb hby at_3) rfl rfl ?_
    show Steps p.tables e below (T101.setTop (mkF m 4 #[.val (.int p0), .val (.int p1), .unset, .unset] [(.ref b101), (.ref b101)])) _
    refine st102 _ ?_
    show Steps p.tables e below (T102.setTop (mkF m 7 #[.val (.int p0), .val (.int p1), .unset, .unset] [(.ref b101)])) _
    refine XS.astoreN X102.here hx rfl (hb hby at_7) rfl rfl (l' := #[.val (.int p0), .val (.int p1), .val (.ref b101), .unset]) rfl ?_
    show Steps p.tables e below (T102.setTop (mkF m 8 #[.val (.int p0), .val (.int p1), .val (.ref b101), .unset] [])) _
    refine XS.aloadN X102.here hx rfl (hb hby at_8) rfl rfl ?_
    show Steps p.tables e below (T102.setTop (mkF m 9 #[.val (.int p0), .val (.int p1), .val (.ref b101), .unset] [(.ref b101)])) _
    refine XS.iloadN X102.here hx rfl (hb hby at_9) rfl ?_
    show Steps p.tables e below (T102.setTop (mkF m 10 #[.val (.int p0), .val (.int p1), .val (.ref b101), .unset] [(.int p0), (.ref b101)])) _
    refine XS.iloadN X102.here hx rfl (hb hby at_10) rfl ?_
    show Steps p.tables e below (T102.setTop (mkF m 11 #[.val (.int p0), .val (.int p1), .val (.ref b101), .unset] [(.int p1), (.int p0), (.ref b101)])) _
    refine XS.iconst X102.here hx rfl (hb hby at_11) ?_
    show Steps p.tables e below (T102.setTop (mkF m 12 #[.val (.int p0), .val (.int p1), .val (.ref b101), .unset] [(.int (0 : Int32)), (.int p1), (.int p0), (.ref b101)])) _
    refine st104 _ ?_
    show Steps p.tables e below (T104.setTop (mkF m 15 #[.val (.int p0), .val (.int p1), .val (.ref b101), .unset] [])) _
    refine XS.aloadN X104.here hx rfl (hb hby at_15) rfl rfl ?_
    show Steps p.tables e below (T104.setTop (mkF m 16 #[.val (.int p0), .val (.int p1), .val (.ref b101), .unset] [(.ref b101)])) _
    refine XS.iloadN X104.here hx rfl (hb hby at_16) rfl ?_
    show Steps p.tables e below (T104.setTop (mkF m 17 #[.val (.int p0), .val (.int p1), .val (.ref b101), .unset] [(.int p0), (.ref b101)])) _
    refine XS.iloadN X104.here hx rfl (hb hby at_17) rfl ?_
    show Steps p.tables e below (T104.setTop (mkF m 18 #[.val (.int p0), .val (.int p1), .val (.ref b101), .unset] [(.int p1), (.int p0), (.ref b101)])) _
    refine XS.iconst X104.here hx rfl (hb hby at_18) ?_
    show Steps p.tables e below (T104.setTop (mkF m 19 #[.val (.int p0), .val (.int p1), .val (.ref b101), .unset] [(.int (1 : Int32)), (.int p1), (.int p0), (.ref b101)])) _
    refine st106 _ ?_
    show Steps p.tables e below (T106.setTop (mkF m 22 #[.val (.int p0), .val (.int p1), .val (.ref b101), .unset] [])) _
    refine XS.aloadN X106.here hx rfl (hb hby at_22) rfl rfl ?_
    show Steps p.tables e below (T106.setTop (mkF m 23 #[.val (.int p0), .val (.int p1), .val (.ref b101), .unset] [(.ref b101)])) _
    refine XS.iloadN X106.here hx rfl (hb hby at_23) rfl ?_
    show Steps p.tables e below (T106.setTop (mkF m 24 #[.val (.int p0), .val (.int p1), .val (.ref b101), .unset] [(.int p0), (.ref b101)])) _
    refine XS.iloadN X106.here hx rfl (hb hby at_24) rfl ?_
    show Steps p.tables e below (T106.setTop (mkF m 25 #[.val (.int p0), .val (.int p1), .val (.ref b101), .unset] [(.int p1), (.int p0), (.ref b101)])) _
    refine XS.iconst X106.here hx rfl (hb hby at_25) ?_
    show Steps p.tables e below (T106.setTop (mkF m 26 #[.val (.int p0), .val (.int p1), .val (.ref b101), .unset] [(.int (2 : Int32)), (.int p1), (.int p0), (.ref b101)])) _
    refine st108 _ ?_
    show Steps p.tables e below (T108.setTop (mkF m 29 #[.val (.int p0), .val (.int p1), .val (.ref b101), .unset] [])) _
    refine XS.aloadN X108.here hx rfl (hb hby at_29) rfl rfl ?_
    show Steps p.tables e below (T108.setTop (mkF m 30 #[.val (.int p0), .val (.int p1), .val (.ref b101), .unset] [(.ref b101)])) _
    refine XS.iloadN X108.here hx rfl (hb hby at_30) rfl ?_
    show Steps p.tables e below (T108.setTop (mkF m 31 #[.val (.int p0), .val (.int p1), .val (.ref b101), .unset] [(.int p0), (.ref b101)])) _
    refine XS.iloadN X108.here hx rfl (hb hby at_31) rfl ?_
    show Steps p.tables e below (T108.setTop (mkF m 32 #[.val (.int p0), .val (.int p1), .val (.ref b101), .unset] [(.int p1), (.int p0), (.ref b101)])) _
    refine XS.iconst X108.here hx rfl (hb hby at_32) ?_
    show Steps p.tables e below (T108.setTop (mkF m 33 #[.val (.int p0), .val (.int p1), .val (.ref b101), .unset] [(.int (3 : Int32)), (.int p1), (.int p0), (.ref b101)])) _
    refine st110 _ ?_
    show Steps p.tables e below (T110.setTop (mkF m 36 #[.val (.int p0), .val (.int p1), .val (.ref b101), .unset] [])) _
    refine XS.aloadN X110.here hx rfl (hb hby at_36) rfl rfl ?_
    show Steps p.tables e below (T110.setTop (mkF m 37 #[.val (.int p0), .val (.int p1), .val (.ref b101), .unset] [(.ref b101)])) _
    refine XS.iloadN X110.here hx rfl (hb hby at_37) rfl ?_
    show Steps p.tables e below (T110.setTop (mkF m 38 #[.val (.int p0), .val (.int p1), .val (.ref b101), .unset] [(.int p0), (.ref b101)])) _
    refine XS.iloadN X110.here hx rfl (hb hby at_38) rfl ?_
    show Steps p.tables e below (T110.setTop (mkF m 39 #[.val (.int p0), .val (.int p1), .val (.ref b101), .unset] [(.int p1), (.int p0), (.ref b101)])) _
    refine XS.iconst X110.here hx rfl (hb hby at_39) ?_
    show Steps p.tables e below (T110.setTop (mkF m 40 #[.val (.int p0), .val (.int p1), .val (.ref b101), .unset] [(.int (4 : Int32)), (.int p1), (.int p0), (.ref b101)])) _
    refine st112 _ ?_
    show Steps p.tables e below (T112.setTop (mkF m 43 #[.val (.int p0), .val (.int p1), .val (.ref b101), .unset] [])) _
    refine XS.aloadN X112.here hx rfl (hb hby at_43) rfl rfl ?_
    show Steps p.tables e below (T112.setTop (mkF m 44 #[.val (.int p0), .val (.int p1), .val (.ref b101), .unset] [(.ref b101)])) _
    refine XS.iloadN X112.here hx rfl (hb hby at_44) rfl ?_
    exact kt
  have z115 : n0 ≤ T112.heap.size := (Nat.le_trans z113 K112q.1)
  obtain ⟨v114, T114, L114, X114, q114, st114⟩ := own_callS X112 hx hZ (y := (⟨"com/example/tenrec/tenrec/pool/RequestQueueRemoveFirstPinLaw", "put", "(Lcom/example/tenrec/tenrec/pool/RequestQueue;III)V"⟩ : MethodName)) hown (hw _ (List.mem_of_getElem? (i := 14) rfl)) (hw _ (List.mem_of_getElem? (i := 15) rfl)) (hw _ (List.mem_of_getElem? (i := 16) rfl)) (hw _ (List.mem_of_getElem? (i := 17) rfl)) (by decide) (hM := (rm3_0_5 l Z a0 hw [] b101 p0 p1 (5 : Int32) b1102 b2102 k1102 k2102 (FP.i2d (p0 + (0 : Int32))) (FP.i2d (p0 + (1 : Int32))) (FP.i2d (p0 + (2 : Int32))) (FP.i2d (p0 + (3 : Int32))) (FP.i2d (p0 + (4 : Int32))) (0 : UInt64) (0 : UInt64) (0 : UInt64) (FP.i2d (p1 - (0 : Int32))) (FP.i2d (p1 - (1 : Int32))) (FP.i2d (p1 - (2 : Int32))) (FP.i2d (p1 - (3 : Int32))) (FP.i2d (p1 - (4 : Int32))) (0 : UInt64) (0 : UInt64) (0 : UInt64) T112.heap n0 z115 g_b101 g_b1102 g_b2102 (Nat.ne_of_lt (Nat.lt_of_lt_of_le A101.lt szq_b1102)) (Nat.ne_of_lt (Nat.lt_of_lt_of_le A101.lt szq_b2102)) ne3102 E112q FA112q FS112q FC112q FH112q VA112q VS112q)) (by decide) (by decide) (by decide) (by decide) rfl (argsL := [(.ref b101), (.int p0), (.int p1), (.int (5 : Int32))]) (rest := []) (Ls := #[.val (.int p0), .val (.int p1), .val (.ref b101), .unset]) (by rw [hml]; rfl) (lenOf pd__Lcom_example_tenrec_tenrec_pool_RequestQueue_III_V rfl) (W := 0) (Nat.le_of_eq rfl) (hb hby at_47)
  obtain ⟨rfl, N114q, K114q, E114q, FA114q, FS114q, FC114q, FH114q, VA114q, VS114q⟩ := q114
  have N114 := Fr.app N112 N114q
  have K114 : Keep h0 T114.heap [] := K112.trans K114q (allS (Or.inr sz_b101) (allS (Or.inr sz_b1102) (allS (Or.inr sz_b2102) all0)))
  have z117 : n0 ≤ T114.heap.size := (Nat.le_trans z115 K114q.1)
  obtain ⟨v116, T116, L116, X116, q116, st116⟩ := own_callS X114 hx hZ (y := (⟨"com/example/tenrec/tenrec/pool/RequestQueueRemoveFirstPinLaw", "put", "(Lcom/example/tenrec/tenrec/pool/RequestQueue;III)V"⟩ : MethodName)) hown (hw _ (List.mem_of_getElem? (i := 14) rfl)) (hw _ (List.mem_of_getElem? (i := 15) rfl)) (hw _ (List.mem_of_getElem? (i := 16) rfl)) (hw _ (List.mem_of_getElem? (i := 17) rfl)) (by decide) (hM := (rm3_0_6 l Z a0 hw [] b101 p0 p1 (6 : Int32) b1102 b2102 k1102 k2102 (FP.i2d (p0 + (0 : Int32))) (FP.i2d (p0 + (1 : Int32))) (FP.i2d (p0 + (2 : Int32))) (FP.i2d (p0 + (3 : Int32))) (FP.i2d (p0 + (4 : Int32))) (FP.i2d (p0 + (5 : Int32))) (0 : UInt64) (0 : UInt64) (FP.i2d (p1 - (0 : Int32))) (FP.i2d (p1 - (1 : Int32))) (FP.i2d (p1 - (2 : Int32))) (FP.i2d (p1 - (3 : Int32))) (FP.i2d (p1 - (4 : Int32))) (FP.i2d (p1 - (5 : Int32))) (0 : UInt64) (0 : UInt64) T114.heap n0 z117 g_b101 g_b1102 g_b2102 (Nat.ne_of_lt (Nat.lt_of_lt_of_le A101.lt szq_b1102)) (Nat.ne_of_lt (Nat.lt_of_lt_of_le A101.lt szq_b2102)) ne3102 E114q FA114q FS114q FC114q FH114q VA114q VS114q)) (by decide) (by decide) (by decide) (by decide) rfl (argsL := [(.ref b101), (.int p0), (.int p1), (.int (6 : Int32))]) (rest := []) (Ls := #[.val (.int p0), .val (.int p1), .val (.ref b101), .unset]) (by rw [hml]; rfl) (lenOf pd__Lcom_example_tenrec_tenrec_pool_RequestQueue_III_V rfl) (W := 0) (Nat.le_of_eq rfl) (hb hby at_55)
  obtain ⟨rfl, N116q, K116q, E116q, FA116q, FS116q, FC116q, FH116q, VA116q, VS116q⟩ := q116
  have N116 := Fr.app N114 N116q
  have K116 : Keep h0 T116.heap [] := K114.trans K116q (allS (Or.inr sz_b101) (allS (Or.inr sz_b1102) (allS (Or.inr sz_b2102) all0)))
  have z119 : n0 ≤ T116.heap.size := (Nat.le_trans z117 K116q.1)
  obtain ⟨v118, T118, L118, X118, q118, st118⟩ := own_callS X116 hx hZ (y := (⟨"com/example/tenrec/tenrec/pool/RequestQueueRemoveFirstPinLaw", "put", "(Lcom/example/tenrec/tenrec/pool/RequestQueue;III)V"⟩ : MethodName)) hown (hw _ (List.mem_of_getElem? (i := 14) rfl)) (hw _ (List.mem_of_getElem? (i := 15) rfl)) (hw _ (List.mem_of_getElem? (i := 16) rfl)) (hw _ (List.mem_of_getElem? (i := 17) rfl)) (by decide) (hM := (rm3_0_7 l Z a0 hw [] b101 p0 p1 (7 : Int32) b1102 b2102 k1102 k2102 (FP.i2d (p0 + (0 : Int32))) (FP.i2d (p0 + (1 : Int32))) (FP.i2d (p0 + (2 : Int32))) (FP.i2d (p0 + (3 : Int32))) (FP.i2d (p0 + (4 : Int32))) (FP.i2d (p0 + (5 : Int32))) (FP.i2d (p0 + (6 : Int32))) (0 : UInt64) (FP.i2d (p1 - (0 : Int32))) (FP.i2d (p1 - (1 : Int32))) (FP.i2d (p1 - (2 : Int32))) (FP.i2d (p1 - (3 : Int32))) (FP.i2d (p1 - (4 : Int32))) (FP.i2d (p1 - (5 : Int32))) (FP.i2d (p1 - (6 : Int32))) (0 : UInt64) T116.heap n0 z119 g_b101 g_b1102 g_b2102 (Nat.ne_of_lt (Nat.lt_of_lt_of_le A101.lt szq_b1102)) (Nat.ne_of_lt (Nat.lt_of_lt_of_le A101.lt szq_b2102)) ne3102 E116q FA116q FS116q FC116q FH116q VA116q VS116q)) (by decide) (by decide) (by decide) (by decide) rfl (argsL := [(.ref b101), (.int p0), (.int p1), (.int (7 : Int32))]) (rest := []) (Ls := #[.val (.int p0), .val (.int p1), .val (.ref b101), .unset]) (by rw [hml]; rfl) (lenOf pd__Lcom_example_tenrec_tenrec_pool_RequestQueue_III_V rfl) (W := 0) (Nat.le_of_eq rfl) (hb hby at_63)
  obtain ⟨rfl, N118q, K118q, E118q, FA118q, FS118q, FC118q, FH118q, VA118q, VS118q⟩ := q118
  have N118 := Fr.app N116 N118q
  have K118 : Keep h0 T118.heap [] := K116.trans K118q (allS (Or.inr sz_b101) (allS (Or.inr sz_b1102) (allS (Or.inr sz_b2102) all0)))
  have z121 : n0 ≤ T118.heap.size := (Nat.le_trans z119 K118q.1)
  obtain ⟨v120, T120, L120, X120, q120, st120⟩ := own_callS X118 hx hZ (y := (⟨"com/example/tenrec/tenrec/pool/RequestQueueRemoveFirstPinLaw", "front", "(Lcom/example/tenrec/tenrec/pool/RequestQueue;IIII)Z"⟩ : MethodName)) hown (hw _ (List.mem_of_getElem? (i := 27) rfl)) (hw _ (List.mem_of_getElem? (i := 28) rfl)) (hw _ (List.mem_of_getElem? (i := 16) rfl)) (hw _ (List.mem_of_getElem? (i := 29) rfl)) (by decide) (hM := (rm5_0_8 l Z a0 hw [] b101 p0 p1 (0 : Int32) b1102 b2102 k1102 k2102 (FP.i2d (p0 + (1 : Int32))) (FP.i2d (p0 + (2 : Int32))) (FP.i2d (p0 + (3 : Int32))) (FP.i2d (p0 + (4 : Int32))) (FP.i2d (p0 + (5 : Int32))) (FP.i2d (p0 + (6 : Int32))) (FP.i2d (p0 + (7 : Int32))) (FP.i2d (p1 - (1 : Int32))) (FP.i2d (p1 - (2 : Int32))) (FP.i2d (p1 - (3 : Int32))) (FP.i2d (p1 - (4 : Int32))) (FP.i2d (p1 - (5 : Int32))) (FP.i2d (p1 - (6 : Int32))) (FP.i2d (p1 - (7 : Int32))) T118.heap n0 z121 g_b101 g_b1102 g_b2102 (Nat.ne_of_lt (Nat.lt_of_lt_of_le A101.lt szq_b1102)) (Nat.ne_of_lt (Nat.lt_of_lt_of_le A101.lt szq_b2102)) ne3102 E118q FA118q FS118q FC118q FH118q VA118q VS118q)) (by decide) (by decide) (by decide) (by decide) rfl (argsL := [(.ref b101), (.int (8 : Int32)), (.int p0), (.int p1), (.int (0 : Int32))]) (rest := []) (Ls := #[.val (.int p0), .val (.int p1), .val (.ref b101), .unset]) (by rw [hml]; rfl) (lenOf pd__Lcom_example_tenrec_tenrec_pool_RequestQueue_IIII_Z rfl) (W := 0) (Nat.le_of_eq rfl) (hb hby at_72)
  obtain ⟨rfl, N120q, e120⟩ := q120
  have N120 := Fr.app N118 N120q
  obtain ⟨v122, T122, L122, X122, q122, st122⟩ := own_callV X120 hx hZ (y := (⟨"com/example/tenrec/tenrec/pool/RequestQueue", "removeFirst", "()V"⟩ : MethodName)) (z := (⟨"com/example/tenrec/tenrec/pool/RequestQueue", "removeFirst", "()V"⟩ : MethodName)) hown (hw _ (List.mem_of_getElem? (i := 50) rfl)) (hw _ (List.mem_of_getElem? (i := 51) rfl)) (notFace_of_selects (args := #[]) (mvT hZ (hw _ (List.mem_of_getElem? (i := 53) rfl)))) (hw _ (List.mem_of_getElem? (i := 53) rfl)) (hw _ (List.mem_of_getElem? (i := 52) rfl)) (hw _ (List.mem_of_getElem? (i := 2) rfl)) (hw _ (List.mem_of_getElem? (i := 54) rfl)) (by decide) E118q (hM := (rm10_0_8 l Z a0 hw [] b101 b1102 b2102 k1102 k2102 (FP.i2d (p0 + (0 : Int32))) (FP.i2d (p0 + (1 : Int32))) (FP.i2d (p0 + (2 : Int32))) (FP.i2d (p0 + (3 : Int32))) (FP.i2d (p0 + (4 : Int32))) (FP.i2d (p0 + (5 : Int32))) (FP.i2d (p0 + (6 : Int32))) (FP.i2d (p0 + (7 : Int32))) (FP.i2d (p1 - (0 : Int32))) (FP.i2d (p1 - (1 : Int32))) (FP.i2d (p1 - (2 : Int32))) (FP.i2d (p1 - (3 : Int32))) (FP.i2d (p1 - (4 : Int32))) (FP.i2d (p1 - (5 : Int32))) (FP.i2d (p1 - (6 : Int32))) (FP.i2d (p1 - (7 : Int32))) T118.heap n0 z121 g_b101 g_b1102 g_b2102 (Nat.ne_of_lt (Nat.lt_of_lt_of_le A101.lt szq_b1102)) (Nat.ne_of_lt (Nat.lt_of_lt_of_le A101.lt szq_b2102)) ne3102 E118q FA118q FS118q FC118q FH118q VA118q VS118q)) (by decide) (by decide) (by decide) (by decide) e120 (argsL := []) (rest := []) (Ls := #[.val (.int p0), .val (.int p1), .val (.ref b101), .val (.int (1 : Int32))]) (by rw [hml]; rfl) (lenOf pd___V rfl) (W := 0) (Nat.le_of_eq rfl) (hb hby at_77)
  obtain ⟨rfl, N122q, K122q, E122q, FA122q, FS122q, FC122q, FH122q, VA122q, VS122q⟩ := q122
  have N122 := Fr.app N120 N122q
  have K122 : Keep h0 T122.heap [] := K118.trans K122q (allS (Or.inr sz_b101) all0)
  have z124 : n0 ≤ T122.heap.size := (Nat.le_trans z121 K122q.1)
  obtain ⟨v123, T123, L123, X123, q123, st123⟩ := own_callS X122 hx hZ (y := (⟨"com/example/tenrec/tenrec/pool/RequestQueueRemoveFirstPinLaw", "front", "(Lcom/example/tenrec/tenrec/pool/RequestQueue;IIII)Z"⟩ : MethodName)) hown (hw _ (List.mem_of_getElem? (i := 27) rfl)) (hw _ (List.mem_of_getElem? (i := 28) rfl)) (hw _ (List.mem_of_getElem? (i := 16) rfl)) (hw _ (List.mem_of_getElem? (i := 29) rfl)) (by decide) (hM := (rm5_1_7 l Z a0 hw [] b101 p0 p1 (1 : Int32) b1102 b2102 k1102 k2102 (FP.i2d (p0 + (0 : Int32))) (FP.i2d (p0 + (2 : Int32))) (FP.i2d (p0 + (3 : Int32))) (FP.i2d (p0 + (4 : Int32))) (FP.i2d (p0 + (5 : Int32))) (FP.i2d (p0 + (6 : Int32))) (FP.i2d (p0 + (7 : Int32))) (FP.i2d (p1 - (0 : Int32))) (FP.i2d (p1 - (2 : Int32))) (FP.i2d (p1 - (3 : Int32))) (FP.i2d (p1 - (4 : Int32))) (FP.i2d (p1 - (5 : Int32))) (FP.i2d (p1 - (6 : Int32))) (FP.i2d (p1 - (7 : Int32))) T122.heap n0 z124 g_b101 g_b1102 g_b2102 (Nat.ne_of_lt (Nat.lt_of_lt_of_le A101.lt szq_b1102)) (Nat.ne_of_lt (Nat.lt_of_lt_of_le A101.lt szq_b2102)) ne3102 E122q FA122q FS122q FC122q FH122q VA122q VS122q)) (by decide) (by decide) (by decide) (by decide) rfl (argsL := [(.ref b101), (.int (7 : Int32)), (.int p0), (.int p1), (.int (1 : Int32))]) (rest := [(.int (1 : Int32))]) (Ls := #[.val (.int p0), .val (.int p1), .val (.ref b101), .val (.int (1 : Int32))]) (by rw [hml]; rfl) (lenOf pd__Lcom_example_tenrec_tenrec_pool_RequestQueue_IIII_Z rfl) (W := 1) (Nat.le_of_eq rfl) (hb hby at_87)
  obtain ⟨rfl, N123q, e123⟩ := q123
  have N123 := Fr.app N122 N123q
  refine Gl.pre (S' := T123.setTop (mkF m 92 #[.val (.int p0), .val (.int p1), .val (.ref b101), .val (.int (1 : Int32))] [])) (fun t kt => ?_) ?_
  · show Steps p.tables e below (T112.setTop (mkF m 45 #[.val (.int p0), .val (.int p1), .val (.ref b101), .unset] [(.int p0), (.ref b101)])) _
    refine XS.iloadN X112.here hx rfl (hb hby at_45) rfl ?_
    show Steps p.tables e below (T112.setTop (mkF m 46 #[.val (.int p0), .val (.int p1), .val (.ref b101), .unset] [(.int p1), (.int p0), (.ref b101)])) _
    refine XS.iconst X112.here hx rfl (hb hby at_46) ?_
    show Steps p.tables e below (T112.setTop (mkF m 47 #[.val (.int p0), .val (.int p1), .val (.ref b101), .unset] [(.int (5 : Int32)), (.int p1), (.int p0), (.ref b101)])) _
    refine st114 _ ?_
    show Steps p.tables e below (T114.setTop (mkF m 50 #[.val (.int p0), .val (.int p1), .val (.ref b101), .unset] [])) _
    refine XS.aloadN X114.here hx rfl (hb hby at_50) rfl rfl ?_
    show Steps p.tables e below (T114.setTop (mkF m 51 #[.val (.int p0), .val (.int p1), .val (.ref b101), .unset] [(.ref b101)])) _
    refine XS.iloadN X114.here hx rfl (hb hby at_51) rfl ?_
    show Steps p.tables e below (T114.setTop (mkF m 52 #[.val (.int p0), .val (.int p1), .val (.ref b101), .unset] [(.int p0), (.ref b101)])) _
    refine XS.iloadN X114.here hx rfl (hb hby at_52) rfl ?_
    show Steps p.tables e below (T114.setTop (mkF m 53 #[.val (.int p0), .val (.int p1), .val (.ref b101), .unset] [(.int p1), (.int p0), (.ref b101)])) _
    refine XS.bipush X114.here hx rfl (hb hby at_53) ?_
    show Steps p.tables e below (T114.setTop (mkF m 55 #[.val (.int p0), .val (.int p1), .val (.ref b101), .unset] [(.int (6 : Int32)), (.int p1), (.int p0), (.ref b101)])) _
    refine st116 _ ?_
    show Steps p.tables e below (T116.setTop (mkF m 58 #[.val (.int p0), .val (.int p1), .val (.ref b101), .unset] [])) _
    refine XS.aloadN X116.here hx rfl (hb hby at_58) rfl rfl ?_
    show Steps p.tables e below (T116.setTop (mkF m 59 #[.val (.int p0), .val (.int p1), .val (.ref b101), .unset] [(.ref b101)])) _
    refine XS.iloadN X116.here hx rfl (hb hby at_59) rfl ?_
    show Steps p.tables e below (T116.setTop (mkF m 60 #[.val (.int p0), .val (.int p1), .val (.ref b101), .unset] [(.int p0), (.ref b101)])) _
    refine XS.iloadN X116.here hx rfl (hb hby at_60) rfl ?_
    show Steps p.tables e below (T116.setTop (mkF m 61 #[.val (.int p0), .val (.int p1), .val (.ref b101), .unset] [(.int p1), (.int p0), (.ref b101)])) _
    refine XS.bipush X116.here hx rfl (hb hby at_61) ?_
    show Steps p.tables e below (T116.setTop (mkF m 63 #[.val (.int p0), .val (.int p1), .val (.ref b101), .unset] [(.int (7 : Int32)), (.int p1), (.int p0), (.ref b101)])) _
    refine st118 _ ?_
    show Steps p.tables e below (T118.setTop (mkF m 66 #[.val (.int p0), .val (.int p1), .val (.ref b101), .unset] [])) _
    refine XS.aloadN X118.here hx rfl (hb hby at_66) rfl rfl ?_
    show Steps p.tables e below (T118.setTop (mkF m 67 #[.val (.int p0), .val (.int p1), .val (.ref b101), .unset] [(.ref b101)])) _
    refine XS.bipush X118.here hx rfl (hb hby at_67) ?_
    show Steps p.tables e below (T118.setTop (mkF m 69 #[.val (.int p0), .val (.int p1), .val (.ref b101), .unset] [(.int (8 : Int32)), (.ref b101)])) _
    refine XS.iloadN X118.here hx rfl (hb hby at_69) rfl ?_
    show Steps p.tables e below (T118.setTop (mkF m 70 #[.val (.int p0), .val (.int p1), .val (.ref b101), .unset] [(.int p0), (.int (8 : Int32)), (.ref b101)])) _
    refine XS.iloadN X118.here hx rfl (hb hby at_70) rfl ?_
    show Steps p.tables e below (T118.setTop (mkF m 71 #[.val (.int p0), .val (.int p1), .val (.ref b101), .unset] [(.int p1), (.int p0), (.int (8 : Int32)), (.ref b101)])) _
    refine XS.iconst X118.here hx rfl (hb hby at_71) ?_
    show Steps p.tables e below (T118.setTop (mkF m 72 #[.val (.int p0), .val (.int p1), .val (.ref b101), .unset] [(.int (0 : Int32)), (.int p1), (.int p0), (.int (8 : Int32)), (.ref b101)])) _
    refine st120 _ ?_
    show Steps p.tables e below (T120.setTop (mkF m 75 #[.val (.int p0), .val (.int p1), .val (.ref b101), .unset] [(.int (1 : Int32))])) _
    refine XS.istoreN X120.here hx rfl (hb hby at_75) rfl (l' := #[.val (.int p0), .val (.int p1), .val (.ref b101), .val (.int (1 : Int32))]) rfl ?_
    show Steps p.tables e below (T120.setTop (mkF m 76 #[.val (.int p0), .val (.int p1), .val (.ref b101), .val (.int (1 : Int32))] [])) _
    refine XS.aloadN X120.here hx rfl (hb hby at_76) rfl rfl ?_
    show Steps p.tables e below (T120.setTop (mkF m 77 #[.val (.int p0), .val (.int p1), .val (.ref b101), .val (.int (1 : Int32))] [(.ref b101)])) _
    refine st122 _ ?_
    show Steps p.tables e below (T122.setTop (mkF m 80 #[.val (.int p0), .val (.int p1), .val (.ref b101), .val (.int (1 : Int32))] [])) _
    refine XS.iloadN X122.here hx rfl (hb hby at_80) rfl ?_
    show Steps p.tables e below (T122.setTop (mkF m 81 #[.val (.int p0), .val (.int p1), .val (.ref b101), .val (.int (1 : Int32))] [(.int (1 : Int32))])) _
    refine XS.aloadN X122.here hx rfl (hb hby at_81) rfl rfl ?_
    show Steps p.tables e below (T122.setTop (mkF m 82 #[.val (.int p0), .val (.int p1), .val (.ref b101), .val (.int (1 : Int32))] [(.ref b101), (.int (1 : Int32))])) _
    refine XS.bipush X122.here hx rfl (hb hby at_82) ?_
    show Steps p.tables e below (T122.setTop (mkF m 84 #[.val (.int p0), .val (.int p1), .val (.ref b101), .val (.int (1 : Int32))] [(.int (7 : Int32)), (.ref b101), (.int (1 : Int32))])) _
    refine XS.iloadN X122.here hx rfl (hb hby at_84) rfl ?_
    show Steps p.tables e below (T122.setTop (mkF m 85 #[.val (.int p0), .val (.int p1), .val (.ref b101), .val (.int (1 : Int32))] [(.int p0), (.int (7 : Int32)), (.ref b101), (.int (1 : Int32))])) _
    refine XS.iloadN X122.here hx rfl (hb hby at_85) rfl ?_
    show Steps p.tables e below (T122.setTop (mkF m 86 #[.val (.int p0), .val (.int p1), .val (.ref b101), .val (.int (1 : Int32))] [(.int p1), (.int p0), (.int (7 : Int32)), (.ref b101), (.int (1 : Int32))])) _
    refine XS.iconst X122.here hx rfl (hb hby at_86) ?_
    show Steps p.tables e below (T122.setTop (mkF m 87 #[.val (.int p0), .val (.int p1), .val (.ref b101), .val (.int (1 : Int32))] [(.int (1 : Int32)), (.int p1), (.int p0), (.int (7 : Int32)), (.ref b101), (.int (1 : Int32))])) _
    refine st123 _ ?_
    show Steps p.tables e below (T123.setTop (mkF m 90 #[.val (.int p0), .val (.int p1), .val (.ref b101), .val (.int (1 : Int32))] [(.int (1 : Int32)), (.int (1 : Int32))])) _
    refine XS.iand X123.here hx rfl (hb hby at_90) rfl ?_
    show Steps p.tables e below (T123.setTop (mkF m 91 #[.val (.int p0), .val (.int p1), .val (.ref b101), .val (.int (1 : Int32))] [(.int (1 : Int32))])) _
    refine XS.istoreN X123.here hx rfl (hb hby at_91) rfl (l' := #[.val (.int p0), .val (.int p1), .val (.ref b101), .val (.int (1 : Int32))]) rfl ?_
    exact kt
  obtain ⟨v125, T125, L125, X125, q125, st125⟩ := own_callV X123 hx hZ (y := (⟨"com/example/tenrec/tenrec/pool/RequestQueue", "removeFirst", "()V"⟩ : MethodName)) (z := (⟨"com/example/tenrec/tenrec/pool/RequestQueue", "removeFirst", "()V"⟩ : MethodName)) hown (hw _ (List.mem_of_getElem? (i := 50) rfl)) (hw _ (List.mem_of_getElem? (i := 51) rfl)) (notFace_of_selects (args := #[]) (mvT hZ (hw _ (List.mem_of_getElem? (i := 53) rfl)))) (hw _ (List.mem_of_getElem? (i := 53) rfl)) (hw _ (List.mem_of_getElem? (i := 52) rfl)) (hw _ (List.mem_of_getElem? (i := 2) rfl)) (hw _ (List.mem_of_getElem? (i := 54) rfl)) (by decide) E122q (hM := (rm10_1_7 l Z a0 hw [] b101 b1102 b2102 k1102 k2102 (FP.i2d (p0 + (0 : Int32))) (FP.i2d (p0 + (1 : Int32))) (FP.i2d (p0 + (2 : Int32))) (FP.i2d (p0 + (3 : Int32))) (FP.i2d (p0 + (4 : Int32))) (FP.i2d (p0 + (5 : Int32))) (FP.i2d (p0 + (6 : Int32))) (FP.i2d (p0 + (7 : Int32))) (FP.i2d (p1 - (0 : Int32))) (FP.i2d (p1 - (1 : Int32))) (FP.i2d (p1 - (2 : Int32))) (FP.i2d (p1 - (3 : Int32))) (FP.i2d (p1 - (4 : Int32))) (FP.i2d (p1 - (5 : Int32))) (FP.i2d (p1 - (6 : Int32))) (FP.i2d (p1 - (7 : Int32))) T122.heap n0 z124 g_b101 g_b1102 g_b2102 (Nat.ne_of_lt (Nat.lt_of_lt_of_le A101.lt szq_b1102)) (Nat.ne_of_lt (Nat.lt_of_lt_of_le A101.lt szq_b2102)) ne3102 E122q FA122q FS122q FC122q FH122q VA122q VS122q)) (by decide) (by decide) (by decide) (by decide) e123 (argsL := []) (rest := []) (Ls := #[.val (.int p0), .val (.int p1), .val (.ref b101), .val (.int (1 : Int32))]) (by rw [hml]; rfl) (lenOf pd___V rfl) (W := 0) (Nat.le_of_eq rfl) (hb hby at_93)
  obtain ⟨rfl, N125q, K125q, E125q, FA125q, FS125q, FC125q, FH125q, VA125q, VS125q⟩ := q125
  have N125 := Fr.app N123 N125q
  have K125 : Keep h0 T125.heap [] := K122.trans K125q (allS (Or.inr sz_b101) all0)
  have z127 : n0 ≤ T125.heap.size := (Nat.le_trans z124 K125q.1)
  obtain ⟨v126, T126, L126, X126, q126, st126⟩ := own_callS X125 hx hZ (y := (⟨"com/example/tenrec/tenrec/pool/RequestQueueRemoveFirstPinLaw", "front", "(Lcom/example/tenrec/tenrec/pool/RequestQueue;IIII)Z"⟩ : MethodName)) hown (hw _ (List.mem_of_getElem? (i := 27) rfl)) (hw _ (List.mem_of_getElem? (i := 28) rfl)) (hw _ (List.mem_of_getElem? (i := 16) rfl)) (hw _ (List.mem_of_getElem? (i := 29) rfl)) (by decide) (hM := (rm5_2_6 l Z a0 hw [] b101 p0 p1 (2 : Int32) b1102 b2102 k1102 k2102 (FP.i2d (p0 + (0 : Int32))) (FP.i2d (p0 + (1 : Int32))) (FP.i2d (p0 + (3 : Int32))) (FP.i2d (p0 + (4 : Int32))) (FP.i2d (p0 + (5 : Int32))) (FP.i2d (p0 + (6 : Int32))) (FP.i2d (p0 + (7 : Int32))) (FP.i2d (p1 - (0 : Int32))) (FP.i2d (p1 - (1 : Int32))) (FP.i2d (p1 - (3 : Int32))) (FP.i2d (p1 - (4 : Int32))) (FP.i2d (p1 - (5 : Int32))) (FP.i2d (p1 - (6 : Int32))) (FP.i2d (p1 - (7 : Int32))) T125.heap n0 z127 g_b101 g_b1102 g_b2102 (Nat.ne_of_lt (Nat.lt_of_lt_of_le A101.lt szq_b1102)) (Nat.ne_of_lt (Nat.lt_of_lt_of_le A101.lt szq_b2102)) ne3102 E125q FA125q FS125q FC125q FH125q VA125q VS125q)) (by decide) (by decide) (by decide) (by decide) rfl (argsL := [(.ref b101), (.int (6 : Int32)), (.int p0), (.int p1), (.int (2 : Int32))]) (rest := [(.int (1 : Int32))]) (Ls := #[.val (.int p0), .val (.int p1), .val (.ref b101), .val (.int (1 : Int32))]) (by rw [hml]; rfl) (lenOf pd__Lcom_example_tenrec_tenrec_pool_RequestQueue_IIII_Z rfl) (W := 1) (Nat.le_of_eq rfl) (hb hby at_103)
  obtain ⟨rfl, N126q, e126⟩ := q126
  have N126 := Fr.app N125 N126q
  obtain ⟨v128, T128, L128, X128, q128, st128⟩ := own_callV X126 hx hZ (y := (⟨"com/example/tenrec/tenrec/pool/RequestQueue", "removeFirst", "()V"⟩ : MethodName)) (z := (⟨"com/example/tenrec/tenrec/pool/RequestQueue", "removeFirst", "()V"⟩ : MethodName)) hown (hw _ (List.mem_of_getElem? (i := 50) rfl)) (hw _ (List.mem_of_getElem? (i := 51) rfl)) (notFace_of_selects (args := #[]) (mvT hZ (hw _ (List.mem_of_getElem? (i := 53) rfl)))) (hw _ (List.mem_of_getElem? (i := 53) rfl)) (hw _ (List.mem_of_getElem? (i := 52) rfl)) (hw _ (List.mem_of_getElem? (i := 2) rfl)) (hw _ (List.mem_of_getElem? (i := 54) rfl)) (by decide) E125q (hM := (rm10_2_6 l Z a0 hw [] b101 b1102 b2102 k1102 k2102 (FP.i2d (p0 + (0 : Int32))) (FP.i2d (p0 + (1 : Int32))) (FP.i2d (p0 + (2 : Int32))) (FP.i2d (p0 + (3 : Int32))) (FP.i2d (p0 + (4 : Int32))) (FP.i2d (p0 + (5 : Int32))) (FP.i2d (p0 + (6 : Int32))) (FP.i2d (p0 + (7 : Int32))) (FP.i2d (p1 - (0 : Int32))) (FP.i2d (p1 - (1 : Int32))) (FP.i2d (p1 - (2 : Int32))) (FP.i2d (p1 - (3 : Int32))) (FP.i2d (p1 - (4 : Int32))) (FP.i2d (p1 - (5 : Int32))) (FP.i2d (p1 - (6 : Int32))) (FP.i2d (p1 - (7 : Int32))) T125.heap n0 z127 g_b101 g_b1102 g_b2102 (Nat.ne_of_lt (Nat.lt_of_lt_of_le A101.lt szq_b1102)) (Nat.ne_of_lt (Nat.lt_of_lt_of_le A101.lt szq_b2102)) ne3102 E125q FA125q FS125q FC125q FH125q VA125q VS125q)) (by decide) (by decide) (by decide) (by decide) e126 (argsL := []) (rest := []) (Ls := #[.val (.int p0), .val (.int p1), .val (.ref b101), .val (.int (1 : Int32))]) (by rw [hml]; rfl) (lenOf pd___V rfl) (W := 0) (Nat.le_of_eq rfl) (hb hby at_109)
  obtain ⟨rfl, N128q, K128q, E128q, FA128q, FS128q, FC128q, FH128q, VA128q, VS128q⟩ := q128
  have N128 := Fr.app N126 N128q
  have K128 : Keep h0 T128.heap [] := K125.trans K128q (allS (Or.inr sz_b101) all0)
  have z130 : n0 ≤ T128.heap.size := (Nat.le_trans z127 K128q.1)
  obtain ⟨v129, T129, L129, X129, q129, st129⟩ := own_callS X128 hx hZ (y := (⟨"com/example/tenrec/tenrec/pool/RequestQueueRemoveFirstPinLaw", "front", "(Lcom/example/tenrec/tenrec/pool/RequestQueue;IIII)Z"⟩ : MethodName)) hown (hw _ (List.mem_of_getElem? (i := 27) rfl)) (hw _ (List.mem_of_getElem? (i := 28) rfl)) (hw _ (List.mem_of_getElem? (i := 16) rfl)) (hw _ (List.mem_of_getElem? (i := 29) rfl)) (by decide) (hM := (rm5_3_5 l Z a0 hw [] b101 p0 p1 (3 : Int32) b1102 b2102 k1102 k2102 (FP.i2d (p0 + (0 : Int32))) (FP.i2d (p0 + (1 : Int32))) (FP.i2d (p0 + (2 : Int32))) (FP.i2d (p0 + (4 : Int32))) (FP.i2d (p0 + (5 : Int32))) (FP.i2d (p0 + (6 : Int32))) (FP.i2d (p0 + (7 : Int32))) (FP.i2d (p1 - (0 : Int32))) (FP.i2d (p1 - (1 : Int32))) (FP.i2d (p1 - (2 : Int32))) (FP.i2d (p1 - (4 : Int32))) (FP.i2d (p1 - (5 : Int32))) (FP.i2d (p1 - (6 : Int32))) (FP.i2d (p1 - (7 : Int32))) T128.heap n0 z130 g_b101 g_b1102 g_b2102 (Nat.ne_of_lt (Nat.lt_of_lt_of_le A101.lt szq_b1102)) (Nat.ne_of_lt (Nat.lt_of_lt_of_le A101.lt szq_b2102)) ne3102 E128q FA128q FS128q FC128q FH128q VA128q VS128q)) (by decide) (by decide) (by decide) (by decide) rfl (argsL := [(.ref b101), (.int (5 : Int32)), (.int p0), (.int p1), (.int (3 : Int32))]) (rest := [(.int (1 : Int32))]) (Ls := #[.val (.int p0), .val (.int p1), .val (.ref b101), .val (.int (1 : Int32))]) (by rw [hml]; rfl) (lenOf pd__Lcom_example_tenrec_tenrec_pool_RequestQueue_IIII_Z rfl) (W := 1) (Nat.le_of_eq rfl) (hb hby at_118)
  obtain ⟨rfl, N129q, e129⟩ := q129
  have N129 := Fr.app N128 N129q
  obtain ⟨v131, T131, L131, X131, q131, st131⟩ := own_callV X129 hx hZ (y := (⟨"com/example/tenrec/tenrec/pool/RequestQueue", "removeFirst", "()V"⟩ : MethodName)) (z := (⟨"com/example/tenrec/tenrec/pool/RequestQueue", "removeFirst", "()V"⟩ : MethodName)) hown (hw _ (List.mem_of_getElem? (i := 50) rfl)) (hw _ (List.mem_of_getElem? (i := 51) rfl)) (notFace_of_selects (args := #[]) (mvT hZ (hw _ (List.mem_of_getElem? (i := 53) rfl)))) (hw _ (List.mem_of_getElem? (i := 53) rfl)) (hw _ (List.mem_of_getElem? (i := 52) rfl)) (hw _ (List.mem_of_getElem? (i := 2) rfl)) (hw _ (List.mem_of_getElem? (i := 54) rfl)) (by decide) E128q (hM := (rm10_3_5 l Z a0 hw [] b101 b1102 b2102 k1102 k2102 (FP.i2d (p0 + (0 : Int32))) (FP.i2d (p0 + (1 : Int32))) (FP.i2d (p0 + (2 : Int32))) (FP.i2d (p0 + (3 : Int32))) (FP.i2d (p0 + (4 : Int32))) (FP.i2d (p0 + (5 : Int32))) (FP.i2d (p0 + (6 : Int32))) (FP.i2d (p0 + (7 : Int32))) (FP.i2d (p1 - (0 : Int32))) (FP.i2d (p1 - (1 : Int32))) (FP.i2d (p1 - (2 : Int32))) (FP.i2d (p1 - (3 : Int32))) (FP.i2d (p1 - (4 : Int32))) (FP.i2d (p1 - (5 : Int32))) (FP.i2d (p1 - (6 : Int32))) (FP.i2d (p1 - (7 : Int32))) T128.heap n0 z130 g_b101 g_b1102 g_b2102 (Nat.ne_of_lt (Nat.lt_of_lt_of_le A101.lt szq_b1102)) (Nat.ne_of_lt (Nat.lt_of_lt_of_le A101.lt szq_b2102)) ne3102 E128q FA128q FS128q FC128q FH128q VA128q VS128q)) (by decide) (by decide) (by decide) (by decide) e129 (argsL := []) (rest := []) (Ls := #[.val (.int p0), .val (.int p1), .val (.ref b101), .val (.int (1 : Int32))]) (by rw [hml]; rfl) (lenOf pd___V rfl) (W := 0) (Nat.le_of_eq rfl) (hb hby at_124)
  obtain ⟨rfl, N131q, K131q, E131q, FA131q, FS131q, FC131q, FH131q, VA131q, VS131q⟩ := q131
  have N131 := Fr.app N129 N131q
  have K131 : Keep h0 T131.heap [] := K128.trans K131q (allS (Or.inr sz_b101) all0)
  have z133 : n0 ≤ T131.heap.size := (Nat.le_trans z130 K131q.1)
  obtain ⟨v132, T132, L132, X132, q132, st132⟩ := own_callS X131 hx hZ (y := (⟨"com/example/tenrec/tenrec/pool/RequestQueueRemoveFirstPinLaw", "front", "(Lcom/example/tenrec/tenrec/pool/RequestQueue;IIII)Z"⟩ : MethodName)) hown (hw _ (List.mem_of_getElem? (i := 27) rfl)) (hw _ (List.mem_of_getElem? (i := 28) rfl)) (hw _ (List.mem_of_getElem? (i := 16) rfl)) (hw _ (List.mem_of_getElem? (i := 29) rfl)) (by decide) (hM := (rm5_4_4 l Z a0 hw [] b101 p0 p1 (4 : Int32) b1102 b2102 k1102 k2102 (FP.i2d (p0 + (0 : Int32))) (FP.i2d (p0 + (1 : Int32))) (FP.i2d (p0 + (2 : Int32))) (FP.i2d (p0 + (3 : Int32))) (FP.i2d (p0 + (5 : Int32))) (FP.i2d (p0 + (6 : Int32))) (FP.i2d (p0 + (7 : Int32))) (FP.i2d (p1 - (0 : Int32))) (FP.i2d (p1 - (1 : Int32))) (FP.i2d (p1 - (2 : Int32))) (FP.i2d (p1 - (3 : Int32))) (FP.i2d (p1 - (5 : Int32))) (FP.i2d (p1 - (6 : Int32))) (FP.i2d (p1 - (7 : Int32))) T131.heap n0 z133 g_b101 g_b1102 g_b2102 (Nat.ne_of_lt (Nat.lt_of_lt_of_le A101.lt szq_b1102)) (Nat.ne_of_lt (Nat.lt_of_lt_of_le A101.lt szq_b2102)) ne3102 E131q FA131q FS131q FC131q FH131q VA131q VS131q)) (by decide) (by decide) (by decide) (by decide) rfl (argsL := [(.ref b101), (.int (4 : Int32)), (.int p0), (.int p1), (.int (4 : Int32))]) (rest := [(.int (1 : Int32))]) (Ls := #[.val (.int p0), .val (.int p1), .val (.ref b101), .val (.int (1 : Int32))]) (by rw [hml]; rfl) (lenOf pd__Lcom_example_tenrec_tenrec_pool_RequestQueue_IIII_Z rfl) (W := 1) (Nat.le_of_eq rfl) (hb hby at_133)
  obtain ⟨rfl, N132q, e132⟩ := q132
  have N132 := Fr.app N131 N132q
  refine Gl.pre (S' := T132.setTop (mkF m 136 #[.val (.int p0), .val (.int p1), .val (.ref b101), .val (.int (1 : Int32))] [(.int (1 : Int32)), (.int (1 : Int32))])) (fun t kt => ?_) ?_
  · show Steps p.tables e below (T123.setTop (mkF m 92 #[.val (.int p0), .val (.int p1), .val (.ref b101), .val (.int (1 : Int32))] [])) _
    refine XS.aloadN X123.here hx rfl (hb hby at_92) rfl rfl ?_
    show Steps p.tables e below (T123.setTop (mkF m 93 #[.val (.int p0), .val (.int p1), .val (.ref b101), .val (.int (1 : Int32))] [(.ref b101)])) _
    refine st125 _ ?_
    show Steps p.tables e below (T125.setTop (mkF m 96 #[.val (.int p0), .val (.int p1), .val (.ref b101), .val (.int (1 : Int32))] [])) _
    refine XS.iloadN X125.here hx rfl (hb hby at_96) rfl ?_
    show Steps p.tables e below (T125.setTop (mkF m 97 #[.val (.int p0), .val (.int p1), .val (.ref b101), .val (.int (1 : Int32))] [(.int (1 : Int32))])) _
    refine XS.aloadN X125.here hx rfl (hb hby at_97) rfl rfl ?_
    show Steps p.tables e below (T125.setTop (mkF m 98 #[.val (.int p0), .val (.int p1), .val (.ref b101), .val (.int (1 : Int32))] [(.ref b101), (.int (1 : Int32))])) _
    refine XS.bipush X125.here hx rfl (hb hby at_98) ?_
    show Steps p.tables e below (T125.setTop (mkF m 100 #[.val (.int p0), .val (.int p1), .val (.ref b101), .val (.int (1 : Int32))] [(.int (6 : Int32)), (.ref b101), (.int (1 : Int32))])) _
    refine XS.iloadN X125.here hx rfl (hb hby at_100) rfl ?_
    show Steps p.tables e below (T125.setTop (mkF m 101 #[.val (.int p0), .val (.int p1), .val (.ref b101), .val (.int (1 : Int32))] [(.int p0), (.int (6 : Int32)), (.ref b101), (.int (1 : Int32))])) _
    refine XS.iloadN X125.here hx rfl (hb hby at_101) rfl ?_
    show Steps p.tables e below (T125.setTop (mkF m 102 #[.val (.int p0), .val (.int p1), .val (.ref b101), .val (.int (1 : Int32))] [(.int p1), (.int p0), (.int (6 : Int32)), (.ref b101), (.int (1 : Int32))])) _
    refine XS.iconst X125.here hx rfl (hb hby at_102) ?_
    show Steps p.tables e below (T125.setTop (mkF m 103 #[.val (.int p0), .val (.int p1), .val (.ref b101), .val (.int (1 : Int32))] [(.int (2 : Int32)), (.int p1), (.int p0), (.int (6 : Int32)), (.ref b101), (.int (1 : Int32))])) _
    refine st126 _ ?_
    show Steps p.tables e below (T126.setTop (mkF m 106 #[.val (.int p0), .val (.int p1), .val (.ref b101), .val (.int (1 : Int32))] [(.int (1 : Int32)), (.int (1 : Int32))])) _
    refine XS.iand X126.here hx rfl (hb hby at_106) rfl ?_
    show Steps p.tables e below (T126.setTop (mkF m 107 #[.val (.int p0), .val (.int p1), .val (.ref b101), .val (.int (1 : Int32))] [(.int (1 : Int32))])) _
    refine XS.istoreN X126.here hx rfl (hb hby at_107) rfl (l' := #[.val (.int p0), .val (.int p1), .val (.ref b101), .val (.int (1 : Int32))]) rfl ?_
    show Steps p.tables e below (T126.setTop (mkF m 108 #[.val (.int p0), .val (.int p1), .val (.ref b101), .val (.int (1 : Int32))] [])) _
    refine XS.aloadN X126.here hx rfl (hb hby at_108) rfl rfl ?_
    show Steps p.tables e below (T126.setTop (mkF m 109 #[.val (.int p0), .val (.int p1), .val (.ref b101), .val (.int (1 : Int32))] [(.ref b101)])) _
    refine st128 _ ?_
    show Steps p.tables e below (T128.setTop (mkF m 112 #[.val (.int p0), .val (.int p1), .val (.ref b101), .val (.int (1 : Int32))] [])) _
    refine XS.iloadN X128.here hx rfl (hb hby at_112) rfl ?_
    show Steps p.tables e below (T128.setTop (mkF m 113 #[.val (.int p0), .val (.int p1), .val (.ref b101), .val (.int (1 : Int32))] [(.int (1 : Int32))])) _
    refine XS.aloadN X128.here hx rfl (hb hby at_113) rfl rfl ?_
    show Steps p.tables e below (T128.setTop (mkF m 114 #[.val (.int p0), .val (.int p1), .val (.ref b101), .val (.int (1 : Int32))] [(.ref b101), (.int (1 : Int32))])) _
    refine XS.iconst X128.here hx rfl (hb hby at_114) ?_
    show Steps p.tables e below (T128.setTop (mkF m 115 #[.val (.int p0), .val (.int p1), .val (.ref b101), .val (.int (1 : Int32))] [(.int (5 : Int32)), (.ref b101), (.int (1 : Int32))])) _
    refine XS.iloadN X128.here hx rfl (hb hby at_115) rfl ?_
    show Steps p.tables e below (T128.setTop (mkF m 116 #[.val (.int p0), .val (.int p1), .val (.ref b101), .val (.int (1 : Int32))] [(.int p0), (.int (5 : Int32)), (.ref b101), (.int (1 : Int32))])) _
    refine XS.iloadN X128.here hx rfl (hb hby at_116) rfl ?_
    show Steps p.tables e below (T128.setTop (mkF m 117 #[.val (.int p0), .val (.int p1), .val (.ref b101), .val (.int (1 : Int32))] [(.int p1), (.int p0), (.int (5 : Int32)), (.ref b101), (.int (1 : Int32))])) _
    refine XS.iconst X128.here hx rfl (hb hby at_117) ?_
    show Steps p.tables e below (T128.setTop (mkF m 118 #[.val (.int p0), .val (.int p1), .val (.ref b101), .val (.int (1 : Int32))] [(.int (3 : Int32)), (.int p1), (.int p0), (.int (5 : Int32)), (.ref b101), (.int (1 : Int32))])) _
    refine st129 _ ?_
    show Steps p.tables e below (T129.setTop (mkF m 121 #[.val (.int p0), .val (.int p1), .val (.ref b101), .val (.int (1 : Int32))] [(.int (1 : Int32)), (.int (1 : Int32))])) _
    refine XS.iand X129.here hx rfl (hb hby at_121) rfl ?_
    show Steps p.tables e below (T129.setTop (mkF m 122 #[.val (.int p0), .val (.int p1), .val (.ref b101), .val (.int (1 : Int32))] [(.int (1 : Int32))])) _
    refine XS.istoreN X129.here hx rfl (hb hby at_122) rfl (l' := #[.val (.int p0), .val (.int p1), .val (.ref b101), .val (.int (1 : Int32))]) rfl ?_
    show Steps p.tables e below (T129.setTop (mkF m 123 #[.val (.int p0), .val (.int p1), .val (.ref b101), .val (.int (1 : Int32))] [])) _
    refine XS.aloadN X129.here hx rfl (hb hby at_123) rfl rfl ?_
    show Steps p.tables e below (T129.setTop (mkF m 124 #[.val (.int p0), .val (.int p1), .val (.ref b101), .val (.int (1 : Int32))] [(.ref b101)])) _
    refine st131 _ ?_
    show Steps p.tables e below (T131.setTop (mkF m 127 #[.val (.int p0), .val (.int p1), .val (.ref b101), .val (.int (1 : Int32))] [])) _
    refine XS.iloadN X131.here hx rfl (hb hby at_127) rfl ?_
    show Steps p.tables e below (T131.setTop (mkF m 128 #[.val (.int p0), .val (.int p1), .val (.ref b101), .val (.int (1 : Int32))] [(.int (1 : Int32))])) _
    refine XS.aloadN X131.here hx rfl (hb hby at_128) rfl rfl ?_
    show Steps p.tables e below (T131.setTop (mkF m 129 #[.val (.int p0), .val (.int p1), .val (.ref b101), .val (.int (1 : Int32))] [(.ref b101), (.int (1 : Int32))])) _
    refine XS.iconst X131.here hx rfl (hb hby at_129) ?_
    show Steps p.tables e below (T131.setTop (mkF m 130 #[.val (.int p0), .val (.int p1), .val (.ref b101), .val (.int (1 : Int32))] [(.int (4 : Int32)), (.ref b101), (.int (1 : Int32))])) _
    refine XS.iloadN X131.here hx rfl (hb hby at_130) rfl ?_
    show Steps p.tables e below (T131.setTop (mkF m 131 #[.val (.int p0), .val (.int p1), .val (.ref b101), .val (.int (1 : Int32))] [(.int p0), (.int (4 : Int32)), (.ref b101), (.int (1 : Int32))])) _
    refine XS.iloadN X131.here hx rfl (hb hby at_131) rfl ?_
    show Steps p.tables e below (T131.setTop (mkF m 132 #[.val (.int p0), .val (.int p1), .val (.ref b101), .val (.int (1 : Int32))] [(.int p1), (.int p0), (.int (4 : Int32)), (.ref b101), (.int (1 : Int32))])) _
    refine XS.iconst X131.here hx rfl (hb hby at_132) ?_
    show Steps p.tables e below (T131.setTop (mkF m 133 #[.val (.int p0), .val (.int p1), .val (.ref b101), .val (.int (1 : Int32))] [(.int (4 : Int32)), (.int p1), (.int p0), (.int (4 : Int32)), (.ref b101), (.int (1 : Int32))])) _
    refine st132 _ ?_
    exact kt
  obtain ⟨v134, T134, L134, X134, q134, st134⟩ := own_callV X132 hx hZ (y := (⟨"com/example/tenrec/tenrec/pool/RequestQueue", "removeFirst", "()V"⟩ : MethodName)) (z := (⟨"com/example/tenrec/tenrec/pool/RequestQueue", "removeFirst", "()V"⟩ : MethodName)) hown (hw _ (List.mem_of_getElem? (i := 50) rfl)) (hw _ (List.mem_of_getElem? (i := 51) rfl)) (notFace_of_selects (args := #[]) (mvT hZ (hw _ (List.mem_of_getElem? (i := 53) rfl)))) (hw _ (List.mem_of_getElem? (i := 53) rfl)) (hw _ (List.mem_of_getElem? (i := 52) rfl)) (hw _ (List.mem_of_getElem? (i := 2) rfl)) (hw _ (List.mem_of_getElem? (i := 54) rfl)) (by decide) E131q (hM := (rm10_4_4 l Z a0 hw [] b101 b1102 b2102 k1102 k2102 (FP.i2d (p0 + (0 : Int32))) (FP.i2d (p0 + (1 : Int32))) (FP.i2d (p0 + (2 : Int32))) (FP.i2d (p0 + (3 : Int32))) (FP.i2d (p0 + (4 : Int32))) (FP.i2d (p0 + (5 : Int32))) (FP.i2d (p0 + (6 : Int32))) (FP.i2d (p0 + (7 : Int32))) (FP.i2d (p1 - (0 : Int32))) (FP.i2d (p1 - (1 : Int32))) (FP.i2d (p1 - (2 : Int32))) (FP.i2d (p1 - (3 : Int32))) (FP.i2d (p1 - (4 : Int32))) (FP.i2d (p1 - (5 : Int32))) (FP.i2d (p1 - (6 : Int32))) (FP.i2d (p1 - (7 : Int32))) T131.heap n0 z133 g_b101 g_b1102 g_b2102 (Nat.ne_of_lt (Nat.lt_of_lt_of_le A101.lt szq_b1102)) (Nat.ne_of_lt (Nat.lt_of_lt_of_le A101.lt szq_b2102)) ne3102 E131q FA131q FS131q FC131q FH131q VA131q VS131q)) (by decide) (by decide) (by decide) (by decide) e132 (argsL := []) (rest := []) (Ls := #[.val (.int p0), .val (.int p1), .val (.ref b101), .val (.int (1 : Int32))]) (by rw [hml]; rfl) (lenOf pd___V rfl) (W := 0) (Nat.le_of_eq rfl) (hb hby at_139)
  obtain ⟨rfl, N134q, K134q, E134q, FA134q, FS134q, FC134q, FH134q, VA134q, VS134q⟩ := q134
  have N134 := Fr.app N132 N134q
  have K134 : Keep h0 T134.heap [] := K131.trans K134q (allS (Or.inr sz_b101) all0)
  have z136 : n0 ≤ T134.heap.size := (Nat.le_trans z133 K134q.1)
  obtain ⟨v135, T135, L135, X135, q135, st135⟩ := own_callS X134 hx hZ (y := (⟨"com/example/tenrec/tenrec/pool/RequestQueueRemoveFirstPinLaw", "front", "(Lcom/example/tenrec/tenrec/pool/RequestQueue;IIII)Z"⟩ : MethodName)) hown (hw _ (List.mem_of_getElem? (i := 27) rfl)) (hw _ (List.mem_of_getElem? (i := 28) rfl)) (hw _ (List.mem_of_getElem? (i := 16) rfl)) (hw _ (List.mem_of_getElem? (i := 29) rfl)) (by decide) (hM := (rm5_5_3 l Z a0 hw [] b101 p0 p1 (5 : Int32) b1102 b2102 k1102 k2102 (FP.i2d (p0 + (0 : Int32))) (FP.i2d (p0 + (1 : Int32))) (FP.i2d (p0 + (2 : Int32))) (FP.i2d (p0 + (3 : Int32))) (FP.i2d (p0 + (4 : Int32))) (FP.i2d (p0 + (6 : Int32))) (FP.i2d (p0 + (7 : Int32))) (FP.i2d (p1 - (0 : Int32))) (FP.i2d (p1 - (1 : Int32))) (FP.i2d (p1 - (2 : Int32))) (FP.i2d (p1 - (3 : Int32))) (FP.i2d (p1 - (4 : Int32))) (FP.i2d (p1 - (6 : Int32))) (FP.i2d (p1 - (7 : Int32))) T134.heap n0 z136 g_b101 g_b1102 g_b2102 (Nat.ne_of_lt (Nat.lt_of_lt_of_le A101.lt szq_b1102)) (Nat.ne_of_lt (Nat.lt_of_lt_of_le A101.lt szq_b2102)) ne3102 E134q FA134q FS134q FC134q FH134q VA134q VS134q)) (by decide) (by decide) (by decide) (by decide) rfl (argsL := [(.ref b101), (.int (3 : Int32)), (.int p0), (.int p1), (.int (5 : Int32))]) (rest := [(.int (1 : Int32))]) (Ls := #[.val (.int p0), .val (.int p1), .val (.ref b101), .val (.int (1 : Int32))]) (by rw [hml]; rfl) (lenOf pd__Lcom_example_tenrec_tenrec_pool_RequestQueue_IIII_Z rfl) (W := 1) (Nat.le_of_eq rfl) (hb hby at_148)
  obtain ⟨rfl, N135q, e135⟩ := q135
  have N135 := Fr.app N134 N135q
  obtain ⟨v137, T137, L137, X137, q137, st137⟩ := own_callV X135 hx hZ (y := (⟨"com/example/tenrec/tenrec/pool/RequestQueue", "removeFirst", "()V"⟩ : MethodName)) (z := (⟨"com/example/tenrec/tenrec/pool/RequestQueue", "removeFirst", "()V"⟩ : MethodName)) hown (hw _ (List.mem_of_getElem? (i := 50) rfl)) (hw _ (List.mem_of_getElem? (i := 51) rfl)) (notFace_of_selects (args := #[]) (mvT hZ (hw _ (List.mem_of_getElem? (i := 53) rfl)))) (hw _ (List.mem_of_getElem? (i := 53) rfl)) (hw _ (List.mem_of_getElem? (i := 52) rfl)) (hw _ (List.mem_of_getElem? (i := 2) rfl)) (hw _ (List.mem_of_getElem? (i := 54) rfl)) (by decide) E134q (hM := (rm10_5_3 l Z a0 hw [] b101 b1102 b2102 k1102 k2102 (FP.i2d (p0 + (0 : Int32))) (FP.i2d (p0 + (1 : Int32))) (FP.i2d (p0 + (2 : Int32))) (FP.i2d (p0 + (3 : Int32))) (FP.i2d (p0 + (4 : Int32))) (FP.i2d (p0 + (5 : Int32))) (FP.i2d (p0 + (6 : Int32))) (FP.i2d (p0 + (7 : Int32))) (FP.i2d (p1 - (0 : Int32))) (FP.i2d (p1 - (1 : Int32))) (FP.i2d (p1 - (2 : Int32))) (FP.i2d (p1 - (3 : Int32))) (FP.i2d (p1 - (4 : Int32))) (FP.i2d (p1 - (5 : Int32))) (FP.i2d (p1 - (6 : Int32))) (FP.i2d (p1 - (7 : Int32))) T134.heap n0 z136 g_b101 g_b1102 g_b2102 (Nat.ne_of_lt (Nat.lt_of_lt_of_le A101.lt szq_b1102)) (Nat.ne_of_lt (Nat.lt_of_lt_of_le A101.lt szq_b2102)) ne3102 E134q FA134q FS134q FC134q FH134q VA134q VS134q)) (by decide) (by decide) (by decide) (by decide) e135 (argsL := []) (rest := []) (Ls := #[.val (.int p0), .val (.int p1), .val (.ref b101), .val (.int (1 : Int32))]) (by rw [hml]; rfl) (lenOf pd___V rfl) (W := 0) (Nat.le_of_eq rfl) (hb hby at_154)
  obtain ⟨rfl, N137q, K137q, E137q, FA137q, FS137q, FC137q, FH137q, VA137q, VS137q⟩ := q137
  have N137 := Fr.app N135 N137q
  have K137 : Keep h0 T137.heap [] := K134.trans K137q (allS (Or.inr sz_b101) all0)
  have z139 : n0 ≤ T137.heap.size := (Nat.le_trans z136 K137q.1)
  obtain ⟨v138, T138, L138, X138, q138, st138⟩ := own_callS X137 hx hZ (y := (⟨"com/example/tenrec/tenrec/pool/RequestQueueRemoveFirstPinLaw", "front", "(Lcom/example/tenrec/tenrec/pool/RequestQueue;IIII)Z"⟩ : MethodName)) hown (hw _ (List.mem_of_getElem? (i := 27) rfl)) (hw _ (List.mem_of_getElem? (i := 28) rfl)) (hw _ (List.mem_of_getElem? (i := 16) rfl)) (hw _ (List.mem_of_getElem? (i := 29) rfl)) (by decide) (hM := (rm5_6_2 l Z a0 hw [] b101 p0 p1 (6 : Int32) b1102 b2102 k1102 k2102 (FP.i2d (p0 + (0 : Int32))) (FP.i2d (p0 + (1 : Int32))) (FP.i2d (p0 + (2 : Int32))) (FP.i2d (p0 + (3 : Int32))) (FP.i2d (p0 + (4 : Int32))) (FP.i2d (p0 + (5 : Int32))) (FP.i2d (p0 + (7 : Int32))) (FP.i2d (p1 - (0 : Int32))) (FP.i2d (p1 - (1 : Int32))) (FP.i2d (p1 - (2 : Int32))) (FP.i2d (p1 - (3 : Int32))) (FP.i2d (p1 - (4 : Int32))) (FP.i2d (p1 - (5 : Int32))) (FP.i2d (p1 - (7 : Int32))) T137.heap n0 z139 g_b101 g_b1102 g_b2102 (Nat.ne_of_lt (Nat.lt_of_lt_of_le A101.lt szq_b1102)) (Nat.ne_of_lt (Nat.lt_of_lt_of_le A101.lt szq_b2102)) ne3102 E137q FA137q FS137q FC137q FH137q VA137q VS137q)) (by decide) (by decide) (by decide) (by decide) rfl (argsL := [(.ref b101), (.int (2 : Int32)), (.int p0), (.int p1), (.int (6 : Int32))]) (rest := [(.int (1 : Int32))]) (Ls := #[.val (.int p0), .val (.int p1), .val (.ref b101), .val (.int (1 : Int32))]) (by rw [hml]; rfl) (lenOf pd__Lcom_example_tenrec_tenrec_pool_RequestQueue_IIII_Z rfl) (W := 1) (Nat.le_of_eq rfl) (hb hby at_164)
  obtain ⟨rfl, N138q, e138⟩ := q138
  have N138 := Fr.app N137 N138q
  obtain ⟨v140, T140, L140, X140, q140, st140⟩ := own_callV X138 hx hZ (y := (⟨"com/example/tenrec/tenrec/pool/RequestQueue", "removeFirst", "()V"⟩ : MethodName)) (z := (⟨"com/example/tenrec/tenrec/pool/RequestQueue", "removeFirst", "()V"⟩ : MethodName)) hown (hw _ (List.mem_of_getElem? (i := 50) rfl)) (hw _ (List.mem_of_getElem? (i := 51) rfl)) (notFace_of_selects (args := #[]) (mvT hZ (hw _ (List.mem_of_getElem? (i := 53) rfl)))) (hw _ (List.mem_of_getElem? (i := 53) rfl)) (hw _ (List.mem_of_getElem? (i := 52) rfl)) (hw _ (List.mem_of_getElem? (i := 2) rfl)) (hw _ (List.mem_of_getElem? (i := 54) rfl)) (by decide) E137q (hM := (rm10_6_2 l Z a0 hw [] b101 b1102 b2102 k1102 k2102 (FP.i2d (p0 + (0 : Int32))) (FP.i2d (p0 + (1 : Int32))) (FP.i2d (p0 + (2 : Int32))) (FP.i2d (p0 + (3 : Int32))) (FP.i2d (p0 + (4 : Int32))) (FP.i2d (p0 + (5 : Int32))) (FP.i2d (p0 + (6 : Int32))) (FP.i2d (p0 + (7 : Int32))) (FP.i2d (p1 - (0 : Int32))) (FP.i2d (p1 - (1 : Int32))) (FP.i2d (p1 - (2 : Int32))) (FP.i2d (p1 - (3 : Int32))) (FP.i2d (p1 - (4 : Int32))) (FP.i2d (p1 - (5 : Int32))) (FP.i2d (p1 - (6 : Int32))) (FP.i2d (p1 - (7 : Int32))) T137.heap n0 z139 g_b101 g_b1102 g_b2102 (Nat.ne_of_lt (Nat.lt_of_lt_of_le A101.lt szq_b1102)) (Nat.ne_of_lt (Nat.lt_of_lt_of_le A101.lt szq_b2102)) ne3102 E137q FA137q FS137q FC137q FH137q VA137q VS137q)) (by decide) (by decide) (by decide) (by decide) e138 (argsL := []) (rest := []) (Ls := #[.val (.int p0), .val (.int p1), .val (.ref b101), .val (.int (1 : Int32))]) (by rw [hml]; rfl) (lenOf pd___V rfl) (W := 0) (Nat.le_of_eq rfl) (hb hby at_170)
  obtain ⟨rfl, N140q, K140q, E140q, FA140q, FS140q, FC140q, FH140q, VA140q, VS140q⟩ := q140
  have N140 := Fr.app N138 N140q
  have K140 : Keep h0 T140.heap [] := K137.trans K140q (allS (Or.inr sz_b101) all0)
  refine Gl.pre (S' := T140.setTop (mkF m 178 #[.val (.int p0), .val (.int p1), .val (.ref b101), .val (.int (1 : Int32))] [(.int p1), (.int p0), (.int (1 : Int32)), (.ref b101), (.int (1 : Int32))])) (fun t kt => ?_) ?_
  · show Steps p.tables e below (T132.setTop (mkF m 136 #[.val (.int p0), .val (.int p1), .val (.ref b101), .val (.int (1 : Int32))] [(.int (1 : Int32)), (.int (1 : Int32))])) _
    refine XS.iand X132.here hx rfl (hb hby at_136) rfl ?_
    show Steps p.tables e below (T132.setTop (mkF m 137 #[.val (.int p0), .val (.int p1), .val (.ref b101), .val (.int (1 : Int32))] [(.int (1 : Int32))])) _
    refine XS.istoreN X132.here hx rfl (hb hby at_137) rfl (l' := #[.val (.int p0), .val (.int p1), .val (.ref b101), .val (.int (1 : Int32))]) rfl ?_
    show Steps p.tables e below (T132.setTop (mkF m 138 #[.val (.int p0), .val (.int p1), .val (.ref b101), .val (.int (1 : Int32))] [])) _
    refine XS.aloadN X132.here hx rfl (hb hby at_138) rfl rfl ?_
    show Steps p.tables e below (T132.setTop (mkF m 139 #[.val (.int p0), .val (.int p1), .val (.ref b101), .val (.int (1 : Int32))] [(.ref b101)])) _
    refine st134 _ ?_
    show Steps p.tables e below (T134.setTop (mkF m 142 #[.val (.int p0), .val (.int p1), .val (.ref b101), .val (.int (1 : Int32))] [])) _
    refine XS.iloadN X134.here hx rfl (hb hby at_142) rfl ?_
    show Steps p.tables e below (T134.setTop (mkF m 143 #[.val (.int p0), .val (.int p1), .val (.ref b101), .val (.int (1 : Int32))] [(.int (1 : Int32))])) _
    refine XS.aloadN X134.here hx rfl (hb hby at_143) rfl rfl ?_
    show Steps p.tables e below (T134.setTop (mkF m 144 #[.val (.int p0), .val (.int p1), .val (.ref b101), .val (.int (1 : Int32))] [(.ref b101), (.int (1 : Int32))])) _
    refine XS.iconst X134.here hx rfl (hb hby at_144) ?_
    show Steps p.tables e below (T134.setTop (mkF m 145 #[.val (.int p0), .val (.int p1), .val (.ref b101), .val (.int (1 : Int32))] [(.int (3 : Int32)), (.ref b101), (.int (1 : Int32))])) _
    refine XS.iloadN X134.here hx rfl (hb hby at_145) rfl ?_
    show Steps p.tables e below (T134.setTop (mkF m 146 #[.val (.int p0), .val (.int p1), .val (.ref b101), .val (.int (1 : Int32))] [(.int p0), (.int (3 : Int32)), (.ref b101), (.int (1 : Int32))])) _
    refine XS.iloadN X134.here hx rfl (hb hby at_146) rfl ?_
    show Steps p.tables e below (T134.setTop (mkF m 147 #[.val (.int p0), .val (.int p1), .val (.ref b101), .val (.int (1 : Int32))] [(.int p1), (.int p0), (.int (3 : Int32)), (.ref b101), (.int (1 : Int32))])) _
    refine XS.iconst X134.here hx rfl (hb hby at_147) ?_
    show Steps p.tables e below (T134.setTop (mkF m 148 #[.val (.int p0), .val (.int p1), .val (.ref b101), .val (.int (1 : Int32))] [(.int (5 : Int32)), (.int p1), (.int p0), (.int (3 : Int32)), (.ref b101), (.int (1 : Int32))])) _
    refine st135 _ ?_
    show Steps p.tables e below (T135.setTop (mkF m 151 #[.val (.int p0), .val (.int p1), .val (.ref b101), .val (.int (1 : Int32))] [(.int (1 : Int32)), (.int (1 : Int32))])) _
    refine XS.iand X135.here hx rfl (hb hby at_151) rfl ?_
    show Steps p.tables e below (T135.setTop (mkF m 152 #[.val (.int p0), .val (.int p1), .val (.ref b101), .val (.int (1 : Int32))] [(.int (1 : Int32))])) _
    refine XS.istoreN X135.here hx rfl (hb hby at_152) rfl (l' := #[.val (.int p0), .val (.int p1), .val (.ref b101), .val (.int (1 : Int32))]) rfl ?_
    show Steps p.tables e below (T135.setTop (mkF m 153 #[.val (.int p0), .val (.int p1), .val (.ref b101), .val (.int (1 : Int32))] [])) _
    refine XS.aloadN X135.here hx rfl (hb hby at_153) rfl rfl ?_
    show Steps p.tables e below (T135.setTop (mkF m 154 #[.val (.int p0), .val (.int p1), .val (.ref b101), .val (.int (1 : Int32))] [(.ref b101)])) _
    refine st137 _ ?_
    show Steps p.tables e below (T137.setTop (mkF m 157 #[.val (.int p0), .val (.int p1), .val (.ref b101), .val (.int (1 : Int32))] [])) _
    refine XS.iloadN X137.here hx rfl (hb hby at_157) rfl ?_
    show Steps p.tables e below (T137.setTop (mkF m 158 #[.val (.int p0), .val (.int p1), .val (.ref b101), .val (.int (1 : Int32))] [(.int (1 : Int32))])) _
    refine XS.aloadN X137.here hx rfl (hb hby at_158) rfl rfl ?_
    show Steps p.tables e below (T137.setTop (mkF m 159 #[.val (.int p0), .val (.int p1), .val (.ref b101), .val (.int (1 : Int32))] [(.ref b101), (.int (1 : Int32))])) _
    refine XS.iconst X137.here hx rfl (hb hby at_159) ?_
    show Steps p.tables e below (T137.setTop (mkF m 160 #[.val (.int p0), .val (.int p1), .val (.ref b101), .val (.int (1 : Int32))] [(.int (2 : Int32)), (.ref b101), (.int (1 : Int32))])) _
    refine XS.iloadN X137.here hx rfl (hb hby at_160) rfl ?_
    show Steps p.tables e below (T137.setTop (mkF m 161 #[.val (.int p0), .val (.int p1), .val (.ref b101), .val (.int (1 : Int32))] [(.int p0), (.int (2 : Int32)), (.ref b101), (.int (1 : Int32))])) _
    refine XS.iloadN X137.here hx rfl (hb hby at_161) rfl ?_
    show Steps p.tables e below (T137.setTop (mkF m 162 #[.val (.int p0), .val (.int p1), .val (.ref b101), .val (.int (1 : Int32))] [(.int p1), (.int p0), (.int (2 : Int32)), (.ref b101), (.int (1 : Int32))])) _
    refine XS.bipush X137.here hx rfl (hb hby at_162) ?_
    show Steps p.tables e below (T137.setTop (mkF m 164 #[.val (.int p0), .val (.int p1), .val (.ref b101), .val (.int (1 : Int32))] [(.int (6 : Int32)), (.int p1), (.int p0), (.int (2 : Int32)), (.ref b101), (.int (1 : Int32))])) _
    refine st138 _ ?_
    show Steps p.tables e below (T138.setTop (mkF m 167 #[.val (.int p0), .val (.int p1), .val (.ref b101), .val (.int (1 : Int32))] [(.int (1 : Int32)), (.int (1 : Int32))])) _
    refine XS.iand X138.here hx rfl (hb hby at_167) rfl ?_
    show Steps p.tables e below (T138.setTop (mkF m 168 #[.val (.int p0), .val (.int p1), .val (.ref b101), .val (.int (1 : Int32))] [(.int (1 : Int32))])) _
    refine XS.istoreN X138.here hx rfl (hb hby at_168) rfl (l' := #[.val (.int p0), .val (.int p1), .val (.ref b101), .val (.int (1 : Int32))]) rfl ?_
    show Steps p.tables e below (T138.setTop (mkF m 169 #[.val (.int p0), .val (.int p1), .val (.ref b101), .val (.int (1 : Int32))] [])) _
    refine XS.aloadN X138.here hx rfl (hb hby at_169) rfl rfl ?_
    show Steps p.tables e below (T138.setTop (mkF m 170 #[.val (.int p0), .val (.int p1), .val (.ref b101), .val (.int (1 : Int32))] [(.ref b101)])) _
    refine st140 _ ?_
    show Steps p.tables e below (T140.setTop (mkF m 173 #[.val (.int p0), .val (.int p1), .val (.ref b101), .val (.int (1 : Int32))] [])) _
    refine XS.iloadN X140.here hx rfl (hb hby at_173) rfl ?_
    show Steps p.tables e below (T140.setTop (mkF m 174 #[.val (.int p0), .val (.int p1), .val (.ref b101), .val (.int (1 : Int32))] [(.int (1 : Int32))])) _
    refine XS.aloadN X140.here hx rfl (hb hby at_174) rfl rfl ?_
    show Steps p.tables e below (T140.setTop (mkF m 175 #[.val (.int p0), .val (.int p1), .val (.ref b101), .val (.int (1 : Int32))] [(.ref b101), (.int (1 : Int32))])) _
    refine XS.iconst X140.here hx rfl (hb hby at_175) ?_
    show Steps p.tables e below (T140.setTop (mkF m 176 #[.val (.int p0), .val (.int p1), .val (.ref b101), .val (.int (1 : Int32))] [(.int (1 : Int32)), (.ref b101), (.int (1 : Int32))])) _
    refine XS.iloadN X140.here hx rfl (hb hby at_176) rfl ?_
    show Steps p.tables e below (T140.setTop (mkF m 177 #[.val (.int p0), .val (.int p1), .val (.ref b101), .val (.int (1 : Int32))] [(.int p0), (.int (1 : Int32)), (.ref b101), (.int (1 : Int32))])) _
    refine XS.iloadN X140.here hx rfl (hb hby at_177) rfl ?_
    exact kt
  have z142 : n0 ≤ T140.heap.size := (Nat.le_trans z139 K140q.1)
  obtain ⟨v141, T141, L141, X141, q141, st141⟩ := own_callS X140 hx hZ (y := (⟨"com/example/tenrec/tenrec/pool/RequestQueueRemoveFirstPinLaw", "front", "(Lcom/example/tenrec/tenrec/pool/RequestQueue;IIII)Z"⟩ : MethodName)) hown (hw _ (List.mem_of_getElem? (i := 27) rfl)) (hw _ (List.mem_of_getElem? (i := 28) rfl)) (hw _ (List.mem_of_getElem? (i := 16) rfl)) (hw _ (List.mem_of_getElem? (i := 29) rfl)) (by decide) (hM := (rm5_7_1 l Z a0 hw [] b101 p0 p1 (7 : Int32) b1102 b2102 k1102 k2102 (FP.i2d (p0 + (0 : Int32))) (FP.i2d (p0 + (1 : Int32))) (FP.i2d (p0 + (2 : Int32))) (FP.i2d (p0 + (3 : Int32))) (FP.i2d (p0 + (4 : Int32))) (FP.i2d (p0 + (5 : Int32))) (FP.i2d (p0 + (6 : Int32))) (FP.i2d (p1 - (0 : Int32))) (FP.i2d (p1 - (1 : Int32))) (FP.i2d (p1 - (2 : Int32))) (FP.i2d (p1 - (3 : Int32))) (FP.i2d (p1 - (4 : Int32))) (FP.i2d (p1 - (5 : Int32))) (FP.i2d (p1 - (6 : Int32))) T140.heap n0 z142 g_b101 g_b1102 g_b2102 (Nat.ne_of_lt (Nat.lt_of_lt_of_le A101.lt szq_b1102)) (Nat.ne_of_lt (Nat.lt_of_lt_of_le A101.lt szq_b2102)) ne3102 E140q FA140q FS140q FC140q FH140q VA140q VS140q)) (by decide) (by decide) (by decide) (by decide) rfl (argsL := [(.ref b101), (.int (1 : Int32)), (.int p0), (.int p1), (.int (7 : Int32))]) (rest := [(.int (1 : Int32))]) (Ls := #[.val (.int p0), .val (.int p1), .val (.ref b101), .val (.int (1 : Int32))]) (by rw [hml]; rfl) (lenOf pd__Lcom_example_tenrec_tenrec_pool_RequestQueue_IIII_Z rfl) (W := 1) (Nat.le_of_eq rfl) (hb hby at_180)
  obtain ⟨rfl, N141q, e141⟩ := q141
  have N141 := Fr.app N140 N141q
  obtain ⟨v143, T143, L143, X143, q143, st143⟩ := own_callS X141 hx hZ (y := (⟨"com/example/tenrec/tenrec/pool/RequestQueueRemoveFirstPinLaw", "put", "(Lcom/example/tenrec/tenrec/pool/RequestQueue;III)V"⟩ : MethodName)) hown (hw _ (List.mem_of_getElem? (i := 14) rfl)) (hw _ (List.mem_of_getElem? (i := 15) rfl)) (hw _ (List.mem_of_getElem? (i := 16) rfl)) (hw _ (List.mem_of_getElem? (i := 17) rfl)) (by decide) (hM := (rm3_7_1 l Z a0 hw [] b101 p0 p1 (8 : Int32) b1102 b2102 k1102 k2102 (FP.i2d (p0 + (0 : Int32))) (FP.i2d (p0 + (1 : Int32))) (FP.i2d (p0 + (2 : Int32))) (FP.i2d (p0 + (3 : Int32))) (FP.i2d (p0 + (4 : Int32))) (FP.i2d (p0 + (5 : Int32))) (FP.i2d (p0 + (6 : Int32))) (FP.i2d (p0 + (7 : Int32))) (FP.i2d (p1 - (0 : Int32))) (FP.i2d (p1 - (1 : Int32))) (FP.i2d (p1 - (2 : Int32))) (FP.i2d (p1 - (3 : Int32))) (FP.i2d (p1 - (4 : Int32))) (FP.i2d (p1 - (5 : Int32))) (FP.i2d (p1 - (6 : Int32))) (FP.i2d (p1 - (7 : Int32))) T140.heap n0 z142 g_b101 g_b1102 g_b2102 (Nat.ne_of_lt (Nat.lt_of_lt_of_le A101.lt szq_b1102)) (Nat.ne_of_lt (Nat.lt_of_lt_of_le A101.lt szq_b2102)) ne3102 E140q FA140q FS140q FC140q FH140q VA140q VS140q)) (by decide) (by decide) (by decide) (by decide) e141 (argsL := [(.ref b101), (.int p0), (.int p1), (.int (8 : Int32))]) (rest := []) (Ls := #[.val (.int p0), .val (.int p1), .val (.ref b101), .val (.int (1 : Int32))]) (by rw [hml]; rfl) (lenOf pd__Lcom_example_tenrec_tenrec_pool_RequestQueue_III_V rfl) (W := 0) (Nat.le_of_eq rfl) (hb hby at_190)
  obtain ⟨rfl, N143q, K143q, E143q, FA143q, FS143q, FC143q, FH143q, VA143q, VS143q⟩ := q143
  have N143 := Fr.app N141 N143q
  have K143 : Keep h0 T143.heap [] := K140.trans K143q (allS (Or.inr sz_b101) (allS (Or.inr sz_b1102) (allS (Or.inr sz_b2102) all0)))
  have z145 : n0 ≤ T143.heap.size := (Nat.le_trans z142 K143q.1)
  obtain ⟨v144, T144, L144, X144, q144, st144⟩ := own_callS X143 hx hZ (y := (⟨"com/example/tenrec/tenrec/pool/RequestQueueRemoveFirstPinLaw", "front", "(Lcom/example/tenrec/tenrec/pool/RequestQueue;IIII)Z"⟩ : MethodName)) hown (hw _ (List.mem_of_getElem? (i := 27) rfl)) (hw _ (List.mem_of_getElem? (i := 28) rfl)) (hw _ (List.mem_of_getElem? (i := 16) rfl)) (hw _ (List.mem_of_getElem? (i := 29) rfl)) (by decide) (hM := (rm5_7_2 l Z a0 hw [] b101 p0 p1 (7 : Int32) b1102 b2102 k1102 k2102 (FP.i2d (p0 + (8 : Int32))) (FP.i2d (p0 + (1 : Int32))) (FP.i2d (p0 + (2 : Int32))) (FP.i2d (p0 + (3 : Int32))) (FP.i2d (p0 + (4 : Int32))) (FP.i2d (p0 + (5 : Int32))) (FP.i2d (p0 + (6 : Int32))) (FP.i2d (p1 - (8 : Int32))) (FP.i2d (p1 - (1 : Int32))) (FP.i2d (p1 - (2 : Int32))) (FP.i2d (p1 - (3 : Int32))) (FP.i2d (p1 - (4 : Int32))) (FP.i2d (p1 - (5 : Int32))) (FP.i2d (p1 - (6 : Int32))) T143.heap n0 z145 g_b101 g_b1102 g_b2102 (Nat.ne_of_lt (Nat.lt_of_lt_of_le A101.lt szq_b1102)) (Nat.ne_of_lt (Nat.lt_of_lt_of_le A101.lt szq_b2102)) ne3102 E143q FA143q FS143q FC143q FH143q VA143q VS143q)) (by decide) (by decide) (by decide) (by decide) rfl (argsL := [(.ref b101), (.int (2 : Int32)), (.int p0), (.int p1), (.int (7 : Int32))]) (rest := [(.int (1 : Int32))]) (Ls := #[.val (.int p0), .val (.int p1), .val (.ref b101), .val (.int (1 : Int32))]) (by rw [hml]; rfl) (lenOf pd__Lcom_example_tenrec_tenrec_pool_RequestQueue_IIII_Z rfl) (W := 1) (Nat.le_of_eq rfl) (hb hby at_200)
  obtain ⟨rfl, N144q, e144⟩ := q144
  have N144 := Fr.app N143 N144q
  obtain ⟨v146, T146, L146, X146, q146, st146⟩ := own_callV X144 hx hZ (y := (⟨"com/example/tenrec/tenrec/pool/RequestQueue", "removeFirst", "()V"⟩ : MethodName)) (z := (⟨"com/example/tenrec/tenrec/pool/RequestQueue", "removeFirst", "()V"⟩ : MethodName)) hown (hw _ (List.mem_of_getElem? (i := 50) rfl)) (hw _ (List.mem_of_getElem? (i := 51) rfl)) (notFace_of_selects (args := #[]) (mvT hZ (hw _ (List.mem_of_getElem? (i := 53) rfl)))) (hw _ (List.mem_of_getElem? (i := 53) rfl)) (hw _ (List.mem_of_getElem? (i := 52) rfl)) (hw _ (List.mem_of_getElem? (i := 2) rfl)) (hw _ (List.mem_of_getElem? (i := 54) rfl)) (by decide) E143q (hM := (rm10_7_2 l Z a0 hw [] b101 b1102 b2102 k1102 k2102 (FP.i2d (p0 + (8 : Int32))) (FP.i2d (p0 + (1 : Int32))) (FP.i2d (p0 + (2 : Int32))) (FP.i2d (p0 + (3 : Int32))) (FP.i2d (p0 + (4 : Int32))) (FP.i2d (p0 + (5 : Int32))) (FP.i2d (p0 + (6 : Int32))) (FP.i2d (p0 + (7 : Int32))) (FP.i2d (p1 - (8 : Int32))) (FP.i2d (p1 - (1 : Int32))) (FP.i2d (p1 - (2 : Int32))) (FP.i2d (p1 - (3 : Int32))) (FP.i2d (p1 - (4 : Int32))) (FP.i2d (p1 - (5 : Int32))) (FP.i2d (p1 - (6 : Int32))) (FP.i2d (p1 - (7 : Int32))) T143.heap n0 z145 g_b101 g_b1102 g_b2102 (Nat.ne_of_lt (Nat.lt_of_lt_of_le A101.lt szq_b1102)) (Nat.ne_of_lt (Nat.lt_of_lt_of_le A101.lt szq_b2102)) ne3102 E143q FA143q FS143q FC143q FH143q VA143q VS143q)) (by decide) (by decide) (by decide) (by decide) e144 (argsL := []) (rest := []) (Ls := #[.val (.int p0), .val (.int p1), .val (.ref b101), .val (.int (1 : Int32))]) (by rw [hml]; rfl) (lenOf pd___V rfl) (W := 0) (Nat.le_of_eq rfl) (hb hby at_206)
  obtain ⟨rfl, N146q, K146q, E146q, FA146q, FS146q, FC146q, FH146q, VA146q, VS146q⟩ := q146
  have N146 := Fr.app N144 N146q
  have K146 : Keep h0 T146.heap [] := K143.trans K146q (allS (Or.inr sz_b101) all0)
  have z148 : n0 ≤ T146.heap.size := (Nat.le_trans z145 K146q.1)
  obtain ⟨v147, T147, L147, X147, q147, st147⟩ := own_callS X146 hx hZ (y := (⟨"com/example/tenrec/tenrec/pool/RequestQueueRemoveFirstPinLaw", "front", "(Lcom/example/tenrec/tenrec/pool/RequestQueue;IIII)Z"⟩ : MethodName)) hown (hw _ (List.mem_of_getElem? (i := 27) rfl)) (hw _ (List.mem_of_getElem? (i := 28) rfl)) (hw _ (List.mem_of_getElem? (i := 16) rfl)) (hw _ (List.mem_of_getElem? (i := 29) rfl)) (by decide) (hM := (rm5_0_1 l Z a0 hw [] b101 p0 p1 (8 : Int32) b1102 b2102 k1102 k2102 (FP.i2d (p0 + (1 : Int32))) (FP.i2d (p0 + (2 : Int32))) (FP.i2d (p0 + (3 : Int32))) (FP.i2d (p0 + (4 : Int32))) (FP.i2d (p0 + (5 : Int32))) (FP.i2d (p0 + (6 : Int32))) (FP.i2d (p0 + (7 : Int32))) (FP.i2d (p1 - (1 : Int32))) (FP.i2d (p1 - (2 : Int32))) (FP.i2d (p1 - (3 : Int32))) (FP.i2d (p1 - (4 : Int32))) (FP.i2d (p1 - (5 : Int32))) (FP.i2d (p1 - (6 : Int32))) (FP.i2d (p1 - (7 : Int32))) T146.heap n0 z148 g_b101 g_b1102 g_b2102 (Nat.ne_of_lt (Nat.lt_of_lt_of_le A101.lt szq_b1102)) (Nat.ne_of_lt (Nat.lt_of_lt_of_le A101.lt szq_b2102)) ne3102 E146q FA146q FS146q FC146q FH146q VA146q VS146q)) (by decide) (by decide) (by decide) (by decide) rfl (argsL := [(.ref b101), (.int (1 : Int32)), (.int p0), (.int p1), (.int (8 : Int32))]) (rest := [(.int (1 : Int32))]) (Ls := #[.val (.int p0), .val (.int p1), .val (.ref b101), .val (.int (1 : Int32))]) (by rw [hml]; rfl) (lenOf pd__Lcom_example_tenrec_tenrec_pool_RequestQueue_IIII_Z rfl) (W := 1) (Nat.le_of_eq rfl) (hb hby at_216)
  obtain ⟨rfl, N147q, e147⟩ := q147
  have N147 := Fr.app N146 N147q
  obtain ⟨v149, T149, L149, X149, q149, st149⟩ := own_callV X147 hx hZ (y := (⟨"com/example/tenrec/tenrec/pool/RequestQueue", "removeFirst", "()V"⟩ : MethodName)) (z := (⟨"com/example/tenrec/tenrec/pool/RequestQueue", "removeFirst", "()V"⟩ : MethodName)) hown (hw _ (List.mem_of_getElem? (i := 50) rfl)) (hw _ (List.mem_of_getElem? (i := 51) rfl)) (notFace_of_selects (args := #[]) (mvT hZ (hw _ (List.mem_of_getElem? (i := 53) rfl)))) (hw _ (List.mem_of_getElem? (i := 53) rfl)) (hw _ (List.mem_of_getElem? (i := 52) rfl)) (hw _ (List.mem_of_getElem? (i := 2) rfl)) (hw _ (List.mem_of_getElem? (i := 54) rfl)) (by decide) E146q (hM := (rm10_0_1 l Z a0 hw [] b101 b1102 b2102 k1102 k2102 (FP.i2d (p0 + (8 : Int32))) (FP.i2d (p0 + (1 : Int32))) (FP.i2d (p0 + (2 : Int32))) (FP.i2d (p0 + (3 : Int32))) (FP.i2d (p0 + (4 : Int32))) (FP.i2d (p0 + (5 : Int32))) (FP.i2d (p0 + (6 : Int32))) (FP.i2d (p0 + (7 : Int32))) (FP.i2d (p1 - (8 : Int32))) (FP.i2d (p1 - (1 : Int32))) (FP.i2d (p1 - (2 : Int32))) (FP.i2d (p1 - (3 : Int32))) (FP.i2d (p1 - (4 : Int32))) (FP.i2d (p1 - (5 : Int32))) (FP.i2d (p1 - (6 : Int32))) (FP.i2d (p1 - (7 : Int32))) T146.heap n0 z148 g_b101 g_b1102 g_b2102 (Nat.ne_of_lt (Nat.lt_of_lt_of_le A101.lt szq_b1102)) (Nat.ne_of_lt (Nat.lt_of_lt_of_le A101.lt szq_b2102)) ne3102 E146q FA146q FS146q FC146q FH146q VA146q VS146q)) (by decide) (by decide) (by decide) (by decide) e147 (argsL := []) (rest := []) (Ls := #[.val (.int p0), .val (.int p1), .val (.ref b101), .val (.int (1 : Int32))]) (by rw [hml]; rfl) (lenOf pd___V rfl) (W := 0) (Nat.le_of_eq rfl) (hb hby at_222)
  obtain ⟨rfl, N149q, K149q, E149q, FA149q, FS149q, FC149q, FH149q, VA149q, VS149q⟩ := q149
  have N149 := Fr.app N147 N149q
  have K149 : Keep h0 T149.heap [] := K146.trans K149q (allS (Or.inr sz_b101) all0)
  refine Gl.pre (S' := T149.setTop (mkF m 225 #[.val (.int p0), .val (.int p1), .val (.ref b101), .val (.int (1 : Int32))] [])) (fun t kt => ?_) ?_
  · show Steps p.tables e below (T140.setTop (mkF m 178 #[.val (.int p0), .val (.int p1), .val (.ref b101), .val (.int (1 : Int32))] [(.int p1), (.int p0), (.int (1 : Int32)), (.ref b101), (.int (1 : Int32))])) _
    refine XS.bipush X140.here hx rfl (hb hby at_178) ?_
    show Steps p.tables e below (T140.setTop (mkF m 180 #[.val (.int p0), .val (.int p1), .val (.ref b101), .val (.int (1 : Int32))] [(.int (7 : Int32)), (.int p1), (.int p0), (.int (1 : Int32)), (.ref b101), (.int (1 : Int32))])) _
    refine st141 _ ?_
    show Steps p.tables e below (T141.setTop (mkF m 183 #[.val (.int p0), .val (.int p1), .val (.ref b101), .val (.int (1 : Int32))] [(.int (1 : Int32)), (.int (1 : Int32))])) _
    refine XS.iand X141.here hx rfl (hb hby at_183) rfl ?_
    show Steps p.tables e below (T141.setTop (mkF m 184 #[.val (.int p0), .val (.int p1), .val (.ref b101), .val (.int (1 : Int32))] [(.int (1 : Int32))])) _
    refine XS.istoreN X141.here hx rfl (hb hby at_184) rfl (l' := #[.val (.int p0), .val (.int p1), .val (.ref b101), .val (.int (1 : Int32))]) rfl ?_
    show Steps p.tables e below (T141.setTop (mkF m 185 #[.val (.int p0), .val (.int p1), .val (.ref b101), .val (.int (1 : Int32))] [])) _
    refine XS.aloadN X141.here hx rfl (hb hby at_185) rfl rfl ?_
    show Steps p.tables e below (T141.setTop (mkF m 186 #[.val (.int p0), .val (.int p1), .val (.ref b101), .val (.int (1 : Int32))] [(.ref b101)])) _
    refine XS.iloadN X141.here hx rfl (hb hby at_186) rfl ?_
    show Steps p.tables e below (T141.setTop (mkF m 187 #[.val (.int p0), .val (.int p1), .val (.ref b101), .val (.int (1 : Int32))] [(.int p0), (.ref b101)])) _
    refine XS.iloadN X141.here hx rfl (hb hby at_187) rfl ?_
    show Steps p.tables e below (T141.setTop (mkF m 188 #[.val (.int p0), .val (.int p1), .val (.ref b101), .val (.int (1 : Int32))] [(.int p1), (.int p0), (.ref b101)])) _
    refine XS.bipush X141.here hx rfl (hb hby at_188) ?_
    show Steps p.tables e below (T141.setTop (mkF m 190 #[.val (.int p0), .val (.int p1), .val (.ref b101), .val (.int (1 : Int32))] [(.int (8 : Int32)), (.int p1), (.int p0), (.ref b101)])) _
    refine st143 _ ?_
    show Steps p.tables e below (T143.setTop (mkF m 193 #[.val (.int p0), .val (.int p1), .val (.ref b101), .val (.int (1 : Int32))] [])) _
    refine XS.iloadN X143.here hx rfl (hb hby at_193) rfl ?_
    show Steps p.tables e below (T143.setTop (mkF m 194 #[.val (.int p0), .val (.int p1), .val (.ref b101), .val (.int (1 : Int32))] [(.int (1 : Int32))])) _
    refine XS.aloadN X143.here hx rfl (hb hby at_194) rfl rfl ?_
    show Steps p.tables e below (T143.setTop (mkF m 195 #[.val (.int p0), .val (.int p1), .val (.ref b101), .val (.int (1 : Int32))] [(.ref b101), (.int (1 : Int32))])) _
    refine XS.iconst X143.here hx rfl (hb hby at_195) ?_
    show Steps p.tables e below (T143.setTop (mkF m 196 #[.val (.int p0), .val (.int p1), .val (.ref b101), .val (.int (1 : Int32))] [(.int (2 : Int32)), (.ref b101), (.int (1 : Int32))])) _
    refine XS.iloadN X143.here hx rfl (hb hby at_196) rfl ?_
    show Steps p.tables e below (T143.setTop (mkF m 197 #[.val (.int p0), .val (.int p1), .val (.ref b101), .val (.int (1 : Int32))] [(.int p0), (.int (2 : Int32)), (.ref b101), (.int (1 : Int32))])) _
    refine XS.iloadN X143.here hx rfl (hb hby at_197) rfl ?_
    show Steps p.tables e below (T143.setTop (mkF m 198 #[.val (.int p0), .val (.int p1), .val (.ref b101), .val (.int (1 : Int32))] [(.int p1), (.int p0), (.int (2 : Int32)), (.ref b101), (.int (1 : Int32))])) _
    refine XS.bipush X143.here hx rfl (hb hby at_198) ?_
    show Steps p.tables e below (T143.setTop (mkF m 200 #[.val (.int p0), .val (.int p1), .val (.ref b101), .val (.int (1 : Int32))] [(.int (7 : Int32)), (.int p1), (.int p0), (.int (2 : Int32)), (.ref b101), (.int (1 : Int32))])) _
    refine st144 _ ?_
    show Steps p.tables e below (T144.setTop (mkF m 203 #[.val (.int p0), .val (.int p1), .val (.ref b101), .val (.int (1 : Int32))] [(.int (1 : Int32)), (.int (1 : Int32))])) _
    refine XS.iand X144.here hx rfl (hb hby at_203) rfl ?_
    show Steps p.tables e below (T144.setTop (mkF m 204 #[.val (.int p0), .val (.int p1), .val (.ref b101), .val (.int (1 : Int32))] [(.int (1 : Int32))])) _
    refine XS.istoreN X144.here hx rfl (hb hby at_204) rfl (l' := #[.val (.int p0), .val (.int p1), .val (.ref b101), .val (.int (1 : Int32))]) rfl ?_
    show Steps p.tables e below (T144.setTop (mkF m 205 #[.val (.int p0), .val (.int p1), .val (.ref b101), .val (.int (1 : Int32))] [])) _
    refine XS.aloadN X144.here hx rfl (hb hby at_205) rfl rfl ?_
    show Steps p.tables e below (T144.setTop (mkF m 206 #[.val (.int p0), .val (.int p1), .val (.ref b101), .val (.int (1 : Int32))] [(.ref b101)])) _
    refine st146 _ ?_
    show Steps p.tables e below (T146.setTop (mkF m 209 #[.val (.int p0), .val (.int p1), .val (.ref b101), .val (.int (1 : Int32))] [])) _
    refine XS.iloadN X146.here hx rfl (hb hby at_209) rfl ?_
    show Steps p.tables e below (T146.setTop (mkF m 210 #[.val (.int p0), .val (.int p1), .val (.ref b101), .val (.int (1 : Int32))] [(.int (1 : Int32))])) _
    refine XS.aloadN X146.here hx rfl (hb hby at_210) rfl rfl ?_
    show Steps p.tables e below (T146.setTop (mkF m 211 #[.val (.int p0), .val (.int p1), .val (.ref b101), .val (.int (1 : Int32))] [(.ref b101), (.int (1 : Int32))])) _
    refine XS.iconst X146.here hx rfl (hb hby at_211) ?_
    show Steps p.tables e below (T146.setTop (mkF m 212 #[.val (.int p0), .val (.int p1), .val (.ref b101), .val (.int (1 : Int32))] [(.int (1 : Int32)), (.ref b101), (.int (1 : Int32))])) _
    refine XS.iloadN X146.here hx rfl (hb hby at_212) rfl ?_
    show Steps p.tables e below (T146.setTop (mkF m 213 #[.val (.int p0), .val (.int p1), .val (.ref b101), .val (.int (1 : Int32))] [(.int p0), (.int (1 : Int32)), (.ref b101), (.int (1 : Int32))])) _
    refine XS.iloadN X146.here hx rfl (hb hby at_213) rfl ?_
    show Steps p.tables e below (T146.setTop (mkF m 214 #[.val (.int p0), .val (.int p1), .val (.ref b101), .val (.int (1 : Int32))] [(.int p1), (.int p0), (.int (1 : Int32)), (.ref b101), (.int (1 : Int32))])) _
    refine XS.bipush X146.here hx rfl (hb hby at_214) ?_
    show Steps p.tables e below (T146.setTop (mkF m 216 #[.val (.int p0), .val (.int p1), .val (.ref b101), .val (.int (1 : Int32))] [(.int (8 : Int32)), (.int p1), (.int p0), (.int (1 : Int32)), (.ref b101), (.int (1 : Int32))])) _
    refine st147 _ ?_
    show Steps p.tables e below (T147.setTop (mkF m 219 #[.val (.int p0), .val (.int p1), .val (.ref b101), .val (.int (1 : Int32))] [(.int (1 : Int32)), (.int (1 : Int32))])) _
    refine XS.iand X147.here hx rfl (hb hby at_219) rfl ?_
    show Steps p.tables e below (T147.setTop (mkF m 220 #[.val (.int p0), .val (.int p1), .val (.ref b101), .val (.int (1 : Int32))] [(.int (1 : Int32))])) _
    refine XS.istoreN X147.here hx rfl (hb hby at_220) rfl (l' := #[.val (.int p0), .val (.int p1), .val (.ref b101), .val (.int (1 : Int32))]) rfl ?_
    show Steps p.tables e below (T147.setTop (mkF m 221 #[.val (.int p0), .val (.int p1), .val (.ref b101), .val (.int (1 : Int32))] [])) _
    refine XS.aloadN X147.here hx rfl (hb hby at_221) rfl rfl ?_
    show Steps p.tables e below (T147.setTop (mkF m 222 #[.val (.int p0), .val (.int p1), .val (.ref b101), .val (.int (1 : Int32))] [(.ref b101)])) _
    refine st149 _ ?_
    exact kt
  have z151 : n0 ≤ T149.heap.size := (Nat.le_trans z148 K149q.1)
  obtain ⟨v150, T150, L150, X150, q150, st150⟩ := own_callV X149 hx hZ (y := (⟨"com/example/tenrec/tenrec/pool/RequestQueue", "size", "()I"⟩ : MethodName)) (z := (⟨"com/example/tenrec/tenrec/pool/RequestQueue", "size", "()I"⟩ : MethodName)) hown (hw _ (List.mem_of_getElem? (i := 30) rfl)) (hw _ (List.mem_of_getElem? (i := 31) rfl)) (notFace_of_selects (args := #[]) (mvT hZ (hw _ (List.mem_of_getElem? (i := 33) rfl)))) (hw _ (List.mem_of_getElem? (i := 33) rfl)) (hw _ (List.mem_of_getElem? (i := 32) rfl)) (hw _ (List.mem_of_getElem? (i := 2) rfl)) (hw _ (List.mem_of_getElem? (i := 34) rfl)) (by decide) E149q (hM := (rm6 l Z a0 hw [] b101 (0 : Int32) T149.heap n0 z151 FC149q)) (by decide) (by decide) (by decide) (by decide) rfl (argsL := []) (rest := [(.int (1 : Int32))]) (Ls := #[.val (.int p0), .val (.int p1), .val (.ref b101), .val (.int (1 : Int32))]) (by rw [hml]; rfl) (lenOf pd___I rfl) (W := 1) (Nat.le_of_eq rfl) (hb hby at_227)
  obtain ⟨rfl, N150q, e150⟩ := q150
  have N150 := Fr.app N149 N150q
  obtain ⟨v152, T152, L152, X152, q152, st152⟩ := own_callV X150 hx hZ (y := (⟨"com/example/tenrec/tenrec/pool/RequestQueue", "isEmpty", "()Z"⟩ : MethodName)) (z := (⟨"com/example/tenrec/tenrec/pool/RequestQueue", "isEmpty", "()Z"⟩ : MethodName)) hown (hw _ (List.mem_of_getElem? (i := 35) rfl)) (hw _ (List.mem_of_getElem? (i := 36) rfl)) (notFace_of_selects (args := #[]) (mvT hZ (hw _ (List.mem_of_getElem? (i := 38) rfl)))) (hw _ (List.mem_of_getElem? (i := 38) rfl)) (hw _ (List.mem_of_getElem? (i := 37) rfl)) (hw _ (List.mem_of_getElem? (i := 2) rfl)) (hw _ (List.mem_of_getElem? (i := 39) rfl)) (by decide) E149q (hM := (rm7 l Z a0 hw [] b101 (0 : Int32) T149.heap n0 z151 FC149q)) (by decide) (by decide) (by decide) (by decide) e150 (argsL := []) (rest := [(.int (1 : Int32)), (.int (1 : Int32))]) (Ls := #[.val (.int p0), .val (.int p1), .val (.ref b101), .val (.int (1 : Int32))]) (by rw [hml]; rfl) (lenOf pd___Z rfl) (W := 2) (Nat.le_of_eq rfl) (hb hby at_239)
  obtain ⟨rfl, N152q, e152⟩ := q152
  have N152 := Fr.app N150 N152q
  refine Gl.fin X152 (v := some (.int (1 : Int32))) (fun h => by rw [Bd.returns] at h; cases h) Bd.notSynchronized ?_ e152 (by decide) (by decide) (fun fs hr => ?_)
  · exact ⟨rfl, N152⟩
  · show Steps p.tables e below (T149.setTop (mkF m 225 #[.val (.int p0), .val (.int p1), .val (.ref b101), .val (.int (1 : Int32))] [])) _
    refine XS.iloadN X149.here hx rfl (hb hby at_225) rfl ?_
    show Steps p.tables e below (T149.setTop (mkF m 226 #[.val (.int p0), .val (.int p1), .val (.ref b101), .val (.int (1 : Int32))] [(.int (1 : Int32))])) _
    refine XS.aloadN X149.here hx rfl (hb hby at_226) rfl rfl ?_
    show Steps p.tables e below (T149.setTop (mkF m 227 #[.val (.int p0), .val (.int p1), .val (.ref b101), .val (.int (1 : Int32))] [(.ref b101), (.int (1 : Int32))])) _
    refine st150 _ ?_
    show Steps p.tables e below (T150.setTop (mkF m 230 #[.val (.int p0), .val (.int p1), .val (.ref b101), .val (.int (1 : Int32))] [(.int (0 : Int32)), (.int (1 : Int32))])) _
    refine XS.ifNo X150.here hx rfl (hb hby at_230) rfl (own_nf (i0_ne _) (by decide)) ?_
    show Steps p.tables e below (T150.setTop (mkF m 233 #[.val (.int p0), .val (.int p1), .val (.ref b101), .val (.int (1 : Int32))] [(.int (1 : Int32))])) _
    refine XS.iconst X150.here hx rfl (hb hby at_233) ?_
    show Steps p.tables e below (T150.setTop (mkF m 234 #[.val (.int p0), .val (.int p1), .val (.ref b101), .val (.int (1 : Int32))] [(.int (1 : Int32)), (.int (1 : Int32))])) _
    refine XS.goto X150.here hx rfl (pc0 := 234) (pc' := 238) rfl (hb hby at_234) (by decide) (by decide) ?_
    show Steps p.tables e below (T150.setTop (mkF m 238 #[.val (.int p0), .val (.int p1), .val (.ref b101), .val (.int (1 : Int32))] [(.int (1 : Int32)), (.int (1 : Int32))])) _
    refine XS.aloadN X150.here hx rfl (hb hby at_238) rfl rfl ?_
    show Steps p.tables e below (T150.setTop (mkF m 239 #[.val (.int p0), .val (.int p1), .val (.ref b101), .val (.int (1 : Int32))] [(.ref b101), (.int (1 : Int32)), (.int (1 : Int32))])) _
    refine st152 _ ?_
    show Steps p.tables e below (T152.setTop (mkF m 242 #[.val (.int p0), .val (.int p1), .val (.ref b101), .val (.int (1 : Int32))] [(.int (1 : Int32)), (.int (1 : Int32)), (.int (1 : Int32))])) _
    refine XS.iand X152.here hx rfl (hb hby at_242) rfl ?_
    show Steps p.tables e below (T152.setTop (mkF m 243 #[.val (.int p0), .val (.int p1), .val (.ref b101), .val (.int (1 : Int32))] [(.int (1 : Int32)), (.int (1 : Int32))])) _
    refine XS.iand X152.here hx rfl (hb hby at_243) rfl ?_
    show Steps p.tables e below (T152.setTop (mkF m 244 #[.val (.int p0), .val (.int p1), .val (.ref b101), .val (.int (1 : Int32))] [(.int (1 : Int32))])) _
    refine XS.istoreN X152.here hx rfl (hb hby at_244) rfl (l' := #[.val (.int p0), .val (.int p1), .val (.ref b101), .val (.int (1 : Int32))]) rfl ?_
    show Steps p.tables e below (T152.setTop (mkF m 245 #[.val (.int p0), .val (.int p1), .val (.ref b101), .val (.int (1 : Int32))] [])) _
    refine XS.iloadN X152.here hx rfl (hb hby at_245) rfl ?_
    show Steps p.tables e below (T152.setTop (mkF m 246 #[.val (.int p0), .val (.int p1), .val (.ref b101), .val (.int (1 : Int32))] [(.int (1 : Int32))])) _
    exact retN X152 hx (t := .boolean) Bd.returns (by simp) (hb hby at_246) hr
set_option maxRecDepth 65536 in
set_option maxHeartbeats 40000000 in
theorem comes_1 {Post : Tables → Env → Array Value → State → Outcome → State → Prop} (hpost : ∀ tb e args s v u, (limb_1_1.after args s (.returned v) u = true ∧ limb_1_2.after args s (.returned v) u = true ∧ True) → FrameEnd s (.returned v) u (Jvm.fieldLocs frame_1_writes args s ++ Jvm.arrayLocs frame_1_arrays args s ++ Jvm.staticLocs frame_1_statics s) 16 128 → Post tb e args s (.returned v) u) :
    ArmFor flags0 classFile x code maxLocals ret World_1 tables_1 room_1 Calls_1 rest_1 Pre_1 Post := by
  intro l hfl _ _ p e ha hc hk s m args below hf hA hF happ hP
  obtain ⟨hcalls, hrest, hpre⟩ := hP
  obtain ⟨-, -, -, hnamed, -, -, -, hat⟩ := (Spec.applies_iff hf).mp happ
  obtain ⟨hg, hn⟩ := and_e (Cond.before_iff.mp (show (Jvm.Cond.and given_1 narrow_1).before args s = true from hpre))
  obtain ⟨hq0, hr0⟩ := and_e hg
  obtain ⟨hq1, hr1⟩ := and_e hr0
  obtain ⟨w0, w1, rfl⟩ : ∃ w0 w1 : Value, args = #[w0, w1] := by
    have hs : args.size = 2 := by simpa [Cond.value, given_1] using hq0
    obtain ⟨L⟩ := args
    match L, hs with
    | [w0, w1], _ => exact ⟨w0, w1, rfl⟩
  have hw := fun d (hd : d ∈ tables_1) => atoms_spec (ws := Jvm.Cond.code x code maxLocals ret :: tables_1) hat d (List.mem_cons_of_mem _ hd)
  have hfit : Fit s := fun {y c} hc i hi => by
    obtain ⟨ha, rfl⟩ := Array.getElem?_eq_some_iff.mp hc
    have q := List.all_eq_true.mp ((Array.all_eq_true_iff_forall_mem.mp hF) _ (Array.getElem_mem ha)) i (List.mem_range.mpr hi)
    simpa [Array.getElem?_eq_getElem hi] using q
  obtain ⟨i0, ei0⟩ := is_v hq1
  obtain rfl : w0 = (.int i0) := Option.some.inj ei0
  obtain ⟨i1, ei1⟩ := is_v hr1
  obtain rfl : w1 = (.int i1) := Option.some.inj ei1
  obtain ⟨n, o, h1, h2, h3, _, L, rfl, ⟨rfl, N⟩, hq⟩ := rm0 l s _ hw tables_1 i0 i1 s.heap s.heap.size (Nat.le_refl _) p e ha hc hk s m _ below hf ((Spec.applies_iff_loose hf).mp happ).1 ⟨rfl, State.Warmed39.refl s, rfl⟩ trivial
  refine ⟨n, _, h1, h2, h3, hpost _ _ _ _ _ _ ⟨Cond.after_iff.mpr rfl, Cond.after_iff.mpr (eq_i res_at (Term.int_eval (1)) rfl), trivial⟩ ⟨hq.1, hq.2.1, (hq.2.2.sift fun y hy => Or.inr (N y hy)).mono (by decide) (by decide)⟩⟩
theorem main_1_1 : Claimed_1_1 := comes_1 fun _ _ _ _ _ _ h hF => ⟨h.1, hF⟩
theorem main_1_2 : Claimed_1_2 := comes_1 fun _ _ _ _ _ _ h hF => ⟨h.2.1, hF⟩
end Jvm.Pilot.@@N@@
namespace Jvm.Pilot.@@N@@
open Jvm Jvm.ClassFile Sem Op Lib Jvm.Free Jvm.Stand Jvm.Pilot.@@N@@.Jvm.D
/-! MADE BY PROGRAM (witnessworld.py) out of the Statement's table words and the real class files: 9 classes; the members and pool entries that the words name. The judged class is class 1, her method 3. -/
namespace start1
open Jvm.ClassFile
def u (s : String) : CpInfo := .utf8 (stringToUtf16 s)
/-- a pool by its gaps: so many unusable entries, then the entry; so many at the end -/
def gap : Nat → List CpInfo → List CpInfo
  | 0, r => r
  | n + 1, r => .unusable :: gap n r
def poolList (es : List (Nat × CpInfo)) (last : Nat) : List CpInfo := es.foldr (fun e r => gap e.1 (e.2 :: r)) (gap last [])
def pool (es : List (Nat × CpInfo)) (last : Nat) : Array CpInfo := ⟨poolList es last⟩
def fileOf (pool : Array CpInfo) (this : Nat) (attrs : Array Attribute := #[]) (ms : Array MethodInfo := #[]) (fl : Nat := 33) (sup : Nat := 0) (ifs : Array Nat := #[]) (fds : Array FieldInfo := #[]) : ClassFile where
  minorVersion := 0
  majorVersion := 65
  constantPool := pool
  accessFlags := fl
  thisClass := this
  superClass := sup
  interfaces := ifs
  fields := fds
  methods := ms
  attributes := attrs
def plain (name : String) (sup : Option ClassId) : Class where
  name := name
  kind := .ordinary
  loader := none
  accessFlags := 33
  super := sup
  interfaces := #[]
  cf := none
  fields := #[]
  methods := #[]
  instanceTypes := #[]
  staticTypes := #[]
  resolved := #[]
  callSites := []
  init := .initialized
  statics := none
  mirror := none

def pool0 : Array CpInfo := pool [(5, u "<init>"), (0, u "()V"), (1, .class_ 10), (1, u "java/lang/Object")] 113

def k0c0 : Code := { maxStack := 0, maxLocals := 1, code := object_method_1_code, exceptionTable := #[], attributes := #[] }
def k0m0 : Method := { name := "<init>", desc := "()V", sig := { parameters := [], returnType := none }, accessFlags := 1, code := some k0c0 }
/-- java/lang/Object -/
def k0 : Class := { plain "java/lang/Object" none with
  accessFlags := 33
  interfaces := #[]
  cf := some (fileOf pool0 8 #[] #[{ accessFlags := 1, nameIndex := 5, descriptorIndex := 6, attributes := #[] }] 33 0 #[] #[])
  fields := #[]
  methods := #[k0m0]
  instanceTypes := #[]
  staticTypes := #[]
  resolved := Array.replicate 124 none
  statics := none }

def pool1 : Array CpInfo := pool [(2, .class_ 4), (0, .nameAndType 5 6), (0, u "java/lang/Object"), (0, u "<init>"), (0, u "()V"), (0, .methodref 8 9), (0, .class_ 10), (0, .nameAndType 11 12), (0, u "com/example/tenrec/tenrec/pool/RequestQueue"), (0, u "add"), (0, u "(DD)V"), (0, .methodref 8 14), (0, .nameAndType 15 16), (0, u "size"), (0, u "()I"), (0, .methodref 8 18), (0, .nameAndType 19 20), (0, u "isEmpty"), (0, u "()Z"), (0, .methodref 8 22), (0, .nameAndType 23 24), (0, u "firstArrival"), (0, u "()D"), (0, .methodref 8 26), (0, .nameAndType 27 24), (0, u "firstSize"), (0, .methodref 8 3), (0, .methodref 30 31), (0, .class_ 32), (0, .nameAndType 33 34), (0, u "com/example/tenrec/tenrec/pool/RequestQueueRemoveFirstPinLaw"), (0, u "put"), (0, u "(Lcom/example/tenrec/tenrec/pool/RequestQueue;III)V"), (0, .methodref 30 36), (0, .nameAndType 37 38), (0, u "front"), (0, u "(Lcom/example/tenrec/tenrec/pool/RequestQueue;IIII)Z"), (0, .methodref 8 40), (0, .nameAndType 41 6), (0, u "removeFirst"), (3, u "law"), (0, u "(II)Z")] 2

def k1m0 : Method := { name := "<init>", desc := "()V", sig := { parameters := [], returnType := none }, accessFlags := 1, code := none }
def k1c1 : Code := { maxStack := 5, maxLocals := 4, code := method_2_code, exceptionTable := #[], attributes := #[] }
def k1m1 : Method := { name := "put", desc := "(Lcom/example/tenrec/tenrec/pool/RequestQueue;III)V", sig := { parameters := [(.object "com/example/tenrec/tenrec/pool/RequestQueue"), .int, .int, .int], returnType := none }, accessFlags := 10, code := some k1c1 }
def k1c2 : Code := { maxStack := 5, maxLocals := 5, code := method_3_code, exceptionTable := #[], attributes := #[] }
def k1m2 : Method := { name := "front", desc := "(Lcom/example/tenrec/tenrec/pool/RequestQueue;IIII)Z", sig := { parameters := [(.object "com/example/tenrec/tenrec/pool/RequestQueue"), .int, .int, .int, .int], returnType := some .boolean }, accessFlags := 10, code := some k1c2 }
def k1c3 : Code := { maxStack := 6, maxLocals := 4, code := code, exceptionTable := #[], attributes := #[] }
def k1m3 : Method := { name := "law", desc := "(II)Z", sig := { parameters := [.int, .int], returnType := some .boolean }, accessFlags := 9, code := some k1c3 }
/-- com/example/tenrec/tenrec/pool/RequestQueueRemoveFirstPinLaw -/
def k1 : Class := { plain "com/example/tenrec/tenrec/pool/RequestQueueRemoveFirstPinLaw" (some 0) with
  accessFlags := 49
  interfaces := #[]
  cf := some (fileOf pool1 30 #[] #[{ accessFlags := 1, nameIndex := 5, descriptorIndex := 6, attributes := #[] }, { accessFlags := 10, nameIndex := 33, descriptorIndex := 34, attributes := #[] }, { accessFlags := 10, nameIndex := 37, descriptorIndex := 38, attributes := #[] }, { accessFlags := 9, nameIndex := 45, descriptorIndex := 46, attributes := #[] }] 49 2 #[] #[])
  fields := #[]
  methods := #[k1m0, k1m1, k1m2, k1m3]
  instanceTypes := #[]
  staticTypes := #[]
  resolved := Array.replicate 49 none
  statics := none }

def pool2 : Array CpInfo := pool [(1, .methodref 2 3), (0, .class_ 4), (0, .nameAndType 5 6), (0, u "java/lang/Object"), (0, u "<init>"), (0, u "()V"), (0, .class_ 8), (0, u "com/example/tenrec/tenrec/pool/RequestQueue"), (0, .fieldref 7 10), (0, .nameAndType 11 12), (0, u "arrivals"), (0, u "[D"), (0, .fieldref 7 14), (0, .nameAndType 15 12), (0, u "sizes"), (0, .fieldref 7 17), (0, .nameAndType 18 19), (0, u "count"), (0, u "I"), (3, .fieldref 7 24), (0, .nameAndType 25 19), (0, u "head"), (30, u "FIRST_CAPACITY"), (4, u "add"), (0, u "(DD)V"), (1, u "isEmpty"), (0, u "()Z"), (0, u "size"), (0, u "()I"), (0, u "firstArrival"), (0, u "()D"), (0, u "firstSize"), (0, u "removeFirst")] 2

def k2c0 : Code := { maxStack := 2, maxLocals := 1, code := prog_34_method_1_code, exceptionTable := #[], attributes := #[] }
def k2m0 : Method := { name := "<init>", desc := "()V", sig := { parameters := [], returnType := none }, accessFlags := 1, code := some k2c0 }
def k2c1 : Code := { maxStack := 4, maxLocals := 7, code := prog_34_method_2_code, exceptionTable := #[], attributes := #[] }
def k2m1 : Method := { name := "add", desc := "(DD)V", sig := { parameters := [.double, .double], returnType := none }, accessFlags := 1, code := some k2c1 }
def k2c2 : Code := { maxStack := 1, maxLocals := 1, code := prog_34_method_3_code, exceptionTable := #[], attributes := #[] }
def k2m2 : Method := { name := "isEmpty", desc := "()Z", sig := { parameters := [], returnType := some .boolean }, accessFlags := 1, code := some k2c2 }
def k2c3 : Code := { maxStack := 1, maxLocals := 1, code := prog_34_method_4_code, exceptionTable := #[], attributes := #[] }
def k2m3 : Method := { name := "size", desc := "()I", sig := { parameters := [], returnType := some .int }, accessFlags := 1, code := some k2c3 }
def k2c4 : Code := { maxStack := 2, maxLocals := 1, code := prog_34_method_5_code, exceptionTable := #[], attributes := #[] }
def k2m4 : Method := { name := "firstArrival", desc := "()D", sig := { parameters := [], returnType := some .double }, accessFlags := 1, code := some k2c4 }
def k2c5 : Code := { maxStack := 2, maxLocals := 1, code := prog_34_method_6_code, exceptionTable := #[], attributes := #[] }
def k2m5 : Method := { name := "firstSize", desc := "()D", sig := { parameters := [], returnType := some .double }, accessFlags := 1, code := some k2c5 }
def k2c6 : Code := { maxStack := 4, maxLocals := 1, code := prog_34_method_7_code, exceptionTable := #[], attributes := #[] }
def k2m6 : Method := { name := "removeFirst", desc := "()V", sig := { parameters := [], returnType := none }, accessFlags := 1, code := some k2c6 }
/-- com/example/tenrec/tenrec/pool/RequestQueue -/
def k2 : Class := { plain "com/example/tenrec/tenrec/pool/RequestQueue" (some 0) with
  accessFlags := 49
  interfaces := #[]
  cf := some (fileOf pool2 7 #[] #[{ accessFlags := 1, nameIndex := 5, descriptorIndex := 6, attributes := #[] }, { accessFlags := 1, nameIndex := 61, descriptorIndex := 62, attributes := #[] }, { accessFlags := 1, nameIndex := 64, descriptorIndex := 65, attributes := #[] }, { accessFlags := 1, nameIndex := 66, descriptorIndex := 67, attributes := #[] }, { accessFlags := 1, nameIndex := 68, descriptorIndex := 69, attributes := #[] }, { accessFlags := 1, nameIndex := 70, descriptorIndex := 69, attributes := #[] }, { accessFlags := 1, nameIndex := 71, descriptorIndex := 6, attributes := #[] }] 49 2 #[] #[{ accessFlags := 26, nameIndex := 56, descriptorIndex := 19, attributes := #[] }, { accessFlags := 2, nameIndex := 11, descriptorIndex := 12, attributes := #[] }, { accessFlags := 2, nameIndex := 15, descriptorIndex := 12, attributes := #[] }, { accessFlags := 2, nameIndex := 25, descriptorIndex := 19, attributes := #[] }, { accessFlags := 2, nameIndex := 18, descriptorIndex := 19, attributes := #[] }])
  fields := #[{ name := "FIRST_CAPACITY", type := .int, accessFlags := 26, slot := 0, constantValue := 0 }, { name := "arrivals", type := (.array .double), accessFlags := 2, slot := 0, constantValue := 0 }, { name := "sizes", type := (.array .double), accessFlags := 2, slot := 1, constantValue := 0 }, { name := "head", type := .int, accessFlags := 2, slot := 2, constantValue := 0 }, { name := "count", type := .int, accessFlags := 2, slot := 3, constantValue := 0 }]
  methods := #[k2m0, k2m1, k2m2, k2m3, k2m4, k2m5, k2m6]
  instanceTypes := #[(.array .double), (.array .double), .int, .int]
  staticTypes := #[.int]
  resolved := Array.replicate 74 none
  statics := none }

def pool3 : Array CpInfo := pool [(1, u "java/lang/Cloneable"), (0, .class_ 1), (0, u "java/lang/Object"), (0, .class_ 3)] 3

/-- java/lang/Cloneable -/
def k3 : Class := { plain "java/lang/Cloneable" (some 0) with
  accessFlags := 1537
  interfaces := #[]
  cf := some (fileOf pool3 2 #[] #[] 1537 4 #[] #[])
  fields := #[]
  methods := #[]
  instanceTypes := #[]
  staticTypes := #[]
  resolved := Array.replicate 8 none
  statics := none }

def pool4 : Array CpInfo := pool [(1, u "java/io/Serializable"), (0, .class_ 1), (0, u "java/lang/Object"), (0, .class_ 3)] 3

/-- java/io/Serializable -/
def k4 : Class := { plain "java/io/Serializable" (some 0) with
  accessFlags := 1537
  interfaces := #[]
  cf := some (fileOf pool4 2 #[] #[] 1537 4 #[] #[])
  fields := #[]
  methods := #[]
  instanceTypes := #[]
  staticTypes := #[]
  resolved := Array.replicate 8 none
  statics := none }

/-- the primitive byte -/
def k5 : Class := { plain "byte" none with kind := .primitive 'B', accessFlags := 0x411 }
/-- [B -/
def k6 : Class := { plain "[B" (some 0) with kind := .array 5 .byte, interfaces := #[3, 4], accessFlags := 1041 }

/-- the primitive int -/
def k7 : Class := { plain "int" none with kind := .primitive 'I', accessFlags := 0x411 }
/-- [I -/
def k8 : Class := { plain "[I" (some 0) with kind := .array 7 .int, interfaces := #[3, 4], accessFlags := 1041 }

/-- the primitive double -/
def k9 : Class := { plain "double" none with kind := .primitive 'D', accessFlags := 0x411 }
/-- [D -/
def k10 : Class := { plain "[D" (some 0) with kind := .array 9 .double, interfaces := #[3, 4], accessFlags := 1041 }

def heap : Heap := #[]
def classes : Array Class := #[k0, k1, k2, k3, k4, k5, k6, k7, k8, k9, k10]
def interned : List (Array UInt16 × Addr) := []
def slotsUsed : Nat := 0
def theMethod : MethodId := ⟨1, 3⟩
def args0 : Array Value := #[.int 2, .int 5]
def aboutOver (below : List Frame) : State where
  vm := { classes := classes, interned := interned.toArray }
  heap := heap
  slotsUsed := slotsUsed
  threads := #[{ frames := .invoking theMethod args0 :: below }]
def below0 : List Frame := [.native { method := ⟨0, 0⟩, args := #[] }]
def about1 : State := aboutOver below0
def p0 : Program := .bare "" "" ""
def e0 : Env := launch0.env 0 0 0
theorem w_frames : about1.frames = Frame.invoking theMethod args0 :: below0 := rfl
set_option maxRecDepth 65536 in
theorem w_args : argsFit about1.vm theMethod args0 = true := by decide +kernel
set_option maxRecDepth 65536 in
theorem w_heap : heapFits about1 = true := by decide +kernel
set_option maxRecDepth 65536 in
theorem w_runnable : about1.curStatus? = some .runnable := by decide +kernel
set_option maxRecDepth 65536 in
theorem w_alone : about1.alone = true := by decide +kernel
set_option maxRecDepth 65536 in
theorem w_named : about1.methodNamed? x = some theMethod := by decide +kernel
set_option maxRecDepth 65536 in
theorem w_hears : about1.hears theMethod below0 = true := by decide +kernel
set_option maxRecDepth 65536 in
theorem w_ripe : about1.ripe theMethod args0 below0 = true := by decide +kernel
theorem w_running : about1.status = .running := rfl
set_option maxRecDepth 65536 in
theorem w_room : about1.hasRoom e0.platform room_1 = true :=
  launch0.hasRoom_least _ room_1 (by decide +kernel) (by decide +kernel) (by decide +kernel) (by decide +kernel) (by decide +kernel) (by decide +kernel)
theorem allAtoms_all (ts : List Jvm.Cond) (a : Array Jvm.Value) (st : Jvm.State) : (allAtoms ts).before a st = ts.all (fun c => c.before a st) := by
  induction ts with
  | nil => rfl
  | cons c t ih =>
    show (Jvm.Cond.and c (allAtoms t)).before a st = _
    rw [Jvm.Cond.before_and, ih, List.all_cons]
def words1 : List Jvm.Cond := Jvm.Cond.code x code maxLocals ret :: tables_1
/-- a 'code' word, met by the world's own term for the bytes: nothing is compared byte by byte -/
theorem code_word {y : MethodName} {bytes : ByteArray} {mx : Nat} {rt : Option FieldType} {a : Array Value} {s : State} {m : MethodId} {meth : Method} {c : Code} (h1 : s.methodNamed? y = some m) (h2 : s.vm.method? m = some meth) (h3 : meth.code = some c) (h4 : c.code = bytes)
    (h5 : (c.maxLocals == mx && c.exceptionTable.isEmpty && decide (c.maxStack ≤ mostOperands) && decide (meth.sig.returnType = rt) && !meth.locks && decide (parseMethodDescriptor y.desc = some meth.sig)) = true) : (Jvm.Cond.code y bytes mx rt).before a s = true := by
  simp only [Bool.and_eq_true, beq_iff_eq, Bool.not_eq_true', decide_eq_true_eq] at h5
  obtain ⟨⟨⟨⟨⟨g1, g2⟩, g3⟩, g4⟩, g5⟩, g6⟩ := h5
  simp [Cond.before, Cond.holds, Cond.value, h1, h2, h3, h4, g1, g2, g3, g4, g5, g6]
def isCode : Jvm.Cond → Bool
  | .code _ _ _ _ => true
  | _ => false
theorem all_split {L : List Jvm.Cond} {P : Jvm.Cond → Bool} (h1 : L.all (fun c => isCode c || P c) = true) (h2 : ∀ c ∈ L.filter isCode, P c = true) : L.all P = true := by
  refine List.all_eq_true.mpr fun c hc => ?_
  have h := List.all_eq_true.mp h1 c hc
  rcases Bool.eq_false_or_eq_true (isCode c) with hi | hi
  · exact h2 c (List.mem_filter.mpr ⟨hc, hi⟩)
  · simpa [hi] using h
set_option maxRecDepth 65536 in
theorem w_c0 : (Jvm.Cond.code x code maxLocals ret).before args0 about1 = true := code_word (m := ⟨1, 3⟩) (meth := k1m3) (c := k1c3) (by decide +kernel) rfl rfl rfl (by decide +kernel)
set_option maxRecDepth 65536 in
theorem w_c1 : (Jvm.Cond.code ({ cls := "com/example/tenrec/tenrec/pool/RequestQueue", name := "<init>", desc := "()V" } : Jvm.MethodName) prog_34_method_1_code (1 : Nat) (Option.none : Option Jvm.ClassFile.FieldType)).before args0 about1 = true := code_word (m := ⟨2, 0⟩) (meth := k2m0) (c := k2c0) (by decide +kernel) rfl rfl rfl (by decide +kernel)
set_option maxRecDepth 65536 in
theorem w_c2 : (Jvm.Cond.code ({ cls := "java/lang/Object", name := "<init>", desc := "()V" } : Jvm.MethodName) object_method_1_code (1 : Nat) (Option.none : Option Jvm.ClassFile.FieldType)).before args0 about1 = true := code_word (m := ⟨0, 0⟩) (meth := k0m0) (c := k0c0) (by decide +kernel) rfl rfl rfl (by decide +kernel)
set_option maxRecDepth 65536 in
theorem w_c3 : (Jvm.Cond.code ({ cls := "com/example/tenrec/tenrec/pool/RequestQueueRemoveFirstPinLaw", name := "put", desc := "(Lcom/example/tenrec/tenrec/pool/RequestQueue;III)V" } : Jvm.MethodName) method_2_code (4 : Nat) (Option.none : Option Jvm.ClassFile.FieldType)).before args0 about1 = true := code_word (m := ⟨1, 1⟩) (meth := k1m1) (c := k1c1) (by decide +kernel) rfl rfl rfl (by decide +kernel)
set_option maxRecDepth 65536 in
theorem w_c4 : (Jvm.Cond.code ({ cls := "com/example/tenrec/tenrec/pool/RequestQueue", name := "add", desc := "(DD)V" } : Jvm.MethodName) prog_34_method_2_code (7 : Nat) (Option.none : Option Jvm.ClassFile.FieldType)).before args0 about1 = true := code_word (m := ⟨2, 1⟩) (meth := k2m1) (c := k2c1) (by decide +kernel) rfl rfl rfl (by decide +kernel)
set_option maxRecDepth 65536 in
theorem w_c5 : (Jvm.Cond.code ({ cls := "com/example/tenrec/tenrec/pool/RequestQueueRemoveFirstPinLaw", name := "front", desc := "(Lcom/example/tenrec/tenrec/pool/RequestQueue;IIII)Z" } : Jvm.MethodName) method_3_code (5 : Nat) (Option.some Jvm.ClassFile.FieldType.boolean)).before args0 about1 = true := code_word (m := ⟨1, 2⟩) (meth := k1m2) (c := k1c2) (by decide +kernel) rfl rfl rfl (by decide +kernel)
set_option maxRecDepth 65536 in
theorem w_c6 : (Jvm.Cond.code ({ cls := "com/example/tenrec/tenrec/pool/RequestQueue", name := "size", desc := "()I" } : Jvm.MethodName) prog_34_method_4_code (1 : Nat) (Option.some Jvm.ClassFile.FieldType.int)).before args0 about1 = true := code_word (m := ⟨2, 3⟩) (meth := k2m3) (c := k2c3) (by decide +kernel) rfl rfl rfl (by decide +kernel)
set_option maxRecDepth 65536 in
theorem w_c7 : (Jvm.Cond.code ({ cls := "com/example/tenrec/tenrec/pool/RequestQueue", name := "isEmpty", desc := "()Z" } : Jvm.MethodName) prog_34_method_3_code (1 : Nat) (Option.some Jvm.ClassFile.FieldType.boolean)).before args0 about1 = true := code_word (m := ⟨2, 2⟩) (meth := k2m2) (c := k2c2) (by decide +kernel) rfl rfl rfl (by decide +kernel)
set_option maxRecDepth 65536 in
theorem w_c8 : (Jvm.Cond.code ({ cls := "com/example/tenrec/tenrec/pool/RequestQueue", name := "firstArrival", desc := "()D" } : Jvm.MethodName) prog_34_method_5_code (1 : Nat) (Option.some Jvm.ClassFile.FieldType.double)).before args0 about1 = true := code_word (m := ⟨2, 4⟩) (meth := k2m4) (c := k2c4) (by decide +kernel) rfl rfl rfl (by decide +kernel)
set_option maxRecDepth 65536 in
theorem w_c9 : (Jvm.Cond.code ({ cls := "com/example/tenrec/tenrec/pool/RequestQueue", name := "firstSize", desc := "()D" } : Jvm.MethodName) prog_34_method_6_code (1 : Nat) (Option.some Jvm.ClassFile.FieldType.double)).before args0 about1 = true := code_word (m := ⟨2, 5⟩) (meth := k2m5) (c := k2c5) (by decide +kernel) rfl rfl rfl (by decide +kernel)
set_option maxRecDepth 65536 in
theorem w_c10 : (Jvm.Cond.code ({ cls := "com/example/tenrec/tenrec/pool/RequestQueue", name := "removeFirst", desc := "()V" } : Jvm.MethodName) prog_34_method_7_code (1 : Nat) (Option.none : Option Jvm.ClassFile.FieldType)).before args0 about1 = true := code_word (m := ⟨2, 6⟩) (meth := k2m6) (c := k2c6) (by decide +kernel) rfl rfl rfl (by decide +kernel)
def codes1 : List Jvm.Cond := [Jvm.Cond.code x code maxLocals ret, Jvm.Cond.code ({ cls := "com/example/tenrec/tenrec/pool/RequestQueue", name := "<init>", desc := "()V" } : Jvm.MethodName) prog_34_method_1_code (1 : Nat) (Option.none : Option Jvm.ClassFile.FieldType), Jvm.Cond.code ({ cls := "java/lang/Object", name := "<init>", desc := "()V" } : Jvm.MethodName) object_method_1_code (1 : Nat) (Option.none : Option Jvm.ClassFile.FieldType), Jvm.Cond.code ({ cls := "com/example/tenrec/tenrec/pool/RequestQueueRemoveFirstPinLaw", name := "put", desc := "(Lcom/example/tenrec/tenrec/pool/RequestQueue;III)V" } : Jvm.MethodName) method_2_code (4 : Nat) (Option.none : Option Jvm.ClassFile.FieldType), Jvm.Cond.code ({ cls := "com/example/tenrec/tenrec/pool/RequestQueue", name := "add", desc := "(DD)V" } : Jvm.MethodName) prog_34_method_2_code (7 : Nat) (Option.none : Option Jvm.ClassFile.FieldType), Jvm.Cond.code ({ cls := "com/example/tenrec/tenrec/pool/RequestQueueRemoveFirstPinLaw", name := "front", desc := "(Lcom/example/tenrec/tenrec/pool/RequestQueue;IIII)Z" } : Jvm.MethodName) method_3_code (5 : Nat) (Option.some Jvm.ClassFile.FieldType.boolean), Jvm.Cond.code ({ cls := "com/example/tenrec/tenrec/pool/RequestQueue", name := "size", desc := "()I" } : Jvm.MethodName) prog_34_method_4_code (1 : Nat) (Option.some Jvm.ClassFile.FieldType.int), Jvm.Cond.code ({ cls := "com/example/tenrec/tenrec/pool/RequestQueue", name := "isEmpty", desc := "()Z" } : Jvm.MethodName) prog_34_method_3_code (1 : Nat) (Option.some Jvm.ClassFile.FieldType.boolean), Jvm.Cond.code ({ cls := "com/example/tenrec/tenrec/pool/RequestQueue", name := "firstArrival", desc := "()D" } : Jvm.MethodName) prog_34_method_5_code (1 : Nat) (Option.some Jvm.ClassFile.FieldType.double), Jvm.Cond.code ({ cls := "com/example/tenrec/tenrec/pool/RequestQueue", name := "firstSize", desc := "()D" } : Jvm.MethodName) prog_34_method_6_code (1 : Nat) (Option.some Jvm.ClassFile.FieldType.double), Jvm.Cond.code ({ cls := "com/example/tenrec/tenrec/pool/RequestQueue", name := "removeFirst", desc := "()V" } : Jvm.MethodName) prog_34_method_7_code (1 : Nat) (Option.none : Option Jvm.ClassFile.FieldType)]
set_option maxRecDepth 65536 in
theorem codes_eq : words1.filter isCode = codes1 := rfl
theorem w_codes : ∀ c ∈ words1.filter isCode, c.before args0 about1 = true := by
  rw [codes_eq]
  intro c hc
  simp only [codes1, List.mem_cons, List.not_mem_nil, or_false] at hc
  rcases hc with rfl | rfl | rfl | rfl | rfl | rfl | rfl | rfl | rfl | rfl | rfl
  · exact w_c0
  · exact w_c1
  · exact w_c2
  · exact w_c3
  · exact w_c4
  · exact w_c5
  · exact w_c6
  · exact w_c7
  · exact w_c8
  · exact w_c9
  · exact w_c10
set_option maxRecDepth 65536 in
theorem w_t1 : (words1.take 24).all (fun c => isCode c || c.before args0 about1) = true := by decide +kernel
set_option maxRecDepth 65536 in
theorem w_t2 : ((words1.drop 24).take 24).all (fun c => isCode c || c.before args0 about1) = true := by decide +kernel
set_option maxRecDepth 65536 in
theorem w_t3 : ((words1.drop 24).drop 24).all (fun c => isCode c || c.before args0 about1) = true := by decide +kernel
theorem w_tables : (allAtoms (Jvm.Cond.code x code maxLocals ret :: tables_1)).before args0 about1 = true := by
  rw [allAtoms_all]
  show words1.all (fun c => c.before args0 about1) = true
  refine all_split ?_ w_codes
  rw [← List.take_append_drop 24 words1, List.all_append, w_t1, ← List.take_append_drop 24 (words1.drop 24), List.all_append, w_t2, w_t3]
  rfl
set_option maxRecDepth 65536 in
theorem w_case : (Jvm.Cond.and given_1 narrow_1).before args0 about1 = true := by decide +kernel
theorem w_applies : (headSpec (Jvm.Cond.code x code maxLocals ret :: tables_1) room_1).applies x e0.platform about1 = true :=
  (Spec.applies_iff w_frames).mpr ⟨w_running, w_runnable, w_alone, w_named, w_hears, w_ripe, w_room, w_tables⟩
theorem atStart : AtStart classFile x code maxLocals ret World_1 tables_1 room_1 Calls_1 rest_1 Pre_1 launch0 p0 e0 about1 theMethod args0 below0 :=
  ⟨lists_1, trivial, launch0.admits_env _ _ _, launch0.least_env, fairChoices_fair.cas, fairChoices_fair.clock, w_frames, w_args, w_heap, w_applies, trivial, trivial, w_case⟩
end start1
theorem witness_1 : WitnessClaimed_1 := ⟨start1.p0, start1.e0, start1.about1, start1.theMethod, start1.args0, start1.below0, start1.atStart⟩
end Jvm.Pilot.@@N@@
