import JvmDerived
import JvmDerived.Pilot.@@N@@Statement
import JvmDerived.Pilot.@@N@@Code
set_option linter.unusedVariables false
set_option linter.unusedSimpArgs false
namespace Jvm.Pilot.@@N@@
open Jvm Jvm.ClassFile Sem Op Lib Jvm.Free Jvm.Stand Jvm.LawKit Jvm.RoadKit Bundle Jvm.Pilot.@@N@@.Jvm.D
section OwnKit
variable {p : Program} {l : Launch} {e : Env} {R : Room} {s : State} {m : MethodId} {args : Array Value} {below : List Frame} {meth : Method} {c : Code} {T : State} {locs : List Loc} {cells slots : Nat} {Z : State} {a0 : Array Value} {h h0 : Heap}
/-- the run comes from S to an end of which Q speaks -/
def Gl (p : Program) (e : Env) (below : List Frame) (s : State) (Q : Option Value → Heap → List Loc → Prop) (cc kk : Nat) (S : State) : Prop :=
  ∃ t o, Steps p.tables e below S t ∧ t.status = .running ∧ Ended t below o ∧ ∃ v L, o = .returned v ∧ Q v t.heap L ∧ FrameEnd s o t L cc kk
theorem Gl.pre {Q : Option Value → Heap → List Loc → Prop} {cc kk : Nat} {S S' : State} (st : ∀ t, Steps p.tables e below S' t → Steps p.tables e below S t) (k : Gl p e below s Q cc kk S') : Gl p e below s Q cc kk S := by
  obtain ⟨t, o, h1, h2⟩ := k
  exact ⟨t, o, st _ h1, h2⟩
theorem Gl.ret {Q : Option Value → Heap → List Loc → Prop} {cc kk : Nat} {S : State} (X : Stand p l e R s m args below meth c T locs cells slots) {v : Option Value} (hv : meth.sig.returnType = none → v = none) (hlocks : meth.locks = false) (hQ : Q v T.heap locs) (hc : cells ≤ cc) (hk : slots ≤ kk)
    (st : ∀ fs, (∀ (f : JFrame) (acts : List Action), f.method = m → f.locked = none → f.entered = [] → (doReturn e (T.setTop f) acts v).1 = T.setFrames fs) → Steps p.tables e below S (T.setFrames fs)) : Gl p e below s Q cc kk S := by
  obtain ⟨fs, hr, hrun, hended, hW, hsame⟩ := X.leave (v := v) hv hlocks
  exact ⟨_, _, st fs hr, hrun, hended, _, _, rfl, hQ, ⟨_, rfl⟩, hW, hsame.mono hc hk⟩
theorem Gl.fin {Q : Option Value → Heap → List Loc → Prop} {cc kk : Nat} {S : State} (X : Stand p l e R s m args below meth c T locs cells slots) {v : Option Value} (hv : meth.sig.returnType = none → v = none) (hlocks : meth.locks = false) (hQ : Q v h locs) (eT : T.heap = h) (hc : cells ≤ cc) (hk : slots ≤ kk)
    (st : ∀ fs, (∀ (f : JFrame) (acts : List Action), f.method = m → f.locked = none → f.entered = [] → (doReturn e (T.setTop f) acts v).1 = T.setFrames fs) → Steps p.tables e below S (T.setFrames fs)) : Gl p e below s Q cc kk S :=
  Gl.ret X hv hlocks (by rw [eT]; exact hQ) hc hk st
abbrev OMet (l : Launch) (Z : State) (y : MethodName) (bytes : ByteArray) (maxL : Nat) (ret : Option FieldType) (ws : List Jvm.Cond) (rm : Room) (as' : Array Value) (h0 : Heap) (Q : Option Value → Heap → List Loc → Prop) : Prop :=
  MetFree l y (head1 (Jvm.Cond.code y bytes maxL ret :: ws) rm) (fun a U => a = as' ∧ Z.Warmed39 U.vm ∧ U.heap = h0) (fun _ _ _ _ _ => True) (fun _ U o U' => ∃ v L, o = .returned v ∧ Q v U'.heap L ∧ FrameEnd U o U' L rm.cells rm.slots)
theorem own_body {y : MethodName} {bytes : ByteArray} {maxL : Nat} {ret : Option FieldType} {ws : List Jvm.Cond} {rm : Room} {as' : Array Value} {Q : Option Value → Heap → List Loc → Prop} (hx : plainFor y = true)
    (H : ∀ p e s m below meth c s₁, BodyLoose p l y (head1 (Jvm.Cond.code y bytes maxL ret :: ws) rm) bytes maxL ret e s m as' below meth c s₁ → c.maxLocals = maxL → Z.Warmed39 s.vm → s₁.heap = h0 → Gl p e below s Q rm.cells rm.slots (s₁.setTop (entryFrame m as' maxL))) :
    OMet l Z y bytes maxL ret ws rm as' h0 Q := by
  refine MetFree.of_bodySF hx hisR ?_
  intro p e s m args below meth c s₁ Bd hml0 hP hK
  obtain ⟨rfl, hZ, hh⟩ := hP
  exact H p e s m below meth c s₁ Bd hml0 hZ (by rw [← hh, Bd.state]; rfl)
/-- an int is returned -/
theorem own_retI (X : Stand p l e R s m args below meth c T locs cells slots) (hx : p.tables.exec = Jvm.exec) {pc : Nat} {Ls : Array Slot} {z : Int32} {rest : List Value} (hret : meth.sig.returnType = some .int) (hd : decode c.code pc = .ok (.ireturn, 1)) {fs : List Frame}
    (hl : ∀ (f : JFrame) (acts : List Action), f.method = m → f.locked = none → f.entered = [] → (doReturn e (T.setTop f) acts (some (.int z))).1 = T.setFrames fs) : Steps p.tables e below (T.setTop (mkF m pc Ls (.int z :: rest))) (T.setFrames fs) :=
  retOut X hx hret rfl (Or.inl ⟨rfl, Or.inl rfl, z, rfl⟩) hd hl
theorem own_retJ (X : Stand p l e R s m args below meth c T locs cells slots) (hx : p.tables.exec = Jvm.exec) {pc : Nat} {Ls : Array Slot} {z : Int64} {rest : List Value} (hret : meth.sig.returnType = some .long) (hd : decode c.code pc = .ok (.lreturn, 1)) {fs : List Frame}
    (hl : ∀ (f : JFrame) (acts : List Action), f.method = m → f.locked = none → f.entered = [] → (doReturn e (T.setTop f) acts (some (.long z))).1 = T.setFrames fs) : Steps p.tables e below (T.setTop (mkF m pc Ls (.long z :: rest))) (T.setFrames fs) :=
  retOut X hx hret rfl (Or.inr (Or.inl ⟨rfl, rfl, z, rfl⟩)) hd hl
theorem own_retD (X : Stand p l e R s m args below meth c T locs cells slots) (hx : p.tables.exec = Jvm.exec) {pc : Nat} {Ls : Array Slot} {z : UInt64} {rest : List Value} (hret : meth.sig.returnType = some .double) (hd : decode c.code pc = .ok (.dreturn, 1)) {fs : List Frame}
    (hl : ∀ (f : JFrame) (acts : List Action), f.method = m → f.locked = none → f.entered = [] → (doReturn e (T.setTop f) acts (some (.double z))).1 = T.setFrames fs) : Steps p.tables e below (T.setTop (mkF m pc Ls (.double z :: rest))) (T.setFrames fs) :=
  retOut X hx hret rfl (Or.inr (Or.inr (Or.inl ⟨rfl, rfl, z, rfl⟩))) hd hl
theorem own_retR (X : Stand p l e R s m args below meth c T locs cells slots) (hx : p.tables.exec = Jvm.exec) {pc : Nat} {Ls : Array Slot} {w : Value} {t : FieldType} {rest : List Value} (hret : meth.sig.returnType = some t) (ht : t.isReference = true) (hn : narrow t w = w) (hw : w.isRef = true) (hd : decode c.code pc = .ok (.areturn, 1)) {fs : List Frame}
    (hl : ∀ (f : JFrame) (acts : List Action), f.method = m → f.locked = none → f.entered = [] → (doReturn e (T.setTop f) acts (some w)).1 = T.setFrames fs) : Steps p.tables e below (T.setTop (mkF m pc Ls (w :: rest))) (T.setFrames fs) :=
  retOut X hx hret hn (Or.inr (Or.inr (Or.inr (Or.inr ⟨rfl, ht, hw⟩)))) hd hl
/-- a static method by its contract -/
theorem own_callS (X : Stand p l e R s m args below meth c T locs cells slots) (hx : p.tables.exec = Jvm.exec) (hZ : Z.Warmed39 s.vm) {own : String} {index : Nat} {y : MethodName} {bytes : ByteArray} {maxL : Nat} {ret : Option FieldType} {rm : Room} {Q : Option Value → Heap → List Loc → Prop}
    (hown : s.vm.findClass own = some m.cls) (w1 : (Jvm.Cond.methodLink own index y).before a0 Z = true) (w2 : (Jvm.Cond.static y).before a0 Z = true) (w3 : (Jvm.Cond.initialized y.cls).before a0 Z = true) (w4 : (Jvm.Cond.code y bytes maxL ret).before a0 Z = true)
    (hy : y.cls ≠ "java/lang/invoke/MethodHandle" ∧ y.cls ≠ "java/lang/invoke/VarHandle") {argsL rest : List Value} (hM : OMet l Z y bytes maxL ret [] rm argsL.toArray h Q) {W : Nat} (hf : rm.frames + 1 ≤ R.frames) (hl : W + (maxL + 11) + rm.locals ≤ R.locals) (hc : cells + rm.cells ≤ R.cells) (hs : slots + rm.slots ≤ R.slots)
    (eT : T.heap = h) {pc : Nat} {Ls : Array Slot} (hsize : Ls.size = c.maxLocals) (hlen : ∀ sig, parseMethodDescriptor y.desc = some sig → argsL.length = sig.parameters.length) (hW : (rest.map fun v => v.category).sum ≤ W) (hd : decode c.code pc = .ok (.invokestatic index, 3)) :
    ∃ (v : Option Value) (T' : State) (L : List Loc), Stand p l e R s m args below meth c T' (locs ++ L) (cells + rm.cells) (slots + rm.slots) ∧ Q v T'.heap L ∧
      ∀ t, Steps p.tables e below (T'.setTop (mkF m (pc + 3) Ls (v.toList ++ rest))) t → Steps p.tables e below (T.setTop (mkF m pc Ls (argsL.reverse ++ rest))) t := by
  obtain ⟨v, _, ⟨T', L', k', n'⟩, -, X', ⟨L, hQ, hl', hy', hz'⟩, st⟩ := Jvm.LawKit.callS X hx (y := y) hown (mvT hZ w1) (mvT hZ w2) (mvT hZ w3) (mvT hZ w4) hy (backOf (W := W) hM hZ w4 w3 hf hl) (g := mkF m pc Ls (argsL.reverse ++ rest)) rfl hsize (argsL := argsL) (rest := rest) hlen rfl (by show 2 * 0 + _ ≤ _; omega) hd (fun _ _ => ⟨rfl, eT, hc, hs⟩)
  dsimp only [Pt.U, Pt.locs, Pt.cells, Pt.slots] at X' hl' hy' hz' st hQ
  subst hl' hy' hz'
  exact ⟨v, T', L, X', hQ, st⟩
/-- a constructor by its contract -/
theorem own_callI (X : Stand p l e R s m args below meth c T locs cells slots) (hx : p.tables.exec = Jvm.exec) (hZ : Z.Warmed39 s.vm) {own : String} {index : Nat} {y : MethodName} {bytes : ByteArray} {maxL : Nat} {rm : Room} {Q : Option Value → Heap → List Loc → Prop} (hy1 : y.name = "<init>")
    (hown : s.vm.findClass own = some m.cls) (w1 : (Jvm.Cond.methodLink own index y).before a0 Z = true) (w2 : (Jvm.Cond.instanceMethod y).before a0 Z = true) (w3 : (Jvm.Cond.initialized y.cls).before a0 Z = true) (w4 : (Jvm.Cond.code y bytes maxL none).before a0 Z = true)
    (hy : y.cls ≠ "java/lang/invoke/MethodHandle" ∧ y.cls ≠ "java/lang/invoke/VarHandle") {a : Addr} {argsL rest : List Value} (hM : OMet l Z y bytes maxL none [] rm (.ref a :: argsL).toArray h Q) {W : Nat} (hf : rm.frames + 1 ≤ R.frames) (hl : W + (maxL + 11) + rm.locals ≤ R.locals) (hc : cells + rm.cells ≤ R.cells) (hs : slots + rm.slots ≤ R.slots)
    (eT : T.heap = h) {pc : Nat} {Ls : Array Slot} (hsize : Ls.size = c.maxLocals) (hlen : ∀ sig, parseMethodDescriptor y.desc = some sig → argsL.length = sig.parameters.length) (hW : (rest.map fun v => v.category).sum ≤ W) (hd : decode c.code pc = .ok (.invokespecial index, 3)) :
    ∃ (v : Option Value) (T' : State) (L : List Loc), Stand p l e R s m args below meth c T' (locs ++ L) (cells + rm.cells) (slots + rm.slots) ∧ Q v T'.heap L ∧
      ∀ t, Steps p.tables e below (T'.setTop (mkF m (pc + 3) Ls (v.toList ++ rest))) t → Steps p.tables e below (T.setTop (mkF m pc Ls (argsL.reverse ++ .ref a :: rest))) t := by
  obtain ⟨v, _, ⟨T', L', k', n'⟩, -, X', ⟨L, hQ, hl', hy', hz'⟩, st⟩ := X.specialBack hx (y := y) hy1 hown (mvT hZ w1) (mvT hZ w2) (mvT hZ w4) hy (backOf (W := W) hM hZ w4 w3 hf hl) (g := mkF m pc Ls (argsL.reverse ++ .ref a :: rest)) rfl hsize (Steps.refl _) (a := a) (argsL := argsL) (rest := rest) hlen rfl (by show 2 * 0 + _ ≤ _; omega) hd (fun _ _ => ⟨rfl, eT, hc, hs⟩)
  dsimp only [Pt.U, Pt.locs, Pt.cells, Pt.slots] at X' hl' hy' hz' st hQ
  subst hl' hy' hz'
  exact ⟨v, T', L, X', hQ, fun t k => st.trans k⟩
/-- an instance method by its contract, the receiver's class known -/
theorem own_callV (X : Stand p l e R s m args below meth c T locs cells slots) (hx : p.tables.exec = Jvm.exec) (hZ : Z.Warmed39 s.vm) {own C : String} {index : Nat} {y z : MethodName} {bytes : ByteArray} {maxL : Nat} {ret : Option FieldType} {rm : Room} {Q : Option Value → Heap → List Loc → Prop}
    (hown : s.vm.findClass own = some m.cls) (w1 : (Jvm.Cond.methodLink own index y).before a0 Z = true) (wd : (Jvm.Cond.declares y).before a0 Z = true) (hnf : NotFace s y) (ws : (Jvm.Cond.selects C y z).before a0 Z = true) (w2 : (Jvm.Cond.instanceMethod z).before a0 Z = true) (w3 : (Jvm.Cond.initialized z.cls).before a0 Z = true) (w4 : (Jvm.Cond.code z bytes maxL ret).before a0 Z = true)
    (hy : y.cls ≠ "java/lang/invoke/MethodHandle" ∧ y.cls ≠ "java/lang/invoke/VarHandle") {a : Addr} (E : Exa Z h a C) {argsL rest : List Value} (hM : OMet l Z z bytes maxL ret [] rm (.ref a :: argsL).toArray h Q) {W : Nat} (hf : rm.frames + 1 ≤ R.frames) (hl : W + (maxL + 11) + rm.locals ≤ R.locals) (hc : cells + rm.cells ≤ R.cells) (hs : slots + rm.slots ≤ R.slots)
    (eT : T.heap = h) {pc : Nat} {Ls : Array Slot} (hsize : Ls.size = c.maxLocals) (hlen : ∀ sig, parseMethodDescriptor y.desc = some sig → argsL.length = sig.parameters.length) (hW : (rest.map fun v => v.category).sum ≤ W) (hd : decode c.code pc = .ok (.invokevirtual index, 3)) :
    ∃ (v : Option Value) (T' : State) (L : List Loc), Stand p l e R s m args below meth c T' (locs ++ L) (cells + rm.cells) (slots + rm.slots) ∧ Q v T'.heap L ∧
      ∀ t, Steps p.tables e below (T'.setTop (mkF m (pc + 3) Ls (v.toList ++ rest))) t → Steps p.tables e below (T.setTop (mkF m pc Ls (argsL.reverse ++ .ref a :: rest))) t := by
  obtain ⟨cB, kB, q1, q2, q3⟩ := isOf hZ eT E
  obtain ⟨v, _, ⟨T', L', k', n'⟩, -, X', ⟨L, hQ, hl', hy', hz'⟩, st⟩ := X.virtualBack hx (y := y) (z := z) hown (mvT hZ w1) (mvT hZ wd) hnf (mvT hZ ws) (mvT hZ w2) hy (backOf (W := W) hM hZ w4 w3 hf hl) q1 q3 (g := mkF m pc Ls (argsL.reverse ++ .ref a :: rest)) rfl hsize (Steps.refl _) (argsL := argsL) (rest := rest) hlen rfl (by show 2 * 0 + _ ≤ _; omega) hd (fun _ _ => ⟨rfl, eT, hc, hs⟩)
  dsimp only [Pt.U, Pt.locs, Pt.cells, Pt.slots] at X' hl' hy' hz' st hQ
  subst hl' hy' hz'
  exact ⟨v, T', L, X', hQ, fun t k => st.trans k⟩
/-- an inherited instance method: the link names a class that doesn't declare it -/
theorem own_callU (X : Stand p l e R s m args below meth c T locs cells slots) (hx : p.tables.exec = Jvm.exec) (hZ : Z.Warmed39 s.vm) {own C owner : String} {index : Nat} {y z : MethodName} {bytes : ByteArray} {maxL : Nat} {ret : Option FieldType} {rm : Room} {Q : Option Value → Heap → List Loc → Prop}
    (hown : s.vm.findClass own = some m.cls) (w1 : (Jvm.Cond.methodLink own index y).before a0 Z = true) (wm : (Jvm.Cond.sameMethod y.cls owner y.name y.desc).before a0 Z = true) (wd : (Jvm.Cond.declares ⟨owner, y.name, y.desc⟩).before a0 Z = true) (ws : (Jvm.Cond.selects C y z).before a0 Z = true) (w2 : (Jvm.Cond.instanceMethod z).before a0 Z = true) (w3 : (Jvm.Cond.initialized z.cls).before a0 Z = true) (w4 : (Jvm.Cond.code z bytes maxL ret).before a0 Z = true)
    (hy : owner ≠ "java/lang/invoke/MethodHandle" ∧ owner ≠ "java/lang/invoke/VarHandle") {a : Addr} (E : Exa Z h a C) {argsL rest : List Value} (hM : OMet l Z z bytes maxL ret [] rm (.ref a :: argsL).toArray h Q) {W : Nat} (hf : rm.frames + 1 ≤ R.frames) (hl : W + (maxL + 11) + rm.locals ≤ R.locals) (hc : cells + rm.cells ≤ R.cells) (hs : slots + rm.slots ≤ R.slots)
    (eT : T.heap = h) {pc : Nat} {Ls : Array Slot} (hsize : Ls.size = c.maxLocals) (hlen : ∀ sig, parseMethodDescriptor y.desc = some sig → argsL.length = sig.parameters.length) (hW : (rest.map fun v => v.category).sum ≤ W) (hd : decode c.code pc = .ok (.invokevirtual index, 3)) :
    ∃ (v : Option Value) (T' : State) (L : List Loc), Stand p l e R s m args below meth c T' (locs ++ L) (cells + rm.cells) (slots + rm.slots) ∧ Q v T'.heap L ∧
      ∀ t, Steps p.tables e below (T'.setTop (mkF m (pc + 3) Ls (v.toList ++ rest))) t → Steps p.tables e below (T.setTop (mkF m pc Ls (argsL.reverse ++ .ref a :: rest))) t := by
  obtain ⟨cB, kB, q1, q2, q3⟩ := isOf hZ eT E
  obtain ⟨v, _, ⟨T', L', k', n'⟩, -, X', ⟨L, hQ, hl', hy', hz'⟩, st⟩ := X.virtualBackUp hx (x := y) (y := z) (owner := owner) hown (mvT hZ w1) (mvT hZ wm) (mvT hZ wd) hy (mvT hZ ws) (mvT hZ w2) (backOf (W := W) hM hZ w4 w3 hf hl) q1 q3 (g := mkF m pc Ls (argsL.reverse ++ .ref a :: rest)) rfl hsize (Steps.refl _) (argsL := argsL) (rest := rest) hlen rfl (by show 2 * 0 + _ ≤ _; omega) hd (fun _ _ => ⟨rfl, eT, hc, hs⟩)
  dsimp only [Pt.U, Pt.locs, Pt.cells, Pt.slots] at X' hl' hy' hz' st hQ
  subst hl' hy' hz'
  exact ⟨v, T', L, X', hQ, fun t k => st.trans k⟩
/-- an interface's method by the contract of the body that the receiver's class selects -/
theorem own_callF (X : Stand p l e R s m args below meth c T locs cells slots) (hx : p.tables.exec = Jvm.exec) (hZ : Z.Warmed39 s.vm) {own C : String} {index count : Nat} {y z : MethodName} {bytes : ByteArray} {maxL : Nat} {ret : Option FieldType} {rm : Room} {Q : Option Value → Heap → List Loc → Prop}
    (hown : s.vm.findClass own = some m.cls) (w1 : (Jvm.Cond.methodLink own index y).before a0 Z = true) (wd : (Jvm.Cond.declares y).before a0 Z = true) (wf : (Jvm.Cond.interfaceMethod y.cls y.cls y.name y.desc).before args s = true) (ws : (Jvm.Cond.selects C y z).before a0 Z = true) (w2 : (Jvm.Cond.instanceMethod z).before a0 Z = true) (wp : (Jvm.Cond.publicMethod z).before a0 Z = true) (wu : (Jvm.Cond.unhidden C y.name y.desc).before a0 Z = true) (wc : (Jvm.Cond.castable C y.cls).before a0 Z = true) (w3 : (Jvm.Cond.initialized z.cls).before a0 Z = true) (w4 : (Jvm.Cond.code z bytes maxL ret).before a0 Z = true)
    (hy : y.cls ≠ "java/lang/invoke/MethodHandle" ∧ y.cls ≠ "java/lang/invoke/VarHandle") {a : Addr} (E : Exa Z h a C) {argsL rest : List Value} (hM : OMet l Z z bytes maxL ret [] rm (.ref a :: argsL).toArray h Q) {W : Nat} (hf : rm.frames + 1 ≤ R.frames) (hl : W + (maxL + 11) + rm.locals ≤ R.locals) (hc : cells + rm.cells ≤ R.cells) (hs : slots + rm.slots ≤ R.slots)
    (eT : T.heap = h) {pc : Nat} {Ls : Array Slot} (hsize : Ls.size = c.maxLocals) (hlen : ∀ sig, parseMethodDescriptor y.desc = some sig → argsL.length = sig.parameters.length) (hW : (rest.map fun v => v.category).sum ≤ W) (hd : decode c.code pc = .ok (.invokeinterface index count, 5)) :
    ∃ (v : Option Value) (T' : State) (L : List Loc), Stand p l e R s m args below meth c T' (locs ++ L) (cells + rm.cells) (slots + rm.slots) ∧ Q v T'.heap L ∧
      ∀ t, Steps p.tables e below (T'.setTop (mkF m (pc + 5) Ls (v.toList ++ rest))) t → Steps p.tables e below (T.setTop (mkF m pc Ls (argsL.reverse ++ .ref a :: rest))) t := by
  obtain ⟨cB, kB, q1, q2, q3⟩ := isOf hZ eT E
  obtain ⟨v, _, ⟨T', L', k', n'⟩, -, X', ⟨L, hQ, hl', hy', hz'⟩, st⟩ := X.interfaceBack hx (xi := y) (y := z) hown (mvT hZ w1) (mvT hZ wd) wf (mvT hZ ws) (mvT hZ w2) (mvT hZ wp) (mvT hZ wu) (mvT hZ wc) hy (backOf (W := W) hM hZ w4 w3 hf hl) q1 q2 q3 (g := mkF m pc Ls (argsL.reverse ++ .ref a :: rest)) rfl hsize (Steps.refl _) (argsL := argsL) (rest := rest) hlen rfl (by show 2 * 0 + _ ≤ _; omega) hd (fun _ _ => ⟨rfl, eT, hc, hs⟩)
  dsimp only [Pt.U, Pt.locs, Pt.cells, Pt.slots] at X' hl' hy' hz' st hQ
  subst hl' hy' hz'
  exact ⟨v, T', L, X', hQ, fun t k => st.trans k⟩
theorem own_hc {T : State} {h : Heap} {a : Addr} {cl : Cell} (q : T.heap = h) (r : h[a]? = some cl) : T.heap[a]? = some cl := by rw [q]; exact r
/-- what a Bool is as Java's int -/
def b2i (b : Bool) : Int32 := if b then 1 else 0
theorem b2i_t {b : Bool} (h : b = true) : b2i b = 1 := by simp [b2i, h]
theorem b2i_f {b : Bool} (h : b = false) : b2i b = 0 := by simp [b2i, h]
theorem b2i_inj {a b : Bool} : b2i a = b2i b ↔ a = b := by cases a <;> cases b <;> decide
/-- the branches' conditions in plain words -/
theorem ic_lt (x y : Int32) : if_icmp.holds .lt x y = decide (x < y) := by by_cases q : x < y <;> simp [q, tlt, flt]
theorem ic_ge (x y : Int32) : if_icmp.holds .ge x y = !decide (x < y) := by by_cases q : x < y <;> simp [q, tlt, flt]
theorem ic_gt (x y : Int32) : if_icmp.holds .gt x y = decide (y < x) := by by_cases q : y < x <;> simp [q, tlt, flt]
theorem ic_le (x y : Int32) : if_icmp.holds .le x y = !decide (y < x) := by by_cases q : y < x <;> simp [q, tlt, flt]
theorem ic_eq (x y : Int32) : if_icmp.holds .eq x y = decide (x = y) := by by_cases q : x = y <;> simp [q, teq, feq]
theorem ic_ne (x y : Int32) : if_icmp.holds .ne x y = !decide (x = y) := by by_cases q : x = y <;> simp [q, teq, feq]
theorem i0_lt (x : Int32) : ifCond.holds .lt x = decide (x < 0) := (if0 _ _).trans (ic_lt x 0)
theorem i0_ge (x : Int32) : ifCond.holds .ge x = !decide (x < 0) := (if0 _ _).trans (ic_ge x 0)
theorem i0_gt (x : Int32) : ifCond.holds .gt x = decide (0 < x) := (if0 _ _).trans (ic_gt x 0)
theorem i0_le (x : Int32) : ifCond.holds .le x = !decide (0 < x) := (if0 _ _).trans (ic_le x 0)
theorem i0_eq (x : Int32) : ifCond.holds .eq x = decide (x = 0) := (if0 _ _).trans (ic_eq x 0)
theorem i0_ne (x : Int32) : ifCond.holds .ne x = !decide (x = 0) := (if0 _ _).trans (ic_ne x 0)
theorem lw_lt (x y : Int64) : lcmpW x y < 0 ↔ x < y := by rw [lcW]; exact Jvm.RoadKit.lc_lt x y
theorem lw_gt (x y : Int64) : 0 < lcmpW x y ↔ y < x := by rw [lcW]; exact Jvm.RoadKit.lc_gt x y
theorem lw_eq (x y : Int64) : lcmpW x y = 0 ↔ x = y := by rw [lcW]; exact Jvm.RoadKit.lc_eq x y
theorem l0_lt (x y : Int64) : ifCond.holds .lt (lcmpW x y) = decide (x < y) := (i0_lt _).trans (by simp [lw_lt])
theorem l0_ge (x y : Int64) : ifCond.holds .ge (lcmpW x y) = !decide (x < y) := (i0_ge _).trans (by simp [lw_lt])
theorem l0_gt (x y : Int64) : ifCond.holds .gt (lcmpW x y) = decide (y < x) := (i0_gt _).trans (by simp [lw_gt])
theorem l0_le (x y : Int64) : ifCond.holds .le (lcmpW x y) = !decide (y < x) := (i0_le _).trans (by simp [lw_gt])
theorem l0_eq (x y : Int64) : ifCond.holds .eq (lcmpW x y) = decide (x = y) := (i0_eq _).trans (by simp [lw_eq])
theorem l0_ne (x y : Int64) : ifCond.holds .ne (lcmpW x y) = !decide (x = y) := (i0_ne _).trans (by simp [lw_eq])
theorem b0_eq (b : Bool) : ifCond.holds .eq (b2i b) = !b := by cases b <;> decide
theorem b0_ne (b : Bool) : ifCond.holds .ne (b2i b) = b := by cases b <;> decide
theorem own_t {P : Prop} [Decidable P] {u : Bool} (q : u = decide P) (hp : P) : u = true := by rw [q]; exact decide_eq_true hp
theorem own_f {P : Prop} [Decidable P] {u : Bool} (q : u = decide P) (hp : ¬ P) : u = false := by rw [q]; exact decide_eq_false hp
theorem own_nt {P : Prop} [Decidable P] {u : Bool} (q : u = !decide P) (hp : ¬ P) : u = true := by rw [q]; simp [hp]
theorem own_nf {P : Prop} [Decidable P] {u : Bool} (q : u = !decide P) (hp : P) : u = false := by rw [q]; simp [hp]
theorem own_bt {u b : Bool} (q : u = b) (hp : b = true) : u = true := q.trans hp
theorem own_bf {u b : Bool} (q : u = b) (hp : b = false) : u = false := q.trans hp
theorem own_nbt {u b : Bool} (q : u = !b) (hp : b = false) : u = true := by rw [q, hp]; rfl
theorem own_nbf {u b : Bool} (q : u = !b) (hp : b = true) : u = false := by rw [q, hp]; rfl
theorem own_retN (X : Stand p l e R s m args below meth c T locs cells slots) (hx : p.tables.exec = Jvm.exec) {pc : Nat} {Ls : Array Slot} {z z' : Int32} {t : FieldType} {rest : List Value} (hret : meth.sig.returnType = some t) (ht : t = .boolean ∨ t = .byte ∨ t = .char ∨ t = .short) (hn : nar t z = z')
    (hd : decode c.code pc = .ok (.ireturn, 1)) {fs : List Frame} (hl : ∀ (f : JFrame) (acts : List Action), f.method = m → f.locked = none → f.entered = [] → (doReturn e (T.setTop f) acts (some (.int z'))).1 = T.setFrames fs) :
    Steps p.tables e below (T.setTop (mkF m pc Ls (.int z :: rest))) (T.setFrames fs) := by
  subst hn
  exact retN X hx hret ht hd hl
theorem own_nar_b2i (b : Bool) : nar .boolean (b2i b) = b2i b := by cases b <;> decide
theorem own_narrow_b2i (b : Bool) : narrow .boolean (.int (b2i b)) = .int (b2i b) := by cases b <;> rfl
theorem own_fits_b2i (b : Bool) : fits .boolean (.int (b2i b)) = true := by cases b <;> rfl
theorem own_nar_i2b (x : Int32) : nar .byte x.toInt8.toInt32 = x.toInt8.toInt32 := by simp [nar]
theorem own_lrem (x y : Int64) : x - x / y * y = x % y := by
  apply Int64.toInt_inj.mp
  have h1 := Int64.le_toInt (x % y)
  have h2 := Int64.toInt_lt (x % y)
  have e : x.toInt - y.toInt * x.toInt.tdiv y.toInt = x.toInt.tmod y.toInt := (Int.tmod_def _ _).symm
  rw [Int64.toInt_sub, Int64.toInt_mul, Int64.toInt_div, Int.bmod_mul_bmod, Int.sub_bmod_bmod, Int.mul_comm (x.toInt.tdiv y.toInt), e, ← Int64.toInt_mod]
  exact Int.bmod_eq_of_le_mul_two (by omega) (by omega)
/-- getfield by an entry that is resolved already -/
theorem own_getFR (X : Stand p l e R s m args below meth c T locs cells slots) (hx : p.tables.exec = Jvm.exec) (hZ : Z.Warmed39 s.vm) {own O n d : String} {index : Nat} (hown : s.vm.findClass own = some m.cls) (w : (Jvm.Cond.fieldRef own index O n d).before a0 Z = true)
    (eT : T.heap = h) {a : Addr} {v : Value} (F : Fld Z h a O n d v) {g : JFrame} (hg : g.method = m) {rest : List Value} (hs : g.stack = .ref a :: rest) (hd : decode c.code g.pc = .ok (.getfield index, 3)) : ∃ T', Stand p l e R s m args below meth c T' locs cells slots ∧ T'.heap = h ∧ ∀ target, Steps p.tables e below (T'.setTop { g with pc := g.pc + 3, stack := v :: rest }) target → Steps p.tables e below (T.setTop g) target := by
  have hZT : Z.Warmed39 T.vm := wtrans hZ X.warmed
  have w' := Cond.fieldRef_warmed39 hZT w
  have hcur : (Z.setVm T.vm).vm.findClass own = some m.cls := (X.warmed.alike.findClass own _).trans hown
  obtain ⟨c', k', i', f', h1, hready⟩ := Cond.fieldRef_spec (s := Z.setVm T.vm) hcur w'
  obtain ⟨cell, cf, k, i, f, g1, g2, g3, g4, -, -, g7⟩ := F
  obtain ⟨k2, hi, -⟩ := State.fieldFound?_setVm (s := Z) hZT.alike g2
  have q := Option.some.inj (h1.symm.trans hi)
  simp only [Prod.mk.injEq] at q
  obtain ⟨rfl, -, -, rfl⟩ := q
  exact ⟨T, X, eT, fun target kt => (X.getfieldR hx hg hready g3 hs (by rw [eT]; exact g1) g4 g7 hd (Steps.refl _)).trans kt⟩
/-- the case's words on statics and fields, at the start -/
theorem own_sx {C n d K : String} (w1 : (Jvm.Cond.initialized C).before args s = true) (w2 : (Jvm.Cond.laysStatic C n d).before args s = true) (q : (Jvm.Cond.exactly (Term.static C n d) K).value args s none s [] = some true) : ∃ a : Addr, (Term.static C n d).eval args s none [] s = some (.ref a) ∧ Sta s s.heap C n d (.ref a) ∧ Exa s s.heap a K := by
  obtain ⟨a, ev⟩ := exa_v q
  exact ⟨a, ev, Sta.start ev (Or.inr ⟨w1, w2⟩), Exa.start ev q⟩
theorem own_fi {t : Term} {a : Addr} {C n d : String} {k : Int32} (ev : t.eval args s none [] s = some (.ref a)) (q : (Jvm.Cond.eq (Term.field t C n d) (Term.int k)).value args s none s [] = some true) : Fld s s.heap a C n d (.int k) := by
  obtain ⟨x, y, h1, h2, h3, h4⟩ := cmp_v (Or.inl q)
  have h5 : y = .int k := (Option.some.inj (h2.symm.trans (Term.int_eval k)) : _)
  subst h5
  obtain ⟨z, rfl⟩ : ∃ z, x = .int z := h4
  have e2 := h1
  rw [fld_at ev] at h1
  simp [Cond.value, e2, h2] at q
  subst q
  exact Fld.start h1
theorem own_fx {t : Term} {a : Addr} {C n d K : String} (ev : t.eval args s none [] s = some (.ref a)) (q : (Jvm.Cond.exactly (Term.field t C n d) K).value args s none s [] = some true) : ∃ b : Addr, (Term.field t C n d).eval args s none [] s = some (.ref b) ∧ Fld s s.heap a C n d (.ref b) ∧ Exa s s.heap b K := by
  obtain ⟨b, ev2⟩ := exa_v q
  exact ⟨b, ev2, Fld.start ((fld_at ev).symm.trans ev2), Exa.start ev2 q⟩
/-- a class that the chain of superclasses doesn't meet: its own word is 'instantiable' -/
theorem own_ns_root {Z : State} {a0 : Array Value} {O K : String} {n : Nat} (w : (Jvm.Cond.noSuperclass O).before a0 Z = true) (wi : (Jvm.Cond.instantiable K n).before a0 Z = true) (hn : O ≠ K) : NS Z O K := by
  obtain ⟨c, k, h1, h2, h3, -, -⟩ := Cond.noSuperclass_spec w
  obtain ⟨t, kt, g1, -⟩ := Cond.instantiable_spec wi
  have ne := ids_ne h1 g1 hn
  refine ⟨c, t, h1, g1, fun fuel => ?_⟩
  cases fuel with
  | zero => rfl
  | succ f => simp [Vm.isSubclassAux, ne, h2, h3]
theorem own_ns_no {Z : State} {a0 : Array Value} {C S K : String} {n : Nat} (w : (Jvm.Cond.superclass C S).before a0 Z = true) (wi : (Jvm.Cond.instantiable K n).before a0 Z = true) (q : NS Z C K) (hn : C ≠ K) : ∃ c t, Z.vm.findClass C = some c ∧ Z.vm.findClass K = some t ∧ Z.vm.assignable c t = false := by
  obtain ⟨c, t, h0, g0, n3⟩ := q
  obtain ⟨p, k, kp, h1, h2, h3, h4, h5, -, h7⟩ := Cond.superclass_spec h0 w
  obtain ⟨t', kt, g1, g2, g3, g4, -, -⟩ := Cond.instantiable_spec wi
  cases g0.symm.trans g1
  have g5 : kt.isInterface = false := by simp only [Bool.or_eq_false_iff] at g4; exact g4.1
  have ne := ids_ne h0 g0 hn
  refine ⟨c, t, h0, g0, ?_⟩
  show Z.vm.assignableAux (255 + 1) c t = false
  simp [Vm.assignableAux, ne, h2, g2, h5, g3, g5, Vm.isSubclass, n3]
/-- a static's cell isn't written by one who writes objects alone -/
theorem own_sta_keep {Z : State} {h h' : Heap} {C n d : String} {v : Value} {ws : List Addr} (F : Sta Z h C n d v) (K : Keep h h' ws) (q : ∀ x ∈ ws, ∃ C', Exa Z h x C') : Sta Z h' C n d v := by
  obtain ⟨cf, i, k, f, st, cell, h1, h2, h3, h4, h5, h6, h7⟩ := F
  refine ⟨cf, i, k, f, st, cell, h1, h2, h3, h4, K.2.1 st cell h5 (fun r => ?_), h6, h7⟩
  obtain ⟨C', c', k', g1, -, -, g4, -⟩ := q st r
  rw [h5] at g1
  cases g1
  rw [h6] at g4
  cases g4
theorem own_ne32 {x y : Int32} (h : x ≠ y) : Value.int x ≠ Value.int y := fun q => h (Value.int.inj q)
end OwnKit
theorem own_and64_63 (p : Int64) : 0 ≤ (p &&& 9223372036854775807).toInt := by
  have h : (p &&& 9223372036854775807).toInt = (p &&& 9223372036854775807).toBitVec.toInt := rfl
  rw [h, Int64.toBitVec_and]
  have e : (9223372036854775807 : Int64).toBitVec = 9223372036854775807#64 := rfl
  rw [e, BitVec.toInt_eq_toNat_cond, BitVec.toNat_and]
  have : p.toBitVec.toNat &&& (9223372036854775807#64).toNat ≤ 9223372036854775807 := Nat.and_le_right
  split <;> omega
theorem own_and64_16 (p : Int64) : 0 ≤ (p &&& 65535).toInt := by
  have h : (p &&& 65535).toInt = (p &&& 65535).toBitVec.toInt := rfl
  rw [h, Int64.toBitVec_and]
  have e : (65535 : Int64).toBitVec = 65535#64 := rfl
  rw [e, BitVec.toInt_eq_toNat_cond, BitVec.toNat_and]
  have : p.toBitVec.toNat &&& (65535#64).toNat ≤ 65535 := Nat.and_le_right
  split <;> omega
theorem own_max1 (x : Int64) : 1 ≤ (if (1 : Int64) < x then x else 1).toInt := by
  split
  · rename_i h; rw [Int64.lt_iff_toInt_lt] at h
    have e : (1 : Int64).toInt = 1 := by decide
    omega
  · decide
theorem own_M : (9223372036854775807 : Int64).toInt = 9223372036854775807 := by decide
theorem own_l0 : (0 : Int64).toInt = 0 := by decide
theorem own_lv {i L : Int64} (hi : 0 ≤ i.toInt) (hL : 1 ≤ L.toInt) : 9223372036854775807 - L < i ↔ i + L < 0 := by
  have b1 := i.toInt_lt
  have b2 := L.toInt_lt
  rw [Int64.lt_iff_toInt_lt, Int64.lt_iff_toInt_lt, Int64.toInt_sub, Int64.toInt_add, own_M, own_l0]
  have e1 : (9223372036854775807 - L.toInt).bmod (2 ^ 64) = 9223372036854775807 - L.toInt := Int.bmod_eq_of_le (by omega) (by omega)
  rw [e1]
  by_cases q : i.toInt + L.toInt < 2 ^ 63
  · rw [Int.bmod_eq_of_le (by omega) (by omega)]; omega
  · have : (i.toInt + L.toInt).bmod (2 ^ 64) = i.toInt + L.toInt - 2 ^ 64 := by
      rw [Int.bmod_def]; omega
    omega
theorem own_ushr2 (x : Int32) : 0 ≤ ((x.toUInt32 >>> ((2 : Int32) &&& 31).toUInt32).toInt32).toInt := by
  have h4 : (((2 : Int32) &&& 31).toUInt32.toNat % 32) = 2 := by decide
  have h : ((x.toUInt32 >>> ((2 : Int32) &&& 31).toUInt32).toInt32).toInt = ((x.toUInt32 >>> ((2 : Int32) &&& 31).toUInt32)).toBitVec.toInt := rfl
  rw [h, BitVec.toInt_eq_toNat_cond]
  have h2 : ((x.toUInt32 >>> ((2 : Int32) &&& 31).toUInt32)).toBitVec.toNat = (x.toUInt32 >>> ((2 : Int32) &&& 31).toUInt32).toNat := rfl
  rw [h2, UInt32.toNat_shiftRight, h4, Nat.shiftRight_eq_div_pow]
  have := x.toUInt32.toNat_lt
  split <;> omega
theorem own_o (x : Int32) : (((x.toUInt32 >>> ((2 : Int32) &&& 31).toUInt32).toInt32) % 3 - 1).toInt = -1 ∨ (((x.toUInt32 >>> ((2 : Int32) &&& 31).toUInt32).toInt32) % 3 - 1).toInt = 0 ∨ (((x.toUInt32 >>> ((2 : Int32) &&& 31).toUInt32).toInt32) % 3 - 1).toInt = 1 := by
  have h := own_ushr2 x
  generalize (x.toUInt32 >>> ((2 : Int32) &&& 31).toUInt32).toInt32 = y at *
  have e3 : (3 : Int32).toInt = 3 := by decide
  have e1 : (1 : Int32).toInt = 1 := by decide
  rw [Int32.toInt_sub, Int32.toInt_mod, e3, e1, Int.tmod_eq_emod_of_nonneg h]
  have := Int.emod_nonneg y.toInt (by decide : (3 : Int) ≠ 0)
  have := Int.emod_lt_of_pos y.toInt (by decide : (0 : Int) < 3)
  rw [Int.bmod_eq_of_le (by omega) (by omega)]
  omega
theorem own_inst {L : Int64} {o : Int32} (hL : 1 ≤ L.toInt) (ho : o.toInt = -1 ∨ o.toInt = 0 ∨ o.toInt = 1) (hb : o.toInt = -1 → ¬ 9223372036854775807 - L = 0) : 0 ≤ ((9223372036854775807 - L) + o.toInt64).toInt := by
  have b2 := L.toInt_lt
  have e1 : (9223372036854775807 - L).toInt = 9223372036854775807 - L.toInt := by
    rw [Int64.toInt_sub, own_M]; exact Int.bmod_eq_of_le (by omega) (by omega)
  rw [Int64.toInt_add, e1, Int32.toInt_toInt64]
  have hb' : o.toInt = -1 → 9223372036854775807 - L.toInt ≠ 0 := fun q z => hb q (by rw [← Int64.toInt_inj, e1, own_l0]; exact z)
  rw [Int.bmod_eq_of_le (by omega) (by omega)]
  omega
theorem ef_rm1 (m : MethodId) (x0 : Int64) (x1 : Int64) : entryFrame m #[(.long x0), (.long x1)] 4 = mkF m 0 #[.val (.long x0), .second, .val (.long x1), .second] [] := by first | (simp [entryFrame, mkF, argsToLocals, Value.category]; done) | rfl
theorem d1_0 : decode jdk_29_method_66_code 0 = .ok (.lload_n 0, 1) := by decide +kernel
theorem d1_1 : decode jdk_29_method_66_code 1 = .ok (.lload_n 2, 1) := by decide +kernel
theorem d1_2 : decode jdk_29_method_66_code 2 = .ok (.lcmp, 1) := by decide +kernel
theorem d1_3 : decode jdk_29_method_66_code 3 = .ok (.ifCond .lt 7, 3) := by decide +kernel
theorem d1_10 : decode jdk_29_method_66_code 10 = .ok (.lload_n 2, 1) := by decide +kernel
theorem d1_11 : decode jdk_29_method_66_code 11 = .ok (.lreturn, 1) := by decide +kernel
theorem d1_6 : decode jdk_29_method_66_code 6 = .ok (.lload_n 0, 1) := by decide +kernel
theorem d1_7 : decode jdk_29_method_66_code 7 = .ok (.goto 4, 3) := by decide +kernel
def Q1 (Z : State) (q1 : Int64) (q2 : Int64) (h0 : Heap) (n0 : Nat) (v : Option Value) (h : Heap) (L : List Loc) : Prop := v = some (.long (if q1 < q2 then q2 else q1)) ∧ Fr n0 L ∧ h = h0
set_option maxRecDepth 65536 in
set_option maxHeartbeats 40000000 in
theorem rm1 (l : Launch) (Z : State) (a0 : Array Value) (hw : ∀ d ∈ tables_1, d.before a0 Z = true) (ws : List Jvm.Cond) (q1 : Int64) (q2 : Int64) (h0 : Heap) (n0 : Nat) (Z0 : n0 ≤ h0.size) :
    OMet l Z (⟨"java/lang/Math", "max", "(JJ)J"⟩ : MethodName) jdk_29_method_66_code 4 (some .long) ws ({ frames := 0, cells := 0, slots := 0, locals := 0 } : Room) #[(.long q1), (.long q2)] h0 (Q1 Z q1 q2 h0 n0) := by
  refine own_body (Jvm.Free.JP.mathPlain rfl (by decide +kernel)) ?_
  intro p e s m below meth c s₁ Bd hml0 hZ e0
  have hx := Bd.exec
  have hby := Bd.bytes
  have hml : c.maxLocals = 4 := hml0
  have hown : s.vm.findClass "java/lang/Math" = some m.cls := findClass_of_methodNamed Bd.named
  have hnm := (name_of_methodNamed Bd.named Bd.method).1
  have X0 : Stand p l e ({ frames := 0, cells := 0, slots := 0, locals := 0 } : Room) s m #[(.long q1), (.long q2)] below meth c s₁ [] 0 0 := Stand.of_body Bd
  have N0 := Fr.nil n0
  have K0 : Keep h0 h0 [] := Keep.refl _ _
  rw [ef_rm1]
  refine Gl.pre (S' := s₁.setTop (mkF m 3 #[.val (.long q1), .second, .val (.long q2), .second] [(.int (lcmpW q1 q2))])) (fun t kt => ?_) ?_
  · show Steps p.tables e below (s₁.setTop (mkF m 0 #[.val (.long q1), .second, .val (.long q2), .second] [])) _
    refine XS.lloadN X0.here hx rfl (hb hby d1_0) rfl ?_
    show Steps p.tables e below (s₁.setTop (mkF m 1 #[.val (.long q1), .second, .val (.long q2), .second] [(.long q1)])) _
    refine XS.lloadN X0.here hx rfl (hb hby d1_1) rfl ?_
    show Steps p.tables e below (s₁.setTop (mkF m 2 #[.val (.long q1), .second, .val (.long q2), .second] [(.long q2), (.long q1)])) _
    refine XS.lcmp X0.here hx rfl (hb hby d1_2) rfl ?_
    exact kt
  by_cases hc3 : q1 < q2
  · refine Gl.fin X0 (v := some (.long q2)) (fun h => by rw [Bd.returns] at h; cases h) Bd.notSynchronized ?_ e0 (by decide) (by decide) (fun fs hr => ?_)
    · exact ⟨by simp [hc3], N0, rfl⟩
    · show Steps p.tables e below (s₁.setTop (mkF m 3 #[.val (.long q1), .second, .val (.long q2), .second] [(.int (lcmpW q1 q2))])) _
      refine XS.ifYes X0.here hx rfl (pc0 := 3) (pc' := 10) rfl (hb hby d1_3) rfl (own_t (l0_lt _ _) hc3) (by decide) (by decide) ?_
      show Steps p.tables e below (s₁.setTop (mkF m 10 #[.val (.long q1), .second, .val (.long q2), .second] [])) _
      refine XS.lloadN X0.here hx rfl (hb hby d1_10) rfl ?_
      show Steps p.tables e below (s₁.setTop (mkF m 11 #[.val (.long q1), .second, .val (.long q2), .second] [(.long q2)])) _
      exact own_retJ X0 hx Bd.returns (hb hby d1_11) hr
  · refine Gl.fin X0 (v := some (.long q1)) (fun h => by rw [Bd.returns] at h; cases h) Bd.notSynchronized ?_ e0 (by decide) (by decide) (fun fs hr => ?_)
    · exact ⟨by simp [hc3], N0, rfl⟩
    · show Steps p.tables e below (s₁.setTop (mkF m 3 #[.val (.long q1), .second, .val (.long q2), .second] [(.int (lcmpW q1 q2))])) _
      refine XS.ifNo X0.here hx rfl (hb hby d1_3) rfl (own_f (l0_lt _ _) hc3) ?_
      show Steps p.tables e below (s₁.setTop (mkF m 6 #[.val (.long q1), .second, .val (.long q2), .second] [])) _
      refine XS.lloadN X0.here hx rfl (hb hby d1_6) rfl ?_
      show Steps p.tables e below (s₁.setTop (mkF m 7 #[.val (.long q1), .second, .val (.long q2), .second] [(.long q1)])) _
      refine XS.goto X0.here hx rfl (pc0 := 7) (pc' := 11) rfl (hb hby d1_7) (by decide) (by decide) ?_
      show Steps p.tables e below (s₁.setTop (mkF m 11 #[.val (.long q1), .second, .val (.long q2), .second] [(.long q1)])) _
      exact own_retJ X0 hx Bd.returns (hb hby d1_11) hr
theorem pn_java_util_AbstractCollection : plainName "java/util/AbstractCollection" = true := by first | (simp [plainName, overriddenIn]; done) | decide +kernel
theorem ef_rm5 (m : MethodId) (x0 : Addr) : entryFrame m #[(.ref x0)] 1 = mkF m 0 #[.val (.ref x0)] [] := by first | (simp [entryFrame, mkF, argsToLocals, Value.category]; done) | rfl
theorem d5_0 : decode jdk_22_method_1_code 0 = .ok (.aload_n 0, 1) := by decide +kernel
theorem d5_1 : decode jdk_22_method_1_code 1 = .ok (.invokespecial 1, 3) := by decide +kernel
theorem d5_4 : decode jdk_22_method_1_code 4 = .ok (.return_, 1) := by decide +kernel
def Q5 (Z : State) (a1 : Addr) (h0 : Heap) (n0 : Nat) (v : Option Value) (h : Heap) (L : List Loc) : Prop := v = none ∧ Fr n0 L ∧ h = h0
set_option maxRecDepth 65536 in
set_option maxHeartbeats 40000000 in
theorem rm5 (l : Launch) (Z : State) (a0 : Array Value) (hw : ∀ d ∈ tables_1, d.before a0 Z = true) (ws : List Jvm.Cond) (a1 : Addr) (h0 : Heap) (n0 : Nat) (Z0 : n0 ≤ h0.size) :
    OMet l Z (⟨"java/util/AbstractCollection", "<init>", "()V"⟩ : MethodName) jdk_22_method_1_code 1 none ws ({ frames := 1, cells := 0, slots := 0, locals := 12 } : Room) #[(.ref a1)] h0 (Q5 Z a1 h0 n0) := by
  refine own_body (plainFor_of_name pn_java_util_AbstractCollection) ?_
  intro p e s m below meth c s₁ Bd hml0 hZ e0
  have hx := Bd.exec
  have hby := Bd.bytes
  have hml : c.maxLocals = 1 := hml0
  have hown : s.vm.findClass "java/util/AbstractCollection" = some m.cls := findClass_of_methodNamed Bd.named
  have hnm := (name_of_methodNamed Bd.named Bd.method).1
  have X0 : Stand p l e ({ frames := 1, cells := 0, slots := 0, locals := 12 } : Room) s m #[(.ref a1)] below meth c s₁ [] 0 0 := Stand.of_body Bd
  have N0 := Fr.nil n0
  have K0 : Keep h0 h0 [] := Keep.refl _ _
  rw [ef_rm5]
  obtain ⟨T101, X101, e101, st101⟩ := initO X0 hx hZ hown (hw _ (List.mem_of_getElem? (i := 26) rfl)) (hw _ (List.mem_of_getElem? (i := 12) rfl)) (hw _ (List.mem_of_getElem? (i := 13) rfl)) e0 (g := (mkF m 1 #[.val (.ref a1)] [(.ref a1)])) rfl (by rw [hml]; rfl) rfl (hb hby d5_1) (by decide) (W := 0) (by show 2 * 0 + _ ≤ _; exact Nat.le_of_eq rfl) (by decide)
  refine Gl.fin X101 (v := none) (fun _ => rfl) Bd.notSynchronized ?_ e101 (by decide) (by decide) (fun fs hr => ?_)
  · exact ⟨rfl, N0, rfl⟩
  · show Steps p.tables e below (s₁.setTop (mkF m 0 #[.val (.ref a1)] [])) _
    refine XS.aloadN X0.here hx rfl (hb hby d5_0) rfl rfl ?_
    show Steps p.tables e below (s₁.setTop (mkF m 1 #[.val (.ref a1)] [(.ref a1)])) _
    refine st101 _ ?_
    show Steps p.tables e below (T101.setTop (mkF m 4 #[.val (.ref a1)] [])) _
    exact X101.returnOut hx Bd.returns (hb hby d5_4) hr
theorem pn_java_util_ArrayDeque : plainName "java/util/ArrayDeque" = true := by first | (simp [plainName, overriddenIn]; done) | decide +kernel
theorem ef_rm4 (m : MethodId) (x0 : Addr) : entryFrame m #[(.ref x0)] 1 = mkF m 0 #[.val (.ref x0)] [] := by first | (simp [entryFrame, mkF, argsToLocals, Value.category]; done) | rfl
theorem d4_0 : decode jdk_21_method_3_code 0 = .ok (.aload_n 0, 1) := by decide +kernel
theorem d4_1 : decode jdk_21_method_3_code 1 = .ok (.invokespecial 42, 3) := by decide +kernel
theorem pd___V : parseMethodDescriptor "()V" = some ⟨[], none⟩ := by decide +kernel
theorem d4_4 : decode jdk_21_method_3_code 4 = .ok (.aload_n 0, 1) := by decide +kernel
theorem d4_5 : decode jdk_21_method_3_code 5 = .ok (.bipush 17, 2) := by decide +kernel
theorem d4_7 : decode jdk_21_method_3_code 7 = .ok (.anewarray 47, 3) := by decide +kernel
theorem d4_10 : decode jdk_21_method_3_code 10 = .ok (.putfield 3, 3) := by decide +kernel
theorem d4_13 : decode jdk_21_method_3_code 13 = .ok (.return_, 1) := by decide +kernel
def Q4 (Z : State) (a1 : Addr) (h0 : Heap) (n0 : Nat) (v : Option Value) (h : Heap) (L : List Loc) : Prop := v = none ∧ Fr n0 L ∧ Keep h0 h [a1]
set_option maxRecDepth 65536 in
set_option maxHeartbeats 40000000 in
theorem rm4 (l : Launch) (Z : State) (a0 : Array Value) (hw : ∀ d ∈ tables_1, d.before a0 Z = true) (ws : List Jvm.Cond) (a1 : Addr) (h0 : Heap) (n0 : Nat) (Z0 : n0 ≤ h0.size) (g_a1 : n0 ≤ a1) (E_a : Exa Z h0 a1 "java/util/ArrayDeque") (F_e : Fld Z h0 a1 "java/util/ArrayDeque" "elements" "[Ljava/lang/Object;" .null) :
    OMet l Z (⟨"java/util/ArrayDeque", "<init>", "()V"⟩ : MethodName) jdk_21_method_3_code 1 none ws ({ frames := 2, cells := 1, slots := 17, locals := 26 } : Room) #[(.ref a1)] h0 (Q4 Z a1 h0 n0) := by
  refine own_body (plainFor_of_name pn_java_util_ArrayDeque) ?_
  intro p e s m below meth c s₁ Bd hml0 hZ e0
  have hx := Bd.exec
  have hby := Bd.bytes
  have hml : c.maxLocals = 1 := hml0
  have hown : s.vm.findClass "java/util/ArrayDeque" = some m.cls := findClass_of_methodNamed Bd.named
  have hnm := (name_of_methodNamed Bd.named Bd.method).1
  have X0 : Stand p l e ({ frames := 2, cells := 1, slots := 17, locals := 26 } : Room) s m #[(.ref a1)] below meth c s₁ [] 0 0 := Stand.of_body Bd
  have N0 := Fr.nil n0
  have K0 : Keep h0 h0 [a1] := Keep.refl _ _
  rw [ef_rm4]
  obtain ⟨v101, T101, L101, X101, q101, st101⟩ := own_callI X0 hx hZ (y := (⟨"java/util/AbstractCollection", "<init>", "()V"⟩ : MethodName)) rfl hown (hw _ (List.mem_of_getElem? (i := 20) rfl)) (hw _ (List.mem_of_getElem? (i := 21) rfl)) (hw _ (List.mem_of_getElem? (i := 24) rfl)) (hw _ (List.mem_of_getElem? (i := 25) rfl)) (by decide) (a := a1) (hM := (rm5 l Z a0 hw [] a1 h0 n0 Z0)) (by decide) (by decide) (by decide) (by decide) e0 (argsL := []) (rest := []) (Ls := #[.val (.ref a1)]) (by rw [hml]; rfl) (lenOf pd___V rfl) (W := 0) (Nat.le_of_eq rfl) (hb hby d4_1)
  obtain ⟨rfl, N101q, e101⟩ := q101
  have N101 := Fr.app N0 N101q
  obtain ⟨T102, h102, k102, X102, e102, E102, A102, O102, st102⟩ := newR X101 hx hZ hown (hw _ (List.mem_of_getElem? (i := 27) rfl)) (hw _ (List.mem_of_getElem? (i := 28) rfl)) e101 (g := (mkF m 7 #[.val (.ref a1)] [(.int (17 : Int32)), (.ref a1)])) rfl (hb hby d4_7) rfl (by decide) (cap := 17) (by decide) (by decide) (by decide) (by decide)
  obtain ⟨b102, g102⟩ : ∃ z, z = h0.size := ⟨_, rfl⟩
  have g_b102 : n0 ≤ b102 := Nat.le_trans Z0 (Nat.le_of_eq g102.symm)
  have sz_b102 : h0.size ≤ b102 := Nat.le_trans K0.1 (Nat.le_of_eq g102.symm)
  rw [← g102] at A102 st102
  have K102 : Keep h0 h102 [a1] := K0.ext E102
  have V_b102 : Arv Z h102 b102 k102 (.object "java/lang/Object") (17 : Int32) [.null, .null, .null, .null, .null, .null, .null, .null, .null, .null, .null, .null, .null, .null, .null, .null, .null] .null := (Arv.new A102 (by decide)).pad (pad_rep [] .null 17)
  have f103 := (F_e.ext E102)
  have f104 := (E_a.ext E102)
  obtain ⟨T105, h105, X105, e105, W105, st105⟩ := putF X102 hx hZ hown (host := "") (Or.inl (hw _ (List.mem_of_getElem? (i := 29) rfl))) Via.refl e102 f103 f104 (Or.inl (hw _ (List.mem_of_getElem? (i := 30) rfl))) (hw _ (List.mem_of_getElem? (i := 15) rfl)) (ty := (.array (.object "java/lang/Object"))) (by decide) rfl rfl (g := (mkF m 10 #[.val (.ref a1)] [(.ref b102), (.ref a1)])) rfl rfl (hb hby d4_10)
  have Fw105 := f103.same W105
  have K105 : Keep h0 h105 [a1] := K102.wr W105 (Or.inl (List.mem_of_getElem? (i := 0) rfl))
  have N105 := Fr.snoc X105 N101 g_a1
  refine Gl.fin X105 (v := none) (fun _ => rfl) Bd.notSynchronized ?_ e105 (by decide) (by decide) (fun fs hr => ?_)
  · exact ⟨rfl, N105, K105⟩
  · show Steps p.tables e below (s₁.setTop (mkF m 0 #[.val (.ref a1)] [])) _
    refine XS.aloadN X0.here hx rfl (hb hby d4_0) rfl rfl ?_
    show Steps p.tables e below (s₁.setTop (mkF m 1 #[.val (.ref a1)] [(.ref a1)])) _
    refine st101 _ ?_
    show Steps p.tables e below (T101.setTop (mkF m 4 #[.val (.ref a1)] [])) _
    refine XS.aloadN X101.here hx rfl (hb hby d4_4) rfl rfl ?_
    show Steps p.tables e below (T101.setTop (mkF m 5 #[.val (.ref a1)] [(.ref a1)])) _
    refine XS.bipush X101.here hx rfl (hb hby d4_5) ?_
    show Steps p.tables e below (T101.setTop (mkF m 7 #[.val (.ref a1)] [(.int (17 : Int32)), (.ref a1)])) _
    refine st102 _ ?_
    show Steps p.tables e below (T102.setTop (mkF m 10 #[.val (.ref a1)] [(.ref b102), (.ref a1)])) _
    refine st105 _ ?_
    show Steps p.tables e below (T105.setTop (mkF m 13 #[.val (.ref a1)] [])) _
    exact X105.returnOut hx Bd.returns (hb hby d4_13) hr
theorem pn_com_example_tenrec_tenrec_policy_MeasuredWindow : plainName "com/example/tenrec/tenrec/policy/MeasuredWindow" = true := by first | (simp [plainName, overriddenIn]; done) | decide +kernel
theorem ef_rm2 (m : MethodId) (x0 : Addr) (x1 : Int64) : entryFrame m #[(.ref x0), (.long x1)] 3 = mkF m 0 #[.val (.ref x0), .val (.long x1), .second] [] := by first | (simp [entryFrame, mkF, argsToLocals, Value.category]; done) | rfl
theorem d2_0 : decode prog_8_method_1_code 0 = .ok (.aload_n 0, 1) := by decide +kernel
theorem d2_1 : decode prog_8_method_1_code 1 = .ok (.invokespecial 1, 3) := by decide +kernel
theorem d2_4 : decode prog_8_method_1_code 4 = .ok (.aload_n 0, 1) := by decide +kernel
theorem d2_5 : decode prog_8_method_1_code 5 = .ok (.new 7, 3) := by decide +kernel
theorem d2_8 : decode prog_8_method_1_code 8 = .ok (.dup, 1) := by decide +kernel
theorem d2_9 : decode prog_8_method_1_code 9 = .ok (.invokespecial 9, 3) := by decide +kernel
theorem d2_12 : decode prog_8_method_1_code 12 = .ok (.putfield 10, 3) := by decide +kernel
theorem d2_15 : decode prog_8_method_1_code 15 = .ok (.aload_n 0, 1) := by decide +kernel
theorem d2_16 : decode prog_8_method_1_code 16 = .ok (.lload_n 1, 1) := by decide +kernel
theorem d2_17 : decode prog_8_method_1_code 17 = .ok (.putfield 16, 3) := by decide +kernel
theorem d2_20 : decode prog_8_method_1_code 20 = .ok (.return_, 1) := by decide +kernel
def Q2 (Z : State) (a1 : Addr) (q1 : Int64) (h0 : Heap) (n0 : Nat) (v : Option Value) (h : Heap) (L : List Loc) : Prop := v = none ∧ Fr n0 L ∧ Keep h0 h [a1] ∧ Exa Z h a1 "com/example/tenrec/tenrec/policy/MeasuredWindow" ∧ Fld Z h a1 "com/example/tenrec/tenrec/policy/MeasuredWindow" "length" "J" (.long q1)
set_option maxRecDepth 65536 in
set_option maxHeartbeats 40000000 in
theorem rm2 (l : Launch) (Z : State) (a0 : Array Value) (hw : ∀ d ∈ tables_1, d.before a0 Z = true) (ws : List Jvm.Cond) (a1 : Addr) (q1 : Int64) (h0 : Heap) (n0 : Nat) (Z0 : n0 ≤ h0.size) (g_a1 : n0 ≤ a1) (E_a : Exa Z h0 a1 "com/example/tenrec/tenrec/policy/MeasuredWindow") (F_a : Fld Z h0 a1 "com/example/tenrec/tenrec/policy/MeasuredWindow" "arrived" "Ljava/util/ArrayDeque;" .null) (F_l : Fld Z h0 a1 "com/example/tenrec/tenrec/policy/MeasuredWindow" "length" "J" (.long (0 : Int64))) :
    OMet l Z (⟨"com/example/tenrec/tenrec/policy/MeasuredWindow", "<init>", "(J)V"⟩ : MethodName) prog_8_method_1_code 3 none ws ({ frames := 3, cells := 2, slots := 20, locals := 40 } : Room) #[(.ref a1), (.long q1)] h0 (Q2 Z a1 q1 h0 n0) := by
  refine own_body (plainFor_of_name pn_com_example_tenrec_tenrec_policy_MeasuredWindow) ?_
  intro p e s m below meth c s₁ Bd hml0 hZ e0
  have hx := Bd.exec
  have hby := Bd.bytes
  have hml : c.maxLocals = 3 := hml0
  have hown : s.vm.findClass "com/example/tenrec/tenrec/policy/MeasuredWindow" = some m.cls := findClass_of_methodNamed Bd.named
  have hnm := (name_of_methodNamed Bd.named Bd.method).1
  have X0 : Stand p l e ({ frames := 3, cells := 2, slots := 20, locals := 40 } : Room) s m #[(.ref a1), (.long q1)] below meth c s₁ [] 0 0 := Stand.of_body Bd
  have N0 := Fr.nil n0
  have K0 : Keep h0 h0 [a1] := Keep.refl _ _
  rw [ef_rm2]
  obtain ⟨T101, X101, e101, st101⟩ := initO X0 hx hZ hown (hw _ (List.mem_of_getElem? (i := 11) rfl)) (hw _ (List.mem_of_getElem? (i := 12) rfl)) (hw _ (List.mem_of_getElem? (i := 13) rfl)) e0 (g := (mkF m 1 #[.val (.ref a1), .val (.long q1), .second] [(.ref a1)])) rfl (by rw [hml]; rfl) rfl (hb hby d2_1) (by decide) (W := 0) (by show 2 * 0 + _ ≤ _; exact Nat.le_of_eq rfl) (by decide)
  obtain ⟨T102, h102, X102, e102, E102, A102, D102, -, st102⟩ := newO X101 hx hZ hown (hw _ (List.mem_of_getElem? (i := 14) rfl)) (hw _ (List.mem_of_getElem? (i := 15) rfl)) (hw _ (List.mem_of_getElem? (i := 16) rfl)) e101 (g := (mkF m 5 #[.val (.ref a1), .val (.long q1), .second] [(.ref a1)])) rfl (hb hby d2_5) (by decide) (by decide)
  obtain ⟨b102, g102⟩ : ∃ z, z = h0.size := ⟨_, rfl⟩
  have g_b102 : n0 ≤ b102 := Nat.le_trans Z0 (Nat.le_of_eq g102.symm)
  have sz_b102 : h0.size ≤ b102 := Nat.le_trans K0.1 (Nat.le_of_eq g102.symm)
  rw [← g102] at A102 D102 st102
  have K102 : Keep h0 h102 [a1] := K0.ext E102
  have F_elements_b102 : Fld Z h102 b102 "java/util/ArrayDeque" "elements" "[Ljava/lang/Object;" .null := D102 (Or.inl (hw _ (List.mem_of_getElem? (i := 30) rfl))) (ty := (.array (.object "java/lang/Object"))) (by decide)
  have z104 : n0 ≤ h102.size := (Nat.le_trans Z0 E102.1)
  obtain ⟨v103, T103, L103, X103, q103, st103⟩ := own_callI X102 hx hZ (y := (⟨"java/util/ArrayDeque", "<init>", "()V"⟩ : MethodName)) rfl hown (hw _ (List.mem_of_getElem? (i := 17) rfl)) (hw _ (List.mem_of_getElem? (i := 18) rfl)) (hw _ (List.mem_of_getElem? (i := 16) rfl)) (hw _ (List.mem_of_getElem? (i := 19) rfl)) (by decide) (a := b102) (hM := (rm4 l Z a0 hw [] b102 h102 n0 z104 g_b102 A102 F_elements_b102)) (by decide) (by decide) (by decide) (by decide) e102 (argsL := []) (rest := [(.ref b102), (.ref a1)]) (Ls := #[.val (.ref a1), .val (.long q1), .second]) (by rw [hml]; rfl) (lenOf pd___V rfl) (W := 2) (Nat.le_of_eq rfl) (hb hby d2_9)
  obtain ⟨rfl, N103q, K103q⟩ := q103
  have N103 := Fr.app N0 N103q
  have K103 : Keep h0 T103.heap [a1] := K102.trans K103q (allS (Or.inr sz_b102) all0)
  have f105 := ((F_a.ext E102).keep K103q (ninS (Nat.ne_of_lt (Nat.lt_of_lt_of_le E_a.lt (Nat.le_of_eq g102.symm))) nin0))
  have f106 := ((E_a.ext E102).keep K103q)
  obtain ⟨T107, h107, X107, e107, W107, st107⟩ := putF X103 hx hZ hown (host := "") (Or.inl (hw _ (List.mem_of_getElem? (i := 31) rfl))) Via.refl rfl f105 f106 (Or.inr ⟨(hw _ (List.mem_of_getElem? (i := 32) rfl)), rfl, hnm⟩) (hw _ (List.mem_of_getElem? (i := 6) rfl)) (ty := (.object "java/util/ArrayDeque")) (by decide) rfl rfl (g := (mkF m 12 #[.val (.ref a1), .val (.long q1), .second] [(.ref b102), (.ref a1)])) rfl rfl (hb hby d2_12)
  have Fw107 := f105.same W107
  have K107 : Keep h0 h107 [a1] := K103.wr W107 (Or.inl (List.mem_of_getElem? (i := 0) rfl))
  have N107 := Fr.snoc X107 N103 g_a1
  have f108 := (((F_l.ext E102).keep K103q (ninS (Nat.ne_of_lt (Nat.lt_of_lt_of_le E_a.lt (Nat.le_of_eq g102.symm))) nin0)).other W107 (Or.inr (slot_ne (Or.inr (hw _ (List.mem_of_getElem? (i := 34) rfl))) (Or.inr (hw _ (List.mem_of_getElem? (i := 32) rfl))) (by decide) (t := .long) (t' := (.object "java/util/ArrayDeque")) (by decide) (by decide))))
  have f109 := (f106.wr W107)
  obtain ⟨T110, h110, X110, e110, W110, st110⟩ := putF X107 hx hZ hown (host := "") (Or.inl (hw _ (List.mem_of_getElem? (i := 33) rfl))) Via.refl e107 f108 f109 (Or.inr ⟨(hw _ (List.mem_of_getElem? (i := 34) rfl)), rfl, hnm⟩) (hw _ (List.mem_of_getElem? (i := 6) rfl)) (ty := .long) (by decide) rfl rfl (g := (mkF m 17 #[.val (.ref a1), .val (.long q1), .second] [(.long q1), (.ref a1)])) rfl rfl (hb hby d2_17)
  have Fw110 := f108.same W110
  have K110 : Keep h0 h110 [a1] := K107.wr W110 (Or.inl (List.mem_of_getElem? (i := 0) rfl))
  have N110 := Fr.snoc X110 N107 g_a1
  have f111 := (f109.wr W110)
  refine Gl.fin X110 (v := none) (fun _ => rfl) Bd.notSynchronized ?_ e110 (by decide) (by decide) (fun fs hr => ?_)
  · exact ⟨rfl, N110, K110, f111, Fw110⟩
  · show Steps p.tables e below (s₁.setTop (mkF m 0 #[.val (.ref a1), .val (.long q1), .second] [])) _
    refine XS.aloadN X0.here hx rfl (hb hby d2_0) rfl rfl ?_
    show Steps p.tables e below (s₁.setTop (mkF m 1 #[.val (.ref a1), .val (.long q1), .second] [(.ref a1)])) _
    refine st101 _ ?_
    show Steps p.tables e below (T101.setTop (mkF m 4 #[.val (.ref a1), .val (.long q1), .second] [])) _
    refine XS.aloadN X101.here hx rfl (hb hby d2_4) rfl rfl ?_
    show Steps p.tables e below (T101.setTop (mkF m 5 #[.val (.ref a1), .val (.long q1), .second] [(.ref a1)])) _
    refine st102 _ ?_
    show Steps p.tables e below (T102.setTop (mkF m 8 #[.val (.ref a1), .val (.long q1), .second] [(.ref b102), (.ref a1)])) _
    refine XS.dup X102.here hx rfl (hb hby d2_8) rfl rfl ?_
    show Steps p.tables e below (T102.setTop (mkF m 9 #[.val (.ref a1), .val (.long q1), .second] [(.ref b102), (.ref b102), (.ref a1)])) _
    refine st103 _ ?_
    show Steps p.tables e below (T103.setTop (mkF m 12 #[.val (.ref a1), .val (.long q1), .second] [(.ref b102), (.ref a1)])) _
    refine st107 _ ?_
    show Steps p.tables e below (T107.setTop (mkF m 15 #[.val (.ref a1), .val (.long q1), .second] [])) _
    refine XS.aloadN X107.here hx rfl (hb hby d2_15) rfl rfl ?_
    show Steps p.tables e below (T107.setTop (mkF m 16 #[.val (.ref a1), .val (.long q1), .second] [(.ref a1)])) _
    refine XS.lloadN X107.here hx rfl (hb hby d2_16) rfl ?_
    show Steps p.tables e below (T107.setTop (mkF m 17 #[.val (.ref a1), .val (.long q1), .second] [(.long q1), (.ref a1)])) _
    refine st110 _ ?_
    show Steps p.tables e below (T110.setTop (mkF m 20 #[.val (.ref a1), .val (.long q1), .second] [])) _
    exact X110.returnOut hx Bd.returns (hb hby d2_20) hr
theorem pn_com_example_tenrec_tenrec_policy_MeasuredWindow_Interval : plainName "com/example/tenrec/tenrec/policy/MeasuredWindow$Interval" = true := by first | (simp [plainName, overriddenIn]; done) | decide +kernel
theorem ef_rm6 (m : MethodId) (x0 : Addr) (x1 : Int64) (x2 : Int32) : entryFrame m #[(.ref x0), (.long x1), (.int x2)] 4 = mkF m 0 #[.val (.ref x0), .val (.long x1), .second, .val (.int x2)] [] := by first | (simp [entryFrame, mkF, argsToLocals, Value.category]; done) | rfl
theorem d6_0 : decode prog_9_method_1_code 0 = .ok (.aload_n 0, 1) := by decide +kernel
theorem d6_1 : decode prog_9_method_1_code 1 = .ok (.invokespecial 1, 3) := by decide +kernel
theorem d6_4 : decode prog_9_method_1_code 4 = .ok (.aload_n 0, 1) := by decide +kernel
theorem d6_5 : decode prog_9_method_1_code 5 = .ok (.lload_n 1, 1) := by decide +kernel
theorem d6_6 : decode prog_9_method_1_code 6 = .ok (.putfield 7, 3) := by decide +kernel
theorem d6_9 : decode prog_9_method_1_code 9 = .ok (.aload_n 0, 1) := by decide +kernel
theorem d6_10 : decode prog_9_method_1_code 10 = .ok (.iload_n 3, 1) := by decide +kernel
theorem d6_11 : decode prog_9_method_1_code 11 = .ok (.putfield 13, 3) := by decide +kernel
theorem d6_14 : decode prog_9_method_1_code 14 = .ok (.return_, 1) := by decide +kernel
def Q6 (Z : State) (a1 : Addr) (q1 : Int64) (p1 : Int32) (h0 : Heap) (n0 : Nat) (v : Option Value) (h : Heap) (L : List Loc) : Prop := v = none ∧ Fr n0 L ∧ Keep h0 h [a1] ∧ Exa Z h a1 "com/example/tenrec/tenrec/policy/MeasuredWindow$Interval" ∧ Fld Z h a1 "com/example/tenrec/tenrec/policy/MeasuredWindow$Interval" "instant" "J" (.long q1)
set_option maxRecDepth 65536 in
set_option maxHeartbeats 40000000 in
theorem rm6 (l : Launch) (Z : State) (a0 : Array Value) (hw : ∀ d ∈ tables_1, d.before a0 Z = true) (ws : List Jvm.Cond) (a1 : Addr) (q1 : Int64) (p1 : Int32) (h0 : Heap) (n0 : Nat) (Z0 : n0 ≤ h0.size) (g_a1 : n0 ≤ a1) (E_a : Exa Z h0 a1 "com/example/tenrec/tenrec/policy/MeasuredWindow$Interval") (F_i : Fld Z h0 a1 "com/example/tenrec/tenrec/policy/MeasuredWindow$Interval" "instant" "J" (.long (0 : Int64))) (F_r : Fld Z h0 a1 "com/example/tenrec/tenrec/policy/MeasuredWindow$Interval" "arrivals" "I" (.int (0 : Int32))) :
    OMet l Z (⟨"com/example/tenrec/tenrec/policy/MeasuredWindow$Interval", "<init>", "(JI)V"⟩ : MethodName) prog_9_method_1_code 4 none ws ({ frames := 1, cells := 0, slots := 0, locals := 12 } : Room) #[(.ref a1), (.long q1), (.int p1)] h0 (Q6 Z a1 q1 p1 h0 n0) := by
  refine own_body (plainFor_of_name pn_com_example_tenrec_tenrec_policy_MeasuredWindow_Interval) ?_
  intro p e s m below meth c s₁ Bd hml0 hZ e0
  have hx := Bd.exec
  have hby := Bd.bytes
  have hml : c.maxLocals = 4 := hml0
  have hown : s.vm.findClass "com/example/tenrec/tenrec/policy/MeasuredWindow$Interval" = some m.cls := findClass_of_methodNamed Bd.named
  have hnm := (name_of_methodNamed Bd.named Bd.method).1
  have X0 : Stand p l e ({ frames := 1, cells := 0, slots := 0, locals := 12 } : Room) s m #[(.ref a1), (.long q1), (.int p1)] below meth c s₁ [] 0 0 := Stand.of_body Bd
  have N0 := Fr.nil n0
  have K0 : Keep h0 h0 [a1] := Keep.refl _ _
  rw [ef_rm6]
  obtain ⟨T101, X101, e101, st101⟩ := initO X0 hx hZ hown (hw _ (List.mem_of_getElem? (i := 41) rfl)) (hw _ (List.mem_of_getElem? (i := 12) rfl)) (hw _ (List.mem_of_getElem? (i := 13) rfl)) e0 (g := (mkF m 1 #[.val (.ref a1), .val (.long q1), .second, .val (.int p1)] [(.ref a1)])) rfl (by rw [hml]; rfl) rfl (hb hby d6_1) (by decide) (W := 0) (by show 2 * 0 + _ ≤ _; exact Nat.le_of_eq rfl) (by decide)
  obtain ⟨T102, h102, X102, e102, W102, st102⟩ := putF X101 hx hZ hown (host := "") (Or.inl (hw _ (List.mem_of_getElem? (i := 42) rfl))) Via.refl e101 F_i E_a (Or.inr ⟨(hw _ (List.mem_of_getElem? (i := 43) rfl)), rfl, hnm⟩) (hw _ (List.mem_of_getElem? (i := 36) rfl)) (ty := .long) (by decide) rfl rfl (g := (mkF m 6 #[.val (.ref a1), .val (.long q1), .second, .val (.int p1)] [(.long q1), (.ref a1)])) rfl rfl (hb hby d6_6)
  have Fw102 := F_i.same W102
  have K102 : Keep h0 h102 [a1] := K0.wr W102 (Or.inl (List.mem_of_getElem? (i := 0) rfl))
  have N102 := Fr.snoc X102 N0 g_a1
  have f103 := (F_r.other W102 (Or.inr (slot_ne (Or.inr (hw _ (List.mem_of_getElem? (i := 45) rfl))) (Or.inr (hw _ (List.mem_of_getElem? (i := 43) rfl))) (by decide) (t := .int) (t' := .long) (by decide) (by decide))))
  have f104 := (E_a.wr W102)
  obtain ⟨T105, h105, X105, e105, W105, st105⟩ := putF X102 hx hZ hown (host := "") (Or.inl (hw _ (List.mem_of_getElem? (i := 44) rfl))) Via.refl e102 f103 f104 (Or.inr ⟨(hw _ (List.mem_of_getElem? (i := 45) rfl)), rfl, hnm⟩) (hw _ (List.mem_of_getElem? (i := 36) rfl)) (ty := .int) (by decide) rfl rfl (g := (mkF m 11 #[.val (.ref a1), .val (.long q1), .second, .val (.int p1)] [(.int p1), (.ref a1)])) rfl rfl (hb hby d6_11)
  have Fw105 := f103.same W105
  have K105 : Keep h0 h105 [a1] := K102.wr W105 (Or.inl (List.mem_of_getElem? (i := 0) rfl))
  have N105 := Fr.snoc X105 N102 g_a1
  have f106 := (f104.wr W105)
  have f107 := (Fw102.other W105 (Or.inr (slot_ne (Or.inr (hw _ (List.mem_of_getElem? (i := 43) rfl))) (Or.inr (hw _ (List.mem_of_getElem? (i := 45) rfl))) (by decide) (t := .long) (t' := .int) (by decide) (by decide))))
  refine Gl.fin X105 (v := none) (fun _ => rfl) Bd.notSynchronized ?_ e105 (by decide) (by decide) (fun fs hr => ?_)
  · exact ⟨rfl, N105, K105, f106, f107⟩
  · show Steps p.tables e below (s₁.setTop (mkF m 0 #[.val (.ref a1), .val (.long q1), .second, .val (.int p1)] [])) _
    refine XS.aloadN X0.here hx rfl (hb hby d6_0) rfl rfl ?_
    show Steps p.tables e below (s₁.setTop (mkF m 1 #[.val (.ref a1), .val (.long q1), .second, .val (.int p1)] [(.ref a1)])) _
    refine st101 _ ?_
    show Steps p.tables e below (T101.setTop (mkF m 4 #[.val (.ref a1), .val (.long q1), .second, .val (.int p1)] [])) _
    refine XS.aloadN X101.here hx rfl (hb hby d6_4) rfl rfl ?_
    show Steps p.tables e below (T101.setTop (mkF m 5 #[.val (.ref a1), .val (.long q1), .second, .val (.int p1)] [(.ref a1)])) _
    refine XS.lloadN X101.here hx rfl (hb hby d6_5) rfl ?_
    show Steps p.tables e below (T101.setTop (mkF m 6 #[.val (.ref a1), .val (.long q1), .second, .val (.int p1)] [(.long q1), (.ref a1)])) _
    refine st102 _ ?_
    show Steps p.tables e below (T102.setTop (mkF m 9 #[.val (.ref a1), .val (.long q1), .second, .val (.int p1)] [])) _
    refine XS.aloadN X102.here hx rfl (hb hby d6_9) rfl rfl ?_
    show Steps p.tables e below (T102.setTop (mkF m 10 #[.val (.ref a1), .val (.long q1), .second, .val (.int p1)] [(.ref a1)])) _
    refine XS.iloadN X102.here hx rfl (hb hby d6_10) rfl ?_
    show Steps p.tables e below (T102.setTop (mkF m 11 #[.val (.ref a1), .val (.long q1), .second, .val (.int p1)] [(.int p1), (.ref a1)])) _
    refine st105 _ ?_
    show Steps p.tables e below (T105.setTop (mkF m 14 #[.val (.ref a1), .val (.long q1), .second, .val (.int p1)] [])) _
    exact X105.returnOut hx Bd.returns (hb hby d6_14) hr
theorem ef_rm7 (m : MethodId) (x0 : Addr) (x1 : Addr) : entryFrame m #[(.ref x0), (.ref x1)] 2 = mkF m 0 #[.val (.ref x0), .val (.ref x1)] [] := by first | (simp [entryFrame, mkF, argsToLocals, Value.category]; done) | rfl
theorem d7_0 : decode prog_8_method_10_code 0 = .ok (.aload_n 1, 1) := by decide +kernel
theorem d7_1 : decode prog_8_method_10_code 1 = .ok (.getfield 33, 3) := by decide +kernel
theorem d7_4 : decode prog_8_method_10_code 4 = .ok (.ldc2_w 83, 3) := by decide +kernel
theorem d7_7 : decode prog_8_method_10_code 7 = .ok (.aload_n 0, 1) := by decide +kernel
theorem d7_8 : decode prog_8_method_10_code 8 = .ok (.getfield 16, 3) := by decide +kernel
theorem d7_11 : decode prog_8_method_10_code 11 = .ok (.lsub, 1) := by decide +kernel
theorem d7_12 : decode prog_8_method_10_code 12 = .ok (.lcmp, 1) := by decide +kernel
theorem d7_13 : decode prog_8_method_10_code 13 = .ok (.ifCond .le 9, 3) := by decide +kernel
theorem d7_16 : decode prog_8_method_10_code 16 = .ok (.ldc2_w 83, 3) := by decide +kernel
theorem d7_19 : decode prog_8_method_10_code 19 = .ok (.goto 12, 3) := by decide +kernel
theorem d7_31 : decode prog_8_method_10_code 31 = .ok (.lreturn, 1) := by decide +kernel
theorem d7_22 : decode prog_8_method_10_code 22 = .ok (.aload_n 1, 1) := by decide +kernel
theorem d7_23 : decode prog_8_method_10_code 23 = .ok (.getfield 33, 3) := by decide +kernel
theorem d7_26 : decode prog_8_method_10_code 26 = .ok (.aload_n 0, 1) := by decide +kernel
theorem d7_27 : decode prog_8_method_10_code 27 = .ok (.getfield 16, 3) := by decide +kernel
theorem d7_30 : decode prog_8_method_10_code 30 = .ok (.ladd, 1) := by decide +kernel
def Q7 (Z : State) (a1 : Addr) (a2 : Addr) (q1 : Int64) (q2 : Int64) (h0 : Heap) (n0 : Nat) (v : Option Value) (h : Heap) (L : List Loc) : Prop := v = some (.long (if ((9223372036854775807 : Int64) - q2) < q1 then (9223372036854775807 : Int64) else (q1 + q2))) ∧ Fr n0 L ∧ h = h0
set_option maxRecDepth 65536 in
set_option maxHeartbeats 40000000 in
theorem rm7 (l : Launch) (Z : State) (a0 : Array Value) (hw : ∀ d ∈ tables_1, d.before a0 Z = true) (ws : List Jvm.Cond) (a1 : Addr) (a2 : Addr) (q1 : Int64) (q2 : Int64) (h0 : Heap) (n0 : Nat) (Z0 : n0 ≤ h0.size) (F_i : Fld Z h0 a2 "com/example/tenrec/tenrec/policy/MeasuredWindow$Interval" "instant" "J" (.long q1)) (F_l : Fld Z h0 a1 "com/example/tenrec/tenrec/policy/MeasuredWindow" "length" "J" (.long q2)) :
    OMet l Z (⟨"com/example/tenrec/tenrec/policy/MeasuredWindow", "leavesAt", "(Lcom/example/tenrec/tenrec/policy/MeasuredWindow$Interval;)J"⟩ : MethodName) prog_8_method_10_code 2 (some .long) ws ({ frames := 0, cells := 0, slots := 0, locals := 0 } : Room) #[(.ref a1), (.ref a2)] h0 (Q7 Z a1 a2 q1 q2 h0 n0) := by
  refine own_body (plainFor_of_name pn_com_example_tenrec_tenrec_policy_MeasuredWindow) ?_
  intro p e s m below meth c s₁ Bd hml0 hZ e0
  have hx := Bd.exec
  have hby := Bd.bytes
  have hml : c.maxLocals = 2 := hml0
  have hown : s.vm.findClass "com/example/tenrec/tenrec/policy/MeasuredWindow" = some m.cls := findClass_of_methodNamed Bd.named
  have hnm := (name_of_methodNamed Bd.named Bd.method).1
  have X0 : Stand p l e ({ frames := 0, cells := 0, slots := 0, locals := 0 } : Room) s m #[(.ref a1), (.ref a2)] below meth c s₁ [] 0 0 := Stand.of_body Bd
  have N0 := Fr.nil n0
  have K0 : Keep h0 h0 [] := Keep.refl _ _
  rw [ef_rm7]
  obtain ⟨T101, X101, e101, st101⟩ := own_getFR X0 hx hZ hown (hw _ (List.mem_of_getElem? (i := 51) rfl)) e0 F_i (g := (mkF m 1 #[.val (.ref a1), .val (.ref a2)] [(.ref a2)])) rfl rfl (hb hby d7_1)
  obtain ⟨T102, X102, e102, st102⟩ := getF X101 hx hZ hown (host := "") (Or.inl (hw _ (List.mem_of_getElem? (i := 33) rfl))) Via.refl e101 F_l (g := (mkF m 8 #[.val (.ref a1), .val (.ref a2)] [(.ref a1), (.long (9223372036854775807 : Int64)), (.long q1)])) rfl rfl (hb hby d7_8)
  refine Gl.pre (S' := T102.setTop (mkF m 13 #[.val (.ref a1), .val (.ref a2)] [(.int (lcmpW q1 ((9223372036854775807 : Int64) - q2)))])) (fun t kt => ?_) ?_
  · show Steps p.tables e below (s₁.setTop (mkF m 0 #[.val (.ref a1), .val (.ref a2)] [])) _
    refine XS.aloadN X0.here hx rfl (hb hby d7_0) rfl rfl ?_
    show Steps p.tables e below (s₁.setTop (mkF m 1 #[.val (.ref a1), .val (.ref a2)] [(.ref a2)])) _
    refine st101 _ ?_
    show Steps p.tables e below (T101.setTop (mkF m 4 #[.val (.ref a1), .val (.ref a2)] [(.long q1)])) _
    refine X101.ldc2Long hx hown (mvT hZ (hw _ (List.mem_of_getElem? (i := 52) rfl))) (g := (mkF m 4 #[.val (.ref a1), .val (.ref a2)] [(.long q1)])) rfl (hb hby d7_4) _ ?_
    show Steps p.tables e below (T101.setTop (mkF m 7 #[.val (.ref a1), .val (.ref a2)] [(.long (9223372036854775807 : Int64)), (.long q1)])) _
    refine XS.aloadN X101.here hx rfl (hb hby d7_7) rfl rfl ?_
    show Steps p.tables e below (T101.setTop (mkF m 8 #[.val (.ref a1), .val (.ref a2)] [(.ref a1), (.long (9223372036854775807 : Int64)), (.long q1)])) _
    refine st102 _ ?_
    show Steps p.tables e below (T102.setTop (mkF m 11 #[.val (.ref a1), .val (.ref a2)] [(.long q2), (.long (9223372036854775807 : Int64)), (.long q1)])) _
    refine XS.lsub X102.here hx rfl (hb hby d7_11) rfl ?_
    show Steps p.tables e below (T102.setTop (mkF m 12 #[.val (.ref a1), .val (.ref a2)] [(.long ((9223372036854775807 : Int64) - q2)), (.long q1)])) _
    refine XS.lcmp X102.here hx rfl (hb hby d7_12) rfl ?_
    exact kt
  by_cases hc13 : ((9223372036854775807 : Int64) - q2) < q1
  · refine Gl.fin X102 (v := some (.long (9223372036854775807 : Int64))) (fun h => by rw [Bd.returns] at h; cases h) Bd.notSynchronized ?_ e102 (by decide) (by decide) (fun fs hr => ?_)
    · exact ⟨by simp [hc13], N0, rfl⟩
    · show Steps p.tables e below (T102.setTop (mkF m 13 #[.val (.ref a1), .val (.ref a2)] [(.int (lcmpW q1 ((9223372036854775807 : Int64) - q2)))])) _
      refine XS.ifNo X102.here hx rfl (hb hby d7_13) rfl (own_nf (l0_le _ _) hc13) ?_
      show Steps p.tables e below (T102.setTop (mkF m 16 #[.val (.ref a1), .val (.ref a2)] [])) _
      refine X102.ldc2Long hx hown (mvT hZ (hw _ (List.mem_of_getElem? (i := 52) rfl))) (g := (mkF m 16 #[.val (.ref a1), .val (.ref a2)] [])) rfl (hb hby d7_16) _ ?_
      show Steps p.tables e below (T102.setTop (mkF m 19 #[.val (.ref a1), .val (.ref a2)] [(.long (9223372036854775807 : Int64))])) _
      refine XS.goto X102.here hx rfl (pc0 := 19) (pc' := 31) rfl (hb hby d7_19) (by decide) (by decide) ?_
      show Steps p.tables e below (T102.setTop (mkF m 31 #[.val (.ref a1), .val (.ref a2)] [(.long (9223372036854775807 : Int64))])) _
      exact own_retJ X102 hx Bd.returns (hb hby d7_31) hr
  · obtain ⟨T103, X103, e103, st103⟩ := own_getFR X102 hx hZ hown (hw _ (List.mem_of_getElem? (i := 51) rfl)) e102 F_i (g := (mkF m 23 #[.val (.ref a1), .val (.ref a2)] [(.ref a2)])) rfl rfl (hb hby d7_23)
    obtain ⟨T104, X104, e104, st104⟩ := getF X103 hx hZ hown (host := "") (Or.inl (hw _ (List.mem_of_getElem? (i := 33) rfl))) Via.refl e103 F_l (g := (mkF m 27 #[.val (.ref a1), .val (.ref a2)] [(.ref a1), (.long q1)])) rfl rfl (hb hby d7_27)
    refine Gl.fin X104 (v := some (.long (q1 + q2))) (fun h => by rw [Bd.returns] at h; cases h) Bd.notSynchronized ?_ e104 (by decide) (by decide) (fun fs hr => ?_)
    · exact ⟨by simp [hc13], N0, rfl⟩
    · show Steps p.tables e below (T102.setTop (mkF m 13 #[.val (.ref a1), .val (.ref a2)] [(.int (lcmpW q1 ((9223372036854775807 : Int64) - q2)))])) _
      refine XS.ifYes X102.here hx rfl (pc0 := 13) (pc' := 22) rfl (hb hby d7_13) rfl (own_nt (l0_le _ _) hc13) (by decide) (by decide) ?_
      show Steps p.tables e below (T102.setTop (mkF m 22 #[.val (.ref a1), .val (.ref a2)] [])) _
      refine XS.aloadN X102.here hx rfl (hb hby d7_22) rfl rfl ?_
      show Steps p.tables e below (T102.setTop (mkF m 23 #[.val (.ref a1), .val (.ref a2)] [(.ref a2)])) _
      refine st103 _ ?_
      show Steps p.tables e below (T103.setTop (mkF m 26 #[.val (.ref a1), .val (.ref a2)] [(.long q1)])) _
      refine XS.aloadN X103.here hx rfl (hb hby d7_26) rfl rfl ?_
      show Steps p.tables e below (T103.setTop (mkF m 27 #[.val (.ref a1), .val (.ref a2)] [(.ref a1), (.long q1)])) _
      refine st104 _ ?_
      show Steps p.tables e below (T104.setTop (mkF m 30 #[.val (.ref a1), .val (.ref a2)] [(.long q2), (.long q1)])) _
      refine XS.ladd X104.here hx rfl (hb hby d7_30) rfl ?_
      show Steps p.tables e below (T104.setTop (mkF m 31 #[.val (.ref a1), .val (.ref a2)] [(.long (q1 + q2))])) _
      exact own_retJ X104 hx Bd.returns (hb hby d7_31) hr
theorem pn_com_example_tenrec_tenrec_policy_MeasuredWindowLeavesAtPinLaw : plainName "com/example/tenrec/tenrec/policy/MeasuredWindowLeavesAtPinLaw" = true := by first | (simp [plainName, overriddenIn]; done) | decide +kernel
theorem ef_rm0 (m : MethodId) (x0 : Int64) (x1 : Int64) (x2 : Int32) : entryFrame m #[(.long x0), (.long x1), (.int x2)] maxLocals = mkF m 0 #[.val (.long x0), .second, .val (.long x1), .second, .val (.int x2), .unset, .unset, .unset, .unset, .unset, .unset, .unset, .unset, .unset, .unset, .unset, .unset, .unset] [] := by first | (simp [entryFrame, mkF, argsToLocals, Value.category, maxLocals]; done) | rfl
theorem pd__JJ_J : parseMethodDescriptor "(JJ)J" = some ⟨[.long, .long], some .long⟩ := by decide +kernel
theorem pd__J_V : parseMethodDescriptor "(J)V" = some ⟨[.long], none⟩ := by decide +kernel
theorem pd__JI_V : parseMethodDescriptor "(JI)V" = some ⟨[.long, .int], none⟩ := by decide +kernel
theorem pd__Lcom_example_tenrec_tenrec_policy_MeasuredWindow_Interval__J : parseMethodDescriptor "(Lcom/example/tenrec/tenrec/policy/MeasuredWindow$Interval;)J" = some ⟨[(.object "com/example/tenrec/tenrec/policy/MeasuredWindow$Interval")], some .long⟩ := by decide +kernel
def Q0 (Z : State) (q0 : Int64) (q2 : Int64) (p4 : Int32) (h0 : Heap) (n0 : Nat) (v : Option Value) (h : Heap) (L : List Loc) : Prop := v = some (.int 1) ∧ Fr n0 L
set_option maxRecDepth 65536 in
set_option maxHeartbeats 40000000 in
theorem rm0 (l : Launch) (Z : State) (a0 : Array Value) (hw : ∀ d ∈ tables_1, d.before a0 Z = true) (ws : List Jvm.Cond) (q0 : Int64) (q2 : Int64) (p4 : Int32) (h0 : Heap) (n0 : Nat) (Z0 : n0 ≤ h0.size) :
    OMet l Z x code maxLocals ret ws room_1 #[(.long q0), (.long q2), (.int p4)] h0 (Q0 Z q0 q2 p4 h0 n0) := by
  refine own_body (plainFor_of_name pn_com_example_tenrec_tenrec_policy_MeasuredWindowLeavesAtPinLaw) ?_
  intro p e s m below meth c s₁ Bd hml0 hZ e0
  have hx := Bd.exec
  have hby := Bd.bytes
  have hml : c.maxLocals = 18 := hml0
  have hown : s.vm.findClass "com/example/tenrec/tenrec/policy/MeasuredWindowLeavesAtPinLaw" = some m.cls := findClass_of_methodNamed Bd.named
  have hnm := (name_of_methodNamed Bd.named Bd.method).1
  have X0 : Stand p l e room_1 s m #[(.long q0), (.long q2), (.int p4)] below meth c s₁ [] 0 0 := Stand.of_body Bd
  have N0 := Fr.nil n0
  have K0 : Keep h0 h0 [] := Keep.refl _ _
  rw [ef_rm0]
  obtain ⟨v101, T101, L101, X101, q101, st101⟩ := own_callS X0 hx hZ (y := (⟨"java/lang/Math", "max", "(JJ)J"⟩ : MethodName)) hown (hw _ (List.mem_of_getElem? (i := 1) rfl)) (hw _ (List.mem_of_getElem? (i := 2) rfl)) (hw _ (List.mem_of_getElem? (i := 3) rfl)) (hw _ (List.mem_of_getElem? (i := 4) rfl)) (by decide) (hM := (rm1 l Z a0 hw [] (1 : Int64) (q2 &&& (9223372036854775807 : Int64)) h0 n0 Z0)) (by decide) (by decide) (by decide) (by decide) e0 (argsL := [(.long (1 : Int64)), (.long (q2 &&& (9223372036854775807 : Int64)))]) (rest := []) (Ls := #[.val (.long q0), .second, .val (.long q2), .second, .val (.int p4), .unset, .unset, .unset, .unset, .unset, .unset, .unset, .unset, .unset, .unset, .unset, .unset, .unset]) (by rw [hml]; rfl) (lenOf pd__JJ_J rfl) (W := 0) (Nat.le_of_eq rfl) (hb hby at_6)
  obtain ⟨rfl, N101q, e101⟩ := q101
  have N101 := Fr.app N0 N101q
  refine Gl.pre (S' := T101.setTop (mkF m 11 #[.val (.long q0), .second, .val (.long q2), .second, .val (.int p4), .val (.long (if (1 : Int64) < (q2 &&& (9223372036854775807 : Int64)) then (q2 &&& (9223372036854775807 : Int64)) else (1 : Int64))), .second, .unset, .unset, .unset, .unset, .unset, .unset, .unset, .unset, .unset, .unset, .unset] [])) (fun t kt => ?_) ?_
  · show Steps p.tables e below (s₁.setTop (mkF m 0 #[.val (.long q0), .second, .val (.long q2), .second, .val (.int p4), .unset, .unset, .unset, .unset, .unset, .unset, .unset, .unset, .unset, .unset, .unset, .unset, .unset] [])) _
    refine XS.lconst X0.here hx rfl (hb hby at_0) ?_
    show Steps p.tables e below (s₁.setTop (mkF m 1 #[.val (.long q0), .second, .val (.long q2), .second, .val (.int p4), .unset, .unset, .unset, .unset, .unset, .unset, .unset, .unset, .unset, .unset, .unset, .unset, .unset] [(.long (1 : Int64))])) _
    refine XS.lloadN X0.here hx rfl (hb hby at_1) rfl ?_
    show Steps p.tables e below (s₁.setTop (mkF m 2 #[.val (.long q0), .second, .val (.long q2), .second, .val (.int p4), .unset, .unset, .unset, .unset, .unset, .unset, .unset, .unset, .unset, .unset, .unset, .unset, .unset] [(.long q2), (.long (1 : Int64))])) _
    refine X0.ldc2Long hx hown (mvT hZ (hw _ (List.mem_of_getElem? (i := 0) rfl))) (g := (mkF m 2 #[.val (.long q0), .second, .val (.long q2), .second, .val (.int p4), .unset, .unset, .unset, .unset, .unset, .unset, .unset, .unset, .unset, .unset, .unset, .unset, .unset] [(.long q2), (.long (1 : Int64))])) rfl (hb hby at_2) _ ?_
    show Steps p.tables e below (s₁.setTop (mkF m 5 #[.val (.long q0), .second, .val (.long q2), .second, .val (.int p4), .unset, .unset, .unset, .unset, .unset, .unset, .unset, .unset, .unset, .unset, .unset, .unset, .unset] [(.long (9223372036854775807 : Int64)), (.long q2), (.long (1 : Int64))])) _
    refine XS.land X0.here hx rfl (hb hby at_5) rfl ?_
    show Steps p.tables e below (s₁.setTop (mkF m 6 #[.val (.long q0), .second, .val (.long q2), .second, .val (.int p4), .unset, .unset, .unset, .unset, .unset, .unset, .unset, .unset, .unset, .unset, .unset, .unset, .unset] [(.long (q2 &&& (9223372036854775807 : Int64))), (.long (1 : Int64))])) _
    refine st101 _ ?_
    show Steps p.tables e below (T101.setTop (mkF m 9 #[.val (.long q0), .second, .val (.long q2), .second, .val (.int p4), .unset, .unset, .unset, .unset, .unset, .unset, .unset, .unset, .unset, .unset, .unset, .unset, .unset] [(.long (if (1 : Int64) < (q2 &&& (9223372036854775807 : Int64)) then (q2 &&& (9223372036854775807 : Int64)) else (1 : Int64)))])) _
    refine XS.lstore X101.here hx rfl (hb hby at_9) rfl (l' := #[.val (.long q0), .second, .val (.long q2), .second, .val (.int p4), .val (.long (if (1 : Int64) < (q2 &&& (9223372036854775807 : Int64)) then (q2 &&& (9223372036854775807 : Int64)) else (1 : Int64))), .second, .unset, .unset, .unset, .unset, .unset, .unset, .unset, .unset, .unset, .unset, .unset]) rfl ?_
    exact kt
  obtain ⟨len, h_len⟩ : ∃ z : Int64, z = (if (1 : Int64) < (q2 &&& (9223372036854775807 : Int64)) then (q2 &&& (9223372036854775807 : Int64)) else (1 : Int64)) := ⟨_, rfl⟩
  rw [← h_len]
  have hlen : 1 ≤ len.toInt := by rw [h_len]; exact own_max1 _
  refine Gl.pre (S' := T101.setTop (mkF m 18 #[.val (.long q0), .second, .val (.long q2), .second, .val (.int p4), .val (.long len), .second, .val (.long (q0 &&& (9223372036854775807 : Int64))), .second, .unset, .unset, .unset, .unset, .unset, .unset, .unset, .unset, .unset] [])) (fun t kt => ?_) ?_
  · show Steps p.tables e below (T101.setTop (mkF m 11 #[.val (.long q0), .second, .val (.long q2), .second, .val (.int p4), .val (.long len), .second, .unset, .unset, .unset, .unset, .unset, .unset, .unset, .unset, .unset, .unset, .unset] [])) _
    refine XS.lloadN X101.here hx rfl (hb hby at_11) rfl ?_
    show Steps p.tables e below (T101.setTop (mkF m 12 #[.val (.long q0), .second, .val (.long q2), .second, .val (.int p4), .val (.long len), .second, .unset, .unset, .unset, .unset, .unset, .unset, .unset, .unset, .unset, .unset, .unset] [(.long q0)])) _
    refine X101.ldc2Long hx hown (mvT hZ (hw _ (List.mem_of_getElem? (i := 0) rfl))) (g := (mkF m 12 #[.val (.long q0), .second, .val (.long q2), .second, .val (.int p4), .val (.long len), .second, .unset, .unset, .unset, .unset, .unset, .unset, .unset, .unset, .unset, .unset, .unset] [(.long q0)])) rfl (hb hby at_12) _ ?_
    show Steps p.tables e below (T101.setTop (mkF m 15 #[.val (.long q0), .second, .val (.long q2), .second, .val (.int p4), .val (.long len), .second, .unset, .unset, .unset, .unset, .unset, .unset, .unset, .unset, .unset, .unset, .unset] [(.long (9223372036854775807 : Int64)), (.long q0)])) _
    refine XS.land X101.here hx rfl (hb hby at_15) rfl ?_
    show Steps p.tables e below (T101.setTop (mkF m 16 #[.val (.long q0), .second, .val (.long q2), .second, .val (.int p4), .val (.long len), .second, .unset, .unset, .unset, .unset, .unset, .unset, .unset, .unset, .unset, .unset, .unset] [(.long (q0 &&& (9223372036854775807 : Int64)))])) _
    refine XS.lstore X101.here hx rfl (hb hby at_16) rfl (l' := #[.val (.long q0), .second, .val (.long q2), .second, .val (.int p4), .val (.long len), .second, .val (.long (q0 &&& (9223372036854775807 : Int64))), .second, .unset, .unset, .unset, .unset, .unset, .unset, .unset, .unset, .unset]) rfl ?_
    exact kt
  obtain ⟨ins, h_ins⟩ : ∃ z : Int64, z = (q0 &&& (9223372036854775807 : Int64)) := ⟨_, rfl⟩
  rw [← h_ins]
  have hins : 0 ≤ ins.toInt := by rw [h_ins]; exact own_and64_63 _
  refine Gl.pre (S' := T101.setTop (mkF m 27 #[.val (.long q0), .second, .val (.long q2), .second, .val (.int p4), .val (.long len), .second, .val (.long ins), .second, .val (.int (p4 &&& (3 : Int32))), .unset, .unset, .unset, .unset, .unset, .unset, .unset, .unset] [(.int (1 : Int32)), (.int (p4 &&& (3 : Int32)))])) (fun t kt => ?_) ?_
  · show Steps p.tables e below (T101.setTop (mkF m 18 #[.val (.long q0), .second, .val (.long q2), .second, .val (.int p4), .val (.long len), .second, .val (.long ins), .second, .unset, .unset, .unset, .unset, .unset, .unset, .unset, .unset, .unset] [])) _
    refine XS.iload X101.here hx rfl (hb hby at_18) rfl ?_
    show Steps p.tables e below (T101.setTop (mkF m 20 #[.val (.long q0), .second, .val (.long q2), .second, .val (.int p4), .val (.long len), .second, .val (.long ins), .second, .unset, .unset, .unset, .unset, .unset, .unset, .unset, .unset, .unset] [(.int p4)])) _
    refine XS.iconst X101.here hx rfl (hb hby at_20) ?_
    show Steps p.tables e below (T101.setTop (mkF m 21 #[.val (.long q0), .second, .val (.long q2), .second, .val (.int p4), .val (.long len), .second, .val (.long ins), .second, .unset, .unset, .unset, .unset, .unset, .unset, .unset, .unset, .unset] [(.int (3 : Int32)), (.int p4)])) _
    refine XS.iand X101.here hx rfl (hb hby at_21) rfl ?_
    show Steps p.tables e below (T101.setTop (mkF m 22 #[.val (.long q0), .second, .val (.long q2), .second, .val (.int p4), .val (.long len), .second, .val (.long ins), .second, .unset, .unset, .unset, .unset, .unset, .unset, .unset, .unset, .unset] [(.int (p4 &&& (3 : Int32)))])) _
    refine XS.istore X101.here hx rfl (hb hby at_22) rfl (l' := #[.val (.long q0), .second, .val (.long q2), .second, .val (.int p4), .val (.long len), .second, .val (.long ins), .second, .val (.int (p4 &&& (3 : Int32))), .unset, .unset, .unset, .unset, .unset, .unset, .unset, .unset]) rfl ?_
    show Steps p.tables e below (T101.setTop (mkF m 24 #[.val (.long q0), .second, .val (.long q2), .second, .val (.int p4), .val (.long len), .second, .val (.long ins), .second, .val (.int (p4 &&& (3 : Int32))), .unset, .unset, .unset, .unset, .unset, .unset, .unset, .unset] [])) _
    refine XS.iload X101.here hx rfl (hb hby at_24) rfl ?_
    show Steps p.tables e below (T101.setTop (mkF m 26 #[.val (.long q0), .second, .val (.long q2), .second, .val (.int p4), .val (.long len), .second, .val (.long ins), .second, .val (.int (p4 &&& (3 : Int32))), .unset, .unset, .unset, .unset, .unset, .unset, .unset, .unset] [(.int (p4 &&& (3 : Int32)))])) _
    refine XS.iconst X101.here hx rfl (hb hby at_26) ?_
    exact kt
  by_cases hc27 : (p4 &&& (3 : Int32)) = (1 : Int32)
  · refine Gl.pre (S' := T101.setTop (mkF m 48 #[.val (.long q0), .second, .val (.long q2), .second, .val (.int p4), .val (.long len), .second, .val (.long ins), .second, .val (.int (p4 &&& (3 : Int32))), .val (.long ((9223372036854775807 : Int64) - len)), .second, .val (.int ((((p4.toUInt32 >>> ((2 : Int32) &&& 31).toUInt32).toInt32) % (3 : Int32)) - (1 : Int32))), .unset, .unset, .unset, .unset, .unset] [])) (fun t kt => ?_) ?_
    · show Steps p.tables e below (T101.setTop (mkF m 27 #[.val (.long q0), .second, .val (.long q2), .second, .val (.int p4), .val (.long len), .second, .val (.long ins), .second, .val (.int (p4 &&& (3 : Int32))), .unset, .unset, .unset, .unset, .unset, .unset, .unset, .unset] [(.int (1 : Int32)), (.int (p4 &&& (3 : Int32)))])) _
      refine XS.icmpNo X101.here hx rfl (hb hby at_27) rfl (own_nf (ic_ne _ _) hc27) ?_
      show Steps p.tables e below (T101.setTop (mkF m 30 #[.val (.long q0), .second, .val (.long q2), .second, .val (.int p4), .val (.long len), .second, .val (.long ins), .second, .val (.int (p4 &&& (3 : Int32))), .unset, .unset, .unset, .unset, .unset, .unset, .unset, .unset] [])) _
      refine X101.ldc2Long hx hown (mvT hZ (hw _ (List.mem_of_getElem? (i := 0) rfl))) (g := (mkF m 30 #[.val (.long q0), .second, .val (.long q2), .second, .val (.int p4), .val (.long len), .second, .val (.long ins), .second, .val (.int (p4 &&& (3 : Int32))), .unset, .unset, .unset, .unset, .unset, .unset, .unset, .unset] [])) rfl (hb hby at_30) _ ?_
      show Steps p.tables e below (T101.setTop (mkF m 33 #[.val (.long q0), .second, .val (.long q2), .second, .val (.int p4), .val (.long len), .second, .val (.long ins), .second, .val (.int (p4 &&& (3 : Int32))), .unset, .unset, .unset, .unset, .unset, .unset, .unset, .unset] [(.long (9223372036854775807 : Int64))])) _
      refine XS.lload X101.here hx rfl (hb hby at_33) rfl ?_
      show Steps p.tables e below (T101.setTop (mkF m 35 #[.val (.long q0), .second, .val (.long q2), .second, .val (.int p4), .val (.long len), .second, .val (.long ins), .second, .val (.int (p4 &&& (3 : Int32))), .unset, .unset, .unset, .unset, .unset, .unset, .unset, .unset] [(.long len), (.long (9223372036854775807 : Int64))])) _
      refine XS.lsub X101.here hx rfl (hb hby at_35) rfl ?_
      show Steps p.tables e below (T101.setTop (mkF m 36 #[.val (.long q0), .second, .val (.long q2), .second, .val (.int p4), .val (.long len), .second, .val (.long ins), .second, .val (.int (p4 &&& (3 : Int32))), .unset, .unset, .unset, .unset, .unset, .unset, .unset, .unset] [(.long ((9223372036854775807 : Int64) - len))])) _
      refine XS.lstore X101.here hx rfl (hb hby at_36) rfl (l' := #[.val (.long q0), .second, .val (.long q2), .second, .val (.int p4), .val (.long len), .second, .val (.long ins), .second, .val (.int (p4 &&& (3 : Int32))), .val (.long ((9223372036854775807 : Int64) - len)), .second, .unset, .unset, .unset, .unset, .unset, .unset]) rfl ?_
      show Steps p.tables e below (T101.setTop (mkF m 38 #[.val (.long q0), .second, .val (.long q2), .second, .val (.int p4), .val (.long len), .second, .val (.long ins), .second, .val (.int (p4 &&& (3 : Int32))), .val (.long ((9223372036854775807 : Int64) - len)), .second, .unset, .unset, .unset, .unset, .unset, .unset] [])) _
      refine XS.iload X101.here hx rfl (hb hby at_38) rfl ?_
      show Steps p.tables e below (T101.setTop (mkF m 40 #[.val (.long q0), .second, .val (.long q2), .second, .val (.int p4), .val (.long len), .second, .val (.long ins), .second, .val (.int (p4 &&& (3 : Int32))), .val (.long ((9223372036854775807 : Int64) - len)), .second, .unset, .unset, .unset, .unset, .unset, .unset] [(.int p4)])) _
      refine XS.iconst X101.here hx rfl (hb hby at_40) ?_
      show Steps p.tables e below (T101.setTop (mkF m 41 #[.val (.long q0), .second, .val (.long q2), .second, .val (.int p4), .val (.long len), .second, .val (.long ins), .second, .val (.int (p4 &&& (3 : Int32))), .val (.long ((9223372036854775807 : Int64) - len)), .second, .unset, .unset, .unset, .unset, .unset, .unset] [(.int (2 : Int32)), (.int p4)])) _
      refine XS.iushr X101.here hx rfl (hb hby at_41) rfl ?_
      show Steps p.tables e below (T101.setTop (mkF m 42 #[.val (.long q0), .second, .val (.long q2), .second, .val (.int p4), .val (.long len), .second, .val (.long ins), .second, .val (.int (p4 &&& (3 : Int32))), .val (.long ((9223372036854775807 : Int64) - len)), .second, .unset, .unset, .unset, .unset, .unset, .unset] [(.int ((p4.toUInt32 >>> ((2 : Int32) &&& 31).toUInt32).toInt32))])) _
      refine XS.iconst X101.here hx rfl (hb hby at_42) ?_
      show Steps p.tables e below (T101.setTop (mkF m 43 #[.val (.long q0), .second, .val (.long q2), .second, .val (.int p4), .val (.long len), .second, .val (.long ins), .second, .val (.int (p4 &&& (3 : Int32))), .val (.long ((9223372036854775807 : Int64) - len)), .second, .unset, .unset, .unset, .unset, .unset, .unset] [(.int (3 : Int32)), (.int ((p4.toUInt32 >>> ((2 : Int32) &&& 31).toUInt32).toInt32))])) _
      refine iremM X101 hx rfl (hb hby at_43) rfl (by decide) ?_
      show Steps p.tables e below (T101.setTop (mkF m 44 #[.val (.long q0), .second, .val (.long q2), .second, .val (.int p4), .val (.long len), .second, .val (.long ins), .second, .val (.int (p4 &&& (3 : Int32))), .val (.long ((9223372036854775807 : Int64) - len)), .second, .unset, .unset, .unset, .unset, .unset, .unset] [(.int (((p4.toUInt32 >>> ((2 : Int32) &&& 31).toUInt32).toInt32) % (3 : Int32)))])) _
      refine XS.iconst X101.here hx rfl (hb hby at_44) ?_
      show Steps p.tables e below (T101.setTop (mkF m 45 #[.val (.long q0), .second, .val (.long q2), .second, .val (.int p4), .val (.long len), .second, .val (.long ins), .second, .val (.int (p4 &&& (3 : Int32))), .val (.long ((9223372036854775807 : Int64) - len)), .second, .unset, .unset, .unset, .unset, .unset, .unset] [(.int (1 : Int32)), (.int (((p4.toUInt32 >>> ((2 : Int32) &&& 31).toUInt32).toInt32) % (3 : Int32)))])) _
      refine XS.isub X101.here hx rfl (hb hby at_45) rfl ?_
      show Steps p.tables e below (T101.setTop (mkF m 46 #[.val (.long q0), .second, .val (.long q2), .second, .val (.int p4), .val (.long len), .second, .val (.long ins), .second, .val (.int (p4 &&& (3 : Int32))), .val (.long ((9223372036854775807 : Int64) - len)), .second, .unset, .unset, .unset, .unset, .unset, .unset] [(.int ((((p4.toUInt32 >>> ((2 : Int32) &&& 31).toUInt32).toInt32) % (3 : Int32)) - (1 : Int32)))])) _
      refine XS.istore X101.here hx rfl (hb hby at_46) rfl (l' := #[.val (.long q0), .second, .val (.long q2), .second, .val (.int p4), .val (.long len), .second, .val (.long ins), .second, .val (.int (p4 &&& (3 : Int32))), .val (.long ((9223372036854775807 : Int64) - len)), .second, .val (.int ((((p4.toUInt32 >>> ((2 : Int32) &&& 31).toUInt32).toInt32) % (3 : Int32)) - (1 : Int32))), .unset, .unset, .unset, .unset, .unset]) rfl ?_
      exact kt
    obtain ⟨oo, h_oo⟩ : ∃ z : Int32, z = ((((p4.toUInt32 >>> ((2 : Int32) &&& 31).toUInt32).toInt32) % (3 : Int32)) - (1 : Int32)) := ⟨_, rfl⟩
    rw [← h_oo]
    have hoo := own_o p4; rw [← h_oo] at hoo
    refine Gl.pre (S' := T101.setTop (mkF m 50 #[.val (.long q0), .second, .val (.long q2), .second, .val (.int p4), .val (.long len), .second, .val (.long ins), .second, .val (.int (p4 &&& (3 : Int32))), .val (.long ((9223372036854775807 : Int64) - len)), .second, .val (.int oo), .unset, .unset, .unset, .unset, .unset] [(.int oo)])) (fun t kt => ?_) ?_
    · show Steps p.tables e below (T101.setTop (mkF m 48 #[.val (.long q0), .second, .val (.long q2), .second, .val (.int p4), .val (.long len), .second, .val (.long ins), .second, .val (.int (p4 &&& (3 : Int32))), .val (.long ((9223372036854775807 : Int64) - len)), .second, .val (.int oo), .unset, .unset, .unset, .unset, .unset] [])) _
      refine XS.iload X101.here hx rfl (hb hby at_48) rfl ?_
      exact kt
    by_cases hc50 : oo < (0 : Int32)
    · refine Gl.pre (S' := T101.setTop (mkF m 57 #[.val (.long q0), .second, .val (.long q2), .second, .val (.int p4), .val (.long len), .second, .val (.long ins), .second, .val (.int (p4 &&& (3 : Int32))), .val (.long ((9223372036854775807 : Int64) - len)), .second, .val (.int oo), .unset, .unset, .unset, .unset, .unset] [(.int (lcmpW ((9223372036854775807 : Int64) - len) (0 : Int64)))])) (fun t kt => ?_) ?_
      · show Steps p.tables e below (T101.setTop (mkF m 50 #[.val (.long q0), .second, .val (.long q2), .second, .val (.int p4), .val (.long len), .second, .val (.long ins), .second, .val (.int (p4 &&& (3 : Int32))), .val (.long ((9223372036854775807 : Int64) - len)), .second, .val (.int oo), .unset, .unset, .unset, .unset, .unset] [(.int oo)])) _
        refine XS.ifNo X101.here hx rfl (hb hby at_50) rfl (own_nf (i0_ge _) hc50) ?_
        show Steps p.tables e below (T101.setTop (mkF m 53 #[.val (.long q0), .second, .val (.long q2), .second, .val (.int p4), .val (.long len), .second, .val (.long ins), .second, .val (.int (p4 &&& (3 : Int32))), .val (.long ((9223372036854775807 : Int64) - len)), .second, .val (.int oo), .unset, .unset, .unset, .unset, .unset] [])) _
        refine XS.lload X101.here hx rfl (hb hby at_53) rfl ?_
        show Steps p.tables e below (T101.setTop (mkF m 55 #[.val (.long q0), .second, .val (.long q2), .second, .val (.int p4), .val (.long len), .second, .val (.long ins), .second, .val (.int (p4 &&& (3 : Int32))), .val (.long ((9223372036854775807 : Int64) - len)), .second, .val (.int oo), .unset, .unset, .unset, .unset, .unset] [(.long ((9223372036854775807 : Int64) - len))])) _
        refine XS.lconst X101.here hx rfl (hb hby at_55) ?_
        show Steps p.tables e below (T101.setTop (mkF m 56 #[.val (.long q0), .second, .val (.long q2), .second, .val (.int p4), .val (.long len), .second, .val (.long ins), .second, .val (.int (p4 &&& (3 : Int32))), .val (.long ((9223372036854775807 : Int64) - len)), .second, .val (.int oo), .unset, .unset, .unset, .unset, .unset] [(.long (0 : Int64)), (.long ((9223372036854775807 : Int64) - len))])) _
        refine XS.lcmp X101.here hx rfl (hb hby at_56) rfl ?_
        exact kt
      by_cases hc57 : ((9223372036854775807 : Int64) - len) = (0 : Int64)
      · refine Gl.pre (S' := T101.setTop (mkF m 64 #[.val (.long q0), .second, .val (.long q2), .second, .val (.int p4), .val (.long len), .second, .val (.long ((9223372036854775807 : Int64) - len)), .second, .val (.int (p4 &&& (3 : Int32))), .val (.long ((9223372036854775807 : Int64) - len)), .second, .val (.int oo), .unset, .unset, .unset, .unset, .unset] [])) (fun t kt => ?_) ?_
        · show Steps p.tables e below (T101.setTop (mkF m 57 #[.val (.long q0), .second, .val (.long q2), .second, .val (.int p4), .val (.long len), .second, .val (.long ins), .second, .val (.int (p4 &&& (3 : Int32))), .val (.long ((9223372036854775807 : Int64) - len)), .second, .val (.int oo), .unset, .unset, .unset, .unset, .unset] [(.int (lcmpW ((9223372036854775807 : Int64) - len) (0 : Int64)))])) _
          refine XS.ifNo X101.here hx rfl (hb hby at_57) rfl (own_nf (l0_ne _ _) hc57) ?_
          show Steps p.tables e below (T101.setTop (mkF m 60 #[.val (.long q0), .second, .val (.long q2), .second, .val (.int p4), .val (.long len), .second, .val (.long ins), .second, .val (.int (p4 &&& (3 : Int32))), .val (.long ((9223372036854775807 : Int64) - len)), .second, .val (.int oo), .unset, .unset, .unset, .unset, .unset] [])) _
          refine XS.lload X101.here hx rfl (hb hby at_60) rfl ?_
          show Steps p.tables e below (T101.setTop (mkF m 62 #[.val (.long q0), .second, .val (.long q2), .second, .val (.int p4), .val (.long len), .second, .val (.long ins), .second, .val (.int (p4 &&& (3 : Int32))), .val (.long ((9223372036854775807 : Int64) - len)), .second, .val (.int oo), .unset, .unset, .unset, .unset, .unset] [(.long ((9223372036854775807 : Int64) - len))])) _
          refine XS.lstore X101.here hx rfl (hb hby at_62) rfl (l' := #[.val (.long q0), .second, .val (.long q2), .second, .val (.int p4), .val (.long len), .second, .val (.long ((9223372036854775807 : Int64) - len)), .second, .val (.int (p4 &&& (3 : Int32))), .val (.long ((9223372036854775807 : Int64) - len)), .second, .val (.int oo), .unset, .unset, .unset, .unset, .unset]) rfl ?_
          exact kt
        obtain ⟨ib, h_ib⟩ : ∃ z : Int64, z = ((9223372036854775807 : Int64) - len) := ⟨_, rfl⟩
        rw [← h_ib]
        have hib : 0 ≤ ib.toInt := by rw [h_ib, hc57]; decide
        obtain ⟨T102, h102, X102, e102, E102, A102, D102, -, st102⟩ := newO X101 hx hZ hown (hw _ (List.mem_of_getElem? (i := 5) rfl)) (hw _ (List.mem_of_getElem? (i := 6) rfl)) (hw _ (List.mem_of_getElem? (i := 7) rfl)) e101 (g := (mkF m 102 #[.val (.long q0), .second, .val (.long q2), .second, .val (.int p4), .val (.long len), .second, .val (.long ib), .second, .val (.int (p4 &&& (3 : Int32))), .val (.long ib), .second, .val (.int oo), .unset, .unset, .unset, .unset, .unset] [])) rfl (hb hby at_102) (by decide) (by decide)
        obtain ⟨b102, g102⟩ : ∃ z, z = h0.size := ⟨_, rfl⟩
        have g_b102 : n0 ≤ b102 := Nat.le_trans Z0 (Nat.le_of_eq g102.symm)
        have sz_b102 : h0.size ≤ b102 := Nat.le_trans K0.1 (Nat.le_of_eq g102.symm)
        rw [← g102] at A102 D102 st102
        have K102 : Keep h0 h102 [] := K0.ext E102
        have F_arrived_b102 : Fld Z h102 b102 "com/example/tenrec/tenrec/policy/MeasuredWindow" "arrived" "Ljava/util/ArrayDeque;" .null := D102 (Or.inr (hw _ (List.mem_of_getElem? (i := 32) rfl))) (ty := (.object "java/util/ArrayDeque")) (by decide)
        have F_length_b102 : Fld Z h102 b102 "com/example/tenrec/tenrec/policy/MeasuredWindow" "length" "J" (.long (0 : Int64)) := D102 (Or.inr (hw _ (List.mem_of_getElem? (i := 34) rfl))) (ty := .long) (by decide)
        have z104 : n0 ≤ h102.size := (Nat.le_trans Z0 E102.1)
        obtain ⟨v103, T103, L103, X103, q103, st103⟩ := own_callI X102 hx hZ (y := (⟨"com/example/tenrec/tenrec/policy/MeasuredWindow", "<init>", "(J)V"⟩ : MethodName)) rfl hown (hw _ (List.mem_of_getElem? (i := 8) rfl)) (hw _ (List.mem_of_getElem? (i := 9) rfl)) (hw _ (List.mem_of_getElem? (i := 7) rfl)) (hw _ (List.mem_of_getElem? (i := 10) rfl)) (by decide) (a := b102) (hM := (rm2 l Z a0 hw [] b102 len h102 n0 z104 g_b102 A102 F_arrived_b102 F_length_b102)) (by decide) (by decide) (by decide) (by decide) e102 (argsL := [(.long len)]) (rest := [(.ref b102)]) (Ls := #[.val (.long q0), .second, .val (.long q2), .second, .val (.int p4), .val (.long len), .second, .val (.long ib), .second, .val (.int (p4 &&& (3 : Int32))), .val (.long ib), .second, .val (.int oo), .unset, .unset, .unset, .unset, .unset]) (by rw [hml]; rfl) (lenOf pd__J_V rfl) (W := 1) (Nat.le_of_eq rfl) (hb hby at_108)
        obtain ⟨rfl, N103q, K103q, E103q, F103q⟩ := q103
        have N103 := Fr.app N101 N103q
        have K103 : Keep h0 T103.heap [] := K102.trans K103q (allS (Or.inr sz_b102) all0)
        obtain ⟨T105, h105, X105, e105, E105, A105, D105, -, st105⟩ := newO X103 hx hZ hown (hw _ (List.mem_of_getElem? (i := 35) rfl)) (hw _ (List.mem_of_getElem? (i := 36) rfl)) (hw _ (List.mem_of_getElem? (i := 37) rfl)) rfl (g := (mkF m 113 #[.val (.long q0), .second, .val (.long q2), .second, .val (.int p4), .val (.long len), .second, .val (.long ib), .second, .val (.int (p4 &&& (3 : Int32))), .val (.ref b102), .unset, .val (.int oo), .unset, .unset, .unset, .unset, .unset] [])) rfl (hb hby at_113) (by decide) (by decide)
        obtain ⟨b105, g105⟩ : ∃ z, z = T103.heap.size := ⟨_, rfl⟩
        have z106 : n0 ≤ T103.heap.size := (Nat.le_trans z104 K103q.1)
        have g_b105 : n0 ≤ b105 := Nat.le_trans z106 (Nat.le_of_eq g105.symm)
        have sz_b105 : h0.size ≤ b105 := Nat.le_trans K103.1 (Nat.le_of_eq g105.symm)
        rw [← g105] at A105 D105 st105
        have K105 : Keep h0 h105 [] := K103.ext E105
        have F_instant_b105 : Fld Z h105 b105 "com/example/tenrec/tenrec/policy/MeasuredWindow$Interval" "instant" "J" (.long (0 : Int64)) := D105 (Or.inr (hw _ (List.mem_of_getElem? (i := 43) rfl))) (ty := .long) (by decide)
        have F_arrivals_b105 : Fld Z h105 b105 "com/example/tenrec/tenrec/policy/MeasuredWindow$Interval" "arrivals" "I" (.int (0 : Int32)) := D105 (Or.inr (hw _ (List.mem_of_getElem? (i := 45) rfl))) (ty := .int) (by decide)
        have z108 : n0 ≤ h105.size := (Nat.le_trans z106 E105.1)
        obtain ⟨v107, T107, L107, X107, q107, st107⟩ := own_callI X105 hx hZ (y := (⟨"com/example/tenrec/tenrec/policy/MeasuredWindow$Interval", "<init>", "(JI)V"⟩ : MethodName)) rfl hown (hw _ (List.mem_of_getElem? (i := 38) rfl)) (hw _ (List.mem_of_getElem? (i := 39) rfl)) (hw _ (List.mem_of_getElem? (i := 37) rfl)) (hw _ (List.mem_of_getElem? (i := 40) rfl)) (by decide) (a := b105) (hM := (rm6 l Z a0 hw [] b105 ib ((1 : Int32) + (((p4.toUInt32 >>> ((8 : Int32) &&& 31).toUInt32).toInt32) &&& (255 : Int32))) h105 n0 z108 g_b105 A105 F_instant_b105 F_arrivals_b105)) (by decide) (by decide) (by decide) (by decide) e105 (argsL := [(.long ib), (.int ((1 : Int32) + (((p4.toUInt32 >>> ((8 : Int32) &&& 31).toUInt32).toInt32) &&& (255 : Int32))))]) (rest := [(.ref b105)]) (Ls := #[.val (.long q0), .second, .val (.long q2), .second, .val (.int p4), .val (.long len), .second, .val (.long ib), .second, .val (.int (p4 &&& (3 : Int32))), .val (.ref b102), .unset, .val (.int oo), .unset, .unset, .unset, .unset, .unset]) (by rw [hml]; rfl) (lenOf pd__JI_V rfl) (W := 1) (Nat.le_of_eq rfl) (hb hby at_130)
        obtain ⟨rfl, N107q, K107q, E107q, F107q⟩ := q107
        have N107 := Fr.app N103 N107q
        have K107 : Keep h0 T107.heap [] := K105.trans K107q (allS (Or.inr sz_b105) all0)
        have f110 := ((F103q.ext E105).keep K107q (ninS (Nat.ne_of_lt (Nat.lt_of_lt_of_le (Nat.lt_of_lt_of_le A102.lt K103q.1) (Nat.le_of_eq g105.symm))) nin0))
        have z111 : n0 ≤ T107.heap.size := (Nat.le_trans z108 K107q.1)
        have f112 := ((E103q.ext E105).keep K107q)
        obtain ⟨v109, T109, L109, X109, q109, st109⟩ := own_callV X107 hx hZ (y := (⟨"com/example/tenrec/tenrec/policy/MeasuredWindow", "leavesAt", "(Lcom/example/tenrec/tenrec/policy/MeasuredWindow$Interval;)J"⟩ : MethodName)) (z := (⟨"com/example/tenrec/tenrec/policy/MeasuredWindow", "leavesAt", "(Lcom/example/tenrec/tenrec/policy/MeasuredWindow$Interval;)J"⟩ : MethodName)) hown (hw _ (List.mem_of_getElem? (i := 46) rfl)) (hw _ (List.mem_of_getElem? (i := 47) rfl)) (notFace_of_selects (args := #[]) (mvT hZ (hw _ (List.mem_of_getElem? (i := 49) rfl)))) (hw _ (List.mem_of_getElem? (i := 49) rfl)) (hw _ (List.mem_of_getElem? (i := 48) rfl)) (hw _ (List.mem_of_getElem? (i := 7) rfl)) (hw _ (List.mem_of_getElem? (i := 50) rfl)) (by decide) f112 (hM := (rm7 l Z a0 hw [] b102 b105 ib len T107.heap n0 z111 F107q f110)) (by decide) (by decide) (by decide) (by decide) rfl (argsL := [(.ref b105)]) (rest := []) (Ls := #[.val (.long q0), .second, .val (.long q2), .second, .val (.int p4), .val (.long len), .second, .val (.long ib), .second, .val (.int (p4 &&& (3 : Int32))), .val (.ref b102), .val (.ref b105), .val (.int oo), .unset, .unset, .unset, .unset, .unset]) (by rw [hml]; rfl) (lenOf pd__Lcom_example_tenrec_tenrec_policy_MeasuredWindow_Interval__J rfl) (W := 0) (Nat.le_of_eq rfl) (hb hby at_139)
        obtain ⟨rfl, N109q, e109⟩ := q109
        have N109 := Fr.app N107 N109q
        refine Gl.pre (S' := T109.setTop (mkF m 155 #[.val (.long q0), .second, .val (.long q2), .second, .val (.int p4), .val (.long len), .second, .val (.long ib), .second, .val (.int (p4 &&& (3 : Int32))), .val (.ref b102), .val (.ref b105), .val (.long (if ((9223372036854775807 : Int64) - len) < ib then (9223372036854775807 : Int64) else (ib + len))), .second, .val (.long (ib + len)), .second, .unset, .unset] [(.int (lcmpW (ib + len) (0 : Int64)))])) (fun t kt => ?_) ?_
        · show Steps p.tables e below (T101.setTop (mkF m 64 #[.val (.long q0), .second, .val (.long q2), .second, .val (.int p4), .val (.long len), .second, .val (.long ib), .second, .val (.int (p4 &&& (3 : Int32))), .val (.long ib), .second, .val (.int oo), .unset, .unset, .unset, .unset, .unset] [])) _
          refine XS.goto X101.here hx rfl (pc0 := 64) (pc' := 75) rfl (hb hby at_64) (by decide) (by decide) ?_
          show Steps p.tables e below (T101.setTop (mkF m 75 #[.val (.long q0), .second, .val (.long q2), .second, .val (.int p4), .val (.long len), .second, .val (.long ib), .second, .val (.int (p4 &&& (3 : Int32))), .val (.long ib), .second, .val (.int oo), .unset, .unset, .unset, .unset, .unset] [])) _
          refine XS.goto X101.here hx rfl (pc0 := 75) (pc' := 102) rfl (hb hby at_75) (by decide) (by decide) ?_
          show Steps p.tables e below (T101.setTop (mkF m 102 #[.val (.long q0), .second, .val (.long q2), .second, .val (.int p4), .val (.long len), .second, .val (.long ib), .second, .val (.int (p4 &&& (3 : Int32))), .val (.long ib), .second, .val (.int oo), .unset, .unset, .unset, .unset, .unset] [])) _
          refine st102 _ ?_
          show Steps p.tables e below (T102.setTop (mkF m 105 #[.val (.long q0), .second, .val (.long q2), .second, .val (.int p4), .val (.long len), .second, .val (.long ib), .second, .val (.int (p4 &&& (3 : Int32))), .val (.long ib), .second, .val (.int oo), .unset, .unset, .unset, .unset, .unset] [(.ref b102)])) _
          refine XS.dup X102.here hx rfl (hb hby at_105) rfl rfl ?_
          show Steps p.tables e below (T102.setTop (mkF m 106 #[.val (.long q0), .second, .val (.long q2), .second, .val (.int p4), .val (.long len), .second, .val (.long ib), .second, .val (.int (p4 &&& (3 : Int32))), .val (.long ib), .second, .val (.int oo), .unset, .unset, .unset, .unset, .unset] [(.ref b102), (.ref b102)])) _
          refine XS.lload X102.here hx rfl (hb hby at_106) rfl ?_
          show Steps p.tables e below (T102.setTop (mkF m 108 #[.val (.long q0), .second, .val (.long q2), .second, .val (.int p4), .val (.long len), .second, .val (.long ib), .second, .val (.int (p4 &&& (3 : Int32))), .val (.long ib), .second, .val (.int oo), .unset, .unset, .unset, .unset, .unset] [(.long len), (.ref b102), (.ref b102)])) _
          refine st103 _ ?_
          show Steps p.tables e below (T103.setTop (mkF m 111 #[.val (.long q0), .second, .val (.long q2), .second, .val (.int p4), .val (.long len), .second, .val (.long ib), .second, .val (.int (p4 &&& (3 : Int32))), .val (.long ib), .second, .val (.int oo), .unset, .unset, .unset, .unset, .unset] [(.ref b102)])) _
          refine XS.astore X103.here hx rfl (hb hby at_111) rfl rfl (l' := #[.val (.long q0), .second, .val (.long q2), .second, .val (.int p4), .val (.long len), .second, .val (.long ib), .second, .val (.int (p4 &&& (3 : Int32))), .val (.ref b102), .unset, .val (.int oo), .unset, .unset, .unset, .unset, .unset]) rfl ?_
          show Steps p.tables e below (T103.setTop (mkF m 113 #[.val (.long q0), .second, .val (.long q2), .second, .val (.int p4), .val (.long len), .second, .val (.long ib), .second, .val (.int (p4 &&& (3 : Int32))), .val (.ref b102), .unset, .val (.int oo), .unset, .unset, .unset, .unset, .unset] [])) _
          refine st105 _ ?_
          show Steps p.tables e below (T105.setTop (mkF m 116 #[.val (.long q0), .second, .val (.long q2), .second, .val (.int p4), .val (.long len), .second, .val (.long ib), .second, .val (.int (p4 &&& (3 : Int32))), .val (.ref b102), .unset, .val (.int oo), .unset, .unset, .unset, .unset, .unset] [(.ref b105)])) _
          refine XS.dup X105.here hx rfl (hb hby at_116) rfl rfl ?_
          show Steps p.tables e below (T105.setTop (mkF m 117 #[.val (.long q0), .second, .val (.long q2), .second, .val (.int p4), .val (.long len), .second, .val (.long ib), .second, .val (.int (p4 &&& (3 : Int32))), .val (.ref b102), .unset, .val (.int oo), .unset, .unset, .unset, .unset, .unset] [(.ref b105), (.ref b105)])) _
          refine XS.lload X105.here hx rfl (hb hby at_117) rfl ?_
          show Steps p.tables e below (T105.setTop (mkF m 119 #[.val (.long q0), .second, .val (.long q2), .second, .val (.int p4), .val (.long len), .second, .val (.long ib), .second, .val (.int (p4 &&& (3 : Int32))), .val (.ref b102), .unset, .val (.int oo), .unset, .unset, .unset, .unset, .unset] [(.long ib), (.ref b105), (.ref b105)])) _
          refine XS.iconst X105.here hx rfl (hb hby at_119) ?_
          show Steps p.tables e below (T105.setTop (mkF m 120 #[.val (.long q0), .second, .val (.long q2), .second, .val (.int p4), .val (.long len), .second, .val (.long ib), .second, .val (.int (p4 &&& (3 : Int32))), .val (.ref b102), .unset, .val (.int oo), .unset, .unset, .unset, .unset, .unset] [(.int (1 : Int32)), (.long ib), (.ref b105), (.ref b105)])) _
          refine XS.iload X105.here hx rfl (hb hby at_120) rfl ?_
          show Steps p.tables e below (T105.setTop (mkF m 122 #[.val (.long q0), .second, .val (.long q2), .second, .val (.int p4), .val (.long len), .second, .val (.long ib), .second, .val (.int (p4 &&& (3 : Int32))), .val (.ref b102), .unset, .val (.int oo), .unset, .unset, .unset, .unset, .unset] [(.int p4), (.int (1 : Int32)), (.long ib), (.ref b105), (.ref b105)])) _
          refine XS.bipush X105.here hx rfl (hb hby at_122) ?_
          show Steps p.tables e below (T105.setTop (mkF m 124 #[.val (.long q0), .second, .val (.long q2), .second, .val (.int p4), .val (.long len), .second, .val (.long ib), .second, .val (.int (p4 &&& (3 : Int32))), .val (.ref b102), .unset, .val (.int oo), .unset, .unset, .unset, .unset, .unset] [(.int (8 : Int32)), (.int p4), (.int (1 : Int32)), (.long ib), (.ref b105), (.ref b105)])) _
          refine XS.iushr X105.here hx rfl (hb hby at_124) rfl ?_
          show Steps p.tables e below (T105.setTop (mkF m 125 #[.val (.long q0), .second, .val (.long q2), .second, .val (.int p4), .val (.long len), .second, .val (.long ib), .second, .val (.int (p4 &&& (3 : Int32))), .val (.ref b102), .unset, .val (.int oo), .unset, .unset, .unset, .unset, .unset] [(.int ((p4.toUInt32 >>> ((8 : Int32) &&& 31).toUInt32).toInt32)), (.int (1 : Int32)), (.long ib), (.ref b105), (.ref b105)])) _
          refine XS.sipush X105.here hx rfl (hb hby at_125) ?_
          show Steps p.tables e below (T105.setTop (mkF m 128 #[.val (.long q0), .second, .val (.long q2), .second, .val (.int p4), .val (.long len), .second, .val (.long ib), .second, .val (.int (p4 &&& (3 : Int32))), .val (.ref b102), .unset, .val (.int oo), .unset, .unset, .unset, .unset, .unset] [(.int (255 : Int32)), (.int ((p4.toUInt32 >>> ((8 : Int32) &&& 31).toUInt32).toInt32)), (.int (1 : Int32)), (.long ib), (.ref b105), (.ref b105)])) _
          refine XS.iand X105.here hx rfl (hb hby at_128) rfl ?_
          show Steps p.tables e below (T105.setTop (mkF m 129 #[.val (.long q0), .second, .val (.long q2), .second, .val (.int p4), .val (.long len), .second, .val (.long ib), .second, .val (.int (p4 &&& (3 : Int32))), .val (.ref b102), .unset, .val (.int oo), .unset, .unset, .unset, .unset, .unset] [(.int (((p4.toUInt32 >>> ((8 : Int32) &&& 31).toUInt32).toInt32) &&& (255 : Int32))), (.int (1 : Int32)), (.long ib), (.ref b105), (.ref b105)])) _
          refine XS.iadd X105.here hx rfl (hb hby at_129) rfl ?_
          show Steps p.tables e below (T105.setTop (mkF m 130 #[.val (.long q0), .second, .val (.long q2), .second, .val (.int p4), .val (.long len), .second, .val (.long ib), .second, .val (.int (p4 &&& (3 : Int32))), .val (.ref b102), .unset, .val (.int oo), .unset, .unset, .unset, .unset, .unset] [(.int ((1 : Int32) + (((p4.toUInt32 >>> ((8 : Int32) &&& 31).toUInt32).toInt32) &&& (255 : Int32)))), (.long ib), (.ref b105), (.ref b105)])) _
          refine st107 _ ?_
          show Steps p.tables e below (T107.setTop (mkF m 133 #[.val (.long q0), .second, .val (.long q2), .second, .val (.int p4), .val (.long len), .second, .val (.long ib), .second, .val (.int (p4 &&& (3 : Int32))), .val (.ref b102), .unset, .val (.int oo), .unset, .unset, .unset, .unset, .unset] [(.ref b105)])) _
          refine XS.astore X107.here hx rfl (hb hby at_133) rfl rfl (l' := #[.val (.long q0), .second, .val (.long q2), .second, .val (.int p4), .val (.long len), .second, .val (.long ib), .second, .val (.int (p4 &&& (3 : Int32))), .val (.ref b102), .val (.ref b105), .val (.int oo), .unset, .unset, .unset, .unset, .unset]) rfl ?_
          show Steps p.tables e below (T107.setTop (mkF m 135 #[.val (.long q0), .second, .val (.long q2), .second, .val (.int p4), .val (.long len), .second, .val (.long ib), .second, .val (.int (p4 &&& (3 : Int32))), .val (.ref b102), .val (.ref b105), .val (.int oo), .unset, .unset, .unset, .unset, .unset] [])) _
          refine XS.aload X107.here hx rfl (hb hby at_135) rfl rfl ?_
          show Steps p.tables e below (T107.setTop (mkF m 137 #[.val (.long q0), .second, .val (.long q2), .second, .val (.int p4), .val (.long len), .second, .val (.long ib), .second, .val (.int (p4 &&& (3 : Int32))), .val (.ref b102), .val (.ref b105), .val (.int oo), .unset, .unset, .unset, .unset, .unset] [(.ref b102)])) _
          refine XS.aload X107.here hx rfl (hb hby at_137) rfl rfl ?_
          show Steps p.tables e below (T107.setTop (mkF m 139 #[.val (.long q0), .second, .val (.long q2), .second, .val (.int p4), .val (.long len), .second, .val (.long ib), .second, .val (.int (p4 &&& (3 : Int32))), .val (.ref b102), .val (.ref b105), .val (.int oo), .unset, .unset, .unset, .unset, .unset] [(.ref b105), (.ref b102)])) _
          refine st109 _ ?_
          show Steps p.tables e below (T109.setTop (mkF m 142 #[.val (.long q0), .second, .val (.long q2), .second, .val (.int p4), .val (.long len), .second, .val (.long ib), .second, .val (.int (p4 &&& (3 : Int32))), .val (.ref b102), .val (.ref b105), .val (.int oo), .unset, .unset, .unset, .unset, .unset] [(.long (if ((9223372036854775807 : Int64) - len) < ib then (9223372036854775807 : Int64) else (ib + len)))])) _
          refine XS.lstore X109.here hx rfl (hb hby at_142) rfl (l' := #[.val (.long q0), .second, .val (.long q2), .second, .val (.int p4), .val (.long len), .second, .val (.long ib), .second, .val (.int (p4 &&& (3 : Int32))), .val (.ref b102), .val (.ref b105), .val (.long (if ((9223372036854775807 : Int64) - len) < ib then (9223372036854775807 : Int64) else (ib + len))), .second, .unset, .unset, .unset, .unset]) rfl ?_
          show Steps p.tables e below (T109.setTop (mkF m 144 #[.val (.long q0), .second, .val (.long q2), .second, .val (.int p4), .val (.long len), .second, .val (.long ib), .second, .val (.int (p4 &&& (3 : Int32))), .val (.ref b102), .val (.ref b105), .val (.long (if ((9223372036854775807 : Int64) - len) < ib then (9223372036854775807 : Int64) else (ib + len))), .second, .unset, .unset, .unset, .unset] [])) _
          refine XS.lload X109.here hx rfl (hb hby at_144) rfl ?_
          show Steps p.tables e below (T109.setTop (mkF m 146 #[.val (.long q0), .second, .val (.long q2), .second, .val (.int p4), .val (.long len), .second, .val (.long ib), .second, .val (.int (p4 &&& (3 : Int32))), .val (.ref b102), .val (.ref b105), .val (.long (if ((9223372036854775807 : Int64) - len) < ib then (9223372036854775807 : Int64) else (ib + len))), .second, .unset, .unset, .unset, .unset] [(.long ib)])) _
          refine XS.lload X109.here hx rfl (hb hby at_146) rfl ?_
          show Steps p.tables e below (T109.setTop (mkF m 148 #[.val (.long q0), .second, .val (.long q2), .second, .val (.int p4), .val (.long len), .second, .val (.long ib), .second, .val (.int (p4 &&& (3 : Int32))), .val (.ref b102), .val (.ref b105), .val (.long (if ((9223372036854775807 : Int64) - len) < ib then (9223372036854775807 : Int64) else (ib + len))), .second, .unset, .unset, .unset, .unset] [(.long len), (.long ib)])) _
          refine XS.ladd X109.here hx rfl (hb hby at_148) rfl ?_
          show Steps p.tables e below (T109.setTop (mkF m 149 #[.val (.long q0), .second, .val (.long q2), .second, .val (.int p4), .val (.long len), .second, .val (.long ib), .second, .val (.int (p4 &&& (3 : Int32))), .val (.ref b102), .val (.ref b105), .val (.long (if ((9223372036854775807 : Int64) - len) < ib then (9223372036854775807 : Int64) else (ib + len))), .second, .unset, .unset, .unset, .unset] [(.long (ib + len))])) _
          refine XS.lstore X109.here hx rfl (hb hby at_149) rfl (l' := #[.val (.long q0), .second, .val (.long q2), .second, .val (.int p4), .val (.long len), .second, .val (.long ib), .second, .val (.int (p4 &&& (3 : Int32))), .val (.ref b102), .val (.ref b105), .val (.long (if ((9223372036854775807 : Int64) - len) < ib then (9223372036854775807 : Int64) else (ib + len))), .second, .val (.long (ib + len)), .second, .unset, .unset]) rfl ?_
          show Steps p.tables e below (T109.setTop (mkF m 151 #[.val (.long q0), .second, .val (.long q2), .second, .val (.int p4), .val (.long len), .second, .val (.long ib), .second, .val (.int (p4 &&& (3 : Int32))), .val (.ref b102), .val (.ref b105), .val (.long (if ((9223372036854775807 : Int64) - len) < ib then (9223372036854775807 : Int64) else (ib + len))), .second, .val (.long (ib + len)), .second, .unset, .unset] [])) _
          refine XS.lload X109.here hx rfl (hb hby at_151) rfl ?_
          show Steps p.tables e below (T109.setTop (mkF m 153 #[.val (.long q0), .second, .val (.long q2), .second, .val (.int p4), .val (.long len), .second, .val (.long ib), .second, .val (.int (p4 &&& (3 : Int32))), .val (.ref b102), .val (.ref b105), .val (.long (if ((9223372036854775807 : Int64) - len) < ib then (9223372036854775807 : Int64) else (ib + len))), .second, .val (.long (ib + len)), .second, .unset, .unset] [(.long (ib + len))])) _
          refine XS.lconst X109.here hx rfl (hb hby at_153) ?_
          show Steps p.tables e below (T109.setTop (mkF m 154 #[.val (.long q0), .second, .val (.long q2), .second, .val (.int p4), .val (.long len), .second, .val (.long ib), .second, .val (.int (p4 &&& (3 : Int32))), .val (.ref b102), .val (.ref b105), .val (.long (if ((9223372036854775807 : Int64) - len) < ib then (9223372036854775807 : Int64) else (ib + len))), .second, .val (.long (ib + len)), .second, .unset, .unset] [(.long (0 : Int64)), (.long (ib + len))])) _
          refine XS.lcmp X109.here hx rfl (hb hby at_154) rfl ?_
          exact kt
        by_cases hc155 : (ib + len) < (0 : Int64)
        · refine Gl.fin X109 (v := some (.int (1 : Int32))) (fun h => by rw [Bd.returns] at h; cases h) Bd.notSynchronized ?_ e109 (by decide) (by decide) (fun fs hr => ?_)
          · exact ⟨rfl, N109⟩
          · show Steps p.tables e below (T109.setTop (mkF m 155 #[.val (.long q0), .second, .val (.long q2), .second, .val (.int p4), .val (.long len), .second, .val (.long ib), .second, .val (.int (p4 &&& (3 : Int32))), .val (.ref b102), .val (.ref b105), .val (.long (if ((9223372036854775807 : Int64) - len) < ib then (9223372036854775807 : Int64) else (ib + len))), .second, .val (.long (ib + len)), .second, .unset, .unset] [(.int (lcmpW (ib + len) (0 : Int64)))])) _
            refine XS.ifNo X109.here hx rfl (hb hby at_155) rfl (own_nf (l0_ge _ _) hc155) ?_
            show Steps p.tables e below (T109.setTop (mkF m 158 #[.val (.long q0), .second, .val (.long q2), .second, .val (.int p4), .val (.long len), .second, .val (.long ib), .second, .val (.int (p4 &&& (3 : Int32))), .val (.ref b102), .val (.ref b105), .val (.long (if ((9223372036854775807 : Int64) - len) < ib then (9223372036854775807 : Int64) else (ib + len))), .second, .val (.long (ib + len)), .second, .unset, .unset] [])) _
            refine X109.ldc2Long hx hown (mvT hZ (hw _ (List.mem_of_getElem? (i := 0) rfl))) (g := (mkF m 158 #[.val (.long q0), .second, .val (.long q2), .second, .val (.int p4), .val (.long len), .second, .val (.long ib), .second, .val (.int (p4 &&& (3 : Int32))), .val (.ref b102), .val (.ref b105), .val (.long (if ((9223372036854775807 : Int64) - len) < ib then (9223372036854775807 : Int64) else (ib + len))), .second, .val (.long (ib + len)), .second, .unset, .unset] [])) rfl (hb hby at_158) _ ?_
            show Steps p.tables e below (T109.setTop (mkF m 161 #[.val (.long q0), .second, .val (.long q2), .second, .val (.int p4), .val (.long len), .second, .val (.long ib), .second, .val (.int (p4 &&& (3 : Int32))), .val (.ref b102), .val (.ref b105), .val (.long (if ((9223372036854775807 : Int64) - len) < ib then (9223372036854775807 : Int64) else (ib + len))), .second, .val (.long (ib + len)), .second, .unset, .unset] [(.long (9223372036854775807 : Int64))])) _
            refine XS.goto X109.here hx rfl (pc0 := 161) (pc' := 166) rfl (hb hby at_161) (by decide) (by decide) ?_
            show Steps p.tables e below (T109.setTop (mkF m 166 #[.val (.long q0), .second, .val (.long q2), .second, .val (.int p4), .val (.long len), .second, .val (.long ib), .second, .val (.int (p4 &&& (3 : Int32))), .val (.ref b102), .val (.ref b105), .val (.long (if ((9223372036854775807 : Int64) - len) < ib then (9223372036854775807 : Int64) else (ib + len))), .second, .val (.long (ib + len)), .second, .unset, .unset] [(.long (9223372036854775807 : Int64))])) _
            refine XS.lstore X109.here hx rfl (hb hby at_166) rfl (l' := #[.val (.long q0), .second, .val (.long q2), .second, .val (.int p4), .val (.long len), .second, .val (.long ib), .second, .val (.int (p4 &&& (3 : Int32))), .val (.ref b102), .val (.ref b105), .val (.long (if ((9223372036854775807 : Int64) - len) < ib then (9223372036854775807 : Int64) else (ib + len))), .second, .val (.long (ib + len)), .second, .val (.long (9223372036854775807 : Int64)), .second]) rfl ?_
            show Steps p.tables e below (T109.setTop (mkF m 168 #[.val (.long q0), .second, .val (.long q2), .second, .val (.int p4), .val (.long len), .second, .val (.long ib), .second, .val (.int (p4 &&& (3 : Int32))), .val (.ref b102), .val (.ref b105), .val (.long (if ((9223372036854775807 : Int64) - len) < ib then (9223372036854775807 : Int64) else (ib + len))), .second, .val (.long (ib + len)), .second, .val (.long (9223372036854775807 : Int64)), .second] [])) _
            refine XS.lload X109.here hx rfl (hb hby at_168) rfl ?_
            show Steps p.tables e below (T109.setTop (mkF m 170 #[.val (.long q0), .second, .val (.long q2), .second, .val (.int p4), .val (.long len), .second, .val (.long ib), .second, .val (.int (p4 &&& (3 : Int32))), .val (.ref b102), .val (.ref b105), .val (.long (if ((9223372036854775807 : Int64) - len) < ib then (9223372036854775807 : Int64) else (ib + len))), .second, .val (.long (ib + len)), .second, .val (.long (9223372036854775807 : Int64)), .second] [(.long (if ((9223372036854775807 : Int64) - len) < ib then (9223372036854775807 : Int64) else (ib + len)))])) _
            refine XS.lload X109.here hx rfl (hb hby at_170) rfl ?_
            show Steps p.tables e below (T109.setTop (mkF m 172 #[.val (.long q0), .second, .val (.long q2), .second, .val (.int p4), .val (.long len), .second, .val (.long ib), .second, .val (.int (p4 &&& (3 : Int32))), .val (.ref b102), .val (.ref b105), .val (.long (if ((9223372036854775807 : Int64) - len) < ib then (9223372036854775807 : Int64) else (ib + len))), .second, .val (.long (ib + len)), .second, .val (.long (9223372036854775807 : Int64)), .second] [(.long (9223372036854775807 : Int64)), (.long (if ((9223372036854775807 : Int64) - len) < ib then (9223372036854775807 : Int64) else (ib + len)))])) _
            refine XS.lcmp X109.here hx rfl (hb hby at_172) rfl ?_
            show Steps p.tables e below (T109.setTop (mkF m 173 #[.val (.long q0), .second, .val (.long q2), .second, .val (.int p4), .val (.long len), .second, .val (.long ib), .second, .val (.int (p4 &&& (3 : Int32))), .val (.ref b102), .val (.ref b105), .val (.long (if ((9223372036854775807 : Int64) - len) < ib then (9223372036854775807 : Int64) else (ib + len))), .second, .val (.long (ib + len)), .second, .val (.long (9223372036854775807 : Int64)), .second] [(.int (lcmpW (if ((9223372036854775807 : Int64) - len) < ib then (9223372036854775807 : Int64) else (ib + len)) (9223372036854775807 : Int64)))])) _
            refine XS.ifNo X109.here hx rfl (hb hby at_173) rfl (own_nf (l0_ne _ _) (by simp [own_lv hib hlen, hc155])) ?_
            show Steps p.tables e below (T109.setTop (mkF m 176 #[.val (.long q0), .second, .val (.long q2), .second, .val (.int p4), .val (.long len), .second, .val (.long ib), .second, .val (.int (p4 &&& (3 : Int32))), .val (.ref b102), .val (.ref b105), .val (.long (if ((9223372036854775807 : Int64) - len) < ib then (9223372036854775807 : Int64) else (ib + len))), .second, .val (.long (ib + len)), .second, .val (.long (9223372036854775807 : Int64)), .second] [])) _
            refine XS.iconst X109.here hx rfl (hb hby at_176) ?_
            show Steps p.tables e below (T109.setTop (mkF m 177 #[.val (.long q0), .second, .val (.long q2), .second, .val (.int p4), .val (.long len), .second, .val (.long ib), .second, .val (.int (p4 &&& (3 : Int32))), .val (.ref b102), .val (.ref b105), .val (.long (if ((9223372036854775807 : Int64) - len) < ib then (9223372036854775807 : Int64) else (ib + len))), .second, .val (.long (ib + len)), .second, .val (.long (9223372036854775807 : Int64)), .second] [(.int (1 : Int32))])) _
            refine XS.goto X109.here hx rfl (pc0 := 177) (pc' := 181) rfl (hb hby at_177) (by decide) (by decide) ?_
            show Steps p.tables e below (T109.setTop (mkF m 181 #[.val (.long q0), .second, .val (.long q2), .second, .val (.int p4), .val (.long len), .second, .val (.long ib), .second, .val (.int (p4 &&& (3 : Int32))), .val (.ref b102), .val (.ref b105), .val (.long (if ((9223372036854775807 : Int64) - len) < ib then (9223372036854775807 : Int64) else (ib + len))), .second, .val (.long (ib + len)), .second, .val (.long (9223372036854775807 : Int64)), .second] [(.int (1 : Int32))])) _
            exact retN X109 hx (t := .boolean) Bd.returns (by simp) (hb hby at_181) hr
        · refine Gl.fin X109 (v := some (.int (1 : Int32))) (fun h => by rw [Bd.returns] at h; cases h) Bd.notSynchronized ?_ e109 (by decide) (by decide) (fun fs hr => ?_)
          · exact ⟨rfl, N109⟩
          · show Steps p.tables e below (T109.setTop (mkF m 155 #[.val (.long q0), .second, .val (.long q2), .second, .val (.int p4), .val (.long len), .second, .val (.long ib), .second, .val (.int (p4 &&& (3 : Int32))), .val (.ref b102), .val (.ref b105), .val (.long (if ((9223372036854775807 : Int64) - len) < ib then (9223372036854775807 : Int64) else (ib + len))), .second, .val (.long (ib + len)), .second, .unset, .unset] [(.int (lcmpW (ib + len) (0 : Int64)))])) _
            refine XS.ifYes X109.here hx rfl (pc0 := 155) (pc' := 164) rfl (hb hby at_155) rfl (own_nt (l0_ge _ _) hc155) (by decide) (by decide) ?_
            show Steps p.tables e below (T109.setTop (mkF m 164 #[.val (.long q0), .second, .val (.long q2), .second, .val (.int p4), .val (.long len), .second, .val (.long ib), .second, .val (.int (p4 &&& (3 : Int32))), .val (.ref b102), .val (.ref b105), .val (.long (if ((9223372036854775807 : Int64) - len) < ib then (9223372036854775807 : Int64) else (ib + len))), .second, .val (.long (ib + len)), .second, .unset, .unset] [])) _
            refine XS.lload X109.here hx rfl (hb hby at_164) rfl ?_
            show Steps p.tables e below (T109.setTop (mkF m 166 #[.val (.long q0), .second, .val (.long q2), .second, .val (.int p4), .val (.long len), .second, .val (.long ib), .second, .val (.int (p4 &&& (3 : Int32))), .val (.ref b102), .val (.ref b105), .val (.long (if ((9223372036854775807 : Int64) - len) < ib then (9223372036854775807 : Int64) else (ib + len))), .second, .val (.long (ib + len)), .second, .unset, .unset] [(.long (ib + len))])) _
            refine XS.lstore X109.here hx rfl (hb hby at_166) rfl (l' := #[.val (.long q0), .second, .val (.long q2), .second, .val (.int p4), .val (.long len), .second, .val (.long ib), .second, .val (.int (p4 &&& (3 : Int32))), .val (.ref b102), .val (.ref b105), .val (.long (if ((9223372036854775807 : Int64) - len) < ib then (9223372036854775807 : Int64) else (ib + len))), .second, .val (.long (ib + len)), .second, .val (.long (ib + len)), .second]) rfl ?_
            show Steps p.tables e below (T109.setTop (mkF m 168 #[.val (.long q0), .second, .val (.long q2), .second, .val (.int p4), .val (.long len), .second, .val (.long ib), .second, .val (.int (p4 &&& (3 : Int32))), .val (.ref b102), .val (.ref b105), .val (.long (if ((9223372036854775807 : Int64) - len) < ib then (9223372036854775807 : Int64) else (ib + len))), .second, .val (.long (ib + len)), .second, .val (.long (ib + len)), .second] [])) _
            refine XS.lload X109.here hx rfl (hb hby at_168) rfl ?_
            show Steps p.tables e below (T109.setTop (mkF m 170 #[.val (.long q0), .second, .val (.long q2), .second, .val (.int p4), .val (.long len), .second, .val (.long ib), .second, .val (.int (p4 &&& (3 : Int32))), .val (.ref b102), .val (.ref b105), .val (.long (if ((9223372036854775807 : Int64) - len) < ib then (9223372036854775807 : Int64) else (ib + len))), .second, .val (.long (ib + len)), .second, .val (.long (ib + len)), .second] [(.long (if ((9223372036854775807 : Int64) - len) < ib then (9223372036854775807 : Int64) else (ib + len)))])) _
            refine XS.lload X109.here hx rfl (hb hby at_170) rfl ?_
            show Steps p.tables e below (T109.setTop (mkF m 172 #[.val (.long q0), .second, .val (.long q2), .second, .val (.int p4), .val (.long len), .second, .val (.long ib), .second, .val (.int (p4 &&& (3 : Int32))), .val (.ref b102), .val (.ref b105), .val (.long (if ((9223372036854775807 : Int64) - len) < ib then (9223372036854775807 : Int64) else (ib + len))), .second, .val (.long (ib + len)), .second, .val (.long (ib + len)), .second] [(.long (ib + len)), (.long (if ((9223372036854775807 : Int64) - len) < ib then (9223372036854775807 : Int64) else (ib + len)))])) _
            refine XS.lcmp X109.here hx rfl (hb hby at_172) rfl ?_
            show Steps p.tables e below (T109.setTop (mkF m 173 #[.val (.long q0), .second, .val (.long q2), .second, .val (.int p4), .val (.long len), .second, .val (.long ib), .second, .val (.int (p4 &&& (3 : Int32))), .val (.ref b102), .val (.ref b105), .val (.long (if ((9223372036854775807 : Int64) - len) < ib then (9223372036854775807 : Int64) else (ib + len))), .second, .val (.long (ib + len)), .second, .val (.long (ib + len)), .second] [(.int (lcmpW (if ((9223372036854775807 : Int64) - len) < ib then (9223372036854775807 : Int64) else (ib + len)) (ib + len)))])) _
            refine XS.ifNo X109.here hx rfl (hb hby at_173) rfl (own_nf (l0_ne _ _) (by simp [own_lv hib hlen, hc155])) ?_
            show Steps p.tables e below (T109.setTop (mkF m 176 #[.val (.long q0), .second, .val (.long q2), .second, .val (.int p4), .val (.long len), .second, .val (.long ib), .second, .val (.int (p4 &&& (3 : Int32))), .val (.ref b102), .val (.ref b105), .val (.long (if ((9223372036854775807 : Int64) - len) < ib then (9223372036854775807 : Int64) else (ib + len))), .second, .val (.long (ib + len)), .second, .val (.long (ib + len)), .second] [])) _
            refine XS.iconst X109.here hx rfl (hb hby at_176) ?_
            show Steps p.tables e below (T109.setTop (mkF m 177 #[.val (.long q0), .second, .val (.long q2), .second, .val (.int p4), .val (.long len), .second, .val (.long ib), .second, .val (.int (p4 &&& (3 : Int32))), .val (.ref b102), .val (.ref b105), .val (.long (if ((9223372036854775807 : Int64) - len) < ib then (9223372036854775807 : Int64) else (ib + len))), .second, .val (.long (ib + len)), .second, .val (.long (ib + len)), .second] [(.int (1 : Int32))])) _
            refine XS.goto X109.here hx rfl (pc0 := 177) (pc' := 181) rfl (hb hby at_177) (by decide) (by decide) ?_
            show Steps p.tables e below (T109.setTop (mkF m 181 #[.val (.long q0), .second, .val (.long q2), .second, .val (.int p4), .val (.long len), .second, .val (.long ib), .second, .val (.int (p4 &&& (3 : Int32))), .val (.ref b102), .val (.ref b105), .val (.long (if ((9223372036854775807 : Int64) - len) < ib then (9223372036854775807 : Int64) else (ib + len))), .second, .val (.long (ib + len)), .second, .val (.long (ib + len)), .second] [(.int (1 : Int32))])) _
            exact retN X109 hx (t := .boolean) Bd.returns (by simp) (hb hby at_181) hr
      · refine Gl.pre (S' := T101.setTop (mkF m 75 #[.val (.long q0), .second, .val (.long q2), .second, .val (.int p4), .val (.long len), .second, .val (.long (((9223372036854775807 : Int64) - len) + (oo.toInt64))), .second, .val (.int (p4 &&& (3 : Int32))), .val (.long ((9223372036854775807 : Int64) - len)), .second, .val (.int oo), .unset, .unset, .unset, .unset, .unset] [])) (fun t kt => ?_) ?_
        · show Steps p.tables e below (T101.setTop (mkF m 57 #[.val (.long q0), .second, .val (.long q2), .second, .val (.int p4), .val (.long len), .second, .val (.long ins), .second, .val (.int (p4 &&& (3 : Int32))), .val (.long ((9223372036854775807 : Int64) - len)), .second, .val (.int oo), .unset, .unset, .unset, .unset, .unset] [(.int (lcmpW ((9223372036854775807 : Int64) - len) (0 : Int64)))])) _
          refine XS.ifYes X101.here hx rfl (pc0 := 57) (pc' := 67) rfl (hb hby at_57) rfl (own_nt (l0_ne _ _) hc57) (by decide) (by decide) ?_
          show Steps p.tables e below (T101.setTop (mkF m 67 #[.val (.long q0), .second, .val (.long q2), .second, .val (.int p4), .val (.long len), .second, .val (.long ins), .second, .val (.int (p4 &&& (3 : Int32))), .val (.long ((9223372036854775807 : Int64) - len)), .second, .val (.int oo), .unset, .unset, .unset, .unset, .unset] [])) _
          refine XS.lload X101.here hx rfl (hb hby at_67) rfl ?_
          show Steps p.tables e below (T101.setTop (mkF m 69 #[.val (.long q0), .second, .val (.long q2), .second, .val (.int p4), .val (.long len), .second, .val (.long ins), .second, .val (.int (p4 &&& (3 : Int32))), .val (.long ((9223372036854775807 : Int64) - len)), .second, .val (.int oo), .unset, .unset, .unset, .unset, .unset] [(.long ((9223372036854775807 : Int64) - len))])) _
          refine XS.iload X101.here hx rfl (hb hby at_69) rfl ?_
          show Steps p.tables e below (T101.setTop (mkF m 71 #[.val (.long q0), .second, .val (.long q2), .second, .val (.int p4), .val (.long len), .second, .val (.long ins), .second, .val (.int (p4 &&& (3 : Int32))), .val (.long ((9223372036854775807 : Int64) - len)), .second, .val (.int oo), .unset, .unset, .unset, .unset, .unset] [(.int oo), (.long ((9223372036854775807 : Int64) - len))])) _
          refine XS.i2l X101.here hx rfl (hb hby at_71) rfl ?_
          show Steps p.tables e below (T101.setTop (mkF m 72 #[.val (.long q0), .second, .val (.long q2), .second, .val (.int p4), .val (.long len), .second, .val (.long ins), .second, .val (.int (p4 &&& (3 : Int32))), .val (.long ((9223372036854775807 : Int64) - len)), .second, .val (.int oo), .unset, .unset, .unset, .unset, .unset] [(.long (oo.toInt64)), (.long ((9223372036854775807 : Int64) - len))])) _
          refine XS.ladd X101.here hx rfl (hb hby at_72) rfl ?_
          show Steps p.tables e below (T101.setTop (mkF m 73 #[.val (.long q0), .second, .val (.long q2), .second, .val (.int p4), .val (.long len), .second, .val (.long ins), .second, .val (.int (p4 &&& (3 : Int32))), .val (.long ((9223372036854775807 : Int64) - len)), .second, .val (.int oo), .unset, .unset, .unset, .unset, .unset] [(.long (((9223372036854775807 : Int64) - len) + (oo.toInt64)))])) _
          refine XS.lstore X101.here hx rfl (hb hby at_73) rfl (l' := #[.val (.long q0), .second, .val (.long q2), .second, .val (.int p4), .val (.long len), .second, .val (.long (((9223372036854775807 : Int64) - len) + (oo.toInt64))), .second, .val (.int (p4 &&& (3 : Int32))), .val (.long ((9223372036854775807 : Int64) - len)), .second, .val (.int oo), .unset, .unset, .unset, .unset, .unset]) rfl ?_
          exact kt
        obtain ⟨ib, h_ib⟩ : ∃ z : Int64, z = (((9223372036854775807 : Int64) - len) + (oo.toInt64)) := ⟨_, rfl⟩
        rw [← h_ib]
        have hib : 0 ≤ ib.toInt := by rw [h_ib]; exact own_inst hlen hoo (fun _ => hc57)
        obtain ⟨T113, h113, X113, e113, E113, A113, D113, -, st113⟩ := newO X101 hx hZ hown (hw _ (List.mem_of_getElem? (i := 5) rfl)) (hw _ (List.mem_of_getElem? (i := 6) rfl)) (hw _ (List.mem_of_getElem? (i := 7) rfl)) e101 (g := (mkF m 102 #[.val (.long q0), .second, .val (.long q2), .second, .val (.int p4), .val (.long len), .second, .val (.long ib), .second, .val (.int (p4 &&& (3 : Int32))), .val (.long ((9223372036854775807 : Int64) - len)), .second, .val (.int oo), .unset, .unset, .unset, .unset, .unset] [])) rfl (hb hby at_102) (by decide) (by decide)
        obtain ⟨b113, g113⟩ : ∃ z, z = h0.size := ⟨_, rfl⟩
        have g_b113 : n0 ≤ b113 := Nat.le_trans Z0 (Nat.le_of_eq g113.symm)
        have sz_b113 : h0.size ≤ b113 := Nat.le_trans K0.1 (Nat.le_of_eq g113.symm)
        rw [← g113] at A113 D113 st113
        have K113 : Keep h0 h113 [] := K0.ext E113
        have F_arrived_b113 : Fld Z h113 b113 "com/example/tenrec/tenrec/policy/MeasuredWindow" "arrived" "Ljava/util/ArrayDeque;" .null := D113 (Or.inr (hw _ (List.mem_of_getElem? (i := 32) rfl))) (ty := (.object "java/util/ArrayDeque")) (by decide)
        have F_length_b113 : Fld Z h113 b113 "com/example/tenrec/tenrec/policy/MeasuredWindow" "length" "J" (.long (0 : Int64)) := D113 (Or.inr (hw _ (List.mem_of_getElem? (i := 34) rfl))) (ty := .long) (by decide)
        have z115 : n0 ≤ h113.size := (Nat.le_trans Z0 E113.1)
        obtain ⟨v114, T114, L114, X114, q114, st114⟩ := own_callI X113 hx hZ (y := (⟨"com/example/tenrec/tenrec/policy/MeasuredWindow", "<init>", "(J)V"⟩ : MethodName)) rfl hown (hw _ (List.mem_of_getElem? (i := 8) rfl)) (hw _ (List.mem_of_getElem? (i := 9) rfl)) (hw _ (List.mem_of_getElem? (i := 7) rfl)) (hw _ (List.mem_of_getElem? (i := 10) rfl)) (by decide) (a := b113) (hM := (rm2 l Z a0 hw [] b113 len h113 n0 z115 g_b113 A113 F_arrived_b113 F_length_b113)) (by decide) (by decide) (by decide) (by decide) e113 (argsL := [(.long len)]) (rest := [(.ref b113)]) (Ls := #[.val (.long q0), .second, .val (.long q2), .second, .val (.int p4), .val (.long len), .second, .val (.long ib), .second, .val (.int (p4 &&& (3 : Int32))), .val (.long ((9223372036854775807 : Int64) - len)), .second, .val (.int oo), .unset, .unset, .unset, .unset, .unset]) (by rw [hml]; rfl) (lenOf pd__J_V rfl) (W := 1) (Nat.le_of_eq rfl) (hb hby at_108)
        obtain ⟨rfl, N114q, K114q, E114q, F114q⟩ := q114
        have N114 := Fr.app N101 N114q
        have K114 : Keep h0 T114.heap [] := K113.trans K114q (allS (Or.inr sz_b113) all0)
        obtain ⟨T116, h116, X116, e116, E116, A116, D116, -, st116⟩ := newO X114 hx hZ hown (hw _ (List.mem_of_getElem? (i := 35) rfl)) (hw _ (List.mem_of_getElem? (i := 36) rfl)) (hw _ (List.mem_of_getElem? (i := 37) rfl)) rfl (g := (mkF m 113 #[.val (.long q0), .second, .val (.long q2), .second, .val (.int p4), .val (.long len), .second, .val (.long ib), .second, .val (.int (p4 &&& (3 : Int32))), .val (.ref b113), .unset, .val (.int oo), .unset, .unset, .unset, .unset, .unset] [])) rfl (hb hby at_113) (by decide) (by decide)
        obtain ⟨b116, g116⟩ : ∃ z, z = T114.heap.size := ⟨_, rfl⟩
        have z117 : n0 ≤ T114.heap.size := (Nat.le_trans z115 K114q.1)
        have g_b116 : n0 ≤ b116 := Nat.le_trans z117 (Nat.le_of_eq g116.symm)
        have sz_b116 : h0.size ≤ b116 := Nat.le_trans K114.1 (Nat.le_of_eq g116.symm)
        rw [← g116] at A116 D116 st116
        have K116 : Keep h0 h116 [] := K114.ext E116
        have F_instant_b116 : Fld Z h116 b116 "com/example/tenrec/tenrec/policy/MeasuredWindow$Interval" "instant" "J" (.long (0 : Int64)) := D116 (Or.inr (hw _ (List.mem_of_getElem? (i := 43) rfl))) (ty := .long) (by decide)
        have F_arrivals_b116 : Fld Z h116 b116 "com/example/tenrec/tenrec/policy/MeasuredWindow$Interval" "arrivals" "I" (.int (0 : Int32)) := D116 (Or.inr (hw _ (List.mem_of_getElem? (i := 45) rfl))) (ty := .int) (by decide)
        have z119 : n0 ≤ h116.size := (Nat.le_trans z117 E116.1)
        obtain ⟨v118, T118, L118, X118, q118, st118⟩ := own_callI X116 hx hZ (y := (⟨"com/example/tenrec/tenrec/policy/MeasuredWindow$Interval", "<init>", "(JI)V"⟩ : MethodName)) rfl hown (hw _ (List.mem_of_getElem? (i := 38) rfl)) (hw _ (List.mem_of_getElem? (i := 39) rfl)) (hw _ (List.mem_of_getElem? (i := 37) rfl)) (hw _ (List.mem_of_getElem? (i := 40) rfl)) (by decide) (a := b116) (hM := (rm6 l Z a0 hw [] b116 ib ((1 : Int32) + (((p4.toUInt32 >>> ((8 : Int32) &&& 31).toUInt32).toInt32) &&& (255 : Int32))) h116 n0 z119 g_b116 A116 F_instant_b116 F_arrivals_b116)) (by decide) (by decide) (by decide) (by decide) e116 (argsL := [(.long ib), (.int ((1 : Int32) + (((p4.toUInt32 >>> ((8 : Int32) &&& 31).toUInt32).toInt32) &&& (255 : Int32))))]) (rest := [(.ref b116)]) (Ls := #[.val (.long q0), .second, .val (.long q2), .second, .val (.int p4), .val (.long len), .second, .val (.long ib), .second, .val (.int (p4 &&& (3 : Int32))), .val (.ref b113), .unset, .val (.int oo), .unset, .unset, .unset, .unset, .unset]) (by rw [hml]; rfl) (lenOf pd__JI_V rfl) (W := 1) (Nat.le_of_eq rfl) (hb hby at_130)
        obtain ⟨rfl, N118q, K118q, E118q, F118q⟩ := q118
        have N118 := Fr.app N114 N118q
        have K118 : Keep h0 T118.heap [] := K116.trans K118q (allS (Or.inr sz_b116) all0)
        have f121 := ((F114q.ext E116).keep K118q (ninS (Nat.ne_of_lt (Nat.lt_of_lt_of_le (Nat.lt_of_lt_of_le A113.lt K114q.1) (Nat.le_of_eq g116.symm))) nin0))
        have z122 : n0 ≤ T118.heap.size := (Nat.le_trans z119 K118q.1)
        have f123 := ((E114q.ext E116).keep K118q)
        obtain ⟨v120, T120, L120, X120, q120, st120⟩ := own_callV X118 hx hZ (y := (⟨"com/example/tenrec/tenrec/policy/MeasuredWindow", "leavesAt", "(Lcom/example/tenrec/tenrec/policy/MeasuredWindow$Interval;)J"⟩ : MethodName)) (z := (⟨"com/example/tenrec/tenrec/policy/MeasuredWindow", "leavesAt", "(Lcom/example/tenrec/tenrec/policy/MeasuredWindow$Interval;)J"⟩ : MethodName)) hown (hw _ (List.mem_of_getElem? (i := 46) rfl)) (hw _ (List.mem_of_getElem? (i := 47) rfl)) (notFace_of_selects (args := #[]) (mvT hZ (hw _ (List.mem_of_getElem? (i := 49) rfl)))) (hw _ (List.mem_of_getElem? (i := 49) rfl)) (hw _ (List.mem_of_getElem? (i := 48) rfl)) (hw _ (List.mem_of_getElem? (i := 7) rfl)) (hw _ (List.mem_of_getElem? (i := 50) rfl)) (by decide) f123 (hM := (rm7 l Z a0 hw [] b113 b116 ib len T118.heap n0 z122 F118q f121)) (by decide) (by decide) (by decide) (by decide) rfl (argsL := [(.ref b116)]) (rest := []) (Ls := #[.val (.long q0), .second, .val (.long q2), .second, .val (.int p4), .val (.long len), .second, .val (.long ib), .second, .val (.int (p4 &&& (3 : Int32))), .val (.ref b113), .val (.ref b116), .val (.int oo), .unset, .unset, .unset, .unset, .unset]) (by rw [hml]; rfl) (lenOf pd__Lcom_example_tenrec_tenrec_policy_MeasuredWindow_Interval__J rfl) (W := 0) (Nat.le_of_eq rfl) (hb hby at_139)
        obtain ⟨rfl, N120q, e120⟩ := q120
        have N120 := Fr.app N118 N120q
        refine Gl.pre (S' := T120.setTop (mkF m 155 #[.val (.long q0), .second, .val (.long q2), .second, .val (.int p4), .val (.long len), .second, .val (.long ib), .second, .val (.int (p4 &&& (3 : Int32))), .val (.ref b113), .val (.ref b116), .val (.long (if ((9223372036854775807 : Int64) - len) < ib then (9223372036854775807 : Int64) else (ib + len))), .second, .val (.long (ib + len)), .second, .unset, .unset] [(.int (lcmpW (ib + len) (0 : Int64)))])) (fun t kt => ?_) ?_
        · show Steps p.tables e below (T101.setTop (mkF m 75 #[.val (.long q0), .second, .val (.long q2), .second, .val (.int p4), .val (.long len), .second, .val (.long ib), .second, .val (.int (p4 &&& (3 : Int32))), .val (.long ((9223372036854775807 : Int64) - len)), .second, .val (.int oo), .unset, .unset, .unset, .unset, .unset] [])) _
          refine XS.goto X101.here hx rfl (pc0 := 75) (pc' := 102) rfl (hb hby at_75) (by decide) (by decide) ?_
          show Steps p.tables e below (T101.setTop (mkF m 102 #[.val (.long q0), .second, .val (.long q2), .second, .val (.int p4), .val (.long len), .second, .val (.long ib), .second, .val (.int (p4 &&& (3 : Int32))), .val (.long ((9223372036854775807 : Int64) - len)), .second, .val (.int oo), .unset, .unset, .unset, .unset, .unset] [])) _
          refine st113 _ ?_
          show Steps p.tables e below (T113.setTop (mkF m 105 #[.val (.long q0), .second, .val (.long q2), .second, .val (.int p4), .val (.long len), .second, .val (.long ib), .second, .val (.int (p4 &&& (3 : Int32))), .val (.long ((9223372036854775807 : Int64) - len)), .second, .val (.int oo), .unset, .unset, .unset, .unset, .unset] [(.ref b113)])) _
          refine XS.dup X113.here hx rfl (hb hby at_105) rfl rfl ?_
          show Steps p.tables e below (T113.setTop (mkF m 106 #[.val (.long q0), .second, .val (.long q2), .second, .val (.int p4), .val (.long len), .second, .val (.long ib), .second, .val (.int (p4 &&& (3 : Int32))), .val (.long ((9223372036854775807 : Int64) - len)), .second, .val (.int oo), .unset, .unset, .unset, .unset, .unset] [(.ref b113), (.ref b113)])) _
          refine XS.lload X113.here hx rfl (hb hby at_106) rfl ?_
          show Steps p.tables e below (T113.setTop (mkF m 108 #[.val (.long q0), .second, .val (.long q2), .second, .val (.int p4), .val (.long len), .second, .val (.long ib), .second, .val (.int (p4 &&& (3 : Int32))), .val (.long ((9223372036854775807 : Int64) - len)), .second, .val (.int oo), .unset, .unset, .unset, .unset, .unset] [(.long len), (.ref b113), (.ref b113)])) _
          refine st114 _ ?_
          show Steps p.tables e below (T114.setTop (mkF m 111 #[.val (.long q0), .second, .val (.long q2), .second, .val (.int p4), .val (.long len), .second, .val (.long ib), .second, .val (.int (p4 &&& (3 : Int32))), .val (.long ((9223372036854775807 : Int64) - len)), .second, .val (.int oo), .unset, .unset, .unset, .unset, .unset] [(.ref b113)])) _
          refine XS.astore X114.here hx rfl (hb hby at_111) rfl rfl (l' := #[.val (.long q0), .second, .val (.long q2), .second, .val (.int p4), .val (.long len), .second, .val (.long ib), .second, .val (.int (p4 &&& (3 : Int32))), .val (.ref b113), .unset, .val (.int oo), .unset, .unset, .unset, .unset, .unset]) rfl ?_
          show Steps p.tables e below (T114.setTop (mkF m 113 #[.val (.long q0), .second, .val (.long q2), .second, .val (.int p4), .val (.long len), .second, .val (.long ib), .second, .val (.int (p4 &&& (3 : Int32))), .val (.ref b113), .unset, .val (.int oo), .unset, .unset, .unset, .unset, .unset] [])) _
          refine st116 _ ?_
          show Steps p.tables e below (T116.setTop (mkF m 116 #[.val (.long q0), .second, .val (.long q2), .second, .val (.int p4), .val (.long len), .second, .val (.long ib), .second, .val (.int (p4 &&& (3 : Int32))), .val (.ref b113), .unset, .val (.int oo), .unset, .unset, .unset, .unset, .unset] [(.ref b116)])) _
          refine XS.dup X116.here hx rfl (hb hby at_116) rfl rfl ?_
          show Steps p.tables e below (T116.setTop (mkF m 117 #[.val (.long q0), .second, .val (.long q2), .second, .val (.int p4), .val (.long len), .second, .val (.long ib), .second, .val (.int (p4 &&& (3 : Int32))), .val (.ref b113), .unset, .val (.int oo), .unset, .unset, .unset, .unset, .unset] [(.ref b116), (.ref b116)])) _
          refine XS.lload X116.here hx rfl (hb hby at_117) rfl ?_
          show Steps p.tables e below (T116.setTop (mkF m 119 #[.val (.long q0), .second, .val (.long q2), .second, .val (.int p4), .val (.long len), .second, .val (.long ib), .second, .val (.int (p4 &&& (3 : Int32))), .val (.ref b113), .unset, .val (.int oo), .unset, .unset, .unset, .unset, .unset] [(.long ib), (.ref b116), (.ref b116)])) _
          refine XS.iconst X116.here hx rfl (hb hby at_119) ?_
          show Steps p.tables e below (T116.setTop (mkF m 120 #[.val (.long q0), .second, .val (.long q2), .second, .val (.int p4), .val (.long len), .second, .val (.long ib), .second, .val (.int (p4 &&& (3 : Int32))), .val (.ref b113), .unset, .val (.int oo), .unset, .unset, .unset, .unset, .unset] [(.int (1 : Int32)), (.long ib), (.ref b116), (.ref b116)])) _
          refine XS.iload X116.here hx rfl (hb hby at_120) rfl ?_
          show Steps p.tables e below (T116.setTop (mkF m 122 #[.val (.long q0), .second, .val (.long q2), .second, .val (.int p4), .val (.long len), .second, .val (.long ib), .second, .val (.int (p4 &&& (3 : Int32))), .val (.ref b113), .unset, .val (.int oo), .unset, .unset, .unset, .unset, .unset] [(.int p4), (.int (1 : Int32)), (.long ib), (.ref b116), (.ref b116)])) _
          refine XS.bipush X116.here hx rfl (hb hby at_122) ?_
          show Steps p.tables e below (T116.setTop (mkF m 124 #[.val (.long q0), .second, .val (.long q2), .second, .val (.int p4), .val (.long len), .second, .val (.long ib), .second, .val (.int (p4 &&& (3 : Int32))), .val (.ref b113), .unset, .val (.int oo), .unset, .unset, .unset, .unset, .unset] [(.int (8 : Int32)), (.int p4), (.int (1 : Int32)), (.long ib), (.ref b116), (.ref b116)])) _
          refine XS.iushr X116.here hx rfl (hb hby at_124) rfl ?_
          show Steps p.tables e below (T116.setTop (mkF m 125 #[.val (.long q0), .second, .val (.long q2), .second, .val (.int p4), .val (.long len), .second, .val (.long ib), .second, .val (.int (p4 &&& (3 : Int32))), .val (.ref b113), .unset, .val (.int oo), .unset, .unset, .unset, .unset, .unset] [(.int ((p4.toUInt32 >>> ((8 : Int32) &&& 31).toUInt32).toInt32)), (.int (1 : Int32)), (.long ib), (.ref b116), (.ref b116)])) _
          refine XS.sipush X116.here hx rfl (hb hby at_125) ?_
          show Steps p.tables e below (T116.setTop (mkF m 128 #[.val (.long q0), .second, .val (.long q2), .second, .val (.int p4), .val (.long len), .second, .val (.long ib), .second, .val (.int (p4 &&& (3 : Int32))), .val (.ref b113), .unset, .val (.int oo), .unset, .unset, .unset, .unset, .unset] [(.int (255 : Int32)), (.int ((p4.toUInt32 >>> ((8 : Int32) &&& 31).toUInt32).toInt32)), (.int (1 : Int32)), (.long ib), (.ref b116), (.ref b116)])) _
          refine XS.iand X116.here hx rfl (hb hby at_128) rfl ?_
          show Steps p.tables e below (T116.setTop (mkF m 129 #[.val (.long q0), .second, .val (.long q2), .second, .val (.int p4), .val (.long len), .second, .val (.long ib), .second, .val (.int (p4 &&& (3 : Int32))), .val (.ref b113), .unset, .val (.int oo), .unset, .unset, .unset, .unset, .unset] [(.int (((p4.toUInt32 >>> ((8 : Int32) &&& 31).toUInt32).toInt32) &&& (255 : Int32))), (.int (1 : Int32)), (.long ib), (.ref b116), (.ref b116)])) _
          refine XS.iadd X116.here hx rfl (hb hby at_129) rfl ?_
          show Steps p.tables e below (T116.setTop (mkF m 130 #[.val (.long q0), .second, .val (.long q2), .second, .val (.int p4), .val (.long len), .second, .val (.long ib), .second, .val (.int (p4 &&& (3 : Int32))), .val (.ref b113), .unset, .val (.int oo), .unset, .unset, .unset, .unset, .unset] [(.int ((1 : Int32) + (((p4.toUInt32 >>> ((8 : Int32) &&& 31).toUInt32).toInt32) &&& (255 : Int32)))), (.long ib), (.ref b116), (.ref b116)])) _
          refine st118 _ ?_
          show Steps p.tables e below (T118.setTop (mkF m 133 #[.val (.long q0), .second, .val (.long q2), .second, .val (.int p4), .val (.long len), .second, .val (.long ib), .second, .val (.int (p4 &&& (3 : Int32))), .val (.ref b113), .unset, .val (.int oo), .unset, .unset, .unset, .unset, .unset] [(.ref b116)])) _
          refine XS.astore X118.here hx rfl (hb hby at_133) rfl rfl (l' := #[.val (.long q0), .second, .val (.long q2), .second, .val (.int p4), .val (.long len), .second, .val (.long ib), .second, .val (.int (p4 &&& (3 : Int32))), .val (.ref b113), .val (.ref b116), .val (.int oo), .unset, .unset, .unset, .unset, .unset]) rfl ?_
          show Steps p.tables e below (T118.setTop (mkF m 135 #[.val (.long q0), .second, .val (.long q2), .second, .val (.int p4), .val (.long len), .second, .val (.long ib), .second, .val (.int (p4 &&& (3 : Int32))), .val (.ref b113), .val (.ref b116), .val (.int oo), .unset, .unset, .unset, .unset, .unset] [])) _
          refine XS.aload X118.here hx rfl (hb hby at_135) rfl rfl ?_
          show Steps p.tables e below (T118.setTop (mkF m 137 #[.val (.long q0), .second, .val (.long q2), .second, .val (.int p4), .val (.long len), .second, .val (.long ib), .second, .val (.int (p4 &&& (3 : Int32))), .val (.ref b113), .val (.ref b116), .val (.int oo), .unset, .unset, .unset, .unset, .unset] [(.ref b113)])) _
          refine XS.aload X118.here hx rfl (hb hby at_137) rfl rfl ?_
          show Steps p.tables e below (T118.setTop (mkF m 139 #[.val (.long q0), .second, .val (.long q2), .second, .val (.int p4), .val (.long len), .second, .val (.long ib), .second, .val (.int (p4 &&& (3 : Int32))), .val (.ref b113), .val (.ref b116), .val (.int oo), .unset, .unset, .unset, .unset, .unset] [(.ref b116), (.ref b113)])) _
          refine st120 _ ?_
          show Steps p.tables e below (T120.setTop (mkF m 142 #[.val (.long q0), .second, .val (.long q2), .second, .val (.int p4), .val (.long len), .second, .val (.long ib), .second, .val (.int (p4 &&& (3 : Int32))), .val (.ref b113), .val (.ref b116), .val (.int oo), .unset, .unset, .unset, .unset, .unset] [(.long (if ((9223372036854775807 : Int64) - len) < ib then (9223372036854775807 : Int64) else (ib + len)))])) _
          refine XS.lstore X120.here hx rfl (hb hby at_142) rfl (l' := #[.val (.long q0), .second, .val (.long q2), .second, .val (.int p4), .val (.long len), .second, .val (.long ib), .second, .val (.int (p4 &&& (3 : Int32))), .val (.ref b113), .val (.ref b116), .val (.long (if ((9223372036854775807 : Int64) - len) < ib then (9223372036854775807 : Int64) else (ib + len))), .second, .unset, .unset, .unset, .unset]) rfl ?_
          show Steps p.tables e below (T120.setTop (mkF m 144 #[.val (.long q0), .second, .val (.long q2), .second, .val (.int p4), .val (.long len), .second, .val (.long ib), .second, .val (.int (p4 &&& (3 : Int32))), .val (.ref b113), .val (.ref b116), .val (.long (if ((9223372036854775807 : Int64) - len) < ib then (9223372036854775807 : Int64) else (ib + len))), .second, .unset, .unset, .unset, .unset] [])) _
          refine XS.lload X120.here hx rfl (hb hby at_144) rfl ?_
          show Steps p.tables e below (T120.setTop (mkF m 146 #[.val (.long q0), .second, .val (.long q2), .second, .val (.int p4), .val (.long len), .second, .val (.long ib), .second, .val (.int (p4 &&& (3 : Int32))), .val (.ref b113), .val (.ref b116), .val (.long (if ((9223372036854775807 : Int64) - len) < ib then (9223372036854775807 : Int64) else (ib + len))), .second, .unset, .unset, .unset, .unset] [(.long ib)])) _
          refine XS.lload X120.here hx rfl (hb hby at_146) rfl ?_
          show Steps p.tables e below (T120.setTop (mkF m 148 #[.val (.long q0), .second, .val (.long q2), .second, .val (.int p4), .val (.long len), .second, .val (.long ib), .second, .val (.int (p4 &&& (3 : Int32))), .val (.ref b113), .val (.ref b116), .val (.long (if ((9223372036854775807 : Int64) - len) < ib then (9223372036854775807 : Int64) else (ib + len))), .second, .unset, .unset, .unset, .unset] [(.long len), (.long ib)])) _
          refine XS.ladd X120.here hx rfl (hb hby at_148) rfl ?_
          show Steps p.tables e below (T120.setTop (mkF m 149 #[.val (.long q0), .second, .val (.long q2), .second, .val (.int p4), .val (.long len), .second, .val (.long ib), .second, .val (.int (p4 &&& (3 : Int32))), .val (.ref b113), .val (.ref b116), .val (.long (if ((9223372036854775807 : Int64) - len) < ib then (9223372036854775807 : Int64) else (ib + len))), .second, .unset, .unset, .unset, .unset] [(.long (ib + len))])) _
          refine XS.lstore X120.here hx rfl (hb hby at_149) rfl (l' := #[.val (.long q0), .second, .val (.long q2), .second, .val (.int p4), .val (.long len), .second, .val (.long ib), .second, .val (.int (p4 &&& (3 : Int32))), .val (.ref b113), .val (.ref b116), .val (.long (if ((9223372036854775807 : Int64) - len) < ib then (9223372036854775807 : Int64) else (ib + len))), .second, .val (.long (ib + len)), .second, .unset, .unset]) rfl ?_
          show Steps p.tables e below (T120.setTop (mkF m 151 #[.val (.long q0), .second, .val (.long q2), .second, .val (.int p4), .val (.long len), .second, .val (.long ib), .second, .val (.int (p4 &&& (3 : Int32))), .val (.ref b113), .val (.ref b116), .val (.long (if ((9223372036854775807 : Int64) - len) < ib then (9223372036854775807 : Int64) else (ib + len))), .second, .val (.long (ib + len)), .second, .unset, .unset] [])) _
          refine XS.lload X120.here hx rfl (hb hby at_151) rfl ?_
          show Steps p.tables e below (T120.setTop (mkF m 153 #[.val (.long q0), .second, .val (.long q2), .second, .val (.int p4), .val (.long len), .second, .val (.long ib), .second, .val (.int (p4 &&& (3 : Int32))), .val (.ref b113), .val (.ref b116), .val (.long (if ((9223372036854775807 : Int64) - len) < ib then (9223372036854775807 : Int64) else (ib + len))), .second, .val (.long (ib + len)), .second, .unset, .unset] [(.long (ib + len))])) _
          refine XS.lconst X120.here hx rfl (hb hby at_153) ?_
          show Steps p.tables e below (T120.setTop (mkF m 154 #[.val (.long q0), .second, .val (.long q2), .second, .val (.int p4), .val (.long len), .second, .val (.long ib), .second, .val (.int (p4 &&& (3 : Int32))), .val (.ref b113), .val (.ref b116), .val (.long (if ((9223372036854775807 : Int64) - len) < ib then (9223372036854775807 : Int64) else (ib + len))), .second, .val (.long (ib + len)), .second, .unset, .unset] [(.long (0 : Int64)), (.long (ib + len))])) _
          refine XS.lcmp X120.here hx rfl (hb hby at_154) rfl ?_
          exact kt
        by_cases hc155 : (ib + len) < (0 : Int64)
        · refine Gl.fin X120 (v := some (.int (1 : Int32))) (fun h => by rw [Bd.returns] at h; cases h) Bd.notSynchronized ?_ e120 (by decide) (by decide) (fun fs hr => ?_)
          · exact ⟨rfl, N120⟩
          · show Steps p.tables e below (T120.setTop (mkF m 155 #[.val (.long q0), .second, .val (.long q2), .second, .val (.int p4), .val (.long len), .second, .val (.long ib), .second, .val (.int (p4 &&& (3 : Int32))), .val (.ref b113), .val (.ref b116), .val (.long (if ((9223372036854775807 : Int64) - len) < ib then (9223372036854775807 : Int64) else (ib + len))), .second, .val (.long (ib + len)), .second, .unset, .unset] [(.int (lcmpW (ib + len) (0 : Int64)))])) _
            refine XS.ifNo X120.here hx rfl (hb hby at_155) rfl (own_nf (l0_ge _ _) hc155) ?_
            show Steps p.tables e below (T120.setTop (mkF m 158 #[.val (.long q0), .second, .val (.long q2), .second, .val (.int p4), .val (.long len), .second, .val (.long ib), .second, .val (.int (p4 &&& (3 : Int32))), .val (.ref b113), .val (.ref b116), .val (.long (if ((9223372036854775807 : Int64) - len) < ib then (9223372036854775807 : Int64) else (ib + len))), .second, .val (.long (ib + len)), .second, .unset, .unset] [])) _
            refine X120.ldc2Long hx hown (mvT hZ (hw _ (List.mem_of_getElem? (i := 0) rfl))) (g := (mkF m 158 #[.val (.long q0), .second, .val (.long q2), .second, .val (.int p4), .val (.long len), .second, .val (.long ib), .second, .val (.int (p4 &&& (3 : Int32))), .val (.ref b113), .val (.ref b116), .val (.long (if ((9223372036854775807 : Int64) - len) < ib then (9223372036854775807 : Int64) else (ib + len))), .second, .val (.long (ib + len)), .second, .unset, .unset] [])) rfl (hb hby at_158) _ ?_
            show Steps p.tables e below (T120.setTop (mkF m 161 #[.val (.long q0), .second, .val (.long q2), .second, .val (.int p4), .val (.long len), .second, .val (.long ib), .second, .val (.int (p4 &&& (3 : Int32))), .val (.ref b113), .val (.ref b116), .val (.long (if ((9223372036854775807 : Int64) - len) < ib then (9223372036854775807 : Int64) else (ib + len))), .second, .val (.long (ib + len)), .second, .unset, .unset] [(.long (9223372036854775807 : Int64))])) _
            refine XS.goto X120.here hx rfl (pc0 := 161) (pc' := 166) rfl (hb hby at_161) (by decide) (by decide) ?_
            show Steps p.tables e below (T120.setTop (mkF m 166 #[.val (.long q0), .second, .val (.long q2), .second, .val (.int p4), .val (.long len), .second, .val (.long ib), .second, .val (.int (p4 &&& (3 : Int32))), .val (.ref b113), .val (.ref b116), .val (.long (if ((9223372036854775807 : Int64) - len) < ib then (9223372036854775807 : Int64) else (ib + len))), .second, .val (.long (ib + len)), .second, .unset, .unset] [(.long (9223372036854775807 : Int64))])) _
            refine XS.lstore X120.here hx rfl (hb hby at_166) rfl (l' := #[.val (.long q0), .second, .val (.long q2), .second, .val (.int p4), .val (.long len), .second, .val (.long ib), .second, .val (.int (p4 &&& (3 : Int32))), .val (.ref b113), .val (.ref b116), .val (.long (if ((9223372036854775807 : Int64) - len) < ib then (9223372036854775807 : Int64) else (ib + len))), .second, .val (.long (ib + len)), .second, .val (.long (9223372036854775807 : Int64)), .second]) rfl ?_
            show Steps p.tables e below (T120.setTop (mkF m 168 #[.val (.long q0), .second, .val (.long q2), .second, .val (.int p4), .val (.long len), .second, .val (.long ib), .second, .val (.int (p4 &&& (3 : Int32))), .val (.ref b113), .val (.ref b116), .val (.long (if ((9223372036854775807 : Int64) - len) < ib then (9223372036854775807 : Int64) else (ib + len))), .second, .val (.long (ib + len)), .second, .val (.long (9223372036854775807 : Int64)), .second] [])) _
            refine XS.lload X120.here hx rfl (hb hby at_168) rfl ?_
            show Steps p.tables e below (T120.setTop (mkF m 170 #[.val (.long q0), .second, .val (.long q2), .second, .val (.int p4), .val (.long len), .second, .val (.long ib), .second, .val (.int (p4 &&& (3 : Int32))), .val (.ref b113), .val (.ref b116), .val (.long (if ((9223372036854775807 : Int64) - len) < ib then (9223372036854775807 : Int64) else (ib + len))), .second, .val (.long (ib + len)), .second, .val (.long (9223372036854775807 : Int64)), .second] [(.long (if ((9223372036854775807 : Int64) - len) < ib then (9223372036854775807 : Int64) else (ib + len)))])) _
            refine XS.lload X120.here hx rfl (hb hby at_170) rfl ?_
            show Steps p.tables e below (T120.setTop (mkF m 172 #[.val (.long q0), .second, .val (.long q2), .second, .val (.int p4), .val (.long len), .second, .val (.long ib), .second, .val (.int (p4 &&& (3 : Int32))), .val (.ref b113), .val (.ref b116), .val (.long (if ((9223372036854775807 : Int64) - len) < ib then (9223372036854775807 : Int64) else (ib + len))), .second, .val (.long (ib + len)), .second, .val (.long (9223372036854775807 : Int64)), .second] [(.long (9223372036854775807 : Int64)), (.long (if ((9223372036854775807 : Int64) - len) < ib then (9223372036854775807 : Int64) else (ib + len)))])) _
            refine XS.lcmp X120.here hx rfl (hb hby at_172) rfl ?_
            show Steps p.tables e below (T120.setTop (mkF m 173 #[.val (.long q0), .second, .val (.long q2), .second, .val (.int p4), .val (.long len), .second, .val (.long ib), .second, .val (.int (p4 &&& (3 : Int32))), .val (.ref b113), .val (.ref b116), .val (.long (if ((9223372036854775807 : Int64) - len) < ib then (9223372036854775807 : Int64) else (ib + len))), .second, .val (.long (ib + len)), .second, .val (.long (9223372036854775807 : Int64)), .second] [(.int (lcmpW (if ((9223372036854775807 : Int64) - len) < ib then (9223372036854775807 : Int64) else (ib + len)) (9223372036854775807 : Int64)))])) _
            refine XS.ifNo X120.here hx rfl (hb hby at_173) rfl (own_nf (l0_ne _ _) (by simp [own_lv hib hlen, hc155])) ?_
            show Steps p.tables e below (T120.setTop (mkF m 176 #[.val (.long q0), .second, .val (.long q2), .second, .val (.int p4), .val (.long len), .second, .val (.long ib), .second, .val (.int (p4 &&& (3 : Int32))), .val (.ref b113), .val (.ref b116), .val (.long (if ((9223372036854775807 : Int64) - len) < ib then (9223372036854775807 : Int64) else (ib + len))), .second, .val (.long (ib + len)), .second, .val (.long (9223372036854775807 : Int64)), .second] [])) _
            refine XS.iconst X120.here hx rfl (hb hby at_176) ?_
            show Steps p.tables e below (T120.setTop (mkF m 177 #[.val (.long q0), .second, .val (.long q2), .second, .val (.int p4), .val (.long len), .second, .val (.long ib), .second, .val (.int (p4 &&& (3 : Int32))), .val (.ref b113), .val (.ref b116), .val (.long (if ((9223372036854775807 : Int64) - len) < ib then (9223372036854775807 : Int64) else (ib + len))), .second, .val (.long (ib + len)), .second, .val (.long (9223372036854775807 : Int64)), .second] [(.int (1 : Int32))])) _
            refine XS.goto X120.here hx rfl (pc0 := 177) (pc' := 181) rfl (hb hby at_177) (by decide) (by decide) ?_
            show Steps p.tables e below (T120.setTop (mkF m 181 #[.val (.long q0), .second, .val (.long q2), .second, .val (.int p4), .val (.long len), .second, .val (.long ib), .second, .val (.int (p4 &&& (3 : Int32))), .val (.ref b113), .val (.ref b116), .val (.long (if ((9223372036854775807 : Int64) - len) < ib then (9223372036854775807 : Int64) else (ib + len))), .second, .val (.long (ib + len)), .second, .val (.long (9223372036854775807 : Int64)), .second] [(.int (1 : Int32))])) _
            exact retN X120 hx (t := .boolean) Bd.returns (by simp) (hb hby at_181) hr
        · refine Gl.fin X120 (v := some (.int (1 : Int32))) (fun h => by rw [Bd.returns] at h; cases h) Bd.notSynchronized ?_ e120 (by decide) (by decide) (fun fs hr => ?_)
          · exact ⟨rfl, N120⟩
          · show Steps p.tables e below (T120.setTop (mkF m 155 #[.val (.long q0), .second, .val (.long q2), .second, .val (.int p4), .val (.long len), .second, .val (.long ib), .second, .val (.int (p4 &&& (3 : Int32))), .val (.ref b113), .val (.ref b116), .val (.long (if ((9223372036854775807 : Int64) - len) < ib then (9223372036854775807 : Int64) else (ib + len))), .second, .val (.long (ib + len)), .second, .unset, .unset] [(.int (lcmpW (ib + len) (0 : Int64)))])) _
            refine XS.ifYes X120.here hx rfl (pc0 := 155) (pc' := 164) rfl (hb hby at_155) rfl (own_nt (l0_ge _ _) hc155) (by decide) (by decide) ?_
            show Steps p.tables e below (T120.setTop (mkF m 164 #[.val (.long q0), .second, .val (.long q2), .second, .val (.int p4), .val (.long len), .second, .val (.long ib), .second, .val (.int (p4 &&& (3 : Int32))), .val (.ref b113), .val (.ref b116), .val (.long (if ((9223372036854775807 : Int64) - len) < ib then (9223372036854775807 : Int64) else (ib + len))), .second, .val (.long (ib + len)), .second, .unset, .unset] [])) _
            refine XS.lload X120.here hx rfl (hb hby at_164) rfl ?_
            show Steps p.tables e below (T120.setTop (mkF m 166 #[.val (.long q0), .second, .val (.long q2), .second, .val (.int p4), .val (.long len), .second, .val (.long ib), .second, .val (.int (p4 &&& (3 : Int32))), .val (.ref b113), .val (.ref b116), .val (.long (if ((9223372036854775807 : Int64) - len) < ib then (9223372036854775807 : Int64) else (ib + len))), .second, .val (.long (ib + len)), .second, .unset, .unset] [(.long (ib + len))])) _
            refine XS.lstore X120.here hx rfl (hb hby at_166) rfl (l' := #[.val (.long q0), .second, .val (.long q2), .second, .val (.int p4), .val (.long len), .second, .val (.long ib), .second, .val (.int (p4 &&& (3 : Int32))), .val (.ref b113), .val (.ref b116), .val (.long (if ((9223372036854775807 : Int64) - len) < ib then (9223372036854775807 : Int64) else (ib + len))), .second, .val (.long (ib + len)), .second, .val (.long (ib + len)), .second]) rfl ?_
            show Steps p.tables e below (T120.setTop (mkF m 168 #[.val (.long q0), .second, .val (.long q2), .second, .val (.int p4), .val (.long len), .second, .val (.long ib), .second, .val (.int (p4 &&& (3 : Int32))), .val (.ref b113), .val (.ref b116), .val (.long (if ((9223372036854775807 : Int64) - len) < ib then (9223372036854775807 : Int64) else (ib + len))), .second, .val (.long (ib + len)), .second, .val (.long (ib + len)), .second] [])) _
            refine XS.lload X120.here hx rfl (hb hby at_168) rfl ?_
            show Steps p.tables e below (T120.setTop (mkF m 170 #[.val (.long q0), .second, .val (.long q2), .second, .val (.int p4), .val (.long len), .second, .val (.long ib), .second, .val (.int (p4 &&& (3 : Int32))), .val (.ref b113), .val (.ref b116), .val (.long (if ((9223372036854775807 : Int64) - len) < ib then (9223372036854775807 : Int64) else (ib + len))), .second, .val (.long (ib + len)), .second, .val (.long (ib + len)), .second] [(.long (if ((9223372036854775807 : Int64) - len) < ib then (9223372036854775807 : Int64) else (ib + len)))])) _
            refine XS.lload X120.here hx rfl (hb hby at_170) rfl ?_
            show Steps p.tables e below (T120.setTop (mkF m 172 #[.val (.long q0), .second, .val (.long q2), .second, .val (.int p4), .val (.long len), .second, .val (.long ib), .second, .val (.int (p4 &&& (3 : Int32))), .val (.ref b113), .val (.ref b116), .val (.long (if ((9223372036854775807 : Int64) - len) < ib then (9223372036854775807 : Int64) else (ib + len))), .second, .val (.long (ib + len)), .second, .val (.long (ib + len)), .second] [(.long (ib + len)), (.long (if ((9223372036854775807 : Int64) - len) < ib then (9223372036854775807 : Int64) else (ib + len)))])) _
            refine XS.lcmp X120.here hx rfl (hb hby at_172) rfl ?_
            show Steps p.tables e below (T120.setTop (mkF m 173 #[.val (.long q0), .second, .val (.long q2), .second, .val (.int p4), .val (.long len), .second, .val (.long ib), .second, .val (.int (p4 &&& (3 : Int32))), .val (.ref b113), .val (.ref b116), .val (.long (if ((9223372036854775807 : Int64) - len) < ib then (9223372036854775807 : Int64) else (ib + len))), .second, .val (.long (ib + len)), .second, .val (.long (ib + len)), .second] [(.int (lcmpW (if ((9223372036854775807 : Int64) - len) < ib then (9223372036854775807 : Int64) else (ib + len)) (ib + len)))])) _
            refine XS.ifNo X120.here hx rfl (hb hby at_173) rfl (own_nf (l0_ne _ _) (by simp [own_lv hib hlen, hc155])) ?_
            show Steps p.tables e below (T120.setTop (mkF m 176 #[.val (.long q0), .second, .val (.long q2), .second, .val (.int p4), .val (.long len), .second, .val (.long ib), .second, .val (.int (p4 &&& (3 : Int32))), .val (.ref b113), .val (.ref b116), .val (.long (if ((9223372036854775807 : Int64) - len) < ib then (9223372036854775807 : Int64) else (ib + len))), .second, .val (.long (ib + len)), .second, .val (.long (ib + len)), .second] [])) _
            refine XS.iconst X120.here hx rfl (hb hby at_176) ?_
            show Steps p.tables e below (T120.setTop (mkF m 177 #[.val (.long q0), .second, .val (.long q2), .second, .val (.int p4), .val (.long len), .second, .val (.long ib), .second, .val (.int (p4 &&& (3 : Int32))), .val (.ref b113), .val (.ref b116), .val (.long (if ((9223372036854775807 : Int64) - len) < ib then (9223372036854775807 : Int64) else (ib + len))), .second, .val (.long (ib + len)), .second, .val (.long (ib + len)), .second] [(.int (1 : Int32))])) _
            refine XS.goto X120.here hx rfl (pc0 := 177) (pc' := 181) rfl (hb hby at_177) (by decide) (by decide) ?_
            show Steps p.tables e below (T120.setTop (mkF m 181 #[.val (.long q0), .second, .val (.long q2), .second, .val (.int p4), .val (.long len), .second, .val (.long ib), .second, .val (.int (p4 &&& (3 : Int32))), .val (.ref b113), .val (.ref b116), .val (.long (if ((9223372036854775807 : Int64) - len) < ib then (9223372036854775807 : Int64) else (ib + len))), .second, .val (.long (ib + len)), .second, .val (.long (ib + len)), .second] [(.int (1 : Int32))])) _
            exact retN X120 hx (t := .boolean) Bd.returns (by simp) (hb hby at_181) hr
    · refine Gl.pre (S' := T101.setTop (mkF m 75 #[.val (.long q0), .second, .val (.long q2), .second, .val (.int p4), .val (.long len), .second, .val (.long (((9223372036854775807 : Int64) - len) + (oo.toInt64))), .second, .val (.int (p4 &&& (3 : Int32))), .val (.long ((9223372036854775807 : Int64) - len)), .second, .val (.int oo), .unset, .unset, .unset, .unset, .unset] [])) (fun t kt => ?_) ?_
      · show Steps p.tables e below (T101.setTop (mkF m 50 #[.val (.long q0), .second, .val (.long q2), .second, .val (.int p4), .val (.long len), .second, .val (.long ins), .second, .val (.int (p4 &&& (3 : Int32))), .val (.long ((9223372036854775807 : Int64) - len)), .second, .val (.int oo), .unset, .unset, .unset, .unset, .unset] [(.int oo)])) _
        refine XS.ifYes X101.here hx rfl (pc0 := 50) (pc' := 67) rfl (hb hby at_50) rfl (own_nt (i0_ge _) hc50) (by decide) (by decide) ?_
        show Steps p.tables e below (T101.setTop (mkF m 67 #[.val (.long q0), .second, .val (.long q2), .second, .val (.int p4), .val (.long len), .second, .val (.long ins), .second, .val (.int (p4 &&& (3 : Int32))), .val (.long ((9223372036854775807 : Int64) - len)), .second, .val (.int oo), .unset, .unset, .unset, .unset, .unset] [])) _
        refine XS.lload X101.here hx rfl (hb hby at_67) rfl ?_
        show Steps p.tables e below (T101.setTop (mkF m 69 #[.val (.long q0), .second, .val (.long q2), .second, .val (.int p4), .val (.long len), .second, .val (.long ins), .second, .val (.int (p4 &&& (3 : Int32))), .val (.long ((9223372036854775807 : Int64) - len)), .second, .val (.int oo), .unset, .unset, .unset, .unset, .unset] [(.long ((9223372036854775807 : Int64) - len))])) _
        refine XS.iload X101.here hx rfl (hb hby at_69) rfl ?_
        show Steps p.tables e below (T101.setTop (mkF m 71 #[.val (.long q0), .second, .val (.long q2), .second, .val (.int p4), .val (.long len), .second, .val (.long ins), .second, .val (.int (p4 &&& (3 : Int32))), .val (.long ((9223372036854775807 : Int64) - len)), .second, .val (.int oo), .unset, .unset, .unset, .unset, .unset] [(.int oo), (.long ((9223372036854775807 : Int64) - len))])) _
        refine XS.i2l X101.here hx rfl (hb hby at_71) rfl ?_
        show Steps p.tables e below (T101.setTop (mkF m 72 #[.val (.long q0), .second, .val (.long q2), .second, .val (.int p4), .val (.long len), .second, .val (.long ins), .second, .val (.int (p4 &&& (3 : Int32))), .val (.long ((9223372036854775807 : Int64) - len)), .second, .val (.int oo), .unset, .unset, .unset, .unset, .unset] [(.long (oo.toInt64)), (.long ((9223372036854775807 : Int64) - len))])) _
        refine XS.ladd X101.here hx rfl (hb hby at_72) rfl ?_
        show Steps p.tables e below (T101.setTop (mkF m 73 #[.val (.long q0), .second, .val (.long q2), .second, .val (.int p4), .val (.long len), .second, .val (.long ins), .second, .val (.int (p4 &&& (3 : Int32))), .val (.long ((9223372036854775807 : Int64) - len)), .second, .val (.int oo), .unset, .unset, .unset, .unset, .unset] [(.long (((9223372036854775807 : Int64) - len) + (oo.toInt64)))])) _
        refine XS.lstore X101.here hx rfl (hb hby at_73) rfl (l' := #[.val (.long q0), .second, .val (.long q2), .second, .val (.int p4), .val (.long len), .second, .val (.long (((9223372036854775807 : Int64) - len) + (oo.toInt64))), .second, .val (.int (p4 &&& (3 : Int32))), .val (.long ((9223372036854775807 : Int64) - len)), .second, .val (.int oo), .unset, .unset, .unset, .unset, .unset]) rfl ?_
        exact kt
      obtain ⟨ib, h_ib⟩ : ∃ z : Int64, z = (((9223372036854775807 : Int64) - len) + (oo.toInt64)) := ⟨_, rfl⟩
      rw [← h_ib]
      have hib : 0 ≤ ib.toInt := by rw [h_ib]; exact own_inst hlen hoo (fun q => absurd (Int32.lt_iff_toInt_lt.mpr (by rw [q]; decide)) hc50)
      obtain ⟨T124, h124, X124, e124, E124, A124, D124, -, st124⟩ := newO X101 hx hZ hown (hw _ (List.mem_of_getElem? (i := 5) rfl)) (hw _ (List.mem_of_getElem? (i := 6) rfl)) (hw _ (List.mem_of_getElem? (i := 7) rfl)) e101 (g := (mkF m 102 #[.val (.long q0), .second, .val (.long q2), .second, .val (.int p4), .val (.long len), .second, .val (.long ib), .second, .val (.int (p4 &&& (3 : Int32))), .val (.long ((9223372036854775807 : Int64) - len)), .second, .val (.int oo), .unset, .unset, .unset, .unset, .unset] [])) rfl (hb hby at_102) (by decide) (by decide)
      obtain ⟨b124, g124⟩ : ∃ z, z = h0.size := ⟨_, rfl⟩
      have g_b124 : n0 ≤ b124 := Nat.le_trans Z0 (Nat.le_of_eq g124.symm)
      have sz_b124 : h0.size ≤ b124 := Nat.le_trans K0.1 (Nat.le_of_eq g124.symm)
      rw [← g124] at A124 D124 st124
      have K124 : Keep h0 h124 [] := K0.ext E124
      have F_arrived_b124 : Fld Z h124 b124 "com/example/tenrec/tenrec/policy/MeasuredWindow" "arrived" "Ljava/util/ArrayDeque;" .null := D124 (Or.inr (hw _ (List.mem_of_getElem? (i := 32) rfl))) (ty := (.object "java/util/ArrayDeque")) (by decide)
      have F_length_b124 : Fld Z h124 b124 "com/example/tenrec/tenrec/policy/MeasuredWindow" "length" "J" (.long (0 : Int64)) := D124 (Or.inr (hw _ (List.mem_of_getElem? (i := 34) rfl))) (ty := .long) (by decide)
      have z126 : n0 ≤ h124.size := (Nat.le_trans Z0 E124.1)
      obtain ⟨v125, T125, L125, X125, q125, st125⟩ := own_callI X124 hx hZ (y := (⟨"com/example/tenrec/tenrec/policy/MeasuredWindow", "<init>", "(J)V"⟩ : MethodName)) rfl hown (hw _ (List.mem_of_getElem? (i := 8) rfl)) (hw _ (List.mem_of_getElem? (i := 9) rfl)) (hw _ (List.mem_of_getElem? (i := 7) rfl)) (hw _ (List.mem_of_getElem? (i := 10) rfl)) (by decide) (a := b124) (hM := (rm2 l Z a0 hw [] b124 len h124 n0 z126 g_b124 A124 F_arrived_b124 F_length_b124)) (by decide) (by decide) (by decide) (by decide) e124 (argsL := [(.long len)]) (rest := [(.ref b124)]) (Ls := #[.val (.long q0), .second, .val (.long q2), .second, .val (.int p4), .val (.long len), .second, .val (.long ib), .second, .val (.int (p4 &&& (3 : Int32))), .val (.long ((9223372036854775807 : Int64) - len)), .second, .val (.int oo), .unset, .unset, .unset, .unset, .unset]) (by rw [hml]; rfl) (lenOf pd__J_V rfl) (W := 1) (Nat.le_of_eq rfl) (hb hby at_108)
      obtain ⟨rfl, N125q, K125q, E125q, F125q⟩ := q125
      have N125 := Fr.app N101 N125q
      have K125 : Keep h0 T125.heap [] := K124.trans K125q (allS (Or.inr sz_b124) all0)
      obtain ⟨T127, h127, X127, e127, E127, A127, D127, -, st127⟩ := newO X125 hx hZ hown (hw _ (List.mem_of_getElem? (i := 35) rfl)) (hw _ (List.mem_of_getElem? (i := 36) rfl)) (hw _ (List.mem_of_getElem? (i := 37) rfl)) rfl (g := (mkF m 113 #[.val (.long q0), .second, .val (.long q2), .second, .val (.int p4), .val (.long len), .second, .val (.long ib), .second, .val (.int (p4 &&& (3 : Int32))), .val (.ref b124), .unset, .val (.int oo), .unset, .unset, .unset, .unset, .unset] [])) rfl (hb hby at_113) (by decide) (by decide)
      obtain ⟨b127, g127⟩ : ∃ z, z = T125.heap.size := ⟨_, rfl⟩
      have z128 : n0 ≤ T125.heap.size := (Nat.le_trans z126 K125q.1)
      have g_b127 : n0 ≤ b127 := Nat.le_trans z128 (Nat.le_of_eq g127.symm)
      have sz_b127 : h0.size ≤ b127 := Nat.le_trans K125.1 (Nat.le_of_eq g127.symm)
      rw [← g127] at A127 D127 st127
      have K127 : Keep h0 h127 [] := K125.ext E127
      have F_instant_b127 : Fld Z h127 b127 "com/example/tenrec/tenrec/policy/MeasuredWindow$Interval" "instant" "J" (.long (0 : Int64)) := D127 (Or.inr (hw _ (List.mem_of_getElem? (i := 43) rfl))) (ty := .long) (by decide)
      have F_arrivals_b127 : Fld Z h127 b127 "com/example/tenrec/tenrec/policy/MeasuredWindow$Interval" "arrivals" "I" (.int (0 : Int32)) := D127 (Or.inr (hw _ (List.mem_of_getElem? (i := 45) rfl))) (ty := .int) (by decide)
      have z130 : n0 ≤ h127.size := (Nat.le_trans z128 E127.1)
      obtain ⟨v129, T129, L129, X129, q129, st129⟩ := own_callI X127 hx hZ (y := (⟨"com/example/tenrec/tenrec/policy/MeasuredWindow$Interval", "<init>", "(JI)V"⟩ : MethodName)) rfl hown (hw _ (List.mem_of_getElem? (i := 38) rfl)) (hw _ (List.mem_of_getElem? (i := 39) rfl)) (hw _ (List.mem_of_getElem? (i := 37) rfl)) (hw _ (List.mem_of_getElem? (i := 40) rfl)) (by decide) (a := b127) (hM := (rm6 l Z a0 hw [] b127 ib ((1 : Int32) + (((p4.toUInt32 >>> ((8 : Int32) &&& 31).toUInt32).toInt32) &&& (255 : Int32))) h127 n0 z130 g_b127 A127 F_instant_b127 F_arrivals_b127)) (by decide) (by decide) (by decide) (by decide) e127 (argsL := [(.long ib), (.int ((1 : Int32) + (((p4.toUInt32 >>> ((8 : Int32) &&& 31).toUInt32).toInt32) &&& (255 : Int32))))]) (rest := [(.ref b127)]) (Ls := #[.val (.long q0), .second, .val (.long q2), .second, .val (.int p4), .val (.long len), .second, .val (.long ib), .second, .val (.int (p4 &&& (3 : Int32))), .val (.ref b124), .unset, .val (.int oo), .unset, .unset, .unset, .unset, .unset]) (by rw [hml]; rfl) (lenOf pd__JI_V rfl) (W := 1) (Nat.le_of_eq rfl) (hb hby at_130)
      obtain ⟨rfl, N129q, K129q, E129q, F129q⟩ := q129
      have N129 := Fr.app N125 N129q
      have K129 : Keep h0 T129.heap [] := K127.trans K129q (allS (Or.inr sz_b127) all0)
      have f132 := ((F125q.ext E127).keep K129q (ninS (Nat.ne_of_lt (Nat.lt_of_lt_of_le (Nat.lt_of_lt_of_le A124.lt K125q.1) (Nat.le_of_eq g127.symm))) nin0))
      have z133 : n0 ≤ T129.heap.size := (Nat.le_trans z130 K129q.1)
      have f134 := ((E125q.ext E127).keep K129q)
      obtain ⟨v131, T131, L131, X131, q131, st131⟩ := own_callV X129 hx hZ (y := (⟨"com/example/tenrec/tenrec/policy/MeasuredWindow", "leavesAt", "(Lcom/example/tenrec/tenrec/policy/MeasuredWindow$Interval;)J"⟩ : MethodName)) (z := (⟨"com/example/tenrec/tenrec/policy/MeasuredWindow", "leavesAt", "(Lcom/example/tenrec/tenrec/policy/MeasuredWindow$Interval;)J"⟩ : MethodName)) hown (hw _ (List.mem_of_getElem? (i := 46) rfl)) (hw _ (List.mem_of_getElem? (i := 47) rfl)) (notFace_of_selects (args := #[]) (mvT hZ (hw _ (List.mem_of_getElem? (i := 49) rfl)))) (hw _ (List.mem_of_getElem? (i := 49) rfl)) (hw _ (List.mem_of_getElem? (i := 48) rfl)) (hw _ (List.mem_of_getElem? (i := 7) rfl)) (hw _ (List.mem_of_getElem? (i := 50) rfl)) (by decide) f134 (hM := (rm7 l Z a0 hw [] b124 b127 ib len T129.heap n0 z133 F129q f132)) (by decide) (by decide) (by decide) (by decide) rfl (argsL := [(.ref b127)]) (rest := []) (Ls := #[.val (.long q0), .second, .val (.long q2), .second, .val (.int p4), .val (.long len), .second, .val (.long ib), .second, .val (.int (p4 &&& (3 : Int32))), .val (.ref b124), .val (.ref b127), .val (.int oo), .unset, .unset, .unset, .unset, .unset]) (by rw [hml]; rfl) (lenOf pd__Lcom_example_tenrec_tenrec_policy_MeasuredWindow_Interval__J rfl) (W := 0) (Nat.le_of_eq rfl) (hb hby at_139)
      obtain ⟨rfl, N131q, e131⟩ := q131
      have N131 := Fr.app N129 N131q
      refine Gl.pre (S' := T131.setTop (mkF m 155 #[.val (.long q0), .second, .val (.long q2), .second, .val (.int p4), .val (.long len), .second, .val (.long ib), .second, .val (.int (p4 &&& (3 : Int32))), .val (.ref b124), .val (.ref b127), .val (.long (if ((9223372036854775807 : Int64) - len) < ib then (9223372036854775807 : Int64) else (ib + len))), .second, .val (.long (ib + len)), .second, .unset, .unset] [(.int (lcmpW (ib + len) (0 : Int64)))])) (fun t kt => ?_) ?_
      · show Steps p.tables e below (T101.setTop (mkF m 75 #[.val (.long q0), .second, .val (.long q2), .second, .val (.int p4), .val (.long len), .second, .val (.long ib), .second, .val (.int (p4 &&& (3 : Int32))), .val (.long ((9223372036854775807 : Int64) - len)), .second, .val (.int oo), .unset, .unset, .unset, .unset, .unset] [])) _
        refine XS.goto X101.here hx rfl (pc0 := 75) (pc' := 102) rfl (hb hby at_75) (by decide) (by decide) ?_
        show Steps p.tables e below (T101.setTop (mkF m 102 #[.val (.long q0), .second, .val (.long q2), .second, .val (.int p4), .val (.long len), .second, .val (.long ib), .second, .val (.int (p4 &&& (3 : Int32))), .val (.long ((9223372036854775807 : Int64) - len)), .second, .val (.int oo), .unset, .unset, .unset, .unset, .unset] [])) _
        refine st124 _ ?_
        show Steps p.tables e below (T124.setTop (mkF m 105 #[.val (.long q0), .second, .val (.long q2), .second, .val (.int p4), .val (.long len), .second, .val (.long ib), .second, .val (.int (p4 &&& (3 : Int32))), .val (.long ((9223372036854775807 : Int64) - len)), .second, .val (.int oo), .unset, .unset, .unset, .unset, .unset] [(.ref b124)])) _
        refine XS.dup X124.here hx rfl (hb hby at_105) rfl rfl ?_
        show Steps p.tables e below (T124.setTop (mkF m 106 #[.val (.long q0), .second, .val (.long q2), .second, .val (.int p4), .val (.long len), .second, .val (.long ib), .second, .val (.int (p4 &&& (3 : Int32))), .val (.long ((9223372036854775807 : Int64) - len)), .second, .val (.int oo), .unset, .unset, .unset, .unset, .unset] [(.ref b124), (.ref b124)])) _
        refine XS.lload X124.here hx rfl (hb hby at_106) rfl ?_
        show Steps p.tables e below (T124.setTop (mkF m 108 #[.val (.long q0), .second, .val (.long q2), .second, .val (.int p4), .val (.long len), .second, .val (.long ib), .second, .val (.int (p4 &&& (3 : Int32))), .val (.long ((9223372036854775807 : Int64) - len)), .second, .val (.int oo), .unset, .unset, .unset, .unset, .unset] [(.long len), (.ref b124), (.ref b124)])) _
        refine st125 _ ?_
        show Steps p.tables e below (T125.setTop (mkF m 111 #[.val (.long q0), .second, .val (.long q2), .second, .val (.int p4), .val (.long len), .second, .val (.long ib), .second, .val (.int (p4 &&& (3 : Int32))), .val (.long ((9223372036854775807 : Int64) - len)), .second, .val (.int oo), .unset, .unset, .unset, .unset, .unset] [(.ref b124)])) _
        refine XS.astore X125.here hx rfl (hb hby at_111) rfl rfl (l' := #[.val (.long q0), .second, .val (.long q2), .second, .val (.int p4), .val (.long len), .second, .val (.long ib), .second, .val (.int (p4 &&& (3 : Int32))), .val (.ref b124), .unset, .val (.int oo), .unset, .unset, .unset, .unset, .unset]) rfl ?_
        show Steps p.tables e below (T125.setTop (mkF m 113 #[.val (.long q0), .second, .val (.long q2), .second, .val (.int p4), .val (.long len), .second, .val (.long ib), .second, .val (.int (p4 &&& (3 : Int32))), .val (.ref b124), .unset, .val (.int oo), .unset, .unset, .unset, .unset, .unset] [])) _
        refine st127 _ ?_
        show Steps p.tables e below (T127.setTop (mkF m 116 #[.val (.long q0), .second, .val (.long q2), .second, .val (.int p4), .val (.long len), .second, .val (.long ib), .second, .val (.int (p4 &&& (3 : Int32))), .val (.ref b124), .unset, .val (.int oo), .unset, .unset, .unset, .unset, .unset] [(.ref b127)])) _
        refine XS.dup X127.here hx rfl (hb hby at_116) rfl rfl ?_
        show Steps p.tables e below (T127.setTop (mkF m 117 #[.val (.long q0), .second, .val (.long q2), .second, .val (.int p4), .val (.long len), .second, .val (.long ib), .second, .val (.int (p4 &&& (3 : Int32))), .val (.ref b124), .unset, .val (.int oo), .unset, .unset, .unset, .unset, .unset] [(.ref b127), (.ref b127)])) _
        refine XS.lload X127.here hx rfl (hb hby at_117) rfl ?_
        show Steps p.tables e below (T127.setTop (mkF m 119 #[.val (.long q0), .second, .val (.long q2), .second, .val (.int p4), .val (.long len), .second, .val (.long ib), .second, .val (.int (p4 &&& (3 : Int32))), .val (.ref b124), .unset, .val (.int oo), .unset, .unset, .unset, .unset, .unset] [(.long ib), (.ref b127), (.ref b127)])) _
        refine XS.iconst X127.here hx rfl (hb hby at_119) ?_
        show Steps p.tables e below (T127.setTop (mkF m 120 #[.val (.long q0), .second, .val (.long q2), .second, .val (.int p4), .val (.long len), .second, .val (.long ib), .second, .val (.int (p4 &&& (3 : Int32))), .val (.ref b124), .unset, .val (.int oo), .unset, .unset, .unset, .unset, .unset] [(.int (1 : Int32)), (.long ib), (.ref b127), (.ref b127)])) _
        refine XS.iload X127.here hx rfl (hb hby at_120) rfl ?_
        show Steps p.tables e below (T127.setTop (mkF m 122 #[.val (.long q0), .second, .val (.long q2), .second, .val (.int p4), .val (.long len), .second, .val (.long ib), .second, .val (.int (p4 &&& (3 : Int32))), .val (.ref b124), .unset, .val (.int oo), .unset, .unset, .unset, .unset, .unset] [(.int p4), (.int (1 : Int32)), (.long ib), (.ref b127), (.ref b127)])) _
        refine XS.bipush X127.here hx rfl (hb hby at_122) ?_
        show Steps p.tables e below (T127.setTop (mkF m 124 #[.val (.long q0), .second, .val (.long q2), .second, .val (.int p4), .val (.long len), .second, .val (.long ib), .second, .val (.int (p4 &&& (3 : Int32))), .val (.ref b124), .unset, .val (.int oo), .unset, .unset, .unset, .unset, .unset] [(.int (8 : Int32)), (.int p4), (.int (1 : Int32)), (.long ib), (.ref b127), (.ref b127)])) _
        refine XS.iushr X127.here hx rfl (hb hby at_124) rfl ?_
        show Steps p.tables e below (T127.setTop (mkF m 125 #[.val (.long q0), .second, .val (.long q2), .second, .val (.int p4), .val (.long len), .second, .val (.long ib), .second, .val (.int (p4 &&& (3 : Int32))), .val (.ref b124), .unset, .val (.int oo), .unset, .unset, .unset, .unset, .unset] [(.int ((p4.toUInt32 >>> ((8 : Int32) &&& 31).toUInt32).toInt32)), (.int (1 : Int32)), (.long ib), (.ref b127), (.ref b127)])) _
        refine XS.sipush X127.here hx rfl (hb hby at_125) ?_
        show Steps p.tables e below (T127.setTop (mkF m 128 #[.val (.long q0), .second, .val (.long q2), .second, .val (.int p4), .val (.long len), .second, .val (.long ib), .second, .val (.int (p4 &&& (3 : Int32))), .val (.ref b124), .unset, .val (.int oo), .unset, .unset, .unset, .unset, .unset] [(.int (255 : Int32)), (.int ((p4.toUInt32 >>> ((8 : Int32) &&& 31).toUInt32).toInt32)), (.int (1 : Int32)), (.long ib), (.ref b127), (.ref b127)])) _
        refine XS.iand X127.here hx rfl (hb hby at_128) rfl ?_
        show Steps p.tables e below (T127.setTop (mkF m 129 #[.val (.long q0), .second, .val (.long q2), .second, .val (.int p4), .val (.long len), .second, .val (.long ib), .second, .val (.int (p4 &&& (3 : Int32))), .val (.ref b124), .unset, .val (.int oo), .unset, .unset, .unset, .unset, .unset] [(.int (((p4.toUInt32 >>> ((8 : Int32) &&& 31).toUInt32).toInt32) &&& (255 : Int32))), (.int (1 : Int32)), (.long ib), (.ref b127), (.ref b127)])) _
        refine XS.iadd X127.here hx rfl (hb hby at_129) rfl ?_
        show Steps p.tables e below (T127.setTop (mkF m 130 #[.val (.long q0), .second, .val (.long q2), .second, .val (.int p4), .val (.long len), .second, .val (.long ib), .second, .val (.int (p4 &&& (3 : Int32))), .val (.ref b124), .unset, .val (.int oo), .unset, .unset, .unset, .unset, .unset] [(.int ((1 : Int32) + (((p4.toUInt32 >>> ((8 : Int32) &&& 31).toUInt32).toInt32) &&& (255 : Int32)))), (.long ib), (.ref b127), (.ref b127)])) _
        refine st129 _ ?_
        show Steps p.tables e below (T129.setTop (mkF m 133 #[.val (.long q0), .second, .val (.long q2), .second, .val (.int p4), .val (.long len), .second, .val (.long ib), .second, .val (.int (p4 &&& (3 : Int32))), .val (.ref b124), .unset, .val (.int oo), .unset, .unset, .unset, .unset, .unset] [(.ref b127)])) _
        refine XS.astore X129.here hx rfl (hb hby at_133) rfl rfl (l' := #[.val (.long q0), .second, .val (.long q2), .second, .val (.int p4), .val (.long len), .second, .val (.long ib), .second, .val (.int (p4 &&& (3 : Int32))), .val (.ref b124), .val (.ref b127), .val (.int oo), .unset, .unset, .unset, .unset, .unset]) rfl ?_
        show Steps p.tables e below (T129.setTop (mkF m 135 #[.val (.long q0), .second, .val (.long q2), .second, .val (.int p4), .val (.long len), .second, .val (.long ib), .second, .val (.int (p4 &&& (3 : Int32))), .val (.ref b124), .val (.ref b127), .val (.int oo), .unset, .unset, .unset, .unset, .unset] [])) _
        refine XS.aload X129.here hx rfl (hb hby at_135) rfl rfl ?_
        show Steps p.tables e below (T129.setTop (mkF m 137 #[.val (.long q0), .second, .val (.long q2), .second, .val (.int p4), .val (.long len), .second, .val (.long ib), .second, .val (.int (p4 &&& (3 : Int32))), .val (.ref b124), .val (.ref b127), .val (.int oo), .unset, .unset, .unset, .unset, .unset] [(.ref b124)])) _
        refine XS.aload X129.here hx rfl (hb hby at_137) rfl rfl ?_
        show Steps p.tables e below (T129.setTop (mkF m 139 #[.val (.long q0), .second, .val (.long q2), .second, .val (.int p4), .val (.long len), .second, .val (.long ib), .second, .val (.int (p4 &&& (3 : Int32))), .val (.ref b124), .val (.ref b127), .val (.int oo), .unset, .unset, .unset, .unset, .unset] [(.ref b127), (.ref b124)])) _
        refine st131 _ ?_
        show Steps p.tables e below (T131.setTop (mkF m 142 #[.val (.long q0), .second, .val (.long q2), .second, .val (.int p4), .val (.long len), .second, .val (.long ib), .second, .val (.int (p4 &&& (3 : Int32))), .val (.ref b124), .val (.ref b127), .val (.int oo), .unset, .unset, .unset, .unset, .unset] [(.long (if ((9223372036854775807 : Int64) - len) < ib then (9223372036854775807 : Int64) else (ib + len)))])) _
        refine XS.lstore X131.here hx rfl (hb hby at_142) rfl (l' := #[.val (.long q0), .second, .val (.long q2), .second, .val (.int p4), .val (.long len), .second, .val (.long ib), .second, .val (.int (p4 &&& (3 : Int32))), .val (.ref b124), .val (.ref b127), .val (.long (if ((9223372036854775807 : Int64) - len) < ib then (9223372036854775807 : Int64) else (ib + len))), .second, .unset, .unset, .unset, .unset]) rfl ?_
        show Steps p.tables e below (T131.setTop (mkF m 144 #[.val (.long q0), .second, .val (.long q2), .second, .val (.int p4), .val (.long len), .second, .val (.long ib), .second, .val (.int (p4 &&& (3 : Int32))), .val (.ref b124), .val (.ref b127), .val (.long (if ((9223372036854775807 : Int64) - len) < ib then (9223372036854775807 : Int64) else (ib + len))), .second, .unset, .unset, .unset, .unset] [])) _
        refine XS.lload X131.here hx rfl (hb hby at_144) rfl ?_
        show Steps p.tables e below (T131.setTop (mkF m 146 #[.val (.long q0), .second, .val (.long q2), .second, .val (.int p4), .val (.long len), .second, .val (.long ib), .second, .val (.int (p4 &&& (3 : Int32))), .val (.ref b124), .val (.ref b127), .val (.long (if ((9223372036854775807 : Int64) - len) < ib then (9223372036854775807 : Int64) else (ib + len))), .second, .unset, .unset, .unset, .unset] [(.long ib)])) _
        refine XS.lload X131.here hx rfl (hb hby at_146) rfl ?_
        show Steps p.tables e below (T131.setTop (mkF m 148 #[.val (.long q0), .second, .val (.long q2), .second, .val (.int p4), .val (.long len), .second, .val (.long ib), .second, .val (.int (p4 &&& (3 : Int32))), .val (.ref b124), .val (.ref b127), .val (.long (if ((9223372036854775807 : Int64) - len) < ib then (9223372036854775807 : Int64) else (ib + len))), .second, .unset, .unset, .unset, .unset] [(.long len), (.long ib)])) _
        refine XS.ladd X131.here hx rfl (hb hby at_148) rfl ?_
        show Steps p.tables e below (T131.setTop (mkF m 149 #[.val (.long q0), .second, .val (.long q2), .second, .val (.int p4), .val (.long len), .second, .val (.long ib), .second, .val (.int (p4 &&& (3 : Int32))), .val (.ref b124), .val (.ref b127), .val (.long (if ((9223372036854775807 : Int64) - len) < ib then (9223372036854775807 : Int64) else (ib + len))), .second, .unset, .unset, .unset, .unset] [(.long (ib + len))])) _
        refine XS.lstore X131.here hx rfl (hb hby at_149) rfl (l' := #[.val (.long q0), .second, .val (.long q2), .second, .val (.int p4), .val (.long len), .second, .val (.long ib), .second, .val (.int (p4 &&& (3 : Int32))), .val (.ref b124), .val (.ref b127), .val (.long (if ((9223372036854775807 : Int64) - len) < ib then (9223372036854775807 : Int64) else (ib + len))), .second, .val (.long (ib + len)), .second, .unset, .unset]) rfl ?_
        show Steps p.tables e below (T131.setTop (mkF m 151 #[.val (.long q0), .second, .val (.long q2), .second, .val (.int p4), .val (.long len), .second, .val (.long ib), .second, .val (.int (p4 &&& (3 : Int32))), .val (.ref b124), .val (.ref b127), .val (.long (if ((9223372036854775807 : Int64) - len) < ib then (9223372036854775807 : Int64) else (ib + len))), .second, .val (.long (ib + len)), .second, .unset, .unset] [])) _
        refine XS.lload X131.here hx rfl (hb hby at_151) rfl ?_
        show Steps p.tables e below (T131.setTop (mkF m 153 #[.val (.long q0), .second, .val (.long q2), .second, .val (.int p4), .val (.long len), .second, .val (.long ib), .second, .val (.int (p4 &&& (3 : Int32))), .val (.ref b124), .val (.ref b127), .val (.long (if ((9223372036854775807 : Int64) - len) < ib then (9223372036854775807 : Int64) else (ib + len))), .second, .val (.long (ib + len)), .second, .unset, .unset] [(.long (ib + len))])) _
        refine XS.lconst X131.here hx rfl (hb hby at_153) ?_
        show Steps p.tables e below (T131.setTop (mkF m 154 #[.val (.long q0), .second, .val (.long q2), .second, .val (.int p4), .val (.long len), .second, .val (.long ib), .second, .val (.int (p4 &&& (3 : Int32))), .val (.ref b124), .val (.ref b127), .val (.long (if ((9223372036854775807 : Int64) - len) < ib then (9223372036854775807 : Int64) else (ib + len))), .second, .val (.long (ib + len)), .second, .unset, .unset] [(.long (0 : Int64)), (.long (ib + len))])) _
        refine XS.lcmp X131.here hx rfl (hb hby at_154) rfl ?_
        exact kt
      by_cases hc155 : (ib + len) < (0 : Int64)
      · refine Gl.fin X131 (v := some (.int (1 : Int32))) (fun h => by rw [Bd.returns] at h; cases h) Bd.notSynchronized ?_ e131 (by decide) (by decide) (fun fs hr => ?_)
        · exact ⟨rfl, N131⟩
        · show Steps p.tables e below (T131.setTop (mkF m 155 #[.val (.long q0), .second, .val (.long q2), .second, .val (.int p4), .val (.long len), .second, .val (.long ib), .second, .val (.int (p4 &&& (3 : Int32))), .val (.ref b124), .val (.ref b127), .val (.long (if ((9223372036854775807 : Int64) - len) < ib then (9223372036854775807 : Int64) else (ib + len))), .second, .val (.long (ib + len)), .second, .unset, .unset] [(.int (lcmpW (ib + len) (0 : Int64)))])) _
          refine XS.ifNo X131.here hx rfl (hb hby at_155) rfl (own_nf (l0_ge _ _) hc155) ?_
          show Steps p.tables e below (T131.setTop (mkF m 158 #[.val (.long q0), .second, .val (.long q2), .second, .val (.int p4), .val (.long len), .second, .val (.long ib), .second, .val (.int (p4 &&& (3 : Int32))), .val (.ref b124), .val (.ref b127), .val (.long (if ((9223372036854775807 : Int64) - len) < ib then (9223372036854775807 : Int64) else (ib + len))), .second, .val (.long (ib + len)), .second, .unset, .unset] [])) _
          refine X131.ldc2Long hx hown (mvT hZ (hw _ (List.mem_of_getElem? (i := 0) rfl))) (g := (mkF m 158 #[.val (.long q0), .second, .val (.long q2), .second, .val (.int p4), .val (.long len), .second, .val (.long ib), .second, .val (.int (p4 &&& (3 : Int32))), .val (.ref b124), .val (.ref b127), .val (.long (if ((9223372036854775807 : Int64) - len) < ib then (9223372036854775807 : Int64) else (ib + len))), .second, .val (.long (ib + len)), .second, .unset, .unset] [])) rfl (hb hby at_158) _ ?_
          show Steps p.tables e below (T131.setTop (mkF m 161 #[.val (.long q0), .second, .val (.long q2), .second, .val (.int p4), .val (.long len), .second, .val (.long ib), .second, .val (.int (p4 &&& (3 : Int32))), .val (.ref b124), .val (.ref b127), .val (.long (if ((9223372036854775807 : Int64) - len) < ib then (9223372036854775807 : Int64) else (ib + len))), .second, .val (.long (ib + len)), .second, .unset, .unset] [(.long (9223372036854775807 : Int64))])) _
          refine XS.goto X131.here hx rfl (pc0 := 161) (pc' := 166) rfl (hb hby at_161) (by decide) (by decide) ?_
          show Steps p.tables e below (T131.setTop (mkF m 166 #[.val (.long q0), .second, .val (.long q2), .second, .val (.int p4), .val (.long len), .second, .val (.long ib), .second, .val (.int (p4 &&& (3 : Int32))), .val (.ref b124), .val (.ref b127), .val (.long (if ((9223372036854775807 : Int64) - len) < ib then (9223372036854775807 : Int64) else (ib + len))), .second, .val (.long (ib + len)), .second, .unset, .unset] [(.long (9223372036854775807 : Int64))])) _
          refine XS.lstore X131.here hx rfl (hb hby at_166) rfl (l' := #[.val (.long q0), .second, .val (.long q2), .second, .val (.int p4), .val (.long len), .second, .val (.long ib), .second, .val (.int (p4 &&& (3 : Int32))), .val (.ref b124), .val (.ref b127), .val (.long (if ((9223372036854775807 : Int64) - len) < ib then (9223372036854775807 : Int64) else (ib + len))), .second, .val (.long (ib + len)), .second, .val (.long (9223372036854775807 : Int64)), .second]) rfl ?_
          show Steps p.tables e below (T131.setTop (mkF m 168 #[.val (.long q0), .second, .val (.long q2), .second, .val (.int p4), .val (.long len), .second, .val (.long ib), .second, .val (.int (p4 &&& (3 : Int32))), .val (.ref b124), .val (.ref b127), .val (.long (if ((9223372036854775807 : Int64) - len) < ib then (9223372036854775807 : Int64) else (ib + len))), .second, .val (.long (ib + len)), .second, .val (.long (9223372036854775807 : Int64)), .second] [])) _
          refine XS.lload X131.here hx rfl (hb hby at_168) rfl ?_
          show Steps p.tables e below (T131.setTop (mkF m 170 #[.val (.long q0), .second, .val (.long q2), .second, .val (.int p4), .val (.long len), .second, .val (.long ib), .second, .val (.int (p4 &&& (3 : Int32))), .val (.ref b124), .val (.ref b127), .val (.long (if ((9223372036854775807 : Int64) - len) < ib then (9223372036854775807 : Int64) else (ib + len))), .second, .val (.long (ib + len)), .second, .val (.long (9223372036854775807 : Int64)), .second] [(.long (if ((9223372036854775807 : Int64) - len) < ib then (9223372036854775807 : Int64) else (ib + len)))])) _
          refine XS.lload X131.here hx rfl (hb hby at_170) rfl ?_
          show Steps p.tables e below (T131.setTop (mkF m 172 #[.val (.long q0), .second, .val (.long q2), .second, .val (.int p4), .val (.long len), .second, .val (.long ib), .second, .val (.int (p4 &&& (3 : Int32))), .val (.ref b124), .val (.ref b127), .val (.long (if ((9223372036854775807 : Int64) - len) < ib then (9223372036854775807 : Int64) else (ib + len))), .second, .val (.long (ib + len)), .second, .val (.long (9223372036854775807 : Int64)), .second] [(.long (9223372036854775807 : Int64)), (.long (if ((9223372036854775807 : Int64) - len) < ib then (9223372036854775807 : Int64) else (ib + len)))])) _
          refine XS.lcmp X131.here hx rfl (hb hby at_172) rfl ?_
          show Steps p.tables e below (T131.setTop (mkF m 173 #[.val (.long q0), .second, .val (.long q2), .second, .val (.int p4), .val (.long len), .second, .val (.long ib), .second, .val (.int (p4 &&& (3 : Int32))), .val (.ref b124), .val (.ref b127), .val (.long (if ((9223372036854775807 : Int64) - len) < ib then (9223372036854775807 : Int64) else (ib + len))), .second, .val (.long (ib + len)), .second, .val (.long (9223372036854775807 : Int64)), .second] [(.int (lcmpW (if ((9223372036854775807 : Int64) - len) < ib then (9223372036854775807 : Int64) else (ib + len)) (9223372036854775807 : Int64)))])) _
          refine XS.ifNo X131.here hx rfl (hb hby at_173) rfl (own_nf (l0_ne _ _) (by simp [own_lv hib hlen, hc155])) ?_
          show Steps p.tables e below (T131.setTop (mkF m 176 #[.val (.long q0), .second, .val (.long q2), .second, .val (.int p4), .val (.long len), .second, .val (.long ib), .second, .val (.int (p4 &&& (3 : Int32))), .val (.ref b124), .val (.ref b127), .val (.long (if ((9223372036854775807 : Int64) - len) < ib then (9223372036854775807 : Int64) else (ib + len))), .second, .val (.long (ib + len)), .second, .val (.long (9223372036854775807 : Int64)), .second] [])) _
          refine XS.iconst X131.here hx rfl (hb hby at_176) ?_
          show Steps p.tables e below (T131.setTop (mkF m 177 #[.val (.long q0), .second, .val (.long q2), .second, .val (.int p4), .val (.long len), .second, .val (.long ib), .second, .val (.int (p4 &&& (3 : Int32))), .val (.ref b124), .val (.ref b127), .val (.long (if ((9223372036854775807 : Int64) - len) < ib then (9223372036854775807 : Int64) else (ib + len))), .second, .val (.long (ib + len)), .second, .val (.long (9223372036854775807 : Int64)), .second] [(.int (1 : Int32))])) _
          refine XS.goto X131.here hx rfl (pc0 := 177) (pc' := 181) rfl (hb hby at_177) (by decide) (by decide) ?_
          show Steps p.tables e below (T131.setTop (mkF m 181 #[.val (.long q0), .second, .val (.long q2), .second, .val (.int p4), .val (.long len), .second, .val (.long ib), .second, .val (.int (p4 &&& (3 : Int32))), .val (.ref b124), .val (.ref b127), .val (.long (if ((9223372036854775807 : Int64) - len) < ib then (9223372036854775807 : Int64) else (ib + len))), .second, .val (.long (ib + len)), .second, .val (.long (9223372036854775807 : Int64)), .second] [(.int (1 : Int32))])) _
          exact retN X131 hx (t := .boolean) Bd.returns (by simp) (hb hby at_181) hr
      · refine Gl.fin X131 (v := some (.int (1 : Int32))) (fun h => by rw [Bd.returns] at h; cases h) Bd.notSynchronized ?_ e131 (by decide) (by decide) (fun fs hr => ?_)
        · exact ⟨rfl, N131⟩
        · show Steps p.tables e below (T131.setTop (mkF m 155 #[.val (.long q0), .second, .val (.long q2), .second, .val (.int p4), .val (.long len), .second, .val (.long ib), .second, .val (.int (p4 &&& (3 : Int32))), .val (.ref b124), .val (.ref b127), .val (.long (if ((9223372036854775807 : Int64) - len) < ib then (9223372036854775807 : Int64) else (ib + len))), .second, .val (.long (ib + len)), .second, .unset, .unset] [(.int (lcmpW (ib + len) (0 : Int64)))])) _
          refine XS.ifYes X131.here hx rfl (pc0 := 155) (pc' := 164) rfl (hb hby at_155) rfl (own_nt (l0_ge _ _) hc155) (by decide) (by decide) ?_
          show Steps p.tables e below (T131.setTop (mkF m 164 #[.val (.long q0), .second, .val (.long q2), .second, .val (.int p4), .val (.long len), .second, .val (.long ib), .second, .val (.int (p4 &&& (3 : Int32))), .val (.ref b124), .val (.ref b127), .val (.long (if ((9223372036854775807 : Int64) - len) < ib then (9223372036854775807 : Int64) else (ib + len))), .second, .val (.long (ib + len)), .second, .unset, .unset] [])) _
          refine XS.lload X131.here hx rfl (hb hby at_164) rfl ?_
          show Steps p.tables e below (T131.setTop (mkF m 166 #[.val (.long q0), .second, .val (.long q2), .second, .val (.int p4), .val (.long len), .second, .val (.long ib), .second, .val (.int (p4 &&& (3 : Int32))), .val (.ref b124), .val (.ref b127), .val (.long (if ((9223372036854775807 : Int64) - len) < ib then (9223372036854775807 : Int64) else (ib + len))), .second, .val (.long (ib + len)), .second, .unset, .unset] [(.long (ib + len))])) _
          refine XS.lstore X131.here hx rfl (hb hby at_166) rfl (l' := #[.val (.long q0), .second, .val (.long q2), .second, .val (.int p4), .val (.long len), .second, .val (.long ib), .second, .val (.int (p4 &&& (3 : Int32))), .val (.ref b124), .val (.ref b127), .val (.long (if ((9223372036854775807 : Int64) - len) < ib then (9223372036854775807 : Int64) else (ib + len))), .second, .val (.long (ib + len)), .second, .val (.long (ib + len)), .second]) rfl ?_
          show Steps p.tables e below (T131.setTop (mkF m 168 #[.val (.long q0), .second, .val (.long q2), .second, .val (.int p4), .val (.long len), .second, .val (.long ib), .second, .val (.int (p4 &&& (3 : Int32))), .val (.ref b124), .val (.ref b127), .val (.long (if ((9223372036854775807 : Int64) - len) < ib then (9223372036854775807 : Int64) else (ib + len))), .second, .val (.long (ib + len)), .second, .val (.long (ib + len)), .second] [])) _
          refine XS.lload X131.here hx rfl (hb hby at_168) rfl ?_
          show Steps p.tables e below (T131.setTop (mkF m 170 #[.val (.long q0), .second, .val (.long q2), .second, .val (.int p4), .val (.long len), .second, .val (.long ib), .second, .val (.int (p4 &&& (3 : Int32))), .val (.ref b124), .val (.ref b127), .val (.long (if ((9223372036854775807 : Int64) - len) < ib then (9223372036854775807 : Int64) else (ib + len))), .second, .val (.long (ib + len)), .second, .val (.long (ib + len)), .second] [(.long (if ((9223372036854775807 : Int64) - len) < ib then (9223372036854775807 : Int64) else (ib + len)))])) _
          refine XS.lload X131.here hx rfl (hb hby at_170) rfl ?_
          show Steps p.tables e below (T131.setTop (mkF m 172 #[.val (.long q0), .second, .val (.long q2), .second, .val (.int p4), .val (.long len), .second, .val (.long ib), .second, .val (.int (p4 &&& (3 : Int32))), .val (.ref b124), .val (.ref b127), .val (.long (if ((9223372036854775807 : Int64) - len) < ib then (9223372036854775807 : Int64) else (ib + len))), .second, .val (.long (ib + len)), .second, .val (.long (ib + len)), .second] [(.long (ib + len)), (.long (if ((9223372036854775807 : Int64) - len) < ib then (9223372036854775807 : Int64) else (ib + len)))])) _
          refine XS.lcmp X131.here hx rfl (hb hby at_172) rfl ?_
          show Steps p.tables e below (T131.setTop (mkF m 173 #[.val (.long q0), .second, .val (.long q2), .second, .val (.int p4), .val (.long len), .second, .val (.long ib), .second, .val (.int (p4 &&& (3 : Int32))), .val (.ref b124), .val (.ref b127), .val (.long (if ((9223372036854775807 : Int64) - len) < ib then (9223372036854775807 : Int64) else (ib + len))), .second, .val (.long (ib + len)), .second, .val (.long (ib + len)), .second] [(.int (lcmpW (if ((9223372036854775807 : Int64) - len) < ib then (9223372036854775807 : Int64) else (ib + len)) (ib + len)))])) _
          refine XS.ifNo X131.here hx rfl (hb hby at_173) rfl (own_nf (l0_ne _ _) (by simp [own_lv hib hlen, hc155])) ?_
          show Steps p.tables e below (T131.setTop (mkF m 176 #[.val (.long q0), .second, .val (.long q2), .second, .val (.int p4), .val (.long len), .second, .val (.long ib), .second, .val (.int (p4 &&& (3 : Int32))), .val (.ref b124), .val (.ref b127), .val (.long (if ((9223372036854775807 : Int64) - len) < ib then (9223372036854775807 : Int64) else (ib + len))), .second, .val (.long (ib + len)), .second, .val (.long (ib + len)), .second] [])) _
          refine XS.iconst X131.here hx rfl (hb hby at_176) ?_
          show Steps p.tables e below (T131.setTop (mkF m 177 #[.val (.long q0), .second, .val (.long q2), .second, .val (.int p4), .val (.long len), .second, .val (.long ib), .second, .val (.int (p4 &&& (3 : Int32))), .val (.ref b124), .val (.ref b127), .val (.long (if ((9223372036854775807 : Int64) - len) < ib then (9223372036854775807 : Int64) else (ib + len))), .second, .val (.long (ib + len)), .second, .val (.long (ib + len)), .second] [(.int (1 : Int32))])) _
          refine XS.goto X131.here hx rfl (pc0 := 177) (pc' := 181) rfl (hb hby at_177) (by decide) (by decide) ?_
          show Steps p.tables e below (T131.setTop (mkF m 181 #[.val (.long q0), .second, .val (.long q2), .second, .val (.int p4), .val (.long len), .second, .val (.long ib), .second, .val (.int (p4 &&& (3 : Int32))), .val (.ref b124), .val (.ref b127), .val (.long (if ((9223372036854775807 : Int64) - len) < ib then (9223372036854775807 : Int64) else (ib + len))), .second, .val (.long (ib + len)), .second, .val (.long (ib + len)), .second] [(.int (1 : Int32))])) _
          exact retN X131 hx (t := .boolean) Bd.returns (by simp) (hb hby at_181) hr
  · refine Gl.pre (S' := T101.setTop (mkF m 81 #[.val (.long q0), .second, .val (.long q2), .second, .val (.int p4), .val (.long len), .second, .val (.long ins), .second, .val (.int (p4 &&& (3 : Int32))), .unset, .unset, .unset, .unset, .unset, .unset, .unset, .unset] [(.int (2 : Int32)), (.int (p4 &&& (3 : Int32)))])) (fun t kt => ?_) ?_
    · show Steps p.tables e below (T101.setTop (mkF m 27 #[.val (.long q0), .second, .val (.long q2), .second, .val (.int p4), .val (.long len), .second, .val (.long ins), .second, .val (.int (p4 &&& (3 : Int32))), .unset, .unset, .unset, .unset, .unset, .unset, .unset, .unset] [(.int (1 : Int32)), (.int (p4 &&& (3 : Int32)))])) _
      refine XS.icmpYes X101.here hx rfl (pc0 := 27) (pc' := 78) rfl (hb hby at_27) rfl (own_nt (ic_ne _ _) hc27) (by decide) (by decide) ?_
      show Steps p.tables e below (T101.setTop (mkF m 78 #[.val (.long q0), .second, .val (.long q2), .second, .val (.int p4), .val (.long len), .second, .val (.long ins), .second, .val (.int (p4 &&& (3 : Int32))), .unset, .unset, .unset, .unset, .unset, .unset, .unset, .unset] [])) _
      refine XS.iload X101.here hx rfl (hb hby at_78) rfl ?_
      show Steps p.tables e below (T101.setTop (mkF m 80 #[.val (.long q0), .second, .val (.long q2), .second, .val (.int p4), .val (.long len), .second, .val (.long ins), .second, .val (.int (p4 &&& (3 : Int32))), .unset, .unset, .unset, .unset, .unset, .unset, .unset, .unset] [(.int (p4 &&& (3 : Int32)))])) _
      refine XS.iconst X101.here hx rfl (hb hby at_80) ?_
      exact kt
    by_cases hc81 : (p4 &&& (3 : Int32)) = (2 : Int32)
    · refine Gl.pre (S' := T101.setTop (mkF m 91 #[.val (.long q0), .second, .val (.long q2), .second, .val (.int p4), .val (.long len), .second, .val (.long (q0 &&& (65535 : Int64))), .second, .val (.int (p4 &&& (3 : Int32))), .unset, .unset, .unset, .unset, .unset, .unset, .unset, .unset] [])) (fun t kt => ?_) ?_
      · show Steps p.tables e below (T101.setTop (mkF m 81 #[.val (.long q0), .second, .val (.long q2), .second, .val (.int p4), .val (.long len), .second, .val (.long ins), .second, .val (.int (p4 &&& (3 : Int32))), .unset, .unset, .unset, .unset, .unset, .unset, .unset, .unset] [(.int (2 : Int32)), (.int (p4 &&& (3 : Int32)))])) _
        refine XS.icmpNo X101.here hx rfl (hb hby at_81) rfl (own_nf (ic_ne _ _) hc81) ?_
        show Steps p.tables e below (T101.setTop (mkF m 84 #[.val (.long q0), .second, .val (.long q2), .second, .val (.int p4), .val (.long len), .second, .val (.long ins), .second, .val (.int (p4 &&& (3 : Int32))), .unset, .unset, .unset, .unset, .unset, .unset, .unset, .unset] [])) _
        refine XS.lloadN X101.here hx rfl (hb hby at_84) rfl ?_
        show Steps p.tables e below (T101.setTop (mkF m 85 #[.val (.long q0), .second, .val (.long q2), .second, .val (.int p4), .val (.long len), .second, .val (.long ins), .second, .val (.int (p4 &&& (3 : Int32))), .unset, .unset, .unset, .unset, .unset, .unset, .unset, .unset] [(.long q0)])) _
        refine X101.ldc2Long hx hown (mvT hZ (hw _ (List.mem_of_getElem? (i := 53) rfl))) (g := (mkF m 85 #[.val (.long q0), .second, .val (.long q2), .second, .val (.int p4), .val (.long len), .second, .val (.long ins), .second, .val (.int (p4 &&& (3 : Int32))), .unset, .unset, .unset, .unset, .unset, .unset, .unset, .unset] [(.long q0)])) rfl (hb hby at_85) _ ?_
        show Steps p.tables e below (T101.setTop (mkF m 88 #[.val (.long q0), .second, .val (.long q2), .second, .val (.int p4), .val (.long len), .second, .val (.long ins), .second, .val (.int (p4 &&& (3 : Int32))), .unset, .unset, .unset, .unset, .unset, .unset, .unset, .unset] [(.long (65535 : Int64)), (.long q0)])) _
        refine XS.land X101.here hx rfl (hb hby at_88) rfl ?_
        show Steps p.tables e below (T101.setTop (mkF m 89 #[.val (.long q0), .second, .val (.long q2), .second, .val (.int p4), .val (.long len), .second, .val (.long ins), .second, .val (.int (p4 &&& (3 : Int32))), .unset, .unset, .unset, .unset, .unset, .unset, .unset, .unset] [(.long (q0 &&& (65535 : Int64)))])) _
        refine XS.lstore X101.here hx rfl (hb hby at_89) rfl (l' := #[.val (.long q0), .second, .val (.long q2), .second, .val (.int p4), .val (.long len), .second, .val (.long (q0 &&& (65535 : Int64))), .second, .val (.int (p4 &&& (3 : Int32))), .unset, .unset, .unset, .unset, .unset, .unset, .unset, .unset]) rfl ?_
        exact kt
      obtain ⟨im, h_im⟩ : ∃ z : Int64, z = (q0 &&& (65535 : Int64)) := ⟨_, rfl⟩
      rw [← h_im]
      have him : 0 ≤ im.toInt := by rw [h_im]; exact own_and64_16 _
      obtain ⟨v135, T135, L135, X135, q135, st135⟩ := own_callS X101 hx hZ (y := (⟨"java/lang/Math", "max", "(JJ)J"⟩ : MethodName)) hown (hw _ (List.mem_of_getElem? (i := 1) rfl)) (hw _ (List.mem_of_getElem? (i := 2) rfl)) (hw _ (List.mem_of_getElem? (i := 3) rfl)) (hw _ (List.mem_of_getElem? (i := 4) rfl)) (by decide) (hM := (rm1 l Z a0 hw [] (1 : Int64) (q2 &&& (65535 : Int64)) h0 n0 Z0)) (by decide) (by decide) (by decide) (by decide) e101 (argsL := [(.long (1 : Int64)), (.long (q2 &&& (65535 : Int64)))]) (rest := []) (Ls := #[.val (.long q0), .second, .val (.long q2), .second, .val (.int p4), .val (.long len), .second, .val (.long im), .second, .val (.int (p4 &&& (3 : Int32))), .unset, .unset, .unset, .unset, .unset, .unset, .unset, .unset]) (by rw [hml]; rfl) (lenOf pd__JJ_J rfl) (W := 0) (Nat.le_of_eq rfl) (hb hby at_97)
      obtain ⟨rfl, N135q, e135⟩ := q135
      have N135 := Fr.app N101 N135q
      refine Gl.pre (S' := T135.setTop (mkF m 102 #[.val (.long q0), .second, .val (.long q2), .second, .val (.int p4), .val (.long (if (1 : Int64) < (q2 &&& (65535 : Int64)) then (q2 &&& (65535 : Int64)) else (1 : Int64))), .second, .val (.long im), .second, .val (.int (p4 &&& (3 : Int32))), .unset, .unset, .unset, .unset, .unset, .unset, .unset, .unset] [])) (fun t kt => ?_) ?_
      · show Steps p.tables e below (T101.setTop (mkF m 91 #[.val (.long q0), .second, .val (.long q2), .second, .val (.int p4), .val (.long len), .second, .val (.long im), .second, .val (.int (p4 &&& (3 : Int32))), .unset, .unset, .unset, .unset, .unset, .unset, .unset, .unset] [])) _
        refine XS.lconst X101.here hx rfl (hb hby at_91) ?_
        show Steps p.tables e below (T101.setTop (mkF m 92 #[.val (.long q0), .second, .val (.long q2), .second, .val (.int p4), .val (.long len), .second, .val (.long im), .second, .val (.int (p4 &&& (3 : Int32))), .unset, .unset, .unset, .unset, .unset, .unset, .unset, .unset] [(.long (1 : Int64))])) _
        refine XS.lloadN X101.here hx rfl (hb hby at_92) rfl ?_
        show Steps p.tables e below (T101.setTop (mkF m 93 #[.val (.long q0), .second, .val (.long q2), .second, .val (.int p4), .val (.long len), .second, .val (.long im), .second, .val (.int (p4 &&& (3 : Int32))), .unset, .unset, .unset, .unset, .unset, .unset, .unset, .unset] [(.long q2), (.long (1 : Int64))])) _
        refine X101.ldc2Long hx hown (mvT hZ (hw _ (List.mem_of_getElem? (i := 53) rfl))) (g := (mkF m 93 #[.val (.long q0), .second, .val (.long q2), .second, .val (.int p4), .val (.long len), .second, .val (.long im), .second, .val (.int (p4 &&& (3 : Int32))), .unset, .unset, .unset, .unset, .unset, .unset, .unset, .unset] [(.long q2), (.long (1 : Int64))])) rfl (hb hby at_93) _ ?_
        show Steps p.tables e below (T101.setTop (mkF m 96 #[.val (.long q0), .second, .val (.long q2), .second, .val (.int p4), .val (.long len), .second, .val (.long im), .second, .val (.int (p4 &&& (3 : Int32))), .unset, .unset, .unset, .unset, .unset, .unset, .unset, .unset] [(.long (65535 : Int64)), (.long q2), (.long (1 : Int64))])) _
        refine XS.land X101.here hx rfl (hb hby at_96) rfl ?_
        show Steps p.tables e below (T101.setTop (mkF m 97 #[.val (.long q0), .second, .val (.long q2), .second, .val (.int p4), .val (.long len), .second, .val (.long im), .second, .val (.int (p4 &&& (3 : Int32))), .unset, .unset, .unset, .unset, .unset, .unset, .unset, .unset] [(.long (q2 &&& (65535 : Int64))), (.long (1 : Int64))])) _
        refine st135 _ ?_
        show Steps p.tables e below (T135.setTop (mkF m 100 #[.val (.long q0), .second, .val (.long q2), .second, .val (.int p4), .val (.long len), .second, .val (.long im), .second, .val (.int (p4 &&& (3 : Int32))), .unset, .unset, .unset, .unset, .unset, .unset, .unset, .unset] [(.long (if (1 : Int64) < (q2 &&& (65535 : Int64)) then (q2 &&& (65535 : Int64)) else (1 : Int64)))])) _
        refine XS.lstore X135.here hx rfl (hb hby at_100) rfl (l' := #[.val (.long q0), .second, .val (.long q2), .second, .val (.int p4), .val (.long (if (1 : Int64) < (q2 &&& (65535 : Int64)) then (q2 &&& (65535 : Int64)) else (1 : Int64))), .second, .val (.long im), .second, .val (.int (p4 &&& (3 : Int32))), .unset, .unset, .unset, .unset, .unset, .unset, .unset, .unset]) rfl ?_
        exact kt
      obtain ⟨lem, h_lem⟩ : ∃ z : Int64, z = (if (1 : Int64) < (q2 &&& (65535 : Int64)) then (q2 &&& (65535 : Int64)) else (1 : Int64)) := ⟨_, rfl⟩
      rw [← h_lem]
      have hlem : 1 ≤ lem.toInt := by rw [h_lem]; exact own_max1 _
      obtain ⟨T136, h136, X136, e136, E136, A136, D136, -, st136⟩ := newO X135 hx hZ hown (hw _ (List.mem_of_getElem? (i := 5) rfl)) (hw _ (List.mem_of_getElem? (i := 6) rfl)) (hw _ (List.mem_of_getElem? (i := 7) rfl)) e135 (g := (mkF m 102 #[.val (.long q0), .second, .val (.long q2), .second, .val (.int p4), .val (.long lem), .second, .val (.long im), .second, .val (.int (p4 &&& (3 : Int32))), .unset, .unset, .unset, .unset, .unset, .unset, .unset, .unset] [])) rfl (hb hby at_102) (by decide) (by decide)
      obtain ⟨b136, g136⟩ : ∃ z, z = h0.size := ⟨_, rfl⟩
      have g_b136 : n0 ≤ b136 := Nat.le_trans Z0 (Nat.le_of_eq g136.symm)
      have sz_b136 : h0.size ≤ b136 := Nat.le_trans K0.1 (Nat.le_of_eq g136.symm)
      rw [← g136] at A136 D136 st136
      have K136 : Keep h0 h136 [] := K0.ext E136
      have F_arrived_b136 : Fld Z h136 b136 "com/example/tenrec/tenrec/policy/MeasuredWindow" "arrived" "Ljava/util/ArrayDeque;" .null := D136 (Or.inr (hw _ (List.mem_of_getElem? (i := 32) rfl))) (ty := (.object "java/util/ArrayDeque")) (by decide)
      have F_length_b136 : Fld Z h136 b136 "com/example/tenrec/tenrec/policy/MeasuredWindow" "length" "J" (.long (0 : Int64)) := D136 (Or.inr (hw _ (List.mem_of_getElem? (i := 34) rfl))) (ty := .long) (by decide)
      have z138 : n0 ≤ h136.size := (Nat.le_trans Z0 E136.1)
      obtain ⟨v137, T137, L137, X137, q137, st137⟩ := own_callI X136 hx hZ (y := (⟨"com/example/tenrec/tenrec/policy/MeasuredWindow", "<init>", "(J)V"⟩ : MethodName)) rfl hown (hw _ (List.mem_of_getElem? (i := 8) rfl)) (hw _ (List.mem_of_getElem? (i := 9) rfl)) (hw _ (List.mem_of_getElem? (i := 7) rfl)) (hw _ (List.mem_of_getElem? (i := 10) rfl)) (by decide) (a := b136) (hM := (rm2 l Z a0 hw [] b136 lem h136 n0 z138 g_b136 A136 F_arrived_b136 F_length_b136)) (by decide) (by decide) (by decide) (by decide) e136 (argsL := [(.long lem)]) (rest := [(.ref b136)]) (Ls := #[.val (.long q0), .second, .val (.long q2), .second, .val (.int p4), .val (.long lem), .second, .val (.long im), .second, .val (.int (p4 &&& (3 : Int32))), .unset, .unset, .unset, .unset, .unset, .unset, .unset, .unset]) (by rw [hml]; rfl) (lenOf pd__J_V rfl) (W := 1) (Nat.le_of_eq rfl) (hb hby at_108)
      obtain ⟨rfl, N137q, K137q, E137q, F137q⟩ := q137
      have N137 := Fr.app N135 N137q
      have K137 : Keep h0 T137.heap [] := K136.trans K137q (allS (Or.inr sz_b136) all0)
      obtain ⟨T139, h139, X139, e139, E139, A139, D139, -, st139⟩ := newO X137 hx hZ hown (hw _ (List.mem_of_getElem? (i := 35) rfl)) (hw _ (List.mem_of_getElem? (i := 36) rfl)) (hw _ (List.mem_of_getElem? (i := 37) rfl)) rfl (g := (mkF m 113 #[.val (.long q0), .second, .val (.long q2), .second, .val (.int p4), .val (.long lem), .second, .val (.long im), .second, .val (.int (p4 &&& (3 : Int32))), .val (.ref b136), .unset, .unset, .unset, .unset, .unset, .unset, .unset] [])) rfl (hb hby at_113) (by decide) (by decide)
      obtain ⟨b139, g139⟩ : ∃ z, z = T137.heap.size := ⟨_, rfl⟩
      have z140 : n0 ≤ T137.heap.size := (Nat.le_trans z138 K137q.1)
      have g_b139 : n0 ≤ b139 := Nat.le_trans z140 (Nat.le_of_eq g139.symm)
      have sz_b139 : h0.size ≤ b139 := Nat.le_trans K137.1 (Nat.le_of_eq g139.symm)
      rw [← g139] at A139 D139 st139
      have K139 : Keep h0 h139 [] := K137.ext E139
      have F_instant_b139 : Fld Z h139 b139 "com/example/tenrec/tenrec/policy/MeasuredWindow$Interval" "instant" "J" (.long (0 : Int64)) := D139 (Or.inr (hw _ (List.mem_of_getElem? (i := 43) rfl))) (ty := .long) (by decide)
      have F_arrivals_b139 : Fld Z h139 b139 "com/example/tenrec/tenrec/policy/MeasuredWindow$Interval" "arrivals" "I" (.int (0 : Int32)) := D139 (Or.inr (hw _ (List.mem_of_getElem? (i := 45) rfl))) (ty := .int) (by decide)
      have z142 : n0 ≤ h139.size := (Nat.le_trans z140 E139.1)
      obtain ⟨v141, T141, L141, X141, q141, st141⟩ := own_callI X139 hx hZ (y := (⟨"com/example/tenrec/tenrec/policy/MeasuredWindow$Interval", "<init>", "(JI)V"⟩ : MethodName)) rfl hown (hw _ (List.mem_of_getElem? (i := 38) rfl)) (hw _ (List.mem_of_getElem? (i := 39) rfl)) (hw _ (List.mem_of_getElem? (i := 37) rfl)) (hw _ (List.mem_of_getElem? (i := 40) rfl)) (by decide) (a := b139) (hM := (rm6 l Z a0 hw [] b139 im ((1 : Int32) + (((p4.toUInt32 >>> ((8 : Int32) &&& 31).toUInt32).toInt32) &&& (255 : Int32))) h139 n0 z142 g_b139 A139 F_instant_b139 F_arrivals_b139)) (by decide) (by decide) (by decide) (by decide) e139 (argsL := [(.long im), (.int ((1 : Int32) + (((p4.toUInt32 >>> ((8 : Int32) &&& 31).toUInt32).toInt32) &&& (255 : Int32))))]) (rest := [(.ref b139)]) (Ls := #[.val (.long q0), .second, .val (.long q2), .second, .val (.int p4), .val (.long lem), .second, .val (.long im), .second, .val (.int (p4 &&& (3 : Int32))), .val (.ref b136), .unset, .unset, .unset, .unset, .unset, .unset, .unset]) (by rw [hml]; rfl) (lenOf pd__JI_V rfl) (W := 1) (Nat.le_of_eq rfl) (hb hby at_130)
      obtain ⟨rfl, N141q, K141q, E141q, F141q⟩ := q141
      have N141 := Fr.app N137 N141q
      have K141 : Keep h0 T141.heap [] := K139.trans K141q (allS (Or.inr sz_b139) all0)
      have f144 := ((F137q.ext E139).keep K141q (ninS (Nat.ne_of_lt (Nat.lt_of_lt_of_le (Nat.lt_of_lt_of_le A136.lt K137q.1) (Nat.le_of_eq g139.symm))) nin0))
      have z145 : n0 ≤ T141.heap.size := (Nat.le_trans z142 K141q.1)
      have f146 := ((E137q.ext E139).keep K141q)
      obtain ⟨v143, T143, L143, X143, q143, st143⟩ := own_callV X141 hx hZ (y := (⟨"com/example/tenrec/tenrec/policy/MeasuredWindow", "leavesAt", "(Lcom/example/tenrec/tenrec/policy/MeasuredWindow$Interval;)J"⟩ : MethodName)) (z := (⟨"com/example/tenrec/tenrec/policy/MeasuredWindow", "leavesAt", "(Lcom/example/tenrec/tenrec/policy/MeasuredWindow$Interval;)J"⟩ : MethodName)) hown (hw _ (List.mem_of_getElem? (i := 46) rfl)) (hw _ (List.mem_of_getElem? (i := 47) rfl)) (notFace_of_selects (args := #[]) (mvT hZ (hw _ (List.mem_of_getElem? (i := 49) rfl)))) (hw _ (List.mem_of_getElem? (i := 49) rfl)) (hw _ (List.mem_of_getElem? (i := 48) rfl)) (hw _ (List.mem_of_getElem? (i := 7) rfl)) (hw _ (List.mem_of_getElem? (i := 50) rfl)) (by decide) f146 (hM := (rm7 l Z a0 hw [] b136 b139 im lem T141.heap n0 z145 F141q f144)) (by decide) (by decide) (by decide) (by decide) rfl (argsL := [(.ref b139)]) (rest := []) (Ls := #[.val (.long q0), .second, .val (.long q2), .second, .val (.int p4), .val (.long lem), .second, .val (.long im), .second, .val (.int (p4 &&& (3 : Int32))), .val (.ref b136), .val (.ref b139), .unset, .unset, .unset, .unset, .unset, .unset]) (by rw [hml]; rfl) (lenOf pd__Lcom_example_tenrec_tenrec_policy_MeasuredWindow_Interval__J rfl) (W := 0) (Nat.le_of_eq rfl) (hb hby at_139)
      obtain ⟨rfl, N143q, e143⟩ := q143
      have N143 := Fr.app N141 N143q
      refine Gl.pre (S' := T143.setTop (mkF m 155 #[.val (.long q0), .second, .val (.long q2), .second, .val (.int p4), .val (.long lem), .second, .val (.long im), .second, .val (.int (p4 &&& (3 : Int32))), .val (.ref b136), .val (.ref b139), .val (.long (if ((9223372036854775807 : Int64) - lem) < im then (9223372036854775807 : Int64) else (im + lem))), .second, .val (.long (im + lem)), .second, .unset, .unset] [(.int (lcmpW (im + lem) (0 : Int64)))])) (fun t kt => ?_) ?_
      · show Steps p.tables e below (T135.setTop (mkF m 102 #[.val (.long q0), .second, .val (.long q2), .second, .val (.int p4), .val (.long lem), .second, .val (.long im), .second, .val (.int (p4 &&& (3 : Int32))), .unset, .unset, .unset, .unset, .unset, .unset, .unset, .unset] [])) _
        refine st136 _ ?_
        show Steps p.tables e below (T136.setTop (mkF m 105 #[.val (.long q0), .second, .val (.long q2), .second, .val (.int p4), .val (.long lem), .second, .val (.long im), .second, .val (.int (p4 &&& (3 : Int32))), .unset, .unset, .unset, .unset, .unset, .unset, .unset, .unset] [(.ref b136)])) _
        refine XS.dup X136.here hx rfl (hb hby at_105) rfl rfl ?_
        show Steps p.tables e below (T136.setTop (mkF m 106 #[.val (.long q0), .second, .val (.long q2), .second, .val (.int p4), .val (.long lem), .second, .val (.long im), .second, .val (.int (p4 &&& (3 : Int32))), .unset, .unset, .unset, .unset, .unset, .unset, .unset, .unset] [(.ref b136), (.ref b136)])) _
        refine XS.lload X136.here hx rfl (hb hby at_106) rfl ?_
        show Steps p.tables e below (T136.setTop (mkF m 108 #[.val (.long q0), .second, .val (.long q2), .second, .val (.int p4), .val (.long lem), .second, .val (.long im), .second, .val (.int (p4 &&& (3 : Int32))), .unset, .unset, .unset, .unset, .unset, .unset, .unset, .unset] [(.long lem), (.ref b136), (.ref b136)])) _
        refine st137 _ ?_
        show Steps p.tables e below (T137.setTop (mkF m 111 #[.val (.long q0), .second, .val (.long q2), .second, .val (.int p4), .val (.long lem), .second, .val (.long im), .second, .val (.int (p4 &&& (3 : Int32))), .unset, .unset, .unset, .unset, .unset, .unset, .unset, .unset] [(.ref b136)])) _
        refine XS.astore X137.here hx rfl (hb hby at_111) rfl rfl (l' := #[.val (.long q0), .second, .val (.long q2), .second, .val (.int p4), .val (.long lem), .second, .val (.long im), .second, .val (.int (p4 &&& (3 : Int32))), .val (.ref b136), .unset, .unset, .unset, .unset, .unset, .unset, .unset]) rfl ?_
        show Steps p.tables e below (T137.setTop (mkF m 113 #[.val (.long q0), .second, .val (.long q2), .second, .val (.int p4), .val (.long lem), .second, .val (.long im), .second, .val (.int (p4 &&& (3 : Int32))), .val (.ref b136), .unset, .unset, .unset, .unset, .unset, .unset, .unset] [])) _
        refine st139 _ ?_
        show Steps p.tables e below (T139.setTop (mkF m 116 #[.val (.long q0), .second, .val (.long q2), .second, .val (.int p4), .val (.long lem), .second, .val (.long im), .second, .val (.int (p4 &&& (3 : Int32))), .val (.ref b136), .unset, .unset, .unset, .unset, .unset, .unset, .unset] [(.ref b139)])) _
        refine XS.dup X139.here hx rfl (hb hby at_116) rfl rfl ?_
        show Steps p.tables e below (T139.setTop (mkF m 117 #[.val (.long q0), .second, .val (.long q2), .second, .val (.int p4), .val (.long lem), .second, .val (.long im), .second, .val (.int (p4 &&& (3 : Int32))), .val (.ref b136), .unset, .unset, .unset, .unset, .unset, .unset, .unset] [(.ref b139), (.ref b139)])) _
        refine XS.lload X139.here hx rfl (hb hby at_117) rfl ?_
        show Steps p.tables e below (T139.setTop (mkF m 119 #[.val (.long q0), .second, .val (.long q2), .second, .val (.int p4), .val (.long lem), .second, .val (.long im), .second, .val (.int (p4 &&& (3 : Int32))), .val (.ref b136), .unset, .unset, .unset, .unset, .unset, .unset, .unset] [(.long im), (.ref b139), (.ref b139)])) _
        refine XS.iconst X139.here hx rfl (hb hby at_119) ?_
        show Steps p.tables e below (T139.setTop (mkF m 120 #[.val (.long q0), .second, .val (.long q2), .second, .val (.int p4), .val (.long lem), .second, .val (.long im), .second, .val (.int (p4 &&& (3 : Int32))), .val (.ref b136), .unset, .unset, .unset, .unset, .unset, .unset, .unset] [(.int (1 : Int32)), (.long im), (.ref b139), (.ref b139)])) _
        refine XS.iload X139.here hx rfl (hb hby at_120) rfl ?_
        show Steps p.tables e below (T139.setTop (mkF m 122 #[.val (.long q0), .second, .val (.long q2), .second, .val (.int p4), .val (.long lem), .second, .val (.long im), .second, .val (.int (p4 &&& (3 : Int32))), .val (.ref b136), .unset, .unset, .unset, .unset, .unset, .unset, .unset] [(.int p4), (.int (1 : Int32)), (.long im), (.ref b139), (.ref b139)])) _
        refine XS.bipush X139.here hx rfl (hb hby at_122) ?_
        show Steps p.tables e below (T139.setTop (mkF m 124 #[.val (.long q0), .second, .val (.long q2), .second, .val (.int p4), .val (.long lem), .second, .val (.long im), .second, .val (.int (p4 &&& (3 : Int32))), .val (.ref b136), .unset, .unset, .unset, .unset, .unset, .unset, .unset] [(.int (8 : Int32)), (.int p4), (.int (1 : Int32)), (.long im), (.ref b139), (.ref b139)])) _
        refine XS.iushr X139.here hx rfl (hb hby at_124) rfl ?_
        show Steps p.tables e below (T139.setTop (mkF m 125 #[.val (.long q0), .second, .val (.long q2), .second, .val (.int p4), .val (.long lem), .second, .val (.long im), .second, .val (.int (p4 &&& (3 : Int32))), .val (.ref b136), .unset, .unset, .unset, .unset, .unset, .unset, .unset] [(.int ((p4.toUInt32 >>> ((8 : Int32) &&& 31).toUInt32).toInt32)), (.int (1 : Int32)), (.long im), (.ref b139), (.ref b139)])) _
        refine XS.sipush X139.here hx rfl (hb hby at_125) ?_
        show Steps p.tables e below (T139.setTop (mkF m 128 #[.val (.long q0), .second, .val (.long q2), .second, .val (.int p4), .val (.long lem), .second, .val (.long im), .second, .val (.int (p4 &&& (3 : Int32))), .val (.ref b136), .unset, .unset, .unset, .unset, .unset, .unset, .unset] [(.int (255 : Int32)), (.int ((p4.toUInt32 >>> ((8 : Int32) &&& 31).toUInt32).toInt32)), (.int (1 : Int32)), (.long im), (.ref b139), (.ref b139)])) _
        refine XS.iand X139.here hx rfl (hb hby at_128) rfl ?_
        show Steps p.tables e below (T139.setTop (mkF m 129 #[.val (.long q0), .second, .val (.long q2), .second, .val (.int p4), .val (.long lem), .second, .val (.long im), .second, .val (.int (p4 &&& (3 : Int32))), .val (.ref b136), .unset, .unset, .unset, .unset, .unset, .unset, .unset] [(.int (((p4.toUInt32 >>> ((8 : Int32) &&& 31).toUInt32).toInt32) &&& (255 : Int32))), (.int (1 : Int32)), (.long im), (.ref b139), (.ref b139)])) _
        refine XS.iadd X139.here hx rfl (hb hby at_129) rfl ?_
        show Steps p.tables e below (T139.setTop (mkF m 130 #[.val (.long q0), .second, .val (.long q2), .second, .val (.int p4), .val (.long lem), .second, .val (.long im), .second, .val (.int (p4 &&& (3 : Int32))), .val (.ref b136), .unset, .unset, .unset, .unset, .unset, .unset, .unset] [(.int ((1 : Int32) + (((p4.toUInt32 >>> ((8 : Int32) &&& 31).toUInt32).toInt32) &&& (255 : Int32)))), (.long im), (.ref b139), (.ref b139)])) _
        refine st141 _ ?_
        show Steps p.tables e below (T141.setTop (mkF m 133 #[.val (.long q0), .second, .val (.long q2), .second, .val (.int p4), .val (.long lem), .second, .val (.long im), .second, .val (.int (p4 &&& (3 : Int32))), .val (.ref b136), .unset, .unset, .unset, .unset, .unset, .unset, .unset] [(.ref b139)])) _
        refine XS.astore X141.here hx rfl (hb hby at_133) rfl rfl (l' := #[.val (.long q0), .second, .val (.long q2), .second, .val (.int p4), .val (.long lem), .second, .val (.long im), .second, .val (.int (p4 &&& (3 : Int32))), .val (.ref b136), .val (.ref b139), .unset, .unset, .unset, .unset, .unset, .unset]) rfl ?_
        show Steps p.tables e below (T141.setTop (mkF m 135 #[.val (.long q0), .second, .val (.long q2), .second, .val (.int p4), .val (.long lem), .second, .val (.long im), .second, .val (.int (p4 &&& (3 : Int32))), .val (.ref b136), .val (.ref b139), .unset, .unset, .unset, .unset, .unset, .unset] [])) _
        refine XS.aload X141.here hx rfl (hb hby at_135) rfl rfl ?_
        show Steps p.tables e below (T141.setTop (mkF m 137 #[.val (.long q0), .second, .val (.long q2), .second, .val (.int p4), .val (.long lem), .second, .val (.long im), .second, .val (.int (p4 &&& (3 : Int32))), .val (.ref b136), .val (.ref b139), .unset, .unset, .unset, .unset, .unset, .unset] [(.ref b136)])) _
        refine XS.aload X141.here hx rfl (hb hby at_137) rfl rfl ?_
        show Steps p.tables e below (T141.setTop (mkF m 139 #[.val (.long q0), .second, .val (.long q2), .second, .val (.int p4), .val (.long lem), .second, .val (.long im), .second, .val (.int (p4 &&& (3 : Int32))), .val (.ref b136), .val (.ref b139), .unset, .unset, .unset, .unset, .unset, .unset] [(.ref b139), (.ref b136)])) _
        refine st143 _ ?_
        show Steps p.tables e below (T143.setTop (mkF m 142 #[.val (.long q0), .second, .val (.long q2), .second, .val (.int p4), .val (.long lem), .second, .val (.long im), .second, .val (.int (p4 &&& (3 : Int32))), .val (.ref b136), .val (.ref b139), .unset, .unset, .unset, .unset, .unset, .unset] [(.long (if ((9223372036854775807 : Int64) - lem) < im then (9223372036854775807 : Int64) else (im + lem)))])) _
        refine XS.lstore X143.here hx rfl (hb hby at_142) rfl (l' := #[.val (.long q0), .second, .val (.long q2), .second, .val (.int p4), .val (.long lem), .second, .val (.long im), .second, .val (.int (p4 &&& (3 : Int32))), .val (.ref b136), .val (.ref b139), .val (.long (if ((9223372036854775807 : Int64) - lem) < im then (9223372036854775807 : Int64) else (im + lem))), .second, .unset, .unset, .unset, .unset]) rfl ?_
        show Steps p.tables e below (T143.setTop (mkF m 144 #[.val (.long q0), .second, .val (.long q2), .second, .val (.int p4), .val (.long lem), .second, .val (.long im), .second, .val (.int (p4 &&& (3 : Int32))), .val (.ref b136), .val (.ref b139), .val (.long (if ((9223372036854775807 : Int64) - lem) < im then (9223372036854775807 : Int64) else (im + lem))), .second, .unset, .unset, .unset, .unset] [])) _
        refine XS.lload X143.here hx rfl (hb hby at_144) rfl ?_
        show Steps p.tables e below (T143.setTop (mkF m 146 #[.val (.long q0), .second, .val (.long q2), .second, .val (.int p4), .val (.long lem), .second, .val (.long im), .second, .val (.int (p4 &&& (3 : Int32))), .val (.ref b136), .val (.ref b139), .val (.long (if ((9223372036854775807 : Int64) - lem) < im then (9223372036854775807 : Int64) else (im + lem))), .second, .unset, .unset, .unset, .unset] [(.long im)])) _
        refine XS.lload X143.here hx rfl (hb hby at_146) rfl ?_
        show Steps p.tables e below (T143.setTop (mkF m 148 #[.val (.long q0), .second, .val (.long q2), .second, .val (.int p4), .val (.long lem), .second, .val (.long im), .second, .val (.int (p4 &&& (3 : Int32))), .val (.ref b136), .val (.ref b139), .val (.long (if ((9223372036854775807 : Int64) - lem) < im then (9223372036854775807 : Int64) else (im + lem))), .second, .unset, .unset, .unset, .unset] [(.long lem), (.long im)])) _
        refine XS.ladd X143.here hx rfl (hb hby at_148) rfl ?_
        show Steps p.tables e below (T143.setTop (mkF m 149 #[.val (.long q0), .second, .val (.long q2), .second, .val (.int p4), .val (.long lem), .second, .val (.long im), .second, .val (.int (p4 &&& (3 : Int32))), .val (.ref b136), .val (.ref b139), .val (.long (if ((9223372036854775807 : Int64) - lem) < im then (9223372036854775807 : Int64) else (im + lem))), .second, .unset, .unset, .unset, .unset] [(.long (im + lem))])) _
        refine XS.lstore X143.here hx rfl (hb hby at_149) rfl (l' := #[.val (.long q0), .second, .val (.long q2), .second, .val (.int p4), .val (.long lem), .second, .val (.long im), .second, .val (.int (p4 &&& (3 : Int32))), .val (.ref b136), .val (.ref b139), .val (.long (if ((9223372036854775807 : Int64) - lem) < im then (9223372036854775807 : Int64) else (im + lem))), .second, .val (.long (im + lem)), .second, .unset, .unset]) rfl ?_
        show Steps p.tables e below (T143.setTop (mkF m 151 #[.val (.long q0), .second, .val (.long q2), .second, .val (.int p4), .val (.long lem), .second, .val (.long im), .second, .val (.int (p4 &&& (3 : Int32))), .val (.ref b136), .val (.ref b139), .val (.long (if ((9223372036854775807 : Int64) - lem) < im then (9223372036854775807 : Int64) else (im + lem))), .second, .val (.long (im + lem)), .second, .unset, .unset] [])) _
        refine XS.lload X143.here hx rfl (hb hby at_151) rfl ?_
        show Steps p.tables e below (T143.setTop (mkF m 153 #[.val (.long q0), .second, .val (.long q2), .second, .val (.int p4), .val (.long lem), .second, .val (.long im), .second, .val (.int (p4 &&& (3 : Int32))), .val (.ref b136), .val (.ref b139), .val (.long (if ((9223372036854775807 : Int64) - lem) < im then (9223372036854775807 : Int64) else (im + lem))), .second, .val (.long (im + lem)), .second, .unset, .unset] [(.long (im + lem))])) _
        refine XS.lconst X143.here hx rfl (hb hby at_153) ?_
        show Steps p.tables e below (T143.setTop (mkF m 154 #[.val (.long q0), .second, .val (.long q2), .second, .val (.int p4), .val (.long lem), .second, .val (.long im), .second, .val (.int (p4 &&& (3 : Int32))), .val (.ref b136), .val (.ref b139), .val (.long (if ((9223372036854775807 : Int64) - lem) < im then (9223372036854775807 : Int64) else (im + lem))), .second, .val (.long (im + lem)), .second, .unset, .unset] [(.long (0 : Int64)), (.long (im + lem))])) _
        refine XS.lcmp X143.here hx rfl (hb hby at_154) rfl ?_
        exact kt
      by_cases hc155 : (im + lem) < (0 : Int64)
      · refine Gl.fin X143 (v := some (.int (1 : Int32))) (fun h => by rw [Bd.returns] at h; cases h) Bd.notSynchronized ?_ e143 (by decide) (by decide) (fun fs hr => ?_)
        · exact ⟨rfl, N143⟩
        · show Steps p.tables e below (T143.setTop (mkF m 155 #[.val (.long q0), .second, .val (.long q2), .second, .val (.int p4), .val (.long lem), .second, .val (.long im), .second, .val (.int (p4 &&& (3 : Int32))), .val (.ref b136), .val (.ref b139), .val (.long (if ((9223372036854775807 : Int64) - lem) < im then (9223372036854775807 : Int64) else (im + lem))), .second, .val (.long (im + lem)), .second, .unset, .unset] [(.int (lcmpW (im + lem) (0 : Int64)))])) _
          refine XS.ifNo X143.here hx rfl (hb hby at_155) rfl (own_nf (l0_ge _ _) hc155) ?_
          show Steps p.tables e below (T143.setTop (mkF m 158 #[.val (.long q0), .second, .val (.long q2), .second, .val (.int p4), .val (.long lem), .second, .val (.long im), .second, .val (.int (p4 &&& (3 : Int32))), .val (.ref b136), .val (.ref b139), .val (.long (if ((9223372036854775807 : Int64) - lem) < im then (9223372036854775807 : Int64) else (im + lem))), .second, .val (.long (im + lem)), .second, .unset, .unset] [])) _
          refine X143.ldc2Long hx hown (mvT hZ (hw _ (List.mem_of_getElem? (i := 0) rfl))) (g := (mkF m 158 #[.val (.long q0), .second, .val (.long q2), .second, .val (.int p4), .val (.long lem), .second, .val (.long im), .second, .val (.int (p4 &&& (3 : Int32))), .val (.ref b136), .val (.ref b139), .val (.long (if ((9223372036854775807 : Int64) - lem) < im then (9223372036854775807 : Int64) else (im + lem))), .second, .val (.long (im + lem)), .second, .unset, .unset] [])) rfl (hb hby at_158) _ ?_
          show Steps p.tables e below (T143.setTop (mkF m 161 #[.val (.long q0), .second, .val (.long q2), .second, .val (.int p4), .val (.long lem), .second, .val (.long im), .second, .val (.int (p4 &&& (3 : Int32))), .val (.ref b136), .val (.ref b139), .val (.long (if ((9223372036854775807 : Int64) - lem) < im then (9223372036854775807 : Int64) else (im + lem))), .second, .val (.long (im + lem)), .second, .unset, .unset] [(.long (9223372036854775807 : Int64))])) _
          refine XS.goto X143.here hx rfl (pc0 := 161) (pc' := 166) rfl (hb hby at_161) (by decide) (by decide) ?_
          show Steps p.tables e below (T143.setTop (mkF m 166 #[.val (.long q0), .second, .val (.long q2), .second, .val (.int p4), .val (.long lem), .second, .val (.long im), .second, .val (.int (p4 &&& (3 : Int32))), .val (.ref b136), .val (.ref b139), .val (.long (if ((9223372036854775807 : Int64) - lem) < im then (9223372036854775807 : Int64) else (im + lem))), .second, .val (.long (im + lem)), .second, .unset, .unset] [(.long (9223372036854775807 : Int64))])) _
          refine XS.lstore X143.here hx rfl (hb hby at_166) rfl (l' := #[.val (.long q0), .second, .val (.long q2), .second, .val (.int p4), .val (.long lem), .second, .val (.long im), .second, .val (.int (p4 &&& (3 : Int32))), .val (.ref b136), .val (.ref b139), .val (.long (if ((9223372036854775807 : Int64) - lem) < im then (9223372036854775807 : Int64) else (im + lem))), .second, .val (.long (im + lem)), .second, .val (.long (9223372036854775807 : Int64)), .second]) rfl ?_
          show Steps p.tables e below (T143.setTop (mkF m 168 #[.val (.long q0), .second, .val (.long q2), .second, .val (.int p4), .val (.long lem), .second, .val (.long im), .second, .val (.int (p4 &&& (3 : Int32))), .val (.ref b136), .val (.ref b139), .val (.long (if ((9223372036854775807 : Int64) - lem) < im then (9223372036854775807 : Int64) else (im + lem))), .second, .val (.long (im + lem)), .second, .val (.long (9223372036854775807 : Int64)), .second] [])) _
          refine XS.lload X143.here hx rfl (hb hby at_168) rfl ?_
          show Steps p.tables e below (T143.setTop (mkF m 170 #[.val (.long q0), .second, .val (.long q2), .second, .val (.int p4), .val (.long lem), .second, .val (.long im), .second, .val (.int (p4 &&& (3 : Int32))), .val (.ref b136), .val (.ref b139), .val (.long (if ((9223372036854775807 : Int64) - lem) < im then (9223372036854775807 : Int64) else (im + lem))), .second, .val (.long (im + lem)), .second, .val (.long (9223372036854775807 : Int64)), .second] [(.long (if ((9223372036854775807 : Int64) - lem) < im then (9223372036854775807 : Int64) else (im + lem)))])) _
          refine XS.lload X143.here hx rfl (hb hby at_170) rfl ?_
          show Steps p.tables e below (T143.setTop (mkF m 172 #[.val (.long q0), .second, .val (.long q2), .second, .val (.int p4), .val (.long lem), .second, .val (.long im), .second, .val (.int (p4 &&& (3 : Int32))), .val (.ref b136), .val (.ref b139), .val (.long (if ((9223372036854775807 : Int64) - lem) < im then (9223372036854775807 : Int64) else (im + lem))), .second, .val (.long (im + lem)), .second, .val (.long (9223372036854775807 : Int64)), .second] [(.long (9223372036854775807 : Int64)), (.long (if ((9223372036854775807 : Int64) - lem) < im then (9223372036854775807 : Int64) else (im + lem)))])) _
          refine XS.lcmp X143.here hx rfl (hb hby at_172) rfl ?_
          show Steps p.tables e below (T143.setTop (mkF m 173 #[.val (.long q0), .second, .val (.long q2), .second, .val (.int p4), .val (.long lem), .second, .val (.long im), .second, .val (.int (p4 &&& (3 : Int32))), .val (.ref b136), .val (.ref b139), .val (.long (if ((9223372036854775807 : Int64) - lem) < im then (9223372036854775807 : Int64) else (im + lem))), .second, .val (.long (im + lem)), .second, .val (.long (9223372036854775807 : Int64)), .second] [(.int (lcmpW (if ((9223372036854775807 : Int64) - lem) < im then (9223372036854775807 : Int64) else (im + lem)) (9223372036854775807 : Int64)))])) _
          refine XS.ifNo X143.here hx rfl (hb hby at_173) rfl (own_nf (l0_ne _ _) (by simp [own_lv him hlem, hc155])) ?_
          show Steps p.tables e below (T143.setTop (mkF m 176 #[.val (.long q0), .second, .val (.long q2), .second, .val (.int p4), .val (.long lem), .second, .val (.long im), .second, .val (.int (p4 &&& (3 : Int32))), .val (.ref b136), .val (.ref b139), .val (.long (if ((9223372036854775807 : Int64) - lem) < im then (9223372036854775807 : Int64) else (im + lem))), .second, .val (.long (im + lem)), .second, .val (.long (9223372036854775807 : Int64)), .second] [])) _
          refine XS.iconst X143.here hx rfl (hb hby at_176) ?_
          show Steps p.tables e below (T143.setTop (mkF m 177 #[.val (.long q0), .second, .val (.long q2), .second, .val (.int p4), .val (.long lem), .second, .val (.long im), .second, .val (.int (p4 &&& (3 : Int32))), .val (.ref b136), .val (.ref b139), .val (.long (if ((9223372036854775807 : Int64) - lem) < im then (9223372036854775807 : Int64) else (im + lem))), .second, .val (.long (im + lem)), .second, .val (.long (9223372036854775807 : Int64)), .second] [(.int (1 : Int32))])) _
          refine XS.goto X143.here hx rfl (pc0 := 177) (pc' := 181) rfl (hb hby at_177) (by decide) (by decide) ?_
          show Steps p.tables e below (T143.setTop (mkF m 181 #[.val (.long q0), .second, .val (.long q2), .second, .val (.int p4), .val (.long lem), .second, .val (.long im), .second, .val (.int (p4 &&& (3 : Int32))), .val (.ref b136), .val (.ref b139), .val (.long (if ((9223372036854775807 : Int64) - lem) < im then (9223372036854775807 : Int64) else (im + lem))), .second, .val (.long (im + lem)), .second, .val (.long (9223372036854775807 : Int64)), .second] [(.int (1 : Int32))])) _
          exact retN X143 hx (t := .boolean) Bd.returns (by simp) (hb hby at_181) hr
      · refine Gl.fin X143 (v := some (.int (1 : Int32))) (fun h => by rw [Bd.returns] at h; cases h) Bd.notSynchronized ?_ e143 (by decide) (by decide) (fun fs hr => ?_)
        · exact ⟨rfl, N143⟩
        · show Steps p.tables e below (T143.setTop (mkF m 155 #[.val (.long q0), .second, .val (.long q2), .second, .val (.int p4), .val (.long lem), .second, .val (.long im), .second, .val (.int (p4 &&& (3 : Int32))), .val (.ref b136), .val (.ref b139), .val (.long (if ((9223372036854775807 : Int64) - lem) < im then (9223372036854775807 : Int64) else (im + lem))), .second, .val (.long (im + lem)), .second, .unset, .unset] [(.int (lcmpW (im + lem) (0 : Int64)))])) _
          refine XS.ifYes X143.here hx rfl (pc0 := 155) (pc' := 164) rfl (hb hby at_155) rfl (own_nt (l0_ge _ _) hc155) (by decide) (by decide) ?_
          show Steps p.tables e below (T143.setTop (mkF m 164 #[.val (.long q0), .second, .val (.long q2), .second, .val (.int p4), .val (.long lem), .second, .val (.long im), .second, .val (.int (p4 &&& (3 : Int32))), .val (.ref b136), .val (.ref b139), .val (.long (if ((9223372036854775807 : Int64) - lem) < im then (9223372036854775807 : Int64) else (im + lem))), .second, .val (.long (im + lem)), .second, .unset, .unset] [])) _
          refine XS.lload X143.here hx rfl (hb hby at_164) rfl ?_
          show Steps p.tables e below (T143.setTop (mkF m 166 #[.val (.long q0), .second, .val (.long q2), .second, .val (.int p4), .val (.long lem), .second, .val (.long im), .second, .val (.int (p4 &&& (3 : Int32))), .val (.ref b136), .val (.ref b139), .val (.long (if ((9223372036854775807 : Int64) - lem) < im then (9223372036854775807 : Int64) else (im + lem))), .second, .val (.long (im + lem)), .second, .unset, .unset] [(.long (im + lem))])) _
          refine XS.lstore X143.here hx rfl (hb hby at_166) rfl (l' := #[.val (.long q0), .second, .val (.long q2), .second, .val (.int p4), .val (.long lem), .second, .val (.long im), .second, .val (.int (p4 &&& (3 : Int32))), .val (.ref b136), .val (.ref b139), .val (.long (if ((9223372036854775807 : Int64) - lem) < im then (9223372036854775807 : Int64) else (im + lem))), .second, .val (.long (im + lem)), .second, .val (.long (im + lem)), .second]) rfl ?_
          show Steps p.tables e below (T143.setTop (mkF m 168 #[.val (.long q0), .second, .val (.long q2), .second, .val (.int p4), .val (.long lem), .second, .val (.long im), .second, .val (.int (p4 &&& (3 : Int32))), .val (.ref b136), .val (.ref b139), .val (.long (if ((9223372036854775807 : Int64) - lem) < im then (9223372036854775807 : Int64) else (im + lem))), .second, .val (.long (im + lem)), .second, .val (.long (im + lem)), .second] [])) _
          refine XS.lload X143.here hx rfl (hb hby at_168) rfl ?_
          show Steps p.tables e below (T143.setTop (mkF m 170 #[.val (.long q0), .second, .val (.long q2), .second, .val (.int p4), .val (.long lem), .second, .val (.long im), .second, .val (.int (p4 &&& (3 : Int32))), .val (.ref b136), .val (.ref b139), .val (.long (if ((9223372036854775807 : Int64) - lem) < im then (9223372036854775807 : Int64) else (im + lem))), .second, .val (.long (im + lem)), .second, .val (.long (im + lem)), .second] [(.long (if ((9223372036854775807 : Int64) - lem) < im then (9223372036854775807 : Int64) else (im + lem)))])) _
          refine XS.lload X143.here hx rfl (hb hby at_170) rfl ?_
          show Steps p.tables e below (T143.setTop (mkF m 172 #[.val (.long q0), .second, .val (.long q2), .second, .val (.int p4), .val (.long lem), .second, .val (.long im), .second, .val (.int (p4 &&& (3 : Int32))), .val (.ref b136), .val (.ref b139), .val (.long (if ((9223372036854775807 : Int64) - lem) < im then (9223372036854775807 : Int64) else (im + lem))), .second, .val (.long (im + lem)), .second, .val (.long (im + lem)), .second] [(.long (im + lem)), (.long (if ((9223372036854775807 : Int64) - lem) < im then (9223372036854775807 : Int64) else (im + lem)))])) _
          refine XS.lcmp X143.here hx rfl (hb hby at_172) rfl ?_
          show Steps p.tables e below (T143.setTop (mkF m 173 #[.val (.long q0), .second, .val (.long q2), .second, .val (.int p4), .val (.long lem), .second, .val (.long im), .second, .val (.int (p4 &&& (3 : Int32))), .val (.ref b136), .val (.ref b139), .val (.long (if ((9223372036854775807 : Int64) - lem) < im then (9223372036854775807 : Int64) else (im + lem))), .second, .val (.long (im + lem)), .second, .val (.long (im + lem)), .second] [(.int (lcmpW (if ((9223372036854775807 : Int64) - lem) < im then (9223372036854775807 : Int64) else (im + lem)) (im + lem)))])) _
          refine XS.ifNo X143.here hx rfl (hb hby at_173) rfl (own_nf (l0_ne _ _) (by simp [own_lv him hlem, hc155])) ?_
          show Steps p.tables e below (T143.setTop (mkF m 176 #[.val (.long q0), .second, .val (.long q2), .second, .val (.int p4), .val (.long lem), .second, .val (.long im), .second, .val (.int (p4 &&& (3 : Int32))), .val (.ref b136), .val (.ref b139), .val (.long (if ((9223372036854775807 : Int64) - lem) < im then (9223372036854775807 : Int64) else (im + lem))), .second, .val (.long (im + lem)), .second, .val (.long (im + lem)), .second] [])) _
          refine XS.iconst X143.here hx rfl (hb hby at_176) ?_
          show Steps p.tables e below (T143.setTop (mkF m 177 #[.val (.long q0), .second, .val (.long q2), .second, .val (.int p4), .val (.long lem), .second, .val (.long im), .second, .val (.int (p4 &&& (3 : Int32))), .val (.ref b136), .val (.ref b139), .val (.long (if ((9223372036854775807 : Int64) - lem) < im then (9223372036854775807 : Int64) else (im + lem))), .second, .val (.long (im + lem)), .second, .val (.long (im + lem)), .second] [(.int (1 : Int32))])) _
          refine XS.goto X143.here hx rfl (pc0 := 177) (pc' := 181) rfl (hb hby at_177) (by decide) (by decide) ?_
          show Steps p.tables e below (T143.setTop (mkF m 181 #[.val (.long q0), .second, .val (.long q2), .second, .val (.int p4), .val (.long lem), .second, .val (.long im), .second, .val (.int (p4 &&& (3 : Int32))), .val (.ref b136), .val (.ref b139), .val (.long (if ((9223372036854775807 : Int64) - lem) < im then (9223372036854775807 : Int64) else (im + lem))), .second, .val (.long (im + lem)), .second, .val (.long (im + lem)), .second] [(.int (1 : Int32))])) _
          exact retN X143 hx (t := .boolean) Bd.returns (by simp) (hb hby at_181) hr
    · obtain ⟨T147, h147, X147, e147, E147, A147, D147, -, st147⟩ := newO X101 hx hZ hown (hw _ (List.mem_of_getElem? (i := 5) rfl)) (hw _ (List.mem_of_getElem? (i := 6) rfl)) (hw _ (List.mem_of_getElem? (i := 7) rfl)) e101 (g := (mkF m 102 #[.val (.long q0), .second, .val (.long q2), .second, .val (.int p4), .val (.long len), .second, .val (.long ins), .second, .val (.int (p4 &&& (3 : Int32))), .unset, .unset, .unset, .unset, .unset, .unset, .unset, .unset] [])) rfl (hb hby at_102) (by decide) (by decide)
      obtain ⟨b147, g147⟩ : ∃ z, z = h0.size := ⟨_, rfl⟩
      have g_b147 : n0 ≤ b147 := Nat.le_trans Z0 (Nat.le_of_eq g147.symm)
      have sz_b147 : h0.size ≤ b147 := Nat.le_trans K0.1 (Nat.le_of_eq g147.symm)
      rw [← g147] at A147 D147 st147
      have K147 : Keep h0 h147 [] := K0.ext E147
      have F_arrived_b147 : Fld Z h147 b147 "com/example/tenrec/tenrec/policy/MeasuredWindow" "arrived" "Ljava/util/ArrayDeque;" .null := D147 (Or.inr (hw _ (List.mem_of_getElem? (i := 32) rfl))) (ty := (.object "java/util/ArrayDeque")) (by decide)
      have F_length_b147 : Fld Z h147 b147 "com/example/tenrec/tenrec/policy/MeasuredWindow" "length" "J" (.long (0 : Int64)) := D147 (Or.inr (hw _ (List.mem_of_getElem? (i := 34) rfl))) (ty := .long) (by decide)
      have z149 : n0 ≤ h147.size := (Nat.le_trans Z0 E147.1)
      obtain ⟨v148, T148, L148, X148, q148, st148⟩ := own_callI X147 hx hZ (y := (⟨"com/example/tenrec/tenrec/policy/MeasuredWindow", "<init>", "(J)V"⟩ : MethodName)) rfl hown (hw _ (List.mem_of_getElem? (i := 8) rfl)) (hw _ (List.mem_of_getElem? (i := 9) rfl)) (hw _ (List.mem_of_getElem? (i := 7) rfl)) (hw _ (List.mem_of_getElem? (i := 10) rfl)) (by decide) (a := b147) (hM := (rm2 l Z a0 hw [] b147 len h147 n0 z149 g_b147 A147 F_arrived_b147 F_length_b147)) (by decide) (by decide) (by decide) (by decide) e147 (argsL := [(.long len)]) (rest := [(.ref b147)]) (Ls := #[.val (.long q0), .second, .val (.long q2), .second, .val (.int p4), .val (.long len), .second, .val (.long ins), .second, .val (.int (p4 &&& (3 : Int32))), .unset, .unset, .unset, .unset, .unset, .unset, .unset, .unset]) (by rw [hml]; rfl) (lenOf pd__J_V rfl) (W := 1) (Nat.le_of_eq rfl) (hb hby at_108)
      obtain ⟨rfl, N148q, K148q, E148q, F148q⟩ := q148
      have N148 := Fr.app N101 N148q
      have K148 : Keep h0 T148.heap [] := K147.trans K148q (allS (Or.inr sz_b147) all0)
      obtain ⟨T150, h150, X150, e150, E150, A150, D150, -, st150⟩ := newO X148 hx hZ hown (hw _ (List.mem_of_getElem? (i := 35) rfl)) (hw _ (List.mem_of_getElem? (i := 36) rfl)) (hw _ (List.mem_of_getElem? (i := 37) rfl)) rfl (g := (mkF m 113 #[.val (.long q0), .second, .val (.long q2), .second, .val (.int p4), .val (.long len), .second, .val (.long ins), .second, .val (.int (p4 &&& (3 : Int32))), .val (.ref b147), .unset, .unset, .unset, .unset, .unset, .unset, .unset] [])) rfl (hb hby at_113) (by decide) (by decide)
      obtain ⟨b150, g150⟩ : ∃ z, z = T148.heap.size := ⟨_, rfl⟩
      have z151 : n0 ≤ T148.heap.size := (Nat.le_trans z149 K148q.1)
      have g_b150 : n0 ≤ b150 := Nat.le_trans z151 (Nat.le_of_eq g150.symm)
      have sz_b150 : h0.size ≤ b150 := Nat.le_trans K148.1 (Nat.le_of_eq g150.symm)
      rw [← g150] at A150 D150 st150
      have K150 : Keep h0 h150 [] := K148.ext E150
      have F_instant_b150 : Fld Z h150 b150 "com/example/tenrec/tenrec/policy/MeasuredWindow$Interval" "instant" "J" (.long (0 : Int64)) := D150 (Or.inr (hw _ (List.mem_of_getElem? (i := 43) rfl))) (ty := .long) (by decide)
      have F_arrivals_b150 : Fld Z h150 b150 "com/example/tenrec/tenrec/policy/MeasuredWindow$Interval" "arrivals" "I" (.int (0 : Int32)) := D150 (Or.inr (hw _ (List.mem_of_getElem? (i := 45) rfl))) (ty := .int) (by decide)
      have z153 : n0 ≤ h150.size := (Nat.le_trans z151 E150.1)
      obtain ⟨v152, T152, L152, X152, q152, st152⟩ := own_callI X150 hx hZ (y := (⟨"com/example/tenrec/tenrec/policy/MeasuredWindow$Interval", "<init>", "(JI)V"⟩ : MethodName)) rfl hown (hw _ (List.mem_of_getElem? (i := 38) rfl)) (hw _ (List.mem_of_getElem? (i := 39) rfl)) (hw _ (List.mem_of_getElem? (i := 37) rfl)) (hw _ (List.mem_of_getElem? (i := 40) rfl)) (by decide) (a := b150) (hM := (rm6 l Z a0 hw [] b150 ins ((1 : Int32) + (((p4.toUInt32 >>> ((8 : Int32) &&& 31).toUInt32).toInt32) &&& (255 : Int32))) h150 n0 z153 g_b150 A150 F_instant_b150 F_arrivals_b150)) (by decide) (by decide) (by decide) (by decide) e150 (argsL := [(.long ins), (.int ((1 : Int32) + (((p4.toUInt32 >>> ((8 : Int32) &&& 31).toUInt32).toInt32) &&& (255 : Int32))))]) (rest := [(.ref b150)]) (Ls := #[.val (.long q0), .second, .val (.long q2), .second, .val (.int p4), .val (.long len), .second, .val (.long ins), .second, .val (.int (p4 &&& (3 : Int32))), .val (.ref b147), .unset, .unset, .unset, .unset, .unset, .unset, .unset]) (by rw [hml]; rfl) (lenOf pd__JI_V rfl) (W := 1) (Nat.le_of_eq rfl) (hb hby at_130)
      obtain ⟨rfl, N152q, K152q, E152q, F152q⟩ := q152
      have N152 := Fr.app N148 N152q
      have K152 : Keep h0 T152.heap [] := K150.trans K152q (allS (Or.inr sz_b150) all0)
      have f155 := ((F148q.ext E150).keep K152q (ninS (Nat.ne_of_lt (Nat.lt_of_lt_of_le (Nat.lt_of_lt_of_le A147.lt K148q.1) (Nat.le_of_eq g150.symm))) nin0))
      have z156 : n0 ≤ T152.heap.size := (Nat.le_trans z153 K152q.1)
      have f157 := ((E148q.ext E150).keep K152q)
      obtain ⟨v154, T154, L154, X154, q154, st154⟩ := own_callV X152 hx hZ (y := (⟨"com/example/tenrec/tenrec/policy/MeasuredWindow", "leavesAt", "(Lcom/example/tenrec/tenrec/policy/MeasuredWindow$Interval;)J"⟩ : MethodName)) (z := (⟨"com/example/tenrec/tenrec/policy/MeasuredWindow", "leavesAt", "(Lcom/example/tenrec/tenrec/policy/MeasuredWindow$Interval;)J"⟩ : MethodName)) hown (hw _ (List.mem_of_getElem? (i := 46) rfl)) (hw _ (List.mem_of_getElem? (i := 47) rfl)) (notFace_of_selects (args := #[]) (mvT hZ (hw _ (List.mem_of_getElem? (i := 49) rfl)))) (hw _ (List.mem_of_getElem? (i := 49) rfl)) (hw _ (List.mem_of_getElem? (i := 48) rfl)) (hw _ (List.mem_of_getElem? (i := 7) rfl)) (hw _ (List.mem_of_getElem? (i := 50) rfl)) (by decide) f157 (hM := (rm7 l Z a0 hw [] b147 b150 ins len T152.heap n0 z156 F152q f155)) (by decide) (by decide) (by decide) (by decide) rfl (argsL := [(.ref b150)]) (rest := []) (Ls := #[.val (.long q0), .second, .val (.long q2), .second, .val (.int p4), .val (.long len), .second, .val (.long ins), .second, .val (.int (p4 &&& (3 : Int32))), .val (.ref b147), .val (.ref b150), .unset, .unset, .unset, .unset, .unset, .unset]) (by rw [hml]; rfl) (lenOf pd__Lcom_example_tenrec_tenrec_policy_MeasuredWindow_Interval__J rfl) (W := 0) (Nat.le_of_eq rfl) (hb hby at_139)
      obtain ⟨rfl, N154q, e154⟩ := q154
      have N154 := Fr.app N152 N154q
      refine Gl.pre (S' := T154.setTop (mkF m 155 #[.val (.long q0), .second, .val (.long q2), .second, .val (.int p4), .val (.long len), .second, .val (.long ins), .second, .val (.int (p4 &&& (3 : Int32))), .val (.ref b147), .val (.ref b150), .val (.long (if ((9223372036854775807 : Int64) - len) < ins then (9223372036854775807 : Int64) else (ins + len))), .second, .val (.long (ins + len)), .second, .unset, .unset] [(.int (lcmpW (ins + len) (0 : Int64)))])) (fun t kt => ?_) ?_
      · show Steps p.tables e below (T101.setTop (mkF m 81 #[.val (.long q0), .second, .val (.long q2), .second, .val (.int p4), .val (.long len), .second, .val (.long ins), .second, .val (.int (p4 &&& (3 : Int32))), .unset, .unset, .unset, .unset, .unset, .unset, .unset, .unset] [(.int (2 : Int32)), (.int (p4 &&& (3 : Int32)))])) _
        refine XS.icmpYes X101.here hx rfl (pc0 := 81) (pc' := 102) rfl (hb hby at_81) rfl (own_nt (ic_ne _ _) hc81) (by decide) (by decide) ?_
        show Steps p.tables e below (T101.setTop (mkF m 102 #[.val (.long q0), .second, .val (.long q2), .second, .val (.int p4), .val (.long len), .second, .val (.long ins), .second, .val (.int (p4 &&& (3 : Int32))), .unset, .unset, .unset, .unset, .unset, .unset, .unset, .unset] [])) _
        refine st147 _ ?_
        show Steps p.tables e below (T147.setTop (mkF m 105 #[.val (.long q0), .second, .val (.long q2), .second, .val (.int p4), .val (.long len), .second, .val (.long ins), .second, .val (.int (p4 &&& (3 : Int32))), .unset, .unset, .unset, .unset, .unset, .unset, .unset, .unset] [(.ref b147)])) _
        refine XS.dup X147.here hx rfl (hb hby at_105) rfl rfl ?_
        show Steps p.tables e below (T147.setTop (mkF m 106 #[.val (.long q0), .second, .val (.long q2), .second, .val (.int p4), .val (.long len), .second, .val (.long ins), .second, .val (.int (p4 &&& (3 : Int32))), .unset, .unset, .unset, .unset, .unset, .unset, .unset, .unset] [(.ref b147), (.ref b147)])) _
        refine XS.lload X147.here hx rfl (hb hby at_106) rfl ?_
        show Steps p.tables e below (T147.setTop (mkF m 108 #[.val (.long q0), .second, .val (.long q2), .second, .val (.int p4), .val (.long len), .second, .val (.long ins), .second, .val (.int (p4 &&& (3 : Int32))), .unset, .unset, .unset, .unset, .unset, .unset, .unset, .unset] [(.long len), (.ref b147), (.ref b147)])) _
        refine st148 _ ?_
        show Steps p.tables e below (T148.setTop (mkF m 111 #[.val (.long q0), .second, .val (.long q2), .second, .val (.int p4), .val (.long len), .second, .val (.long ins), .second, .val (.int (p4 &&& (3 : Int32))), .unset, .unset, .unset, .unset, .unset, .unset, .unset, .unset] [(.ref b147)])) _
        refine XS.astore X148.here hx rfl (hb hby at_111) rfl rfl (l' := #[.val (.long q0), .second, .val (.long q2), .second, .val (.int p4), .val (.long len), .second, .val (.long ins), .second, .val (.int (p4 &&& (3 : Int32))), .val (.ref b147), .unset, .unset, .unset, .unset, .unset, .unset, .unset]) rfl ?_
        show Steps p.tables e below (T148.setTop (mkF m 113 #[.val (.long q0), .second, .val (.long q2), .second, .val (.int p4), .val (.long len), .second, .val (.long ins), .second, .val (.int (p4 &&& (3 : Int32))), .val (.ref b147), .unset, .unset, .unset, .unset, .unset, .unset, .unset] [])) _
        refine st150 _ ?_
        show Steps p.tables e below (T150.setTop (mkF m 116 #[.val (.long q0), .second, .val (.long q2), .second, .val (.int p4), .val (.long len), .second, .val (.long ins), .second, .val (.int (p4 &&& (3 : Int32))), .val (.ref b147), .unset, .unset, .unset, .unset, .unset, .unset, .unset] [(.ref b150)])) _
        refine XS.dup X150.here hx rfl (hb hby at_116) rfl rfl ?_
        show Steps p.tables e below (T150.setTop (mkF m 117 #[.val (.long q0), .second, .val (.long q2), .second, .val (.int p4), .val (.long len), .second, .val (.long ins), .second, .val (.int (p4 &&& (3 : Int32))), .val (.ref b147), .unset, .unset, .unset, .unset, .unset, .unset, .unset] [(.ref b150), (.ref b150)])) _
        refine XS.lload X150.here hx rfl (hb hby at_117) rfl ?_
        show Steps p.tables e below (T150.setTop (mkF m 119 #[.val (.long q0), .second, .val (.long q2), .second, .val (.int p4), .val (.long len), .second, .val (.long ins), .second, .val (.int (p4 &&& (3 : Int32))), .val (.ref b147), .unset, .unset, .unset, .unset, .unset, .unset, .unset] [(.long ins), (.ref b150), (.ref b150)])) _
        refine XS.iconst X150.here hx rfl (hb hby at_119) ?_
        show Steps p.tables e below (T150.setTop (mkF m 120 #[.val (.long q0), .second, .val (.long q2), .second, .val (.int p4), .val (.long len), .second, .val (.long ins), .second, .val (.int (p4 &&& (3 : Int32))), .val (.ref b147), .unset, .unset, .unset, .unset, .unset, .unset, .unset] [(.int (1 : Int32)), (.long ins), (.ref b150), (.ref b150)])) _
        refine XS.iload X150.here hx rfl (hb hby at_120) rfl ?_
        show Steps p.tables e below (T150.setTop (mkF m 122 #[.val (.long q0), .second, .val (.long q2), .second, .val (.int p4), .val (.long len), .second, .val (.long ins), .second, .val (.int (p4 &&& (3 : Int32))), .val (.ref b147), .unset, .unset, .unset, .unset, .unset, .unset, .unset] [(.int p4), (.int (1 : Int32)), (.long ins), (.ref b150), (.ref b150)])) _
        refine XS.bipush X150.here hx rfl (hb hby at_122) ?_
        show Steps p.tables e below (T150.setTop (mkF m 124 #[.val (.long q0), .second, .val (.long q2), .second, .val (.int p4), .val (.long len), .second, .val (.long ins), .second, .val (.int (p4 &&& (3 : Int32))), .val (.ref b147), .unset, .unset, .unset, .unset, .unset, .unset, .unset] [(.int (8 : Int32)), (.int p4), (.int (1 : Int32)), (.long ins), (.ref b150), (.ref b150)])) _
        refine XS.iushr X150.here hx rfl (hb hby at_124) rfl ?_
        show Steps p.tables e below (T150.setTop (mkF m 125 #[.val (.long q0), .second, .val (.long q2), .second, .val (.int p4), .val (.long len), .second, .val (.long ins), .second, .val (.int (p4 &&& (3 : Int32))), .val (.ref b147), .unset, .unset, .unset, .unset, .unset, .unset, .unset] [(.int ((p4.toUInt32 >>> ((8 : Int32) &&& 31).toUInt32).toInt32)), (.int (1 : Int32)), (.long ins), (.ref b150), (.ref b150)])) _
        refine XS.sipush X150.here hx rfl (hb hby at_125) ?_
        show Steps p.tables e below (T150.setTop (mkF m 128 #[.val (.long q0), .second, .val (.long q2), .second, .val (.int p4), .val (.long len), .second, .val (.long ins), .second, .val (.int (p4 &&& (3 : Int32))), .val (.ref b147), .unset, .unset, .unset, .unset, .unset, .unset, .unset] [(.int (255 : Int32)), (.int ((p4.toUInt32 >>> ((8 : Int32) &&& 31).toUInt32).toInt32)), (.int (1 : Int32)), (.long ins), (.ref b150), (.ref b150)])) _
        refine XS.iand X150.here hx rfl (hb hby at_128) rfl ?_
        show Steps p.tables e below (T150.setTop (mkF m 129 #[.val (.long q0), .second, .val (.long q2), .second, .val (.int p4), .val (.long len), .second, .val (.long ins), .second, .val (.int (p4 &&& (3 : Int32))), .val (.ref b147), .unset, .unset, .unset, .unset, .unset, .unset, .unset] [(.int (((p4.toUInt32 >>> ((8 : Int32) &&& 31).toUInt32).toInt32) &&& (255 : Int32))), (.int (1 : Int32)), (.long ins), (.ref b150), (.ref b150)])) _
        refine XS.iadd X150.here hx rfl (hb hby at_129) rfl ?_
        show Steps p.tables e below (T150.setTop (mkF m 130 #[.val (.long q0), .second, .val (.long q2), .second, .val (.int p4), .val (.long len), .second, .val (.long ins), .second, .val (.int (p4 &&& (3 : Int32))), .val (.ref b147), .unset, .unset, .unset, .unset, .unset, .unset, .unset] [(.int ((1 : Int32) + (((p4.toUInt32 >>> ((8 : Int32) &&& 31).toUInt32).toInt32) &&& (255 : Int32)))), (.long ins), (.ref b150), (.ref b150)])) _
        refine st152 _ ?_
        show Steps p.tables e below (T152.setTop (mkF m 133 #[.val (.long q0), .second, .val (.long q2), .second, .val (.int p4), .val (.long len), .second, .val (.long ins), .second, .val (.int (p4 &&& (3 : Int32))), .val (.ref b147), .unset, .unset, .unset, .unset, .unset, .unset, .unset] [(.ref b150)])) _
        refine XS.astore X152.here hx rfl (hb hby at_133) rfl rfl (l' := #[.val (.long q0), .second, .val (.long q2), .second, .val (.int p4), .val (.long len), .second, .val (.long ins), .second, .val (.int (p4 &&& (3 : Int32))), .val (.ref b147), .val (.ref b150), .unset, .unset, .unset, .unset, .unset, .unset]) rfl ?_
        show Steps p.tables e below (T152.setTop (mkF m 135 #[.val (.long q0), .second, .val (.long q2), .second, .val (.int p4), .val (.long len), .second, .val (.long ins), .second, .val (.int (p4 &&& (3 : Int32))), .val (.ref b147), .val (.ref b150), .unset, .unset, .unset, .unset, .unset, .unset] [])) _
        refine XS.aload X152.here hx rfl (hb hby at_135) rfl rfl ?_
        show Steps p.tables e below (T152.setTop (mkF m 137 #[.val (.long q0), .second, .val (.long q2), .second, .val (.int p4), .val (.long len), .second, .val (.long ins), .second, .val (.int (p4 &&& (3 : Int32))), .val (.ref b147), .val (.ref b150), .unset, .unset, .unset, .unset, .unset, .unset] [(.ref b147)])) _
        refine XS.aload X152.here hx rfl (hb hby at_137) rfl rfl ?_
        show Steps p.tables e below (T152.setTop (mkF m 139 #[.val (.long q0), .second, .val (.long q2), .second, .val (.int p4), .val (.long len), .second, .val (.long ins), .second, .val (.int (p4 &&& (3 : Int32))), .val (.ref b147), .val (.ref b150), .unset, .unset, .unset, .unset, .unset, .unset] [(.ref b150), (.ref b147)])) _
        refine st154 _ ?_
        show Steps p.tables e below (T154.setTop (mkF m 142 #[.val (.long q0), .second, .val (.long q2), .second, .val (.int p4), .val (.long len), .second, .val (.long ins), .second, .val (.int (p4 &&& (3 : Int32))), .val (.ref b147), .val (.ref b150), .unset, .unset, .unset, .unset, .unset, .unset] [(.long (if ((9223372036854775807 : Int64) - len) < ins then (9223372036854775807 : Int64) else (ins + len)))])) _
        refine XS.lstore X154.here hx rfl (hb hby at_142) rfl (l' := #[.val (.long q0), .second, .val (.long q2), .second, .val (.int p4), .val (.long len), .second, .val (.long ins), .second, .val (.int (p4 &&& (3 : Int32))), .val (.ref b147), .val (.ref b150), .val (.long (if ((9223372036854775807 : Int64) - len) < ins then (9223372036854775807 : Int64) else (ins + len))), .second, .unset, .unset, .unset, .unset]) rfl ?_
        show Steps p.tables e below (T154.setTop (mkF m 144 #[.val (.long q0), .second, .val (.long q2), .second, .val (.int p4), .val (.long len), .second, .val (.long ins), .second, .val (.int (p4 &&& (3 : Int32))), .val (.ref b147), .val (.ref b150), .val (.long (if ((9223372036854775807 : Int64) - len) < ins then (9223372036854775807 : Int64) else (ins + len))), .second, .unset, .unset, .unset, .unset] [])) _
        refine XS.lload X154.here hx rfl (hb hby at_144) rfl ?_
        show Steps p.tables e below (T154.setTop (mkF m 146 #[.val (.long q0), .second, .val (.long q2), .second, .val (.int p4), .val (.long len), .second, .val (.long ins), .second, .val (.int (p4 &&& (3 : Int32))), .val (.ref b147), .val (.ref b150), .val (.long (if ((9223372036854775807 : Int64) - len) < ins then (9223372036854775807 : Int64) else (ins + len))), .second, .unset, .unset, .unset, .unset] [(.long ins)])) _
        refine XS.lload X154.here hx rfl (hb hby at_146) rfl ?_
        show Steps p.tables e below (T154.setTop (mkF m 148 #[.val (.long q0), .second, .val (.long q2), .second, .val (.int p4), .val (.long len), .second, .val (.long ins), .second, .val (.int (p4 &&& (3 : Int32))), .val (.ref b147), .val (.ref b150), .val (.long (if ((9223372036854775807 : Int64) - len) < ins then (9223372036854775807 : Int64) else (ins + len))), .second, .unset, .unset, .unset, .unset] [(.long len), (.long ins)])) _
        refine XS.ladd X154.here hx rfl (hb hby at_148) rfl ?_
        show Steps p.tables e below (T154.setTop (mkF m 149 #[.val (.long q0), .second, .val (.long q2), .second, .val (.int p4), .val (.long len), .second, .val (.long ins), .second, .val (.int (p4 &&& (3 : Int32))), .val (.ref b147), .val (.ref b150), .val (.long (if ((9223372036854775807 : Int64) - len) < ins then (9223372036854775807 : Int64) else (ins + len))), .second, .unset, .unset, .unset, .unset] [(.long (ins + len))])) _
        refine XS.lstore X154.here hx rfl (hb hby at_149) rfl (l' := #[.val (.long q0), .second, .val (.long q2), .second, .val (.int p4), .val (.long len), .second, .val (.long ins), .second, .val (.int (p4 &&& (3 : Int32))), .val (.ref b147), .val (.ref b150), .val (.long (if ((9223372036854775807 : Int64) - len) < ins then (9223372036854775807 : Int64) else (ins + len))), .second, .val (.long (ins + len)), .second, .unset, .unset]) rfl ?_
        show Steps p.tables e below (T154.setTop (mkF m 151 #[.val (.long q0), .second, .val (.long q2), .second, .val (.int p4), .val (.long len), .second, .val (.long ins), .second, .val (.int (p4 &&& (3 : Int32))), .val (.ref b147), .val (.ref b150), .val (.long (if ((9223372036854775807 : Int64) - len) < ins then (9223372036854775807 : Int64) else (ins + len))), .second, .val (.long (ins + len)), .second, .unset, .unset] [])) _
        refine XS.lload X154.here hx rfl (hb hby at_151) rfl ?_
        show Steps p.tables e below (T154.setTop (mkF m 153 #[.val (.long q0), .second, .val (.long q2), .second, .val (.int p4), .val (.long len), .second, .val (.long ins), .second, .val (.int (p4 &&& (3 : Int32))), .val (.ref b147), .val (.ref b150), .val (.long (if ((9223372036854775807 : Int64) - len) < ins then (9223372036854775807 : Int64) else (ins + len))), .second, .val (.long (ins + len)), .second, .unset, .unset] [(.long (ins + len))])) _
        refine XS.lconst X154.here hx rfl (hb hby at_153) ?_
        show Steps p.tables e below (T154.setTop (mkF m 154 #[.val (.long q0), .second, .val (.long q2), .second, .val (.int p4), .val (.long len), .second, .val (.long ins), .second, .val (.int (p4 &&& (3 : Int32))), .val (.ref b147), .val (.ref b150), .val (.long (if ((9223372036854775807 : Int64) - len) < ins then (9223372036854775807 : Int64) else (ins + len))), .second, .val (.long (ins + len)), .second, .unset, .unset] [(.long (0 : Int64)), (.long (ins + len))])) _
        refine XS.lcmp X154.here hx rfl (hb hby at_154) rfl ?_
        exact kt
      by_cases hc155 : (ins + len) < (0 : Int64)
      · refine Gl.fin X154 (v := some (.int (1 : Int32))) (fun h => by rw [Bd.returns] at h; cases h) Bd.notSynchronized ?_ e154 (by decide) (by decide) (fun fs hr => ?_)
        · exact ⟨rfl, N154⟩
        · show Steps p.tables e below (T154.setTop (mkF m 155 #[.val (.long q0), .second, .val (.long q2), .second, .val (.int p4), .val (.long len), .second, .val (.long ins), .second, .val (.int (p4 &&& (3 : Int32))), .val (.ref b147), .val (.ref b150), .val (.long (if ((9223372036854775807 : Int64) - len) < ins then (9223372036854775807 : Int64) else (ins + len))), .second, .val (.long (ins + len)), .second, .unset, .unset] [(.int (lcmpW (ins + len) (0 : Int64)))])) _
          refine XS.ifNo X154.here hx rfl (hb hby at_155) rfl (own_nf (l0_ge _ _) hc155) ?_
          show Steps p.tables e below (T154.setTop (mkF m 158 #[.val (.long q0), .second, .val (.long q2), .second, .val (.int p4), .val (.long len), .second, .val (.long ins), .second, .val (.int (p4 &&& (3 : Int32))), .val (.ref b147), .val (.ref b150), .val (.long (if ((9223372036854775807 : Int64) - len) < ins then (9223372036854775807 : Int64) else (ins + len))), .second, .val (.long (ins + len)), .second, .unset, .unset] [])) _
          refine X154.ldc2Long hx hown (mvT hZ (hw _ (List.mem_of_getElem? (i := 0) rfl))) (g := (mkF m 158 #[.val (.long q0), .second, .val (.long q2), .second, .val (.int p4), .val (.long len), .second, .val (.long ins), .second, .val (.int (p4 &&& (3 : Int32))), .val (.ref b147), .val (.ref b150), .val (.long (if ((9223372036854775807 : Int64) - len) < ins then (9223372036854775807 : Int64) else (ins + len))), .second, .val (.long (ins + len)), .second, .unset, .unset] [])) rfl (hb hby at_158) _ ?_
          show Steps p.tables e below (T154.setTop (mkF m 161 #[.val (.long q0), .second, .val (.long q2), .second, .val (.int p4), .val (.long len), .second, .val (.long ins), .second, .val (.int (p4 &&& (3 : Int32))), .val (.ref b147), .val (.ref b150), .val (.long (if ((9223372036854775807 : Int64) - len) < ins then (9223372036854775807 : Int64) else (ins + len))), .second, .val (.long (ins + len)), .second, .unset, .unset] [(.long (9223372036854775807 : Int64))])) _
          refine XS.goto X154.here hx rfl (pc0 := 161) (pc' := 166) rfl (hb hby at_161) (by decide) (by decide) ?_
          show Steps p.tables e below (T154.setTop (mkF m 166 #[.val (.long q0), .second, .val (.long q2), .second, .val (.int p4), .val (.long len), .second, .val (.long ins), .second, .val (.int (p4 &&& (3 : Int32))), .val (.ref b147), .val (.ref b150), .val (.long (if ((9223372036854775807 : Int64) - len) < ins then (9223372036854775807 : Int64) else (ins + len))), .second, .val (.long (ins + len)), .second, .unset, .unset] [(.long (9223372036854775807 : Int64))])) _
          refine XS.lstore X154.here hx rfl (hb hby at_166) rfl (l' := #[.val (.long q0), .second, .val (.long q2), .second, .val (.int p4), .val (.long len), .second, .val (.long ins), .second, .val (.int (p4 &&& (3 : Int32))), .val (.ref b147), .val (.ref b150), .val (.long (if ((9223372036854775807 : Int64) - len) < ins then (9223372036854775807 : Int64) else (ins + len))), .second, .val (.long (ins + len)), .second, .val (.long (9223372036854775807 : Int64)), .second]) rfl ?_
          show Steps p.tables e below (T154.setTop (mkF m 168 #[.val (.long q0), .second, .val (.long q2), .second, .val (.int p4), .val (.long len), .second, .val (.long ins), .second, .val (.int (p4 &&& (3 : Int32))), .val (.ref b147), .val (.ref b150), .val (.long (if ((9223372036854775807 : Int64) - len) < ins then (9223372036854775807 : Int64) else (ins + len))), .second, .val (.long (ins + len)), .second, .val (.long (9223372036854775807 : Int64)), .second] [])) _
          refine XS.lload X154.here hx rfl (hb hby at_168) rfl ?_
          show Steps p.tables e below (T154.setTop (mkF m 170 #[.val (.long q0), .second, .val (.long q2), .second, .val (.int p4), .val (.long len), .second, .val (.long ins), .second, .val (.int (p4 &&& (3 : Int32))), .val (.ref b147), .val (.ref b150), .val (.long (if ((9223372036854775807 : Int64) - len) < ins then (9223372036854775807 : Int64) else (ins + len))), .second, .val (.long (ins + len)), .second, .val (.long (9223372036854775807 : Int64)), .second] [(.long (if ((9223372036854775807 : Int64) - len) < ins then (9223372036854775807 : Int64) else (ins + len)))])) _
          refine XS.lload X154.here hx rfl (hb hby at_170) rfl ?_
          show Steps p.tables e below (T154.setTop (mkF m 172 #[.val (.long q0), .second, .val (.long q2), .second, .val (.int p4), .val (.long len), .second, .val (.long ins), .second, .val (.int (p4 &&& (3 : Int32))), .val (.ref b147), .val (.ref b150), .val (.long (if ((9223372036854775807 : Int64) - len) < ins then (9223372036854775807 : Int64) else (ins + len))), .second, .val (.long (ins + len)), .second, .val (.long (9223372036854775807 : Int64)), .second] [(.long (9223372036854775807 : Int64)), (.long (if ((9223372036854775807 : Int64) - len) < ins then (9223372036854775807 : Int64) else (ins + len)))])) _
          refine XS.lcmp X154.here hx rfl (hb hby at_172) rfl ?_
          show Steps p.tables e below (T154.setTop (mkF m 173 #[.val (.long q0), .second, .val (.long q2), .second, .val (.int p4), .val (.long len), .second, .val (.long ins), .second, .val (.int (p4 &&& (3 : Int32))), .val (.ref b147), .val (.ref b150), .val (.long (if ((9223372036854775807 : Int64) - len) < ins then (9223372036854775807 : Int64) else (ins + len))), .second, .val (.long (ins + len)), .second, .val (.long (9223372036854775807 : Int64)), .second] [(.int (lcmpW (if ((9223372036854775807 : Int64) - len) < ins then (9223372036854775807 : Int64) else (ins + len)) (9223372036854775807 : Int64)))])) _
          refine XS.ifNo X154.here hx rfl (hb hby at_173) rfl (own_nf (l0_ne _ _) (by simp [own_lv hins hlen, hc155])) ?_
          show Steps p.tables e below (T154.setTop (mkF m 176 #[.val (.long q0), .second, .val (.long q2), .second, .val (.int p4), .val (.long len), .second, .val (.long ins), .second, .val (.int (p4 &&& (3 : Int32))), .val (.ref b147), .val (.ref b150), .val (.long (if ((9223372036854775807 : Int64) - len) < ins then (9223372036854775807 : Int64) else (ins + len))), .second, .val (.long (ins + len)), .second, .val (.long (9223372036854775807 : Int64)), .second] [])) _
          refine XS.iconst X154.here hx rfl (hb hby at_176) ?_
          show Steps p.tables e below (T154.setTop (mkF m 177 #[.val (.long q0), .second, .val (.long q2), .second, .val (.int p4), .val (.long len), .second, .val (.long ins), .second, .val (.int (p4 &&& (3 : Int32))), .val (.ref b147), .val (.ref b150), .val (.long (if ((9223372036854775807 : Int64) - len) < ins then (9223372036854775807 : Int64) else (ins + len))), .second, .val (.long (ins + len)), .second, .val (.long (9223372036854775807 : Int64)), .second] [(.int (1 : Int32))])) _
          refine XS.goto X154.here hx rfl (pc0 := 177) (pc' := 181) rfl (hb hby at_177) (by decide) (by decide) ?_
          show Steps p.tables e below (T154.setTop (mkF m 181 #[.val (.long q0), .second, .val (.long q2), .second, .val (.int p4), .val (.long len), .second, .val (.long ins), .second, .val (.int (p4 &&& (3 : Int32))), .val (.ref b147), .val (.ref b150), .val (.long (if ((9223372036854775807 : Int64) - len) < ins then (9223372036854775807 : Int64) else (ins + len))), .second, .val (.long (ins + len)), .second, .val (.long (9223372036854775807 : Int64)), .second] [(.int (1 : Int32))])) _
          exact retN X154 hx (t := .boolean) Bd.returns (by simp) (hb hby at_181) hr
      · refine Gl.fin X154 (v := some (.int (1 : Int32))) (fun h => by rw [Bd.returns] at h; cases h) Bd.notSynchronized ?_ e154 (by decide) (by decide) (fun fs hr => ?_)
        · exact ⟨rfl, N154⟩
        · show Steps p.tables e below (T154.setTop (mkF m 155 #[.val (.long q0), .second, .val (.long q2), .second, .val (.int p4), .val (.long len), .second, .val (.long ins), .second, .val (.int (p4 &&& (3 : Int32))), .val (.ref b147), .val (.ref b150), .val (.long (if ((9223372036854775807 : Int64) - len) < ins then (9223372036854775807 : Int64) else (ins + len))), .second, .val (.long (ins + len)), .second, .unset, .unset] [(.int (lcmpW (ins + len) (0 : Int64)))])) _
          refine XS.ifYes X154.here hx rfl (pc0 := 155) (pc' := 164) rfl (hb hby at_155) rfl (own_nt (l0_ge _ _) hc155) (by decide) (by decide) ?_
          show Steps p.tables e below (T154.setTop (mkF m 164 #[.val (.long q0), .second, .val (.long q2), .second, .val (.int p4), .val (.long len), .second, .val (.long ins), .second, .val (.int (p4 &&& (3 : Int32))), .val (.ref b147), .val (.ref b150), .val (.long (if ((9223372036854775807 : Int64) - len) < ins then (9223372036854775807 : Int64) else (ins + len))), .second, .val (.long (ins + len)), .second, .unset, .unset] [])) _
          refine XS.lload X154.here hx rfl (hb hby at_164) rfl ?_
          show Steps p.tables e below (T154.setTop (mkF m 166 #[.val (.long q0), .second, .val (.long q2), .second, .val (.int p4), .val (.long len), .second, .val (.long ins), .second, .val (.int (p4 &&& (3 : Int32))), .val (.ref b147), .val (.ref b150), .val (.long (if ((9223372036854775807 : Int64) - len) < ins then (9223372036854775807 : Int64) else (ins + len))), .second, .val (.long (ins + len)), .second, .unset, .unset] [(.long (ins + len))])) _
          refine XS.lstore X154.here hx rfl (hb hby at_166) rfl (l' := #[.val (.long q0), .second, .val (.long q2), .second, .val (.int p4), .val (.long len), .second, .val (.long ins), .second, .val (.int (p4 &&& (3 : Int32))), .val (.ref b147), .val (.ref b150), .val (.long (if ((9223372036854775807 : Int64) - len) < ins then (9223372036854775807 : Int64) else (ins + len))), .second, .val (.long (ins + len)), .second, .val (.long (ins + len)), .second]) rfl ?_
          show Steps p.tables e below (T154.setTop (mkF m 168 #[.val (.long q0), .second, .val (.long q2), .second, .val (.int p4), .val (.long len), .second, .val (.long ins), .second, .val (.int (p4 &&& (3 : Int32))), .val (.ref b147), .val (.ref b150), .val (.long (if ((9223372036854775807 : Int64) - len) < ins then (9223372036854775807 : Int64) else (ins + len))), .second, .val (.long (ins + len)), .second, .val (.long (ins + len)), .second] [])) _
          refine XS.lload X154.here hx rfl (hb hby at_168) rfl ?_
          show Steps p.tables e below (T154.setTop (mkF m 170 #[.val (.long q0), .second, .val (.long q2), .second, .val (.int p4), .val (.long len), .second, .val (.long ins), .second, .val (.int (p4 &&& (3 : Int32))), .val (.ref b147), .val (.ref b150), .val (.long (if ((9223372036854775807 : Int64) - len) < ins then (9223372036854775807 : Int64) else (ins + len))), .second, .val (.long (ins + len)), .second, .val (.long (ins + len)), .second] [(.long (if ((9223372036854775807 : Int64) - len) < ins then (9223372036854775807 : Int64) else (ins + len)))])) _
          refine XS.lload X154.here hx rfl (hb hby at_170) rfl ?_
          show Steps p.tables e below (T154.setTop (mkF m 172 #[.val (.long q0), .second, .val (.long q2), .second, .val (.int p4), .val (.long len), .second, .val (.long ins), .second, .val (.int (p4 &&& (3 : Int32))), .val (.ref b147), .val (.ref b150), .val (.long (if ((9223372036854775807 : Int64) - len) < ins then (9223372036854775807 : Int64) else (ins + len))), .second, .val (.long (ins + len)), .second, .val (.long (ins + len)), .second] [(.long (ins + len)), (.long (if ((9223372036854775807 : Int64) - len) < ins then (9223372036854775807 : Int64) else (ins + len)))])) _
          refine XS.lcmp X154.here hx rfl (hb hby at_172) rfl ?_
          show Steps p.tables e below (T154.setTop (mkF m 173 #[.val (.long q0), .second, .val (.long q2), .second, .val (.int p4), .val (.long len), .second, .val (.long ins), .second, .val (.int (p4 &&& (3 : Int32))), .val (.ref b147), .val (.ref b150), .val (.long (if ((9223372036854775807 : Int64) - len) < ins then (9223372036854775807 : Int64) else (ins + len))), .second, .val (.long (ins + len)), .second, .val (.long (ins + len)), .second] [(.int (lcmpW (if ((9223372036854775807 : Int64) - len) < ins then (9223372036854775807 : Int64) else (ins + len)) (ins + len)))])) _
          refine XS.ifNo X154.here hx rfl (hb hby at_173) rfl (own_nf (l0_ne _ _) (by simp [own_lv hins hlen, hc155])) ?_
          show Steps p.tables e below (T154.setTop (mkF m 176 #[.val (.long q0), .second, .val (.long q2), .second, .val (.int p4), .val (.long len), .second, .val (.long ins), .second, .val (.int (p4 &&& (3 : Int32))), .val (.ref b147), .val (.ref b150), .val (.long (if ((9223372036854775807 : Int64) - len) < ins then (9223372036854775807 : Int64) else (ins + len))), .second, .val (.long (ins + len)), .second, .val (.long (ins + len)), .second] [])) _
          refine XS.iconst X154.here hx rfl (hb hby at_176) ?_
          show Steps p.tables e below (T154.setTop (mkF m 177 #[.val (.long q0), .second, .val (.long q2), .second, .val (.int p4), .val (.long len), .second, .val (.long ins), .second, .val (.int (p4 &&& (3 : Int32))), .val (.ref b147), .val (.ref b150), .val (.long (if ((9223372036854775807 : Int64) - len) < ins then (9223372036854775807 : Int64) else (ins + len))), .second, .val (.long (ins + len)), .second, .val (.long (ins + len)), .second] [(.int (1 : Int32))])) _
          refine XS.goto X154.here hx rfl (pc0 := 177) (pc' := 181) rfl (hb hby at_177) (by decide) (by decide) ?_
          show Steps p.tables e below (T154.setTop (mkF m 181 #[.val (.long q0), .second, .val (.long q2), .second, .val (.int p4), .val (.long len), .second, .val (.long ins), .second, .val (.int (p4 &&& (3 : Int32))), .val (.ref b147), .val (.ref b150), .val (.long (if ((9223372036854775807 : Int64) - len) < ins then (9223372036854775807 : Int64) else (ins + len))), .second, .val (.long (ins + len)), .second, .val (.long (ins + len)), .second] [(.int (1 : Int32))])) _
          exact retN X154 hx (t := .boolean) Bd.returns (by simp) (hb hby at_181) hr
set_option maxRecDepth 65536 in
set_option maxHeartbeats 40000000 in
theorem comes_1 {Post : Tables → Env → Array Value → State → Outcome → State → Prop} (hpost : ∀ tb e args s v u, (limb_1_1.after args s (.returned v) u = true ∧ limb_1_2.after args s (.returned v) u = true ∧ True) → FrameEnd s (.returned v) u (Jvm.fieldLocs frame_1_writes args s ++ Jvm.arrayLocs frame_1_arrays args s ++ Jvm.staticLocs frame_1_statics s) 16 128 → Post tb e args s (.returned v) u) :
    ArmFor flags0 classFile x code maxLocals ret World_1 tables_1 room_1 Calls_1 rest_1 Pre_1 Post := by
  intro l hfl _ _ p e ha hc hk s m args below hf hA hF happ hP
  obtain ⟨hcalls, hrest, hpre⟩ := hP
  obtain ⟨-, -, -, hnamed, -, -, -, hat⟩ := (Spec.applies_iff hf).mp happ
  obtain ⟨hg, hn⟩ := and_e (Cond.before_iff.mp (show (Jvm.Cond.and given_1 narrow_1).before args s = true from hpre))
  obtain ⟨hq0, hr0⟩ := and_e hg
  obtain ⟨hq1, hr1⟩ := and_e hr0
  obtain ⟨hq2, hr2⟩ := and_e hr1
  obtain ⟨w0, w1, w2, rfl⟩ : ∃ w0 w1 w2 : Value, args = #[w0, w1, w2] := by
    have hs : args.size = 3 := by simpa [Cond.value, given_1] using hq0
    obtain ⟨L⟩ := args
    match L, hs with
    | [w0, w1, w2], _ => exact ⟨w0, w1, w2, rfl⟩
  have hw := fun d (hd : d ∈ tables_1) => atoms_spec (ws := Jvm.Cond.code x code maxLocals ret :: tables_1) hat d (List.mem_cons_of_mem _ hd)
  have hfit : Fit s := fun {y c} hc i hi => by
    obtain ⟨ha, rfl⟩ := Array.getElem?_eq_some_iff.mp hc
    have q := List.all_eq_true.mp ((Array.all_eq_true_iff_forall_mem.mp hF) _ (Array.getElem_mem ha)) i (List.mem_range.mpr hi)
    simpa [Array.getElem?_eq_getElem hi] using q
  obtain ⟨i0, ei0⟩ := isL_v hq1
  obtain rfl : w0 = (.long i0) := Option.some.inj ei0
  obtain ⟨i1, ei1⟩ := isL_v hq2
  obtain rfl : w1 = (.long i1) := Option.some.inj ei1
  obtain ⟨i2, ei2⟩ := is_v hr2
  obtain rfl : w2 = (.int i2) := Option.some.inj ei2
  obtain ⟨n, o, h1, h2, h3, _, L, rfl, ⟨rfl, N⟩, hq⟩ := rm0 l s _ hw tables_1 i0 i1 i2 s.heap s.heap.size (Nat.le_refl _) p e ha hc hk s m _ below hf ((Spec.applies_iff_loose hf).mp happ).1 ⟨rfl, State.Warmed39.refl s, rfl⟩ trivial
  refine ⟨n, _, h1, h2, h3, hpost _ _ _ _ _ _ ⟨Cond.after_iff.mpr rfl, Cond.after_iff.mpr (eq_i res_at (Term.int_eval (1)) rfl), trivial⟩ ⟨hq.1, hq.2.1, (hq.2.2.sift fun y hy => Or.inr (N y hy)).mono (by decide) (by decide)⟩⟩
theorem main_1_1 : Claimed_1_1 := comes_1 fun _ _ _ _ _ _ h hF => ⟨h.1, hF⟩
theorem main_1_2 : Claimed_1_2 := comes_1 fun _ _ _ _ _ _ h hF => ⟨h.2.1, hF⟩
end Jvm.Pilot.@@N@@
namespace Jvm.Pilot.@@N@@
open Jvm Jvm.ClassFile Sem Op Lib Jvm.Free Jvm.Stand Jvm.Pilot.@@N@@.Jvm.D
/-! MADE BY PROGRAM (witnessworld.py) out of the Statement's table words and the real class files: 19 classes; the members and pool entries that the words name. The judged class is class 1, her method 1. -/
namespace start1
open Jvm.ClassFile
def u (s : String) : CpInfo := .utf8 (stringToUtf16 s)
/-- a pool by its gaps: so many unusable entries, then the entry; so many at the end -/
def gap : Nat → List CpInfo → List CpInfo
  | 0, r => r
  | n + 1, r => .unusable :: gap n r
def poolList (es : List (Nat × CpInfo)) (last : Nat) : List CpInfo := es.foldr (fun e r => gap e.1 (e.2 :: r)) (gap last [])
def pool (es : List (Nat × CpInfo)) (last : Nat) : Array CpInfo := ⟨poolList es last⟩
def fileOf (pool : Array CpInfo) (this : Nat) (attrs : Array Attribute := #[]) (ms : Array MethodInfo := #[]) (fl : Nat := 33) (sup : Nat := 0) (ifs : Array Nat := #[]) (fds : Array FieldInfo := #[]) : ClassFile where
  minorVersion := 0
  majorVersion := 65
  constantPool := pool
  accessFlags := fl
  thisClass := this
  superClass := sup
  interfaces := ifs
  fields := fds
  methods := ms
  attributes := attrs
def plain (name : String) (sup : Option ClassId) : Class where
  name := name
  kind := .ordinary
  loader := none
  accessFlags := 33
  super := sup
  interfaces := #[]
  cf := none
  fields := #[]
  methods := #[]
  instanceTypes := #[]
  staticTypes := #[]
  resolved := #[]
  callSites := []
  init := .initialized
  statics := none
  mirror := none

def pool0 : Array CpInfo := pool [(5, u "<init>"), (0, u "()V"), (1, .class_ 10), (1, u "java/lang/Object")] 113

def k0c0 : Code := { maxStack := 0, maxLocals := 1, code := object_method_1_code, exceptionTable := #[], attributes := #[] }
def k0m0 : Method := { name := "<init>", desc := "()V", sig := { parameters := [], returnType := none }, accessFlags := 1, code := some k0c0 }
/-- java/lang/Object -/
def k0 : Class := { plain "java/lang/Object" none with
  accessFlags := 33
  interfaces := #[]
  cf := some (fileOf pool0 8 #[] #[{ accessFlags := 1, nameIndex := 5, descriptorIndex := 6, attributes := #[] }] 33 0 #[] #[])
  fields := #[]
  methods := #[k0m0]
  instanceTypes := #[]
  staticTypes := #[]
  resolved := Array.replicate 124 none
  statics := none }

def pool1 : Array CpInfo := pool [(2, .class_ 4), (1, u "java/lang/Object"), (0, u "<init>"), (0, u "()V"), (2, .long 9223372036854775807), (1, .methodref 12 13), (0, .class_ 14), (0, .nameAndType 15 16), (0, u "java/lang/Math"), (0, u "max"), (0, u "(JJ)J"), (0, .long 65535), (1, .class_ 20), (0, u "com/example/tenrec/tenrec/policy/MeasuredWindow"), (0, .methodref 19 22), (0, .nameAndType 5 23), (0, u "(J)V"), (0, .class_ 25), (0, u "com/example/tenrec/tenrec/policy/MeasuredWindow$Interval"), (0, .methodref 24 27), (0, .nameAndType 5 28), (0, u "(JI)V"), (0, .methodref 19 30), (0, .nameAndType 31 32), (0, u "leavesAt"), (0, u "(Lcom/example/tenrec/tenrec/policy/MeasuredWindow$Interval;)J"), (0, .class_ 34), (0, u "com/example/tenrec/tenrec/policy/MeasuredWindowLeavesAtPinLaw"), (2, u "law"), (0, u "(JJI)Z")] 5

def k1m0 : Method := { name := "<init>", desc := "()V", sig := { parameters := [], returnType := none }, accessFlags := 1, code := none }
def k1c1 : Code := { maxStack := 7, maxLocals := 18, code := code, exceptionTable := #[], attributes := #[] }
def k1m1 : Method := { name := "law", desc := "(JJI)Z", sig := { parameters := [.long, .long, .int], returnType := some .boolean }, accessFlags := 9, code := some k1c1 }
/-- com/example/tenrec/tenrec/policy/MeasuredWindowLeavesAtPinLaw -/
def k1 : Class := { plain "com/example/tenrec/tenrec/policy/MeasuredWindowLeavesAtPinLaw" (some 0) with
  accessFlags := 49
  interfaces := #[]
  cf := some (fileOf pool1 33 #[] #[{ accessFlags := 1, nameIndex := 5, descriptorIndex := 6, attributes := #[] }, { accessFlags := 9, nameIndex := 37, descriptorIndex := 38, attributes := #[] }] 49 2 #[] #[])
  fields := #[]
  methods := #[k1m0, k1m1]
  instanceTypes := #[]
  staticTypes := #[]
  resolved := Array.replicate 44 none
  statics := none }

def pool2 : Array CpInfo := pool [(1, .class_ 2), (0, u "java/lang/Math"), (1, .class_ 6), (1, u "java/lang/Object"), (0, u "<init>"), (0, u "()V"), (89, .class_ 100), (1, u "java/lang/Math$RandomNumberGeneratorHolder"), (20, u "(JJ)J"), (50, u "negativeZeroFloatBits"), (0, u "J"), (2, u "negativeZeroDoubleBits"), (21, u "max"), (46, u "$assertionsDisabled"), (0, u "Z"), (91, u "twoToTheDoubleScaleDown"), (0, u "D"), (4, u "twoToTheDoubleScaleUp"), (9, u "E"), (3, u "PI"), (2, u "TAU"), (2, u "DEGREES_TO_RADIANS"), (0, u "RADIANS_TO_DEGREES")] 94

def k2m0 : Method := { name := "<init>", desc := "()V", sig := { parameters := [], returnType := none }, accessFlags := 2, code := none }
def k2c1 : Code := { maxStack := 4, maxLocals := 4, code := jdk_29_method_66_code, exceptionTable := #[], attributes := #[] }
def k2m1 : Method := { name := "max", desc := "(JJ)J", sig := { parameters := [.long, .long], returnType := some .long }, accessFlags := 9, code := some k2c1 }
/-- java/lang/Math -/
def k2 : Class := { plain "java/lang/Math" (some 0) with
  accessFlags := 49
  interfaces := #[]
  cf := some (fileOf pool2 1 #[.nestMembers #[98]] #[{ accessFlags := 2, nameIndex := 7, descriptorIndex := 8, attributes := #[] }, { accessFlags := 9, nameIndex := 198, descriptorIndex := 121, attributes := #[] }] 49 4 #[] #[{ accessFlags := 25, nameIndex := 354, descriptorIndex := 339, attributes := #[] }, { accessFlags := 25, nameIndex := 358, descriptorIndex := 339, attributes := #[] }, { accessFlags := 25, nameIndex := 361, descriptorIndex := 339, attributes := #[] }, { accessFlags := 26, nameIndex := 364, descriptorIndex := 339, attributes := #[] }, { accessFlags := 26, nameIndex := 365, descriptorIndex := 339, attributes := #[] }, { accessFlags := 26, nameIndex := 172, descriptorIndex := 173, attributes := #[] }, { accessFlags := 26, nameIndex := 176, descriptorIndex := 173, attributes := #[] }, { accessFlags := 8, nameIndex := 344, descriptorIndex := 339, attributes := #[] }, { accessFlags := 8, nameIndex := 338, descriptorIndex := 339, attributes := #[] }, { accessFlags := 4120, nameIndex := 245, descriptorIndex := 246, attributes := #[] }])
  fields := #[{ name := "E", type := .double, accessFlags := 25, slot := 0, constantValue := 0 }, { name := "PI", type := .double, accessFlags := 25, slot := 1, constantValue := 0 }, { name := "TAU", type := .double, accessFlags := 25, slot := 2, constantValue := 0 }, { name := "DEGREES_TO_RADIANS", type := .double, accessFlags := 26, slot := 3, constantValue := 0 }, { name := "RADIANS_TO_DEGREES", type := .double, accessFlags := 26, slot := 4, constantValue := 0 }, { name := "negativeZeroFloatBits", type := .long, accessFlags := 26, slot := 5, constantValue := 0 }, { name := "negativeZeroDoubleBits", type := .long, accessFlags := 26, slot := 6, constantValue := 0 }, { name := "twoToTheDoubleScaleUp", type := .double, accessFlags := 8, slot := 7, constantValue := 0 }, { name := "twoToTheDoubleScaleDown", type := .double, accessFlags := 8, slot := 8, constantValue := 0 }, { name := "$assertionsDisabled", type := .boolean, accessFlags := 4120, slot := 9, constantValue := 0 }]
  methods := #[k2m0, k2m1]
  instanceTypes := #[]
  staticTypes := #[.double, .double, .double, .double, .double, .long, .long, .double, .double, .boolean]
  resolved := Array.replicate 460 none
  statics := none }

def pool3 : Array CpInfo := pool [(8, .class_ 10), (1, u "java/lang/Iterable"), (24, .class_ 36), (0, u "java/lang/Object")] 25

/-- java/lang/Iterable -/
def k3 : Class := { plain "java/lang/Iterable" (some 0) with
  accessFlags := 1537
  interfaces := #[]
  cf := some (fileOf pool3 8 #[] #[] 1537 35 #[] #[])
  fields := #[]
  methods := #[]
  instanceTypes := #[]
  staticTypes := #[]
  resolved := Array.replicate 62 none
  statics := none }

def pool4 : Array CpInfo := pool [(1, .methodref 2 3), (0, .class_ 4), (0, .nameAndType 5 6), (0, u "java/lang/Object"), (0, u "<init>"), (0, u "()V"), (0, .class_ 8), (0, u "java/util/ArrayDeque"), (0, .methodref 7 3), (0, .fieldref 11 12), (0, .class_ 13), (0, .nameAndType 14 15), (0, u "com/example/tenrec/tenrec/policy/MeasuredWindow"), (0, u "arrived"), (0, u "Ljava/util/ArrayDeque;"), (0, .fieldref 11 17), (0, .nameAndType 18 19), (0, u "length"), (0, u "J"), (2, u "latest"), (8, .class_ 32), (0, u "com/example/tenrec/tenrec/policy/MeasuredWindow$Interval"), (0, .fieldref 31 34), (0, .nameAndType 35 19), (0, u "instant"), (5, u "total"), (6, u "weighted"), (30, u "leavesAt"), (0, u "(Lcom/example/tenrec/tenrec/policy/MeasuredWindow$Interval;)J"), (2, .long 9223372036854775807), (10, .class_ 95), (0, u "java/lang/Iterable"), (2, u "(J)V")] 16

def k4c0 : Code := { maxStack := 3, maxLocals := 3, code := prog_8_method_1_code, exceptionTable := #[], attributes := #[] }
def k4m0 : Method := { name := "<init>", desc := "(J)V", sig := { parameters := [.long], returnType := none }, accessFlags := 0, code := some k4c0 }
def k4c1 : Code := { maxStack := 6, maxLocals := 2, code := prog_8_method_10_code, exceptionTable := #[], attributes := #[] }
def k4m1 : Method := { name := "leavesAt", desc := "(Lcom/example/tenrec/tenrec/policy/MeasuredWindow$Interval;)J", sig := { parameters := [(.object "com/example/tenrec/tenrec/policy/MeasuredWindow$Interval")], returnType := some .long }, accessFlags := 0, code := some k4c1 }
/-- com/example/tenrec/tenrec/policy/MeasuredWindow -/
def k4 : Class := { plain "com/example/tenrec/tenrec/policy/MeasuredWindow" (some 0) with
  accessFlags := 48
  interfaces := #[3]
  cf := some (fileOf pool4 11 #[.nestMembers #[31]] #[{ accessFlags := 0, nameIndex := 5, descriptorIndex := 98, attributes := #[] }, { accessFlags := 0, nameIndex := 79, descriptorIndex := 80, attributes := #[] }] 48 2 #[94] #[{ accessFlags := 18, nameIndex := 18, descriptorIndex := 19, attributes := #[] }, { accessFlags := 2, nameIndex := 22, descriptorIndex := 19, attributes := #[] }, { accessFlags := 18, nameIndex := 14, descriptorIndex := 15, attributes := #[] }, { accessFlags := 2, nameIndex := 41, descriptorIndex := 19, attributes := #[] }, { accessFlags := 2, nameIndex := 48, descriptorIndex := 19, attributes := #[] }])
  fields := #[{ name := "length", type := .long, accessFlags := 18, slot := 0, constantValue := 0 }, { name := "latest", type := .long, accessFlags := 2, slot := 1, constantValue := 0 }, { name := "arrived", type := (.object "java/util/ArrayDeque"), accessFlags := 18, slot := 2, constantValue := 0 }, { name := "total", type := .long, accessFlags := 2, slot := 3, constantValue := 0 }, { name := "weighted", type := .long, accessFlags := 2, slot := 4, constantValue := 0 }]
  methods := #[k4m0, k4m1]
  instanceTypes := #[.long, .long, (.object "java/util/ArrayDeque"), .long, .long]
  staticTypes := #[]
  resolved := ((Array.replicate 115 none).set! 33 (some (.field 13 0))).set! 31 (some (.cls 13))
  statics := none }

def pool5 : Array CpInfo := pool [(10, .class_ 12), (1, u "java/util/Collection"), (47, .class_ 61), (0, u "java/lang/Object"), (0, .class_ 63), (0, u "java/lang/Iterable")] 51

/-- java/util/Collection -/
def k5 : Class := { plain "java/util/Collection" (some 0) with
  accessFlags := 1537
  interfaces := #[3]
  cf := some (fileOf pool5 10 #[] #[] 1537 60 #[62] #[])
  fields := #[]
  methods := #[]
  instanceTypes := #[]
  staticTypes := #[]
  resolved := Array.replicate 115 none
  statics := none }

def pool6 : Array CpInfo := pool [(1, .methodref 2 3), (0, .class_ 4), (0, .nameAndType 5 6), (0, u "java/lang/Object"), (0, u "<init>"), (0, u "()V"), (1, .class_ 10), (1, u "java/util/AbstractCollection"), (66, .class_ 78), (0, u "java/util/Collection")] 81

def k6c0 : Code := { maxStack := 1, maxLocals := 1, code := jdk_22_method_1_code, exceptionTable := #[], attributes := #[] }
def k6m0 : Method := { name := "<init>", desc := "()V", sig := { parameters := [], returnType := none }, accessFlags := 4, code := some k6c0 }
/-- java/util/AbstractCollection -/
def k6 : Class := { plain "java/util/AbstractCollection" (some 0) with
  accessFlags := 1057
  interfaces := #[5]
  cf := some (fileOf pool6 8 #[] #[{ accessFlags := 4, nameIndex := 5, descriptorIndex := 6, attributes := #[] }] 1057 2 #[77] #[])
  fields := #[]
  methods := #[k6m0]
  instanceTypes := #[]
  staticTypes := #[]
  resolved := Array.replicate 160 none
  statics := none }

def pool7 : Array CpInfo := pool [(1, .class_ 2), (0, u "java/util/Queue"), (0, .class_ 4), (0, u "java/lang/Object"), (0, .class_ 6), (0, u "java/util/Collection")] 14

/-- java/util/Queue -/
def k7 : Class := { plain "java/util/Queue" (some 0) with
  accessFlags := 1537
  interfaces := #[5]
  cf := some (fileOf pool7 1 #[] #[] 1537 3 #[5] #[])
  fields := #[]
  methods := #[]
  instanceTypes := #[]
  staticTypes := #[]
  resolved := Array.replicate 21 none
  statics := none }

def pool8 : Array CpInfo := pool [(8, .class_ 10), (1, u "java/util/SequencedCollection"), (15, .class_ 27), (0, u "java/lang/Object"), (0, .class_ 29), (0, u "java/util/Collection")] 27

/-- java/util/SequencedCollection -/
def k8 : Class := { plain "java/util/SequencedCollection" (some 0) with
  accessFlags := 1537
  interfaces := #[5]
  cf := some (fileOf pool8 8 #[] #[] 1537 26 #[28] #[])
  fields := #[]
  methods := #[]
  instanceTypes := #[]
  staticTypes := #[]
  resolved := Array.replicate 57 none
  statics := none }

def pool9 : Array CpInfo := pool [(8, .class_ 10), (1, u "java/util/Deque"), (2, .class_ 14), (0, u "java/lang/Object"), (0, .class_ 16), (0, u "java/util/Queue"), (0, .class_ 18), (0, u "java/util/SequencedCollection")] 51

/-- java/util/Deque -/
def k9 : Class := { plain "java/util/Deque" (some 0) with
  accessFlags := 1537
  interfaces := #[7, 8]
  cf := some (fileOf pool9 8 #[] #[] 1537 13 #[15, 17] #[])
  fields := #[]
  methods := #[]
  instanceTypes := #[]
  staticTypes := #[]
  resolved := Array.replicate 70 none
  statics := none }

def pool10 : Array CpInfo := pool [(1, .class_ 2), (0, u "java/lang/Cloneable"), (0, .class_ 4), (0, u "java/lang/Object")] 2

/-- java/lang/Cloneable -/
def k10 : Class := { plain "java/lang/Cloneable" (some 0) with
  accessFlags := 1537
  interfaces := #[]
  cf := some (fileOf pool10 1 #[] #[] 1537 3 #[] #[])
  fields := #[]
  methods := #[]
  instanceTypes := #[]
  staticTypes := #[]
  resolved := Array.replicate 7 none
  statics := none }

def pool11 : Array CpInfo := pool [(1, .class_ 2), (0, u "java/io/Serializable"), (0, .class_ 4), (0, u "java/lang/Object")] 2

/-- java/io/Serializable -/
def k11 : Class := { plain "java/io/Serializable" (some 0) with
  accessFlags := 1537
  interfaces := #[]
  cf := some (fileOf pool11 1 #[] #[] 1537 3 #[] #[])
  fields := #[]
  methods := #[]
  instanceTypes := #[]
  staticTypes := #[]
  resolved := Array.replicate 7 none
  statics := none }

def pool12 : Array CpInfo := pool [(3, .fieldref 4 5), (0, .class_ 6), (0, .nameAndType 7 8), (0, u "java/util/ArrayDeque"), (0, u "elements"), (0, u "[Ljava/lang/Object;"), (13, u "tail"), (0, u "I"), (2, u "head"), (12, u "<init>"), (2, .methodref 43 44), (0, .class_ 45), (0, .nameAndType 39 46), (0, u "java/util/AbstractCollection"), (0, u "()V"), (0, .class_ 48), (0, u "java/lang/Object"), (82, .class_ 132), (0, u "java/util/ArrayDeque$DeqIterator"), (3, .class_ 137), (0, u "java/util/ArrayDeque$DescendingIterator"), (1, .class_ 140), (0, u "java/util/ArrayDeque$DeqSpliterator"), (137, .class_ 279), (0, u "java/util/Deque"), (0, .class_ 281), (0, u "java/lang/Cloneable"), (0, .class_ 283), (0, u "java/io/Serializable"), (0, u "MAX_ARRAY_SIZE"), (1, u "serialVersionUID"), (0, u "J")] 150

def k12c0 : Code := { maxStack := 2, maxLocals := 1, code := jdk_21_method_3_code, exceptionTable := #[], attributes := #[] }
def k12m0 : Method := { name := "<init>", desc := "()V", sig := { parameters := [], returnType := none }, accessFlags := 1, code := some k12c0 }
/-- java/util/ArrayDeque -/
def k12 : Class := { plain "java/util/ArrayDeque" (some 6) with
  accessFlags := 33
  interfaces := #[9, 10, 11]
  cf := some (fileOf pool12 4 #[.nestMembers #[139, 136, 131]] #[{ accessFlags := 1, nameIndex := 39, descriptorIndex := 46, attributes := #[] }] 33 43 #[278, 280, 282] #[{ accessFlags := 128, nameIndex := 7, descriptorIndex := 8, attributes := #[] }, { accessFlags := 128, nameIndex := 26, descriptorIndex := 23, attributes := #[] }, { accessFlags := 128, nameIndex := 22, descriptorIndex := 23, attributes := #[] }, { accessFlags := 26, nameIndex := 284, descriptorIndex := 23, attributes := #[] }, { accessFlags := 26, nameIndex := 286, descriptorIndex := 287, attributes := #[] }])
  fields := #[{ name := "elements", type := (.array (.object "java/lang/Object")), accessFlags := 128, slot := 0, constantValue := 0 }, { name := "head", type := .int, accessFlags := 128, slot := 1, constantValue := 0 }, { name := "tail", type := .int, accessFlags := 128, slot := 2, constantValue := 0 }, { name := "MAX_ARRAY_SIZE", type := .int, accessFlags := 26, slot := 0, constantValue := 0 }, { name := "serialVersionUID", type := .long, accessFlags := 26, slot := 1, constantValue := 0 }]
  methods := #[k12m0]
  instanceTypes := #[(.array (.object "java/lang/Object")), .int, .int]
  staticTypes := #[.int, .long]
  resolved := Array.replicate 438 none
  statics := none }

def pool13 : Array CpInfo := pool [(1, .methodref 2 3), (0, .class_ 4), (0, .nameAndType 5 6), (0, u "java/lang/Object"), (0, u "<init>"), (0, u "()V"), (0, .fieldref 8 9), (0, .class_ 10), (0, .nameAndType 11 12), (0, u "com/example/tenrec/tenrec/policy/MeasuredWindow$Interval"), (0, u "instant"), (0, u "J"), (0, .fieldref 8 14), (0, .nameAndType 15 16), (0, u "arrivals"), (0, u "I"), (0, u "(JI)V"), (7, .class_ 26), (0, u "com/example/tenrec/tenrec/policy/MeasuredWindow")] 2

def k13c0 : Code := { maxStack := 3, maxLocals := 4, code := prog_9_method_1_code, exceptionTable := #[], attributes := #[] }
def k13m0 : Method := { name := "<init>", desc := "(JI)V", sig := { parameters := [.long, .int], returnType := none }, accessFlags := 0, code := some k13c0 }
/-- com/example/tenrec/tenrec/policy/MeasuredWindow$Interval -/
def k13 : Class := { plain "com/example/tenrec/tenrec/policy/MeasuredWindow$Interval" (some 0) with
  accessFlags := 48
  interfaces := #[]
  cf := some (fileOf pool13 8 #[.nestHost 25] #[{ accessFlags := 0, nameIndex := 5, descriptorIndex := 17, attributes := #[] }] 48 2 #[] #[{ accessFlags := 18, nameIndex := 11, descriptorIndex := 12, attributes := #[] }, { accessFlags := 18, nameIndex := 15, descriptorIndex := 16, attributes := #[] }])
  fields := #[{ name := "instant", type := .long, accessFlags := 18, slot := 0, constantValue := 0 }, { name := "arrivals", type := .int, accessFlags := 18, slot := 1, constantValue := 0 }]
  methods := #[k13m0]
  instanceTypes := #[.long, .int]
  staticTypes := #[]
  resolved := Array.replicate 29 none
  statics := none }

/-- the primitive byte -/
def k14 : Class := { plain "byte" none with kind := .primitive 'B', accessFlags := 0x411 }
/-- [B -/
def k15 : Class := { plain "[B" (some 0) with kind := .array 14 .byte, interfaces := #[10, 11], accessFlags := 1041 }

/-- the primitive int -/
def k16 : Class := { plain "int" none with kind := .primitive 'I', accessFlags := 0x411 }
/-- [I -/
def k17 : Class := { plain "[I" (some 0) with kind := .array 16 .int, interfaces := #[10, 11], accessFlags := 1041 }

/-- [Ljava/lang/Object; -/
def k18 : Class := { plain "[Ljava/lang/Object;" (some 0) with kind := .array 0 (.object "java/lang/Object"), interfaces := #[10, 11], accessFlags := 1041 }

def heap : Heap := #[]
def classes : Array Class := #[k0, k1, k2, k3, k4, k5, k6, k7, k8, k9, k10, k11, k12, k13, k14, k15, k16, k17, k18]
def interned : List (Array UInt16 × Addr) := []
def slotsUsed : Nat := 0
def theMethod : MethodId := ⟨1, 1⟩
def args0 : Array Value := #[.long 5, .long 7, .int 3]
def aboutOver (below : List Frame) : State where
  vm := { classes := classes, interned := interned.toArray }
  heap := heap
  slotsUsed := slotsUsed
  threads := #[{ frames := .invoking theMethod args0 :: below }]
def below0 : List Frame := [.native { method := ⟨0, 0⟩, args := #[] }]
def about1 : State := aboutOver below0
def p0 : Program := .bare "" "" ""
def e0 : Env := launch0.env 0 0 0
theorem w_frames : about1.frames = Frame.invoking theMethod args0 :: below0 := rfl
set_option maxRecDepth 65536 in
theorem w_args : argsFit about1.vm theMethod args0 = true := by decide +kernel
set_option maxRecDepth 65536 in
theorem w_heap : heapFits about1 = true := by decide +kernel
set_option maxRecDepth 65536 in
theorem w_runnable : about1.curStatus? = some .runnable := by decide +kernel
set_option maxRecDepth 65536 in
theorem w_alone : about1.alone = true := by decide +kernel
set_option maxRecDepth 65536 in
theorem w_named : about1.methodNamed? x = some theMethod := by decide +kernel
set_option maxRecDepth 65536 in
theorem w_hears : about1.hears theMethod below0 = true := by decide +kernel
set_option maxRecDepth 65536 in
theorem w_ripe : about1.ripe theMethod args0 below0 = true := by decide +kernel
theorem w_running : about1.status = .running := rfl
set_option maxRecDepth 65536 in
theorem w_room : about1.hasRoom e0.platform room_1 = true :=
  launch0.hasRoom_least _ room_1 (by decide +kernel) (by decide +kernel) (by decide +kernel) (by decide +kernel) (by decide +kernel) (by decide +kernel)
theorem allAtoms_all (ts : List Jvm.Cond) (a : Array Jvm.Value) (st : Jvm.State) : (allAtoms ts).before a st = ts.all (fun c => c.before a st) := by
  induction ts with
  | nil => rfl
  | cons c t ih =>
    show (Jvm.Cond.and c (allAtoms t)).before a st = _
    rw [Jvm.Cond.before_and, ih, List.all_cons]
def words1 : List Jvm.Cond := Jvm.Cond.code x code maxLocals ret :: tables_1
/-- a 'code' word, met by the world's own term for the bytes: nothing is compared byte by byte -/
theorem code_word {y : MethodName} {bytes : ByteArray} {mx : Nat} {rt : Option FieldType} {a : Array Value} {s : State} {m : MethodId} {meth : Method} {c : Code} (h1 : s.methodNamed? y = some m) (h2 : s.vm.method? m = some meth) (h3 : meth.code = some c) (h4 : c.code = bytes)
    (h5 : (c.maxLocals == mx && c.exceptionTable.isEmpty && decide (c.maxStack ≤ mostOperands) && decide (meth.sig.returnType = rt) && !meth.locks && decide (parseMethodDescriptor y.desc = some meth.sig)) = true) : (Jvm.Cond.code y bytes mx rt).before a s = true := by
  simp only [Bool.and_eq_true, beq_iff_eq, Bool.not_eq_true', decide_eq_true_eq] at h5
  obtain ⟨⟨⟨⟨⟨g1, g2⟩, g3⟩, g4⟩, g5⟩, g6⟩ := h5
  simp [Cond.before, Cond.holds, Cond.value, h1, h2, h3, h4, g1, g2, g3, g4, g5, g6]
def isCode : Jvm.Cond → Bool
  | .code _ _ _ _ => true
  | _ => false
theorem all_split {L : List Jvm.Cond} {P : Jvm.Cond → Bool} (h1 : L.all (fun c => isCode c || P c) = true) (h2 : ∀ c ∈ L.filter isCode, P c = true) : L.all P = true := by
  refine List.all_eq_true.mpr fun c hc => ?_
  have h := List.all_eq_true.mp h1 c hc
  rcases Bool.eq_false_or_eq_true (isCode c) with hi | hi
  · exact h2 c (List.mem_filter.mpr ⟨hc, hi⟩)
  · simpa [hi] using h
set_option maxRecDepth 65536 in
theorem w_c0 : (Jvm.Cond.code x code maxLocals ret).before args0 about1 = true := code_word (m := ⟨1, 1⟩) (meth := k1m1) (c := k1c1) (by decide +kernel) rfl rfl rfl (by decide +kernel)
set_option maxRecDepth 65536 in
theorem w_c1 : (Jvm.Cond.code ({ cls := "java/lang/Math", name := "max", desc := "(JJ)J" } : Jvm.MethodName) jdk_29_method_66_code (4 : Nat) (Option.some Jvm.ClassFile.FieldType.long)).before args0 about1 = true := code_word (m := ⟨2, 1⟩) (meth := k2m1) (c := k2c1) (by decide +kernel) rfl rfl rfl (by decide +kernel)
set_option maxRecDepth 65536 in
theorem w_c2 : (Jvm.Cond.code ({ cls := "com/example/tenrec/tenrec/policy/MeasuredWindow", name := "<init>", desc := "(J)V" } : Jvm.MethodName) prog_8_method_1_code (3 : Nat) (Option.none : Option Jvm.ClassFile.FieldType)).before args0 about1 = true := code_word (m := ⟨4, 0⟩) (meth := k4m0) (c := k4c0) (by decide +kernel) rfl rfl rfl (by decide +kernel)
set_option maxRecDepth 65536 in
theorem w_c3 : (Jvm.Cond.code ({ cls := "java/lang/Object", name := "<init>", desc := "()V" } : Jvm.MethodName) object_method_1_code (1 : Nat) (Option.none : Option Jvm.ClassFile.FieldType)).before args0 about1 = true := code_word (m := ⟨0, 0⟩) (meth := k0m0) (c := k0c0) (by decide +kernel) rfl rfl rfl (by decide +kernel)
set_option maxRecDepth 65536 in
theorem w_c4 : (Jvm.Cond.code ({ cls := "java/util/ArrayDeque", name := "<init>", desc := "()V" } : Jvm.MethodName) jdk_21_method_3_code (1 : Nat) (Option.none : Option Jvm.ClassFile.FieldType)).before args0 about1 = true := code_word (m := ⟨12, 0⟩) (meth := k12m0) (c := k12c0) (by decide +kernel) rfl rfl rfl (by decide +kernel)
set_option maxRecDepth 65536 in
theorem w_c5 : (Jvm.Cond.code ({ cls := "java/util/AbstractCollection", name := "<init>", desc := "()V" } : Jvm.MethodName) jdk_22_method_1_code (1 : Nat) (Option.none : Option Jvm.ClassFile.FieldType)).before args0 about1 = true := code_word (m := ⟨6, 0⟩) (meth := k6m0) (c := k6c0) (by decide +kernel) rfl rfl rfl (by decide +kernel)
set_option maxRecDepth 65536 in
theorem w_c6 : (Jvm.Cond.code ({ cls := "com/example/tenrec/tenrec/policy/MeasuredWindow$Interval", name := "<init>", desc := "(JI)V" } : Jvm.MethodName) prog_9_method_1_code (4 : Nat) (Option.none : Option Jvm.ClassFile.FieldType)).before args0 about1 = true := code_word (m := ⟨13, 0⟩) (meth := k13m0) (c := k13c0) (by decide +kernel) rfl rfl rfl (by decide +kernel)
set_option maxRecDepth 65536 in
theorem w_c7 : (Jvm.Cond.code ({ cls := "com/example/tenrec/tenrec/policy/MeasuredWindow", name := "leavesAt", desc := "(Lcom/example/tenrec/tenrec/policy/MeasuredWindow$Interval;)J" } : Jvm.MethodName) prog_8_method_10_code (2 : Nat) (Option.some Jvm.ClassFile.FieldType.long)).before args0 about1 = true := code_word (m := ⟨4, 1⟩) (meth := k4m1) (c := k4c1) (by decide +kernel) rfl rfl rfl (by decide +kernel)
def codes1 : List Jvm.Cond := [Jvm.Cond.code x code maxLocals ret, Jvm.Cond.code ({ cls := "java/lang/Math", name := "max", desc := "(JJ)J" } : Jvm.MethodName) jdk_29_method_66_code (4 : Nat) (Option.some Jvm.ClassFile.FieldType.long), Jvm.Cond.code ({ cls := "com/example/tenrec/tenrec/policy/MeasuredWindow", name := "<init>", desc := "(J)V" } : Jvm.MethodName) prog_8_method_1_code (3 : Nat) (Option.none : Option Jvm.ClassFile.FieldType), Jvm.Cond.code ({ cls := "java/lang/Object", name := "<init>", desc := "()V" } : Jvm.MethodName) object_method_1_code (1 : Nat) (Option.none : Option Jvm.ClassFile.FieldType), Jvm.Cond.code ({ cls := "java/util/ArrayDeque", name := "<init>", desc := "()V" } : Jvm.MethodName) jdk_21_method_3_code (1 : Nat) (Option.none : Option Jvm.ClassFile.FieldType), Jvm.Cond.code ({ cls := "java/util/AbstractCollection", name := "<init>", desc := "()V" } : Jvm.MethodName) jdk_22_method_1_code (1 : Nat) (Option.none : Option Jvm.ClassFile.FieldType), Jvm.Cond.code ({ cls := "com/example/tenrec/tenrec/policy/MeasuredWindow$Interval", name := "<init>", desc := "(JI)V" } : Jvm.MethodName) prog_9_method_1_code (4 : Nat) (Option.none : Option Jvm.ClassFile.FieldType), Jvm.Cond.code ({ cls := "com/example/tenrec/tenrec/policy/MeasuredWindow", name := "leavesAt", desc := "(Lcom/example/tenrec/tenrec/policy/MeasuredWindow$Interval;)J" } : Jvm.MethodName) prog_8_method_10_code (2 : Nat) (Option.some Jvm.ClassFile.FieldType.long)]
set_option maxRecDepth 65536 in
theorem codes_eq : words1.filter isCode = codes1 := rfl
theorem w_codes : ∀ c ∈ words1.filter isCode, c.before args0 about1 = true := by
  rw [codes_eq]
  intro c hc
  simp only [codes1, List.mem_cons, List.not_mem_nil, or_false] at hc
  rcases hc with rfl | rfl | rfl | rfl | rfl | rfl | rfl | rfl
  · exact w_c0
  · exact w_c1
  · exact w_c2
  · exact w_c3
  · exact w_c4
  · exact w_c5
  · exact w_c6
  · exact w_c7
set_option maxRecDepth 65536 in
theorem w_t1 : (words1.take 24).all (fun c => isCode c || c.before args0 about1) = true := by decide +kernel
set_option maxRecDepth 65536 in
theorem w_t2 : ((words1.drop 24).take 24).all (fun c => isCode c || c.before args0 about1) = true := by decide +kernel
set_option maxRecDepth 65536 in
theorem w_t3 : ((words1.drop 24).drop 24).all (fun c => isCode c || c.before args0 about1) = true := by decide +kernel
theorem w_tables : (allAtoms (Jvm.Cond.code x code maxLocals ret :: tables_1)).before args0 about1 = true := by
  rw [allAtoms_all]
  show words1.all (fun c => c.before args0 about1) = true
  refine all_split ?_ w_codes
  rw [← List.take_append_drop 24 words1, List.all_append, w_t1, ← List.take_append_drop 24 (words1.drop 24), List.all_append, w_t2, w_t3]
  rfl
set_option maxRecDepth 65536 in
theorem w_case : (Jvm.Cond.and given_1 narrow_1).before args0 about1 = true := by decide +kernel
theorem w_applies : (headSpec (Jvm.Cond.code x code maxLocals ret :: tables_1) room_1).applies x e0.platform about1 = true :=
  (Spec.applies_iff w_frames).mpr ⟨w_running, w_runnable, w_alone, w_named, w_hears, w_ripe, w_room, w_tables⟩
theorem atStart : AtStart classFile x code maxLocals ret World_1 tables_1 room_1 Calls_1 rest_1 Pre_1 launch0 p0 e0 about1 theMethod args0 below0 :=
  ⟨lists_1, trivial, launch0.admits_env _ _ _, launch0.least_env, fairChoices_fair.cas, fairChoices_fair.clock, w_frames, w_args, w_heap, w_applies, trivial, trivial, w_case⟩
end start1
theorem witness_1 : WitnessClaimed_1 := ⟨start1.p0, start1.e0, start1.about1, start1.theMethod, start1.args0, start1.below0, start1.atStart⟩
end Jvm.Pilot.@@N@@
