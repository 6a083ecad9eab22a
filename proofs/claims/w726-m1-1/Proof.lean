import JvmDerived
import JvmDerived.Pilot.@@N@@Statement
import JvmDerived.Pilot.@@N@@Code
set_option linter.unusedVariables false
set_option linter.unusedSimpArgs false
namespace Jvm.Pilot.@@N@@
open Jvm Jvm.ClassFile Sem Op Lib Jvm.Free Jvm.Stand Jvm.LawKit Jvm.RoadKit Bundle Jvm.Pilot.@@N@@.Jvm.D
section OwnKit
variable {p : Program} {l : Launch} {e : Env} {R : Room} {s : State} {m : MethodId} {args : Array Value} {below : List Frame} {meth : Method} {c : Code} {T : State} {locs : List Loc} {cells slots : Nat} {Z : State} {a0 : Array Value} {h h0 : Heap}
/-- the run comes from S to an end of which Q speaks -/
def Gl (p : Program) (e : Env) (below : List Frame) (s : State) (Q : Option Value → Heap → List Loc → Prop) (cc kk : Nat) (S : State) : Prop :=
  ∃ t o, Steps p.tables e below S t ∧ t.status = .running ∧ Ended t below o ∧ ∃ v L, o = .returned v ∧ Q v t.heap L ∧ FrameEnd s o t L cc kk
theorem Gl.pre {Q : Option Value → Heap → List Loc → Prop} {cc kk : Nat} {S S' : State} (st : ∀ t, Steps p.tables e below S' t → Steps p.tables e below S t) (k : Gl p e below s Q cc kk S') : Gl p e below s Q cc kk S := by
  obtain ⟨t, o, h1, h2⟩ := k
  exact ⟨t, o, st _ h1, h2⟩
theorem Gl.ret {Q : Option Value → Heap → List Loc → Prop} {cc kk : Nat} {S : State} (X : Stand p l e R s m args below meth c T locs cells slots) {v : Option Value} (hv : meth.sig.returnType = none → v = none) (hlocks : meth.locks = false) (hQ : Q v T.heap locs) (hc : cells ≤ cc) (hk : slots ≤ kk)
    (st : ∀ fs, (∀ (f : JFrame) (acts : List Action), f.method = m → f.locked = none → f.entered = [] → (doReturn e (T.setTop f) acts v).1 = T.setFrames fs) → Steps p.tables e below S (T.setFrames fs)) : Gl p e below s Q cc kk S := by
  obtain ⟨fs, hr, hrun, hended, hW, hsame⟩ := X.leave (v := v) hv hlocks
  exact ⟨_, _, st fs hr, hrun, hended, _, _, rfl, hQ, ⟨_, rfl⟩, hW, hsame.mono hc hk⟩
theorem Gl.fin {Q : Option Value → Heap → List Loc → Prop} {cc kk : Nat} {S : State} (X : Stand p l e R s m args below meth c T locs cells slots) {v : Option Value} (hv : meth.sig.returnType = none → v = none) (hlocks : meth.locks = false) (hQ : Q v h locs) (eT : T.heap = h) (hc : cells ≤ cc) (hk : slots ≤ kk)
    (st : ∀ fs, (∀ (f : JFrame) (acts : List Action), f.method = m → f.locked = none → f.entered = [] → (doReturn e (T.setTop f) acts v).1 = T.setFrames fs) → Steps p.tables e below S (T.setFrames fs)) : Gl p e below s Q cc kk S :=
  Gl.ret X hv hlocks (by rw [eT]; exact hQ) hc hk st
abbrev OMet (l : Launch) (Z : State) (y : MethodName) (bytes : ByteArray) (maxL : Nat) (ret : Option FieldType) (ws : List Jvm.Cond) (rm : Room) (as' : Array Value) (h0 : Heap) (Q : Option Value → Heap → List Loc → Prop) : Prop :=
  MetFree l y (head1 (Jvm.Cond.code y bytes maxL ret :: ws) rm) (fun a U => a = as' ∧ Z.Warmed39 U.vm ∧ U.heap = h0) (fun _ _ _ _ _ => True) (fun _ U o U' => ∃ v L, o = .returned v ∧ Q v U'.heap L ∧ FrameEnd U o U' L rm.cells rm.slots)
theorem own_body {y : MethodName} {bytes : ByteArray} {maxL : Nat} {ret : Option FieldType} {ws : List Jvm.Cond} {rm : Room} {as' : Array Value} {Q : Option Value → Heap → List Loc → Prop} (hx : plainFor y = true)
    (H : ∀ p e s m below meth c s₁, BodyLoose p l y (head1 (Jvm.Cond.code y bytes maxL ret :: ws) rm) bytes maxL ret e s m as' below meth c s₁ → c.maxLocals = maxL → Z.Warmed39 s.vm → s₁.heap = h0 → Gl p e below s Q rm.cells rm.slots (s₁.setTop (entryFrame m as' maxL))) :
    OMet l Z y bytes maxL ret ws rm as' h0 Q := by
  refine MetFree.of_bodySF hx hisR ?_
  intro p e s m args below meth c s₁ Bd hml0 hP hK
  obtain ⟨rfl, hZ, hh⟩ := hP
  exact H p e s m below meth c s₁ Bd hml0 hZ (by rw [← hh, Bd.state]; rfl)
/-- an int is returned -/
theorem own_retI (X : Stand p l e R s m args below meth c T locs cells slots) (hx : p.tables.exec = Jvm.exec) {pc : Nat} {Ls : Array Slot} {z : Int32} {rest : List Value} (hret : meth.sig.returnType = some .int) (hd : decode c.code pc = .ok (.ireturn, 1)) {fs : List Frame}
    (hl : ∀ (f : JFrame) (acts : List Action), f.method = m → f.locked = none → f.entered = [] → (doReturn e (T.setTop f) acts (some (.int z))).1 = T.setFrames fs) : Steps p.tables e below (T.setTop (mkF m pc Ls (.int z :: rest))) (T.setFrames fs) :=
  retOut X hx hret rfl (Or.inl ⟨rfl, Or.inl rfl, z, rfl⟩) hd hl
theorem own_retJ (X : Stand p l e R s m args below meth c T locs cells slots) (hx : p.tables.exec = Jvm.exec) {pc : Nat} {Ls : Array Slot} {z : Int64} {rest : List Value} (hret : meth.sig.returnType = some .long) (hd : decode c.code pc = .ok (.lreturn, 1)) {fs : List Frame}
    (hl : ∀ (f : JFrame) (acts : List Action), f.method = m → f.locked = none → f.entered = [] → (doReturn e (T.setTop f) acts (some (.long z))).1 = T.setFrames fs) : Steps p.tables e below (T.setTop (mkF m pc Ls (.long z :: rest))) (T.setFrames fs) :=
  retOut X hx hret rfl (Or.inr (Or.inl ⟨rfl, rfl, z, rfl⟩)) hd hl
theorem own_retD (X : Stand p l e R s m args below meth c T locs cells slots) (hx : p.tables.exec = Jvm.exec) {pc : Nat} {Ls : Array Slot} {z : UInt64} {rest : List Value} (hret : meth.sig.returnType = some .double) (hd : decode c.code pc = .ok (.dreturn, 1)) {fs : List Frame}
    (hl : ∀ (f : JFrame) (acts : List Action), f.method = m → f.locked = none → f.entered = [] → (doReturn e (T.setTop f) acts (some (.double z))).1 = T.setFrames fs) : Steps p.tables e below (T.setTop (mkF m pc Ls (.double z :: rest))) (T.setFrames fs) :=
  retOut X hx hret rfl (Or.inr (Or.inr (Or.inl ⟨rfl, rfl, z, rfl⟩))) hd hl
theorem own_retR (X : Stand p l e R s m args below meth c T locs cells slots) (hx : p.tables.exec = Jvm.exec) {pc : Nat} {Ls : Array Slot} {w : Value} {t : FieldType} {rest : List Value} (hret : meth.sig.returnType = some t) (ht : t.isReference = true) (hn : narrow t w = w) (hw : w.isRef = true) (hd : decode c.code pc = .ok (.areturn, 1)) {fs : List Frame}
    (hl : ∀ (f : JFrame) (acts : List Action), f.method = m → f.locked = none → f.entered = [] → (doReturn e (T.setTop f) acts (some w)).1 = T.setFrames fs) : Steps p.tables e below (T.setTop (mkF m pc Ls (w :: rest))) (T.setFrames fs) :=
  retOut X hx hret hn (Or.inr (Or.inr (Or.inr (Or.inr ⟨rfl, ht, hw⟩)))) hd hl
/-- a static method by its contract -/
theorem own_callS (X : Stand p l e R s m args below meth c T locs cells slots) (hx : p.tables.exec = Jvm.exec) (hZ : Z.Warmed39 s.vm) {own : String} {index : Nat} {y : MethodName} {bytes : ByteArray} {maxL : Nat} {ret : Option FieldType} {rm : Room} {Q : Option Value → Heap → List Loc → Prop}
    (hown : s.vm.findClass own = some m.cls) (w1 : (Jvm.Cond.methodLink own index y).before a0 Z = true) (w2 : (Jvm.Cond.static y).before a0 Z = true) (w3 : (Jvm.Cond.initialized y.cls).before a0 Z = true) (w4 : (Jvm.Cond.code y bytes maxL ret).before a0 Z = true)
    (hy : y.cls ≠ "java/lang/invoke/MethodHandle" ∧ y.cls ≠ "java/lang/invoke/VarHandle") {argsL rest : List Value} (hM : OMet l Z y bytes maxL ret [] rm argsL.toArray h Q) {W : Nat} (hf : rm.frames + 1 ≤ R.frames) (hl : W + (maxL + 11) + rm.locals ≤ R.locals) (hc : cells + rm.cells ≤ R.cells) (hs : slots + rm.slots ≤ R.slots)
    (eT : T.heap = h) {pc : Nat} {Ls : Array Slot} (hsize : Ls.size = c.maxLocals) (hlen : ∀ sig, parseMethodDescriptor y.desc = some sig → argsL.length = sig.parameters.length) (hW : (rest.map fun v => v.category).sum ≤ W) (hd : decode c.code pc = .ok (.invokestatic index, 3)) :
    ∃ (v : Option Value) (T' : State) (L : List Loc), Stand p l e R s m args below meth c T' (locs ++ L) (cells + rm.cells) (slots + rm.slots) ∧ Q v T'.heap L ∧
      ∀ t, Steps p.tables e below (T'.setTop (mkF m (pc + 3) Ls (v.toList ++ rest))) t → Steps p.tables e below (T.setTop (mkF m pc Ls (argsL.reverse ++ rest))) t := by
  obtain ⟨v, _, ⟨T', L', k', n'⟩, -, X', ⟨L, hQ, hl', hy', hz'⟩, st⟩ := Jvm.LawKit.callS X hx (y := y) hown (mvT hZ w1) (mvT hZ w2) (mvT hZ w3) (mvT hZ w4) hy (backOf (W := W) hM hZ w4 w3 hf hl) (g := mkF m pc Ls (argsL.reverse ++ rest)) rfl hsize (argsL := argsL) (rest := rest) hlen rfl (by show 2 * 0 + _ ≤ _; omega) hd (fun _ _ => ⟨rfl, eT, hc, hs⟩)
  dsimp only [Pt.U, Pt.locs, Pt.cells, Pt.slots] at X' hl' hy' hz' st hQ
  subst hl' hy' hz'
  exact ⟨v, T', L, X', hQ, st⟩
/-- a constructor by its contract -/
theorem own_callI (X : Stand p l e R s m args below meth c T locs cells slots) (hx : p.tables.exec = Jvm.exec) (hZ : Z.Warmed39 s.vm) {own : String} {index : Nat} {y : MethodName} {bytes : ByteArray} {maxL : Nat} {rm : Room} {Q : Option Value → Heap → List Loc → Prop} (hy1 : y.name = "<init>")
    (hown : s.vm.findClass own = some m.cls) (w1 : (Jvm.Cond.methodLink own index y).before a0 Z = true) (w2 : (Jvm.Cond.instanceMethod y).before a0 Z = true) (w3 : (Jvm.Cond.initialized y.cls).before a0 Z = true) (w4 : (Jvm.Cond.code y bytes maxL none).before a0 Z = true)
    (hy : y.cls ≠ "java/lang/invoke/MethodHandle" ∧ y.cls ≠ "java/lang/invoke/VarHandle") {a : Addr} {argsL rest : List Value} (hM : OMet l Z y bytes maxL none [] rm (.ref a :: argsL).toArray h Q) {W : Nat} (hf : rm.frames + 1 ≤ R.frames) (hl : W + (maxL + 11) + rm.locals ≤ R.locals) (hc : cells + rm.cells ≤ R.cells) (hs : slots + rm.slots ≤ R.slots)
    (eT : T.heap = h) {pc : Nat} {Ls : Array Slot} (hsize : Ls.size = c.maxLocals) (hlen : ∀ sig, parseMethodDescriptor y.desc = some sig → argsL.length = sig.parameters.length) (hW : (rest.map fun v => v.category).sum ≤ W) (hd : decode c.code pc = .ok (.invokespecial index, 3)) :
    ∃ (v : Option Value) (T' : State) (L : List Loc), Stand p l e R s m args below meth c T' (locs ++ L) (cells + rm.cells) (slots + rm.slots) ∧ Q v T'.heap L ∧
      ∀ t, Steps p.tables e below (T'.setTop (mkF m (pc + 3) Ls (v.toList ++ rest))) t → Steps p.tables e below (T.setTop (mkF m pc Ls (argsL.reverse ++ .ref a :: rest))) t := by
  obtain ⟨v, _, ⟨T', L', k', n'⟩, -, X', ⟨L, hQ, hl', hy', hz'⟩, st⟩ := X.specialBack hx (y := y) hy1 hown (mvT hZ w1) (mvT hZ w2) (mvT hZ w4) hy (backOf (W := W) hM hZ w4 w3 hf hl) (g := mkF m pc Ls (argsL.reverse ++ .ref a :: rest)) rfl hsize (Steps.refl _) (a := a) (argsL := argsL) (rest := rest) hlen rfl (by show 2 * 0 + _ ≤ _; omega) hd (fun _ _ => ⟨rfl, eT, hc, hs⟩)
  dsimp only [Pt.U, Pt.locs, Pt.cells, Pt.slots] at X' hl' hy' hz' st hQ
  subst hl' hy' hz'
  exact ⟨v, T', L, X', hQ, fun t k => st.trans k⟩
/-- an instance method by its contract, the receiver's class known -/
theorem own_callV (X : Stand p l e R s m args below meth c T locs cells slots) (hx : p.tables.exec = Jvm.exec) (hZ : Z.Warmed39 s.vm) {own C : String} {index : Nat} {y z : MethodName} {bytes : ByteArray} {maxL : Nat} {ret : Option FieldType} {rm : Room} {Q : Option Value → Heap → List Loc → Prop}
    (hown : s.vm.findClass own = some m.cls) (w1 : (Jvm.Cond.methodLink own index y).before a0 Z = true) (wd : (Jvm.Cond.declares y).before a0 Z = true) (hnf : NotFace s y) (ws : (Jvm.Cond.selects C y z).before a0 Z = true) (w2 : (Jvm.Cond.instanceMethod z).before a0 Z = true) (w3 : (Jvm.Cond.initialized z.cls).before a0 Z = true) (w4 : (Jvm.Cond.code z bytes maxL ret).before a0 Z = true)
    (hy : y.cls ≠ "java/lang/invoke/MethodHandle" ∧ y.cls ≠ "java/lang/invoke/VarHandle") {a : Addr} (E : Exa Z h a C) {argsL rest : List Value} (hM : OMet l Z z bytes maxL ret [] rm (.ref a :: argsL).toArray h Q) {W : Nat} (hf : rm.frames + 1 ≤ R.frames) (hl : W + (maxL + 11) + rm.locals ≤ R.locals) (hc : cells + rm.cells ≤ R.cells) (hs : slots + rm.slots ≤ R.slots)
    (eT : T.heap = h) {pc : Nat} {Ls : Array Slot} (hsize : Ls.size = c.maxLocals) (hlen : ∀ sig, parseMethodDescriptor y.desc = some sig → argsL.length = sig.parameters.length) (hW : (rest.map fun v => v.category).sum ≤ W) (hd : decode c.code pc = .ok (.invokevirtual index, 3)) :
    ∃ (v : Option Value) (T' : State) (L : List Loc), Stand p l e R s m args below meth c T' (locs ++ L) (cells + rm.cells) (slots + rm.slots) ∧ Q v T'.heap L ∧
      ∀ t, Steps p.tables e below (T'.setTop (mkF m (pc + 3) Ls (v.toList ++ rest))) t → Steps p.tables e below (T.setTop (mkF m pc Ls (argsL.reverse ++ .ref a :: rest))) t := by
  obtain ⟨cB, kB, q1, q2, q3⟩ := isOf hZ eT E
  obtain ⟨v, _, ⟨T', L', k', n'⟩, -, X', ⟨L, hQ, hl', hy', hz'⟩, st⟩ := X.virtualBack hx (y := y) (z := z) hown (mvT hZ w1) (mvT hZ wd) hnf (mvT hZ ws) (mvT hZ w2) hy (backOf (W := W) hM hZ w4 w3 hf hl) q1 q3 (g := mkF m pc Ls (argsL.reverse ++ .ref a :: rest)) rfl hsize (Steps.refl _) (argsL := argsL) (rest := rest) hlen rfl (by show 2 * 0 + _ ≤ _; omega) hd (fun _ _ => ⟨rfl, eT, hc, hs⟩)
  dsimp only [Pt.U, Pt.locs, Pt.cells, Pt.slots] at X' hl' hy' hz' st hQ
  subst hl' hy' hz'
  exact ⟨v, T', L, X', hQ, fun t k => st.trans k⟩
/-- an inherited instance method: the link names a class that doesn't declare it -/
theorem own_callU (X : Stand p l e R s m args below meth c T locs cells slots) (hx : p.tables.exec = Jvm.exec) (hZ : Z.Warmed39 s.vm) {own C owner : String} {index : Nat} {y z : MethodName} {bytes : ByteArray} {maxL : Nat} {ret : Option FieldType} {rm : Room} {Q : Option Value → Heap → List Loc → Prop}
    (hown : s.vm.findClass own = some m.cls) (w1 : (Jvm.Cond.methodLink own index y).before a0 Z = true) (wm : (Jvm.Cond.sameMethod y.cls owner y.name y.desc).before a0 Z = true) (wd : (Jvm.Cond.declares ⟨owner, y.name, y.desc⟩).before a0 Z = true) (ws : (Jvm.Cond.selects C y z).before a0 Z = true) (w2 : (Jvm.Cond.instanceMethod z).before a0 Z = true) (w3 : (Jvm.Cond.initialized z.cls).before a0 Z = true) (w4 : (Jvm.Cond.code z bytes maxL ret).before a0 Z = true)
    (hy : owner ≠ "java/lang/invoke/MethodHandle" ∧ owner ≠ "java/lang/invoke/VarHandle") {a : Addr} (E : Exa Z h a C) {argsL rest : List Value} (hM : OMet l Z z bytes maxL ret [] rm (.ref a :: argsL).toArray h Q) {W : Nat} (hf : rm.frames + 1 ≤ R.frames) (hl : W + (maxL + 11) + rm.locals ≤ R.locals) (hc : cells + rm.cells ≤ R.cells) (hs : slots + rm.slots ≤ R.slots)
    (eT : T.heap = h) {pc : Nat} {Ls : Array Slot} (hsize : Ls.size = c.maxLocals) (hlen : ∀ sig, parseMethodDescriptor y.desc = some sig → argsL.length = sig.parameters.length) (hW : (rest.map fun v => v.category).sum ≤ W) (hd : decode c.code pc = .ok (.invokevirtual index, 3)) :
    ∃ (v : Option Value) (T' : State) (L : List Loc), Stand p l e R s m args below meth c T' (locs ++ L) (cells + rm.cells) (slots + rm.slots) ∧ Q v T'.heap L ∧
      ∀ t, Steps p.tables e below (T'.setTop (mkF m (pc + 3) Ls (v.toList ++ rest))) t → Steps p.tables e below (T.setTop (mkF m pc Ls (argsL.reverse ++ .ref a :: rest))) t := by
  obtain ⟨cB, kB, q1, q2, q3⟩ := isOf hZ eT E
  obtain ⟨v, _, ⟨T', L', k', n'⟩, -, X', ⟨L, hQ, hl', hy', hz'⟩, st⟩ := X.virtualBackUp hx (x := y) (y := z) (owner := owner) hown (mvT hZ w1) (mvT hZ wm) (mvT hZ wd) hy (mvT hZ ws) (mvT hZ w2) (backOf (W := W) hM hZ w4 w3 hf hl) q1 q3 (g := mkF m pc Ls (argsL.reverse ++ .ref a :: rest)) rfl hsize (Steps.refl _) (argsL := argsL) (rest := rest) hlen rfl (by show 2 * 0 + _ ≤ _; omega) hd (fun _ _ => ⟨rfl, eT, hc, hs⟩)
  dsimp only [Pt.U, Pt.locs, Pt.cells, Pt.slots] at X' hl' hy' hz' st hQ
  subst hl' hy' hz'
  exact ⟨v, T', L, X', hQ, fun t k => st.trans k⟩
/-- an interface's method by the contract of the body that the receiver's class selects -/
theorem own_callF (X : Stand p l e R s m args below meth c T locs cells slots) (hx : p.tables.exec = Jvm.exec) (hZ : Z.Warmed39 s.vm) {own C : String} {index count : Nat} {y z : MethodName} {bytes : ByteArray} {maxL : Nat} {ret : Option FieldType} {rm : Room} {Q : Option Value → Heap → List Loc → Prop}
    (hown : s.vm.findClass own = some m.cls) (w1 : (Jvm.Cond.methodLink own index y).before a0 Z = true) (wd : (Jvm.Cond.declares y).before a0 Z = true) (wf : (Jvm.Cond.interfaceMethod y.cls y.cls y.name y.desc).before args s = true) (ws : (Jvm.Cond.selects C y z).before a0 Z = true) (w2 : (Jvm.Cond.instanceMethod z).before a0 Z = true) (wp : (Jvm.Cond.publicMethod z).before a0 Z = true) (wu : (Jvm.Cond.unhidden C y.name y.desc).before a0 Z = true) (wc : (Jvm.Cond.castable C y.cls).before a0 Z = true) (w3 : (Jvm.Cond.initialized z.cls).before a0 Z = true) (w4 : (Jvm.Cond.code z bytes maxL ret).before a0 Z = true)
    (hy : y.cls ≠ "java/lang/invoke/MethodHandle" ∧ y.cls ≠ "java/lang/invoke/VarHandle") {a : Addr} (E : Exa Z h a C) {argsL rest : List Value} (hM : OMet l Z z bytes maxL ret [] rm (.ref a :: argsL).toArray h Q) {W : Nat} (hf : rm.frames + 1 ≤ R.frames) (hl : W + (maxL + 11) + rm.locals ≤ R.locals) (hc : cells + rm.cells ≤ R.cells) (hs : slots + rm.slots ≤ R.slots)
    (eT : T.heap = h) {pc : Nat} {Ls : Array Slot} (hsize : Ls.size = c.maxLocals) (hlen : ∀ sig, parseMethodDescriptor y.desc = some sig → argsL.length = sig.parameters.length) (hW : (rest.map fun v => v.category).sum ≤ W) (hd : decode c.code pc = .ok (.invokeinterface index count, 5)) :
    ∃ (v : Option Value) (T' : State) (L : List Loc), Stand p l e R s m args below meth c T' (locs ++ L) (cells + rm.cells) (slots + rm.slots) ∧ Q v T'.heap L ∧
      ∀ t, Steps p.tables e below (T'.setTop (mkF m (pc + 5) Ls (v.toList ++ rest))) t → Steps p.tables e below (T.setTop (mkF m pc Ls (argsL.reverse ++ .ref a :: rest))) t := by
  obtain ⟨cB, kB, q1, q2, q3⟩ := isOf hZ eT E
  obtain ⟨v, _, ⟨T', L', k', n'⟩, -, X', ⟨L, hQ, hl', hy', hz'⟩, st⟩ := X.interfaceBack hx (xi := y) (y := z) hown (mvT hZ w1) (mvT hZ wd) wf (mvT hZ ws) (mvT hZ w2) (mvT hZ wp) (mvT hZ wu) (mvT hZ wc) hy (backOf (W := W) hM hZ w4 w3 hf hl) q1 q2 q3 (g := mkF m pc Ls (argsL.reverse ++ .ref a :: rest)) rfl hsize (Steps.refl _) (argsL := argsL) (rest := rest) hlen rfl (by show 2 * 0 + _ ≤ _; omega) hd (fun _ _ => ⟨rfl, eT, hc, hs⟩)
  dsimp only [Pt.U, Pt.locs, Pt.cells, Pt.slots] at X' hl' hy' hz' st hQ
  subst hl' hy' hz'
  exact ⟨v, T', L, X', hQ, fun t k => st.trans k⟩
theorem own_hc {T : State} {h : Heap} {a : Addr} {cl : Cell} (q : T.heap = h) (r : h[a]? = some cl) : T.heap[a]? = some cl := by rw [q]; exact r
/-- what a Bool is as Java's int -/
def b2i (b : Bool) : Int32 := if b then 1 else 0
theorem b2i_t {b : Bool} (h : b = true) : b2i b = 1 := by simp [b2i, h]
theorem b2i_f {b : Bool} (h : b = false) : b2i b = 0 := by simp [b2i, h]
theorem b2i_inj {a b : Bool} : b2i a = b2i b ↔ a = b := by cases a <;> cases b <;> decide
/-- the branches' conditions in plain words -/
theorem ic_lt (x y : Int32) : if_icmp.holds .lt x y = decide (x < y) := by by_cases q : x < y <;> simp [q, tlt, flt]
theorem ic_ge (x y : Int32) : if_icmp.holds .ge x y = !decide (x < y) := by by_cases q : x < y <;> simp [q, tlt, flt]
theorem ic_gt (x y : Int32) : if_icmp.holds .gt x y = decide (y < x) := by by_cases q : y < x <;> simp [q, tlt, flt]
theorem ic_le (x y : Int32) : if_icmp.holds .le x y = !decide (y < x) := by by_cases q : y < x <;> simp [q, tlt, flt]
theorem ic_eq (x y : Int32) : if_icmp.holds .eq x y = decide (x = y) := by by_cases q : x = y <;> simp [q, teq, feq]
theorem ic_ne (x y : Int32) : if_icmp.holds .ne x y = !decide (x = y) := by by_cases q : x = y <;> simp [q, teq, feq]
theorem i0_lt (x : Int32) : ifCond.holds .lt x = decide (x < 0) := (if0 _ _).trans (ic_lt x 0)
theorem i0_ge (x : Int32) : ifCond.holds .ge x = !decide (x < 0) := (if0 _ _).trans (ic_ge x 0)
theorem i0_gt (x : Int32) : ifCond.holds .gt x = decide (0 < x) := (if0 _ _).trans (ic_gt x 0)
theorem i0_le (x : Int32) : ifCond.holds .le x = !decide (0 < x) := (if0 _ _).trans (ic_le x 0)
theorem i0_eq (x : Int32) : ifCond.holds .eq x = decide (x = 0) := (if0 _ _).trans (ic_eq x 0)
theorem i0_ne (x : Int32) : ifCond.holds .ne x = !decide (x = 0) := (if0 _ _).trans (ic_ne x 0)
theorem lw_lt (x y : Int64) : lcmpW x y < 0 ↔ x < y := by rw [lcW]; exact Jvm.RoadKit.lc_lt x y
theorem lw_gt (x y : Int64) : 0 < lcmpW x y ↔ y < x := by rw [lcW]; exact Jvm.RoadKit.lc_gt x y
theorem lw_eq (x y : Int64) : lcmpW x y = 0 ↔ x = y := by rw [lcW]; exact Jvm.RoadKit.lc_eq x y
theorem l0_lt (x y : Int64) : ifCond.holds .lt (lcmpW x y) = decide (x < y) := (i0_lt _).trans (by simp [lw_lt])
theorem l0_ge (x y : Int64) : ifCond.holds .ge (lcmpW x y) = !decide (x < y) := (i0_ge _).trans (by simp [lw_lt])
theorem l0_gt (x y : Int64) : ifCond.holds .gt (lcmpW x y) = decide (y < x) := (i0_gt _).trans (by simp [lw_gt])
theorem l0_le (x y : Int64) : ifCond.holds .le (lcmpW x y) = !decide (y < x) := (i0_le _).trans (by simp [lw_gt])
theorem l0_eq (x y : Int64) : ifCond.holds .eq (lcmpW x y) = decide (x = y) := (i0_eq _).trans (by simp [lw_eq])
theorem l0_ne (x y : Int64) : ifCond.holds .ne (lcmpW x y) = !decide (x = y) := (i0_ne _).trans (by simp [lw_eq])
theorem b0_eq (b : Bool) : ifCond.holds .eq (b2i b) = !b := by cases b <;> decide
theorem b0_ne (b : Bool) : ifCond.holds .ne (b2i b) = b := by cases b <;> decide
theorem own_t {P : Prop} [Decidable P] {u : Bool} (q : u = decide P) (hp : P) : u = true := by rw [q]; exact decide_eq_true hp
theorem own_f {P : Prop} [Decidable P] {u : Bool} (q : u = decide P) (hp : ¬ P) : u = false := by rw [q]; exact decide_eq_false hp
theorem own_nt {P : Prop} [Decidable P] {u : Bool} (q : u = !decide P) (hp : ¬ P) : u = true := by rw [q]; simp [hp]
theorem own_nf {P : Prop} [Decidable P] {u : Bool} (q : u = !decide P) (hp : P) : u = false := by rw [q]; simp [hp]
theorem own_bt {u b : Bool} (q : u = b) (hp : b = true) : u = true := q.trans hp
theorem own_bf {u b : Bool} (q : u = b) (hp : b = false) : u = false := q.trans hp
theorem own_nbt {u b : Bool} (q : u = !b) (hp : b = false) : u = true := by rw [q, hp]; rfl
theorem own_nbf {u b : Bool} (q : u = !b) (hp : b = true) : u = false := by rw [q, hp]; rfl
theorem own_retN (X : Stand p l e R s m args below meth c T locs cells slots) (hx : p.tables.exec = Jvm.exec) {pc : Nat} {Ls : Array Slot} {z z' : Int32} {t : FieldType} {rest : List Value} (hret : meth.sig.returnType = some t) (ht : t = .boolean ∨ t = .byte ∨ t = .char ∨ t = .short) (hn : nar t z = z')
    (hd : decode c.code pc = .ok (.ireturn, 1)) {fs : List Frame} (hl : ∀ (f : JFrame) (acts : List Action), f.method = m → f.locked = none → f.entered = [] → (doReturn e (T.setTop f) acts (some (.int z'))).1 = T.setFrames fs) :
    Steps p.tables e below (T.setTop (mkF m pc Ls (.int z :: rest))) (T.setFrames fs) := by
  subst hn
  exact retN X hx hret ht hd hl
theorem own_nar_b2i (b : Bool) : nar .boolean (b2i b) = b2i b := by cases b <;> decide
theorem own_narrow_b2i (b : Bool) : narrow .boolean (.int (b2i b)) = .int (b2i b) := by cases b <;> rfl
theorem own_fits_b2i (b : Bool) : fits .boolean (.int (b2i b)) = true := by cases b <;> rfl
theorem own_nar_i2b (x : Int32) : nar .byte x.toInt8.toInt32 = x.toInt8.toInt32 := by simp [nar]
theorem own_lrem (x y : Int64) : x - x / y * y = x % y := by
  apply Int64.toInt_inj.mp
  have h1 := Int64.le_toInt (x % y)
  have h2 := Int64.toInt_lt (x % y)
  have e : x.toInt - y.toInt * x.toInt.tdiv y.toInt = x.toInt.tmod y.toInt := (Int.tmod_def _ _).symm
  rw [Int64.toInt_sub, Int64.toInt_mul, Int64.toInt_div, Int.bmod_mul_bmod, Int.sub_bmod_bmod, Int.mul_comm (x.toInt.tdiv y.toInt), e, ← Int64.toInt_mod]
  exact Int.bmod_eq_of_le_mul_two (by omega) (by omega)
/-- getfield by an entry that is resolved already -/
theorem own_getFR (X : Stand p l e R s m args below meth c T locs cells slots) (hx : p.tables.exec = Jvm.exec) (hZ : Z.Warmed39 s.vm) {own O n d : String} {index : Nat} (hown : s.vm.findClass own = some m.cls) (w : (Jvm.Cond.fieldRef own index O n d).before a0 Z = true)
    (eT : T.heap = h) {a : Addr} {v : Value} (F : Fld Z h a O n d v) {g : JFrame} (hg : g.method = m) {rest : List Value} (hs : g.stack = .ref a :: rest) (hd : decode c.code g.pc = .ok (.getfield index, 3)) : ∃ T', Stand p l e R s m args below meth c T' locs cells slots ∧ T'.heap = h ∧ ∀ target, Steps p.tables e below (T'.setTop { g with pc := g.pc + 3, stack := v :: rest }) target → Steps p.tables e below (T.setTop g) target := by
  have hZT : Z.Warmed39 T.vm := wtrans hZ X.warmed
  have w' := Cond.fieldRef_warmed39 hZT w
  have hcur : (Z.setVm T.vm).vm.findClass own = some m.cls := (X.warmed.alike.findClass own _).trans hown
  obtain ⟨c', k', i', f', h1, hready⟩ := Cond.fieldRef_spec (s := Z.setVm T.vm) hcur w'
  obtain ⟨cell, cf, k, i, f, g1, g2, g3, g4, -, -, g7⟩ := F
  obtain ⟨k2, hi, -⟩ := State.fieldFound?_setVm (s := Z) hZT.alike g2
  have q := Option.some.inj (h1.symm.trans hi)
  simp only [Prod.mk.injEq] at q
  obtain ⟨rfl, -, -, rfl⟩ := q
  exact ⟨T, X, eT, fun target kt => (X.getfieldR hx hg hready g3 hs (by rw [eT]; exact g1) g4 g7 hd (Steps.refl _)).trans kt⟩
/-- the case's words on statics and fields, at the start -/
theorem own_sx {C n d K : String} (w1 : (Jvm.Cond.initialized C).before args s = true) (w2 : (Jvm.Cond.laysStatic C n d).before args s = true) (q : (Jvm.Cond.exactly (Term.static C n d) K).value args s none s [] = some true) : ∃ a : Addr, (Term.static C n d).eval args s none [] s = some (.ref a) ∧ Sta s s.heap C n d (.ref a) ∧ Exa s s.heap a K := by
  obtain ⟨a, ev⟩ := exa_v q
  exact ⟨a, ev, Sta.start ev (Or.inr ⟨w1, w2⟩), Exa.start ev q⟩
theorem own_fi {t : Term} {a : Addr} {C n d : String} {k : Int32} (ev : t.eval args s none [] s = some (.ref a)) (q : (Jvm.Cond.eq (Term.field t C n d) (Term.int k)).value args s none s [] = some true) : Fld s s.heap a C n d (.int k) := by
  obtain ⟨x, y, h1, h2, h3, h4⟩ := cmp_v (Or.inl q)
  have h5 : y = .int k := (Option.some.inj (h2.symm.trans (Term.int_eval k)) : _)
  subst h5
  obtain ⟨z, rfl⟩ : ∃ z, x = .int z := h4
  have e2 := h1
  rw [fld_at ev] at h1
  simp [Cond.value, e2, h2] at q
  subst q
  exact Fld.start h1
theorem own_fx {t : Term} {a : Addr} {C n d K : String} (ev : t.eval args s none [] s = some (.ref a)) (q : (Jvm.Cond.exactly (Term.field t C n d) K).value args s none s [] = some true) : ∃ b : Addr, (Term.field t C n d).eval args s none [] s = some (.ref b) ∧ Fld s s.heap a C n d (.ref b) ∧ Exa s s.heap b K := by
  obtain ⟨b, ev2⟩ := exa_v q
  exact ⟨b, ev2, Fld.start ((fld_at ev).symm.trans ev2), Exa.start ev2 q⟩
/-- a class that the chain of superclasses doesn't meet: its own word is 'instantiable' -/
theorem own_ns_root {Z : State} {a0 : Array Value} {O K : String} {n : Nat} (w : (Jvm.Cond.noSuperclass O).before a0 Z = true) (wi : (Jvm.Cond.instantiable K n).before a0 Z = true) (hn : O ≠ K) : NS Z O K := by
  obtain ⟨c, k, h1, h2, h3, -, -⟩ := Cond.noSuperclass_spec w
  obtain ⟨t, kt, g1, -⟩ := Cond.instantiable_spec wi
  have ne := ids_ne h1 g1 hn
  refine ⟨c, t, h1, g1, fun fuel => ?_⟩
  cases fuel with
  | zero => rfl
  | succ f => simp [Vm.isSubclassAux, ne, h2, h3]
theorem own_ns_no {Z : State} {a0 : Array Value} {C S K : String} {n : Nat} (w : (Jvm.Cond.superclass C S).before a0 Z = true) (wi : (Jvm.Cond.instantiable K n).before a0 Z = true) (q : NS Z C K) (hn : C ≠ K) : ∃ c t, Z.vm.findClass C = some c ∧ Z.vm.findClass K = some t ∧ Z.vm.assignable c t = false := by
  obtain ⟨c, t, h0, g0, n3⟩ := q
  obtain ⟨p, k, kp, h1, h2, h3, h4, h5, -, h7⟩ := Cond.superclass_spec h0 w
  obtain ⟨t', kt, g1, g2, g3, g4, -, -⟩ := Cond.instantiable_spec wi
  cases g0.symm.trans g1
  have g5 : kt.isInterface = false := by simp only [Bool.or_eq_false_iff] at g4; exact g4.1
  have ne := ids_ne h0 g0 hn
  refine ⟨c, t, h0, g0, ?_⟩
  show Z.vm.assignableAux (255 + 1) c t = false
  simp [Vm.assignableAux, ne, h2, g2, h5, g3, g5, Vm.isSubclass, n3]
/-- a static's cell isn't written by one who writes objects alone -/
theorem own_sta_keep {Z : State} {h h' : Heap} {C n d : String} {v : Value} {ws : List Addr} (F : Sta Z h C n d v) (K : Keep h h' ws) (q : ∀ x ∈ ws, ∃ C', Exa Z h x C') : Sta Z h' C n d v := by
  obtain ⟨cf, i, k, f, st, cell, h1, h2, h3, h4, h5, h6, h7⟩ := F
  refine ⟨cf, i, k, f, st, cell, h1, h2, h3, h4, K.2.1 st cell h5 (fun r => ?_), h6, h7⟩
  obtain ⟨C', c', k', g1, -, -, g4, -⟩ := q st r
  rw [h5] at g1
  cases g1
  rw [h6] at g4
  cases g4
theorem own_ne32 {x y : Int32} (h : x ≠ y) : Value.int x ≠ Value.int y := fun q => h (Value.int.inj q)
end OwnKit
section OwnSync
variable {p : Program} {l : Launch} {e : Env} {R : Room} {s : State} {m : MethodId} {args : Array Value} {below : List Frame} {meth : Method} {c : Code} {T : State} {locs : List Loc} {cells slots : Nat} {Z : State} {a0 : Array Value} {h h' h0 : Heap}
/-- the object's monitor is free -/
def Mo (h : Heap) (a : Addr) : Prop := ∃ cell : Cell, h[a]? = some cell ∧ cell.monitor.owner = none ∧ cell.monitor.count = 0
theorem Mo.ext {a : Addr} (F : Mo h a) (E : Ext h h') : Mo h' a := by obtain ⟨c, q, r⟩ := F; exact ⟨c, E.2 _ _ q, r⟩
theorem Mo.keep {a : Addr} {ws : List Addr} (F : Mo h a) (K : Keep h h' ws) (q : a ∉ ws) : Mo h' a := by obtain ⟨c, r, t⟩ := F; exact ⟨c, K.2.1 a c r q, t⟩
theorem Mo.wr {a b : Addr} {sl : Nat} {v : Value} (F : Mo h a) (W : Wr h h' b sl v) : Mo h' a := by
  obtain ⟨c, q, r⟩ := F
  obtain ⟨c', e1, -, -, -, e5, -, e7⟩ := wr_at W q
  by_cases u : a = b
  · obtain ⟨e8, -⟩ := e7 u; subst e8; exact ⟨_, e1, r⟩
  · rw [e5 u] at e1; exact ⟨c, e1, r⟩
theorem Mo.of_new {a : Addr} (F : ∃ cell : Cell, h[a]? = some cell ∧ cell.vm = .none ∧ cell.monitor = {}) : Mo h a := by
  obtain ⟨c, q, -, r⟩ := F; exact ⟨c, q, by rw [r], by rw [r]⟩
theorem own_keep_mon {a : Addr} {cl : Cell} (hc : h[a]? = some cl) (mo : Monitor) : Keep h (h.setIfInBounds a { cl with monitor := mo }) [a] := by
  refine ⟨by simp, fun x c q r => ?_, fun x c q => ?_⟩
  · have : a ≠ x := fun z => r (by simp [z])
    rw [Array.getElem?_setIfInBounds_ne this]; exact q
  · by_cases z : a = x
    · subst z; cases hc.symm.trans q
      exact ⟨{ cl with monitor := mo }, by rw [Array.getElem?_setIfInBounds_self_of_lt (Array.getElem?_eq_some_iff.mp hc).1], rfl, rfl, rfl⟩
    · exact ⟨c, by rw [Array.getElem?_setIfInBounds_ne z]; exact q, rfl, rfl, rfl⟩
/-- an entry that is resolved already names the method -/
theorem own_ref_ready {S : State} {cls : String} {index cur : Nat} {x : MethodName} {m' : MethodId} {as' : Array Value} (e : Env) (hcur : S.vm.findClass cls = some cur) (hn : S.methodNamed? x = some m') (hx : x.cls ≠ "java/lang/invoke/MethodHandle" ∧ x.cls ≠ "java/lang/invoke/VarHandle") (w : (Jvm.Cond.methodRef cls index x).before as' S = true) : namesResolved S.vm cur index m'.cls ∧ S.vm.methodReady cur index m' := by
  obtain ⟨m2, c', ci, b, h1, h2, h3, h4, h5⟩ := Cond.methodRef_spec (e := e) hcur w
  have hf := State.methodFound?_of_named hn hx
  cases h1.symm.trans hf
  cases h3.symm.trans (findClass_of_methodNamed hn)
  have w2 : (Jvm.Cond.methodRef cls index x).holds as' S none S [] = true := w
  simp only [Cond.holds, Cond.value, hcur, hf, beq_iff_eq, Option.some.injEq, Bool.and_eq_true, decide_eq_true_eq] at w2
  obtain ⟨⟨hnames, -⟩, -⟩ := w2
  obtain ⟨cp, hcp, hnm⟩ := State.names_spec hnames
  obtain ⟨ci', nt, hentry, hnt, -⟩ := namesOf?_method hnm
  obtain ⟨k, cf, hk, hcf, rfl⟩ := State.poolOf?_spec hcur hcp
  obtain ⟨b', hask⟩ := memberRef_ask' (e := e) hk hcf hentry hnt
  rw [hask] at h4
  cases h4
  exact ⟨⟨k, cf, _, nt, hk, hcf, hentry, h5⟩, h2⟩
/-- a constructor by its contract, through an entry that is resolved already -/
theorem own_callIR (X : Stand p l e R s m args below meth c T locs cells slots) (hx : p.tables.exec = Jvm.exec) (hZ : Z.Warmed39 s.vm) {own : String} {index : Nat} {y : MethodName} {bytes : ByteArray} {maxL : Nat} {rm : Room} {Q : Option Value → Heap → List Loc → Prop} (hy1 : y.name = "<init>")
    (hown : s.vm.findClass own = some m.cls) (w1 : (Jvm.Cond.methodRef own index y).before a0 Z = true) (w2 : (Jvm.Cond.instanceMethod y).before a0 Z = true) (w3 : (Jvm.Cond.initialized y.cls).before a0 Z = true) (w4 : (Jvm.Cond.code y bytes maxL none).before a0 Z = true)
    (hy : y.cls ≠ "java/lang/invoke/MethodHandle" ∧ y.cls ≠ "java/lang/invoke/VarHandle") {a : Addr} {argsL rest : List Value} (hM : OMet l Z y bytes maxL none [] rm (.ref a :: argsL).toArray h Q) {W : Nat} (hf : rm.frames + 1 ≤ R.frames) (hl : W + (maxL + 11) + rm.locals ≤ R.locals) (hc : cells + rm.cells ≤ R.cells) (hs : slots + rm.slots ≤ R.slots)
    (eT : T.heap = h) {pc : Nat} {Ls : Array Slot} (hsize : Ls.size = c.maxLocals) (hlen : ∀ sig, parseMethodDescriptor y.desc = some sig → argsL.length = sig.parameters.length) (hW : (rest.map fun v => v.category).sum ≤ W) (hd : decode c.code pc = .ok (.invokespecial index, 3)) :
    ∃ (v : Option Value) (T' : State) (L : List Loc), Stand p l e R s m args below meth c T' (locs ++ L) (cells + rm.cells) (slots + rm.slots) ∧ Q v T'.heap L ∧
      ∀ t, Steps p.tables e below (T'.setTop (mkF m (pc + 3) Ls (v.toList ++ rest))) t → Steps p.tables e below (T.setTop (mkF m pc Ls (argsL.reverse ++ .ref a :: rest))) t := by
  have hS : SCall p l e R s m args below meth c index y := SCall.of_ready hx hy1 (mvT hZ w2) (mvT hZ w4) (fun U r hU hr => by
    have hZU : Z.Warmed39 U.vm := wtrans hZ hU
    obtain ⟨r', -, hrn, -⟩ := Cond.instanceMethod_spec w2
    have w1' := Cond.methodRef_warmed39 hZU hrn hy w1
    have hn : (Z.setVm U.vm).methodNamed? y = some r := by
      have q1 : s.methodNamed? y = (s.setVm U.vm).methodNamed? y := (State.methodNamed?_setVm hU.alike y).symm
      exact (q1 ▸ hr :)
    exact own_ref_ready e (S := Z.setVm U.vm) ((hU.alike.findClass own _).trans hown) hn hy w1')
  obtain ⟨v, _, ⟨T', L', k', n'⟩, -, X', ⟨L, hQ, hl', hy', hz'⟩, st⟩ := hS X (backOf (W := W) hM hZ w4 w3 hf hl) (g := mkF m pc Ls (argsL.reverse ++ .ref a :: rest)) rfl hsize (Steps.refl _) (a := a) (argsL := argsL) (rest := rest) hlen rfl (by show 2 * 0 + _ ≤ _; omega) hd (fun _ _ => ⟨rfl, eT, hc, hs⟩)
  dsimp only [Pt.U, Pt.locs, Pt.cells, Pt.slots] at X' hl' hy' hz' st hQ
  subst hl' hy' hz'
  exact ⟨v, T', L, X', hQ, fun t k => st.trans k⟩
/-- a synchronized method's contract -/
abbrev OMetS (l : Launch) (Z : State) (y : MethodName) (bytes : ByteArray) (maxL : Nat) (ret : Option FieldType) (ws : List Jvm.Cond) (rm : Room) (a : Addr) (as' : Array Value) (h0 : Heap) (Q : Option Value → Heap → List Loc → Prop) : Prop :=
  MetFree l y (head1 (Jvm.Cond.codeSync y bytes maxL ret :: ws) rm) (fun as U => as = as' ∧ Z.Warmed39 U.vm ∧ U.heap = h0 ∧ ∃ cell : Cell, h0[a]? = some cell ∧ cell.enterable U.cur) (fun _ _ _ _ _ => True) (fun _ U o U' => ∃ v L, o = .returned v ∧ Q v U'.heap L ∧ FrameEnd U o U' L rm.cells rm.slots)
theorem own_sync_sig {y : MethodName} {bytes : ByteArray} {maxL : Nat} {ret : Option FieldType} {mk : MethodId} {methM : Method} (hn : s.methodNamed? y = some mk) (hm : s.vm.method? mk = some methM) (w : (Jvm.Cond.codeSync y bytes maxL ret).before args s = true) : parseMethodDescriptor y.desc = some methM.sig := by
  obtain ⟨meth', c', g1, -, -, -, -, -, -, g8⟩ := Cond.codeSync_spec hn w
  cases hm.symm.trans g1
  exact g8
theorem mvMN {own host : String} {x : MethodName} {index : Nat} (hZ : Z.Warmed39 s.vm) (w : (Jvm.Cond.methodLinkNest own index x host).before a0 Z = true) : (Jvm.Cond.methodLinkNest own index x host).before args s = true := (Cond.methodLinkNest_wide hZ w :)
/-- a private synchronized method of a nest-mate by its contract -/
theorem own_callNS (X : Stand p l e R s m args below meth c T locs cells slots) (hx : p.tables.exec = Jvm.exec) (hZ : Z.Warmed39 s.vm) {own host : String} {index n : Nat} {y : MethodName} {bytes : ByteArray} {maxL : Nat} {ret : Option FieldType} {rm : Room} {Q : Option Value → Heap → List Loc → Prop}
    (hown : s.vm.findClass own = some m.cls) (w1 : (Jvm.Cond.methodLinkNest own index y host).before a0 Z = true) (w2 : (Jvm.Cond.instanceMethod y).before a0 Z = true) (wp : (Jvm.Cond.privateMethod y).before a0 Z = true) (w3 : (Jvm.Cond.initialized y.cls).before a0 Z = true) (wn : (Jvm.Cond.instantiable y.cls n).before a0 Z = true) (w4 : (Jvm.Cond.codeSync y bytes maxL ret).before a0 Z = true)
    (hy : y.cls ≠ "java/lang/invoke/MethodHandle" ∧ y.cls ≠ "java/lang/invoke/VarHandle") {a : Addr} {C : String} (E : Exa Z h a C) (hmo : Mo h a) {argsL rest : List Value} (hM : OMetS l Z y bytes maxL ret [Jvm.Cond.instanceMethod y] rm a (.ref a :: argsL).toArray h Q) {W : Nat} (hf : rm.frames + 1 ≤ R.frames) (hl : W + (maxL + 11) + rm.locals ≤ R.locals) (hc : cells + rm.cells ≤ R.cells) (hs : slots + rm.slots ≤ R.slots)
    (eT : T.heap = h) {pc : Nat} {Ls : Array Slot} (hsize : Ls.size = c.maxLocals) (hlen : ∀ sig, parseMethodDescriptor y.desc = some sig → argsL.length = sig.parameters.length) (hW : (rest.map fun v => v.category).sum ≤ W) (hd : decode c.code pc = .ok (.invokevirtual index, 3)) :
    ∃ (v : Option Value) (T' : State) (L : List Loc), Stand p l e R s m args below meth c T' (locs ++ L) (cells + rm.cells) (slots + rm.slots) ∧ Q v T'.heap L ∧
      ∀ t, Steps p.tables e below (T'.setTop (mkF m (pc + 3) Ls (v.toList ++ rest))) t → Steps p.tables e below (T.setTop (mkF m pc Ls (argsL.reverse ++ .ref a :: rest))) t := by
  have hK : Back l R p e below s args y 3 W (fun A as => as = (.ref a :: argsL).toArray ∧ A.U.heap = h ∧ A.cells + rm.cells ≤ R.cells ∧ A.slots + rm.slots ≤ R.slots)
      (fun A _ v B => ∃ L, Q v B.U.heap L ∧ B.locs = A.locs ++ L ∧ B.cells = A.cells + rm.cells ∧ B.slots = A.slots + rm.slots) :=
    Jvm.Free.XT.back_of_sync (bytes := bytes) (maxL := maxL) (ret := ret) (E := fun _ _ o t L k n => k = rm.cells ∧ n = rm.slots ∧ ∃ v, o = .returned v ∧ Q v t.heap L) hM hf hl
      (fun m meth c A as Y hp => have hU : Z.Warmed39 A.U.vm := wtrans hZ Y.warmed
        ⟨by show (Cond.and _ (Cond.and _ .tt)).before as A.U = true; rw [Cond.before_and, Cond.before_and, mv hU w4, mv hU w2]; rfl, mv hU w4, mv hU w3, hp.2.2.1, hp.2.2.2⟩)
      (fun m meth c A as g mk Y hp => ⟨hp.1, wtrans hZ Y.warmed, hp.2.1, by obtain ⟨cl, u1, u2, u3⟩ := hmo; exact ⟨cl, u1, Or.inl ⟨u2, u3⟩⟩⟩)
      (fun _ _ _ _ _ _ _ _ _ => trivial)
      (fun _ _ _ _ ⟨v, L, h1, h2, h3⟩ => ⟨L, _, _, h3, rfl, rfl, v, h1, h2⟩)
      (fun m meth c A as g mk v t L k n Y hp _ _ ⟨e1, e2, v', e3, e4⟩ => by cases e3; subst e1 e2; exact ⟨L, e4, rfl, rfl, rfl⟩)
  have hinst : (Jvm.Cond.instanceMethod y).before args s = true := mvT hZ w2
  obtain ⟨mk, methM, hnamed, hmethM, hstM, habM⟩ := Cond.instanceMethod_spec hinst
  have hcode : (Jvm.Cond.codeSync y bytes maxL ret).before args s = true := mvT hZ w4
  have hpriv := Cond.privateMethod_at (mvP hZ wp (args := #[]))
  obtain ⟨cN, kN, n1, n2, n3, n4, -, -⟩ := Cond.instantiable_spec (mvT hZ wn : (Jvm.Cond.instantiable y.cls n).before args s = true)
  have hcls := findClass_of_methodNamed hnamed
  cases n1.symm.trans hcls
  have hni : kN.isInterface = false := by simp only [Bool.or_eq_false_iff] at n4; exact n4.1
  obtain ⟨cell, kc, q1, q2, q3, q4, -⟩ := E
  have hselP : selectMethod e.platform s.vm cell.cls mk = .method mk := selectMethod_private hmethM (hpriv mk methM hnamed hmethM)
  have hsigM : parseMethodDescriptor y.desc = some methM.sig := own_sync_sig hnamed hmethM hcode
  obtain ⟨vm₁, X₁, hstep₁⟩ := X.invokevirtualNest hx hown (mvMN hZ w1) hnamed hmethM hstM n2 hni hy (a := a) (cell := cell) (by rw [eT]; exact q1) (fun q r => by rw [r] at q4; cases q4) hselP hmethM habM n2 hni (g := mkF m pc Ls (argsL.reverse ++ .ref a :: rest)) rfl (argsL := argsL) (rest := rest) (hlen _ hsigM) rfl hd
  obtain ⟨v, ⟨T', L', k', n'⟩, X', ⟨L, hQ, hl', hy', hz'⟩, hsteps⟩ := hK m meth c ⟨T.setVm vm₁, locs, cells, slots⟩ (mkF m pc Ls rest) (.invokevirtual index) mk (.ref a :: argsL).toArray X₁ rfl hsize hd (by show 2 * 0 + (rest.map fun v => v.category).sum ≤ W; omega) (X₁.named hnamed) ⟨rfl, eT, hc, hs⟩
  dsimp only [Pt.U, Pt.locs, Pt.cells, Pt.slots] at X' hl' hy' hz' hsteps hQ
  subst hl' hy' hz'
  exact ⟨v, T', L, X', hQ, fun t k => (hstep₁ _ fun acts => by rw [doInvoke_state]; exact Steps.refl _).trans (hsteps.trans k)⟩
end OwnSync
theorem own_and64_0 (p : Int64) : 0 ≤ (p &&& 9223372036854775807).toInt := by
  have h : (p &&& 9223372036854775807).toInt = (p &&& 9223372036854775807).toBitVec.toInt := rfl
  rw [h, Int64.toBitVec_and]
  have e : (9223372036854775807 : Int64).toBitVec = 9223372036854775807#64 := rfl
  rw [e, BitVec.toInt_eq_toNat_cond, BitVec.toNat_and]
  have : p.toBitVec.toNat &&& (9223372036854775807#64).toNat ≤ 9223372036854775807 := Nat.and_le_right
  split <;> omega
def Q8 (Z : State) (a : Addr) (sz tk n : Int64) (h0 : Heap) (n0 : Nat) (v : Option Value) (h : Heap) (L : List Loc) : Prop := v = some (.int 1) ∧ Fr n0 L ∧ Keep h0 h [a] ∧ Exa Z h a "com/example/shelfmerge/shelfmerge/HeapBudget" ∧ Fld Z h a "com/example/shelfmerge/shelfmerge/HeapBudget" "size" "J" (.long sz) ∧ Fld Z h a "com/example/shelfmerge/shelfmerge/HeapBudget" "taken" "J" (.long (tk + n)) ∧ Mo h a
theorem ef8 (m : MethodId) (a : Addr) (n : Int64) : entryFrameSync m #[.ref a, .long n] 3 a = mkL a m 0 #[.val (.ref a), .val (.long n), .second] [] := by first | (simp [entryFrameSync, mkL, argsToLocals, Value.category]; done) | rfl
theorem pn_8 : plainFor (⟨"com/example/shelfmerge/shelfmerge/HeapBudget", "take", "(J)Z"⟩ : MethodName) = true := by first | decide | decide +kernel
theorem d8_0 : decode prog_17_method_7_code 0 = .ok (.aload_n 0, 1) := by decide +kernel
theorem d8_1 : decode prog_17_method_7_code 1 = .ok (.getfield 7, 3) := by decide +kernel
theorem d8_4 : decode prog_17_method_7_code 4 = .ok (.aload_n 0, 1) := by decide +kernel
theorem d8_5 : decode prog_17_method_7_code 5 = .ok (.getfield 37, 3) := by decide +kernel
theorem d8_8 : decode prog_17_method_7_code 8 = .ok (.lsub, 1) := by decide +kernel
theorem d8_9 : decode prog_17_method_7_code 9 = .ok (.lload_n 1, 1) := by decide +kernel
theorem d8_10 : decode prog_17_method_7_code 10 = .ok (.lcmp, 1) := by decide +kernel
theorem d8_11 : decode prog_17_method_7_code 11 = .ok (.ifCond .ge 5, 3) := by decide +kernel
theorem d8_16 : decode prog_17_method_7_code 16 = .ok (.aload_n 0, 1) := by decide +kernel
theorem d8_17 : decode prog_17_method_7_code 17 = .ok (.dup, 1) := by decide +kernel
theorem d8_18 : decode prog_17_method_7_code 18 = .ok (.getfield 37, 3) := by decide +kernel
theorem d8_21 : decode prog_17_method_7_code 21 = .ok (.lload_n 1, 1) := by decide +kernel
theorem d8_22 : decode prog_17_method_7_code 22 = .ok (.ladd, 1) := by decide +kernel
theorem d8_23 : decode prog_17_method_7_code 23 = .ok (.putfield 37, 3) := by decide +kernel
theorem d8_26 : decode prog_17_method_7_code 26 = .ok (.iconst 1, 1) := by decide +kernel
theorem d8_27 : decode prog_17_method_7_code 27 = .ok (.ireturn, 1) := by decide +kernel
set_option maxRecDepth 65536 in
set_option maxHeartbeats 40000000 in
theorem rm8 (l : Launch) (Z : State) (a0 : Array Value) (hw : ∀ d ∈ tables_1, d.before a0 Z = true) (a : Addr) (sz tk n : Int64) (h0 : Heap) (n0 : Nat) (Z0 : n0 ≤ h0.size) (g_a : n0 ≤ a) (E_a : Exa Z h0 a "com/example/shelfmerge/shelfmerge/HeapBudget") (F_s : Fld Z h0 a "com/example/shelfmerge/shelfmerge/HeapBudget" "size" "J" (.long sz)) (F_t : Fld Z h0 a "com/example/shelfmerge/shelfmerge/HeapBudget" "taken" "J" (.long tk)) (M_a : Mo h0 a) (hq : ¬ (sz - tk < n)) :
    OMetS l Z (⟨"com/example/shelfmerge/shelfmerge/HeapBudget", "take", "(J)Z"⟩ : MethodName) prog_17_method_7_code 3 (some .boolean) [Jvm.Cond.instanceMethod (⟨"com/example/shelfmerge/shelfmerge/HeapBudget", "take", "(J)Z"⟩ : MethodName)] ({ frames := 0, cells := 0, slots := 0, locals := 0 } : Room) a #[.ref a, .long n] h0 (Q8 Z a sz tk n h0 n0) := by
  refine MetFree.of_bodySync pn_8 (hisS (List.mem_cons_self ..)) (fun _ s _ ⟨h1, _, h2, cl, h3, h4⟩ => ⟨a, cl, by rw [h1]; rfl, by rw [h2]; exact h3, h4⟩) ?_
  intro p e s m args below meth c a' cell s₁ Bd hml0 hP _
  obtain ⟨rfl, hZ0, hh0, cell0, hc0, hm0⟩ := hP
  obtain rfl : a = a' := by have := Bd.receiver; simpa using this
  subst hh0
  cases hc0.symm.trans Bd.object
  have hx := Bd.exec
  have hby : c.code = prog_17_method_7_code := Bd.bytes
  have X0 : Stand p l e _ (s.setCell a (cell.withEntry s.cur)) m _ below meth c s₁ [] 0 0 := Stand.of_bodySync Bd
  have hZ : Z.Warmed39 (s.setCell a (cell.withEntry s.cur)).vm := hZ0
  have hown : (s.setCell a (cell.withEntry s.cur)).vm.findClass "com/example/shelfmerge/shelfmerge/HeapBudget" = some m.cls := (findClass_of_methodNamed Bd.named :)
  have e0 : s₁.heap = s.heap.setIfInBounds a (cell.withEntry s.cur) := by rw [Bd.state]; rfl
  have M0 : Mon s.heap (s.heap.setIfInBounds a (cell.withEntry s.cur)) := mon_set Bd.object _
  have K0 : Keep s.heap (s.heap.setIfInBounds a (cell.withEntry s.cur)) [a] := own_keep_mon Bd.object _
  have hcm : (s.heap.setIfInBounds a (cell.withEntry s.cur))[a]? = some (cell.withEntry s.cur) := by simp [(Array.getElem?_eq_some_iff.mp Bd.object).1]
  obtain ⟨T1, X1, e1, st1⟩ := getF X0 hx hZ hown (host := "") (Or.inl (hw _ (List.mem_of_getElem? (i := 10) rfl))) Via.refl e0 (F_s.mon M0) (g := mkL a m 1 #[.val (.ref a), .val (.long n), .second] [.ref a]) rfl rfl (hb hby d8_1)
  obtain ⟨T2, X2, e2, st2⟩ := getF X1 hx hZ hown (host := "") (Or.inl (hw _ (List.mem_of_getElem? (i := 58) rfl))) Via.refl e1 (F_t.mon M0) (g := mkL a m 5 #[.val (.ref a), .val (.long n), .second] [.ref a, .long sz]) rfl rfl (hb hby d8_5)
  obtain ⟨T3, X3, e3, st3⟩ := getF X2 hx hZ hown (host := "") (Or.inl (hw _ (List.mem_of_getElem? (i := 58) rfl))) Via.refl e2 (F_t.mon M0) (g := mkL a m 18 #[.val (.ref a), .val (.long n), .second] [.ref a, .ref a]) rfl rfl (hb hby d8_18)
  obtain ⟨T4, h4, X4, e4, W4, st4⟩ := putF X3 hx hZ hown (host := "") (Or.inl (hw _ (List.mem_of_getElem? (i := 58) rfl))) Via.refl e3 (F_t.mon M0) (E_a.mon M0) (Or.inl (hw _ (List.mem_of_getElem? (i := 59) rfl))) (hw _ (List.mem_of_getElem? (i := 2) rfl)) (ty := .long) (by decide) rfl rfl (g := mkL a m 23 #[.val (.ref a), .val (.long n), .second] [.long (tk + n), .ref a]) rfl rfl (hb hby d8_23)
  obtain ⟨fs, cT, hcT, hrr, hrun, hended, hW, hsame⟩ := X4.leaveSync Bd.object Bd.enterable Bd.synchronized (v := some (.int 1)) (fun h => by rw [Bd.returns] at h; cases h)
  have N4 := Fr.snoc X4 (Fr.nil n0) g_a
  obtain ⟨cb, w1, -, -, -, -, -, w7⟩ := wr_at W4 hcm
  obtain ⟨w8, -, -⟩ := w7 rfl
  subst w8
  subst e4
  cases w1.symm.trans hcT
  have hend : ∃ mo, (Cell.setSlot (cell.withEntry s.cur) (Jvm.RoadKit.slotOf Z "com/example/shelfmerge/shelfmerge/HeapBudget" "taken" "J") (.long (tk + n))).left = { (Cell.setSlot (cell.withEntry s.cur) (Jvm.RoadKit.slotOf Z "com/example/shelfmerge/shelfmerge/HeapBudget" "taken" "J") (.long (tk + n))) with monitor := mo } := by
    unfold Cell.left
    split <;> exact ⟨_, rfl⟩
  obtain ⟨mo, hmo⟩ := hend
  have M5 : Mon T4.heap (T4.heap.setIfInBounds a (Cell.setSlot (cell.withEntry s.cur) (Jvm.RoadKit.slotOf Z "com/example/shelfmerge/shelfmerge/HeapBudget" "taken" "J") (.long (tk + n))).left) := by rw [hmo]; exact mon_set hcT _
  have K5 : Keep T4.heap (T4.heap.setIfInBounds a (Cell.setSlot (cell.withEntry s.cur) (Jvm.RoadKit.slotOf Z "com/example/shelfmerge/shelfmerge/HeapBudget" "taken" "J") (.long (tk + n))).left) [a] := by rw [hmo]; exact own_keep_mon hcT _
  have K4 : Keep s.heap T4.heap [a] := K0.wr W4 (Or.inl (List.mem_of_getElem? (i := 0) rfl))
  have K6 := K4.trans K5 (allS (Or.inl (List.mem_of_getElem? (i := 0) rfl)) all0)
  refine ⟨_, _, ?_, hrun, hended, _, _, rfl, ⟨rfl, N4, K6, (E_a.mon M0 |>.wr W4).mon M5, ?_, ((F_t.mon M0).same W4).mon M5, ?_⟩, ⟨_, rfl⟩, hW, hsame⟩
  · rw [ef8]
    refine XS.aloadN X0.here hx rfl (hb hby d8_0) rfl rfl ?_
    refine st1 _ ?_
    refine XS.aloadN X1.here hx rfl (hb hby d8_4) rfl rfl ?_
    refine st2 _ ?_
    refine XS.lsub X2.here hx rfl (hb hby d8_8) rfl ?_
    refine XS.lloadN X2.here hx rfl (hb hby d8_9) rfl ?_
    refine XS.lcmp X2.here hx rfl (hb hby d8_10) rfl ?_
    refine XS.ifYes X2.here hx rfl (pc0 := 11) (pc' := 16) rfl (hb hby d8_11) rfl (own_nt (l0_ge _ _) hq) (by decide) (by decide) ?_
    refine XS.aloadN X2.here hx rfl (hb hby d8_16) rfl rfl ?_
    refine XS.dup X2.here hx rfl (hb hby d8_17) rfl rfl ?_
    refine st3 _ ?_
    refine XS.lloadN X3.here hx rfl (hb hby d8_21) rfl ?_
    refine XS.ladd X3.here hx rfl (hb hby d8_22) rfl ?_
    refine st4 _ ?_
    refine XS.iconst X4.here hx rfl (hb hby d8_26) ?_
    exact retS X4 hx Bd.returns rfl (Or.inl ⟨rfl, Or.inr (Or.inl rfl), _, rfl⟩) (hb hby d8_27) hrr
  · exact ((F_s.mon M0).other W4 (Or.inr (slot_ne (Or.inr (hw _ (List.mem_of_getElem? (i := 11) rfl))) (Or.inl (hw _ (List.mem_of_getElem? (i := 59) rfl))) (by decide) (t := .long) (t' := .long) (by decide) (by decide)))).mon M5
  · obtain ⟨cm, u1, u2, u3⟩ := M_a
    cases u1.symm.trans Bd.object
    refine ⟨_, Array.getElem?_setIfInBounds_self_of_lt (Array.getElem?_eq_some_iff.mp hcT).1, ?_⟩
    have hct : (Cell.setSlot (cell.withEntry s.cur) (Jvm.RoadKit.slotOf Z "com/example/shelfmerge/shelfmerge/HeapBudget" "taken" "J") (.long (tk + n))).monitor.count ≤ 1 := by show cell.monitor.count + 1 ≤ 1; omega
    rw [Cell.left, if_pos hct]
    exact ⟨rfl, rfl⟩
theorem own_sz1 {z : Int64} (h : 0 ≤ z.toInt) : z + 1 ≠ 0 := by
  intro q
  have e := congrArg Int64.toInt q
  have e1 : (1 : Int64).toInt = 1 := by decide
  have e0 : (0 : Int64).toInt = 0 := by decide
  have b := z.toInt_lt
  rw [Int64.toInt_add, e1, e0] at e
  by_cases u : z.toInt = 9223372036854775807
  · rw [u] at e; revert e; decide
  · rw [Int.bmod_eq_of_le (by omega) (by omega)] at e; omega
theorem own_rem {z p : Int64} (h : 0 ≤ z.toInt) : 0 ≤ ((p &&& 9223372036854775807) % (z + 1)).toInt ∧ ((p &&& 9223372036854775807) % (z + 1)).toInt ≤ z.toInt := by
  have e1 : (1 : Int64).toInt = 1 := by decide
  have b := z.toInt_lt
  have hp := own_and64_0 p
  have n0 : 0 ≤ ((p &&& 9223372036854775807) % (z + 1)).toInt := by rw [Int64.toInt_mod]; exact Int.tmod_nonneg _ hp
  refine ⟨n0, ?_⟩
  by_cases u : z.toInt = 9223372036854775807
  · have := ((p &&& 9223372036854775807) % (z + 1)).toInt_lt
    omega
  · have e2 : (z + 1).toInt = z.toInt + 1 := by rw [Int64.toInt_add, e1]; exact Int.bmod_eq_of_le (by omega) (by omega)
    rw [Int64.toInt_mod, e2, Int.tmod_eq_emod_of_nonneg hp]
    have := Int.emod_lt_of_pos (p &&& 9223372036854775807).toInt (b := z.toInt + 1) (by omega)
    omega
theorem own_z0 (n : Int64) : (0 : Int64) + n = n := by simp
theorem own_sub {z x : Int64} (h0 : 0 ≤ x.toInt) (h1 : x.toInt ≤ z.toInt) : (z - x).toInt = z.toInt - x.toInt := by
  have b := z.toInt_lt
  rw [Int64.toInt_sub]; exact Int.bmod_eq_of_le (by omega) (by omega)
theorem own_b1 {z x : Int64} (h1 : x.toInt ≤ z.toInt) : ¬ (z < x) := by rw [Int64.lt_iff_toInt_lt]; omega
theorem own_b2 {z x : Int64} (h1 : x.toInt ≤ z.toInt) : ¬ (z - 0 < x) := by have : z - 0 = z := by simp
                                                                            rw [this]; exact own_b1 h1
theorem own_b3 {z x : Int64} (h0 : 0 ≤ x.toInt) (h1 : x.toInt ≤ z.toInt) : ¬ (z < z - x) := by rw [Int64.lt_iff_toInt_lt, own_sub h0 h1]; omega
theorem own_b4 {z x t : Int64} (h0 : 0 ≤ x.toInt) (h1 : x.toInt ≤ z.toInt) (ht : t = 0 ∨ t = 0 + x) : ¬ (z - t < z - x) := by
  rcases ht with rfl | rfl
  · have : z - 0 = z := by simp
    rw [this]; exact own_b3 h0 h1
  · rw [own_z0, Int64.lt_iff_toInt_lt]; omega
theorem pn_com_example_shelfmerge_shelfmerge_HeapBudget : plainName "com/example/shelfmerge/shelfmerge/HeapBudget" = true := by first | (simp [plainName, overriddenIn]; done) | decide +kernel
theorem ef_rm1 (m : MethodId) (x0 : Addr) (x1 : Int64) : entryFrame m #[(.ref x0), (.long x1)] 3 = mkF m 0 #[.val (.ref x0), .val (.long x1), .second] [] := by first | (simp [entryFrame, mkF, argsToLocals, Value.category]; done) | rfl
theorem d1_0 : decode prog_17_method_1_code 0 = .ok (.aload_n 0, 1) := by decide +kernel
theorem d1_1 : decode prog_17_method_1_code 1 = .ok (.invokespecial 1, 3) := by decide +kernel
theorem d1_4 : decode prog_17_method_1_code 4 = .ok (.aload_n 0, 1) := by decide +kernel
theorem d1_5 : decode prog_17_method_1_code 5 = .ok (.lload_n 1, 1) := by decide +kernel
theorem d1_6 : decode prog_17_method_1_code 6 = .ok (.putfield 7, 3) := by decide +kernel
theorem d1_9 : decode prog_17_method_1_code 9 = .ok (.return_, 1) := by decide +kernel
def Q1 (Z : State) (a1 : Addr) (z1 : Int64) (h0 : Heap) (n0 : Nat) (v : Option Value) (h : Heap) (L : List Loc) : Prop := v = none ∧ Fr n0 L ∧ Keep h0 h [a1] ∧ Exa Z h a1 "com/example/shelfmerge/shelfmerge/HeapBudget" ∧ Fld Z h a1 "com/example/shelfmerge/shelfmerge/HeapBudget" "size" "J" (.long z1) ∧ Fld Z h a1 "com/example/shelfmerge/shelfmerge/HeapBudget" "taken" "J" (.long (0 : Int64)) ∧ Mo h a1
set_option maxRecDepth 65536 in
set_option maxHeartbeats 40000000 in
theorem rm1 (l : Launch) (Z : State) (a0 : Array Value) (hw : ∀ d ∈ tables_1, d.before a0 Z = true) (ws : List Jvm.Cond) (a1 : Addr) (z1 : Int64) (h0 : Heap) (n0 : Nat) (Z0 : n0 ≤ h0.size) (g_a1 : n0 ≤ a1) (E_a : Exa Z h0 a1 "com/example/shelfmerge/shelfmerge/HeapBudget") (F_s : Fld Z h0 a1 "com/example/shelfmerge/shelfmerge/HeapBudget" "size" "J" (.long (0 : Int64))) (F_t : Fld Z h0 a1 "com/example/shelfmerge/shelfmerge/HeapBudget" "taken" "J" (.long (0 : Int64))) (M_a : Mo h0 a1) :
    OMet l Z (⟨"com/example/shelfmerge/shelfmerge/HeapBudget", "<init>", "(J)V"⟩ : MethodName) prog_17_method_1_code 3 none ws ({ frames := 1, cells := 0, slots := 0, locals := 12 } : Room) #[(.ref a1), (.long z1)] h0 (Q1 Z a1 z1 h0 n0) := by
  refine own_body (plainFor_of_name pn_com_example_shelfmerge_shelfmerge_HeapBudget) ?_
  intro p e s m below meth c s₁ Bd hml0 hZ e0
  have hx := Bd.exec
  have hby := Bd.bytes
  have hml : c.maxLocals = 3 := hml0
  have hown : s.vm.findClass "com/example/shelfmerge/shelfmerge/HeapBudget" = some m.cls := findClass_of_methodNamed Bd.named
  have hnm := (name_of_methodNamed Bd.named Bd.method).1
  have X0 : Stand p l e ({ frames := 1, cells := 0, slots := 0, locals := 12 } : Room) s m #[(.ref a1), (.long z1)] below meth c s₁ [] 0 0 := Stand.of_body Bd
  have N0 := Fr.nil n0
  have K0 : Keep h0 h0 [a1] := Keep.refl _ _
  rw [ef_rm1]
  obtain ⟨T101, X101, e101, st101⟩ := initO X0 hx hZ hown (hw _ (List.mem_of_getElem? (i := 7) rfl)) (hw _ (List.mem_of_getElem? (i := 8) rfl)) (hw _ (List.mem_of_getElem? (i := 9) rfl)) e0 (g := (mkF m 1 #[.val (.ref a1), .val (.long z1), .second] [(.ref a1)])) rfl (by rw [hml]; rfl) rfl (hb hby d1_1) (by decide) (W := 0) (by show 2 * 0 + _ ≤ _; exact Nat.le_of_eq rfl) (by decide)
  obtain ⟨T102, h102, X102, e102, W102, st102⟩ := putF X101 hx hZ hown (host := "") (Or.inl (hw _ (List.mem_of_getElem? (i := 10) rfl))) Via.refl e101 F_s E_a (Or.inr ⟨(hw _ (List.mem_of_getElem? (i := 11) rfl)), rfl, hnm⟩) (hw _ (List.mem_of_getElem? (i := 2) rfl)) (ty := .long) (by decide) rfl rfl (g := (mkF m 6 #[.val (.ref a1), .val (.long z1), .second] [(.long z1), (.ref a1)])) rfl rfl (hb hby d1_6)
  have Fw102 := F_s.same W102
  have K102 : Keep h0 h102 [a1] := K0.wr W102 (Or.inl (List.mem_of_getElem? (i := 0) rfl))
  have N102 := Fr.snoc X102 N0 g_a1
  have f103 := (E_a.wr W102)
  have f104 := (F_t.other W102 (Or.inr (slot_ne (Or.inl (hw _ (List.mem_of_getElem? (i := 59) rfl))) (Or.inr (hw _ (List.mem_of_getElem? (i := 11) rfl))) (by decide) (t := .long) (t' := .long) (by decide) (by decide))))
  have f105 := (M_a.wr W102)
  refine Gl.fin X102 (v := none) (fun _ => rfl) Bd.notSynchronized ?_ e102 (by decide) (by decide) (fun fs hr => ?_)
  · exact ⟨rfl, N102, K102, f103, Fw102, f104, f105⟩
  · show Steps p.tables e below (s₁.setTop (mkF m 0 #[.val (.ref a1), .val (.long z1), .second] [])) _
    refine XS.aloadN X0.here hx rfl (hb hby d1_0) rfl rfl ?_
    show Steps p.tables e below (s₁.setTop (mkF m 1 #[.val (.ref a1), .val (.long z1), .second] [(.ref a1)])) _
    refine st101 _ ?_
    show Steps p.tables e below (T101.setTop (mkF m 4 #[.val (.ref a1), .val (.long z1), .second] [])) _
    refine XS.aloadN X101.here hx rfl (hb hby d1_4) rfl rfl ?_
    show Steps p.tables e below (T101.setTop (mkF m 5 #[.val (.ref a1), .val (.long z1), .second] [(.ref a1)])) _
    refine XS.lloadN X101.here hx rfl (hb hby d1_5) rfl ?_
    show Steps p.tables e below (T101.setTop (mkF m 6 #[.val (.ref a1), .val (.long z1), .second] [(.long z1), (.ref a1)])) _
    refine st102 _ ?_
    show Steps p.tables e below (T102.setTop (mkF m 9 #[.val (.ref a1), .val (.long z1), .second] [])) _
    exact X102.returnOut hx Bd.returns (hb hby d1_9) hr
theorem pn_com_example_shelfmerge_shelfmerge_HeapBudget_Charge : plainName "com/example/shelfmerge/shelfmerge/HeapBudget$Charge" = true := by first | (simp [plainName, overriddenIn]; done) | decide +kernel
theorem ef_rm4 (m : MethodId) (x0 : Addr) (x1 : Addr) (x3 : Int64) : entryFrame m #[(.ref x0), (.ref x1), .null, (.long x3), .null] 6 = mkF m 0 #[.val (.ref x0), .val (.ref x1), .val .null, .val (.long x3), .second, .val .null] [] := by first | (simp [entryFrame, mkF, argsToLocals, Value.category]; done) | rfl
theorem d4_0 : decode prog_18_method_1_code 0 = .ok (.aload_n 0, 1) := by decide +kernel
theorem d4_1 : decode prog_18_method_1_code 1 = .ok (.aload_n 1, 1) := by decide +kernel
theorem d4_2 : decode prog_18_method_1_code 2 = .ok (.putfield 3, 3) := by decide +kernel
theorem d4_5 : decode prog_18_method_1_code 5 = .ok (.aload_n 0, 1) := by decide +kernel
theorem d4_6 : decode prog_18_method_1_code 6 = .ok (.invokespecial 9, 3) := by decide +kernel
theorem d4_9 : decode prog_18_method_1_code 9 = .ok (.aload_n 0, 1) := by decide +kernel
theorem d4_10 : decode prog_18_method_1_code 10 = .ok (.aload_n 2, 1) := by decide +kernel
theorem d4_11 : decode prog_18_method_1_code 11 = .ok (.putfield 15, 3) := by decide +kernel
theorem d4_14 : decode prog_18_method_1_code 14 = .ok (.aload_n 0, 1) := by decide +kernel
theorem d4_15 : decode prog_18_method_1_code 15 = .ok (.lload_n 3, 1) := by decide +kernel
theorem d4_16 : decode prog_18_method_1_code 16 = .ok (.putfield 19, 3) := by decide +kernel
theorem d4_19 : decode prog_18_method_1_code 19 = .ok (.aload_n 0, 1) := by decide +kernel
theorem d4_20 : decode prog_18_method_1_code 20 = .ok (.aload 5, 2) := by decide +kernel
theorem d4_22 : decode prog_18_method_1_code 22 = .ok (.putfield 23, 3) := by decide +kernel
theorem d4_25 : decode prog_18_method_1_code 25 = .ok (.return_, 1) := by decide +kernel
def Q4 (Z : State) (b1 : Addr) (a1 : Addr) (h0 : Heap) (n0 : Nat) (v : Option Value) (h : Heap) (L : List Loc) : Prop := v = none ∧ Fr n0 L ∧ Keep h0 h [b1] ∧ Exa Z h b1 "com/example/shelfmerge/shelfmerge/HeapBudget$Charge" ∧ Fld Z h b1 "com/example/shelfmerge/shelfmerge/HeapBudget$Charge" "this$0" "Lcom/example/shelfmerge/shelfmerge/HeapBudget;" (.ref a1) ∧ Fld Z h b1 "com/example/shelfmerge/shelfmerge/HeapBudget$Charge" "makeRoom" "Lcom/example/shelfmerge/shelfmerge/HeapBudget$RoomMaker;" .null ∧ Fld Z h b1 "com/example/shelfmerge/shelfmerge/HeapBudget$Charge" "largeBytes" "J" (.long (9223372036854775807 : Int64)) ∧ Fld Z h b1 "com/example/shelfmerge/shelfmerge/HeapBudget$Charge" "beforeLarge" "Lcom/example/shelfmerge/shelfmerge/HeapBudget$Threshold;" .null ∧ Fld Z h b1 "com/example/shelfmerge/shelfmerge/HeapBudget$Charge" "held" "J" (.long (0 : Int64)) ∧ Fld Z h b1 "com/example/shelfmerge/shelfmerge/HeapBudget$Charge" "pending" "J" (.long (0 : Int64))
set_option maxRecDepth 65536 in
set_option maxHeartbeats 40000000 in
theorem rm4 (l : Launch) (Z : State) (a0 : Array Value) (hw : ∀ d ∈ tables_1, d.before a0 Z = true) (ws : List Jvm.Cond) (b1 : Addr) (a1 : Addr) (h0 : Heap) (n0 : Nat) (Z0 : n0 ≤ h0.size) (g_b1 : n0 ≤ b1) (E_b : Exa Z h0 b1 "com/example/shelfmerge/shelfmerge/HeapBudget$Charge") (F_this_0 : Fld Z h0 b1 "com/example/shelfmerge/shelfmerge/HeapBudget$Charge" "this$0" "Lcom/example/shelfmerge/shelfmerge/HeapBudget;" .null) (F_makeRoom : Fld Z h0 b1 "com/example/shelfmerge/shelfmerge/HeapBudget$Charge" "makeRoom" "Lcom/example/shelfmerge/shelfmerge/HeapBudget$RoomMaker;" .null) (F_largeBytes : Fld Z h0 b1 "com/example/shelfmerge/shelfmerge/HeapBudget$Charge" "largeBytes" "J" (.long (0 : Int64))) (F_beforeLarge : Fld Z h0 b1 "com/example/shelfmerge/shelfmerge/HeapBudget$Charge" "beforeLarge" "Lcom/example/shelfmerge/shelfmerge/HeapBudget$Threshold;" .null) (F_held : Fld Z h0 b1 "com/example/shelfmerge/shelfmerge/HeapBudget$Charge" "held" "J" (.long (0 : Int64))) (F_pending : Fld Z h0 b1 "com/example/shelfmerge/shelfmerge/HeapBudget$Charge" "pending" "J" (.long (0 : Int64))) :
    OMet l Z (⟨"com/example/shelfmerge/shelfmerge/HeapBudget$Charge", "<init>", "(Lcom/example/shelfmerge/shelfmerge/HeapBudget;Lcom/example/shelfmerge/shelfmerge/HeapBudget$RoomMaker;JLcom/example/shelfmerge/shelfmerge/HeapBudget$Threshold;)V"⟩ : MethodName) prog_18_method_1_code 6 none ws ({ frames := 1, cells := 0, slots := 0, locals := 12 } : Room) #[(.ref b1), (.ref a1), .null, (.long (9223372036854775807 : Int64)), .null] h0 (Q4 Z b1 a1 h0 n0) := by
  refine own_body (plainFor_of_name pn_com_example_shelfmerge_shelfmerge_HeapBudget_Charge) ?_
  intro p e s m below meth c s₁ Bd hml0 hZ e0
  have hx := Bd.exec
  have hby := Bd.bytes
  have hml : c.maxLocals = 6 := hml0
  have hown : s.vm.findClass "com/example/shelfmerge/shelfmerge/HeapBudget$Charge" = some m.cls := findClass_of_methodNamed Bd.named
  have hnm := (name_of_methodNamed Bd.named Bd.method).1
  have X0 : Stand p l e ({ frames := 1, cells := 0, slots := 0, locals := 12 } : Room) s m #[(.ref b1), (.ref a1), .null, (.long (9223372036854775807 : Int64)), .null] below meth c s₁ [] 0 0 := Stand.of_body Bd
  have N0 := Fr.nil n0
  have K0 : Keep h0 h0 [b1] := Keep.refl _ _
  rw [ef_rm4]
  obtain ⟨T101, h101, X101, e101, W101, st101⟩ := putF X0 hx hZ hown (host := "") (Or.inl (hw _ (List.mem_of_getElem? (i := 24) rfl))) Via.refl e0 F_this_0 E_b (Or.inr ⟨(hw _ (List.mem_of_getElem? (i := 25) rfl)), rfl, hnm⟩) (hw _ (List.mem_of_getElem? (i := 18) rfl)) (ty := (.object "com/example/shelfmerge/shelfmerge/HeapBudget")) (by decide) rfl rfl (g := (mkF m 2 #[.val (.ref b1), .val (.ref a1), .val .null, .val (.long (9223372036854775807 : Int64)), .second, .val .null] [(.ref a1), (.ref b1)])) rfl rfl (hb hby d4_2)
  have Fw101 := F_this_0.same W101
  have K101 : Keep h0 h101 [b1] := K0.wr W101 (Or.inl (List.mem_of_getElem? (i := 0) rfl))
  have N101 := Fr.snoc X101 N0 g_b1
  obtain ⟨T102, X102, e102, st102⟩ := initO X101 hx hZ hown (hw _ (List.mem_of_getElem? (i := 26) rfl)) (hw _ (List.mem_of_getElem? (i := 8) rfl)) (hw _ (List.mem_of_getElem? (i := 9) rfl)) e101 (g := (mkF m 6 #[.val (.ref b1), .val (.ref a1), .val .null, .val (.long (9223372036854775807 : Int64)), .second, .val .null] [(.ref b1)])) rfl (by rw [hml]; rfl) rfl (hb hby d4_6) (by decide) (W := 0) (by show 2 * 0 + _ ≤ _; exact Nat.le_of_eq rfl) (by decide)
  have f103 := (F_makeRoom.other W101 (Or.inr (slot_ne (Or.inr (hw _ (List.mem_of_getElem? (i := 28) rfl))) (Or.inr (hw _ (List.mem_of_getElem? (i := 25) rfl))) (by decide) (t := (.object "com/example/shelfmerge/shelfmerge/HeapBudget$RoomMaker")) (t' := (.object "com/example/shelfmerge/shelfmerge/HeapBudget")) (by decide) (by decide))))
  have f104 := (E_b.wr W101)
  obtain ⟨T105, h105, X105, e105, W105, st105⟩ := putF X102 hx hZ hown (host := "") (Or.inl (hw _ (List.mem_of_getElem? (i := 27) rfl))) Via.refl e102 f103 f104 (Or.inr ⟨(hw _ (List.mem_of_getElem? (i := 28) rfl)), rfl, hnm⟩) (hw _ (List.mem_of_getElem? (i := 18) rfl)) (ty := (.object "com/example/shelfmerge/shelfmerge/HeapBudget$RoomMaker")) (by decide) rfl rfl (g := (mkF m 11 #[.val (.ref b1), .val (.ref a1), .val .null, .val (.long (9223372036854775807 : Int64)), .second, .val .null] [.null, (.ref b1)])) rfl rfl (hb hby d4_11)
  have Fw105 := f103.same W105
  have K105 : Keep h0 h105 [b1] := K101.wr W105 (Or.inl (List.mem_of_getElem? (i := 0) rfl))
  have N105 := Fr.snoc X105 N101 g_b1
  have f106 := ((F_largeBytes.other W101 (Or.inr (slot_ne (Or.inr (hw _ (List.mem_of_getElem? (i := 30) rfl))) (Or.inr (hw _ (List.mem_of_getElem? (i := 25) rfl))) (by decide) (t := .long) (t' := (.object "com/example/shelfmerge/shelfmerge/HeapBudget")) (by decide) (by decide)))).other W105 (Or.inr (slot_ne (Or.inr (hw _ (List.mem_of_getElem? (i := 30) rfl))) (Or.inr (hw _ (List.mem_of_getElem? (i := 28) rfl))) (by decide) (t := .long) (t' := (.object "com/example/shelfmerge/shelfmerge/HeapBudget$RoomMaker")) (by decide) (by decide))))
  have f107 := (f104.wr W105)
  obtain ⟨T108, h108, X108, e108, W108, st108⟩ := putF X105 hx hZ hown (host := "") (Or.inl (hw _ (List.mem_of_getElem? (i := 29) rfl))) Via.refl e105 f106 f107 (Or.inr ⟨(hw _ (List.mem_of_getElem? (i := 30) rfl)), rfl, hnm⟩) (hw _ (List.mem_of_getElem? (i := 18) rfl)) (ty := .long) (by decide) rfl rfl (g := (mkF m 16 #[.val (.ref b1), .val (.ref a1), .val .null, .val (.long (9223372036854775807 : Int64)), .second, .val .null] [(.long (9223372036854775807 : Int64)), (.ref b1)])) rfl rfl (hb hby d4_16)
  have Fw108 := f106.same W108
  have K108 : Keep h0 h108 [b1] := K105.wr W108 (Or.inl (List.mem_of_getElem? (i := 0) rfl))
  have N108 := Fr.snoc X108 N105 g_b1
  have f109 := (((F_beforeLarge.other W101 (Or.inr (slot_ne (Or.inl (hw _ (List.mem_of_getElem? (i := 32) rfl))) (Or.inr (hw _ (List.mem_of_getElem? (i := 25) rfl))) (by decide) (t := (.object "com/example/shelfmerge/shelfmerge/HeapBudget$Threshold")) (t' := (.object "com/example/shelfmerge/shelfmerge/HeapBudget")) (by decide) (by decide)))).other W105 (Or.inr (slot_ne (Or.inl (hw _ (List.mem_of_getElem? (i := 32) rfl))) (Or.inr (hw _ (List.mem_of_getElem? (i := 28) rfl))) (by decide) (t := (.object "com/example/shelfmerge/shelfmerge/HeapBudget$Threshold")) (t' := (.object "com/example/shelfmerge/shelfmerge/HeapBudget$RoomMaker")) (by decide) (by decide)))).other W108 (Or.inr (slot_ne (Or.inl (hw _ (List.mem_of_getElem? (i := 32) rfl))) (Or.inr (hw _ (List.mem_of_getElem? (i := 30) rfl))) (by decide) (t := (.object "com/example/shelfmerge/shelfmerge/HeapBudget$Threshold")) (t' := .long) (by decide) (by decide))))
  have f110 := (f107.wr W108)
  obtain ⟨T111, h111, X111, e111, W111, st111⟩ := putF X108 hx hZ hown (host := "") (Or.inl (hw _ (List.mem_of_getElem? (i := 31) rfl))) Via.refl e108 f109 f110 (Or.inl (hw _ (List.mem_of_getElem? (i := 32) rfl))) (hw _ (List.mem_of_getElem? (i := 18) rfl)) (ty := (.object "com/example/shelfmerge/shelfmerge/HeapBudget$Threshold")) (by decide) rfl rfl (g := (mkF m 22 #[.val (.ref b1), .val (.ref a1), .val .null, .val (.long (9223372036854775807 : Int64)), .second, .val .null] [.null, (.ref b1)])) rfl rfl (hb hby d4_22)
  have Fw111 := f109.same W111
  have K111 : Keep h0 h111 [b1] := K108.wr W111 (Or.inl (List.mem_of_getElem? (i := 0) rfl))
  have N111 := Fr.snoc X111 N108 g_b1
  have f112 := (f110.wr W111)
  have f113 := (((Fw101.other W105 (Or.inr (slot_ne (Or.inr (hw _ (List.mem_of_getElem? (i := 25) rfl))) (Or.inr (hw _ (List.mem_of_getElem? (i := 28) rfl))) (by decide) (t := (.object "com/example/shelfmerge/shelfmerge/HeapBudget")) (t' := (.object "com/example/shelfmerge/shelfmerge/HeapBudget$RoomMaker")) (by decide) (by decide)))).other W108 (Or.inr (slot_ne (Or.inr (hw _ (List.mem_of_getElem? (i := 25) rfl))) (Or.inr (hw _ (List.mem_of_getElem? (i := 30) rfl))) (by decide) (t := (.object "com/example/shelfmerge/shelfmerge/HeapBudget")) (t' := .long) (by decide) (by decide)))).other W111 (Or.inr (slot_ne (Or.inr (hw _ (List.mem_of_getElem? (i := 25) rfl))) (Or.inl (hw _ (List.mem_of_getElem? (i := 32) rfl))) (by decide) (t := (.object "com/example/shelfmerge/shelfmerge/HeapBudget")) (t' := (.object "com/example/shelfmerge/shelfmerge/HeapBudget$Threshold")) (by decide) (by decide))))
  have f114 := ((Fw105.other W108 (Or.inr (slot_ne (Or.inr (hw _ (List.mem_of_getElem? (i := 28) rfl))) (Or.inr (hw _ (List.mem_of_getElem? (i := 30) rfl))) (by decide) (t := (.object "com/example/shelfmerge/shelfmerge/HeapBudget$RoomMaker")) (t' := .long) (by decide) (by decide)))).other W111 (Or.inr (slot_ne (Or.inr (hw _ (List.mem_of_getElem? (i := 28) rfl))) (Or.inl (hw _ (List.mem_of_getElem? (i := 32) rfl))) (by decide) (t := (.object "com/example/shelfmerge/shelfmerge/HeapBudget$RoomMaker")) (t' := (.object "com/example/shelfmerge/shelfmerge/HeapBudget$Threshold")) (by decide) (by decide))))
  have f115 := (Fw108.other W111 (Or.inr (slot_ne (Or.inr (hw _ (List.mem_of_getElem? (i := 30) rfl))) (Or.inl (hw _ (List.mem_of_getElem? (i := 32) rfl))) (by decide) (t := .long) (t' := (.object "com/example/shelfmerge/shelfmerge/HeapBudget$Threshold")) (by decide) (by decide))))
  have f116 := ((((F_held.other W101 (Or.inr (slot_ne (Or.inl (hw _ (List.mem_of_getElem? (i := 39) rfl))) (Or.inr (hw _ (List.mem_of_getElem? (i := 25) rfl))) (by decide) (t := .long) (t' := (.object "com/example/shelfmerge/shelfmerge/HeapBudget")) (by decide) (by decide)))).other W105 (Or.inr (slot_ne (Or.inl (hw _ (List.mem_of_getElem? (i := 39) rfl))) (Or.inr (hw _ (List.mem_of_getElem? (i := 28) rfl))) (by decide) (t := .long) (t' := (.object "com/example/shelfmerge/shelfmerge/HeapBudget$RoomMaker")) (by decide) (by decide)))).other W108 (Or.inr (slot_ne (Or.inl (hw _ (List.mem_of_getElem? (i := 39) rfl))) (Or.inr (hw _ (List.mem_of_getElem? (i := 30) rfl))) (by decide) (t := .long) (t' := .long) (by decide) (by decide)))).other W111 (Or.inr (slot_ne (Or.inl (hw _ (List.mem_of_getElem? (i := 39) rfl))) (Or.inl (hw _ (List.mem_of_getElem? (i := 32) rfl))) (by decide) (t := .long) (t' := (.object "com/example/shelfmerge/shelfmerge/HeapBudget$Threshold")) (by decide) (by decide))))
  have f117 := ((((F_pending.other W101 (Or.inr (slot_ne (Or.inl (hw _ (List.mem_of_getElem? (i := 41) rfl))) (Or.inr (hw _ (List.mem_of_getElem? (i := 25) rfl))) (by decide) (t := .long) (t' := (.object "com/example/shelfmerge/shelfmerge/HeapBudget")) (by decide) (by decide)))).other W105 (Or.inr (slot_ne (Or.inl (hw _ (List.mem_of_getElem? (i := 41) rfl))) (Or.inr (hw _ (List.mem_of_getElem? (i := 28) rfl))) (by decide) (t := .long) (t' := (.object "com/example/shelfmerge/shelfmerge/HeapBudget$RoomMaker")) (by decide) (by decide)))).other W108 (Or.inr (slot_ne (Or.inl (hw _ (List.mem_of_getElem? (i := 41) rfl))) (Or.inr (hw _ (List.mem_of_getElem? (i := 30) rfl))) (by decide) (t := .long) (t' := .long) (by decide) (by decide)))).other W111 (Or.inr (slot_ne (Or.inl (hw _ (List.mem_of_getElem? (i := 41) rfl))) (Or.inl (hw _ (List.mem_of_getElem? (i := 32) rfl))) (by decide) (t := .long) (t' := (.object "com/example/shelfmerge/shelfmerge/HeapBudget$Threshold")) (by decide) (by decide))))
  refine Gl.fin X111 (v := none) (fun _ => rfl) Bd.notSynchronized ?_ e111 (by decide) (by decide) (fun fs hr => ?_)
  · exact ⟨rfl, N111, K111, f112, f113, f114, f115, Fw111, f116, f117⟩
  · show Steps p.tables e below (s₁.setTop (mkF m 0 #[.val (.ref b1), .val (.ref a1), .val .null, .val (.long (9223372036854775807 : Int64)), .second, .val .null] [])) _
    refine XS.aloadN X0.here hx rfl (hb hby d4_0) rfl rfl ?_
    show Steps p.tables e below (s₁.setTop (mkF m 1 #[.val (.ref b1), .val (.ref a1), .val .null, .val (.long (9223372036854775807 : Int64)), .second, .val .null] [(.ref b1)])) _
    refine XS.aloadN X0.here hx rfl (hb hby d4_1) rfl rfl ?_
    show Steps p.tables e below (s₁.setTop (mkF m 2 #[.val (.ref b1), .val (.ref a1), .val .null, .val (.long (9223372036854775807 : Int64)), .second, .val .null] [(.ref a1), (.ref b1)])) _
    refine st101 _ ?_
    show Steps p.tables e below (T101.setTop (mkF m 5 #[.val (.ref b1), .val (.ref a1), .val .null, .val (.long (9223372036854775807 : Int64)), .second, .val .null] [])) _
    refine XS.aloadN X101.here hx rfl (hb hby d4_5) rfl rfl ?_
    show Steps p.tables e below (T101.setTop (mkF m 6 #[.val (.ref b1), .val (.ref a1), .val .null, .val (.long (9223372036854775807 : Int64)), .second, .val .null] [(.ref b1)])) _
    refine st102 _ ?_
    show Steps p.tables e below (T102.setTop (mkF m 9 #[.val (.ref b1), .val (.ref a1), .val .null, .val (.long (9223372036854775807 : Int64)), .second, .val .null] [])) _
    refine XS.aloadN X102.here hx rfl (hb hby d4_9) rfl rfl ?_
    show Steps p.tables e below (T102.setTop (mkF m 10 #[.val (.ref b1), .val (.ref a1), .val .null, .val (.long (9223372036854775807 : Int64)), .second, .val .null] [(.ref b1)])) _
    refine XS.aloadN X102.here hx rfl (hb hby d4_10) rfl rfl ?_
    show Steps p.tables e below (T102.setTop (mkF m 11 #[.val (.ref b1), .val (.ref a1), .val .null, .val (.long (9223372036854775807 : Int64)), .second, .val .null] [.null, (.ref b1)])) _
    refine st105 _ ?_
    show Steps p.tables e below (T105.setTop (mkF m 14 #[.val (.ref b1), .val (.ref a1), .val .null, .val (.long (9223372036854775807 : Int64)), .second, .val .null] [])) _
    refine XS.aloadN X105.here hx rfl (hb hby d4_14) rfl rfl ?_
    show Steps p.tables e below (T105.setTop (mkF m 15 #[.val (.ref b1), .val (.ref a1), .val .null, .val (.long (9223372036854775807 : Int64)), .second, .val .null] [(.ref b1)])) _
    refine XS.lloadN X105.here hx rfl (hb hby d4_15) rfl ?_
    show Steps p.tables e below (T105.setTop (mkF m 16 #[.val (.ref b1), .val (.ref a1), .val .null, .val (.long (9223372036854775807 : Int64)), .second, .val .null] [(.long (9223372036854775807 : Int64)), (.ref b1)])) _
    refine st108 _ ?_
    show Steps p.tables e below (T108.setTop (mkF m 19 #[.val (.ref b1), .val (.ref a1), .val .null, .val (.long (9223372036854775807 : Int64)), .second, .val .null] [])) _
    refine XS.aloadN X108.here hx rfl (hb hby d4_19) rfl rfl ?_
    show Steps p.tables e below (T108.setTop (mkF m 20 #[.val (.ref b1), .val (.ref a1), .val .null, .val (.long (9223372036854775807 : Int64)), .second, .val .null] [(.ref b1)])) _
    refine XS.aload X108.here hx rfl (hb hby d4_20) rfl rfl ?_
    show Steps p.tables e below (T108.setTop (mkF m 22 #[.val (.ref b1), .val (.ref a1), .val .null, .val (.long (9223372036854775807 : Int64)), .second, .val .null] [.null, (.ref b1)])) _
    refine st111 _ ?_
    show Steps p.tables e below (T111.setTop (mkF m 25 #[.val (.ref b1), .val (.ref a1), .val .null, .val (.long (9223372036854775807 : Int64)), .second, .val .null] [])) _
    exact X111.returnOut hx Bd.returns (hb hby d4_25) hr
theorem ef_rm3 (m : MethodId) (x0 : Addr) : entryFrame m #[(.ref x0)] 1 = mkF m 0 #[.val (.ref x0)] [] := by first | (simp [entryFrame, mkF, argsToLocals, Value.category]; done) | rfl
theorem d3_0 : decode prog_17_method_4_code 0 = .ok (.new 28, 3) := by decide +kernel
theorem d3_3 : decode prog_17_method_4_code 3 = .ok (.dup, 1) := by decide +kernel
theorem d3_4 : decode prog_17_method_4_code 4 = .ok (.aload_n 0, 1) := by decide +kernel
theorem d3_5 : decode prog_17_method_4_code 5 = .ok (.aconst_null, 1) := by decide +kernel
theorem d3_6 : decode prog_17_method_4_code 6 = .ok (.ldc2_w 32, 3) := by decide +kernel
theorem d3_9 : decode prog_17_method_4_code 9 = .ok (.aconst_null, 1) := by decide +kernel
theorem d3_10 : decode prog_17_method_4_code 10 = .ok (.invokespecial 34, 3) := by decide +kernel
theorem pd__Lcom_example_shelfmerge_shelfmerge_HeapBudget_Lcom_example_shelfmerge_shelfmerge_HeapBudget_RoomMaker_JLcom_example_shelfmerge_shelfmerge_HeapBudget_Threshold__V : parseMethodDescriptor "(Lcom/example/shelfmerge/shelfmerge/HeapBudget;Lcom/example/shelfmerge/shelfmerge/HeapBudget$RoomMaker;JLcom/example/shelfmerge/shelfmerge/HeapBudget$Threshold;)V" = some ⟨[(.object "com/example/shelfmerge/shelfmerge/HeapBudget"), (.object "com/example/shelfmerge/shelfmerge/HeapBudget$RoomMaker"), .long, (.object "com/example/shelfmerge/shelfmerge/HeapBudget$Threshold")], none⟩ := by decide +kernel
theorem d3_13 : decode prog_17_method_4_code 13 = .ok (.areturn, 1) := by decide +kernel
def Q3 (Z : State) (a1 : Addr) (h0 : Heap) (n0 : Nat) (v : Option Value) (h : Heap) (L : List Loc) : Prop := ∃ r : Addr, h0.size ≤ r ∧ v = some (.ref r) ∧ Fr n0 L ∧ Keep h0 h [] ∧ Exa Z h r "com/example/shelfmerge/shelfmerge/HeapBudget$Charge" ∧ Fld Z h r "com/example/shelfmerge/shelfmerge/HeapBudget$Charge" "this$0" "Lcom/example/shelfmerge/shelfmerge/HeapBudget;" (.ref a1) ∧ Fld Z h r "com/example/shelfmerge/shelfmerge/HeapBudget$Charge" "makeRoom" "Lcom/example/shelfmerge/shelfmerge/HeapBudget$RoomMaker;" .null ∧ Fld Z h r "com/example/shelfmerge/shelfmerge/HeapBudget$Charge" "largeBytes" "J" (.long (9223372036854775807 : Int64)) ∧ Fld Z h r "com/example/shelfmerge/shelfmerge/HeapBudget$Charge" "beforeLarge" "Lcom/example/shelfmerge/shelfmerge/HeapBudget$Threshold;" .null ∧ Fld Z h r "com/example/shelfmerge/shelfmerge/HeapBudget$Charge" "held" "J" (.long (0 : Int64)) ∧ Fld Z h r "com/example/shelfmerge/shelfmerge/HeapBudget$Charge" "pending" "J" (.long (0 : Int64))
set_option maxRecDepth 65536 in
set_option maxHeartbeats 40000000 in
theorem rm3 (l : Launch) (Z : State) (a0 : Array Value) (hw : ∀ d ∈ tables_1, d.before a0 Z = true) (ws : List Jvm.Cond) (a1 : Addr) (h0 : Heap) (n0 : Nat) (Z0 : n0 ≤ h0.size) :
    OMet l Z (⟨"com/example/shelfmerge/shelfmerge/HeapBudget", "charge", "()Lcom/example/shelfmerge/shelfmerge/HeapBudget$Charge;"⟩ : MethodName) prog_17_method_4_code 1 (some (.object "com/example/shelfmerge/shelfmerge/HeapBudget$Charge")) ws ({ frames := 2, cells := 1, slots := 6, locals := 30 } : Room) #[(.ref a1)] h0 (Q3 Z a1 h0 n0) := by
  refine own_body (plainFor_of_name pn_com_example_shelfmerge_shelfmerge_HeapBudget) ?_
  intro p e s m below meth c s₁ Bd hml0 hZ e0
  have hx := Bd.exec
  have hby := Bd.bytes
  have hml : c.maxLocals = 1 := hml0
  have hown : s.vm.findClass "com/example/shelfmerge/shelfmerge/HeapBudget" = some m.cls := findClass_of_methodNamed Bd.named
  have hnm := (name_of_methodNamed Bd.named Bd.method).1
  have X0 : Stand p l e ({ frames := 2, cells := 1, slots := 6, locals := 30 } : Room) s m #[(.ref a1)] below meth c s₁ [] 0 0 := Stand.of_body Bd
  have N0 := Fr.nil n0
  have K0 : Keep h0 h0 [] := Keep.refl _ _
  rw [ef_rm3]
  obtain ⟨T101, h101, X101, e101, E101, A101, D101, M101, st101⟩ := newO X0 hx hZ hown (hw _ (List.mem_of_getElem? (i := 17) rfl)) (hw _ (List.mem_of_getElem? (i := 18) rfl)) (hw _ (List.mem_of_getElem? (i := 19) rfl)) e0 (g := (mkF m 0 #[.val (.ref a1)] [])) rfl (hb hby d3_0) (by decide) (by decide)
  obtain ⟨b101, g101⟩ : ∃ z, z = h0.size := ⟨_, rfl⟩
  have g_b101 : n0 ≤ b101 := Nat.le_trans Z0 (Nat.le_of_eq g101.symm)
  have sz_b101 : h0.size ≤ b101 := Nat.le_trans K0.1 (Nat.le_of_eq g101.symm)
  rw [← g101] at A101 D101 M101 st101
  have K101 : Keep h0 h101 [] := K0.ext E101
  have Mo101 := Mo.of_new M101
  have F_this_0_b101 : Fld Z h101 b101 "com/example/shelfmerge/shelfmerge/HeapBudget$Charge" "this$0" "Lcom/example/shelfmerge/shelfmerge/HeapBudget;" .null := D101 (Or.inr (hw _ (List.mem_of_getElem? (i := 25) rfl))) (ty := (.object "com/example/shelfmerge/shelfmerge/HeapBudget")) (by decide)
  have F_makeRoom_b101 : Fld Z h101 b101 "com/example/shelfmerge/shelfmerge/HeapBudget$Charge" "makeRoom" "Lcom/example/shelfmerge/shelfmerge/HeapBudget$RoomMaker;" .null := D101 (Or.inr (hw _ (List.mem_of_getElem? (i := 28) rfl))) (ty := (.object "com/example/shelfmerge/shelfmerge/HeapBudget$RoomMaker")) (by decide)
  have F_largeBytes_b101 : Fld Z h101 b101 "com/example/shelfmerge/shelfmerge/HeapBudget$Charge" "largeBytes" "J" (.long (0 : Int64)) := D101 (Or.inr (hw _ (List.mem_of_getElem? (i := 30) rfl))) (ty := .long) (by decide)
  have F_beforeLarge_b101 : Fld Z h101 b101 "com/example/shelfmerge/shelfmerge/HeapBudget$Charge" "beforeLarge" "Lcom/example/shelfmerge/shelfmerge/HeapBudget$Threshold;" .null := D101 (Or.inl (hw _ (List.mem_of_getElem? (i := 32) rfl))) (ty := (.object "com/example/shelfmerge/shelfmerge/HeapBudget$Threshold")) (by decide)
  have F_held_b101 : Fld Z h101 b101 "com/example/shelfmerge/shelfmerge/HeapBudget$Charge" "held" "J" (.long (0 : Int64)) := D101 (Or.inl (hw _ (List.mem_of_getElem? (i := 39) rfl))) (ty := .long) (by decide)
  have F_pending_b101 : Fld Z h101 b101 "com/example/shelfmerge/shelfmerge/HeapBudget$Charge" "pending" "J" (.long (0 : Int64)) := D101 (Or.inl (hw _ (List.mem_of_getElem? (i := 41) rfl))) (ty := .long) (by decide)
  have z103 : n0 ≤ h101.size := (Nat.le_trans Z0 E101.1)
  obtain ⟨v102, T102, L102, X102, q102, st102⟩ := own_callIR X101 hx hZ (y := (⟨"com/example/shelfmerge/shelfmerge/HeapBudget$Charge", "<init>", "(Lcom/example/shelfmerge/shelfmerge/HeapBudget;Lcom/example/shelfmerge/shelfmerge/HeapBudget$RoomMaker;JLcom/example/shelfmerge/shelfmerge/HeapBudget$Threshold;)V"⟩ : MethodName)) rfl hown (hw _ (List.mem_of_getElem? (i := 21) rfl)) (hw _ (List.mem_of_getElem? (i := 22) rfl)) (hw _ (List.mem_of_getElem? (i := 19) rfl)) (hw _ (List.mem_of_getElem? (i := 23) rfl)) (by decide) (a := b101) (hM := (rm4 l Z a0 hw [] b101 a1 h101 n0 z103 g_b101 A101 F_this_0_b101 F_makeRoom_b101 F_largeBytes_b101 F_beforeLarge_b101 F_held_b101 F_pending_b101)) (by decide) (by decide) (by decide) (by decide) e101 (argsL := [(.ref a1), .null, (.long (9223372036854775807 : Int64)), .null]) (rest := [(.ref b101)]) (Ls := #[.val (.ref a1)]) (by rw [hml]; rfl) (lenOf pd__Lcom_example_shelfmerge_shelfmerge_HeapBudget_Lcom_example_shelfmerge_shelfmerge_HeapBudget_RoomMaker_JLcom_example_shelfmerge_shelfmerge_HeapBudget_Threshold__V rfl) (W := 1) (Nat.le_of_eq rfl) (hb hby d3_10)
  obtain ⟨rfl, N102q, K102q, E102q, F0102q, F1102q, F2102q, F3102q, F4102q, F5102q⟩ := q102
  have N102 := Fr.app N0 N102q
  have K102 : Keep h0 T102.heap [] := K101.trans K102q (allS (Or.inr sz_b101) all0)
  refine Gl.fin X102 (v := some (.ref b101)) (fun h => by rw [Bd.returns] at h; cases h) Bd.notSynchronized ?_ rfl (by decide) (by decide) (fun fs hr => ?_)
  · exact ⟨_, sz_b101, rfl, N102, K102, E102q, F0102q, F1102q, F2102q, F3102q, F4102q, F5102q⟩
  · show Steps p.tables e below (s₁.setTop (mkF m 0 #[.val (.ref a1)] [])) _
    refine st101 _ ?_
    show Steps p.tables e below (T101.setTop (mkF m 3 #[.val (.ref a1)] [(.ref b101)])) _
    refine XS.dup X101.here hx rfl (hb hby d3_3) rfl rfl ?_
    show Steps p.tables e below (T101.setTop (mkF m 4 #[.val (.ref a1)] [(.ref b101), (.ref b101)])) _
    refine XS.aloadN X101.here hx rfl (hb hby d3_4) rfl rfl ?_
    show Steps p.tables e below (T101.setTop (mkF m 5 #[.val (.ref a1)] [(.ref a1), (.ref b101), (.ref b101)])) _
    refine XS.aconstNull X101.here hx rfl (hb hby d3_5) ?_
    show Steps p.tables e below (T101.setTop (mkF m 6 #[.val (.ref a1)] [.null, (.ref a1), (.ref b101), (.ref b101)])) _
    refine X101.ldc2Long hx hown (mvT hZ (hw _ (List.mem_of_getElem? (i := 20) rfl))) (g := (mkF m 6 #[.val (.ref a1)] [.null, (.ref a1), (.ref b101), (.ref b101)])) rfl (hb hby d3_6) _ ?_
    show Steps p.tables e below (T101.setTop (mkF m 9 #[.val (.ref a1)] [(.long (9223372036854775807 : Int64)), .null, (.ref a1), (.ref b101), (.ref b101)])) _
    refine XS.aconstNull X101.here hx rfl (hb hby d3_9) ?_
    show Steps p.tables e below (T101.setTop (mkF m 10 #[.val (.ref a1)] [.null, (.long (9223372036854775807 : Int64)), .null, (.ref a1), (.ref b101), (.ref b101)])) _
    refine st102 _ ?_
    show Steps p.tables e below (T102.setTop (mkF m 13 #[.val (.ref a1)] [(.ref b101)])) _
    exact own_retR X102 hx Bd.returns rfl rfl rfl (hb hby d3_13) hr
theorem ef_rm5 (m : MethodId) (x0 : Addr) : entryFrame m #[(.ref x0)] 1 = mkF m 0 #[.val (.ref x0)] [] := by first | (simp [entryFrame, mkF, argsToLocals, Value.category]; done) | rfl
theorem d5_0 : decode prog_18_method_4_code 0 = .ok (.aload_n 0, 1) := by decide +kernel
theorem d5_1 : decode prog_18_method_4_code 1 = .ok (.getfield 44, 3) := by decide +kernel
theorem d5_4 : decode prog_18_method_4_code 4 = .ok (.aload_n 0, 1) := by decide +kernel
theorem d5_5 : decode prog_18_method_4_code 5 = .ok (.getfield 36, 3) := by decide +kernel
theorem d5_8 : decode prog_18_method_4_code 8 = .ok (.ladd, 1) := by decide +kernel
theorem d5_9 : decode prog_18_method_4_code 9 = .ok (.lreturn, 1) := by decide +kernel
def Q5 (Z : State) (b1 : Addr) (hd : Int64) (pd : Int64) (h0 : Heap) (n0 : Nat) (v : Option Value) (h : Heap) (L : List Loc) : Prop := v = some (.long (hd + pd)) ∧ Fr n0 L ∧ h = h0
set_option maxRecDepth 65536 in
set_option maxHeartbeats 40000000 in
theorem rm5 (l : Launch) (Z : State) (a0 : Array Value) (hw : ∀ d ∈ tables_1, d.before a0 Z = true) (ws : List Jvm.Cond) (b1 : Addr) (hd : Int64) (pd : Int64) (h0 : Heap) (n0 : Nat) (Z0 : n0 ≤ h0.size) (F_h : Fld Z h0 b1 "com/example/shelfmerge/shelfmerge/HeapBudget$Charge" "held" "J" (.long hd)) (F_p : Fld Z h0 b1 "com/example/shelfmerge/shelfmerge/HeapBudget$Charge" "pending" "J" (.long pd)) :
    OMet l Z (⟨"com/example/shelfmerge/shelfmerge/HeapBudget$Charge", "charged", "()J"⟩ : MethodName) prog_18_method_4_code 1 (some .long) ws ({ frames := 0, cells := 0, slots := 0, locals := 0 } : Room) #[(.ref b1)] h0 (Q5 Z b1 hd pd h0 n0) := by
  refine own_body (plainFor_of_name pn_com_example_shelfmerge_shelfmerge_HeapBudget_Charge) ?_
  intro p e s m below meth c s₁ Bd hml0 hZ e0
  have hx := Bd.exec
  have hby := Bd.bytes
  have hml : c.maxLocals = 1 := hml0
  have hown : s.vm.findClass "com/example/shelfmerge/shelfmerge/HeapBudget$Charge" = some m.cls := findClass_of_methodNamed Bd.named
  have hnm := (name_of_methodNamed Bd.named Bd.method).1
  have X0 : Stand p l e ({ frames := 0, cells := 0, slots := 0, locals := 0 } : Room) s m #[(.ref b1)] below meth c s₁ [] 0 0 := Stand.of_body Bd
  have N0 := Fr.nil n0
  have K0 : Keep h0 h0 [] := Keep.refl _ _
  rw [ef_rm5]
  obtain ⟨T101, X101, e101, st101⟩ := getF X0 hx hZ hown (host := "") (Or.inl (hw _ (List.mem_of_getElem? (i := 38) rfl))) Via.refl e0 F_h (g := (mkF m 1 #[.val (.ref b1)] [(.ref b1)])) rfl rfl (hb hby d5_1)
  obtain ⟨T102, X102, e102, st102⟩ := getF X101 hx hZ hown (host := "") (Or.inl (hw _ (List.mem_of_getElem? (i := 40) rfl))) Via.refl e101 F_p (g := (mkF m 5 #[.val (.ref b1)] [(.ref b1), (.long hd)])) rfl rfl (hb hby d5_5)
  refine Gl.fin X102 (v := some (.long (hd + pd))) (fun h => by rw [Bd.returns] at h; cases h) Bd.notSynchronized ?_ e102 (by decide) (by decide) (fun fs hr => ?_)
  · exact ⟨rfl, N0, rfl⟩
  · show Steps p.tables e below (s₁.setTop (mkF m 0 #[.val (.ref b1)] [])) _
    refine XS.aloadN X0.here hx rfl (hb hby d5_0) rfl rfl ?_
    show Steps p.tables e below (s₁.setTop (mkF m 1 #[.val (.ref b1)] [(.ref b1)])) _
    refine st101 _ ?_
    show Steps p.tables e below (T101.setTop (mkF m 4 #[.val (.ref b1)] [(.long hd)])) _
    refine XS.aloadN X101.here hx rfl (hb hby d5_4) rfl rfl ?_
    show Steps p.tables e below (T101.setTop (mkF m 5 #[.val (.ref b1)] [(.ref b1), (.long hd)])) _
    refine st102 _ ?_
    show Steps p.tables e below (T102.setTop (mkF m 8 #[.val (.ref b1)] [(.long pd), (.long hd)])) _
    refine XS.ladd X102.here hx rfl (hb hby d5_8) rfl ?_
    show Steps p.tables e below (T102.setTop (mkF m 9 #[.val (.ref b1)] [(.long (hd + pd))])) _
    exact own_retJ X102 hx Bd.returns (hb hby d5_9) hr
theorem ef_rm7 (m : MethodId) (x0 : Addr) : entryFrame m #[(.ref x0)] 1 = mkF m 0 #[.val (.ref x0)] [] := by first | (simp [entryFrame, mkF, argsToLocals, Value.category]; done) | rfl
theorem d7_0 : decode prog_18_method_3_code 0 = .ok (.aload_n 0, 1) := by decide +kernel
theorem d7_1 : decode prog_18_method_3_code 1 = .ok (.getfield 44, 3) := by decide +kernel
theorem d7_4 : decode prog_18_method_3_code 4 = .ok (.aload_n 0, 1) := by decide +kernel
theorem d7_5 : decode prog_18_method_3_code 5 = .ok (.getfield 36, 3) := by decide +kernel
theorem d7_8 : decode prog_18_method_3_code 8 = .ok (.ladd, 1) := by decide +kernel
theorem d7_9 : decode prog_18_method_3_code 9 = .ok (.aload_n 0, 1) := by decide +kernel
theorem d7_10 : decode prog_18_method_3_code 10 = .ok (.getfield 3, 3) := by decide +kernel
theorem d7_13 : decode prog_18_method_3_code 13 = .ok (.getfield 47, 3) := by decide +kernel
theorem d7_16 : decode prog_18_method_3_code 16 = .ok (.lcmp, 1) := by decide +kernel
theorem d7_17 : decode prog_18_method_3_code 17 = .ok (.ifCond .le 19, 3) := by decide +kernel
theorem d7_36 : decode prog_18_method_3_code 36 = .ok (.aload_n 0, 1) := by decide +kernel
theorem d7_37 : decode prog_18_method_3_code 37 = .ok (.getfield 3, 3) := by decide +kernel
theorem d7_40 : decode prog_18_method_3_code 40 = .ok (.aload_n 0, 1) := by decide +kernel
theorem d7_41 : decode prog_18_method_3_code 41 = .ok (.getfield 36, 3) := by decide +kernel
theorem d7_44 : decode prog_18_method_3_code 44 = .ok (.invokevirtual 55, 3) := by decide +kernel
theorem pd__J_Z : parseMethodDescriptor "(J)Z" = some ⟨[.long], some .boolean⟩ := by decide +kernel
theorem d7_47 : decode prog_18_method_3_code 47 = .ok (.ifCond .ne 46, 3) := by decide +kernel
theorem d7_93 : decode prog_18_method_3_code 93 = .ok (.aload_n 0, 1) := by decide +kernel
theorem d7_94 : decode prog_18_method_3_code 94 = .ok (.dup, 1) := by decide +kernel
theorem d7_95 : decode prog_18_method_3_code 95 = .ok (.getfield 44, 3) := by decide +kernel
theorem d7_98 : decode prog_18_method_3_code 98 = .ok (.aload_n 0, 1) := by decide +kernel
theorem d7_99 : decode prog_18_method_3_code 99 = .ok (.getfield 36, 3) := by decide +kernel
theorem d7_102 : decode prog_18_method_3_code 102 = .ok (.ladd, 1) := by decide +kernel
theorem d7_103 : decode prog_18_method_3_code 103 = .ok (.putfield 44, 3) := by decide +kernel
theorem d7_106 : decode prog_18_method_3_code 106 = .ok (.aload_n 0, 1) := by decide +kernel
theorem d7_107 : decode prog_18_method_3_code 107 = .ok (.lconst 0, 1) := by decide +kernel
theorem d7_108 : decode prog_18_method_3_code 108 = .ok (.putfield 36, 3) := by decide +kernel
theorem d7_111 : decode prog_18_method_3_code 111 = .ok (.return_, 1) := by decide +kernel
def Q7 (Z : State) (b1 : Addr) (a1 : Addr) (sz : Int64) (tk : Int64) (hd : Int64) (pd : Int64) (h0 : Heap) (n0 : Nat) (v : Option Value) (h : Heap) (L : List Loc) : Prop := v = none ∧ Fr n0 L ∧ Keep h0 h [a1, b1] ∧ Exa Z h a1 "com/example/shelfmerge/shelfmerge/HeapBudget" ∧ Fld Z h a1 "com/example/shelfmerge/shelfmerge/HeapBudget" "size" "J" (.long sz) ∧ Fld Z h a1 "com/example/shelfmerge/shelfmerge/HeapBudget" "taken" "J" (.long (tk + pd)) ∧ Mo h a1 ∧ Exa Z h b1 "com/example/shelfmerge/shelfmerge/HeapBudget$Charge" ∧ Fld Z h b1 "com/example/shelfmerge/shelfmerge/HeapBudget$Charge" "this$0" "Lcom/example/shelfmerge/shelfmerge/HeapBudget;" (.ref a1) ∧ Fld Z h b1 "com/example/shelfmerge/shelfmerge/HeapBudget$Charge" "held" "J" (.long (hd + pd)) ∧ Fld Z h b1 "com/example/shelfmerge/shelfmerge/HeapBudget$Charge" "pending" "J" (.long (0 : Int64))
set_option maxRecDepth 65536 in
set_option maxHeartbeats 40000000 in
theorem rm7 (l : Launch) (Z : State) (a0 : Array Value) (hw : ∀ d ∈ tables_1, d.before a0 Z = true) (ws : List Jvm.Cond) (b1 : Addr) (a1 : Addr) (sz : Int64) (tk : Int64) (hd : Int64) (pd : Int64) (h0 : Heap) (n0 : Nat) (Z0 : n0 ≤ h0.size) (g_a1 : n0 ≤ a1) (g_b1 : n0 ≤ b1) (ne_ab : a1 ≠ b1) (E_a : Exa Z h0 a1 "com/example/shelfmerge/shelfmerge/HeapBudget") (F_s : Fld Z h0 a1 "com/example/shelfmerge/shelfmerge/HeapBudget" "size" "J" (.long sz)) (F_t : Fld Z h0 a1 "com/example/shelfmerge/shelfmerge/HeapBudget" "taken" "J" (.long tk)) (M_a : Mo h0 a1) (E_b : Exa Z h0 b1 "com/example/shelfmerge/shelfmerge/HeapBudget$Charge") (F_a : Fld Z h0 b1 "com/example/shelfmerge/shelfmerge/HeapBudget$Charge" "this$0" "Lcom/example/shelfmerge/shelfmerge/HeapBudget;" (.ref a1)) (F_h : Fld Z h0 b1 "com/example/shelfmerge/shelfmerge/HeapBudget$Charge" "held" "J" (.long hd)) (F_p : Fld Z h0 b1 "com/example/shelfmerge/shelfmerge/HeapBudget$Charge" "pending" "J" (.long pd)) (hq1 : ¬ (sz < hd + pd)) (hq2 : ¬ (sz - tk < pd)) :
    OMet l Z (⟨"com/example/shelfmerge/shelfmerge/HeapBudget$Charge", "settle", "()V"⟩ : MethodName) prog_18_method_3_code 1 none ws ({ frames := 1, cells := 0, slots := 0, locals := 14 } : Room) #[(.ref b1)] h0 (Q7 Z b1 a1 sz tk hd pd h0 n0) := by
  refine own_body (plainFor_of_name pn_com_example_shelfmerge_shelfmerge_HeapBudget_Charge) ?_
  intro p e s m below meth c s₁ Bd hml0 hZ e0
  have hx := Bd.exec
  have hby := Bd.bytes
  have hml : c.maxLocals = 1 := hml0
  have hown : s.vm.findClass "com/example/shelfmerge/shelfmerge/HeapBudget$Charge" = some m.cls := findClass_of_methodNamed Bd.named
  have hnm := (name_of_methodNamed Bd.named Bd.method).1
  have X0 : Stand p l e ({ frames := 1, cells := 0, slots := 0, locals := 14 } : Room) s m #[(.ref b1)] below meth c s₁ [] 0 0 := Stand.of_body Bd
  have N0 := Fr.nil n0
  have K0 : Keep h0 h0 [a1, b1] := Keep.refl _ _
  rw [ef_rm7]
  obtain ⟨T101, X101, e101, st101⟩ := getF X0 hx hZ hown (host := "") (Or.inl (hw _ (List.mem_of_getElem? (i := 38) rfl))) Via.refl e0 F_h (g := (mkF m 1 #[.val (.ref b1)] [(.ref b1)])) rfl rfl (hb hby d7_1)
  obtain ⟨T102, X102, e102, st102⟩ := getF X101 hx hZ hown (host := "") (Or.inl (hw _ (List.mem_of_getElem? (i := 40) rfl))) Via.refl e101 F_p (g := (mkF m 5 #[.val (.ref b1)] [(.ref b1), (.long hd)])) rfl rfl (hb hby d7_5)
  obtain ⟨T103, X103, e103, st103⟩ := getF X102 hx hZ hown (host := "") (Or.inl (hw _ (List.mem_of_getElem? (i := 24) rfl))) Via.refl e102 F_a (g := (mkF m 10 #[.val (.ref b1)] [(.ref b1), (.long (hd + pd))])) rfl rfl (hb hby d7_10)
  obtain ⟨T104, X104, e104, st104⟩ := getF X103 hx hZ hown (Or.inr (hw _ (List.mem_of_getElem? (i := 53) rfl))) Via.refl e103 F_s (g := (mkF m 13 #[.val (.ref b1)] [(.ref a1), (.long (hd + pd))])) rfl rfl (hb hby d7_13)
  obtain ⟨T105, X105, e105, st105⟩ := getF X104 hx hZ hown (host := "") (Or.inl (hw _ (List.mem_of_getElem? (i := 24) rfl))) Via.refl e104 F_a (g := (mkF m 37 #[.val (.ref b1)] [(.ref b1)])) rfl rfl (hb hby d7_37)
  obtain ⟨T106, X106, e106, st106⟩ := getF X105 hx hZ hown (host := "") (Or.inl (hw _ (List.mem_of_getElem? (i := 40) rfl))) Via.refl e105 F_p (g := (mkF m 41 #[.val (.ref b1)] [(.ref b1), (.ref a1)])) rfl rfl (hb hby d7_41)
  obtain ⟨v107, T107, L107, X107, q107, st107⟩ := own_callNS X106 hx hZ (y := (⟨"com/example/shelfmerge/shelfmerge/HeapBudget", "take", "(J)Z"⟩ : MethodName)) hown (hw _ (List.mem_of_getElem? (i := 54) rfl)) (hw _ (List.mem_of_getElem? (i := 55) rfl)) (hw _ (List.mem_of_getElem? (i := 56) rfl)) (hw _ (List.mem_of_getElem? (i := 3) rfl)) (hw _ (List.mem_of_getElem? (i := 2) rfl)) (hw _ (List.mem_of_getElem? (i := 57) rfl)) (by decide) E_a M_a (hM := (rm8 l Z a0 hw a1 sz tk pd h0 n0 Z0 g_a1 E_a F_s F_t M_a hq2)) (by decide) (by decide) (by decide) (by decide) e106 (argsL := [(.long pd)]) (rest := []) (Ls := #[.val (.ref b1)]) (by rw [hml]; rfl) (lenOf pd__J_Z rfl) (W := 0) (Nat.le_of_eq rfl) (hb hby d7_44)
  obtain ⟨rfl, N107q, K107q, E107q, S107q, T107q, M107q⟩ := q107
  have N107 := Fr.app N0 N107q
  have K107 : Keep h0 T107.heap [a1, b1] := K0.trans K107q (allS (Or.inl (List.mem_of_getElem? (i := 0) rfl)) all0)
  have f108 := (F_h.keep K107q (ninS (Ne.symm ne_ab) nin0))
  obtain ⟨T109, X109, e109, st109⟩ := getF X107 hx hZ hown (host := "") (Or.inl (hw _ (List.mem_of_getElem? (i := 38) rfl))) Via.refl rfl f108 (g := (mkF m 95 #[.val (.ref b1)] [(.ref b1), (.ref b1)])) rfl rfl (hb hby d7_95)
  have f110 := (F_p.keep K107q (ninS (Ne.symm ne_ab) nin0))
  obtain ⟨T111, X111, e111, st111⟩ := getF X109 hx hZ hown (host := "") (Or.inl (hw _ (List.mem_of_getElem? (i := 40) rfl))) Via.refl e109 f110 (g := (mkF m 99 #[.val (.ref b1)] [(.ref b1), (.long hd), (.ref b1)])) rfl rfl (hb hby d7_99)
  have f112 := (E_b.keep K107q)
  obtain ⟨T113, h113, X113, e113, W113, st113⟩ := putF X111 hx hZ hown (host := "") (Or.inl (hw _ (List.mem_of_getElem? (i := 38) rfl))) Via.refl e111 f108 f112 (Or.inl (hw _ (List.mem_of_getElem? (i := 39) rfl))) (hw _ (List.mem_of_getElem? (i := 18) rfl)) (ty := .long) (by decide) rfl rfl (g := (mkF m 103 #[.val (.ref b1)] [(.long (hd + pd)), (.ref b1)])) rfl rfl (hb hby d7_103)
  have Fw113 := f108.same W113
  have K113 : Keep h0 h113 [a1, b1] := K107.wr W113 (Or.inl (List.mem_of_getElem? (i := 1) rfl))
  have N113 := Fr.snoc X113 N107 g_b1
  have f114 := (f110.other W113 (Or.inr (slot_ne (Or.inl (hw _ (List.mem_of_getElem? (i := 41) rfl))) (Or.inl (hw _ (List.mem_of_getElem? (i := 39) rfl))) (by decide) (t := .long) (t' := .long) (by decide) (by decide))))
  have f115 := (f112.wr W113)
  obtain ⟨T116, h116, X116, e116, W116, st116⟩ := putF X113 hx hZ hown (host := "") (Or.inl (hw _ (List.mem_of_getElem? (i := 40) rfl))) Via.refl e113 f114 f115 (Or.inl (hw _ (List.mem_of_getElem? (i := 41) rfl))) (hw _ (List.mem_of_getElem? (i := 18) rfl)) (ty := .long) (by decide) rfl rfl (g := (mkF m 108 #[.val (.ref b1)] [(.long (0 : Int64)), (.ref b1)])) rfl rfl (hb hby d7_108)
  have Fw116 := f114.same W116
  have K116 : Keep h0 h116 [a1, b1] := K113.wr W116 (Or.inl (List.mem_of_getElem? (i := 1) rfl))
  have N116 := Fr.snoc X116 N113 g_b1
  have f117 := ((E107q.wr W113).wr W116)
  have f118 := ((S107q.other W113 (Or.inl ne_ab)).other W116 (Or.inl ne_ab))
  have f119 := ((T107q.other W113 (Or.inl ne_ab)).other W116 (Or.inl ne_ab))
  have f120 := ((M107q.wr W113).wr W116)
  have f121 := (f115.wr W116)
  have f122 := (((F_a.keep K107q (ninS (Ne.symm ne_ab) nin0)).other W113 (Or.inr (slot_ne (Or.inr (hw _ (List.mem_of_getElem? (i := 25) rfl))) (Or.inl (hw _ (List.mem_of_getElem? (i := 39) rfl))) (by decide) (t := (.object "com/example/shelfmerge/shelfmerge/HeapBudget")) (t' := .long) (by decide) (by decide)))).other W116 (Or.inr (slot_ne (Or.inr (hw _ (List.mem_of_getElem? (i := 25) rfl))) (Or.inl (hw _ (List.mem_of_getElem? (i := 41) rfl))) (by decide) (t := (.object "com/example/shelfmerge/shelfmerge/HeapBudget")) (t' := .long) (by decide) (by decide))))
  have f123 := (Fw113.other W116 (Or.inr (slot_ne (Or.inl (hw _ (List.mem_of_getElem? (i := 39) rfl))) (Or.inl (hw _ (List.mem_of_getElem? (i := 41) rfl))) (by decide) (t := .long) (t' := .long) (by decide) (by decide))))
  refine Gl.fin X116 (v := none) (fun _ => rfl) Bd.notSynchronized ?_ e116 (by decide) (by decide) (fun fs hr => ?_)
  · exact ⟨rfl, N116, K116, f117, f118, f119, f120, f121, f122, f123, Fw116⟩
  · show Steps p.tables e below (s₁.setTop (mkF m 0 #[.val (.ref b1)] [])) _
    refine XS.aloadN X0.here hx rfl (hb hby d7_0) rfl rfl ?_
    show Steps p.tables e below (s₁.setTop (mkF m 1 #[.val (.ref b1)] [(.ref b1)])) _
    refine st101 _ ?_
    show Steps p.tables e below (T101.setTop (mkF m 4 #[.val (.ref b1)] [(.long hd)])) _
    refine XS.aloadN X101.here hx rfl (hb hby d7_4) rfl rfl ?_
    show Steps p.tables e below (T101.setTop (mkF m 5 #[.val (.ref b1)] [(.ref b1), (.long hd)])) _
    refine st102 _ ?_
    show Steps p.tables e below (T102.setTop (mkF m 8 #[.val (.ref b1)] [(.long pd), (.long hd)])) _
    refine XS.ladd X102.here hx rfl (hb hby d7_8) rfl ?_
    show Steps p.tables e below (T102.setTop (mkF m 9 #[.val (.ref b1)] [(.long (hd + pd))])) _
    refine XS.aloadN X102.here hx rfl (hb hby d7_9) rfl rfl ?_
    show Steps p.tables e below (T102.setTop (mkF m 10 #[.val (.ref b1)] [(.ref b1), (.long (hd + pd))])) _
    refine st103 _ ?_
    show Steps p.tables e below (T103.setTop (mkF m 13 #[.val (.ref b1)] [(.ref a1), (.long (hd + pd))])) _
    refine st104 _ ?_
    show Steps p.tables e below (T104.setTop (mkF m 16 #[.val (.ref b1)] [(.long sz), (.long (hd + pd))])) _
    refine XS.lcmp X104.here hx rfl (hb hby d7_16) rfl ?_
    show Steps p.tables e below (T104.setTop (mkF m 17 #[.val (.ref b1)] [(.int (lcmpW (hd + pd) sz))])) _
    refine XS.ifYes X104.here hx rfl (pc0 := 17) (pc' := 36) rfl (hb hby d7_17) rfl (own_nt (l0_le _ _) hq1) (by decide) (by decide) ?_
    show Steps p.tables e below (T104.setTop (mkF m 36 #[.val (.ref b1)] [])) _
    refine XS.aloadN X104.here hx rfl (hb hby d7_36) rfl rfl ?_
    show Steps p.tables e below (T104.setTop (mkF m 37 #[.val (.ref b1)] [(.ref b1)])) _
    refine st105 _ ?_
    show Steps p.tables e below (T105.setTop (mkF m 40 #[.val (.ref b1)] [(.ref a1)])) _
    refine XS.aloadN X105.here hx rfl (hb hby d7_40) rfl rfl ?_
    show Steps p.tables e below (T105.setTop (mkF m 41 #[.val (.ref b1)] [(.ref b1), (.ref a1)])) _
    refine st106 _ ?_
    show Steps p.tables e below (T106.setTop (mkF m 44 #[.val (.ref b1)] [(.long pd), (.ref a1)])) _
    refine st107 _ ?_
    show Steps p.tables e below (T107.setTop (mkF m 47 #[.val (.ref b1)] [(.int (1 : Int32))])) _
    refine XS.ifYes X107.here hx rfl (pc0 := 47) (pc' := 93) rfl (hb hby d7_47) rfl (own_nt (i0_ne _) (by decide)) (by decide) (by decide) ?_
    show Steps p.tables e below (T107.setTop (mkF m 93 #[.val (.ref b1)] [])) _
    refine XS.aloadN X107.here hx rfl (hb hby d7_93) rfl rfl ?_
    show Steps p.tables e below (T107.setTop (mkF m 94 #[.val (.ref b1)] [(.ref b1)])) _
    refine XS.dup X107.here hx rfl (hb hby d7_94) rfl rfl ?_
    show Steps p.tables e below (T107.setTop (mkF m 95 #[.val (.ref b1)] [(.ref b1), (.ref b1)])) _
    refine st109 _ ?_
    show Steps p.tables e below (T109.setTop (mkF m 98 #[.val (.ref b1)] [(.long hd), (.ref b1)])) _
    refine XS.aloadN X109.here hx rfl (hb hby d7_98) rfl rfl ?_
    show Steps p.tables e below (T109.setTop (mkF m 99 #[.val (.ref b1)] [(.ref b1), (.long hd), (.ref b1)])) _
    refine st111 _ ?_
    show Steps p.tables e below (T111.setTop (mkF m 102 #[.val (.ref b1)] [(.long pd), (.long hd), (.ref b1)])) _
    refine XS.ladd X111.here hx rfl (hb hby d7_102) rfl ?_
    show Steps p.tables e below (T111.setTop (mkF m 103 #[.val (.ref b1)] [(.long (hd + pd)), (.ref b1)])) _
    refine st113 _ ?_
    show Steps p.tables e below (T113.setTop (mkF m 106 #[.val (.ref b1)] [])) _
    refine XS.aloadN X113.here hx rfl (hb hby d7_106) rfl rfl ?_
    show Steps p.tables e below (T113.setTop (mkF m 107 #[.val (.ref b1)] [(.ref b1)])) _
    refine XS.lconst X113.here hx rfl (hb hby d7_107) ?_
    show Steps p.tables e below (T113.setTop (mkF m 108 #[.val (.ref b1)] [(.long (0 : Int64)), (.ref b1)])) _
    refine st116 _ ?_
    show Steps p.tables e below (T116.setTop (mkF m 111 #[.val (.ref b1)] [])) _
    exact X116.returnOut hx Bd.returns (hb hby d7_111) hr
theorem ef_rm6 (m : MethodId) (x0 : Addr) (x1 : Int64) : entryFrame m #[(.ref x0), (.long x1)] 4 = mkF m 0 #[.val (.ref x0), .val (.long x1), .second, .unset] [] := by first | (simp [entryFrame, mkF, argsToLocals, Value.category]; done) | rfl
theorem d6_0 : decode prog_18_method_2_code 0 = .ok (.aload_n 0, 1) := by decide +kernel
theorem d6_1 : decode prog_18_method_2_code 1 = .ok (.getfield 23, 3) := by decide +kernel
theorem d6_4 : decode prog_18_method_2_code 4 = .ok (.ifnull 33, 3) := by decide +kernel
theorem d6_37 : decode prog_18_method_2_code 37 = .ok (.aload_n 0, 1) := by decide +kernel
theorem d6_38 : decode prog_18_method_2_code 38 = .ok (.dup, 1) := by decide +kernel
theorem d6_39 : decode prog_18_method_2_code 39 = .ok (.getfield 36, 3) := by decide +kernel
theorem d6_42 : decode prog_18_method_2_code 42 = .ok (.lload_n 1, 1) := by decide +kernel
theorem d6_43 : decode prog_18_method_2_code 43 = .ok (.ladd, 1) := by decide +kernel
theorem d6_44 : decode prog_18_method_2_code 44 = .ok (.putfield 36, 3) := by decide +kernel
theorem d6_47 : decode prog_18_method_2_code 47 = .ok (.aload_n 0, 1) := by decide +kernel
theorem d6_48 : decode prog_18_method_2_code 48 = .ok (.getfield 36, 3) := by decide +kernel
theorem d6_51 : decode prog_18_method_2_code 51 = .ok (.ldc2_w 39, 3) := by decide +kernel
theorem d6_54 : decode prog_18_method_2_code 54 = .ok (.lcmp, 1) := by decide +kernel
theorem d6_55 : decode prog_18_method_2_code 55 = .ok (.ifCond .lt 7, 3) := by decide +kernel
theorem d6_62 : decode prog_18_method_2_code 62 = .ok (.return_, 1) := by decide +kernel
theorem d6_58 : decode prog_18_method_2_code 58 = .ok (.aload_n 0, 1) := by decide +kernel
theorem d6_59 : decode prog_18_method_2_code 59 = .ok (.invokevirtual 41, 3) := by decide +kernel
theorem pd___V : parseMethodDescriptor "()V" = some ⟨[], none⟩ := by decide +kernel
def Q6 (Z : State) (b1 : Addr) (n1 : Int64) (a1 : Addr) (sz : Int64) (tk : Int64) (h0 : Heap) (n0 : Nat) (v : Option Value) (h : Heap) (L : List Loc) : Prop := ∃ hd pd tk' : Int64, hd + pd = n1 ∧ (tk' = tk ∨ tk' = tk + n1) ∧ v = none ∧ Fr n0 L ∧ Keep h0 h [a1, b1] ∧ Exa Z h a1 "com/example/shelfmerge/shelfmerge/HeapBudget" ∧ Fld Z h a1 "com/example/shelfmerge/shelfmerge/HeapBudget" "size" "J" (.long sz) ∧ Fld Z h a1 "com/example/shelfmerge/shelfmerge/HeapBudget" "taken" "J" (.long tk') ∧ Mo h a1 ∧ Exa Z h b1 "com/example/shelfmerge/shelfmerge/HeapBudget$Charge" ∧ Fld Z h b1 "com/example/shelfmerge/shelfmerge/HeapBudget$Charge" "this$0" "Lcom/example/shelfmerge/shelfmerge/HeapBudget;" (.ref a1) ∧ Fld Z h b1 "com/example/shelfmerge/shelfmerge/HeapBudget$Charge" "held" "J" (.long hd) ∧ Fld Z h b1 "com/example/shelfmerge/shelfmerge/HeapBudget$Charge" "pending" "J" (.long pd)
set_option maxRecDepth 65536 in
set_option maxHeartbeats 40000000 in
theorem rm6 (l : Launch) (Z : State) (a0 : Array Value) (hw : ∀ d ∈ tables_1, d.before a0 Z = true) (ws : List Jvm.Cond) (b1 : Addr) (n1 : Int64) (a1 : Addr) (sz : Int64) (tk : Int64) (h0 : Heap) (n0 : Nat) (Z0 : n0 ≤ h0.size) (g_a1 : n0 ≤ a1) (g_b1 : n0 ≤ b1) (ne_ab : a1 ≠ b1) (E_a : Exa Z h0 a1 "com/example/shelfmerge/shelfmerge/HeapBudget") (F_s : Fld Z h0 a1 "com/example/shelfmerge/shelfmerge/HeapBudget" "size" "J" (.long sz)) (F_t : Fld Z h0 a1 "com/example/shelfmerge/shelfmerge/HeapBudget" "taken" "J" (.long tk)) (M_a : Mo h0 a1) (E_b : Exa Z h0 b1 "com/example/shelfmerge/shelfmerge/HeapBudget$Charge") (F_a : Fld Z h0 b1 "com/example/shelfmerge/shelfmerge/HeapBudget$Charge" "this$0" "Lcom/example/shelfmerge/shelfmerge/HeapBudget;" (.ref a1)) (F_h : Fld Z h0 b1 "com/example/shelfmerge/shelfmerge/HeapBudget$Charge" "held" "J" (.long (0 : Int64))) (F_p : Fld Z h0 b1 "com/example/shelfmerge/shelfmerge/HeapBudget$Charge" "pending" "J" (.long (0 : Int64))) (F_l : Fld Z h0 b1 "com/example/shelfmerge/shelfmerge/HeapBudget$Charge" "beforeLarge" "Lcom/example/shelfmerge/shelfmerge/HeapBudget$Threshold;" .null) (hq1 : ¬ (sz < n1)) (hq2 : ¬ (sz - tk < n1)) :
    OMet l Z (⟨"com/example/shelfmerge/shelfmerge/HeapBudget$Charge", "add", "(J)V"⟩ : MethodName) prog_18_method_2_code 4 none ws ({ frames := 2, cells := 0, slots := 0, locals := 26 } : Room) #[(.ref b1), (.long n1)] h0 (Q6 Z b1 n1 a1 sz tk h0 n0) := by
  refine own_body (plainFor_of_name pn_com_example_shelfmerge_shelfmerge_HeapBudget_Charge) ?_
  intro p e s m below meth c s₁ Bd hml0 hZ e0
  have hx := Bd.exec
  have hby := Bd.bytes
  have hml : c.maxLocals = 4 := hml0
  have hown : s.vm.findClass "com/example/shelfmerge/shelfmerge/HeapBudget$Charge" = some m.cls := findClass_of_methodNamed Bd.named
  have hnm := (name_of_methodNamed Bd.named Bd.method).1
  have X0 : Stand p l e ({ frames := 2, cells := 0, slots := 0, locals := 26 } : Room) s m #[(.ref b1), (.long n1)] below meth c s₁ [] 0 0 := Stand.of_body Bd
  have N0 := Fr.nil n0
  have K0 : Keep h0 h0 [a1, b1] := Keep.refl _ _
  rw [ef_rm6]
  obtain ⟨T101, X101, e101, st101⟩ := getF X0 hx hZ hown (host := "") (Or.inl (hw _ (List.mem_of_getElem? (i := 31) rfl))) Via.refl e0 F_l (g := (mkF m 1 #[.val (.ref b1), .val (.long n1), .second, .unset] [(.ref b1)])) rfl rfl (hb hby d6_1)
  obtain ⟨T102, X102, e102, st102⟩ := getF X101 hx hZ hown (host := "") (Or.inl (hw _ (List.mem_of_getElem? (i := 40) rfl))) Via.refl e101 F_p (g := (mkF m 39 #[.val (.ref b1), .val (.long n1), .second, .unset] [(.ref b1), (.ref b1)])) rfl rfl (hb hby d6_39)
  obtain ⟨T103, h103, X103, e103, W103, st103⟩ := putF X102 hx hZ hown (host := "") (Or.inl (hw _ (List.mem_of_getElem? (i := 40) rfl))) Via.refl e102 F_p E_b (Or.inl (hw _ (List.mem_of_getElem? (i := 41) rfl))) (hw _ (List.mem_of_getElem? (i := 18) rfl)) (ty := .long) (by decide) rfl rfl (g := (mkF m 44 #[.val (.ref b1), .val (.long n1), .second, .unset] [(.long ((0 : Int64) + n1)), (.ref b1)])) rfl rfl (hb hby d6_44)
  have Fw103 := F_p.same W103
  have K103 : Keep h0 h103 [a1, b1] := K0.wr W103 (Or.inl (List.mem_of_getElem? (i := 1) rfl))
  have N103 := Fr.snoc X103 N0 g_b1
  obtain ⟨T104, X104, e104, st104⟩ := getF X103 hx hZ hown (host := "") (Or.inl (hw _ (List.mem_of_getElem? (i := 40) rfl))) Via.refl e103 Fw103 (g := (mkF m 48 #[.val (.ref b1), .val (.long n1), .second, .unset] [(.ref b1)])) rfl rfl (hb hby d6_48)
  refine Gl.pre (S' := T104.setTop (mkF m 55 #[.val (.ref b1), .val (.long n1), .second, .unset] [(.int (lcmpW ((0 : Int64) + n1) (65536 : Int64)))])) (fun t kt => ?_) ?_
  · show Steps p.tables e below (s₁.setTop (mkF m 0 #[.val (.ref b1), .val (.long n1), .second, .unset] [])) _
    refine XS.aloadN X0.here hx rfl (hb hby d6_0) rfl rfl ?_
    show Steps p.tables e below (s₁.setTop (mkF m 1 #[.val (.ref b1), .val (.long n1), .second, .unset] [(.ref b1)])) _
    refine st101 _ ?_
    show Steps p.tables e below (T101.setTop (mkF m 4 #[.val (.ref b1), .val (.long n1), .second, .unset] [.null])) _
    refine XS.ifnullYes X101.here hx rfl (pc0 := 4) (pc' := 37) rfl (hb hby d6_4) rfl (by decide) (by decide) ?_
    show Steps p.tables e below (T101.setTop (mkF m 37 #[.val (.ref b1), .val (.long n1), .second, .unset] [])) _
    refine XS.aloadN X101.here hx rfl (hb hby d6_37) rfl rfl ?_
    show Steps p.tables e below (T101.setTop (mkF m 38 #[.val (.ref b1), .val (.long n1), .second, .unset] [(.ref b1)])) _
    refine XS.dup X101.here hx rfl (hb hby d6_38) rfl rfl ?_
    show Steps p.tables e below (T101.setTop (mkF m 39 #[.val (.ref b1), .val (.long n1), .second, .unset] [(.ref b1), (.ref b1)])) _
    refine st102 _ ?_
    show Steps p.tables e below (T102.setTop (mkF m 42 #[.val (.ref b1), .val (.long n1), .second, .unset] [(.long (0 : Int64)), (.ref b1)])) _
    refine XS.lloadN X102.here hx rfl (hb hby d6_42) rfl ?_
    show Steps p.tables e below (T102.setTop (mkF m 43 #[.val (.ref b1), .val (.long n1), .second, .unset] [(.long n1), (.long (0 : Int64)), (.ref b1)])) _
    refine XS.ladd X102.here hx rfl (hb hby d6_43) rfl ?_
    show Steps p.tables e below (T102.setTop (mkF m 44 #[.val (.ref b1), .val (.long n1), .second, .unset] [(.long ((0 : Int64) + n1)), (.ref b1)])) _
    refine st103 _ ?_
    show Steps p.tables e below (T103.setTop (mkF m 47 #[.val (.ref b1), .val (.long n1), .second, .unset] [])) _
    refine XS.aloadN X103.here hx rfl (hb hby d6_47) rfl rfl ?_
    show Steps p.tables e below (T103.setTop (mkF m 48 #[.val (.ref b1), .val (.long n1), .second, .unset] [(.ref b1)])) _
    refine st104 _ ?_
    show Steps p.tables e below (T104.setTop (mkF m 51 #[.val (.ref b1), .val (.long n1), .second, .unset] [(.long ((0 : Int64) + n1))])) _
    refine X104.ldc2Long hx hown (mvT hZ (hw _ (List.mem_of_getElem? (i := 47) rfl))) (g := (mkF m 51 #[.val (.ref b1), .val (.long n1), .second, .unset] [(.long ((0 : Int64) + n1))])) rfl (hb hby d6_51) _ ?_
    show Steps p.tables e below (T104.setTop (mkF m 54 #[.val (.ref b1), .val (.long n1), .second, .unset] [(.long (65536 : Int64)), (.long ((0 : Int64) + n1))])) _
    refine XS.lcmp X104.here hx rfl (hb hby d6_54) rfl ?_
    exact kt
  by_cases hc55 : ((0 : Int64) + n1) < (65536 : Int64)
  · have f105 := (E_a.wr W103)
    have f106 := (F_s.other W103 (Or.inl ne_ab))
    have f107 := (F_t.other W103 (Or.inl ne_ab))
    have f108 := (M_a.wr W103)
    have f109 := (E_b.wr W103)
    have f110 := (F_a.other W103 (Or.inr (slot_ne (Or.inr (hw _ (List.mem_of_getElem? (i := 25) rfl))) (Or.inl (hw _ (List.mem_of_getElem? (i := 41) rfl))) (by decide) (t := (.object "com/example/shelfmerge/shelfmerge/HeapBudget")) (t' := .long) (by decide) (by decide))))
    have f111 := (F_h.other W103 (Or.inr (slot_ne (Or.inl (hw _ (List.mem_of_getElem? (i := 39) rfl))) (Or.inl (hw _ (List.mem_of_getElem? (i := 41) rfl))) (by decide) (t := .long) (t' := .long) (by decide) (by decide))))
    refine Gl.fin X104 (v := none) (fun _ => rfl) Bd.notSynchronized ?_ e104 (by decide) (by decide) (fun fs hr => ?_)
    · exact ⟨_, _, _, by simp, Or.inl rfl, rfl, N103, K103, f105, f106, f107, f108, f109, f110, f111, Fw103⟩
    · show Steps p.tables e below (T104.setTop (mkF m 55 #[.val (.ref b1), .val (.long n1), .second, .unset] [(.int (lcmpW ((0 : Int64) + n1) (65536 : Int64)))])) _
      refine XS.ifYes X104.here hx rfl (pc0 := 55) (pc' := 62) rfl (hb hby d6_55) rfl (own_t (l0_lt _ _) hc55) (by decide) (by decide) ?_
      show Steps p.tables e below (T104.setTop (mkF m 62 #[.val (.ref b1), .val (.long n1), .second, .unset] [])) _
      exact X104.returnOut hx Bd.returns (hb hby d6_62) hr
  · have f113 := (E_a.wr W103)
    have f114 := (F_s.other W103 (Or.inl ne_ab))
    have f115 := (F_t.other W103 (Or.inl ne_ab))
    have f116 := (M_a.wr W103)
    have f117 := (E_b.wr W103)
    have f118 := (F_a.other W103 (Or.inr (slot_ne (Or.inr (hw _ (List.mem_of_getElem? (i := 25) rfl))) (Or.inl (hw _ (List.mem_of_getElem? (i := 41) rfl))) (by decide) (t := (.object "com/example/shelfmerge/shelfmerge/HeapBudget")) (t' := .long) (by decide) (by decide))))
    have f119 := (F_h.other W103 (Or.inr (slot_ne (Or.inl (hw _ (List.mem_of_getElem? (i := 39) rfl))) (Or.inl (hw _ (List.mem_of_getElem? (i := 41) rfl))) (by decide) (t := .long) (t' := .long) (by decide) (by decide))))
    have z120 : n0 ≤ h103.size := (Nat.le_trans Z0 (Keep.of_wr W103).1)
    obtain ⟨v112, T112, L112, X112, q112, st112⟩ := own_callV X104 hx hZ (y := (⟨"com/example/shelfmerge/shelfmerge/HeapBudget$Charge", "settle", "()V"⟩ : MethodName)) (z := (⟨"com/example/shelfmerge/shelfmerge/HeapBudget$Charge", "settle", "()V"⟩ : MethodName)) hown (hw _ (List.mem_of_getElem? (i := 48) rfl)) (hw _ (List.mem_of_getElem? (i := 49) rfl)) (notFace_of_selects (args := #[]) (mvT hZ (hw _ (List.mem_of_getElem? (i := 51) rfl)))) (hw _ (List.mem_of_getElem? (i := 51) rfl)) (hw _ (List.mem_of_getElem? (i := 50) rfl)) (hw _ (List.mem_of_getElem? (i := 19) rfl)) (hw _ (List.mem_of_getElem? (i := 52) rfl)) (by decide) f117 (hM := (rm7 l Z a0 hw [] b1 a1 sz tk (0 : Int64) ((0 : Int64) + n1) h103 n0 z120 g_a1 g_b1 ne_ab f113 f114 f115 f116 f117 f118 f119 Fw103 (by rw [own_z0, own_z0]; exact hq1) (by rw [own_z0]; exact hq2))) (by decide) (by decide) (by decide) (by decide) e104 (argsL := []) (rest := []) (Ls := #[.val (.ref b1), .val (.long n1), .second, .unset]) (by rw [hml]; rfl) (lenOf pd___V rfl) (W := 0) (Nat.le_of_eq rfl) (hb hby d6_59)
    obtain ⟨rfl, N112q, K112q, Ea112q, S112q, T112q, M112q, Eb112q, A112q, H112q, P112q⟩ := q112
    have N112 := Fr.app N103 N112q
    have K112 : Keep h0 T112.heap [a1, b1] := K103.trans K112q (allS (Or.inl (List.mem_of_getElem? (i := 0) rfl)) (allS (Or.inl (List.mem_of_getElem? (i := 1) rfl)) all0))
    refine Gl.fin X112 (v := none) (fun _ => rfl) Bd.notSynchronized ?_ rfl (by decide) (by decide) (fun fs hr => ?_)
    · exact ⟨_, _, _, by simp, Or.inr (by simp), rfl, N112, K112, Ea112q, S112q, T112q, M112q, Eb112q, A112q, H112q, P112q⟩
    · show Steps p.tables e below (T104.setTop (mkF m 55 #[.val (.ref b1), .val (.long n1), .second, .unset] [(.int (lcmpW ((0 : Int64) + n1) (65536 : Int64)))])) _
      refine XS.ifNo X104.here hx rfl (hb hby d6_55) rfl (own_f (l0_lt _ _) hc55) ?_
      show Steps p.tables e below (T104.setTop (mkF m 58 #[.val (.ref b1), .val (.long n1), .second, .unset] [])) _
      refine XS.aloadN X104.here hx rfl (hb hby d6_58) rfl rfl ?_
      show Steps p.tables e below (T104.setTop (mkF m 59 #[.val (.ref b1), .val (.long n1), .second, .unset] [(.ref b1)])) _
      refine st112 _ ?_
      show Steps p.tables e below (T112.setTop (mkF m 62 #[.val (.ref b1), .val (.long n1), .second, .unset] [])) _
      exact X112.returnOut hx Bd.returns (hb hby d6_62) hr
theorem pn_com_example_shelfmerge_shelfmerge_HeapBudgetChargePinLaw : plainName "com/example/shelfmerge/shelfmerge/HeapBudgetChargePinLaw" = true := by first | (simp [plainName, overriddenIn]; done) | decide +kernel
theorem ef_rm0 (m : MethodId) (x0 : Int64) (x1 : Int64) : entryFrame m #[(.long x0), (.long x1)] maxLocals = mkF m 0 #[.val (.long x0), .second, .val (.long x1), .second, .unset, .unset, .unset, .unset, .unset, .unset, .unset, .unset] [] := by first | (simp [entryFrame, mkF, argsToLocals, Value.category, maxLocals]; done) | rfl
theorem pd__J_V : parseMethodDescriptor "(J)V" = some ⟨[.long], none⟩ := by decide +kernel
theorem pd___Lcom_example_shelfmerge_shelfmerge_HeapBudget_Charge_ : parseMethodDescriptor "()Lcom/example/shelfmerge/shelfmerge/HeapBudget$Charge;" = some ⟨[], some (.object "com/example/shelfmerge/shelfmerge/HeapBudget$Charge")⟩ := by decide +kernel
theorem pd___J : parseMethodDescriptor "()J" = some ⟨[], some .long⟩ := by decide +kernel
def Q0 (Z : State) (p0 : Int64) (p1 : Int64) (h0 : Heap) (n0 : Nat) (v : Option Value) (h : Heap) (L : List Loc) : Prop := v = some (.int 1) ∧ Fr n0 L
set_option maxRecDepth 65536 in
set_option maxHeartbeats 40000000 in
theorem rm0 (l : Launch) (Z : State) (a0 : Array Value) (hw : ∀ d ∈ tables_1, d.before a0 Z = true) (ws : List Jvm.Cond) (p0 : Int64) (p1 : Int64) (h0 : Heap) (n0 : Nat) (Z0 : n0 ≤ h0.size) :
    OMet l Z x code maxLocals ret ws room_1 #[(.long p0), (.long p1)] h0 (Q0 Z p0 p1 h0 n0) := by
  refine own_body (plainFor_of_name pn_com_example_shelfmerge_shelfmerge_HeapBudgetChargePinLaw) ?_
  intro p e s m below meth c s₁ Bd hml0 hZ e0
  have hx := Bd.exec
  have hby := Bd.bytes
  have hml : c.maxLocals = 12 := hml0
  have hown : s.vm.findClass "com/example/shelfmerge/shelfmerge/HeapBudgetChargePinLaw" = some m.cls := findClass_of_methodNamed Bd.named
  have hnm := (name_of_methodNamed Bd.named Bd.method).1
  have X0 : Stand p l e room_1 s m #[(.long p0), (.long p1)] below meth c s₁ [] 0 0 := Stand.of_body Bd
  have N0 := Fr.nil n0
  have K0 : Keep h0 h0 [] := Keep.refl _ _
  rw [ef_rm0]
  refine Gl.pre (S' := s₁.setTop (mkF m 7 #[.val (.long p0), .second, .val (.long p1), .second, .val (.long (p0 &&& (9223372036854775807 : Int64))), .second, .unset, .unset, .unset, .unset, .unset, .unset] [])) (fun t kt => ?_) ?_
  · show Steps p.tables e below (s₁.setTop (mkF m 0 #[.val (.long p0), .second, .val (.long p1), .second, .unset, .unset, .unset, .unset, .unset, .unset, .unset, .unset] [])) _
    refine XS.lloadN X0.here hx rfl (hb hby at_0) rfl ?_
    show Steps p.tables e below (s₁.setTop (mkF m 1 #[.val (.long p0), .second, .val (.long p1), .second, .unset, .unset, .unset, .unset, .unset, .unset, .unset, .unset] [(.long p0)])) _
    refine X0.ldc2Long hx hown (mvT hZ (hw _ (List.mem_of_getElem? (i := 0) rfl))) (g := (mkF m 1 #[.val (.long p0), .second, .val (.long p1), .second, .unset, .unset, .unset, .unset, .unset, .unset, .unset, .unset] [(.long p0)])) rfl (hb hby at_1) _ ?_
    show Steps p.tables e below (s₁.setTop (mkF m 4 #[.val (.long p0), .second, .val (.long p1), .second, .unset, .unset, .unset, .unset, .unset, .unset, .unset, .unset] [(.long (9223372036854775807 : Int64)), (.long p0)])) _
    refine XS.land X0.here hx rfl (hb hby at_4) rfl ?_
    show Steps p.tables e below (s₁.setTop (mkF m 5 #[.val (.long p0), .second, .val (.long p1), .second, .unset, .unset, .unset, .unset, .unset, .unset, .unset, .unset] [(.long (p0 &&& (9223372036854775807 : Int64)))])) _
    refine XS.lstore X0.here hx rfl (hb hby at_5) rfl (l' := #[.val (.long p0), .second, .val (.long p1), .second, .val (.long (p0 &&& (9223372036854775807 : Int64))), .second, .unset, .unset, .unset, .unset, .unset, .unset]) rfl ?_
    exact kt
  obtain ⟨sz, h_sz⟩ : ∃ z : Int64, z = (p0 &&& (9223372036854775807 : Int64)) := ⟨_, rfl⟩
  rw [← h_sz]
  have hsz : 0 ≤ sz.toInt := by rw [h_sz]; exact own_and64_0 p0
  refine Gl.pre (S' := s₁.setTop (mkF m 19 #[.val (.long p0), .second, .val (.long p1), .second, .val (.long sz), .second, .val (.long ((p1 &&& (9223372036854775807 : Int64)) % (sz + (1 : Int64)))), .second, .unset, .unset, .unset, .unset] [])) (fun t kt => ?_) ?_
  · show Steps p.tables e below (s₁.setTop (mkF m 7 #[.val (.long p0), .second, .val (.long p1), .second, .val (.long sz), .second, .unset, .unset, .unset, .unset, .unset, .unset] [])) _
    refine XS.lloadN X0.here hx rfl (hb hby at_7) rfl ?_
    show Steps p.tables e below (s₁.setTop (mkF m 8 #[.val (.long p0), .second, .val (.long p1), .second, .val (.long sz), .second, .unset, .unset, .unset, .unset, .unset, .unset] [(.long p1)])) _
    refine X0.ldc2Long hx hown (mvT hZ (hw _ (List.mem_of_getElem? (i := 0) rfl))) (g := (mkF m 8 #[.val (.long p0), .second, .val (.long p1), .second, .val (.long sz), .second, .unset, .unset, .unset, .unset, .unset, .unset] [(.long p1)])) rfl (hb hby at_8) _ ?_
    show Steps p.tables e below (s₁.setTop (mkF m 11 #[.val (.long p0), .second, .val (.long p1), .second, .val (.long sz), .second, .unset, .unset, .unset, .unset, .unset, .unset] [(.long (9223372036854775807 : Int64)), (.long p1)])) _
    refine XS.land X0.here hx rfl (hb hby at_11) rfl ?_
    show Steps p.tables e below (s₁.setTop (mkF m 12 #[.val (.long p0), .second, .val (.long p1), .second, .val (.long sz), .second, .unset, .unset, .unset, .unset, .unset, .unset] [(.long (p1 &&& (9223372036854775807 : Int64)))])) _
    refine XS.lload X0.here hx rfl (hb hby at_12) rfl ?_
    show Steps p.tables e below (s₁.setTop (mkF m 14 #[.val (.long p0), .second, .val (.long p1), .second, .val (.long sz), .second, .unset, .unset, .unset, .unset, .unset, .unset] [(.long sz), (.long (p1 &&& (9223372036854775807 : Int64)))])) _
    refine XS.lconst X0.here hx rfl (hb hby at_14) ?_
    show Steps p.tables e below (s₁.setTop (mkF m 15 #[.val (.long p0), .second, .val (.long p1), .second, .val (.long sz), .second, .unset, .unset, .unset, .unset, .unset, .unset] [(.long (1 : Int64)), (.long sz), (.long (p1 &&& (9223372036854775807 : Int64)))])) _
    refine XS.ladd X0.here hx rfl (hb hby at_15) rfl ?_
    show Steps p.tables e below (s₁.setTop (mkF m 16 #[.val (.long p0), .second, .val (.long p1), .second, .val (.long sz), .second, .unset, .unset, .unset, .unset, .unset, .unset] [(.long (sz + (1 : Int64))), (.long (p1 &&& (9223372036854775807 : Int64)))])) _
    refine XS.lrem X0.here hx rfl (hb hby at_16) rfl (own_sz1 hsz) ?_
    rw [own_lrem]
    show Steps p.tables e below (s₁.setTop (mkF m 17 #[.val (.long p0), .second, .val (.long p1), .second, .val (.long sz), .second, .unset, .unset, .unset, .unset, .unset, .unset] [(.long ((p1 &&& (9223372036854775807 : Int64)) % (sz + (1 : Int64))))])) _
    refine XS.lstore X0.here hx rfl (hb hby at_17) rfl (l' := #[.val (.long p0), .second, .val (.long p1), .second, .val (.long sz), .second, .val (.long ((p1 &&& (9223372036854775807 : Int64)) % (sz + (1 : Int64)))), .second, .unset, .unset, .unset, .unset]) rfl ?_
    exact kt
  obtain ⟨xx, h_xx⟩ : ∃ z : Int64, z = ((p1 &&& (9223372036854775807 : Int64)) % (sz + (1 : Int64))) := ⟨_, rfl⟩
  rw [← h_xx]
  obtain ⟨hx0, hx1⟩ : 0 ≤ xx.toInt ∧ xx.toInt ≤ sz.toInt := by rw [h_xx]; exact own_rem hsz
  obtain ⟨T101, h101, X101, e101, E101, A101, D101, M101, st101⟩ := newO X0 hx hZ hown (hw _ (List.mem_of_getElem? (i := 1) rfl)) (hw _ (List.mem_of_getElem? (i := 2) rfl)) (hw _ (List.mem_of_getElem? (i := 3) rfl)) e0 (g := (mkF m 19 #[.val (.long p0), .second, .val (.long p1), .second, .val (.long sz), .second, .val (.long xx), .second, .unset, .unset, .unset, .unset] [])) rfl (hb hby at_19) (by decide) (by decide)
  obtain ⟨b101, g101⟩ : ∃ z, z = h0.size := ⟨_, rfl⟩
  have g_b101 : n0 ≤ b101 := Nat.le_trans Z0 (Nat.le_of_eq g101.symm)
  have sz_b101 : h0.size ≤ b101 := Nat.le_trans K0.1 (Nat.le_of_eq g101.symm)
  rw [← g101] at A101 D101 M101 st101
  have K101 : Keep h0 h101 [] := K0.ext E101
  have Mo101 := Mo.of_new M101
  have F_size_b101 : Fld Z h101 b101 "com/example/shelfmerge/shelfmerge/HeapBudget" "size" "J" (.long (0 : Int64)) := D101 (Or.inr (hw _ (List.mem_of_getElem? (i := 11) rfl))) (ty := .long) (by decide)
  have F_taken_b101 : Fld Z h101 b101 "com/example/shelfmerge/shelfmerge/HeapBudget" "taken" "J" (.long (0 : Int64)) := D101 (Or.inl (hw _ (List.mem_of_getElem? (i := 59) rfl))) (ty := .long) (by decide)
  have z103 : n0 ≤ h101.size := (Nat.le_trans Z0 E101.1)
  obtain ⟨v102, T102, L102, X102, q102, st102⟩ := own_callI X101 hx hZ (y := (⟨"com/example/shelfmerge/shelfmerge/HeapBudget", "<init>", "(J)V"⟩ : MethodName)) rfl hown (hw _ (List.mem_of_getElem? (i := 4) rfl)) (hw _ (List.mem_of_getElem? (i := 5) rfl)) (hw _ (List.mem_of_getElem? (i := 3) rfl)) (hw _ (List.mem_of_getElem? (i := 6) rfl)) (by decide) (a := b101) (hM := (rm1 l Z a0 hw [] b101 sz h101 n0 z103 g_b101 A101 F_size_b101 F_taken_b101 Mo101)) (by decide) (by decide) (by decide) (by decide) e101 (argsL := [(.long sz)]) (rest := [(.ref b101)]) (Ls := #[.val (.long p0), .second, .val (.long p1), .second, .val (.long sz), .second, .val (.long xx), .second, .unset, .unset, .unset, .unset]) (by rw [hml]; rfl) (lenOf pd__J_V rfl) (W := 1) (Nat.le_of_eq rfl) (hb hby at_25)
  obtain ⟨rfl, N102q, K102q, E102q, S102q, T102q, M102q⟩ := q102
  have N102 := Fr.app N0 N102q
  have K102 : Keep h0 T102.heap [] := K101.trans K102q (allS (Or.inr sz_b101) all0)
  have z105 : n0 ≤ T102.heap.size := (Nat.le_trans z103 K102q.1)
  obtain ⟨v104, T104, L104, X104, q104, st104⟩ := own_callV X102 hx hZ (y := (⟨"com/example/shelfmerge/shelfmerge/HeapBudget", "charge", "()Lcom/example/shelfmerge/shelfmerge/HeapBudget$Charge;"⟩ : MethodName)) (z := (⟨"com/example/shelfmerge/shelfmerge/HeapBudget", "charge", "()Lcom/example/shelfmerge/shelfmerge/HeapBudget$Charge;"⟩ : MethodName)) hown (hw _ (List.mem_of_getElem? (i := 12) rfl)) (hw _ (List.mem_of_getElem? (i := 13) rfl)) (notFace_of_selects (args := #[]) (mvT hZ (hw _ (List.mem_of_getElem? (i := 15) rfl)))) (hw _ (List.mem_of_getElem? (i := 15) rfl)) (hw _ (List.mem_of_getElem? (i := 14) rfl)) (hw _ (List.mem_of_getElem? (i := 3) rfl)) (hw _ (List.mem_of_getElem? (i := 16) rfl)) (by decide) E102q (hM := (rm3 l Z a0 hw [] b101 T102.heap n0 z105)) (by decide) (by decide) (by decide) (by decide) rfl (argsL := []) (rest := []) (Ls := #[.val (.long p0), .second, .val (.long p1), .second, .val (.long sz), .second, .val (.long xx), .second, .val (.ref b101), .unset, .unset, .unset]) (by rw [hml]; rfl) (lenOf pd___Lcom_example_shelfmerge_shelfmerge_HeapBudget_Charge_ rfl) (W := 0) (Nat.le_of_eq rfl) (hb hby at_32)
  obtain ⟨r104, szq_r104, rfl, N104q, K104q, E104q, F0104q, F1104q, F2104q, F3104q, F4104q, F5104q⟩ := q104
  have N104 := Fr.app N102 N104q
  have K104 : Keep h0 T104.heap [] := K102.trans K104q all0
  have g_r104 : n0 ≤ r104 := Nat.le_trans z105 szq_r104
  have sz_r104 : h0.size ≤ r104 := Nat.le_trans K102.1 szq_r104
  have z107 : n0 ≤ T104.heap.size := (Nat.le_trans z105 K104q.1)
  obtain ⟨v106, T106, L106, X106, q106, st106⟩ := own_callV X104 hx hZ (y := (⟨"com/example/shelfmerge/shelfmerge/HeapBudget$Charge", "charged", "()J"⟩ : MethodName)) (z := (⟨"com/example/shelfmerge/shelfmerge/HeapBudget$Charge", "charged", "()J"⟩ : MethodName)) hown (hw _ (List.mem_of_getElem? (i := 33) rfl)) (hw _ (List.mem_of_getElem? (i := 34) rfl)) (notFace_of_selects (args := #[]) (mvT hZ (hw _ (List.mem_of_getElem? (i := 36) rfl)))) (hw _ (List.mem_of_getElem? (i := 36) rfl)) (hw _ (List.mem_of_getElem? (i := 35) rfl)) (hw _ (List.mem_of_getElem? (i := 19) rfl)) (hw _ (List.mem_of_getElem? (i := 37) rfl)) (by decide) E104q (hM := (rm5 l Z a0 hw [] r104 (0 : Int64) (0 : Int64) T104.heap n0 z107 F4104q F5104q)) (by decide) (by decide) (by decide) (by decide) rfl (argsL := []) (rest := []) (Ls := #[.val (.long p0), .second, .val (.long p1), .second, .val (.long sz), .second, .val (.long xx), .second, .val (.ref b101), .val (.ref r104), .unset, .unset]) (by rw [hml]; rfl) (lenOf pd___J rfl) (W := 0) (Nat.le_of_eq rfl) (hb hby at_39)
  obtain ⟨rfl, N106q, e106⟩ := q106
  have N106 := Fr.app N104 N106q
  have f109 := (E102q.keep K104q)
  have f110 := (S102q.keep K104q nin0)
  have f111 := (T102q.keep K104q nin0)
  have f112 := (M102q.keep K104q nin0)
  obtain ⟨v108, T108, L108, X108, q108, st108⟩ := own_callV X106 hx hZ (y := (⟨"com/example/shelfmerge/shelfmerge/HeapBudget$Charge", "add", "(J)V"⟩ : MethodName)) (z := (⟨"com/example/shelfmerge/shelfmerge/HeapBudget$Charge", "add", "(J)V"⟩ : MethodName)) hown (hw _ (List.mem_of_getElem? (i := 42) rfl)) (hw _ (List.mem_of_getElem? (i := 43) rfl)) (notFace_of_selects (args := #[]) (mvT hZ (hw _ (List.mem_of_getElem? (i := 45) rfl)))) (hw _ (List.mem_of_getElem? (i := 45) rfl)) (hw _ (List.mem_of_getElem? (i := 44) rfl)) (hw _ (List.mem_of_getElem? (i := 19) rfl)) (hw _ (List.mem_of_getElem? (i := 46) rfl)) (by decide) E104q (hM := (rm6 l Z a0 hw [] r104 xx b101 sz (0 : Int64) T104.heap n0 z107 g_b101 g_r104 (Nat.ne_of_lt (Nat.lt_of_lt_of_le (Nat.lt_of_lt_of_le A101.lt K102q.1) szq_r104)) f109 f110 f111 f112 E104q F0104q F4104q F5104q F3104q (own_b1 hx1) (own_b2 hx1))) (by decide) (by decide) (by decide) (by decide) e106 (argsL := [(.long xx)]) (rest := []) (Ls := #[.val (.long p0), .second, .val (.long p1), .second, .val (.long sz), .second, .val (.long xx), .second, .val (.ref b101), .val (.ref r104), .val (.int (1 : Int32)), .unset]) (by rw [hml]; rfl) (lenOf pd__J_V rfl) (W := 0) (Nat.le_of_eq rfl) (hb hby at_58)
  obtain ⟨hd108, pd108, tk108, hs108, ht108, rfl, N108q, K108q, Ea108q, S108q, T108q, M108q, Eb108q, A108q, H108q, P108q⟩ := q108
  have N108 := Fr.app N106 N108q
  have K108 : Keep h0 T108.heap [] := K104.trans K108q (allS (Or.inr sz_b101) (allS (Or.inr sz_r104) all0))
  have z114 : n0 ≤ T108.heap.size := (Nat.le_trans z107 K108q.1)
  obtain ⟨v113, T113, L113, X113, q113, st113⟩ := own_callV X108 hx hZ (y := (⟨"com/example/shelfmerge/shelfmerge/HeapBudget$Charge", "charged", "()J"⟩ : MethodName)) (z := (⟨"com/example/shelfmerge/shelfmerge/HeapBudget$Charge", "charged", "()J"⟩ : MethodName)) hown (hw _ (List.mem_of_getElem? (i := 33) rfl)) (hw _ (List.mem_of_getElem? (i := 34) rfl)) (notFace_of_selects (args := #[]) (mvT hZ (hw _ (List.mem_of_getElem? (i := 36) rfl)))) (hw _ (List.mem_of_getElem? (i := 36) rfl)) (hw _ (List.mem_of_getElem? (i := 35) rfl)) (hw _ (List.mem_of_getElem? (i := 19) rfl)) (hw _ (List.mem_of_getElem? (i := 37) rfl)) (by decide) Eb108q (hM := (rm5 l Z a0 hw [] r104 hd108 pd108 T108.heap n0 z114 H108q P108q)) (by decide) (by decide) (by decide) (by decide) rfl (argsL := []) (rest := []) (Ls := #[.val (.long p0), .second, .val (.long p1), .second, .val (.long sz), .second, .val (.long xx), .second, .val (.ref b101), .val (.ref r104), .val (.int (1 : Int32)), .unset]) (by rw [hml]; rfl) (lenOf pd___J rfl) (W := 0) (Nat.le_of_eq rfl) (hb hby at_68)
  obtain ⟨rfl, N113q, e113⟩ := q113
  have N113 := Fr.app N108 N113q
  obtain ⟨v115, T115, L115, X115, q115, st115⟩ := own_callV X113 hx hZ (y := (⟨"com/example/shelfmerge/shelfmerge/HeapBudget", "charge", "()Lcom/example/shelfmerge/shelfmerge/HeapBudget$Charge;"⟩ : MethodName)) (z := (⟨"com/example/shelfmerge/shelfmerge/HeapBudget", "charge", "()Lcom/example/shelfmerge/shelfmerge/HeapBudget$Charge;"⟩ : MethodName)) hown (hw _ (List.mem_of_getElem? (i := 12) rfl)) (hw _ (List.mem_of_getElem? (i := 13) rfl)) (notFace_of_selects (args := #[]) (mvT hZ (hw _ (List.mem_of_getElem? (i := 15) rfl)))) (hw _ (List.mem_of_getElem? (i := 15) rfl)) (hw _ (List.mem_of_getElem? (i := 14) rfl)) (hw _ (List.mem_of_getElem? (i := 3) rfl)) (hw _ (List.mem_of_getElem? (i := 16) rfl)) (by decide) Ea108q (hM := (rm3 l Z a0 hw [] b101 T108.heap n0 z114)) (by decide) (by decide) (by decide) (by decide) e113 (argsL := []) (rest := []) (Ls := #[.val (.long p0), .second, .val (.long p1), .second, .val (.long sz), .second, .val (.long xx), .second, .val (.ref b101), .val (.ref r104), .val (.int (1 : Int32)), .unset]) (by rw [hml]; rfl) (lenOf pd___Lcom_example_shelfmerge_shelfmerge_HeapBudget_Charge_ rfl) (W := 0) (Nat.le_of_eq rfl) (hb hby at_86)
  obtain ⟨r115, szq_r115, rfl, N115q, K115q, E115q, F0115q, F1115q, F2115q, F3115q, F4115q, F5115q⟩ := q115
  have N115 := Fr.app N113 N115q
  have K115 : Keep h0 T115.heap [] := K108.trans K115q all0
  have g_r115 : n0 ≤ r115 := Nat.le_trans z114 szq_r115
  have sz_r115 : h0.size ≤ r115 := Nat.le_trans K108.1 szq_r115
  refine Gl.pre (S' := T115.setTop (mkF m 89 #[.val (.long p0), .second, .val (.long p1), .second, .val (.long sz), .second, .val (.long xx), .second, .val (.ref b101), .val (.ref r104), .val (.int (1 : Int32)), .unset] [(.ref r115)])) (fun t kt => ?_) ?_
  · show Steps p.tables e below (s₁.setTop (mkF m 19 #[.val (.long p0), .second, .val (.long p1), .second, .val (.long sz), .second, .val (.long xx), .second, .unset, .unset, .unset, .unset] [])) _
    refine st101 _ ?_
    show Steps p.tables e below (T101.setTop (mkF m 22 #[.val (.long p0), .second, .val (.long p1), .second, .val (.long sz), .second, .val (.long xx), .second, .unset, .unset, .unset, .unset] [(.ref b101)])) _
    refine XS.dup X101.here hx rfl (hb hby at_22) rfl rfl ?_
    show Steps p.tables e below (T101.setTop (mkF m 23 #[.val (.long p0), .second, .val (.long p1), .second, .val (.long sz), .second, .val (.long xx), .second, .unset, .unset, .unset, .unset] [(.ref b101), (.ref b101)])) _
    refine XS.lload X101.here hx rfl (hb hby at_23) rfl ?_
    show Steps p.tables e below (T101.setTop (mkF m 25 #[.val (.long p0), .second, .val (.long p1), .second, .val (.long sz), .second, .val (.long xx), .second, .unset, .unset, .unset, .unset] [(.long sz), (.ref b101), (.ref b101)])) _
    refine st102 _ ?_
    show Steps p.tables e below (T102.setTop (mkF m 28 #[.val (.long p0), .second, .val (.long p1), .second, .val (.long sz), .second, .val (.long xx), .second, .unset, .unset, .unset, .unset] [(.ref b101)])) _
    refine XS.astore X102.here hx rfl (hb hby at_28) rfl rfl (l' := #[.val (.long p0), .second, .val (.long p1), .second, .val (.long sz), .second, .val (.long xx), .second, .val (.ref b101), .unset, .unset, .unset]) rfl ?_
    show Steps p.tables e below (T102.setTop (mkF m 30 #[.val (.long p0), .second, .val (.long p1), .second, .val (.long sz), .second, .val (.long xx), .second, .val (.ref b101), .unset, .unset, .unset] [])) _
    refine XS.aload X102.here hx rfl (hb hby at_30) rfl rfl ?_
    show Steps p.tables e below (T102.setTop (mkF m 32 #[.val (.long p0), .second, .val (.long p1), .second, .val (.long sz), .second, .val (.long xx), .second, .val (.ref b101), .unset, .unset, .unset] [(.ref b101)])) _
    refine st104 _ ?_
    show Steps p.tables e below (T104.setTop (mkF m 35 #[.val (.long p0), .second, .val (.long p1), .second, .val (.long sz), .second, .val (.long xx), .second, .val (.ref b101), .unset, .unset, .unset] [(.ref r104)])) _
    refine XS.astore X104.here hx rfl (hb hby at_35) rfl rfl (l' := #[.val (.long p0), .second, .val (.long p1), .second, .val (.long sz), .second, .val (.long xx), .second, .val (.ref b101), .val (.ref r104), .unset, .unset]) rfl ?_
    show Steps p.tables e below (T104.setTop (mkF m 37 #[.val (.long p0), .second, .val (.long p1), .second, .val (.long sz), .second, .val (.long xx), .second, .val (.ref b101), .val (.ref r104), .unset, .unset] [])) _
    refine XS.aload X104.here hx rfl (hb hby at_37) rfl rfl ?_
    show Steps p.tables e below (T104.setTop (mkF m 39 #[.val (.long p0), .second, .val (.long p1), .second, .val (.long sz), .second, .val (.long xx), .second, .val (.ref b101), .val (.ref r104), .unset, .unset] [(.ref r104)])) _
    refine st106 _ ?_
    show Steps p.tables e below (T106.setTop (mkF m 42 #[.val (.long p0), .second, .val (.long p1), .second, .val (.long sz), .second, .val (.long xx), .second, .val (.ref b101), .val (.ref r104), .unset, .unset] [(.long ((0 : Int64) + (0 : Int64)))])) _
    refine XS.lconst X106.here hx rfl (hb hby at_42) ?_
    show Steps p.tables e below (T106.setTop (mkF m 43 #[.val (.long p0), .second, .val (.long p1), .second, .val (.long sz), .second, .val (.long xx), .second, .val (.ref b101), .val (.ref r104), .unset, .unset] [(.long (0 : Int64)), (.long ((0 : Int64) + (0 : Int64)))])) _
    refine XS.lcmp X106.here hx rfl (hb hby at_43) rfl ?_
    show Steps p.tables e below (T106.setTop (mkF m 44 #[.val (.long p0), .second, .val (.long p1), .second, .val (.long sz), .second, .val (.long xx), .second, .val (.ref b101), .val (.ref r104), .unset, .unset] [(.int (lcmpW ((0 : Int64) + (0 : Int64)) (0 : Int64)))])) _
    refine XS.ifNo X106.here hx rfl (hb hby at_44) rfl (own_nf (l0_ne _ _) (by decide)) ?_
    show Steps p.tables e below (T106.setTop (mkF m 47 #[.val (.long p0), .second, .val (.long p1), .second, .val (.long sz), .second, .val (.long xx), .second, .val (.ref b101), .val (.ref r104), .unset, .unset] [])) _
    refine XS.iconst X106.here hx rfl (hb hby at_47) ?_
    show Steps p.tables e below (T106.setTop (mkF m 48 #[.val (.long p0), .second, .val (.long p1), .second, .val (.long sz), .second, .val (.long xx), .second, .val (.ref b101), .val (.ref r104), .unset, .unset] [(.int (1 : Int32))])) _
    refine XS.goto X106.here hx rfl (pc0 := 48) (pc' := 52) rfl (hb hby at_48) (by decide) (by decide) ?_
    show Steps p.tables e below (T106.setTop (mkF m 52 #[.val (.long p0), .second, .val (.long p1), .second, .val (.long sz), .second, .val (.long xx), .second, .val (.ref b101), .val (.ref r104), .unset, .unset] [(.int (1 : Int32))])) _
    refine XS.istore X106.here hx rfl (hb hby at_52) rfl (l' := #[.val (.long p0), .second, .val (.long p1), .second, .val (.long sz), .second, .val (.long xx), .second, .val (.ref b101), .val (.ref r104), .val (.int (1 : Int32)), .unset]) rfl ?_
    show Steps p.tables e below (T106.setTop (mkF m 54 #[.val (.long p0), .second, .val (.long p1), .second, .val (.long sz), .second, .val (.long xx), .second, .val (.ref b101), .val (.ref r104), .val (.int (1 : Int32)), .unset] [])) _
    refine XS.aload X106.here hx rfl (hb hby at_54) rfl rfl ?_
    show Steps p.tables e below (T106.setTop (mkF m 56 #[.val (.long p0), .second, .val (.long p1), .second, .val (.long sz), .second, .val (.long xx), .second, .val (.ref b101), .val (.ref r104), .val (.int (1 : Int32)), .unset] [(.ref r104)])) _
    refine XS.lload X106.here hx rfl (hb hby at_56) rfl ?_
    show Steps p.tables e below (T106.setTop (mkF m 58 #[.val (.long p0), .second, .val (.long p1), .second, .val (.long sz), .second, .val (.long xx), .second, .val (.ref b101), .val (.ref r104), .val (.int (1 : Int32)), .unset] [(.long xx), (.ref r104)])) _
    refine st108 _ ?_
    show Steps p.tables e below (T108.setTop (mkF m 61 #[.val (.long p0), .second, .val (.long p1), .second, .val (.long sz), .second, .val (.long xx), .second, .val (.ref b101), .val (.ref r104), .val (.int (1 : Int32)), .unset] [])) _
    refine XS.iload X108.here hx rfl (hb hby at_61) rfl ?_
    show Steps p.tables e below (T108.setTop (mkF m 63 #[.val (.long p0), .second, .val (.long p1), .second, .val (.long sz), .second, .val (.long xx), .second, .val (.ref b101), .val (.ref r104), .val (.int (1 : Int32)), .unset] [(.int (1 : Int32))])) _
    refine XS.ifNo X108.here hx rfl (hb hby at_63) rfl (own_f (i0_eq _) (by decide)) ?_
    show Steps p.tables e below (T108.setTop (mkF m 66 #[.val (.long p0), .second, .val (.long p1), .second, .val (.long sz), .second, .val (.long xx), .second, .val (.ref b101), .val (.ref r104), .val (.int (1 : Int32)), .unset] [])) _
    refine XS.aload X108.here hx rfl (hb hby at_66) rfl rfl ?_
    show Steps p.tables e below (T108.setTop (mkF m 68 #[.val (.long p0), .second, .val (.long p1), .second, .val (.long sz), .second, .val (.long xx), .second, .val (.ref b101), .val (.ref r104), .val (.int (1 : Int32)), .unset] [(.ref r104)])) _
    refine st113 _ ?_
    show Steps p.tables e below (T113.setTop (mkF m 71 #[.val (.long p0), .second, .val (.long p1), .second, .val (.long sz), .second, .val (.long xx), .second, .val (.ref b101), .val (.ref r104), .val (.int (1 : Int32)), .unset] [(.long (hd108 + pd108))])) _
    refine XS.lload X113.here hx rfl (hb hby at_71) rfl ?_
    show Steps p.tables e below (T113.setTop (mkF m 73 #[.val (.long p0), .second, .val (.long p1), .second, .val (.long sz), .second, .val (.long xx), .second, .val (.ref b101), .val (.ref r104), .val (.int (1 : Int32)), .unset] [(.long xx), (.long (hd108 + pd108))])) _
    refine XS.lcmp X113.here hx rfl (hb hby at_73) rfl ?_
    show Steps p.tables e below (T113.setTop (mkF m 74 #[.val (.long p0), .second, .val (.long p1), .second, .val (.long sz), .second, .val (.long xx), .second, .val (.ref b101), .val (.ref r104), .val (.int (1 : Int32)), .unset] [(.int (lcmpW (hd108 + pd108) xx))])) _
    refine XS.ifNo X113.here hx rfl (hb hby at_74) rfl (own_nf (l0_ne _ _) hs108) ?_
    show Steps p.tables e below (T113.setTop (mkF m 77 #[.val (.long p0), .second, .val (.long p1), .second, .val (.long sz), .second, .val (.long xx), .second, .val (.ref b101), .val (.ref r104), .val (.int (1 : Int32)), .unset] [])) _
    refine XS.iconst X113.here hx rfl (hb hby at_77) ?_
    show Steps p.tables e below (T113.setTop (mkF m 78 #[.val (.long p0), .second, .val (.long p1), .second, .val (.long sz), .second, .val (.long xx), .second, .val (.ref b101), .val (.ref r104), .val (.int (1 : Int32)), .unset] [(.int (1 : Int32))])) _
    refine XS.goto X113.here hx rfl (pc0 := 78) (pc' := 82) rfl (hb hby at_78) (by decide) (by decide) ?_
    show Steps p.tables e below (T113.setTop (mkF m 82 #[.val (.long p0), .second, .val (.long p1), .second, .val (.long sz), .second, .val (.long xx), .second, .val (.ref b101), .val (.ref r104), .val (.int (1 : Int32)), .unset] [(.int (1 : Int32))])) _
    refine XS.istore X113.here hx rfl (hb hby at_82) rfl (l' := #[.val (.long p0), .second, .val (.long p1), .second, .val (.long sz), .second, .val (.long xx), .second, .val (.ref b101), .val (.ref r104), .val (.int (1 : Int32)), .unset]) rfl ?_
    show Steps p.tables e below (T113.setTop (mkF m 84 #[.val (.long p0), .second, .val (.long p1), .second, .val (.long sz), .second, .val (.long xx), .second, .val (.ref b101), .val (.ref r104), .val (.int (1 : Int32)), .unset] [])) _
    refine XS.aload X113.here hx rfl (hb hby at_84) rfl rfl ?_
    show Steps p.tables e below (T113.setTop (mkF m 86 #[.val (.long p0), .second, .val (.long p1), .second, .val (.long sz), .second, .val (.long xx), .second, .val (.ref b101), .val (.ref r104), .val (.int (1 : Int32)), .unset] [(.ref b101)])) _
    refine st115 _ ?_
    exact kt
  have z117 : n0 ≤ T115.heap.size := (Nat.le_trans z114 K115q.1)
  obtain ⟨v116, T116, L116, X116, q116, st116⟩ := own_callV X115 hx hZ (y := (⟨"com/example/shelfmerge/shelfmerge/HeapBudget$Charge", "charged", "()J"⟩ : MethodName)) (z := (⟨"com/example/shelfmerge/shelfmerge/HeapBudget$Charge", "charged", "()J"⟩ : MethodName)) hown (hw _ (List.mem_of_getElem? (i := 33) rfl)) (hw _ (List.mem_of_getElem? (i := 34) rfl)) (notFace_of_selects (args := #[]) (mvT hZ (hw _ (List.mem_of_getElem? (i := 36) rfl)))) (hw _ (List.mem_of_getElem? (i := 36) rfl)) (hw _ (List.mem_of_getElem? (i := 35) rfl)) (hw _ (List.mem_of_getElem? (i := 19) rfl)) (hw _ (List.mem_of_getElem? (i := 37) rfl)) (by decide) E115q (hM := (rm5 l Z a0 hw [] r115 (0 : Int64) (0 : Int64) T115.heap n0 z117 F4115q F5115q)) (by decide) (by decide) (by decide) (by decide) rfl (argsL := []) (rest := []) (Ls := #[.val (.long p0), .second, .val (.long p1), .second, .val (.long sz), .second, .val (.long xx), .second, .val (.ref b101), .val (.ref r104), .val (.int (1 : Int32)), .val (.ref r115)]) (by rw [hml]; rfl) (lenOf pd___J rfl) (W := 0) (Nat.le_of_eq rfl) (hb hby at_98)
  obtain ⟨rfl, N116q, e116⟩ := q116
  have N116 := Fr.app N115 N116q
  have f119 := (Ea108q.keep K115q)
  have f120 := (S108q.keep K115q nin0)
  have f121 := (T108q.keep K115q nin0)
  have f122 := (M108q.keep K115q nin0)
  obtain ⟨v118, T118, L118, X118, q118, st118⟩ := own_callV X116 hx hZ (y := (⟨"com/example/shelfmerge/shelfmerge/HeapBudget$Charge", "add", "(J)V"⟩ : MethodName)) (z := (⟨"com/example/shelfmerge/shelfmerge/HeapBudget$Charge", "add", "(J)V"⟩ : MethodName)) hown (hw _ (List.mem_of_getElem? (i := 42) rfl)) (hw _ (List.mem_of_getElem? (i := 43) rfl)) (notFace_of_selects (args := #[]) (mvT hZ (hw _ (List.mem_of_getElem? (i := 45) rfl)))) (hw _ (List.mem_of_getElem? (i := 45) rfl)) (hw _ (List.mem_of_getElem? (i := 44) rfl)) (hw _ (List.mem_of_getElem? (i := 19) rfl)) (hw _ (List.mem_of_getElem? (i := 46) rfl)) (by decide) E115q (hM := (rm6 l Z a0 hw [] r115 (sz - xx) b101 sz tk108 T115.heap n0 z117 g_b101 g_r115 (Nat.ne_of_lt (Nat.lt_of_lt_of_le (Nat.lt_of_lt_of_le (Nat.lt_of_lt_of_le (Nat.lt_of_lt_of_le A101.lt K102q.1) K104q.1) K108q.1) szq_r115)) f119 f120 f121 f122 E115q F0115q F4115q F5115q F3115q (own_b3 hx0 hx1) (own_b4 hx0 hx1 ht108))) (by decide) (by decide) (by decide) (by decide) e116 (argsL := [(.long (sz - xx))]) (rest := []) (Ls := #[.val (.long p0), .second, .val (.long p1), .second, .val (.long sz), .second, .val (.long xx), .second, .val (.ref b101), .val (.ref r104), .val (.int (1 : Int32)), .val (.ref r115)]) (by rw [hml]; rfl) (lenOf pd__J_V rfl) (W := 0) (Nat.le_of_eq rfl) (hb hby at_120)
  obtain ⟨hd118, pd118, tk118, hs118, ht118, rfl, N118q, K118q, Ea118q, S118q, T118q, M118q, Eb118q, A118q, H118q, P118q⟩ := q118
  have N118 := Fr.app N116 N118q
  have K118 : Keep h0 T118.heap [] := K115.trans K118q (allS (Or.inr sz_b101) (allS (Or.inr sz_r115) all0))
  have z124 : n0 ≤ T118.heap.size := (Nat.le_trans z117 K118q.1)
  obtain ⟨v123, T123, L123, X123, q123, st123⟩ := own_callV X118 hx hZ (y := (⟨"com/example/shelfmerge/shelfmerge/HeapBudget$Charge", "charged", "()J"⟩ : MethodName)) (z := (⟨"com/example/shelfmerge/shelfmerge/HeapBudget$Charge", "charged", "()J"⟩ : MethodName)) hown (hw _ (List.mem_of_getElem? (i := 33) rfl)) (hw _ (List.mem_of_getElem? (i := 34) rfl)) (notFace_of_selects (args := #[]) (mvT hZ (hw _ (List.mem_of_getElem? (i := 36) rfl)))) (hw _ (List.mem_of_getElem? (i := 36) rfl)) (hw _ (List.mem_of_getElem? (i := 35) rfl)) (hw _ (List.mem_of_getElem? (i := 19) rfl)) (hw _ (List.mem_of_getElem? (i := 37) rfl)) (by decide) Eb118q (hM := (rm5 l Z a0 hw [] r115 hd118 pd118 T118.heap n0 z124 H118q P118q)) (by decide) (by decide) (by decide) (by decide) rfl (argsL := []) (rest := []) (Ls := #[.val (.long p0), .second, .val (.long p1), .second, .val (.long sz), .second, .val (.long xx), .second, .val (.ref b101), .val (.ref r104), .val (.int (1 : Int32)), .val (.ref r115)]) (by rw [hml]; rfl) (lenOf pd___J rfl) (W := 0) (Nat.le_of_eq rfl) (hb hby at_130)
  obtain ⟨rfl, N123q, e123⟩ := q123
  have N123 := Fr.app N118 N123q
  refine Gl.pre (S' := T123.setTop (mkF m 156 #[.val (.long p0), .second, .val (.long p1), .second, .val (.long sz), .second, .val (.long xx), .second, .val (.ref b101), .val (.ref r104), .val (.int (1 : Int32)), .val (.ref r115)] [(.ref r104)])) (fun t kt => ?_) ?_
  · show Steps p.tables e below (T115.setTop (mkF m 89 #[.val (.long p0), .second, .val (.long p1), .second, .val (.long sz), .second, .val (.long xx), .second, .val (.ref b101), .val (.ref r104), .val (.int (1 : Int32)), .unset] [(.ref r115)])) _
    refine XS.astore X115.here hx rfl (hb hby at_89) rfl rfl (l' := #[.val (.long p0), .second, .val (.long p1), .second, .val (.long sz), .second, .val (.long xx), .second, .val (.ref b101), .val (.ref r104), .val (.int (1 : Int32)), .val (.ref r115)]) rfl ?_
    show Steps p.tables e below (T115.setTop (mkF m 91 #[.val (.long p0), .second, .val (.long p1), .second, .val (.long sz), .second, .val (.long xx), .second, .val (.ref b101), .val (.ref r104), .val (.int (1 : Int32)), .val (.ref r115)] [])) _
    refine XS.iload X115.here hx rfl (hb hby at_91) rfl ?_
    show Steps p.tables e below (T115.setTop (mkF m 93 #[.val (.long p0), .second, .val (.long p1), .second, .val (.long sz), .second, .val (.long xx), .second, .val (.ref b101), .val (.ref r104), .val (.int (1 : Int32)), .val (.ref r115)] [(.int (1 : Int32))])) _
    refine XS.ifNo X115.here hx rfl (hb hby at_93) rfl (own_f (i0_eq _) (by decide)) ?_
    show Steps p.tables e below (T115.setTop (mkF m 96 #[.val (.long p0), .second, .val (.long p1), .second, .val (.long sz), .second, .val (.long xx), .second, .val (.ref b101), .val (.ref r104), .val (.int (1 : Int32)), .val (.ref r115)] [])) _
    refine XS.aload X115.here hx rfl (hb hby at_96) rfl rfl ?_
    show Steps p.tables e below (T115.setTop (mkF m 98 #[.val (.long p0), .second, .val (.long p1), .second, .val (.long sz), .second, .val (.long xx), .second, .val (.ref b101), .val (.ref r104), .val (.int (1 : Int32)), .val (.ref r115)] [(.ref r115)])) _
    refine st116 _ ?_
    show Steps p.tables e below (T116.setTop (mkF m 101 #[.val (.long p0), .second, .val (.long p1), .second, .val (.long sz), .second, .val (.long xx), .second, .val (.ref b101), .val (.ref r104), .val (.int (1 : Int32)), .val (.ref r115)] [(.long ((0 : Int64) + (0 : Int64)))])) _
    refine XS.lconst X116.here hx rfl (hb hby at_101) ?_
    show Steps p.tables e below (T116.setTop (mkF m 102 #[.val (.long p0), .second, .val (.long p1), .second, .val (.long sz), .second, .val (.long xx), .second, .val (.ref b101), .val (.ref r104), .val (.int (1 : Int32)), .val (.ref r115)] [(.long (0 : Int64)), (.long ((0 : Int64) + (0 : Int64)))])) _
    refine XS.lcmp X116.here hx rfl (hb hby at_102) rfl ?_
    show Steps p.tables e below (T116.setTop (mkF m 103 #[.val (.long p0), .second, .val (.long p1), .second, .val (.long sz), .second, .val (.long xx), .second, .val (.ref b101), .val (.ref r104), .val (.int (1 : Int32)), .val (.ref r115)] [(.int (lcmpW ((0 : Int64) + (0 : Int64)) (0 : Int64)))])) _
    refine XS.ifNo X116.here hx rfl (hb hby at_103) rfl (own_nf (l0_ne _ _) (by decide)) ?_
    show Steps p.tables e below (T116.setTop (mkF m 106 #[.val (.long p0), .second, .val (.long p1), .second, .val (.long sz), .second, .val (.long xx), .second, .val (.ref b101), .val (.ref r104), .val (.int (1 : Int32)), .val (.ref r115)] [])) _
    refine XS.iconst X116.here hx rfl (hb hby at_106) ?_
    show Steps p.tables e below (T116.setTop (mkF m 107 #[.val (.long p0), .second, .val (.long p1), .second, .val (.long sz), .second, .val (.long xx), .second, .val (.ref b101), .val (.ref r104), .val (.int (1 : Int32)), .val (.ref r115)] [(.int (1 : Int32))])) _
    refine XS.goto X116.here hx rfl (pc0 := 107) (pc' := 111) rfl (hb hby at_107) (by decide) (by decide) ?_
    show Steps p.tables e below (T116.setTop (mkF m 111 #[.val (.long p0), .second, .val (.long p1), .second, .val (.long sz), .second, .val (.long xx), .second, .val (.ref b101), .val (.ref r104), .val (.int (1 : Int32)), .val (.ref r115)] [(.int (1 : Int32))])) _
    refine XS.istore X116.here hx rfl (hb hby at_111) rfl (l' := #[.val (.long p0), .second, .val (.long p1), .second, .val (.long sz), .second, .val (.long xx), .second, .val (.ref b101), .val (.ref r104), .val (.int (1 : Int32)), .val (.ref r115)]) rfl ?_
    show Steps p.tables e below (T116.setTop (mkF m 113 #[.val (.long p0), .second, .val (.long p1), .second, .val (.long sz), .second, .val (.long xx), .second, .val (.ref b101), .val (.ref r104), .val (.int (1 : Int32)), .val (.ref r115)] [])) _
    refine XS.aload X116.here hx rfl (hb hby at_113) rfl rfl ?_
    show Steps p.tables e below (T116.setTop (mkF m 115 #[.val (.long p0), .second, .val (.long p1), .second, .val (.long sz), .second, .val (.long xx), .second, .val (.ref b101), .val (.ref r104), .val (.int (1 : Int32)), .val (.ref r115)] [(.ref r115)])) _
    refine XS.lload X116.here hx rfl (hb hby at_115) rfl ?_
    show Steps p.tables e below (T116.setTop (mkF m 117 #[.val (.long p0), .second, .val (.long p1), .second, .val (.long sz), .second, .val (.long xx), .second, .val (.ref b101), .val (.ref r104), .val (.int (1 : Int32)), .val (.ref r115)] [(.long sz), (.ref r115)])) _
    refine XS.lload X116.here hx rfl (hb hby at_117) rfl ?_
    show Steps p.tables e below (T116.setTop (mkF m 119 #[.val (.long p0), .second, .val (.long p1), .second, .val (.long sz), .second, .val (.long xx), .second, .val (.ref b101), .val (.ref r104), .val (.int (1 : Int32)), .val (.ref r115)] [(.long xx), (.long sz), (.ref r115)])) _
    refine XS.lsub X116.here hx rfl (hb hby at_119) rfl ?_
    show Steps p.tables e below (T116.setTop (mkF m 120 #[.val (.long p0), .second, .val (.long p1), .second, .val (.long sz), .second, .val (.long xx), .second, .val (.ref b101), .val (.ref r104), .val (.int (1 : Int32)), .val (.ref r115)] [(.long (sz - xx)), (.ref r115)])) _
    refine st118 _ ?_
    show Steps p.tables e below (T118.setTop (mkF m 123 #[.val (.long p0), .second, .val (.long p1), .second, .val (.long sz), .second, .val (.long xx), .second, .val (.ref b101), .val (.ref r104), .val (.int (1 : Int32)), .val (.ref r115)] [])) _
    refine XS.iload X118.here hx rfl (hb hby at_123) rfl ?_
    show Steps p.tables e below (T118.setTop (mkF m 125 #[.val (.long p0), .second, .val (.long p1), .second, .val (.long sz), .second, .val (.long xx), .second, .val (.ref b101), .val (.ref r104), .val (.int (1 : Int32)), .val (.ref r115)] [(.int (1 : Int32))])) _
    refine XS.ifNo X118.here hx rfl (hb hby at_125) rfl (own_f (i0_eq _) (by decide)) ?_
    show Steps p.tables e below (T118.setTop (mkF m 128 #[.val (.long p0), .second, .val (.long p1), .second, .val (.long sz), .second, .val (.long xx), .second, .val (.ref b101), .val (.ref r104), .val (.int (1 : Int32)), .val (.ref r115)] [])) _
    refine XS.aload X118.here hx rfl (hb hby at_128) rfl rfl ?_
    show Steps p.tables e below (T118.setTop (mkF m 130 #[.val (.long p0), .second, .val (.long p1), .second, .val (.long sz), .second, .val (.long xx), .second, .val (.ref b101), .val (.ref r104), .val (.int (1 : Int32)), .val (.ref r115)] [(.ref r115)])) _
    refine st123 _ ?_
    show Steps p.tables e below (T123.setTop (mkF m 133 #[.val (.long p0), .second, .val (.long p1), .second, .val (.long sz), .second, .val (.long xx), .second, .val (.ref b101), .val (.ref r104), .val (.int (1 : Int32)), .val (.ref r115)] [(.long (hd118 + pd118))])) _
    refine XS.lload X123.here hx rfl (hb hby at_133) rfl ?_
    show Steps p.tables e below (T123.setTop (mkF m 135 #[.val (.long p0), .second, .val (.long p1), .second, .val (.long sz), .second, .val (.long xx), .second, .val (.ref b101), .val (.ref r104), .val (.int (1 : Int32)), .val (.ref r115)] [(.long sz), (.long (hd118 + pd118))])) _
    refine XS.lload X123.here hx rfl (hb hby at_135) rfl ?_
    show Steps p.tables e below (T123.setTop (mkF m 137 #[.val (.long p0), .second, .val (.long p1), .second, .val (.long sz), .second, .val (.long xx), .second, .val (.ref b101), .val (.ref r104), .val (.int (1 : Int32)), .val (.ref r115)] [(.long xx), (.long sz), (.long (hd118 + pd118))])) _
    refine XS.lsub X123.here hx rfl (hb hby at_137) rfl ?_
    show Steps p.tables e below (T123.setTop (mkF m 138 #[.val (.long p0), .second, .val (.long p1), .second, .val (.long sz), .second, .val (.long xx), .second, .val (.ref b101), .val (.ref r104), .val (.int (1 : Int32)), .val (.ref r115)] [(.long (sz - xx)), (.long (hd118 + pd118))])) _
    refine XS.lcmp X123.here hx rfl (hb hby at_138) rfl ?_
    show Steps p.tables e below (T123.setTop (mkF m 139 #[.val (.long p0), .second, .val (.long p1), .second, .val (.long sz), .second, .val (.long xx), .second, .val (.ref b101), .val (.ref r104), .val (.int (1 : Int32)), .val (.ref r115)] [(.int (lcmpW (hd118 + pd118) (sz - xx)))])) _
    refine XS.ifNo X123.here hx rfl (hb hby at_139) rfl (own_nf (l0_ne _ _) hs118) ?_
    show Steps p.tables e below (T123.setTop (mkF m 142 #[.val (.long p0), .second, .val (.long p1), .second, .val (.long sz), .second, .val (.long xx), .second, .val (.ref b101), .val (.ref r104), .val (.int (1 : Int32)), .val (.ref r115)] [])) _
    refine XS.iconst X123.here hx rfl (hb hby at_142) ?_
    show Steps p.tables e below (T123.setTop (mkF m 143 #[.val (.long p0), .second, .val (.long p1), .second, .val (.long sz), .second, .val (.long xx), .second, .val (.ref b101), .val (.ref r104), .val (.int (1 : Int32)), .val (.ref r115)] [(.int (1 : Int32))])) _
    refine XS.goto X123.here hx rfl (pc0 := 143) (pc' := 147) rfl (hb hby at_143) (by decide) (by decide) ?_
    show Steps p.tables e below (T123.setTop (mkF m 147 #[.val (.long p0), .second, .val (.long p1), .second, .val (.long sz), .second, .val (.long xx), .second, .val (.ref b101), .val (.ref r104), .val (.int (1 : Int32)), .val (.ref r115)] [(.int (1 : Int32))])) _
    refine XS.istore X123.here hx rfl (hb hby at_147) rfl (l' := #[.val (.long p0), .second, .val (.long p1), .second, .val (.long sz), .second, .val (.long xx), .second, .val (.ref b101), .val (.ref r104), .val (.int (1 : Int32)), .val (.ref r115)]) rfl ?_
    show Steps p.tables e below (T123.setTop (mkF m 149 #[.val (.long p0), .second, .val (.long p1), .second, .val (.long sz), .second, .val (.long xx), .second, .val (.ref b101), .val (.ref r104), .val (.int (1 : Int32)), .val (.ref r115)] [])) _
    refine XS.iload X123.here hx rfl (hb hby at_149) rfl ?_
    show Steps p.tables e below (T123.setTop (mkF m 151 #[.val (.long p0), .second, .val (.long p1), .second, .val (.long sz), .second, .val (.long xx), .second, .val (.ref b101), .val (.ref r104), .val (.int (1 : Int32)), .val (.ref r115)] [(.int (1 : Int32))])) _
    refine XS.ifNo X123.here hx rfl (hb hby at_151) rfl (own_f (i0_eq _) (by decide)) ?_
    show Steps p.tables e below (T123.setTop (mkF m 154 #[.val (.long p0), .second, .val (.long p1), .second, .val (.long sz), .second, .val (.long xx), .second, .val (.ref b101), .val (.ref r104), .val (.int (1 : Int32)), .val (.ref r115)] [])) _
    refine XS.aload X123.here hx rfl (hb hby at_154) rfl rfl ?_
    exact kt
  have f126 := ((H108q.keep K115q nin0).keep K118q (ninS (Ne.symm (Nat.ne_of_lt (Nat.lt_of_lt_of_le (Nat.lt_of_lt_of_le A101.lt K102q.1) szq_r104))) (ninS (Nat.ne_of_lt (Nat.lt_of_lt_of_le (Nat.lt_of_lt_of_le E104q.lt K108q.1) szq_r115)) nin0)))
  have f127 := ((P108q.keep K115q nin0).keep K118q (ninS (Ne.symm (Nat.ne_of_lt (Nat.lt_of_lt_of_le (Nat.lt_of_lt_of_le A101.lt K102q.1) szq_r104))) (ninS (Nat.ne_of_lt (Nat.lt_of_lt_of_le (Nat.lt_of_lt_of_le E104q.lt K108q.1) szq_r115)) nin0)))
  have f128 := ((Eb108q.keep K115q).keep K118q)
  obtain ⟨v125, T125, L125, X125, q125, st125⟩ := own_callV X123 hx hZ (y := (⟨"com/example/shelfmerge/shelfmerge/HeapBudget$Charge", "charged", "()J"⟩ : MethodName)) (z := (⟨"com/example/shelfmerge/shelfmerge/HeapBudget$Charge", "charged", "()J"⟩ : MethodName)) hown (hw _ (List.mem_of_getElem? (i := 33) rfl)) (hw _ (List.mem_of_getElem? (i := 34) rfl)) (notFace_of_selects (args := #[]) (mvT hZ (hw _ (List.mem_of_getElem? (i := 36) rfl)))) (hw _ (List.mem_of_getElem? (i := 36) rfl)) (hw _ (List.mem_of_getElem? (i := 35) rfl)) (hw _ (List.mem_of_getElem? (i := 19) rfl)) (hw _ (List.mem_of_getElem? (i := 37) rfl)) (by decide) f128 (hM := (rm5 l Z a0 hw [] r104 hd108 pd108 T118.heap n0 z124 f126 f127)) (by decide) (by decide) (by decide) (by decide) e123 (argsL := []) (rest := []) (Ls := #[.val (.long p0), .second, .val (.long p1), .second, .val (.long sz), .second, .val (.long xx), .second, .val (.ref b101), .val (.ref r104), .val (.int (1 : Int32)), .val (.ref r115)]) (by rw [hml]; rfl) (lenOf pd___J rfl) (W := 0) (Nat.le_of_eq rfl) (hb hby at_156)
  obtain ⟨rfl, N125q, e125⟩ := q125
  have N125 := Fr.app N123 N125q
  refine Gl.fin X125 (v := some (.int (1 : Int32))) (fun h => by rw [Bd.returns] at h; cases h) Bd.notSynchronized ?_ e125 (by decide) (by decide) (fun fs hr => ?_)
  · exact ⟨rfl, N125⟩
  · show Steps p.tables e below (T123.setTop (mkF m 156 #[.val (.long p0), .second, .val (.long p1), .second, .val (.long sz), .second, .val (.long xx), .second, .val (.ref b101), .val (.ref r104), .val (.int (1 : Int32)), .val (.ref r115)] [(.ref r104)])) _
    refine st125 _ ?_
    show Steps p.tables e below (T125.setTop (mkF m 159 #[.val (.long p0), .second, .val (.long p1), .second, .val (.long sz), .second, .val (.long xx), .second, .val (.ref b101), .val (.ref r104), .val (.int (1 : Int32)), .val (.ref r115)] [(.long (hd108 + pd108))])) _
    refine XS.lload X125.here hx rfl (hb hby at_159) rfl ?_
    show Steps p.tables e below (T125.setTop (mkF m 161 #[.val (.long p0), .second, .val (.long p1), .second, .val (.long sz), .second, .val (.long xx), .second, .val (.ref b101), .val (.ref r104), .val (.int (1 : Int32)), .val (.ref r115)] [(.long xx), (.long (hd108 + pd108))])) _
    refine XS.lcmp X125.here hx rfl (hb hby at_161) rfl ?_
    show Steps p.tables e below (T125.setTop (mkF m 162 #[.val (.long p0), .second, .val (.long p1), .second, .val (.long sz), .second, .val (.long xx), .second, .val (.ref b101), .val (.ref r104), .val (.int (1 : Int32)), .val (.ref r115)] [(.int (lcmpW (hd108 + pd108) xx))])) _
    refine XS.ifNo X125.here hx rfl (hb hby at_162) rfl (own_nf (l0_ne _ _) hs108) ?_
    show Steps p.tables e below (T125.setTop (mkF m 165 #[.val (.long p0), .second, .val (.long p1), .second, .val (.long sz), .second, .val (.long xx), .second, .val (.ref b101), .val (.ref r104), .val (.int (1 : Int32)), .val (.ref r115)] [])) _
    refine XS.iconst X125.here hx rfl (hb hby at_165) ?_
    show Steps p.tables e below (T125.setTop (mkF m 166 #[.val (.long p0), .second, .val (.long p1), .second, .val (.long sz), .second, .val (.long xx), .second, .val (.ref b101), .val (.ref r104), .val (.int (1 : Int32)), .val (.ref r115)] [(.int (1 : Int32))])) _
    refine XS.goto X125.here hx rfl (pc0 := 166) (pc' := 170) rfl (hb hby at_166) (by decide) (by decide) ?_
    show Steps p.tables e below (T125.setTop (mkF m 170 #[.val (.long p0), .second, .val (.long p1), .second, .val (.long sz), .second, .val (.long xx), .second, .val (.ref b101), .val (.ref r104), .val (.int (1 : Int32)), .val (.ref r115)] [(.int (1 : Int32))])) _
    refine XS.istore X125.here hx rfl (hb hby at_170) rfl (l' := #[.val (.long p0), .second, .val (.long p1), .second, .val (.long sz), .second, .val (.long xx), .second, .val (.ref b101), .val (.ref r104), .val (.int (1 : Int32)), .val (.ref r115)]) rfl ?_
    show Steps p.tables e below (T125.setTop (mkF m 172 #[.val (.long p0), .second, .val (.long p1), .second, .val (.long sz), .second, .val (.long xx), .second, .val (.ref b101), .val (.ref r104), .val (.int (1 : Int32)), .val (.ref r115)] [])) _
    refine XS.iload X125.here hx rfl (hb hby at_172) rfl ?_
    show Steps p.tables e below (T125.setTop (mkF m 174 #[.val (.long p0), .second, .val (.long p1), .second, .val (.long sz), .second, .val (.long xx), .second, .val (.ref b101), .val (.ref r104), .val (.int (1 : Int32)), .val (.ref r115)] [(.int (1 : Int32))])) _
    exact retN X125 hx (t := .boolean) Bd.returns (by simp) (hb hby at_174) hr
set_option maxRecDepth 65536 in
set_option maxHeartbeats 40000000 in
theorem comes_1 {Post : Tables → Env → Array Value → State → Outcome → State → Prop} (hpost : ∀ tb e args s v u, (limb_1_1.after args s (.returned v) u = true ∧ limb_1_2.after args s (.returned v) u = true ∧ True) → FrameEnd s (.returned v) u (Jvm.fieldLocs frame_1_writes args s ++ Jvm.arrayLocs frame_1_arrays args s ++ Jvm.staticLocs frame_1_statics s) 16 128 → Post tb e args s (.returned v) u) :
    ArmFor flags0 classFile x code maxLocals ret World_1 tables_1 room_1 Calls_1 rest_1 Pre_1 Post := by
  intro l hfl _ _ p e ha hc hk s m args below hf hA hF happ hP
  obtain ⟨hcalls, hrest, hpre⟩ := hP
  obtain ⟨-, -, -, hnamed, -, -, -, hat⟩ := (Spec.applies_iff hf).mp happ
  obtain ⟨hg, hn⟩ := and_e (Cond.before_iff.mp (show (Jvm.Cond.and given_1 narrow_1).before args s = true from hpre))
  obtain ⟨hq0, hr0⟩ := and_e hg
  obtain ⟨hq1, hr1⟩ := and_e hr0
  obtain ⟨w0, w1, rfl⟩ : ∃ w0 w1 : Value, args = #[w0, w1] := by
    have hs : args.size = 2 := by simpa [Cond.value, given_1] using hq0
    obtain ⟨L⟩ := args
    match L, hs with
    | [w0, w1], _ => exact ⟨w0, w1, rfl⟩
  have hw := fun d (hd : d ∈ tables_1) => atoms_spec (ws := Jvm.Cond.code x code maxLocals ret :: tables_1) hat d (List.mem_cons_of_mem _ hd)
  have hfit : Fit s := fun {y c} hc i hi => by
    obtain ⟨ha, rfl⟩ := Array.getElem?_eq_some_iff.mp hc
    have q := List.all_eq_true.mp ((Array.all_eq_true_iff_forall_mem.mp hF) _ (Array.getElem_mem ha)) i (List.mem_range.mpr hi)
    simpa [Array.getElem?_eq_getElem hi] using q
  obtain ⟨i0, ei0⟩ := isL_v hq1
  obtain rfl : w0 = (.long i0) := Option.some.inj ei0
  obtain ⟨i1, ei1⟩ := isL_v hr1
  obtain rfl : w1 = (.long i1) := Option.some.inj ei1
  obtain ⟨n, o, h1, h2, h3, _, L, rfl, ⟨rfl, N⟩, hq⟩ := rm0 l s _ hw tables_1 i0 i1 s.heap s.heap.size (Nat.le_refl _) p e ha hc hk s m _ below hf ((Spec.applies_iff_loose hf).mp happ).1 ⟨rfl, State.Warmed39.refl s, rfl⟩ trivial
  refine ⟨n, _, h1, h2, h3, hpost _ _ _ _ _ _ ⟨Cond.after_iff.mpr rfl, Cond.after_iff.mpr (eq_i res_at (Term.int_eval (1)) rfl), trivial⟩ ⟨hq.1, hq.2.1, (hq.2.2.sift fun y hy => Or.inr (N y hy)).mono (by decide) (by decide)⟩⟩
theorem main_1_1 : Claimed_1_1 := comes_1 fun _ _ _ _ _ _ h hF => ⟨h.1, hF⟩
theorem main_1_2 : Claimed_1_2 := comes_1 fun _ _ _ _ _ _ h hF => ⟨h.2.1, hF⟩
end Jvm.Pilot.@@N@@
namespace Jvm.Pilot.@@N@@
open Jvm Jvm.ClassFile Sem Op Lib Jvm.Free Jvm.Stand Jvm.Pilot.@@N@@.Jvm.D
/-! MADE BY PROGRAM (witnessworld.py) out of the Statement's table words and the real class files: 11 classes; the members and pool entries that the words name. The judged class is class 1, her method 1. -/
namespace start1
open Jvm.ClassFile
def u (s : String) : CpInfo := .utf8 (stringToUtf16 s)
/-- a pool by its gaps: so many unusable entries, then the entry; so many at the end -/
def gap : Nat → List CpInfo → List CpInfo
  | 0, r => r
  | n + 1, r => .unusable :: gap n r
def poolList (es : List (Nat × CpInfo)) (last : Nat) : List CpInfo := es.foldr (fun e r => gap e.1 (e.2 :: r)) (gap last [])
def pool (es : List (Nat × CpInfo)) (last : Nat) : Array CpInfo := ⟨poolList es last⟩
def fileOf (pool : Array CpInfo) (this : Nat) (attrs : Array Attribute := #[]) (ms : Array MethodInfo := #[]) (fl : Nat := 33) (sup : Nat := 0) (ifs : Array Nat := #[]) (fds : Array FieldInfo := #[]) : ClassFile where
  minorVersion := 0
  majorVersion := 65
  constantPool := pool
  accessFlags := fl
  thisClass := this
  superClass := sup
  interfaces := ifs
  fields := fds
  methods := ms
  attributes := attrs
def plain (name : String) (sup : Option ClassId) : Class where
  name := name
  kind := .ordinary
  loader := none
  accessFlags := 33
  super := sup
  interfaces := #[]
  cf := none
  fields := #[]
  methods := #[]
  instanceTypes := #[]
  staticTypes := #[]
  resolved := #[]
  callSites := []
  init := .initialized
  statics := none
  mirror := none

def pool0 : Array CpInfo := pool [(5, u "<init>"), (0, u "()V"), (1, .class_ 10), (1, u "java/lang/Object")] 113

def k0c0 : Code := { maxStack := 0, maxLocals := 1, code := object_method_1_code, exceptionTable := #[], attributes := #[] }
def k0m0 : Method := { name := "<init>", desc := "()V", sig := { parameters := [], returnType := none }, accessFlags := 1, code := some k0c0 }
/-- java/lang/Object -/
def k0 : Class := { plain "java/lang/Object" none with
  accessFlags := 33
  interfaces := #[]
  cf := some (fileOf pool0 8 #[] #[{ accessFlags := 1, nameIndex := 5, descriptorIndex := 6, attributes := #[] }] 33 0 #[] #[])
  fields := #[]
  methods := #[k0m0]
  instanceTypes := #[]
  staticTypes := #[]
  resolved := Array.replicate 124 none
  statics := none }

def pool1 : Array CpInfo := pool [(2, .class_ 4), (1, u "java/lang/Object"), (0, u "<init>"), (0, u "()V"), (2, .long 9223372036854775807), (1, .class_ 12), (0, u "com/example/shelfmerge/shelfmerge/HeapBudget"), (0, .methodref 11 14), (0, .nameAndType 5 15), (0, u "(J)V"), (0, .methodref 11 17), (0, .nameAndType 18 19), (0, u "charge"), (0, u "()Lcom/example/shelfmerge/shelfmerge/HeapBudget$Charge;"), (0, .methodref 21 22), (0, .class_ 23), (0, .nameAndType 24 25), (0, u "com/example/shelfmerge/shelfmerge/HeapBudget$Charge"), (0, u "charged"), (0, u "()J"), (0, .methodref 21 27), (0, .nameAndType 28 15), (0, u "add"), (0, .class_ 30), (0, u "com/example/shelfmerge/shelfmerge/HeapBudgetChargePinLaw"), (2, u "law"), (0, u "(JJ)Z")] 8

def k1m0 : Method := { name := "<init>", desc := "()V", sig := { parameters := [], returnType := none }, accessFlags := 1, code := none }
def k1c1 : Code := { maxStack := 6, maxLocals := 12, code := code, exceptionTable := #[], attributes := #[] }
def k1m1 : Method := { name := "law", desc := "(JJ)Z", sig := { parameters := [.long, .long], returnType := some .boolean }, accessFlags := 9, code := some k1c1 }
/-- com/example/shelfmerge/shelfmerge/HeapBudgetChargePinLaw -/
def k1 : Class := { plain "com/example/shelfmerge/shelfmerge/HeapBudgetChargePinLaw" (some 0) with
  accessFlags := 49
  interfaces := #[]
  cf := some (fileOf pool1 29 #[] #[{ accessFlags := 1, nameIndex := 5, descriptorIndex := 6, attributes := #[] }, { accessFlags := 9, nameIndex := 33, descriptorIndex := 34, attributes := #[] }] 49 2 #[] #[])
  fields := #[]
  methods := #[k1m0, k1m1]
  instanceTypes := #[]
  staticTypes := #[]
  resolved := Array.replicate 43 none
  statics := none }

def pool2 : Array CpInfo := pool [(1, .methodref 2 3), (0, .class_ 4), (0, .nameAndType 5 6), (0, u "java/lang/Object"), (0, u "<init>"), (0, u "()V"), (0, .fieldref 8 9), (0, .class_ 10), (0, .nameAndType 11 12), (0, u "com/example/shelfmerge/shelfmerge/HeapBudget"), (0, u "size"), (0, u "J"), (14, u "(J)V"), (0, .class_ 29), (0, u "com/example/shelfmerge/shelfmerge/HeapBudget$Charge"), (2, .long 9223372036854775807), (1, .methodref 28 35), (0, .nameAndType 5 36), (0, u "(Lcom/example/shelfmerge/shelfmerge/HeapBudget;Lcom/example/shelfmerge/shelfmerge/HeapBudget$RoomMaker;JLcom/example/shelfmerge/shelfmerge/HeapBudget$Threshold;)V"), (0, .fieldref 8 38), (0, .nameAndType 39 12), (0, u "taken"), (24, u "SETTLE_BYTES"), (7, u "charge"), (0, u "()Lcom/example/shelfmerge/shelfmerge/HeapBudget$Charge;"), (3, u "take"), (0, u "(J)Z"), (7, .class_ 87), (0, u "com/example/shelfmerge/shelfmerge/HeapBudget$ChargeRefusedException"), (0, .class_ 89), (0, u "com/example/shelfmerge/shelfmerge/HeapBudget$Threshold"), (0, .class_ 91), (0, u "com/example/shelfmerge/shelfmerge/HeapBudget$RoomMaker")] 5

def k2c0 : Code := { maxStack := 3, maxLocals := 3, code := prog_17_method_1_code, exceptionTable := #[], attributes := #[] }
def k2m0 : Method := { name := "<init>", desc := "(J)V", sig := { parameters := [.long], returnType := none }, accessFlags := 0, code := some k2c0 }
def k2c1 : Code := { maxStack := 7, maxLocals := 1, code := prog_17_method_4_code, exceptionTable := #[], attributes := #[] }
def k2m1 : Method := { name := "charge", desc := "()Lcom/example/shelfmerge/shelfmerge/HeapBudget$Charge;", sig := { parameters := [], returnType := some (.object "com/example/shelfmerge/shelfmerge/HeapBudget$Charge") }, accessFlags := 0, code := some k2c1 }
def k2c2 : Code := { maxStack := 5, maxLocals := 3, code := ⟨#[0x2a, 0xb4, 0x00, 0x07, 0x2a, 0xb4, 0x00, 0x25, 0x65, 0x1f, 0x94, 0x9c, 0x00, 0x05, 0x03, 0xac, 0x2a, 0x59, 0xb4, 0x00, 0x25, 0x1f, 0x61, 0xb5, 0x00, 0x25, 0x04, 0xac]⟩, exceptionTable := #[], attributes := #[] }
def k2m2 : Method := { name := "take", desc := "(J)Z", sig := { parameters := [.long], returnType := some .boolean }, accessFlags := 34, code := some k2c2 }
/-- com/example/shelfmerge/shelfmerge/HeapBudget -/
def k2 : Class := { plain "com/example/shelfmerge/shelfmerge/HeapBudget" (some 0) with
  accessFlags := 48
  interfaces := #[]
  cf := some (fileOf pool2 8 #[.nestMembers #[86, 88, 90, 28]] #[{ accessFlags := 0, nameIndex := 5, descriptorIndex := 27, attributes := #[] }, { accessFlags := 0, nameIndex := 72, descriptorIndex := 73, attributes := #[] }, { accessFlags := 34, nameIndex := 77, descriptorIndex := 78, attributes := #[] }] 48 2 #[] #[{ accessFlags := 26, nameIndex := 64, descriptorIndex := 12, attributes := #[] }, { accessFlags := 18, nameIndex := 11, descriptorIndex := 12, attributes := #[] }, { accessFlags := 2, nameIndex := 39, descriptorIndex := 12, attributes := #[] }])
  fields := #[{ name := "SETTLE_BYTES", type := .long, accessFlags := 26, slot := 0, constantValue := 0 }, { name := "size", type := .long, accessFlags := 18, slot := 0, constantValue := 0 }, { name := "taken", type := .long, accessFlags := 2, slot := 1, constantValue := 0 }]
  methods := #[k2m0, k2m1, k2m2]
  instanceTypes := #[.long, .long]
  staticTypes := #[.long]
  resolved := ((Array.replicate 97 none).set! 34 (some (.method ⟨4, 0⟩))).set! 28 (some (.cls 4))
  statics := none }

def pool3 : Array CpInfo := pool [(1, .class_ 2), (0, u "java/lang/AutoCloseable"), (0, .class_ 4), (0, u "java/lang/Object")] 7

/-- java/lang/AutoCloseable -/
def k3 : Class := { plain "java/lang/AutoCloseable" (some 0) with
  accessFlags := 1537
  interfaces := #[]
  cf := some (fileOf pool3 1 #[] #[] 1537 3 #[] #[])
  fields := #[]
  methods := #[]
  instanceTypes := #[]
  staticTypes := #[]
  resolved := Array.replicate 12 none
  statics := none }

def pool4 : Array CpInfo := pool [(1, .class_ 2), (0, u "com/example/shelfmerge/shelfmerge/HeapBudget"), (0, .fieldref 4 5), (0, .class_ 6), (0, .nameAndType 7 8), (0, u "com/example/shelfmerge/shelfmerge/HeapBudget$Charge"), (0, u "this$0"), (0, u "Lcom/example/shelfmerge/shelfmerge/HeapBudget;"), (0, .methodref 10 11), (0, .class_ 12), (0, .nameAndType 13 14), (0, u "java/lang/Object"), (0, u "<init>"), (0, u "()V"), (0, .fieldref 4 16), (0, .nameAndType 17 18), (0, u "makeRoom"), (0, u "Lcom/example/shelfmerge/shelfmerge/HeapBudget$RoomMaker;"), (0, .fieldref 4 20), (0, .nameAndType 21 22), (0, u "largeBytes"), (0, u "J"), (0, .fieldref 4 24), (0, .nameAndType 25 26), (0, u "beforeLarge"), (0, u "Lcom/example/shelfmerge/shelfmerge/HeapBudget$Threshold;"), (0, .methodref 4 28), (0, .nameAndType 29 30), (0, u "charged"), (0, u "()J"), (5, .fieldref 4 37), (0, .nameAndType 38 22), (0, u "pending"), (0, .long 65536), (1, .methodref 4 42), (0, .nameAndType 43 14), (0, u "settle"), (0, .fieldref 4 45), (0, .nameAndType 46 22), (0, u "held"), (0, .fieldref 1 48), (0, .nameAndType 49 22), (0, u "size"), (5, .methodref 1 56), (0, .nameAndType 57 58), (0, u "take"), (0, u "(J)Z"), (7, u "(J)V"), (15, u "(Lcom/example/shelfmerge/shelfmerge/HeapBudget;Lcom/example/shelfmerge/shelfmerge/HeapBudget$RoomMaker;JLcom/example/shelfmerge/shelfmerge/HeapBudget$Threshold;)V"), (0, .class_ 84), (0, u "java/lang/AutoCloseable"), (3, u "add")] 16

def k4c0 : Code := { maxStack := 3, maxLocals := 6, code := prog_18_method_1_code, exceptionTable := #[], attributes := #[] }
def k4m0 : Method := { name := "<init>", desc := "(Lcom/example/shelfmerge/shelfmerge/HeapBudget;Lcom/example/shelfmerge/shelfmerge/HeapBudget$RoomMaker;JLcom/example/shelfmerge/shelfmerge/HeapBudget$Threshold;)V", sig := { parameters := [(.object "com/example/shelfmerge/shelfmerge/HeapBudget"), (.object "com/example/shelfmerge/shelfmerge/HeapBudget$RoomMaker"), .long, (.object "com/example/shelfmerge/shelfmerge/HeapBudget$Threshold")], returnType := none }, accessFlags := 2, code := some k4c0 }
def k4c1 : Code := { maxStack := 5, maxLocals := 4, code := prog_18_method_2_code, exceptionTable := #[], attributes := #[] }
def k4m1 : Method := { name := "add", desc := "(J)V", sig := { parameters := [.long], returnType := none }, accessFlags := 0, code := some k4c1 }
def k4c2 : Code := { maxStack := 5, maxLocals := 1, code := prog_18_method_3_code, exceptionTable := #[], attributes := #[] }
def k4m2 : Method := { name := "settle", desc := "()V", sig := { parameters := [], returnType := none }, accessFlags := 0, code := some k4c2 }
def k4c3 : Code := { maxStack := 4, maxLocals := 1, code := prog_18_method_4_code, exceptionTable := #[], attributes := #[] }
def k4m3 : Method := { name := "charged", desc := "()J", sig := { parameters := [], returnType := some .long }, accessFlags := 0, code := some k4c3 }
/-- com/example/shelfmerge/shelfmerge/HeapBudget$Charge -/
def k4 : Class := { plain "com/example/shelfmerge/shelfmerge/HeapBudget$Charge" (some 0) with
  accessFlags := 48
  interfaces := #[3]
  cf := some (fileOf pool4 4 #[.nestHost 1] #[{ accessFlags := 2, nameIndex := 13, descriptorIndex := 82, attributes := #[] }, { accessFlags := 0, nameIndex := 88, descriptorIndex := 66, attributes := #[] }, { accessFlags := 0, nameIndex := 43, descriptorIndex := 14, attributes := #[] }, { accessFlags := 0, nameIndex := 29, descriptorIndex := 30, attributes := #[] }] 48 10 #[83] #[{ accessFlags := 2, nameIndex := 46, descriptorIndex := 22, attributes := #[] }, { accessFlags := 2, nameIndex := 38, descriptorIndex := 22, attributes := #[] }, { accessFlags := 18, nameIndex := 17, descriptorIndex := 18, attributes := #[] }, { accessFlags := 18, nameIndex := 21, descriptorIndex := 22, attributes := #[] }, { accessFlags := 2, nameIndex := 25, descriptorIndex := 26, attributes := #[] }, { accessFlags := 4112, nameIndex := 7, descriptorIndex := 8, attributes := #[] }])
  fields := #[{ name := "held", type := .long, accessFlags := 2, slot := 0, constantValue := 0 }, { name := "pending", type := .long, accessFlags := 2, slot := 1, constantValue := 0 }, { name := "makeRoom", type := (.object "com/example/shelfmerge/shelfmerge/HeapBudget$RoomMaker"), accessFlags := 18, slot := 2, constantValue := 0 }, { name := "largeBytes", type := .long, accessFlags := 18, slot := 3, constantValue := 0 }, { name := "beforeLarge", type := (.object "com/example/shelfmerge/shelfmerge/HeapBudget$Threshold"), accessFlags := 2, slot := 4, constantValue := 0 }, { name := "this$0", type := (.object "com/example/shelfmerge/shelfmerge/HeapBudget"), accessFlags := 4112, slot := 5, constantValue := 0 }]
  methods := #[k4m0, k4m1, k4m2, k4m3]
  instanceTypes := #[.long, .long, (.object "com/example/shelfmerge/shelfmerge/HeapBudget$RoomMaker"), .long, (.object "com/example/shelfmerge/shelfmerge/HeapBudget$Threshold"), (.object "com/example/shelfmerge/shelfmerge/HeapBudget")]
  staticTypes := #[]
  resolved := Array.replicate 105 none
  statics := none }

def pool5 : Array CpInfo := pool [(1, u "java/lang/Cloneable"), (0, .class_ 1), (0, u "java/lang/Object"), (0, .class_ 3)] 3

/-- java/lang/Cloneable -/
def k5 : Class := { plain "java/lang/Cloneable" (some 0) with
  accessFlags := 1537
  interfaces := #[]
  cf := some (fileOf pool5 2 #[] #[] 1537 4 #[] #[])
  fields := #[]
  methods := #[]
  instanceTypes := #[]
  staticTypes := #[]
  resolved := Array.replicate 8 none
  statics := none }

def pool6 : Array CpInfo := pool [(1, u "java/io/Serializable"), (0, .class_ 1), (0, u "java/lang/Object"), (0, .class_ 3)] 3

/-- java/io/Serializable -/
def k6 : Class := { plain "java/io/Serializable" (some 0) with
  accessFlags := 1537
  interfaces := #[]
  cf := some (fileOf pool6 2 #[] #[] 1537 4 #[] #[])
  fields := #[]
  methods := #[]
  instanceTypes := #[]
  staticTypes := #[]
  resolved := Array.replicate 8 none
  statics := none }

/-- the primitive byte -/
def k7 : Class := { plain "byte" none with kind := .primitive 'B', accessFlags := 0x411 }
/-- [B -/
def k8 : Class := { plain "[B" (some 0) with kind := .array 7 .byte, interfaces := #[5, 6], accessFlags := 1041 }

/-- the primitive int -/
def k9 : Class := { plain "int" none with kind := .primitive 'I', accessFlags := 0x411 }
/-- [I -/
def k10 : Class := { plain "[I" (some 0) with kind := .array 9 .int, interfaces := #[5, 6], accessFlags := 1041 }

def heap : Heap := #[]
def classes : Array Class := #[k0, k1, k2, k3, k4, k5, k6, k7, k8, k9, k10]
def interned : List (Array UInt16 × Addr) := []
def slotsUsed : Nat := 0
def theMethod : MethodId := ⟨1, 1⟩
def args0 : Array Value := #[.long 100000, .long 70000]
def aboutOver (below : List Frame) : State where
  vm := { classes := classes, interned := interned.toArray }
  heap := heap
  slotsUsed := slotsUsed
  threads := #[{ frames := .invoking theMethod args0 :: below }]
def below0 : List Frame := [.native { method := ⟨0, 0⟩, args := #[] }]
def about1 : State := aboutOver below0
def p0 : Program := .bare "" "" ""
def e0 : Env := launch0.env 0 0 0
theorem w_frames : about1.frames = Frame.invoking theMethod args0 :: below0 := rfl
set_option maxRecDepth 65536 in
theorem w_args : argsFit about1.vm theMethod args0 = true := by decide +kernel
set_option maxRecDepth 65536 in
theorem w_heap : heapFits about1 = true := by decide +kernel
set_option maxRecDepth 65536 in
theorem w_runnable : about1.curStatus? = some .runnable := by decide +kernel
set_option maxRecDepth 65536 in
theorem w_alone : about1.alone = true := by decide +kernel
set_option maxRecDepth 65536 in
theorem w_named : about1.methodNamed? x = some theMethod := by decide +kernel
set_option maxRecDepth 65536 in
theorem w_hears : about1.hears theMethod below0 = true := by decide +kernel
set_option maxRecDepth 65536 in
theorem w_ripe : about1.ripe theMethod args0 below0 = true := by decide +kernel
theorem w_running : about1.status = .running := rfl
set_option maxRecDepth 65536 in
theorem w_room : about1.hasRoom e0.platform room_1 = true :=
  launch0.hasRoom_least _ room_1 (by decide +kernel) (by decide +kernel) (by decide +kernel) (by decide +kernel) (by decide +kernel) (by decide +kernel)
theorem allAtoms_all (ts : List Jvm.Cond) (a : Array Jvm.Value) (st : Jvm.State) : (allAtoms ts).before a st = ts.all (fun c => c.before a st) := by
  induction ts with
  | nil => rfl
  | cons c t ih =>
    show (Jvm.Cond.and c (allAtoms t)).before a st = _
    rw [Jvm.Cond.before_and, ih, List.all_cons]
def words1 : List Jvm.Cond := Jvm.Cond.code x code maxLocals ret :: tables_1
/-- a 'code' word, met by the world's own term for the bytes: nothing is compared byte by byte -/
theorem code_word {y : MethodName} {bytes : ByteArray} {mx : Nat} {rt : Option FieldType} {a : Array Value} {s : State} {m : MethodId} {meth : Method} {c : Code} (h1 : s.methodNamed? y = some m) (h2 : s.vm.method? m = some meth) (h3 : meth.code = some c) (h4 : c.code = bytes)
    (h5 : (c.maxLocals == mx && c.exceptionTable.isEmpty && decide (c.maxStack ≤ mostOperands) && decide (meth.sig.returnType = rt) && !meth.locks && decide (parseMethodDescriptor y.desc = some meth.sig)) = true) : (Jvm.Cond.code y bytes mx rt).before a s = true := by
  simp only [Bool.and_eq_true, beq_iff_eq, Bool.not_eq_true', decide_eq_true_eq] at h5
  obtain ⟨⟨⟨⟨⟨g1, g2⟩, g3⟩, g4⟩, g5⟩, g6⟩ := h5
  simp [Cond.before, Cond.holds, Cond.value, h1, h2, h3, h4, g1, g2, g3, g4, g5, g6]
def isCode : Jvm.Cond → Bool
  | .code _ _ _ _ => true
  | _ => false
theorem all_split {L : List Jvm.Cond} {P : Jvm.Cond → Bool} (h1 : L.all (fun c => isCode c || P c) = true) (h2 : ∀ c ∈ L.filter isCode, P c = true) : L.all P = true := by
  refine List.all_eq_true.mpr fun c hc => ?_
  have h := List.all_eq_true.mp h1 c hc
  rcases Bool.eq_false_or_eq_true (isCode c) with hi | hi
  · exact h2 c (List.mem_filter.mpr ⟨hc, hi⟩)
  · simpa [hi] using h
set_option maxRecDepth 65536 in
theorem w_c0 : (Jvm.Cond.code x code maxLocals ret).before args0 about1 = true := code_word (m := ⟨1, 1⟩) (meth := k1m1) (c := k1c1) (by decide +kernel) rfl rfl rfl (by decide +kernel)
set_option maxRecDepth 65536 in
theorem w_c1 : (Jvm.Cond.code ({ cls := "com/example/shelfmerge/shelfmerge/HeapBudget", name := "<init>", desc := "(J)V" } : Jvm.MethodName) prog_17_method_1_code (3 : Nat) (Option.none : Option Jvm.ClassFile.FieldType)).before args0 about1 = true := code_word (m := ⟨2, 0⟩) (meth := k2m0) (c := k2c0) (by decide +kernel) rfl rfl rfl (by decide +kernel)
set_option maxRecDepth 65536 in
theorem w_c2 : (Jvm.Cond.code ({ cls := "java/lang/Object", name := "<init>", desc := "()V" } : Jvm.MethodName) object_method_1_code (1 : Nat) (Option.none : Option Jvm.ClassFile.FieldType)).before args0 about1 = true := code_word (m := ⟨0, 0⟩) (meth := k0m0) (c := k0c0) (by decide +kernel) rfl rfl rfl (by decide +kernel)
set_option maxRecDepth 65536 in
theorem w_c3 : (Jvm.Cond.code ({ cls := "com/example/shelfmerge/shelfmerge/HeapBudget", name := "charge", desc := "()Lcom/example/shelfmerge/shelfmerge/HeapBudget$Charge;" } : Jvm.MethodName) prog_17_method_4_code (1 : Nat) (Option.some (Jvm.ClassFile.FieldType.object "com/example/shelfmerge/shelfmerge/HeapBudget$Charge"))).before args0 about1 = true := code_word (m := ⟨2, 1⟩) (meth := k2m1) (c := k2c1) (by decide +kernel) rfl rfl rfl (by decide +kernel)
set_option maxRecDepth 65536 in
theorem w_c4 : (Jvm.Cond.code ({ cls := "com/example/shelfmerge/shelfmerge/HeapBudget$Charge", name := "<init>", desc := "(Lcom/example/shelfmerge/shelfmerge/HeapBudget;Lcom/example/shelfmerge/shelfmerge/HeapBudget$RoomMaker;JLcom/example/shelfmerge/shelfmerge/HeapBudget$Threshold;)V" } : Jvm.MethodName) prog_18_method_1_code (6 : Nat) (Option.none : Option Jvm.ClassFile.FieldType)).before args0 about1 = true := code_word (m := ⟨4, 0⟩) (meth := k4m0) (c := k4c0) (by decide +kernel) rfl rfl rfl (by decide +kernel)
set_option maxRecDepth 65536 in
theorem w_c5 : (Jvm.Cond.code ({ cls := "com/example/shelfmerge/shelfmerge/HeapBudget$Charge", name := "charged", desc := "()J" } : Jvm.MethodName) prog_18_method_4_code (1 : Nat) (Option.some Jvm.ClassFile.FieldType.long)).before args0 about1 = true := code_word (m := ⟨4, 3⟩) (meth := k4m3) (c := k4c3) (by decide +kernel) rfl rfl rfl (by decide +kernel)
set_option maxRecDepth 65536 in
theorem w_c6 : (Jvm.Cond.code ({ cls := "com/example/shelfmerge/shelfmerge/HeapBudget$Charge", name := "add", desc := "(J)V" } : Jvm.MethodName) prog_18_method_2_code (4 : Nat) (Option.none : Option Jvm.ClassFile.FieldType)).before args0 about1 = true := code_word (m := ⟨4, 1⟩) (meth := k4m1) (c := k4c1) (by decide +kernel) rfl rfl rfl (by decide +kernel)
set_option maxRecDepth 65536 in
theorem w_c7 : (Jvm.Cond.code ({ cls := "com/example/shelfmerge/shelfmerge/HeapBudget$Charge", name := "settle", desc := "()V" } : Jvm.MethodName) prog_18_method_3_code (1 : Nat) (Option.none : Option Jvm.ClassFile.FieldType)).before args0 about1 = true := code_word (m := ⟨4, 2⟩) (meth := k4m2) (c := k4c2) (by decide +kernel) rfl rfl rfl (by decide +kernel)
def codes1 : List Jvm.Cond := [Jvm.Cond.code x code maxLocals ret, Jvm.Cond.code ({ cls := "com/example/shelfmerge/shelfmerge/HeapBudget", name := "<init>", desc := "(J)V" } : Jvm.MethodName) prog_17_method_1_code (3 : Nat) (Option.none : Option Jvm.ClassFile.FieldType), Jvm.Cond.code ({ cls := "java/lang/Object", name := "<init>", desc := "()V" } : Jvm.MethodName) object_method_1_code (1 : Nat) (Option.none : Option Jvm.ClassFile.FieldType), Jvm.Cond.code ({ cls := "com/example/shelfmerge/shelfmerge/HeapBudget", name := "charge", desc := "()Lcom/example/shelfmerge/shelfmerge/HeapBudget$Charge;" } : Jvm.MethodName) prog_17_method_4_code (1 : Nat) (Option.some (Jvm.ClassFile.FieldType.object "com/example/shelfmerge/shelfmerge/HeapBudget$Charge")), Jvm.Cond.code ({ cls := "com/example/shelfmerge/shelfmerge/HeapBudget$Charge", name := "<init>", desc := "(Lcom/example/shelfmerge/shelfmerge/HeapBudget;Lcom/example/shelfmerge/shelfmerge/HeapBudget$RoomMaker;JLcom/example/shelfmerge/shelfmerge/HeapBudget$Threshold;)V" } : Jvm.MethodName) prog_18_method_1_code (6 : Nat) (Option.none : Option Jvm.ClassFile.FieldType), Jvm.Cond.code ({ cls := "com/example/shelfmerge/shelfmerge/HeapBudget$Charge", name := "charged", desc := "()J" } : Jvm.MethodName) prog_18_method_4_code (1 : Nat) (Option.some Jvm.ClassFile.FieldType.long), Jvm.Cond.code ({ cls := "com/example/shelfmerge/shelfmerge/HeapBudget$Charge", name := "add", desc := "(J)V" } : Jvm.MethodName) prog_18_method_2_code (4 : Nat) (Option.none : Option Jvm.ClassFile.FieldType), Jvm.Cond.code ({ cls := "com/example/shelfmerge/shelfmerge/HeapBudget$Charge", name := "settle", desc := "()V" } : Jvm.MethodName) prog_18_method_3_code (1 : Nat) (Option.none : Option Jvm.ClassFile.FieldType)]
set_option maxRecDepth 65536 in
theorem codes_eq : words1.filter isCode = codes1 := rfl
theorem w_codes : ∀ c ∈ words1.filter isCode, c.before args0 about1 = true := by
  rw [codes_eq]
  intro c hc
  simp only [codes1, List.mem_cons, List.not_mem_nil, or_false] at hc
  rcases hc with rfl | rfl | rfl | rfl | rfl | rfl | rfl | rfl
  · exact w_c0
  · exact w_c1
  · exact w_c2
  · exact w_c3
  · exact w_c4
  · exact w_c5
  · exact w_c6
  · exact w_c7
set_option maxRecDepth 65536 in
theorem w_t1 : (words1.take 24).all (fun c => isCode c || c.before args0 about1) = true := by decide +kernel
set_option maxRecDepth 65536 in
theorem w_t2 : ((words1.drop 24).take 24).all (fun c => isCode c || c.before args0 about1) = true := by decide +kernel
set_option maxRecDepth 65536 in
theorem w_t3 : ((words1.drop 24).drop 24).all (fun c => isCode c || c.before args0 about1) = true := by decide +kernel
theorem w_tables : (allAtoms (Jvm.Cond.code x code maxLocals ret :: tables_1)).before args0 about1 = true := by
  rw [allAtoms_all]
  show words1.all (fun c => c.before args0 about1) = true
  refine all_split ?_ w_codes
  rw [← List.take_append_drop 24 words1, List.all_append, w_t1, ← List.take_append_drop 24 (words1.drop 24), List.all_append, w_t2, w_t3]
  rfl
set_option maxRecDepth 65536 in
theorem w_case : (Jvm.Cond.and given_1 narrow_1).before args0 about1 = true := by decide +kernel
theorem w_applies : (headSpec (Jvm.Cond.code x code maxLocals ret :: tables_1) room_1).applies x e0.platform about1 = true :=
  (Spec.applies_iff w_frames).mpr ⟨w_running, w_runnable, w_alone, w_named, w_hears, w_ripe, w_room, w_tables⟩
theorem atStart : AtStart classFile x code maxLocals ret World_1 tables_1 room_1 Calls_1 rest_1 Pre_1 launch0 p0 e0 about1 theMethod args0 below0 :=
  ⟨lists_1, trivial, launch0.admits_env _ _ _, launch0.least_env, fairChoices_fair.cas, fairChoices_fair.clock, w_frames, w_args, w_heap, w_applies, trivial, trivial, w_case⟩
end start1
theorem witness_1 : WitnessClaimed_1 := ⟨start1.p0, start1.e0, start1.about1, start1.theMethod, start1.args0, start1.below0, start1.atStart⟩
end Jvm.Pilot.@@N@@
