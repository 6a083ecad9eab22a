import JvmDerived
import JvmDerived.Pilot.@@N@@Statement
import JvmDerived.Pilot.@@N@@Code
set_option linter.unusedVariables false
set_option linter.unusedSimpArgs false
namespace Jvm.Pilot.@@N@@
open Jvm Jvm.ClassFile Sem Op Lib Jvm.Free Jvm.Stand Jvm.LawKit Jvm.RoadKit Bundle Jvm.Pilot.@@N@@.Jvm.D
section OwnKit
variable {p : Program} {l : Launch} {e : Env} {R : Room} {s : State} {m : MethodId} {args : Array Value} {below : List Frame} {meth : Method} {c : Code} {T : State} {locs : List Loc} {cells slots : Nat} {Z : State} {a0 : Array Value} {h h0 : Heap}
/-- the run comes from S to an end of which Q speaks -/
def Gl (p : Program) (e : Env) (below : List Frame) (s : State) (Q : Option Value → Heap → List Loc → Prop) (cc kk : Nat) (S : State) : Prop :=
  ∃ t o, Steps p.tables e below S t ∧ t.status = .running ∧ Ended t below o ∧ ∃ v L, o = .returned v ∧ Q v t.heap L ∧ FrameEnd s o t L cc kk
theorem Gl.pre {Q : Option Value → Heap → List Loc → Prop} {cc kk : Nat} {S S' : State} (st : ∀ t, Steps p.tables e below S' t → Steps p.tables e below S t) (k : Gl p e below s Q cc kk S') : Gl p e below s Q cc kk S := by
  obtain ⟨t, o, h1, h2⟩ := k
  exact ⟨t, o, st _ h1, h2⟩
theorem Gl.ret {Q : Option Value → Heap → List Loc → Prop} {cc kk : Nat} {S : State} (X : Stand p l e R s m args below meth c T locs cells slots) {v : Option Value} (hv : meth.sig.returnType = none → v = none) (hlocks : meth.locks = false) (hQ : Q v T.heap locs) (hc : cells ≤ cc) (hk : slots ≤ kk)
    (st : ∀ fs, (∀ (f : JFrame) (acts : List Action), f.method = m → f.locked = none → f.entered = [] → (doReturn e (T.setTop f) acts v).1 = T.setFrames fs) → Steps p.tables e below S (T.setFrames fs)) : Gl p e below s Q cc kk S := by
  obtain ⟨fs, hr, hrun, hended, hW, hsame⟩ := X.leave (v := v) hv hlocks
  exact ⟨_, _, st fs hr, hrun, hended, _, _, rfl, hQ, ⟨_, rfl⟩, hW, hsame.mono hc hk⟩
theorem Gl.fin {Q : Option Value → Heap → List Loc → Prop} {cc kk : Nat} {S : State} (X : Stand p l e R s m args below meth c T locs cells slots) {v : Option Value} (hv : meth.sig.returnType = none → v = none) (hlocks : meth.locks = false) (hQ : Q v h locs) (eT : T.heap = h) (hc : cells ≤ cc) (hk : slots ≤ kk)
    (st : ∀ fs, (∀ (f : JFrame) (acts : List Action), f.method = m → f.locked = none → f.entered = [] → (doReturn e (T.setTop f) acts v).1 = T.setFrames fs) → Steps p.tables e below S (T.setFrames fs)) : Gl p e below s Q cc kk S :=
  Gl.ret X hv hlocks (by rw [eT]; exact hQ) hc hk st
abbrev OMet (l : Launch) (Z : State) (y : MethodName) (bytes : ByteArray) (maxL : Nat) (ret : Option FieldType) (ws : List Jvm.Cond) (rm : Room) (as' : Array Value) (h0 : Heap) (Q : Option Value → Heap → List Loc → Prop) : Prop :=
  MetFree l y (head1 (Jvm.Cond.code y bytes maxL ret :: ws) rm) (fun a U => a = as' ∧ Z.Warmed39 U.vm ∧ U.heap = h0) (fun _ _ _ _ _ => True) (fun _ U o U' => ∃ v L, o = .returned v ∧ Q v U'.heap L ∧ FrameEnd U o U' L rm.cells rm.slots)
theorem own_body {y : MethodName} {bytes : ByteArray} {maxL : Nat} {ret : Option FieldType} {ws : List Jvm.Cond} {rm : Room} {as' : Array Value} {Q : Option Value → Heap → List Loc → Prop} (hx : plainFor y = true)
    (H : ∀ p e s m below meth c s₁, BodyLoose p l y (head1 (Jvm.Cond.code y bytes maxL ret :: ws) rm) bytes maxL ret e s m as' below meth c s₁ → c.maxLocals = maxL → Z.Warmed39 s.vm → s₁.heap = h0 → Gl p e below s Q rm.cells rm.slots (s₁.setTop (entryFrame m as' maxL))) :
    OMet l Z y bytes maxL ret ws rm as' h0 Q := by
  refine MetFree.of_bodySF hx hisR ?_
  intro p e s m args below meth c s₁ Bd hml0 hP hK
  obtain ⟨rfl, hZ, hh⟩ := hP
  exact H p e s m below meth c s₁ Bd hml0 hZ (by rw [← hh, Bd.state]; rfl)
/-- an int is returned -/
theorem own_retI (X : Stand p l e R s m args below meth c T locs cells slots) (hx : p.tables.exec = Jvm.exec) {pc : Nat} {Ls : Array Slot} {z : Int32} {rest : List Value} (hret : meth.sig.returnType = some .int) (hd : decode c.code pc = .ok (.ireturn, 1)) {fs : List Frame}
    (hl : ∀ (f : JFrame) (acts : List Action), f.method = m → f.locked = none → f.entered = [] → (doReturn e (T.setTop f) acts (some (.int z))).1 = T.setFrames fs) : Steps p.tables e below (T.setTop (mkF m pc Ls (.int z :: rest))) (T.setFrames fs) :=
  retOut X hx hret rfl (Or.inl ⟨rfl, Or.inl rfl, z, rfl⟩) hd hl
theorem own_retJ (X : Stand p l e R s m args below meth c T locs cells slots) (hx : p.tables.exec = Jvm.exec) {pc : Nat} {Ls : Array Slot} {z : Int64} {rest : List Value} (hret : meth.sig.returnType = some .long) (hd : decode c.code pc = .ok (.lreturn, 1)) {fs : List Frame}
    (hl : ∀ (f : JFrame) (acts : List Action), f.method = m → f.locked = none → f.entered = [] → (doReturn e (T.setTop f) acts (some (.long z))).1 = T.setFrames fs) : Steps p.tables e below (T.setTop (mkF m pc Ls (.long z :: rest))) (T.setFrames fs) :=
  retOut X hx hret rfl (Or.inr (Or.inl ⟨rfl, rfl, z, rfl⟩)) hd hl
theorem own_retD (X : Stand p l e R s m args below meth c T locs cells slots) (hx : p.tables.exec = Jvm.exec) {pc : Nat} {Ls : Array Slot} {z : UInt64} {rest : List Value} (hret : meth.sig.returnType = some .double) (hd : decode c.code pc = .ok (.dreturn, 1)) {fs : List Frame}
    (hl : ∀ (f : JFrame) (acts : List Action), f.method = m → f.locked = none → f.entered = [] → (doReturn e (T.setTop f) acts (some (.double z))).1 = T.setFrames fs) : Steps p.tables e below (T.setTop (mkF m pc Ls (.double z :: rest))) (T.setFrames fs) :=
  retOut X hx hret rfl (Or.inr (Or.inr (Or.inl ⟨rfl, rfl, z, rfl⟩))) hd hl
theorem own_retR (X : Stand p l e R s m args below meth c T locs cells slots) (hx : p.tables.exec = Jvm.exec) {pc : Nat} {Ls : Array Slot} {w : Value} {t : FieldType} {rest : List Value} (hret : meth.sig.returnType = some t) (ht : t.isReference = true) (hn : narrow t w = w) (hw : w.isRef = true) (hd : decode c.code pc = .ok (.areturn, 1)) {fs : List Frame}
    (hl : ∀ (f : JFrame) (acts : List Action), f.method = m → f.locked = none → f.entered = [] → (doReturn e (T.setTop f) acts (some w)).1 = T.setFrames fs) : Steps p.tables e below (T.setTop (mkF m pc Ls (w :: rest))) (T.setFrames fs) :=
  retOut X hx hret hn (Or.inr (Or.inr (Or.inr (Or.inr ⟨rfl, ht, hw⟩)))) hd hl
/-- a static method by its contract -/
theorem own_callS (X : Stand p l e R s m args below meth c T locs cells slots) (hx : p.tables.exec = Jvm.exec) (hZ : Z.Warmed39 s.vm) {own : String} {index : Nat} {y : MethodName} {bytes : ByteArray} {maxL : Nat} {ret : Option FieldType} {rm : Room} {Q : Option Value → Heap → List Loc → Prop}
    (hown : s.vm.findClass own = some m.cls) (w1 : (Jvm.Cond.methodLink own index y).before a0 Z = true) (w2 : (Jvm.Cond.static y).before a0 Z = true) (w3 : (Jvm.Cond.initialized y.cls).before a0 Z = true) (w4 : (Jvm.Cond.code y bytes maxL ret).before a0 Z = true)
    (hy : y.cls ≠ "java/lang/invoke/MethodHandle" ∧ y.cls ≠ "java/lang/invoke/VarHandle") {argsL rest : List Value} (hM : OMet l Z y bytes maxL ret [] rm argsL.toArray h Q) {W : Nat} (hf : rm.frames + 1 ≤ R.frames) (hl : W + (maxL + 11) + rm.locals ≤ R.locals) (hc : cells + rm.cells ≤ R.cells) (hs : slots + rm.slots ≤ R.slots)
    (eT : T.heap = h) {pc : Nat} {Ls : Array Slot} (hsize : Ls.size = c.maxLocals) (hlen : ∀ sig, parseMethodDescriptor y.desc = some sig → argsL.length = sig.parameters.length) (hW : (rest.map fun v => v.category).sum ≤ W) (hd : decode c.code pc = .ok (.invokestatic index, 3)) :
    ∃ (v : Option Value) (T' : State) (L : List Loc), Stand p l e R s m args below meth c T' (locs ++ L) (cells + rm.cells) (slots + rm.slots) ∧ Q v T'.heap L ∧
      ∀ t, Steps p.tables e below (T'.setTop (mkF m (pc + 3) Ls (v.toList ++ rest))) t → Steps p.tables e below (T.setTop (mkF m pc Ls (argsL.reverse ++ rest))) t := by
  obtain ⟨v, _, ⟨T', L', k', n'⟩, -, X', ⟨L, hQ, hl', hy', hz'⟩, st⟩ := Jvm.LawKit.callS X hx (y := y) hown (mvT hZ w1) (mvT hZ w2) (mvT hZ w3) (mvT hZ w4) hy (backOf (W := W) hM hZ w4 w3 hf hl) (g := mkF m pc Ls (argsL.reverse ++ rest)) rfl hsize (argsL := argsL) (rest := rest) hlen rfl (by show 2 * 0 + _ ≤ _; omega) hd (fun _ _ => ⟨rfl, eT, hc, hs⟩)
  dsimp only [Pt.U, Pt.locs, Pt.cells, Pt.slots] at X' hl' hy' hz' st hQ
  subst hl' hy' hz'
  exact ⟨v, T', L, X', hQ, st⟩
/-- a constructor by its contract -/
theorem own_callI (X : Stand p l e R s m args below meth c T locs cells slots) (hx : p.tables.exec = Jvm.exec) (hZ : Z.Warmed39 s.vm) {own : String} {index : Nat} {y : MethodName} {bytes : ByteArray} {maxL : Nat} {rm : Room} {Q : Option Value → Heap → List Loc → Prop} (hy1 : y.name = "<init>")
    (hown : s.vm.findClass own = some m.cls) (w1 : (Jvm.Cond.methodLink own index y).before a0 Z = true) (w2 : (Jvm.Cond.instanceMethod y).before a0 Z = true) (w3 : (Jvm.Cond.initialized y.cls).before a0 Z = true) (w4 : (Jvm.Cond.code y bytes maxL none).before a0 Z = true)
    (hy : y.cls ≠ "java/lang/invoke/MethodHandle" ∧ y.cls ≠ "java/lang/invoke/VarHandle") {a : Addr} {argsL rest : List Value} (hM : OMet l Z y bytes maxL none [] rm (.ref a :: argsL).toArray h Q) {W : Nat} (hf : rm.frames + 1 ≤ R.frames) (hl : W + (maxL + 11) + rm.locals ≤ R.locals) (hc : cells + rm.cells ≤ R.cells) (hs : slots + rm.slots ≤ R.slots)
    (eT : T.heap = h) {pc : Nat} {Ls : Array Slot} (hsize : Ls.size = c.maxLocals) (hlen : ∀ sig, parseMethodDescriptor y.desc = some sig → argsL.length = sig.parameters.length) (hW : (rest.map fun v => v.category).sum ≤ W) (hd : decode c.code pc = .ok (.invokespecial index, 3)) :
    ∃ (v : Option Value) (T' : State) (L : List Loc), Stand p l e R s m args below meth c T' (locs ++ L) (cells + rm.cells) (slots + rm.slots) ∧ Q v T'.heap L ∧
      ∀ t, Steps p.tables e below (T'.setTop (mkF m (pc + 3) Ls (v.toList ++ rest))) t → Steps p.tables e below (T.setTop (mkF m pc Ls (argsL.reverse ++ .ref a :: rest))) t := by
  obtain ⟨v, _, ⟨T', L', k', n'⟩, -, X', ⟨L, hQ, hl', hy', hz'⟩, st⟩ := X.specialBack hx (y := y) hy1 hown (mvT hZ w1) (mvT hZ w2) (mvT hZ w4) hy (backOf (W := W) hM hZ w4 w3 hf hl) (g := mkF m pc Ls (argsL.reverse ++ .ref a :: rest)) rfl hsize (Steps.refl _) (a := a) (argsL := argsL) (rest := rest) hlen rfl (by show 2 * 0 + _ ≤ _; omega) hd (fun _ _ => ⟨rfl, eT, hc, hs⟩)
  dsimp only [Pt.U, Pt.locs, Pt.cells, Pt.slots] at X' hl' hy' hz' st hQ
  subst hl' hy' hz'
  exact ⟨v, T', L, X', hQ, fun t k => st.trans k⟩
/-- an instance method by its contract, the receiver's class known -/
theorem own_callV (X : Stand p l e R s m args below meth c T locs cells slots) (hx : p.tables.exec = Jvm.exec) (hZ : Z.Warmed39 s.vm) {own C : String} {index : Nat} {y z : MethodName} {bytes : ByteArray} {maxL : Nat} {ret : Option FieldType} {rm : Room} {Q : Option Value → Heap → List Loc → Prop}
    (hown : s.vm.findClass own = some m.cls) (w1 : (Jvm.Cond.methodLink own index y).before a0 Z = true) (wd : (Jvm.Cond.declares y).before a0 Z = true) (hnf : NotFace s y) (ws : (Jvm.Cond.selects C y z).before a0 Z = true) (w2 : (Jvm.Cond.instanceMethod z).before a0 Z = true) (w3 : (Jvm.Cond.initialized z.cls).before a0 Z = true) (w4 : (Jvm.Cond.code z bytes maxL ret).before a0 Z = true)
    (hy : y.cls ≠ "java/lang/invoke/MethodHandle" ∧ y.cls ≠ "java/lang/invoke/VarHandle") {a : Addr} (E : Exa Z h a C) {argsL rest : List Value} (hM : OMet l Z z bytes maxL ret [] rm (.ref a :: argsL).toArray h Q) {W : Nat} (hf : rm.frames + 1 ≤ R.frames) (hl : W + (maxL + 11) + rm.locals ≤ R.locals) (hc : cells + rm.cells ≤ R.cells) (hs : slots + rm.slots ≤ R.slots)
    (eT : T.heap = h) {pc : Nat} {Ls : Array Slot} (hsize : Ls.size = c.maxLocals) (hlen : ∀ sig, parseMethodDescriptor y.desc = some sig → argsL.length = sig.parameters.length) (hW : (rest.map fun v => v.category).sum ≤ W) (hd : decode c.code pc = .ok (.invokevirtual index, 3)) :
    ∃ (v : Option Value) (T' : State) (L : List Loc), Stand p l e R s m args below meth c T' (locs ++ L) (cells + rm.cells) (slots + rm.slots) ∧ Q v T'.heap L ∧
      ∀ t, Steps p.tables e below (T'.setTop (mkF m (pc + 3) Ls (v.toList ++ rest))) t → Steps p.tables e below (T.setTop (mkF m pc Ls (argsL.reverse ++ .ref a :: rest))) t := by
  obtain ⟨cB, kB, q1, q2, q3⟩ := isOf hZ eT E
  obtain ⟨v, _, ⟨T', L', k', n'⟩, -, X', ⟨L, hQ, hl', hy', hz'⟩, st⟩ := X.virtualBack hx (y := y) (z := z) hown (mvT hZ w1) (mvT hZ wd) hnf (mvT hZ ws) (mvT hZ w2) hy (backOf (W := W) hM hZ w4 w3 hf hl) q1 q3 (g := mkF m pc Ls (argsL.reverse ++ .ref a :: rest)) rfl hsize (Steps.refl _) (argsL := argsL) (rest := rest) hlen rfl (by show 2 * 0 + _ ≤ _; omega) hd (fun _ _ => ⟨rfl, eT, hc, hs⟩)
  dsimp only [Pt.U, Pt.locs, Pt.cells, Pt.slots] at X' hl' hy' hz' st hQ
  subst hl' hy' hz'
  exact ⟨v, T', L, X', hQ, fun t k => st.trans k⟩
/-- an inherited instance method: the link names a class that doesn't declare it -/
theorem own_callU (X : Stand p l e R s m args below meth c T locs cells slots) (hx : p.tables.exec = Jvm.exec) (hZ : Z.Warmed39 s.vm) {own C owner : String} {index : Nat} {y z : MethodName} {bytes : ByteArray} {maxL : Nat} {ret : Option FieldType} {rm : Room} {Q : Option Value → Heap → List Loc → Prop}
    (hown : s.vm.findClass own = some m.cls) (w1 : (Jvm.Cond.methodLink own index y).before a0 Z = true) (wm : (Jvm.Cond.sameMethod y.cls owner y.name y.desc).before a0 Z = true) (wd : (Jvm.Cond.declares ⟨owner, y.name, y.desc⟩).before a0 Z = true) (ws : (Jvm.Cond.selects C y z).before a0 Z = true) (w2 : (Jvm.Cond.instanceMethod z).before a0 Z = true) (w3 : (Jvm.Cond.initialized z.cls).before a0 Z = true) (w4 : (Jvm.Cond.code z bytes maxL ret).before a0 Z = true)
    (hy : owner ≠ "java/lang/invoke/MethodHandle" ∧ owner ≠ "java/lang/invoke/VarHandle") {a : Addr} (E : Exa Z h a C) {argsL rest : List Value} (hM : OMet l Z z bytes maxL ret [] rm (.ref a :: argsL).toArray h Q) {W : Nat} (hf : rm.frames + 1 ≤ R.frames) (hl : W + (maxL + 11) + rm.locals ≤ R.locals) (hc : cells + rm.cells ≤ R.cells) (hs : slots + rm.slots ≤ R.slots)
    (eT : T.heap = h) {pc : Nat} {Ls : Array Slot} (hsize : Ls.size = c.maxLocals) (hlen : ∀ sig, parseMethodDescriptor y.desc = some sig → argsL.length = sig.parameters.length) (hW : (rest.map fun v => v.category).sum ≤ W) (hd : decode c.code pc = .ok (.invokevirtual index, 3)) :
    ∃ (v : Option Value) (T' : State) (L : List Loc), Stand p l e R s m args below meth c T' (locs ++ L) (cells + rm.cells) (slots + rm.slots) ∧ Q v T'.heap L ∧
      ∀ t, Steps p.tables e below (T'.setTop (mkF m (pc + 3) Ls (v.toList ++ rest))) t → Steps p.tables e below (T.setTop (mkF m pc Ls (argsL.reverse ++ .ref a :: rest))) t := by
  obtain ⟨cB, kB, q1, q2, q3⟩ := isOf hZ eT E
  obtain ⟨v, _, ⟨T', L', k', n'⟩, -, X', ⟨L, hQ, hl', hy', hz'⟩, st⟩ := X.virtualBackUp hx (x := y) (y := z) (owner := owner) hown (mvT hZ w1) (mvT hZ wm) (mvT hZ wd) hy (mvT hZ ws) (mvT hZ w2) (backOf (W := W) hM hZ w4 w3 hf hl) q1 q3 (g := mkF m pc Ls (argsL.reverse ++ .ref a :: rest)) rfl hsize (Steps.refl _) (argsL := argsL) (rest := rest) hlen rfl (by show 2 * 0 + _ ≤ _; omega) hd (fun _ _ => ⟨rfl, eT, hc, hs⟩)
  dsimp only [Pt.U, Pt.locs, Pt.cells, Pt.slots] at X' hl' hy' hz' st hQ
  subst hl' hy' hz'
  exact ⟨v, T', L, X', hQ, fun t k => st.trans k⟩
/-- an interface's method by the contract of the body that the receiver's class selects -/
theorem own_callF (X : Stand p l e R s m args below meth c T locs cells slots) (hx : p.tables.exec = Jvm.exec) (hZ : Z.Warmed39 s.vm) {own C : String} {index count : Nat} {y z : MethodName} {bytes : ByteArray} {maxL : Nat} {ret : Option FieldType} {rm : Room} {Q : Option Value → Heap → List Loc → Prop}
    (hown : s.vm.findClass own = some m.cls) (w1 : (Jvm.Cond.methodLink own index y).before a0 Z = true) (wd : (Jvm.Cond.declares y).before a0 Z = true) (wf : (Jvm.Cond.interfaceMethod y.cls y.cls y.name y.desc).before args s = true) (ws : (Jvm.Cond.selects C y z).before a0 Z = true) (w2 : (Jvm.Cond.instanceMethod z).before a0 Z = true) (wp : (Jvm.Cond.publicMethod z).before a0 Z = true) (wu : (Jvm.Cond.unhidden C y.name y.desc).before a0 Z = true) (wc : (Jvm.Cond.castable C y.cls).before a0 Z = true) (w3 : (Jvm.Cond.initialized z.cls).before a0 Z = true) (w4 : (Jvm.Cond.code z bytes maxL ret).before a0 Z = true)
    (hy : y.cls ≠ "java/lang/invoke/MethodHandle" ∧ y.cls ≠ "java/lang/invoke/VarHandle") {a : Addr} (E : Exa Z h a C) {argsL rest : List Value} (hM : OMet l Z z bytes maxL ret [] rm (.ref a :: argsL).toArray h Q) {W : Nat} (hf : rm.frames + 1 ≤ R.frames) (hl : W + (maxL + 11) + rm.locals ≤ R.locals) (hc : cells + rm.cells ≤ R.cells) (hs : slots + rm.slots ≤ R.slots)
    (eT : T.heap = h) {pc : Nat} {Ls : Array Slot} (hsize : Ls.size = c.maxLocals) (hlen : ∀ sig, parseMethodDescriptor y.desc = some sig → argsL.length = sig.parameters.length) (hW : (rest.map fun v => v.category).sum ≤ W) (hd : decode c.code pc = .ok (.invokeinterface index count, 5)) :
    ∃ (v : Option Value) (T' : State) (L : List Loc), Stand p l e R s m args below meth c T' (locs ++ L) (cells + rm.cells) (slots + rm.slots) ∧ Q v T'.heap L ∧
      ∀ t, Steps p.tables e below (T'.setTop (mkF m (pc + 5) Ls (v.toList ++ rest))) t → Steps p.tables e below (T.setTop (mkF m pc Ls (argsL.reverse ++ .ref a :: rest))) t := by
  obtain ⟨cB, kB, q1, q2, q3⟩ := isOf hZ eT E
  obtain ⟨v, _, ⟨T', L', k', n'⟩, -, X', ⟨L, hQ, hl', hy', hz'⟩, st⟩ := X.interfaceBack hx (xi := y) (y := z) hown (mvT hZ w1) (mvT hZ wd) wf (mvT hZ ws) (mvT hZ w2) (mvT hZ wp) (mvT hZ wu) (mvT hZ wc) hy (backOf (W := W) hM hZ w4 w3 hf hl) q1 q2 q3 (g := mkF m pc Ls (argsL.reverse ++ .ref a :: rest)) rfl hsize (Steps.refl _) (argsL := argsL) (rest := rest) hlen rfl (by show 2 * 0 + _ ≤ _; omega) hd (fun _ _ => ⟨rfl, eT, hc, hs⟩)
  dsimp only [Pt.U, Pt.locs, Pt.cells, Pt.slots] at X' hl' hy' hz' st hQ
  subst hl' hy' hz'
  exact ⟨v, T', L, X', hQ, fun t k => st.trans k⟩
theorem own_hc {T : State} {h : Heap} {a : Addr} {cl : Cell} (q : T.heap = h) (r : h[a]? = some cl) : T.heap[a]? = some cl := by rw [q]; exact r
/-- what a Bool is as Java's int -/
def b2i (b : Bool) : Int32 := if b then 1 else 0
theorem b2i_t {b : Bool} (h : b = true) : b2i b = 1 := by simp [b2i, h]
theorem b2i_f {b : Bool} (h : b = false) : b2i b = 0 := by simp [b2i, h]
theorem b2i_inj {a b : Bool} : b2i a = b2i b ↔ a = b := by cases a <;> cases b <;> decide
/-- the branches' conditions in plain words -/
theorem ic_lt (x y : Int32) : if_icmp.holds .lt x y = decide (x < y) := by by_cases q : x < y <;> simp [q, tlt, flt]
theorem ic_ge (x y : Int32) : if_icmp.holds .ge x y = !decide (x < y) := by by_cases q : x < y <;> simp [q, tlt, flt]
theorem ic_gt (x y : Int32) : if_icmp.holds .gt x y = decide (y < x) := by by_cases q : y < x <;> simp [q, tlt, flt]
theorem ic_le (x y : Int32) : if_icmp.holds .le x y = !decide (y < x) := by by_cases q : y < x <;> simp [q, tlt, flt]
theorem ic_eq (x y : Int32) : if_icmp.holds .eq x y = decide (x = y) := by by_cases q : x = y <;> simp [q, teq, feq]
theorem ic_ne (x y : Int32) : if_icmp.holds .ne x y = !decide (x = y) := by by_cases q : x = y <;> simp [q, teq, feq]
theorem i0_lt (x : Int32) : ifCond.holds .lt x = decide (x < 0) := (if0 _ _).trans (ic_lt x 0)
theorem i0_ge (x : Int32) : ifCond.holds .ge x = !decide (x < 0) := (if0 _ _).trans (ic_ge x 0)
theorem i0_gt (x : Int32) : ifCond.holds .gt x = decide (0 < x) := (if0 _ _).trans (ic_gt x 0)
theorem i0_le (x : Int32) : ifCond.holds .le x = !decide (0 < x) := (if0 _ _).trans (ic_le x 0)
theorem i0_eq (x : Int32) : ifCond.holds .eq x = decide (x = 0) := (if0 _ _).trans (ic_eq x 0)
theorem i0_ne (x : Int32) : ifCond.holds .ne x = !decide (x = 0) := (if0 _ _).trans (ic_ne x 0)
theorem lw_lt (x y : Int64) : lcmpW x y < 0 ↔ x < y := by rw [lcW]; exact Jvm.RoadKit.lc_lt x y
theorem lw_gt (x y : Int64) : 0 < lcmpW x y ↔ y < x := by rw [lcW]; exact Jvm.RoadKit.lc_gt x y
theorem lw_eq (x y : Int64) : lcmpW x y = 0 ↔ x = y := by rw [lcW]; exact Jvm.RoadKit.lc_eq x y
theorem l0_lt (x y : Int64) : ifCond.holds .lt (lcmpW x y) = decide (x < y) := (i0_lt _).trans (by simp [lw_lt])
theorem l0_ge (x y : Int64) : ifCond.holds .ge (lcmpW x y) = !decide (x < y) := (i0_ge _).trans (by simp [lw_lt])
theorem l0_gt (x y : Int64) : ifCond.holds .gt (lcmpW x y) = decide (y < x) := (i0_gt _).trans (by simp [lw_gt])
theorem l0_le (x y : Int64) : ifCond.holds .le (lcmpW x y) = !decide (y < x) := (i0_le _).trans (by simp [lw_gt])
theorem l0_eq (x y : Int64) : ifCond.holds .eq (lcmpW x y) = decide (x = y) := (i0_eq _).trans (by simp [lw_eq])
theorem l0_ne (x y : Int64) : ifCond.holds .ne (lcmpW x y) = !decide (x = y) := (i0_ne _).trans (by simp [lw_eq])
theorem b0_eq (b : Bool) : ifCond.holds .eq (b2i b) = !b := by cases b <;> decide
theorem b0_ne (b : Bool) : ifCond.holds .ne (b2i b) = b := by cases b <;> decide
theorem own_t {P : Prop} [Decidable P] {u : Bool} (q : u = decide P) (hp : P) : u = true := by rw [q]; exact decide_eq_true hp
theorem own_f {P : Prop} [Decidable P] {u : Bool} (q : u = decide P) (hp : ¬ P) : u = false := by rw [q]; exact decide_eq_false hp
theorem own_nt {P : Prop} [Decidable P] {u : Bool} (q : u = !decide P) (hp : ¬ P) : u = true := by rw [q]; simp [hp]
theorem own_nf {P : Prop} [Decidable P] {u : Bool} (q : u = !decide P) (hp : P) : u = false := by rw [q]; simp [hp]
theorem own_bt {u b : Bool} (q : u = b) (hp : b = true) : u = true := q.trans hp
theorem own_bf {u b : Bool} (q : u = b) (hp : b = false) : u = false := q.trans hp
theorem own_nbt {u b : Bool} (q : u = !b) (hp : b = false) : u = true := by rw [q, hp]; rfl
theorem own_nbf {u b : Bool} (q : u = !b) (hp : b = true) : u = false := by rw [q, hp]; rfl
theorem own_retN (X : Stand p l e R s m args below meth c T locs cells slots) (hx : p.tables.exec = Jvm.exec) {pc : Nat} {Ls : Array Slot} {z z' : Int32} {t : FieldType} {rest : List Value} (hret : meth.sig.returnType = some t) (ht : t = .boolean ∨ t = .byte ∨ t = .char ∨ t = .short) (hn : nar t z = z')
    (hd : decode c.code pc = .ok (.ireturn, 1)) {fs : List Frame} (hl : ∀ (f : JFrame) (acts : List Action), f.method = m → f.locked = none → f.entered = [] → (doReturn e (T.setTop f) acts (some (.int z'))).1 = T.setFrames fs) :
    Steps p.tables e below (T.setTop (mkF m pc Ls (.int z :: rest))) (T.setFrames fs) := by
  subst hn
  exact retN X hx hret ht hd hl
theorem own_nar_b2i (b : Bool) : nar .boolean (b2i b) = b2i b := by cases b <;> decide
theorem own_narrow_b2i (b : Bool) : narrow .boolean (.int (b2i b)) = .int (b2i b) := by cases b <;> rfl
theorem own_fits_b2i (b : Bool) : fits .boolean (.int (b2i b)) = true := by cases b <;> rfl
theorem own_nar_i2b (x : Int32) : nar .byte x.toInt8.toInt32 = x.toInt8.toInt32 := by simp [nar]
theorem own_lrem (x y : Int64) : x - x / y * y = x % y := by
  apply Int64.toInt_inj.mp
  have h1 := Int64.le_toInt (x % y)
  have h2 := Int64.toInt_lt (x % y)
  have e : x.toInt - y.toInt * x.toInt.tdiv y.toInt = x.toInt.tmod y.toInt := (Int.tmod_def _ _).symm
  rw [Int64.toInt_sub, Int64.toInt_mul, Int64.toInt_div, Int.bmod_mul_bmod, Int.sub_bmod_bmod, Int.mul_comm (x.toInt.tdiv y.toInt), e, ← Int64.toInt_mod]
  exact Int.bmod_eq_of_le_mul_two (by omega) (by omega)
/-- getfield by an entry that is resolved already -/
theorem own_getFR (X : Stand p l e R s m args below meth c T locs cells slots) (hx : p.tables.exec = Jvm.exec) (hZ : Z.Warmed39 s.vm) {own O n d : String} {index : Nat} (hown : s.vm.findClass own = some m.cls) (w : (Jvm.Cond.fieldRef own index O n d).before a0 Z = true)
    (eT : T.heap = h) {a : Addr} {v : Value} (F : Fld Z h a O n d v) {g : JFrame} (hg : g.method = m) {rest : List Value} (hs : g.stack = .ref a :: rest) (hd : decode c.code g.pc = .ok (.getfield index, 3)) : ∃ T', Stand p l e R s m args below meth c T' locs cells slots ∧ T'.heap = h ∧ ∀ target, Steps p.tables e below (T'.setTop { g with pc := g.pc + 3, stack := v :: rest }) target → Steps p.tables e below (T.setTop g) target := by
  have hZT : Z.Warmed39 T.vm := wtrans hZ X.warmed
  have w' := Cond.fieldRef_warmed39 hZT w
  have hcur : (Z.setVm T.vm).vm.findClass own = some m.cls := (X.warmed.alike.findClass own _).trans hown
  obtain ⟨c', k', i', f', h1, hready⟩ := Cond.fieldRef_spec (s := Z.setVm T.vm) hcur w'
  obtain ⟨cell, cf, k, i, f, g1, g2, g3, g4, -, -, g7⟩ := F
  obtain ⟨k2, hi, -⟩ := State.fieldFound?_setVm (s := Z) hZT.alike g2
  have q := Option.some.inj (h1.symm.trans hi)
  simp only [Prod.mk.injEq] at q
  obtain ⟨rfl, -, -, rfl⟩ := q
  exact ⟨T, X, eT, fun target kt => (X.getfieldR hx hg hready g3 hs (by rw [eT]; exact g1) g4 g7 hd (Steps.refl _)).trans kt⟩
/-- the case's words on statics and fields, at the start -/
theorem own_sx {C n d K : String} (w1 : (Jvm.Cond.initialized C).before args s = true) (w2 : (Jvm.Cond.laysStatic C n d).before args s = true) (q : (Jvm.Cond.exactly (Term.static C n d) K).value args s none s [] = some true) : ∃ a : Addr, (Term.static C n d).eval args s none [] s = some (.ref a) ∧ Sta s s.heap C n d (.ref a) ∧ Exa s s.heap a K := by
  obtain ⟨a, ev⟩ := exa_v q
  exact ⟨a, ev, Sta.start ev (Or.inr ⟨w1, w2⟩), Exa.start ev q⟩
theorem own_fi {t : Term} {a : Addr} {C n d : String} {k : Int32} (ev : t.eval args s none [] s = some (.ref a)) (q : (Jvm.Cond.eq (Term.field t C n d) (Term.int k)).value args s none s [] = some true) : Fld s s.heap a C n d (.int k) := by
  obtain ⟨x, y, h1, h2, h3, h4⟩ := cmp_v (Or.inl q)
  have h5 : y = .int k := (Option.some.inj (h2.symm.trans (Term.int_eval k)) : _)
  subst h5
  obtain ⟨z, rfl⟩ : ∃ z, x = .int z := h4
  have e2 := h1
  rw [fld_at ev] at h1
  simp [Cond.value, e2, h2] at q
  subst q
  exact Fld.start h1
theorem own_fx {t : Term} {a : Addr} {C n d K : String} (ev : t.eval args s none [] s = some (.ref a)) (q : (Jvm.Cond.exactly (Term.field t C n d) K).value args s none s [] = some true) : ∃ b : Addr, (Term.field t C n d).eval args s none [] s = some (.ref b) ∧ Fld s s.heap a C n d (.ref b) ∧ Exa s s.heap b K := by
  obtain ⟨b, ev2⟩ := exa_v q
  exact ⟨b, ev2, Fld.start ((fld_at ev).symm.trans ev2), Exa.start ev2 q⟩
/-- a class that the chain of superclasses doesn't meet: its own word is 'instantiable' -/
theorem own_ns_root {Z : State} {a0 : Array Value} {O K : String} {n : Nat} (w : (Jvm.Cond.noSuperclass O).before a0 Z = true) (wi : (Jvm.Cond.instantiable K n).before a0 Z = true) (hn : O ≠ K) : NS Z O K := by
  obtain ⟨c, k, h1, h2, h3, -, -⟩ := Cond.noSuperclass_spec w
  obtain ⟨t, kt, g1, -⟩ := Cond.instantiable_spec wi
  have ne := ids_ne h1 g1 hn
  refine ⟨c, t, h1, g1, fun fuel => ?_⟩
  cases fuel with
  | zero => rfl
  | succ f => simp [Vm.isSubclassAux, ne, h2, h3]
theorem own_ns_no {Z : State} {a0 : Array Value} {C S K : String} {n : Nat} (w : (Jvm.Cond.superclass C S).before a0 Z = true) (wi : (Jvm.Cond.instantiable K n).before a0 Z = true) (q : NS Z C K) (hn : C ≠ K) : ∃ c t, Z.vm.findClass C = some c ∧ Z.vm.findClass K = some t ∧ Z.vm.assignable c t = false := by
  obtain ⟨c, t, h0, g0, n3⟩ := q
  obtain ⟨p, k, kp, h1, h2, h3, h4, h5, -, h7⟩ := Cond.superclass_spec h0 w
  obtain ⟨t', kt, g1, g2, g3, g4, -, -⟩ := Cond.instantiable_spec wi
  cases g0.symm.trans g1
  have g5 : kt.isInterface = false := by simp only [Bool.or_eq_false_iff] at g4; exact g4.1
  have ne := ids_ne h0 g0 hn
  refine ⟨c, t, h0, g0, ?_⟩
  show Z.vm.assignableAux (255 + 1) c t = false
  simp [Vm.assignableAux, ne, h2, g2, h5, g3, g5, Vm.isSubclass, n3]
/-- a static's cell isn't written by one who writes objects alone -/
theorem own_sta_keep {Z : State} {h h' : Heap} {C n d : String} {v : Value} {ws : List Addr} (F : Sta Z h C n d v) (K : Keep h h' ws) (q : ∀ x ∈ ws, ∃ C', Exa Z h x C') : Sta Z h' C n d v := by
  obtain ⟨cf, i, k, f, st, cell, h1, h2, h3, h4, h5, h6, h7⟩ := F
  refine ⟨cf, i, k, f, st, cell, h1, h2, h3, h4, K.2.1 st cell h5 (fun r => ?_), h6, h7⟩
  obtain ⟨C', c', k', g1, -, -, g4, -⟩ := q st r
  rw [h5] at g1
  cases g1
  rw [h6] at g4
  cases g4
theorem own_ne32 {x y : Int32} (h : x ≠ y) : Value.int x ≠ Value.int y := fun q => h (Value.int.inj q)
end OwnKit
section OwnWide
variable {p : Program} {l : Launch} {e : Env} {R : Room} {s : State} {m : MethodId} {args : Array Value} {below : List Frame} {meth : Method} {c : Code} {T : State} {locs : List Loc} {cells slots : Nat} {Z : State} {a0 : Array Value} {h h0 : Heap}
/-- as Gl, where constants may have been interned on the way -/
def GlW (p : Program) (e : Env) (below : List Frame) (s : State) (Q : Option Value → Heap → List Loc → Prop) (cc kk : Nat) (S : State) : Prop :=
  ∃ t o, Steps p.tables e below S t ∧ t.status = .running ∧ Ended t below o ∧ ∃ v L, o = .returned v ∧ Q v t.heap L ∧ ReturnedEndW s o t L cc kk
theorem GlW.pre {Q : Option Value → Heap → List Loc → Prop} {cc kk : Nat} {S S' : State} (st : ∀ t, Steps p.tables e below S' t → Steps p.tables e below S t) (k : GlW p e below s Q cc kk S') : GlW p e below s Q cc kk S := by
  obtain ⟨t, o, h1, h2⟩ := k
  exact ⟨t, o, st _ h1, h2⟩
theorem GlW.fin {Q : Option Value → Heap → List Loc → Prop} {cc kk : Nat} {S : State} {vm0 : Vm} {k0 : Nat} (X : Stand p l e R (s.setVm vm0) m args below meth c T locs cells slots) (hS : s.Since vm0 k0) {v : Option Value} (hv : meth.sig.returnType = none → v = none) (hlocks : meth.locks = false) (hQ : Q v h locs) (eT : T.heap = h) (hk0 : k0 ≤ h.size) (hc : cells ≤ cc) (hk : slots ≤ kk)
    (st : ∀ fs, (∀ (f : JFrame) (acts : List Action), f.method = m → f.locked = none → f.entered = [] → (doReturn e (T.setTop f) acts v).1 = T.setFrames fs) → Steps p.tables e below S (T.setFrames fs)) : GlW p e below s Q cc kk S := by
  obtain ⟨fs, hr, hrun, hended, hE⟩ := X.leaveW hS (by rw [eT]; exact hk0) (v := v) hv hlocks
  exact ⟨_, _, st fs hr, hrun, hended, _, _, rfl, (by show Q v T.heap locs; rw [eT]; exact hQ), hE.1, hE.2.1, hE.2.2.1, hE.2.2.2.mono hc hk⟩
abbrev OMetW (l : Launch) (Z : State) (y : MethodName) (bytes : ByteArray) (maxL : Nat) (ret : Option FieldType) (ws : List Jvm.Cond) (rm : Room) (as' : Array Value) (h0 : Heap) (Q : Option Value → Heap → List Loc → Prop) : Prop :=
  MetFree l y (head1 (Jvm.Cond.code y bytes maxL ret :: ws) rm) (fun a U => a = as' ∧ Z.Warmed39 U.vm ∧ U.heap = h0) (fun _ _ _ _ _ => True) (fun _ U o U' => ∃ v L, o = .returned v ∧ Q v U'.heap L ∧ ReturnedEndW U o U' L rm.cells rm.slots)
theorem own_bodyW {y : MethodName} {bytes : ByteArray} {maxL : Nat} {ret : Option FieldType} {ws : List Jvm.Cond} {rm : Room} {as' : Array Value} {Q : Option Value → Heap → List Loc → Prop} (hx : plainFor y = true)
    (H : ∀ p e s m below meth c s₁, BodyLoose p l y (head1 (Jvm.Cond.code y bytes maxL ret :: ws) rm) bytes maxL ret e s m as' below meth c s₁ → c.maxLocals = maxL → Z.Warmed39 s.vm → s₁.heap = h0 → s.heap = h0 → GlW p e below s Q rm.cells rm.slots (s₁.setTop (entryFrame m as' maxL))) :
    OMetW l Z y bytes maxL ret ws rm as' h0 Q := by
  refine MetFree.of_bodySF hx hisR ?_
  intro p e s m args below meth c s₁ Bd hml0 hP hK
  obtain ⟨rfl, hZ, hh⟩ := hP
  exact H p e s m below meth c s₁ Bd hml0 hZ (by rw [← hh, Bd.state]; rfl) hh
/-- the law itself: its start is the case's -/
abbrev OMetZ (l : Launch) (Z : State) (y : MethodName) (bytes : ByteArray) (maxL : Nat) (ret : Option FieldType) (ws : List Jvm.Cond) (rm : Room) (as' : Array Value) (h0 : Heap) (Q : Option Value → Heap → List Loc → Prop) : Prop :=
  MetFree l y (head1 (Jvm.Cond.code y bytes maxL ret :: ws) rm) (fun a U => a = as' ∧ U = Z ∧ U.heap = h0) (fun _ _ _ _ _ => True) (fun _ U o U' => ∃ v L, o = .returned v ∧ Q v U'.heap L ∧ ReturnedEndW U o U' L rm.cells rm.slots)
theorem own_bodyZ {y : MethodName} {bytes : ByteArray} {maxL : Nat} {ret : Option FieldType} {ws : List Jvm.Cond} {rm : Room} {as' : Array Value} {Q : Option Value → Heap → List Loc → Prop} (hx : plainFor y = true)
    (H : ∀ p e s m below meth c s₁, BodyLoose p l y (head1 (Jvm.Cond.code y bytes maxL ret :: ws) rm) bytes maxL ret e s m as' below meth c s₁ → c.maxLocals = maxL → s = Z → s₁.heap = h0 → s.heap = h0 → GlW p e below s Q rm.cells rm.slots (s₁.setTop (entryFrame m as' maxL))) :
    OMetZ l Z y bytes maxL ret ws rm as' h0 Q := by
  refine MetFree.of_bodySF hx hisR ?_
  intro p e s m args below meth c s₁ Bd hml0 hP hK
  obtain ⟨rfl, hZ, hh⟩ := hP
  exact H p e s m below meth c s₁ Bd hml0 hZ (by rw [← hh, Bd.state]; rfl) hh
end OwnWide
theorem own_nat32 (x : Int32) (h : 0 ≤ x.toInt) : x.toUInt32.toNat = x.toInt.toNat := by
  have e : x.toInt = x.toBitVec.toInt := rfl
  have e2 : x.toUInt32.toNat = x.toBitVec.toNat := rfl
  rw [e2]
  rw [e, BitVec.toInt_eq_toNat_cond] at h ⊢
  have := x.toBitVec.isLt
  split at h <;> split <;> omega
theorem own_andm (x : Int32) (m : Nat) (hm : m < 2147483648) : 0 ≤ (x &&& Int32.ofNat m).toInt ∧ (x &&& Int32.ofNat m).toInt ≤ m := by
  have h : (x &&& Int32.ofNat m).toInt = (x.toBitVec &&& BitVec.ofNat 32 m).toInt := rfl
  rw [h, BitVec.toInt_eq_toNat_cond, BitVec.toNat_and, BitVec.toNat_ofNat]
  have e : m % 2 ^ 32 = m := Nat.mod_eq_of_lt (by omega)
  rw [e]
  have : x.toBitVec.toNat &&& m ≤ m := Nat.and_le_right
  split <;> omega
theorem own_and255 (x : Int32) : 0 ≤ (x &&& 255).toInt ∧ (x &&& 255).toInt ≤ 255 := own_andm x 255 (by decide)
theorem own_i2c (z : Int32) (h : 0 ≤ z.toInt) (h2 : z.toInt < 65536) : z.toUInt32.toUInt16.toUInt32.toInt32 = z := by
  have e : z.toUInt32.toUInt16.toUInt32 = z.toUInt32 := by
    rw [← UInt32.toNat_inj]
    simp only [UInt16.toNat_toUInt32, UInt32.toNat_toUInt16]
    have := own_nat32 z h
    omega
  rw [e]
  rfl
theorem own_c255 (x : Int32) : (x &&& 255).toUInt32.toUInt16.toUInt32.toInt32 = x &&& 255 := own_i2c _ (own_and255 x).1 (by have := (own_and255 x).2; omega)
theorem own_n255 (x : Int32) : ¬ 255 < (x &&& 255) := by
  rw [Int32.lt_iff_toInt_lt]
  have := (own_and255 x).2
  have e : (255 : Int32).toInt = 255 := by decide
  omega
theorem own_i2c_rng (x : Int32) : 0 ≤ (x.toUInt32.toUInt16.toUInt32.toInt32).toInt ∧ (x.toUInt32.toUInt16.toUInt32.toInt32).toInt ≤ 65535 := by
  have h : (x.toUInt32.toUInt16.toUInt32.toInt32).toInt = (x.toUInt32.toUInt16.toUInt32).toBitVec.toInt := rfl
  have h2 : (x.toUInt32.toUInt16.toUInt32).toBitVec.toNat = (x.toUInt32.toUInt16.toUInt32).toNat := rfl
  rw [h, BitVec.toInt_eq_toNat_cond, h2, UInt16.toNat_toUInt32]
  have := x.toUInt32.toUInt16.toNat_lt
  split <;> omega
theorem own_e65 : (65 : Int32).toInt = 65 := by decide
theorem own_e90 : (90 : Int32).toInt = 90 := by decide
theorem own_e32 : (32 : Int32).toInt = 32 := by decide
theorem own_e26 : (26 : Int32).toInt = 26 := by decide
theorem own_e0 : (0 : Int32).toInt = 0 := by decide
theorem own_d65 {c : Int32} (hr : 0 ≤ c.toInt ∧ c.toInt ≤ 65535) : (c - 65).toInt = c.toInt - 65 := by
  rw [Int32.toInt_sub, own_e65]; exact Int.bmod_eq_of_le (by omega) (by omega)
theorem own_a32 {c : Int32} (hr : 0 ≤ c.toInt ∧ c.toInt ≤ 65535) : (c + 32).toInt = c.toInt + 32 := by
  rw [Int32.toInt_add, own_e32]; exact Int.bmod_eq_of_le (by omega) (by omega)
theorem own_up {c : Int32} (hr : 0 ≤ c.toInt ∧ c.toInt ≤ 65535) (h1 : ¬ c - 65 < 0) (h2 : c - 65 < 26) : ¬ c < 65 ∧ ¬ 90 < c := by
  rw [Int32.lt_iff_toInt_lt, own_d65 hr, own_e0] at h1
  rw [Int32.lt_iff_toInt_lt, own_d65 hr, own_e26] at h2
  rw [Int32.lt_iff_toInt_lt, Int32.lt_iff_toInt_lt, own_e65, own_e90]; omega
theorem own_nup1 {c : Int32} (hr : 0 ≤ c.toInt ∧ c.toInt ≤ 65535) (h1 : c - 65 < 0) : ¬ (¬ c < 65 ∧ ¬ 90 < c) := by
  rw [Int32.lt_iff_toInt_lt, own_d65 hr, own_e0] at h1
  rw [Int32.lt_iff_toInt_lt, Int32.lt_iff_toInt_lt, own_e65, own_e90]; omega
theorem own_nup2 {c : Int32} (hr : 0 ≤ c.toInt ∧ c.toInt ≤ 65535) (h2 : ¬ c - 65 < 26) : ¬ (¬ c < 65 ∧ ¬ 90 < c) := by
  rw [Int32.lt_iff_toInt_lt, own_d65 hr, own_e26] at h2
  rw [Int32.lt_iff_toInt_lt, Int32.lt_iff_toInt_lt, own_e65, own_e90]; omega
def own_lc (c : Int32) : Int32 := if ¬ c < 65 ∧ ¬ 90 < c then c + 32 else c
theorem own_lc_rng {c : Int32} (hr : 0 ≤ c.toInt ∧ c.toInt ≤ 65535) : 0 ≤ (own_lc c).toInt ∧ (own_lc c).toInt ≤ 65535 := by
  unfold own_lc
  split
  · rename_i h
    rw [own_a32 hr]
    rw [Int32.lt_iff_toInt_lt, Int32.lt_iff_toInt_lt, own_e65, own_e90] at h; omega
  · exact hr
theorem own_lc2 {c : Int32} (hr : 0 ≤ c.toInt ∧ c.toInt ≤ 65535) : own_lc (own_lc c) = own_lc c := by
  by_cases h : ¬ c < 65 ∧ ¬ 90 < c
  · have e : own_lc c = c + 32 := if_pos h
    rw [e]
    refine if_neg ?_
    rw [Int32.lt_iff_toInt_lt, Int32.lt_iff_toInt_lt, own_a32 hr, own_e65, own_e90]
    rw [Int32.lt_iff_toInt_lt, Int32.lt_iff_toInt_lt, own_e65, own_e90] at h; omega
  · have e : own_lc c = c := if_neg h
    rw [e, e]
theorem own_lcU {c : Int32} (hr : 0 ≤ c.toInt ∧ c.toInt ≤ 65535) (h : ¬ c < 65 ∧ ¬ 90 < c) : 0 ≤ (c + 32).toInt ∧ (c + 32).toInt ≤ 122 := by
  rw [own_a32 hr]
  rw [Int32.lt_iff_toInt_lt, Int32.lt_iff_toInt_lt, own_e65, own_e90] at h; omega
theorem own_m255 {x : Int32} (h1 : 0 ≤ x.toInt) (h2 : x.toInt ≤ 255) : x &&& 255 = x := by
  rw [← Int32.toBitVec_inj, Int32.toBitVec_and]
  apply BitVec.eq_of_toNat_eq
  rw [BitVec.toNat_and]
  have e : (255 : Int32).toBitVec.toNat = 2 ^ 8 - 1 := by decide
  have n := own_nat32 x h1
  have n2 : x.toUInt32.toNat = x.toBitVec.toNat := rfl
  rw [e, Nat.and_two_pow_sub_one_eq_mod]
  omega
theorem own_idx65 {c : Int32} (hr : 0 ≤ c.toInt ∧ c.toInt ≤ 65535) (h1 : ¬ c - 65 < 0) (h2 : c - 65 < 26) : ∃ k : Nat, k < 26 ∧ (c - 65).toNatClampNeg = k ∧ c + 32 = Int32.ofNat (97 + k) := by
  rw [Int32.lt_iff_toInt_lt, own_d65 hr, own_e0] at h1
  rw [Int32.lt_iff_toInt_lt, own_d65 hr, own_e26] at h2
  refine ⟨(c.toInt - 65).toNat, by omega, ?_, ?_⟩
  · simp only [Int32.toNatClampNeg, own_d65 hr]
  · rw [← Int32.toInt_inj, own_a32 hr, Int32.toInt_ofNat_of_lt (by omega)]; omega
theorem own_narc255 (x : Int32) : nar .char ((x &&& (255 : Int32)).toUInt32.toUInt16.toUInt32.toInt32) = x &&& 255 := by
  show (x &&& 255).toUInt32.toUInt16.toUInt32.toInt32.toUInt32.toUInt16.toUInt32.toInt32 = _
  rw [own_c255, own_c255]
theorem own_narc {x y : Int32} (h : x &&& 255 = y) : nar .char y = y := by
  subst h
  exact own_c255 x
theorem own_abc : ∀ k : Fin 26, ([(.int (97 : Int32)), (.int (98 : Int32)), (.int (99 : Int32)), (.int (100 : Int32)), (.int (101 : Int32)), (.int (102 : Int32)), (.int (103 : Int32)), (.int (104 : Int32)), (.int (105 : Int32)), (.int (106 : Int32)), (.int (107 : Int32)), (.int (108 : Int32)), (.int (109 : Int32)), (.int (110 : Int32)), (.int (111 : Int32)), (.int (112 : Int32)), (.int (113 : Int32)), (.int (114 : Int32)), (.int (115 : Int32)), (.int (116 : Int32)), (.int (117 : Int32)), (.int (118 : Int32)), (.int (119 : Int32)), (.int (120 : Int32)), (.int (121 : Int32)), (.int (122 : Int32))] : List Value).getD k.val (.int (0 : Int32)) = .int (Int32.ofNat (97 + k.val)) := by decide +kernel
theorem own_narC {x : Int32} (h : 0 ≤ x.toInt ∧ x.toInt ≤ 65535) : nar .char x = x := own_i2c x h.1 (by omega)
theorem own_narU {c : Int32} (hr : 0 ≤ c.toInt ∧ c.toInt ≤ 65535) (h : ¬ c < 65 ∧ ¬ 90 < c) : nar .char ((c + (32 : Int32)).toUInt32.toUInt16.toUInt32.toInt32) = c + 32 := by
  have q := own_lcU hr h
  rw [own_i2c (c + 32) q.1 (by omega)]
  exact own_i2c (c + 32) q.1 (by omega)
theorem own_hat {c : Int32} (hr : 0 ≤ c.toInt ∧ c.toInt ≤ 65535) (h1 : ¬ c - 65 < 0) (h2 : c - 65 < 26) : ([(.int (97 : Int32)), (.int (98 : Int32)), (.int (99 : Int32)), (.int (100 : Int32)), (.int (101 : Int32)), (.int (102 : Int32)), (.int (103 : Int32)), (.int (104 : Int32)), (.int (105 : Int32)), (.int (106 : Int32)), (.int (107 : Int32)), (.int (108 : Int32)), (.int (109 : Int32)), (.int (110 : Int32)), (.int (111 : Int32)), (.int (112 : Int32)), (.int (113 : Int32)), (.int (114 : Int32)), (.int (115 : Int32)), (.int (116 : Int32)), (.int (117 : Int32)), (.int (118 : Int32)), (.int (119 : Int32)), (.int (120 : Int32)), (.int (121 : Int32)), (.int (122 : Int32))] : List Value).getD (c - 65).toNatClampNeg (.int (0 : Int32)) = .int (c + 32) := by
  obtain ⟨k, hk, e1, e2⟩ := own_idx65 hr h1 h2
  rw [e1, e2]
  exact own_abc ⟨k, hk⟩
theorem pn_jdk_internal_util_Preconditions : plainName "jdk/internal/util/Preconditions" = true := by first | (simp [plainName, overriddenIn]; done) | decide +kernel
theorem ef_rm7z (m : MethodId) (x0 : Int32) (x1 : Int32) : entryFrame m #[(.int x0), (.int x1), .null] 3 = mkF m 0 #[.val (.int x0), .val (.int x1), .val .null] [] := by first | (simp [entryFrame, mkF, argsToLocals, Value.category]; done) | rfl
theorem d7_0 : decode jdk_41_method_11_code 0 = .ok (.iload_n 0, 1) := by decide +kernel
theorem d7_1 : decode jdk_41_method_11_code 1 = .ok (.ifCond .lt 8, 3) := by decide +kernel
theorem d7_4 : decode jdk_41_method_11_code 4 = .ok (.iload_n 0, 1) := by decide +kernel
theorem d7_5 : decode jdk_41_method_11_code 5 = .ok (.iload_n 1, 1) := by decide +kernel
theorem d7_6 : decode jdk_41_method_11_code 6 = .ok (.if_icmp .lt 10, 3) := by decide +kernel
theorem d7_16 : decode jdk_41_method_11_code 16 = .ok (.iload_n 0, 1) := by decide +kernel
theorem d7_17 : decode jdk_41_method_11_code 17 = .ok (.ireturn, 1) := by decide +kernel
def Q7z (Z : State) (p1 : Int32) (p2 : Int32) (h0 : Heap) (n0 : Nat) (v : Option Value) (h : Heap) (L : List Loc) : Prop := v = some (.int p1) ∧ Fr n0 L ∧ h = h0
set_option maxRecDepth 65536 in
set_option maxHeartbeats 40000000 in
theorem rm7z (l : Launch) (Z : State) (a0 : Array Value) (hw : ∀ d ∈ tables_1, d.before a0 Z = true) (ws : List Jvm.Cond) (p1 : Int32) (p2 : Int32) (h0 : Heap) (n0 : Nat) (Z0 : n0 ≤ h0.size) (hlo : ¬ p1 < 0) (hhi : p1 < p2) :
    OMet l Z (⟨"jdk/internal/util/Preconditions", "checkIndex", "(IILjava/util/function/BiFunction;)I"⟩ : MethodName) jdk_41_method_11_code 3 (some .int) ws ({ frames := 0, cells := 0, slots := 0, locals := 0 } : Room) #[(.int p1), (.int p2), .null] h0 (Q7z Z p1 p2 h0 n0) := by
  refine own_body (plainFor_of_name pn_jdk_internal_util_Preconditions) ?_
  intro p e s m below meth c s₁ Bd hml0 hZ e0
  have hx := Bd.exec
  have hby := Bd.bytes
  have hml : c.maxLocals = 3 := hml0
  have hown : s.vm.findClass "jdk/internal/util/Preconditions" = some m.cls := findClass_of_methodNamed Bd.named
  have hnm := (name_of_methodNamed Bd.named Bd.method).1
  have X0 : Stand p l e ({ frames := 0, cells := 0, slots := 0, locals := 0 } : Room) s m #[(.int p1), (.int p2), .null] below meth c s₁ [] 0 0 := Stand.of_body Bd
  have N0 := Fr.nil n0
  have K0 : Keep h0 h0 [] := Keep.refl _ _
  rw [ef_rm7z]
  refine Gl.fin X0 (v := some (.int p1)) (fun h => by rw [Bd.returns] at h; cases h) Bd.notSynchronized ?_ e0 (by decide) (by decide) (fun fs hr => ?_)
  · exact ⟨rfl, N0, rfl⟩
  · show Steps p.tables e below (s₁.setTop (mkF m 0 #[.val (.int p1), .val (.int p2), .val .null] [])) _
    refine XS.iloadN X0.here hx rfl (hb hby d7_0) rfl ?_
    show Steps p.tables e below (s₁.setTop (mkF m 1 #[.val (.int p1), .val (.int p2), .val .null] [(.int p1)])) _
    refine XS.ifNo X0.here hx rfl (hb hby d7_1) rfl (own_f (i0_lt _) hlo) ?_
    show Steps p.tables e below (s₁.setTop (mkF m 4 #[.val (.int p1), .val (.int p2), .val .null] [])) _
    refine XS.iloadN X0.here hx rfl (hb hby d7_4) rfl ?_
    show Steps p.tables e below (s₁.setTop (mkF m 5 #[.val (.int p1), .val (.int p2), .val .null] [(.int p1)])) _
    refine XS.iloadN X0.here hx rfl (hb hby d7_5) rfl ?_
    show Steps p.tables e below (s₁.setTop (mkF m 6 #[.val (.int p1), .val (.int p2), .val .null] [(.int p2), (.int p1)])) _
    refine XS.icmpYes X0.here hx rfl (pc0 := 6) (pc' := 16) rfl (hb hby d7_6) rfl (own_t (ic_lt _ _) hhi) (by decide) (by decide) ?_
    show Steps p.tables e below (s₁.setTop (mkF m 16 #[.val (.int p1), .val (.int p2), .val .null] [])) _
    refine XS.iloadN X0.here hx rfl (hb hby d7_16) rfl ?_
    show Steps p.tables e below (s₁.setTop (mkF m 17 #[.val (.int p1), .val (.int p2), .val .null] [(.int p1)])) _
    exact own_retI X0 hx Bd.returns (hb hby d7_17) hr
theorem ef_rm7r (m : MethodId) (x0 : Int32) (x1 : Int32) (x2 : Addr) : entryFrame m #[(.int x0), (.int x1), (.ref x2)] 3 = mkF m 0 #[.val (.int x0), .val (.int x1), .val (.ref x2)] [] := by first | (simp [entryFrame, mkF, argsToLocals, Value.category]; done) | rfl
def Q7r (Z : State) (p1 : Int32) (p2 : Int32) (g3 : Addr) (h0 : Heap) (n0 : Nat) (v : Option Value) (h : Heap) (L : List Loc) : Prop := v = some (.int p1) ∧ Fr n0 L ∧ h = h0
set_option maxRecDepth 65536 in
set_option maxHeartbeats 40000000 in
theorem rm7r (l : Launch) (Z : State) (a0 : Array Value) (hw : ∀ d ∈ tables_1, d.before a0 Z = true) (ws : List Jvm.Cond) (p1 : Int32) (p2 : Int32) (g3 : Addr) (h0 : Heap) (n0 : Nat) (Z0 : n0 ≤ h0.size) (hlo : ¬ p1 < 0) (hhi : p1 < p2) :
    OMet l Z (⟨"jdk/internal/util/Preconditions", "checkIndex", "(IILjava/util/function/BiFunction;)I"⟩ : MethodName) jdk_41_method_11_code 3 (some .int) ws ({ frames := 0, cells := 0, slots := 0, locals := 0 } : Room) #[(.int p1), (.int p2), (.ref g3)] h0 (Q7r Z p1 p2 g3 h0 n0) := by
  refine own_body (plainFor_of_name pn_jdk_internal_util_Preconditions) ?_
  intro p e s m below meth c s₁ Bd hml0 hZ e0
  have hx := Bd.exec
  have hby := Bd.bytes
  have hml : c.maxLocals = 3 := hml0
  have hown : s.vm.findClass "jdk/internal/util/Preconditions" = some m.cls := findClass_of_methodNamed Bd.named
  have hnm := (name_of_methodNamed Bd.named Bd.method).1
  have X0 : Stand p l e ({ frames := 0, cells := 0, slots := 0, locals := 0 } : Room) s m #[(.int p1), (.int p2), (.ref g3)] below meth c s₁ [] 0 0 := Stand.of_body Bd
  have N0 := Fr.nil n0
  have K0 : Keep h0 h0 [] := Keep.refl _ _
  rw [ef_rm7r]
  refine Gl.fin X0 (v := some (.int p1)) (fun h => by rw [Bd.returns] at h; cases h) Bd.notSynchronized ?_ e0 (by decide) (by decide) (fun fs hr => ?_)
  · exact ⟨rfl, N0, rfl⟩
  · show Steps p.tables e below (s₁.setTop (mkF m 0 #[.val (.int p1), .val (.int p2), .val (.ref g3)] [])) _
    refine XS.iloadN X0.here hx rfl (hb hby d7_0) rfl ?_
    show Steps p.tables e below (s₁.setTop (mkF m 1 #[.val (.int p1), .val (.int p2), .val (.ref g3)] [(.int p1)])) _
    refine XS.ifNo X0.here hx rfl (hb hby d7_1) rfl (own_f (i0_lt _) hlo) ?_
    show Steps p.tables e below (s₁.setTop (mkF m 4 #[.val (.int p1), .val (.int p2), .val (.ref g3)] [])) _
    refine XS.iloadN X0.here hx rfl (hb hby d7_4) rfl ?_
    show Steps p.tables e below (s₁.setTop (mkF m 5 #[.val (.int p1), .val (.int p2), .val (.ref g3)] [(.int p1)])) _
    refine XS.iloadN X0.here hx rfl (hb hby d7_5) rfl ?_
    show Steps p.tables e below (s₁.setTop (mkF m 6 #[.val (.int p1), .val (.int p2), .val (.ref g3)] [(.int p2), (.int p1)])) _
    refine XS.icmpYes X0.here hx rfl (pc0 := 6) (pc' := 16) rfl (hb hby d7_6) rfl (own_t (ic_lt _ _) hhi) (by decide) (by decide) ?_
    show Steps p.tables e below (s₁.setTop (mkF m 16 #[.val (.int p1), .val (.int p2), .val (.ref g3)] [])) _
    refine XS.iloadN X0.here hx rfl (hb hby d7_16) rfl ?_
    show Steps p.tables e below (s₁.setTop (mkF m 17 #[.val (.int p1), .val (.int p2), .val (.ref g3)] [(.int p1)])) _
    exact own_retI X0 hx Bd.returns (hb hby d7_17) hr
theorem pn_java_lang_String : plainName "java/lang/String" = true := by first | (simp [plainName, overriddenIn]; done) | decide +kernel
theorem ef_rm6 (m : MethodId) (x0 : Int32) (x1 : Int32) : entryFrame m #[(.int x0), (.int x1)] 2 = mkF m 0 #[.val (.int x0), .val (.int x1)] [] := by first | (simp [entryFrame, mkF, argsToLocals, Value.category]; done) | rfl
theorem d6_0 : decode jdk_42_method_155_code 0 = .ok (.iload_n 0, 1) := by decide +kernel
theorem d6_1 : decode jdk_42_method_155_code 1 = .ok (.iload_n 1, 1) := by decide +kernel
theorem d6_2 : decode jdk_42_method_155_code 2 = .ok (.getstatic 1053, 3) := by decide +kernel
theorem d6_5 : decode jdk_42_method_155_code 5 = .ok (.invokestatic 1059, 3) := by decide +kernel
theorem pd__IILjava_util_function_BiFunction__I : parseMethodDescriptor "(IILjava/util/function/BiFunction;)I" = some ⟨[.int, .int, (.object "java/util/function/BiFunction")], some .int⟩ := by decide +kernel
theorem d6_8 : decode jdk_42_method_155_code 8 = .ok (.pop, 1) := by decide +kernel
theorem d6_9 : decode jdk_42_method_155_code 9 = .ok (.return_, 1) := by decide +kernel
def Q6 (Z : State) (p1 : Int32) (p2 : Int32) (G3 : Value) (h0 : Heap) (n0 : Nat) (v : Option Value) (h : Heap) (L : List Loc) : Prop := v = none ∧ Fr n0 L ∧ h = h0
set_option maxRecDepth 65536 in
set_option maxHeartbeats 40000000 in
theorem rm6 (l : Launch) (Z : State) (a0 : Array Value) (hw : ∀ d ∈ tables_1, d.before a0 Z = true) (ws : List Jvm.Cond) (p1 : Int32) (p2 : Int32) (G3 : Value) (h0 : Heap) (n0 : Nat) (Z0 : n0 ≤ h0.size) (S_f : Sta Z h0 "jdk/internal/util/Preconditions" "SIOOBE_FORMATTER" "Ljava/util/function/BiFunction;" G3) (rG3 : G3.isRef = true) (hlo : ¬ p1 < 0) (hhi : p1 < p2) :
    OMet l Z (⟨"java/lang/String", "checkIndex", "(II)V"⟩ : MethodName) jdk_42_method_155_code 2 none ws ({ frames := 1, cells := 0, slots := 0, locals := 14 } : Room) #[(.int p1), (.int p2)] h0 (Q6 Z p1 p2 G3 h0 n0) := by
  refine own_body (plainFor_of_name pn_java_lang_String) ?_
  intro p e s m below meth c s₁ Bd hml0 hZ e0
  have hx := Bd.exec
  have hby := Bd.bytes
  have hml : c.maxLocals = 2 := hml0
  have hown : s.vm.findClass "java/lang/String" = some m.cls := findClass_of_methodNamed Bd.named
  have hnm := (name_of_methodNamed Bd.named Bd.method).1
  have X0 : Stand p l e ({ frames := 1, cells := 0, slots := 0, locals := 14 } : Room) s m #[(.int p1), (.int p2)] below meth c s₁ [] 0 0 := Stand.of_body Bd
  have N0 := Fr.nil n0
  have K0 : Keep h0 h0 [] := Keep.refl _ _
  rw [ef_rm6]
  rcases ref_cases rG3 with rfl | ⟨g3, rfl⟩
  · obtain ⟨T101, X101, e101, st101⟩ := getS2 X0 hx hZ hown (host := "") (Or.inl (hw _ (List.mem_of_getElem? (i := 36) rfl))) Via.refl e0 S_f (g := (mkF m 2 #[.val (.int p1), .val (.int p2)] [(.int p2), (.int p1)])) rfl (hb hby d6_2)
    obtain ⟨v102, T102, L102, X102, q102, st102⟩ := own_callS X101 hx hZ (y := (⟨"jdk/internal/util/Preconditions", "checkIndex", "(IILjava/util/function/BiFunction;)I"⟩ : MethodName)) hown (hw _ (List.mem_of_getElem? (i := 38) rfl)) (hw _ (List.mem_of_getElem? (i := 39) rfl)) (hw _ (List.mem_of_getElem? (i := 37) rfl)) (hw _ (List.mem_of_getElem? (i := 40) rfl)) (by decide) (hM := (rm7z l Z a0 hw [] p1 p2 h0 n0 Z0 hlo hhi)) (by decide) (by decide) (by decide) (by decide) e101 (argsL := [(.int p1), (.int p2), .null]) (rest := []) (Ls := #[.val (.int p1), .val (.int p2)]) (by rw [hml]; rfl) (lenOf pd__IILjava_util_function_BiFunction__I rfl) (W := 0) (Nat.le_of_eq rfl) (hb hby d6_5)
    obtain ⟨rfl, N102q, e102⟩ := q102
    have N102 := Fr.app N0 N102q
    refine Gl.fin X102 (v := none) (fun _ => rfl) Bd.notSynchronized ?_ e102 (by decide) (by decide) (fun fs hr => ?_)
    · exact ⟨rfl, N102, rfl⟩
    · show Steps p.tables e below (s₁.setTop (mkF m 0 #[.val (.int p1), .val (.int p2)] [])) _
      refine XS.iloadN X0.here hx rfl (hb hby d6_0) rfl ?_
      show Steps p.tables e below (s₁.setTop (mkF m 1 #[.val (.int p1), .val (.int p2)] [(.int p1)])) _
      refine XS.iloadN X0.here hx rfl (hb hby d6_1) rfl ?_
      show Steps p.tables e below (s₁.setTop (mkF m 2 #[.val (.int p1), .val (.int p2)] [(.int p2), (.int p1)])) _
      refine st101 _ ?_
      show Steps p.tables e below (T101.setTop (mkF m 5 #[.val (.int p1), .val (.int p2)] [.null, (.int p2), (.int p1)])) _
      refine st102 _ ?_
      show Steps p.tables e below (T102.setTop (mkF m 8 #[.val (.int p1), .val (.int p2)] [(.int p1)])) _
      refine XS.pop X102.here hx rfl (hb hby d6_8) rfl rfl ?_
      show Steps p.tables e below (T102.setTop (mkF m 9 #[.val (.int p1), .val (.int p2)] [])) _
      exact X102.returnOut hx Bd.returns (hb hby d6_9) hr
  · obtain ⟨T103, X103, e103, st103⟩ := getS2 X0 hx hZ hown (host := "") (Or.inl (hw _ (List.mem_of_getElem? (i := 36) rfl))) Via.refl e0 S_f (g := (mkF m 2 #[.val (.int p1), .val (.int p2)] [(.int p2), (.int p1)])) rfl (hb hby d6_2)
    obtain ⟨v104, T104, L104, X104, q104, st104⟩ := own_callS X103 hx hZ (y := (⟨"jdk/internal/util/Preconditions", "checkIndex", "(IILjava/util/function/BiFunction;)I"⟩ : MethodName)) hown (hw _ (List.mem_of_getElem? (i := 38) rfl)) (hw _ (List.mem_of_getElem? (i := 39) rfl)) (hw _ (List.mem_of_getElem? (i := 37) rfl)) (hw _ (List.mem_of_getElem? (i := 40) rfl)) (by decide) (hM := (rm7r l Z a0 hw [] p1 p2 g3 h0 n0 Z0 hlo hhi)) (by decide) (by decide) (by decide) (by decide) e103 (argsL := [(.int p1), (.int p2), (.ref g3)]) (rest := []) (Ls := #[.val (.int p1), .val (.int p2)]) (by rw [hml]; rfl) (lenOf pd__IILjava_util_function_BiFunction__I rfl) (W := 0) (Nat.le_of_eq rfl) (hb hby d6_5)
    obtain ⟨rfl, N104q, e104⟩ := q104
    have N104 := Fr.app N0 N104q
    refine Gl.fin X104 (v := none) (fun _ => rfl) Bd.notSynchronized ?_ e104 (by decide) (by decide) (fun fs hr => ?_)
    · exact ⟨rfl, N104, rfl⟩
    · show Steps p.tables e below (s₁.setTop (mkF m 0 #[.val (.int p1), .val (.int p2)] [])) _
      refine XS.iloadN X0.here hx rfl (hb hby d6_0) rfl ?_
      show Steps p.tables e below (s₁.setTop (mkF m 1 #[.val (.int p1), .val (.int p2)] [(.int p1)])) _
      refine XS.iloadN X0.here hx rfl (hb hby d6_1) rfl ?_
      show Steps p.tables e below (s₁.setTop (mkF m 2 #[.val (.int p1), .val (.int p2)] [(.int p2), (.int p1)])) _
      refine st103 _ ?_
      show Steps p.tables e below (T103.setTop (mkF m 5 #[.val (.int p1), .val (.int p2)] [(.ref g3), (.int p2), (.int p1)])) _
      refine st104 _ ?_
      show Steps p.tables e below (T104.setTop (mkF m 8 #[.val (.int p1), .val (.int p2)] [(.int p1)])) _
      refine XS.pop X104.here hx rfl (hb hby d6_8) rfl rfl ?_
      show Steps p.tables e below (T104.setTop (mkF m 9 #[.val (.int p1), .val (.int p2)] [])) _
      exact X104.returnOut hx Bd.returns (hb hby d6_9) hr
theorem pn_java_lang_StringLatin1 : plainName "java/lang/StringLatin1" = true := by first | (simp [plainName, overriddenIn]; done) | decide +kernel
theorem ef_rm5 (m : MethodId) (x0 : Addr) (x1 : Int32) : entryFrame m #[(.ref x0), (.int x1)] 2 = mkF m 0 #[.val (.ref x0), .val (.int x1)] [] := by first | (simp [entryFrame, mkF, argsToLocals, Value.category]; done) | rfl
theorem d5_0 : decode jdk_43_method_2_code 0 = .ok (.iload_n 1, 1) := by decide +kernel
theorem d5_1 : decode jdk_43_method_2_code 1 = .ok (.aload_n 0, 1) := by decide +kernel
theorem d5_2 : decode jdk_43_method_2_code 2 = .ok (.arraylength, 1) := by decide +kernel
theorem d5_3 : decode jdk_43_method_2_code 3 = .ok (.invokestatic 9, 3) := by decide +kernel
theorem pd__II_V : parseMethodDescriptor "(II)V" = some ⟨[.int, .int], none⟩ := by decide +kernel
theorem d5_6 : decode jdk_43_method_2_code 6 = .ok (.aload_n 0, 1) := by decide +kernel
theorem d5_7 : decode jdk_43_method_2_code 7 = .ok (.iload_n 1, 1) := by decide +kernel
theorem d5_8 : decode jdk_43_method_2_code 8 = .ok (.baload, 1) := by decide +kernel
theorem d5_9 : decode jdk_43_method_2_code 9 = .ok (.sipush 255, 3) := by decide +kernel
theorem d5_12 : decode jdk_43_method_2_code 12 = .ok (.iand, 1) := by decide +kernel
theorem d5_13 : decode jdk_43_method_2_code 13 = .ok (.i2c, 1) := by decide +kernel
theorem d5_14 : decode jdk_43_method_2_code 14 = .ok (.ireturn, 1) := by decide +kernel
def Q5 (Z : State) (b1 : Addr) (p1 : Int32) (bk : ClassId) (bn : Int32) (bv : List Value) (x1 : Int32) (y1 : Int32) (G3 : Value) (h0 : Heap) (n0 : Nat) (v : Option Value) (h : Heap) (L : List Loc) : Prop := v = some (.int y1) ∧ Fr n0 L ∧ h = h0
set_option maxRecDepth 65536 in
set_option maxHeartbeats 40000000 in
theorem rm5 (l : Launch) (Z : State) (a0 : Array Value) (hw : ∀ d ∈ tables_1, d.before a0 Z = true) (ws : List Jvm.Cond) (b1 : Addr) (p1 : Int32) (bk : ClassId) (bn : Int32) (bv : List Value) (x1 : Int32) (y1 : Int32) (G3 : Value) (h0 : Heap) (n0 : Nat) (Z0 : n0 ≤ h0.size) (V_b : Arv Z h0 b1 bk .byte bn bv (.int (0 : Int32))) (S_f : Sta Z h0 "jdk/internal/util/Preconditions" "SIOOBE_FORMATTER" "Ljava/util/function/BiFunction;" G3) (rG3 : G3.isRef = true) (hlo : ¬ p1 < 0) (hhi : p1 < bn) (hat : bv.getD p1.toNatClampNeg (.int (0 : Int32)) = .int x1) (hy : x1 &&& 255 = y1) :
    OMet l Z (⟨"java/lang/StringLatin1", "charAt", "([BI)C"⟩ : MethodName) jdk_43_method_2_code 2 (some .char) ws ({ frames := 2, cells := 0, slots := 0, locals := 27 } : Room) #[(.ref b1), (.int p1)] h0 (Q5 Z b1 p1 bk bn bv x1 y1 G3 h0 n0) := by
  refine own_body (plainFor_of_name pn_java_lang_StringLatin1) ?_
  intro p e s m below meth c s₁ Bd hml0 hZ e0
  have hx := Bd.exec
  have hby := Bd.bytes
  have hml : c.maxLocals = 2 := hml0
  have hown : s.vm.findClass "java/lang/StringLatin1" = some m.cls := findClass_of_methodNamed Bd.named
  have hnm := (name_of_methodNamed Bd.named Bd.method).1
  have X0 : Stand p l e ({ frames := 2, cells := 0, slots := 0, locals := 27 } : Room) s m #[(.ref b1), (.int p1)] below meth c s₁ [] 0 0 := Stand.of_body Bd
  have N0 := Fr.nil n0
  have K0 : Keep h0 h0 [] := Keep.refl _ _
  rw [ef_rm5]
  obtain ⟨cl101, Ar101, qa101, Sa101, Na101, Ha101, Ga101⟩ := id V_b
  obtain ⟨v102, T102, L102, X102, q102, st102⟩ := own_callS X0 hx hZ (y := (⟨"java/lang/String", "checkIndex", "(II)V"⟩ : MethodName)) hown (hw _ (List.mem_of_getElem? (i := 33) rfl)) (hw _ (List.mem_of_getElem? (i := 34) rfl)) (hw _ (List.mem_of_getElem? (i := 9) rfl)) (hw _ (List.mem_of_getElem? (i := 35) rfl)) (by decide) (hM := (rm6 l Z a0 hw [] p1 bn G3 h0 n0 Z0 S_f rG3 hlo hhi)) (by decide) (by decide) (by decide) (by decide) e0 (argsL := [(.int p1), (.int bn)]) (rest := []) (Ls := #[.val (.ref b1), .val (.int p1)]) (by rw [hml]; rfl) (lenOf pd__II_V rfl) (W := 0) (Nat.le_of_eq rfl) (hb hby d5_3)
  obtain ⟨rfl, N102q, e102⟩ := q102
  have N102 := Fr.app N0 N102q
  obtain ⟨cl103, Ar103, qa103, Sa103, Na103, Ha103, Ga103⟩ := id V_b
  have hin103 : ¬ (p1 < 0 ∨ cl103.slots.size ≤ (p1).toNatClampNeg) := inb_of Sa103 ⟨hlo, hhi⟩
  have hat103 := Ha103.at (v := (.int x1)) hin103 hat
  refine Gl.fin X102 (v := some (.int y1)) (fun h => by rw [Bd.returns] at h; cases h) Bd.notSynchronized ?_ e102 (by decide) (by decide) (fun fs hr => ?_)
  · exact ⟨rfl, N102, rfl⟩
  · show Steps p.tables e below (s₁.setTop (mkF m 0 #[.val (.ref b1), .val (.int p1)] [])) _
    refine XS.iloadN X0.here hx rfl (hb hby d5_0) rfl ?_
    show Steps p.tables e below (s₁.setTop (mkF m 1 #[.val (.ref b1), .val (.int p1)] [(.int p1)])) _
    refine XS.aloadN X0.here hx rfl (hb hby d5_1) rfl rfl ?_
    show Steps p.tables e below (s₁.setTop (mkF m 2 #[.val (.ref b1), .val (.int p1)] [(.ref b1), (.int p1)])) _
    refine X0.arraylength hx (own_hc e0 Ar101.1) (State.isArrayOf_alike hZ.alike Ar101.2.1) (g := (mkF m 2 #[.val (.ref b1), .val (.int p1)] [(.ref b1), (.int p1)])) rfl rfl (hb hby d5_2) _ ?_
    rw [len_of Sa101 Na101]
    show Steps p.tables e below (s₁.setTop (mkF m 3 #[.val (.ref b1), .val (.int p1)] [(.int bn), (.int p1)])) _
    refine st102 _ ?_
    show Steps p.tables e below (T102.setTop (mkF m 6 #[.val (.ref b1), .val (.int p1)] [])) _
    refine XS.aloadN X102.here hx rfl (hb hby d5_6) rfl rfl ?_
    show Steps p.tables e below (T102.setTop (mkF m 7 #[.val (.ref b1), .val (.int p1)] [(.ref b1)])) _
    refine XS.iloadN X102.here hx rfl (hb hby d5_7) rfl ?_
    show Steps p.tables e below (T102.setTop (mkF m 8 #[.val (.ref b1), .val (.int p1)] [(.int p1), (.ref b1)])) _
    refine X102.baloadBytes hx (j := p1) (v := (.int x1)) (own_hc e102 Ar103.1) (State.isArrayOf_alike hZ.alike Ar103.2.1) Ar103.2.2 hin103 hat103 (g := (mkF m 8 #[.val (.ref b1), .val (.int p1)] [(.int p1), (.ref b1)])) rfl rfl (hb hby d5_8) _ ?_
    show Steps p.tables e below (T102.setTop (mkF m 9 #[.val (.ref b1), .val (.int p1)] [(.int x1)])) _
    refine XS.sipush X102.here hx rfl (hb hby d5_9) ?_
    show Steps p.tables e below (T102.setTop (mkF m 12 #[.val (.ref b1), .val (.int p1)] [(.int (255 : Int32)), (.int x1)])) _
    refine XS.iand X102.here hx rfl (hb hby d5_12) rfl ?_
    show Steps p.tables e below (T102.setTop (mkF m 13 #[.val (.ref b1), .val (.int p1)] [(.int (x1 &&& (255 : Int32)))])) _
    refine XS.i2c X102.here hx rfl (hb hby d5_13) rfl ?_
    show Steps p.tables e below (T102.setTop (mkF m 14 #[.val (.ref b1), .val (.int p1)] [(.int ((x1 &&& (255 : Int32)).toUInt32.toUInt16.toUInt32.toInt32))])) _
    exact own_retN X102 hx (t := .char) (z' := y1) Bd.returns (by simp) ((own_narc255 x1).trans hy) (hb hby d5_14) hr
theorem ef_rm4 (m : MethodId) (x0 : Addr) : entryFrame m #[(.ref x0)] 1 = mkF m 0 #[.val (.ref x0)] [] := by first | (simp [entryFrame, mkF, argsToLocals, Value.category]; done) | rfl
theorem d4_0 : decode jdk_42_method_154_code 0 = .ok (.getstatic 38, 3) := by decide +kernel
theorem d4_3 : decode jdk_42_method_154_code 3 = .ok (.ifCond .eq 14, 3) := by decide +kernel
theorem d4_6 : decode jdk_42_method_154_code 6 = .ok (.aload_n 0, 1) := by decide +kernel
theorem d4_7 : decode jdk_42_method_154_code 7 = .ok (.getfield 15, 3) := by decide +kernel
theorem d4_10 : decode jdk_42_method_154_code 10 = .ok (.ifCond .ne 7, 3) := by decide +kernel
theorem d4_13 : decode jdk_42_method_154_code 13 = .ok (.iconst 1, 1) := by decide +kernel
theorem d4_14 : decode jdk_42_method_154_code 14 = .ok (.goto 4, 3) := by decide +kernel
theorem d4_18 : decode jdk_42_method_154_code 18 = .ok (.ireturn, 1) := by decide +kernel
def Q4 (Z : State) (a1 : Addr) (cs : Int32) (h0 : Heap) (n0 : Nat) (v : Option Value) (h : Heap) (L : List Loc) : Prop := v = some (.int 1) ∧ Fr n0 L ∧ h = h0
set_option maxRecDepth 65536 in
set_option maxHeartbeats 40000000 in
theorem rm4 (l : Launch) (Z : State) (a0 : Array Value) (hw : ∀ d ∈ tables_1, d.before a0 Z = true) (ws : List Jvm.Cond) (a1 : Addr) (cs : Int32) (h0 : Heap) (n0 : Nat) (Z0 : n0 ≤ h0.size) (S_c : Sta Z h0 "java/lang/String" "COMPACT_STRINGS" "Z" (.int cs)) (hcs : ¬ cs = 0) (F_c : Fld Z h0 a1 "java/lang/String" "coder" "B" (.int (0 : Int32))) :
    OMet l Z (⟨"java/lang/String", "isLatin1", "()Z"⟩ : MethodName) jdk_42_method_154_code 1 (some .boolean) ws ({ frames := 0, cells := 0, slots := 0, locals := 0 } : Room) #[(.ref a1)] h0 (Q4 Z a1 cs h0 n0) := by
  refine own_body (plainFor_of_name pn_java_lang_String) ?_
  intro p e s m below meth c s₁ Bd hml0 hZ e0
  have hx := Bd.exec
  have hby := Bd.bytes
  have hml : c.maxLocals = 1 := hml0
  have hown : s.vm.findClass "java/lang/String" = some m.cls := findClass_of_methodNamed Bd.named
  have hnm := (name_of_methodNamed Bd.named Bd.method).1
  have X0 : Stand p l e ({ frames := 0, cells := 0, slots := 0, locals := 0 } : Room) s m #[(.ref a1)] below meth c s₁ [] 0 0 := Stand.of_body Bd
  have N0 := Fr.nil n0
  have K0 : Keep h0 h0 [] := Keep.refl _ _
  rw [ef_rm4]
  obtain ⟨T101, X101, e101, st101⟩ := getS2 X0 hx hZ hown (host := "") (Or.inl (hw _ (List.mem_of_getElem? (i := 26) rfl))) Via.refl e0 S_c (g := (mkF m 0 #[.val (.ref a1)] [])) rfl (hb hby d4_0)
  obtain ⟨T102, X102, e102, st102⟩ := getF X101 hx hZ hown (host := "") (Or.inl (hw _ (List.mem_of_getElem? (i := 27) rfl))) Via.refl e101 F_c (g := (mkF m 7 #[.val (.ref a1)] [(.ref a1)])) rfl rfl (hb hby d4_7)
  refine Gl.fin X102 (v := some (.int (1 : Int32))) (fun h => by rw [Bd.returns] at h; cases h) Bd.notSynchronized ?_ e102 (by decide) (by decide) (fun fs hr => ?_)
  · exact ⟨rfl, N0, rfl⟩
  · show Steps p.tables e below (s₁.setTop (mkF m 0 #[.val (.ref a1)] [])) _
    refine st101 _ ?_
    show Steps p.tables e below (T101.setTop (mkF m 3 #[.val (.ref a1)] [(.int cs)])) _
    refine XS.ifNo X101.here hx rfl (hb hby d4_3) rfl (own_f (i0_eq _) hcs) ?_
    show Steps p.tables e below (T101.setTop (mkF m 6 #[.val (.ref a1)] [])) _
    refine XS.aloadN X101.here hx rfl (hb hby d4_6) rfl rfl ?_
    show Steps p.tables e below (T101.setTop (mkF m 7 #[.val (.ref a1)] [(.ref a1)])) _
    refine st102 _ ?_
    show Steps p.tables e below (T102.setTop (mkF m 10 #[.val (.ref a1)] [(.int (0 : Int32))])) _
    refine XS.ifNo X102.here hx rfl (hb hby d4_10) rfl (own_nf (i0_ne _) (by decide)) ?_
    show Steps p.tables e below (T102.setTop (mkF m 13 #[.val (.ref a1)] [])) _
    refine XS.iconst X102.here hx rfl (hb hby d4_13) ?_
    show Steps p.tables e below (T102.setTop (mkF m 14 #[.val (.ref a1)] [(.int (1 : Int32))])) _
    refine XS.goto X102.here hx rfl (pc0 := 14) (pc' := 18) rfl (hb hby d4_14) (by decide) (by decide) ?_
    show Steps p.tables e below (T102.setTop (mkF m 18 #[.val (.ref a1)] [(.int (1 : Int32))])) _
    exact retN X102 hx (t := .boolean) Bd.returns (by simp) (hb hby d4_18) hr
theorem ef_rm3 (m : MethodId) (x0 : Addr) (x1 : Int32) : entryFrame m #[(.ref x0), (.int x1)] 2 = mkF m 0 #[.val (.ref x0), .val (.int x1)] [] := by first | (simp [entryFrame, mkF, argsToLocals, Value.category]; done) | rfl
theorem d3_0 : decode jdk_42_method_56_code 0 = .ok (.aload_n 0, 1) := by decide +kernel
theorem d3_1 : decode jdk_42_method_56_code 1 = .ok (.invokevirtual 492, 3) := by decide +kernel
theorem pd___Z : parseMethodDescriptor "()Z" = some ⟨[], some .boolean⟩ := by decide +kernel
theorem d3_4 : decode jdk_42_method_56_code 4 = .ok (.ifCond .eq 12, 3) := by decide +kernel
theorem d3_7 : decode jdk_42_method_56_code 7 = .ok (.aload_n 0, 1) := by decide +kernel
theorem d3_8 : decode jdk_42_method_56_code 8 = .ok (.getfield 9, 3) := by decide +kernel
theorem d3_11 : decode jdk_42_method_56_code 11 = .ok (.iload_n 1, 1) := by decide +kernel
theorem d3_12 : decode jdk_42_method_56_code 12 = .ok (.invokestatic 495, 3) := by decide +kernel
theorem pd___BI_C : parseMethodDescriptor "([BI)C" = some ⟨[(.array .byte), .int], some .char⟩ := by decide +kernel
theorem d3_15 : decode jdk_42_method_56_code 15 = .ok (.ireturn, 1) := by decide +kernel
def Q3 (Z : State) (a1 : Addr) (p1 : Int32) (b1 : Addr) (bk : ClassId) (bn : Int32) (bv : List Value) (x1 : Int32) (y1 : Int32) (cs : Int32) (G3 : Value) (h0 : Heap) (n0 : Nat) (v : Option Value) (h : Heap) (L : List Loc) : Prop := v = some (.int y1) ∧ Fr n0 L ∧ h = h0
set_option maxRecDepth 65536 in
set_option maxHeartbeats 40000000 in
theorem rm3 (l : Launch) (Z : State) (a0 : Array Value) (hw : ∀ d ∈ tables_1, d.before a0 Z = true) (ws : List Jvm.Cond) (a1 : Addr) (p1 : Int32) (b1 : Addr) (bk : ClassId) (bn : Int32) (bv : List Value) (x1 : Int32) (y1 : Int32) (cs : Int32) (G3 : Value) (h0 : Heap) (n0 : Nat) (Z0 : n0 ≤ h0.size) (S_c : Sta Z h0 "java/lang/String" "COMPACT_STRINGS" "Z" (.int cs)) (hcs : ¬ cs = 0) (E_a : Exa Z h0 a1 "java/lang/String") (F_v : Fld Z h0 a1 "java/lang/String" "value" "[B" (.ref b1)) (F_c : Fld Z h0 a1 "java/lang/String" "coder" "B" (.int (0 : Int32))) (V_b : Arv Z h0 b1 bk .byte bn bv (.int (0 : Int32))) (S_f : Sta Z h0 "jdk/internal/util/Preconditions" "SIOOBE_FORMATTER" "Ljava/util/function/BiFunction;" G3) (rG3 : G3.isRef = true) (hlo : ¬ p1 < 0) (hhi : p1 < bn) (hat : bv.getD p1.toNatClampNeg (.int (0 : Int32)) = .int x1) (hy : x1 &&& 255 = y1) :
    OMet l Z (⟨"java/lang/String", "charAt", "(I)C"⟩ : MethodName) jdk_42_method_56_code 2 (some .char) ws ({ frames := 3, cells := 0, slots := 0, locals := 40 } : Room) #[(.ref a1), (.int p1)] h0 (Q3 Z a1 p1 b1 bk bn bv x1 y1 cs G3 h0 n0) := by
  refine own_body (plainFor_of_name pn_java_lang_String) ?_
  intro p e s m below meth c s₁ Bd hml0 hZ e0
  have hx := Bd.exec
  have hby := Bd.bytes
  have hml : c.maxLocals = 2 := hml0
  have hown : s.vm.findClass "java/lang/String" = some m.cls := findClass_of_methodNamed Bd.named
  have hnm := (name_of_methodNamed Bd.named Bd.method).1
  have X0 : Stand p l e ({ frames := 3, cells := 0, slots := 0, locals := 40 } : Room) s m #[(.ref a1), (.int p1)] below meth c s₁ [] 0 0 := Stand.of_body Bd
  have N0 := Fr.nil n0
  have K0 : Keep h0 h0 [] := Keep.refl _ _
  rw [ef_rm3]
  obtain ⟨v101, T101, L101, X101, q101, st101⟩ := own_callV X0 hx hZ (y := (⟨"java/lang/String", "isLatin1", "()Z"⟩ : MethodName)) (z := (⟨"java/lang/String", "isLatin1", "()Z"⟩ : MethodName)) hown (hw _ (List.mem_of_getElem? (i := 21) rfl)) (hw _ (List.mem_of_getElem? (i := 22) rfl)) (notFace_of_selects (args := #[]) (mvT hZ (hw _ (List.mem_of_getElem? (i := 24) rfl)))) (hw _ (List.mem_of_getElem? (i := 24) rfl)) (hw _ (List.mem_of_getElem? (i := 23) rfl)) (hw _ (List.mem_of_getElem? (i := 9) rfl)) (hw _ (List.mem_of_getElem? (i := 25) rfl)) (by decide) E_a (hM := (rm4 l Z a0 hw [] a1 cs h0 n0 Z0 S_c hcs F_c)) (by decide) (by decide) (by decide) (by decide) e0 (argsL := []) (rest := []) (Ls := #[.val (.ref a1), .val (.int p1)]) (by rw [hml]; rfl) (lenOf pd___Z rfl) (W := 0) (Nat.le_of_eq rfl) (hb hby d3_1)
  obtain ⟨rfl, N101q, e101⟩ := q101
  have N101 := Fr.app N0 N101q
  obtain ⟨T102, X102, e102, st102⟩ := getF X101 hx hZ hown (host := "") (Or.inl (hw _ (List.mem_of_getElem? (i := 28) rfl))) Via.refl e101 F_v (g := (mkF m 8 #[.val (.ref a1), .val (.int p1)] [(.ref a1)])) rfl rfl (hb hby d3_8)
  obtain ⟨v103, T103, L103, X103, q103, st103⟩ := own_callS X102 hx hZ (y := (⟨"java/lang/StringLatin1", "charAt", "([BI)C"⟩ : MethodName)) hown (hw _ (List.mem_of_getElem? (i := 29) rfl)) (hw _ (List.mem_of_getElem? (i := 30) rfl)) (hw _ (List.mem_of_getElem? (i := 31) rfl)) (hw _ (List.mem_of_getElem? (i := 32) rfl)) (by decide) (hM := (rm5 l Z a0 hw [] b1 p1 bk bn bv x1 y1 G3 h0 n0 Z0 V_b S_f rG3 hlo hhi hat hy)) (by decide) (by decide) (by decide) (by decide) e102 (argsL := [(.ref b1), (.int p1)]) (rest := []) (Ls := #[.val (.ref a1), .val (.int p1)]) (by rw [hml]; rfl) (lenOf pd___BI_C rfl) (W := 0) (Nat.le_of_eq rfl) (hb hby d3_12)
  obtain ⟨rfl, N103q, e103⟩ := q103
  have N103 := Fr.app N101 N103q
  refine Gl.fin X103 (v := some (.int y1)) (fun h => by rw [Bd.returns] at h; cases h) Bd.notSynchronized ?_ e103 (by decide) (by decide) (fun fs hr => ?_)
  · exact ⟨rfl, N103, rfl⟩
  · show Steps p.tables e below (s₁.setTop (mkF m 0 #[.val (.ref a1), .val (.int p1)] [])) _
    refine XS.aloadN X0.here hx rfl (hb hby d3_0) rfl rfl ?_
    show Steps p.tables e below (s₁.setTop (mkF m 1 #[.val (.ref a1), .val (.int p1)] [(.ref a1)])) _
    refine st101 _ ?_
    show Steps p.tables e below (T101.setTop (mkF m 4 #[.val (.ref a1), .val (.int p1)] [(.int (1 : Int32))])) _
    refine XS.ifNo X101.here hx rfl (hb hby d3_4) rfl (own_f (i0_eq _) (by decide)) ?_
    show Steps p.tables e below (T101.setTop (mkF m 7 #[.val (.ref a1), .val (.int p1)] [])) _
    refine XS.aloadN X101.here hx rfl (hb hby d3_7) rfl rfl ?_
    show Steps p.tables e below (T101.setTop (mkF m 8 #[.val (.ref a1), .val (.int p1)] [(.ref a1)])) _
    refine st102 _ ?_
    show Steps p.tables e below (T102.setTop (mkF m 11 #[.val (.ref a1), .val (.int p1)] [(.ref b1)])) _
    refine XS.iloadN X102.here hx rfl (hb hby d3_11) rfl ?_
    show Steps p.tables e below (T102.setTop (mkF m 12 #[.val (.ref a1), .val (.int p1)] [(.int p1), (.ref b1)])) _
    refine st103 _ ?_
    show Steps p.tables e below (T103.setTop (mkF m 15 #[.val (.ref a1), .val (.int p1)] [(.int y1)])) _
    exact own_retN X103 hx (t := .char) (z' := y1) Bd.returns (by simp) (own_narc hy) (hb hby d3_15) hr
theorem pn_com_example_eider_eider_Ascii : plainName "com/example/eider/eider/Ascii" = true := by first | (simp [plainName, overriddenIn]; done) | decide +kernel
theorem ef_rm2 (m : MethodId) (x0 : Int32) : entryFrame m #[(.int x0)] 1 = mkF m 0 #[.val (.int x0)] [] := by first | (simp [entryFrame, mkF, argsToLocals, Value.category]; done) | rfl
theorem d2_0 : decode prog_1_method_4_code 0 = .ok (.iload_n 0, 1) := by decide +kernel
theorem d2_1 : decode prog_1_method_4_code 1 = .ok (.bipush 65, 2) := by decide +kernel
theorem d2_3 : decode prog_1_method_4_code 3 = .ok (.if_icmp .lt 13, 3) := by decide +kernel
theorem d2_16 : decode prog_1_method_4_code 16 = .ok (.iconst 0, 1) := by decide +kernel
theorem d2_17 : decode prog_1_method_4_code 17 = .ok (.ireturn, 1) := by decide +kernel
theorem d2_6 : decode prog_1_method_4_code 6 = .ok (.iload_n 0, 1) := by decide +kernel
theorem d2_7 : decode prog_1_method_4_code 7 = .ok (.bipush 90, 2) := by decide +kernel
theorem d2_9 : decode prog_1_method_4_code 9 = .ok (.if_icmp .gt 7, 3) := by decide +kernel
theorem d2_12 : decode prog_1_method_4_code 12 = .ok (.iconst 1, 1) := by decide +kernel
theorem d2_13 : decode prog_1_method_4_code 13 = .ok (.goto 4, 3) := by decide +kernel
def Q2 (Z : State) (p1 : Int32) (h0 : Heap) (n0 : Nat) (v : Option Value) (h : Heap) (L : List Loc) : Prop := v = some (.int (b2i (decide (¬ p1 < 65 ∧ ¬ 90 < p1)))) ∧ Fr n0 L ∧ h = h0
set_option maxRecDepth 65536 in
set_option maxHeartbeats 40000000 in
theorem rm2 (l : Launch) (Z : State) (a0 : Array Value) (hw : ∀ d ∈ tables_1, d.before a0 Z = true) (ws : List Jvm.Cond) (p1 : Int32) (h0 : Heap) (n0 : Nat) (Z0 : n0 ≤ h0.size) :
    OMet l Z (⟨"com/example/eider/eider/Ascii", "isUpperCase", "(C)Z"⟩ : MethodName) prog_1_method_4_code 1 (some .boolean) ws ({ frames := 0, cells := 0, slots := 0, locals := 0 } : Room) #[(.int p1)] h0 (Q2 Z p1 h0 n0) := by
  refine own_body (plainFor_of_name pn_com_example_eider_eider_Ascii) ?_
  intro p e s m below meth c s₁ Bd hml0 hZ e0
  have hx := Bd.exec
  have hby := Bd.bytes
  have hml : c.maxLocals = 1 := hml0
  have hown : s.vm.findClass "com/example/eider/eider/Ascii" = some m.cls := findClass_of_methodNamed Bd.named
  have hnm := (name_of_methodNamed Bd.named Bd.method).1
  have X0 : Stand p l e ({ frames := 0, cells := 0, slots := 0, locals := 0 } : Room) s m #[(.int p1)] below meth c s₁ [] 0 0 := Stand.of_body Bd
  have N0 := Fr.nil n0
  have K0 : Keep h0 h0 [] := Keep.refl _ _
  rw [ef_rm2]
  refine Gl.pre (S' := s₁.setTop (mkF m 3 #[.val (.int p1)] [(.int (65 : Int32)), (.int p1)])) (fun t kt => ?_) ?_
  · show Steps p.tables e below (s₁.setTop (mkF m 0 #[.val (.int p1)] [])) _
    refine XS.iloadN X0.here hx rfl (hb hby d2_0) rfl ?_
    show Steps p.tables e below (s₁.setTop (mkF m 1 #[.val (.int p1)] [(.int p1)])) _
    refine XS.bipush X0.here hx rfl (hb hby d2_1) ?_
    exact kt
  by_cases hc3 : p1 < (65 : Int32)
  · refine Gl.fin X0 (v := some (.int (0 : Int32))) (fun h => by rw [Bd.returns] at h; cases h) Bd.notSynchronized ?_ e0 (by decide) (by decide) (fun fs hr => ?_)
    · exact ⟨by simp [b2i, hc3], N0, rfl⟩
    · show Steps p.tables e below (s₁.setTop (mkF m 3 #[.val (.int p1)] [(.int (65 : Int32)), (.int p1)])) _
      refine XS.icmpYes X0.here hx rfl (pc0 := 3) (pc' := 16) rfl (hb hby d2_3) rfl (own_t (ic_lt _ _) hc3) (by decide) (by decide) ?_
      show Steps p.tables e below (s₁.setTop (mkF m 16 #[.val (.int p1)] [])) _
      refine XS.iconst X0.here hx rfl (hb hby d2_16) ?_
      show Steps p.tables e below (s₁.setTop (mkF m 17 #[.val (.int p1)] [(.int (0 : Int32))])) _
      exact retN X0 hx (t := .boolean) Bd.returns (by simp) (hb hby d2_17) hr
  · refine Gl.pre (S' := s₁.setTop (mkF m 9 #[.val (.int p1)] [(.int (90 : Int32)), (.int p1)])) (fun t kt => ?_) ?_
    · show Steps p.tables e below (s₁.setTop (mkF m 3 #[.val (.int p1)] [(.int (65 : Int32)), (.int p1)])) _
      refine XS.icmpNo X0.here hx rfl (hb hby d2_3) rfl (own_f (ic_lt _ _) hc3) ?_
      show Steps p.tables e below (s₁.setTop (mkF m 6 #[.val (.int p1)] [])) _
      refine XS.iloadN X0.here hx rfl (hb hby d2_6) rfl ?_
      show Steps p.tables e below (s₁.setTop (mkF m 7 #[.val (.int p1)] [(.int p1)])) _
      refine XS.bipush X0.here hx rfl (hb hby d2_7) ?_
      exact kt
    by_cases hc9 : (90 : Int32) < p1
    · refine Gl.fin X0 (v := some (.int (0 : Int32))) (fun h => by rw [Bd.returns] at h; cases h) Bd.notSynchronized ?_ e0 (by decide) (by decide) (fun fs hr => ?_)
      · exact ⟨by simp [b2i, hc3, hc9], N0, rfl⟩
      · show Steps p.tables e below (s₁.setTop (mkF m 9 #[.val (.int p1)] [(.int (90 : Int32)), (.int p1)])) _
        refine XS.icmpYes X0.here hx rfl (pc0 := 9) (pc' := 16) rfl (hb hby d2_9) rfl (own_t (ic_gt _ _) hc9) (by decide) (by decide) ?_
        show Steps p.tables e below (s₁.setTop (mkF m 16 #[.val (.int p1)] [])) _
        refine XS.iconst X0.here hx rfl (hb hby d2_16) ?_
        show Steps p.tables e below (s₁.setTop (mkF m 17 #[.val (.int p1)] [(.int (0 : Int32))])) _
        exact retN X0 hx (t := .boolean) Bd.returns (by simp) (hb hby d2_17) hr
    · refine Gl.fin X0 (v := some (.int (1 : Int32))) (fun h => by rw [Bd.returns] at h; cases h) Bd.notSynchronized ?_ e0 (by decide) (by decide) (fun fs hr => ?_)
      · exact ⟨by simp [b2i, hc3, hc9], N0, rfl⟩
      · show Steps p.tables e below (s₁.setTop (mkF m 9 #[.val (.int p1)] [(.int (90 : Int32)), (.int p1)])) _
        refine XS.icmpNo X0.here hx rfl (hb hby d2_9) rfl (own_f (ic_gt _ _) hc9) ?_
        show Steps p.tables e below (s₁.setTop (mkF m 12 #[.val (.int p1)] [])) _
        refine XS.iconst X0.here hx rfl (hb hby d2_12) ?_
        show Steps p.tables e below (s₁.setTop (mkF m 13 #[.val (.int p1)] [(.int (1 : Int32))])) _
        refine XS.goto X0.here hx rfl (pc0 := 13) (pc' := 17) rfl (hb hby d2_13) (by decide) (by decide) ?_
        show Steps p.tables e below (s₁.setTop (mkF m 17 #[.val (.int p1)] [(.int (1 : Int32))])) _
        exact retN X0 hx (t := .boolean) Bd.returns (by simp) (hb hby d2_17) hr
theorem ef_rm1 (m : MethodId) (x0 : Int32) : entryFrame m #[(.int x0)] 1 = mkF m 0 #[.val (.int x0)] [] := by first | (simp [entryFrame, mkF, argsToLocals, Value.category]; done) | rfl
theorem d1_0 : decode prog_1_method_2_code 0 = .ok (.iload_n 0, 1) := by decide +kernel
theorem d1_1 : decode prog_1_method_2_code 1 = .ok (.invokestatic 7, 3) := by decide +kernel
theorem pd__C_Z : parseMethodDescriptor "(C)Z" = some ⟨[.char], some .boolean⟩ := by decide +kernel
theorem d1_4 : decode prog_1_method_2_code 4 = .ok (.ifCond .eq 11, 3) := by decide +kernel
theorem d1_7 : decode prog_1_method_2_code 7 = .ok (.iload_n 0, 1) := by decide +kernel
theorem d1_8 : decode prog_1_method_2_code 8 = .ok (.bipush 32, 2) := by decide +kernel
theorem d1_10 : decode prog_1_method_2_code 10 = .ok (.iadd, 1) := by decide +kernel
theorem d1_11 : decode prog_1_method_2_code 11 = .ok (.i2c, 1) := by decide +kernel
theorem d1_12 : decode prog_1_method_2_code 12 = .ok (.goto 4, 3) := by decide +kernel
theorem d1_16 : decode prog_1_method_2_code 16 = .ok (.ireturn, 1) := by decide +kernel
theorem d1_15 : decode prog_1_method_2_code 15 = .ok (.iload_n 0, 1) := by decide +kernel
def Q1 (Z : State) (p1 : Int32) (h0 : Heap) (n0 : Nat) (v : Option Value) (h : Heap) (L : List Loc) : Prop := v = some (.int (own_lc p1)) ∧ Fr n0 L ∧ h = h0
set_option maxRecDepth 65536 in
set_option maxHeartbeats 40000000 in
theorem rm1 (l : Launch) (Z : State) (a0 : Array Value) (hw : ∀ d ∈ tables_1, d.before a0 Z = true) (ws : List Jvm.Cond) (p1 : Int32) (h0 : Heap) (n0 : Nat) (Z0 : n0 ≤ h0.size) (hrg : 0 ≤ p1.toInt ∧ p1.toInt ≤ 65535) :
    OMet l Z (⟨"com/example/eider/eider/Ascii", "lowerCase", "(C)C"⟩ : MethodName) prog_1_method_2_code 1 (some .char) ws ({ frames := 1, cells := 0, slots := 0, locals := 12 } : Room) #[(.int p1)] h0 (Q1 Z p1 h0 n0) := by
  refine own_body (plainFor_of_name pn_com_example_eider_eider_Ascii) ?_
  intro p e s m below meth c s₁ Bd hml0 hZ e0
  have hx := Bd.exec
  have hby := Bd.bytes
  have hml : c.maxLocals = 1 := hml0
  have hown : s.vm.findClass "com/example/eider/eider/Ascii" = some m.cls := findClass_of_methodNamed Bd.named
  have hnm := (name_of_methodNamed Bd.named Bd.method).1
  have X0 : Stand p l e ({ frames := 1, cells := 0, slots := 0, locals := 12 } : Room) s m #[(.int p1)] below meth c s₁ [] 0 0 := Stand.of_body Bd
  have N0 := Fr.nil n0
  have K0 : Keep h0 h0 [] := Keep.refl _ _
  rw [ef_rm1]
  obtain ⟨v101, T101, L101, X101, q101, st101⟩ := own_callS X0 hx hZ (y := (⟨"com/example/eider/eider/Ascii", "isUpperCase", "(C)Z"⟩ : MethodName)) hown (hw _ (List.mem_of_getElem? (i := 5) rfl)) (hw _ (List.mem_of_getElem? (i := 6) rfl)) (hw _ (List.mem_of_getElem? (i := 3) rfl)) (hw _ (List.mem_of_getElem? (i := 7) rfl)) (by decide) (hM := (rm2 l Z a0 hw [] p1 h0 n0 Z0)) (by decide) (by decide) (by decide) (by decide) e0 (argsL := [(.int p1)]) (rest := []) (Ls := #[.val (.int p1)]) (by rw [hml]; rfl) (lenOf pd__C_Z rfl) (W := 0) (Nat.le_of_eq rfl) (hb hby d1_1)
  obtain ⟨rfl, N101q, e101⟩ := q101
  have N101 := Fr.app N0 N101q
  refine Gl.pre (S' := T101.setTop (mkF m 4 #[.val (.int p1)] [(.int (b2i (decide (¬ p1 < 65 ∧ ¬ 90 < p1))))])) (fun t kt => ?_) ?_
  · show Steps p.tables e below (s₁.setTop (mkF m 0 #[.val (.int p1)] [])) _
    refine XS.iloadN X0.here hx rfl (hb hby d1_0) rfl ?_
    show Steps p.tables e below (s₁.setTop (mkF m 1 #[.val (.int p1)] [(.int p1)])) _
    refine st101 _ ?_
    exact kt
  by_cases hc4 : (decide (¬ p1 < 65 ∧ ¬ 90 < p1)) = true
  · refine Gl.fin X101 (v := some (.int (p1 + (32 : Int32)))) (fun h => by rw [Bd.returns] at h; cases h) Bd.notSynchronized ?_ e101 (by decide) (by decide) (fun fs hr => ?_)
    · exact ⟨congrArg (fun z => some (Value.int z)) (if_pos (of_decide_eq_true hc4)).symm, N101, rfl⟩
    · show Steps p.tables e below (T101.setTop (mkF m 4 #[.val (.int p1)] [(.int (b2i (decide (¬ p1 < 65 ∧ ¬ 90 < p1))))])) _
      refine XS.ifNo X101.here hx rfl (hb hby d1_4) rfl (own_nbf (b0_eq _) hc4) ?_
      show Steps p.tables e below (T101.setTop (mkF m 7 #[.val (.int p1)] [])) _
      refine XS.iloadN X101.here hx rfl (hb hby d1_7) rfl ?_
      show Steps p.tables e below (T101.setTop (mkF m 8 #[.val (.int p1)] [(.int p1)])) _
      refine XS.bipush X101.here hx rfl (hb hby d1_8) ?_
      show Steps p.tables e below (T101.setTop (mkF m 10 #[.val (.int p1)] [(.int (32 : Int32)), (.int p1)])) _
      refine XS.iadd X101.here hx rfl (hb hby d1_10) rfl ?_
      show Steps p.tables e below (T101.setTop (mkF m 11 #[.val (.int p1)] [(.int (p1 + (32 : Int32)))])) _
      refine XS.i2c X101.here hx rfl (hb hby d1_11) rfl ?_
      show Steps p.tables e below (T101.setTop (mkF m 12 #[.val (.int p1)] [(.int ((p1 + (32 : Int32)).toUInt32.toUInt16.toUInt32.toInt32))])) _
      refine XS.goto X101.here hx rfl (pc0 := 12) (pc' := 16) rfl (hb hby d1_12) (by decide) (by decide) ?_
      show Steps p.tables e below (T101.setTop (mkF m 16 #[.val (.int p1)] [(.int ((p1 + (32 : Int32)).toUInt32.toUInt16.toUInt32.toInt32))])) _
      exact own_retN X101 hx (t := .char) (z' := (p1 + (32 : Int32))) Bd.returns (by simp) (own_narU hrg (of_decide_eq_true hc4)) (hb hby d1_16) hr
  · refine Gl.fin X101 (v := some (.int p1)) (fun h => by rw [Bd.returns] at h; cases h) Bd.notSynchronized ?_ e101 (by decide) (by decide) (fun fs hr => ?_)
    · exact ⟨congrArg (fun z => some (Value.int z)) (if_neg (fun q => hc4 (decide_eq_true q))).symm, N101, rfl⟩
    · show Steps p.tables e below (T101.setTop (mkF m 4 #[.val (.int p1)] [(.int (b2i (decide (¬ p1 < 65 ∧ ¬ 90 < p1))))])) _
      refine XS.ifYes X101.here hx rfl (pc0 := 4) (pc' := 15) rfl (hb hby d1_4) rfl (own_nbt (b0_eq _) (Bool.eq_false_iff.mpr hc4)) (by decide) (by decide) ?_
      show Steps p.tables e below (T101.setTop (mkF m 15 #[.val (.int p1)] [])) _
      refine XS.iloadN X101.here hx rfl (hb hby d1_15) rfl ?_
      show Steps p.tables e below (T101.setTop (mkF m 16 #[.val (.int p1)] [(.int p1)])) _
      exact own_retN X101 hx (t := .char) (z' := p1) Bd.returns (by simp) (own_narC hrg) (hb hby d1_16) hr
theorem pn_com_example_eider_eider_AsciiLowerCasePinLaw : plainName "com/example/eider/eider/AsciiLowerCasePinLaw" = true := by first | (simp [plainName, overriddenIn]; done) | decide +kernel
theorem ef_rm0 (m : MethodId) (x0 : Int32) (x1 : Int32) : entryFrame m #[(.int x0), (.int x1)] maxLocals = mkF m 0 #[.val (.int x0), .val (.int x1), .unset, .unset, .unset, .unset, .unset, .unset, .unset] [] := by first | (simp [entryFrame, mkF, argsToLocals, Value.category, maxLocals]; done) | rfl
theorem pd__C_C : parseMethodDescriptor "(C)C" = some ⟨[.char], some .char⟩ := by decide +kernel
theorem pd__I_C : parseMethodDescriptor "(I)C" = some ⟨[.int], some .char⟩ := by decide +kernel
def Q0 (Z : State) (p0 : Int32) (p1 : Int32) (cs : Int32) (G3 : Value) (h0 : Heap) (n0 : Nat) (v : Option Value) (h : Heap) (L : List Loc) : Prop := v = some (.int 1) ∧ Fr n0 L
set_option maxRecDepth 65536 in
set_option maxHeartbeats 40000000 in
theorem rm0 (l : Launch) (Z : State) (a0 : Array Value) (hw : ∀ d ∈ tables_1, d.before a0 Z = true) (ws : List Jvm.Cond) (p0 : Int32) (p1 : Int32) (cs : Int32) (G3 : Value) (h0 : Heap) (n0 : Nat) (Z0 : n0 ≤ h0.size) (S_c : Sta Z h0 "java/lang/String" "COMPACT_STRINGS" "Z" (.int cs)) (hcs : ¬ cs = 0) (S_f : Sta Z h0 "jdk/internal/util/Preconditions" "SIOOBE_FORMATTER" "Ljava/util/function/BiFunction;" G3) (rG3 : G3.isRef = true) (hcw : Jvm.Lit.compactW.before a0 Z = true) (hheld : Jvm.Lit.constHeld Z "com/example/eider/eider/AsciiLowerCasePinLaw" 9) :
    OMetZ l Z x code maxLocals ret ws room_1 #[(.int p0), (.int p1)] h0 (Q0 Z p0 p1 cs G3 h0 n0) := by
  refine own_bodyZ (plainFor_of_name pn_com_example_eider_eider_AsciiLowerCasePinLaw) ?_
  intro p e s m below meth c s₁ Bd hml0 hsZ e0 hh
  have hZ : Z.Warmed39 s.vm := by rw [hsZ]; exact State.Warmed39.refl Z
  have hx := Bd.exec
  have hby := Bd.bytes
  have hml : c.maxLocals = 9 := hml0
  have hown : s.vm.findClass "com/example/eider/eider/AsciiLowerCasePinLaw" = some m.cls := findClass_of_methodNamed Bd.named
  have hnm := (name_of_methodNamed Bd.named Bd.method).1
  have X0 : Stand p l e room_1 (s.setVm s.vm) m #[(.int p0), (.int p1)] below meth c s₁ [] 0 0 := Stand.of_body Bd
  have N0 := Fr.nil n0
  have K0 : Keep h0 h0 [] := Keep.refl _ _
  rw [ef_rm0]
  have hS : s.Since s.vm 0 := (State.WarmedH.refl s).since 0
  have IB0 : IB Z s.vm [] := by rw [hsZ]; exact IB.start
  have hstr : ∀ a ∈ Bundle.stringAtoms, a.before a0 Z = true := fun d hd => hw d ((by decide +kernel : ∀ d ∈ Bundle.stringAtoms, d ∈ tables_1) d hd)
  refine GlW.pre (S' := s₁.setTop (mkF m 13 #[.val (.int p0), .val (.int p1), .val (.int (p1 &&& (3 : Int32))), .val (.int ((p0 &&& (2147483647 : Int32)) % (26 : Int32))), .unset, .unset, .unset, .unset, .unset] [(.int (p1 &&& (3 : Int32)))])) (fun t kt => ?_) ?_
  · show Steps p.tables e below (s₁.setTop (mkF m 0 #[.val (.int p0), .val (.int p1), .unset, .unset, .unset, .unset, .unset, .unset, .unset] [])) _
    refine XS.iloadN X0.here hx rfl (hb hby at_0) rfl ?_
    show Steps p.tables e below (s₁.setTop (mkF m 1 #[.val (.int p0), .val (.int p1), .unset, .unset, .unset, .unset, .unset, .unset, .unset] [(.int p1)])) _
    refine XS.iconst X0.here hx rfl (hb hby at_1) ?_
    show Steps p.tables e below (s₁.setTop (mkF m 2 #[.val (.int p0), .val (.int p1), .unset, .unset, .unset, .unset, .unset, .unset, .unset] [(.int (3 : Int32)), (.int p1)])) _
    refine XS.iand X0.here hx rfl (hb hby at_2) rfl ?_
    show Steps p.tables e below (s₁.setTop (mkF m 3 #[.val (.int p0), .val (.int p1), .unset, .unset, .unset, .unset, .unset, .unset, .unset] [(.int (p1 &&& (3 : Int32)))])) _
    refine XS.istoreN X0.here hx rfl (hb hby at_3) rfl (l' := #[.val (.int p0), .val (.int p1), .val (.int (p1 &&& (3 : Int32))), .unset, .unset, .unset, .unset, .unset, .unset]) rfl ?_
    show Steps p.tables e below (s₁.setTop (mkF m 4 #[.val (.int p0), .val (.int p1), .val (.int (p1 &&& (3 : Int32))), .unset, .unset, .unset, .unset, .unset, .unset] [])) _
    refine XS.iloadN X0.here hx rfl (hb hby at_4) rfl ?_
    show Steps p.tables e below (s₁.setTop (mkF m 5 #[.val (.int p0), .val (.int p1), .val (.int (p1 &&& (3 : Int32))), .unset, .unset, .unset, .unset, .unset, .unset] [(.int p0)])) _
    refine X0.ldcInt hx hown (mvT hZ (hw _ (List.mem_of_getElem? (i := 0) rfl))) (g := (mkF m 5 #[.val (.int p0), .val (.int p1), .val (.int (p1 &&& (3 : Int32))), .unset, .unset, .unset, .unset, .unset, .unset] [(.int p0)])) rfl (hb hby at_5) _ ?_
    show Steps p.tables e below (s₁.setTop (mkF m 7 #[.val (.int p0), .val (.int p1), .val (.int (p1 &&& (3 : Int32))), .unset, .unset, .unset, .unset, .unset, .unset] [(.int (2147483647 : Int32)), (.int p0)])) _
    refine XS.iand X0.here hx rfl (hb hby at_7) rfl ?_
    show Steps p.tables e below (s₁.setTop (mkF m 8 #[.val (.int p0), .val (.int p1), .val (.int (p1 &&& (3 : Int32))), .unset, .unset, .unset, .unset, .unset, .unset] [(.int (p0 &&& (2147483647 : Int32)))])) _
    refine XS.bipush X0.here hx rfl (hb hby at_8) ?_
    show Steps p.tables e below (s₁.setTop (mkF m 10 #[.val (.int p0), .val (.int p1), .val (.int (p1 &&& (3 : Int32))), .unset, .unset, .unset, .unset, .unset, .unset] [(.int (26 : Int32)), (.int (p0 &&& (2147483647 : Int32)))])) _
    refine iremM X0 hx rfl (hb hby at_10) rfl (by decide) ?_
    show Steps p.tables e below (s₁.setTop (mkF m 11 #[.val (.int p0), .val (.int p1), .val (.int (p1 &&& (3 : Int32))), .unset, .unset, .unset, .unset, .unset, .unset] [(.int ((p0 &&& (2147483647 : Int32)) % (26 : Int32)))])) _
    refine XS.istoreN X0.here hx rfl (hb hby at_11) rfl (l' := #[.val (.int p0), .val (.int p1), .val (.int (p1 &&& (3 : Int32))), .val (.int ((p0 &&& (2147483647 : Int32)) % (26 : Int32))), .unset, .unset, .unset, .unset, .unset]) rfl ?_
    show Steps p.tables e below (s₁.setTop (mkF m 12 #[.val (.int p0), .val (.int p1), .val (.int (p1 &&& (3 : Int32))), .val (.int ((p0 &&& (2147483647 : Int32)) % (26 : Int32))), .unset, .unset, .unset, .unset, .unset] [])) _
    refine XS.iloadN X0.here hx rfl (hb hby at_12) rfl ?_
    exact kt
  have J69 : ∀ (cc : Int32) (hcc : 0 ≤ cc.toInt ∧ cc.toInt ≤ 65535), GlW p e below s (Q0 Z p0 p1 cs G3 h0 n0) room_1.cells room_1.slots (s₁.setTop (mkF m 69 #[.val (.int p0), .val (.int p1), .val (.int (p1 &&& (3 : Int32))), .val (.int ((p0 &&& (2147483647 : Int32)) % (26 : Int32))), .val (.int cc), .unset, .unset, .unset, .unset] [])) := by
    intro cc hcc
    refine GlW.pre (S' := s₁.setTop (mkF m 78 #[.val (.int p0), .val (.int p1), .val (.int (p1 &&& (3 : Int32))), .val (.int ((p0 &&& (2147483647 : Int32)) % (26 : Int32))), .val (.int cc), .val (.int (cc - (65 : Int32))), .unset, .unset, .unset] [(.int (cc - (65 : Int32)))])) (fun t kt => ?_) ?_
    · show Steps p.tables e below (s₁.setTop (mkF m 69 #[.val (.int p0), .val (.int p1), .val (.int (p1 &&& (3 : Int32))), .val (.int ((p0 &&& (2147483647 : Int32)) % (26 : Int32))), .val (.int cc), .unset, .unset, .unset, .unset] [])) _
      refine XS.iload X0.here hx rfl (hb hby at_69) rfl ?_
      show Steps p.tables e below (s₁.setTop (mkF m 71 #[.val (.int p0), .val (.int p1), .val (.int (p1 &&& (3 : Int32))), .val (.int ((p0 &&& (2147483647 : Int32)) % (26 : Int32))), .val (.int cc), .unset, .unset, .unset, .unset] [(.int cc)])) _
      refine XS.bipush X0.here hx rfl (hb hby at_71) ?_
      show Steps p.tables e below (s₁.setTop (mkF m 73 #[.val (.int p0), .val (.int p1), .val (.int (p1 &&& (3 : Int32))), .val (.int ((p0 &&& (2147483647 : Int32)) % (26 : Int32))), .val (.int cc), .unset, .unset, .unset, .unset] [(.int (65 : Int32)), (.int cc)])) _
      refine XS.isub X0.here hx rfl (hb hby at_73) rfl ?_
      show Steps p.tables e below (s₁.setTop (mkF m 74 #[.val (.int p0), .val (.int p1), .val (.int (p1 &&& (3 : Int32))), .val (.int ((p0 &&& (2147483647 : Int32)) % (26 : Int32))), .val (.int cc), .unset, .unset, .unset, .unset] [(.int (cc - (65 : Int32)))])) _
      refine XS.istore X0.here hx rfl (hb hby at_74) rfl (l' := #[.val (.int p0), .val (.int p1), .val (.int (p1 &&& (3 : Int32))), .val (.int ((p0 &&& (2147483647 : Int32)) % (26 : Int32))), .val (.int cc), .val (.int (cc - (65 : Int32))), .unset, .unset, .unset]) rfl ?_
      show Steps p.tables e below (s₁.setTop (mkF m 76 #[.val (.int p0), .val (.int p1), .val (.int (p1 &&& (3 : Int32))), .val (.int ((p0 &&& (2147483647 : Int32)) % (26 : Int32))), .val (.int cc), .val (.int (cc - (65 : Int32))), .unset, .unset, .unset] [])) _
      refine XS.iload X0.here hx rfl (hb hby at_76) rfl ?_
      exact kt
    by_cases hc78 : (cc - (65 : Int32)) < (0 : Int32)
    · obtain ⟨v101, T101, L101, X101, q101, st101⟩ := own_callS X0 hx hZ (y := (⟨"com/example/eider/eider/Ascii", "lowerCase", "(C)C"⟩ : MethodName)) hown (hw _ (List.mem_of_getElem? (i := 1) rfl)) (hw _ (List.mem_of_getElem? (i := 2) rfl)) (hw _ (List.mem_of_getElem? (i := 3) rfl)) (hw _ (List.mem_of_getElem? (i := 4) rfl)) (by decide) (hM := (rm1 l Z a0 hw [] cc h0 n0 Z0 hcc)) (by decide) (by decide) (by decide) (by decide) e0 (argsL := [(.int cc)]) (rest := []) (Ls := #[.val (.int p0), .val (.int p1), .val (.int (p1 &&& (3 : Int32))), .val (.int ((p0 &&& (2147483647 : Int32)) % (26 : Int32))), .val (.int cc), .val (.int (cc - (65 : Int32))), .val (.int (0 : Int32)), .val (.int cc), .unset]) (by rw [hml]; rfl) (lenOf pd__C_C rfl) (W := 0) (Nat.le_of_eq rfl) (hb hby at_118)
      obtain ⟨rfl, N101q, e101⟩ := q101
      have N101 := Fr.app N0 N101q
      obtain ⟨v102, T102, L102, X102, q102, st102⟩ := own_callS X101 hx hZ (y := (⟨"com/example/eider/eider/Ascii", "lowerCase", "(C)C"⟩ : MethodName)) hown (hw _ (List.mem_of_getElem? (i := 1) rfl)) (hw _ (List.mem_of_getElem? (i := 2) rfl)) (hw _ (List.mem_of_getElem? (i := 3) rfl)) (hw _ (List.mem_of_getElem? (i := 4) rfl)) (by decide) (hM := (rm1 l Z a0 hw [] (own_lc cc) h0 n0 Z0 (own_lc_rng hcc))) (by decide) (by decide) (by decide) (by decide) e101 (argsL := [(.int (own_lc cc))]) (rest := []) (Ls := #[.val (.int p0), .val (.int p1), .val (.int (p1 &&& (3 : Int32))), .val (.int ((p0 &&& (2147483647 : Int32)) % (26 : Int32))), .val (.int cc), .val (.int (cc - (65 : Int32))), .val (.int (0 : Int32)), .val (.int cc), .val (.int (own_lc cc))]) (by rw [hml]; rfl) (lenOf pd__C_C rfl) (W := 0) (Nat.le_of_eq rfl) (hb hby at_134)
      obtain ⟨rfl, N102q, e102⟩ := q102
      have N102 := Fr.app N101 N102q
      refine GlW.fin X102 hS (v := some (.int (1 : Int32))) (fun h => by rw [Bd.returns] at h; cases h) Bd.notSynchronized ?_ e102 (Nat.zero_le _) (by decide) (by decide) (fun fs hr => ?_)
      · exact ⟨rfl, N102⟩
      · show Steps p.tables e below (s₁.setTop (mkF m 78 #[.val (.int p0), .val (.int p1), .val (.int (p1 &&& (3 : Int32))), .val (.int ((p0 &&& (2147483647 : Int32)) % (26 : Int32))), .val (.int cc), .val (.int (cc - (65 : Int32))), .unset, .unset, .unset] [(.int (cc - (65 : Int32)))])) _
        refine XS.ifYes X0.here hx rfl (pc0 := 78) (pc' := 92) rfl (hb hby at_78) rfl (own_t (i0_lt _) hc78) (by decide) (by decide) ?_
        show Steps p.tables e below (s₁.setTop (mkF m 92 #[.val (.int p0), .val (.int p1), .val (.int (p1 &&& (3 : Int32))), .val (.int ((p0 &&& (2147483647 : Int32)) % (26 : Int32))), .val (.int cc), .val (.int (cc - (65 : Int32))), .unset, .unset, .unset] [])) _
        refine XS.iconst X0.here hx rfl (hb hby at_92) ?_
        show Steps p.tables e below (s₁.setTop (mkF m 93 #[.val (.int p0), .val (.int p1), .val (.int (p1 &&& (3 : Int32))), .val (.int ((p0 &&& (2147483647 : Int32)) % (26 : Int32))), .val (.int cc), .val (.int (cc - (65 : Int32))), .unset, .unset, .unset] [(.int (0 : Int32))])) _
        refine XS.istore X0.here hx rfl (hb hby at_93) rfl (l' := #[.val (.int p0), .val (.int p1), .val (.int (p1 &&& (3 : Int32))), .val (.int ((p0 &&& (2147483647 : Int32)) % (26 : Int32))), .val (.int cc), .val (.int (cc - (65 : Int32))), .val (.int (0 : Int32)), .unset, .unset]) rfl ?_
        show Steps p.tables e below (s₁.setTop (mkF m 95 #[.val (.int p0), .val (.int p1), .val (.int (p1 &&& (3 : Int32))), .val (.int ((p0 &&& (2147483647 : Int32)) % (26 : Int32))), .val (.int cc), .val (.int (cc - (65 : Int32))), .val (.int (0 : Int32)), .unset, .unset] [])) _
        refine XS.iload X0.here hx rfl (hb hby at_95) rfl ?_
        show Steps p.tables e below (s₁.setTop (mkF m 97 #[.val (.int p0), .val (.int p1), .val (.int (p1 &&& (3 : Int32))), .val (.int ((p0 &&& (2147483647 : Int32)) % (26 : Int32))), .val (.int cc), .val (.int (cc - (65 : Int32))), .val (.int (0 : Int32)), .unset, .unset] [(.int (0 : Int32))])) _
        refine XS.ifYes X0.here hx rfl (pc0 := 97) (pc' := 112) rfl (hb hby at_97) rfl (own_t (i0_eq _) (by decide)) (by decide) (by decide) ?_
        show Steps p.tables e below (s₁.setTop (mkF m 112 #[.val (.int p0), .val (.int p1), .val (.int (p1 &&& (3 : Int32))), .val (.int ((p0 &&& (2147483647 : Int32)) % (26 : Int32))), .val (.int cc), .val (.int (cc - (65 : Int32))), .val (.int (0 : Int32)), .unset, .unset] [])) _
        refine XS.iload X0.here hx rfl (hb hby at_112) rfl ?_
        show Steps p.tables e below (s₁.setTop (mkF m 114 #[.val (.int p0), .val (.int p1), .val (.int (p1 &&& (3 : Int32))), .val (.int ((p0 &&& (2147483647 : Int32)) % (26 : Int32))), .val (.int cc), .val (.int (cc - (65 : Int32))), .val (.int (0 : Int32)), .unset, .unset] [(.int cc)])) _
        refine XS.istore X0.here hx rfl (hb hby at_114) rfl (l' := #[.val (.int p0), .val (.int p1), .val (.int (p1 &&& (3 : Int32))), .val (.int ((p0 &&& (2147483647 : Int32)) % (26 : Int32))), .val (.int cc), .val (.int (cc - (65 : Int32))), .val (.int (0 : Int32)), .val (.int cc), .unset]) rfl ?_
        show Steps p.tables e below (s₁.setTop (mkF m 116 #[.val (.int p0), .val (.int p1), .val (.int (p1 &&& (3 : Int32))), .val (.int ((p0 &&& (2147483647 : Int32)) % (26 : Int32))), .val (.int cc), .val (.int (cc - (65 : Int32))), .val (.int (0 : Int32)), .val (.int cc), .unset] [])) _
        refine XS.iload X0.here hx rfl (hb hby at_116) rfl ?_
        show Steps p.tables e below (s₁.setTop (mkF m 118 #[.val (.int p0), .val (.int p1), .val (.int (p1 &&& (3 : Int32))), .val (.int ((p0 &&& (2147483647 : Int32)) % (26 : Int32))), .val (.int cc), .val (.int (cc - (65 : Int32))), .val (.int (0 : Int32)), .val (.int cc), .unset] [(.int cc)])) _
        refine st101 _ ?_
        show Steps p.tables e below (T101.setTop (mkF m 121 #[.val (.int p0), .val (.int p1), .val (.int (p1 &&& (3 : Int32))), .val (.int ((p0 &&& (2147483647 : Int32)) % (26 : Int32))), .val (.int cc), .val (.int (cc - (65 : Int32))), .val (.int (0 : Int32)), .val (.int cc), .unset] [(.int (own_lc cc))])) _
        refine XS.istore X101.here hx rfl (hb hby at_121) rfl (l' := #[.val (.int p0), .val (.int p1), .val (.int (p1 &&& (3 : Int32))), .val (.int ((p0 &&& (2147483647 : Int32)) % (26 : Int32))), .val (.int cc), .val (.int (cc - (65 : Int32))), .val (.int (0 : Int32)), .val (.int cc), .val (.int (own_lc cc))]) rfl ?_
        show Steps p.tables e below (T101.setTop (mkF m 123 #[.val (.int p0), .val (.int p1), .val (.int (p1 &&& (3 : Int32))), .val (.int ((p0 &&& (2147483647 : Int32)) % (26 : Int32))), .val (.int cc), .val (.int (cc - (65 : Int32))), .val (.int (0 : Int32)), .val (.int cc), .val (.int (own_lc cc))] [])) _
        refine XS.iload X101.here hx rfl (hb hby at_123) rfl ?_
        show Steps p.tables e below (T101.setTop (mkF m 125 #[.val (.int p0), .val (.int p1), .val (.int (p1 &&& (3 : Int32))), .val (.int ((p0 &&& (2147483647 : Int32)) % (26 : Int32))), .val (.int cc), .val (.int (cc - (65 : Int32))), .val (.int (0 : Int32)), .val (.int cc), .val (.int (own_lc cc))] [(.int (own_lc cc))])) _
        refine XS.iload X101.here hx rfl (hb hby at_125) rfl ?_
        show Steps p.tables e below (T101.setTop (mkF m 127 #[.val (.int p0), .val (.int p1), .val (.int (p1 &&& (3 : Int32))), .val (.int ((p0 &&& (2147483647 : Int32)) % (26 : Int32))), .val (.int cc), .val (.int (cc - (65 : Int32))), .val (.int (0 : Int32)), .val (.int cc), .val (.int (own_lc cc))] [(.int cc), (.int (own_lc cc))])) _
        refine XS.icmpYes X101.here hx rfl (pc0 := 127) (pc' := 132) rfl (hb hby at_127) rfl (own_t (ic_eq _ _) (if_neg (own_nup1 hcc hc78))) (by decide) (by decide) ?_
        show Steps p.tables e below (T101.setTop (mkF m 132 #[.val (.int p0), .val (.int p1), .val (.int (p1 &&& (3 : Int32))), .val (.int ((p0 &&& (2147483647 : Int32)) % (26 : Int32))), .val (.int cc), .val (.int (cc - (65 : Int32))), .val (.int (0 : Int32)), .val (.int cc), .val (.int (own_lc cc))] [])) _
        refine XS.iload X101.here hx rfl (hb hby at_132) rfl ?_
        show Steps p.tables e below (T101.setTop (mkF m 134 #[.val (.int p0), .val (.int p1), .val (.int (p1 &&& (3 : Int32))), .val (.int ((p0 &&& (2147483647 : Int32)) % (26 : Int32))), .val (.int cc), .val (.int (cc - (65 : Int32))), .val (.int (0 : Int32)), .val (.int cc), .val (.int (own_lc cc))] [(.int (own_lc cc))])) _
        refine st102 _ ?_
        show Steps p.tables e below (T102.setTop (mkF m 137 #[.val (.int p0), .val (.int p1), .val (.int (p1 &&& (3 : Int32))), .val (.int ((p0 &&& (2147483647 : Int32)) % (26 : Int32))), .val (.int cc), .val (.int (cc - (65 : Int32))), .val (.int (0 : Int32)), .val (.int cc), .val (.int (own_lc cc))] [(.int (own_lc (own_lc cc)))])) _
        refine XS.iload X102.here hx rfl (hb hby at_137) rfl ?_
        show Steps p.tables e below (T102.setTop (mkF m 139 #[.val (.int p0), .val (.int p1), .val (.int (p1 &&& (3 : Int32))), .val (.int ((p0 &&& (2147483647 : Int32)) % (26 : Int32))), .val (.int cc), .val (.int (cc - (65 : Int32))), .val (.int (0 : Int32)), .val (.int cc), .val (.int (own_lc cc))] [(.int (own_lc cc)), (.int (own_lc (own_lc cc)))])) _
        refine XS.icmpNo X102.here hx rfl (hb hby at_139) rfl (own_nf (ic_ne _ _) (own_lc2 hcc)) ?_
        show Steps p.tables e below (T102.setTop (mkF m 142 #[.val (.int p0), .val (.int p1), .val (.int (p1 &&& (3 : Int32))), .val (.int ((p0 &&& (2147483647 : Int32)) % (26 : Int32))), .val (.int cc), .val (.int (cc - (65 : Int32))), .val (.int (0 : Int32)), .val (.int cc), .val (.int (own_lc cc))] [])) _
        refine XS.iconst X102.here hx rfl (hb hby at_142) ?_
        show Steps p.tables e below (T102.setTop (mkF m 143 #[.val (.int p0), .val (.int p1), .val (.int (p1 &&& (3 : Int32))), .val (.int ((p0 &&& (2147483647 : Int32)) % (26 : Int32))), .val (.int cc), .val (.int (cc - (65 : Int32))), .val (.int (0 : Int32)), .val (.int cc), .val (.int (own_lc cc))] [(.int (1 : Int32))])) _
        refine XS.goto X102.here hx rfl (pc0 := 143) (pc' := 147) rfl (hb hby at_143) (by decide) (by decide) ?_
        show Steps p.tables e below (T102.setTop (mkF m 147 #[.val (.int p0), .val (.int p1), .val (.int (p1 &&& (3 : Int32))), .val (.int ((p0 &&& (2147483647 : Int32)) % (26 : Int32))), .val (.int cc), .val (.int (cc - (65 : Int32))), .val (.int (0 : Int32)), .val (.int cc), .val (.int (own_lc cc))] [(.int (1 : Int32))])) _
        exact retN X102 hx (t := .boolean) Bd.returns (by simp) (hb hby at_147) hr
    · refine GlW.pre (S' := s₁.setTop (mkF m 85 #[.val (.int p0), .val (.int p1), .val (.int (p1 &&& (3 : Int32))), .val (.int ((p0 &&& (2147483647 : Int32)) % (26 : Int32))), .val (.int cc), .val (.int (cc - (65 : Int32))), .unset, .unset, .unset] [(.int (26 : Int32)), (.int (cc - (65 : Int32)))])) (fun t kt => ?_) ?_
      · show Steps p.tables e below (s₁.setTop (mkF m 78 #[.val (.int p0), .val (.int p1), .val (.int (p1 &&& (3 : Int32))), .val (.int ((p0 &&& (2147483647 : Int32)) % (26 : Int32))), .val (.int cc), .val (.int (cc - (65 : Int32))), .unset, .unset, .unset] [(.int (cc - (65 : Int32)))])) _
        refine XS.ifNo X0.here hx rfl (hb hby at_78) rfl (own_f (i0_lt _) hc78) ?_
        show Steps p.tables e below (s₁.setTop (mkF m 81 #[.val (.int p0), .val (.int p1), .val (.int (p1 &&& (3 : Int32))), .val (.int ((p0 &&& (2147483647 : Int32)) % (26 : Int32))), .val (.int cc), .val (.int (cc - (65 : Int32))), .unset, .unset, .unset] [])) _
        refine XS.iload X0.here hx rfl (hb hby at_81) rfl ?_
        show Steps p.tables e below (s₁.setTop (mkF m 83 #[.val (.int p0), .val (.int p1), .val (.int (p1 &&& (3 : Int32))), .val (.int ((p0 &&& (2147483647 : Int32)) % (26 : Int32))), .val (.int cc), .val (.int (cc - (65 : Int32))), .unset, .unset, .unset] [(.int (cc - (65 : Int32)))])) _
        refine XS.bipush X0.here hx rfl (hb hby at_83) ?_
        exact kt
      by_cases hc85 : (cc - (65 : Int32)) < (26 : Int32)
      · obtain ⟨a103, T103, h103, k103, b103, bk103, X103, e103, E103, hS, hk103, hZ, hown, EA103, FC103, FV103, VB103, la103, lb103, IB103, st103⟩ := ldcSV (text := "abcdefghijklmnopqrstuvwxyz") (vs := [(.int (97 : Int32)), (.int (98 : Int32)), (.int (99 : Int32)), (.int (100 : Int32)), (.int (101 : Int32)), (.int (102 : Int32)), (.int (103 : Int32)), (.int (104 : Int32)), (.int (105 : Int32)), (.int (106 : Int32)), (.int (107 : Int32)), (.int (108 : Int32)), (.int (109 : Int32)), (.int (110 : Int32)), (.int (111 : Int32)), (.int (112 : Int32)), (.int (113 : Int32)), (.int (114 : Int32)), (.int (115 : Int32)), (.int (116 : Int32)), (.int (117 : Int32)), (.int (118 : Int32)), (.int (119 : Int32)), (.int (120 : Int32)), (.int (121 : Int32)), (.int (122 : Int32))]) (z := 26) X0 hx hZ hown (hw _ (List.mem_of_getElem? (i := 8) rfl)) hstr e0 hS (Nat.zero_le _) (Fr.nil _) (fun b cl q => by rw [hsZ]; exact q) IB0 (by simp) hheld hcw ⟨by decide +kernel, by decide +kernel⟩ (by decide) rfl (g := (mkF m 100 #[.val (.int p0), .val (.int p1), .val (.int (p1 &&& (3 : Int32))), .val (.int ((p0 &&& (2147483647 : Int32)) % (26 : Int32))), .val (.int cc), .val (.int (cc - (65 : Int32))), .val (.int (1 : Int32)), .unset, .unset] [])) rfl (hb hby at_100) (n := 104) (by decide +kernel) (by decide) (by decide) (by decide)
        have K103 : Keep h0 h103 [] := K0.ext E103
        have f105 := (S_c.ext E103)
        have f106 := (S_f.ext E103)
        have z107 : n0 ≤ h103.size := (Nat.le_trans Z0 E103.1)
        obtain ⟨v104, T104, L104, X104, q104, st104⟩ := own_callV X103 hx hZ (y := (⟨"java/lang/String", "charAt", "(I)C"⟩ : MethodName)) (z := (⟨"java/lang/String", "charAt", "(I)C"⟩ : MethodName)) hown (hw _ (List.mem_of_getElem? (i := 16) rfl)) (hw _ (List.mem_of_getElem? (i := 17) rfl)) (notFace_of_selects (args := #[]) (mvT hZ (hw _ (List.mem_of_getElem? (i := 19) rfl)))) (hw _ (List.mem_of_getElem? (i := 19) rfl)) (hw _ (List.mem_of_getElem? (i := 18) rfl)) (hw _ (List.mem_of_getElem? (i := 9) rfl)) (hw _ (List.mem_of_getElem? (i := 20) rfl)) (by decide) EA103 (hM := (rm3 l Z a0 hw [] a103 (cc - (65 : Int32)) b103 bk103 (26 : Int32) [(.int (97 : Int32)), (.int (98 : Int32)), (.int (99 : Int32)), (.int (100 : Int32)), (.int (101 : Int32)), (.int (102 : Int32)), (.int (103 : Int32)), (.int (104 : Int32)), (.int (105 : Int32)), (.int (106 : Int32)), (.int (107 : Int32)), (.int (108 : Int32)), (.int (109 : Int32)), (.int (110 : Int32)), (.int (111 : Int32)), (.int (112 : Int32)), (.int (113 : Int32)), (.int (114 : Int32)), (.int (115 : Int32)), (.int (116 : Int32)), (.int (117 : Int32)), (.int (118 : Int32)), (.int (119 : Int32)), (.int (120 : Int32)), (.int (121 : Int32)), (.int (122 : Int32))] (cc + 32) (cc + 32) cs G3 h103 n0 z107 f105 hcs EA103 FV103 FC103 VB103 f106 rG3 hc78 hc85 (own_hat hcc hc78 hc85) (own_m255 (own_lcU hcc (own_up hcc hc78 hc85)).1 (by have := (own_lcU hcc (own_up hcc hc78 hc85)).2; omega)))) (by decide) (by decide) (by decide) (by decide) e103 (argsL := [(.int (cc - (65 : Int32)))]) (rest := []) (Ls := #[.val (.int p0), .val (.int p1), .val (.int (p1 &&& (3 : Int32))), .val (.int ((p0 &&& (2147483647 : Int32)) % (26 : Int32))), .val (.int cc), .val (.int (cc - (65 : Int32))), .val (.int (1 : Int32)), .unset, .unset]) (by rw [hml]; rfl) (lenOf pd__I_C rfl) (W := 0) (Nat.le_of_eq rfl) (hb hby at_104)
        obtain ⟨rfl, N104q, e104⟩ := q104
        have N104 := Fr.app N0 N104q
        obtain ⟨v108, T108, L108, X108, q108, st108⟩ := own_callS X104 hx hZ (y := (⟨"com/example/eider/eider/Ascii", "lowerCase", "(C)C"⟩ : MethodName)) hown (hw _ (List.mem_of_getElem? (i := 1) rfl)) (hw _ (List.mem_of_getElem? (i := 2) rfl)) (hw _ (List.mem_of_getElem? (i := 3) rfl)) (hw _ (List.mem_of_getElem? (i := 4) rfl)) (by decide) (hM := (rm1 l Z a0 hw [] cc h103 n0 z107 hcc)) (by decide) (by decide) (by decide) (by decide) e104 (argsL := [(.int cc)]) (rest := []) (Ls := #[.val (.int p0), .val (.int p1), .val (.int (p1 &&& (3 : Int32))), .val (.int ((p0 &&& (2147483647 : Int32)) % (26 : Int32))), .val (.int cc), .val (.int (cc - (65 : Int32))), .val (.int (1 : Int32)), .val (.int (cc + 32)), .unset]) (by rw [hml]; rfl) (lenOf pd__C_C rfl) (W := 0) (Nat.le_of_eq rfl) (hb hby at_118)
        obtain ⟨rfl, N108q, e108⟩ := q108
        have N108 := Fr.app N104 N108q
        obtain ⟨v109, T109, L109, X109, q109, st109⟩ := own_callS X108 hx hZ (y := (⟨"com/example/eider/eider/Ascii", "lowerCase", "(C)C"⟩ : MethodName)) hown (hw _ (List.mem_of_getElem? (i := 1) rfl)) (hw _ (List.mem_of_getElem? (i := 2) rfl)) (hw _ (List.mem_of_getElem? (i := 3) rfl)) (hw _ (List.mem_of_getElem? (i := 4) rfl)) (by decide) (hM := (rm1 l Z a0 hw [] (own_lc cc) h103 n0 z107 (own_lc_rng hcc))) (by decide) (by decide) (by decide) (by decide) e108 (argsL := [(.int (own_lc cc))]) (rest := []) (Ls := #[.val (.int p0), .val (.int p1), .val (.int (p1 &&& (3 : Int32))), .val (.int ((p0 &&& (2147483647 : Int32)) % (26 : Int32))), .val (.int cc), .val (.int (cc - (65 : Int32))), .val (.int (1 : Int32)), .val (.int (cc + 32)), .val (.int (own_lc cc))]) (by rw [hml]; rfl) (lenOf pd__C_C rfl) (W := 0) (Nat.le_of_eq rfl) (hb hby at_134)
        obtain ⟨rfl, N109q, e109⟩ := q109
        have N109 := Fr.app N108 N109q
        refine GlW.fin X109 hS (v := some (.int (1 : Int32))) (fun h => by rw [Bd.returns] at h; cases h) Bd.notSynchronized ?_ e109 hk103 (by decide) (by decide) (fun fs hr => ?_)
        · exact ⟨rfl, N109⟩
        · show Steps p.tables e below (s₁.setTop (mkF m 85 #[.val (.int p0), .val (.int p1), .val (.int (p1 &&& (3 : Int32))), .val (.int ((p0 &&& (2147483647 : Int32)) % (26 : Int32))), .val (.int cc), .val (.int (cc - (65 : Int32))), .unset, .unset, .unset] [(.int (26 : Int32)), (.int (cc - (65 : Int32)))])) _
          refine XS.icmpNo X0.here hx rfl (hb hby at_85) rfl (own_nf (ic_ge _ _) hc85) ?_
          show Steps p.tables e below (s₁.setTop (mkF m 88 #[.val (.int p0), .val (.int p1), .val (.int (p1 &&& (3 : Int32))), .val (.int ((p0 &&& (2147483647 : Int32)) % (26 : Int32))), .val (.int cc), .val (.int (cc - (65 : Int32))), .unset, .unset, .unset] [])) _
          refine XS.iconst X0.here hx rfl (hb hby at_88) ?_
          show Steps p.tables e below (s₁.setTop (mkF m 89 #[.val (.int p0), .val (.int p1), .val (.int (p1 &&& (3 : Int32))), .val (.int ((p0 &&& (2147483647 : Int32)) % (26 : Int32))), .val (.int cc), .val (.int (cc - (65 : Int32))), .unset, .unset, .unset] [(.int (1 : Int32))])) _
          refine XS.goto X0.here hx rfl (pc0 := 89) (pc' := 93) rfl (hb hby at_89) (by decide) (by decide) ?_
          show Steps p.tables e below (s₁.setTop (mkF m 93 #[.val (.int p0), .val (.int p1), .val (.int (p1 &&& (3 : Int32))), .val (.int ((p0 &&& (2147483647 : Int32)) % (26 : Int32))), .val (.int cc), .val (.int (cc - (65 : Int32))), .unset, .unset, .unset] [(.int (1 : Int32))])) _
          refine XS.istore X0.here hx rfl (hb hby at_93) rfl (l' := #[.val (.int p0), .val (.int p1), .val (.int (p1 &&& (3 : Int32))), .val (.int ((p0 &&& (2147483647 : Int32)) % (26 : Int32))), .val (.int cc), .val (.int (cc - (65 : Int32))), .val (.int (1 : Int32)), .unset, .unset]) rfl ?_
          show Steps p.tables e below (s₁.setTop (mkF m 95 #[.val (.int p0), .val (.int p1), .val (.int (p1 &&& (3 : Int32))), .val (.int ((p0 &&& (2147483647 : Int32)) % (26 : Int32))), .val (.int cc), .val (.int (cc - (65 : Int32))), .val (.int (1 : Int32)), .unset, .unset] [])) _
          refine XS.iload X0.here hx rfl (hb hby at_95) rfl ?_
          show Steps p.tables e below (s₁.setTop (mkF m 97 #[.val (.int p0), .val (.int p1), .val (.int (p1 &&& (3 : Int32))), .val (.int ((p0 &&& (2147483647 : Int32)) % (26 : Int32))), .val (.int cc), .val (.int (cc - (65 : Int32))), .val (.int (1 : Int32)), .unset, .unset] [(.int (1 : Int32))])) _
          refine XS.ifNo X0.here hx rfl (hb hby at_97) rfl (own_f (i0_eq _) (by decide)) ?_
          show Steps p.tables e below (s₁.setTop (mkF m 100 #[.val (.int p0), .val (.int p1), .val (.int (p1 &&& (3 : Int32))), .val (.int ((p0 &&& (2147483647 : Int32)) % (26 : Int32))), .val (.int cc), .val (.int (cc - (65 : Int32))), .val (.int (1 : Int32)), .unset, .unset] [])) _
          refine st103 _ ?_
          show Steps p.tables e below (T103.setTop (mkF m 102 #[.val (.int p0), .val (.int p1), .val (.int (p1 &&& (3 : Int32))), .val (.int ((p0 &&& (2147483647 : Int32)) % (26 : Int32))), .val (.int cc), .val (.int (cc - (65 : Int32))), .val (.int (1 : Int32)), .unset, .unset] [(.ref a103)])) _
          refine XS.iload X103.here hx rfl (hb hby at_102) rfl ?_
          show Steps p.tables e below (T103.setTop (mkF m 104 #[.val (.int p0), .val (.int p1), .val (.int (p1 &&& (3 : Int32))), .val (.int ((p0 &&& (2147483647 : Int32)) % (26 : Int32))), .val (.int cc), .val (.int (cc - (65 : Int32))), .val (.int (1 : Int32)), .unset, .unset] [(.int (cc - (65 : Int32))), (.ref a103)])) _
          refine st104 _ ?_
          show Steps p.tables e below (T104.setTop (mkF m 107 #[.val (.int p0), .val (.int p1), .val (.int (p1 &&& (3 : Int32))), .val (.int ((p0 &&& (2147483647 : Int32)) % (26 : Int32))), .val (.int cc), .val (.int (cc - (65 : Int32))), .val (.int (1 : Int32)), .unset, .unset] [(.int (cc + 32))])) _
          refine XS.istore X104.here hx rfl (hb hby at_107) rfl (l' := #[.val (.int p0), .val (.int p1), .val (.int (p1 &&& (3 : Int32))), .val (.int ((p0 &&& (2147483647 : Int32)) % (26 : Int32))), .val (.int cc), .val (.int (cc - (65 : Int32))), .val (.int (1 : Int32)), .val (.int (cc + 32)), .unset]) rfl ?_
          show Steps p.tables e below (T104.setTop (mkF m 109 #[.val (.int p0), .val (.int p1), .val (.int (p1 &&& (3 : Int32))), .val (.int ((p0 &&& (2147483647 : Int32)) % (26 : Int32))), .val (.int cc), .val (.int (cc - (65 : Int32))), .val (.int (1 : Int32)), .val (.int (cc + 32)), .unset] [])) _
          refine XS.goto X104.here hx rfl (pc0 := 109) (pc' := 116) rfl (hb hby at_109) (by decide) (by decide) ?_
          show Steps p.tables e below (T104.setTop (mkF m 116 #[.val (.int p0), .val (.int p1), .val (.int (p1 &&& (3 : Int32))), .val (.int ((p0 &&& (2147483647 : Int32)) % (26 : Int32))), .val (.int cc), .val (.int (cc - (65 : Int32))), .val (.int (1 : Int32)), .val (.int (cc + 32)), .unset] [])) _
          refine XS.iload X104.here hx rfl (hb hby at_116) rfl ?_
          show Steps p.tables e below (T104.setTop (mkF m 118 #[.val (.int p0), .val (.int p1), .val (.int (p1 &&& (3 : Int32))), .val (.int ((p0 &&& (2147483647 : Int32)) % (26 : Int32))), .val (.int cc), .val (.int (cc - (65 : Int32))), .val (.int (1 : Int32)), .val (.int (cc + 32)), .unset] [(.int cc)])) _
          refine st108 _ ?_
          show Steps p.tables e below (T108.setTop (mkF m 121 #[.val (.int p0), .val (.int p1), .val (.int (p1 &&& (3 : Int32))), .val (.int ((p0 &&& (2147483647 : Int32)) % (26 : Int32))), .val (.int cc), .val (.int (cc - (65 : Int32))), .val (.int (1 : Int32)), .val (.int (cc + 32)), .unset] [(.int (own_lc cc))])) _
          refine XS.istore X108.here hx rfl (hb hby at_121) rfl (l' := #[.val (.int p0), .val (.int p1), .val (.int (p1 &&& (3 : Int32))), .val (.int ((p0 &&& (2147483647 : Int32)) % (26 : Int32))), .val (.int cc), .val (.int (cc - (65 : Int32))), .val (.int (1 : Int32)), .val (.int (cc + 32)), .val (.int (own_lc cc))]) rfl ?_
          show Steps p.tables e below (T108.setTop (mkF m 123 #[.val (.int p0), .val (.int p1), .val (.int (p1 &&& (3 : Int32))), .val (.int ((p0 &&& (2147483647 : Int32)) % (26 : Int32))), .val (.int cc), .val (.int (cc - (65 : Int32))), .val (.int (1 : Int32)), .val (.int (cc + 32)), .val (.int (own_lc cc))] [])) _
          refine XS.iload X108.here hx rfl (hb hby at_123) rfl ?_
          show Steps p.tables e below (T108.setTop (mkF m 125 #[.val (.int p0), .val (.int p1), .val (.int (p1 &&& (3 : Int32))), .val (.int ((p0 &&& (2147483647 : Int32)) % (26 : Int32))), .val (.int cc), .val (.int (cc - (65 : Int32))), .val (.int (1 : Int32)), .val (.int (cc + 32)), .val (.int (own_lc cc))] [(.int (own_lc cc))])) _
          refine XS.iload X108.here hx rfl (hb hby at_125) rfl ?_
          show Steps p.tables e below (T108.setTop (mkF m 127 #[.val (.int p0), .val (.int p1), .val (.int (p1 &&& (3 : Int32))), .val (.int ((p0 &&& (2147483647 : Int32)) % (26 : Int32))), .val (.int cc), .val (.int (cc - (65 : Int32))), .val (.int (1 : Int32)), .val (.int (cc + 32)), .val (.int (own_lc cc))] [(.int (cc + 32)), (.int (own_lc cc))])) _
          refine XS.icmpYes X108.here hx rfl (pc0 := 127) (pc' := 132) rfl (hb hby at_127) rfl (own_t (ic_eq _ _) (if_pos (own_up hcc hc78 hc85))) (by decide) (by decide) ?_
          show Steps p.tables e below (T108.setTop (mkF m 132 #[.val (.int p0), .val (.int p1), .val (.int (p1 &&& (3 : Int32))), .val (.int ((p0 &&& (2147483647 : Int32)) % (26 : Int32))), .val (.int cc), .val (.int (cc - (65 : Int32))), .val (.int (1 : Int32)), .val (.int (cc + 32)), .val (.int (own_lc cc))] [])) _
          refine XS.iload X108.here hx rfl (hb hby at_132) rfl ?_
          show Steps p.tables e below (T108.setTop (mkF m 134 #[.val (.int p0), .val (.int p1), .val (.int (p1 &&& (3 : Int32))), .val (.int ((p0 &&& (2147483647 : Int32)) % (26 : Int32))), .val (.int cc), .val (.int (cc - (65 : Int32))), .val (.int (1 : Int32)), .val (.int (cc + 32)), .val (.int (own_lc cc))] [(.int (own_lc cc))])) _
          refine st109 _ ?_
          show Steps p.tables e below (T109.setTop (mkF m 137 #[.val (.int p0), .val (.int p1), .val (.int (p1 &&& (3 : Int32))), .val (.int ((p0 &&& (2147483647 : Int32)) % (26 : Int32))), .val (.int cc), .val (.int (cc - (65 : Int32))), .val (.int (1 : Int32)), .val (.int (cc + 32)), .val (.int (own_lc cc))] [(.int (own_lc (own_lc cc)))])) _
          refine XS.iload X109.here hx rfl (hb hby at_137) rfl ?_
          show Steps p.tables e below (T109.setTop (mkF m 139 #[.val (.int p0), .val (.int p1), .val (.int (p1 &&& (3 : Int32))), .val (.int ((p0 &&& (2147483647 : Int32)) % (26 : Int32))), .val (.int cc), .val (.int (cc - (65 : Int32))), .val (.int (1 : Int32)), .val (.int (cc + 32)), .val (.int (own_lc cc))] [(.int (own_lc cc)), (.int (own_lc (own_lc cc)))])) _
          refine XS.icmpNo X109.here hx rfl (hb hby at_139) rfl (own_nf (ic_ne _ _) (own_lc2 hcc)) ?_
          show Steps p.tables e below (T109.setTop (mkF m 142 #[.val (.int p0), .val (.int p1), .val (.int (p1 &&& (3 : Int32))), .val (.int ((p0 &&& (2147483647 : Int32)) % (26 : Int32))), .val (.int cc), .val (.int (cc - (65 : Int32))), .val (.int (1 : Int32)), .val (.int (cc + 32)), .val (.int (own_lc cc))] [])) _
          refine XS.iconst X109.here hx rfl (hb hby at_142) ?_
          show Steps p.tables e below (T109.setTop (mkF m 143 #[.val (.int p0), .val (.int p1), .val (.int (p1 &&& (3 : Int32))), .val (.int ((p0 &&& (2147483647 : Int32)) % (26 : Int32))), .val (.int cc), .val (.int (cc - (65 : Int32))), .val (.int (1 : Int32)), .val (.int (cc + 32)), .val (.int (own_lc cc))] [(.int (1 : Int32))])) _
          refine XS.goto X109.here hx rfl (pc0 := 143) (pc' := 147) rfl (hb hby at_143) (by decide) (by decide) ?_
          show Steps p.tables e below (T109.setTop (mkF m 147 #[.val (.int p0), .val (.int p1), .val (.int (p1 &&& (3 : Int32))), .val (.int ((p0 &&& (2147483647 : Int32)) % (26 : Int32))), .val (.int cc), .val (.int (cc - (65 : Int32))), .val (.int (1 : Int32)), .val (.int (cc + 32)), .val (.int (own_lc cc))] [(.int (1 : Int32))])) _
          exact retN X109 hx (t := .boolean) Bd.returns (by simp) (hb hby at_147) hr
      · obtain ⟨v110, T110, L110, X110, q110, st110⟩ := own_callS X0 hx hZ (y := (⟨"com/example/eider/eider/Ascii", "lowerCase", "(C)C"⟩ : MethodName)) hown (hw _ (List.mem_of_getElem? (i := 1) rfl)) (hw _ (List.mem_of_getElem? (i := 2) rfl)) (hw _ (List.mem_of_getElem? (i := 3) rfl)) (hw _ (List.mem_of_getElem? (i := 4) rfl)) (by decide) (hM := (rm1 l Z a0 hw [] cc h0 n0 Z0 hcc)) (by decide) (by decide) (by decide) (by decide) e0 (argsL := [(.int cc)]) (rest := []) (Ls := #[.val (.int p0), .val (.int p1), .val (.int (p1 &&& (3 : Int32))), .val (.int ((p0 &&& (2147483647 : Int32)) % (26 : Int32))), .val (.int cc), .val (.int (cc - (65 : Int32))), .val (.int (0 : Int32)), .val (.int cc), .unset]) (by rw [hml]; rfl) (lenOf pd__C_C rfl) (W := 0) (Nat.le_of_eq rfl) (hb hby at_118)
        obtain ⟨rfl, N110q, e110⟩ := q110
        have N110 := Fr.app N0 N110q
        obtain ⟨v111, T111, L111, X111, q111, st111⟩ := own_callS X110 hx hZ (y := (⟨"com/example/eider/eider/Ascii", "lowerCase", "(C)C"⟩ : MethodName)) hown (hw _ (List.mem_of_getElem? (i := 1) rfl)) (hw _ (List.mem_of_getElem? (i := 2) rfl)) (hw _ (List.mem_of_getElem? (i := 3) rfl)) (hw _ (List.mem_of_getElem? (i := 4) rfl)) (by decide) (hM := (rm1 l Z a0 hw [] (own_lc cc) h0 n0 Z0 (own_lc_rng hcc))) (by decide) (by decide) (by decide) (by decide) e110 (argsL := [(.int (own_lc cc))]) (rest := []) (Ls := #[.val (.int p0), .val (.int p1), .val (.int (p1 &&& (3 : Int32))), .val (.int ((p0 &&& (2147483647 : Int32)) % (26 : Int32))), .val (.int cc), .val (.int (cc - (65 : Int32))), .val (.int (0 : Int32)), .val (.int cc), .val (.int (own_lc cc))]) (by rw [hml]; rfl) (lenOf pd__C_C rfl) (W := 0) (Nat.le_of_eq rfl) (hb hby at_134)
        obtain ⟨rfl, N111q, e111⟩ := q111
        have N111 := Fr.app N110 N111q
        refine GlW.fin X111 hS (v := some (.int (1 : Int32))) (fun h => by rw [Bd.returns] at h; cases h) Bd.notSynchronized ?_ e111 (Nat.zero_le _) (by decide) (by decide) (fun fs hr => ?_)
        · exact ⟨rfl, N111⟩
        · show Steps p.tables e below (s₁.setTop (mkF m 85 #[.val (.int p0), .val (.int p1), .val (.int (p1 &&& (3 : Int32))), .val (.int ((p0 &&& (2147483647 : Int32)) % (26 : Int32))), .val (.int cc), .val (.int (cc - (65 : Int32))), .unset, .unset, .unset] [(.int (26 : Int32)), (.int (cc - (65 : Int32)))])) _
          refine XS.icmpYes X0.here hx rfl (pc0 := 85) (pc' := 92) rfl (hb hby at_85) rfl (own_nt (ic_ge _ _) hc85) (by decide) (by decide) ?_
          show Steps p.tables e below (s₁.setTop (mkF m 92 #[.val (.int p0), .val (.int p1), .val (.int (p1 &&& (3 : Int32))), .val (.int ((p0 &&& (2147483647 : Int32)) % (26 : Int32))), .val (.int cc), .val (.int (cc - (65 : Int32))), .unset, .unset, .unset] [])) _
          refine XS.iconst X0.here hx rfl (hb hby at_92) ?_
          show Steps p.tables e below (s₁.setTop (mkF m 93 #[.val (.int p0), .val (.int p1), .val (.int (p1 &&& (3 : Int32))), .val (.int ((p0 &&& (2147483647 : Int32)) % (26 : Int32))), .val (.int cc), .val (.int (cc - (65 : Int32))), .unset, .unset, .unset] [(.int (0 : Int32))])) _
          refine XS.istore X0.here hx rfl (hb hby at_93) rfl (l' := #[.val (.int p0), .val (.int p1), .val (.int (p1 &&& (3 : Int32))), .val (.int ((p0 &&& (2147483647 : Int32)) % (26 : Int32))), .val (.int cc), .val (.int (cc - (65 : Int32))), .val (.int (0 : Int32)), .unset, .unset]) rfl ?_
          show Steps p.tables e below (s₁.setTop (mkF m 95 #[.val (.int p0), .val (.int p1), .val (.int (p1 &&& (3 : Int32))), .val (.int ((p0 &&& (2147483647 : Int32)) % (26 : Int32))), .val (.int cc), .val (.int (cc - (65 : Int32))), .val (.int (0 : Int32)), .unset, .unset] [])) _
          refine XS.iload X0.here hx rfl (hb hby at_95) rfl ?_
          show Steps p.tables e below (s₁.setTop (mkF m 97 #[.val (.int p0), .val (.int p1), .val (.int (p1 &&& (3 : Int32))), .val (.int ((p0 &&& (2147483647 : Int32)) % (26 : Int32))), .val (.int cc), .val (.int (cc - (65 : Int32))), .val (.int (0 : Int32)), .unset, .unset] [(.int (0 : Int32))])) _
          refine XS.ifYes X0.here hx rfl (pc0 := 97) (pc' := 112) rfl (hb hby at_97) rfl (own_t (i0_eq _) (by decide)) (by decide) (by decide) ?_
          show Steps p.tables e below (s₁.setTop (mkF m 112 #[.val (.int p0), .val (.int p1), .val (.int (p1 &&& (3 : Int32))), .val (.int ((p0 &&& (2147483647 : Int32)) % (26 : Int32))), .val (.int cc), .val (.int (cc - (65 : Int32))), .val (.int (0 : Int32)), .unset, .unset] [])) _
          refine XS.iload X0.here hx rfl (hb hby at_112) rfl ?_
          show Steps p.tables e below (s₁.setTop (mkF m 114 #[.val (.int p0), .val (.int p1), .val (.int (p1 &&& (3 : Int32))), .val (.int ((p0 &&& (2147483647 : Int32)) % (26 : Int32))), .val (.int cc), .val (.int (cc - (65 : Int32))), .val (.int (0 : Int32)), .unset, .unset] [(.int cc)])) _
          refine XS.istore X0.here hx rfl (hb hby at_114) rfl (l' := #[.val (.int p0), .val (.int p1), .val (.int (p1 &&& (3 : Int32))), .val (.int ((p0 &&& (2147483647 : Int32)) % (26 : Int32))), .val (.int cc), .val (.int (cc - (65 : Int32))), .val (.int (0 : Int32)), .val (.int cc), .unset]) rfl ?_
          show Steps p.tables e below (s₁.setTop (mkF m 116 #[.val (.int p0), .val (.int p1), .val (.int (p1 &&& (3 : Int32))), .val (.int ((p0 &&& (2147483647 : Int32)) % (26 : Int32))), .val (.int cc), .val (.int (cc - (65 : Int32))), .val (.int (0 : Int32)), .val (.int cc), .unset] [])) _
          refine XS.iload X0.here hx rfl (hb hby at_116) rfl ?_
          show Steps p.tables e below (s₁.setTop (mkF m 118 #[.val (.int p0), .val (.int p1), .val (.int (p1 &&& (3 : Int32))), .val (.int ((p0 &&& (2147483647 : Int32)) % (26 : Int32))), .val (.int cc), .val (.int (cc - (65 : Int32))), .val (.int (0 : Int32)), .val (.int cc), .unset] [(.int cc)])) _
          refine st110 _ ?_
          show Steps p.tables e below (T110.setTop (mkF m 121 #[.val (.int p0), .val (.int p1), .val (.int (p1 &&& (3 : Int32))), .val (.int ((p0 &&& (2147483647 : Int32)) % (26 : Int32))), .val (.int cc), .val (.int (cc - (65 : Int32))), .val (.int (0 : Int32)), .val (.int cc), .unset] [(.int (own_lc cc))])) _
          refine XS.istore X110.here hx rfl (hb hby at_121) rfl (l' := #[.val (.int p0), .val (.int p1), .val (.int (p1 &&& (3 : Int32))), .val (.int ((p0 &&& (2147483647 : Int32)) % (26 : Int32))), .val (.int cc), .val (.int (cc - (65 : Int32))), .val (.int (0 : Int32)), .val (.int cc), .val (.int (own_lc cc))]) rfl ?_
          show Steps p.tables e below (T110.setTop (mkF m 123 #[.val (.int p0), .val (.int p1), .val (.int (p1 &&& (3 : Int32))), .val (.int ((p0 &&& (2147483647 : Int32)) % (26 : Int32))), .val (.int cc), .val (.int (cc - (65 : Int32))), .val (.int (0 : Int32)), .val (.int cc), .val (.int (own_lc cc))] [])) _
          refine XS.iload X110.here hx rfl (hb hby at_123) rfl ?_
          show Steps p.tables e below (T110.setTop (mkF m 125 #[.val (.int p0), .val (.int p1), .val (.int (p1 &&& (3 : Int32))), .val (.int ((p0 &&& (2147483647 : Int32)) % (26 : Int32))), .val (.int cc), .val (.int (cc - (65 : Int32))), .val (.int (0 : Int32)), .val (.int cc), .val (.int (own_lc cc))] [(.int (own_lc cc))])) _
          refine XS.iload X110.here hx rfl (hb hby at_125) rfl ?_
          show Steps p.tables e below (T110.setTop (mkF m 127 #[.val (.int p0), .val (.int p1), .val (.int (p1 &&& (3 : Int32))), .val (.int ((p0 &&& (2147483647 : Int32)) % (26 : Int32))), .val (.int cc), .val (.int (cc - (65 : Int32))), .val (.int (0 : Int32)), .val (.int cc), .val (.int (own_lc cc))] [(.int cc), (.int (own_lc cc))])) _
          refine XS.icmpYes X110.here hx rfl (pc0 := 127) (pc' := 132) rfl (hb hby at_127) rfl (own_t (ic_eq _ _) (if_neg (own_nup2 hcc hc85))) (by decide) (by decide) ?_
          show Steps p.tables e below (T110.setTop (mkF m 132 #[.val (.int p0), .val (.int p1), .val (.int (p1 &&& (3 : Int32))), .val (.int ((p0 &&& (2147483647 : Int32)) % (26 : Int32))), .val (.int cc), .val (.int (cc - (65 : Int32))), .val (.int (0 : Int32)), .val (.int cc), .val (.int (own_lc cc))] [])) _
          refine XS.iload X110.here hx rfl (hb hby at_132) rfl ?_
          show Steps p.tables e below (T110.setTop (mkF m 134 #[.val (.int p0), .val (.int p1), .val (.int (p1 &&& (3 : Int32))), .val (.int ((p0 &&& (2147483647 : Int32)) % (26 : Int32))), .val (.int cc), .val (.int (cc - (65 : Int32))), .val (.int (0 : Int32)), .val (.int cc), .val (.int (own_lc cc))] [(.int (own_lc cc))])) _
          refine st111 _ ?_
          show Steps p.tables e below (T111.setTop (mkF m 137 #[.val (.int p0), .val (.int p1), .val (.int (p1 &&& (3 : Int32))), .val (.int ((p0 &&& (2147483647 : Int32)) % (26 : Int32))), .val (.int cc), .val (.int (cc - (65 : Int32))), .val (.int (0 : Int32)), .val (.int cc), .val (.int (own_lc cc))] [(.int (own_lc (own_lc cc)))])) _
          refine XS.iload X111.here hx rfl (hb hby at_137) rfl ?_
          show Steps p.tables e below (T111.setTop (mkF m 139 #[.val (.int p0), .val (.int p1), .val (.int (p1 &&& (3 : Int32))), .val (.int ((p0 &&& (2147483647 : Int32)) % (26 : Int32))), .val (.int cc), .val (.int (cc - (65 : Int32))), .val (.int (0 : Int32)), .val (.int cc), .val (.int (own_lc cc))] [(.int (own_lc cc)), (.int (own_lc (own_lc cc)))])) _
          refine XS.icmpNo X111.here hx rfl (hb hby at_139) rfl (own_nf (ic_ne _ _) (own_lc2 hcc)) ?_
          show Steps p.tables e below (T111.setTop (mkF m 142 #[.val (.int p0), .val (.int p1), .val (.int (p1 &&& (3 : Int32))), .val (.int ((p0 &&& (2147483647 : Int32)) % (26 : Int32))), .val (.int cc), .val (.int (cc - (65 : Int32))), .val (.int (0 : Int32)), .val (.int cc), .val (.int (own_lc cc))] [])) _
          refine XS.iconst X111.here hx rfl (hb hby at_142) ?_
          show Steps p.tables e below (T111.setTop (mkF m 143 #[.val (.int p0), .val (.int p1), .val (.int (p1 &&& (3 : Int32))), .val (.int ((p0 &&& (2147483647 : Int32)) % (26 : Int32))), .val (.int cc), .val (.int (cc - (65 : Int32))), .val (.int (0 : Int32)), .val (.int cc), .val (.int (own_lc cc))] [(.int (1 : Int32))])) _
          refine XS.goto X111.here hx rfl (pc0 := 143) (pc' := 147) rfl (hb hby at_143) (by decide) (by decide) ?_
          show Steps p.tables e below (T111.setTop (mkF m 147 #[.val (.int p0), .val (.int p1), .val (.int (p1 &&& (3 : Int32))), .val (.int ((p0 &&& (2147483647 : Int32)) % (26 : Int32))), .val (.int cc), .val (.int (cc - (65 : Int32))), .val (.int (0 : Int32)), .val (.int cc), .val (.int (own_lc cc))] [(.int (1 : Int32))])) _
          exact retN X111 hx (t := .boolean) Bd.returns (by simp) (hb hby at_147) hr
  by_cases hc13 : (p1 &&& (3 : Int32)) = (0 : Int32)
  · refine GlW.pre (S' := s₁.setTop (mkF m 69 #[.val (.int p0), .val (.int p1), .val (.int (p1 &&& (3 : Int32))), .val (.int ((p0 &&& (2147483647 : Int32)) % (26 : Int32))), .val (.int ((p0 &&& (65535 : Int32)).toUInt32.toUInt16.toUInt32.toInt32)), .unset, .unset, .unset, .unset] [])) (fun t kt => ?_) ?_
    · show Steps p.tables e below (s₁.setTop (mkF m 13 #[.val (.int p0), .val (.int p1), .val (.int (p1 &&& (3 : Int32))), .val (.int ((p0 &&& (2147483647 : Int32)) % (26 : Int32))), .unset, .unset, .unset, .unset, .unset] [(.int (p1 &&& (3 : Int32)))])) _
      refine XS.ifNo X0.here hx rfl (hb hby at_13) rfl (own_nf (i0_ne _) hc13) ?_
      show Steps p.tables e below (s₁.setTop (mkF m 16 #[.val (.int p0), .val (.int p1), .val (.int (p1 &&& (3 : Int32))), .val (.int ((p0 &&& (2147483647 : Int32)) % (26 : Int32))), .unset, .unset, .unset, .unset, .unset] [])) _
      refine XS.iloadN X0.here hx rfl (hb hby at_16) rfl ?_
      show Steps p.tables e below (s₁.setTop (mkF m 17 #[.val (.int p0), .val (.int p1), .val (.int (p1 &&& (3 : Int32))), .val (.int ((p0 &&& (2147483647 : Int32)) % (26 : Int32))), .unset, .unset, .unset, .unset, .unset] [(.int p0)])) _
      refine X0.ldcInt hx hown (mvT hZ (hw _ (List.mem_of_getElem? (i := 41) rfl))) (g := (mkF m 17 #[.val (.int p0), .val (.int p1), .val (.int (p1 &&& (3 : Int32))), .val (.int ((p0 &&& (2147483647 : Int32)) % (26 : Int32))), .unset, .unset, .unset, .unset, .unset] [(.int p0)])) rfl (hb hby at_17) _ ?_
      show Steps p.tables e below (s₁.setTop (mkF m 19 #[.val (.int p0), .val (.int p1), .val (.int (p1 &&& (3 : Int32))), .val (.int ((p0 &&& (2147483647 : Int32)) % (26 : Int32))), .unset, .unset, .unset, .unset, .unset] [(.int (65535 : Int32)), (.int p0)])) _
      refine XS.iand X0.here hx rfl (hb hby at_19) rfl ?_
      show Steps p.tables e below (s₁.setTop (mkF m 20 #[.val (.int p0), .val (.int p1), .val (.int (p1 &&& (3 : Int32))), .val (.int ((p0 &&& (2147483647 : Int32)) % (26 : Int32))), .unset, .unset, .unset, .unset, .unset] [(.int (p0 &&& (65535 : Int32)))])) _
      refine XS.i2c X0.here hx rfl (hb hby at_20) rfl ?_
      show Steps p.tables e below (s₁.setTop (mkF m 21 #[.val (.int p0), .val (.int p1), .val (.int (p1 &&& (3 : Int32))), .val (.int ((p0 &&& (2147483647 : Int32)) % (26 : Int32))), .unset, .unset, .unset, .unset, .unset] [(.int ((p0 &&& (65535 : Int32)).toUInt32.toUInt16.toUInt32.toInt32))])) _
      refine XS.istore X0.here hx rfl (hb hby at_21) rfl (l' := #[.val (.int p0), .val (.int p1), .val (.int (p1 &&& (3 : Int32))), .val (.int ((p0 &&& (2147483647 : Int32)) % (26 : Int32))), .val (.int ((p0 &&& (65535 : Int32)).toUInt32.toUInt16.toUInt32.toInt32)), .unset, .unset, .unset, .unset]) rfl ?_
      show Steps p.tables e below (s₁.setTop (mkF m 23 #[.val (.int p0), .val (.int p1), .val (.int (p1 &&& (3 : Int32))), .val (.int ((p0 &&& (2147483647 : Int32)) % (26 : Int32))), .val (.int ((p0 &&& (65535 : Int32)).toUInt32.toUInt16.toUInt32.toInt32)), .unset, .unset, .unset, .unset] [])) _
      refine XS.goto X0.here hx rfl (pc0 := 23) (pc' := 69) rfl (hb hby at_23) (by decide) (by decide) ?_
      exact kt
    exact J69 ((p0 &&& (65535 : Int32)).toUInt32.toUInt16.toUInt32.toInt32) (own_i2c_rng _)
  · refine GlW.pre (S' := s₁.setTop (mkF m 28 #[.val (.int p0), .val (.int p1), .val (.int (p1 &&& (3 : Int32))), .val (.int ((p0 &&& (2147483647 : Int32)) % (26 : Int32))), .unset, .unset, .unset, .unset, .unset] [(.int (1 : Int32)), (.int (p1 &&& (3 : Int32)))])) (fun t kt => ?_) ?_
    · show Steps p.tables e below (s₁.setTop (mkF m 13 #[.val (.int p0), .val (.int p1), .val (.int (p1 &&& (3 : Int32))), .val (.int ((p0 &&& (2147483647 : Int32)) % (26 : Int32))), .unset, .unset, .unset, .unset, .unset] [(.int (p1 &&& (3 : Int32)))])) _
      refine XS.ifYes X0.here hx rfl (pc0 := 13) (pc' := 26) rfl (hb hby at_13) rfl (own_nt (i0_ne _) hc13) (by decide) (by decide) ?_
      show Steps p.tables e below (s₁.setTop (mkF m 26 #[.val (.int p0), .val (.int p1), .val (.int (p1 &&& (3 : Int32))), .val (.int ((p0 &&& (2147483647 : Int32)) % (26 : Int32))), .unset, .unset, .unset, .unset, .unset] [])) _
      refine XS.iloadN X0.here hx rfl (hb hby at_26) rfl ?_
      show Steps p.tables e below (s₁.setTop (mkF m 27 #[.val (.int p0), .val (.int p1), .val (.int (p1 &&& (3 : Int32))), .val (.int ((p0 &&& (2147483647 : Int32)) % (26 : Int32))), .unset, .unset, .unset, .unset, .unset] [(.int (p1 &&& (3 : Int32)))])) _
      refine XS.iconst X0.here hx rfl (hb hby at_27) ?_
      exact kt
    by_cases hc28 : (p1 &&& (3 : Int32)) = (1 : Int32)
    · refine GlW.pre (S' := s₁.setTop (mkF m 69 #[.val (.int p0), .val (.int p1), .val (.int (p1 &&& (3 : Int32))), .val (.int ((p0 &&& (2147483647 : Int32)) % (26 : Int32))), .val (.int (((65 : Int32) + ((p0 &&& (2147483647 : Int32)) % (26 : Int32))).toUInt32.toUInt16.toUInt32.toInt32)), .unset, .unset, .unset, .unset] [])) (fun t kt => ?_) ?_
      · show Steps p.tables e below (s₁.setTop (mkF m 28 #[.val (.int p0), .val (.int p1), .val (.int (p1 &&& (3 : Int32))), .val (.int ((p0 &&& (2147483647 : Int32)) % (26 : Int32))), .unset, .unset, .unset, .unset, .unset] [(.int (1 : Int32)), (.int (p1 &&& (3 : Int32)))])) _
        refine XS.icmpNo X0.here hx rfl (hb hby at_28) rfl (own_nf (ic_ne _ _) hc28) ?_
        show Steps p.tables e below (s₁.setTop (mkF m 31 #[.val (.int p0), .val (.int p1), .val (.int (p1 &&& (3 : Int32))), .val (.int ((p0 &&& (2147483647 : Int32)) % (26 : Int32))), .unset, .unset, .unset, .unset, .unset] [])) _
        refine XS.bipush X0.here hx rfl (hb hby at_31) ?_
        show Steps p.tables e below (s₁.setTop (mkF m 33 #[.val (.int p0), .val (.int p1), .val (.int (p1 &&& (3 : Int32))), .val (.int ((p0 &&& (2147483647 : Int32)) % (26 : Int32))), .unset, .unset, .unset, .unset, .unset] [(.int (65 : Int32))])) _
        refine XS.iloadN X0.here hx rfl (hb hby at_33) rfl ?_
        show Steps p.tables e below (s₁.setTop (mkF m 34 #[.val (.int p0), .val (.int p1), .val (.int (p1 &&& (3 : Int32))), .val (.int ((p0 &&& (2147483647 : Int32)) % (26 : Int32))), .unset, .unset, .unset, .unset, .unset] [(.int ((p0 &&& (2147483647 : Int32)) % (26 : Int32))), (.int (65 : Int32))])) _
        refine XS.iadd X0.here hx rfl (hb hby at_34) rfl ?_
        show Steps p.tables e below (s₁.setTop (mkF m 35 #[.val (.int p0), .val (.int p1), .val (.int (p1 &&& (3 : Int32))), .val (.int ((p0 &&& (2147483647 : Int32)) % (26 : Int32))), .unset, .unset, .unset, .unset, .unset] [(.int ((65 : Int32) + ((p0 &&& (2147483647 : Int32)) % (26 : Int32))))])) _
        refine XS.i2c X0.here hx rfl (hb hby at_35) rfl ?_
        show Steps p.tables e below (s₁.setTop (mkF m 36 #[.val (.int p0), .val (.int p1), .val (.int (p1 &&& (3 : Int32))), .val (.int ((p0 &&& (2147483647 : Int32)) % (26 : Int32))), .unset, .unset, .unset, .unset, .unset] [(.int (((65 : Int32) + ((p0 &&& (2147483647 : Int32)) % (26 : Int32))).toUInt32.toUInt16.toUInt32.toInt32))])) _
        refine XS.istore X0.here hx rfl (hb hby at_36) rfl (l' := #[.val (.int p0), .val (.int p1), .val (.int (p1 &&& (3 : Int32))), .val (.int ((p0 &&& (2147483647 : Int32)) % (26 : Int32))), .val (.int (((65 : Int32) + ((p0 &&& (2147483647 : Int32)) % (26 : Int32))).toUInt32.toUInt16.toUInt32.toInt32)), .unset, .unset, .unset, .unset]) rfl ?_
        show Steps p.tables e below (s₁.setTop (mkF m 38 #[.val (.int p0), .val (.int p1), .val (.int (p1 &&& (3 : Int32))), .val (.int ((p0 &&& (2147483647 : Int32)) % (26 : Int32))), .val (.int (((65 : Int32) + ((p0 &&& (2147483647 : Int32)) % (26 : Int32))).toUInt32.toUInt16.toUInt32.toInt32)), .unset, .unset, .unset, .unset] [])) _
        refine XS.goto X0.here hx rfl (pc0 := 38) (pc' := 69) rfl (hb hby at_38) (by decide) (by decide) ?_
        exact kt
      exact J69 (((65 : Int32) + ((p0 &&& (2147483647 : Int32)) % (26 : Int32))).toUInt32.toUInt16.toUInt32.toInt32) (own_i2c_rng _)
    · refine GlW.pre (S' := s₁.setTop (mkF m 43 #[.val (.int p0), .val (.int p1), .val (.int (p1 &&& (3 : Int32))), .val (.int ((p0 &&& (2147483647 : Int32)) % (26 : Int32))), .unset, .unset, .unset, .unset, .unset] [(.int (2 : Int32)), (.int (p1 &&& (3 : Int32)))])) (fun t kt => ?_) ?_
      · show Steps p.tables e below (s₁.setTop (mkF m 28 #[.val (.int p0), .val (.int p1), .val (.int (p1 &&& (3 : Int32))), .val (.int ((p0 &&& (2147483647 : Int32)) % (26 : Int32))), .unset, .unset, .unset, .unset, .unset] [(.int (1 : Int32)), (.int (p1 &&& (3 : Int32)))])) _
        refine XS.icmpYes X0.here hx rfl (pc0 := 28) (pc' := 41) rfl (hb hby at_28) rfl (own_nt (ic_ne _ _) hc28) (by decide) (by decide) ?_
        show Steps p.tables e below (s₁.setTop (mkF m 41 #[.val (.int p0), .val (.int p1), .val (.int (p1 &&& (3 : Int32))), .val (.int ((p0 &&& (2147483647 : Int32)) % (26 : Int32))), .unset, .unset, .unset, .unset, .unset] [])) _
        refine XS.iloadN X0.here hx rfl (hb hby at_41) rfl ?_
        show Steps p.tables e below (s₁.setTop (mkF m 42 #[.val (.int p0), .val (.int p1), .val (.int (p1 &&& (3 : Int32))), .val (.int ((p0 &&& (2147483647 : Int32)) % (26 : Int32))), .unset, .unset, .unset, .unset, .unset] [(.int (p1 &&& (3 : Int32)))])) _
        refine XS.iconst X0.here hx rfl (hb hby at_42) ?_
        exact kt
      by_cases hc43 : (p1 &&& (3 : Int32)) = (2 : Int32)
      · refine GlW.pre (S' := s₁.setTop (mkF m 69 #[.val (.int p0), .val (.int p1), .val (.int (p1 &&& (3 : Int32))), .val (.int ((p0 &&& (2147483647 : Int32)) % (26 : Int32))), .val (.int (((97 : Int32) + ((p0 &&& (2147483647 : Int32)) % (26 : Int32))).toUInt32.toUInt16.toUInt32.toInt32)), .unset, .unset, .unset, .unset] [])) (fun t kt => ?_) ?_
        · show Steps p.tables e below (s₁.setTop (mkF m 43 #[.val (.int p0), .val (.int p1), .val (.int (p1 &&& (3 : Int32))), .val (.int ((p0 &&& (2147483647 : Int32)) % (26 : Int32))), .unset, .unset, .unset, .unset, .unset] [(.int (2 : Int32)), (.int (p1 &&& (3 : Int32)))])) _
          refine XS.icmpNo X0.here hx rfl (hb hby at_43) rfl (own_nf (ic_ne _ _) hc43) ?_
          show Steps p.tables e below (s₁.setTop (mkF m 46 #[.val (.int p0), .val (.int p1), .val (.int (p1 &&& (3 : Int32))), .val (.int ((p0 &&& (2147483647 : Int32)) % (26 : Int32))), .unset, .unset, .unset, .unset, .unset] [])) _
          refine XS.bipush X0.here hx rfl (hb hby at_46) ?_
          show Steps p.tables e below (s₁.setTop (mkF m 48 #[.val (.int p0), .val (.int p1), .val (.int (p1 &&& (3 : Int32))), .val (.int ((p0 &&& (2147483647 : Int32)) % (26 : Int32))), .unset, .unset, .unset, .unset, .unset] [(.int (97 : Int32))])) _
          refine XS.iloadN X0.here hx rfl (hb hby at_48) rfl ?_
          show Steps p.tables e below (s₁.setTop (mkF m 49 #[.val (.int p0), .val (.int p1), .val (.int (p1 &&& (3 : Int32))), .val (.int ((p0 &&& (2147483647 : Int32)) % (26 : Int32))), .unset, .unset, .unset, .unset, .unset] [(.int ((p0 &&& (2147483647 : Int32)) % (26 : Int32))), (.int (97 : Int32))])) _
          refine XS.iadd X0.here hx rfl (hb hby at_49) rfl ?_
          show Steps p.tables e below (s₁.setTop (mkF m 50 #[.val (.int p0), .val (.int p1), .val (.int (p1 &&& (3 : Int32))), .val (.int ((p0 &&& (2147483647 : Int32)) % (26 : Int32))), .unset, .unset, .unset, .unset, .unset] [(.int ((97 : Int32) + ((p0 &&& (2147483647 : Int32)) % (26 : Int32))))])) _
          refine XS.i2c X0.here hx rfl (hb hby at_50) rfl ?_
          show Steps p.tables e below (s₁.setTop (mkF m 51 #[.val (.int p0), .val (.int p1), .val (.int (p1 &&& (3 : Int32))), .val (.int ((p0 &&& (2147483647 : Int32)) % (26 : Int32))), .unset, .unset, .unset, .unset, .unset] [(.int (((97 : Int32) + ((p0 &&& (2147483647 : Int32)) % (26 : Int32))).toUInt32.toUInt16.toUInt32.toInt32))])) _
          refine XS.istore X0.here hx rfl (hb hby at_51) rfl (l' := #[.val (.int p0), .val (.int p1), .val (.int (p1 &&& (3 : Int32))), .val (.int ((p0 &&& (2147483647 : Int32)) % (26 : Int32))), .val (.int (((97 : Int32) + ((p0 &&& (2147483647 : Int32)) % (26 : Int32))).toUInt32.toUInt16.toUInt32.toInt32)), .unset, .unset, .unset, .unset]) rfl ?_
          show Steps p.tables e below (s₁.setTop (mkF m 53 #[.val (.int p0), .val (.int p1), .val (.int (p1 &&& (3 : Int32))), .val (.int ((p0 &&& (2147483647 : Int32)) % (26 : Int32))), .val (.int (((97 : Int32) + ((p0 &&& (2147483647 : Int32)) % (26 : Int32))).toUInt32.toUInt16.toUInt32.toInt32)), .unset, .unset, .unset, .unset] [])) _
          refine XS.goto X0.here hx rfl (pc0 := 53) (pc' := 69) rfl (hb hby at_53) (by decide) (by decide) ?_
          exact kt
        exact J69 (((97 : Int32) + ((p0 &&& (2147483647 : Int32)) % (26 : Int32))).toUInt32.toUInt16.toUInt32.toInt32) (own_i2c_rng _)
      · refine GlW.pre (S' := s₁.setTop (mkF m 69 #[.val (.int p0), .val (.int p1), .val (.int (p1 &&& (3 : Int32))), .val (.int ((p0 &&& (2147483647 : Int32)) % (26 : Int32))), .val (.int (((63 : Int32) + ((p0 &&& (2147483647 : Int32)) % (29 : Int32))).toUInt32.toUInt16.toUInt32.toInt32)), .unset, .unset, .unset, .unset] [])) (fun t kt => ?_) ?_
        · show Steps p.tables e below (s₁.setTop (mkF m 43 #[.val (.int p0), .val (.int p1), .val (.int (p1 &&& (3 : Int32))), .val (.int ((p0 &&& (2147483647 : Int32)) % (26 : Int32))), .unset, .unset, .unset, .unset, .unset] [(.int (2 : Int32)), (.int (p1 &&& (3 : Int32)))])) _
          refine XS.icmpYes X0.here hx rfl (pc0 := 43) (pc' := 56) rfl (hb hby at_43) rfl (own_nt (ic_ne _ _) hc43) (by decide) (by decide) ?_
          show Steps p.tables e below (s₁.setTop (mkF m 56 #[.val (.int p0), .val (.int p1), .val (.int (p1 &&& (3 : Int32))), .val (.int ((p0 &&& (2147483647 : Int32)) % (26 : Int32))), .unset, .unset, .unset, .unset, .unset] [])) _
          refine XS.bipush X0.here hx rfl (hb hby at_56) ?_
          show Steps p.tables e below (s₁.setTop (mkF m 58 #[.val (.int p0), .val (.int p1), .val (.int (p1 &&& (3 : Int32))), .val (.int ((p0 &&& (2147483647 : Int32)) % (26 : Int32))), .unset, .unset, .unset, .unset, .unset] [(.int (63 : Int32))])) _
          refine XS.iloadN X0.here hx rfl (hb hby at_58) rfl ?_
          show Steps p.tables e below (s₁.setTop (mkF m 59 #[.val (.int p0), .val (.int p1), .val (.int (p1 &&& (3 : Int32))), .val (.int ((p0 &&& (2147483647 : Int32)) % (26 : Int32))), .unset, .unset, .unset, .unset, .unset] [(.int p0), (.int (63 : Int32))])) _
          refine X0.ldcInt hx hown (mvT hZ (hw _ (List.mem_of_getElem? (i := 0) rfl))) (g := (mkF m 59 #[.val (.int p0), .val (.int p1), .val (.int (p1 &&& (3 : Int32))), .val (.int ((p0 &&& (2147483647 : Int32)) % (26 : Int32))), .unset, .unset, .unset, .unset, .unset] [(.int p0), (.int (63 : Int32))])) rfl (hb hby at_59) _ ?_
          show Steps p.tables e below (s₁.setTop (mkF m 61 #[.val (.int p0), .val (.int p1), .val (.int (p1 &&& (3 : Int32))), .val (.int ((p0 &&& (2147483647 : Int32)) % (26 : Int32))), .unset, .unset, .unset, .unset, .unset] [(.int (2147483647 : Int32)), (.int p0), (.int (63 : Int32))])) _
          refine XS.iand X0.here hx rfl (hb hby at_61) rfl ?_
          show Steps p.tables e below (s₁.setTop (mkF m 62 #[.val (.int p0), .val (.int p1), .val (.int (p1 &&& (3 : Int32))), .val (.int ((p0 &&& (2147483647 : Int32)) % (26 : Int32))), .unset, .unset, .unset, .unset, .unset] [(.int (p0 &&& (2147483647 : Int32))), (.int (63 : Int32))])) _
          refine XS.bipush X0.here hx rfl (hb hby at_62) ?_
          show Steps p.tables e below (s₁.setTop (mkF m 64 #[.val (.int p0), .val (.int p1), .val (.int (p1 &&& (3 : Int32))), .val (.int ((p0 &&& (2147483647 : Int32)) % (26 : Int32))), .unset, .unset, .unset, .unset, .unset] [(.int (29 : Int32)), (.int (p0 &&& (2147483647 : Int32))), (.int (63 : Int32))])) _
          refine iremM X0 hx rfl (hb hby at_64) rfl (by decide) ?_
          show Steps p.tables e below (s₁.setTop (mkF m 65 #[.val (.int p0), .val (.int p1), .val (.int (p1 &&& (3 : Int32))), .val (.int ((p0 &&& (2147483647 : Int32)) % (26 : Int32))), .unset, .unset, .unset, .unset, .unset] [(.int ((p0 &&& (2147483647 : Int32)) % (29 : Int32))), (.int (63 : Int32))])) _
          refine XS.iadd X0.here hx rfl (hb hby at_65) rfl ?_
          show Steps p.tables e below (s₁.setTop (mkF m 66 #[.val (.int p0), .val (.int p1), .val (.int (p1 &&& (3 : Int32))), .val (.int ((p0 &&& (2147483647 : Int32)) % (26 : Int32))), .unset, .unset, .unset, .unset, .unset] [(.int ((63 : Int32) + ((p0 &&& (2147483647 : Int32)) % (29 : Int32))))])) _
          refine XS.i2c X0.here hx rfl (hb hby at_66) rfl ?_
          show Steps p.tables e below (s₁.setTop (mkF m 67 #[.val (.int p0), .val (.int p1), .val (.int (p1 &&& (3 : Int32))), .val (.int ((p0 &&& (2147483647 : Int32)) % (26 : Int32))), .unset, .unset, .unset, .unset, .unset] [(.int (((63 : Int32) + ((p0 &&& (2147483647 : Int32)) % (29 : Int32))).toUInt32.toUInt16.toUInt32.toInt32))])) _
          refine XS.istore X0.here hx rfl (hb hby at_67) rfl (l' := #[.val (.int p0), .val (.int p1), .val (.int (p1 &&& (3 : Int32))), .val (.int ((p0 &&& (2147483647 : Int32)) % (26 : Int32))), .val (.int (((63 : Int32) + ((p0 &&& (2147483647 : Int32)) % (29 : Int32))).toUInt32.toUInt16.toUInt32.toInt32)), .unset, .unset, .unset, .unset]) rfl ?_
          exact kt
        exact J69 (((63 : Int32) + ((p0 &&& (2147483647 : Int32)) % (29 : Int32))).toUInt32.toUInt16.toUInt32.toInt32) (own_i2c_rng _)
set_option maxRecDepth 65536 in
set_option maxHeartbeats 40000000 in
theorem comes_1 {Post : Tables → Env → Array Value → State → Outcome → State → Prop} (hpost : ∀ tb e args s v u, (limb_1_1.after args s (.returned v) u = true ∧ limb_1_2.after args s (.returned v) u = true ∧ True) → ReturnedEndW s (.returned v) u (Jvm.fieldLocs frame_1_writes args s ++ Jvm.arrayLocs frame_1_arrays args s ++ Jvm.staticLocs frame_1_statics s) 8 1088 → Post tb e args s (.returned v) u) :
    ArmFor flags0 classFile x code maxLocals ret World_1 tables_1 room_1 Calls_1 rest_1 Pre_1 Post := by
  intro l hfl _ _ p e ha hc hk s m args below hf hA hF happ hP
  obtain ⟨hcalls, hrest, hpre⟩ := hP
  obtain ⟨-, -, -, hnamed, -, -, -, hat⟩ := (Spec.applies_iff hf).mp happ
  obtain ⟨hg, hn⟩ := and_e (Cond.before_iff.mp (show (Jvm.Cond.and given_1 narrow_1).before args s = true from hpre))
  obtain ⟨hq0, hr0⟩ := and_e hg
  obtain ⟨hq1, hr1⟩ := and_e hr0
  obtain ⟨w0, w1, rfl⟩ : ∃ w0 w1 : Value, args = #[w0, w1] := by
    have hs : args.size = 2 := by simpa [Cond.value, given_1] using hq0
    obtain ⟨L⟩ := args
    match L, hs with
    | [w0, w1], _ => exact ⟨w0, w1, rfl⟩
  have hw := fun d (hd : d ∈ tables_1) => atoms_spec (ws := Jvm.Cond.code x code maxLocals ret :: tables_1) hat d (List.mem_cons_of_mem _ hd)
  have hfit : Fit s := fun {y c} hc i hi => by
    obtain ⟨ha, rfl⟩ := Array.getElem?_eq_some_iff.mp hc
    have q := List.all_eq_true.mp ((Array.all_eq_true_iff_forall_mem.mp hF) _ (Array.getElem_mem ha)) i (List.mem_range.mpr hi)
    simpa [Array.getElem?_eq_getElem hi] using q
  obtain ⟨hsets, hown0⟩ := atoms_of _ (rest_1_c_eq ▸ (show rest_1_c.before _ s = true from hrest))
  obtain ⟨i0, ei0⟩ := is_v hq1
  obtain rfl : w0 = (.int i0) := Option.some.inj ei0
  obtain ⟨i1, ei1⟩ := is_v hr1
  obtain rfl : w1 = (.int i1) := Option.some.inj ei1
  have n5 := not_v (Cond.before_iff.mp (hsets _ (List.mem_of_getElem? (i := 2) rfl)))
  obtain ⟨cs, ecs⟩ := is_v (Cond.before_iff.mp (hsets _ (List.mem_of_getElem? (i := 1) rfl)))
  have S_c : Sta s s.heap "java/lang/String" "COMPACT_STRINGS" "Z" (.int cs) := Sta.start ecs (Or.inl (hsets _ (List.mem_of_getElem? (i := 0) rfl)))
  have hcs : ¬ (cs = (0 : Int32)) := gotF (Cond.eq_ints ecs (Term.int_eval (0))) n5
  obtain ⟨G3, e3, rG3⟩ := isR_v (Cond.before_iff.mp (hsets _ (List.mem_of_getElem? (i := 8) rfl)))
  have S_f : Sta s s.heap "jdk/internal/util/Preconditions" "SIOOBE_FORMATTER" "Ljava/util/function/BiFunction;" G3 := Sta.start e3 (Or.inl (hsets _ (List.mem_of_getElem? (i := 7) rfl)))
  have hheld : Jvm.Lit.constHeld s "com/example/eider/eider/AsciiLowerCasePinLaw" 9 := hcalls.1 ("com/example/eider/eider/AsciiLowerCasePinLaw", 9) (List.mem_cons_self ..)
  obtain ⟨n, o, h1, h2, h3, _, L, rfl, ⟨rfl, N⟩, hq⟩ := rm0 l s _ hw tables_1 i0 i1 cs G3 s.heap s.heap.size (Nat.le_refl _) S_c hcs S_f rG3 (hsets _ (List.mem_of_getElem? (i := 2) rfl)) hheld p e ha hc hk s m _ below hf ((Spec.applies_iff_loose hf).mp happ).1 ⟨rfl, rfl, rfl⟩ trivial
  refine ⟨n, _, h1, h2, h3, hpost _ _ _ _ _ _ ⟨Cond.after_iff.mpr rfl, Cond.after_iff.mpr (eq_i res_at (Term.int_eval (1)) rfl), trivial⟩ ⟨hq.1, hq.2.1, hq.2.2.1, (hq.2.2.2.sift fun y hy => Or.inr (N y hy)).mono (by decide) (by decide)⟩⟩
theorem main_1_1 : Claimed_1_1 := comes_1 fun _ _ _ _ _ _ h hF => ⟨h.1, hF⟩
theorem main_1_2 : Claimed_1_2 := comes_1 fun _ _ _ _ _ _ h hF => ⟨h.2.1, hF⟩
end Jvm.Pilot.@@N@@
namespace Jvm.Pilot.@@N@@
open Jvm Jvm.ClassFile Sem Op Lib Jvm.Free Jvm.Stand Jvm.Pilot.@@N@@.Jvm.D
/-! MADE BY PROGRAM (witnessworld.py) out of the Statement's table words and the real class files: 17 classes; the members and pool entries that the words name. The judged class is class 1, her method 1. -/
namespace start1
open Jvm.ClassFile
def u (s : String) : CpInfo := .utf8 (stringToUtf16 s)
/-- a pool by its gaps: so many unusable entries, then the entry; so many at the end -/
def gap : Nat → List CpInfo → List CpInfo
  | 0, r => r
  | n + 1, r => .unusable :: gap n r
def poolList (es : List (Nat × CpInfo)) (last : Nat) : List CpInfo := es.foldr (fun e r => gap e.1 (e.2 :: r)) (gap last [])
def pool (es : List (Nat × CpInfo)) (last : Nat) : Array CpInfo := ⟨poolList es last⟩
def fileOf (pool : Array CpInfo) (this : Nat) (attrs : Array Attribute := #[]) (ms : Array MethodInfo := #[]) (fl : Nat := 33) (sup : Nat := 0) (ifs : Array Nat := #[]) (fds : Array FieldInfo := #[]) : ClassFile where
  minorVersion := 0
  majorVersion := 65
  constantPool := pool
  accessFlags := fl
  thisClass := this
  superClass := sup
  interfaces := ifs
  fields := fds
  methods := ms
  attributes := attrs
def plain (name : String) (sup : Option ClassId) : Class where
  name := name
  kind := .ordinary
  loader := none
  accessFlags := 33
  super := sup
  interfaces := #[]
  cf := none
  fields := #[]
  methods := #[]
  instanceTypes := #[]
  staticTypes := #[]
  resolved := #[]
  callSites := []
  init := .initialized
  statics := none
  mirror := none

def pool0 : Array CpInfo := pool [(5, u "<init>"), (0, u "()V"), (1, .class_ 10), (1, u "java/lang/Object")] 113

def k0m0 : Method := { name := "<init>", desc := "()V", sig := { parameters := [], returnType := none }, accessFlags := 1, code := none }
/-- java/lang/Object -/
def k0 : Class := { plain "java/lang/Object" none with
  accessFlags := 33
  interfaces := #[]
  cf := some (fileOf pool0 8 #[] #[{ accessFlags := 1, nameIndex := 5, descriptorIndex := 6, attributes := #[] }] 33 0 #[] #[])
  fields := #[]
  methods := #[k0m0]
  instanceTypes := #[]
  staticTypes := #[]
  resolved := Array.replicate 124 none
  statics := none }

def pool1 : Array CpInfo := pool [(2, .class_ 4), (1, u "java/lang/Object"), (0, u "<init>"), (0, u "()V"), (0, .integer 2147483647), (0, .integer 65535), (0, .string 10), (0, u "abcdefghijklmnopqrstuvwxyz"), (0, .methodref 12 13), (0, .class_ 14), (0, .nameAndType 15 16), (0, u "java/lang/String"), (0, u "charAt"), (0, u "(I)C"), (0, .methodref 18 19), (0, .class_ 20), (0, .nameAndType 21 22), (0, u "com/example/eider/eider/Ascii"), (0, u "lowerCase"), (0, u "(C)C"), (0, .class_ 24), (0, u "com/example/eider/eider/AsciiLowerCasePinLaw"), (2, u "law"), (0, u "(II)Z")] 3

def k1m0 : Method := { name := "<init>", desc := "()V", sig := { parameters := [], returnType := none }, accessFlags := 2, code := none }
def k1c1 : Code := { maxStack := 3, maxLocals := 9, code := code, exceptionTable := #[], attributes := #[] }
def k1m1 : Method := { name := "law", desc := "(II)Z", sig := { parameters := [.int, .int], returnType := some .boolean }, accessFlags := 9, code := some k1c1 }
/-- com/example/eider/eider/AsciiLowerCasePinLaw -/
def k1 : Class := { plain "com/example/eider/eider/AsciiLowerCasePinLaw" (some 0) with
  accessFlags := 49
  interfaces := #[]
  cf := some (fileOf pool1 23 #[] #[{ accessFlags := 2, nameIndex := 5, descriptorIndex := 6, attributes := #[] }, { accessFlags := 9, nameIndex := 27, descriptorIndex := 28, attributes := #[] }] 49 2 #[] #[])
  fields := #[]
  methods := #[k1m0, k1m1]
  instanceTypes := #[]
  staticTypes := #[]
  resolved := Array.replicate 32 none
  statics := none }

def pool2 : Array CpInfo := pool [(2, .class_ 4), (1, u "java/lang/Object"), (0, u "<init>"), (0, u "()V"), (0, .methodref 8 9), (0, .class_ 10), (0, .nameAndType 11 12), (0, u "com/example/eider/eider/Ascii"), (0, u "isUpperCase"), (0, u "(C)Z"), (16, u "lowerCase"), (0, u "(C)C")] 11

def k2m0 : Method := { name := "<init>", desc := "()V", sig := { parameters := [], returnType := none }, accessFlags := 2, code := none }
def k2c1 : Code := { maxStack := 2, maxLocals := 1, code := prog_1_method_2_code, exceptionTable := #[], attributes := #[] }
def k2m1 : Method := { name := "lowerCase", desc := "(C)C", sig := { parameters := [.char], returnType := some .char }, accessFlags := 8, code := some k2c1 }
def k2c2 : Code := { maxStack := 2, maxLocals := 1, code := prog_1_method_4_code, exceptionTable := #[], attributes := #[] }
def k2m2 : Method := { name := "isUpperCase", desc := "(C)Z", sig := { parameters := [.char], returnType := some .boolean }, accessFlags := 10, code := some k2c2 }
/-- com/example/eider/eider/Ascii -/
def k2 : Class := { plain "com/example/eider/eider/Ascii" (some 0) with
  accessFlags := 48
  interfaces := #[]
  cf := some (fileOf pool2 8 #[] #[{ accessFlags := 2, nameIndex := 5, descriptorIndex := 6, attributes := #[] }, { accessFlags := 8, nameIndex := 29, descriptorIndex := 30, attributes := #[] }, { accessFlags := 10, nameIndex := 11, descriptorIndex := 12, attributes := #[] }] 48 2 #[] #[])
  fields := #[]
  methods := #[k2m0, k2m1, k2m2]
  instanceTypes := #[]
  staticTypes := #[]
  resolved := Array.replicate 42 none
  statics := none }

def pool3 : Array CpInfo := pool [(1, .class_ 2), (0, u "java/io/Serializable"), (0, .class_ 4), (0, u "java/lang/Object")] 2

/-- java/io/Serializable -/
def k3 : Class := { plain "java/io/Serializable" (some 0) with
  accessFlags := 1537
  interfaces := #[]
  cf := some (fileOf pool3 1 #[] #[] 1537 3 #[] #[])
  fields := #[]
  methods := #[]
  instanceTypes := #[]
  staticTypes := #[]
  resolved := Array.replicate 7 none
  statics := none }

def pool4 : Array CpInfo := pool [(1, .class_ 2), (0, u "java/lang/Comparable"), (0, .class_ 4), (0, u "java/lang/Object")] 7

/-- java/lang/Comparable -/
def k4 : Class := { plain "java/lang/Comparable" (some 0) with
  accessFlags := 1537
  interfaces := #[]
  cf := some (fileOf pool4 1 #[] #[] 1537 3 #[] #[])
  fields := #[]
  methods := #[]
  instanceTypes := #[]
  staticTypes := #[]
  resolved := Array.replicate 12 none
  statics := none }

def pool5 : Array CpInfo := pool [(2, .class_ 4), (1, u "java/lang/CharSequence"), (42, .class_ 48), (0, u "java/lang/CharSequence$1CodePointIterator"), (10, .class_ 60), (0, u "java/lang/CharSequence$1CharIterator"), (5, .class_ 67), (0, u "java/lang/Object")] 63

/-- java/lang/CharSequence -/
def k5 : Class := { plain "java/lang/CharSequence" (some 0) with
  accessFlags := 1537
  interfaces := #[]
  cf := some (fileOf pool5 2 #[.nestMembers #[47, 59]] #[] 1537 66 #[] #[])
  fields := #[]
  methods := #[]
  instanceTypes := #[]
  staticTypes := #[]
  resolved := Array.replicate 131 none
  statics := none }

def pool6 : Array CpInfo := pool [(1, .class_ 2), (0, u "java/lang/constant/Constable"), (0, .class_ 4), (0, u "java/lang/Object")] 6

/-- java/lang/constant/Constable -/
def k6 : Class := { plain "java/lang/constant/Constable" (some 0) with
  accessFlags := 1537
  interfaces := #[]
  cf := some (fileOf pool6 1 #[] #[] 1537 3 #[] #[])
  fields := #[]
  methods := #[]
  instanceTypes := #[]
  staticTypes := #[]
  resolved := Array.replicate 11 none
  statics := none }

def pool7 : Array CpInfo := pool [(1, .class_ 2), (0, u "java/lang/constant/ConstantDesc"), (0, .class_ 4), (0, u "java/lang/Object")] 32

/-- java/lang/constant/ConstantDesc -/
def k7 : Class := { plain "java/lang/constant/ConstantDesc" (some 0) with
  accessFlags := 1537
  interfaces := #[]
  cf := some (fileOf pool7 1 #[] #[] 1537 3 #[] #[])
  fields := #[]
  methods := #[]
  instanceTypes := #[]
  staticTypes := #[]
  resolved := Array.replicate 37 none
  statics := none }

def pool8 : Array CpInfo := pool [(2, .class_ 4), (1, u "java/lang/Object"), (0, u "<init>"), (0, u "()V"), (2, .fieldref 10 11), (0, .class_ 12), (0, .nameAndType 13 14), (0, u "java/lang/String"), (0, u "value"), (0, u "[B"), (0, .fieldref 10 16), (0, .nameAndType 17 18), (0, u "coder"), (0, u "B"), (2, u "hash"), (0, u "I"), (2, u "hashIsZero"), (0, u "Z"), (11, .fieldref 10 39), (0, .nameAndType 40 26), (0, u "COMPACT_STRINGS"), (66, .class_ 109), (1, u "java/lang/StringLatin1"), (32, u "()Z"), (220, u "([BI)C"), (27, u "(II)V"), (35, u "(I)C"), (64, .methodref 10 493), (0, .nameAndType 494 142), (0, u "isLatin1"), (0, .methodref 107 496), (0, .nameAndType 497 363), (0, u "charAt"), (3, u "checkIndex"), (73, .class_ 576), (0, u "java/lang/CharSequence"), (22, u "CASE_INSENSITIVE_ORDER"), (0, u "Ljava/util/Comparator;"), (452, .fieldref 1054 1055), (0, .class_ 1056), (0, .nameAndType 1057 1058), (0, u "jdk/internal/util/Preconditions"), (0, u "SIOOBE_FORMATTER"), (0, u "Ljava/util/function/BiFunction;"), (0, .methodref 1054 1060), (0, .nameAndType 501 1061), (0, u "(IILjava/util/function/BiFunction;)I"), (39, u "serialPersistentFields"), (0, u "[Ljava/io/ObjectStreamField;"), (0, .class_ 1104), (0, u "java/lang/String$CaseInsensitiveComparator"), (1, .class_ 1107), (0, u "java/io/Serializable"), (0, .class_ 1109), (0, u "java/lang/Comparable"), (0, .class_ 1111), (0, u "java/lang/constant/Constable"), (0, .class_ 1113), (0, u "java/lang/constant/ConstantDesc"), (2, u "serialVersionUID"), (0, u "J"), (3, u "REPL"), (0, u "C"), (2, u "LATIN1"), (1, u "UTF16")] 323

def k8m0 : Method := { name := "<init>", desc := "()V", sig := { parameters := [], returnType := none }, accessFlags := 1, code := none }
def k8c1 : Code := { maxStack := 2, maxLocals := 2, code := jdk_42_method_56_code, exceptionTable := #[], attributes := #[] }
def k8m1 : Method := { name := "charAt", desc := "(I)C", sig := { parameters := [.int], returnType := some .char }, accessFlags := 1, code := some k8c1 }
def k8c2 : Code := { maxStack := 1, maxLocals := 1, code := jdk_42_method_154_code, exceptionTable := #[], attributes := #[] }
def k8m2 : Method := { name := "isLatin1", desc := "()Z", sig := { parameters := [], returnType := some .boolean }, accessFlags := 0, code := some k8c2 }
def k8c3 : Code := { maxStack := 3, maxLocals := 2, code := jdk_42_method_155_code, exceptionTable := #[], attributes := #[] }
def k8m3 : Method := { name := "checkIndex", desc := "(II)V", sig := { parameters := [.int, .int], returnType := none }, accessFlags := 8, code := some k8c3 }
/-- java/lang/String -/
def k8 : Class := { plain "java/lang/String" (some 0) with
  accessFlags := 49
  interfaces := #[3, 4, 5, 6, 7]
  cf := some (fileOf pool8 10 #[.nestMembers #[1103]] #[{ accessFlags := 1, nameIndex := 5, descriptorIndex := 6, attributes := #[] }, { accessFlags := 1, nameIndex := 497, descriptorIndex := 427, attributes := #[] }, { accessFlags := 0, nameIndex := 494, descriptorIndex := 142, attributes := #[] }, { accessFlags := 8, nameIndex := 501, descriptorIndex := 391, attributes := #[] }] 49 2 #[1106, 1108, 575, 1110, 1112] #[{ accessFlags := 18, nameIndex := 13, descriptorIndex := 14, attributes := #[] }, { accessFlags := 18, nameIndex := 17, descriptorIndex := 18, attributes := #[] }, { accessFlags := 2, nameIndex := 21, descriptorIndex := 22, attributes := #[] }, { accessFlags := 2, nameIndex := 25, descriptorIndex := 26, attributes := #[] }, { accessFlags := 26, nameIndex := 1116, descriptorIndex := 1117, attributes := #[] }, { accessFlags := 24, nameIndex := 40, descriptorIndex := 26, attributes := #[] }, { accessFlags := 26, nameIndex := 1101, descriptorIndex := 1102, attributes := #[] }, { accessFlags := 26, nameIndex := 1121, descriptorIndex := 1122, attributes := #[] }, { accessFlags := 25, nameIndex := 599, descriptorIndex := 600, attributes := #[] }, { accessFlags := 24, nameIndex := 1125, descriptorIndex := 18, attributes := #[] }, { accessFlags := 24, nameIndex := 1127, descriptorIndex := 18, attributes := #[] }])
  fields := #[{ name := "value", type := (.array .byte), accessFlags := 18, slot := 0, constantValue := 0 }, { name := "coder", type := .byte, accessFlags := 18, slot := 1, constantValue := 0 }, { name := "hash", type := .int, accessFlags := 2, slot := 2, constantValue := 0 }, { name := "hashIsZero", type := .boolean, accessFlags := 2, slot := 3, constantValue := 0 }, { name := "serialVersionUID", type := .long, accessFlags := 26, slot := 0, constantValue := 0 }, { name := "COMPACT_STRINGS", type := .boolean, accessFlags := 24, slot := 1, constantValue := 0 }, { name := "serialPersistentFields", type := (.array (.object "java/io/ObjectStreamField")), accessFlags := 26, slot := 2, constantValue := 0 }, { name := "REPL", type := .char, accessFlags := 26, slot := 3, constantValue := 0 }, { name := "CASE_INSENSITIVE_ORDER", type := (.object "java/util/Comparator"), accessFlags := 25, slot := 4, constantValue := 0 }, { name := "LATIN1", type := .byte, accessFlags := 24, slot := 5, constantValue := 0 }, { name := "UTF16", type := .byte, accessFlags := 24, slot := 6, constantValue := 0 }]
  methods := #[k8m0, k8m1, k8m2, k8m3]
  instanceTypes := #[(.array .byte), .byte, .int, .boolean]
  staticTypes := #[.long, .boolean, (.array (.object "java/io/ObjectStreamField")), .char, (.object "java/util/Comparator"), .byte, .byte]
  resolved := Array.replicate 1451 none
  statics := some 0 }

def pool9 : Array CpInfo := pool [(1, .class_ 2), (0, u "java/lang/String"), (1, .class_ 6), (1, u "java/lang/Object"), (0, u "<init>"), (0, u "()V"), (0, .methodref 1 10), (0, .nameAndType 11 12), (0, u "checkIndex"), (0, u "(II)V"), (1, .class_ 16), (1, u "java/lang/StringLatin1"), (36, u "([BI)C"), (67, u "$assertionsDisabled"), (0, u "Z"), (98, .class_ 223), (1, u "java/lang/StringLatin1$LinesSpliterator"), (28, u "charAt"), (137, .class_ 391), (0, u "java/lang/StringLatin1$CharsSpliterator")] 3

def k9m0 : Method := { name := "<init>", desc := "()V", sig := { parameters := [], returnType := none }, accessFlags := 0, code := none }
def k9c1 : Code := { maxStack := 2, maxLocals := 2, code := jdk_43_method_2_code, exceptionTable := #[], attributes := #[] }
def k9m1 : Method := { name := "charAt", desc := "([BI)C", sig := { parameters := [(.array .byte), .int], returnType := some .char }, accessFlags := 9, code := some k9c1 }
/-- java/lang/StringLatin1 -/
def k9 : Class := { plain "java/lang/StringLatin1" (some 0) with
  accessFlags := 48
  interfaces := #[]
  cf := some (fileOf pool9 14 #[.nestMembers #[390, 221]] #[{ accessFlags := 0, nameIndex := 7, descriptorIndex := 8, attributes := #[] }, { accessFlags := 9, nameIndex := 252, descriptorIndex := 53, attributes := #[] }] 48 4 #[] #[{ accessFlags := 4120, nameIndex := 121, descriptorIndex := 122, attributes := #[] }])
  fields := #[{ name := "$assertionsDisabled", type := .boolean, accessFlags := 4120, slot := 0, constantValue := 0 }]
  methods := #[k9m0, k9m1]
  instanceTypes := #[]
  staticTypes := #[.boolean]
  resolved := Array.replicate 395 none
  statics := none }

def pool10 : Array CpInfo := pool [(2, .class_ 4), (1, u "java/lang/Object"), (0, u "<init>"), (0, u "()V"), (17, .class_ 26), (1, u "jdk/internal/util/Preconditions"), (6, u "checkIndex"), (21, .class_ 56), (0, u "jdk/internal/util/Preconditions$4"), (57, .class_ 115), (0, u "jdk/internal/util/Preconditions$1"), (7, u "SIOOBE_FORMATTER"), (0, u "Ljava/util/function/BiFunction;"), (0, .class_ 126), (0, u "jdk/internal/util/Preconditions$2"), (3, u "AIOOBE_FORMATTER"), (0, .class_ 132), (0, u "jdk/internal/util/Preconditions$3"), (3, u "IOOBE_FORMATTER"), (41, u "(IILjava/util/function/BiFunction;)I")] 15

def k10m0 : Method := { name := "<init>", desc := "()V", sig := { parameters := [], returnType := none }, accessFlags := 1, code := none }
def k10c1 : Code := { maxStack := 3, maxLocals := 3, code := jdk_41_method_11_code, exceptionTable := #[], attributes := #[] }
def k10m1 : Method := { name := "checkIndex", desc := "(IILjava/util/function/BiFunction;)I", sig := { parameters := [.int, .int, (.object "java/util/function/BiFunction")], returnType := some .int }, accessFlags := 9, code := some k10c1 }
/-- jdk/internal/util/Preconditions -/
def k10 : Class := { plain "jdk/internal/util/Preconditions" (some 0) with
  accessFlags := 33
  interfaces := #[]
  cf := some (fileOf pool10 24 #[.nestMembers #[55, 131, 125, 114]] #[{ accessFlags := 1, nameIndex := 5, descriptorIndex := 6, attributes := #[] }, { accessFlags := 9, nameIndex := 33, descriptorIndex := 178, attributes := #[] }] 33 2 #[] #[{ accessFlags := 25, nameIndex := 123, descriptorIndex := 124, attributes := #[] }, { accessFlags := 25, nameIndex := 130, descriptorIndex := 124, attributes := #[] }, { accessFlags := 25, nameIndex := 136, descriptorIndex := 124, attributes := #[] }])
  fields := #[{ name := "SIOOBE_FORMATTER", type := (.object "java/util/function/BiFunction"), accessFlags := 25, slot := 0, constantValue := 0 }, { name := "AIOOBE_FORMATTER", type := (.object "java/util/function/BiFunction"), accessFlags := 25, slot := 1, constantValue := 0 }, { name := "IOOBE_FORMATTER", type := (.object "java/util/function/BiFunction"), accessFlags := 25, slot := 2, constantValue := 0 }]
  methods := #[k10m0, k10m1]
  instanceTypes := #[]
  staticTypes := #[(.object "java/util/function/BiFunction"), (.object "java/util/function/BiFunction"), (.object "java/util/function/BiFunction")]
  resolved := Array.replicate 194 none
  statics := some 1 }

def pool11 : Array CpInfo := pool [(9, u "<init>"), (6, .class_ 18), (1, u "java/lang/Object"), (0, u "()V"), (1, .class_ 23), (1, u "jdk/internal/util/ArraysSupport"), (0, u "LOG2_ARRAY_LONG_INDEX_SCALE"), (0, u "I"), (2, u "U"), (0, u "Ljdk/internal/misc/Unsafe;"), (8, u "BIG_ENDIAN"), (0, u "Z"), (8, u "LOG2_BYTE_BIT_SIZE"), (4, u "LOG2_ARRAY_INT_INDEX_SCALE"), (54, u "JLA"), (0, u "Ljdk/internal/access/JavaLangAccess;"), (11, u "LOG2_ARRAY_BOOLEAN_INDEX_SCALE"), (9, u "LOG2_ARRAY_BYTE_INDEX_SCALE"), (5, u "LOG2_ARRAY_CHAR_INDEX_SCALE"), (5, u "LOG2_ARRAY_SHORT_INDEX_SCALE"), (18, u "LOG2_ARRAY_FLOAT_INDEX_SCALE"), (24, u "LOG2_ARRAY_DOUBLE_INDEX_SCALE"), (89, u "T_BOOLEAN"), (2, u "T_CHAR"), (1, u "T_FLOAT"), (1, u "T_DOUBLE"), (1, u "T_BYTE"), (1, u "T_SHORT"), (1, u "T_INT"), (1, u "T_LONG"), (1, u "SOFT_MAX_ARRAY_LENGTH")] 83

def k11m0 : Method := { name := "<init>", desc := "()V", sig := { parameters := [], returnType := none }, accessFlags := 2, code := none }
/-- jdk/internal/util/ArraysSupport -/
def k11 : Class := { plain "jdk/internal/util/ArraysSupport" (some 0) with
  accessFlags := 33
  interfaces := #[]
  cf := some (fileOf pool11 21 #[] #[{ accessFlags := 2, nameIndex := 9, descriptorIndex := 19, attributes := #[] }] 33 16 #[] #[{ accessFlags := 24, nameIndex := 28, descriptorIndex := 29, attributes := #[] }, { accessFlags := 26, nameIndex := 38, descriptorIndex := 39, attributes := #[] }, { accessFlags := 25, nameIndex := 121, descriptorIndex := 25, attributes := #[] }, { accessFlags := 25, nameIndex := 131, descriptorIndex := 25, attributes := #[] }, { accessFlags := 25, nameIndex := 137, descriptorIndex := 25, attributes := #[] }, { accessFlags := 25, nameIndex := 143, descriptorIndex := 25, attributes := #[] }, { accessFlags := 25, nameIndex := 53, descriptorIndex := 25, attributes := #[] }, { accessFlags := 25, nameIndex := 24, descriptorIndex := 25, attributes := #[] }, { accessFlags := 25, nameIndex := 162, descriptorIndex := 25, attributes := #[] }, { accessFlags := 25, nameIndex := 187, descriptorIndex := 25, attributes := #[] }, { accessFlags := 26, nameIndex := 48, descriptorIndex := 25, attributes := #[] }, { accessFlags := 25, nameIndex := 277, descriptorIndex := 25, attributes := #[] }, { accessFlags := 25, nameIndex := 280, descriptorIndex := 25, attributes := #[] }, { accessFlags := 25, nameIndex := 282, descriptorIndex := 25, attributes := #[] }, { accessFlags := 25, nameIndex := 284, descriptorIndex := 25, attributes := #[] }, { accessFlags := 25, nameIndex := 286, descriptorIndex := 25, attributes := #[] }, { accessFlags := 25, nameIndex := 288, descriptorIndex := 25, attributes := #[] }, { accessFlags := 25, nameIndex := 290, descriptorIndex := 25, attributes := #[] }, { accessFlags := 25, nameIndex := 292, descriptorIndex := 25, attributes := #[] }, { accessFlags := 26, nameIndex := 108, descriptorIndex := 109, attributes := #[] }, { accessFlags := 25, nameIndex := 294, descriptorIndex := 25, attributes := #[] }])
  fields := #[{ name := "U", type := (.object "jdk/internal/misc/Unsafe"), accessFlags := 24, slot := 0, constantValue := 0 }, { name := "BIG_ENDIAN", type := .boolean, accessFlags := 26, slot := 1, constantValue := 0 }, { name := "LOG2_ARRAY_BOOLEAN_INDEX_SCALE", type := .int, accessFlags := 25, slot := 2, constantValue := 0 }, { name := "LOG2_ARRAY_BYTE_INDEX_SCALE", type := .int, accessFlags := 25, slot := 3, constantValue := 0 }, { name := "LOG2_ARRAY_CHAR_INDEX_SCALE", type := .int, accessFlags := 25, slot := 4, constantValue := 0 }, { name := "LOG2_ARRAY_SHORT_INDEX_SCALE", type := .int, accessFlags := 25, slot := 5, constantValue := 0 }, { name := "LOG2_ARRAY_INT_INDEX_SCALE", type := .int, accessFlags := 25, slot := 6, constantValue := 0 }, { name := "LOG2_ARRAY_LONG_INDEX_SCALE", type := .int, accessFlags := 25, slot := 7, constantValue := 0 }, { name := "LOG2_ARRAY_FLOAT_INDEX_SCALE", type := .int, accessFlags := 25, slot := 8, constantValue := 0 }, { name := "LOG2_ARRAY_DOUBLE_INDEX_SCALE", type := .int, accessFlags := 25, slot := 9, constantValue := 0 }, { name := "LOG2_BYTE_BIT_SIZE", type := .int, accessFlags := 26, slot := 10, constantValue := 0 }, { name := "T_BOOLEAN", type := .int, accessFlags := 25, slot := 11, constantValue := 0 }, { name := "T_CHAR", type := .int, accessFlags := 25, slot := 12, constantValue := 0 }, { name := "T_FLOAT", type := .int, accessFlags := 25, slot := 13, constantValue := 0 }, { name := "T_DOUBLE", type := .int, accessFlags := 25, slot := 14, constantValue := 0 }, { name := "T_BYTE", type := .int, accessFlags := 25, slot := 15, constantValue := 0 }, { name := "T_SHORT", type := .int, accessFlags := 25, slot := 16, constantValue := 0 }, { name := "T_INT", type := .int, accessFlags := 25, slot := 17, constantValue := 0 }, { name := "T_LONG", type := .int, accessFlags := 25, slot := 18, constantValue := 0 }, { name := "JLA", type := (.object "jdk/internal/access/JavaLangAccess"), accessFlags := 26, slot := 19, constantValue := 0 }, { name := "SOFT_MAX_ARRAY_LENGTH", type := .int, accessFlags := 25, slot := 20, constantValue := 0 }]
  methods := #[k11m0]
  instanceTypes := #[]
  staticTypes := #[(.object "jdk/internal/misc/Unsafe"), .boolean, .int, .int, .int, .int, .int, .int, .int, .int, .int, .int, .int, .int, .int, .int, .int, .int, .int, (.object "jdk/internal/access/JavaLangAccess"), .int]
  resolved := Array.replicate 378 none
  statics := none }

def pool12 : Array CpInfo := pool [(1, u "java/lang/Cloneable"), (0, .class_ 1), (0, u "java/lang/Object"), (0, .class_ 3)] 3

/-- java/lang/Cloneable -/
def k12 : Class := { plain "java/lang/Cloneable" (some 0) with
  accessFlags := 1537
  interfaces := #[]
  cf := some (fileOf pool12 2 #[] #[] 1537 4 #[] #[])
  fields := #[]
  methods := #[]
  instanceTypes := #[]
  staticTypes := #[]
  resolved := Array.replicate 8 none
  statics := none }

/-- the primitive byte -/
def k13 : Class := { plain "byte" none with kind := .primitive 'B', accessFlags := 0x411 }
/-- [B -/
def k14 : Class := { plain "[B" (some 0) with kind := .array 13 .byte, interfaces := #[12, 3], accessFlags := 1041 }

/-- the primitive int -/
def k15 : Class := { plain "int" none with kind := .primitive 'I', accessFlags := 0x411 }
/-- [I -/
def k16 : Class := { plain "[I" (some 0) with kind := .array 15 .int, interfaces := #[12, 3], accessFlags := 1041 }

def heap : Heap := #[{ cls := 8, slots := #[.long 0, .int 1, .null, .int 0, .null, .int 0, .int 0], vm := .statics 8 },
  { cls := 10, slots := #[.null, .null, .null], vm := .statics 10 }]
def classes : Array Class := #[k0, k1, k2, k3, k4, k5, k6, k7, k8, k9, k10, k11, k12, k13, k14, k15, k16]
def interned : List (Array UInt16 × Addr) := []
def slotsUsed : Nat := 10
def theMethod : MethodId := ⟨1, 1⟩
def args0 : Array Value := #[.int 2, .int 5]
def aboutOver (below : List Frame) : State where
  vm := { classes := classes, interned := interned.toArray }
  heap := heap
  slotsUsed := slotsUsed
  threads := #[{ frames := .invoking theMethod args0 :: below }]
def below0 : List Frame := [.native { method := ⟨0, 0⟩, args := #[] }]
def about1 : State := aboutOver below0
def p0 : Program := .bare "" "" ""
def e0 : Env := launch0.env 0 0 0
theorem w_frames : about1.frames = Frame.invoking theMethod args0 :: below0 := rfl
set_option maxRecDepth 65536 in
theorem w_args : argsFit about1.vm theMethod args0 = true := by decide +kernel
set_option maxRecDepth 65536 in
theorem w_heap : heapFits about1 = true := by decide +kernel
set_option maxRecDepth 65536 in
theorem w_runnable : about1.curStatus? = some .runnable := by decide +kernel
set_option maxRecDepth 65536 in
theorem w_alone : about1.alone = true := by decide +kernel
set_option maxRecDepth 65536 in
theorem w_named : about1.methodNamed? x = some theMethod := by decide +kernel
set_option maxRecDepth 65536 in
theorem w_hears : about1.hears theMethod below0 = true := by decide +kernel
set_option maxRecDepth 65536 in
theorem w_ripe : about1.ripe theMethod args0 below0 = true := by decide +kernel
theorem w_running : about1.status = .running := rfl
set_option maxRecDepth 65536 in
theorem w_room : about1.hasRoom e0.platform room_1 = true :=
  launch0.hasRoom_least _ room_1 (by decide +kernel) (by decide +kernel) (by decide +kernel) (by decide +kernel) (by decide +kernel) (by decide +kernel)
theorem allAtoms_all (ts : List Jvm.Cond) (a : Array Jvm.Value) (st : Jvm.State) : (allAtoms ts).before a st = ts.all (fun c => c.before a st) := by
  induction ts with
  | nil => rfl
  | cons c t ih =>
    show (Jvm.Cond.and c (allAtoms t)).before a st = _
    rw [Jvm.Cond.before_and, ih, List.all_cons]
def words1 : List Jvm.Cond := Jvm.Cond.code x code maxLocals ret :: tables_1
/-- a 'code' word, met by the world's own term for the bytes: nothing is compared byte by byte -/
theorem code_word {y : MethodName} {bytes : ByteArray} {mx : Nat} {rt : Option FieldType} {a : Array Value} {s : State} {m : MethodId} {meth : Method} {c : Code} (h1 : s.methodNamed? y = some m) (h2 : s.vm.method? m = some meth) (h3 : meth.code = some c) (h4 : c.code = bytes)
    (h5 : (c.maxLocals == mx && c.exceptionTable.isEmpty && decide (c.maxStack ≤ mostOperands) && decide (meth.sig.returnType = rt) && !meth.locks && decide (parseMethodDescriptor y.desc = some meth.sig)) = true) : (Jvm.Cond.code y bytes mx rt).before a s = true := by
  simp only [Bool.and_eq_true, beq_iff_eq, Bool.not_eq_true', decide_eq_true_eq] at h5
  obtain ⟨⟨⟨⟨⟨g1, g2⟩, g3⟩, g4⟩, g5⟩, g6⟩ := h5
  simp [Cond.before, Cond.holds, Cond.value, h1, h2, h3, h4, g1, g2, g3, g4, g5, g6]
def isCode : Jvm.Cond → Bool
  | .code _ _ _ _ => true
  | _ => false
theorem all_split {L : List Jvm.Cond} {P : Jvm.Cond → Bool} (h1 : L.all (fun c => isCode c || P c) = true) (h2 : ∀ c ∈ L.filter isCode, P c = true) : L.all P = true := by
  refine List.all_eq_true.mpr fun c hc => ?_
  have h := List.all_eq_true.mp h1 c hc
  rcases Bool.eq_false_or_eq_true (isCode c) with hi | hi
  · exact h2 c (List.mem_filter.mpr ⟨hc, hi⟩)
  · simpa [hi] using h
set_option maxRecDepth 65536 in
theorem w_c0 : (Jvm.Cond.code x code maxLocals ret).before args0 about1 = true := code_word (m := ⟨1, 1⟩) (meth := k1m1) (c := k1c1) (by decide +kernel) rfl rfl rfl (by decide +kernel)
set_option maxRecDepth 65536 in
theorem w_c1 : (Jvm.Cond.code ({ cls := "com/example/eider/eider/Ascii", name := "lowerCase", desc := "(C)C" } : Jvm.MethodName) prog_1_method_2_code (1 : Nat) (Option.some Jvm.ClassFile.FieldType.char)).before args0 about1 = true := code_word (m := ⟨2, 1⟩) (meth := k2m1) (c := k2c1) (by decide +kernel) rfl rfl rfl (by decide +kernel)
set_option maxRecDepth 65536 in
theorem w_c2 : (Jvm.Cond.code ({ cls := "com/example/eider/eider/Ascii", name := "isUpperCase", desc := "(C)Z" } : Jvm.MethodName) prog_1_method_4_code (1 : Nat) (Option.some Jvm.ClassFile.FieldType.boolean)).before args0 about1 = true := code_word (m := ⟨2, 2⟩) (meth := k2m2) (c := k2c2) (by decide +kernel) rfl rfl rfl (by decide +kernel)
set_option maxRecDepth 65536 in
theorem w_c3 : (Jvm.Cond.code ({ cls := "java/lang/String", name := "charAt", desc := "(I)C" } : Jvm.MethodName) jdk_42_method_56_code (2 : Nat) (Option.some Jvm.ClassFile.FieldType.char)).before args0 about1 = true := code_word (m := ⟨8, 1⟩) (meth := k8m1) (c := k8c1) (by decide +kernel) rfl rfl rfl (by decide +kernel)
set_option maxRecDepth 65536 in
theorem w_c4 : (Jvm.Cond.code ({ cls := "java/lang/String", name := "isLatin1", desc := "()Z" } : Jvm.MethodName) jdk_42_method_154_code (1 : Nat) (Option.some Jvm.ClassFile.FieldType.boolean)).before args0 about1 = true := code_word (m := ⟨8, 2⟩) (meth := k8m2) (c := k8c2) (by decide +kernel) rfl rfl rfl (by decide +kernel)
set_option maxRecDepth 65536 in
theorem w_c5 : (Jvm.Cond.code ({ cls := "java/lang/StringLatin1", name := "charAt", desc := "([BI)C" } : Jvm.MethodName) jdk_43_method_2_code (2 : Nat) (Option.some Jvm.ClassFile.FieldType.char)).before args0 about1 = true := code_word (m := ⟨9, 1⟩) (meth := k9m1) (c := k9c1) (by decide +kernel) rfl rfl rfl (by decide +kernel)
set_option maxRecDepth 65536 in
theorem w_c6 : (Jvm.Cond.code ({ cls := "java/lang/String", name := "checkIndex", desc := "(II)V" } : Jvm.MethodName) jdk_42_method_155_code (2 : Nat) (Option.none : Option Jvm.ClassFile.FieldType)).before args0 about1 = true := code_word (m := ⟨8, 3⟩) (meth := k8m3) (c := k8c3) (by decide +kernel) rfl rfl rfl (by decide +kernel)
set_option maxRecDepth 65536 in
theorem w_c7 : (Jvm.Cond.code ({ cls := "jdk/internal/util/Preconditions", name := "checkIndex", desc := "(IILjava/util/function/BiFunction;)I" } : Jvm.MethodName) jdk_41_method_11_code (3 : Nat) (Option.some Jvm.ClassFile.FieldType.int)).before args0 about1 = true := code_word (m := ⟨10, 1⟩) (meth := k10m1) (c := k10c1) (by decide +kernel) rfl rfl rfl (by decide +kernel)
def codes1 : List Jvm.Cond := [Jvm.Cond.code x code maxLocals ret, Jvm.Cond.code ({ cls := "com/example/eider/eider/Ascii", name := "lowerCase", desc := "(C)C" } : Jvm.MethodName) prog_1_method_2_code (1 : Nat) (Option.some Jvm.ClassFile.FieldType.char), Jvm.Cond.code ({ cls := "com/example/eider/eider/Ascii", name := "isUpperCase", desc := "(C)Z" } : Jvm.MethodName) prog_1_method_4_code (1 : Nat) (Option.some Jvm.ClassFile.FieldType.boolean), Jvm.Cond.code ({ cls := "java/lang/String", name := "charAt", desc := "(I)C" } : Jvm.MethodName) jdk_42_method_56_code (2 : Nat) (Option.some Jvm.ClassFile.FieldType.char), Jvm.Cond.code ({ cls := "java/lang/String", name := "isLatin1", desc := "()Z" } : Jvm.MethodName) jdk_42_method_154_code (1 : Nat) (Option.some Jvm.ClassFile.FieldType.boolean), Jvm.Cond.code ({ cls := "java/lang/StringLatin1", name := "charAt", desc := "([BI)C" } : Jvm.MethodName) jdk_43_method_2_code (2 : Nat) (Option.some Jvm.ClassFile.FieldType.char), Jvm.Cond.code ({ cls := "java/lang/String", name := "checkIndex", desc := "(II)V" } : Jvm.MethodName) jdk_42_method_155_code (2 : Nat) (Option.none : Option Jvm.ClassFile.FieldType), Jvm.Cond.code ({ cls := "jdk/internal/util/Preconditions", name := "checkIndex", desc := "(IILjava/util/function/BiFunction;)I" } : Jvm.MethodName) jdk_41_method_11_code (3 : Nat) (Option.some Jvm.ClassFile.FieldType.int)]
set_option maxRecDepth 65536 in
theorem codes_eq : words1.filter isCode = codes1 := rfl
theorem w_codes : ∀ c ∈ words1.filter isCode, c.before args0 about1 = true := by
  rw [codes_eq]
  intro c hc
  simp only [codes1, List.mem_cons, List.not_mem_nil, or_false] at hc
  rcases hc with rfl | rfl | rfl | rfl | rfl | rfl | rfl | rfl
  · exact w_c0
  · exact w_c1
  · exact w_c2
  · exact w_c3
  · exact w_c4
  · exact w_c5
  · exact w_c6
  · exact w_c7
set_option maxRecDepth 65536 in
theorem w_t1 : (words1.take 24).all (fun c => isCode c || c.before args0 about1) = true := by decide +kernel
set_option maxRecDepth 65536 in
theorem w_t2 : (words1.drop 24).all (fun c => isCode c || c.before args0 about1) = true := by decide +kernel
theorem w_tables : (allAtoms (Jvm.Cond.code x code maxLocals ret :: tables_1)).before args0 about1 = true := by
  rw [allAtoms_all]
  show words1.all (fun c => c.before args0 about1) = true
  refine all_split ?_ w_codes
  rw [← List.take_append_drop 24 words1, List.all_append, w_t1, w_t2]
  rfl
set_option maxRecDepth 65536 in
theorem w_rest : rest_1_c.before args0 about1 = true := by decide +kernel
set_option maxRecDepth 65536 in
theorem w_case : (Jvm.Cond.and given_1 narrow_1).before args0 about1 = true := by decide +kernel
set_option maxRecDepth 65536 in
theorem w_consts : constsHeld consts_1 about1 := Jvm.Lit.constsHeldB_iff.mp (by decide +kernel)
theorem w_applies : (headSpec (Jvm.Cond.code x code maxLocals ret :: tables_1) room_1).applies x e0.platform about1 = true :=
  (Spec.applies_iff w_frames).mpr ⟨w_running, w_runnable, w_alone, w_named, w_hears, w_ripe, w_room, w_tables⟩
theorem atStart : AtStart classFile x code maxLocals ret World_1 tables_1 room_1 Calls_1 rest_1 Pre_1 launch0 p0 e0 about1 theMethod args0 below0 :=
  ⟨lists_1, trivial, launch0.admits_env _ _ _, launch0.least_env, fairChoices_fair.cas, fairChoices_fair.clock, w_frames, w_args, w_heap, w_applies, ⟨w_consts, trivial⟩, w_rest, w_case⟩
end start1
theorem witness_1 : WitnessClaimed_1 := ⟨start1.p0, start1.e0, start1.about1, start1.theMethod, start1.args0, start1.below0, start1.atStart⟩
end Jvm.Pilot.@@N@@
