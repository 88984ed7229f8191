import JvmDerived
import JvmDerived.Pilot.@@N@@Statement
import JvmDerived.Pilot.@@N@@Code
set_option linter.unusedVariables false
set_option linter.unusedSimpArgs false
namespace Jvm.RoadKit
open Sem ClassFile Op Lib Jvm.Stand Jvm.Free Jvm.LawKit
section New
variable {p : Program} {l : Launch} {e : Env} {R : Room} {s : State} {m : MethodId} {args : Array Value} {below : List Frame} {meth : Method} {c : Code} {T : State} {locs : List Loc} {cells slots : Nat}
theorem retI (X : Stand p l e R s m args below meth c T locs cells slots) (hx : p.tables.exec = Jvm.exec) {pc : Nat} {Ls : Array Slot} {z : Int32} {rest : List Value} (hret : meth.sig.returnType = some .int) (hd : decode c.code pc = .ok (.ireturn, 1)) {fs : List Frame}
    (hl : ∀ (f : JFrame) (acts : List Action), f.method = m → f.locked = none → f.entered = [] → (doReturn e (T.setTop f) acts (some (.int z))).1 = T.setFrames fs) : Steps p.tables e below (T.setTop (mkF m pc Ls (.int z :: rest))) (T.setFrames fs) :=
  retOut X hx hret rfl (Or.inl ⟨rfl, Or.inl rfl, _, rfl⟩) hd hl
theorem own_retA (X : Stand p l e R s m args below meth c T locs cells slots) (hx : p.tables.exec = Jvm.exec) {pc : Nat} {Ls : Array Slot} {w : Value} {t : FieldType} {rest : List Value} (hret : meth.sig.returnType = some t) (ht : t.isReference = true) (hw : w.isRef = true) (hd : decode c.code pc = .ok (.areturn, 1)) {fs : List Frame}
    (hl : ∀ (f : JFrame) (acts : List Action), f.method = m → f.locked = none → f.entered = [] → (doReturn e (T.setTop f) acts (some w)).1 = T.setFrames fs) : Steps p.tables e below (T.setTop (mkF m pc Ls (w :: rest))) (T.setFrames fs) :=
  retOut X hx hret (by cases w <;> first | (simp [Value.isRef] at hw; done) | (cases t <;> rfl)) (Or.inr (Or.inr (Or.inr (Or.inr ⟨rfl, ht, hw⟩)))) hd hl
theorem own_retJ (X : Stand p l e R s m args below meth c T locs cells slots) (hx : p.tables.exec = Jvm.exec) {pc : Nat} {Ls : Array Slot} {z : Int64} {rest : List Value} (hret : meth.sig.returnType = some .long) (hd : decode c.code pc = .ok (.lreturn, 1)) {fs : List Frame}
    (hl : ∀ (f : JFrame) (acts : List Action), f.method = m → f.locked = none → f.entered = [] → (doReturn e (T.setTop f) acts (some (.long z))).1 = T.setFrames fs) : Steps p.tables e below (T.setTop (mkF m pc Ls (.long z :: rest))) (T.setFrames fs) :=
  retOut X hx hret rfl (Or.inr (Or.inl ⟨rfl, rfl, _, rfl⟩)) hd hl
/-- the walk goes on from here and ends as Q says -/
def own_Go (p : Program) (e : Env) (below : List Frame) (T : State) (g : JFrame) (Q : Outcome → State → Prop) : Prop :=
  ∃ s₂ o, Steps p.tables e below (T.setTop g) s₂ ∧ s₂.status = .running ∧ Ended s₂ below o ∧ Q o s₂
theorem own_go {T T' : State} {g g' : JFrame} {Q : Outcome → State → Prop} (h : ∀ t, Steps p.tables e below (T'.setTop g') t → Steps p.tables e below (T.setTop g) t) (k : own_Go p e below T' g' Q) : own_Go p e below T g Q := by
  obtain ⟨s₂, o, a, b⟩ := k
  exact ⟨s₂, o, h _ a, b⟩
theorem own_cast {g g' : JFrame} {Q : Outcome → State → Prop} (q : g = g') (k : own_Go p e below T g' Q) : own_Go p e below T g Q := by
  subst q; exact k
theorem own_in {g g' : JFrame} {Q : Outcome → State → Prop} (q : g = g') (k : own_Go p e below T g' Q) : ∃ s₂ o, Steps p.tables e below (T.setTop g) s₂ ∧ s₂.status = .running ∧ Ended s₂ below o ∧ Q o s₂ := by
  subst q; exact k
theorem own_out (X : Stand p l e R s m args below meth c T locs cells slots) {g : JFrame} {v : Option Value} (hv : meth.sig.returnType = none → v = none) (hlk : meth.locks = false)
    (h : ∀ fs, (∀ (f : JFrame) (acts : List Action), f.method = m → f.locked = none → f.entered = [] → (doReturn e (T.setTop f) acts v).1 = T.setFrames fs) → Steps p.tables e below (T.setTop g) (T.setFrames fs))
    {Q : Option Value → Heap → List Loc → Prop} (hQ : Q v T.heap locs) {k n : Nat} (hc : cells ≤ k) (hn : slots ≤ n) :
    own_Go p e below T g (fun o U' => ∃ v L, o = .returned v ∧ Q v U'.heap L ∧ FrameEnd s o U' L k n) := by
  obtain ⟨fs, hr, hrun, hended, hW, hsame⟩ := X.leave hv hlk
  exact ⟨_, _, h fs hr, hrun, hended, _, _, rfl, hQ, ⟨_, rfl⟩, hW, hsame.mono hc hn⟩
theorem own_since (s : State) : s.Since s.vm 0 := ⟨State.Warmed39.refl s, fun j p hj hp => by
  rw [Array.getElem?_eq_none hj] at hp; cases hp⟩
theorem own_outW {vm₁ : Vm} (X : Stand p l e R (s.setVm vm₁) m args below meth c T locs cells slots) {n0 : Nat} (hS : s.Since vm₁ n0) (hn0 : n0 ≤ T.heap.size) {g : JFrame} {v : Option Value} (hv : meth.sig.returnType = none → v = none) (hlk : meth.locks = false)
    (h : ∀ fs, (∀ (f : JFrame) (acts : List Action), f.method = m → f.locked = none → f.entered = [] → (doReturn e (T.setTop f) acts v).1 = T.setFrames fs) → Steps p.tables e below (T.setTop g) (T.setFrames fs))
    {Q : Option Value → Heap → List Loc → Prop} (hQ : Q v T.heap locs) {k n : Nat} (hc : cells ≤ k) (hn : slots ≤ n) :
    own_Go p e below T g (fun o U' => ∃ v L, o = .returned v ∧ Q v U'.heap L ∧ ReturnedEndW s o U' L k n) := by
  obtain ⟨fs, hr, hrun, hended, h1, h2, h3, h4⟩ := X.leaveW hS hn0 hv hlk
  exact ⟨_, _, h fs hr, hrun, hended, _, _, rfl, hQ, h1, h2, h3, h4.mono hc hn⟩
theorem own_ltN {a n : Nat} (h : a < n) : a < n := h
theorem own_leN {a n : Nat} (h : a ≤ n) : a ≤ n := h
theorem own_ne {a b : Nat} (h : a ≠ b) : a ≠ b := h
theorem own_t0 {P : Prop} [Decidable P] (h : P) : (if P then (0 : Int32) else (1 : Int32)) = 0 := if_pos h
theorem own_f0 {P : Prop} [Decidable P] (h : ¬ P) : ¬ (if P then (0 : Int32) else (1 : Int32)) = 0 := by rw [if_neg h]; decide
theorem own_t1 {P : Prop} [Decidable P] (h : P) : ¬ (if P then (1 : Int32) else (0 : Int32)) = 0 := by rw [if_pos h]; decide
theorem own_f1 {P : Prop} [Decidable P] (h : ¬ P) : (if P then (1 : Int32) else (0 : Int32)) = 0 := if_neg h
end New
end Jvm.RoadKit
namespace Jvm.Pilot.@@N@@
open Jvm Jvm.ClassFile Sem Op Lib Jvm.Free Jvm.Stand Jvm.LawKit Jvm.RoadKit Bundle Jvm.Pilot.@@N@@.Jvm.D

theorem own_zero (a : Int32) : (0 : Int32) + a = a := by
  rw [Int32.add_comm]; exact Int32.add_zero a
theorem own_one {x : Int32} (hx : 0 ≤ x.toInt) : 1 ≤ (if (1 : Int32) < x then x else (1 : Int32)).toInt := by
  have e1 : (1 : Int32).toInt = 1 := rfl
  split
  · next h => rw [Int32.lt_iff_toInt_lt, e1] at h; omega
  · rw [e1]; omega
theorem own_pos (a : Int32) : 0 ≤ (a &&& (2147483647 : Int32)).toInt := by
  rw [c_mask a (2147483647 : Int32) 31 (by decide) (by decide)]
  exact Int.emod_nonneg _ (by decide)
theorem own_ge1 {a : Int32} (h : 1 ≤ a.toInt) : ¬ a < (1 : Int32) := by
  have e1 : (1 : Int32).toInt = 1 := rfl
  rw [Int32.lt_iff_toInt_lt, e1]; omega
theorem own_dif {a : Int32} (h : 1 ≤ a.toInt) (hl : a < (2147483647 : Int32)) : 0 < ((2147483647 : Int32) - a).toInt := by
  have e1 : (2147483647 : Int32).toInt = 2147483647 := rfl
  rw [Int32.lt_iff_toInt_lt, e1] at hl
  have c := c_isub (2147483647 : Int32) a
  have r := rng32 ((2147483647 : Int32) - a)
  rw [e1] at c
  omega
theorem own_nz {a : Int32} (h : 1 ≤ a.toInt) (hl : a < (2147483647 : Int32)) : (2147483647 : Int32) - a ≠ 0 := fun q => by
  have e := own_dif h hl
  rw [q] at e
  have e0 : (0 : Int32).toInt = 0 := rfl
  omega
theorem own_b1 {a y : Int32} (h : 1 ≤ a.toInt) (hl : a < (2147483647 : Int32)) (hy : 0 ≤ y.toInt) : 1 ≤ ((1 : Int32) + (y % ((2147483647 : Int32) - a))).toInt := by
  have e := own_dif h hl
  have q := (c_iremV y ((2147483647 : Int32) - a)).1 hy e
  have c := c_iadd (1 : Int32) (y % ((2147483647 : Int32) - a))
  have c' := c_isub (2147483647 : Int32) a
  have r := rng32 ((2147483647 : Int32) - a)
  have r2 := rng32 ((1 : Int32) + (y % ((2147483647 : Int32) - a)))
  have ra := rng32 a
  have e1 : (1 : Int32).toInt = 1 := rfl
  have e2 : (2147483647 : Int32).toInt = 2147483647 := rfl
  rw [e1] at c
  rw [e2] at c'
  omega
theorem d_jdk_22_1_0 : decode jdk_22_method_1_code 0 = .ok (.aload_n 0, 1) := by decide +kernel
theorem d_jdk_22_1_1 : decode jdk_22_method_1_code 1 = .ok (.invokespecial 1, 3) := by decide +kernel
theorem d_jdk_22_1_4 : decode jdk_22_method_1_code 4 = .ok (.return_, 1) := by decide +kernel
theorem pn_0 : plainName "java/util/AbstractCollection" = true := by first | (simp [plainName, overriddenIn]; done) | decide +kernel
theorem ef_0 (m : MethodId) (a : Nat) : entryFrame m #[(.ref a)] 1 = mkF m 0 #[.val (.ref a)] [] := by first | (simp [entryFrame, mkF, argsToLocals, Value.category]; done) | rfl
def Q_rm_abc (Z : State) (a : Nat) (h0 : Heap) (n0 : Nat) (vv : Option Value) (h : Heap) (LL : List Loc) : Prop := vv = none ∧ Fr n0 LL ∧ h = h0
set_option maxRecDepth 65536 in
set_option maxHeartbeats 40000000 in
theorem rm_abc (l : Launch) (Z : State) (a0 : Array Value) (hw : ∀ d ∈ tables_1, d.before a0 Z = true) (ws : List Jvm.Cond) (a : Nat) (h0 : Heap) (n0 : Nat) (Z0 : n0 ≤ h0.size) :
    MetFree l (⟨"java/util/AbstractCollection", "<init>", "()V"⟩ : MethodName) (head1 (Jvm.Cond.code (⟨"java/util/AbstractCollection", "<init>", "()V"⟩ : MethodName) jdk_22_method_1_code 1 none :: ws) ({ frames := 1, cells := 0, slots := 0, locals := 12 } : Room)) (fun aa UU => aa = #[(.ref a)] ∧ Z.Warmed39 UU.vm ∧ UU.heap = h0) (fun _ _ _ _ _ => True) (fun _ UU oo UU' => ∃ vv LL, oo = .returned vv ∧ Q_rm_abc Z a h0 n0 vv UU'.heap LL ∧ FrameEnd UU oo UU' LL ({ frames := 1, cells := 0, slots := 0, locals := 12 } : Room).cells ({ frames := 1, cells := 0, slots := 0, locals := 12 } : Room).slots) := by
  refine MetFree.of_bodySF (plainFor_of_name pn_0) hisR ?_
  intro p e s m args below meth c s₁ Bd hml0 hP hK
  obtain ⟨rfl, hZ, hh⟩ := hP
  have hx := Bd.exec
  have hby := Bd.bytes
  have hml : c.maxLocals = 1 := hml0
  have hown : s.vm.findClass "java/util/AbstractCollection" = some m.cls := findClass_of_methodNamed Bd.named
  have hnm := (name_of_methodNamed Bd.named Bd.method).1
  have hlk : meth.locks = false := BodyLoose.notSynchronized Bd
  have X0 : Stand p l e ({ frames := 1, cells := 0, slots := 0, locals := 12 } : Room) s m #[(.ref a)] below meth c s₁ [] 0 0 := Stand.of_body Bd
  have e0 : s₁.heap = h0 := by rw [← hh, Bd.state]; rfl
  have N0 := Fr.nil n0
  refine own_in (ef_0 m a) ?_
  refine own_go (T' := s₁) (g' := (mkF m 1 #[.val (.ref a)] [(.ref a)])) (fun t_ k_ => XS.aloadN X0.here hx rfl (hb hby d_jdk_22_1_0) rfl rfl k_) ?_
  obtain ⟨T1, X1, e1, st1⟩ := initO X0 hx hZ hown (hw _ (List.mem_of_getElem? (i := 34) rfl)) (hw _ (List.mem_of_getElem? (i := 14) rfl)) (hw _ (List.mem_of_getElem? (i := 15) rfl)) e0 (g := (mkF m 1 #[.val (.ref a)] [(.ref a)])) rfl (by rw [hml]; rfl) rfl (hb hby d_jdk_22_1_1) (by decide) (W := 0) (by show 2 * 0 + _ ≤ _; exact Nat.le_of_eq rfl) (by decide)
  refine own_go (T' := T1) (g' := (mkF m 4 #[.val (.ref a)] [])) (fun t_ k_ => st1 _ k_) ?_
  exact own_out X1 (v := none) (fun _ => rfl) hlk (fun fs hr => X1.returnOut hx Bd.returns (hb hby d_jdk_22_1_4) hr) (Q := Q_rm_abc Z a h0 n0) (by rw [e1]; exact ⟨rfl, N0, rfl⟩) (by decide) (by decide)
theorem d_jdk_91_1_0 : decode jdk_91_method_1_code 0 = .ok (.aload_n 0, 1) := by decide +kernel
theorem d_jdk_91_1_1 : decode jdk_91_method_1_code 1 = .ok (.invokespecial 1, 3) := by decide +kernel
theorem pd_0 : parseMethodDescriptor "()V" = some ⟨[], none⟩ := by decide +kernel
theorem d_jdk_91_1_4 : decode jdk_91_method_1_code 4 = .ok (.return_, 1) := by decide +kernel
theorem pn_1 : plainName "java/util/AbstractSet" = true := by first | (simp [plainName, overriddenIn]; done) | decide +kernel
theorem ef_1 (m : MethodId) (a : Nat) : entryFrame m #[(.ref a)] 1 = mkF m 0 #[.val (.ref a)] [] := by first | (simp [entryFrame, mkF, argsToLocals, Value.category]; done) | rfl
def Q_rm_as (Z : State) (a : Nat) (h0 : Heap) (n0 : Nat) (vv : Option Value) (h : Heap) (LL : List Loc) : Prop := vv = none ∧ Fr n0 LL ∧ h = h0
set_option maxRecDepth 65536 in
set_option maxHeartbeats 40000000 in
theorem rm_as (l : Launch) (Z : State) (a0 : Array Value) (hw : ∀ d ∈ tables_1, d.before a0 Z = true) (ws : List Jvm.Cond) (a : Nat) (h0 : Heap) (n0 : Nat) (Z0 : n0 ≤ h0.size) :
    MetFree l (⟨"java/util/AbstractSet", "<init>", "()V"⟩ : MethodName) (head1 (Jvm.Cond.code (⟨"java/util/AbstractSet", "<init>", "()V"⟩ : MethodName) jdk_91_method_1_code 1 none :: ws) ({ frames := 2, cells := 0, slots := 0, locals := 24 } : Room)) (fun aa UU => aa = #[(.ref a)] ∧ Z.Warmed39 UU.vm ∧ UU.heap = h0) (fun _ _ _ _ _ => True) (fun _ UU oo UU' => ∃ vv LL, oo = .returned vv ∧ Q_rm_as Z a h0 n0 vv UU'.heap LL ∧ FrameEnd UU oo UU' LL ({ frames := 2, cells := 0, slots := 0, locals := 24 } : Room).cells ({ frames := 2, cells := 0, slots := 0, locals := 24 } : Room).slots) := by
  refine MetFree.of_bodySF (plainFor_of_name pn_1) hisR ?_
  intro p e s m args below meth c s₁ Bd hml0 hP hK
  obtain ⟨rfl, hZ, hh⟩ := hP
  have hx := Bd.exec
  have hby := Bd.bytes
  have hml : c.maxLocals = 1 := hml0
  have hown : s.vm.findClass "java/util/AbstractSet" = some m.cls := findClass_of_methodNamed Bd.named
  have hnm := (name_of_methodNamed Bd.named Bd.method).1
  have hlk : meth.locks = false := BodyLoose.notSynchronized Bd
  have X0 : Stand p l e ({ frames := 2, cells := 0, slots := 0, locals := 24 } : Room) s m #[(.ref a)] below meth c s₁ [] 0 0 := Stand.of_body Bd
  have e0 : s₁.heap = h0 := by rw [← hh, Bd.state]; rfl
  have N0 := Fr.nil n0
  refine own_in (ef_1 m a) ?_
  refine own_go (T' := s₁) (g' := (mkF m 1 #[.val (.ref a)] [(.ref a)])) (fun t_ k_ => XS.aloadN X0.here hx rfl (hb hby d_jdk_91_1_0) rfl rfl k_) ?_
  obtain ⟨_, _, ⟨T1, L1, k1, n1⟩, -, X1, ⟨Lc1, hQ1, l1, y1, z1⟩, st1⟩ := X0.specialBack hx (y := (⟨"java/util/AbstractCollection", "<init>", "()V"⟩ : MethodName)) rfl hown (mvT hZ (hw _ (List.mem_of_getElem? (i := 90) rfl))) (mvT hZ (hw _ (List.mem_of_getElem? (i := 29) rfl))) (mvT hZ (hw _ (List.mem_of_getElem? (i := 33) rfl))) (by decide) (backOf (W := 0) (rm_abc l Z a0 hw [] a h0 n0 (show n0 ≤ h0.size by omega)) hZ (hw _ (List.mem_of_getElem? (i := 33) rfl)) (hw _ (List.mem_of_getElem? (i := 32) rfl)) (by decide) (by decide)) (g := (mkF m 1 #[.val (.ref a)] [(.ref a)])) rfl (by rw [hml]; rfl) (Steps.refl _) (a := a) (argsL := []) (rest := []) (lenOf pd_0 rfl) rfl (by show 2 * 0 + _ ≤ _; exact Nat.le_of_eq rfl) (hb hby d_jdk_91_1_1) (fun _ _ => ⟨rfl, e0, (by decide : 0 + 0 ≤ _), (by decide : 0 + 0 ≤ _)⟩)
  dsimp only [Pt.U, Pt.locs, Pt.cells, Pt.slots] at X1 l1 y1 z1 st1 hQ1
  subst l1 y1 z1
  obtain ⟨rfl, M1, e1⟩ := hQ1
  have N1 := Fr.app N0 M1
  refine own_go (T' := T1) (g' := (mkF m 4 #[.val (.ref a)] [])) (fun t_ k_ => st1.trans k_) ?_
  exact own_out X1 (v := none) (fun _ => rfl) hlk (fun fs hr => X1.returnOut hx Bd.returns (hb hby d_jdk_91_1_4) hr) (Q := Q_rm_as Z a h0 n0) (by rw [e1]; exact ⟨rfl, N1, rfl⟩) (by decide) (by decide)
theorem d_jdk_71_1_0 : decode jdk_71_method_1_code 0 = .ok (.aload_n 0, 1) := by decide +kernel
theorem d_jdk_71_1_1 : decode jdk_71_method_1_code 1 = .ok (.invokespecial 1, 3) := by decide +kernel
theorem d_jdk_71_1_4 : decode jdk_71_method_1_code 4 = .ok (.return_, 1) := by decide +kernel
theorem pn_2 : plainName "java/util/AbstractMap" = true := by first | (simp [plainName, overriddenIn]; done) | decide +kernel
theorem ef_2 (m : MethodId) (a : Nat) : entryFrame m #[(.ref a)] 1 = mkF m 0 #[.val (.ref a)] [] := by first | (simp [entryFrame, mkF, argsToLocals, Value.category]; done) | rfl
def Q_rm_am (Z : State) (a : Nat) (h0 : Heap) (n0 : Nat) (vv : Option Value) (h : Heap) (LL : List Loc) : Prop := vv = none ∧ Fr n0 LL ∧ h = h0
set_option maxRecDepth 65536 in
set_option maxHeartbeats 40000000 in
theorem rm_am (l : Launch) (Z : State) (a0 : Array Value) (hw : ∀ d ∈ tables_1, d.before a0 Z = true) (ws : List Jvm.Cond) (a : Nat) (h0 : Heap) (n0 : Nat) (Z0 : n0 ≤ h0.size) :
    MetFree l (⟨"java/util/AbstractMap", "<init>", "()V"⟩ : MethodName) (head1 (Jvm.Cond.code (⟨"java/util/AbstractMap", "<init>", "()V"⟩ : MethodName) jdk_71_method_1_code 1 none :: ws) ({ frames := 1, cells := 0, slots := 0, locals := 12 } : Room)) (fun aa UU => aa = #[(.ref a)] ∧ Z.Warmed39 UU.vm ∧ UU.heap = h0) (fun _ _ _ _ _ => True) (fun _ UU oo UU' => ∃ vv LL, oo = .returned vv ∧ Q_rm_am Z a h0 n0 vv UU'.heap LL ∧ FrameEnd UU oo UU' LL ({ frames := 1, cells := 0, slots := 0, locals := 12 } : Room).cells ({ frames := 1, cells := 0, slots := 0, locals := 12 } : Room).slots) := by
  refine MetFree.of_bodySF (plainFor_of_name pn_2) hisR ?_
  intro p e s m args below meth c s₁ Bd hml0 hP hK
  obtain ⟨rfl, hZ, hh⟩ := hP
  have hx := Bd.exec
  have hby := Bd.bytes
  have hml : c.maxLocals = 1 := hml0
  have hown : s.vm.findClass "java/util/AbstractMap" = some m.cls := findClass_of_methodNamed Bd.named
  have hnm := (name_of_methodNamed Bd.named Bd.method).1
  have hlk : meth.locks = false := BodyLoose.notSynchronized Bd
  have X0 : Stand p l e ({ frames := 1, cells := 0, slots := 0, locals := 12 } : Room) s m #[(.ref a)] below meth c s₁ [] 0 0 := Stand.of_body Bd
  have e0 : s₁.heap = h0 := by rw [← hh, Bd.state]; rfl
  have N0 := Fr.nil n0
  refine own_in (ef_2 m a) ?_
  refine own_go (T' := s₁) (g' := (mkF m 1 #[.val (.ref a)] [(.ref a)])) (fun t_ k_ => XS.aloadN X0.here hx rfl (hb hby d_jdk_71_1_0) rfl rfl k_) ?_
  obtain ⟨T1, X1, e1, st1⟩ := initO X0 hx hZ hown (hw _ (List.mem_of_getElem? (i := 56) rfl)) (hw _ (List.mem_of_getElem? (i := 14) rfl)) (hw _ (List.mem_of_getElem? (i := 15) rfl)) e0 (g := (mkF m 1 #[.val (.ref a)] [(.ref a)])) rfl (by rw [hml]; rfl) rfl (hb hby d_jdk_71_1_1) (by decide) (W := 0) (by show 2 * 0 + _ ≤ _; exact Nat.le_of_eq rfl) (by decide)
  refine own_go (T' := T1) (g' := (mkF m 4 #[.val (.ref a)] [])) (fun t_ k_ => st1 _ k_) ?_
  exact own_out X1 (v := none) (fun _ => rfl) hlk (fun fs hr => X1.returnOut hx Bd.returns (hb hby d_jdk_71_1_4) hr) (Q := Q_rm_am Z a h0 n0) (by rw [e1]; exact ⟨rfl, N0, rfl⟩) (by decide) (by decide)
theorem d_jdk_39_1_0 : decode jdk_39_method_1_code 0 = .ok (.aload_n 0, 1) := by decide +kernel
theorem d_jdk_39_1_1 : decode jdk_39_method_1_code 1 = .ok (.invokespecial 1, 3) := by decide +kernel
theorem d_jdk_39_1_4 : decode jdk_39_method_1_code 4 = .ok (.aload_n 0, 1) := by decide +kernel
theorem d_jdk_39_1_5 : decode jdk_39_method_1_code 5 = .ok (.iconst 0, 1) := by decide +kernel
theorem d_jdk_39_1_6 : decode jdk_39_method_1_code 6 = .ok (.putfield 7, 3) := by decide +kernel
theorem d_jdk_39_1_9 : decode jdk_39_method_1_code 9 = .ok (.return_, 1) := by decide +kernel
theorem pn_3 : plainName "java/util/AbstractList" = true := by first | (simp [plainName, overriddenIn]; done) | decide +kernel
theorem ef_3 (m : MethodId) (a : Nat) : entryFrame m #[(.ref a)] 1 = mkF m 0 #[.val (.ref a)] [] := by first | (simp [entryFrame, mkF, argsToLocals, Value.category]; done) | rfl
def Q_rm_abl (Z : State) (a : Nat) (u : Int32) (h0 : Heap) (n0 : Nat) (vv : Option Value) (h : Heap) (LL : List Loc) : Prop := vv = none ∧ Fr n0 LL ∧ Keep h0 h [a] ∧ Fld Z h a "java/util/ArrayList" "elementData" "[Ljava/lang/Object;" .null
set_option maxRecDepth 65536 in
set_option maxHeartbeats 40000000 in
theorem rm_abl (l : Launch) (Z : State) (a0 : Array Value) (hw : ∀ d ∈ tables_1, d.before a0 Z = true) (ws : List Jvm.Cond) (a : Nat) (u : Int32) (h0 : Heap) (n0 : Nat) (Z0 : n0 ≤ h0.size) (E_a : Exa Z h0 a "java/util/ArrayList") (F_modCount_a : Fld Z h0 a "java/util/AbstractList" "modCount" "I" (.int u)) (g_a : n0 ≤ a) (F_elementData_a : Fld Z h0 a "java/util/ArrayList" "elementData" "[Ljava/lang/Object;" .null) :
    MetFree l (⟨"java/util/AbstractList", "<init>", "()V"⟩ : MethodName) (head1 (Jvm.Cond.code (⟨"java/util/AbstractList", "<init>", "()V"⟩ : MethodName) jdk_39_method_1_code 1 none :: ws) ({ frames := 2, cells := 0, slots := 0, locals := 24 } : Room)) (fun aa UU => aa = #[(.ref a)] ∧ Z.Warmed39 UU.vm ∧ UU.heap = h0) (fun _ _ _ _ _ => True) (fun _ UU oo UU' => ∃ vv LL, oo = .returned vv ∧ Q_rm_abl Z a u h0 n0 vv UU'.heap LL ∧ FrameEnd UU oo UU' LL ({ frames := 2, cells := 0, slots := 0, locals := 24 } : Room).cells ({ frames := 2, cells := 0, slots := 0, locals := 24 } : Room).slots) := by
  refine MetFree.of_bodySF (plainFor_of_name pn_3) hisR ?_
  intro p e s m args below meth c s₁ Bd hml0 hP hK
  obtain ⟨rfl, hZ, hh⟩ := hP
  have hx := Bd.exec
  have hby := Bd.bytes
  have hml : c.maxLocals = 1 := hml0
  have hown : s.vm.findClass "java/util/AbstractList" = some m.cls := findClass_of_methodNamed Bd.named
  have hnm := (name_of_methodNamed Bd.named Bd.method).1
  have hlk : meth.locks = false := BodyLoose.notSynchronized Bd
  have X0 : Stand p l e ({ frames := 2, cells := 0, slots := 0, locals := 24 } : Room) s m #[(.ref a)] below meth c s₁ [] 0 0 := Stand.of_body Bd
  have e0 : s₁.heap = h0 := by rw [← hh, Bd.state]; rfl
  have N0 := Fr.nil n0
  have lt_E_a := own_ltN E_a.lt
  have lt_F_modCount_a := own_ltN F_modCount_a.lt
  have lt_F_elementData_a := own_ltN F_elementData_a.lt
  refine own_in (ef_3 m a) ?_
  refine own_go (T' := s₁) (g' := (mkF m 1 #[.val (.ref a)] [(.ref a)])) (fun t_ k_ => XS.aloadN X0.here hx rfl (hb hby d_jdk_39_1_0) rfl rfl k_) ?_
  obtain ⟨_, _, ⟨T1, L1, k1, n1⟩, -, X1, ⟨Lc1, hQ1, l1, y1, z1⟩, st1⟩ := X0.specialBack hx (y := (⟨"java/util/AbstractCollection", "<init>", "()V"⟩ : MethodName)) rfl hown (mvT hZ (hw _ (List.mem_of_getElem? (i := 28) rfl))) (mvT hZ (hw _ (List.mem_of_getElem? (i := 29) rfl))) (mvT hZ (hw _ (List.mem_of_getElem? (i := 33) rfl))) (by decide) (backOf (W := 0) (rm_abc l Z a0 hw [] a h0 n0 (show n0 ≤ h0.size by omega)) hZ (hw _ (List.mem_of_getElem? (i := 33) rfl)) (hw _ (List.mem_of_getElem? (i := 32) rfl)) (by decide) (by decide)) (g := (mkF m 1 #[.val (.ref a)] [(.ref a)])) rfl (by rw [hml]; rfl) (Steps.refl _) (a := a) (argsL := []) (rest := []) (lenOf pd_0 rfl) rfl (by show 2 * 0 + _ ≤ _; exact Nat.le_of_eq rfl) (hb hby d_jdk_39_1_1) (fun _ _ => ⟨rfl, e0, (by decide : 0 + 0 ≤ _), (by decide : 0 + 0 ≤ _)⟩)
  dsimp only [Pt.U, Pt.locs, Pt.cells, Pt.slots] at X1 l1 y1 z1 st1 hQ1
  subst l1 y1 z1
  obtain ⟨rfl, M1, e1⟩ := hQ1
  have N1 := Fr.app N0 M1
  refine own_go (T' := T1) (g' := (mkF m 4 #[.val (.ref a)] [])) (fun t_ k_ => st1.trans k_) ?_
  refine own_go (T' := T1) (g' := (mkF m 5 #[.val (.ref a)] [(.ref a)])) (fun t_ k_ => XS.aloadN X1.here hx rfl (hb hby d_jdk_39_1_4) rfl rfl k_) ?_
  refine own_go (T' := T1) (g' := (mkF m 6 #[.val (.ref a)] [(.int (0 : Int32)), (.ref a)])) (fun t_ k_ => XS.iconst X1.here hx rfl (hb hby d_jdk_39_1_5) k_) ?_
  obtain ⟨T2, h2, X2, e2, W2, st2⟩ := putF X1 hx hZ hown (host := "") (Or.inl (hw _ (List.mem_of_getElem? (i := 35) rfl))) Via.refl e1 F_modCount_a E_a (Or.inl (hw _ (List.mem_of_getElem? (i := 36) rfl))) (hw _ (List.mem_of_getElem? (i := 17) rfl)) (ty := .int) (by decide) rfl rfl (g := (mkF m 6 #[.val (.ref a)] [(.int (0 : Int32)), (.ref a)])) rfl rfl (hb hby d_jdk_39_1_6)
  have F2 := F_modCount_a.same W2
  have z2 := W2.size
  have N2 := Fr.snoc X2 N1 (show n0 ≤ a by omega)
  have K2 := (Keep.refl h0 [a]).wr W2 (Or.inl (List.mem_of_getElem? (i := 0) rfl))
  refine own_go (T' := T2) (g' := (mkF m 9 #[.val (.ref a)] [])) (fun t_ k_ => st2 _ k_) ?_
  have ff3 := (F_elementData_a.other W2 (Or.inr (slot_ne (Or.inl (hw _ (List.mem_of_getElem? (i := 39) rfl))) (Or.inl (hw _ (List.mem_of_getElem? (i := 36) rfl))) (by decide) (t := (.array (.object "java/lang/Object"))) (t' := .int) (by decide) (by decide))))
  exact own_out X2 (v := none) (fun _ => rfl) hlk (fun fs hr => X2.returnOut hx Bd.returns (hb hby d_jdk_39_1_9) hr) (Q := Q_rm_abl Z a u h0 n0) (by rw [e2]; exact ⟨rfl, N2, K2, ff3⟩) (by decide) (by decide)
theorem d_jdk_38_2_0 : decode jdk_38_method_2_code 0 = .ok (.aload_n 0, 1) := by decide +kernel
theorem d_jdk_38_2_1 : decode jdk_38_method_2_code 1 = .ok (.invokespecial 1, 3) := by decide +kernel
theorem d_jdk_38_2_4 : decode jdk_38_method_2_code 4 = .ok (.aload_n 0, 1) := by decide +kernel
theorem d_jdk_38_2_5 : decode jdk_38_method_2_code 5 = .ok (.getstatic 39, 3) := by decide +kernel
theorem d_jdk_38_2_8 : decode jdk_38_method_2_code 8 = .ok (.putfield 9, 3) := by decide +kernel
theorem d_jdk_38_2_11 : decode jdk_38_method_2_code 11 = .ok (.return_, 1) := by decide +kernel
theorem pn_4 : plainName "java/util/ArrayList" = true := by first | (simp [plainName, overriddenIn]; done) | decide +kernel
theorem ef_4 (m : MethodId) (a : Nat) : entryFrame m #[(.ref a)] 1 = mkF m 0 #[.val (.ref a)] [] := by first | (simp [entryFrame, mkF, argsToLocals, Value.category]; done) | rfl
def Q_rm_al (Z : State) (a : Nat) (u : Int32) (w : Nat) (h0 : Heap) (n0 : Nat) (vv : Option Value) (h : Heap) (LL : List Loc) : Prop := vv = none ∧ Fr n0 LL ∧ Keep h0 h [a]
set_option maxRecDepth 65536 in
set_option maxHeartbeats 40000000 in
theorem rm_al (l : Launch) (Z : State) (a0 : Array Value) (hw : ∀ d ∈ tables_1, d.before a0 Z = true) (ws : List Jvm.Cond) (a : Nat) (u : Int32) (w : Nat) (h0 : Heap) (n0 : Nat) (Z0 : n0 ≤ h0.size) (E_a : Exa Z h0 a "java/util/ArrayList") (F_modCount_a : Fld Z h0 a "java/util/AbstractList" "modCount" "I" (.int u)) (F_elementData_a : Fld Z h0 a "java/util/ArrayList" "elementData" "[Ljava/lang/Object;" .null) (g_a : n0 ≤ a) (O0 : Old Z n0 h0) (S_DEFAULTCAPACITY_EMPTY_ELEMENTDATA : Sta Z Z.heap "java/util/ArrayList" "DEFAULTCAPACITY_EMPTY_ELEMENTDATA" "[Ljava/lang/Object;" (.ref w)) :
    MetFree l (⟨"java/util/ArrayList", "<init>", "()V"⟩ : MethodName) (head1 (Jvm.Cond.code (⟨"java/util/ArrayList", "<init>", "()V"⟩ : MethodName) jdk_38_method_2_code 1 none :: ws) ({ frames := 3, cells := 0, slots := 0, locals := 36 } : Room)) (fun aa UU => aa = #[(.ref a)] ∧ Z.Warmed39 UU.vm ∧ UU.heap = h0) (fun _ _ _ _ _ => True) (fun _ UU oo UU' => ∃ vv LL, oo = .returned vv ∧ Q_rm_al Z a u w h0 n0 vv UU'.heap LL ∧ FrameEnd UU oo UU' LL ({ frames := 3, cells := 0, slots := 0, locals := 36 } : Room).cells ({ frames := 3, cells := 0, slots := 0, locals := 36 } : Room).slots) := by
  refine MetFree.of_bodySF (plainFor_of_name pn_4) hisR ?_
  intro p e s m args below meth c s₁ Bd hml0 hP hK
  obtain ⟨rfl, hZ, hh⟩ := hP
  have hx := Bd.exec
  have hby := Bd.bytes
  have hml : c.maxLocals = 1 := hml0
  have hown : s.vm.findClass "java/util/ArrayList" = some m.cls := findClass_of_methodNamed Bd.named
  have hnm := (name_of_methodNamed Bd.named Bd.method).1
  have hlk : meth.locks = false := BodyLoose.notSynchronized Bd
  have X0 : Stand p l e ({ frames := 3, cells := 0, slots := 0, locals := 36 } : Room) s m #[(.ref a)] below meth c s₁ [] 0 0 := Stand.of_body Bd
  have e0 : s₁.heap = h0 := by rw [← hh, Bd.state]; rfl
  have N0 := Fr.nil n0
  have lt_E_a := own_ltN E_a.lt
  have lt_F_modCount_a := own_ltN F_modCount_a.lt
  have lt_F_elementData_a := own_ltN F_elementData_a.lt
  refine own_in (ef_4 m a) ?_
  refine own_go (T' := s₁) (g' := (mkF m 1 #[.val (.ref a)] [(.ref a)])) (fun t_ k_ => XS.aloadN X0.here hx rfl (hb hby d_jdk_38_2_0) rfl rfl k_) ?_
  obtain ⟨_, _, ⟨T1, L1, k1, n1⟩, -, X1, ⟨Lc1, hQ1, l1, y1, z1⟩, st1⟩ := X0.specialBack hx (y := (⟨"java/util/AbstractList", "<init>", "()V"⟩ : MethodName)) rfl hown (mvT hZ (hw _ (List.mem_of_getElem? (i := 22) rfl))) (mvT hZ (hw _ (List.mem_of_getElem? (i := 23) rfl))) (mvT hZ (hw _ (List.mem_of_getElem? (i := 27) rfl))) (by decide) (backOf (W := 0) (rm_abl l Z a0 hw [] a u h0 n0 (show n0 ≤ h0.size by omega) E_a F_modCount_a (show n0 ≤ a by omega) F_elementData_a) hZ (hw _ (List.mem_of_getElem? (i := 27) rfl)) (hw _ (List.mem_of_getElem? (i := 26) rfl)) (by decide) (by decide)) (g := (mkF m 1 #[.val (.ref a)] [(.ref a)])) rfl (by rw [hml]; rfl) (Steps.refl _) (a := a) (argsL := []) (rest := []) (lenOf pd_0 rfl) rfl (by show 2 * 0 + _ ≤ _; exact Nat.le_of_eq rfl) (hb hby d_jdk_38_2_1) (fun _ _ => ⟨rfl, e0, (by decide : 0 + 0 ≤ _), (by decide : 0 + 0 ≤ _)⟩)
  dsimp only [Pt.U, Pt.locs, Pt.cells, Pt.slots] at X1 l1 y1 z1 st1 hQ1
  subst l1 y1 z1
  obtain ⟨rfl, M1, K1_, f1_0⟩ := hQ1
  have zz1 := K1_.1
  have O1 := O0.keep K1_ (allS (show n0 ≤ a by omega) all0)
  have K1 := (Keep.refl h0 [a]).trans K1_ (allS (Or.inl (List.mem_of_getElem? (i := 0) rfl)) all0)
  have N1 := Fr.app N0 M1
  refine own_go (T' := T1) (g' := (mkF m 4 #[.val (.ref a)] [])) (fun t_ k_ => st1.trans k_) ?_
  refine own_go (T' := T1) (g' := (mkF m 5 #[.val (.ref a)] [(.ref a)])) (fun t_ k_ => XS.aloadN X1.here hx rfl (hb hby d_jdk_38_2_4) rfl rfl k_) ?_
  obtain ⟨T2, X2, e2, st2⟩ := getS2 X1 hx hZ hown (host := "") (Or.inl (hw _ (List.mem_of_getElem? (i := 37) rfl))) Via.refl rfl (S_DEFAULTCAPACITY_EMPTY_ELEMENTDATA.ext O1.2) (g := (mkF m 5 #[.val (.ref a)] [(.ref a)])) rfl (hb hby d_jdk_38_2_5)
  refine own_go (T' := T2) (g' := (mkF m 8 #[.val (.ref a)] [(.ref w), (.ref a)])) (fun t_ k_ => st2 _ k_) ?_
  have ff4 := (E_a.keep K1_)
  obtain ⟨T3, h3, X3, e3, W3, st3⟩ := putF X2 hx hZ hown (host := "") (Or.inl (hw _ (List.mem_of_getElem? (i := 38) rfl))) Via.refl e2 f1_0 ff4 (Or.inl (hw _ (List.mem_of_getElem? (i := 39) rfl))) (hw _ (List.mem_of_getElem? (i := 17) rfl)) (ty := (.array (.object "java/lang/Object"))) (by decide) rfl rfl (g := (mkF m 8 #[.val (.ref a)] [(.ref w), (.ref a)])) rfl rfl (hb hby d_jdk_38_2_8)
  have F3 := f1_0.same W3
  have z3 := W3.size
  have N3 := Fr.snoc X3 N1 (show n0 ≤ a by omega)
  have O3 := O1.wr W3 (show n0 ≤ a by omega)
  have K3 := K1.wr W3 (Or.inl (List.mem_of_getElem? (i := 0) rfl))
  refine own_go (T' := T3) (g' := (mkF m 11 #[.val (.ref a)] [])) (fun t_ k_ => st3 _ k_) ?_
  exact own_out X3 (v := none) (fun _ => rfl) hlk (fun fs hr => X3.returnOut hx Bd.returns (hb hby d_jdk_38_2_11) hr) (Q := Q_rm_al Z a u w h0 n0) (by rw [e3]; exact ⟨rfl, N3, K3⟩) (by decide) (by decide)
theorem d_jdk_2729_1_0 : decode jdk_2729_method_1_code 0 = .ok (.aload_n 0, 1) := by decide +kernel
theorem d_jdk_2729_1_1 : decode jdk_2729_method_1_code 1 = .ok (.invokespecial 1, 3) := by decide +kernel
theorem d_jdk_2729_1_4 : decode jdk_2729_method_1_code 4 = .ok (.aload_n 0, 1) := by decide +kernel
theorem d_jdk_2729_1_5 : decode jdk_2729_method_1_code 5 = .ok (.iconst 0, 1) := by decide +kernel
theorem d_jdk_2729_1_6 : decode jdk_2729_method_1_code 6 = .ok (.putfield 7, 3) := by decide +kernel
theorem d_jdk_2729_1_9 : decode jdk_2729_method_1_code 9 = .ok (.aload_n 0, 1) := by decide +kernel
theorem d_jdk_2729_1_10 : decode jdk_2729_method_1_code 10 = .ok (.iconst 0, 1) := by decide +kernel
theorem d_jdk_2729_1_11 : decode jdk_2729_method_1_code 11 = .ok (.putfield 13, 3) := by decide +kernel
theorem d_jdk_2729_1_14 : decode jdk_2729_method_1_code 14 = .ok (.aload_n 0, 1) := by decide +kernel
theorem d_jdk_2729_1_15 : decode jdk_2729_method_1_code 15 = .ok (.aconst_null, 1) := by decide +kernel
theorem d_jdk_2729_1_16 : decode jdk_2729_method_1_code 16 = .ok (.putfield 16, 3) := by decide +kernel
theorem d_jdk_2729_1_19 : decode jdk_2729_method_1_code 19 = .ok (.return_, 1) := by decide +kernel
theorem pn_5 : plainName "java/util/TreeMap" = true := by first | (simp [plainName, overriddenIn]; done) | decide +kernel
theorem ef_5 (m : MethodId) (a : Nat) : entryFrame m #[(.ref a)] 1 = mkF m 0 #[.val (.ref a)] [] := by first | (simp [entryFrame, mkF, argsToLocals, Value.category]; done) | rfl
def Q_rm_tm (Z : State) (a : Nat) (u1 : Int32) (u2 : Int32) (h0 : Heap) (n0 : Nat) (vv : Option Value) (h : Heap) (LL : List Loc) : Prop := vv = none ∧ Fr n0 LL ∧ Keep h0 h [a]
set_option maxRecDepth 65536 in
set_option maxHeartbeats 40000000 in
theorem rm_tm (l : Launch) (Z : State) (a0 : Array Value) (hw : ∀ d ∈ tables_1, d.before a0 Z = true) (ws : List Jvm.Cond) (a : Nat) (u1 : Int32) (u2 : Int32) (h0 : Heap) (n0 : Nat) (Z0 : n0 ≤ h0.size) (E_a : Exa Z h0 a "java/util/TreeMap") (F_size_a : Fld Z h0 a "java/util/TreeMap" "size" "I" (.int u1)) (F_modCount_a : Fld Z h0 a "java/util/TreeMap" "modCount" "I" (.int u2)) (F_comparator_a : Fld Z h0 a "java/util/TreeMap" "comparator" "Ljava/util/Comparator;" .null) (g_a : n0 ≤ a) :
    MetFree l (⟨"java/util/TreeMap", "<init>", "()V"⟩ : MethodName) (head1 (Jvm.Cond.code (⟨"java/util/TreeMap", "<init>", "()V"⟩ : MethodName) jdk_2729_method_1_code 1 none :: ws) ({ frames := 2, cells := 0, slots := 0, locals := 24 } : Room)) (fun aa UU => aa = #[(.ref a)] ∧ Z.Warmed39 UU.vm ∧ UU.heap = h0) (fun _ _ _ _ _ => True) (fun _ UU oo UU' => ∃ vv LL, oo = .returned vv ∧ Q_rm_tm Z a u1 u2 h0 n0 vv UU'.heap LL ∧ FrameEnd UU oo UU' LL ({ frames := 2, cells := 0, slots := 0, locals := 24 } : Room).cells ({ frames := 2, cells := 0, slots := 0, locals := 24 } : Room).slots) := by
  refine MetFree.of_bodySF (plainFor_of_name pn_5) hisR ?_
  intro p e s m args below meth c s₁ Bd hml0 hP hK
  obtain ⟨rfl, hZ, hh⟩ := hP
  have hx := Bd.exec
  have hby := Bd.bytes
  have hml : c.maxLocals = 1 := hml0
  have hown : s.vm.findClass "java/util/TreeMap" = some m.cls := findClass_of_methodNamed Bd.named
  have hnm := (name_of_methodNamed Bd.named Bd.method).1
  have hlk : meth.locks = false := BodyLoose.notSynchronized Bd
  have X0 : Stand p l e ({ frames := 2, cells := 0, slots := 0, locals := 24 } : Room) s m #[(.ref a)] below meth c s₁ [] 0 0 := Stand.of_body Bd
  have e0 : s₁.heap = h0 := by rw [← hh, Bd.state]; rfl
  have N0 := Fr.nil n0
  have lt_E_a := own_ltN E_a.lt
  have lt_F_size_a := own_ltN F_size_a.lt
  have lt_F_modCount_a := own_ltN F_modCount_a.lt
  have lt_F_comparator_a := own_ltN F_comparator_a.lt
  refine own_in (ef_5 m a) ?_
  refine own_go (T' := s₁) (g' := (mkF m 1 #[.val (.ref a)] [(.ref a)])) (fun t_ k_ => XS.aloadN X0.here hx rfl (hb hby d_jdk_2729_1_0) rfl rfl k_) ?_
  obtain ⟨_, _, ⟨T1, L1, k1, n1⟩, -, X1, ⟨Lc1, hQ1, l1, y1, z1⟩, st1⟩ := X0.specialBack hx (y := (⟨"java/util/AbstractMap", "<init>", "()V"⟩ : MethodName)) rfl hown (mvT hZ (hw _ (List.mem_of_getElem? (i := 50) rfl))) (mvT hZ (hw _ (List.mem_of_getElem? (i := 51) rfl))) (mvT hZ (hw _ (List.mem_of_getElem? (i := 55) rfl))) (by decide) (backOf (W := 0) (rm_am l Z a0 hw [] a h0 n0 (show n0 ≤ h0.size by omega)) hZ (hw _ (List.mem_of_getElem? (i := 55) rfl)) (hw _ (List.mem_of_getElem? (i := 54) rfl)) (by decide) (by decide)) (g := (mkF m 1 #[.val (.ref a)] [(.ref a)])) rfl (by rw [hml]; rfl) (Steps.refl _) (a := a) (argsL := []) (rest := []) (lenOf pd_0 rfl) rfl (by show 2 * 0 + _ ≤ _; exact Nat.le_of_eq rfl) (hb hby d_jdk_2729_1_1) (fun _ _ => ⟨rfl, e0, (by decide : 0 + 0 ≤ _), (by decide : 0 + 0 ≤ _)⟩)
  dsimp only [Pt.U, Pt.locs, Pt.cells, Pt.slots] at X1 l1 y1 z1 st1 hQ1
  subst l1 y1 z1
  obtain ⟨rfl, M1, e1⟩ := hQ1
  have N1 := Fr.app N0 M1
  refine own_go (T' := T1) (g' := (mkF m 4 #[.val (.ref a)] [])) (fun t_ k_ => st1.trans k_) ?_
  refine own_go (T' := T1) (g' := (mkF m 5 #[.val (.ref a)] [(.ref a)])) (fun t_ k_ => XS.aloadN X1.here hx rfl (hb hby d_jdk_2729_1_4) rfl rfl k_) ?_
  refine own_go (T' := T1) (g' := (mkF m 6 #[.val (.ref a)] [(.int (0 : Int32)), (.ref a)])) (fun t_ k_ => XS.iconst X1.here hx rfl (hb hby d_jdk_2729_1_5) k_) ?_
  obtain ⟨T2, h2, X2, e2, W2, st2⟩ := putF X1 hx hZ hown (host := "") (Or.inl (hw _ (List.mem_of_getElem? (i := 57) rfl))) Via.refl e1 F_size_a E_a (Or.inl (hw _ (List.mem_of_getElem? (i := 58) rfl))) (hw _ (List.mem_of_getElem? (i := 45) rfl)) (ty := .int) (by decide) rfl rfl (g := (mkF m 6 #[.val (.ref a)] [(.int (0 : Int32)), (.ref a)])) rfl rfl (hb hby d_jdk_2729_1_6)
  have F2 := F_size_a.same W2
  have z2 := W2.size
  have N2 := Fr.snoc X2 N1 (show n0 ≤ a by omega)
  have K2 := (Keep.refl h0 [a]).wr W2 (Or.inl (List.mem_of_getElem? (i := 0) rfl))
  refine own_go (T' := T2) (g' := (mkF m 9 #[.val (.ref a)] [])) (fun t_ k_ => st2 _ k_) ?_
  refine own_go (T' := T2) (g' := (mkF m 10 #[.val (.ref a)] [(.ref a)])) (fun t_ k_ => XS.aloadN X2.here hx rfl (hb hby d_jdk_2729_1_9) rfl rfl k_) ?_
  refine own_go (T' := T2) (g' := (mkF m 11 #[.val (.ref a)] [(.int (0 : Int32)), (.ref a)])) (fun t_ k_ => XS.iconst X2.here hx rfl (hb hby d_jdk_2729_1_10) k_) ?_
  have ff4 := (F_modCount_a.other W2 (Or.inr (slot_ne (Or.inl (hw _ (List.mem_of_getElem? (i := 60) rfl))) (Or.inl (hw _ (List.mem_of_getElem? (i := 58) rfl))) (by decide) (t := .int) (t' := .int) (by decide) (by decide))))
  have ff5 := (E_a.wr W2)
  obtain ⟨T3, h3, X3, e3, W3, st3⟩ := putF X2 hx hZ hown (host := "") (Or.inl (hw _ (List.mem_of_getElem? (i := 59) rfl))) Via.refl e2 ff4 ff5 (Or.inl (hw _ (List.mem_of_getElem? (i := 60) rfl))) (hw _ (List.mem_of_getElem? (i := 45) rfl)) (ty := .int) (by decide) rfl rfl (g := (mkF m 11 #[.val (.ref a)] [(.int (0 : Int32)), (.ref a)])) rfl rfl (hb hby d_jdk_2729_1_11)
  have F3 := ff4.same W3
  have z3 := W3.size
  have N3 := Fr.snoc X3 N2 (show n0 ≤ a by omega)
  have K3 := K2.wr W3 (Or.inl (List.mem_of_getElem? (i := 0) rfl))
  refine own_go (T' := T3) (g' := (mkF m 14 #[.val (.ref a)] [])) (fun t_ k_ => st3 _ k_) ?_
  refine own_go (T' := T3) (g' := (mkF m 15 #[.val (.ref a)] [(.ref a)])) (fun t_ k_ => XS.aloadN X3.here hx rfl (hb hby d_jdk_2729_1_14) rfl rfl k_) ?_
  refine own_go (T' := T3) (g' := (mkF m 16 #[.val (.ref a)] [.null, (.ref a)])) (fun t_ k_ => XS.aconstNull X3.here hx rfl (hb hby d_jdk_2729_1_15) k_) ?_
  have ff7 := ((F_comparator_a.other W2 (Or.inr (slot_ne (Or.inr (hw _ (List.mem_of_getElem? (i := 62) rfl))) (Or.inl (hw _ (List.mem_of_getElem? (i := 58) rfl))) (by decide) (t := (.object "java/util/Comparator")) (t' := .int) (by decide) (by decide)))).other W3 (Or.inr (slot_ne (Or.inr (hw _ (List.mem_of_getElem? (i := 62) rfl))) (Or.inl (hw _ (List.mem_of_getElem? (i := 60) rfl))) (by decide) (t := (.object "java/util/Comparator")) (t' := .int) (by decide) (by decide))))
  have ff8 := (ff5.wr W3)
  obtain ⟨T6, h6, X6, e6, W6, st6⟩ := putF X3 hx hZ hown (host := "") (Or.inl (hw _ (List.mem_of_getElem? (i := 61) rfl))) Via.refl e3 ff7 ff8 (Or.inr ⟨(hw _ (List.mem_of_getElem? (i := 62) rfl)), rfl, hnm⟩) (hw _ (List.mem_of_getElem? (i := 45) rfl)) (ty := (.object "java/util/Comparator")) (by decide) rfl rfl (g := (mkF m 16 #[.val (.ref a)] [.null, (.ref a)])) rfl rfl (hb hby d_jdk_2729_1_16)
  have F6 := ff7.same W6
  have z6 := W6.size
  have N6 := Fr.snoc X6 N3 (show n0 ≤ a by omega)
  have K6 := K3.wr W6 (Or.inl (List.mem_of_getElem? (i := 0) rfl))
  refine own_go (T' := T6) (g' := (mkF m 19 #[.val (.ref a)] [])) (fun t_ k_ => st6 _ k_) ?_
  exact own_out X6 (v := none) (fun _ => rfl) hlk (fun fs hr => X6.returnOut hx Bd.returns (hb hby d_jdk_2729_1_19) hr) (Q := Q_rm_tm Z a u1 u2 h0 n0) (by rw [e6]; exact ⟨rfl, N6, K6⟩) (by decide) (by decide)
theorem d_jdk_2756_1_0 : decode jdk_2756_method_1_code 0 = .ok (.aload_n 0, 1) := by decide +kernel
theorem d_jdk_2756_1_1 : decode jdk_2756_method_1_code 1 = .ok (.invokespecial 1, 3) := by decide +kernel
theorem d_jdk_2756_1_4 : decode jdk_2756_method_1_code 4 = .ok (.aload_n 0, 1) := by decide +kernel
theorem d_jdk_2756_1_5 : decode jdk_2756_method_1_code 5 = .ok (.aload_n 1, 1) := by decide +kernel
theorem d_jdk_2756_1_6 : decode jdk_2756_method_1_code 6 = .ok (.putfield 7, 3) := by decide +kernel
theorem d_jdk_2756_1_9 : decode jdk_2756_method_1_code 9 = .ok (.return_, 1) := by decide +kernel
theorem pn_6 : plainName "java/util/TreeSet" = true := by first | (simp [plainName, overriddenIn]; done) | decide +kernel
theorem ef_6 (m : MethodId) (a : Nat) (b : Nat) : entryFrame m #[(.ref a), (.ref b)] 2 = mkF m 0 #[.val (.ref a), .val (.ref b)] [] := by first | (simp [entryFrame, mkF, argsToLocals, Value.category]; done) | rfl
def Q_rm_ts1 (Z : State) (a : Nat) (b : Nat) (h0 : Heap) (n0 : Nat) (vv : Option Value) (h : Heap) (LL : List Loc) : Prop := vv = none ∧ Fr n0 LL ∧ Keep h0 h [a]
set_option maxRecDepth 65536 in
set_option maxHeartbeats 40000000 in
theorem rm_ts1 (l : Launch) (Z : State) (a0 : Array Value) (hw : ∀ d ∈ tables_1, d.before a0 Z = true) (ws : List Jvm.Cond) (a : Nat) (b : Nat) (h0 : Heap) (n0 : Nat) (Z0 : n0 ≤ h0.size) (E_a : Exa Z h0 a "java/util/TreeSet") (F_m_a : Fld Z h0 a "java/util/TreeSet" "m" "Ljava/util/NavigableMap;" .null) (g_a : n0 ≤ a) :
    MetFree l (⟨"java/util/TreeSet", "<init>", "(Ljava/util/NavigableMap;)V"⟩ : MethodName) (head1 (Jvm.Cond.code (⟨"java/util/TreeSet", "<init>", "(Ljava/util/NavigableMap;)V"⟩ : MethodName) jdk_2756_method_1_code 2 none :: ws) ({ frames := 3, cells := 0, slots := 0, locals := 36 } : Room)) (fun aa UU => aa = #[(.ref a), (.ref b)] ∧ Z.Warmed39 UU.vm ∧ UU.heap = h0) (fun _ _ _ _ _ => True) (fun _ UU oo UU' => ∃ vv LL, oo = .returned vv ∧ Q_rm_ts1 Z a b h0 n0 vv UU'.heap LL ∧ FrameEnd UU oo UU' LL ({ frames := 3, cells := 0, slots := 0, locals := 36 } : Room).cells ({ frames := 3, cells := 0, slots := 0, locals := 36 } : Room).slots) := by
  refine MetFree.of_bodySF (plainFor_of_name pn_6) hisR ?_
  intro p e s m args below meth c s₁ Bd hml0 hP hK
  obtain ⟨rfl, hZ, hh⟩ := hP
  have hx := Bd.exec
  have hby := Bd.bytes
  have hml : c.maxLocals = 2 := hml0
  have hown : s.vm.findClass "java/util/TreeSet" = some m.cls := findClass_of_methodNamed Bd.named
  have hnm := (name_of_methodNamed Bd.named Bd.method).1
  have hlk : meth.locks = false := BodyLoose.notSynchronized Bd
  have X0 : Stand p l e ({ frames := 3, cells := 0, slots := 0, locals := 36 } : Room) s m #[(.ref a), (.ref b)] below meth c s₁ [] 0 0 := Stand.of_body Bd
  have e0 : s₁.heap = h0 := by rw [← hh, Bd.state]; rfl
  have N0 := Fr.nil n0
  have lt_E_a := own_ltN E_a.lt
  have lt_F_m_a := own_ltN F_m_a.lt
  refine own_in (ef_6 m a b) ?_
  refine own_go (T' := s₁) (g' := (mkF m 1 #[.val (.ref a), .val (.ref b)] [(.ref a)])) (fun t_ k_ => XS.aloadN X0.here hx rfl (hb hby d_jdk_2756_1_0) rfl rfl k_) ?_
  obtain ⟨_, _, ⟨T1, L1, k1, n1⟩, -, X1, ⟨Lc1, hQ1, l1, y1, z1⟩, st1⟩ := X0.specialBack hx (y := (⟨"java/util/AbstractSet", "<init>", "()V"⟩ : MethodName)) rfl hown (mvT hZ (hw _ (List.mem_of_getElem? (i := 84) rfl))) (mvT hZ (hw _ (List.mem_of_getElem? (i := 85) rfl))) (mvT hZ (hw _ (List.mem_of_getElem? (i := 89) rfl))) (by decide) (backOf (W := 0) (rm_as l Z a0 hw [] a h0 n0 (show n0 ≤ h0.size by omega)) hZ (hw _ (List.mem_of_getElem? (i := 89) rfl)) (hw _ (List.mem_of_getElem? (i := 88) rfl)) (by decide) (by decide)) (g := (mkF m 1 #[.val (.ref a), .val (.ref b)] [(.ref a)])) rfl (by rw [hml]; rfl) (Steps.refl _) (a := a) (argsL := []) (rest := []) (lenOf pd_0 rfl) rfl (by show 2 * 0 + _ ≤ _; exact Nat.le_of_eq rfl) (hb hby d_jdk_2756_1_1) (fun _ _ => ⟨rfl, e0, (by decide : 0 + 0 ≤ _), (by decide : 0 + 0 ≤ _)⟩)
  dsimp only [Pt.U, Pt.locs, Pt.cells, Pt.slots] at X1 l1 y1 z1 st1 hQ1
  subst l1 y1 z1
  obtain ⟨rfl, M1, e1⟩ := hQ1
  have N1 := Fr.app N0 M1
  refine own_go (T' := T1) (g' := (mkF m 4 #[.val (.ref a), .val (.ref b)] [])) (fun t_ k_ => st1.trans k_) ?_
  refine own_go (T' := T1) (g' := (mkF m 5 #[.val (.ref a), .val (.ref b)] [(.ref a)])) (fun t_ k_ => XS.aloadN X1.here hx rfl (hb hby d_jdk_2756_1_4) rfl rfl k_) ?_
  refine own_go (T' := T1) (g' := (mkF m 6 #[.val (.ref a), .val (.ref b)] [(.ref b), (.ref a)])) (fun t_ k_ => XS.aloadN X1.here hx rfl (hb hby d_jdk_2756_1_5) rfl rfl k_) ?_
  obtain ⟨T2, h2, X2, e2, W2, st2⟩ := putF X1 hx hZ hown (host := "") (Or.inl (hw _ (List.mem_of_getElem? (i := 92) rfl))) Via.refl e1 F_m_a E_a (Or.inl (hw _ (List.mem_of_getElem? (i := 93) rfl))) (hw _ (List.mem_of_getElem? (i := 72) rfl)) (ty := (.object "java/util/NavigableMap")) (by decide) rfl rfl (g := (mkF m 6 #[.val (.ref a), .val (.ref b)] [(.ref b), (.ref a)])) rfl rfl (hb hby d_jdk_2756_1_6)
  have F2 := F_m_a.same W2
  have z2 := W2.size
  have N2 := Fr.snoc X2 N1 (show n0 ≤ a by omega)
  have K2 := (Keep.refl h0 [a]).wr W2 (Or.inl (List.mem_of_getElem? (i := 0) rfl))
  refine own_go (T' := T2) (g' := (mkF m 9 #[.val (.ref a), .val (.ref b)] [])) (fun t_ k_ => st2 _ k_) ?_
  exact own_out X2 (v := none) (fun _ => rfl) hlk (fun fs hr => X2.returnOut hx Bd.returns (hb hby d_jdk_2756_1_9) hr) (Q := Q_rm_ts1 Z a b h0 n0) (by rw [e2]; exact ⟨rfl, N2, K2⟩) (by decide) (by decide)
theorem d_jdk_2756_2_0 : decode jdk_2756_method_2_code 0 = .ok (.aload_n 0, 1) := by decide +kernel
theorem d_jdk_2756_2_1 : decode jdk_2756_method_2_code 1 = .ok (.new 13, 3) := by decide +kernel
theorem d_jdk_2756_2_4 : decode jdk_2756_method_2_code 4 = .ok (.dup, 1) := by decide +kernel
theorem d_jdk_2756_2_5 : decode jdk_2756_method_2_code 5 = .ok (.invokespecial 15, 3) := by decide +kernel
theorem d_jdk_2756_2_8 : decode jdk_2756_method_2_code 8 = .ok (.invokespecial 16, 3) := by decide +kernel
theorem pd_1 : parseMethodDescriptor "(Ljava/util/NavigableMap;)V" = some ⟨[(.object "java/util/NavigableMap")], none⟩ := by decide +kernel
theorem d_jdk_2756_2_11 : decode jdk_2756_method_2_code 11 = .ok (.return_, 1) := by decide +kernel
theorem ef_7 (m : MethodId) (a : Nat) : entryFrame m #[(.ref a)] 1 = mkF m 0 #[.val (.ref a)] [] := by first | (simp [entryFrame, mkF, argsToLocals, Value.category]; done) | rfl
def Q_rm_ts (Z : State) (a : Nat) (h0 : Heap) (n0 : Nat) (vv : Option Value) (h : Heap) (LL : List Loc) : Prop := vv = none ∧ Fr n0 LL ∧ Keep h0 h [a]
set_option maxRecDepth 65536 in
set_option maxHeartbeats 40000000 in
theorem rm_ts (l : Launch) (Z : State) (a0 : Array Value) (hw : ∀ d ∈ tables_1, d.before a0 Z = true) (ws : List Jvm.Cond) (a : Nat) (h0 : Heap) (n0 : Nat) (Z0 : n0 ≤ h0.size) (E_a : Exa Z h0 a "java/util/TreeSet") (F_m_a : Fld Z h0 a "java/util/TreeSet" "m" "Ljava/util/NavigableMap;" .null) (g_a : n0 ≤ a) :
    MetFree l (⟨"java/util/TreeSet", "<init>", "()V"⟩ : MethodName) (head1 (Jvm.Cond.code (⟨"java/util/TreeSet", "<init>", "()V"⟩ : MethodName) jdk_2756_method_2_code 1 none :: ws) ({ frames := 4, cells := 1, slots := 9, locals := 49 } : Room)) (fun aa UU => aa = #[(.ref a)] ∧ Z.Warmed39 UU.vm ∧ UU.heap = h0) (fun _ _ _ _ _ => True) (fun _ UU oo UU' => ∃ vv LL, oo = .returned vv ∧ Q_rm_ts Z a h0 n0 vv UU'.heap LL ∧ FrameEnd UU oo UU' LL ({ frames := 4, cells := 1, slots := 9, locals := 49 } : Room).cells ({ frames := 4, cells := 1, slots := 9, locals := 49 } : Room).slots) := by
  refine MetFree.of_bodySF (plainFor_of_name pn_6) hisR ?_
  intro p e s m args below meth c s₁ Bd hml0 hP hK
  obtain ⟨rfl, hZ, hh⟩ := hP
  have hx := Bd.exec
  have hby := Bd.bytes
  have hml : c.maxLocals = 1 := hml0
  have hown : s.vm.findClass "java/util/TreeSet" = some m.cls := findClass_of_methodNamed Bd.named
  have hnm := (name_of_methodNamed Bd.named Bd.method).1
  have hlk : meth.locks = false := BodyLoose.notSynchronized Bd
  have X0 : Stand p l e ({ frames := 4, cells := 1, slots := 9, locals := 49 } : Room) s m #[(.ref a)] below meth c s₁ [] 0 0 := Stand.of_body Bd
  have e0 : s₁.heap = h0 := by rw [← hh, Bd.state]; rfl
  have N0 := Fr.nil n0
  have lt_E_a := own_ltN E_a.lt
  have lt_F_m_a := own_ltN F_m_a.lt
  refine own_in (ef_7 m a) ?_
  refine own_go (T' := s₁) (g' := (mkF m 1 #[.val (.ref a)] [(.ref a)])) (fun t_ k_ => XS.aloadN X0.here hx rfl (hb hby d_jdk_2756_2_0) rfl rfl k_) ?_
  obtain ⟨T1, h1, X1, e1, E1, A1, D1, -, st1⟩ := newO X0 hx hZ hown (hw _ (List.mem_of_getElem? (i := 77) rfl)) (hw _ (List.mem_of_getElem? (i := 45) rfl)) (hw _ (List.mem_of_getElem? (i := 46) rfl)) e0 (g := (mkF m 1 #[.val (.ref a)] [(.ref a)])) rfl (hb hby d_jdk_2756_2_1) (by decide) (by decide)
  obtain ⟨b1, g1⟩ : ∃ z, z = h0.size := ⟨_, rfl⟩
  rw [← g1] at A1 D1 st1
  have l1 := own_ltN A1.lt
  have z1 := E1.1
  have K1 := (Keep.refl h0 [a]).ext E1
  have F1_size : Fld Z h1 b1 "java/util/TreeMap" "size" "I" (.int (0 : Int32)) := D1 (Or.inl (hw _ (List.mem_of_getElem? (i := 58) rfl))) (ty := .int) (by decide)
  have F1_modCount : Fld Z h1 b1 "java/util/TreeMap" "modCount" "I" (.int (0 : Int32)) := D1 (Or.inl (hw _ (List.mem_of_getElem? (i := 60) rfl))) (ty := .int) (by decide)
  have F1_comparator : Fld Z h1 b1 "java/util/TreeMap" "comparator" "Ljava/util/Comparator;" .null := D1 (Or.inr (hw _ (List.mem_of_getElem? (i := 62) rfl))) (ty := (.object "java/util/Comparator")) (by decide)
  refine own_go (T' := T1) (g' := (mkF m 4 #[.val (.ref a)] [(.ref b1), (.ref a)])) (fun t_ k_ => st1 _ k_) ?_
  refine own_go (T' := T1) (g' := (mkF m 5 #[.val (.ref a)] [(.ref b1), (.ref b1), (.ref a)])) (fun t_ k_ => XS.dup X1.here hx rfl (hb hby d_jdk_2756_2_4) rfl rfl k_) ?_
  obtain ⟨_, _, ⟨T2, L2, k2, n2⟩, -, X2, ⟨Lc2, hQ2, l2, y2, z2⟩, st2⟩ := X1.specialBack hx (y := (⟨"java/util/TreeMap", "<init>", "()V"⟩ : MethodName)) rfl hown (mvT hZ (hw _ (List.mem_of_getElem? (i := 78) rfl))) (mvT hZ (hw _ (List.mem_of_getElem? (i := 48) rfl))) (mvT hZ (hw _ (List.mem_of_getElem? (i := 49) rfl))) (by decide) (backOf (W := 2) (rm_tm l Z a0 hw [] b1 (0 : Int32) (0 : Int32) h1 n0 (show n0 ≤ h1.size by omega) A1 F1_size F1_modCount F1_comparator (show n0 ≤ b1 by omega)) hZ (hw _ (List.mem_of_getElem? (i := 49) rfl)) (hw _ (List.mem_of_getElem? (i := 46) rfl)) (by decide) (by decide)) (g := (mkF m 5 #[.val (.ref a)] [(.ref b1), (.ref b1), (.ref a)])) rfl (by rw [hml]; rfl) (Steps.refl _) (a := b1) (argsL := []) (rest := [(.ref b1), (.ref a)]) (lenOf pd_0 rfl) rfl (by show 2 * 0 + _ ≤ _; exact Nat.le_of_eq rfl) (hb hby d_jdk_2756_2_5) (fun _ _ => ⟨rfl, e1, (by decide : 1 + 0 ≤ _), (by decide : 9 + 0 ≤ _)⟩)
  dsimp only [Pt.U, Pt.locs, Pt.cells, Pt.slots] at X2 l2 y2 z2 st2 hQ2
  subst l2 y2 z2
  obtain ⟨rfl, M2, K2_⟩ := hQ2
  have zz2 := K2_.1
  have K2 := K1.trans K2_ (allS (Or.inr (show h0.size ≤ b1 by omega)) all0)
  have N2 := Fr.app N0 M2
  refine own_go (T' := T2) (g' := (mkF m 8 #[.val (.ref a)] [(.ref b1), (.ref a)])) (fun t_ k_ => st2.trans k_) ?_
  have ff4 := ((E_a.ext E1).keep K2_)
  have ff5 := ((F_m_a.ext E1).keep K2_ (ninS (own_ne (by omega)) nin0))
  obtain ⟨_, _, ⟨T3, L3, k3, n3⟩, -, X3, ⟨Lc3, hQ3, l3, y3, z3⟩, st3⟩ := X2.specialBack hx (y := (⟨"java/util/TreeSet", "<init>", "(Ljava/util/NavigableMap;)V"⟩ : MethodName)) rfl hown (mvT hZ (hw _ (List.mem_of_getElem? (i := 80) rfl))) (mvT hZ (hw _ (List.mem_of_getElem? (i := 81) rfl))) (mvT hZ (hw _ (List.mem_of_getElem? (i := 83) rfl))) (by decide) (backOf (W := 0) (rm_ts1 l Z a0 hw [] a b1 T2.heap n0 (show n0 ≤ T2.heap.size by omega) ff4 ff5 (show n0 ≤ a by omega)) hZ (hw _ (List.mem_of_getElem? (i := 83) rfl)) (hw _ (List.mem_of_getElem? (i := 73) rfl)) (by decide) (by decide)) (g := (mkF m 8 #[.val (.ref a)] [(.ref b1), (.ref a)])) rfl (by rw [hml]; rfl) (Steps.refl _) (a := a) (argsL := [(.ref b1)]) (rest := []) (lenOf pd_1 rfl) rfl (by show 2 * 0 + _ ≤ _; exact Nat.le_of_eq rfl) (hb hby d_jdk_2756_2_8) (fun _ _ => ⟨rfl, rfl, (by decide : 1 + 0 ≤ _), (by decide : 9 + 0 ≤ _)⟩)
  dsimp only [Pt.U, Pt.locs, Pt.cells, Pt.slots] at X3 l3 y3 z3 st3 hQ3
  subst l3 y3 z3
  obtain ⟨rfl, M3, K3_⟩ := hQ3
  have zz3 := K3_.1
  have K3 := K2.trans K3_ (allS (Or.inl (List.mem_of_getElem? (i := 0) rfl)) all0)
  have N3 := Fr.app N2 M3
  refine own_go (T' := T3) (g' := (mkF m 11 #[.val (.ref a)] [])) (fun t_ k_ => st3.trans k_) ?_
  exact own_out X3 (v := none) (fun _ => rfl) hlk (fun fs hr => X3.returnOut hx Bd.returns (hb hby d_jdk_2756_2_11) hr) (Q := Q_rm_ts Z a h0 n0) (by exact ⟨rfl, N3, K3⟩) (by decide) (by decide)
theorem d_jdk_31_11_0 : decode jdk_31_method_11_code 0 = .ok (.aload_n 0, 1) := by decide +kernel
theorem d_jdk_31_11_1 : decode jdk_31_method_11_code 1 = .ok (.ifnonnull 12, 3) := by decide +kernel
theorem d_jdk_31_11_13 : decode jdk_31_method_11_code 13 = .ok (.aload_n 0, 1) := by decide +kernel
theorem d_jdk_31_11_14 : decode jdk_31_method_11_code 14 = .ok (.areturn, 1) := by decide +kernel
theorem pn_7 : plainName "java/util/Objects" = true := by first | (simp [plainName, overriddenIn]; done) | decide +kernel
theorem ef_8 (m : MethodId) (a : Nat) (b : Nat) : entryFrame m #[(.ref a), (.ref b)] 2 = mkF m 0 #[.val (.ref a), .val (.ref b)] [] := by first | (simp [entryFrame, mkF, argsToLocals, Value.category]; done) | rfl
def Q_rm_req (Z : State) (a : Nat) (b : Nat) (h0 : Heap) (n0 : Nat) (vv : Option Value) (h : Heap) (LL : List Loc) : Prop := vv = some (.ref a) ∧ Fr n0 LL ∧ h = h0
set_option maxRecDepth 65536 in
set_option maxHeartbeats 40000000 in
theorem rm_req (l : Launch) (Z : State) (a0 : Array Value) (hw : ∀ d ∈ tables_1, d.before a0 Z = true) (ws : List Jvm.Cond) (a : Nat) (b : Nat) (h0 : Heap) (n0 : Nat) (Z0 : n0 ≤ h0.size) :
    MetFree l (⟨"java/util/Objects", "requireNonNull", "(Ljava/lang/Object;Ljava/lang/String;)Ljava/lang/Object;"⟩ : MethodName) (head1 (Jvm.Cond.code (⟨"java/util/Objects", "requireNonNull", "(Ljava/lang/Object;Ljava/lang/String;)Ljava/lang/Object;"⟩ : MethodName) jdk_31_method_11_code 2 (some (.object "java/lang/Object")) :: ws) ({ frames := 0, cells := 0, slots := 0, locals := 0 } : Room)) (fun aa UU => aa = #[(.ref a), (.ref b)] ∧ Z.Warmed39 UU.vm ∧ UU.heap = h0) (fun _ _ _ _ _ => True) (fun _ UU oo UU' => ∃ vv LL, oo = .returned vv ∧ Q_rm_req Z a b h0 n0 vv UU'.heap LL ∧ FrameEnd UU oo UU' LL ({ frames := 0, cells := 0, slots := 0, locals := 0 } : Room).cells ({ frames := 0, cells := 0, slots := 0, locals := 0 } : Room).slots) := by
  refine MetFree.of_bodySF (plainFor_of_name pn_7) hisR ?_
  intro p e s m args below meth c s₁ Bd hml0 hP hK
  obtain ⟨rfl, hZ, hh⟩ := hP
  have hx := Bd.exec
  have hby := Bd.bytes
  have hml : c.maxLocals = 2 := hml0
  have hown : s.vm.findClass "java/util/Objects" = some m.cls := findClass_of_methodNamed Bd.named
  have hnm := (name_of_methodNamed Bd.named Bd.method).1
  have hlk : meth.locks = false := BodyLoose.notSynchronized Bd
  have X0 : Stand p l e ({ frames := 0, cells := 0, slots := 0, locals := 0 } : Room) s m #[(.ref a), (.ref b)] below meth c s₁ [] 0 0 := Stand.of_body Bd
  have e0 : s₁.heap = h0 := by rw [← hh, Bd.state]; rfl
  have N0 := Fr.nil n0
  refine own_in (ef_8 m a b) ?_
  refine own_go (T' := s₁) (g' := (mkF m 1 #[.val (.ref a), .val (.ref b)] [(.ref a)])) (fun t_ k_ => XS.aloadN X0.here hx rfl (hb hby d_jdk_31_11_0) rfl rfl k_) ?_
  refine own_go (T' := s₁) (g' := (mkF m 13 #[.val (.ref a), .val (.ref b)] [])) (fun t_ k_ => XS.ifnonnullYes X0.here hx rfl (pc0 := 1) (pc' := 13) rfl (hb hby d_jdk_31_11_1) rfl (by decide) (by decide) k_) ?_
  refine own_go (T' := s₁) (g' := (mkF m 14 #[.val (.ref a), .val (.ref b)] [(.ref a)])) (fun t_ k_ => XS.aloadN X0.here hx rfl (hb hby d_jdk_31_11_13) rfl rfl k_) ?_
  exact own_out X0 (v := some (.ref a)) (fun h => by rw [Bd.returns] at h; cases h) hlk (fun fs hr => own_retA X0 hx Bd.returns rfl rfl (hb hby d_jdk_31_11_14) hr) (Q := Q_rm_req Z a b h0 n0) (by rw [e0]; exact ⟨rfl, N0, rfl⟩) (by decide) (by decide)
theorem d_prog_16_1_0 : decode prog_16_method_1_code 0 = .ok (.aload_n 0, 1) := by decide +kernel
theorem d_prog_16_1_1 : decode prog_16_method_1_code 1 = .ok (.invokespecial 1, 3) := by decide +kernel
theorem d_prog_16_1_4 : decode prog_16_method_1_code 4 = .ok (.aload_n 0, 1) := by decide +kernel
theorem d_prog_16_1_5 : decode prog_16_method_1_code 5 = .ok (.new 7, 3) := by decide +kernel
theorem d_prog_16_1_8 : decode prog_16_method_1_code 8 = .ok (.dup, 1) := by decide +kernel
theorem d_prog_16_1_9 : decode prog_16_method_1_code 9 = .ok (.invokespecial 9, 3) := by decide +kernel
theorem d_prog_16_1_12 : decode prog_16_method_1_code 12 = .ok (.putfield 10, 3) := by decide +kernel
theorem d_prog_16_1_15 : decode prog_16_method_1_code 15 = .ok (.aload_n 0, 1) := by decide +kernel
theorem d_prog_16_1_16 : decode prog_16_method_1_code 16 = .ok (.new 7, 3) := by decide +kernel
theorem d_prog_16_1_19 : decode prog_16_method_1_code 19 = .ok (.dup, 1) := by decide +kernel
theorem d_prog_16_1_20 : decode prog_16_method_1_code 20 = .ok (.invokespecial 9, 3) := by decide +kernel
theorem d_prog_16_1_23 : decode prog_16_method_1_code 23 = .ok (.putfield 16, 3) := by decide +kernel
theorem d_prog_16_1_26 : decode prog_16_method_1_code 26 = .ok (.aload_n 0, 1) := by decide +kernel
theorem d_prog_16_1_27 : decode prog_16_method_1_code 27 = .ok (.new 19, 3) := by decide +kernel
theorem d_prog_16_1_30 : decode prog_16_method_1_code 30 = .ok (.dup, 1) := by decide +kernel
theorem d_prog_16_1_31 : decode prog_16_method_1_code 31 = .ok (.invokespecial 21, 3) := by decide +kernel
theorem d_prog_16_1_34 : decode prog_16_method_1_code 34 = .ok (.putfield 22, 3) := by decide +kernel
theorem d_prog_16_1_37 : decode prog_16_method_1_code 37 = .ok (.aload_n 0, 1) := by decide +kernel
theorem d_prog_16_1_38 : decode prog_16_method_1_code 38 = .ok (.new 19, 3) := by decide +kernel
theorem d_prog_16_1_41 : decode prog_16_method_1_code 41 = .ok (.dup, 1) := by decide +kernel
theorem d_prog_16_1_42 : decode prog_16_method_1_code 42 = .ok (.invokespecial 21, 3) := by decide +kernel
theorem d_prog_16_1_45 : decode prog_16_method_1_code 45 = .ok (.putfield 26, 3) := by decide +kernel
theorem d_prog_16_1_48 : decode prog_16_method_1_code 48 = .ok (.aload_n 0, 1) := by decide +kernel
theorem d_prog_16_1_49 : decode prog_16_method_1_code 49 = .ok (.new 19, 3) := by decide +kernel
theorem d_prog_16_1_52 : decode prog_16_method_1_code 52 = .ok (.dup, 1) := by decide +kernel
theorem d_prog_16_1_53 : decode prog_16_method_1_code 53 = .ok (.invokespecial 21, 3) := by decide +kernel
theorem d_prog_16_1_56 : decode prog_16_method_1_code 56 = .ok (.putfield 29, 3) := by decide +kernel
theorem d_prog_16_1_59 : decode prog_16_method_1_code 59 = .ok (.aload_n 0, 1) := by decide +kernel
theorem d_prog_16_1_60 : decode prog_16_method_1_code 60 = .ok (.new 19, 3) := by decide +kernel
theorem d_prog_16_1_63 : decode prog_16_method_1_code 63 = .ok (.dup, 1) := by decide +kernel
theorem d_prog_16_1_64 : decode prog_16_method_1_code 64 = .ok (.invokespecial 21, 3) := by decide +kernel
theorem d_prog_16_1_67 : decode prog_16_method_1_code 67 = .ok (.putfield 32, 3) := by decide +kernel
theorem d_prog_16_1_70 : decode prog_16_method_1_code 70 = .ok (.aload_n 0, 1) := by decide +kernel
theorem d_prog_16_1_71 : decode prog_16_method_1_code 71 = .ok (.new 35, 3) := by decide +kernel
theorem d_prog_16_1_74 : decode prog_16_method_1_code 74 = .ok (.dup, 1) := by decide +kernel
theorem d_prog_16_1_75 : decode prog_16_method_1_code 75 = .ok (.invokespecial 37, 3) := by decide +kernel
theorem d_prog_16_1_78 : decode prog_16_method_1_code 78 = .ok (.putfield 38, 3) := by decide +kernel
theorem d_prog_16_1_81 : decode prog_16_method_1_code 81 = .ok (.aload_n 0, 1) := by decide +kernel
theorem d_prog_16_1_82 : decode prog_16_method_1_code 82 = .ok (.new 35, 3) := by decide +kernel
theorem d_prog_16_1_85 : decode prog_16_method_1_code 85 = .ok (.dup, 1) := by decide +kernel
theorem d_prog_16_1_86 : decode prog_16_method_1_code 86 = .ok (.invokespecial 37, 3) := by decide +kernel
theorem d_prog_16_1_89 : decode prog_16_method_1_code 89 = .ok (.putfield 42, 3) := by decide +kernel
theorem d_prog_16_1_92 : decode prog_16_method_1_code 92 = .ok (.aload_n 0, 1) := by decide +kernel
theorem d_prog_16_1_93 : decode prog_16_method_1_code 93 = .ok (.aload_n 1, 1) := by decide +kernel
theorem d_prog_16_1_94 : decode prog_16_method_1_code 94 = .ok (.ldc 45, 2) := by decide +kernel
theorem d_prog_16_1_96 : decode prog_16_method_1_code 96 = .ok (.invokestatic 47, 3) := by decide +kernel
theorem pd_2 : parseMethodDescriptor "(Ljava/lang/Object;Ljava/lang/String;)Ljava/lang/Object;" = some ⟨[(.object "java/lang/Object"), (.object "java/lang/String")], some (.object "java/lang/Object")⟩ := by decide +kernel
theorem d_prog_16_1_99 : decode prog_16_method_1_code 99 = .ok (.checkcast 53, 3) := by decide +kernel
theorem d_prog_16_1_102 : decode prog_16_method_1_code 102 = .ok (.putfield 55, 3) := by decide +kernel
theorem d_prog_16_1_105 : decode prog_16_method_1_code 105 = .ok (.return_, 1) := by decide +kernel
theorem pn_8 : plainName "com/example/crownsworn/crownsworn/model/KingdomState" = true := by first | (simp [plainName, overriddenIn]; done) | decide +kernel
theorem ef_9 (m : MethodId) (a : Nat) (k : Nat) : entryFrame m #[(.ref a), (.ref k)] 2 = mkF m 0 #[.val (.ref a), .val (.ref k)] [] := by first | (simp [entryFrame, mkF, argsToLocals, Value.category]; done) | rfl
def Q_rm_ks (Z : State) (a : Nat) (k : Nat) (w : Nat) (h0 : Heap) (n0 : Nat) (vv : Option Value) (h : Heap) (LL : List Loc) : Prop := vv = none ∧ Fr n0 LL ∧ Keep h0 h [a] ∧ Fld Z h a "com/example/crownsworn/crownsworn/model/KingdomState" "crom" "I" (.int (0 : Int32)) ∧ Fld Z h a "com/example/crownsworn/crownsworn/model/KingdomState" "gold" "I" (.int (0 : Int32)) ∧ Fld Z h a "com/example/crownsworn/crownsworn/model/KingdomState" "sorcery" "I" (.int (0 : Int32)) ∧ Fld Z h a "com/example/crownsworn/crownsworn/model/KingdomState" "empirePoints" "I" (.int (0 : Int32)) ∧ Fld Z h a "com/example/crownsworn/crownsworn/model/KingdomState" "kingdom" "Lcom/example/crownsworn/crownsworn/model/Kingdom;" (.ref k)
set_option maxRecDepth 65536 in
set_option maxHeartbeats 40000000 in
theorem rm_ks (l : Launch) (Z : State) (a0 : Array Value) (hw : ∀ d ∈ tables_1, d.before a0 Z = true) (ws : List Jvm.Cond) (a : Nat) (k : Nat) (w : Nat) (h0 : Heap) (n0 : Nat) (Z0 : n0 ≤ h0.size) (E_a : Exa Z h0 a "com/example/crownsworn/crownsworn/model/KingdomState") (E_k : Exa Z h0 k "com/example/crownsworn/crownsworn/model/Kingdom") (F_hand_a : Fld Z h0 a "com/example/crownsworn/crownsworn/model/KingdomState" "hand" "Ljava/util/List;" .null) (F_tokens_a : Fld Z h0 a "com/example/crownsworn/crownsworn/model/KingdomState" "tokens" "Ljava/util/List;" .null) (F_units_a : Fld Z h0 a "com/example/crownsworn/crownsworn/model/KingdomState" "units" "Ljava/util/SortedMap;" .null) (F_emissaries_a : Fld Z h0 a "com/example/crownsworn/crownsworn/model/KingdomState" "emissaries" "Ljava/util/SortedMap;" .null) (F_campaigns_a : Fld Z h0 a "com/example/crownsworn/crownsworn/model/KingdomState" "campaigns" "Ljava/util/SortedMap;" .null) (F_markers_a : Fld Z h0 a "com/example/crownsworn/crownsworn/model/KingdomState" "markers" "Ljava/util/SortedMap;" .null) (F_unusedBidTokens_a : Fld Z h0 a "com/example/crownsworn/crownsworn/model/KingdomState" "unusedBidTokens" "Ljava/util/SortedSet;" .null) (F_artifacts_a : Fld Z h0 a "com/example/crownsworn/crownsworn/model/KingdomState" "artifacts" "Ljava/util/SortedSet;" .null) (F_kingdom_a : Fld Z h0 a "com/example/crownsworn/crownsworn/model/KingdomState" "kingdom" "Lcom/example/crownsworn/crownsworn/model/Kingdom;" .null) (g_a : n0 ≤ a) (O0 : Old Z n0 h0) (S_DEFAULTCAPACITY_EMPTY_ELEMENTDATA : Sta Z Z.heap "java/util/ArrayList" "DEFAULTCAPACITY_EMPTY_ELEMENTDATA" "[Ljava/lang/Object;" (.ref w)) (F_crom_a : Fld Z h0 a "com/example/crownsworn/crownsworn/model/KingdomState" "crom" "I" (.int (0 : Int32))) (F_gold_a : Fld Z h0 a "com/example/crownsworn/crownsworn/model/KingdomState" "gold" "I" (.int (0 : Int32))) (F_sorcery_a : Fld Z h0 a "com/example/crownsworn/crownsworn/model/KingdomState" "sorcery" "I" (.int (0 : Int32))) (F_empirePoints_a : Fld Z h0 a "com/example/crownsworn/crownsworn/model/KingdomState" "empirePoints" "I" (.int (0 : Int32))) :
    MetFree l (⟨"com/example/crownsworn/crownsworn/model/KingdomState", "<init>", "(Lcom/example/crownsworn/crownsworn/model/Kingdom;)V"⟩ : MethodName) (head1 (Jvm.Cond.code (⟨"com/example/crownsworn/crownsworn/model/KingdomState", "<init>", "(Lcom/example/crownsworn/crownsworn/model/Kingdom;)V"⟩ : MethodName) prog_16_method_1_code 2 none :: ws) ({ frames := 5, cells := 12, slots := 126, locals := 63 } : Room)) (fun aa UU => aa = #[(.ref a), (.ref k)] ∧ Z.Warmed39 UU.vm ∧ UU.heap = h0) (fun _ _ _ _ _ => True) (fun _ UU oo UU' => ∃ vv LL, oo = .returned vv ∧ Q_rm_ks Z a k w h0 n0 vv UU'.heap LL ∧ ReturnedEndW UU oo UU' LL ({ frames := 5, cells := 12, slots := 126, locals := 63 } : Room).cells ({ frames := 5, cells := 12, slots := 126, locals := 63 } : Room).slots) := by
  refine MetFree.of_bodySF (plainFor_of_name pn_8) hisR ?_
  intro p e s m args below meth c s₁ Bd hml0 hP hK
  obtain ⟨rfl, hZ, hh⟩ := hP
  have hx := Bd.exec
  have hby := Bd.bytes
  have hml : c.maxLocals = 2 := hml0
  have hown : s.vm.findClass "com/example/crownsworn/crownsworn/model/KingdomState" = some m.cls := findClass_of_methodNamed Bd.named
  have hnm := (name_of_methodNamed Bd.named Bd.method).1
  have hlk : meth.locks = false := BodyLoose.notSynchronized Bd
  have X0 : Stand p l e ({ frames := 5, cells := 12, slots := 126, locals := 63 } : Room) (s.setVm s.vm) m #[(.ref a), (.ref k)] below meth c s₁ [] 0 0 := Stand.of_body Bd
  have e0 : s₁.heap = h0 := by rw [← hh, Bd.state]; rfl
  have N0 := Fr.nil n0
  have hS : s.Since s.vm 0 := own_since s
  have hk : 0 ≤ h0.size := Nat.zero_le _
  have hwS : ∀ a ∈ Bundle.stringAtoms, a.before a0 Z = true := fun d hd => hw d ((by decide +kernel : ∀ d ∈ Bundle.stringAtoms, d ∈ tables_1) d hd)
  have lt_E_a := own_ltN E_a.lt
  have lt_E_k := own_ltN E_k.lt
  have lt_F_hand_a := own_ltN F_hand_a.lt
  have lt_F_tokens_a := own_ltN F_tokens_a.lt
  have lt_F_units_a := own_ltN F_units_a.lt
  have lt_F_emissaries_a := own_ltN F_emissaries_a.lt
  have lt_F_campaigns_a := own_ltN F_campaigns_a.lt
  have lt_F_markers_a := own_ltN F_markers_a.lt
  have lt_F_unusedBidTokens_a := own_ltN F_unusedBidTokens_a.lt
  have lt_F_artifacts_a := own_ltN F_artifacts_a.lt
  have lt_F_kingdom_a := own_ltN F_kingdom_a.lt
  have lt_F_crom_a := own_ltN F_crom_a.lt
  have lt_F_gold_a := own_ltN F_gold_a.lt
  have lt_F_sorcery_a := own_ltN F_sorcery_a.lt
  have lt_F_empirePoints_a := own_ltN F_empirePoints_a.lt
  refine own_in (ef_9 m a k) ?_
  refine own_go (T' := s₁) (g' := (mkF m 1 #[.val (.ref a), .val (.ref k)] [(.ref a)])) (fun t_ k_ => XS.aloadN X0.here hx rfl (hb hby d_prog_16_1_0) rfl rfl k_) ?_
  obtain ⟨T1, X1, e1, st1⟩ := initO X0 hx hZ hown (hw _ (List.mem_of_getElem? (i := 13) rfl)) (hw _ (List.mem_of_getElem? (i := 14) rfl)) (hw _ (List.mem_of_getElem? (i := 15) rfl)) e0 (g := (mkF m 1 #[.val (.ref a), .val (.ref k)] [(.ref a)])) rfl (by rw [hml]; rfl) rfl (hb hby d_prog_16_1_1) (by decide) (W := 0) (by show 2 * 0 + _ ≤ _; exact Nat.le_of_eq rfl) (by decide)
  refine own_go (T' := T1) (g' := (mkF m 4 #[.val (.ref a), .val (.ref k)] [])) (fun t_ k_ => st1 _ k_) ?_
  refine own_go (T' := T1) (g' := (mkF m 5 #[.val (.ref a), .val (.ref k)] [(.ref a)])) (fun t_ k_ => XS.aloadN X1.here hx rfl (hb hby d_prog_16_1_4) rfl rfl k_) ?_
  obtain ⟨T2, h2, X2, e2, E2, A2, D2, -, st2⟩ := newO X1 hx hZ hown (hw _ (List.mem_of_getElem? (i := 16) rfl)) (hw _ (List.mem_of_getElem? (i := 17) rfl)) (hw _ (List.mem_of_getElem? (i := 18) rfl)) e1 (g := (mkF m 5 #[.val (.ref a), .val (.ref k)] [(.ref a)])) rfl (hb hby d_prog_16_1_5) (by decide) (by decide)
  obtain ⟨b2, g2⟩ : ∃ z, z = h0.size := ⟨_, rfl⟩
  rw [← g2] at A2 D2 st2
  have l2 := own_ltN A2.lt
  have z2 := E2.1
  have O2 := O0.ext E2
  have K2 := (Keep.refl h0 [a]).ext E2
  have F2_modCount : Fld Z h2 b2 "java/util/AbstractList" "modCount" "I" (.int (0 : Int32)) := D2 (Or.inl (hw _ (List.mem_of_getElem? (i := 36) rfl))) (ty := .int) (by decide)
  have F2_elementData : Fld Z h2 b2 "java/util/ArrayList" "elementData" "[Ljava/lang/Object;" .null := D2 (Or.inl (hw _ (List.mem_of_getElem? (i := 39) rfl))) (ty := (.array (.object "java/lang/Object"))) (by decide)
  refine own_go (T' := T2) (g' := (mkF m 8 #[.val (.ref a), .val (.ref k)] [(.ref b2), (.ref a)])) (fun t_ k_ => st2 _ k_) ?_
  refine own_go (T' := T2) (g' := (mkF m 9 #[.val (.ref a), .val (.ref k)] [(.ref b2), (.ref b2), (.ref a)])) (fun t_ k_ => XS.dup X2.here hx rfl (hb hby d_prog_16_1_8) rfl rfl k_) ?_
  obtain ⟨_, _, ⟨T3, L3, k3, n3⟩, -, X3, ⟨Lc3, hQ3, l3, y3, z3⟩, st3⟩ := X2.specialBack hx (y := (⟨"java/util/ArrayList", "<init>", "()V"⟩ : MethodName)) rfl hown (mvT hZ (hw _ (List.mem_of_getElem? (i := 19) rfl))) (mvT hZ (hw _ (List.mem_of_getElem? (i := 20) rfl))) (mvT hZ (hw _ (List.mem_of_getElem? (i := 21) rfl))) (by decide) (backOf (W := 2) (rm_al l Z a0 hw [] b2 (0 : Int32) w h2 n0 (show n0 ≤ h2.size by omega) A2 F2_modCount F2_elementData (show n0 ≤ b2 by omega) O2 S_DEFAULTCAPACITY_EMPTY_ELEMENTDATA) hZ (hw _ (List.mem_of_getElem? (i := 21) rfl)) (hw _ (List.mem_of_getElem? (i := 18) rfl)) (by decide) (by decide)) (g := (mkF m 9 #[.val (.ref a), .val (.ref k)] [(.ref b2), (.ref b2), (.ref a)])) rfl (by rw [hml]; rfl) (Steps.refl _) (a := b2) (argsL := []) (rest := [(.ref b2), (.ref a)]) (lenOf pd_0 rfl) rfl (by show 2 * 0 + _ ≤ _; exact Nat.le_of_eq rfl) (hb hby d_prog_16_1_9) (fun _ _ => ⟨rfl, e2, (by decide : 1 + 0 ≤ _), (by decide : 3 + 0 ≤ _)⟩)
  dsimp only [Pt.U, Pt.locs, Pt.cells, Pt.slots] at X3 l3 y3 z3 st3 hQ3
  subst l3 y3 z3
  obtain ⟨rfl, M3, K3_⟩ := hQ3
  have zz3 := K3_.1
  have O3 := O2.keep K3_ (allS (show n0 ≤ b2 by omega) all0)
  have K3 := K2.trans K3_ (allS (Or.inr (show h0.size ≤ b2 by omega)) all0)
  have N3 := Fr.app N0 M3
  refine own_go (T' := T3) (g' := (mkF m 12 #[.val (.ref a), .val (.ref k)] [(.ref b2), (.ref a)])) (fun t_ k_ => st3.trans k_) ?_
  have ff5 := ((F_hand_a.ext E2).keep K3_ (ninS (own_ne (by omega)) nin0))
  have ff6 := ((E_a.ext E2).keep K3_)
  obtain ⟨T4, h4, X4, e4, W4, st4⟩ := putF X3 hx hZ hown (host := "") (Or.inl (hw _ (List.mem_of_getElem? (i := 40) rfl))) Via.refl rfl ff5 ff6 (Or.inr ⟨(hw _ (List.mem_of_getElem? (i := 41) rfl)), rfl, hnm⟩) (hw _ (List.mem_of_getElem? (i := 8) rfl)) (ty := (.object "java/util/List")) (by decide) rfl rfl (g := (mkF m 12 #[.val (.ref a), .val (.ref k)] [(.ref b2), (.ref a)])) rfl rfl (hb hby d_prog_16_1_12)
  have F4 := ff5.same W4
  have z4 := W4.size
  have N4 := Fr.snoc X4 N3 (show n0 ≤ a by omega)
  have O4 := O3.wr W4 (show n0 ≤ a by omega)
  have K4 := K3.wr W4 (Or.inl (List.mem_of_getElem? (i := 0) rfl))
  refine own_go (T' := T4) (g' := (mkF m 15 #[.val (.ref a), .val (.ref k)] [])) (fun t_ k_ => st4 _ k_) ?_
  refine own_go (T' := T4) (g' := (mkF m 16 #[.val (.ref a), .val (.ref k)] [(.ref a)])) (fun t_ k_ => XS.aloadN X4.here hx rfl (hb hby d_prog_16_1_15) rfl rfl k_) ?_
  obtain ⟨T7, h7, X7, e7, E7, A7, D7, -, st7⟩ := newO X4 hx hZ hown (hw _ (List.mem_of_getElem? (i := 16) rfl)) (hw _ (List.mem_of_getElem? (i := 17) rfl)) (hw _ (List.mem_of_getElem? (i := 18) rfl)) e4 (g := (mkF m 16 #[.val (.ref a), .val (.ref k)] [(.ref a)])) rfl (hb hby d_prog_16_1_16) (by decide) (by decide)
  obtain ⟨b7, g7⟩ : ∃ z, z = h4.size := ⟨_, rfl⟩
  rw [← g7] at A7 D7 st7
  have l7 := own_ltN A7.lt
  have z7 := E7.1
  have O7 := O4.ext E7
  have K7 := K4.ext E7
  have F7_modCount : Fld Z h7 b7 "java/util/AbstractList" "modCount" "I" (.int (0 : Int32)) := D7 (Or.inl (hw _ (List.mem_of_getElem? (i := 36) rfl))) (ty := .int) (by decide)
  have F7_elementData : Fld Z h7 b7 "java/util/ArrayList" "elementData" "[Ljava/lang/Object;" .null := D7 (Or.inl (hw _ (List.mem_of_getElem? (i := 39) rfl))) (ty := (.array (.object "java/lang/Object"))) (by decide)
  refine own_go (T' := T7) (g' := (mkF m 19 #[.val (.ref a), .val (.ref k)] [(.ref b7), (.ref a)])) (fun t_ k_ => st7 _ k_) ?_
  refine own_go (T' := T7) (g' := (mkF m 20 #[.val (.ref a), .val (.ref k)] [(.ref b7), (.ref b7), (.ref a)])) (fun t_ k_ => XS.dup X7.here hx rfl (hb hby d_prog_16_1_19) rfl rfl k_) ?_
  obtain ⟨_, _, ⟨T8, L8, k8, n8⟩, -, X8, ⟨Lc8, hQ8, l8, y8, z8⟩, st8⟩ := X7.specialBack hx (y := (⟨"java/util/ArrayList", "<init>", "()V"⟩ : MethodName)) rfl hown (mvT hZ (hw _ (List.mem_of_getElem? (i := 19) rfl))) (mvT hZ (hw _ (List.mem_of_getElem? (i := 20) rfl))) (mvT hZ (hw _ (List.mem_of_getElem? (i := 21) rfl))) (by decide) (backOf (W := 2) (rm_al l Z a0 hw [] b7 (0 : Int32) w h7 n0 (show n0 ≤ h7.size by omega) A7 F7_modCount F7_elementData (show n0 ≤ b7 by omega) O7 S_DEFAULTCAPACITY_EMPTY_ELEMENTDATA) hZ (hw _ (List.mem_of_getElem? (i := 21) rfl)) (hw _ (List.mem_of_getElem? (i := 18) rfl)) (by decide) (by decide)) (g := (mkF m 20 #[.val (.ref a), .val (.ref k)] [(.ref b7), (.ref b7), (.ref a)])) rfl (by rw [hml]; rfl) (Steps.refl _) (a := b7) (argsL := []) (rest := [(.ref b7), (.ref a)]) (lenOf pd_0 rfl) rfl (by show 2 * 0 + _ ≤ _; exact Nat.le_of_eq rfl) (hb hby d_prog_16_1_20) (fun _ _ => ⟨rfl, e7, (by decide : 2 + 0 ≤ _), (by decide : 6 + 0 ≤ _)⟩)
  dsimp only [Pt.U, Pt.locs, Pt.cells, Pt.slots] at X8 l8 y8 z8 st8 hQ8
  subst l8 y8 z8
  obtain ⟨rfl, M8, K8_⟩ := hQ8
  have zz8 := K8_.1
  have O8 := O7.keep K8_ (allS (show n0 ≤ b7 by omega) all0)
  have K8 := K7.trans K8_ (allS (Or.inr (show h0.size ≤ b7 by omega)) all0)
  have N8 := Fr.app N4 M8
  refine own_go (T' := T8) (g' := (mkF m 23 #[.val (.ref a), .val (.ref k)] [(.ref b7), (.ref a)])) (fun t_ k_ => st8.trans k_) ?_
  have ff10 := (((((F_tokens_a.ext E2).keep K3_ (ninS (own_ne (by omega)) nin0)).other W4 (Or.inr (slot_ne (Or.inr (hw _ (List.mem_of_getElem? (i := 43) rfl))) (Or.inr (hw _ (List.mem_of_getElem? (i := 41) rfl))) (by decide) (t := (.object "java/util/List")) (t' := (.object "java/util/List")) (by decide) (by decide)))).ext E7).keep K8_ (ninS (own_ne (by omega)) nin0))
  have ff11 := (((ff6.wr W4).ext E7).keep K8_)
  obtain ⟨T9, h9, X9, e9, W9, st9⟩ := putF X8 hx hZ hown (host := "") (Or.inl (hw _ (List.mem_of_getElem? (i := 42) rfl))) Via.refl rfl ff10 ff11 (Or.inr ⟨(hw _ (List.mem_of_getElem? (i := 43) rfl)), rfl, hnm⟩) (hw _ (List.mem_of_getElem? (i := 8) rfl)) (ty := (.object "java/util/List")) (by decide) rfl rfl (g := (mkF m 23 #[.val (.ref a), .val (.ref k)] [(.ref b7), (.ref a)])) rfl rfl (hb hby d_prog_16_1_23)
  have F9 := ff10.same W9
  have z9 := W9.size
  have N9 := Fr.snoc X9 N8 (show n0 ≤ a by omega)
  have O9 := O8.wr W9 (show n0 ≤ a by omega)
  have K9 := K8.wr W9 (Or.inl (List.mem_of_getElem? (i := 0) rfl))
  refine own_go (T' := T9) (g' := (mkF m 26 #[.val (.ref a), .val (.ref k)] [])) (fun t_ k_ => st9 _ k_) ?_
  refine own_go (T' := T9) (g' := (mkF m 27 #[.val (.ref a), .val (.ref k)] [(.ref a)])) (fun t_ k_ => XS.aloadN X9.here hx rfl (hb hby d_prog_16_1_26) rfl rfl k_) ?_
  obtain ⟨T12, h12, X12, e12, E12, A12, D12, -, st12⟩ := newO X9 hx hZ hown (hw _ (List.mem_of_getElem? (i := 44) rfl)) (hw _ (List.mem_of_getElem? (i := 45) rfl)) (hw _ (List.mem_of_getElem? (i := 46) rfl)) e9 (g := (mkF m 27 #[.val (.ref a), .val (.ref k)] [(.ref a)])) rfl (hb hby d_prog_16_1_27) (by decide) (by decide)
  obtain ⟨b12, g12⟩ : ∃ z, z = h9.size := ⟨_, rfl⟩
  rw [← g12] at A12 D12 st12
  have l12 := own_ltN A12.lt
  have z12 := E12.1
  have O12 := O9.ext E12
  have K12 := K9.ext E12
  have F12_size : Fld Z h12 b12 "java/util/TreeMap" "size" "I" (.int (0 : Int32)) := D12 (Or.inl (hw _ (List.mem_of_getElem? (i := 58) rfl))) (ty := .int) (by decide)
  have F12_modCount : Fld Z h12 b12 "java/util/TreeMap" "modCount" "I" (.int (0 : Int32)) := D12 (Or.inl (hw _ (List.mem_of_getElem? (i := 60) rfl))) (ty := .int) (by decide)
  have F12_comparator : Fld Z h12 b12 "java/util/TreeMap" "comparator" "Ljava/util/Comparator;" .null := D12 (Or.inr (hw _ (List.mem_of_getElem? (i := 62) rfl))) (ty := (.object "java/util/Comparator")) (by decide)
  refine own_go (T' := T12) (g' := (mkF m 30 #[.val (.ref a), .val (.ref k)] [(.ref b12), (.ref a)])) (fun t_ k_ => st12 _ k_) ?_
  refine own_go (T' := T12) (g' := (mkF m 31 #[.val (.ref a), .val (.ref k)] [(.ref b12), (.ref b12), (.ref a)])) (fun t_ k_ => XS.dup X12.here hx rfl (hb hby d_prog_16_1_30) rfl rfl k_) ?_
  obtain ⟨_, _, ⟨T13, L13, k13, n13⟩, -, X13, ⟨Lc13, hQ13, l13, y13, z13⟩, st13⟩ := X12.specialBack hx (y := (⟨"java/util/TreeMap", "<init>", "()V"⟩ : MethodName)) rfl hown (mvT hZ (hw _ (List.mem_of_getElem? (i := 47) rfl))) (mvT hZ (hw _ (List.mem_of_getElem? (i := 48) rfl))) (mvT hZ (hw _ (List.mem_of_getElem? (i := 49) rfl))) (by decide) (backOf (W := 2) (rm_tm l Z a0 hw [] b12 (0 : Int32) (0 : Int32) h12 n0 (show n0 ≤ h12.size by omega) A12 F12_size F12_modCount F12_comparator (show n0 ≤ b12 by omega)) hZ (hw _ (List.mem_of_getElem? (i := 49) rfl)) (hw _ (List.mem_of_getElem? (i := 46) rfl)) (by decide) (by decide)) (g := (mkF m 31 #[.val (.ref a), .val (.ref k)] [(.ref b12), (.ref b12), (.ref a)])) rfl (by rw [hml]; rfl) (Steps.refl _) (a := b12) (argsL := []) (rest := [(.ref b12), (.ref a)]) (lenOf pd_0 rfl) rfl (by show 2 * 0 + _ ≤ _; exact Nat.le_of_eq rfl) (hb hby d_prog_16_1_31) (fun _ _ => ⟨rfl, e12, (by decide : 3 + 0 ≤ _), (by decide : 15 + 0 ≤ _)⟩)
  dsimp only [Pt.U, Pt.locs, Pt.cells, Pt.slots] at X13 l13 y13 z13 st13 hQ13
  subst l13 y13 z13
  obtain ⟨rfl, M13, K13_⟩ := hQ13
  have zz13 := K13_.1
  have O13 := O12.keep K13_ (allS (show n0 ≤ b12 by omega) all0)
  have K13 := K12.trans K13_ (allS (Or.inr (show h0.size ≤ b12 by omega)) all0)
  have N13 := Fr.app N9 M13
  refine own_go (T' := T13) (g' := (mkF m 34 #[.val (.ref a), .val (.ref k)] [(.ref b12), (.ref a)])) (fun t_ k_ => st13.trans k_) ?_
  have ff15 := ((((((((F_units_a.ext E2).keep K3_ (ninS (own_ne (by omega)) nin0)).other W4 (Or.inr (slot_ne (Or.inr (hw _ (List.mem_of_getElem? (i := 64) rfl))) (Or.inr (hw _ (List.mem_of_getElem? (i := 41) rfl))) (by decide) (t := (.object "java/util/SortedMap")) (t' := (.object "java/util/List")) (by decide) (by decide)))).ext E7).keep K8_ (ninS (own_ne (by omega)) nin0)).other W9 (Or.inr (slot_ne (Or.inr (hw _ (List.mem_of_getElem? (i := 64) rfl))) (Or.inr (hw _ (List.mem_of_getElem? (i := 43) rfl))) (by decide) (t := (.object "java/util/SortedMap")) (t' := (.object "java/util/List")) (by decide) (by decide)))).ext E12).keep K13_ (ninS (own_ne (by omega)) nin0))
  have ff16 := (((ff11.wr W9).ext E12).keep K13_)
  obtain ⟨T14, h14, X14, e14, W14, st14⟩ := putF X13 hx hZ hown (host := "") (Or.inl (hw _ (List.mem_of_getElem? (i := 63) rfl))) Via.refl rfl ff15 ff16 (Or.inr ⟨(hw _ (List.mem_of_getElem? (i := 64) rfl)), rfl, hnm⟩) (hw _ (List.mem_of_getElem? (i := 8) rfl)) (ty := (.object "java/util/SortedMap")) (by decide) rfl rfl (g := (mkF m 34 #[.val (.ref a), .val (.ref k)] [(.ref b12), (.ref a)])) rfl rfl (hb hby d_prog_16_1_34)
  have F14 := ff15.same W14
  have z14 := W14.size
  have N14 := Fr.snoc X14 N13 (show n0 ≤ a by omega)
  have O14 := O13.wr W14 (show n0 ≤ a by omega)
  have K14 := K13.wr W14 (Or.inl (List.mem_of_getElem? (i := 0) rfl))
  refine own_go (T' := T14) (g' := (mkF m 37 #[.val (.ref a), .val (.ref k)] [])) (fun t_ k_ => st14 _ k_) ?_
  refine own_go (T' := T14) (g' := (mkF m 38 #[.val (.ref a), .val (.ref k)] [(.ref a)])) (fun t_ k_ => XS.aloadN X14.here hx rfl (hb hby d_prog_16_1_37) rfl rfl k_) ?_
  obtain ⟨T17, h17, X17, e17, E17, A17, D17, -, st17⟩ := newO X14 hx hZ hown (hw _ (List.mem_of_getElem? (i := 44) rfl)) (hw _ (List.mem_of_getElem? (i := 45) rfl)) (hw _ (List.mem_of_getElem? (i := 46) rfl)) e14 (g := (mkF m 38 #[.val (.ref a), .val (.ref k)] [(.ref a)])) rfl (hb hby d_prog_16_1_38) (by decide) (by decide)
  obtain ⟨b17, g17⟩ : ∃ z, z = h14.size := ⟨_, rfl⟩
  rw [← g17] at A17 D17 st17
  have l17 := own_ltN A17.lt
  have z17 := E17.1
  have O17 := O14.ext E17
  have K17 := K14.ext E17
  have F17_size : Fld Z h17 b17 "java/util/TreeMap" "size" "I" (.int (0 : Int32)) := D17 (Or.inl (hw _ (List.mem_of_getElem? (i := 58) rfl))) (ty := .int) (by decide)
  have F17_modCount : Fld Z h17 b17 "java/util/TreeMap" "modCount" "I" (.int (0 : Int32)) := D17 (Or.inl (hw _ (List.mem_of_getElem? (i := 60) rfl))) (ty := .int) (by decide)
  have F17_comparator : Fld Z h17 b17 "java/util/TreeMap" "comparator" "Ljava/util/Comparator;" .null := D17 (Or.inr (hw _ (List.mem_of_getElem? (i := 62) rfl))) (ty := (.object "java/util/Comparator")) (by decide)
  refine own_go (T' := T17) (g' := (mkF m 41 #[.val (.ref a), .val (.ref k)] [(.ref b17), (.ref a)])) (fun t_ k_ => st17 _ k_) ?_
  refine own_go (T' := T17) (g' := (mkF m 42 #[.val (.ref a), .val (.ref k)] [(.ref b17), (.ref b17), (.ref a)])) (fun t_ k_ => XS.dup X17.here hx rfl (hb hby d_prog_16_1_41) rfl rfl k_) ?_
  obtain ⟨_, _, ⟨T18, L18, k18, n18⟩, -, X18, ⟨Lc18, hQ18, l18, y18, z18⟩, st18⟩ := X17.specialBack hx (y := (⟨"java/util/TreeMap", "<init>", "()V"⟩ : MethodName)) rfl hown (mvT hZ (hw _ (List.mem_of_getElem? (i := 47) rfl))) (mvT hZ (hw _ (List.mem_of_getElem? (i := 48) rfl))) (mvT hZ (hw _ (List.mem_of_getElem? (i := 49) rfl))) (by decide) (backOf (W := 2) (rm_tm l Z a0 hw [] b17 (0 : Int32) (0 : Int32) h17 n0 (show n0 ≤ h17.size by omega) A17 F17_size F17_modCount F17_comparator (show n0 ≤ b17 by omega)) hZ (hw _ (List.mem_of_getElem? (i := 49) rfl)) (hw _ (List.mem_of_getElem? (i := 46) rfl)) (by decide) (by decide)) (g := (mkF m 42 #[.val (.ref a), .val (.ref k)] [(.ref b17), (.ref b17), (.ref a)])) rfl (by rw [hml]; rfl) (Steps.refl _) (a := b17) (argsL := []) (rest := [(.ref b17), (.ref a)]) (lenOf pd_0 rfl) rfl (by show 2 * 0 + _ ≤ _; exact Nat.le_of_eq rfl) (hb hby d_prog_16_1_42) (fun _ _ => ⟨rfl, e17, (by decide : 4 + 0 ≤ _), (by decide : 24 + 0 ≤ _)⟩)
  dsimp only [Pt.U, Pt.locs, Pt.cells, Pt.slots] at X18 l18 y18 z18 st18 hQ18
  subst l18 y18 z18
  obtain ⟨rfl, M18, K18_⟩ := hQ18
  have zz18 := K18_.1
  have O18 := O17.keep K18_ (allS (show n0 ≤ b17 by omega) all0)
  have K18 := K17.trans K18_ (allS (Or.inr (show h0.size ≤ b17 by omega)) all0)
  have N18 := Fr.app N14 M18
  refine own_go (T' := T18) (g' := (mkF m 45 #[.val (.ref a), .val (.ref k)] [(.ref b17), (.ref a)])) (fun t_ k_ => st18.trans k_) ?_
  have ff20 := (((((((((((F_emissaries_a.ext E2).keep K3_ (ninS (own_ne (by omega)) nin0)).other W4 (Or.inr (slot_ne (Or.inr (hw _ (List.mem_of_getElem? (i := 66) rfl))) (Or.inr (hw _ (List.mem_of_getElem? (i := 41) rfl))) (by decide) (t := (.object "java/util/SortedMap")) (t' := (.object "java/util/List")) (by decide) (by decide)))).ext E7).keep K8_ (ninS (own_ne (by omega)) nin0)).other W9 (Or.inr (slot_ne (Or.inr (hw _ (List.mem_of_getElem? (i := 66) rfl))) (Or.inr (hw _ (List.mem_of_getElem? (i := 43) rfl))) (by decide) (t := (.object "java/util/SortedMap")) (t' := (.object "java/util/List")) (by decide) (by decide)))).ext E12).keep K13_ (ninS (own_ne (by omega)) nin0)).other W14 (Or.inr (slot_ne (Or.inr (hw _ (List.mem_of_getElem? (i := 66) rfl))) (Or.inr (hw _ (List.mem_of_getElem? (i := 64) rfl))) (by decide) (t := (.object "java/util/SortedMap")) (t' := (.object "java/util/SortedMap")) (by decide) (by decide)))).ext E17).keep K18_ (ninS (own_ne (by omega)) nin0))
  have ff21 := (((ff16.wr W14).ext E17).keep K18_)
  obtain ⟨T19, h19, X19, e19, W19, st19⟩ := putF X18 hx hZ hown (host := "") (Or.inl (hw _ (List.mem_of_getElem? (i := 65) rfl))) Via.refl rfl ff20 ff21 (Or.inr ⟨(hw _ (List.mem_of_getElem? (i := 66) rfl)), rfl, hnm⟩) (hw _ (List.mem_of_getElem? (i := 8) rfl)) (ty := (.object "java/util/SortedMap")) (by decide) rfl rfl (g := (mkF m 45 #[.val (.ref a), .val (.ref k)] [(.ref b17), (.ref a)])) rfl rfl (hb hby d_prog_16_1_45)
  have F19 := ff20.same W19
  have z19 := W19.size
  have N19 := Fr.snoc X19 N18 (show n0 ≤ a by omega)
  have O19 := O18.wr W19 (show n0 ≤ a by omega)
  have K19 := K18.wr W19 (Or.inl (List.mem_of_getElem? (i := 0) rfl))
  refine own_go (T' := T19) (g' := (mkF m 48 #[.val (.ref a), .val (.ref k)] [])) (fun t_ k_ => st19 _ k_) ?_
  refine own_go (T' := T19) (g' := (mkF m 49 #[.val (.ref a), .val (.ref k)] [(.ref a)])) (fun t_ k_ => XS.aloadN X19.here hx rfl (hb hby d_prog_16_1_48) rfl rfl k_) ?_
  obtain ⟨T22, h22, X22, e22, E22, A22, D22, -, st22⟩ := newO X19 hx hZ hown (hw _ (List.mem_of_getElem? (i := 44) rfl)) (hw _ (List.mem_of_getElem? (i := 45) rfl)) (hw _ (List.mem_of_getElem? (i := 46) rfl)) e19 (g := (mkF m 49 #[.val (.ref a), .val (.ref k)] [(.ref a)])) rfl (hb hby d_prog_16_1_49) (by decide) (by decide)
  obtain ⟨b22, g22⟩ : ∃ z, z = h19.size := ⟨_, rfl⟩
  rw [← g22] at A22 D22 st22
  have l22 := own_ltN A22.lt
  have z22 := E22.1
  have O22 := O19.ext E22
  have K22 := K19.ext E22
  have F22_size : Fld Z h22 b22 "java/util/TreeMap" "size" "I" (.int (0 : Int32)) := D22 (Or.inl (hw _ (List.mem_of_getElem? (i := 58) rfl))) (ty := .int) (by decide)
  have F22_modCount : Fld Z h22 b22 "java/util/TreeMap" "modCount" "I" (.int (0 : Int32)) := D22 (Or.inl (hw _ (List.mem_of_getElem? (i := 60) rfl))) (ty := .int) (by decide)
  have F22_comparator : Fld Z h22 b22 "java/util/TreeMap" "comparator" "Ljava/util/Comparator;" .null := D22 (Or.inr (hw _ (List.mem_of_getElem? (i := 62) rfl))) (ty := (.object "java/util/Comparator")) (by decide)
  refine own_go (T' := T22) (g' := (mkF m 52 #[.val (.ref a), .val (.ref k)] [(.ref b22), (.ref a)])) (fun t_ k_ => st22 _ k_) ?_
  refine own_go (T' := T22) (g' := (mkF m 53 #[.val (.ref a), .val (.ref k)] [(.ref b22), (.ref b22), (.ref a)])) (fun t_ k_ => XS.dup X22.here hx rfl (hb hby d_prog_16_1_52) rfl rfl k_) ?_
  obtain ⟨_, _, ⟨T23, L23, k23, n23⟩, -, X23, ⟨Lc23, hQ23, l23, y23, z23⟩, st23⟩ := X22.specialBack hx (y := (⟨"java/util/TreeMap", "<init>", "()V"⟩ : MethodName)) rfl hown (mvT hZ (hw _ (List.mem_of_getElem? (i := 47) rfl))) (mvT hZ (hw _ (List.mem_of_getElem? (i := 48) rfl))) (mvT hZ (hw _ (List.mem_of_getElem? (i := 49) rfl))) (by decide) (backOf (W := 2) (rm_tm l Z a0 hw [] b22 (0 : Int32) (0 : Int32) h22 n0 (show n0 ≤ h22.size by omega) A22 F22_size F22_modCount F22_comparator (show n0 ≤ b22 by omega)) hZ (hw _ (List.mem_of_getElem? (i := 49) rfl)) (hw _ (List.mem_of_getElem? (i := 46) rfl)) (by decide) (by decide)) (g := (mkF m 53 #[.val (.ref a), .val (.ref k)] [(.ref b22), (.ref b22), (.ref a)])) rfl (by rw [hml]; rfl) (Steps.refl _) (a := b22) (argsL := []) (rest := [(.ref b22), (.ref a)]) (lenOf pd_0 rfl) rfl (by show 2 * 0 + _ ≤ _; exact Nat.le_of_eq rfl) (hb hby d_prog_16_1_53) (fun _ _ => ⟨rfl, e22, (by decide : 5 + 0 ≤ _), (by decide : 33 + 0 ≤ _)⟩)
  dsimp only [Pt.U, Pt.locs, Pt.cells, Pt.slots] at X23 l23 y23 z23 st23 hQ23
  subst l23 y23 z23
  obtain ⟨rfl, M23, K23_⟩ := hQ23
  have zz23 := K23_.1
  have O23 := O22.keep K23_ (allS (show n0 ≤ b22 by omega) all0)
  have K23 := K22.trans K23_ (allS (Or.inr (show h0.size ≤ b22 by omega)) all0)
  have N23 := Fr.app N19 M23
  refine own_go (T' := T23) (g' := (mkF m 56 #[.val (.ref a), .val (.ref k)] [(.ref b22), (.ref a)])) (fun t_ k_ => st23.trans k_) ?_
  have ff25 := ((((((((((((((F_campaigns_a.ext E2).keep K3_ (ninS (own_ne (by omega)) nin0)).other W4 (Or.inr (slot_ne (Or.inr (hw _ (List.mem_of_getElem? (i := 68) rfl))) (Or.inr (hw _ (List.mem_of_getElem? (i := 41) rfl))) (by decide) (t := (.object "java/util/SortedMap")) (t' := (.object "java/util/List")) (by decide) (by decide)))).ext E7).keep K8_ (ninS (own_ne (by omega)) nin0)).other W9 (Or.inr (slot_ne (Or.inr (hw _ (List.mem_of_getElem? (i := 68) rfl))) (Or.inr (hw _ (List.mem_of_getElem? (i := 43) rfl))) (by decide) (t := (.object "java/util/SortedMap")) (t' := (.object "java/util/List")) (by decide) (by decide)))).ext E12).keep K13_ (ninS (own_ne (by omega)) nin0)).other W14 (Or.inr (slot_ne (Or.inr (hw _ (List.mem_of_getElem? (i := 68) rfl))) (Or.inr (hw _ (List.mem_of_getElem? (i := 64) rfl))) (by decide) (t := (.object "java/util/SortedMap")) (t' := (.object "java/util/SortedMap")) (by decide) (by decide)))).ext E17).keep K18_ (ninS (own_ne (by omega)) nin0)).other W19 (Or.inr (slot_ne (Or.inr (hw _ (List.mem_of_getElem? (i := 68) rfl))) (Or.inr (hw _ (List.mem_of_getElem? (i := 66) rfl))) (by decide) (t := (.object "java/util/SortedMap")) (t' := (.object "java/util/SortedMap")) (by decide) (by decide)))).ext E22).keep K23_ (ninS (own_ne (by omega)) nin0))
  have ff26 := (((ff21.wr W19).ext E22).keep K23_)
  obtain ⟨T24, h24, X24, e24, W24, st24⟩ := putF X23 hx hZ hown (host := "") (Or.inl (hw _ (List.mem_of_getElem? (i := 67) rfl))) Via.refl rfl ff25 ff26 (Or.inr ⟨(hw _ (List.mem_of_getElem? (i := 68) rfl)), rfl, hnm⟩) (hw _ (List.mem_of_getElem? (i := 8) rfl)) (ty := (.object "java/util/SortedMap")) (by decide) rfl rfl (g := (mkF m 56 #[.val (.ref a), .val (.ref k)] [(.ref b22), (.ref a)])) rfl rfl (hb hby d_prog_16_1_56)
  have F24 := ff25.same W24
  have z24 := W24.size
  have N24 := Fr.snoc X24 N23 (show n0 ≤ a by omega)
  have O24 := O23.wr W24 (show n0 ≤ a by omega)
  have K24 := K23.wr W24 (Or.inl (List.mem_of_getElem? (i := 0) rfl))
  refine own_go (T' := T24) (g' := (mkF m 59 #[.val (.ref a), .val (.ref k)] [])) (fun t_ k_ => st24 _ k_) ?_
  refine own_go (T' := T24) (g' := (mkF m 60 #[.val (.ref a), .val (.ref k)] [(.ref a)])) (fun t_ k_ => XS.aloadN X24.here hx rfl (hb hby d_prog_16_1_59) rfl rfl k_) ?_
  obtain ⟨T27, h27, X27, e27, E27, A27, D27, -, st27⟩ := newO X24 hx hZ hown (hw _ (List.mem_of_getElem? (i := 44) rfl)) (hw _ (List.mem_of_getElem? (i := 45) rfl)) (hw _ (List.mem_of_getElem? (i := 46) rfl)) e24 (g := (mkF m 60 #[.val (.ref a), .val (.ref k)] [(.ref a)])) rfl (hb hby d_prog_16_1_60) (by decide) (by decide)
  obtain ⟨b27, g27⟩ : ∃ z, z = h24.size := ⟨_, rfl⟩
  rw [← g27] at A27 D27 st27
  have l27 := own_ltN A27.lt
  have z27 := E27.1
  have O27 := O24.ext E27
  have K27 := K24.ext E27
  have F27_size : Fld Z h27 b27 "java/util/TreeMap" "size" "I" (.int (0 : Int32)) := D27 (Or.inl (hw _ (List.mem_of_getElem? (i := 58) rfl))) (ty := .int) (by decide)
  have F27_modCount : Fld Z h27 b27 "java/util/TreeMap" "modCount" "I" (.int (0 : Int32)) := D27 (Or.inl (hw _ (List.mem_of_getElem? (i := 60) rfl))) (ty := .int) (by decide)
  have F27_comparator : Fld Z h27 b27 "java/util/TreeMap" "comparator" "Ljava/util/Comparator;" .null := D27 (Or.inr (hw _ (List.mem_of_getElem? (i := 62) rfl))) (ty := (.object "java/util/Comparator")) (by decide)
  refine own_go (T' := T27) (g' := (mkF m 63 #[.val (.ref a), .val (.ref k)] [(.ref b27), (.ref a)])) (fun t_ k_ => st27 _ k_) ?_
  refine own_go (T' := T27) (g' := (mkF m 64 #[.val (.ref a), .val (.ref k)] [(.ref b27), (.ref b27), (.ref a)])) (fun t_ k_ => XS.dup X27.here hx rfl (hb hby d_prog_16_1_63) rfl rfl k_) ?_
  obtain ⟨_, _, ⟨T28, L28, k28, n28⟩, -, X28, ⟨Lc28, hQ28, l28, y28, z28⟩, st28⟩ := X27.specialBack hx (y := (⟨"java/util/TreeMap", "<init>", "()V"⟩ : MethodName)) rfl hown (mvT hZ (hw _ (List.mem_of_getElem? (i := 47) rfl))) (mvT hZ (hw _ (List.mem_of_getElem? (i := 48) rfl))) (mvT hZ (hw _ (List.mem_of_getElem? (i := 49) rfl))) (by decide) (backOf (W := 2) (rm_tm l Z a0 hw [] b27 (0 : Int32) (0 : Int32) h27 n0 (show n0 ≤ h27.size by omega) A27 F27_size F27_modCount F27_comparator (show n0 ≤ b27 by omega)) hZ (hw _ (List.mem_of_getElem? (i := 49) rfl)) (hw _ (List.mem_of_getElem? (i := 46) rfl)) (by decide) (by decide)) (g := (mkF m 64 #[.val (.ref a), .val (.ref k)] [(.ref b27), (.ref b27), (.ref a)])) rfl (by rw [hml]; rfl) (Steps.refl _) (a := b27) (argsL := []) (rest := [(.ref b27), (.ref a)]) (lenOf pd_0 rfl) rfl (by show 2 * 0 + _ ≤ _; exact Nat.le_of_eq rfl) (hb hby d_prog_16_1_64) (fun _ _ => ⟨rfl, e27, (by decide : 6 + 0 ≤ _), (by decide : 42 + 0 ≤ _)⟩)
  dsimp only [Pt.U, Pt.locs, Pt.cells, Pt.slots] at X28 l28 y28 z28 st28 hQ28
  subst l28 y28 z28
  obtain ⟨rfl, M28, K28_⟩ := hQ28
  have zz28 := K28_.1
  have O28 := O27.keep K28_ (allS (show n0 ≤ b27 by omega) all0)
  have K28 := K27.trans K28_ (allS (Or.inr (show h0.size ≤ b27 by omega)) all0)
  have N28 := Fr.app N24 M28
  refine own_go (T' := T28) (g' := (mkF m 67 #[.val (.ref a), .val (.ref k)] [(.ref b27), (.ref a)])) (fun t_ k_ => st28.trans k_) ?_
  have ff30 := (((((((((((((((((F_markers_a.ext E2).keep K3_ (ninS (own_ne (by omega)) nin0)).other W4 (Or.inr (slot_ne (Or.inr (hw _ (List.mem_of_getElem? (i := 70) rfl))) (Or.inr (hw _ (List.mem_of_getElem? (i := 41) rfl))) (by decide) (t := (.object "java/util/SortedMap")) (t' := (.object "java/util/List")) (by decide) (by decide)))).ext E7).keep K8_ (ninS (own_ne (by omega)) nin0)).other W9 (Or.inr (slot_ne (Or.inr (hw _ (List.mem_of_getElem? (i := 70) rfl))) (Or.inr (hw _ (List.mem_of_getElem? (i := 43) rfl))) (by decide) (t := (.object "java/util/SortedMap")) (t' := (.object "java/util/List")) (by decide) (by decide)))).ext E12).keep K13_ (ninS (own_ne (by omega)) nin0)).other W14 (Or.inr (slot_ne (Or.inr (hw _ (List.mem_of_getElem? (i := 70) rfl))) (Or.inr (hw _ (List.mem_of_getElem? (i := 64) rfl))) (by decide) (t := (.object "java/util/SortedMap")) (t' := (.object "java/util/SortedMap")) (by decide) (by decide)))).ext E17).keep K18_ (ninS (own_ne (by omega)) nin0)).other W19 (Or.inr (slot_ne (Or.inr (hw _ (List.mem_of_getElem? (i := 70) rfl))) (Or.inr (hw _ (List.mem_of_getElem? (i := 66) rfl))) (by decide) (t := (.object "java/util/SortedMap")) (t' := (.object "java/util/SortedMap")) (by decide) (by decide)))).ext E22).keep K23_ (ninS (own_ne (by omega)) nin0)).other W24 (Or.inr (slot_ne (Or.inr (hw _ (List.mem_of_getElem? (i := 70) rfl))) (Or.inr (hw _ (List.mem_of_getElem? (i := 68) rfl))) (by decide) (t := (.object "java/util/SortedMap")) (t' := (.object "java/util/SortedMap")) (by decide) (by decide)))).ext E27).keep K28_ (ninS (own_ne (by omega)) nin0))
  have ff31 := (((ff26.wr W24).ext E27).keep K28_)
  obtain ⟨T29, h29, X29, e29, W29, st29⟩ := putF X28 hx hZ hown (host := "") (Or.inl (hw _ (List.mem_of_getElem? (i := 69) rfl))) Via.refl rfl ff30 ff31 (Or.inr ⟨(hw _ (List.mem_of_getElem? (i := 70) rfl)), rfl, hnm⟩) (hw _ (List.mem_of_getElem? (i := 8) rfl)) (ty := (.object "java/util/SortedMap")) (by decide) rfl rfl (g := (mkF m 67 #[.val (.ref a), .val (.ref k)] [(.ref b27), (.ref a)])) rfl rfl (hb hby d_prog_16_1_67)
  have F29 := ff30.same W29
  have z29 := W29.size
  have N29 := Fr.snoc X29 N28 (show n0 ≤ a by omega)
  have O29 := O28.wr W29 (show n0 ≤ a by omega)
  have K29 := K28.wr W29 (Or.inl (List.mem_of_getElem? (i := 0) rfl))
  refine own_go (T' := T29) (g' := (mkF m 70 #[.val (.ref a), .val (.ref k)] [])) (fun t_ k_ => st29 _ k_) ?_
  refine own_go (T' := T29) (g' := (mkF m 71 #[.val (.ref a), .val (.ref k)] [(.ref a)])) (fun t_ k_ => XS.aloadN X29.here hx rfl (hb hby d_prog_16_1_70) rfl rfl k_) ?_
  obtain ⟨T32, h32, X32, e32, E32, A32, D32, -, st32⟩ := newO X29 hx hZ hown (hw _ (List.mem_of_getElem? (i := 71) rfl)) (hw _ (List.mem_of_getElem? (i := 72) rfl)) (hw _ (List.mem_of_getElem? (i := 73) rfl)) e29 (g := (mkF m 71 #[.val (.ref a), .val (.ref k)] [(.ref a)])) rfl (hb hby d_prog_16_1_71) (by decide) (by decide)
  obtain ⟨b32, g32⟩ : ∃ z, z = h29.size := ⟨_, rfl⟩
  rw [← g32] at A32 D32 st32
  have l32 := own_ltN A32.lt
  have z32 := E32.1
  have O32 := O29.ext E32
  have K32 := K29.ext E32
  have F32_m : Fld Z h32 b32 "java/util/TreeSet" "m" "Ljava/util/NavigableMap;" .null := D32 (Or.inl (hw _ (List.mem_of_getElem? (i := 93) rfl))) (ty := (.object "java/util/NavigableMap")) (by decide)
  refine own_go (T' := T32) (g' := (mkF m 74 #[.val (.ref a), .val (.ref k)] [(.ref b32), (.ref a)])) (fun t_ k_ => st32 _ k_) ?_
  refine own_go (T' := T32) (g' := (mkF m 75 #[.val (.ref a), .val (.ref k)] [(.ref b32), (.ref b32), (.ref a)])) (fun t_ k_ => XS.dup X32.here hx rfl (hb hby d_prog_16_1_74) rfl rfl k_) ?_
  obtain ⟨_, _, ⟨T33, L33, k33, n33⟩, -, X33, ⟨Lc33, hQ33, l33, y33, z33⟩, st33⟩ := X32.specialBack hx (y := (⟨"java/util/TreeSet", "<init>", "()V"⟩ : MethodName)) rfl hown (mvT hZ (hw _ (List.mem_of_getElem? (i := 74) rfl))) (mvT hZ (hw _ (List.mem_of_getElem? (i := 75) rfl))) (mvT hZ (hw _ (List.mem_of_getElem? (i := 76) rfl))) (by decide) (backOf (W := 2) (rm_ts l Z a0 hw [] b32 h32 n0 (show n0 ≤ h32.size by omega) A32 F32_m (show n0 ≤ b32 by omega)) hZ (hw _ (List.mem_of_getElem? (i := 76) rfl)) (hw _ (List.mem_of_getElem? (i := 73) rfl)) (by decide) (by decide)) (g := (mkF m 75 #[.val (.ref a), .val (.ref k)] [(.ref b32), (.ref b32), (.ref a)])) rfl (by rw [hml]; rfl) (Steps.refl _) (a := b32) (argsL := []) (rest := [(.ref b32), (.ref a)]) (lenOf pd_0 rfl) rfl (by show 2 * 0 + _ ≤ _; exact Nat.le_of_eq rfl) (hb hby d_prog_16_1_75) (fun _ _ => ⟨rfl, e32, (by decide : 7 + 1 ≤ _), (by decide : 43 + 9 ≤ _)⟩)
  dsimp only [Pt.U, Pt.locs, Pt.cells, Pt.slots] at X33 l33 y33 z33 st33 hQ33
  subst l33 y33 z33
  obtain ⟨rfl, M33, K33_⟩ := hQ33
  have zz33 := K33_.1
  have O33 := O32.keep K33_ (allS (show n0 ≤ b32 by omega) all0)
  have K33 := K32.trans K33_ (allS (Or.inr (show h0.size ≤ b32 by omega)) all0)
  have N33 := Fr.app N29 M33
  refine own_go (T' := T33) (g' := (mkF m 78 #[.val (.ref a), .val (.ref k)] [(.ref b32), (.ref a)])) (fun t_ k_ => st33.trans k_) ?_
  have ff35 := ((((((((((((((((((((F_unusedBidTokens_a.ext E2).keep K3_ (ninS (own_ne (by omega)) nin0)).other W4 (Or.inr (slot_ne (Or.inr (hw _ (List.mem_of_getElem? (i := 95) rfl))) (Or.inr (hw _ (List.mem_of_getElem? (i := 41) rfl))) (by decide) (t := (.object "java/util/SortedSet")) (t' := (.object "java/util/List")) (by decide) (by decide)))).ext E7).keep K8_ (ninS (own_ne (by omega)) nin0)).other W9 (Or.inr (slot_ne (Or.inr (hw _ (List.mem_of_getElem? (i := 95) rfl))) (Or.inr (hw _ (List.mem_of_getElem? (i := 43) rfl))) (by decide) (t := (.object "java/util/SortedSet")) (t' := (.object "java/util/List")) (by decide) (by decide)))).ext E12).keep K13_ (ninS (own_ne (by omega)) nin0)).other W14 (Or.inr (slot_ne (Or.inr (hw _ (List.mem_of_getElem? (i := 95) rfl))) (Or.inr (hw _ (List.mem_of_getElem? (i := 64) rfl))) (by decide) (t := (.object "java/util/SortedSet")) (t' := (.object "java/util/SortedMap")) (by decide) (by decide)))).ext E17).keep K18_ (ninS (own_ne (by omega)) nin0)).other W19 (Or.inr (slot_ne (Or.inr (hw _ (List.mem_of_getElem? (i := 95) rfl))) (Or.inr (hw _ (List.mem_of_getElem? (i := 66) rfl))) (by decide) (t := (.object "java/util/SortedSet")) (t' := (.object "java/util/SortedMap")) (by decide) (by decide)))).ext E22).keep K23_ (ninS (own_ne (by omega)) nin0)).other W24 (Or.inr (slot_ne (Or.inr (hw _ (List.mem_of_getElem? (i := 95) rfl))) (Or.inr (hw _ (List.mem_of_getElem? (i := 68) rfl))) (by decide) (t := (.object "java/util/SortedSet")) (t' := (.object "java/util/SortedMap")) (by decide) (by decide)))).ext E27).keep K28_ (ninS (own_ne (by omega)) nin0)).other W29 (Or.inr (slot_ne (Or.inr (hw _ (List.mem_of_getElem? (i := 95) rfl))) (Or.inr (hw _ (List.mem_of_getElem? (i := 70) rfl))) (by decide) (t := (.object "java/util/SortedSet")) (t' := (.object "java/util/SortedMap")) (by decide) (by decide)))).ext E32).keep K33_ (ninS (own_ne (by omega)) nin0))
  have ff36 := (((ff31.wr W29).ext E32).keep K33_)
  obtain ⟨T34, h34, X34, e34, W34, st34⟩ := putF X33 hx hZ hown (host := "") (Or.inl (hw _ (List.mem_of_getElem? (i := 94) rfl))) Via.refl rfl ff35 ff36 (Or.inr ⟨(hw _ (List.mem_of_getElem? (i := 95) rfl)), rfl, hnm⟩) (hw _ (List.mem_of_getElem? (i := 8) rfl)) (ty := (.object "java/util/SortedSet")) (by decide) rfl rfl (g := (mkF m 78 #[.val (.ref a), .val (.ref k)] [(.ref b32), (.ref a)])) rfl rfl (hb hby d_prog_16_1_78)
  have F34 := ff35.same W34
  have z34 := W34.size
  have N34 := Fr.snoc X34 N33 (show n0 ≤ a by omega)
  have O34 := O33.wr W34 (show n0 ≤ a by omega)
  have K34 := K33.wr W34 (Or.inl (List.mem_of_getElem? (i := 0) rfl))
  refine own_go (T' := T34) (g' := (mkF m 81 #[.val (.ref a), .val (.ref k)] [])) (fun t_ k_ => st34 _ k_) ?_
  refine own_go (T' := T34) (g' := (mkF m 82 #[.val (.ref a), .val (.ref k)] [(.ref a)])) (fun t_ k_ => XS.aloadN X34.here hx rfl (hb hby d_prog_16_1_81) rfl rfl k_) ?_
  obtain ⟨T37, h37, X37, e37, E37, A37, D37, -, st37⟩ := newO X34 hx hZ hown (hw _ (List.mem_of_getElem? (i := 71) rfl)) (hw _ (List.mem_of_getElem? (i := 72) rfl)) (hw _ (List.mem_of_getElem? (i := 73) rfl)) e34 (g := (mkF m 82 #[.val (.ref a), .val (.ref k)] [(.ref a)])) rfl (hb hby d_prog_16_1_82) (by decide) (by decide)
  obtain ⟨b37, g37⟩ : ∃ z, z = h34.size := ⟨_, rfl⟩
  rw [← g37] at A37 D37 st37
  have l37 := own_ltN A37.lt
  have z37 := E37.1
  have O37 := O34.ext E37
  have K37 := K34.ext E37
  have F37_m : Fld Z h37 b37 "java/util/TreeSet" "m" "Ljava/util/NavigableMap;" .null := D37 (Or.inl (hw _ (List.mem_of_getElem? (i := 93) rfl))) (ty := (.object "java/util/NavigableMap")) (by decide)
  refine own_go (T' := T37) (g' := (mkF m 85 #[.val (.ref a), .val (.ref k)] [(.ref b37), (.ref a)])) (fun t_ k_ => st37 _ k_) ?_
  refine own_go (T' := T37) (g' := (mkF m 86 #[.val (.ref a), .val (.ref k)] [(.ref b37), (.ref b37), (.ref a)])) (fun t_ k_ => XS.dup X37.here hx rfl (hb hby d_prog_16_1_85) rfl rfl k_) ?_
  obtain ⟨_, _, ⟨T38, L38, k38, n38⟩, -, X38, ⟨Lc38, hQ38, l38, y38, z38⟩, st38⟩ := X37.specialBack hx (y := (⟨"java/util/TreeSet", "<init>", "()V"⟩ : MethodName)) rfl hown (mvT hZ (hw _ (List.mem_of_getElem? (i := 74) rfl))) (mvT hZ (hw _ (List.mem_of_getElem? (i := 75) rfl))) (mvT hZ (hw _ (List.mem_of_getElem? (i := 76) rfl))) (by decide) (backOf (W := 2) (rm_ts l Z a0 hw [] b37 h37 n0 (show n0 ≤ h37.size by omega) A37 F37_m (show n0 ≤ b37 by omega)) hZ (hw _ (List.mem_of_getElem? (i := 76) rfl)) (hw _ (List.mem_of_getElem? (i := 73) rfl)) (by decide) (by decide)) (g := (mkF m 86 #[.val (.ref a), .val (.ref k)] [(.ref b37), (.ref b37), (.ref a)])) rfl (by rw [hml]; rfl) (Steps.refl _) (a := b37) (argsL := []) (rest := [(.ref b37), (.ref a)]) (lenOf pd_0 rfl) rfl (by show 2 * 0 + _ ≤ _; exact Nat.le_of_eq rfl) (hb hby d_prog_16_1_86) (fun _ _ => ⟨rfl, e37, (by decide : 9 + 1 ≤ _), (by decide : 53 + 9 ≤ _)⟩)
  dsimp only [Pt.U, Pt.locs, Pt.cells, Pt.slots] at X38 l38 y38 z38 st38 hQ38
  subst l38 y38 z38
  obtain ⟨rfl, M38, K38_⟩ := hQ38
  have zz38 := K38_.1
  have O38 := O37.keep K38_ (allS (show n0 ≤ b37 by omega) all0)
  have K38 := K37.trans K38_ (allS (Or.inr (show h0.size ≤ b37 by omega)) all0)
  have N38 := Fr.app N34 M38
  refine own_go (T' := T38) (g' := (mkF m 89 #[.val (.ref a), .val (.ref k)] [(.ref b37), (.ref a)])) (fun t_ k_ => st38.trans k_) ?_
  have ff40 := (((((((((((((((((((((((F_artifacts_a.ext E2).keep K3_ (ninS (own_ne (by omega)) nin0)).other W4 (Or.inr (slot_ne (Or.inr (hw _ (List.mem_of_getElem? (i := 97) rfl))) (Or.inr (hw _ (List.mem_of_getElem? (i := 41) rfl))) (by decide) (t := (.object "java/util/SortedSet")) (t' := (.object "java/util/List")) (by decide) (by decide)))).ext E7).keep K8_ (ninS (own_ne (by omega)) nin0)).other W9 (Or.inr (slot_ne (Or.inr (hw _ (List.mem_of_getElem? (i := 97) rfl))) (Or.inr (hw _ (List.mem_of_getElem? (i := 43) rfl))) (by decide) (t := (.object "java/util/SortedSet")) (t' := (.object "java/util/List")) (by decide) (by decide)))).ext E12).keep K13_ (ninS (own_ne (by omega)) nin0)).other W14 (Or.inr (slot_ne (Or.inr (hw _ (List.mem_of_getElem? (i := 97) rfl))) (Or.inr (hw _ (List.mem_of_getElem? (i := 64) rfl))) (by decide) (t := (.object "java/util/SortedSet")) (t' := (.object "java/util/SortedMap")) (by decide) (by decide)))).ext E17).keep K18_ (ninS (own_ne (by omega)) nin0)).other W19 (Or.inr (slot_ne (Or.inr (hw _ (List.mem_of_getElem? (i := 97) rfl))) (Or.inr (hw _ (List.mem_of_getElem? (i := 66) rfl))) (by decide) (t := (.object "java/util/SortedSet")) (t' := (.object "java/util/SortedMap")) (by decide) (by decide)))).ext E22).keep K23_ (ninS (own_ne (by omega)) nin0)).other W24 (Or.inr (slot_ne (Or.inr (hw _ (List.mem_of_getElem? (i := 97) rfl))) (Or.inr (hw _ (List.mem_of_getElem? (i := 68) rfl))) (by decide) (t := (.object "java/util/SortedSet")) (t' := (.object "java/util/SortedMap")) (by decide) (by decide)))).ext E27).keep K28_ (ninS (own_ne (by omega)) nin0)).other W29 (Or.inr (slot_ne (Or.inr (hw _ (List.mem_of_getElem? (i := 97) rfl))) (Or.inr (hw _ (List.mem_of_getElem? (i := 70) rfl))) (by decide) (t := (.object "java/util/SortedSet")) (t' := (.object "java/util/SortedMap")) (by decide) (by decide)))).ext E32).keep K33_ (ninS (own_ne (by omega)) nin0)).other W34 (Or.inr (slot_ne (Or.inr (hw _ (List.mem_of_getElem? (i := 97) rfl))) (Or.inr (hw _ (List.mem_of_getElem? (i := 95) rfl))) (by decide) (t := (.object "java/util/SortedSet")) (t' := (.object "java/util/SortedSet")) (by decide) (by decide)))).ext E37).keep K38_ (ninS (own_ne (by omega)) nin0))
  have ff41 := (((ff36.wr W34).ext E37).keep K38_)
  obtain ⟨T39, h39, X39, e39, W39, st39⟩ := putF X38 hx hZ hown (host := "") (Or.inl (hw _ (List.mem_of_getElem? (i := 96) rfl))) Via.refl rfl ff40 ff41 (Or.inr ⟨(hw _ (List.mem_of_getElem? (i := 97) rfl)), rfl, hnm⟩) (hw _ (List.mem_of_getElem? (i := 8) rfl)) (ty := (.object "java/util/SortedSet")) (by decide) rfl rfl (g := (mkF m 89 #[.val (.ref a), .val (.ref k)] [(.ref b37), (.ref a)])) rfl rfl (hb hby d_prog_16_1_89)
  have F39 := ff40.same W39
  have z39 := W39.size
  have N39 := Fr.snoc X39 N38 (show n0 ≤ a by omega)
  have O39 := O38.wr W39 (show n0 ≤ a by omega)
  have K39 := K38.wr W39 (Or.inl (List.mem_of_getElem? (i := 0) rfl))
  refine own_go (T' := T39) (g' := (mkF m 92 #[.val (.ref a), .val (.ref k)] [])) (fun t_ k_ => st39 _ k_) ?_
  refine own_go (T' := T39) (g' := (mkF m 93 #[.val (.ref a), .val (.ref k)] [(.ref a)])) (fun t_ k_ => XS.aloadN X39.here hx rfl (hb hby d_prog_16_1_92) rfl rfl k_) ?_
  refine own_go (T' := T39) (g' := (mkF m 94 #[.val (.ref a), .val (.ref k)] [(.ref k), (.ref a)])) (fun t_ k_ => XS.aloadN X39.here hx rfl (hb hby d_prog_16_1_93) rfl rfl k_) ?_
  obtain ⟨b42, T42, h42, k42, X42, e42, E42, hS, hk, hZ, hown, st42⟩ := ldcS X39 hx hZ hown (hw _ (List.mem_of_getElem? (i := 98) rfl)) hwS e39 hS (show _ ≤ h39.size by omega) (g := (mkF m 94 #[.val (.ref a), .val (.ref k)] [(.ref k), (.ref a)])) rfl (hb hby d_prog_16_1_94) (n := 60) (by decide) (by decide) (by decide) (by decide)
  have z42 := E42.1
  have O42 := O39.ext E42
  have K42 := K39.ext E42
  refine own_go (T' := T42) (g' := (mkF m 96 #[.val (.ref a), .val (.ref k)] [(.ref b42), (.ref k), (.ref a)])) (fun t_ k_ => st42 _ k_) ?_
  obtain ⟨_, _, ⟨T43, L43, k43, n43⟩, -, X43, ⟨Lc43, hQ43, l43, y43, z43⟩, st43⟩ := Jvm.LawKit.callS X42 hx (y := (⟨"java/util/Objects", "requireNonNull", "(Ljava/lang/Object;Ljava/lang/String;)Ljava/lang/Object;"⟩ : MethodName)) hown (mvT hZ (hw _ (List.mem_of_getElem? (i := 106) rfl))) (mvT hZ (hw _ (List.mem_of_getElem? (i := 107) rfl))) (mvT hZ (hw _ (List.mem_of_getElem? (i := 108) rfl))) (mvT hZ (hw _ (List.mem_of_getElem? (i := 109) rfl))) (by decide) (backOf (W := 1) (rm_req l Z a0 hw [] k b42 h42 n0 (show n0 ≤ h42.size by omega)) hZ (hw _ (List.mem_of_getElem? (i := 109) rfl)) (hw _ (List.mem_of_getElem? (i := 108) rfl)) (by decide) (by decide)) (g := (mkF m 96 #[.val (.ref a), .val (.ref k)] [(.ref b42), (.ref k), (.ref a)])) rfl (by rw [hml]; rfl) (argsL := [(.ref k), (.ref b42)]) (rest := [(.ref a)]) (lenOf pd_2 rfl) rfl (by show 2 * 0 + _ ≤ _; exact Nat.le_of_eq rfl) (hb hby d_prog_16_1_96) (fun _ _ => ⟨rfl, e42, (by decide : 12 + 0 ≤ _), (by decide : 126 + 0 ≤ _)⟩)
  dsimp only [Pt.U, Pt.locs, Pt.cells, Pt.slots] at X43 l43 y43 z43 st43 hQ43
  subst l43 y43 z43
  obtain ⟨rfl, M43, e43⟩ := hQ43
  have N43 := Fr.app N39 M43
  refine own_go (T' := T43) (g' := (mkF m 99 #[.val (.ref a), .val (.ref k)] [(.ref k), (.ref a)])) (fun t_ k_ => st43 _ k_) ?_
  have ff45 := (((((((((((((((((((((((((E_k.ext E2).keep K3_).wr W4).ext E7).keep K8_).wr W9).ext E12).keep K13_).wr W14).ext E17).keep K18_).wr W19).ext E22).keep K23_).wr W24).ext E27).keep K28_).wr W29).ext E32).keep K33_).wr W34).ext E37).keep K38_).wr W39).ext E42)
  obtain ⟨T44, X44, e44, st44⟩ := castY X43 hx hZ hown (hw _ (List.mem_of_getElem? (i := 110) rfl)) e43 (Ins.self ff45) (g := (mkF m 99 #[.val (.ref a), .val (.ref k)] [(.ref k), (.ref a)])) rfl rfl (hb hby d_prog_16_1_99)
  refine own_go (T' := T44) (g' := (mkF m 102 #[.val (.ref a), .val (.ref k)] [(.ref k), (.ref a)])) (fun t_ k_ => st44 _ k_) ?_
  have ff47 := (((((((((((((((((((((((((F_kingdom_a.ext E2).keep K3_ (ninS (own_ne (by omega)) nin0)).other W4 (Or.inr (slot_ne (Or.inr (hw _ (List.mem_of_getElem? (i := 113) rfl))) (Or.inr (hw _ (List.mem_of_getElem? (i := 41) rfl))) (by decide) (t := (.object "com/example/crownsworn/crownsworn/model/Kingdom")) (t' := (.object "java/util/List")) (by decide) (by decide)))).ext E7).keep K8_ (ninS (own_ne (by omega)) nin0)).other W9 (Or.inr (slot_ne (Or.inr (hw _ (List.mem_of_getElem? (i := 113) rfl))) (Or.inr (hw _ (List.mem_of_getElem? (i := 43) rfl))) (by decide) (t := (.object "com/example/crownsworn/crownsworn/model/Kingdom")) (t' := (.object "java/util/List")) (by decide) (by decide)))).ext E12).keep K13_ (ninS (own_ne (by omega)) nin0)).other W14 (Or.inr (slot_ne (Or.inr (hw _ (List.mem_of_getElem? (i := 113) rfl))) (Or.inr (hw _ (List.mem_of_getElem? (i := 64) rfl))) (by decide) (t := (.object "com/example/crownsworn/crownsworn/model/Kingdom")) (t' := (.object "java/util/SortedMap")) (by decide) (by decide)))).ext E17).keep K18_ (ninS (own_ne (by omega)) nin0)).other W19 (Or.inr (slot_ne (Or.inr (hw _ (List.mem_of_getElem? (i := 113) rfl))) (Or.inr (hw _ (List.mem_of_getElem? (i := 66) rfl))) (by decide) (t := (.object "com/example/crownsworn/crownsworn/model/Kingdom")) (t' := (.object "java/util/SortedMap")) (by decide) (by decide)))).ext E22).keep K23_ (ninS (own_ne (by omega)) nin0)).other W24 (Or.inr (slot_ne (Or.inr (hw _ (List.mem_of_getElem? (i := 113) rfl))) (Or.inr (hw _ (List.mem_of_getElem? (i := 68) rfl))) (by decide) (t := (.object "com/example/crownsworn/crownsworn/model/Kingdom")) (t' := (.object "java/util/SortedMap")) (by decide) (by decide)))).ext E27).keep K28_ (ninS (own_ne (by omega)) nin0)).other W29 (Or.inr (slot_ne (Or.inr (hw _ (List.mem_of_getElem? (i := 113) rfl))) (Or.inr (hw _ (List.mem_of_getElem? (i := 70) rfl))) (by decide) (t := (.object "com/example/crownsworn/crownsworn/model/Kingdom")) (t' := (.object "java/util/SortedMap")) (by decide) (by decide)))).ext E32).keep K33_ (ninS (own_ne (by omega)) nin0)).other W34 (Or.inr (slot_ne (Or.inr (hw _ (List.mem_of_getElem? (i := 113) rfl))) (Or.inr (hw _ (List.mem_of_getElem? (i := 95) rfl))) (by decide) (t := (.object "com/example/crownsworn/crownsworn/model/Kingdom")) (t' := (.object "java/util/SortedSet")) (by decide) (by decide)))).ext E37).keep K38_ (ninS (own_ne (by omega)) nin0)).other W39 (Or.inr (slot_ne (Or.inr (hw _ (List.mem_of_getElem? (i := 113) rfl))) (Or.inr (hw _ (List.mem_of_getElem? (i := 97) rfl))) (by decide) (t := (.object "com/example/crownsworn/crownsworn/model/Kingdom")) (t' := (.object "java/util/SortedSet")) (by decide) (by decide)))).ext E42)
  have ff48 := ((ff41.wr W39).ext E42)
  obtain ⟨T46, h46, X46, e46, W46, st46⟩ := putF X44 hx hZ hown (host := "") (Or.inl (hw _ (List.mem_of_getElem? (i := 112) rfl))) Via.refl e44 ff47 ff48 (Or.inr ⟨(hw _ (List.mem_of_getElem? (i := 113) rfl)), rfl, hnm⟩) (hw _ (List.mem_of_getElem? (i := 8) rfl)) (ty := (.object "com/example/crownsworn/crownsworn/model/Kingdom")) (by decide) rfl rfl (g := (mkF m 102 #[.val (.ref a), .val (.ref k)] [(.ref k), (.ref a)])) rfl rfl (hb hby d_prog_16_1_102)
  have F46 := ff47.same W46
  have z46 := W46.size
  have N46 := Fr.snoc X46 N43 (show n0 ≤ a by omega)
  have O46 := O42.wr W46 (show n0 ≤ a by omega)
  have K46 := K42.wr W46 (Or.inl (List.mem_of_getElem? (i := 0) rfl))
  refine own_go (T' := T46) (g' := (mkF m 105 #[.val (.ref a), .val (.ref k)] [])) (fun t_ k_ => st46 _ k_) ?_
  have ff49 := ((((((((((((((((((((((((((F_crom_a.ext E2).keep K3_ (ninS (own_ne (by omega)) nin0)).other W4 (Or.inr (slot_ne (Or.inl (hw _ (List.mem_of_getElem? (i := 120) rfl))) (Or.inr (hw _ (List.mem_of_getElem? (i := 41) rfl))) (by decide) (t := .int) (t' := (.object "java/util/List")) (by decide) (by decide)))).ext E7).keep K8_ (ninS (own_ne (by omega)) nin0)).other W9 (Or.inr (slot_ne (Or.inl (hw _ (List.mem_of_getElem? (i := 120) rfl))) (Or.inr (hw _ (List.mem_of_getElem? (i := 43) rfl))) (by decide) (t := .int) (t' := (.object "java/util/List")) (by decide) (by decide)))).ext E12).keep K13_ (ninS (own_ne (by omega)) nin0)).other W14 (Or.inr (slot_ne (Or.inl (hw _ (List.mem_of_getElem? (i := 120) rfl))) (Or.inr (hw _ (List.mem_of_getElem? (i := 64) rfl))) (by decide) (t := .int) (t' := (.object "java/util/SortedMap")) (by decide) (by decide)))).ext E17).keep K18_ (ninS (own_ne (by omega)) nin0)).other W19 (Or.inr (slot_ne (Or.inl (hw _ (List.mem_of_getElem? (i := 120) rfl))) (Or.inr (hw _ (List.mem_of_getElem? (i := 66) rfl))) (by decide) (t := .int) (t' := (.object "java/util/SortedMap")) (by decide) (by decide)))).ext E22).keep K23_ (ninS (own_ne (by omega)) nin0)).other W24 (Or.inr (slot_ne (Or.inl (hw _ (List.mem_of_getElem? (i := 120) rfl))) (Or.inr (hw _ (List.mem_of_getElem? (i := 68) rfl))) (by decide) (t := .int) (t' := (.object "java/util/SortedMap")) (by decide) (by decide)))).ext E27).keep K28_ (ninS (own_ne (by omega)) nin0)).other W29 (Or.inr (slot_ne (Or.inl (hw _ (List.mem_of_getElem? (i := 120) rfl))) (Or.inr (hw _ (List.mem_of_getElem? (i := 70) rfl))) (by decide) (t := .int) (t' := (.object "java/util/SortedMap")) (by decide) (by decide)))).ext E32).keep K33_ (ninS (own_ne (by omega)) nin0)).other W34 (Or.inr (slot_ne (Or.inl (hw _ (List.mem_of_getElem? (i := 120) rfl))) (Or.inr (hw _ (List.mem_of_getElem? (i := 95) rfl))) (by decide) (t := .int) (t' := (.object "java/util/SortedSet")) (by decide) (by decide)))).ext E37).keep K38_ (ninS (own_ne (by omega)) nin0)).other W39 (Or.inr (slot_ne (Or.inl (hw _ (List.mem_of_getElem? (i := 120) rfl))) (Or.inr (hw _ (List.mem_of_getElem? (i := 97) rfl))) (by decide) (t := .int) (t' := (.object "java/util/SortedSet")) (by decide) (by decide)))).ext E42).other W46 (Or.inr (slot_ne (Or.inl (hw _ (List.mem_of_getElem? (i := 120) rfl))) (Or.inr (hw _ (List.mem_of_getElem? (i := 113) rfl))) (by decide) (t := .int) (t' := (.object "com/example/crownsworn/crownsworn/model/Kingdom")) (by decide) (by decide))))
  have ff50 := ((((((((((((((((((((((((((F_gold_a.ext E2).keep K3_ (ninS (own_ne (by omega)) nin0)).other W4 (Or.inr (slot_ne (Or.inl (hw _ (List.mem_of_getElem? (i := 140) rfl))) (Or.inr (hw _ (List.mem_of_getElem? (i := 41) rfl))) (by decide) (t := .int) (t' := (.object "java/util/List")) (by decide) (by decide)))).ext E7).keep K8_ (ninS (own_ne (by omega)) nin0)).other W9 (Or.inr (slot_ne (Or.inl (hw _ (List.mem_of_getElem? (i := 140) rfl))) (Or.inr (hw _ (List.mem_of_getElem? (i := 43) rfl))) (by decide) (t := .int) (t' := (.object "java/util/List")) (by decide) (by decide)))).ext E12).keep K13_ (ninS (own_ne (by omega)) nin0)).other W14 (Or.inr (slot_ne (Or.inl (hw _ (List.mem_of_getElem? (i := 140) rfl))) (Or.inr (hw _ (List.mem_of_getElem? (i := 64) rfl))) (by decide) (t := .int) (t' := (.object "java/util/SortedMap")) (by decide) (by decide)))).ext E17).keep K18_ (ninS (own_ne (by omega)) nin0)).other W19 (Or.inr (slot_ne (Or.inl (hw _ (List.mem_of_getElem? (i := 140) rfl))) (Or.inr (hw _ (List.mem_of_getElem? (i := 66) rfl))) (by decide) (t := .int) (t' := (.object "java/util/SortedMap")) (by decide) (by decide)))).ext E22).keep K23_ (ninS (own_ne (by omega)) nin0)).other W24 (Or.inr (slot_ne (Or.inl (hw _ (List.mem_of_getElem? (i := 140) rfl))) (Or.inr (hw _ (List.mem_of_getElem? (i := 68) rfl))) (by decide) (t := .int) (t' := (.object "java/util/SortedMap")) (by decide) (by decide)))).ext E27).keep K28_ (ninS (own_ne (by omega)) nin0)).other W29 (Or.inr (slot_ne (Or.inl (hw _ (List.mem_of_getElem? (i := 140) rfl))) (Or.inr (hw _ (List.mem_of_getElem? (i := 70) rfl))) (by decide) (t := .int) (t' := (.object "java/util/SortedMap")) (by decide) (by decide)))).ext E32).keep K33_ (ninS (own_ne (by omega)) nin0)).other W34 (Or.inr (slot_ne (Or.inl (hw _ (List.mem_of_getElem? (i := 140) rfl))) (Or.inr (hw _ (List.mem_of_getElem? (i := 95) rfl))) (by decide) (t := .int) (t' := (.object "java/util/SortedSet")) (by decide) (by decide)))).ext E37).keep K38_ (ninS (own_ne (by omega)) nin0)).other W39 (Or.inr (slot_ne (Or.inl (hw _ (List.mem_of_getElem? (i := 140) rfl))) (Or.inr (hw _ (List.mem_of_getElem? (i := 97) rfl))) (by decide) (t := .int) (t' := (.object "java/util/SortedSet")) (by decide) (by decide)))).ext E42).other W46 (Or.inr (slot_ne (Or.inl (hw _ (List.mem_of_getElem? (i := 140) rfl))) (Or.inr (hw _ (List.mem_of_getElem? (i := 113) rfl))) (by decide) (t := .int) (t' := (.object "com/example/crownsworn/crownsworn/model/Kingdom")) (by decide) (by decide))))
  have ff51 := ((((((((((((((((((((((((((F_sorcery_a.ext E2).keep K3_ (ninS (own_ne (by omega)) nin0)).other W4 (Or.inr (slot_ne (Or.inl (hw _ (List.mem_of_getElem? (i := 147) rfl))) (Or.inr (hw _ (List.mem_of_getElem? (i := 41) rfl))) (by decide) (t := .int) (t' := (.object "java/util/List")) (by decide) (by decide)))).ext E7).keep K8_ (ninS (own_ne (by omega)) nin0)).other W9 (Or.inr (slot_ne (Or.inl (hw _ (List.mem_of_getElem? (i := 147) rfl))) (Or.inr (hw _ (List.mem_of_getElem? (i := 43) rfl))) (by decide) (t := .int) (t' := (.object "java/util/List")) (by decide) (by decide)))).ext E12).keep K13_ (ninS (own_ne (by omega)) nin0)).other W14 (Or.inr (slot_ne (Or.inl (hw _ (List.mem_of_getElem? (i := 147) rfl))) (Or.inr (hw _ (List.mem_of_getElem? (i := 64) rfl))) (by decide) (t := .int) (t' := (.object "java/util/SortedMap")) (by decide) (by decide)))).ext E17).keep K18_ (ninS (own_ne (by omega)) nin0)).other W19 (Or.inr (slot_ne (Or.inl (hw _ (List.mem_of_getElem? (i := 147) rfl))) (Or.inr (hw _ (List.mem_of_getElem? (i := 66) rfl))) (by decide) (t := .int) (t' := (.object "java/util/SortedMap")) (by decide) (by decide)))).ext E22).keep K23_ (ninS (own_ne (by omega)) nin0)).other W24 (Or.inr (slot_ne (Or.inl (hw _ (List.mem_of_getElem? (i := 147) rfl))) (Or.inr (hw _ (List.mem_of_getElem? (i := 68) rfl))) (by decide) (t := .int) (t' := (.object "java/util/SortedMap")) (by decide) (by decide)))).ext E27).keep K28_ (ninS (own_ne (by omega)) nin0)).other W29 (Or.inr (slot_ne (Or.inl (hw _ (List.mem_of_getElem? (i := 147) rfl))) (Or.inr (hw _ (List.mem_of_getElem? (i := 70) rfl))) (by decide) (t := .int) (t' := (.object "java/util/SortedMap")) (by decide) (by decide)))).ext E32).keep K33_ (ninS (own_ne (by omega)) nin0)).other W34 (Or.inr (slot_ne (Or.inl (hw _ (List.mem_of_getElem? (i := 147) rfl))) (Or.inr (hw _ (List.mem_of_getElem? (i := 95) rfl))) (by decide) (t := .int) (t' := (.object "java/util/SortedSet")) (by decide) (by decide)))).ext E37).keep K38_ (ninS (own_ne (by omega)) nin0)).other W39 (Or.inr (slot_ne (Or.inl (hw _ (List.mem_of_getElem? (i := 147) rfl))) (Or.inr (hw _ (List.mem_of_getElem? (i := 97) rfl))) (by decide) (t := .int) (t' := (.object "java/util/SortedSet")) (by decide) (by decide)))).ext E42).other W46 (Or.inr (slot_ne (Or.inl (hw _ (List.mem_of_getElem? (i := 147) rfl))) (Or.inr (hw _ (List.mem_of_getElem? (i := 113) rfl))) (by decide) (t := .int) (t' := (.object "com/example/crownsworn/crownsworn/model/Kingdom")) (by decide) (by decide))))
  have ff52 := ((((((((((((((((((((((((((F_empirePoints_a.ext E2).keep K3_ (ninS (own_ne (by omega)) nin0)).other W4 (Or.inr (slot_ne (Or.inl (hw _ (List.mem_of_getElem? (i := 154) rfl))) (Or.inr (hw _ (List.mem_of_getElem? (i := 41) rfl))) (by decide) (t := .int) (t' := (.object "java/util/List")) (by decide) (by decide)))).ext E7).keep K8_ (ninS (own_ne (by omega)) nin0)).other W9 (Or.inr (slot_ne (Or.inl (hw _ (List.mem_of_getElem? (i := 154) rfl))) (Or.inr (hw _ (List.mem_of_getElem? (i := 43) rfl))) (by decide) (t := .int) (t' := (.object "java/util/List")) (by decide) (by decide)))).ext E12).keep K13_ (ninS (own_ne (by omega)) nin0)).other W14 (Or.inr (slot_ne (Or.inl (hw _ (List.mem_of_getElem? (i := 154) rfl))) (Or.inr (hw _ (List.mem_of_getElem? (i := 64) rfl))) (by decide) (t := .int) (t' := (.object "java/util/SortedMap")) (by decide) (by decide)))).ext E17).keep K18_ (ninS (own_ne (by omega)) nin0)).other W19 (Or.inr (slot_ne (Or.inl (hw _ (List.mem_of_getElem? (i := 154) rfl))) (Or.inr (hw _ (List.mem_of_getElem? (i := 66) rfl))) (by decide) (t := .int) (t' := (.object "java/util/SortedMap")) (by decide) (by decide)))).ext E22).keep K23_ (ninS (own_ne (by omega)) nin0)).other W24 (Or.inr (slot_ne (Or.inl (hw _ (List.mem_of_getElem? (i := 154) rfl))) (Or.inr (hw _ (List.mem_of_getElem? (i := 68) rfl))) (by decide) (t := .int) (t' := (.object "java/util/SortedMap")) (by decide) (by decide)))).ext E27).keep K28_ (ninS (own_ne (by omega)) nin0)).other W29 (Or.inr (slot_ne (Or.inl (hw _ (List.mem_of_getElem? (i := 154) rfl))) (Or.inr (hw _ (List.mem_of_getElem? (i := 70) rfl))) (by decide) (t := .int) (t' := (.object "java/util/SortedMap")) (by decide) (by decide)))).ext E32).keep K33_ (ninS (own_ne (by omega)) nin0)).other W34 (Or.inr (slot_ne (Or.inl (hw _ (List.mem_of_getElem? (i := 154) rfl))) (Or.inr (hw _ (List.mem_of_getElem? (i := 95) rfl))) (by decide) (t := .int) (t' := (.object "java/util/SortedSet")) (by decide) (by decide)))).ext E37).keep K38_ (ninS (own_ne (by omega)) nin0)).other W39 (Or.inr (slot_ne (Or.inl (hw _ (List.mem_of_getElem? (i := 154) rfl))) (Or.inr (hw _ (List.mem_of_getElem? (i := 97) rfl))) (by decide) (t := .int) (t' := (.object "java/util/SortedSet")) (by decide) (by decide)))).ext E42).other W46 (Or.inr (slot_ne (Or.inl (hw _ (List.mem_of_getElem? (i := 154) rfl))) (Or.inr (hw _ (List.mem_of_getElem? (i := 113) rfl))) (by decide) (t := .int) (t' := (.object "com/example/crownsworn/crownsworn/model/Kingdom")) (by decide) (by decide))))
  exact own_outW X46 hS (show _ ≤ T46.heap.size by rw [e46]; omega) (v := none) (fun _ => rfl) hlk (fun fs hr => X46.returnOut hx Bd.returns (hb hby d_prog_16_1_105) hr) (Q := Q_rm_ks Z a k w h0 n0) (by rw [e46]; exact ⟨rfl, N46, K46, ff49, ff50, ff51, ff52, F46⟩) (by decide) (by decide)
theorem d_prog_16_6_0 : decode prog_16_method_6_code 0 = .ok (.aload_n 0, 1) := by decide +kernel
theorem d_prog_16_6_1 : decode prog_16_method_6_code 1 = .ok (.getfield 69, 3) := by decide +kernel
theorem d_prog_16_6_4 : decode prog_16_method_6_code 4 = .ok (.ireturn, 1) := by decide +kernel
theorem ef_10 (m : MethodId) (a : Nat) : entryFrame m #[(.ref a)] 1 = mkF m 0 #[.val (.ref a)] [] := by first | (simp [entryFrame, mkF, argsToLocals, Value.category]; done) | rfl
def Q_rm_crom (Z : State) (a : Nat) (u : Int32) (h0 : Heap) (n0 : Nat) (vv : Option Value) (h : Heap) (LL : List Loc) : Prop := vv = some (.int u) ∧ Fr n0 LL ∧ h = h0
set_option maxRecDepth 65536 in
set_option maxHeartbeats 40000000 in
theorem rm_crom (l : Launch) (Z : State) (a0 : Array Value) (hw : ∀ d ∈ tables_1, d.before a0 Z = true) (ws : List Jvm.Cond) (a : Nat) (u : Int32) (h0 : Heap) (n0 : Nat) (Z0 : n0 ≤ h0.size) (F_crom_a : Fld Z h0 a "com/example/crownsworn/crownsworn/model/KingdomState" "crom" "I" (.int u)) :
    MetFree l (⟨"com/example/crownsworn/crownsworn/model/KingdomState", "crom", "()I"⟩ : MethodName) (head1 (Jvm.Cond.code (⟨"com/example/crownsworn/crownsworn/model/KingdomState", "crom", "()I"⟩ : MethodName) prog_16_method_6_code 1 (some .int) :: ws) ({ frames := 0, cells := 0, slots := 0, locals := 0 } : Room)) (fun aa UU => aa = #[(.ref a)] ∧ Z.Warmed39 UU.vm ∧ UU.heap = h0) (fun _ _ _ _ _ => True) (fun _ UU oo UU' => ∃ vv LL, oo = .returned vv ∧ Q_rm_crom Z a u h0 n0 vv UU'.heap LL ∧ FrameEnd UU oo UU' LL ({ frames := 0, cells := 0, slots := 0, locals := 0 } : Room).cells ({ frames := 0, cells := 0, slots := 0, locals := 0 } : Room).slots) := by
  refine MetFree.of_bodySF (plainFor_of_name pn_8) hisR ?_
  intro p e s m args below meth c s₁ Bd hml0 hP hK
  obtain ⟨rfl, hZ, hh⟩ := hP
  have hx := Bd.exec
  have hby := Bd.bytes
  have hml : c.maxLocals = 1 := hml0
  have hown : s.vm.findClass "com/example/crownsworn/crownsworn/model/KingdomState" = some m.cls := findClass_of_methodNamed Bd.named
  have hnm := (name_of_methodNamed Bd.named Bd.method).1
  have hlk : meth.locks = false := BodyLoose.notSynchronized Bd
  have X0 : Stand p l e ({ frames := 0, cells := 0, slots := 0, locals := 0 } : Room) s m #[(.ref a)] below meth c s₁ [] 0 0 := Stand.of_body Bd
  have e0 : s₁.heap = h0 := by rw [← hh, Bd.state]; rfl
  have N0 := Fr.nil n0
  have lt_F_crom_a := own_ltN F_crom_a.lt
  refine own_in (ef_10 m a) ?_
  refine own_go (T' := s₁) (g' := (mkF m 1 #[.val (.ref a)] [(.ref a)])) (fun t_ k_ => XS.aloadN X0.here hx rfl (hb hby d_prog_16_6_0) rfl rfl k_) ?_
  obtain ⟨T1, X1, e1, st1⟩ := getF X0 hx hZ hown (host := "") (Or.inl (hw _ (List.mem_of_getElem? (i := 119) rfl))) Via.refl e0 F_crom_a (g := (mkF m 1 #[.val (.ref a)] [(.ref a)])) rfl rfl (hb hby d_prog_16_6_1)
  refine own_go (T' := T1) (g' := (mkF m 4 #[.val (.ref a)] [(.int u)])) (fun t_ k_ => st1 _ k_) ?_
  exact own_out X1 (v := some (.int u)) (fun h => by rw [Bd.returns] at h; cases h) hlk (fun fs hr => retI X1 hx Bd.returns (hb hby d_prog_16_6_4) hr) (Q := Q_rm_crom Z a u h0 n0) (by rw [e1]; exact ⟨rfl, N0, rfl⟩) (by decide) (by decide)
theorem d_prog_16_3_0 : decode prog_16_method_3_code 0 = .ok (.aload_n 0, 1) := by decide +kernel
theorem d_prog_16_3_1 : decode prog_16_method_3_code 1 = .ok (.getfield 59, 3) := by decide +kernel
theorem d_prog_16_3_4 : decode prog_16_method_3_code 4 = .ok (.ireturn, 1) := by decide +kernel
theorem ef_11 (m : MethodId) (a : Nat) : entryFrame m #[(.ref a)] 1 = mkF m 0 #[.val (.ref a)] [] := by first | (simp [entryFrame, mkF, argsToLocals, Value.category]; done) | rfl
def Q_rm_gold (Z : State) (a : Nat) (u : Int32) (h0 : Heap) (n0 : Nat) (vv : Option Value) (h : Heap) (LL : List Loc) : Prop := vv = some (.int u) ∧ Fr n0 LL ∧ h = h0
set_option maxRecDepth 65536 in
set_option maxHeartbeats 40000000 in
theorem rm_gold (l : Launch) (Z : State) (a0 : Array Value) (hw : ∀ d ∈ tables_1, d.before a0 Z = true) (ws : List Jvm.Cond) (a : Nat) (u : Int32) (h0 : Heap) (n0 : Nat) (Z0 : n0 ≤ h0.size) (F_gold_a : Fld Z h0 a "com/example/crownsworn/crownsworn/model/KingdomState" "gold" "I" (.int u)) :
    MetFree l (⟨"com/example/crownsworn/crownsworn/model/KingdomState", "gold", "()I"⟩ : MethodName) (head1 (Jvm.Cond.code (⟨"com/example/crownsworn/crownsworn/model/KingdomState", "gold", "()I"⟩ : MethodName) prog_16_method_3_code 1 (some .int) :: ws) ({ frames := 0, cells := 0, slots := 0, locals := 0 } : Room)) (fun aa UU => aa = #[(.ref a)] ∧ Z.Warmed39 UU.vm ∧ UU.heap = h0) (fun _ _ _ _ _ => True) (fun _ UU oo UU' => ∃ vv LL, oo = .returned vv ∧ Q_rm_gold Z a u h0 n0 vv UU'.heap LL ∧ FrameEnd UU oo UU' LL ({ frames := 0, cells := 0, slots := 0, locals := 0 } : Room).cells ({ frames := 0, cells := 0, slots := 0, locals := 0 } : Room).slots) := by
  refine MetFree.of_bodySF (plainFor_of_name pn_8) hisR ?_
  intro p e s m args below meth c s₁ Bd hml0 hP hK
  obtain ⟨rfl, hZ, hh⟩ := hP
  have hx := Bd.exec
  have hby := Bd.bytes
  have hml : c.maxLocals = 1 := hml0
  have hown : s.vm.findClass "com/example/crownsworn/crownsworn/model/KingdomState" = some m.cls := findClass_of_methodNamed Bd.named
  have hnm := (name_of_methodNamed Bd.named Bd.method).1
  have hlk : meth.locks = false := BodyLoose.notSynchronized Bd
  have X0 : Stand p l e ({ frames := 0, cells := 0, slots := 0, locals := 0 } : Room) s m #[(.ref a)] below meth c s₁ [] 0 0 := Stand.of_body Bd
  have e0 : s₁.heap = h0 := by rw [← hh, Bd.state]; rfl
  have N0 := Fr.nil n0
  have lt_F_gold_a := own_ltN F_gold_a.lt
  refine own_in (ef_11 m a) ?_
  refine own_go (T' := s₁) (g' := (mkF m 1 #[.val (.ref a)] [(.ref a)])) (fun t_ k_ => XS.aloadN X0.here hx rfl (hb hby d_prog_16_3_0) rfl rfl k_) ?_
  obtain ⟨T1, X1, e1, st1⟩ := getF X0 hx hZ hown (host := "") (Or.inl (hw _ (List.mem_of_getElem? (i := 139) rfl))) Via.refl e0 F_gold_a (g := (mkF m 1 #[.val (.ref a)] [(.ref a)])) rfl rfl (hb hby d_prog_16_3_1)
  refine own_go (T' := T1) (g' := (mkF m 4 #[.val (.ref a)] [(.int u)])) (fun t_ k_ => st1 _ k_) ?_
  exact own_out X1 (v := some (.int u)) (fun h => by rw [Bd.returns] at h; cases h) hlk (fun fs hr => retI X1 hx Bd.returns (hb hby d_prog_16_3_4) hr) (Q := Q_rm_gold Z a u h0 n0) (by rw [e1]; exact ⟨rfl, N0, rfl⟩) (by decide) (by decide)
theorem d_prog_16_4_0 : decode prog_16_method_4_code 0 = .ok (.aload_n 0, 1) := by decide +kernel
theorem d_prog_16_4_1 : decode prog_16_method_4_code 1 = .ok (.getfield 63, 3) := by decide +kernel
theorem d_prog_16_4_4 : decode prog_16_method_4_code 4 = .ok (.ireturn, 1) := by decide +kernel
theorem ef_12 (m : MethodId) (a : Nat) : entryFrame m #[(.ref a)] 1 = mkF m 0 #[.val (.ref a)] [] := by first | (simp [entryFrame, mkF, argsToLocals, Value.category]; done) | rfl
def Q_rm_sorcery (Z : State) (a : Nat) (u : Int32) (h0 : Heap) (n0 : Nat) (vv : Option Value) (h : Heap) (LL : List Loc) : Prop := vv = some (.int u) ∧ Fr n0 LL ∧ h = h0
set_option maxRecDepth 65536 in
set_option maxHeartbeats 40000000 in
theorem rm_sorcery (l : Launch) (Z : State) (a0 : Array Value) (hw : ∀ d ∈ tables_1, d.before a0 Z = true) (ws : List Jvm.Cond) (a : Nat) (u : Int32) (h0 : Heap) (n0 : Nat) (Z0 : n0 ≤ h0.size) (F_sorcery_a : Fld Z h0 a "com/example/crownsworn/crownsworn/model/KingdomState" "sorcery" "I" (.int u)) :
    MetFree l (⟨"com/example/crownsworn/crownsworn/model/KingdomState", "sorcery", "()I"⟩ : MethodName) (head1 (Jvm.Cond.code (⟨"com/example/crownsworn/crownsworn/model/KingdomState", "sorcery", "()I"⟩ : MethodName) prog_16_method_4_code 1 (some .int) :: ws) ({ frames := 0, cells := 0, slots := 0, locals := 0 } : Room)) (fun aa UU => aa = #[(.ref a)] ∧ Z.Warmed39 UU.vm ∧ UU.heap = h0) (fun _ _ _ _ _ => True) (fun _ UU oo UU' => ∃ vv LL, oo = .returned vv ∧ Q_rm_sorcery Z a u h0 n0 vv UU'.heap LL ∧ FrameEnd UU oo UU' LL ({ frames := 0, cells := 0, slots := 0, locals := 0 } : Room).cells ({ frames := 0, cells := 0, slots := 0, locals := 0 } : Room).slots) := by
  refine MetFree.of_bodySF (plainFor_of_name pn_8) hisR ?_
  intro p e s m args below meth c s₁ Bd hml0 hP hK
  obtain ⟨rfl, hZ, hh⟩ := hP
  have hx := Bd.exec
  have hby := Bd.bytes
  have hml : c.maxLocals = 1 := hml0
  have hown : s.vm.findClass "com/example/crownsworn/crownsworn/model/KingdomState" = some m.cls := findClass_of_methodNamed Bd.named
  have hnm := (name_of_methodNamed Bd.named Bd.method).1
  have hlk : meth.locks = false := BodyLoose.notSynchronized Bd
  have X0 : Stand p l e ({ frames := 0, cells := 0, slots := 0, locals := 0 } : Room) s m #[(.ref a)] below meth c s₁ [] 0 0 := Stand.of_body Bd
  have e0 : s₁.heap = h0 := by rw [← hh, Bd.state]; rfl
  have N0 := Fr.nil n0
  have lt_F_sorcery_a := own_ltN F_sorcery_a.lt
  refine own_in (ef_12 m a) ?_
  refine own_go (T' := s₁) (g' := (mkF m 1 #[.val (.ref a)] [(.ref a)])) (fun t_ k_ => XS.aloadN X0.here hx rfl (hb hby d_prog_16_4_0) rfl rfl k_) ?_
  obtain ⟨T1, X1, e1, st1⟩ := getF X0 hx hZ hown (host := "") (Or.inl (hw _ (List.mem_of_getElem? (i := 146) rfl))) Via.refl e0 F_sorcery_a (g := (mkF m 1 #[.val (.ref a)] [(.ref a)])) rfl rfl (hb hby d_prog_16_4_1)
  refine own_go (T' := T1) (g' := (mkF m 4 #[.val (.ref a)] [(.int u)])) (fun t_ k_ => st1 _ k_) ?_
  exact own_out X1 (v := some (.int u)) (fun h => by rw [Bd.returns] at h; cases h) hlk (fun fs hr => retI X1 hx Bd.returns (hb hby d_prog_16_4_4) hr) (Q := Q_rm_sorcery Z a u h0 n0) (by rw [e1]; exact ⟨rfl, N0, rfl⟩) (by decide) (by decide)
theorem d_prog_16_5_0 : decode prog_16_method_5_code 0 = .ok (.aload_n 0, 1) := by decide +kernel
theorem d_prog_16_5_1 : decode prog_16_method_5_code 1 = .ok (.getfield 66, 3) := by decide +kernel
theorem d_prog_16_5_4 : decode prog_16_method_5_code 4 = .ok (.ireturn, 1) := by decide +kernel
theorem ef_13 (m : MethodId) (a : Nat) : entryFrame m #[(.ref a)] 1 = mkF m 0 #[.val (.ref a)] [] := by first | (simp [entryFrame, mkF, argsToLocals, Value.category]; done) | rfl
def Q_rm_empirePoints (Z : State) (a : Nat) (u : Int32) (h0 : Heap) (n0 : Nat) (vv : Option Value) (h : Heap) (LL : List Loc) : Prop := vv = some (.int u) ∧ Fr n0 LL ∧ h = h0
set_option maxRecDepth 65536 in
set_option maxHeartbeats 40000000 in
theorem rm_empirePoints (l : Launch) (Z : State) (a0 : Array Value) (hw : ∀ d ∈ tables_1, d.before a0 Z = true) (ws : List Jvm.Cond) (a : Nat) (u : Int32) (h0 : Heap) (n0 : Nat) (Z0 : n0 ≤ h0.size) (F_empirePoints_a : Fld Z h0 a "com/example/crownsworn/crownsworn/model/KingdomState" "empirePoints" "I" (.int u)) :
    MetFree l (⟨"com/example/crownsworn/crownsworn/model/KingdomState", "empirePoints", "()I"⟩ : MethodName) (head1 (Jvm.Cond.code (⟨"com/example/crownsworn/crownsworn/model/KingdomState", "empirePoints", "()I"⟩ : MethodName) prog_16_method_5_code 1 (some .int) :: ws) ({ frames := 0, cells := 0, slots := 0, locals := 0 } : Room)) (fun aa UU => aa = #[(.ref a)] ∧ Z.Warmed39 UU.vm ∧ UU.heap = h0) (fun _ _ _ _ _ => True) (fun _ UU oo UU' => ∃ vv LL, oo = .returned vv ∧ Q_rm_empirePoints Z a u h0 n0 vv UU'.heap LL ∧ FrameEnd UU oo UU' LL ({ frames := 0, cells := 0, slots := 0, locals := 0 } : Room).cells ({ frames := 0, cells := 0, slots := 0, locals := 0 } : Room).slots) := by
  refine MetFree.of_bodySF (plainFor_of_name pn_8) hisR ?_
  intro p e s m args below meth c s₁ Bd hml0 hP hK
  obtain ⟨rfl, hZ, hh⟩ := hP
  have hx := Bd.exec
  have hby := Bd.bytes
  have hml : c.maxLocals = 1 := hml0
  have hown : s.vm.findClass "com/example/crownsworn/crownsworn/model/KingdomState" = some m.cls := findClass_of_methodNamed Bd.named
  have hnm := (name_of_methodNamed Bd.named Bd.method).1
  have hlk : meth.locks = false := BodyLoose.notSynchronized Bd
  have X0 : Stand p l e ({ frames := 0, cells := 0, slots := 0, locals := 0 } : Room) s m #[(.ref a)] below meth c s₁ [] 0 0 := Stand.of_body Bd
  have e0 : s₁.heap = h0 := by rw [← hh, Bd.state]; rfl
  have N0 := Fr.nil n0
  have lt_F_empirePoints_a := own_ltN F_empirePoints_a.lt
  refine own_in (ef_13 m a) ?_
  refine own_go (T' := s₁) (g' := (mkF m 1 #[.val (.ref a)] [(.ref a)])) (fun t_ k_ => XS.aloadN X0.here hx rfl (hb hby d_prog_16_5_0) rfl rfl k_) ?_
  obtain ⟨T1, X1, e1, st1⟩ := getF X0 hx hZ hown (host := "") (Or.inl (hw _ (List.mem_of_getElem? (i := 153) rfl))) Via.refl e0 F_empirePoints_a (g := (mkF m 1 #[.val (.ref a)] [(.ref a)])) rfl rfl (hb hby d_prog_16_5_1)
  refine own_go (T' := T1) (g' := (mkF m 4 #[.val (.ref a)] [(.int u)])) (fun t_ k_ => st1 _ k_) ?_
  exact own_out X1 (v := some (.int u)) (fun h => by rw [Bd.returns] at h; cases h) hlk (fun fs hr => retI X1 hx Bd.returns (hb hby d_prog_16_5_4) hr) (Q := Q_rm_empirePoints Z a u h0 n0) (by rw [e1]; exact ⟨rfl, N0, rfl⟩) (by decide) (by decide)
theorem d_prog_16_2_0 : decode prog_16_method_2_code 0 = .ok (.aload_n 0, 1) := by decide +kernel
theorem d_prog_16_2_1 : decode prog_16_method_2_code 1 = .ok (.getfield 55, 3) := by decide +kernel
theorem d_prog_16_2_4 : decode prog_16_method_2_code 4 = .ok (.areturn, 1) := by decide +kernel
theorem ef_14 (m : MethodId) (a : Nat) : entryFrame m #[(.ref a)] 1 = mkF m 0 #[.val (.ref a)] [] := by first | (simp [entryFrame, mkF, argsToLocals, Value.category]; done) | rfl
def Q_rm_kingdom (Z : State) (a : Nat) (u : Nat) (h0 : Heap) (n0 : Nat) (vv : Option Value) (h : Heap) (LL : List Loc) : Prop := vv = some (.ref u) ∧ Fr n0 LL ∧ h = h0
set_option maxRecDepth 65536 in
set_option maxHeartbeats 40000000 in
theorem rm_kingdom (l : Launch) (Z : State) (a0 : Array Value) (hw : ∀ d ∈ tables_1, d.before a0 Z = true) (ws : List Jvm.Cond) (a : Nat) (u : Nat) (h0 : Heap) (n0 : Nat) (Z0 : n0 ≤ h0.size) (F_kingdom_a : Fld Z h0 a "com/example/crownsworn/crownsworn/model/KingdomState" "kingdom" "Lcom/example/crownsworn/crownsworn/model/Kingdom;" (.ref u)) :
    MetFree l (⟨"com/example/crownsworn/crownsworn/model/KingdomState", "kingdom", "()Lcom/example/crownsworn/crownsworn/model/Kingdom;"⟩ : MethodName) (head1 (Jvm.Cond.code (⟨"com/example/crownsworn/crownsworn/model/KingdomState", "kingdom", "()Lcom/example/crownsworn/crownsworn/model/Kingdom;"⟩ : MethodName) prog_16_method_2_code 1 (some (.object "com/example/crownsworn/crownsworn/model/Kingdom")) :: ws) ({ frames := 0, cells := 0, slots := 0, locals := 0 } : Room)) (fun aa UU => aa = #[(.ref a)] ∧ Z.Warmed39 UU.vm ∧ UU.heap = h0) (fun _ _ _ _ _ => True) (fun _ UU oo UU' => ∃ vv LL, oo = .returned vv ∧ Q_rm_kingdom Z a u h0 n0 vv UU'.heap LL ∧ FrameEnd UU oo UU' LL ({ frames := 0, cells := 0, slots := 0, locals := 0 } : Room).cells ({ frames := 0, cells := 0, slots := 0, locals := 0 } : Room).slots) := by
  refine MetFree.of_bodySF (plainFor_of_name pn_8) hisR ?_
  intro p e s m args below meth c s₁ Bd hml0 hP hK
  obtain ⟨rfl, hZ, hh⟩ := hP
  have hx := Bd.exec
  have hby := Bd.bytes
  have hml : c.maxLocals = 1 := hml0
  have hown : s.vm.findClass "com/example/crownsworn/crownsworn/model/KingdomState" = some m.cls := findClass_of_methodNamed Bd.named
  have hnm := (name_of_methodNamed Bd.named Bd.method).1
  have hlk : meth.locks = false := BodyLoose.notSynchronized Bd
  have X0 : Stand p l e ({ frames := 0, cells := 0, slots := 0, locals := 0 } : Room) s m #[(.ref a)] below meth c s₁ [] 0 0 := Stand.of_body Bd
  have e0 : s₁.heap = h0 := by rw [← hh, Bd.state]; rfl
  have N0 := Fr.nil n0
  have lt_F_kingdom_a := own_ltN F_kingdom_a.lt
  refine own_in (ef_14 m a) ?_
  refine own_go (T' := s₁) (g' := (mkF m 1 #[.val (.ref a)] [(.ref a)])) (fun t_ k_ => XS.aloadN X0.here hx rfl (hb hby d_prog_16_2_0) rfl rfl k_) ?_
  obtain ⟨T1, X1, e1, st1⟩ := getF X0 hx hZ hown (host := "") (Or.inl (hw _ (List.mem_of_getElem? (i := 112) rfl))) Via.refl e0 F_kingdom_a (g := (mkF m 1 #[.val (.ref a)] [(.ref a)])) rfl rfl (hb hby d_prog_16_2_1)
  refine own_go (T' := T1) (g' := (mkF m 4 #[.val (.ref a)] [(.ref u)])) (fun t_ k_ => st1 _ k_) ?_
  exact own_out X1 (v := some (.ref u)) (fun h => by rw [Bd.returns] at h; cases h) hlk (fun fs hr => own_retA X1 hx Bd.returns rfl rfl (hb hby d_prog_16_2_4) hr) (Q := Q_rm_kingdom Z a u h0 n0) (by rw [e1]; exact ⟨rfl, N0, rfl⟩) (by decide) (by decide)
theorem d_prog_16_45_0 : decode prog_16_method_45_code 0 = .ok (.iload_n 0, 1) := by decide +kernel
theorem d_prog_16_45_1 : decode prog_16_method_45_code 1 = .ok (.iconst 1, 1) := by decide +kernel
theorem d_prog_16_45_2 : decode prog_16_method_45_code 2 = .ok (.if_icmp .ge 17, 3) := by decide +kernel
theorem d_prog_16_45_19 : decode prog_16_method_45_code 19 = .ok (.iload_n 0, 1) := by decide +kernel
theorem d_prog_16_45_20 : decode prog_16_method_45_code 20 = .ok (.ireturn, 1) := by decide +kernel
theorem ef_15 (m : MethodId) (v : Int32) : entryFrame m #[(.int v)] 1 = mkF m 0 #[.val (.int v)] [] := by first | (simp [entryFrame, mkF, argsToLocals, Value.category]; done) | rfl
def Q_rm_positive (Z : State) (v : Int32) (h0 : Heap) (n0 : Nat) (vv : Option Value) (h : Heap) (LL : List Loc) : Prop := vv = some (.int v) ∧ Fr n0 LL ∧ h = h0
set_option maxRecDepth 65536 in
set_option maxHeartbeats 40000000 in
theorem rm_positive (l : Launch) (Z : State) (a0 : Array Value) (hw : ∀ d ∈ tables_1, d.before a0 Z = true) (ws : List Jvm.Cond) (v : Int32) (h0 : Heap) (n0 : Nat) (Z0 : n0 ≤ h0.size) (hv : ¬ (v < (1 : Int32))) :
    MetFree l (⟨"com/example/crownsworn/crownsworn/model/KingdomState", "positive", "(I)I"⟩ : MethodName) (head1 (Jvm.Cond.code (⟨"com/example/crownsworn/crownsworn/model/KingdomState", "positive", "(I)I"⟩ : MethodName) prog_16_method_45_code 1 (some .int) :: ws) ({ frames := 0, cells := 0, slots := 0, locals := 0 } : Room)) (fun aa UU => aa = #[(.int v)] ∧ Z.Warmed39 UU.vm ∧ UU.heap = h0) (fun _ _ _ _ _ => True) (fun _ UU oo UU' => ∃ vv LL, oo = .returned vv ∧ Q_rm_positive Z v h0 n0 vv UU'.heap LL ∧ FrameEnd UU oo UU' LL ({ frames := 0, cells := 0, slots := 0, locals := 0 } : Room).cells ({ frames := 0, cells := 0, slots := 0, locals := 0 } : Room).slots) := by
  refine MetFree.of_bodySF (plainFor_of_name pn_8) hisR ?_
  intro p e s m args below meth c s₁ Bd hml0 hP hK
  obtain ⟨rfl, hZ, hh⟩ := hP
  have hx := Bd.exec
  have hby := Bd.bytes
  have hml : c.maxLocals = 1 := hml0
  have hown : s.vm.findClass "com/example/crownsworn/crownsworn/model/KingdomState" = some m.cls := findClass_of_methodNamed Bd.named
  have hnm := (name_of_methodNamed Bd.named Bd.method).1
  have hlk : meth.locks = false := BodyLoose.notSynchronized Bd
  have X0 : Stand p l e ({ frames := 0, cells := 0, slots := 0, locals := 0 } : Room) s m #[(.int v)] below meth c s₁ [] 0 0 := Stand.of_body Bd
  have e0 : s₁.heap = h0 := by rw [← hh, Bd.state]; rfl
  have N0 := Fr.nil n0
  refine own_in (ef_15 m v) ?_
  refine own_go (T' := s₁) (g' := (mkF m 1 #[.val (.int v)] [(.int v)])) (fun t_ k_ => XS.iloadN X0.here hx rfl (hb hby d_prog_16_45_0) rfl k_) ?_
  refine own_go (T' := s₁) (g' := (mkF m 2 #[.val (.int v)] [(.int (1 : Int32)), (.int v)])) (fun t_ k_ => XS.iconst X0.here hx rfl (hb hby d_prog_16_45_1) k_) ?_
  refine own_go (T' := s₁) (g' := (mkF m 19 #[.val (.int v)] [])) (fun t_ k_ => XS.icmpYes X0.here hx rfl (pc0 := 2) (pc' := 19) rfl (hb hby d_prog_16_45_2) rfl (flt hv).2.1 (by decide) (by decide) k_) ?_
  refine own_go (T' := s₁) (g' := (mkF m 20 #[.val (.int v)] [(.int v)])) (fun t_ k_ => XS.iloadN X0.here hx rfl (hb hby d_prog_16_45_19) rfl k_) ?_
  exact own_out X0 (v := some (.int v)) (fun h => by rw [Bd.returns] at h; cases h) hlk (fun fs hr => retI X0 hx Bd.returns (hb hby d_prog_16_45_20) hr) (Q := Q_rm_positive Z v h0 n0) (by rw [e0]; exact ⟨rfl, N0, rfl⟩) (by decide) (by decide)
theorem d_prog_16_24_0 : decode prog_16_method_24_code 0 = .ok (.aload_n 0, 1) := by decide +kernel
theorem d_prog_16_24_1 : decode prog_16_method_24_code 1 = .ok (.dup, 1) := by decide +kernel
theorem d_prog_16_24_2 : decode prog_16_method_24_code 2 = .ok (.getfield 69, 3) := by decide +kernel
theorem d_prog_16_24_5 : decode prog_16_method_24_code 5 = .ok (.iload_n 1, 1) := by decide +kernel
theorem d_prog_16_24_6 : decode prog_16_method_24_code 6 = .ok (.invokestatic 122, 3) := by decide +kernel
theorem pd_3 : parseMethodDescriptor "(I)I" = some ⟨[.int], some .int⟩ := by decide +kernel
theorem d_prog_16_24_9 : decode prog_16_method_24_code 9 = .ok (.iadd, 1) := by decide +kernel
theorem d_prog_16_24_10 : decode prog_16_method_24_code 10 = .ok (.putfield 69, 3) := by decide +kernel
theorem d_prog_16_24_13 : decode prog_16_method_24_code 13 = .ok (.return_, 1) := by decide +kernel
theorem ef_16 (m : MethodId) (a : Nat) (v : Int32) : entryFrame m #[(.ref a), (.int v)] 2 = mkF m 0 #[.val (.ref a), .val (.int v)] [] := by first | (simp [entryFrame, mkF, argsToLocals, Value.category]; done) | rfl
def Q_rm_gain (Z : State) (a : Nat) (v : Int32) (u : Int32) (kk : Nat) (h0 : Heap) (n0 : Nat) (vv : Option Value) (h : Heap) (LL : List Loc) : Prop := vv = none ∧ Fr n0 LL ∧ Keep h0 h [a] ∧ Fld Z h a "com/example/crownsworn/crownsworn/model/KingdomState" "gold" "I" (.int (0 : Int32)) ∧ Fld Z h a "com/example/crownsworn/crownsworn/model/KingdomState" "sorcery" "I" (.int (0 : Int32)) ∧ Fld Z h a "com/example/crownsworn/crownsworn/model/KingdomState" "empirePoints" "I" (.int (0 : Int32)) ∧ Fld Z h a "com/example/crownsworn/crownsworn/model/KingdomState" "kingdom" "Lcom/example/crownsworn/crownsworn/model/Kingdom;" (.ref kk) ∧ Fld Z h a "com/example/crownsworn/crownsworn/model/KingdomState" "crom" "I" (.int (u + v))
set_option maxRecDepth 65536 in
set_option maxHeartbeats 40000000 in
theorem rm_gain (l : Launch) (Z : State) (a0 : Array Value) (hw : ∀ d ∈ tables_1, d.before a0 Z = true) (ws : List Jvm.Cond) (a : Nat) (v : Int32) (u : Int32) (kk : Nat) (h0 : Heap) (n0 : Nat) (Z0 : n0 ≤ h0.size) (E_a : Exa Z h0 a "com/example/crownsworn/crownsworn/model/KingdomState") (F_crom_a : Fld Z h0 a "com/example/crownsworn/crownsworn/model/KingdomState" "crom" "I" (.int u)) (g_a : n0 ≤ a) (hv : ¬ (v < (1 : Int32))) (F_gold_a : Fld Z h0 a "com/example/crownsworn/crownsworn/model/KingdomState" "gold" "I" (.int (0 : Int32))) (F_sorcery_a : Fld Z h0 a "com/example/crownsworn/crownsworn/model/KingdomState" "sorcery" "I" (.int (0 : Int32))) (F_empirePoints_a : Fld Z h0 a "com/example/crownsworn/crownsworn/model/KingdomState" "empirePoints" "I" (.int (0 : Int32))) (F_kingdom_a : Fld Z h0 a "com/example/crownsworn/crownsworn/model/KingdomState" "kingdom" "Lcom/example/crownsworn/crownsworn/model/Kingdom;" (.ref kk)) :
    MetFree l (⟨"com/example/crownsworn/crownsworn/model/KingdomState", "gainCrom", "(I)V"⟩ : MethodName) (head1 (Jvm.Cond.code (⟨"com/example/crownsworn/crownsworn/model/KingdomState", "gainCrom", "(I)V"⟩ : MethodName) prog_16_method_24_code 2 none :: ws) ({ frames := 1, cells := 0, slots := 0, locals := 14 } : Room)) (fun aa UU => aa = #[(.ref a), (.int v)] ∧ Z.Warmed39 UU.vm ∧ UU.heap = h0) (fun _ _ _ _ _ => True) (fun _ UU oo UU' => ∃ vv LL, oo = .returned vv ∧ Q_rm_gain Z a v u kk h0 n0 vv UU'.heap LL ∧ FrameEnd UU oo UU' LL ({ frames := 1, cells := 0, slots := 0, locals := 14 } : Room).cells ({ frames := 1, cells := 0, slots := 0, locals := 14 } : Room).slots) := by
  refine MetFree.of_bodySF (plainFor_of_name pn_8) hisR ?_
  intro p e s m args below meth c s₁ Bd hml0 hP hK
  obtain ⟨rfl, hZ, hh⟩ := hP
  have hx := Bd.exec
  have hby := Bd.bytes
  have hml : c.maxLocals = 2 := hml0
  have hown : s.vm.findClass "com/example/crownsworn/crownsworn/model/KingdomState" = some m.cls := findClass_of_methodNamed Bd.named
  have hnm := (name_of_methodNamed Bd.named Bd.method).1
  have hlk : meth.locks = false := BodyLoose.notSynchronized Bd
  have X0 : Stand p l e ({ frames := 1, cells := 0, slots := 0, locals := 14 } : Room) s m #[(.ref a), (.int v)] below meth c s₁ [] 0 0 := Stand.of_body Bd
  have e0 : s₁.heap = h0 := by rw [← hh, Bd.state]; rfl
  have N0 := Fr.nil n0
  have lt_E_a := own_ltN E_a.lt
  have lt_F_crom_a := own_ltN F_crom_a.lt
  have lt_F_gold_a := own_ltN F_gold_a.lt
  have lt_F_sorcery_a := own_ltN F_sorcery_a.lt
  have lt_F_empirePoints_a := own_ltN F_empirePoints_a.lt
  have lt_F_kingdom_a := own_ltN F_kingdom_a.lt
  refine own_in (ef_16 m a v) ?_
  refine own_go (T' := s₁) (g' := (mkF m 1 #[.val (.ref a), .val (.int v)] [(.ref a)])) (fun t_ k_ => XS.aloadN X0.here hx rfl (hb hby d_prog_16_24_0) rfl rfl k_) ?_
  refine own_go (T' := s₁) (g' := (mkF m 2 #[.val (.ref a), .val (.int v)] [(.ref a), (.ref a)])) (fun t_ k_ => XS.dup X0.here hx rfl (hb hby d_prog_16_24_1) rfl rfl k_) ?_
  obtain ⟨T1, X1, e1, st1⟩ := getF X0 hx hZ hown (host := "") (Or.inl (hw _ (List.mem_of_getElem? (i := 119) rfl))) Via.refl e0 F_crom_a (g := (mkF m 2 #[.val (.ref a), .val (.int v)] [(.ref a), (.ref a)])) rfl rfl (hb hby d_prog_16_24_2)
  refine own_go (T' := T1) (g' := (mkF m 5 #[.val (.ref a), .val (.int v)] [(.int u), (.ref a)])) (fun t_ k_ => st1 _ k_) ?_
  refine own_go (T' := T1) (g' := (mkF m 6 #[.val (.ref a), .val (.int v)] [(.int v), (.int u), (.ref a)])) (fun t_ k_ => XS.iloadN X1.here hx rfl (hb hby d_prog_16_24_5) rfl k_) ?_
  obtain ⟨_, _, ⟨T2, L2, k2, n2⟩, -, X2, ⟨Lc2, hQ2, l2, y2, z2⟩, st2⟩ := Jvm.LawKit.callS X1 hx (y := (⟨"com/example/crownsworn/crownsworn/model/KingdomState", "positive", "(I)I"⟩ : MethodName)) hown (mvT hZ (hw _ (List.mem_of_getElem? (i := 131) rfl))) (mvT hZ (hw _ (List.mem_of_getElem? (i := 132) rfl))) (mvT hZ (hw _ (List.mem_of_getElem? (i := 9) rfl))) (mvT hZ (hw _ (List.mem_of_getElem? (i := 133) rfl))) (by decide) (backOf (W := 2) (rm_positive l Z a0 hw [] v h0 n0 (show n0 ≤ h0.size by omega) hv) hZ (hw _ (List.mem_of_getElem? (i := 133) rfl)) (hw _ (List.mem_of_getElem? (i := 9) rfl)) (by decide) (by decide)) (g := (mkF m 6 #[.val (.ref a), .val (.int v)] [(.int v), (.int u), (.ref a)])) rfl (by rw [hml]; rfl) (argsL := [(.int v)]) (rest := [(.int u), (.ref a)]) (lenOf pd_3 rfl) rfl (by show 2 * 0 + _ ≤ _; exact Nat.le_of_eq rfl) (hb hby d_prog_16_24_6) (fun _ _ => ⟨rfl, e1, (by decide : 0 + 0 ≤ _), (by decide : 0 + 0 ≤ _)⟩)
  dsimp only [Pt.U, Pt.locs, Pt.cells, Pt.slots] at X2 l2 y2 z2 st2 hQ2
  subst l2 y2 z2
  obtain ⟨rfl, M2, e2⟩ := hQ2
  have N2 := Fr.app N0 M2
  refine own_go (T' := T2) (g' := (mkF m 9 #[.val (.ref a), .val (.int v)] [(.int v), (.int u), (.ref a)])) (fun t_ k_ => st2 _ k_) ?_
  refine own_go (T' := T2) (g' := (mkF m 10 #[.val (.ref a), .val (.int v)] [(.int (u + v)), (.ref a)])) (fun t_ k_ => XS.iadd X2.here hx rfl (hb hby d_prog_16_24_9) rfl k_) ?_
  obtain ⟨T3, h3, X3, e3, W3, st3⟩ := putF X2 hx hZ hown (host := "") (Or.inl (hw _ (List.mem_of_getElem? (i := 119) rfl))) Via.refl e2 F_crom_a E_a (Or.inl (hw _ (List.mem_of_getElem? (i := 120) rfl))) (hw _ (List.mem_of_getElem? (i := 8) rfl)) (ty := .int) (by decide) rfl rfl (g := (mkF m 10 #[.val (.ref a), .val (.int v)] [(.int (u + v)), (.ref a)])) rfl rfl (hb hby d_prog_16_24_10)
  have F3 := F_crom_a.same W3
  have z3 := W3.size
  have N3 := Fr.snoc X3 N2 (show n0 ≤ a by omega)
  have K3 := (Keep.refl h0 [a]).wr W3 (Or.inl (List.mem_of_getElem? (i := 0) rfl))
  refine own_go (T' := T3) (g' := (mkF m 13 #[.val (.ref a), .val (.int v)] [])) (fun t_ k_ => st3 _ k_) ?_
  have ff4 := (F_gold_a.other W3 (Or.inr (slot_ne (Or.inl (hw _ (List.mem_of_getElem? (i := 140) rfl))) (Or.inl (hw _ (List.mem_of_getElem? (i := 120) rfl))) (by decide) (t := .int) (t' := .int) (by decide) (by decide))))
  have ff5 := (F_sorcery_a.other W3 (Or.inr (slot_ne (Or.inl (hw _ (List.mem_of_getElem? (i := 147) rfl))) (Or.inl (hw _ (List.mem_of_getElem? (i := 120) rfl))) (by decide) (t := .int) (t' := .int) (by decide) (by decide))))
  have ff6 := (F_empirePoints_a.other W3 (Or.inr (slot_ne (Or.inl (hw _ (List.mem_of_getElem? (i := 154) rfl))) (Or.inl (hw _ (List.mem_of_getElem? (i := 120) rfl))) (by decide) (t := .int) (t' := .int) (by decide) (by decide))))
  have ff7 := (F_kingdom_a.other W3 (Or.inr (slot_ne (Or.inr (hw _ (List.mem_of_getElem? (i := 113) rfl))) (Or.inl (hw _ (List.mem_of_getElem? (i := 120) rfl))) (by decide) (t := (.object "com/example/crownsworn/crownsworn/model/Kingdom")) (t' := .int) (by decide) (by decide))))
  exact own_out X3 (v := none) (fun _ => rfl) hlk (fun fs hr => X3.returnOut hx Bd.returns (hb hby d_prog_16_24_13) hr) (Q := Q_rm_gain Z a v u kk h0 n0) (by rw [e3]; exact ⟨rfl, N3, K3, ff4, ff5, ff6, ff7, F3⟩) (by decide) (by decide)
theorem d_jdk_29_65_0 : decode jdk_29_method_65_code 0 = .ok (.iload_n 0, 1) := by decide +kernel
theorem d_jdk_29_65_1 : decode jdk_29_method_65_code 1 = .ok (.iload_n 1, 1) := by decide +kernel
theorem d_jdk_29_65_2 : decode jdk_29_method_65_code 2 = .ok (.if_icmp .lt 7, 3) := by decide +kernel
theorem d_jdk_29_65_9 : decode jdk_29_method_65_code 9 = .ok (.iload_n 1, 1) := by decide +kernel
theorem d_jdk_29_65_10 : decode jdk_29_method_65_code 10 = .ok (.ireturn, 1) := by decide +kernel
theorem d_jdk_29_65_5 : decode jdk_29_method_65_code 5 = .ok (.iload_n 0, 1) := by decide +kernel
theorem d_jdk_29_65_6 : decode jdk_29_method_65_code 6 = .ok (.goto 4, 3) := by decide +kernel
theorem ef_17 (m : MethodId) (p1 : Int32) (p2 : Int32) : entryFrame m #[(.int p1), (.int p2)] 2 = mkF m 0 #[.val (.int p1), .val (.int p2)] [] := by first | (simp [entryFrame, mkF, argsToLocals, Value.category]; done) | rfl
def Q_rm_max (Z : State) (p1 : Int32) (p2 : Int32) (r : Int32) (h0 : Heap) (n0 : Nat) (vv : Option Value) (h : Heap) (LL : List Loc) : Prop := vv = some (.int r) ∧ Fr n0 LL ∧ h = h0
set_option maxRecDepth 65536 in
set_option maxHeartbeats 40000000 in
theorem rm_max (l : Launch) (Z : State) (a0 : Array Value) (hw : ∀ d ∈ tables_1, d.before a0 Z = true) (ws : List Jvm.Cond) (p1 : Int32) (p2 : Int32) (r : Int32) (h0 : Heap) (n0 : Nat) (Z0 : n0 ≤ h0.size) (hr0 : r = (if p1 < p2 then p2 else p1)) :
    MetFree l (⟨"java/lang/Math", "max", "(II)I"⟩ : MethodName) (head1 (Jvm.Cond.code (⟨"java/lang/Math", "max", "(II)I"⟩ : MethodName) jdk_29_method_65_code 2 (some .int) :: ws) ({ frames := 0, cells := 0, slots := 0, locals := 0 } : Room)) (fun aa UU => aa = #[(.int p1), (.int p2)] ∧ Z.Warmed39 UU.vm ∧ UU.heap = h0) (fun _ _ _ _ _ => True) (fun _ UU oo UU' => ∃ vv LL, oo = .returned vv ∧ Q_rm_max Z p1 p2 r h0 n0 vv UU'.heap LL ∧ FrameEnd UU oo UU' LL ({ frames := 0, cells := 0, slots := 0, locals := 0 } : Room).cells ({ frames := 0, cells := 0, slots := 0, locals := 0 } : Room).slots) := by
  refine MetFree.of_bodySF (Jvm.Free.JP.mathPlain rfl (by decide +kernel)) hisR ?_
  intro p e s m args below meth c s₁ Bd hml0 hP hK
  obtain ⟨rfl, hZ, hh⟩ := hP
  have hx := Bd.exec
  have hby := Bd.bytes
  have hml : c.maxLocals = 2 := hml0
  have hown : s.vm.findClass "java/lang/Math" = some m.cls := findClass_of_methodNamed Bd.named
  have hnm := (name_of_methodNamed Bd.named Bd.method).1
  have hlk : meth.locks = false := BodyLoose.notSynchronized Bd
  have X0 : Stand p l e ({ frames := 0, cells := 0, slots := 0, locals := 0 } : Room) s m #[(.int p1), (.int p2)] below meth c s₁ [] 0 0 := Stand.of_body Bd
  have e0 : s₁.heap = h0 := by rw [← hh, Bd.state]; rfl
  have N0 := Fr.nil n0
  refine own_in (ef_17 m p1 p2) ?_
  refine own_go (T' := s₁) (g' := (mkF m 1 #[.val (.int p1), .val (.int p2)] [(.int p1)])) (fun t_ k_ => XS.iloadN X0.here hx rfl (hb hby d_jdk_29_65_0) rfl k_) ?_
  refine own_go (T' := s₁) (g' := (mkF m 2 #[.val (.int p1), .val (.int p2)] [(.int p2), (.int p1)])) (fun t_ k_ => XS.iloadN X0.here hx rfl (hb hby d_jdk_29_65_1) rfl k_) ?_
  by_cases c1 : p1 < p2
  · -- p1 < p2
    refine own_go (T' := s₁) (g' := (mkF m 9 #[.val (.int p1), .val (.int p2)] [])) (fun t_ k_ => XS.icmpYes X0.here hx rfl (pc0 := 2) (pc' := 9) rfl (hb hby d_jdk_29_65_2) rfl (tlt c1).1 (by decide) (by decide) k_) ?_
    refine own_go (T' := s₁) (g' := (mkF m 10 #[.val (.int p1), .val (.int p2)] [(.int p2)])) (fun t_ k_ => XS.iloadN X0.here hx rfl (hb hby d_jdk_29_65_9) rfl k_) ?_
    exact own_out X0 (v := some (.int p2)) (fun h => by rw [Bd.returns] at h; cases h) hlk (fun fs hr => retI X0 hx Bd.returns (hb hby d_jdk_29_65_10) hr) (Q := Q_rm_max Z p1 p2 r h0 n0) (by rw [e0]; exact ⟨(congrArg (fun z => some (Value.int z)) (hr0.trans (if_pos c1)).symm), N0, rfl⟩) (by decide) (by decide)
  · -- not p1 < p2
    refine own_go (T' := s₁) (g' := (mkF m 5 #[.val (.int p1), .val (.int p2)] [])) (fun t_ k_ => XS.icmpNo X0.here hx rfl (hb hby d_jdk_29_65_2) rfl (flt c1).1 k_) ?_
    refine own_go (T' := s₁) (g' := (mkF m 6 #[.val (.int p1), .val (.int p2)] [(.int p1)])) (fun t_ k_ => XS.iloadN X0.here hx rfl (hb hby d_jdk_29_65_5) rfl k_) ?_
    refine own_go (T' := s₁) (g' := (mkF m 10 #[.val (.int p1), .val (.int p2)] [(.int p1)])) (fun t_ k_ => XS.goto X0.here hx rfl (pc0 := 6) (pc' := 10) rfl (hb hby d_jdk_29_65_6) (by decide) (by decide) k_) ?_
    exact own_out X0 (v := some (.int p1)) (fun h => by rw [Bd.returns] at h; cases h) hlk (fun fs hr => retI X0 hx Bd.returns (hb hby d_jdk_29_65_10) hr) (Q := Q_rm_max Z p1 p2 r h0 n0) (by rw [e0]; exact ⟨(congrArg (fun z => some (Value.int z)) (hr0.trans (if_neg c1)).symm), N0, rfl⟩) (by decide) (by decide)
theorem d_method_2_0 : decode method_2_code 0 = .ok (.iload_n 0, 1) := by decide +kernel
theorem d_method_2_1 : decode method_2_code 1 = .ok (.iconst 3, 1) := by decide +kernel
theorem d_method_2_2 : decode method_2_code 2 = .ok (.iand, 1) := by decide +kernel
theorem d_method_2_3 : decode method_2_code 3 = .ok (.istore_n 1, 1) := by decide +kernel
theorem d_method_2_4 : decode method_2_code 4 = .ok (.iload_n 1, 1) := by decide +kernel
theorem d_method_2_5 : decode method_2_code 5 = .ok (.ifCond .ne 7, 3) := by decide +kernel
theorem d_method_2_8 : decode method_2_code 8 = .ok (.getstatic 7, 3) := by decide +kernel
theorem d_method_2_11 : decode method_2_code 11 = .ok (.areturn, 1) := by decide +kernel
theorem d_method_2_12 : decode method_2_code 12 = .ok (.iload_n 1, 1) := by decide +kernel
theorem d_method_2_13 : decode method_2_code 13 = .ok (.iconst 1, 1) := by decide +kernel
theorem d_method_2_14 : decode method_2_code 14 = .ok (.if_icmp .ne 7, 3) := by decide +kernel
theorem d_method_2_17 : decode method_2_code 17 = .ok (.getstatic 13, 3) := by decide +kernel
theorem d_method_2_20 : decode method_2_code 20 = .ok (.areturn, 1) := by decide +kernel
theorem d_method_2_21 : decode method_2_code 21 = .ok (.iload_n 1, 1) := by decide +kernel
theorem d_method_2_22 : decode method_2_code 22 = .ok (.iconst 2, 1) := by decide +kernel
theorem d_method_2_23 : decode method_2_code 23 = .ok (.if_icmp .ne 7, 3) := by decide +kernel
theorem d_method_2_26 : decode method_2_code 26 = .ok (.getstatic 16, 3) := by decide +kernel
theorem d_method_2_29 : decode method_2_code 29 = .ok (.areturn, 1) := by decide +kernel
theorem d_method_2_30 : decode method_2_code 30 = .ok (.getstatic 19, 3) := by decide +kernel
theorem d_method_2_33 : decode method_2_code 33 = .ok (.areturn, 1) := by decide +kernel
theorem pn_9 : plainName "com/example/crownsworn/crownsworn/model/KingdomStateGainCromPinLaw" = true := by first | (simp [plainName, overriddenIn]; done) | decide +kernel
theorem ef_18 (m : MethodId) (k : Int32) : entryFrame m #[(.int k)] 2 = mkF m 0 #[.val (.int k), .unset] [] := by first | (simp [entryFrame, mkF, argsToLocals, Value.category]; done) | rfl
def Q_rm_pick (Z : State) (k : Int32) (wA : Nat) (wT : Nat) (wS : Nat) (wH : Nat) (r : Addr) (h0 : Heap) (n0 : Nat) (vv : Option Value) (h : Heap) (LL : List Loc) : Prop := vv = some (.ref r) ∧ Fr n0 LL ∧ h = h0
set_option maxRecDepth 65536 in
set_option maxHeartbeats 40000000 in
theorem rm_pick (l : Launch) (Z : State) (a0 : Array Value) (hw : ∀ d ∈ tables_1, d.before a0 Z = true) (ws : List Jvm.Cond) (k : Int32) (wA : Nat) (wT : Nat) (wS : Nat) (wH : Nat) (r : Addr) (h0 : Heap) (n0 : Nat) (Z0 : n0 ≤ h0.size) (O0 : Old Z n0 h0) (S_AQUILONIA : Sta Z Z.heap "com/example/crownsworn/crownsworn/model/Kingdom" "AQUILONIA" "Lcom/example/crownsworn/crownsworn/model/Kingdom;" (.ref wA)) (S_TURAN : Sta Z Z.heap "com/example/crownsworn/crownsworn/model/Kingdom" "TURAN" "Lcom/example/crownsworn/crownsworn/model/Kingdom;" (.ref wT)) (S_STYGIA : Sta Z Z.heap "com/example/crownsworn/crownsworn/model/Kingdom" "STYGIA" "Lcom/example/crownsworn/crownsworn/model/Kingdom;" (.ref wS)) (S_HYPERBOREA : Sta Z Z.heap "com/example/crownsworn/crownsworn/model/Kingdom" "HYPERBOREA" "Lcom/example/crownsworn/crownsworn/model/Kingdom;" (.ref wH)) (hr0 : r = (if (k &&& (3 : Int32)) = (0 : Int32) then wA else (if (k &&& (3 : Int32)) = (1 : Int32) then wT else (if (k &&& (3 : Int32)) = (2 : Int32) then wS else wH)))) :
    MetFree l (⟨"com/example/crownsworn/crownsworn/model/KingdomStateGainCromPinLaw", "pick", "(I)Lcom/example/crownsworn/crownsworn/model/Kingdom;"⟩ : MethodName) (head1 (Jvm.Cond.code (⟨"com/example/crownsworn/crownsworn/model/KingdomStateGainCromPinLaw", "pick", "(I)Lcom/example/crownsworn/crownsworn/model/Kingdom;"⟩ : MethodName) method_2_code 2 (some (.object "com/example/crownsworn/crownsworn/model/Kingdom")) :: ws) ({ frames := 0, cells := 0, slots := 0, locals := 0 } : Room)) (fun aa UU => aa = #[(.int k)] ∧ Z.Warmed39 UU.vm ∧ UU.heap = h0) (fun _ _ _ _ _ => True) (fun _ UU oo UU' => ∃ vv LL, oo = .returned vv ∧ Q_rm_pick Z k wA wT wS wH r h0 n0 vv UU'.heap LL ∧ FrameEnd UU oo UU' LL ({ frames := 0, cells := 0, slots := 0, locals := 0 } : Room).cells ({ frames := 0, cells := 0, slots := 0, locals := 0 } : Room).slots) := by
  refine MetFree.of_bodySF (plainFor_of_name pn_9) hisR ?_
  intro p e s m args below meth c s₁ Bd hml0 hP hK
  obtain ⟨rfl, hZ, hh⟩ := hP
  have hx := Bd.exec
  have hby := Bd.bytes
  have hml : c.maxLocals = 2 := hml0
  have hown : s.vm.findClass "com/example/crownsworn/crownsworn/model/KingdomStateGainCromPinLaw" = some m.cls := findClass_of_methodNamed Bd.named
  have hnm := (name_of_methodNamed Bd.named Bd.method).1
  have hlk : meth.locks = false := BodyLoose.notSynchronized Bd
  have X0 : Stand p l e ({ frames := 0, cells := 0, slots := 0, locals := 0 } : Room) s m #[(.int k)] below meth c s₁ [] 0 0 := Stand.of_body Bd
  have e0 : s₁.heap = h0 := by rw [← hh, Bd.state]; rfl
  have N0 := Fr.nil n0
  refine own_in (ef_18 m k) ?_
  refine own_go (T' := s₁) (g' := (mkF m 1 #[.val (.int k), .unset] [(.int k)])) (fun t_ k_ => XS.iloadN X0.here hx rfl (hb hby d_method_2_0) rfl k_) ?_
  refine own_go (T' := s₁) (g' := (mkF m 2 #[.val (.int k), .unset] [(.int (3 : Int32)), (.int k)])) (fun t_ k_ => XS.iconst X0.here hx rfl (hb hby d_method_2_1) k_) ?_
  refine own_go (T' := s₁) (g' := (mkF m 3 #[.val (.int k), .unset] [(.int (k &&& (3 : Int32)))])) (fun t_ k_ => XS.iand X0.here hx rfl (hb hby d_method_2_2) rfl k_) ?_
  refine own_go (T' := s₁) (g' := (mkF m 4 #[.val (.int k), .val (.int (k &&& (3 : Int32)))] [])) (fun t_ k_ => XS.istoreN X0.here hx rfl (hb hby d_method_2_3) rfl (l' := #[.val (.int k), .val (.int (k &&& (3 : Int32)))]) rfl k_) ?_
  refine own_go (T' := s₁) (g' := (mkF m 5 #[.val (.int k), .val (.int (k &&& (3 : Int32)))] [(.int (k &&& (3 : Int32)))])) (fun t_ k_ => XS.iloadN X0.here hx rfl (hb hby d_method_2_4) rfl k_) ?_
  by_cases c1 : (k &&& (3 : Int32)) = (0 : Int32)
  · -- (k &&& (3 : Int32)) = (0 : Int32)
    refine own_go (T' := s₁) (g' := (mkF m 8 #[.val (.int k), .val (.int (k &&& (3 : Int32)))] [])) (fun t_ k_ => XS.ifNo X0.here hx rfl (hb hby d_method_2_5) rfl ((if0 _ _).trans (teq c1).2) k_) ?_
    obtain ⟨T2, X2, e2, st2⟩ := getS2 X0 hx hZ hown (host := "") (Or.inl (hw _ (List.mem_of_getElem? (i := 4) rfl))) Via.refl e0 (S_AQUILONIA.ext O0.2) (g := (mkF m 8 #[.val (.int k), .val (.int (k &&& (3 : Int32)))] [])) rfl (hb hby d_method_2_8)
    refine own_go (T' := T2) (g' := (mkF m 11 #[.val (.int k), .val (.int (k &&& (3 : Int32)))] [(.ref wA)])) (fun t_ k_ => st2 _ k_) ?_
    exact own_out X2 (v := some (.ref wA)) (fun h => by rw [Bd.returns] at h; cases h) hlk (fun fs hr => own_retA X2 hx Bd.returns rfl rfl (hb hby d_method_2_11) hr) (Q := Q_rm_pick Z k wA wT wS wH r h0 n0) (by rw [e2]; exact ⟨(congrArg (fun z => some (Value.ref z)) (hr0.trans ((if_pos c1))).symm), N0, rfl⟩) (by decide) (by decide)
  · -- not (k &&& (3 : Int32)) = (0 : Int32)
    refine own_go (T' := s₁) (g' := (mkF m 12 #[.val (.int k), .val (.int (k &&& (3 : Int32)))] [])) (fun t_ k_ => XS.ifYes X0.here hx rfl (pc0 := 5) (pc' := 12) rfl (hb hby d_method_2_5) rfl ((if0 _ _).trans (feq c1).2) (by decide) (by decide) k_) ?_
    refine own_go (T' := s₁) (g' := (mkF m 13 #[.val (.int k), .val (.int (k &&& (3 : Int32)))] [(.int (k &&& (3 : Int32)))])) (fun t_ k_ => XS.iloadN X0.here hx rfl (hb hby d_method_2_12) rfl k_) ?_
    refine own_go (T' := s₁) (g' := (mkF m 14 #[.val (.int k), .val (.int (k &&& (3 : Int32)))] [(.int (1 : Int32)), (.int (k &&& (3 : Int32)))])) (fun t_ k_ => XS.iconst X0.here hx rfl (hb hby d_method_2_13) k_) ?_
    by_cases c3 : (k &&& (3 : Int32)) = (1 : Int32)
    · -- (k &&& (3 : Int32)) = (1 : Int32)
      refine own_go (T' := s₁) (g' := (mkF m 17 #[.val (.int k), .val (.int (k &&& (3 : Int32)))] [])) (fun t_ k_ => XS.icmpNo X0.here hx rfl (hb hby d_method_2_14) rfl (teq c3).2 k_) ?_
      obtain ⟨T4, X4, e4, st4⟩ := getS2 X0 hx hZ hown (host := "") (Or.inl (hw _ (List.mem_of_getElem? (i := 160) rfl))) Via.refl e0 (S_TURAN.ext O0.2) (g := (mkF m 17 #[.val (.int k), .val (.int (k &&& (3 : Int32)))] [])) rfl (hb hby d_method_2_17)
      refine own_go (T' := T4) (g' := (mkF m 20 #[.val (.int k), .val (.int (k &&& (3 : Int32)))] [(.ref wT)])) (fun t_ k_ => st4 _ k_) ?_
      exact own_out X4 (v := some (.ref wT)) (fun h => by rw [Bd.returns] at h; cases h) hlk (fun fs hr => own_retA X4 hx Bd.returns rfl rfl (hb hby d_method_2_20) hr) (Q := Q_rm_pick Z k wA wT wS wH r h0 n0) (by rw [e4]; exact ⟨(congrArg (fun z => some (Value.ref z)) (hr0.trans ((if_neg c1).trans ((if_pos c3)))).symm), N0, rfl⟩) (by decide) (by decide)
    · -- not (k &&& (3 : Int32)) = (1 : Int32)
      refine own_go (T' := s₁) (g' := (mkF m 21 #[.val (.int k), .val (.int (k &&& (3 : Int32)))] [])) (fun t_ k_ => XS.icmpYes X0.here hx rfl (pc0 := 14) (pc' := 21) rfl (hb hby d_method_2_14) rfl (feq c3).2 (by decide) (by decide) k_) ?_
      refine own_go (T' := s₁) (g' := (mkF m 22 #[.val (.int k), .val (.int (k &&& (3 : Int32)))] [(.int (k &&& (3 : Int32)))])) (fun t_ k_ => XS.iloadN X0.here hx rfl (hb hby d_method_2_21) rfl k_) ?_
      refine own_go (T' := s₁) (g' := (mkF m 23 #[.val (.int k), .val (.int (k &&& (3 : Int32)))] [(.int (2 : Int32)), (.int (k &&& (3 : Int32)))])) (fun t_ k_ => XS.iconst X0.here hx rfl (hb hby d_method_2_22) k_) ?_
      by_cases c5 : (k &&& (3 : Int32)) = (2 : Int32)
      · -- (k &&& (3 : Int32)) = (2 : Int32)
        refine own_go (T' := s₁) (g' := (mkF m 26 #[.val (.int k), .val (.int (k &&& (3 : Int32)))] [])) (fun t_ k_ => XS.icmpNo X0.here hx rfl (hb hby d_method_2_23) rfl (teq c5).2 k_) ?_
        obtain ⟨T6, X6, e6, st6⟩ := getS2 X0 hx hZ hown (host := "") (Or.inl (hw _ (List.mem_of_getElem? (i := 164) rfl))) Via.refl e0 (S_STYGIA.ext O0.2) (g := (mkF m 26 #[.val (.int k), .val (.int (k &&& (3 : Int32)))] [])) rfl (hb hby d_method_2_26)
        refine own_go (T' := T6) (g' := (mkF m 29 #[.val (.int k), .val (.int (k &&& (3 : Int32)))] [(.ref wS)])) (fun t_ k_ => st6 _ k_) ?_
        exact own_out X6 (v := some (.ref wS)) (fun h => by rw [Bd.returns] at h; cases h) hlk (fun fs hr => own_retA X6 hx Bd.returns rfl rfl (hb hby d_method_2_29) hr) (Q := Q_rm_pick Z k wA wT wS wH r h0 n0) (by rw [e6]; exact ⟨(congrArg (fun z => some (Value.ref z)) (hr0.trans ((if_neg c1).trans ((if_neg c3).trans ((if_pos c5))))).symm), N0, rfl⟩) (by decide) (by decide)
      · -- not (k &&& (3 : Int32)) = (2 : Int32)
        refine own_go (T' := s₁) (g' := (mkF m 30 #[.val (.int k), .val (.int (k &&& (3 : Int32)))] [])) (fun t_ k_ => XS.icmpYes X0.here hx rfl (pc0 := 23) (pc' := 30) rfl (hb hby d_method_2_23) rfl (feq c5).2 (by decide) (by decide) k_) ?_
        obtain ⟨T7, X7, e7, st7⟩ := getS2 X0 hx hZ hown (host := "") (Or.inl (hw _ (List.mem_of_getElem? (i := 162) rfl))) Via.refl e0 (S_HYPERBOREA.ext O0.2) (g := (mkF m 30 #[.val (.int k), .val (.int (k &&& (3 : Int32)))] [])) rfl (hb hby d_method_2_30)
        refine own_go (T' := T7) (g' := (mkF m 33 #[.val (.int k), .val (.int (k &&& (3 : Int32)))] [(.ref wH)])) (fun t_ k_ => st7 _ k_) ?_
        exact own_out X7 (v := some (.ref wH)) (fun h => by rw [Bd.returns] at h; cases h) hlk (fun fs hr => own_retA X7 hx Bd.returns rfl rfl (hb hby d_method_2_33) hr) (Q := Q_rm_pick Z k wA wT wS wH r h0 n0) (by rw [e7]; exact ⟨(congrArg (fun z => some (Value.ref z)) (hr0.trans ((if_neg c1).trans ((if_neg c3).trans ((if_neg c5))))).symm), N0, rfl⟩) (by decide) (by decide)
theorem pd_4 : parseMethodDescriptor "(I)Lcom/example/crownsworn/crownsworn/model/Kingdom;" = some ⟨[.int], some (.object "com/example/crownsworn/crownsworn/model/Kingdom")⟩ := by decide +kernel
theorem pd_5 : parseMethodDescriptor "(Lcom/example/crownsworn/crownsworn/model/Kingdom;)V" = some ⟨[(.object "com/example/crownsworn/crownsworn/model/Kingdom")], none⟩ := by decide +kernel
theorem pd_6 : parseMethodDescriptor "()I" = some ⟨[], some .int⟩ := by decide +kernel
theorem pd_7 : parseMethodDescriptor "(II)I" = some ⟨[.int, .int], some .int⟩ := by decide +kernel
theorem pd_8 : parseMethodDescriptor "(I)V" = some ⟨[.int], none⟩ := by decide +kernel
theorem pd_9 : parseMethodDescriptor "()Lcom/example/crownsworn/crownsworn/model/Kingdom;" = some ⟨[], some (.object "com/example/crownsworn/crownsworn/model/Kingdom")⟩ := by decide +kernel
theorem ef_19 (m : MethodId) (v0 : Int32) (v1 : Int32) (v2 : Int32) : entryFrame m #[(.int v0), (.int v1), (.int v2)] maxLocals = mkF m 0 #[.val (.int v0), .val (.int v1), .val (.int v2), .unset, .unset, .unset, .unset, .unset] [] := by first | (simp [entryFrame, mkF, argsToLocals, Value.category, maxLocals]; done) | rfl
def Q_rm_law (Z : State) (v0 : Int32) (v1 : Int32) (v2 : Int32) (wA : Nat) (wT : Nat) (wS : Nat) (wH : Nat) (wD : Nat) (h0 : Heap) (n0 : Nat) (vv : Option Value) (h : Heap) (LL : List Loc) : Prop := vv = some (.int 1) ∧ Fr n0 LL
set_option maxRecDepth 65536 in
set_option maxHeartbeats 40000000 in
theorem rm_law (l : Launch) (Z : State) (a0 : Array Value) (hw : ∀ d ∈ tables_1, d.before a0 Z = true) (ws : List Jvm.Cond) (v0 : Int32) (v1 : Int32) (v2 : Int32) (wA : Nat) (wT : Nat) (wS : Nat) (wH : Nat) (wD : Nat) (h0 : Heap) (n0 : Nat) (Z0 : n0 ≤ h0.size) (O0 : Old Z n0 h0) (S_AQUILONIA : Sta Z Z.heap "com/example/crownsworn/crownsworn/model/Kingdom" "AQUILONIA" "Lcom/example/crownsworn/crownsworn/model/Kingdom;" (.ref wA)) (S_TURAN : Sta Z Z.heap "com/example/crownsworn/crownsworn/model/Kingdom" "TURAN" "Lcom/example/crownsworn/crownsworn/model/Kingdom;" (.ref wT)) (S_STYGIA : Sta Z Z.heap "com/example/crownsworn/crownsworn/model/Kingdom" "STYGIA" "Lcom/example/crownsworn/crownsworn/model/Kingdom;" (.ref wS)) (S_HYPERBOREA : Sta Z Z.heap "com/example/crownsworn/crownsworn/model/Kingdom" "HYPERBOREA" "Lcom/example/crownsworn/crownsworn/model/Kingdom;" (.ref wH)) (S_DEFAULTCAPACITY_EMPTY_ELEMENTDATA : Sta Z Z.heap "java/util/ArrayList" "DEFAULTCAPACITY_EMPTY_ELEMENTDATA" "[Ljava/lang/Object;" (.ref wD)) (EwA : Exa Z Z.heap wA "com/example/crownsworn/crownsworn/model/Kingdom") (EwT : Exa Z Z.heap wT "com/example/crownsworn/crownsworn/model/Kingdom") (EwS : Exa Z Z.heap wS "com/example/crownsworn/crownsworn/model/Kingdom") (EwH : Exa Z Z.heap wH "com/example/crownsworn/crownsworn/model/Kingdom") :
    MetFree l x (head1 (Jvm.Cond.code x code maxLocals ret :: ws) room_1) (fun aa UU => aa = #[(.int v0), (.int v1), (.int v2)] ∧ Z.Warmed39 UU.vm ∧ UU.heap = h0) (fun _ _ _ _ _ => True) (fun _ UU oo UU' => ∃ vv LL, oo = .returned vv ∧ Q_rm_law Z v0 v1 v2 wA wT wS wH wD h0 n0 vv UU'.heap LL ∧ ReturnedEndW UU oo UU' LL room_1.cells room_1.slots) := by
  refine MetFree.of_bodySF (plainFor_of_name pn_9) hisR ?_
  intro p e s m args below meth c s₁ Bd hml0 hP hK
  obtain ⟨rfl, hZ, hh⟩ := hP
  have hx := Bd.exec
  have hby := Bd.bytes
  have hml : c.maxLocals = 8 := hml0
  have hown : s.vm.findClass "com/example/crownsworn/crownsworn/model/KingdomStateGainCromPinLaw" = some m.cls := findClass_of_methodNamed Bd.named
  have hnm := (name_of_methodNamed Bd.named Bd.method).1
  have hlk : meth.locks = false := BodyLoose.notSynchronized Bd
  have X0 : Stand p l e room_1 (s.setVm s.vm) m #[(.int v0), (.int v1), (.int v2)] below meth c s₁ [] 0 0 := Stand.of_body Bd
  have e0 : s₁.heap = h0 := by rw [← hh, Bd.state]; rfl
  have N0 := Fr.nil n0
  have hS : s.Since s.vm 0 := own_since s
  have hk : 0 ≤ h0.size := Nat.zero_le _
  have hwS : ∀ a ∈ Bundle.stringAtoms, a.before a0 Z = true := fun d hd => hw d ((by decide +kernel : ∀ d ∈ Bundle.stringAtoms, d ∈ tables_1) d hd)
  obtain ⟨kd, hkd⟩ : ∃ z : Addr, z = (if (v0 &&& (3 : Int32)) = (0 : Int32) then wA else (if (v0 &&& (3 : Int32)) = (1 : Int32) then wT else (if (v0 &&& (3 : Int32)) = (2 : Int32) then wS else wH))) := ⟨_, rfl⟩
  have EK : Exa Z Z.heap kd "com/example/crownsworn/crownsworn/model/Kingdom" := by
    rw [hkd]
    split
    · exact EwA
    · split
      · exact EwT
      · split
        · exact EwS
        · exact EwH
  have EKh := EK.ext O0.2
  have ltk := EKh.lt
  obtain ⟨a1, ha1⟩ : ∃ z : Int32, z = (if (1 : Int32) < (v1 &&& (2147483647 : Int32)) then (v1 &&& (2147483647 : Int32)) else (1 : Int32)) := ⟨_, rfl⟩
  have one1 : 1 ≤ a1.toInt := by rw [ha1]; exact own_one (own_pos _)
  have ge1 := own_ge1 one1
  refine own_in (ef_19 m v0 v1 v2) ?_
  refine own_go (T' := s₁) (g' := (mkF m 1 #[.val (.int v0), .val (.int v1), .val (.int v2), .unset, .unset, .unset, .unset, .unset] [(.int v0)])) (fun t_ k_ => XS.iloadN X0.here hx rfl (hb hby at_0) rfl k_) ?_
  obtain ⟨_, _, ⟨T1, L1, k1, n1⟩, -, X1, ⟨Lc1, hQ1, l1, y1, z1⟩, st1⟩ := Jvm.LawKit.callS X0 hx (y := (⟨"com/example/crownsworn/crownsworn/model/KingdomStateGainCromPinLaw", "pick", "(I)Lcom/example/crownsworn/crownsworn/model/Kingdom;"⟩ : MethodName)) hown (mvT hZ (hw _ (List.mem_of_getElem? (i := 0) rfl))) (mvT hZ (hw _ (List.mem_of_getElem? (i := 1) rfl))) (mvT hZ (hw _ (List.mem_of_getElem? (i := 2) rfl))) (mvT hZ (hw _ (List.mem_of_getElem? (i := 3) rfl))) (by decide) (backOf (W := 0) (rm_pick l Z a0 hw [] v0 wA wT wS wH kd h0 n0 (show n0 ≤ h0.size by omega) O0 S_AQUILONIA S_TURAN S_STYGIA S_HYPERBOREA hkd) hZ (hw _ (List.mem_of_getElem? (i := 3) rfl)) (hw _ (List.mem_of_getElem? (i := 2) rfl)) (by decide) (by decide)) (g := (mkF m 1 #[.val (.int v0), .val (.int v1), .val (.int v2), .unset, .unset, .unset, .unset, .unset] [(.int v0)])) rfl (by rw [hml]; rfl) (argsL := [(.int v0)]) (rest := []) (lenOf pd_4 rfl) rfl (by show 2 * 0 + _ ≤ _; exact Nat.le_of_eq rfl) (hb hby at_1) (fun _ _ => ⟨rfl, e0, (by decide : 0 + 0 ≤ _), (by decide : 0 + 0 ≤ _)⟩)
  dsimp only [Pt.U, Pt.locs, Pt.cells, Pt.slots] at X1 l1 y1 z1 st1 hQ1
  subst l1 y1 z1
  obtain ⟨rfl, M1, e1⟩ := hQ1
  have N1 := Fr.app N0 M1
  refine own_go (T' := T1) (g' := (mkF m 4 #[.val (.int v0), .val (.int v1), .val (.int v2), .unset, .unset, .unset, .unset, .unset] [(.ref kd)])) (fun t_ k_ => st1 _ k_) ?_
  refine own_go (T' := T1) (g' := (mkF m 5 #[.val (.int v0), .val (.int v1), .val (.int v2), .val (.ref kd), .unset, .unset, .unset, .unset] [])) (fun t_ k_ => XS.astoreN X1.here hx rfl (hb hby at_4) rfl rfl (l' := #[.val (.int v0), .val (.int v1), .val (.int v2), .val (.ref kd), .unset, .unset, .unset, .unset]) rfl k_) ?_
  obtain ⟨T2, h2, X2, e2, E2, A2, D2, -, st2⟩ := newO X1 hx hZ hown (hw _ (List.mem_of_getElem? (i := 7) rfl)) (hw _ (List.mem_of_getElem? (i := 8) rfl)) (hw _ (List.mem_of_getElem? (i := 9) rfl)) e1 (g := (mkF m 5 #[.val (.int v0), .val (.int v1), .val (.int v2), .val (.ref kd), .unset, .unset, .unset, .unset] [])) rfl (hb hby at_5) (by decide) (by decide)
  obtain ⟨b2, g2⟩ : ∃ z, z = h0.size := ⟨_, rfl⟩
  rw [← g2] at A2 D2 st2
  have l2 := own_ltN A2.lt
  have z2 := E2.1
  have O2 := O0.ext E2
  have F2_hand : Fld Z h2 b2 "com/example/crownsworn/crownsworn/model/KingdomState" "hand" "Ljava/util/List;" .null := D2 (Or.inr (hw _ (List.mem_of_getElem? (i := 41) rfl))) (ty := (.object "java/util/List")) (by decide)
  have F2_tokens : Fld Z h2 b2 "com/example/crownsworn/crownsworn/model/KingdomState" "tokens" "Ljava/util/List;" .null := D2 (Or.inr (hw _ (List.mem_of_getElem? (i := 43) rfl))) (ty := (.object "java/util/List")) (by decide)
  have F2_units : Fld Z h2 b2 "com/example/crownsworn/crownsworn/model/KingdomState" "units" "Ljava/util/SortedMap;" .null := D2 (Or.inr (hw _ (List.mem_of_getElem? (i := 64) rfl))) (ty := (.object "java/util/SortedMap")) (by decide)
  have F2_emissaries : Fld Z h2 b2 "com/example/crownsworn/crownsworn/model/KingdomState" "emissaries" "Ljava/util/SortedMap;" .null := D2 (Or.inr (hw _ (List.mem_of_getElem? (i := 66) rfl))) (ty := (.object "java/util/SortedMap")) (by decide)
  have F2_campaigns : Fld Z h2 b2 "com/example/crownsworn/crownsworn/model/KingdomState" "campaigns" "Ljava/util/SortedMap;" .null := D2 (Or.inr (hw _ (List.mem_of_getElem? (i := 68) rfl))) (ty := (.object "java/util/SortedMap")) (by decide)
  have F2_markers : Fld Z h2 b2 "com/example/crownsworn/crownsworn/model/KingdomState" "markers" "Ljava/util/SortedMap;" .null := D2 (Or.inr (hw _ (List.mem_of_getElem? (i := 70) rfl))) (ty := (.object "java/util/SortedMap")) (by decide)
  have F2_unusedBidTokens : Fld Z h2 b2 "com/example/crownsworn/crownsworn/model/KingdomState" "unusedBidTokens" "Ljava/util/SortedSet;" .null := D2 (Or.inr (hw _ (List.mem_of_getElem? (i := 95) rfl))) (ty := (.object "java/util/SortedSet")) (by decide)
  have F2_artifacts : Fld Z h2 b2 "com/example/crownsworn/crownsworn/model/KingdomState" "artifacts" "Ljava/util/SortedSet;" .null := D2 (Or.inr (hw _ (List.mem_of_getElem? (i := 97) rfl))) (ty := (.object "java/util/SortedSet")) (by decide)
  have F2_kingdom : Fld Z h2 b2 "com/example/crownsworn/crownsworn/model/KingdomState" "kingdom" "Lcom/example/crownsworn/crownsworn/model/Kingdom;" .null := D2 (Or.inr (hw _ (List.mem_of_getElem? (i := 113) rfl))) (ty := (.object "com/example/crownsworn/crownsworn/model/Kingdom")) (by decide)
  have F2_crom : Fld Z h2 b2 "com/example/crownsworn/crownsworn/model/KingdomState" "crom" "I" (.int (0 : Int32)) := D2 (Or.inl (hw _ (List.mem_of_getElem? (i := 120) rfl))) (ty := .int) (by decide)
  have F2_gold : Fld Z h2 b2 "com/example/crownsworn/crownsworn/model/KingdomState" "gold" "I" (.int (0 : Int32)) := D2 (Or.inl (hw _ (List.mem_of_getElem? (i := 140) rfl))) (ty := .int) (by decide)
  have F2_sorcery : Fld Z h2 b2 "com/example/crownsworn/crownsworn/model/KingdomState" "sorcery" "I" (.int (0 : Int32)) := D2 (Or.inl (hw _ (List.mem_of_getElem? (i := 147) rfl))) (ty := .int) (by decide)
  have F2_empirePoints : Fld Z h2 b2 "com/example/crownsworn/crownsworn/model/KingdomState" "empirePoints" "I" (.int (0 : Int32)) := D2 (Or.inl (hw _ (List.mem_of_getElem? (i := 154) rfl))) (ty := .int) (by decide)
  refine own_go (T' := T2) (g' := (mkF m 8 #[.val (.int v0), .val (.int v1), .val (.int v2), .val (.ref kd), .unset, .unset, .unset, .unset] [(.ref b2)])) (fun t_ k_ => st2 _ k_) ?_
  refine own_go (T' := T2) (g' := (mkF m 9 #[.val (.int v0), .val (.int v1), .val (.int v2), .val (.ref kd), .unset, .unset, .unset, .unset] [(.ref b2), (.ref b2)])) (fun t_ k_ => XS.dup X2.here hx rfl (hb hby at_8) rfl rfl k_) ?_
  refine own_go (T' := T2) (g' := (mkF m 10 #[.val (.int v0), .val (.int v1), .val (.int v2), .val (.ref kd), .unset, .unset, .unset, .unset] [(.ref kd), (.ref b2), (.ref b2)])) (fun t_ k_ => XS.aloadN X2.here hx rfl (hb hby at_9) rfl rfl k_) ?_
  have ff4 := (EKh.ext E2)
  obtain ⟨_, _, ⟨T3, L3, k3, n3⟩, -, X3_, h23, gr3, ⟨Lc3, hQ3, l3, y3, z3⟩, st3⟩ := X2.specialBackS hx (y := (⟨"com/example/crownsworn/crownsworn/model/KingdomState", "<init>", "(Lcom/example/crownsworn/crownsworn/model/Kingdom;)V"⟩ : MethodName)) rfl hown (mvT hZ (hw _ (List.mem_of_getElem? (i := 10) rfl))) (mvT hZ (hw _ (List.mem_of_getElem? (i := 11) rfl))) (mvT hZ (hw _ (List.mem_of_getElem? (i := 12) rfl))) (by decide) (backOfS (W := 1) (rm_ks l Z a0 hw [] b2 kd wD h2 n0 (show n0 ≤ h2.size by omega) A2 ff4 F2_hand F2_tokens F2_units F2_emissaries F2_campaigns F2_markers F2_unusedBidTokens F2_artifacts F2_kingdom (show n0 ≤ b2 by omega) O2 S_DEFAULTCAPACITY_EMPTY_ELEMENTDATA F2_crom F2_gold F2_sorcery F2_empirePoints) hZ (hw _ (List.mem_of_getElem? (i := 12) rfl)) (hw _ (List.mem_of_getElem? (i := 9) rfl)) (by decide) (by decide)) (g := (mkF m 10 #[.val (.int v0), .val (.int v1), .val (.int v2), .val (.ref kd), .unset, .unset, .unset, .unset] [(.ref kd), (.ref b2), (.ref b2)])) rfl (by rw [hml]; rfl) (Steps.refl _) (a := b2) (argsL := [(.ref kd)]) (rest := [(.ref b2)]) (lenOf pd_5 rfl) rfl (by show 2 * 0 + _ ≤ _; exact Nat.le_of_eq rfl) (hb hby at_10) (fun _ _ => ⟨rfl, e2, (by decide : 1 + 12 ≤ _), (by decide : 13 + 126 ≤ _)⟩)
  dsimp only [Pt.U, Pt.locs, Pt.cells, Pt.slots] at X3_ h23 gr3 l3 y3 z3 st3 hQ3
  subst l3 y3 z3
  obtain ⟨X3, hS, hZ, hown⟩ := rebS hS (show _ ≤ T2.heap.size by rw [e2]; omega) X3_ h23 gr3 hZ hown
  have hk : T3.heap.size ≤ T3.heap.size := Nat.le_refl _
  obtain ⟨rfl, M3, K3_, f3_0, f3_1, f3_2, f3_3, f3_4⟩ := hQ3
  have zz3 := K3_.1
  have O3 := O2.keep K3_ (allS (show n0 ≤ b2 by omega) all0)
  have N3 := Fr.app N1 M3
  refine own_go (T' := T3) (g' := (mkF m 13 #[.val (.int v0), .val (.int v1), .val (.int v2), .val (.ref kd), .unset, .unset, .unset, .unset] [(.ref b2)])) (fun t_ k_ => st3.trans k_) ?_
  refine own_go (T' := T3) (g' := (mkF m 15 #[.val (.int v0), .val (.int v1), .val (.int v2), .val (.ref kd), .val (.ref b2), .unset, .unset, .unset] [])) (fun t_ k_ => XS.astore X3.here hx rfl (hb hby at_13) rfl rfl (l' := #[.val (.int v0), .val (.int v1), .val (.int v2), .val (.ref kd), .val (.ref b2), .unset, .unset, .unset]) rfl k_) ?_
  refine own_go (T' := T3) (g' := (mkF m 17 #[.val (.int v0), .val (.int v1), .val (.int v2), .val (.ref kd), .val (.ref b2), .unset, .unset, .unset] [(.ref b2)])) (fun t_ k_ => XS.aload X3.here hx rfl (hb hby at_15) rfl rfl k_) ?_
  have ff6 := (A2.keep K3_)
  obtain ⟨cq5, kq5, q5a, q5b, q5c⟩ := isOf hZ rfl ff6
  obtain ⟨_, _, ⟨T5, L5, k5, n5⟩, -, X5, ⟨Lc5, hQ5, l5, y5, z5⟩, st5⟩ := X3.virtualBack hx (y := (⟨"com/example/crownsworn/crownsworn/model/KingdomState", "crom", "()I"⟩ : MethodName)) (z := (⟨"com/example/crownsworn/crownsworn/model/KingdomState", "crom", "()I"⟩ : MethodName)) hown (mvT hZ (hw _ (List.mem_of_getElem? (i := 114) rfl))) (mvT hZ (hw _ (List.mem_of_getElem? (i := 115) rfl))) (notFace_of_selects (args := #[]) (mvT hZ (hw _ (List.mem_of_getElem? (i := 117) rfl)))) (mvT hZ (hw _ (List.mem_of_getElem? (i := 117) rfl))) (mvT hZ (hw _ (List.mem_of_getElem? (i := 116) rfl))) (by decide) (backOf (W := 0) (rm_crom l Z a0 hw [] b2 (0 : Int32) T3.heap n0 (show n0 ≤ T3.heap.size by omega) f3_0) hZ (hw _ (List.mem_of_getElem? (i := 118) rfl)) (hw _ (List.mem_of_getElem? (i := 9) rfl)) (by decide) (by decide)) q5a q5c (g := (mkF m 17 #[.val (.int v0), .val (.int v1), .val (.int v2), .val (.ref kd), .val (.ref b2), .unset, .unset, .unset] [(.ref b2)])) rfl (by rw [hml]; rfl) (Steps.refl _) (argsL := []) (rest := []) (lenOf pd_6 rfl) rfl (by show 2 * 0 + _ ≤ _; exact Nat.le_of_eq rfl) (hb hby at_17) (fun _ _ => ⟨rfl, rfl, (by decide : 13 + 0 ≤ _), (by decide : 139 + 0 ≤ _)⟩)
  dsimp only [Pt.U, Pt.locs, Pt.cells, Pt.slots] at X5 l5 y5 z5 st5 hQ5
  subst l5 y5 z5
  obtain ⟨rfl, M5, e5⟩ := hQ5
  have N5 := Fr.app N3 M5
  refine own_go (T' := T5) (g' := (mkF m 20 #[.val (.int v0), .val (.int v1), .val (.int v2), .val (.ref kd), .val (.ref b2), .unset, .unset, .unset] [(.int (0 : Int32))])) (fun t_ k_ => st5.trans k_) ?_
  refine own_go (T' := T5) (g' := (mkF m 23 #[.val (.int v0), .val (.int v1), .val (.int v2), .val (.ref kd), .val (.ref b2), .unset, .unset, .unset] [])) (fun t_ k_ => XS.ifNo X5.here hx rfl (hb hby at_20) rfl ((if0 _ _).trans (teq (by decide)).2) k_) ?_
  refine own_go (T' := T5) (g' := (mkF m 24 #[.val (.int v0), .val (.int v1), .val (.int v2), .val (.ref kd), .val (.ref b2), .unset, .unset, .unset] [(.int (1 : Int32))])) (fun t_ k_ => XS.iconst X5.here hx rfl (hb hby at_23) k_) ?_
  refine own_go (T' := T5) (g' := (mkF m 28 #[.val (.int v0), .val (.int v1), .val (.int v2), .val (.ref kd), .val (.ref b2), .unset, .unset, .unset] [(.int (1 : Int32))])) (fun t_ k_ => XS.goto X5.here hx rfl (pc0 := 24) (pc' := 28) rfl (hb hby at_24) (by decide) (by decide) k_) ?_
  refine own_go (T' := T5) (g' := (mkF m 30 #[.val (.int v0), .val (.int v1), .val (.int v2), .val (.ref kd), .val (.ref b2), .val (.int (1 : Int32)), .unset, .unset] [])) (fun t_ k_ => XS.istore X5.here hx rfl (hb hby at_28) rfl (l' := #[.val (.int v0), .val (.int v1), .val (.int v2), .val (.ref kd), .val (.ref b2), .val (.int (1 : Int32)), .unset, .unset]) rfl k_) ?_
  refine own_go (T' := T5) (g' := (mkF m 31 #[.val (.int v0), .val (.int v1), .val (.int v2), .val (.ref kd), .val (.ref b2), .val (.int (1 : Int32)), .unset, .unset] [(.int (1 : Int32))])) (fun t_ k_ => XS.iconst X5.here hx rfl (hb hby at_30) k_) ?_
  refine own_go (T' := T5) (g' := (mkF m 32 #[.val (.int v0), .val (.int v1), .val (.int v2), .val (.ref kd), .val (.ref b2), .val (.int (1 : Int32)), .unset, .unset] [(.int v1), (.int (1 : Int32))])) (fun t_ k_ => XS.iloadN X5.here hx rfl (hb hby at_31) rfl k_) ?_
  refine own_go (T' := T5) (g' := (mkF m 34 #[.val (.int v0), .val (.int v1), .val (.int v2), .val (.ref kd), .val (.ref b2), .val (.int (1 : Int32)), .unset, .unset] [(.int (2147483647 : Int32)), (.int v1), (.int (1 : Int32))])) (fun t_ k_ => X5.ldcInt hx hown (mvT hZ (hw _ (List.mem_of_getElem? (i := 121) rfl))) (g := (mkF m 32 #[.val (.int v0), .val (.int v1), .val (.int v2), .val (.ref kd), .val (.ref b2), .val (.int (1 : Int32)), .unset, .unset] [(.int v1), (.int (1 : Int32))])) rfl (hb hby at_32) _ k_) ?_
  refine own_go (T' := T5) (g' := (mkF m 35 #[.val (.int v0), .val (.int v1), .val (.int v2), .val (.ref kd), .val (.ref b2), .val (.int (1 : Int32)), .unset, .unset] [(.int (v1 &&& (2147483647 : Int32))), (.int (1 : Int32))])) (fun t_ k_ => XS.iand X5.here hx rfl (hb hby at_34) rfl k_) ?_
  obtain ⟨_, _, ⟨T7, L7, k7, n7⟩, -, X7, ⟨Lc7, hQ7, l7, y7, z7⟩, st7⟩ := Jvm.LawKit.callS X5 hx (y := (⟨"java/lang/Math", "max", "(II)I"⟩ : MethodName)) hown (mvT hZ (hw _ (List.mem_of_getElem? (i := 122) rfl))) (mvT hZ (hw _ (List.mem_of_getElem? (i := 123) rfl))) (mvT hZ (hw _ (List.mem_of_getElem? (i := 124) rfl))) (mvT hZ (hw _ (List.mem_of_getElem? (i := 125) rfl))) (by decide) (backOf (W := 0) (rm_max l Z a0 hw [] (1 : Int32) (v1 &&& (2147483647 : Int32)) a1 T3.heap n0 (show n0 ≤ T3.heap.size by omega) ha1) hZ (hw _ (List.mem_of_getElem? (i := 125) rfl)) (hw _ (List.mem_of_getElem? (i := 124) rfl)) (by decide) (by decide)) (g := (mkF m 35 #[.val (.int v0), .val (.int v1), .val (.int v2), .val (.ref kd), .val (.ref b2), .val (.int (1 : Int32)), .unset, .unset] [(.int (v1 &&& (2147483647 : Int32))), (.int (1 : Int32))])) rfl (by rw [hml]; rfl) (argsL := [(.int (1 : Int32)), (.int (v1 &&& (2147483647 : Int32)))]) (rest := []) (lenOf pd_7 rfl) rfl (by show 2 * 0 + _ ≤ _; exact Nat.le_of_eq rfl) (hb hby at_35) (fun _ _ => ⟨rfl, e5, (by decide : 13 + 0 ≤ _), (by decide : 139 + 0 ≤ _)⟩)
  dsimp only [Pt.U, Pt.locs, Pt.cells, Pt.slots] at X7 l7 y7 z7 st7 hQ7
  subst l7 y7 z7
  obtain ⟨rfl, M7, e7⟩ := hQ7
  have N7 := Fr.app N5 M7
  refine own_go (T' := T7) (g' := (mkF m 38 #[.val (.int v0), .val (.int v1), .val (.int v2), .val (.ref kd), .val (.ref b2), .val (.int (1 : Int32)), .unset, .unset] [(.int a1)])) (fun t_ k_ => st7 _ k_) ?_
  refine own_go (T' := T7) (g' := (mkF m 40 #[.val (.int v0), .val (.int v1), .val (.int v2), .val (.ref kd), .val (.ref b2), .val (.int (1 : Int32)), .val (.int a1), .unset] [])) (fun t_ k_ => XS.istore X7.here hx rfl (hb hby at_38) rfl (l' := #[.val (.int v0), .val (.int v1), .val (.int v2), .val (.ref kd), .val (.ref b2), .val (.int (1 : Int32)), .val (.int a1), .unset]) rfl k_) ?_
  refine own_go (T' := T7) (g' := (mkF m 42 #[.val (.int v0), .val (.int v1), .val (.int v2), .val (.ref kd), .val (.ref b2), .val (.int (1 : Int32)), .val (.int a1), .unset] [(.ref b2)])) (fun t_ k_ => XS.aload X7.here hx rfl (hb hby at_40) rfl rfl k_) ?_
  refine own_go (T' := T7) (g' := (mkF m 44 #[.val (.int v0), .val (.int v1), .val (.int v2), .val (.ref kd), .val (.ref b2), .val (.int (1 : Int32)), .val (.int a1), .unset] [(.int a1), (.ref b2)])) (fun t_ k_ => XS.iload X7.here hx rfl (hb hby at_42) rfl k_) ?_
  obtain ⟨cq8, kq8, q8a, q8b, q8c⟩ := isOf hZ e7 ff6
  obtain ⟨_, _, ⟨T8, L8, k8, n8⟩, -, X8, ⟨Lc8, hQ8, l8, y8, z8⟩, st8⟩ := X7.virtualBack hx (y := (⟨"com/example/crownsworn/crownsworn/model/KingdomState", "gainCrom", "(I)V"⟩ : MethodName)) (z := (⟨"com/example/crownsworn/crownsworn/model/KingdomState", "gainCrom", "(I)V"⟩ : MethodName)) hown (mvT hZ (hw _ (List.mem_of_getElem? (i := 126) rfl))) (mvT hZ (hw _ (List.mem_of_getElem? (i := 127) rfl))) (notFace_of_selects (args := #[]) (mvT hZ (hw _ (List.mem_of_getElem? (i := 129) rfl)))) (mvT hZ (hw _ (List.mem_of_getElem? (i := 129) rfl))) (mvT hZ (hw _ (List.mem_of_getElem? (i := 128) rfl))) (by decide) (backOf (W := 0) (rm_gain l Z a0 hw [] b2 a1 (0 : Int32) kd T3.heap n0 (show n0 ≤ T3.heap.size by omega) ff6 f3_0 (show n0 ≤ b2 by omega) ge1 f3_1 f3_2 f3_3 f3_4) hZ (hw _ (List.mem_of_getElem? (i := 130) rfl)) (hw _ (List.mem_of_getElem? (i := 9) rfl)) (by decide) (by decide)) q8a q8c (g := (mkF m 44 #[.val (.int v0), .val (.int v1), .val (.int v2), .val (.ref kd), .val (.ref b2), .val (.int (1 : Int32)), .val (.int a1), .unset] [(.int a1), (.ref b2)])) rfl (by rw [hml]; rfl) (Steps.refl _) (argsL := [(.int a1)]) (rest := []) (lenOf pd_8 rfl) rfl (by show 2 * 0 + _ ≤ _; exact Nat.le_of_eq rfl) (hb hby at_44) (fun _ _ => ⟨rfl, e7, (by decide : 13 + 0 ≤ _), (by decide : 139 + 0 ≤ _)⟩)
  dsimp only [Pt.U, Pt.locs, Pt.cells, Pt.slots] at X8 l8 y8 z8 st8 hQ8
  subst l8 y8 z8
  obtain ⟨rfl, M8, K8_, f8_0, f8_1, f8_2, f8_3, f8_4⟩ := hQ8
  have zz8 := K8_.1
  have O8 := O3.keep K8_ (allS (show n0 ≤ b2 by omega) all0)
  have N8 := Fr.app N7 M8
  refine own_go (T' := T8) (g' := (mkF m 47 #[.val (.int v0), .val (.int v1), .val (.int v2), .val (.ref kd), .val (.ref b2), .val (.int (1 : Int32)), .val (.int a1), .unset] [])) (fun t_ k_ => st8.trans k_) ?_
  refine own_go (T' := T8) (g' := (mkF m 49 #[.val (.int v0), .val (.int v1), .val (.int v2), .val (.ref kd), .val (.ref b2), .val (.int (1 : Int32)), .val (.int a1), .unset] [(.int (1 : Int32))])) (fun t_ k_ => XS.iload X8.here hx rfl (hb hby at_47) rfl k_) ?_
  refine own_go (T' := T8) (g' := (mkF m 52 #[.val (.int v0), .val (.int v1), .val (.int v2), .val (.ref kd), .val (.ref b2), .val (.int (1 : Int32)), .val (.int a1), .unset] [])) (fun t_ k_ => XS.ifNo X8.here hx rfl (hb hby at_49) rfl ((if0 _ _).trans (feq (by decide)).1) k_) ?_
  refine own_go (T' := T8) (g' := (mkF m 54 #[.val (.int v0), .val (.int v1), .val (.int v2), .val (.ref kd), .val (.ref b2), .val (.int (1 : Int32)), .val (.int a1), .unset] [(.ref b2)])) (fun t_ k_ => XS.aload X8.here hx rfl (hb hby at_52) rfl rfl k_) ?_
  have ff10 := (ff6.keep K8_)
  obtain ⟨cq9, kq9, q9a, q9b, q9c⟩ := isOf hZ rfl ff10
  obtain ⟨_, _, ⟨T9, L9, k9, n9⟩, -, X9, ⟨Lc9, hQ9, l9, y9, z9⟩, st9⟩ := X8.virtualBack hx (y := (⟨"com/example/crownsworn/crownsworn/model/KingdomState", "crom", "()I"⟩ : MethodName)) (z := (⟨"com/example/crownsworn/crownsworn/model/KingdomState", "crom", "()I"⟩ : MethodName)) hown (mvT hZ (hw _ (List.mem_of_getElem? (i := 114) rfl))) (mvT hZ (hw _ (List.mem_of_getElem? (i := 115) rfl))) (notFace_of_selects (args := #[]) (mvT hZ (hw _ (List.mem_of_getElem? (i := 117) rfl)))) (mvT hZ (hw _ (List.mem_of_getElem? (i := 117) rfl))) (mvT hZ (hw _ (List.mem_of_getElem? (i := 116) rfl))) (by decide) (backOf (W := 0) (rm_crom l Z a0 hw [] b2 ((0 : Int32) + a1) T8.heap n0 (show n0 ≤ T8.heap.size by omega) f8_4) hZ (hw _ (List.mem_of_getElem? (i := 118) rfl)) (hw _ (List.mem_of_getElem? (i := 9) rfl)) (by decide) (by decide)) q9a q9c (g := (mkF m 54 #[.val (.int v0), .val (.int v1), .val (.int v2), .val (.ref kd), .val (.ref b2), .val (.int (1 : Int32)), .val (.int a1), .unset] [(.ref b2)])) rfl (by rw [hml]; rfl) (Steps.refl _) (argsL := []) (rest := []) (lenOf pd_6 rfl) rfl (by show 2 * 0 + _ ≤ _; exact Nat.le_of_eq rfl) (hb hby at_54) (fun _ _ => ⟨rfl, rfl, (by decide : 13 + 0 ≤ _), (by decide : 139 + 0 ≤ _)⟩)
  dsimp only [Pt.U, Pt.locs, Pt.cells, Pt.slots] at X9 l9 y9 z9 st9 hQ9
  subst l9 y9 z9
  obtain ⟨rfl, M9, e9⟩ := hQ9
  have N9 := Fr.app N8 M9
  refine own_go (T' := T9) (g' := (mkF m 57 #[.val (.int v0), .val (.int v1), .val (.int v2), .val (.ref kd), .val (.ref b2), .val (.int (1 : Int32)), .val (.int a1), .unset] [(.int ((0 : Int32) + a1))])) (fun t_ k_ => st9.trans k_) ?_
  refine own_go (T' := T9) (g' := (mkF m 59 #[.val (.int v0), .val (.int v1), .val (.int v2), .val (.ref kd), .val (.ref b2), .val (.int (1 : Int32)), .val (.int a1), .unset] [(.int a1), (.int ((0 : Int32) + a1))])) (fun t_ k_ => XS.iload X9.here hx rfl (hb hby at_57) rfl k_) ?_
  refine own_go (T' := T9) (g' := (mkF m 62 #[.val (.int v0), .val (.int v1), .val (.int v2), .val (.ref kd), .val (.ref b2), .val (.int (1 : Int32)), .val (.int a1), .unset] [])) (fun t_ k_ => XS.icmpNo X9.here hx rfl (hb hby at_59) rfl (teq (show ((0 : Int32) + a1) = a1 from own_zero a1)).2 k_) ?_
  refine own_go (T' := T9) (g' := (mkF m 63 #[.val (.int v0), .val (.int v1), .val (.int v2), .val (.ref kd), .val (.ref b2), .val (.int (1 : Int32)), .val (.int a1), .unset] [(.int (1 : Int32))])) (fun t_ k_ => XS.iconst X9.here hx rfl (hb hby at_62) k_) ?_
  refine own_go (T' := T9) (g' := (mkF m 67 #[.val (.int v0), .val (.int v1), .val (.int v2), .val (.ref kd), .val (.ref b2), .val (.int (1 : Int32)), .val (.int a1), .unset] [(.int (1 : Int32))])) (fun t_ k_ => XS.goto X9.here hx rfl (pc0 := 63) (pc' := 67) rfl (hb hby at_63) (by decide) (by decide) k_) ?_
  refine own_go (T' := T9) (g' := (mkF m 69 #[.val (.int v0), .val (.int v1), .val (.int v2), .val (.ref kd), .val (.ref b2), .val (.int (1 : Int32)), .val (.int a1), .unset] [])) (fun t_ k_ => XS.istore X9.here hx rfl (hb hby at_67) rfl (l' := #[.val (.int v0), .val (.int v1), .val (.int v2), .val (.ref kd), .val (.ref b2), .val (.int (1 : Int32)), .val (.int a1), .unset]) rfl k_) ?_
  refine own_go (T' := T9) (g' := (mkF m 71 #[.val (.int v0), .val (.int v1), .val (.int v2), .val (.ref kd), .val (.ref b2), .val (.int (1 : Int32)), .val (.int a1), .unset] [(.int a1)])) (fun t_ k_ => XS.iload X9.here hx rfl (hb hby at_69) rfl k_) ?_
  refine own_go (T' := T9) (g' := (mkF m 73 #[.val (.int v0), .val (.int v1), .val (.int v2), .val (.ref kd), .val (.ref b2), .val (.int (1 : Int32)), .val (.int a1), .unset] [(.int (2147483647 : Int32)), (.int a1)])) (fun t_ k_ => X9.ldcInt hx hown (mvT hZ (hw _ (List.mem_of_getElem? (i := 121) rfl))) (g := (mkF m 71 #[.val (.int v0), .val (.int v1), .val (.int v2), .val (.ref kd), .val (.ref b2), .val (.int (1 : Int32)), .val (.int a1), .unset] [(.int a1)])) rfl (hb hby at_71) _ k_) ?_
  by_cases c11 : a1 < (2147483647 : Int32)
  · -- a1 < (2147483647 : Int32)
    refine own_go (T' := T9) (g' := (mkF m 76 #[.val (.int v0), .val (.int v1), .val (.int v2), .val (.ref kd), .val (.ref b2), .val (.int (1 : Int32)), .val (.int a1), .unset] [])) (fun t_ k_ => XS.icmpNo X9.here hx rfl (hb hby at_73) rfl (tlt c11).2.1 k_) ?_
    refine own_go (T' := T9) (g' := (mkF m 77 #[.val (.int v0), .val (.int v1), .val (.int v2), .val (.ref kd), .val (.ref b2), .val (.int (1 : Int32)), .val (.int a1), .unset] [(.int (1 : Int32))])) (fun t_ k_ => XS.iconst X9.here hx rfl (hb hby at_76) k_) ?_
    refine own_go (T' := T9) (g' := (mkF m 78 #[.val (.int v0), .val (.int v1), .val (.int v2), .val (.ref kd), .val (.ref b2), .val (.int (1 : Int32)), .val (.int a1), .unset] [(.int v2), (.int (1 : Int32))])) (fun t_ k_ => XS.iloadN X9.here hx rfl (hb hby at_77) rfl k_) ?_
    refine own_go (T' := T9) (g' := (mkF m 80 #[.val (.int v0), .val (.int v1), .val (.int v2), .val (.ref kd), .val (.ref b2), .val (.int (1 : Int32)), .val (.int a1), .unset] [(.int (2147483647 : Int32)), (.int v2), (.int (1 : Int32))])) (fun t_ k_ => X9.ldcInt hx hown (mvT hZ (hw _ (List.mem_of_getElem? (i := 121) rfl))) (g := (mkF m 78 #[.val (.int v0), .val (.int v1), .val (.int v2), .val (.ref kd), .val (.ref b2), .val (.int (1 : Int32)), .val (.int a1), .unset] [(.int v2), (.int (1 : Int32))])) rfl (hb hby at_78) _ k_) ?_
    refine own_go (T' := T9) (g' := (mkF m 81 #[.val (.int v0), .val (.int v1), .val (.int v2), .val (.ref kd), .val (.ref b2), .val (.int (1 : Int32)), .val (.int a1), .unset] [(.int (v2 &&& (2147483647 : Int32))), (.int (1 : Int32))])) (fun t_ k_ => XS.iand X9.here hx rfl (hb hby at_80) rfl k_) ?_
    refine own_go (T' := T9) (g' := (mkF m 83 #[.val (.int v0), .val (.int v1), .val (.int v2), .val (.ref kd), .val (.ref b2), .val (.int (1 : Int32)), .val (.int a1), .unset] [(.int (2147483647 : Int32)), (.int (v2 &&& (2147483647 : Int32))), (.int (1 : Int32))])) (fun t_ k_ => X9.ldcInt hx hown (mvT hZ (hw _ (List.mem_of_getElem? (i := 121) rfl))) (g := (mkF m 81 #[.val (.int v0), .val (.int v1), .val (.int v2), .val (.ref kd), .val (.ref b2), .val (.int (1 : Int32)), .val (.int a1), .unset] [(.int (v2 &&& (2147483647 : Int32))), (.int (1 : Int32))])) rfl (hb hby at_81) _ k_) ?_
    refine own_go (T' := T9) (g' := (mkF m 85 #[.val (.int v0), .val (.int v1), .val (.int v2), .val (.ref kd), .val (.ref b2), .val (.int (1 : Int32)), .val (.int a1), .unset] [(.int a1), (.int (2147483647 : Int32)), (.int (v2 &&& (2147483647 : Int32))), (.int (1 : Int32))])) (fun t_ k_ => XS.iload X9.here hx rfl (hb hby at_83) rfl k_) ?_
    refine own_go (T' := T9) (g' := (mkF m 86 #[.val (.int v0), .val (.int v1), .val (.int v2), .val (.ref kd), .val (.ref b2), .val (.int (1 : Int32)), .val (.int a1), .unset] [(.int ((2147483647 : Int32) - a1)), (.int (v2 &&& (2147483647 : Int32))), (.int (1 : Int32))])) (fun t_ k_ => XS.isub X9.here hx rfl (hb hby at_85) rfl k_) ?_
    refine own_go (T' := T9) (g' := (mkF m 87 #[.val (.int v0), .val (.int v1), .val (.int v2), .val (.ref kd), .val (.ref b2), .val (.int (1 : Int32)), .val (.int a1), .unset] [(.int ((v2 &&& (2147483647 : Int32)) % ((2147483647 : Int32) - a1))), (.int (1 : Int32))])) (fun t_ k_ => iremM (g := (mkF m 86 #[.val (.int v0), .val (.int v1), .val (.int v2), .val (.ref kd), .val (.ref b2), .val (.int (1 : Int32)), .val (.int a1), .unset] [(.int ((2147483647 : Int32) - a1)), (.int (v2 &&& (2147483647 : Int32))), (.int (1 : Int32))])) X9 hx rfl (hb hby at_86) rfl (own_nz one1 c11) k_) ?_
    refine own_go (T' := T9) (g' := (mkF m 88 #[.val (.int v0), .val (.int v1), .val (.int v2), .val (.ref kd), .val (.ref b2), .val (.int (1 : Int32)), .val (.int a1), .unset] [(.int ((1 : Int32) + ((v2 &&& (2147483647 : Int32)) % ((2147483647 : Int32) - a1))))])) (fun t_ k_ => XS.iadd X9.here hx rfl (hb hby at_87) rfl k_) ?_
    have one2 := own_b1 (y := (v2 &&& (2147483647 : Int32))) one1 c11 (own_pos _)
    generalize h_b1 : ((1 : Int32) + ((v2 &&& (2147483647 : Int32)) % ((2147483647 : Int32) - a1))) = b1 at one2 ⊢
    have ge2 := own_ge1 one2
    refine own_go (T' := T9) (g' := (mkF m 90 #[.val (.int v0), .val (.int v1), .val (.int v2), .val (.ref kd), .val (.ref b2), .val (.int (1 : Int32)), .val (.int a1), .val (.int b1)] [])) (fun t_ k_ => XS.istore X9.here hx rfl (hb hby at_88) rfl (l' := #[.val (.int v0), .val (.int v1), .val (.int v2), .val (.ref kd), .val (.ref b2), .val (.int (1 : Int32)), .val (.int a1), .val (.int b1)]) rfl k_) ?_
    refine own_go (T' := T9) (g' := (mkF m 92 #[.val (.int v0), .val (.int v1), .val (.int v2), .val (.ref kd), .val (.ref b2), .val (.int (1 : Int32)), .val (.int a1), .val (.int b1)] [(.ref b2)])) (fun t_ k_ => XS.aload X9.here hx rfl (hb hby at_90) rfl rfl k_) ?_
    refine own_go (T' := T9) (g' := (mkF m 94 #[.val (.int v0), .val (.int v1), .val (.int v2), .val (.ref kd), .val (.ref b2), .val (.int (1 : Int32)), .val (.int a1), .val (.int b1)] [(.int b1), (.ref b2)])) (fun t_ k_ => XS.iload X9.here hx rfl (hb hby at_92) rfl k_) ?_
    obtain ⟨cq12, kq12, q12a, q12b, q12c⟩ := isOf hZ e9 ff10
    obtain ⟨_, _, ⟨T12, L12, k12, n12⟩, -, X12, ⟨Lc12, hQ12, l12, y12, z12⟩, st12⟩ := X9.virtualBack hx (y := (⟨"com/example/crownsworn/crownsworn/model/KingdomState", "gainCrom", "(I)V"⟩ : MethodName)) (z := (⟨"com/example/crownsworn/crownsworn/model/KingdomState", "gainCrom", "(I)V"⟩ : MethodName)) hown (mvT hZ (hw _ (List.mem_of_getElem? (i := 126) rfl))) (mvT hZ (hw _ (List.mem_of_getElem? (i := 127) rfl))) (notFace_of_selects (args := #[]) (mvT hZ (hw _ (List.mem_of_getElem? (i := 129) rfl)))) (mvT hZ (hw _ (List.mem_of_getElem? (i := 129) rfl))) (mvT hZ (hw _ (List.mem_of_getElem? (i := 128) rfl))) (by decide) (backOf (W := 0) (rm_gain l Z a0 hw [] b2 b1 ((0 : Int32) + a1) kd T8.heap n0 (show n0 ≤ T8.heap.size by omega) ff10 f8_4 (show n0 ≤ b2 by omega) ge2 f8_0 f8_1 f8_2 f8_3) hZ (hw _ (List.mem_of_getElem? (i := 130) rfl)) (hw _ (List.mem_of_getElem? (i := 9) rfl)) (by decide) (by decide)) q12a q12c (g := (mkF m 94 #[.val (.int v0), .val (.int v1), .val (.int v2), .val (.ref kd), .val (.ref b2), .val (.int (1 : Int32)), .val (.int a1), .val (.int b1)] [(.int b1), (.ref b2)])) rfl (by rw [hml]; rfl) (Steps.refl _) (argsL := [(.int b1)]) (rest := []) (lenOf pd_8 rfl) rfl (by show 2 * 0 + _ ≤ _; exact Nat.le_of_eq rfl) (hb hby at_94) (fun _ _ => ⟨rfl, e9, (by decide : 13 + 0 ≤ _), (by decide : 139 + 0 ≤ _)⟩)
    dsimp only [Pt.U, Pt.locs, Pt.cells, Pt.slots] at X12 l12 y12 z12 st12 hQ12
    subst l12 y12 z12
    obtain ⟨rfl, M12, K12_, f12_0, f12_1, f12_2, f12_3, f12_4⟩ := hQ12
    have zz12 := K12_.1
    have O12 := O8.keep K12_ (allS (show n0 ≤ b2 by omega) all0)
    have N12 := Fr.app N9 M12
    refine own_go (T' := T12) (g' := (mkF m 97 #[.val (.int v0), .val (.int v1), .val (.int v2), .val (.ref kd), .val (.ref b2), .val (.int (1 : Int32)), .val (.int a1), .val (.int b1)] [])) (fun t_ k_ => st12.trans k_) ?_
    refine own_go (T' := T12) (g' := (mkF m 99 #[.val (.int v0), .val (.int v1), .val (.int v2), .val (.ref kd), .val (.ref b2), .val (.int (1 : Int32)), .val (.int a1), .val (.int b1)] [(.int (1 : Int32))])) (fun t_ k_ => XS.iload X12.here hx rfl (hb hby at_97) rfl k_) ?_
    refine own_go (T' := T12) (g' := (mkF m 102 #[.val (.int v0), .val (.int v1), .val (.int v2), .val (.ref kd), .val (.ref b2), .val (.int (1 : Int32)), .val (.int a1), .val (.int b1)] [])) (fun t_ k_ => XS.ifNo X12.here hx rfl (hb hby at_99) rfl ((if0 _ _).trans (feq (by decide)).1) k_) ?_
    refine own_go (T' := T12) (g' := (mkF m 104 #[.val (.int v0), .val (.int v1), .val (.int v2), .val (.ref kd), .val (.ref b2), .val (.int (1 : Int32)), .val (.int a1), .val (.int b1)] [(.ref b2)])) (fun t_ k_ => XS.aload X12.here hx rfl (hb hby at_102) rfl rfl k_) ?_
    have ff14 := (ff10.keep K12_)
    obtain ⟨cq13, kq13, q13a, q13b, q13c⟩ := isOf hZ rfl ff14
    obtain ⟨_, _, ⟨T13, L13, k13, n13⟩, -, X13, ⟨Lc13, hQ13, l13, y13, z13⟩, st13⟩ := X12.virtualBack hx (y := (⟨"com/example/crownsworn/crownsworn/model/KingdomState", "crom", "()I"⟩ : MethodName)) (z := (⟨"com/example/crownsworn/crownsworn/model/KingdomState", "crom", "()I"⟩ : MethodName)) hown (mvT hZ (hw _ (List.mem_of_getElem? (i := 114) rfl))) (mvT hZ (hw _ (List.mem_of_getElem? (i := 115) rfl))) (notFace_of_selects (args := #[]) (mvT hZ (hw _ (List.mem_of_getElem? (i := 117) rfl)))) (mvT hZ (hw _ (List.mem_of_getElem? (i := 117) rfl))) (mvT hZ (hw _ (List.mem_of_getElem? (i := 116) rfl))) (by decide) (backOf (W := 0) (rm_crom l Z a0 hw [] b2 (((0 : Int32) + a1) + b1) T12.heap n0 (show n0 ≤ T12.heap.size by omega) f12_4) hZ (hw _ (List.mem_of_getElem? (i := 118) rfl)) (hw _ (List.mem_of_getElem? (i := 9) rfl)) (by decide) (by decide)) q13a q13c (g := (mkF m 104 #[.val (.int v0), .val (.int v1), .val (.int v2), .val (.ref kd), .val (.ref b2), .val (.int (1 : Int32)), .val (.int a1), .val (.int b1)] [(.ref b2)])) rfl (by rw [hml]; rfl) (Steps.refl _) (argsL := []) (rest := []) (lenOf pd_6 rfl) rfl (by show 2 * 0 + _ ≤ _; exact Nat.le_of_eq rfl) (hb hby at_104) (fun _ _ => ⟨rfl, rfl, (by decide : 13 + 0 ≤ _), (by decide : 139 + 0 ≤ _)⟩)
    dsimp only [Pt.U, Pt.locs, Pt.cells, Pt.slots] at X13 l13 y13 z13 st13 hQ13
    subst l13 y13 z13
    obtain ⟨rfl, M13, e13⟩ := hQ13
    have N13 := Fr.app N12 M13
    refine own_go (T' := T13) (g' := (mkF m 107 #[.val (.int v0), .val (.int v1), .val (.int v2), .val (.ref kd), .val (.ref b2), .val (.int (1 : Int32)), .val (.int a1), .val (.int b1)] [(.int (((0 : Int32) + a1) + b1))])) (fun t_ k_ => st13.trans k_) ?_
    refine own_go (T' := T13) (g' := (mkF m 109 #[.val (.int v0), .val (.int v1), .val (.int v2), .val (.ref kd), .val (.ref b2), .val (.int (1 : Int32)), .val (.int a1), .val (.int b1)] [(.int a1), (.int (((0 : Int32) + a1) + b1))])) (fun t_ k_ => XS.iload X13.here hx rfl (hb hby at_107) rfl k_) ?_
    refine own_go (T' := T13) (g' := (mkF m 111 #[.val (.int v0), .val (.int v1), .val (.int v2), .val (.ref kd), .val (.ref b2), .val (.int (1 : Int32)), .val (.int a1), .val (.int b1)] [(.int b1), (.int a1), (.int (((0 : Int32) + a1) + b1))])) (fun t_ k_ => XS.iload X13.here hx rfl (hb hby at_109) rfl k_) ?_
    refine own_go (T' := T13) (g' := (mkF m 112 #[.val (.int v0), .val (.int v1), .val (.int v2), .val (.ref kd), .val (.ref b2), .val (.int (1 : Int32)), .val (.int a1), .val (.int b1)] [(.int (a1 + b1)), (.int (((0 : Int32) + a1) + b1))])) (fun t_ k_ => XS.iadd X13.here hx rfl (hb hby at_111) rfl k_) ?_
    refine own_go (T' := T13) (g' := (mkF m 115 #[.val (.int v0), .val (.int v1), .val (.int v2), .val (.ref kd), .val (.ref b2), .val (.int (1 : Int32)), .val (.int a1), .val (.int b1)] [])) (fun t_ k_ => XS.icmpNo X13.here hx rfl (hb hby at_112) rfl (teq (show (((0 : Int32) + a1) + b1) = (a1 + b1) from by rw [own_zero])).2 k_) ?_
    refine own_go (T' := T13) (g' := (mkF m 116 #[.val (.int v0), .val (.int v1), .val (.int v2), .val (.ref kd), .val (.ref b2), .val (.int (1 : Int32)), .val (.int a1), .val (.int b1)] [(.int (1 : Int32))])) (fun t_ k_ => XS.iconst X13.here hx rfl (hb hby at_115) k_) ?_
    refine own_go (T' := T13) (g' := (mkF m 120 #[.val (.int v0), .val (.int v1), .val (.int v2), .val (.ref kd), .val (.ref b2), .val (.int (1 : Int32)), .val (.int a1), .val (.int b1)] [(.int (1 : Int32))])) (fun t_ k_ => XS.goto X13.here hx rfl (pc0 := 116) (pc' := 120) rfl (hb hby at_116) (by decide) (by decide) k_) ?_
    refine own_go (T' := T13) (g' := (mkF m 122 #[.val (.int v0), .val (.int v1), .val (.int v2), .val (.ref kd), .val (.ref b2), .val (.int (1 : Int32)), .val (.int a1), .val (.int b1)] [])) (fun t_ k_ => XS.istore X13.here hx rfl (hb hby at_120) rfl (l' := #[.val (.int v0), .val (.int v1), .val (.int v2), .val (.ref kd), .val (.ref b2), .val (.int (1 : Int32)), .val (.int a1), .val (.int b1)]) rfl k_) ?_
    refine own_go (T' := T13) (g' := (mkF m 124 #[.val (.int v0), .val (.int v1), .val (.int v2), .val (.ref kd), .val (.ref b2), .val (.int (1 : Int32)), .val (.int a1), .val (.int b1)] [(.int (1 : Int32))])) (fun t_ k_ => XS.iload X13.here hx rfl (hb hby at_122) rfl k_) ?_
    refine own_go (T' := T13) (g' := (mkF m 127 #[.val (.int v0), .val (.int v1), .val (.int v2), .val (.ref kd), .val (.ref b2), .val (.int (1 : Int32)), .val (.int a1), .val (.int b1)] [])) (fun t_ k_ => XS.ifNo X13.here hx rfl (hb hby at_124) rfl ((if0 _ _).trans (feq (by decide)).1) k_) ?_
    refine own_go (T' := T13) (g' := (mkF m 129 #[.val (.int v0), .val (.int v1), .val (.int v2), .val (.ref kd), .val (.ref b2), .val (.int (1 : Int32)), .val (.int a1), .val (.int b1)] [(.ref b2)])) (fun t_ k_ => XS.aload X13.here hx rfl (hb hby at_127) rfl rfl k_) ?_
    obtain ⟨cq15, kq15, q15a, q15b, q15c⟩ := isOf hZ e13 ff14
    obtain ⟨_, _, ⟨T15, L15, k15, n15⟩, -, X15, ⟨Lc15, hQ15, l15, y15, z15⟩, st15⟩ := X13.virtualBack hx (y := (⟨"com/example/crownsworn/crownsworn/model/KingdomState", "gold", "()I"⟩ : MethodName)) (z := (⟨"com/example/crownsworn/crownsworn/model/KingdomState", "gold", "()I"⟩ : MethodName)) hown (mvT hZ (hw _ (List.mem_of_getElem? (i := 134) rfl))) (mvT hZ (hw _ (List.mem_of_getElem? (i := 135) rfl))) (notFace_of_selects (args := #[]) (mvT hZ (hw _ (List.mem_of_getElem? (i := 137) rfl)))) (mvT hZ (hw _ (List.mem_of_getElem? (i := 137) rfl))) (mvT hZ (hw _ (List.mem_of_getElem? (i := 136) rfl))) (by decide) (backOf (W := 0) (rm_gold l Z a0 hw [] b2 (0 : Int32) T12.heap n0 (show n0 ≤ T12.heap.size by omega) f12_0) hZ (hw _ (List.mem_of_getElem? (i := 138) rfl)) (hw _ (List.mem_of_getElem? (i := 9) rfl)) (by decide) (by decide)) q15a q15c (g := (mkF m 129 #[.val (.int v0), .val (.int v1), .val (.int v2), .val (.ref kd), .val (.ref b2), .val (.int (1 : Int32)), .val (.int a1), .val (.int b1)] [(.ref b2)])) rfl (by rw [hml]; rfl) (Steps.refl _) (argsL := []) (rest := []) (lenOf pd_6 rfl) rfl (by show 2 * 0 + _ ≤ _; exact Nat.le_of_eq rfl) (hb hby at_129) (fun _ _ => ⟨rfl, e13, (by decide : 13 + 0 ≤ _), (by decide : 139 + 0 ≤ _)⟩)
    dsimp only [Pt.U, Pt.locs, Pt.cells, Pt.slots] at X15 l15 y15 z15 st15 hQ15
    subst l15 y15 z15
    obtain ⟨rfl, M15, e15⟩ := hQ15
    have N15 := Fr.app N13 M15
    refine own_go (T' := T15) (g' := (mkF m 132 #[.val (.int v0), .val (.int v1), .val (.int v2), .val (.ref kd), .val (.ref b2), .val (.int (1 : Int32)), .val (.int a1), .val (.int b1)] [(.int (0 : Int32))])) (fun t_ k_ => st15.trans k_) ?_
    refine own_go (T' := T15) (g' := (mkF m 135 #[.val (.int v0), .val (.int v1), .val (.int v2), .val (.ref kd), .val (.ref b2), .val (.int (1 : Int32)), .val (.int a1), .val (.int b1)] [])) (fun t_ k_ => XS.ifNo X15.here hx rfl (hb hby at_132) rfl ((if0 _ _).trans (teq (by decide)).2) k_) ?_
    refine own_go (T' := T15) (g' := (mkF m 137 #[.val (.int v0), .val (.int v1), .val (.int v2), .val (.ref kd), .val (.ref b2), .val (.int (1 : Int32)), .val (.int a1), .val (.int b1)] [(.ref b2)])) (fun t_ k_ => XS.aload X15.here hx rfl (hb hby at_135) rfl rfl k_) ?_
    obtain ⟨cq16, kq16, q16a, q16b, q16c⟩ := isOf hZ e15 ff14
    obtain ⟨_, _, ⟨T16, L16, k16, n16⟩, -, X16, ⟨Lc16, hQ16, l16, y16, z16⟩, st16⟩ := X15.virtualBack hx (y := (⟨"com/example/crownsworn/crownsworn/model/KingdomState", "sorcery", "()I"⟩ : MethodName)) (z := (⟨"com/example/crownsworn/crownsworn/model/KingdomState", "sorcery", "()I"⟩ : MethodName)) hown (mvT hZ (hw _ (List.mem_of_getElem? (i := 141) rfl))) (mvT hZ (hw _ (List.mem_of_getElem? (i := 142) rfl))) (notFace_of_selects (args := #[]) (mvT hZ (hw _ (List.mem_of_getElem? (i := 144) rfl)))) (mvT hZ (hw _ (List.mem_of_getElem? (i := 144) rfl))) (mvT hZ (hw _ (List.mem_of_getElem? (i := 143) rfl))) (by decide) (backOf (W := 0) (rm_sorcery l Z a0 hw [] b2 (0 : Int32) T12.heap n0 (show n0 ≤ T12.heap.size by omega) f12_1) hZ (hw _ (List.mem_of_getElem? (i := 145) rfl)) (hw _ (List.mem_of_getElem? (i := 9) rfl)) (by decide) (by decide)) q16a q16c (g := (mkF m 137 #[.val (.int v0), .val (.int v1), .val (.int v2), .val (.ref kd), .val (.ref b2), .val (.int (1 : Int32)), .val (.int a1), .val (.int b1)] [(.ref b2)])) rfl (by rw [hml]; rfl) (Steps.refl _) (argsL := []) (rest := []) (lenOf pd_6 rfl) rfl (by show 2 * 0 + _ ≤ _; exact Nat.le_of_eq rfl) (hb hby at_137) (fun _ _ => ⟨rfl, e15, (by decide : 13 + 0 ≤ _), (by decide : 139 + 0 ≤ _)⟩)
    dsimp only [Pt.U, Pt.locs, Pt.cells, Pt.slots] at X16 l16 y16 z16 st16 hQ16
    subst l16 y16 z16
    obtain ⟨rfl, M16, e16⟩ := hQ16
    have N16 := Fr.app N15 M16
    refine own_go (T' := T16) (g' := (mkF m 140 #[.val (.int v0), .val (.int v1), .val (.int v2), .val (.ref kd), .val (.ref b2), .val (.int (1 : Int32)), .val (.int a1), .val (.int b1)] [(.int (0 : Int32))])) (fun t_ k_ => st16.trans k_) ?_
    refine own_go (T' := T16) (g' := (mkF m 143 #[.val (.int v0), .val (.int v1), .val (.int v2), .val (.ref kd), .val (.ref b2), .val (.int (1 : Int32)), .val (.int a1), .val (.int b1)] [])) (fun t_ k_ => XS.ifNo X16.here hx rfl (hb hby at_140) rfl ((if0 _ _).trans (teq (by decide)).2) k_) ?_
    refine own_go (T' := T16) (g' := (mkF m 145 #[.val (.int v0), .val (.int v1), .val (.int v2), .val (.ref kd), .val (.ref b2), .val (.int (1 : Int32)), .val (.int a1), .val (.int b1)] [(.ref b2)])) (fun t_ k_ => XS.aload X16.here hx rfl (hb hby at_143) rfl rfl k_) ?_
    obtain ⟨cq17, kq17, q17a, q17b, q17c⟩ := isOf hZ e16 ff14
    obtain ⟨_, _, ⟨T17, L17, k17, n17⟩, -, X17, ⟨Lc17, hQ17, l17, y17, z17⟩, st17⟩ := X16.virtualBack hx (y := (⟨"com/example/crownsworn/crownsworn/model/KingdomState", "empirePoints", "()I"⟩ : MethodName)) (z := (⟨"com/example/crownsworn/crownsworn/model/KingdomState", "empirePoints", "()I"⟩ : MethodName)) hown (mvT hZ (hw _ (List.mem_of_getElem? (i := 148) rfl))) (mvT hZ (hw _ (List.mem_of_getElem? (i := 149) rfl))) (notFace_of_selects (args := #[]) (mvT hZ (hw _ (List.mem_of_getElem? (i := 151) rfl)))) (mvT hZ (hw _ (List.mem_of_getElem? (i := 151) rfl))) (mvT hZ (hw _ (List.mem_of_getElem? (i := 150) rfl))) (by decide) (backOf (W := 0) (rm_empirePoints l Z a0 hw [] b2 (0 : Int32) T12.heap n0 (show n0 ≤ T12.heap.size by omega) f12_2) hZ (hw _ (List.mem_of_getElem? (i := 152) rfl)) (hw _ (List.mem_of_getElem? (i := 9) rfl)) (by decide) (by decide)) q17a q17c (g := (mkF m 145 #[.val (.int v0), .val (.int v1), .val (.int v2), .val (.ref kd), .val (.ref b2), .val (.int (1 : Int32)), .val (.int a1), .val (.int b1)] [(.ref b2)])) rfl (by rw [hml]; rfl) (Steps.refl _) (argsL := []) (rest := []) (lenOf pd_6 rfl) rfl (by show 2 * 0 + _ ≤ _; exact Nat.le_of_eq rfl) (hb hby at_145) (fun _ _ => ⟨rfl, e16, (by decide : 13 + 0 ≤ _), (by decide : 139 + 0 ≤ _)⟩)
    dsimp only [Pt.U, Pt.locs, Pt.cells, Pt.slots] at X17 l17 y17 z17 st17 hQ17
    subst l17 y17 z17
    obtain ⟨rfl, M17, e17⟩ := hQ17
    have N17 := Fr.app N16 M17
    refine own_go (T' := T17) (g' := (mkF m 148 #[.val (.int v0), .val (.int v1), .val (.int v2), .val (.ref kd), .val (.ref b2), .val (.int (1 : Int32)), .val (.int a1), .val (.int b1)] [(.int (0 : Int32))])) (fun t_ k_ => st17.trans k_) ?_
    refine own_go (T' := T17) (g' := (mkF m 151 #[.val (.int v0), .val (.int v1), .val (.int v2), .val (.ref kd), .val (.ref b2), .val (.int (1 : Int32)), .val (.int a1), .val (.int b1)] [])) (fun t_ k_ => XS.ifNo X17.here hx rfl (hb hby at_148) rfl ((if0 _ _).trans (teq (by decide)).2) k_) ?_
    refine own_go (T' := T17) (g' := (mkF m 153 #[.val (.int v0), .val (.int v1), .val (.int v2), .val (.ref kd), .val (.ref b2), .val (.int (1 : Int32)), .val (.int a1), .val (.int b1)] [(.ref b2)])) (fun t_ k_ => XS.aload X17.here hx rfl (hb hby at_151) rfl rfl k_) ?_
    obtain ⟨cq18, kq18, q18a, q18b, q18c⟩ := isOf hZ e17 ff14
    obtain ⟨_, _, ⟨T18, L18, k18, n18⟩, -, X18, ⟨Lc18, hQ18, l18, y18, z18⟩, st18⟩ := X17.virtualBack hx (y := (⟨"com/example/crownsworn/crownsworn/model/KingdomState", "kingdom", "()Lcom/example/crownsworn/crownsworn/model/Kingdom;"⟩ : MethodName)) (z := (⟨"com/example/crownsworn/crownsworn/model/KingdomState", "kingdom", "()Lcom/example/crownsworn/crownsworn/model/Kingdom;"⟩ : MethodName)) hown (mvT hZ (hw _ (List.mem_of_getElem? (i := 155) rfl))) (mvT hZ (hw _ (List.mem_of_getElem? (i := 156) rfl))) (notFace_of_selects (args := #[]) (mvT hZ (hw _ (List.mem_of_getElem? (i := 158) rfl)))) (mvT hZ (hw _ (List.mem_of_getElem? (i := 158) rfl))) (mvT hZ (hw _ (List.mem_of_getElem? (i := 157) rfl))) (by decide) (backOf (W := 0) (rm_kingdom l Z a0 hw [] b2 kd T12.heap n0 (show n0 ≤ T12.heap.size by omega) f12_3) hZ (hw _ (List.mem_of_getElem? (i := 159) rfl)) (hw _ (List.mem_of_getElem? (i := 9) rfl)) (by decide) (by decide)) q18a q18c (g := (mkF m 153 #[.val (.int v0), .val (.int v1), .val (.int v2), .val (.ref kd), .val (.ref b2), .val (.int (1 : Int32)), .val (.int a1), .val (.int b1)] [(.ref b2)])) rfl (by rw [hml]; rfl) (Steps.refl _) (argsL := []) (rest := []) (lenOf pd_9 rfl) rfl (by show 2 * 0 + _ ≤ _; exact Nat.le_of_eq rfl) (hb hby at_153) (fun _ _ => ⟨rfl, e17, (by decide : 13 + 0 ≤ _), (by decide : 139 + 0 ≤ _)⟩)
    dsimp only [Pt.U, Pt.locs, Pt.cells, Pt.slots] at X18 l18 y18 z18 st18 hQ18
    subst l18 y18 z18
    obtain ⟨rfl, M18, e18⟩ := hQ18
    have N18 := Fr.app N17 M18
    refine own_go (T' := T18) (g' := (mkF m 156 #[.val (.int v0), .val (.int v1), .val (.int v2), .val (.ref kd), .val (.ref b2), .val (.int (1 : Int32)), .val (.int a1), .val (.int b1)] [(.ref kd)])) (fun t_ k_ => st18.trans k_) ?_
    refine own_go (T' := T18) (g' := (mkF m 157 #[.val (.int v0), .val (.int v1), .val (.int v2), .val (.ref kd), .val (.ref b2), .val (.int (1 : Int32)), .val (.int a1), .val (.int b1)] [(.ref kd), (.ref kd)])) (fun t_ k_ => XS.aloadN X18.here hx rfl (hb hby at_156) rfl rfl k_) ?_
    refine own_go (T' := T18) (g' := (mkF m 160 #[.val (.int v0), .val (.int v1), .val (.int v2), .val (.ref kd), .val (.ref b2), .val (.int (1 : Int32)), .val (.int a1), .val (.int b1)] [])) (fun t_ k_ => Jvm.RoadKit.acmp (g := (mkF m 157 #[.val (.int v0), .val (.int v1), .val (.int v2), .val (.ref kd), .val (.ref b2), .val (.int (1 : Int32)), .val (.int a1), .val (.int b1)] [(.ref kd), (.ref kd)])) X18 hx rfl rfl rfl (pc0 := 157) (pc' := 160) (same := true) rfl (hb hby at_157) rfl (decide_eq_true rfl) (by decide) (by decide) k_) ?_
    refine own_go (T' := T18) (g' := (mkF m 161 #[.val (.int v0), .val (.int v1), .val (.int v2), .val (.ref kd), .val (.ref b2), .val (.int (1 : Int32)), .val (.int a1), .val (.int b1)] [(.int (1 : Int32))])) (fun t_ k_ => XS.iconst X18.here hx rfl (hb hby at_160) k_) ?_
    refine own_go (T' := T18) (g' := (mkF m 165 #[.val (.int v0), .val (.int v1), .val (.int v2), .val (.ref kd), .val (.ref b2), .val (.int (1 : Int32)), .val (.int a1), .val (.int b1)] [(.int (1 : Int32))])) (fun t_ k_ => XS.goto X18.here hx rfl (pc0 := 161) (pc' := 165) rfl (hb hby at_161) (by decide) (by decide) k_) ?_
    exact own_outW X18 hS (show _ ≤ T18.heap.size by rw [e18]; omega) (v := some (.int (nar .boolean (1 : Int32)))) (fun h => by rw [Bd.returns] at h; cases h) hlk (fun fs hr => retN X18 hx (t := .boolean) Bd.returns (by simp) (hb hby at_165) hr) (Q := Q_rm_law Z v0 v1 v2 wA wT wS wH wD h0 n0) (by rw [e18]; exact ⟨rfl, N18⟩) (by decide) (by decide)
  · -- not a1 < (2147483647 : Int32)
    refine own_go (T' := T9) (g' := (mkF m 122 #[.val (.int v0), .val (.int v1), .val (.int v2), .val (.ref kd), .val (.ref b2), .val (.int (1 : Int32)), .val (.int a1), .unset] [])) (fun t_ k_ => XS.icmpYes X9.here hx rfl (pc0 := 73) (pc' := 122) rfl (hb hby at_73) rfl (flt c11).2.1 (by decide) (by decide) k_) ?_
    refine own_go (T' := T9) (g' := (mkF m 124 #[.val (.int v0), .val (.int v1), .val (.int v2), .val (.ref kd), .val (.ref b2), .val (.int (1 : Int32)), .val (.int a1), .unset] [(.int (1 : Int32))])) (fun t_ k_ => XS.iload X9.here hx rfl (hb hby at_122) rfl k_) ?_
    refine own_go (T' := T9) (g' := (mkF m 127 #[.val (.int v0), .val (.int v1), .val (.int v2), .val (.ref kd), .val (.ref b2), .val (.int (1 : Int32)), .val (.int a1), .unset] [])) (fun t_ k_ => XS.ifNo X9.here hx rfl (hb hby at_124) rfl ((if0 _ _).trans (feq (by decide)).1) k_) ?_
    refine own_go (T' := T9) (g' := (mkF m 129 #[.val (.int v0), .val (.int v1), .val (.int v2), .val (.ref kd), .val (.ref b2), .val (.int (1 : Int32)), .val (.int a1), .unset] [(.ref b2)])) (fun t_ k_ => XS.aload X9.here hx rfl (hb hby at_127) rfl rfl k_) ?_
    obtain ⟨cq19, kq19, q19a, q19b, q19c⟩ := isOf hZ e9 ff10
    obtain ⟨_, _, ⟨T19, L19, k19, n19⟩, -, X19, ⟨Lc19, hQ19, l19, y19, z19⟩, st19⟩ := X9.virtualBack hx (y := (⟨"com/example/crownsworn/crownsworn/model/KingdomState", "gold", "()I"⟩ : MethodName)) (z := (⟨"com/example/crownsworn/crownsworn/model/KingdomState", "gold", "()I"⟩ : MethodName)) hown (mvT hZ (hw _ (List.mem_of_getElem? (i := 134) rfl))) (mvT hZ (hw _ (List.mem_of_getElem? (i := 135) rfl))) (notFace_of_selects (args := #[]) (mvT hZ (hw _ (List.mem_of_getElem? (i := 137) rfl)))) (mvT hZ (hw _ (List.mem_of_getElem? (i := 137) rfl))) (mvT hZ (hw _ (List.mem_of_getElem? (i := 136) rfl))) (by decide) (backOf (W := 0) (rm_gold l Z a0 hw [] b2 (0 : Int32) T8.heap n0 (show n0 ≤ T8.heap.size by omega) f8_0) hZ (hw _ (List.mem_of_getElem? (i := 138) rfl)) (hw _ (List.mem_of_getElem? (i := 9) rfl)) (by decide) (by decide)) q19a q19c (g := (mkF m 129 #[.val (.int v0), .val (.int v1), .val (.int v2), .val (.ref kd), .val (.ref b2), .val (.int (1 : Int32)), .val (.int a1), .unset] [(.ref b2)])) rfl (by rw [hml]; rfl) (Steps.refl _) (argsL := []) (rest := []) (lenOf pd_6 rfl) rfl (by show 2 * 0 + _ ≤ _; exact Nat.le_of_eq rfl) (hb hby at_129) (fun _ _ => ⟨rfl, e9, (by decide : 13 + 0 ≤ _), (by decide : 139 + 0 ≤ _)⟩)
    dsimp only [Pt.U, Pt.locs, Pt.cells, Pt.slots] at X19 l19 y19 z19 st19 hQ19
    subst l19 y19 z19
    obtain ⟨rfl, M19, e19⟩ := hQ19
    have N19 := Fr.app N9 M19
    refine own_go (T' := T19) (g' := (mkF m 132 #[.val (.int v0), .val (.int v1), .val (.int v2), .val (.ref kd), .val (.ref b2), .val (.int (1 : Int32)), .val (.int a1), .unset] [(.int (0 : Int32))])) (fun t_ k_ => st19.trans k_) ?_
    refine own_go (T' := T19) (g' := (mkF m 135 #[.val (.int v0), .val (.int v1), .val (.int v2), .val (.ref kd), .val (.ref b2), .val (.int (1 : Int32)), .val (.int a1), .unset] [])) (fun t_ k_ => XS.ifNo X19.here hx rfl (hb hby at_132) rfl ((if0 _ _).trans (teq (by decide)).2) k_) ?_
    refine own_go (T' := T19) (g' := (mkF m 137 #[.val (.int v0), .val (.int v1), .val (.int v2), .val (.ref kd), .val (.ref b2), .val (.int (1 : Int32)), .val (.int a1), .unset] [(.ref b2)])) (fun t_ k_ => XS.aload X19.here hx rfl (hb hby at_135) rfl rfl k_) ?_
    obtain ⟨cq20, kq20, q20a, q20b, q20c⟩ := isOf hZ e19 ff10
    obtain ⟨_, _, ⟨T20, L20, k20, n20⟩, -, X20, ⟨Lc20, hQ20, l20, y20, z20⟩, st20⟩ := X19.virtualBack hx (y := (⟨"com/example/crownsworn/crownsworn/model/KingdomState", "sorcery", "()I"⟩ : MethodName)) (z := (⟨"com/example/crownsworn/crownsworn/model/KingdomState", "sorcery", "()I"⟩ : MethodName)) hown (mvT hZ (hw _ (List.mem_of_getElem? (i := 141) rfl))) (mvT hZ (hw _ (List.mem_of_getElem? (i := 142) rfl))) (notFace_of_selects (args := #[]) (mvT hZ (hw _ (List.mem_of_getElem? (i := 144) rfl)))) (mvT hZ (hw _ (List.mem_of_getElem? (i := 144) rfl))) (mvT hZ (hw _ (List.mem_of_getElem? (i := 143) rfl))) (by decide) (backOf (W := 0) (rm_sorcery l Z a0 hw [] b2 (0 : Int32) T8.heap n0 (show n0 ≤ T8.heap.size by omega) f8_1) hZ (hw _ (List.mem_of_getElem? (i := 145) rfl)) (hw _ (List.mem_of_getElem? (i := 9) rfl)) (by decide) (by decide)) q20a q20c (g := (mkF m 137 #[.val (.int v0), .val (.int v1), .val (.int v2), .val (.ref kd), .val (.ref b2), .val (.int (1 : Int32)), .val (.int a1), .unset] [(.ref b2)])) rfl (by rw [hml]; rfl) (Steps.refl _) (argsL := []) (rest := []) (lenOf pd_6 rfl) rfl (by show 2 * 0 + _ ≤ _; exact Nat.le_of_eq rfl) (hb hby at_137) (fun _ _ => ⟨rfl, e19, (by decide : 13 + 0 ≤ _), (by decide : 139 + 0 ≤ _)⟩)
    dsimp only [Pt.U, Pt.locs, Pt.cells, Pt.slots] at X20 l20 y20 z20 st20 hQ20
    subst l20 y20 z20
    obtain ⟨rfl, M20, e20⟩ := hQ20
    have N20 := Fr.app N19 M20
    refine own_go (T' := T20) (g' := (mkF m 140 #[.val (.int v0), .val (.int v1), .val (.int v2), .val (.ref kd), .val (.ref b2), .val (.int (1 : Int32)), .val (.int a1), .unset] [(.int (0 : Int32))])) (fun t_ k_ => st20.trans k_) ?_
    refine own_go (T' := T20) (g' := (mkF m 143 #[.val (.int v0), .val (.int v1), .val (.int v2), .val (.ref kd), .val (.ref b2), .val (.int (1 : Int32)), .val (.int a1), .unset] [])) (fun t_ k_ => XS.ifNo X20.here hx rfl (hb hby at_140) rfl ((if0 _ _).trans (teq (by decide)).2) k_) ?_
    refine own_go (T' := T20) (g' := (mkF m 145 #[.val (.int v0), .val (.int v1), .val (.int v2), .val (.ref kd), .val (.ref b2), .val (.int (1 : Int32)), .val (.int a1), .unset] [(.ref b2)])) (fun t_ k_ => XS.aload X20.here hx rfl (hb hby at_143) rfl rfl k_) ?_
    obtain ⟨cq21, kq21, q21a, q21b, q21c⟩ := isOf hZ e20 ff10
    obtain ⟨_, _, ⟨T21, L21, k21, n21⟩, -, X21, ⟨Lc21, hQ21, l21, y21, z21⟩, st21⟩ := X20.virtualBack hx (y := (⟨"com/example/crownsworn/crownsworn/model/KingdomState", "empirePoints", "()I"⟩ : MethodName)) (z := (⟨"com/example/crownsworn/crownsworn/model/KingdomState", "empirePoints", "()I"⟩ : MethodName)) hown (mvT hZ (hw _ (List.mem_of_getElem? (i := 148) rfl))) (mvT hZ (hw _ (List.mem_of_getElem? (i := 149) rfl))) (notFace_of_selects (args := #[]) (mvT hZ (hw _ (List.mem_of_getElem? (i := 151) rfl)))) (mvT hZ (hw _ (List.mem_of_getElem? (i := 151) rfl))) (mvT hZ (hw _ (List.mem_of_getElem? (i := 150) rfl))) (by decide) (backOf (W := 0) (rm_empirePoints l Z a0 hw [] b2 (0 : Int32) T8.heap n0 (show n0 ≤ T8.heap.size by omega) f8_2) hZ (hw _ (List.mem_of_getElem? (i := 152) rfl)) (hw _ (List.mem_of_getElem? (i := 9) rfl)) (by decide) (by decide)) q21a q21c (g := (mkF m 145 #[.val (.int v0), .val (.int v1), .val (.int v2), .val (.ref kd), .val (.ref b2), .val (.int (1 : Int32)), .val (.int a1), .unset] [(.ref b2)])) rfl (by rw [hml]; rfl) (Steps.refl _) (argsL := []) (rest := []) (lenOf pd_6 rfl) rfl (by show 2 * 0 + _ ≤ _; exact Nat.le_of_eq rfl) (hb hby at_145) (fun _ _ => ⟨rfl, e20, (by decide : 13 + 0 ≤ _), (by decide : 139 + 0 ≤ _)⟩)
    dsimp only [Pt.U, Pt.locs, Pt.cells, Pt.slots] at X21 l21 y21 z21 st21 hQ21
    subst l21 y21 z21
    obtain ⟨rfl, M21, e21⟩ := hQ21
    have N21 := Fr.app N20 M21
    refine own_go (T' := T21) (g' := (mkF m 148 #[.val (.int v0), .val (.int v1), .val (.int v2), .val (.ref kd), .val (.ref b2), .val (.int (1 : Int32)), .val (.int a1), .unset] [(.int (0 : Int32))])) (fun t_ k_ => st21.trans k_) ?_
    refine own_go (T' := T21) (g' := (mkF m 151 #[.val (.int v0), .val (.int v1), .val (.int v2), .val (.ref kd), .val (.ref b2), .val (.int (1 : Int32)), .val (.int a1), .unset] [])) (fun t_ k_ => XS.ifNo X21.here hx rfl (hb hby at_148) rfl ((if0 _ _).trans (teq (by decide)).2) k_) ?_
    refine own_go (T' := T21) (g' := (mkF m 153 #[.val (.int v0), .val (.int v1), .val (.int v2), .val (.ref kd), .val (.ref b2), .val (.int (1 : Int32)), .val (.int a1), .unset] [(.ref b2)])) (fun t_ k_ => XS.aload X21.here hx rfl (hb hby at_151) rfl rfl k_) ?_
    obtain ⟨cq22, kq22, q22a, q22b, q22c⟩ := isOf hZ e21 ff10
    obtain ⟨_, _, ⟨T22, L22, k22, n22⟩, -, X22, ⟨Lc22, hQ22, l22, y22, z22⟩, st22⟩ := X21.virtualBack hx (y := (⟨"com/example/crownsworn/crownsworn/model/KingdomState", "kingdom", "()Lcom/example/crownsworn/crownsworn/model/Kingdom;"⟩ : MethodName)) (z := (⟨"com/example/crownsworn/crownsworn/model/KingdomState", "kingdom", "()Lcom/example/crownsworn/crownsworn/model/Kingdom;"⟩ : MethodName)) hown (mvT hZ (hw _ (List.mem_of_getElem? (i := 155) rfl))) (mvT hZ (hw _ (List.mem_of_getElem? (i := 156) rfl))) (notFace_of_selects (args := #[]) (mvT hZ (hw _ (List.mem_of_getElem? (i := 158) rfl)))) (mvT hZ (hw _ (List.mem_of_getElem? (i := 158) rfl))) (mvT hZ (hw _ (List.mem_of_getElem? (i := 157) rfl))) (by decide) (backOf (W := 0) (rm_kingdom l Z a0 hw [] b2 kd T8.heap n0 (show n0 ≤ T8.heap.size by omega) f8_3) hZ (hw _ (List.mem_of_getElem? (i := 159) rfl)) (hw _ (List.mem_of_getElem? (i := 9) rfl)) (by decide) (by decide)) q22a q22c (g := (mkF m 153 #[.val (.int v0), .val (.int v1), .val (.int v2), .val (.ref kd), .val (.ref b2), .val (.int (1 : Int32)), .val (.int a1), .unset] [(.ref b2)])) rfl (by rw [hml]; rfl) (Steps.refl _) (argsL := []) (rest := []) (lenOf pd_9 rfl) rfl (by show 2 * 0 + _ ≤ _; exact Nat.le_of_eq rfl) (hb hby at_153) (fun _ _ => ⟨rfl, e21, (by decide : 13 + 0 ≤ _), (by decide : 139 + 0 ≤ _)⟩)
    dsimp only [Pt.U, Pt.locs, Pt.cells, Pt.slots] at X22 l22 y22 z22 st22 hQ22
    subst l22 y22 z22
    obtain ⟨rfl, M22, e22⟩ := hQ22
    have N22 := Fr.app N21 M22
    refine own_go (T' := T22) (g' := (mkF m 156 #[.val (.int v0), .val (.int v1), .val (.int v2), .val (.ref kd), .val (.ref b2), .val (.int (1 : Int32)), .val (.int a1), .unset] [(.ref kd)])) (fun t_ k_ => st22.trans k_) ?_
    refine own_go (T' := T22) (g' := (mkF m 157 #[.val (.int v0), .val (.int v1), .val (.int v2), .val (.ref kd), .val (.ref b2), .val (.int (1 : Int32)), .val (.int a1), .unset] [(.ref kd), (.ref kd)])) (fun t_ k_ => XS.aloadN X22.here hx rfl (hb hby at_156) rfl rfl k_) ?_
    refine own_go (T' := T22) (g' := (mkF m 160 #[.val (.int v0), .val (.int v1), .val (.int v2), .val (.ref kd), .val (.ref b2), .val (.int (1 : Int32)), .val (.int a1), .unset] [])) (fun t_ k_ => Jvm.RoadKit.acmp (g := (mkF m 157 #[.val (.int v0), .val (.int v1), .val (.int v2), .val (.ref kd), .val (.ref b2), .val (.int (1 : Int32)), .val (.int a1), .unset] [(.ref kd), (.ref kd)])) X22 hx rfl rfl rfl (pc0 := 157) (pc' := 160) (same := true) rfl (hb hby at_157) rfl (decide_eq_true rfl) (by decide) (by decide) k_) ?_
    refine own_go (T' := T22) (g' := (mkF m 161 #[.val (.int v0), .val (.int v1), .val (.int v2), .val (.ref kd), .val (.ref b2), .val (.int (1 : Int32)), .val (.int a1), .unset] [(.int (1 : Int32))])) (fun t_ k_ => XS.iconst X22.here hx rfl (hb hby at_160) k_) ?_
    refine own_go (T' := T22) (g' := (mkF m 165 #[.val (.int v0), .val (.int v1), .val (.int v2), .val (.ref kd), .val (.ref b2), .val (.int (1 : Int32)), .val (.int a1), .unset] [(.int (1 : Int32))])) (fun t_ k_ => XS.goto X22.here hx rfl (pc0 := 161) (pc' := 165) rfl (hb hby at_161) (by decide) (by decide) k_) ?_
    exact own_outW X22 hS (show _ ≤ T22.heap.size by rw [e22]; omega) (v := some (.int (nar .boolean (1 : Int32)))) (fun h => by rw [Bd.returns] at h; cases h) hlk (fun fs hr => retN X22 hx (t := .boolean) Bd.returns (by simp) (hb hby at_165) hr) (Q := Q_rm_law Z v0 v1 v2 wA wT wS wH wD h0 n0) (by rw [e22]; exact ⟨rfl, N22⟩) (by decide) (by decide)
set_option maxRecDepth 65536 in
set_option maxHeartbeats 40000000 in
theorem comes_1 {Post : Tables → Env → Array Value → State → Outcome → State → Prop} (hpost : ∀ tb e args s v u, (limb_1_1.after args s (.returned v) u = true ∧ limb_1_2.after args s (.returned v) u = true ∧ True) → ReturnedEndW s (.returned v) u (Jvm.fieldLocs frame_1_writes args s ++ Jvm.arrayLocs frame_1_arrays args s ++ Jvm.staticLocs frame_1_statics s) 32 1280 → Post tb e args s (.returned v) u) :
    ArmFor flags0 classFile x code maxLocals ret World_1 tables_1 room_1 Calls_1 rest_1 Pre_1 Post := by
  intro l hfl _ _ p e ha hc hk s m args below hf hA hF happ hP
  obtain ⟨hcalls, hrest, hpre⟩ := hP
  obtain ⟨-, -, -, hnamed, -, -, -, hat⟩ := (Spec.applies_iff hf).mp happ
  obtain ⟨hg, hn⟩ := and_e (Cond.before_iff.mp (show (Jvm.Cond.and given_1 narrow_1).before args s = true from hpre))
  obtain ⟨gc, gr⟩ := and_e hg
  obtain ⟨ga0, gr0⟩ := and_e gr
  obtain ⟨ga1, gr1⟩ := and_e gr0
  have ga2 := gr1
  obtain ⟨w0, w1, w2, rfl⟩ : ∃ w0 w1 w2 : Value, args = #[w0, w1, w2] := by
    have hs : args.size = 3 := by simpa [Cond.value, given_1] using gc
    obtain ⟨L⟩ := args
    match L, hs with
    | [w0, w1, w2], _ => exact ⟨w0, w1, w2, rfl⟩
  have hw := fun d (hd : d ∈ tables_1) => atoms_spec (ws := Jvm.Cond.code x code maxLocals ret :: tables_1) hat d (List.mem_cons_of_mem _ hd)
  have hfit : Fit s := fun {y c} hc i hi => by
    obtain ⟨ha, rfl⟩ := Array.getElem?_eq_some_iff.mp hc
    have q := List.all_eq_true.mp ((Array.all_eq_true_iff_forall_mem.mp hF) _ (Array.getElem_mem ha)) i (List.mem_range.mpr hi)
    simpa [Array.getElem?_eq_getElem hi] using q
  obtain ⟨hsets, hown0⟩ := atoms_of _ (rest_1_c_eq ▸ (show rest_1_c.before _ s = true from hrest))
  obtain ⟨i0, ei0⟩ := is_v ga0
  obtain rfl : w0 = (.int i0) := Option.some.inj ei0
  obtain ⟨i1, ei1⟩ := is_v ga1
  obtain rfl : w1 = (.int i1) := Option.some.inj ei1
  obtain ⟨i2, ei2⟩ := is_v ga2
  obtain rfl : w2 = (.int i2) := Option.some.inj ei2
  obtain ⟨xA, r1⟩ := and_e hn
  obtain ⟨xT, r2⟩ := and_e r1
  obtain ⟨xH, xS⟩ := and_e r2
  obtain ⟨wA, evA⟩ := exa_v xA
  obtain ⟨wT, evT⟩ := exa_v xT
  obtain ⟨wS, evS⟩ := exa_v xS
  obtain ⟨wH, evH⟩ := exa_v xH
  obtain ⟨wD, evD⟩ := arr_v (Cond.before_iff.mp (hsets _ (List.mem_of_getElem? (i := 6) rfl)))
  obtain ⟨n, o, h1, h2, h3, _, L, rfl, ⟨rfl, N⟩, hq⟩ := rm_law l s _ hw tables_1 i0 i1 i2 wA wT wS wH wD s.heap s.heap.size (Nat.le_refl _) (Old.start s) (Sta.start evA (Or.inr ⟨(hw _ (List.mem_of_getElem? (i := 5) rfl)), (hw _ (List.mem_of_getElem? (i := 6) rfl))⟩)) (Sta.start evT (Or.inr ⟨(hw _ (List.mem_of_getElem? (i := 5) rfl)), (hw _ (List.mem_of_getElem? (i := 161) rfl))⟩)) (Sta.start evS (Or.inr ⟨(hw _ (List.mem_of_getElem? (i := 5) rfl)), (hw _ (List.mem_of_getElem? (i := 165) rfl))⟩)) (Sta.start evH (Or.inr ⟨(hw _ (List.mem_of_getElem? (i := 5) rfl)), (hw _ (List.mem_of_getElem? (i := 163) rfl))⟩)) (Sta.start evD (Or.inr ⟨(hw _ (List.mem_of_getElem? (i := 18) rfl)), hsets _ (List.mem_of_getElem? (i := 2) rfl)⟩)) (Exa.start evA xA) (Exa.start evT xT) (Exa.start evS xS) (Exa.start evH xH) p e ha hc hk s m _ below hf ((Spec.applies_iff_loose hf).mp happ).1 ⟨rfl, State.Warmed39.refl s, rfl⟩ trivial
  refine ⟨n, _, h1, h2, h3, hpost _ _ _ _ _ _ ⟨Cond.after_iff.mpr rfl, Cond.after_iff.mpr (eq_i res_at (Term.int_eval (1)) rfl), trivial⟩ ⟨hq.1, hq.2.1, hq.2.2.1, (hq.2.2.2.sift fun y hy => Or.inr (N y hy)).mono (by decide) (by decide)⟩⟩
theorem main_1_1 : Claimed_1_1 := comes_1 fun _ _ _ _ _ _ h hF => ⟨h.1, hF⟩
theorem main_1_2 : Claimed_1_2 := comes_1 fun _ _ _ _ _ _ h hF => ⟨h.2.1, hF⟩
end Jvm.Pilot.@@N@@
namespace Jvm.Pilot.@@N@@
open Jvm Jvm.ClassFile Sem Op Lib Jvm.Free Jvm.Stand Jvm.Pilot.@@N@@.Jvm.D
/-! MADE BY PROGRAM (witnessworld.py) out of the Statement's table words and the real class files: 39 classes; the members and pool entries that the words name. The judged class is class 1, her method 2. -/
namespace start1
open Jvm.ClassFile
def u (s : String) : CpInfo := .utf8 (stringToUtf16 s)
/-- a pool by its gaps: so many unusable entries, then the entry; so many at the end -/
def gap : Nat → List CpInfo → List CpInfo
  | 0, r => r
  | n + 1, r => .unusable :: gap n r
def poolList (es : List (Nat × CpInfo)) (last : Nat) : List CpInfo := es.foldr (fun e r => gap e.1 (e.2 :: r)) (gap last [])
def pool (es : List (Nat × CpInfo)) (last : Nat) : Array CpInfo := ⟨poolList es last⟩
def fileOf (pool : Array CpInfo) (this : Nat) (attrs : Array Attribute := #[]) (ms : Array MethodInfo := #[]) (fl : Nat := 33) (sup : Nat := 0) (ifs : Array Nat := #[]) (fds : Array FieldInfo := #[]) : ClassFile where
  minorVersion := 0
  majorVersion := 65
  constantPool := pool
  accessFlags := fl
  thisClass := this
  superClass := sup
  interfaces := ifs
  fields := fds
  methods := ms
  attributes := attrs
def plain (name : String) (sup : Option ClassId) : Class where
  name := name
  kind := .ordinary
  loader := none
  accessFlags := 33
  super := sup
  interfaces := #[]
  cf := none
  fields := #[]
  methods := #[]
  instanceTypes := #[]
  staticTypes := #[]
  resolved := #[]
  callSites := []
  init := .initialized
  statics := none
  mirror := none

def pool0 : Array CpInfo := pool [(5, u "<init>"), (0, u "()V"), (1, .class_ 10), (1, u "java/lang/Object")] 113

def k0c0 : Code := { maxStack := 0, maxLocals := 1, code := object_method_1_code, exceptionTable := #[], attributes := #[] }
def k0m0 : Method := { name := "<init>", desc := "()V", sig := { parameters := [], returnType := none }, accessFlags := 1, code := some k0c0 }
/-- java/lang/Object -/
def k0 : Class := { plain "java/lang/Object" none with
  accessFlags := 33
  interfaces := #[]
  cf := some (fileOf pool0 8 #[] #[{ accessFlags := 1, nameIndex := 5, descriptorIndex := 6, attributes := #[] }] 33 0 #[] #[])
  fields := #[]
  methods := #[k0m0]
  instanceTypes := #[]
  staticTypes := #[]
  resolved := Array.replicate 124 none
  statics := none }

def pool1 : Array CpInfo := pool [(2, .class_ 4), (1, u "java/lang/Object"), (0, u "<init>"), (0, u "()V"), (0, .fieldref 8 9), (0, .class_ 10), (0, .nameAndType 11 12), (0, u "com/example/crownsworn/crownsworn/model/Kingdom"), (0, u "AQUILONIA"), (0, u "Lcom/example/crownsworn/crownsworn/model/Kingdom;"), (0, .fieldref 8 14), (0, .nameAndType 15 12), (0, u "TURAN"), (0, .fieldref 8 17), (0, .nameAndType 18 12), (0, u "STYGIA"), (0, .fieldref 8 20), (0, .nameAndType 21 12), (0, u "HYPERBOREA"), (0, .methodref 23 24), (0, .class_ 25), (0, .nameAndType 26 27), (0, u "com/example/crownsworn/crownsworn/model/KingdomStateGainCromPinLaw"), (0, u "pick"), (0, u "(I)Lcom/example/crownsworn/crownsworn/model/Kingdom;"), (0, .class_ 29), (0, u "com/example/crownsworn/crownsworn/model/KingdomState"), (0, .methodref 28 31), (0, .nameAndType 5 32), (0, u "(Lcom/example/crownsworn/crownsworn/model/Kingdom;)V"), (0, .methodref 28 34), (0, .nameAndType 35 36), (0, u "crom"), (0, u "()I"), (0, .integer 2147483647), (0, .methodref 39 40), (0, .class_ 41), (0, .nameAndType 42 43), (0, u "java/lang/Math"), (0, u "max"), (0, u "(II)I"), (0, .methodref 28 45), (0, .nameAndType 46 47), (0, u "gainCrom"), (0, u "(I)V"), (2, .methodref 28 51), (0, .nameAndType 52 36), (0, u "gold"), (0, .methodref 28 54), (0, .nameAndType 55 36), (0, u "sorcery"), (0, .methodref 28 57), (0, .nameAndType 58 36), (0, u "empirePoints"), (0, .methodref 28 60), (0, .nameAndType 61 62), (0, u "kingdom"), (0, u "()Lcom/example/crownsworn/crownsworn/model/Kingdom;"), (3, u "law"), (0, u "(III)Z")] 2

def k1m0 : Method := { name := "<init>", desc := "()V", sig := { parameters := [], returnType := none }, accessFlags := 2, code := none }
def k1c1 : Code := { maxStack := 2, maxLocals := 2, code := method_2_code, exceptionTable := #[], attributes := #[] }
def k1m1 : Method := { name := "pick", desc := "(I)Lcom/example/crownsworn/crownsworn/model/Kingdom;", sig := { parameters := [.int], returnType := some (.object "com/example/crownsworn/crownsworn/model/Kingdom") }, accessFlags := 10, code := some k1c1 }
def k1c2 : Code := { maxStack := 4, maxLocals := 8, code := code, exceptionTable := #[], attributes := #[] }
def k1m2 : Method := { name := "law", desc := "(III)Z", sig := { parameters := [.int, .int, .int], returnType := some .boolean }, accessFlags := 9, code := some k1c2 }
/-- com/example/crownsworn/crownsworn/model/KingdomStateGainCromPinLaw -/
def k1 : Class := { plain "com/example/crownsworn/crownsworn/model/KingdomStateGainCromPinLaw" (some 0) with
  accessFlags := 49
  interfaces := #[]
  cf := some (fileOf pool1 23 #[] #[{ accessFlags := 2, nameIndex := 5, descriptorIndex := 6, attributes := #[] }, { accessFlags := 10, nameIndex := 26, descriptorIndex := 27, attributes := #[] }, { accessFlags := 9, nameIndex := 66, descriptorIndex := 67, attributes := #[] }] 49 2 #[] #[])
  fields := #[]
  methods := #[k1m0, k1m1, k1m2]
  instanceTypes := #[]
  staticTypes := #[]
  resolved := Array.replicate 70 none
  statics := none }

def pool2 : Array CpInfo := pool [(1, .class_ 2), (0, u "java/lang/constant/Constable"), (0, .class_ 4), (0, u "java/lang/Object")] 6

/-- java/lang/constant/Constable -/
def k2 : Class := { plain "java/lang/constant/Constable" (some 0) with
  accessFlags := 1537
  interfaces := #[]
  cf := some (fileOf pool2 1 #[] #[] 1537 3 #[] #[])
  fields := #[]
  methods := #[]
  instanceTypes := #[]
  staticTypes := #[]
  resolved := Array.replicate 11 none
  statics := none }

def pool3 : Array CpInfo := pool [(1, .class_ 2), (0, u "java/lang/Comparable"), (0, .class_ 4), (0, u "java/lang/Object")] 7

/-- java/lang/Comparable -/
def k3 : Class := { plain "java/lang/Comparable" (some 0) with
  accessFlags := 1537
  interfaces := #[]
  cf := some (fileOf pool3 1 #[] #[] 1537 3 #[] #[])
  fields := #[]
  methods := #[]
  instanceTypes := #[]
  staticTypes := #[]
  resolved := Array.replicate 12 none
  statics := none }

def pool4 : Array CpInfo := pool [(1, .class_ 2), (0, u "java/io/Serializable"), (0, .class_ 4), (0, u "java/lang/Object")] 2

/-- java/io/Serializable -/
def k4 : Class := { plain "java/io/Serializable" (some 0) with
  accessFlags := 1537
  interfaces := #[]
  cf := some (fileOf pool4 1 #[] #[] 1537 3 #[] #[])
  fields := #[]
  methods := #[]
  instanceTypes := #[]
  staticTypes := #[]
  resolved := Array.replicate 7 none
  statics := none }

def pool5 : Array CpInfo := pool [(2, .class_ 4), (1, u "java/lang/Enum"), (0, u "name"), (0, u "Ljava/lang/String;"), (2, u "ordinal"), (0, u "I"), (1, .class_ 14), (1, u "java/lang/Object"), (4, u "hash"), (86, .class_ 108), (1, u "java/lang/Enum$EnumDesc"), (2, .class_ 112), (0, u "java/lang/constant/Constable"), (0, .class_ 114), (0, u "java/lang/Comparable"), (0, .class_ 116), (0, u "java/io/Serializable")] 87

/-- java/lang/Enum -/
def k5 : Class := { plain "java/lang/Enum" (some 0) with
  accessFlags := 1057
  interfaces := #[2, 3, 4]
  cf := some (fileOf pool5 2 #[.nestMembers #[106]] #[] 1057 12 #[111, 113, 115] #[{ accessFlags := 18, nameIndex := 5, descriptorIndex := 6, attributes := #[] }, { accessFlags := 18, nameIndex := 9, descriptorIndex := 10, attributes := #[] }, { accessFlags := 2, nameIndex := 19, descriptorIndex := 10, attributes := #[] }])
  fields := #[{ name := "name", type := (.object "java/lang/String"), accessFlags := 18, slot := 0, constantValue := 0 }, { name := "ordinal", type := .int, accessFlags := 18, slot := 1, constantValue := 0 }, { name := "hash", type := .int, accessFlags := 2, slot := 2, constantValue := 0 }]
  methods := #[]
  instanceTypes := #[(.object "java/lang/String"), .int, .int]
  staticTypes := #[]
  resolved := Array.replicate 204 none
  statics := none }

def pool6 : Array CpInfo := pool [(1, .class_ 2), (0, u "com/example/crownsworn/crownsworn/model/Kingdom"), (2, u "AQUILONIA"), (0, u "Lcom/example/crownsworn/crownsworn/model/Kingdom;"), (2, u "TURAN"), (2, u "STYGIA"), (2, u "HYPERBOREA"), (2, u "$VALUES"), (0, u "[Lcom/example/crownsworn/crownsworn/model/Kingdom;"), (6, .class_ 28), (1, u "java/lang/Enum"), (8, u "displayName"), (0, u "Ljava/lang/String;"), (29, u "NEUTRAL")] 20

/-- com/example/crownsworn/crownsworn/model/Kingdom -/
def k6 : Class := { plain "com/example/crownsworn/crownsworn/model/Kingdom" (some 5) with
  accessFlags := 16433
  interfaces := #[]
  cf := some (fileOf pool6 1 #[] #[] 16433 26 #[] #[{ accessFlags := 16409, nameIndex := 5, descriptorIndex := 6, attributes := #[] }, { accessFlags := 16409, nameIndex := 9, descriptorIndex := 6, attributes := #[] }, { accessFlags := 16409, nameIndex := 12, descriptorIndex := 6, attributes := #[] }, { accessFlags := 16409, nameIndex := 15, descriptorIndex := 6, attributes := #[] }, { accessFlags := 25, nameIndex := 68, descriptorIndex := 38, attributes := #[] }, { accessFlags := 18, nameIndex := 37, descriptorIndex := 38, attributes := #[] }, { accessFlags := 4122, nameIndex := 18, descriptorIndex := 19, attributes := #[] }])
  fields := #[{ name := "AQUILONIA", type := (.object "com/example/crownsworn/crownsworn/model/Kingdom"), accessFlags := 16409, slot := 0, constantValue := 0 }, { name := "TURAN", type := (.object "com/example/crownsworn/crownsworn/model/Kingdom"), accessFlags := 16409, slot := 1, constantValue := 0 }, { name := "STYGIA", type := (.object "com/example/crownsworn/crownsworn/model/Kingdom"), accessFlags := 16409, slot := 2, constantValue := 0 }, { name := "HYPERBOREA", type := (.object "com/example/crownsworn/crownsworn/model/Kingdom"), accessFlags := 16409, slot := 3, constantValue := 0 }, { name := "NEUTRAL", type := (.object "java/lang/String"), accessFlags := 25, slot := 4, constantValue := 0 }, { name := "displayName", type := (.object "java/lang/String"), accessFlags := 18, slot := 3, constantValue := 0 }, { name := "$VALUES", type := (.array (.object "com/example/crownsworn/crownsworn/model/Kingdom")), accessFlags := 4122, slot := 5, constantValue := 0 }]
  methods := #[]
  instanceTypes := #[(.object "java/lang/String"), .int, .int, (.object "java/lang/String")]
  staticTypes := #[(.object "com/example/crownsworn/crownsworn/model/Kingdom"), (.object "com/example/crownsworn/crownsworn/model/Kingdom"), (.object "com/example/crownsworn/crownsworn/model/Kingdom"), (.object "com/example/crownsworn/crownsworn/model/Kingdom"), (.object "java/lang/String"), (.array (.object "com/example/crownsworn/crownsworn/model/Kingdom"))]
  resolved := Array.replicate 89 none
  statics := some 0 }

def pool7 : Array CpInfo := pool [(1, .methodref 2 3), (0, .class_ 4), (0, .nameAndType 5 6), (0, u "java/lang/Object"), (0, u "<init>"), (0, u "()V"), (0, .class_ 8), (0, u "java/util/ArrayList"), (0, .methodref 7 3), (0, .fieldref 11 12), (0, .class_ 13), (0, .nameAndType 14 15), (0, u "com/example/crownsworn/crownsworn/model/KingdomState"), (0, u "hand"), (0, u "Ljava/util/List;"), (0, .fieldref 11 17), (0, .nameAndType 18 15), (0, u "tokens"), (0, .class_ 20), (0, u "java/util/TreeMap"), (0, .methodref 19 3), (0, .fieldref 11 23), (0, .nameAndType 24 25), (0, u "units"), (0, u "Ljava/util/SortedMap;"), (0, .fieldref 11 27), (0, .nameAndType 28 25), (0, u "emissaries"), (0, .fieldref 11 30), (0, .nameAndType 31 25), (0, u "campaigns"), (0, .fieldref 11 33), (0, .nameAndType 34 25), (0, u "markers"), (0, .class_ 36), (0, u "java/util/TreeSet"), (0, .methodref 35 3), (0, .fieldref 11 39), (0, .nameAndType 40 41), (0, u "unusedBidTokens"), (0, u "Ljava/util/SortedSet;"), (0, .fieldref 11 43), (0, .nameAndType 44 41), (0, u "artifacts"), (0, .string 46), (0, u "kingdom is null"), (0, .methodref 48 49), (0, .class_ 50), (0, .nameAndType 51 52), (0, u "java/util/Objects"), (0, u "requireNonNull"), (0, u "(Ljava/lang/Object;Ljava/lang/String;)Ljava/lang/Object;"), (0, .class_ 54), (0, u "com/example/crownsworn/crownsworn/model/Kingdom"), (0, .fieldref 11 56), (0, .nameAndType 57 58), (0, u "kingdom"), (0, u "Lcom/example/crownsworn/crownsworn/model/Kingdom;"), (0, .fieldref 11 60), (0, .nameAndType 61 62), (0, u "gold"), (0, u "I"), (0, .fieldref 11 64), (0, .nameAndType 65 62), (0, u "sorcery"), (0, .fieldref 11 67), (0, .nameAndType 68 62), (0, u "empirePoints"), (0, .fieldref 11 70), (0, .nameAndType 71 62), (0, u "crom"), (33, u "()I"), (16, .methodref 11 123), (0, .nameAndType 124 125), (0, u "positive"), (0, u "(I)I"), (147, u "(Lcom/example/crownsworn/crownsworn/model/Kingdom;)V"), (2, u "()Lcom/example/crownsworn/crownsworn/model/Kingdom;"), (19, u "(I)V"), (5, u "gainCrom")] 77

def k7c0 : Code := { maxStack := 3, maxLocals := 2, code := prog_16_method_1_code, exceptionTable := #[], attributes := #[] }
def k7m0 : Method := { name := "<init>", desc := "(Lcom/example/crownsworn/crownsworn/model/Kingdom;)V", sig := { parameters := [(.object "com/example/crownsworn/crownsworn/model/Kingdom")], returnType := none }, accessFlags := 1, code := some k7c0 }
def k7c1 : Code := { maxStack := 1, maxLocals := 1, code := prog_16_method_2_code, exceptionTable := #[], attributes := #[] }
def k7m1 : Method := { name := "kingdom", desc := "()Lcom/example/crownsworn/crownsworn/model/Kingdom;", sig := { parameters := [], returnType := some (.object "com/example/crownsworn/crownsworn/model/Kingdom") }, accessFlags := 1, code := some k7c1 }
def k7c2 : Code := { maxStack := 1, maxLocals := 1, code := prog_16_method_3_code, exceptionTable := #[], attributes := #[] }
def k7m2 : Method := { name := "gold", desc := "()I", sig := { parameters := [], returnType := some .int }, accessFlags := 1, code := some k7c2 }
def k7c3 : Code := { maxStack := 1, maxLocals := 1, code := prog_16_method_4_code, exceptionTable := #[], attributes := #[] }
def k7m3 : Method := { name := "sorcery", desc := "()I", sig := { parameters := [], returnType := some .int }, accessFlags := 1, code := some k7c3 }
def k7c4 : Code := { maxStack := 1, maxLocals := 1, code := prog_16_method_5_code, exceptionTable := #[], attributes := #[] }
def k7m4 : Method := { name := "empirePoints", desc := "()I", sig := { parameters := [], returnType := some .int }, accessFlags := 1, code := some k7c4 }
def k7c5 : Code := { maxStack := 1, maxLocals := 1, code := prog_16_method_6_code, exceptionTable := #[], attributes := #[] }
def k7m5 : Method := { name := "crom", desc := "()I", sig := { parameters := [], returnType := some .int }, accessFlags := 1, code := some k7c5 }
def k7c6 : Code := { maxStack := 3, maxLocals := 2, code := prog_16_method_24_code, exceptionTable := #[], attributes := #[] }
def k7m6 : Method := { name := "gainCrom", desc := "(I)V", sig := { parameters := [.int], returnType := none }, accessFlags := 1, code := some k7c6 }
def k7c7 : Code := { maxStack := 3, maxLocals := 1, code := prog_16_method_45_code, exceptionTable := #[], attributes := #[] }
def k7m7 : Method := { name := "positive", desc := "(I)I", sig := { parameters := [.int], returnType := some .int }, accessFlags := 10, code := some k7c7 }
/-- com/example/crownsworn/crownsworn/model/KingdomState -/
def k7 : Class := { plain "com/example/crownsworn/crownsworn/model/KingdomState" (some 0) with
  accessFlags := 49
  interfaces := #[]
  cf := some (fileOf pool7 11 #[] #[{ accessFlags := 1, nameIndex := 5, descriptorIndex := 273, attributes := #[] }, { accessFlags := 1, nameIndex := 57, descriptorIndex := 276, attributes := #[] }, { accessFlags := 1, nameIndex := 61, descriptorIndex := 105, attributes := #[] }, { accessFlags := 1, nameIndex := 65, descriptorIndex := 105, attributes := #[] }, { accessFlags := 1, nameIndex := 68, descriptorIndex := 105, attributes := #[] }, { accessFlags := 1, nameIndex := 71, descriptorIndex := 105, attributes := #[] }, { accessFlags := 1, nameIndex := 302, descriptorIndex := 296, attributes := #[] }, { accessFlags := 10, nameIndex := 124, descriptorIndex := 125, attributes := #[] }] 49 2 #[] #[{ accessFlags := 18, nameIndex := 57, descriptorIndex := 58, attributes := #[] }, { accessFlags := 2, nameIndex := 61, descriptorIndex := 62, attributes := #[] }, { accessFlags := 2, nameIndex := 65, descriptorIndex := 62, attributes := #[] }, { accessFlags := 2, nameIndex := 68, descriptorIndex := 62, attributes := #[] }, { accessFlags := 2, nameIndex := 71, descriptorIndex := 62, attributes := #[] }, { accessFlags := 18, nameIndex := 14, descriptorIndex := 15, attributes := #[] }, { accessFlags := 18, nameIndex := 18, descriptorIndex := 15, attributes := #[] }, { accessFlags := 18, nameIndex := 24, descriptorIndex := 25, attributes := #[] }, { accessFlags := 18, nameIndex := 28, descriptorIndex := 25, attributes := #[] }, { accessFlags := 18, nameIndex := 31, descriptorIndex := 25, attributes := #[] }, { accessFlags := 18, nameIndex := 34, descriptorIndex := 25, attributes := #[] }, { accessFlags := 18, nameIndex := 40, descriptorIndex := 41, attributes := #[] }, { accessFlags := 18, nameIndex := 44, descriptorIndex := 41, attributes := #[] }])
  fields := #[{ name := "kingdom", type := (.object "com/example/crownsworn/crownsworn/model/Kingdom"), accessFlags := 18, slot := 0, constantValue := 0 }, { name := "gold", type := .int, accessFlags := 2, slot := 1, constantValue := 0 }, { name := "sorcery", type := .int, accessFlags := 2, slot := 2, constantValue := 0 }, { name := "empirePoints", type := .int, accessFlags := 2, slot := 3, constantValue := 0 }, { name := "crom", type := .int, accessFlags := 2, slot := 4, constantValue := 0 }, { name := "hand", type := (.object "java/util/List"), accessFlags := 18, slot := 5, constantValue := 0 }, { name := "tokens", type := (.object "java/util/List"), accessFlags := 18, slot := 6, constantValue := 0 }, { name := "units", type := (.object "java/util/SortedMap"), accessFlags := 18, slot := 7, constantValue := 0 }, { name := "emissaries", type := (.object "java/util/SortedMap"), accessFlags := 18, slot := 8, constantValue := 0 }, { name := "campaigns", type := (.object "java/util/SortedMap"), accessFlags := 18, slot := 9, constantValue := 0 }, { name := "markers", type := (.object "java/util/SortedMap"), accessFlags := 18, slot := 10, constantValue := 0 }, { name := "unusedBidTokens", type := (.object "java/util/SortedSet"), accessFlags := 18, slot := 11, constantValue := 0 }, { name := "artifacts", type := (.object "java/util/SortedSet"), accessFlags := 18, slot := 12, constantValue := 0 }]
  methods := #[k7m0, k7m1, k7m2, k7m3, k7m4, k7m5, k7m6, k7m7]
  instanceTypes := #[(.object "com/example/crownsworn/crownsworn/model/Kingdom"), .int, .int, .int, .int, (.object "java/util/List"), (.object "java/util/List"), (.object "java/util/SortedMap"), (.object "java/util/SortedMap"), (.object "java/util/SortedMap"), (.object "java/util/SortedMap"), (.object "java/util/SortedSet"), (.object "java/util/SortedSet")]
  staticTypes := #[]
  resolved := Array.replicate 380 none
  statics := none }

def pool8 : Array CpInfo := pool [(8, .class_ 10), (1, u "java/lang/Iterable"), (24, .class_ 36), (0, u "java/lang/Object")] 25

/-- java/lang/Iterable -/
def k8 : Class := { plain "java/lang/Iterable" (some 0) with
  accessFlags := 1537
  interfaces := #[]
  cf := some (fileOf pool8 8 #[] #[] 1537 35 #[] #[])
  fields := #[]
  methods := #[]
  instanceTypes := #[]
  staticTypes := #[]
  resolved := Array.replicate 62 none
  statics := none }

def pool9 : Array CpInfo := pool [(10, .class_ 12), (1, u "java/util/Collection"), (47, .class_ 61), (0, u "java/lang/Object"), (0, .class_ 63), (0, u "java/lang/Iterable")] 51

/-- java/util/Collection -/
def k9 : Class := { plain "java/util/Collection" (some 0) with
  accessFlags := 1537
  interfaces := #[8]
  cf := some (fileOf pool9 10 #[] #[] 1537 60 #[62] #[])
  fields := #[]
  methods := #[]
  instanceTypes := #[]
  staticTypes := #[]
  resolved := Array.replicate 115 none
  statics := none }

def pool10 : Array CpInfo := pool [(1, .methodref 2 3), (0, .class_ 4), (0, .nameAndType 5 6), (0, u "java/lang/Object"), (0, u "<init>"), (0, u "()V"), (1, .class_ 10), (1, u "java/util/AbstractCollection"), (66, .class_ 78), (0, u "java/util/Collection")] 81

def k10c0 : Code := { maxStack := 1, maxLocals := 1, code := jdk_22_method_1_code, exceptionTable := #[], attributes := #[] }
def k10m0 : Method := { name := "<init>", desc := "()V", sig := { parameters := [], returnType := none }, accessFlags := 4, code := some k10c0 }
/-- java/util/AbstractCollection -/
def k10 : Class := { plain "java/util/AbstractCollection" (some 0) with
  accessFlags := 1057
  interfaces := #[9]
  cf := some (fileOf pool10 8 #[] #[{ accessFlags := 4, nameIndex := 5, descriptorIndex := 6, attributes := #[] }] 1057 2 #[77] #[])
  fields := #[]
  methods := #[k10m0]
  instanceTypes := #[]
  staticTypes := #[]
  resolved := Array.replicate 160 none
  statics := none }

def pool11 : Array CpInfo := pool [(8, .class_ 10), (1, u "java/util/SequencedCollection"), (15, .class_ 27), (0, u "java/lang/Object"), (0, .class_ 29), (0, u "java/util/Collection")] 27

/-- java/util/SequencedCollection -/
def k11 : Class := { plain "java/util/SequencedCollection" (some 0) with
  accessFlags := 1537
  interfaces := #[9]
  cf := some (fileOf pool11 8 #[] #[] 1537 26 #[28] #[])
  fields := #[]
  methods := #[]
  instanceTypes := #[]
  staticTypes := #[]
  resolved := Array.replicate 57 none
  statics := none }

def pool12 : Array CpInfo := pool [(8, .class_ 10), (1, u "java/util/List"), (92, .class_ 104), (0, u "java/lang/Object"), (15, .class_ 121), (0, u "java/util/SequencedCollection")] 129

/-- java/util/List -/
def k12 : Class := { plain "java/util/List" (some 0) with
  accessFlags := 1537
  interfaces := #[11]
  cf := some (fileOf pool12 8 #[] #[] 1537 103 #[120] #[])
  fields := #[]
  methods := #[]
  instanceTypes := #[]
  staticTypes := #[]
  resolved := Array.replicate 251 none
  statics := none }

def pool13 : Array CpInfo := pool [(1, .methodref 2 3), (0, .class_ 4), (0, .nameAndType 5 6), (0, u "java/util/AbstractCollection"), (0, u "<init>"), (0, u "()V"), (0, .fieldref 8 9), (0, .class_ 10), (0, .nameAndType 11 12), (0, u "java/util/AbstractList"), (0, u "modCount"), (0, u "I"), (64, .class_ 78), (0, u "java/util/AbstractList$Itr"), (3, .class_ 83), (0, u "java/util/AbstractList$ListItr"), (9, .class_ 94), (0, u "java/util/AbstractList$RandomAccessSubList"), (3, .class_ 99), (0, u "java/util/AbstractList$SubList"), (33, .class_ 134), (0, u "java/util/List"), (73, .class_ 209), (0, u "java/util/AbstractList$SubList$1"), (0, .class_ 211), (0, u "java/util/AbstractList$RandomAccessSpliterator")] 6

def k13c0 : Code := { maxStack := 2, maxLocals := 1, code := jdk_39_method_1_code, exceptionTable := #[], attributes := #[] }
def k13m0 : Method := { name := "<init>", desc := "()V", sig := { parameters := [], returnType := none }, accessFlags := 4, code := some k13c0 }
/-- java/util/AbstractList -/
def k13 : Class := { plain "java/util/AbstractList" (some 10) with
  accessFlags := 1057
  interfaces := #[12]
  cf := some (fileOf pool13 8 #[.nestMembers #[93, 98, 208, 210, 82, 77]] #[{ accessFlags := 4, nameIndex := 5, descriptorIndex := 6, attributes := #[] }] 1057 2 #[133] #[{ accessFlags := 132, nameIndex := 11, descriptorIndex := 12, attributes := #[] }])
  fields := #[{ name := "modCount", type := .int, accessFlags := 132, slot := 0, constantValue := 0 }]
  methods := #[k13m0]
  instanceTypes := #[.int]
  staticTypes := #[]
  resolved := Array.replicate 218 none
  statics := none }

def pool14 : Array CpInfo := pool [(1, .class_ 2), (0, u "java/util/RandomAccess"), (0, .class_ 4), (0, u "java/lang/Object")] 2

/-- java/util/RandomAccess -/
def k14 : Class := { plain "java/util/RandomAccess" (some 0) with
  accessFlags := 1537
  interfaces := #[]
  cf := some (fileOf pool14 1 #[] #[] 1537 3 #[] #[])
  fields := #[]
  methods := #[]
  instanceTypes := #[]
  staticTypes := #[]
  resolved := Array.replicate 7 none
  statics := none }

def pool15 : Array CpInfo := pool [(1, .class_ 2), (0, u "java/lang/Cloneable"), (0, .class_ 4), (0, u "java/lang/Object")] 2

/-- java/lang/Cloneable -/
def k15 : Class := { plain "java/lang/Cloneable" (some 0) with
  accessFlags := 1537
  interfaces := #[]
  cf := some (fileOf pool15 1 #[] #[] 1537 3 #[] #[])
  fields := #[]
  methods := #[]
  instanceTypes := #[]
  staticTypes := #[]
  resolved := Array.replicate 7 none
  statics := none }

def pool16 : Array CpInfo := pool [(1, .methodref 2 3), (0, .class_ 4), (0, .nameAndType 5 6), (0, u "java/util/AbstractList"), (0, u "<init>"), (0, u "()V"), (2, .fieldref 10 11), (0, .class_ 12), (0, .nameAndType 13 14), (0, u "java/util/ArrayList"), (0, u "elementData"), (0, u "[Ljava/lang/Object;"), (2, u "EMPTY_ELEMENTDATA"), (21, .fieldref 10 40), (0, .nameAndType 41 14), (0, u "DEFAULTCAPACITY_EMPTY_ELEMENTDATA"), (8, u "size"), (0, u "I"), (96, .class_ 149), (0, u "java/util/List"), (112, .class_ 263), (0, u "java/util/ArrayList$ListItr"), (3, .class_ 268), (0, u "java/util/ArrayList$Itr"), (7, .class_ 277), (0, u "java/util/ArrayList$SubList"), (12, .class_ 291), (0, u "java/util/ArrayList$ArrayListSpliterator"), (37, .class_ 330), (0, u "java/util/RandomAccess"), (0, .class_ 332), (0, u "java/lang/Cloneable"), (0, .class_ 334), (0, u "java/io/Serializable"), (0, u "serialVersionUID"), (0, u "J"), (3, u "DEFAULT_CAPACITY"), (159, .class_ 501), (0, u "java/util/ArrayList$SubList$2"), (0, .class_ 503), (0, u "java/util/ArrayList$SubList$1")] 5

def k16c0 : Code := { maxStack := 2, maxLocals := 1, code := jdk_38_method_2_code, exceptionTable := #[], attributes := #[] }
def k16m0 : Method := { name := "<init>", desc := "()V", sig := { parameters := [], returnType := none }, accessFlags := 1, code := some k16c0 }
/-- java/util/ArrayList -/
def k16 : Class := { plain "java/util/ArrayList" (some 13) with
  accessFlags := 33
  interfaces := #[12, 14, 15, 4]
  cf := some (fileOf pool16 10 #[.nestMembers #[290, 276, 500, 502, 262, 267]] #[{ accessFlags := 1, nameIndex := 5, descriptorIndex := 6, attributes := #[] }] 33 2 #[148, 329, 331, 333] #[{ accessFlags := 26, nameIndex := 335, descriptorIndex := 336, attributes := #[] }, { accessFlags := 26, nameIndex := 340, descriptorIndex := 51, attributes := #[] }, { accessFlags := 26, nameIndex := 17, descriptorIndex := 14, attributes := #[] }, { accessFlags := 26, nameIndex := 41, descriptorIndex := 14, attributes := #[] }, { accessFlags := 128, nameIndex := 13, descriptorIndex := 14, attributes := #[] }, { accessFlags := 2, nameIndex := 50, descriptorIndex := 51, attributes := #[] }])
  fields := #[{ name := "serialVersionUID", type := .long, accessFlags := 26, slot := 0, constantValue := 0 }, { name := "DEFAULT_CAPACITY", type := .int, accessFlags := 26, slot := 1, constantValue := 0 }, { name := "EMPTY_ELEMENTDATA", type := (.array (.object "java/lang/Object")), accessFlags := 26, slot := 2, constantValue := 0 }, { name := "DEFAULTCAPACITY_EMPTY_ELEMENTDATA", type := (.array (.object "java/lang/Object")), accessFlags := 26, slot := 3, constantValue := 0 }, { name := "elementData", type := (.array (.object "java/lang/Object")), accessFlags := 128, slot := 1, constantValue := 0 }, { name := "size", type := .int, accessFlags := 2, slot := 2, constantValue := 0 }]
  methods := #[k16m0]
  instanceTypes := #[.int, (.array (.object "java/lang/Object")), .int]
  staticTypes := #[.long, .int, (.array (.object "java/lang/Object")), (.array (.object "java/lang/Object"))]
  resolved := Array.replicate 509 none
  statics := some 1 }

def pool17 : Array CpInfo := pool [(2, .class_ 4), (1, u "java/util/Map"), (31, .class_ 37), (0, u "java/util/Map$Entry"), (55, .class_ 94), (0, u "java/lang/Object")] 168

/-- java/util/Map -/
def k17 : Class := { plain "java/util/Map" (some 0) with
  accessFlags := 1537
  interfaces := #[]
  cf := some (fileOf pool17 2 #[.nestMembers #[36]] #[] 1537 93 #[] #[])
  fields := #[]
  methods := #[]
  instanceTypes := #[]
  staticTypes := #[]
  resolved := Array.replicate 263 none
  statics := none }

def pool18 : Array CpInfo := pool [(1, .methodref 2 3), (0, .class_ 4), (0, .nameAndType 5 6), (0, u "java/lang/Object"), (0, u "<init>"), (0, u "()V"), (1, .class_ 10), (1, u "java/util/AbstractMap"), (42, .class_ 54), (0, u "java/util/Map"), (9, u "keySet"), (0, u "Ljava/util/Set;"), (0, .class_ 67), (0, u "java/util/AbstractMap$1"), (5, u "values"), (0, u "Ljava/util/Collection;"), (0, .class_ 76), (0, u "java/util/AbstractMap$2"), (104, .class_ 182), (0, u "java/util/AbstractMap$ViewCollection"), (0, .class_ 184), (0, u "java/util/AbstractMap$SimpleImmutableEntry"), (0, .class_ 186), (0, u "java/util/AbstractMap$SimpleEntry"), (0, .class_ 188), (0, u "java/util/AbstractMap$2$1"), (0, .class_ 190), (0, u "java/util/AbstractMap$1$1")] 5

def k18c0 : Code := { maxStack := 1, maxLocals := 1, code := jdk_71_method_1_code, exceptionTable := #[], attributes := #[] }
def k18m0 : Method := { name := "<init>", desc := "()V", sig := { parameters := [], returnType := none }, accessFlags := 4, code := some k18c0 }
/-- java/util/AbstractMap -/
def k18 : Class := { plain "java/util/AbstractMap" (some 0) with
  accessFlags := 1057
  interfaces := #[17]
  cf := some (fileOf pool18 8 #[.nestMembers #[181, 183, 185, 75, 187, 66, 189]] #[{ accessFlags := 4, nameIndex := 5, descriptorIndex := 6, attributes := #[] }] 1057 2 #[53] #[{ accessFlags := 128, nameIndex := 64, descriptorIndex := 65, attributes := #[] }, { accessFlags := 128, nameIndex := 73, descriptorIndex := 74, attributes := #[] }])
  fields := #[{ name := "keySet", type := (.object "java/util/Set"), accessFlags := 128, slot := 0, constantValue := 0 }, { name := "values", type := (.object "java/util/Collection"), accessFlags := 128, slot := 1, constantValue := 0 }]
  methods := #[k18m0]
  instanceTypes := #[(.object "java/util/Set"), (.object "java/util/Collection")]
  staticTypes := #[]
  resolved := Array.replicate 196 none
  statics := none }

def pool19 : Array CpInfo := pool [(2, .class_ 4), (1, u "java/util/SequencedMap"), (38, .class_ 44), (0, u "java/util/SequencedMap$1SeqKeySet"), (3, .class_ 49), (0, u "java/util/SequencedMap$1SeqValues"), (1, .class_ 52), (0, u "java/util/SequencedMap$1SeqEntrySet"), (1, .class_ 55), (0, u "java/lang/Object"), (0, .class_ 57), (0, u "java/util/Map")] 48

/-- java/util/SequencedMap -/
def k19 : Class := { plain "java/util/SequencedMap" (some 0) with
  accessFlags := 1537
  interfaces := #[17]
  cf := some (fileOf pool19 2 #[.nestMembers #[51, 48, 43]] #[] 1537 54 #[56] #[])
  fields := #[]
  methods := #[]
  instanceTypes := #[]
  staticTypes := #[]
  resolved := Array.replicate 106 none
  statics := none }

def pool20 : Array CpInfo := pool [(14, .class_ 16), (1, u "java/util/SortedMap"), (2, .class_ 20), (0, u "java/lang/Object"), (0, .class_ 22), (0, u "java/util/SequencedMap")] 50

/-- java/util/SortedMap -/
def k20 : Class := { plain "java/util/SortedMap" (some 0) with
  accessFlags := 1537
  interfaces := #[19]
  cf := some (fileOf pool20 14 #[] #[] 1537 19 #[21] #[])
  fields := #[]
  methods := #[]
  instanceTypes := #[]
  staticTypes := #[]
  resolved := Array.replicate 73 none
  statics := none }

def pool21 : Array CpInfo := pool [(2, .class_ 4), (1, u "java/util/NavigableMap"), (5, .class_ 11), (0, u "java/lang/Object"), (0, .class_ 13), (0, u "java/util/SortedMap")] 53

/-- java/util/NavigableMap -/
def k21 : Class := { plain "java/util/NavigableMap" (some 0) with
  accessFlags := 1537
  interfaces := #[20]
  cf := some (fileOf pool21 2 #[] #[] 1537 10 #[12] #[])
  fields := #[]
  methods := #[]
  instanceTypes := #[]
  staticTypes := #[]
  resolved := Array.replicate 67 none
  statics := none }

def pool22 : Array CpInfo := pool [(1, .methodref 2 3), (0, .class_ 4), (0, .nameAndType 5 6), (0, u "java/util/AbstractMap"), (0, u "<init>"), (0, u "()V"), (0, .fieldref 8 9), (0, .class_ 10), (0, .nameAndType 11 12), (0, u "java/util/TreeMap"), (0, u "size"), (0, u "I"), (0, .fieldref 8 14), (0, .nameAndType 15 12), (0, u "modCount"), (0, .fieldref 8 17), (0, .nameAndType 18 19), (0, u "comparator"), (0, u "Ljava/util/Comparator;"), (14, u "entrySet"), (24, .class_ 61), (1, u "java/util/TreeMap$Entry"), (1, u "Ljava/lang/Object;"), (39, u "root"), (0, u "Ljava/util/TreeMap$Entry;"), (85, u "Ljava/util/TreeMap$EntrySet;"), (2, u "navigableKeySet"), (0, u "Ljava/util/TreeMap$KeySet;"), (2, u "descendingMap"), (0, u "Ljava/util/NavigableMap;"), (23, .class_ 223), (0, u "java/util/TreeMap$KeySet"), (7, .class_ 232), (0, u "java/util/NavigableMap"), (4, .class_ 238), (0, u "java/util/TreeMap$Values"), (3, .class_ 243), (0, u "java/util/TreeMap$EntrySet"), (1, .class_ 246), (0, u "java/util/TreeMap$DescendingSubMap"), (3, .class_ 251), (0, u "java/util/TreeMap$AscendingSubMap"), (17, .class_ 270), (0, u "java/util/TreeMap$KeyIterator"), (3, .class_ 275), (0, u "java/util/TreeMap$DescendingKeyIterator"), (17, u "Z"), (94, .class_ 389), (0, u "java/util/TreeMap$NavigableSubMap"), (1, .class_ 392), (0, u "java/util/TreeMap$KeySpliterator"), (3, .class_ 397), (0, u "java/util/TreeMap$DescendingKeySpliterator"), (4, u "UNBOUNDED"), (0, .class_ 404), (0, u "java/lang/Cloneable"), (0, .class_ 406), (0, u "java/io/Serializable"), (6, u "RED"), (2, u "BLACK"), (1, u "serialVersionUID"), (0, u "J"), (214, .class_ 635), (0, u "java/util/TreeMap$EntrySpliterator"), (0, .class_ 637), (0, u "java/util/TreeMap$ValueSpliterator"), (0, .class_ 639), (0, u "java/util/TreeMap$TreeMapSpliterator"), (0, .class_ 641), (0, u "java/util/TreeMap$SubMap"), (0, .class_ 643), (0, u "java/util/TreeMap$DescendingSubMap$DescendingEntrySetView"), (0, .class_ 645), (0, u "java/util/TreeMap$AscendingSubMap$AscendingEntrySetView"), (0, .class_ 647), (0, u "java/util/TreeMap$NavigableSubMap$DescendingSubMapKeyIterator"), (0, .class_ 649), (0, u "java/util/TreeMap$NavigableSubMap$SubMapKeyIterator"), (0, .class_ 651), (0, u "java/util/TreeMap$NavigableSubMap$DescendingSubMapEntryIterator"), (0, .class_ 653), (0, u "java/util/TreeMap$NavigableSubMap$SubMapEntryIterator"), (0, .class_ 655), (0, u "java/util/TreeMap$NavigableSubMap$SubMapIterator"), (0, .class_ 657), (0, u "java/util/TreeMap$NavigableSubMap$EntrySetView"), (0, .class_ 659), (0, u "java/util/TreeMap$ValueIterator"), (0, .class_ 661), (0, u "java/util/TreeMap$EntryIterator"), (0, .class_ 663), (0, u "java/util/TreeMap$PrivateEntryIterator")] 28

def k22c0 : Code := { maxStack := 2, maxLocals := 1, code := jdk_2729_method_1_code, exceptionTable := #[], attributes := #[] }
def k22m0 : Method := { name := "<init>", desc := "()V", sig := { parameters := [], returnType := none }, accessFlags := 1, code := some k22c0 }
/-- java/util/TreeMap -/
def k22 : Class := { plain "java/util/TreeMap" (some 18) with
  accessFlags := 33
  interfaces := #[21, 15, 4]
  cf := some (fileOf pool22 8 #[.nestMembers #[634, 636, 396, 391, 638, 59, 640, 245, 642, 250, 644, 388, 646, 648, 650, 652, 654, 656, 274, 269, 658, 660, 662, 222, 242, 237]] #[{ accessFlags := 1, nameIndex := 5, descriptorIndex := 6, attributes := #[] }] 33 2 #[231, 403, 405] #[{ accessFlags := 18, nameIndex := 18, descriptorIndex := 19, attributes := #[] }, { accessFlags := 130, nameIndex := 103, descriptorIndex := 104, attributes := #[] }, { accessFlags := 130, nameIndex := 11, descriptorIndex := 12, attributes := #[] }, { accessFlags := 130, nameIndex := 15, descriptorIndex := 12, attributes := #[] }, { accessFlags := 130, nameIndex := 34, descriptorIndex := 190, attributes := #[] }, { accessFlags := 130, nameIndex := 193, descriptorIndex := 194, attributes := #[] }, { accessFlags := 130, nameIndex := 197, descriptorIndex := 198, attributes := #[] }, { accessFlags := 26, nameIndex := 402, descriptorIndex := 63, attributes := #[] }, { accessFlags := 26, nameIndex := 413, descriptorIndex := 293, attributes := #[] }, { accessFlags := 26, nameIndex := 416, descriptorIndex := 293, attributes := #[] }, { accessFlags := 26, nameIndex := 418, descriptorIndex := 419, attributes := #[] }])
  fields := #[{ name := "comparator", type := (.object "java/util/Comparator"), accessFlags := 18, slot := 2, constantValue := 0 }, { name := "root", type := (.object "java/util/TreeMap$Entry"), accessFlags := 130, slot := 3, constantValue := 0 }, { name := "size", type := .int, accessFlags := 130, slot := 4, constantValue := 0 }, { name := "modCount", type := .int, accessFlags := 130, slot := 5, constantValue := 0 }, { name := "entrySet", type := (.object "java/util/TreeMap$EntrySet"), accessFlags := 130, slot := 6, constantValue := 0 }, { name := "navigableKeySet", type := (.object "java/util/TreeMap$KeySet"), accessFlags := 130, slot := 7, constantValue := 0 }, { name := "descendingMap", type := (.object "java/util/NavigableMap"), accessFlags := 130, slot := 8, constantValue := 0 }, { name := "UNBOUNDED", type := (.object "java/lang/Object"), accessFlags := 26, slot := 0, constantValue := 0 }, { name := "RED", type := .boolean, accessFlags := 26, slot := 1, constantValue := 0 }, { name := "BLACK", type := .boolean, accessFlags := 26, slot := 2, constantValue := 0 }, { name := "serialVersionUID", type := .long, accessFlags := 26, slot := 3, constantValue := 0 }]
  methods := #[k22m0]
  instanceTypes := #[(.object "java/util/Set"), (.object "java/util/Collection"), (.object "java/util/Comparator"), (.object "java/util/TreeMap$Entry"), .int, .int, (.object "java/util/TreeMap$EntrySet"), (.object "java/util/TreeMap$KeySet"), (.object "java/util/NavigableMap")]
  staticTypes := #[(.object "java/lang/Object"), .boolean, .boolean, .long]
  resolved := Array.replicate 692 none
  statics := none }

def pool23 : Array CpInfo := pool [(26, .class_ 27), (0, u "java/lang/Object"), (5, .class_ 34), (0, u "java/util/Set"), (1, .class_ 38), (1, u "java/util/Collection")] 105

/-- java/util/Set -/
def k23 : Class := { plain "java/util/Set" (some 0) with
  accessFlags := 1537
  interfaces := #[9]
  cf := some (fileOf pool23 33 #[] #[] 1537 26 #[36] #[])
  fields := #[]
  methods := #[]
  instanceTypes := #[]
  staticTypes := #[]
  resolved := Array.replicate 144 none
  statics := none }

def pool24 : Array CpInfo := pool [(1, .methodref 2 3), (0, .class_ 4), (0, .nameAndType 5 6), (0, u "java/util/AbstractCollection"), (0, u "<init>"), (0, u "()V"), (0, .class_ 8), (0, u "java/util/Set"), (7, .class_ 17), (0, u "java/util/AbstractSet")] 78

def k24c0 : Code := { maxStack := 1, maxLocals := 1, code := jdk_91_method_1_code, exceptionTable := #[], attributes := #[] }
def k24m0 : Method := { name := "<init>", desc := "()V", sig := { parameters := [], returnType := none }, accessFlags := 4, code := some k24c0 }
/-- java/util/AbstractSet -/
def k24 : Class := { plain "java/util/AbstractSet" (some 10) with
  accessFlags := 1057
  interfaces := #[23]
  cf := some (fileOf pool24 16 #[] #[{ accessFlags := 4, nameIndex := 5, descriptorIndex := 6, attributes := #[] }] 1057 2 #[7] #[])
  fields := #[]
  methods := #[k24m0]
  instanceTypes := #[]
  staticTypes := #[]
  resolved := Array.replicate 96 none
  statics := none }

def pool25 : Array CpInfo := pool [(2, .class_ 4), (1, u "java/util/SequencedSet"), (2, .class_ 8), (0, u "java/lang/Object"), (0, .class_ 10), (0, u "java/util/SequencedCollection"), (0, .class_ 12), (0, u "java/util/Set")] 13

/-- java/util/SequencedSet -/
def k25 : Class := { plain "java/util/SequencedSet" (some 0) with
  accessFlags := 1537
  interfaces := #[11, 23]
  cf := some (fileOf pool25 2 #[] #[] 1537 7 #[9, 11] #[])
  fields := #[]
  methods := #[]
  instanceTypes := #[]
  staticTypes := #[]
  resolved := Array.replicate 26 none
  statics := none }

def pool26 : Array CpInfo := pool [(1, .class_ 2), (0, u "java/util/SortedSet$1"), (12, .class_ 17), (1, u "java/util/SortedSet"), (19, .class_ 38), (0, u "java/lang/Object"), (0, .class_ 40), (0, u "java/util/Set"), (0, .class_ 42), (0, u "java/util/SequencedSet")] 41

/-- java/util/SortedSet -/
def k26 : Class := { plain "java/util/SortedSet" (some 0) with
  accessFlags := 1537
  interfaces := #[23, 25]
  cf := some (fileOf pool26 15 #[.nestMembers #[1]] #[] 1537 37 #[39, 41] #[])
  fields := #[]
  methods := #[]
  instanceTypes := #[]
  staticTypes := #[]
  resolved := Array.replicate 84 none
  statics := none }

def pool27 : Array CpInfo := pool [(2, .class_ 4), (1, u "java/util/NavigableSet"), (22, .class_ 28), (0, u "java/lang/Object"), (0, .class_ 30), (0, u "java/util/SortedSet")] 40

/-- java/util/NavigableSet -/
def k27 : Class := { plain "java/util/NavigableSet" (some 0) with
  accessFlags := 1537
  interfaces := #[26]
  cf := some (fileOf pool27 2 #[] #[] 1537 27 #[29] #[])
  fields := #[]
  methods := #[]
  instanceTypes := #[]
  staticTypes := #[]
  resolved := Array.replicate 71 none
  statics := none }

def pool28 : Array CpInfo := pool [(1, .methodref 2 3), (0, .class_ 4), (0, .nameAndType 5 6), (0, u "java/util/AbstractSet"), (0, u "<init>"), (0, u "()V"), (0, .fieldref 8 9), (0, .class_ 10), (0, .nameAndType 11 12), (0, u "java/util/TreeSet"), (0, u "m"), (0, u "Ljava/util/NavigableMap;"), (0, .class_ 14), (0, u "java/util/TreeMap"), (0, .methodref 13 3), (0, .methodref 8 17), (0, .nameAndType 5 18), (0, u "(Ljava/util/NavigableMap;)V"), (22, .class_ 43), (1, u "java/util/NavigableSet"), (23, u "PRESENT"), (0, u "Ljava/lang/Object;"), (148, .class_ 218), (0, u "java/lang/Cloneable"), (0, .class_ 220), (0, u "java/io/Serializable"), (2, u "serialVersionUID"), (0, u "J")] 92

def k28c0 : Code := { maxStack := 2, maxLocals := 2, code := jdk_2756_method_1_code, exceptionTable := #[], attributes := #[] }
def k28m0 : Method := { name := "<init>", desc := "(Ljava/util/NavigableMap;)V", sig := { parameters := [(.object "java/util/NavigableMap")], returnType := none }, accessFlags := 0, code := some k28c0 }
def k28c1 : Code := { maxStack := 3, maxLocals := 1, code := jdk_2756_method_2_code, exceptionTable := #[], attributes := #[] }
def k28m1 : Method := { name := "<init>", desc := "()V", sig := { parameters := [], returnType := none }, accessFlags := 1, code := some k28c1 }
/-- java/util/TreeSet -/
def k28 : Class := { plain "java/util/TreeSet" (some 24) with
  accessFlags := 33
  interfaces := #[27, 15, 4]
  cf := some (fileOf pool28 8 #[] #[{ accessFlags := 0, nameIndex := 5, descriptorIndex := 18, attributes := #[] }, { accessFlags := 1, nameIndex := 5, descriptorIndex := 6, attributes := #[] }] 33 2 #[41, 217, 219] #[{ accessFlags := 130, nameIndex := 11, descriptorIndex := 12, attributes := #[] }, { accessFlags := 26, nameIndex := 67, descriptorIndex := 68, attributes := #[] }, { accessFlags := 26, nameIndex := 223, descriptorIndex := 224, attributes := #[] }])
  fields := #[{ name := "m", type := (.object "java/util/NavigableMap"), accessFlags := 130, slot := 0, constantValue := 0 }, { name := "PRESENT", type := (.object "java/lang/Object"), accessFlags := 26, slot := 0, constantValue := 0 }, { name := "serialVersionUID", type := .long, accessFlags := 26, slot := 1, constantValue := 0 }]
  methods := #[k28m0, k28m1]
  instanceTypes := #[(.object "java/util/NavigableMap")]
  staticTypes := #[(.object "java/lang/Object"), .long]
  resolved := Array.replicate 317 none
  statics := none }

def pool29 : Array CpInfo := pool [(2, .class_ 4), (1, u "java/lang/CharSequence"), (42, .class_ 48), (0, u "java/lang/CharSequence$1CodePointIterator"), (10, .class_ 60), (0, u "java/lang/CharSequence$1CharIterator"), (5, .class_ 67), (0, u "java/lang/Object")] 63

/-- java/lang/CharSequence -/
def k29 : Class := { plain "java/lang/CharSequence" (some 0) with
  accessFlags := 1537
  interfaces := #[]
  cf := some (fileOf pool29 2 #[.nestMembers #[47, 59]] #[] 1537 66 #[] #[])
  fields := #[]
  methods := #[]
  instanceTypes := #[]
  staticTypes := #[]
  resolved := Array.replicate 131 none
  statics := none }

def pool30 : Array CpInfo := pool [(1, .class_ 2), (0, u "java/lang/constant/ConstantDesc"), (0, .class_ 4), (0, u "java/lang/Object")] 32

/-- java/lang/constant/ConstantDesc -/
def k30 : Class := { plain "java/lang/constant/ConstantDesc" (some 0) with
  accessFlags := 1537
  interfaces := #[]
  cf := some (fileOf pool30 1 #[] #[] 1537 3 #[] #[])
  fields := #[]
  methods := #[]
  instanceTypes := #[]
  staticTypes := #[]
  resolved := Array.replicate 37 none
  statics := none }

def pool31 : Array CpInfo := pool [(2, .class_ 4), (1, u "java/lang/Object"), (0, u "<init>"), (0, u "()V"), (3, .class_ 12), (1, u "java/lang/String"), (0, u "value"), (0, u "[B"), (2, u "coder"), (0, u "B"), (2, u "hash"), (0, u "I"), (2, u "hashIsZero"), (0, u "Z"), (13, u "COMPACT_STRINGS"), (534, .class_ 576), (0, u "java/lang/CharSequence"), (22, u "CASE_INSENSITIVE_ORDER"), (0, u "Ljava/util/Comparator;"), (500, u "serialPersistentFields"), (0, u "[Ljava/io/ObjectStreamField;"), (0, .class_ 1104), (0, u "java/lang/String$CaseInsensitiveComparator"), (1, .class_ 1107), (0, u "java/io/Serializable"), (0, .class_ 1109), (0, u "java/lang/Comparable"), (0, .class_ 1111), (0, u "java/lang/constant/Constable"), (0, .class_ 1113), (0, u "java/lang/constant/ConstantDesc"), (2, u "serialVersionUID"), (0, u "J"), (3, u "REPL"), (0, u "C"), (2, u "LATIN1"), (1, u "UTF16")] 323

def k31m0 : Method := { name := "<init>", desc := "()V", sig := { parameters := [], returnType := none }, accessFlags := 1, code := none }
/-- java/lang/String -/
def k31 : Class := { plain "java/lang/String" (some 0) with
  accessFlags := 49
  interfaces := #[4, 3, 29, 2, 30]
  cf := some (fileOf pool31 10 #[.nestMembers #[1103]] #[{ accessFlags := 1, nameIndex := 5, descriptorIndex := 6, attributes := #[] }] 49 2 #[1106, 1108, 575, 1110, 1112] #[{ accessFlags := 18, nameIndex := 13, descriptorIndex := 14, attributes := #[] }, { accessFlags := 18, nameIndex := 17, descriptorIndex := 18, attributes := #[] }, { accessFlags := 2, nameIndex := 21, descriptorIndex := 22, attributes := #[] }, { accessFlags := 2, nameIndex := 25, descriptorIndex := 26, attributes := #[] }, { accessFlags := 26, nameIndex := 1116, descriptorIndex := 1117, attributes := #[] }, { accessFlags := 24, nameIndex := 40, descriptorIndex := 26, attributes := #[] }, { accessFlags := 26, nameIndex := 1101, descriptorIndex := 1102, attributes := #[] }, { accessFlags := 26, nameIndex := 1121, descriptorIndex := 1122, attributes := #[] }, { accessFlags := 25, nameIndex := 599, descriptorIndex := 600, attributes := #[] }, { accessFlags := 24, nameIndex := 1125, descriptorIndex := 18, attributes := #[] }, { accessFlags := 24, nameIndex := 1127, descriptorIndex := 18, attributes := #[] }])
  fields := #[{ name := "value", type := (.array .byte), accessFlags := 18, slot := 0, constantValue := 0 }, { name := "coder", type := .byte, accessFlags := 18, slot := 1, constantValue := 0 }, { name := "hash", type := .int, accessFlags := 2, slot := 2, constantValue := 0 }, { name := "hashIsZero", type := .boolean, accessFlags := 2, slot := 3, constantValue := 0 }, { name := "serialVersionUID", type := .long, accessFlags := 26, slot := 0, constantValue := 0 }, { name := "COMPACT_STRINGS", type := .boolean, accessFlags := 24, slot := 1, constantValue := 0 }, { name := "serialPersistentFields", type := (.array (.object "java/io/ObjectStreamField")), accessFlags := 26, slot := 2, constantValue := 0 }, { name := "REPL", type := .char, accessFlags := 26, slot := 3, constantValue := 0 }, { name := "CASE_INSENSITIVE_ORDER", type := (.object "java/util/Comparator"), accessFlags := 25, slot := 4, constantValue := 0 }, { name := "LATIN1", type := .byte, accessFlags := 24, slot := 5, constantValue := 0 }, { name := "UTF16", type := .byte, accessFlags := 24, slot := 6, constantValue := 0 }]
  methods := #[k31m0]
  instanceTypes := #[(.array .byte), .byte, .int, .boolean]
  staticTypes := #[.long, .boolean, (.array (.object "java/io/ObjectStreamField")), .char, (.object "java/util/Comparator"), .byte, .byte]
  resolved := Array.replicate 1451 none
  statics := none }

def pool32 : Array CpInfo := pool [(2, .class_ 4), (1, u "java/lang/Object"), (0, u "<init>"), (0, u "()V"), (35, .class_ 44), (1, u "java/util/Objects"), (0, u "requireNonNull"), (48, u "(Ljava/lang/Object;Ljava/lang/String;)Ljava/lang/Object;")] 89

def k32m0 : Method := { name := "<init>", desc := "()V", sig := { parameters := [], returnType := none }, accessFlags := 2, code := none }
def k32c1 : Code := { maxStack := 3, maxLocals := 2, code := jdk_31_method_11_code, exceptionTable := #[], attributes := #[] }
def k32m1 : Method := { name := "requireNonNull", desc := "(Ljava/lang/Object;Ljava/lang/String;)Ljava/lang/Object;", sig := { parameters := [(.object "java/lang/Object"), (.object "java/lang/String")], returnType := some (.object "java/lang/Object") }, accessFlags := 9, code := some k32c1 }
/-- java/util/Objects -/
def k32 : Class := { plain "java/util/Objects" (some 0) with
  accessFlags := 49
  interfaces := #[]
  cf := some (fileOf pool32 42 #[] #[{ accessFlags := 2, nameIndex := 5, descriptorIndex := 6, attributes := #[] }, { accessFlags := 9, nameIndex := 45, descriptorIndex := 94, attributes := #[] }] 49 2 #[] #[])
  fields := #[]
  methods := #[k32m0, k32m1]
  instanceTypes := #[]
  staticTypes := #[]
  resolved := Array.replicate 184 none
  statics := none }

def pool33 : Array CpInfo := pool [(1, .class_ 2), (0, u "java/lang/Math"), (1, .class_ 6), (1, u "java/lang/Object"), (0, u "<init>"), (0, u "()V"), (89, .class_ 100), (1, u "java/lang/Math$RandomNumberGeneratorHolder"), (71, u "negativeZeroFloatBits"), (0, u "J"), (2, u "negativeZeroDoubleBits"), (21, u "max"), (46, u "$assertionsDisabled"), (0, u "Z"), (88, u "(II)I"), (2, u "twoToTheDoubleScaleDown"), (0, u "D"), (4, u "twoToTheDoubleScaleUp"), (9, u "E"), (3, u "PI"), (2, u "TAU"), (2, u "DEGREES_TO_RADIANS"), (0, u "RADIANS_TO_DEGREES")] 94

def k33m0 : Method := { name := "<init>", desc := "()V", sig := { parameters := [], returnType := none }, accessFlags := 2, code := none }
def k33c1 : Code := { maxStack := 2, maxLocals := 2, code := jdk_29_method_65_code, exceptionTable := #[], attributes := #[] }
def k33m1 : Method := { name := "max", desc := "(II)I", sig := { parameters := [.int, .int], returnType := some .int }, accessFlags := 9, code := some k33c1 }
/-- java/lang/Math -/
def k33 : Class := { plain "java/lang/Math" (some 0) with
  accessFlags := 49
  interfaces := #[]
  cf := some (fileOf pool33 1 #[.nestMembers #[98]] #[{ accessFlags := 2, nameIndex := 7, descriptorIndex := 8, attributes := #[] }, { accessFlags := 9, nameIndex := 198, descriptorIndex := 335, attributes := #[] }] 49 4 #[] #[{ accessFlags := 25, nameIndex := 354, descriptorIndex := 339, attributes := #[] }, { accessFlags := 25, nameIndex := 358, descriptorIndex := 339, attributes := #[] }, { accessFlags := 25, nameIndex := 361, descriptorIndex := 339, attributes := #[] }, { accessFlags := 26, nameIndex := 364, descriptorIndex := 339, attributes := #[] }, { accessFlags := 26, nameIndex := 365, descriptorIndex := 339, attributes := #[] }, { accessFlags := 26, nameIndex := 172, descriptorIndex := 173, attributes := #[] }, { accessFlags := 26, nameIndex := 176, descriptorIndex := 173, attributes := #[] }, { accessFlags := 8, nameIndex := 344, descriptorIndex := 339, attributes := #[] }, { accessFlags := 8, nameIndex := 338, descriptorIndex := 339, attributes := #[] }, { accessFlags := 4120, nameIndex := 245, descriptorIndex := 246, attributes := #[] }])
  fields := #[{ name := "E", type := .double, accessFlags := 25, slot := 0, constantValue := 0 }, { name := "PI", type := .double, accessFlags := 25, slot := 1, constantValue := 0 }, { name := "TAU", type := .double, accessFlags := 25, slot := 2, constantValue := 0 }, { name := "DEGREES_TO_RADIANS", type := .double, accessFlags := 26, slot := 3, constantValue := 0 }, { name := "RADIANS_TO_DEGREES", type := .double, accessFlags := 26, slot := 4, constantValue := 0 }, { name := "negativeZeroFloatBits", type := .long, accessFlags := 26, slot := 5, constantValue := 0 }, { name := "negativeZeroDoubleBits", type := .long, accessFlags := 26, slot := 6, constantValue := 0 }, { name := "twoToTheDoubleScaleUp", type := .double, accessFlags := 8, slot := 7, constantValue := 0 }, { name := "twoToTheDoubleScaleDown", type := .double, accessFlags := 8, slot := 8, constantValue := 0 }, { name := "$assertionsDisabled", type := .boolean, accessFlags := 4120, slot := 9, constantValue := 0 }]
  methods := #[k33m0, k33m1]
  instanceTypes := #[]
  staticTypes := #[.double, .double, .double, .double, .double, .long, .long, .double, .double, .boolean]
  resolved := Array.replicate 460 none
  statics := none }

/-- the primitive byte -/
def k34 : Class := { plain "byte" none with kind := .primitive 'B', accessFlags := 0x411 }
/-- [B -/
def k35 : Class := { plain "[B" (some 0) with kind := .array 34 .byte, interfaces := #[15, 4], accessFlags := 1041 }

/-- the primitive int -/
def k36 : Class := { plain "int" none with kind := .primitive 'I', accessFlags := 0x411 }
/-- [I -/
def k37 : Class := { plain "[I" (some 0) with kind := .array 36 .int, interfaces := #[15, 4], accessFlags := 1041 }

/-- [Ljava/lang/Object; -/
def k38 : Class := { plain "[Ljava/lang/Object;" (some 0) with kind := .array 0 (.object "java/lang/Object"), interfaces := #[15, 4], accessFlags := 1041 }

def heap : Heap := #[{ cls := 6, slots := #[.ref 2, .ref 3, .ref 4, .ref 5, .null, .null], vm := .statics 6 },
  { cls := 16, slots := #[.long 0, .int 0, .ref 6, .ref 7], vm := .statics 16 },
  { cls := 6, slots := #[.null, .int 0, .int 0, .null], vm := .none },
  { cls := 6, slots := #[.null, .int 1, .int 0, .null], vm := .none },
  { cls := 6, slots := #[.null, .int 2, .int 0, .null], vm := .none },
  { cls := 6, slots := #[.null, .int 3, .int 0, .null], vm := .none },
  { cls := 38, slots := #[], vm := .none },
  { cls := 38, slots := #[], vm := .none }]
def classes : Array Class := #[k0, k1, k2, k3, k4, k5, k6, k7, k8, k9, k10, k11, k12, k13, k14, k15, k16, k17, k18, k19, k20, k21, k22, k23, k24, k25, k26, k27, k28, k29, k30, k31, k32, k33, k34, k35, k36, k37, k38]
def interned : List (Array UInt16 × Addr) := []
def slotsUsed : Nat := 26
def theMethod : MethodId := ⟨1, 2⟩
def args0 : Array Value := #[.int 1, .int 2, .int 3]
def aboutOver (below : List Frame) : State where
  vm := { classes := classes, interned := interned.toArray }
  heap := heap
  slotsUsed := slotsUsed
  threads := #[{ frames := .invoking theMethod args0 :: below }]
def below0 : List Frame := [.native { method := ⟨0, 0⟩, args := #[] }]
def about1 : State := aboutOver below0
def p0 : Program := .bare "" "" ""
def e0 : Env := launch0.env 0 0 0
theorem w_frames : about1.frames = Frame.invoking theMethod args0 :: below0 := rfl
set_option maxRecDepth 65536 in
theorem w_args : argsFit about1.vm theMethod args0 = true := by decide +kernel
set_option maxRecDepth 65536 in
theorem w_heap : heapFits about1 = true := by decide +kernel
set_option maxRecDepth 65536 in
theorem w_runnable : about1.curStatus? = some .runnable := by decide +kernel
set_option maxRecDepth 65536 in
theorem w_alone : about1.alone = true := by decide +kernel
set_option maxRecDepth 65536 in
theorem w_named : about1.methodNamed? x = some theMethod := by decide +kernel
set_option maxRecDepth 65536 in
theorem w_hears : about1.hears theMethod below0 = true := by decide +kernel
set_option maxRecDepth 65536 in
theorem w_ripe : about1.ripe theMethod args0 below0 = true := by decide +kernel
theorem w_running : about1.status = .running := rfl
set_option maxRecDepth 65536 in
theorem w_room : about1.hasRoom e0.platform room_1 = true :=
  launch0.hasRoom_least _ room_1 (by decide +kernel) (by decide +kernel) (by decide +kernel) (by decide +kernel) (by decide +kernel) (by decide +kernel)
theorem allAtoms_all (ts : List Jvm.Cond) (a : Array Jvm.Value) (st : Jvm.State) : (allAtoms ts).before a st = ts.all (fun c => c.before a st) := by
  induction ts with
  | nil => rfl
  | cons c t ih =>
    show (Jvm.Cond.and c (allAtoms t)).before a st = _
    rw [Jvm.Cond.before_and, ih, List.all_cons]
def words1 : List Jvm.Cond := Jvm.Cond.code x code maxLocals ret :: tables_1
/-- a 'code' word, met by the world's own term for the bytes: nothing is compared byte by byte -/
theorem code_word {y : MethodName} {bytes : ByteArray} {mx : Nat} {rt : Option FieldType} {a : Array Value} {s : State} {m : MethodId} {meth : Method} {c : Code} (h1 : s.methodNamed? y = some m) (h2 : s.vm.method? m = some meth) (h3 : meth.code = some c) (h4 : c.code = bytes)
    (h5 : (c.maxLocals == mx && c.exceptionTable.isEmpty && decide (c.maxStack ≤ mostOperands) && decide (meth.sig.returnType = rt) && !meth.locks && decide (parseMethodDescriptor y.desc = some meth.sig)) = true) : (Jvm.Cond.code y bytes mx rt).before a s = true := by
  simp only [Bool.and_eq_true, beq_iff_eq, Bool.not_eq_true', decide_eq_true_eq] at h5
  obtain ⟨⟨⟨⟨⟨g1, g2⟩, g3⟩, g4⟩, g5⟩, g6⟩ := h5
  simp [Cond.before, Cond.holds, Cond.value, h1, h2, h3, h4, g1, g2, g3, g4, g5, g6]
def isCode : Jvm.Cond → Bool
  | .code _ _ _ _ => true
  | _ => false
theorem all_split {L : List Jvm.Cond} {P : Jvm.Cond → Bool} (h1 : L.all (fun c => isCode c || P c) = true) (h2 : ∀ c ∈ L.filter isCode, P c = true) : L.all P = true := by
  refine List.all_eq_true.mpr fun c hc => ?_
  have h := List.all_eq_true.mp h1 c hc
  rcases Bool.eq_false_or_eq_true (isCode c) with hi | hi
  · exact h2 c (List.mem_filter.mpr ⟨hc, hi⟩)
  · simpa [hi] using h
set_option maxRecDepth 65536 in
theorem w_c0 : (Jvm.Cond.code x code maxLocals ret).before args0 about1 = true := code_word (m := ⟨1, 2⟩) (meth := k1m2) (c := k1c2) (by decide +kernel) rfl rfl rfl (by decide +kernel)
set_option maxRecDepth 65536 in
theorem w_c1 : (Jvm.Cond.code ({ cls := "com/example/crownsworn/crownsworn/model/KingdomStateGainCromPinLaw", name := "pick", desc := "(I)Lcom/example/crownsworn/crownsworn/model/Kingdom;" } : Jvm.MethodName) method_2_code (2 : Nat) (Option.some (Jvm.ClassFile.FieldType.object "com/example/crownsworn/crownsworn/model/Kingdom"))).before args0 about1 = true := code_word (m := ⟨1, 1⟩) (meth := k1m1) (c := k1c1) (by decide +kernel) rfl rfl rfl (by decide +kernel)
set_option maxRecDepth 65536 in
theorem w_c2 : (Jvm.Cond.code ({ cls := "com/example/crownsworn/crownsworn/model/KingdomState", name := "<init>", desc := "(Lcom/example/crownsworn/crownsworn/model/Kingdom;)V" } : Jvm.MethodName) prog_16_method_1_code (2 : Nat) (Option.none : Option Jvm.ClassFile.FieldType)).before args0 about1 = true := code_word (m := ⟨7, 0⟩) (meth := k7m0) (c := k7c0) (by decide +kernel) rfl rfl rfl (by decide +kernel)
set_option maxRecDepth 65536 in
theorem w_c3 : (Jvm.Cond.code ({ cls := "java/lang/Object", name := "<init>", desc := "()V" } : Jvm.MethodName) object_method_1_code (1 : Nat) (Option.none : Option Jvm.ClassFile.FieldType)).before args0 about1 = true := code_word (m := ⟨0, 0⟩) (meth := k0m0) (c := k0c0) (by decide +kernel) rfl rfl rfl (by decide +kernel)
set_option maxRecDepth 65536 in
theorem w_c4 : (Jvm.Cond.code ({ cls := "java/util/ArrayList", name := "<init>", desc := "()V" } : Jvm.MethodName) jdk_38_method_2_code (1 : Nat) (Option.none : Option Jvm.ClassFile.FieldType)).before args0 about1 = true := code_word (m := ⟨16, 0⟩) (meth := k16m0) (c := k16c0) (by decide +kernel) rfl rfl rfl (by decide +kernel)
set_option maxRecDepth 65536 in
theorem w_c5 : (Jvm.Cond.code ({ cls := "java/util/AbstractList", name := "<init>", desc := "()V" } : Jvm.MethodName) jdk_39_method_1_code (1 : Nat) (Option.none : Option Jvm.ClassFile.FieldType)).before args0 about1 = true := code_word (m := ⟨13, 0⟩) (meth := k13m0) (c := k13c0) (by decide +kernel) rfl rfl rfl (by decide +kernel)
set_option maxRecDepth 65536 in
theorem w_c6 : (Jvm.Cond.code ({ cls := "java/util/AbstractCollection", name := "<init>", desc := "()V" } : Jvm.MethodName) jdk_22_method_1_code (1 : Nat) (Option.none : Option Jvm.ClassFile.FieldType)).before args0 about1 = true := code_word (m := ⟨10, 0⟩) (meth := k10m0) (c := k10c0) (by decide +kernel) rfl rfl rfl (by decide +kernel)
set_option maxRecDepth 65536 in
theorem w_c7 : (Jvm.Cond.code ({ cls := "java/util/TreeMap", name := "<init>", desc := "()V" } : Jvm.MethodName) jdk_2729_method_1_code (1 : Nat) (Option.none : Option Jvm.ClassFile.FieldType)).before args0 about1 = true := code_word (m := ⟨22, 0⟩) (meth := k22m0) (c := k22c0) (by decide +kernel) rfl rfl rfl (by decide +kernel)
set_option maxRecDepth 65536 in
theorem w_c8 : (Jvm.Cond.code ({ cls := "java/util/AbstractMap", name := "<init>", desc := "()V" } : Jvm.MethodName) jdk_71_method_1_code (1 : Nat) (Option.none : Option Jvm.ClassFile.FieldType)).before args0 about1 = true := code_word (m := ⟨18, 0⟩) (meth := k18m0) (c := k18c0) (by decide +kernel) rfl rfl rfl (by decide +kernel)
set_option maxRecDepth 65536 in
theorem w_c9 : (Jvm.Cond.code ({ cls := "java/util/TreeSet", name := "<init>", desc := "()V" } : Jvm.MethodName) jdk_2756_method_2_code (1 : Nat) (Option.none : Option Jvm.ClassFile.FieldType)).before args0 about1 = true := code_word (m := ⟨28, 1⟩) (meth := k28m1) (c := k28c1) (by decide +kernel) rfl rfl rfl (by decide +kernel)
set_option maxRecDepth 65536 in
theorem w_c10 : (Jvm.Cond.code ({ cls := "java/util/TreeSet", name := "<init>", desc := "(Ljava/util/NavigableMap;)V" } : Jvm.MethodName) jdk_2756_method_1_code (2 : Nat) (Option.none : Option Jvm.ClassFile.FieldType)).before args0 about1 = true := code_word (m := ⟨28, 0⟩) (meth := k28m0) (c := k28c0) (by decide +kernel) rfl rfl rfl (by decide +kernel)
set_option maxRecDepth 65536 in
theorem w_c11 : (Jvm.Cond.code ({ cls := "java/util/AbstractSet", name := "<init>", desc := "()V" } : Jvm.MethodName) jdk_91_method_1_code (1 : Nat) (Option.none : Option Jvm.ClassFile.FieldType)).before args0 about1 = true := code_word (m := ⟨24, 0⟩) (meth := k24m0) (c := k24c0) (by decide +kernel) rfl rfl rfl (by decide +kernel)
set_option maxRecDepth 65536 in
theorem w_c12 : (Jvm.Cond.code ({ cls := "java/util/Objects", name := "requireNonNull", desc := "(Ljava/lang/Object;Ljava/lang/String;)Ljava/lang/Object;" } : Jvm.MethodName) jdk_31_method_11_code (2 : Nat) (Option.some (Jvm.ClassFile.FieldType.object "java/lang/Object"))).before args0 about1 = true := code_word (m := ⟨32, 1⟩) (meth := k32m1) (c := k32c1) (by decide +kernel) rfl rfl rfl (by decide +kernel)
set_option maxRecDepth 65536 in
theorem w_c13 : (Jvm.Cond.code ({ cls := "com/example/crownsworn/crownsworn/model/KingdomState", name := "crom", desc := "()I" } : Jvm.MethodName) prog_16_method_6_code (1 : Nat) (Option.some Jvm.ClassFile.FieldType.int)).before args0 about1 = true := code_word (m := ⟨7, 5⟩) (meth := k7m5) (c := k7c5) (by decide +kernel) rfl rfl rfl (by decide +kernel)
set_option maxRecDepth 65536 in
theorem w_c14 : (Jvm.Cond.code ({ cls := "java/lang/Math", name := "max", desc := "(II)I" } : Jvm.MethodName) jdk_29_method_65_code (2 : Nat) (Option.some Jvm.ClassFile.FieldType.int)).before args0 about1 = true := code_word (m := ⟨33, 1⟩) (meth := k33m1) (c := k33c1) (by decide +kernel) rfl rfl rfl (by decide +kernel)
set_option maxRecDepth 65536 in
theorem w_c15 : (Jvm.Cond.code ({ cls := "com/example/crownsworn/crownsworn/model/KingdomState", name := "gainCrom", desc := "(I)V" } : Jvm.MethodName) prog_16_method_24_code (2 : Nat) (Option.none : Option Jvm.ClassFile.FieldType)).before args0 about1 = true := code_word (m := ⟨7, 6⟩) (meth := k7m6) (c := k7c6) (by decide +kernel) rfl rfl rfl (by decide +kernel)
set_option maxRecDepth 65536 in
theorem w_c16 : (Jvm.Cond.code ({ cls := "com/example/crownsworn/crownsworn/model/KingdomState", name := "positive", desc := "(I)I" } : Jvm.MethodName) prog_16_method_45_code (1 : Nat) (Option.some Jvm.ClassFile.FieldType.int)).before args0 about1 = true := code_word (m := ⟨7, 7⟩) (meth := k7m7) (c := k7c7) (by decide +kernel) rfl rfl rfl (by decide +kernel)
set_option maxRecDepth 65536 in
theorem w_c17 : (Jvm.Cond.code ({ cls := "com/example/crownsworn/crownsworn/model/KingdomState", name := "gold", desc := "()I" } : Jvm.MethodName) prog_16_method_3_code (1 : Nat) (Option.some Jvm.ClassFile.FieldType.int)).before args0 about1 = true := code_word (m := ⟨7, 2⟩) (meth := k7m2) (c := k7c2) (by decide +kernel) rfl rfl rfl (by decide +kernel)
set_option maxRecDepth 65536 in
theorem w_c18 : (Jvm.Cond.code ({ cls := "com/example/crownsworn/crownsworn/model/KingdomState", name := "sorcery", desc := "()I" } : Jvm.MethodName) prog_16_method_4_code (1 : Nat) (Option.some Jvm.ClassFile.FieldType.int)).before args0 about1 = true := code_word (m := ⟨7, 3⟩) (meth := k7m3) (c := k7c3) (by decide +kernel) rfl rfl rfl (by decide +kernel)
set_option maxRecDepth 65536 in
theorem w_c19 : (Jvm.Cond.code ({ cls := "com/example/crownsworn/crownsworn/model/KingdomState", name := "empirePoints", desc := "()I" } : Jvm.MethodName) prog_16_method_5_code (1 : Nat) (Option.some Jvm.ClassFile.FieldType.int)).before args0 about1 = true := code_word (m := ⟨7, 4⟩) (meth := k7m4) (c := k7c4) (by decide +kernel) rfl rfl rfl (by decide +kernel)
set_option maxRecDepth 65536 in
theorem w_c20 : (Jvm.Cond.code ({ cls := "com/example/crownsworn/crownsworn/model/KingdomState", name := "kingdom", desc := "()Lcom/example/crownsworn/crownsworn/model/Kingdom;" } : Jvm.MethodName) prog_16_method_2_code (1 : Nat) (Option.some (Jvm.ClassFile.FieldType.object "com/example/crownsworn/crownsworn/model/Kingdom"))).before args0 about1 = true := code_word (m := ⟨7, 1⟩) (meth := k7m1) (c := k7c1) (by decide +kernel) rfl rfl rfl (by decide +kernel)
def codes1 : List Jvm.Cond := [Jvm.Cond.code x code maxLocals ret, Jvm.Cond.code ({ cls := "com/example/crownsworn/crownsworn/model/KingdomStateGainCromPinLaw", name := "pick", desc := "(I)Lcom/example/crownsworn/crownsworn/model/Kingdom;" } : Jvm.MethodName) method_2_code (2 : Nat) (Option.some (Jvm.ClassFile.FieldType.object "com/example/crownsworn/crownsworn/model/Kingdom")), Jvm.Cond.code ({ cls := "com/example/crownsworn/crownsworn/model/KingdomState", name := "<init>", desc := "(Lcom/example/crownsworn/crownsworn/model/Kingdom;)V" } : Jvm.MethodName) prog_16_method_1_code (2 : Nat) (Option.none : Option Jvm.ClassFile.FieldType), Jvm.Cond.code ({ cls := "java/lang/Object", name := "<init>", desc := "()V" } : Jvm.MethodName) object_method_1_code (1 : Nat) (Option.none : Option Jvm.ClassFile.FieldType), Jvm.Cond.code ({ cls := "java/util/ArrayList", name := "<init>", desc := "()V" } : Jvm.MethodName) jdk_38_method_2_code (1 : Nat) (Option.none : Option Jvm.ClassFile.FieldType), Jvm.Cond.code ({ cls := "java/util/AbstractList", name := "<init>", desc := "()V" } : Jvm.MethodName) jdk_39_method_1_code (1 : Nat) (Option.none : Option Jvm.ClassFile.FieldType), Jvm.Cond.code ({ cls := "java/util/AbstractCollection", name := "<init>", desc := "()V" } : Jvm.MethodName) jdk_22_method_1_code (1 : Nat) (Option.none : Option Jvm.ClassFile.FieldType), Jvm.Cond.code ({ cls := "java/util/TreeMap", name := "<init>", desc := "()V" } : Jvm.MethodName) jdk_2729_method_1_code (1 : Nat) (Option.none : Option Jvm.ClassFile.FieldType), Jvm.Cond.code ({ cls := "java/util/AbstractMap", name := "<init>", desc := "()V" } : Jvm.MethodName) jdk_71_method_1_code (1 : Nat) (Option.none : Option Jvm.ClassFile.FieldType), Jvm.Cond.code ({ cls := "java/util/TreeSet", name := "<init>", desc := "()V" } : Jvm.MethodName) jdk_2756_method_2_code (1 : Nat) (Option.none : Option Jvm.ClassFile.FieldType), Jvm.Cond.code ({ cls := "java/util/TreeSet", name := "<init>", desc := "(Ljava/util/NavigableMap;)V" } : Jvm.MethodName) jdk_2756_method_1_code (2 : Nat) (Option.none : Option Jvm.ClassFile.FieldType), Jvm.Cond.code ({ cls := "java/util/AbstractSet", name := "<init>", desc := "()V" } : Jvm.MethodName) jdk_91_method_1_code (1 : Nat) (Option.none : Option Jvm.ClassFile.FieldType), Jvm.Cond.code ({ cls := "java/util/Objects", name := "requireNonNull", desc := "(Ljava/lang/Object;Ljava/lang/String;)Ljava/lang/Object;" } : Jvm.MethodName) jdk_31_method_11_code (2 : Nat) (Option.some (Jvm.ClassFile.FieldType.object "java/lang/Object")), Jvm.Cond.code ({ cls := "com/example/crownsworn/crownsworn/model/KingdomState", name := "crom", desc := "()I" } : Jvm.MethodName) prog_16_method_6_code (1 : Nat) (Option.some Jvm.ClassFile.FieldType.int), Jvm.Cond.code ({ cls := "java/lang/Math", name := "max", desc := "(II)I" } : Jvm.MethodName) jdk_29_method_65_code (2 : Nat) (Option.some Jvm.ClassFile.FieldType.int), Jvm.Cond.code ({ cls := "com/example/crownsworn/crownsworn/model/KingdomState", name := "gainCrom", desc := "(I)V" } : Jvm.MethodName) prog_16_method_24_code (2 : Nat) (Option.none : Option Jvm.ClassFile.FieldType), Jvm.Cond.code ({ cls := "com/example/crownsworn/crownsworn/model/KingdomState", name := "positive", desc := "(I)I" } : Jvm.MethodName) prog_16_method_45_code (1 : Nat) (Option.some Jvm.ClassFile.FieldType.int), Jvm.Cond.code ({ cls := "com/example/crownsworn/crownsworn/model/KingdomState", name := "gold", desc := "()I" } : Jvm.MethodName) prog_16_method_3_code (1 : Nat) (Option.some Jvm.ClassFile.FieldType.int), Jvm.Cond.code ({ cls := "com/example/crownsworn/crownsworn/model/KingdomState", name := "sorcery", desc := "()I" } : Jvm.MethodName) prog_16_method_4_code (1 : Nat) (Option.some Jvm.ClassFile.FieldType.int), Jvm.Cond.code ({ cls := "com/example/crownsworn/crownsworn/model/KingdomState", name := "empirePoints", desc := "()I" } : Jvm.MethodName) prog_16_method_5_code (1 : Nat) (Option.some Jvm.ClassFile.FieldType.int), Jvm.Cond.code ({ cls := "com/example/crownsworn/crownsworn/model/KingdomState", name := "kingdom", desc := "()Lcom/example/crownsworn/crownsworn/model/Kingdom;" } : Jvm.MethodName) prog_16_method_2_code (1 : Nat) (Option.some (Jvm.ClassFile.FieldType.object "com/example/crownsworn/crownsworn/model/Kingdom"))]
set_option maxRecDepth 65536 in
theorem codes_eq : words1.filter isCode = codes1 := rfl
theorem w_codes : ∀ c ∈ words1.filter isCode, c.before args0 about1 = true := by
  rw [codes_eq]
  intro c hc
  simp only [codes1, List.mem_cons, List.not_mem_nil, or_false] at hc
  rcases hc with rfl | rfl | rfl | rfl | rfl | rfl | rfl | rfl | rfl | rfl | rfl | rfl | rfl | rfl | rfl | rfl | rfl | rfl | rfl | rfl | rfl
  · exact w_c0
  · exact w_c1
  · exact w_c2
  · exact w_c3
  · exact w_c4
  · exact w_c5
  · exact w_c6
  · exact w_c7
  · exact w_c8
  · exact w_c9
  · exact w_c10
  · exact w_c11
  · exact w_c12
  · exact w_c13
  · exact w_c14
  · exact w_c15
  · exact w_c16
  · exact w_c17
  · exact w_c18
  · exact w_c19
  · exact w_c20
set_option maxRecDepth 65536 in
theorem w_t1 : (words1.take 24).all (fun c => isCode c || c.before args0 about1) = true := by decide +kernel
set_option maxRecDepth 65536 in
theorem w_t2 : ((words1.drop 24).take 24).all (fun c => isCode c || c.before args0 about1) = true := by decide +kernel
set_option maxRecDepth 65536 in
theorem w_t3 : (((words1.drop 24).drop 24).take 24).all (fun c => isCode c || c.before args0 about1) = true := by decide +kernel
set_option maxRecDepth 65536 in
theorem w_t4 : ((((words1.drop 24).drop 24).drop 24).take 24).all (fun c => isCode c || c.before args0 about1) = true := by decide +kernel
set_option maxRecDepth 65536 in
theorem w_t5 : (((((words1.drop 24).drop 24).drop 24).drop 24).take 24).all (fun c => isCode c || c.before args0 about1) = true := by decide +kernel
set_option maxRecDepth 65536 in
theorem w_t6 : ((((((words1.drop 24).drop 24).drop 24).drop 24).drop 24).take 24).all (fun c => isCode c || c.before args0 about1) = true := by decide +kernel
set_option maxRecDepth 65536 in
theorem w_t7 : ((((((words1.drop 24).drop 24).drop 24).drop 24).drop 24).drop 24).all (fun c => isCode c || c.before args0 about1) = true := by decide +kernel
theorem w_tables : (allAtoms (Jvm.Cond.code x code maxLocals ret :: tables_1)).before args0 about1 = true := by
  rw [allAtoms_all]
  show words1.all (fun c => c.before args0 about1) = true
  refine all_split ?_ w_codes
  rw [← List.take_append_drop 24 words1, List.all_append, w_t1, ← List.take_append_drop 24 (words1.drop 24), List.all_append, w_t2, ← List.take_append_drop 24 ((words1.drop 24).drop 24), List.all_append, w_t3, ← List.take_append_drop 24 (((words1.drop 24).drop 24).drop 24), List.all_append, w_t4, ← List.take_append_drop 24 ((((words1.drop 24).drop 24).drop 24).drop 24), List.all_append, w_t5, ← List.take_append_drop 24 (((((words1.drop 24).drop 24).drop 24).drop 24).drop 24), List.all_append, w_t6, w_t7]
  rfl
set_option maxRecDepth 65536 in
theorem w_rest : rest_1_c.before args0 about1 = true := by decide +kernel
set_option maxRecDepth 65536 in
theorem w_case : (Jvm.Cond.and given_1 narrow_1).before args0 about1 = true := by decide +kernel
theorem w_applies : (headSpec (Jvm.Cond.code x code maxLocals ret :: tables_1) room_1).applies x e0.platform about1 = true :=
  (Spec.applies_iff w_frames).mpr ⟨w_running, w_runnable, w_alone, w_named, w_hears, w_ripe, w_room, w_tables⟩
theorem atStart : AtStart classFile x code maxLocals ret World_1 tables_1 room_1 Calls_1 rest_1 Pre_1 launch0 p0 e0 about1 theMethod args0 below0 :=
  ⟨lists_1, trivial, launch0.admits_env _ _ _, launch0.least_env, fairChoices_fair.cas, fairChoices_fair.clock, w_frames, w_args, w_heap, w_applies, trivial, w_rest, w_case⟩
end start1
theorem witness_1 : WitnessClaimed_1 := ⟨start1.p0, start1.e0, start1.about1, start1.theMethod, start1.args0, start1.below0, start1.atStart⟩
end Jvm.Pilot.@@N@@
