import JvmDerived
import JvmDerived.Pilot.@@N@@Statement
import JvmDerived.Pilot.@@N@@Code
set_option linter.unusedVariables false
set_option linter.unusedSimpArgs false
namespace Jvm.RoadKit
open Sem ClassFile Op Lib Jvm.Stand Jvm.Free Jvm.LawKit
section New
variable {p : Program} {l : Launch} {e : Env} {R : Room} {s : State} {m : MethodId} {args : Array Value} {below : List Frame} {meth : Method} {c : Code} {T : State} {locs : List Loc} {cells slots : Nat}
theorem retI (X : Stand p l e R s m args below meth c T locs cells slots) (hx : p.tables.exec = Jvm.exec) {pc : Nat} {Ls : Array Slot} {z : Int32} {rest : List Value} (hret : meth.sig.returnType = some .int) (hd : decode c.code pc = .ok (.ireturn, 1)) {fs : List Frame}
    (hl : ∀ (f : JFrame) (acts : List Action), f.method = m → f.locked = none → f.entered = [] → (doReturn e (T.setTop f) acts (some (.int z))).1 = T.setFrames fs) : Steps p.tables e below (T.setTop (mkF m pc Ls (.int z :: rest))) (T.setFrames fs) :=
  retOut X hx hret rfl (Or.inl ⟨rfl, Or.inl rfl, _, rfl⟩) hd hl
theorem own_retA (X : Stand p l e R s m args below meth c T locs cells slots) (hx : p.tables.exec = Jvm.exec) {pc : Nat} {Ls : Array Slot} {w : Value} {t : FieldType} {rest : List Value} (hret : meth.sig.returnType = some t) (ht : t.isReference = true) (hw : w.isRef = true) (hd : decode c.code pc = .ok (.areturn, 1)) {fs : List Frame}
    (hl : ∀ (f : JFrame) (acts : List Action), f.method = m → f.locked = none → f.entered = [] → (doReturn e (T.setTop f) acts (some w)).1 = T.setFrames fs) : Steps p.tables e below (T.setTop (mkF m pc Ls (w :: rest))) (T.setFrames fs) :=
  retOut X hx hret (by cases w <;> first | (simp [Value.isRef] at hw; done) | (cases t <;> rfl)) (Or.inr (Or.inr (Or.inr (Or.inr ⟨rfl, ht, hw⟩)))) hd hl
theorem own_retJ (X : Stand p l e R s m args below meth c T locs cells slots) (hx : p.tables.exec = Jvm.exec) {pc : Nat} {Ls : Array Slot} {z : Int64} {rest : List Value} (hret : meth.sig.returnType = some .long) (hd : decode c.code pc = .ok (.lreturn, 1)) {fs : List Frame}
    (hl : ∀ (f : JFrame) (acts : List Action), f.method = m → f.locked = none → f.entered = [] → (doReturn e (T.setTop f) acts (some (.long z))).1 = T.setFrames fs) : Steps p.tables e below (T.setTop (mkF m pc Ls (.long z :: rest))) (T.setFrames fs) :=
  retOut X hx hret rfl (Or.inr (Or.inl ⟨rfl, rfl, _, rfl⟩)) hd hl
/-- the walk goes on from here and ends as Q says -/
def own_Go (p : Program) (e : Env) (below : List Frame) (T : State) (g : JFrame) (Q : Outcome → State → Prop) : Prop :=
  ∃ s₂ o, Steps p.tables e below (T.setTop g) s₂ ∧ s₂.status = .running ∧ Ended s₂ below o ∧ Q o s₂
theorem own_go {T T' : State} {g g' : JFrame} {Q : Outcome → State → Prop} (h : ∀ t, Steps p.tables e below (T'.setTop g') t → Steps p.tables e below (T.setTop g) t) (k : own_Go p e below T' g' Q) : own_Go p e below T g Q := by
  obtain ⟨s₂, o, a, b⟩ := k
  exact ⟨s₂, o, h _ a, b⟩
theorem own_cast {g g' : JFrame} {Q : Outcome → State → Prop} (q : g = g') (k : own_Go p e below T g' Q) : own_Go p e below T g Q := by
  subst q; exact k
theorem own_in {g g' : JFrame} {Q : Outcome → State → Prop} (q : g = g') (k : own_Go p e below T g' Q) : ∃ s₂ o, Steps p.tables e below (T.setTop g) s₂ ∧ s₂.status = .running ∧ Ended s₂ below o ∧ Q o s₂ := by
  subst q; exact k
theorem own_out (X : Stand p l e R s m args below meth c T locs cells slots) {g : JFrame} {v : Option Value} (hv : meth.sig.returnType = none → v = none) (hlk : meth.locks = false)
    (h : ∀ fs, (∀ (f : JFrame) (acts : List Action), f.method = m → f.locked = none → f.entered = [] → (doReturn e (T.setTop f) acts v).1 = T.setFrames fs) → Steps p.tables e below (T.setTop g) (T.setFrames fs))
    {Q : Option Value → Heap → List Loc → Prop} (hQ : Q v T.heap locs) {k n : Nat} (hc : cells ≤ k) (hn : slots ≤ n) :
    own_Go p e below T g (fun o U' => ∃ v L, o = .returned v ∧ Q v U'.heap L ∧ FrameEnd s o U' L k n) := by
  obtain ⟨fs, hr, hrun, hended, hW, hsame⟩ := X.leave hv hlk
  exact ⟨_, _, h fs hr, hrun, hended, _, _, rfl, hQ, ⟨_, rfl⟩, hW, hsame.mono hc hn⟩
theorem own_since (s : State) : s.Since s.vm 0 := ⟨State.Warmed39.refl s, fun j p hj hp => by
  rw [Array.getElem?_eq_none hj] at hp; cases hp⟩
theorem own_outW {vm₁ : Vm} (X : Stand p l e R (s.setVm vm₁) m args below meth c T locs cells slots) {n0 : Nat} (hS : s.Since vm₁ n0) (hn0 : n0 ≤ T.heap.size) {g : JFrame} {v : Option Value} (hv : meth.sig.returnType = none → v = none) (hlk : meth.locks = false)
    (h : ∀ fs, (∀ (f : JFrame) (acts : List Action), f.method = m → f.locked = none → f.entered = [] → (doReturn e (T.setTop f) acts v).1 = T.setFrames fs) → Steps p.tables e below (T.setTop g) (T.setFrames fs))
    {Q : Option Value → Heap → List Loc → Prop} (hQ : Q v T.heap locs) {k n : Nat} (hc : cells ≤ k) (hn : slots ≤ n) :
    own_Go p e below T g (fun o U' => ∃ v L, o = .returned v ∧ Q v U'.heap L ∧ ReturnedEndW s o U' L k n) := by
  obtain ⟨fs, hr, hrun, hended, h1, h2, h3, h4⟩ := X.leaveW hS hn0 hv hlk
  exact ⟨_, _, h fs hr, hrun, hended, _, _, rfl, hQ, h1, h2, h3, h4.mono hc hn⟩
theorem own_t0 {P : Prop} [Decidable P] (h : P) : (if P then (0 : Int32) else (1 : Int32)) = 0 := if_pos h
theorem own_f0 {P : Prop} [Decidable P] (h : ¬ P) : ¬ (if P then (0 : Int32) else (1 : Int32)) = 0 := by rw [if_neg h]; decide
theorem own_t1 {P : Prop} [Decidable P] (h : P) : ¬ (if P then (1 : Int32) else (0 : Int32)) = 0 := by rw [if_pos h]; decide
theorem own_f1 {P : Prop} [Decidable P] (h : ¬ P) : (if P then (1 : Int32) else (0 : Int32)) = 0 := if_neg h
end New
end Jvm.RoadKit
namespace Jvm.Pilot.@@N@@
open Jvm Jvm.ClassFile Sem Op Lib Jvm.Free Jvm.Stand Jvm.LawKit Jvm.RoadKit Bundle Jvm.Pilot.@@N@@.Jvm.D

theorem own_ord {args : Array Value} {s : State} {C f d : String} {k : Int32} {a : Addr} (ev : (Term.static C f d).eval args s none [] s = some (.ref a)) (h : (Jvm.Cond.eq (Term.field (Term.static C f d) "java/lang/Enum" "ordinal" "I") (Term.int k)).value args s none s [] = some true) : Fld s s.heap a "java/lang/Enum" "ordinal" "I" (.int k) := by
  obtain ⟨x, y, h1, h2, k1, k2⟩ := cmp_v (Or.inl h)
  have hk : (Term.int k).eval args s none [] s = some (.int k) := Term.int_eval k
  cases h2.symm.trans hk
  obtain ⟨z, rfl⟩ := k2
  have e := gotT (Cond.eq_ints h1 hk) h
  subst e
  exact Fld.start ((fld_at ev).symm.trans h1)
theorem d_prog_26_6_0 : decode prog_26_method_6_code 0 = .ok (.iload_n 0, 1) := by decide +kernel
theorem d_prog_26_6_1 : decode prog_26_method_6_code 1 = .ok (.ifCond .eq 10, 3) := by decide +kernel
theorem d_prog_26_6_11 : decode prog_26_method_6_code 11 = .ok (.iload_n 1, 1) := by decide +kernel
theorem d_prog_26_6_12 : decode prog_26_method_6_code 12 = .ok (.ifCond .eq 10, 3) := by decide +kernel
theorem d_prog_26_6_22 : decode prog_26_method_6_code 22 = .ok (.getstatic 3, 3) := by decide +kernel
theorem d_prog_26_6_25 : decode prog_26_method_6_code 25 = .ok (.astore_n 2, 1) := by decide +kernel
theorem d_prog_26_6_26 : decode prog_26_method_6_code 26 = .ok (.aload_n 2, 1) := by decide +kernel
theorem d_prog_26_6_27 : decode prog_26_method_6_code 27 = .ok (.areturn, 1) := by decide +kernel
theorem d_prog_26_6_15 : decode prog_26_method_6_code 15 = .ok (.getstatic 7, 3) := by decide +kernel
theorem d_prog_26_6_18 : decode prog_26_method_6_code 18 = .ok (.astore_n 2, 1) := by decide +kernel
theorem d_prog_26_6_19 : decode prog_26_method_6_code 19 = .ok (.goto 7, 3) := by decide +kernel
theorem d_prog_26_6_4 : decode prog_26_method_6_code 4 = .ok (.getstatic 10, 3) := by decide +kernel
theorem d_prog_26_6_7 : decode prog_26_method_6_code 7 = .ok (.astore_n 2, 1) := by decide +kernel
theorem d_prog_26_6_8 : decode prog_26_method_6_code 8 = .ok (.goto 18, 3) := by decide +kernel
theorem pn_0 : plainName "com/example/drawline/drawline/model/Application$Status" = true := by first | (simp [plainName, overriddenIn]; done) | decide +kernel
theorem ef_0 (m : MethodId) (p1 : Int32) (p2 : Int32) : entryFrame m #[(.int p1), (.int p2)] 3 = mkF m 0 #[.val (.int p1), .val (.int p2), .unset] [] := by first | (simp [entryFrame, mkF, argsToLocals, Value.category]; done) | rfl
def Q_rm_of (Z : State) (p1 : Int32) (p2 : Int32) (wp : Addr) (wc : Addr) (wo : Addr) (r : Addr) (h0 : Heap) (n0 : Nat) (vv : Option Value) (h : Heap) (LL : List Loc) : Prop := vv = some (.ref r) ∧ Fr n0 LL ∧ h = h0
set_option maxRecDepth 65536 in
set_option maxHeartbeats 40000000 in
theorem rm_of (l : Launch) (Z : State) (a0 : Array Value) (hw : ∀ d ∈ tables_1, d.before a0 Z = true) (ws : List Jvm.Cond) (p1 : Int32) (p2 : Int32) (wp : Addr) (wc : Addr) (wo : Addr) (r : Addr) (h0 : Heap) (n0 : Nat) (Z0 : n0 ≤ h0.size) (O0 : Old Z n0 h0) (S_PAID : Sta Z Z.heap "com/example/drawline/drawline/model/Application$Status" "PAID" "Lcom/example/drawline/drawline/model/Application$Status;" (.ref wp)) (S_CERTIFIED : Sta Z Z.heap "com/example/drawline/drawline/model/Application$Status" "CERTIFIED" "Lcom/example/drawline/drawline/model/Application$Status;" (.ref wc)) (S_OPEN : Sta Z Z.heap "com/example/drawline/drawline/model/Application$Status" "OPEN" "Lcom/example/drawline/drawline/model/Application$Status;" (.ref wo)) (hr0 : r = (if p1 = (0 : Int32) then (if p2 = (0 : Int32) then wo else wc) else wp)) :
    MetFree l (⟨"com/example/drawline/drawline/model/Application$Status", "of", "(ZZ)Lcom/example/drawline/drawline/model/Application$Status;"⟩ : MethodName) (head1 (Jvm.Cond.code (⟨"com/example/drawline/drawline/model/Application$Status", "of", "(ZZ)Lcom/example/drawline/drawline/model/Application$Status;"⟩ : MethodName) prog_26_method_6_code 3 (some (.object "com/example/drawline/drawline/model/Application$Status")) :: ws) ({ frames := 0, cells := 0, slots := 0, locals := 0 } : Room)) (fun aa UU => aa = #[(.int p1), (.int p2)] ∧ Z.Warmed39 UU.vm ∧ UU.heap = h0) (fun _ _ _ _ _ => True) (fun _ UU oo UU' => ∃ vv LL, oo = .returned vv ∧ Q_rm_of Z p1 p2 wp wc wo r h0 n0 vv UU'.heap LL ∧ FrameEnd UU oo UU' LL ({ frames := 0, cells := 0, slots := 0, locals := 0 } : Room).cells ({ frames := 0, cells := 0, slots := 0, locals := 0 } : Room).slots) := by
  refine MetFree.of_bodySF (plainFor_of_name pn_0) hisR ?_
  intro p e s m args below meth c s₁ Bd hml0 hP hK
  obtain ⟨rfl, hZ, hh⟩ := hP
  have hx := Bd.exec
  have hby := Bd.bytes
  have hml : c.maxLocals = 3 := hml0
  have hown : s.vm.findClass "com/example/drawline/drawline/model/Application$Status" = some m.cls := findClass_of_methodNamed Bd.named
  have hnm := (name_of_methodNamed Bd.named Bd.method).1
  have hlk : meth.locks = false := BodyLoose.notSynchronized Bd
  have X0 : Stand p l e ({ frames := 0, cells := 0, slots := 0, locals := 0 } : Room) s m #[(.int p1), (.int p2)] below meth c s₁ [] 0 0 := Stand.of_body Bd
  have e0 : s₁.heap = h0 := by rw [← hh, Bd.state]; rfl
  have N0 := Fr.nil n0
  refine own_in (ef_0 m p1 p2) ?_
  refine own_go (T' := s₁) (g' := (mkF m 1 #[.val (.int p1), .val (.int p2), .unset] [(.int p1)])) (fun t_ k_ => XS.iloadN X0.here hx rfl (hb hby d_prog_26_6_0) rfl k_) ?_
  by_cases c1 : p1 = (0 : Int32)
  · -- p1 = (0 : Int32)
    refine own_go (T' := s₁) (g' := (mkF m 11 #[.val (.int p1), .val (.int p2), .unset] [])) (fun t_ k_ => XS.ifYes X0.here hx rfl (pc0 := 1) (pc' := 11) rfl (hb hby d_prog_26_6_1) rfl ((if0 _ _).trans (teq c1).1) (by decide) (by decide) k_) ?_
    refine own_go (T' := s₁) (g' := (mkF m 12 #[.val (.int p1), .val (.int p2), .unset] [(.int p2)])) (fun t_ k_ => XS.iloadN X0.here hx rfl (hb hby d_prog_26_6_11) rfl k_) ?_
    by_cases c2 : p2 = (0 : Int32)
    · -- p2 = (0 : Int32)
      refine own_go (T' := s₁) (g' := (mkF m 22 #[.val (.int p1), .val (.int p2), .unset] [])) (fun t_ k_ => XS.ifYes X0.here hx rfl (pc0 := 12) (pc' := 22) rfl (hb hby d_prog_26_6_12) rfl ((if0 _ _).trans (teq c2).1) (by decide) (by decide) k_) ?_
      obtain ⟨T3, X3, e3, st3⟩ := getS2 X0 hx hZ hown (host := "") (Or.inl (hw _ (List.mem_of_getElem? (i := 4) rfl))) Via.refl e0 (S_OPEN.ext O0.2) (g := (mkF m 22 #[.val (.int p1), .val (.int p2), .unset] [])) rfl (hb hby d_prog_26_6_22)
      refine own_go (T' := T3) (g' := (mkF m 25 #[.val (.int p1), .val (.int p2), .unset] [(.ref wo)])) (fun t_ k_ => st3 _ k_) ?_
      refine own_go (T' := T3) (g' := (mkF m 26 #[.val (.int p1), .val (.int p2), .val (.ref wo)] [])) (fun t_ k_ => XS.astoreN X3.here hx rfl (hb hby d_prog_26_6_25) rfl rfl (l' := #[.val (.int p1), .val (.int p2), .val (.ref wo)]) rfl k_) ?_
      refine own_go (T' := T3) (g' := (mkF m 27 #[.val (.int p1), .val (.int p2), .val (.ref wo)] [(.ref wo)])) (fun t_ k_ => XS.aloadN X3.here hx rfl (hb hby d_prog_26_6_26) rfl rfl k_) ?_
      exact own_out X3 (v := some (.ref wo)) (fun h => by rw [Bd.returns] at h; cases h) hlk (fun fs hr => own_retA X3 hx Bd.returns rfl rfl (hb hby d_prog_26_6_27) hr) (Q := Q_rm_of Z p1 p2 wp wc wo r h0 n0) (by rw [e3]; exact ⟨(by rw [hr0, if_pos c1, if_pos c2]), N0, rfl⟩) (by decide) (by decide)
    · -- not p2 = (0 : Int32)
      refine own_go (T' := s₁) (g' := (mkF m 15 #[.val (.int p1), .val (.int p2), .unset] [])) (fun t_ k_ => XS.ifNo X0.here hx rfl (hb hby d_prog_26_6_12) rfl ((if0 _ _).trans (feq c2).1) k_) ?_
      obtain ⟨T4, X4, e4, st4⟩ := getS2 X0 hx hZ hown (host := "") (Or.inl (hw _ (List.mem_of_getElem? (i := 12) rfl))) Via.refl e0 (S_CERTIFIED.ext O0.2) (g := (mkF m 15 #[.val (.int p1), .val (.int p2), .unset] [])) rfl (hb hby d_prog_26_6_15)
      refine own_go (T' := T4) (g' := (mkF m 18 #[.val (.int p1), .val (.int p2), .unset] [(.ref wc)])) (fun t_ k_ => st4 _ k_) ?_
      refine own_go (T' := T4) (g' := (mkF m 19 #[.val (.int p1), .val (.int p2), .val (.ref wc)] [])) (fun t_ k_ => XS.astoreN X4.here hx rfl (hb hby d_prog_26_6_18) rfl rfl (l' := #[.val (.int p1), .val (.int p2), .val (.ref wc)]) rfl k_) ?_
      refine own_go (T' := T4) (g' := (mkF m 26 #[.val (.int p1), .val (.int p2), .val (.ref wc)] [])) (fun t_ k_ => XS.goto X4.here hx rfl (pc0 := 19) (pc' := 26) rfl (hb hby d_prog_26_6_19) (by decide) (by decide) k_) ?_
      refine own_go (T' := T4) (g' := (mkF m 27 #[.val (.int p1), .val (.int p2), .val (.ref wc)] [(.ref wc)])) (fun t_ k_ => XS.aloadN X4.here hx rfl (hb hby d_prog_26_6_26) rfl rfl k_) ?_
      exact own_out X4 (v := some (.ref wc)) (fun h => by rw [Bd.returns] at h; cases h) hlk (fun fs hr => own_retA X4 hx Bd.returns rfl rfl (hb hby d_prog_26_6_27) hr) (Q := Q_rm_of Z p1 p2 wp wc wo r h0 n0) (by rw [e4]; exact ⟨(by rw [hr0, if_pos c1, if_neg c2]), N0, rfl⟩) (by decide) (by decide)
  · -- not p1 = (0 : Int32)
    refine own_go (T' := s₁) (g' := (mkF m 4 #[.val (.int p1), .val (.int p2), .unset] [])) (fun t_ k_ => XS.ifNo X0.here hx rfl (hb hby d_prog_26_6_1) rfl ((if0 _ _).trans (feq c1).1) k_) ?_
    obtain ⟨T5, X5, e5, st5⟩ := getS2 X0 hx hZ hown (host := "") (Or.inl (hw _ (List.mem_of_getElem? (i := 11) rfl))) Via.refl e0 (S_PAID.ext O0.2) (g := (mkF m 4 #[.val (.int p1), .val (.int p2), .unset] [])) rfl (hb hby d_prog_26_6_4)
    refine own_go (T' := T5) (g' := (mkF m 7 #[.val (.int p1), .val (.int p2), .unset] [(.ref wp)])) (fun t_ k_ => st5 _ k_) ?_
    refine own_go (T' := T5) (g' := (mkF m 8 #[.val (.int p1), .val (.int p2), .val (.ref wp)] [])) (fun t_ k_ => XS.astoreN X5.here hx rfl (hb hby d_prog_26_6_7) rfl rfl (l' := #[.val (.int p1), .val (.int p2), .val (.ref wp)]) rfl k_) ?_
    refine own_go (T' := T5) (g' := (mkF m 26 #[.val (.int p1), .val (.int p2), .val (.ref wp)] [])) (fun t_ k_ => XS.goto X5.here hx rfl (pc0 := 8) (pc' := 26) rfl (hb hby d_prog_26_6_8) (by decide) (by decide) k_) ?_
    refine own_go (T' := T5) (g' := (mkF m 27 #[.val (.int p1), .val (.int p2), .val (.ref wp)] [(.ref wp)])) (fun t_ k_ => XS.aloadN X5.here hx rfl (hb hby d_prog_26_6_26) rfl rfl k_) ?_
    exact own_out X5 (v := some (.ref wp)) (fun h => by rw [Bd.returns] at h; cases h) hlk (fun fs hr => own_retA X5 hx Bd.returns rfl rfl (hb hby d_prog_26_6_27) hr) (Q := Q_rm_of Z p1 p2 wp wc wo r h0 n0) (by rw [e5]; exact ⟨(by rw [hr0, if_neg c1]), N0, rfl⟩) (by decide) (by decide)
theorem pd_0 : parseMethodDescriptor "(ZZ)Lcom/example/drawline/drawline/model/Application$Status;" = some ⟨[.boolean, .boolean], some (.object "com/example/drawline/drawline/model/Application$Status")⟩ := by decide +kernel
theorem pn_1 : plainName "com/example/drawline/drawline/model/StatusOfPinLaw" = true := by first | (simp [plainName, overriddenIn]; done) | decide +kernel
theorem ef_1 (m : MethodId) (v0 : Int32) : entryFrame m #[(.int v0)] maxLocals = mkF m 0 #[.val (.int v0), .unset, .unset, .unset, .unset, .unset, .unset, .unset, .unset, .unset] [] := by first | (simp [entryFrame, mkF, argsToLocals, Value.category, maxLocals]; done) | rfl
def Q_rm_law (Z : State) (v0 : Int32) (wp : Addr) (wc : Addr) (wo : Addr) (h0 : Heap) (n0 : Nat) (vv : Option Value) (h : Heap) (LL : List Loc) : Prop := vv = some (.int 1) ∧ Fr n0 LL
set_option maxRecDepth 65536 in
set_option maxHeartbeats 40000000 in
theorem rm_law (l : Launch) (Z : State) (a0 : Array Value) (hw : ∀ d ∈ tables_1, d.before a0 Z = true) (ws : List Jvm.Cond) (v0 : Int32) (wp : Addr) (wc : Addr) (wo : Addr) (h0 : Heap) (n0 : Nat) (Z0 : n0 ≤ h0.size) (O0 : Old Z n0 h0) (S_PAID : Sta Z Z.heap "com/example/drawline/drawline/model/Application$Status" "PAID" "Lcom/example/drawline/drawline/model/Application$Status;" (.ref wp)) (S_CERTIFIED : Sta Z Z.heap "com/example/drawline/drawline/model/Application$Status" "CERTIFIED" "Lcom/example/drawline/drawline/model/Application$Status;" (.ref wc)) (S_OPEN : Sta Z Z.heap "com/example/drawline/drawline/model/Application$Status" "OPEN" "Lcom/example/drawline/drawline/model/Application$Status;" (.ref wo)) (npc : ¬ wp = wc) (npo : ¬ wp = wo) (nco : ¬ wc = wo) :
    MetFree l x (head1 (Jvm.Cond.code x code maxLocals ret :: ws) room_1) (fun aa UU => aa = #[(.int v0)] ∧ Z.Warmed39 UU.vm ∧ UU.heap = h0) (fun _ _ _ _ _ => True) (fun _ UU oo UU' => ∃ vv LL, oo = .returned vv ∧ Q_rm_law Z v0 wp wc wo h0 n0 vv UU'.heap LL ∧ FrameEnd UU oo UU' LL room_1.cells room_1.slots) := by
  refine MetFree.of_bodySF (plainFor_of_name pn_1) hisR ?_
  intro p e s m args below meth c s₁ Bd hml0 hP hK
  obtain ⟨rfl, hZ, hh⟩ := hP
  have hx := Bd.exec
  have hby := Bd.bytes
  have hml : c.maxLocals = 10 := hml0
  have hown : s.vm.findClass "com/example/drawline/drawline/model/StatusOfPinLaw" = some m.cls := findClass_of_methodNamed Bd.named
  have hnm := (name_of_methodNamed Bd.named Bd.method).1
  have hlk : meth.locks = false := BodyLoose.notSynchronized Bd
  have X0 : Stand p l e room_1 s m #[(.int v0)] below meth c s₁ [] 0 0 := Stand.of_body Bd
  have e0 : s₁.heap = h0 := by rw [← hh, Bd.state]; rfl
  have N0 := Fr.nil n0
  refine own_in (ef_1 m v0) ?_
  refine own_go (T' := s₁) (g' := (mkF m 1 #[.val (.int v0), .unset, .unset, .unset, .unset, .unset, .unset, .unset, .unset, .unset] [(.int v0)])) (fun t_ k_ => XS.iloadN X0.here hx rfl (hb hby at_0) rfl k_) ?_
  refine own_go (T' := s₁) (g' := (mkF m 2 #[.val (.int v0), .unset, .unset, .unset, .unset, .unset, .unset, .unset, .unset, .unset] [(.int (1 : Int32)), (.int v0)])) (fun t_ k_ => XS.iconst X0.here hx rfl (hb hby at_1) k_) ?_
  refine own_go (T' := s₁) (g' := (mkF m 3 #[.val (.int v0), .unset, .unset, .unset, .unset, .unset, .unset, .unset, .unset, .unset] [(.int (v0 &&& (1 : Int32)))])) (fun t_ k_ => XS.iand X0.here hx rfl (hb hby at_2) rfl k_) ?_
  by_cases c1 : (v0 &&& (1 : Int32)) = (0 : Int32)
  · -- (v0 &&& (1 : Int32)) = (0 : Int32)
    refine own_go (T' := s₁) (g' := (mkF m 10 #[.val (.int v0), .unset, .unset, .unset, .unset, .unset, .unset, .unset, .unset, .unset] [])) (fun t_ k_ => XS.ifYes X0.here hx rfl (pc0 := 3) (pc' := 10) rfl (hb hby at_3) rfl ((if0 _ _).trans (teq c1).1) (by decide) (by decide) k_) ?_
    refine own_go (T' := s₁) (g' := (mkF m 11 #[.val (.int v0), .unset, .unset, .unset, .unset, .unset, .unset, .unset, .unset, .unset] [(.int (0 : Int32))])) (fun t_ k_ => XS.iconst X0.here hx rfl (hb hby at_10) k_) ?_
    refine own_go (T' := s₁) (g' := (mkF m 12 #[.val (.int v0), .val (.int (0 : Int32)), .unset, .unset, .unset, .unset, .unset, .unset, .unset, .unset] [])) (fun t_ k_ => XS.istoreN X0.here hx rfl (hb hby at_11) rfl (l' := #[.val (.int v0), .val (.int (0 : Int32)), .unset, .unset, .unset, .unset, .unset, .unset, .unset, .unset]) rfl k_) ?_
    refine own_go (T' := s₁) (g' := (mkF m 13 #[.val (.int v0), .val (.int (0 : Int32)), .unset, .unset, .unset, .unset, .unset, .unset, .unset, .unset] [(.int v0)])) (fun t_ k_ => XS.iloadN X0.here hx rfl (hb hby at_12) rfl k_) ?_
    refine own_go (T' := s₁) (g' := (mkF m 14 #[.val (.int v0), .val (.int (0 : Int32)), .unset, .unset, .unset, .unset, .unset, .unset, .unset, .unset] [(.int (2 : Int32)), (.int v0)])) (fun t_ k_ => XS.iconst X0.here hx rfl (hb hby at_13) k_) ?_
    refine own_go (T' := s₁) (g' := (mkF m 15 #[.val (.int v0), .val (.int (0 : Int32)), .unset, .unset, .unset, .unset, .unset, .unset, .unset, .unset] [(.int (v0 &&& (2 : Int32)))])) (fun t_ k_ => XS.iand X0.here hx rfl (hb hby at_14) rfl k_) ?_
    by_cases c2 : (v0 &&& (2 : Int32)) = (0 : Int32)
    · -- (v0 &&& (2 : Int32)) = (0 : Int32)
      refine own_go (T' := s₁) (g' := (mkF m 22 #[.val (.int v0), .val (.int (0 : Int32)), .unset, .unset, .unset, .unset, .unset, .unset, .unset, .unset] [])) (fun t_ k_ => XS.ifYes X0.here hx rfl (pc0 := 15) (pc' := 22) rfl (hb hby at_15) rfl ((if0 _ _).trans (teq c2).1) (by decide) (by decide) k_) ?_
      refine own_go (T' := s₁) (g' := (mkF m 23 #[.val (.int v0), .val (.int (0 : Int32)), .unset, .unset, .unset, .unset, .unset, .unset, .unset, .unset] [(.int (0 : Int32))])) (fun t_ k_ => XS.iconst X0.here hx rfl (hb hby at_22) k_) ?_
      refine own_go (T' := s₁) (g' := (mkF m 24 #[.val (.int v0), .val (.int (0 : Int32)), .val (.int (0 : Int32)), .unset, .unset, .unset, .unset, .unset, .unset, .unset] [])) (fun t_ k_ => XS.istoreN X0.here hx rfl (hb hby at_23) rfl (l' := #[.val (.int v0), .val (.int (0 : Int32)), .val (.int (0 : Int32)), .unset, .unset, .unset, .unset, .unset, .unset, .unset]) rfl k_) ?_
      refine own_go (T' := s₁) (g' := (mkF m 25 #[.val (.int v0), .val (.int (0 : Int32)), .val (.int (0 : Int32)), .unset, .unset, .unset, .unset, .unset, .unset, .unset] [(.int (0 : Int32))])) (fun t_ k_ => XS.iloadN X0.here hx rfl (hb hby at_24) rfl k_) ?_
      refine own_go (T' := s₁) (g' := (mkF m 26 #[.val (.int v0), .val (.int (0 : Int32)), .val (.int (0 : Int32)), .unset, .unset, .unset, .unset, .unset, .unset, .unset] [(.int (0 : Int32)), (.int (0 : Int32))])) (fun t_ k_ => XS.iloadN X0.here hx rfl (hb hby at_25) rfl k_) ?_
      obtain ⟨_, _, ⟨T3, L3, k3, n3⟩, -, X3, ⟨Lc3, hQ3, l3, y3, z3⟩, st3⟩ := Jvm.LawKit.callS X0 hx (y := (⟨"com/example/drawline/drawline/model/Application$Status", "of", "(ZZ)Lcom/example/drawline/drawline/model/Application$Status;"⟩ : MethodName)) hown (mvT hZ (hw _ (List.mem_of_getElem? (i := 0) rfl))) (mvT hZ (hw _ (List.mem_of_getElem? (i := 1) rfl))) (mvT hZ (hw _ (List.mem_of_getElem? (i := 2) rfl))) (mvT hZ (hw _ (List.mem_of_getElem? (i := 3) rfl))) (by decide) (backOf (W := 0) (rm_of l Z a0 hw [] (0 : Int32) (0 : Int32) wp wc wo wo h0 n0 (show n0 ≤ h0.size by omega) O0 S_PAID S_CERTIFIED S_OPEN (((if_pos (by decide)).trans (if_pos (by decide))).symm)) hZ (hw _ (List.mem_of_getElem? (i := 3) rfl)) (hw _ (List.mem_of_getElem? (i := 2) rfl)) (by decide) (by decide)) (g := (mkF m 26 #[.val (.int v0), .val (.int (0 : Int32)), .val (.int (0 : Int32)), .unset, .unset, .unset, .unset, .unset, .unset, .unset] [(.int (0 : Int32)), (.int (0 : Int32))])) rfl (by rw [hml]; rfl) (argsL := [(.int (0 : Int32)), (.int (0 : Int32))]) (rest := []) (lenOf pd_0 rfl) rfl (by show 2 * 0 + _ ≤ _; exact Nat.le_of_eq rfl) (hb hby at_26) (fun _ _ => ⟨rfl, e0, (by decide : 0 + 0 ≤ _), (by decide : 0 + 0 ≤ _)⟩)
      dsimp only [Pt.U, Pt.locs, Pt.cells, Pt.slots] at X3 l3 y3 z3 st3 hQ3
      subst l3 y3 z3
      obtain ⟨rfl, M3, e3⟩ := hQ3
      have N3 := Fr.app N0 M3
      refine own_go (T' := T3) (g' := (mkF m 29 #[.val (.int v0), .val (.int (0 : Int32)), .val (.int (0 : Int32)), .unset, .unset, .unset, .unset, .unset, .unset, .unset] [(.ref wo)])) (fun t_ k_ => st3 _ k_) ?_
      refine own_go (T' := T3) (g' := (mkF m 30 #[.val (.int v0), .val (.int (0 : Int32)), .val (.int (0 : Int32)), .val (.ref wo), .unset, .unset, .unset, .unset, .unset, .unset] [])) (fun t_ k_ => XS.astoreN X3.here hx rfl (hb hby at_29) rfl rfl (l' := #[.val (.int v0), .val (.int (0 : Int32)), .val (.int (0 : Int32)), .val (.ref wo), .unset, .unset, .unset, .unset, .unset, .unset]) rfl k_) ?_
      refine own_go (T' := T3) (g' := (mkF m 31 #[.val (.int v0), .val (.int (0 : Int32)), .val (.int (0 : Int32)), .val (.ref wo), .unset, .unset, .unset, .unset, .unset, .unset] [(.ref wo)])) (fun t_ k_ => XS.aloadN X3.here hx rfl (hb hby at_30) rfl rfl k_) ?_
      refine own_go (T' := T3) (g' := (mkF m 36 #[.val (.int v0), .val (.int (0 : Int32)), .val (.int (0 : Int32)), .val (.ref wo), .unset, .unset, .unset, .unset, .unset, .unset] [])) (fun t_ k_ => XS.ifnonnullYes X3.here hx rfl (pc0 := 31) (pc' := 36) rfl (hb hby at_31) rfl (by decide) (by decide) k_) ?_
      refine own_go (T' := T3) (g' := (mkF m 37 #[.val (.int v0), .val (.int (0 : Int32)), .val (.int (0 : Int32)), .val (.ref wo), .unset, .unset, .unset, .unset, .unset, .unset] [(.ref wo)])) (fun t_ k_ => XS.aloadN X3.here hx rfl (hb hby at_36) rfl rfl k_) ?_
      obtain ⟨T4, X4, e4, st4⟩ := getS2 X3 hx hZ hown (host := "") (Or.inl (hw _ (List.mem_of_getElem? (i := 6) rfl))) Via.refl e3 (S_PAID.ext O0.2) (g := (mkF m 37 #[.val (.int v0), .val (.int (0 : Int32)), .val (.int (0 : Int32)), .val (.ref wo), .unset, .unset, .unset, .unset, .unset, .unset] [(.ref wo)])) rfl (hb hby at_37)
      refine own_go (T' := T4) (g' := (mkF m 40 #[.val (.int v0), .val (.int (0 : Int32)), .val (.int (0 : Int32)), .val (.ref wo), .unset, .unset, .unset, .unset, .unset, .unset] [(.ref wp), (.ref wo)])) (fun t_ k_ => st4 _ k_) ?_
      refine own_go (T' := T4) (g' := (mkF m 47 #[.val (.int v0), .val (.int (0 : Int32)), .val (.int (0 : Int32)), .val (.ref wo), .unset, .unset, .unset, .unset, .unset, .unset] [])) (fun t_ k_ => Jvm.RoadKit.acmp (g := (mkF m 40 #[.val (.int v0), .val (.int (0 : Int32)), .val (.int (0 : Int32)), .val (.ref wo), .unset, .unset, .unset, .unset, .unset, .unset] [(.ref wp), (.ref wo)])) X4 hx rfl rfl rfl (pc0 := 40) (pc' := 47) (same := false) rfl (hb hby at_40) rfl (decide_eq_false fun z => npo (Value.ref.inj z).symm) (by decide) (by decide) k_) ?_
      refine own_go (T' := T4) (g' := (mkF m 48 #[.val (.int v0), .val (.int (0 : Int32)), .val (.int (0 : Int32)), .val (.ref wo), .unset, .unset, .unset, .unset, .unset, .unset] [(.int (0 : Int32))])) (fun t_ k_ => XS.iconst X4.here hx rfl (hb hby at_47) k_) ?_
      refine own_go (T' := T4) (g' := (mkF m 50 #[.val (.int v0), .val (.int (0 : Int32)), .val (.int (0 : Int32)), .val (.ref wo), .val (.int (0 : Int32)), .unset, .unset, .unset, .unset, .unset] [])) (fun t_ k_ => XS.istore X4.here hx rfl (hb hby at_48) rfl (l' := #[.val (.int v0), .val (.int (0 : Int32)), .val (.int (0 : Int32)), .val (.ref wo), .val (.int (0 : Int32)), .unset, .unset, .unset, .unset, .unset]) rfl k_) ?_
      refine own_go (T' := T4) (g' := (mkF m 51 #[.val (.int v0), .val (.int (0 : Int32)), .val (.int (0 : Int32)), .val (.ref wo), .val (.int (0 : Int32)), .unset, .unset, .unset, .unset, .unset] [(.ref wo)])) (fun t_ k_ => XS.aloadN X4.here hx rfl (hb hby at_50) rfl rfl k_) ?_
      obtain ⟨T5, X5, e5, st5⟩ := getS2 X4 hx hZ hown (host := "") (Or.inl (hw _ (List.mem_of_getElem? (i := 8) rfl))) Via.refl e4 (S_CERTIFIED.ext O0.2) (g := (mkF m 51 #[.val (.int v0), .val (.int (0 : Int32)), .val (.int (0 : Int32)), .val (.ref wo), .val (.int (0 : Int32)), .unset, .unset, .unset, .unset, .unset] [(.ref wo)])) rfl (hb hby at_51)
      refine own_go (T' := T5) (g' := (mkF m 54 #[.val (.int v0), .val (.int (0 : Int32)), .val (.int (0 : Int32)), .val (.ref wo), .val (.int (0 : Int32)), .unset, .unset, .unset, .unset, .unset] [(.ref wc), (.ref wo)])) (fun t_ k_ => st5 _ k_) ?_
      refine own_go (T' := T5) (g' := (mkF m 61 #[.val (.int v0), .val (.int (0 : Int32)), .val (.int (0 : Int32)), .val (.ref wo), .val (.int (0 : Int32)), .unset, .unset, .unset, .unset, .unset] [])) (fun t_ k_ => Jvm.RoadKit.acmp (g := (mkF m 54 #[.val (.int v0), .val (.int (0 : Int32)), .val (.int (0 : Int32)), .val (.ref wo), .val (.int (0 : Int32)), .unset, .unset, .unset, .unset, .unset] [(.ref wc), (.ref wo)])) X5 hx rfl rfl rfl (pc0 := 54) (pc' := 61) (same := false) rfl (hb hby at_54) rfl (decide_eq_false fun z => nco (Value.ref.inj z).symm) (by decide) (by decide) k_) ?_
      refine own_go (T' := T5) (g' := (mkF m 62 #[.val (.int v0), .val (.int (0 : Int32)), .val (.int (0 : Int32)), .val (.ref wo), .val (.int (0 : Int32)), .unset, .unset, .unset, .unset, .unset] [(.int (0 : Int32))])) (fun t_ k_ => XS.iconst X5.here hx rfl (hb hby at_61) k_) ?_
      refine own_go (T' := T5) (g' := (mkF m 64 #[.val (.int v0), .val (.int (0 : Int32)), .val (.int (0 : Int32)), .val (.ref wo), .val (.int (0 : Int32)), .val (.int (0 : Int32)), .unset, .unset, .unset, .unset] [])) (fun t_ k_ => XS.istore X5.here hx rfl (hb hby at_62) rfl (l' := #[.val (.int v0), .val (.int (0 : Int32)), .val (.int (0 : Int32)), .val (.ref wo), .val (.int (0 : Int32)), .val (.int (0 : Int32)), .unset, .unset, .unset, .unset]) rfl k_) ?_
      refine own_go (T' := T5) (g' := (mkF m 65 #[.val (.int v0), .val (.int (0 : Int32)), .val (.int (0 : Int32)), .val (.ref wo), .val (.int (0 : Int32)), .val (.int (0 : Int32)), .unset, .unset, .unset, .unset] [(.ref wo)])) (fun t_ k_ => XS.aloadN X5.here hx rfl (hb hby at_64) rfl rfl k_) ?_
      obtain ⟨T6, X6, e6, st6⟩ := getS2 X5 hx hZ hown (host := "") (Or.inl (hw _ (List.mem_of_getElem? (i := 10) rfl))) Via.refl e5 (S_OPEN.ext O0.2) (g := (mkF m 65 #[.val (.int v0), .val (.int (0 : Int32)), .val (.int (0 : Int32)), .val (.ref wo), .val (.int (0 : Int32)), .val (.int (0 : Int32)), .unset, .unset, .unset, .unset] [(.ref wo)])) rfl (hb hby at_65)
      refine own_go (T' := T6) (g' := (mkF m 68 #[.val (.int v0), .val (.int (0 : Int32)), .val (.int (0 : Int32)), .val (.ref wo), .val (.int (0 : Int32)), .val (.int (0 : Int32)), .unset, .unset, .unset, .unset] [(.ref wo), (.ref wo)])) (fun t_ k_ => st6 _ k_) ?_
      refine own_go (T' := T6) (g' := (mkF m 71 #[.val (.int v0), .val (.int (0 : Int32)), .val (.int (0 : Int32)), .val (.ref wo), .val (.int (0 : Int32)), .val (.int (0 : Int32)), .unset, .unset, .unset, .unset] [])) (fun t_ k_ => Jvm.RoadKit.acmp (g := (mkF m 68 #[.val (.int v0), .val (.int (0 : Int32)), .val (.int (0 : Int32)), .val (.ref wo), .val (.int (0 : Int32)), .val (.int (0 : Int32)), .unset, .unset, .unset, .unset] [(.ref wo), (.ref wo)])) X6 hx rfl rfl rfl (pc0 := 68) (pc' := 71) (same := true) rfl (hb hby at_68) rfl (decide_eq_true rfl) (by decide) (by decide) k_) ?_
      refine own_go (T' := T6) (g' := (mkF m 72 #[.val (.int v0), .val (.int (0 : Int32)), .val (.int (0 : Int32)), .val (.ref wo), .val (.int (0 : Int32)), .val (.int (0 : Int32)), .unset, .unset, .unset, .unset] [(.int (1 : Int32))])) (fun t_ k_ => XS.iconst X6.here hx rfl (hb hby at_71) k_) ?_
      refine own_go (T' := T6) (g' := (mkF m 76 #[.val (.int v0), .val (.int (0 : Int32)), .val (.int (0 : Int32)), .val (.ref wo), .val (.int (0 : Int32)), .val (.int (0 : Int32)), .unset, .unset, .unset, .unset] [(.int (1 : Int32))])) (fun t_ k_ => XS.goto X6.here hx rfl (pc0 := 72) (pc' := 76) rfl (hb hby at_72) (by decide) (by decide) k_) ?_
      refine own_go (T' := T6) (g' := (mkF m 78 #[.val (.int v0), .val (.int (0 : Int32)), .val (.int (0 : Int32)), .val (.ref wo), .val (.int (0 : Int32)), .val (.int (0 : Int32)), .val (.int (1 : Int32)), .unset, .unset, .unset] [])) (fun t_ k_ => XS.istore X6.here hx rfl (hb hby at_76) rfl (l' := #[.val (.int v0), .val (.int (0 : Int32)), .val (.int (0 : Int32)), .val (.ref wo), .val (.int (0 : Int32)), .val (.int (0 : Int32)), .val (.int (1 : Int32)), .unset, .unset, .unset]) rfl k_) ?_
      refine own_go (T' := T6) (g' := (mkF m 79 #[.val (.int v0), .val (.int (0 : Int32)), .val (.int (0 : Int32)), .val (.ref wo), .val (.int (0 : Int32)), .val (.int (0 : Int32)), .val (.int (1 : Int32)), .unset, .unset, .unset] [(.int (0 : Int32))])) (fun t_ k_ => XS.iloadN X6.here hx rfl (hb hby at_78) rfl k_) ?_
      refine own_go (T' := T6) (g' := (mkF m 81 #[.val (.int v0), .val (.int (0 : Int32)), .val (.int (0 : Int32)), .val (.ref wo), .val (.int (0 : Int32)), .val (.int (0 : Int32)), .val (.int (1 : Int32)), .val (.int (0 : Int32)), .unset, .unset] [])) (fun t_ k_ => XS.istore X6.here hx rfl (hb hby at_79) rfl (l' := #[.val (.int v0), .val (.int (0 : Int32)), .val (.int (0 : Int32)), .val (.ref wo), .val (.int (0 : Int32)), .val (.int (0 : Int32)), .val (.int (1 : Int32)), .val (.int (0 : Int32)), .unset, .unset]) rfl k_) ?_
      refine own_go (T' := T6) (g' := (mkF m 82 #[.val (.int v0), .val (.int (0 : Int32)), .val (.int (0 : Int32)), .val (.ref wo), .val (.int (0 : Int32)), .val (.int (0 : Int32)), .val (.int (1 : Int32)), .val (.int (0 : Int32)), .unset, .unset] [(.int (0 : Int32))])) (fun t_ k_ => XS.iloadN X6.here hx rfl (hb hby at_81) rfl k_) ?_
      refine own_go (T' := T6) (g' := (mkF m 85 #[.val (.int v0), .val (.int (0 : Int32)), .val (.int (0 : Int32)), .val (.ref wo), .val (.int (0 : Int32)), .val (.int (0 : Int32)), .val (.int (1 : Int32)), .val (.int (0 : Int32)), .unset, .unset] [])) (fun t_ k_ => XS.ifNo X6.here hx rfl (hb hby at_82) rfl ((if0 _ _).trans (teq (by decide)).2) k_) ?_
      refine own_go (T' := T6) (g' := (mkF m 86 #[.val (.int v0), .val (.int (0 : Int32)), .val (.int (0 : Int32)), .val (.ref wo), .val (.int (0 : Int32)), .val (.int (0 : Int32)), .val (.int (1 : Int32)), .val (.int (0 : Int32)), .unset, .unset] [(.int (0 : Int32))])) (fun t_ k_ => XS.iloadN X6.here hx rfl (hb hby at_85) rfl k_) ?_
      refine own_go (T' := T6) (g' := (mkF m 93 #[.val (.int v0), .val (.int (0 : Int32)), .val (.int (0 : Int32)), .val (.ref wo), .val (.int (0 : Int32)), .val (.int (0 : Int32)), .val (.int (1 : Int32)), .val (.int (0 : Int32)), .unset, .unset] [])) (fun t_ k_ => XS.ifYes X6.here hx rfl (pc0 := 86) (pc' := 93) rfl (hb hby at_86) rfl ((if0 _ _).trans (teq (by decide)).1) (by decide) (by decide) k_) ?_
      refine own_go (T' := T6) (g' := (mkF m 94 #[.val (.int v0), .val (.int (0 : Int32)), .val (.int (0 : Int32)), .val (.ref wo), .val (.int (0 : Int32)), .val (.int (0 : Int32)), .val (.int (1 : Int32)), .val (.int (0 : Int32)), .unset, .unset] [(.int (0 : Int32))])) (fun t_ k_ => XS.iconst X6.here hx rfl (hb hby at_93) k_) ?_
      refine own_go (T' := T6) (g' := (mkF m 96 #[.val (.int v0), .val (.int (0 : Int32)), .val (.int (0 : Int32)), .val (.ref wo), .val (.int (0 : Int32)), .val (.int (0 : Int32)), .val (.int (1 : Int32)), .val (.int (0 : Int32)), .val (.int (0 : Int32)), .unset] [])) (fun t_ k_ => XS.istore X6.here hx rfl (hb hby at_94) rfl (l' := #[.val (.int v0), .val (.int (0 : Int32)), .val (.int (0 : Int32)), .val (.ref wo), .val (.int (0 : Int32)), .val (.int (0 : Int32)), .val (.int (1 : Int32)), .val (.int (0 : Int32)), .val (.int (0 : Int32)), .unset]) rfl k_) ?_
      refine own_go (T' := T6) (g' := (mkF m 97 #[.val (.int v0), .val (.int (0 : Int32)), .val (.int (0 : Int32)), .val (.ref wo), .val (.int (0 : Int32)), .val (.int (0 : Int32)), .val (.int (1 : Int32)), .val (.int (0 : Int32)), .val (.int (0 : Int32)), .unset] [(.int (0 : Int32))])) (fun t_ k_ => XS.iloadN X6.here hx rfl (hb hby at_96) rfl k_) ?_
      refine own_go (T' := T6) (g' := (mkF m 100 #[.val (.int v0), .val (.int (0 : Int32)), .val (.int (0 : Int32)), .val (.ref wo), .val (.int (0 : Int32)), .val (.int (0 : Int32)), .val (.int (1 : Int32)), .val (.int (0 : Int32)), .val (.int (0 : Int32)), .unset] [])) (fun t_ k_ => XS.ifNo X6.here hx rfl (hb hby at_97) rfl ((if0 _ _).trans (teq (by decide)).2) k_) ?_
      refine own_go (T' := T6) (g' := (mkF m 101 #[.val (.int v0), .val (.int (0 : Int32)), .val (.int (0 : Int32)), .val (.ref wo), .val (.int (0 : Int32)), .val (.int (0 : Int32)), .val (.int (1 : Int32)), .val (.int (0 : Int32)), .val (.int (0 : Int32)), .unset] [(.int (0 : Int32))])) (fun t_ k_ => XS.iloadN X6.here hx rfl (hb hby at_100) rfl k_) ?_
      refine own_go (T' := T6) (g' := (mkF m 104 #[.val (.int v0), .val (.int (0 : Int32)), .val (.int (0 : Int32)), .val (.ref wo), .val (.int (0 : Int32)), .val (.int (0 : Int32)), .val (.int (1 : Int32)), .val (.int (0 : Int32)), .val (.int (0 : Int32)), .unset] [])) (fun t_ k_ => XS.ifNo X6.here hx rfl (hb hby at_101) rfl ((if0 _ _).trans (teq (by decide)).2) k_) ?_
      refine own_go (T' := T6) (g' := (mkF m 105 #[.val (.int v0), .val (.int (0 : Int32)), .val (.int (0 : Int32)), .val (.ref wo), .val (.int (0 : Int32)), .val (.int (0 : Int32)), .val (.int (1 : Int32)), .val (.int (0 : Int32)), .val (.int (0 : Int32)), .unset] [(.int (1 : Int32))])) (fun t_ k_ => XS.iconst X6.here hx rfl (hb hby at_104) k_) ?_
      refine own_go (T' := T6) (g' := (mkF m 109 #[.val (.int v0), .val (.int (0 : Int32)), .val (.int (0 : Int32)), .val (.ref wo), .val (.int (0 : Int32)), .val (.int (0 : Int32)), .val (.int (1 : Int32)), .val (.int (0 : Int32)), .val (.int (0 : Int32)), .unset] [(.int (1 : Int32))])) (fun t_ k_ => XS.goto X6.here hx rfl (pc0 := 105) (pc' := 109) rfl (hb hby at_105) (by decide) (by decide) k_) ?_
      refine own_go (T' := T6) (g' := (mkF m 111 #[.val (.int v0), .val (.int (0 : Int32)), .val (.int (0 : Int32)), .val (.ref wo), .val (.int (0 : Int32)), .val (.int (0 : Int32)), .val (.int (1 : Int32)), .val (.int (0 : Int32)), .val (.int (0 : Int32)), .val (.int (1 : Int32))] [])) (fun t_ k_ => XS.istore X6.here hx rfl (hb hby at_109) rfl (l' := #[.val (.int v0), .val (.int (0 : Int32)), .val (.int (0 : Int32)), .val (.ref wo), .val (.int (0 : Int32)), .val (.int (0 : Int32)), .val (.int (1 : Int32)), .val (.int (0 : Int32)), .val (.int (0 : Int32)), .val (.int (1 : Int32))]) rfl k_) ?_
      refine own_go (T' := T6) (g' := (mkF m 113 #[.val (.int v0), .val (.int (0 : Int32)), .val (.int (0 : Int32)), .val (.ref wo), .val (.int (0 : Int32)), .val (.int (0 : Int32)), .val (.int (1 : Int32)), .val (.int (0 : Int32)), .val (.int (0 : Int32)), .val (.int (1 : Int32))] [(.int (0 : Int32))])) (fun t_ k_ => XS.iload X6.here hx rfl (hb hby at_111) rfl k_) ?_
      refine own_go (T' := T6) (g' := (mkF m 115 #[.val (.int v0), .val (.int (0 : Int32)), .val (.int (0 : Int32)), .val (.ref wo), .val (.int (0 : Int32)), .val (.int (0 : Int32)), .val (.int (1 : Int32)), .val (.int (0 : Int32)), .val (.int (0 : Int32)), .val (.int (1 : Int32))] [(.int (0 : Int32)), (.int (0 : Int32))])) (fun t_ k_ => XS.iload X6.here hx rfl (hb hby at_113) rfl k_) ?_
      refine own_go (T' := T6) (g' := (mkF m 118 #[.val (.int v0), .val (.int (0 : Int32)), .val (.int (0 : Int32)), .val (.ref wo), .val (.int (0 : Int32)), .val (.int (0 : Int32)), .val (.int (1 : Int32)), .val (.int (0 : Int32)), .val (.int (0 : Int32)), .val (.int (1 : Int32))] [])) (fun t_ k_ => XS.icmpNo X6.here hx rfl (hb hby at_115) rfl (teq (by decide)).2 k_) ?_
      refine own_go (T' := T6) (g' := (mkF m 120 #[.val (.int v0), .val (.int (0 : Int32)), .val (.int (0 : Int32)), .val (.ref wo), .val (.int (0 : Int32)), .val (.int (0 : Int32)), .val (.int (1 : Int32)), .val (.int (0 : Int32)), .val (.int (0 : Int32)), .val (.int (1 : Int32))] [(.int (0 : Int32))])) (fun t_ k_ => XS.iload X6.here hx rfl (hb hby at_118) rfl k_) ?_
      refine own_go (T' := T6) (g' := (mkF m 122 #[.val (.int v0), .val (.int (0 : Int32)), .val (.int (0 : Int32)), .val (.ref wo), .val (.int (0 : Int32)), .val (.int (0 : Int32)), .val (.int (1 : Int32)), .val (.int (0 : Int32)), .val (.int (0 : Int32)), .val (.int (1 : Int32))] [(.int (0 : Int32)), (.int (0 : Int32))])) (fun t_ k_ => XS.iload X6.here hx rfl (hb hby at_120) rfl k_) ?_
      refine own_go (T' := T6) (g' := (mkF m 125 #[.val (.int v0), .val (.int (0 : Int32)), .val (.int (0 : Int32)), .val (.ref wo), .val (.int (0 : Int32)), .val (.int (0 : Int32)), .val (.int (1 : Int32)), .val (.int (0 : Int32)), .val (.int (0 : Int32)), .val (.int (1 : Int32))] [])) (fun t_ k_ => XS.icmpNo X6.here hx rfl (hb hby at_122) rfl (teq (by decide)).2 k_) ?_
      refine own_go (T' := T6) (g' := (mkF m 127 #[.val (.int v0), .val (.int (0 : Int32)), .val (.int (0 : Int32)), .val (.ref wo), .val (.int (0 : Int32)), .val (.int (0 : Int32)), .val (.int (1 : Int32)), .val (.int (0 : Int32)), .val (.int (0 : Int32)), .val (.int (1 : Int32))] [(.int (1 : Int32))])) (fun t_ k_ => XS.iload X6.here hx rfl (hb hby at_125) rfl k_) ?_
      refine own_go (T' := T6) (g' := (mkF m 129 #[.val (.int v0), .val (.int (0 : Int32)), .val (.int (0 : Int32)), .val (.ref wo), .val (.int (0 : Int32)), .val (.int (0 : Int32)), .val (.int (1 : Int32)), .val (.int (0 : Int32)), .val (.int (0 : Int32)), .val (.int (1 : Int32))] [(.int (1 : Int32)), (.int (1 : Int32))])) (fun t_ k_ => XS.iload X6.here hx rfl (hb hby at_127) rfl k_) ?_
      refine own_go (T' := T6) (g' := (mkF m 132 #[.val (.int v0), .val (.int (0 : Int32)), .val (.int (0 : Int32)), .val (.ref wo), .val (.int (0 : Int32)), .val (.int (0 : Int32)), .val (.int (1 : Int32)), .val (.int (0 : Int32)), .val (.int (0 : Int32)), .val (.int (1 : Int32))] [])) (fun t_ k_ => XS.icmpNo X6.here hx rfl (hb hby at_129) rfl (teq (by decide)).2 k_) ?_
      refine own_go (T' := T6) (g' := (mkF m 133 #[.val (.int v0), .val (.int (0 : Int32)), .val (.int (0 : Int32)), .val (.ref wo), .val (.int (0 : Int32)), .val (.int (0 : Int32)), .val (.int (1 : Int32)), .val (.int (0 : Int32)), .val (.int (0 : Int32)), .val (.int (1 : Int32))] [(.int (1 : Int32))])) (fun t_ k_ => XS.iconst X6.here hx rfl (hb hby at_132) k_) ?_
      refine own_go (T' := T6) (g' := (mkF m 137 #[.val (.int v0), .val (.int (0 : Int32)), .val (.int (0 : Int32)), .val (.ref wo), .val (.int (0 : Int32)), .val (.int (0 : Int32)), .val (.int (1 : Int32)), .val (.int (0 : Int32)), .val (.int (0 : Int32)), .val (.int (1 : Int32))] [(.int (1 : Int32))])) (fun t_ k_ => XS.goto X6.here hx rfl (pc0 := 133) (pc' := 137) rfl (hb hby at_133) (by decide) (by decide) k_) ?_
      exact own_out X6 (v := some (.int (nar .boolean (1 : Int32)))) (fun h => by rw [Bd.returns] at h; cases h) hlk (fun fs hr => retN X6 hx (t := .boolean) Bd.returns (by simp) (hb hby at_137) hr) (Q := Q_rm_law Z v0 wp wc wo h0 n0) (by rw [e6]; exact ⟨rfl, N3⟩) (by decide) (by decide)
    · -- not (v0 &&& (2 : Int32)) = (0 : Int32)
      refine own_go (T' := s₁) (g' := (mkF m 18 #[.val (.int v0), .val (.int (0 : Int32)), .unset, .unset, .unset, .unset, .unset, .unset, .unset, .unset] [])) (fun t_ k_ => XS.ifNo X0.here hx rfl (hb hby at_15) rfl ((if0 _ _).trans (feq c2).1) k_) ?_
      refine own_go (T' := s₁) (g' := (mkF m 19 #[.val (.int v0), .val (.int (0 : Int32)), .unset, .unset, .unset, .unset, .unset, .unset, .unset, .unset] [(.int (1 : Int32))])) (fun t_ k_ => XS.iconst X0.here hx rfl (hb hby at_18) k_) ?_
      refine own_go (T' := s₁) (g' := (mkF m 23 #[.val (.int v0), .val (.int (0 : Int32)), .unset, .unset, .unset, .unset, .unset, .unset, .unset, .unset] [(.int (1 : Int32))])) (fun t_ k_ => XS.goto X0.here hx rfl (pc0 := 19) (pc' := 23) rfl (hb hby at_19) (by decide) (by decide) k_) ?_
      refine own_go (T' := s₁) (g' := (mkF m 24 #[.val (.int v0), .val (.int (0 : Int32)), .val (.int (1 : Int32)), .unset, .unset, .unset, .unset, .unset, .unset, .unset] [])) (fun t_ k_ => XS.istoreN X0.here hx rfl (hb hby at_23) rfl (l' := #[.val (.int v0), .val (.int (0 : Int32)), .val (.int (1 : Int32)), .unset, .unset, .unset, .unset, .unset, .unset, .unset]) rfl k_) ?_
      refine own_go (T' := s₁) (g' := (mkF m 25 #[.val (.int v0), .val (.int (0 : Int32)), .val (.int (1 : Int32)), .unset, .unset, .unset, .unset, .unset, .unset, .unset] [(.int (0 : Int32))])) (fun t_ k_ => XS.iloadN X0.here hx rfl (hb hby at_24) rfl k_) ?_
      refine own_go (T' := s₁) (g' := (mkF m 26 #[.val (.int v0), .val (.int (0 : Int32)), .val (.int (1 : Int32)), .unset, .unset, .unset, .unset, .unset, .unset, .unset] [(.int (1 : Int32)), (.int (0 : Int32))])) (fun t_ k_ => XS.iloadN X0.here hx rfl (hb hby at_25) rfl k_) ?_
      obtain ⟨_, _, ⟨T7, L7, k7, n7⟩, -, X7, ⟨Lc7, hQ7, l7, y7, z7⟩, st7⟩ := Jvm.LawKit.callS X0 hx (y := (⟨"com/example/drawline/drawline/model/Application$Status", "of", "(ZZ)Lcom/example/drawline/drawline/model/Application$Status;"⟩ : MethodName)) hown (mvT hZ (hw _ (List.mem_of_getElem? (i := 0) rfl))) (mvT hZ (hw _ (List.mem_of_getElem? (i := 1) rfl))) (mvT hZ (hw _ (List.mem_of_getElem? (i := 2) rfl))) (mvT hZ (hw _ (List.mem_of_getElem? (i := 3) rfl))) (by decide) (backOf (W := 0) (rm_of l Z a0 hw [] (0 : Int32) (1 : Int32) wp wc wo wc h0 n0 (show n0 ≤ h0.size by omega) O0 S_PAID S_CERTIFIED S_OPEN (((if_pos (by decide)).trans (if_neg (by decide))).symm)) hZ (hw _ (List.mem_of_getElem? (i := 3) rfl)) (hw _ (List.mem_of_getElem? (i := 2) rfl)) (by decide) (by decide)) (g := (mkF m 26 #[.val (.int v0), .val (.int (0 : Int32)), .val (.int (1 : Int32)), .unset, .unset, .unset, .unset, .unset, .unset, .unset] [(.int (1 : Int32)), (.int (0 : Int32))])) rfl (by rw [hml]; rfl) (argsL := [(.int (0 : Int32)), (.int (1 : Int32))]) (rest := []) (lenOf pd_0 rfl) rfl (by show 2 * 0 + _ ≤ _; exact Nat.le_of_eq rfl) (hb hby at_26) (fun _ _ => ⟨rfl, e0, (by decide : 0 + 0 ≤ _), (by decide : 0 + 0 ≤ _)⟩)
      dsimp only [Pt.U, Pt.locs, Pt.cells, Pt.slots] at X7 l7 y7 z7 st7 hQ7
      subst l7 y7 z7
      obtain ⟨rfl, M7, e7⟩ := hQ7
      have N7 := Fr.app N0 M7
      refine own_go (T' := T7) (g' := (mkF m 29 #[.val (.int v0), .val (.int (0 : Int32)), .val (.int (1 : Int32)), .unset, .unset, .unset, .unset, .unset, .unset, .unset] [(.ref wc)])) (fun t_ k_ => st7 _ k_) ?_
      refine own_go (T' := T7) (g' := (mkF m 30 #[.val (.int v0), .val (.int (0 : Int32)), .val (.int (1 : Int32)), .val (.ref wc), .unset, .unset, .unset, .unset, .unset, .unset] [])) (fun t_ k_ => XS.astoreN X7.here hx rfl (hb hby at_29) rfl rfl (l' := #[.val (.int v0), .val (.int (0 : Int32)), .val (.int (1 : Int32)), .val (.ref wc), .unset, .unset, .unset, .unset, .unset, .unset]) rfl k_) ?_
      refine own_go (T' := T7) (g' := (mkF m 31 #[.val (.int v0), .val (.int (0 : Int32)), .val (.int (1 : Int32)), .val (.ref wc), .unset, .unset, .unset, .unset, .unset, .unset] [(.ref wc)])) (fun t_ k_ => XS.aloadN X7.here hx rfl (hb hby at_30) rfl rfl k_) ?_
      refine own_go (T' := T7) (g' := (mkF m 36 #[.val (.int v0), .val (.int (0 : Int32)), .val (.int (1 : Int32)), .val (.ref wc), .unset, .unset, .unset, .unset, .unset, .unset] [])) (fun t_ k_ => XS.ifnonnullYes X7.here hx rfl (pc0 := 31) (pc' := 36) rfl (hb hby at_31) rfl (by decide) (by decide) k_) ?_
      refine own_go (T' := T7) (g' := (mkF m 37 #[.val (.int v0), .val (.int (0 : Int32)), .val (.int (1 : Int32)), .val (.ref wc), .unset, .unset, .unset, .unset, .unset, .unset] [(.ref wc)])) (fun t_ k_ => XS.aloadN X7.here hx rfl (hb hby at_36) rfl rfl k_) ?_
      obtain ⟨T8, X8, e8, st8⟩ := getS2 X7 hx hZ hown (host := "") (Or.inl (hw _ (List.mem_of_getElem? (i := 6) rfl))) Via.refl e7 (S_PAID.ext O0.2) (g := (mkF m 37 #[.val (.int v0), .val (.int (0 : Int32)), .val (.int (1 : Int32)), .val (.ref wc), .unset, .unset, .unset, .unset, .unset, .unset] [(.ref wc)])) rfl (hb hby at_37)
      refine own_go (T' := T8) (g' := (mkF m 40 #[.val (.int v0), .val (.int (0 : Int32)), .val (.int (1 : Int32)), .val (.ref wc), .unset, .unset, .unset, .unset, .unset, .unset] [(.ref wp), (.ref wc)])) (fun t_ k_ => st8 _ k_) ?_
      refine own_go (T' := T8) (g' := (mkF m 47 #[.val (.int v0), .val (.int (0 : Int32)), .val (.int (1 : Int32)), .val (.ref wc), .unset, .unset, .unset, .unset, .unset, .unset] [])) (fun t_ k_ => Jvm.RoadKit.acmp (g := (mkF m 40 #[.val (.int v0), .val (.int (0 : Int32)), .val (.int (1 : Int32)), .val (.ref wc), .unset, .unset, .unset, .unset, .unset, .unset] [(.ref wp), (.ref wc)])) X8 hx rfl rfl rfl (pc0 := 40) (pc' := 47) (same := false) rfl (hb hby at_40) rfl (decide_eq_false fun z => npc (Value.ref.inj z).symm) (by decide) (by decide) k_) ?_
      refine own_go (T' := T8) (g' := (mkF m 48 #[.val (.int v0), .val (.int (0 : Int32)), .val (.int (1 : Int32)), .val (.ref wc), .unset, .unset, .unset, .unset, .unset, .unset] [(.int (0 : Int32))])) (fun t_ k_ => XS.iconst X8.here hx rfl (hb hby at_47) k_) ?_
      refine own_go (T' := T8) (g' := (mkF m 50 #[.val (.int v0), .val (.int (0 : Int32)), .val (.int (1 : Int32)), .val (.ref wc), .val (.int (0 : Int32)), .unset, .unset, .unset, .unset, .unset] [])) (fun t_ k_ => XS.istore X8.here hx rfl (hb hby at_48) rfl (l' := #[.val (.int v0), .val (.int (0 : Int32)), .val (.int (1 : Int32)), .val (.ref wc), .val (.int (0 : Int32)), .unset, .unset, .unset, .unset, .unset]) rfl k_) ?_
      refine own_go (T' := T8) (g' := (mkF m 51 #[.val (.int v0), .val (.int (0 : Int32)), .val (.int (1 : Int32)), .val (.ref wc), .val (.int (0 : Int32)), .unset, .unset, .unset, .unset, .unset] [(.ref wc)])) (fun t_ k_ => XS.aloadN X8.here hx rfl (hb hby at_50) rfl rfl k_) ?_
      obtain ⟨T9, X9, e9, st9⟩ := getS2 X8 hx hZ hown (host := "") (Or.inl (hw _ (List.mem_of_getElem? (i := 8) rfl))) Via.refl e8 (S_CERTIFIED.ext O0.2) (g := (mkF m 51 #[.val (.int v0), .val (.int (0 : Int32)), .val (.int (1 : Int32)), .val (.ref wc), .val (.int (0 : Int32)), .unset, .unset, .unset, .unset, .unset] [(.ref wc)])) rfl (hb hby at_51)
      refine own_go (T' := T9) (g' := (mkF m 54 #[.val (.int v0), .val (.int (0 : Int32)), .val (.int (1 : Int32)), .val (.ref wc), .val (.int (0 : Int32)), .unset, .unset, .unset, .unset, .unset] [(.ref wc), (.ref wc)])) (fun t_ k_ => st9 _ k_) ?_
      refine own_go (T' := T9) (g' := (mkF m 57 #[.val (.int v0), .val (.int (0 : Int32)), .val (.int (1 : Int32)), .val (.ref wc), .val (.int (0 : Int32)), .unset, .unset, .unset, .unset, .unset] [])) (fun t_ k_ => Jvm.RoadKit.acmp (g := (mkF m 54 #[.val (.int v0), .val (.int (0 : Int32)), .val (.int (1 : Int32)), .val (.ref wc), .val (.int (0 : Int32)), .unset, .unset, .unset, .unset, .unset] [(.ref wc), (.ref wc)])) X9 hx rfl rfl rfl (pc0 := 54) (pc' := 57) (same := true) rfl (hb hby at_54) rfl (decide_eq_true rfl) (by decide) (by decide) k_) ?_
      refine own_go (T' := T9) (g' := (mkF m 58 #[.val (.int v0), .val (.int (0 : Int32)), .val (.int (1 : Int32)), .val (.ref wc), .val (.int (0 : Int32)), .unset, .unset, .unset, .unset, .unset] [(.int (1 : Int32))])) (fun t_ k_ => XS.iconst X9.here hx rfl (hb hby at_57) k_) ?_
      refine own_go (T' := T9) (g' := (mkF m 62 #[.val (.int v0), .val (.int (0 : Int32)), .val (.int (1 : Int32)), .val (.ref wc), .val (.int (0 : Int32)), .unset, .unset, .unset, .unset, .unset] [(.int (1 : Int32))])) (fun t_ k_ => XS.goto X9.here hx rfl (pc0 := 58) (pc' := 62) rfl (hb hby at_58) (by decide) (by decide) k_) ?_
      refine own_go (T' := T9) (g' := (mkF m 64 #[.val (.int v0), .val (.int (0 : Int32)), .val (.int (1 : Int32)), .val (.ref wc), .val (.int (0 : Int32)), .val (.int (1 : Int32)), .unset, .unset, .unset, .unset] [])) (fun t_ k_ => XS.istore X9.here hx rfl (hb hby at_62) rfl (l' := #[.val (.int v0), .val (.int (0 : Int32)), .val (.int (1 : Int32)), .val (.ref wc), .val (.int (0 : Int32)), .val (.int (1 : Int32)), .unset, .unset, .unset, .unset]) rfl k_) ?_
      refine own_go (T' := T9) (g' := (mkF m 65 #[.val (.int v0), .val (.int (0 : Int32)), .val (.int (1 : Int32)), .val (.ref wc), .val (.int (0 : Int32)), .val (.int (1 : Int32)), .unset, .unset, .unset, .unset] [(.ref wc)])) (fun t_ k_ => XS.aloadN X9.here hx rfl (hb hby at_64) rfl rfl k_) ?_
      obtain ⟨T10, X10, e10, st10⟩ := getS2 X9 hx hZ hown (host := "") (Or.inl (hw _ (List.mem_of_getElem? (i := 10) rfl))) Via.refl e9 (S_OPEN.ext O0.2) (g := (mkF m 65 #[.val (.int v0), .val (.int (0 : Int32)), .val (.int (1 : Int32)), .val (.ref wc), .val (.int (0 : Int32)), .val (.int (1 : Int32)), .unset, .unset, .unset, .unset] [(.ref wc)])) rfl (hb hby at_65)
      refine own_go (T' := T10) (g' := (mkF m 68 #[.val (.int v0), .val (.int (0 : Int32)), .val (.int (1 : Int32)), .val (.ref wc), .val (.int (0 : Int32)), .val (.int (1 : Int32)), .unset, .unset, .unset, .unset] [(.ref wo), (.ref wc)])) (fun t_ k_ => st10 _ k_) ?_
      refine own_go (T' := T10) (g' := (mkF m 75 #[.val (.int v0), .val (.int (0 : Int32)), .val (.int (1 : Int32)), .val (.ref wc), .val (.int (0 : Int32)), .val (.int (1 : Int32)), .unset, .unset, .unset, .unset] [])) (fun t_ k_ => Jvm.RoadKit.acmp (g := (mkF m 68 #[.val (.int v0), .val (.int (0 : Int32)), .val (.int (1 : Int32)), .val (.ref wc), .val (.int (0 : Int32)), .val (.int (1 : Int32)), .unset, .unset, .unset, .unset] [(.ref wo), (.ref wc)])) X10 hx rfl rfl rfl (pc0 := 68) (pc' := 75) (same := false) rfl (hb hby at_68) rfl (decide_eq_false fun z => nco (Value.ref.inj z)) (by decide) (by decide) k_) ?_
      refine own_go (T' := T10) (g' := (mkF m 76 #[.val (.int v0), .val (.int (0 : Int32)), .val (.int (1 : Int32)), .val (.ref wc), .val (.int (0 : Int32)), .val (.int (1 : Int32)), .unset, .unset, .unset, .unset] [(.int (0 : Int32))])) (fun t_ k_ => XS.iconst X10.here hx rfl (hb hby at_75) k_) ?_
      refine own_go (T' := T10) (g' := (mkF m 78 #[.val (.int v0), .val (.int (0 : Int32)), .val (.int (1 : Int32)), .val (.ref wc), .val (.int (0 : Int32)), .val (.int (1 : Int32)), .val (.int (0 : Int32)), .unset, .unset, .unset] [])) (fun t_ k_ => XS.istore X10.here hx rfl (hb hby at_76) rfl (l' := #[.val (.int v0), .val (.int (0 : Int32)), .val (.int (1 : Int32)), .val (.ref wc), .val (.int (0 : Int32)), .val (.int (1 : Int32)), .val (.int (0 : Int32)), .unset, .unset, .unset]) rfl k_) ?_
      refine own_go (T' := T10) (g' := (mkF m 79 #[.val (.int v0), .val (.int (0 : Int32)), .val (.int (1 : Int32)), .val (.ref wc), .val (.int (0 : Int32)), .val (.int (1 : Int32)), .val (.int (0 : Int32)), .unset, .unset, .unset] [(.int (0 : Int32))])) (fun t_ k_ => XS.iloadN X10.here hx rfl (hb hby at_78) rfl k_) ?_
      refine own_go (T' := T10) (g' := (mkF m 81 #[.val (.int v0), .val (.int (0 : Int32)), .val (.int (1 : Int32)), .val (.ref wc), .val (.int (0 : Int32)), .val (.int (1 : Int32)), .val (.int (0 : Int32)), .val (.int (0 : Int32)), .unset, .unset] [])) (fun t_ k_ => XS.istore X10.here hx rfl (hb hby at_79) rfl (l' := #[.val (.int v0), .val (.int (0 : Int32)), .val (.int (1 : Int32)), .val (.ref wc), .val (.int (0 : Int32)), .val (.int (1 : Int32)), .val (.int (0 : Int32)), .val (.int (0 : Int32)), .unset, .unset]) rfl k_) ?_
      refine own_go (T' := T10) (g' := (mkF m 82 #[.val (.int v0), .val (.int (0 : Int32)), .val (.int (1 : Int32)), .val (.ref wc), .val (.int (0 : Int32)), .val (.int (1 : Int32)), .val (.int (0 : Int32)), .val (.int (0 : Int32)), .unset, .unset] [(.int (0 : Int32))])) (fun t_ k_ => XS.iloadN X10.here hx rfl (hb hby at_81) rfl k_) ?_
      refine own_go (T' := T10) (g' := (mkF m 85 #[.val (.int v0), .val (.int (0 : Int32)), .val (.int (1 : Int32)), .val (.ref wc), .val (.int (0 : Int32)), .val (.int (1 : Int32)), .val (.int (0 : Int32)), .val (.int (0 : Int32)), .unset, .unset] [])) (fun t_ k_ => XS.ifNo X10.here hx rfl (hb hby at_82) rfl ((if0 _ _).trans (teq (by decide)).2) k_) ?_
      refine own_go (T' := T10) (g' := (mkF m 86 #[.val (.int v0), .val (.int (0 : Int32)), .val (.int (1 : Int32)), .val (.ref wc), .val (.int (0 : Int32)), .val (.int (1 : Int32)), .val (.int (0 : Int32)), .val (.int (0 : Int32)), .unset, .unset] [(.int (1 : Int32))])) (fun t_ k_ => XS.iloadN X10.here hx rfl (hb hby at_85) rfl k_) ?_
      refine own_go (T' := T10) (g' := (mkF m 89 #[.val (.int v0), .val (.int (0 : Int32)), .val (.int (1 : Int32)), .val (.ref wc), .val (.int (0 : Int32)), .val (.int (1 : Int32)), .val (.int (0 : Int32)), .val (.int (0 : Int32)), .unset, .unset] [])) (fun t_ k_ => XS.ifNo X10.here hx rfl (hb hby at_86) rfl ((if0 _ _).trans (feq (by decide)).1) k_) ?_
      refine own_go (T' := T10) (g' := (mkF m 90 #[.val (.int v0), .val (.int (0 : Int32)), .val (.int (1 : Int32)), .val (.ref wc), .val (.int (0 : Int32)), .val (.int (1 : Int32)), .val (.int (0 : Int32)), .val (.int (0 : Int32)), .unset, .unset] [(.int (1 : Int32))])) (fun t_ k_ => XS.iconst X10.here hx rfl (hb hby at_89) k_) ?_
      refine own_go (T' := T10) (g' := (mkF m 94 #[.val (.int v0), .val (.int (0 : Int32)), .val (.int (1 : Int32)), .val (.ref wc), .val (.int (0 : Int32)), .val (.int (1 : Int32)), .val (.int (0 : Int32)), .val (.int (0 : Int32)), .unset, .unset] [(.int (1 : Int32))])) (fun t_ k_ => XS.goto X10.here hx rfl (pc0 := 90) (pc' := 94) rfl (hb hby at_90) (by decide) (by decide) k_) ?_
      refine own_go (T' := T10) (g' := (mkF m 96 #[.val (.int v0), .val (.int (0 : Int32)), .val (.int (1 : Int32)), .val (.ref wc), .val (.int (0 : Int32)), .val (.int (1 : Int32)), .val (.int (0 : Int32)), .val (.int (0 : Int32)), .val (.int (1 : Int32)), .unset] [])) (fun t_ k_ => XS.istore X10.here hx rfl (hb hby at_94) rfl (l' := #[.val (.int v0), .val (.int (0 : Int32)), .val (.int (1 : Int32)), .val (.ref wc), .val (.int (0 : Int32)), .val (.int (1 : Int32)), .val (.int (0 : Int32)), .val (.int (0 : Int32)), .val (.int (1 : Int32)), .unset]) rfl k_) ?_
      refine own_go (T' := T10) (g' := (mkF m 97 #[.val (.int v0), .val (.int (0 : Int32)), .val (.int (1 : Int32)), .val (.ref wc), .val (.int (0 : Int32)), .val (.int (1 : Int32)), .val (.int (0 : Int32)), .val (.int (0 : Int32)), .val (.int (1 : Int32)), .unset] [(.int (0 : Int32))])) (fun t_ k_ => XS.iloadN X10.here hx rfl (hb hby at_96) rfl k_) ?_
      refine own_go (T' := T10) (g' := (mkF m 100 #[.val (.int v0), .val (.int (0 : Int32)), .val (.int (1 : Int32)), .val (.ref wc), .val (.int (0 : Int32)), .val (.int (1 : Int32)), .val (.int (0 : Int32)), .val (.int (0 : Int32)), .val (.int (1 : Int32)), .unset] [])) (fun t_ k_ => XS.ifNo X10.here hx rfl (hb hby at_97) rfl ((if0 _ _).trans (teq (by decide)).2) k_) ?_
      refine own_go (T' := T10) (g' := (mkF m 101 #[.val (.int v0), .val (.int (0 : Int32)), .val (.int (1 : Int32)), .val (.ref wc), .val (.int (0 : Int32)), .val (.int (1 : Int32)), .val (.int (0 : Int32)), .val (.int (0 : Int32)), .val (.int (1 : Int32)), .unset] [(.int (1 : Int32))])) (fun t_ k_ => XS.iloadN X10.here hx rfl (hb hby at_100) rfl k_) ?_
      refine own_go (T' := T10) (g' := (mkF m 108 #[.val (.int v0), .val (.int (0 : Int32)), .val (.int (1 : Int32)), .val (.ref wc), .val (.int (0 : Int32)), .val (.int (1 : Int32)), .val (.int (0 : Int32)), .val (.int (0 : Int32)), .val (.int (1 : Int32)), .unset] [])) (fun t_ k_ => XS.ifYes X10.here hx rfl (pc0 := 101) (pc' := 108) rfl (hb hby at_101) rfl ((if0 _ _).trans (feq (by decide)).2) (by decide) (by decide) k_) ?_
      refine own_go (T' := T10) (g' := (mkF m 109 #[.val (.int v0), .val (.int (0 : Int32)), .val (.int (1 : Int32)), .val (.ref wc), .val (.int (0 : Int32)), .val (.int (1 : Int32)), .val (.int (0 : Int32)), .val (.int (0 : Int32)), .val (.int (1 : Int32)), .unset] [(.int (0 : Int32))])) (fun t_ k_ => XS.iconst X10.here hx rfl (hb hby at_108) k_) ?_
      refine own_go (T' := T10) (g' := (mkF m 111 #[.val (.int v0), .val (.int (0 : Int32)), .val (.int (1 : Int32)), .val (.ref wc), .val (.int (0 : Int32)), .val (.int (1 : Int32)), .val (.int (0 : Int32)), .val (.int (0 : Int32)), .val (.int (1 : Int32)), .val (.int (0 : Int32))] [])) (fun t_ k_ => XS.istore X10.here hx rfl (hb hby at_109) rfl (l' := #[.val (.int v0), .val (.int (0 : Int32)), .val (.int (1 : Int32)), .val (.ref wc), .val (.int (0 : Int32)), .val (.int (1 : Int32)), .val (.int (0 : Int32)), .val (.int (0 : Int32)), .val (.int (1 : Int32)), .val (.int (0 : Int32))]) rfl k_) ?_
      refine own_go (T' := T10) (g' := (mkF m 113 #[.val (.int v0), .val (.int (0 : Int32)), .val (.int (1 : Int32)), .val (.ref wc), .val (.int (0 : Int32)), .val (.int (1 : Int32)), .val (.int (0 : Int32)), .val (.int (0 : Int32)), .val (.int (1 : Int32)), .val (.int (0 : Int32))] [(.int (0 : Int32))])) (fun t_ k_ => XS.iload X10.here hx rfl (hb hby at_111) rfl k_) ?_
      refine own_go (T' := T10) (g' := (mkF m 115 #[.val (.int v0), .val (.int (0 : Int32)), .val (.int (1 : Int32)), .val (.ref wc), .val (.int (0 : Int32)), .val (.int (1 : Int32)), .val (.int (0 : Int32)), .val (.int (0 : Int32)), .val (.int (1 : Int32)), .val (.int (0 : Int32))] [(.int (0 : Int32)), (.int (0 : Int32))])) (fun t_ k_ => XS.iload X10.here hx rfl (hb hby at_113) rfl k_) ?_
      refine own_go (T' := T10) (g' := (mkF m 118 #[.val (.int v0), .val (.int (0 : Int32)), .val (.int (1 : Int32)), .val (.ref wc), .val (.int (0 : Int32)), .val (.int (1 : Int32)), .val (.int (0 : Int32)), .val (.int (0 : Int32)), .val (.int (1 : Int32)), .val (.int (0 : Int32))] [])) (fun t_ k_ => XS.icmpNo X10.here hx rfl (hb hby at_115) rfl (teq (by decide)).2 k_) ?_
      refine own_go (T' := T10) (g' := (mkF m 120 #[.val (.int v0), .val (.int (0 : Int32)), .val (.int (1 : Int32)), .val (.ref wc), .val (.int (0 : Int32)), .val (.int (1 : Int32)), .val (.int (0 : Int32)), .val (.int (0 : Int32)), .val (.int (1 : Int32)), .val (.int (0 : Int32))] [(.int (1 : Int32))])) (fun t_ k_ => XS.iload X10.here hx rfl (hb hby at_118) rfl k_) ?_
      refine own_go (T' := T10) (g' := (mkF m 122 #[.val (.int v0), .val (.int (0 : Int32)), .val (.int (1 : Int32)), .val (.ref wc), .val (.int (0 : Int32)), .val (.int (1 : Int32)), .val (.int (0 : Int32)), .val (.int (0 : Int32)), .val (.int (1 : Int32)), .val (.int (0 : Int32))] [(.int (1 : Int32)), (.int (1 : Int32))])) (fun t_ k_ => XS.iload X10.here hx rfl (hb hby at_120) rfl k_) ?_
      refine own_go (T' := T10) (g' := (mkF m 125 #[.val (.int v0), .val (.int (0 : Int32)), .val (.int (1 : Int32)), .val (.ref wc), .val (.int (0 : Int32)), .val (.int (1 : Int32)), .val (.int (0 : Int32)), .val (.int (0 : Int32)), .val (.int (1 : Int32)), .val (.int (0 : Int32))] [])) (fun t_ k_ => XS.icmpNo X10.here hx rfl (hb hby at_122) rfl (teq (by decide)).2 k_) ?_
      refine own_go (T' := T10) (g' := (mkF m 127 #[.val (.int v0), .val (.int (0 : Int32)), .val (.int (1 : Int32)), .val (.ref wc), .val (.int (0 : Int32)), .val (.int (1 : Int32)), .val (.int (0 : Int32)), .val (.int (0 : Int32)), .val (.int (1 : Int32)), .val (.int (0 : Int32))] [(.int (0 : Int32))])) (fun t_ k_ => XS.iload X10.here hx rfl (hb hby at_125) rfl k_) ?_
      refine own_go (T' := T10) (g' := (mkF m 129 #[.val (.int v0), .val (.int (0 : Int32)), .val (.int (1 : Int32)), .val (.ref wc), .val (.int (0 : Int32)), .val (.int (1 : Int32)), .val (.int (0 : Int32)), .val (.int (0 : Int32)), .val (.int (1 : Int32)), .val (.int (0 : Int32))] [(.int (0 : Int32)), (.int (0 : Int32))])) (fun t_ k_ => XS.iload X10.here hx rfl (hb hby at_127) rfl k_) ?_
      refine own_go (T' := T10) (g' := (mkF m 132 #[.val (.int v0), .val (.int (0 : Int32)), .val (.int (1 : Int32)), .val (.ref wc), .val (.int (0 : Int32)), .val (.int (1 : Int32)), .val (.int (0 : Int32)), .val (.int (0 : Int32)), .val (.int (1 : Int32)), .val (.int (0 : Int32))] [])) (fun t_ k_ => XS.icmpNo X10.here hx rfl (hb hby at_129) rfl (teq (by decide)).2 k_) ?_
      refine own_go (T' := T10) (g' := (mkF m 133 #[.val (.int v0), .val (.int (0 : Int32)), .val (.int (1 : Int32)), .val (.ref wc), .val (.int (0 : Int32)), .val (.int (1 : Int32)), .val (.int (0 : Int32)), .val (.int (0 : Int32)), .val (.int (1 : Int32)), .val (.int (0 : Int32))] [(.int (1 : Int32))])) (fun t_ k_ => XS.iconst X10.here hx rfl (hb hby at_132) k_) ?_
      refine own_go (T' := T10) (g' := (mkF m 137 #[.val (.int v0), .val (.int (0 : Int32)), .val (.int (1 : Int32)), .val (.ref wc), .val (.int (0 : Int32)), .val (.int (1 : Int32)), .val (.int (0 : Int32)), .val (.int (0 : Int32)), .val (.int (1 : Int32)), .val (.int (0 : Int32))] [(.int (1 : Int32))])) (fun t_ k_ => XS.goto X10.here hx rfl (pc0 := 133) (pc' := 137) rfl (hb hby at_133) (by decide) (by decide) k_) ?_
      exact own_out X10 (v := some (.int (nar .boolean (1 : Int32)))) (fun h => by rw [Bd.returns] at h; cases h) hlk (fun fs hr => retN X10 hx (t := .boolean) Bd.returns (by simp) (hb hby at_137) hr) (Q := Q_rm_law Z v0 wp wc wo h0 n0) (by rw [e10]; exact ⟨rfl, N7⟩) (by decide) (by decide)
  · -- not (v0 &&& (1 : Int32)) = (0 : Int32)
    refine own_go (T' := s₁) (g' := (mkF m 6 #[.val (.int v0), .unset, .unset, .unset, .unset, .unset, .unset, .unset, .unset, .unset] [])) (fun t_ k_ => XS.ifNo X0.here hx rfl (hb hby at_3) rfl ((if0 _ _).trans (feq c1).1) k_) ?_
    refine own_go (T' := s₁) (g' := (mkF m 7 #[.val (.int v0), .unset, .unset, .unset, .unset, .unset, .unset, .unset, .unset, .unset] [(.int (1 : Int32))])) (fun t_ k_ => XS.iconst X0.here hx rfl (hb hby at_6) k_) ?_
    refine own_go (T' := s₁) (g' := (mkF m 11 #[.val (.int v0), .unset, .unset, .unset, .unset, .unset, .unset, .unset, .unset, .unset] [(.int (1 : Int32))])) (fun t_ k_ => XS.goto X0.here hx rfl (pc0 := 7) (pc' := 11) rfl (hb hby at_7) (by decide) (by decide) k_) ?_
    refine own_go (T' := s₁) (g' := (mkF m 12 #[.val (.int v0), .val (.int (1 : Int32)), .unset, .unset, .unset, .unset, .unset, .unset, .unset, .unset] [])) (fun t_ k_ => XS.istoreN X0.here hx rfl (hb hby at_11) rfl (l' := #[.val (.int v0), .val (.int (1 : Int32)), .unset, .unset, .unset, .unset, .unset, .unset, .unset, .unset]) rfl k_) ?_
    refine own_go (T' := s₁) (g' := (mkF m 13 #[.val (.int v0), .val (.int (1 : Int32)), .unset, .unset, .unset, .unset, .unset, .unset, .unset, .unset] [(.int v0)])) (fun t_ k_ => XS.iloadN X0.here hx rfl (hb hby at_12) rfl k_) ?_
    refine own_go (T' := s₁) (g' := (mkF m 14 #[.val (.int v0), .val (.int (1 : Int32)), .unset, .unset, .unset, .unset, .unset, .unset, .unset, .unset] [(.int (2 : Int32)), (.int v0)])) (fun t_ k_ => XS.iconst X0.here hx rfl (hb hby at_13) k_) ?_
    refine own_go (T' := s₁) (g' := (mkF m 15 #[.val (.int v0), .val (.int (1 : Int32)), .unset, .unset, .unset, .unset, .unset, .unset, .unset, .unset] [(.int (v0 &&& (2 : Int32)))])) (fun t_ k_ => XS.iand X0.here hx rfl (hb hby at_14) rfl k_) ?_
    by_cases c11 : (v0 &&& (2 : Int32)) = (0 : Int32)
    · -- (v0 &&& (2 : Int32)) = (0 : Int32)
      refine own_go (T' := s₁) (g' := (mkF m 22 #[.val (.int v0), .val (.int (1 : Int32)), .unset, .unset, .unset, .unset, .unset, .unset, .unset, .unset] [])) (fun t_ k_ => XS.ifYes X0.here hx rfl (pc0 := 15) (pc' := 22) rfl (hb hby at_15) rfl ((if0 _ _).trans (teq c11).1) (by decide) (by decide) k_) ?_
      refine own_go (T' := s₁) (g' := (mkF m 23 #[.val (.int v0), .val (.int (1 : Int32)), .unset, .unset, .unset, .unset, .unset, .unset, .unset, .unset] [(.int (0 : Int32))])) (fun t_ k_ => XS.iconst X0.here hx rfl (hb hby at_22) k_) ?_
      refine own_go (T' := s₁) (g' := (mkF m 24 #[.val (.int v0), .val (.int (1 : Int32)), .val (.int (0 : Int32)), .unset, .unset, .unset, .unset, .unset, .unset, .unset] [])) (fun t_ k_ => XS.istoreN X0.here hx rfl (hb hby at_23) rfl (l' := #[.val (.int v0), .val (.int (1 : Int32)), .val (.int (0 : Int32)), .unset, .unset, .unset, .unset, .unset, .unset, .unset]) rfl k_) ?_
      refine own_go (T' := s₁) (g' := (mkF m 25 #[.val (.int v0), .val (.int (1 : Int32)), .val (.int (0 : Int32)), .unset, .unset, .unset, .unset, .unset, .unset, .unset] [(.int (1 : Int32))])) (fun t_ k_ => XS.iloadN X0.here hx rfl (hb hby at_24) rfl k_) ?_
      refine own_go (T' := s₁) (g' := (mkF m 26 #[.val (.int v0), .val (.int (1 : Int32)), .val (.int (0 : Int32)), .unset, .unset, .unset, .unset, .unset, .unset, .unset] [(.int (0 : Int32)), (.int (1 : Int32))])) (fun t_ k_ => XS.iloadN X0.here hx rfl (hb hby at_25) rfl k_) ?_
      obtain ⟨_, _, ⟨T12, L12, k12, n12⟩, -, X12, ⟨Lc12, hQ12, l12, y12, z12⟩, st12⟩ := Jvm.LawKit.callS X0 hx (y := (⟨"com/example/drawline/drawline/model/Application$Status", "of", "(ZZ)Lcom/example/drawline/drawline/model/Application$Status;"⟩ : MethodName)) hown (mvT hZ (hw _ (List.mem_of_getElem? (i := 0) rfl))) (mvT hZ (hw _ (List.mem_of_getElem? (i := 1) rfl))) (mvT hZ (hw _ (List.mem_of_getElem? (i := 2) rfl))) (mvT hZ (hw _ (List.mem_of_getElem? (i := 3) rfl))) (by decide) (backOf (W := 0) (rm_of l Z a0 hw [] (1 : Int32) (0 : Int32) wp wc wo wp h0 n0 (show n0 ≤ h0.size by omega) O0 S_PAID S_CERTIFIED S_OPEN ((if_neg (by decide)).symm)) hZ (hw _ (List.mem_of_getElem? (i := 3) rfl)) (hw _ (List.mem_of_getElem? (i := 2) rfl)) (by decide) (by decide)) (g := (mkF m 26 #[.val (.int v0), .val (.int (1 : Int32)), .val (.int (0 : Int32)), .unset, .unset, .unset, .unset, .unset, .unset, .unset] [(.int (0 : Int32)), (.int (1 : Int32))])) rfl (by rw [hml]; rfl) (argsL := [(.int (1 : Int32)), (.int (0 : Int32))]) (rest := []) (lenOf pd_0 rfl) rfl (by show 2 * 0 + _ ≤ _; exact Nat.le_of_eq rfl) (hb hby at_26) (fun _ _ => ⟨rfl, e0, (by decide : 0 + 0 ≤ _), (by decide : 0 + 0 ≤ _)⟩)
      dsimp only [Pt.U, Pt.locs, Pt.cells, Pt.slots] at X12 l12 y12 z12 st12 hQ12
      subst l12 y12 z12
      obtain ⟨rfl, M12, e12⟩ := hQ12
      have N12 := Fr.app N0 M12
      refine own_go (T' := T12) (g' := (mkF m 29 #[.val (.int v0), .val (.int (1 : Int32)), .val (.int (0 : Int32)), .unset, .unset, .unset, .unset, .unset, .unset, .unset] [(.ref wp)])) (fun t_ k_ => st12 _ k_) ?_
      refine own_go (T' := T12) (g' := (mkF m 30 #[.val (.int v0), .val (.int (1 : Int32)), .val (.int (0 : Int32)), .val (.ref wp), .unset, .unset, .unset, .unset, .unset, .unset] [])) (fun t_ k_ => XS.astoreN X12.here hx rfl (hb hby at_29) rfl rfl (l' := #[.val (.int v0), .val (.int (1 : Int32)), .val (.int (0 : Int32)), .val (.ref wp), .unset, .unset, .unset, .unset, .unset, .unset]) rfl k_) ?_
      refine own_go (T' := T12) (g' := (mkF m 31 #[.val (.int v0), .val (.int (1 : Int32)), .val (.int (0 : Int32)), .val (.ref wp), .unset, .unset, .unset, .unset, .unset, .unset] [(.ref wp)])) (fun t_ k_ => XS.aloadN X12.here hx rfl (hb hby at_30) rfl rfl k_) ?_
      refine own_go (T' := T12) (g' := (mkF m 36 #[.val (.int v0), .val (.int (1 : Int32)), .val (.int (0 : Int32)), .val (.ref wp), .unset, .unset, .unset, .unset, .unset, .unset] [])) (fun t_ k_ => XS.ifnonnullYes X12.here hx rfl (pc0 := 31) (pc' := 36) rfl (hb hby at_31) rfl (by decide) (by decide) k_) ?_
      refine own_go (T' := T12) (g' := (mkF m 37 #[.val (.int v0), .val (.int (1 : Int32)), .val (.int (0 : Int32)), .val (.ref wp), .unset, .unset, .unset, .unset, .unset, .unset] [(.ref wp)])) (fun t_ k_ => XS.aloadN X12.here hx rfl (hb hby at_36) rfl rfl k_) ?_
      obtain ⟨T13, X13, e13, st13⟩ := getS2 X12 hx hZ hown (host := "") (Or.inl (hw _ (List.mem_of_getElem? (i := 6) rfl))) Via.refl e12 (S_PAID.ext O0.2) (g := (mkF m 37 #[.val (.int v0), .val (.int (1 : Int32)), .val (.int (0 : Int32)), .val (.ref wp), .unset, .unset, .unset, .unset, .unset, .unset] [(.ref wp)])) rfl (hb hby at_37)
      refine own_go (T' := T13) (g' := (mkF m 40 #[.val (.int v0), .val (.int (1 : Int32)), .val (.int (0 : Int32)), .val (.ref wp), .unset, .unset, .unset, .unset, .unset, .unset] [(.ref wp), (.ref wp)])) (fun t_ k_ => st13 _ k_) ?_
      refine own_go (T' := T13) (g' := (mkF m 43 #[.val (.int v0), .val (.int (1 : Int32)), .val (.int (0 : Int32)), .val (.ref wp), .unset, .unset, .unset, .unset, .unset, .unset] [])) (fun t_ k_ => Jvm.RoadKit.acmp (g := (mkF m 40 #[.val (.int v0), .val (.int (1 : Int32)), .val (.int (0 : Int32)), .val (.ref wp), .unset, .unset, .unset, .unset, .unset, .unset] [(.ref wp), (.ref wp)])) X13 hx rfl rfl rfl (pc0 := 40) (pc' := 43) (same := true) rfl (hb hby at_40) rfl (decide_eq_true rfl) (by decide) (by decide) k_) ?_
      refine own_go (T' := T13) (g' := (mkF m 44 #[.val (.int v0), .val (.int (1 : Int32)), .val (.int (0 : Int32)), .val (.ref wp), .unset, .unset, .unset, .unset, .unset, .unset] [(.int (1 : Int32))])) (fun t_ k_ => XS.iconst X13.here hx rfl (hb hby at_43) k_) ?_
      refine own_go (T' := T13) (g' := (mkF m 48 #[.val (.int v0), .val (.int (1 : Int32)), .val (.int (0 : Int32)), .val (.ref wp), .unset, .unset, .unset, .unset, .unset, .unset] [(.int (1 : Int32))])) (fun t_ k_ => XS.goto X13.here hx rfl (pc0 := 44) (pc' := 48) rfl (hb hby at_44) (by decide) (by decide) k_) ?_
      refine own_go (T' := T13) (g' := (mkF m 50 #[.val (.int v0), .val (.int (1 : Int32)), .val (.int (0 : Int32)), .val (.ref wp), .val (.int (1 : Int32)), .unset, .unset, .unset, .unset, .unset] [])) (fun t_ k_ => XS.istore X13.here hx rfl (hb hby at_48) rfl (l' := #[.val (.int v0), .val (.int (1 : Int32)), .val (.int (0 : Int32)), .val (.ref wp), .val (.int (1 : Int32)), .unset, .unset, .unset, .unset, .unset]) rfl k_) ?_
      refine own_go (T' := T13) (g' := (mkF m 51 #[.val (.int v0), .val (.int (1 : Int32)), .val (.int (0 : Int32)), .val (.ref wp), .val (.int (1 : Int32)), .unset, .unset, .unset, .unset, .unset] [(.ref wp)])) (fun t_ k_ => XS.aloadN X13.here hx rfl (hb hby at_50) rfl rfl k_) ?_
      obtain ⟨T14, X14, e14, st14⟩ := getS2 X13 hx hZ hown (host := "") (Or.inl (hw _ (List.mem_of_getElem? (i := 8) rfl))) Via.refl e13 (S_CERTIFIED.ext O0.2) (g := (mkF m 51 #[.val (.int v0), .val (.int (1 : Int32)), .val (.int (0 : Int32)), .val (.ref wp), .val (.int (1 : Int32)), .unset, .unset, .unset, .unset, .unset] [(.ref wp)])) rfl (hb hby at_51)
      refine own_go (T' := T14) (g' := (mkF m 54 #[.val (.int v0), .val (.int (1 : Int32)), .val (.int (0 : Int32)), .val (.ref wp), .val (.int (1 : Int32)), .unset, .unset, .unset, .unset, .unset] [(.ref wc), (.ref wp)])) (fun t_ k_ => st14 _ k_) ?_
      refine own_go (T' := T14) (g' := (mkF m 61 #[.val (.int v0), .val (.int (1 : Int32)), .val (.int (0 : Int32)), .val (.ref wp), .val (.int (1 : Int32)), .unset, .unset, .unset, .unset, .unset] [])) (fun t_ k_ => Jvm.RoadKit.acmp (g := (mkF m 54 #[.val (.int v0), .val (.int (1 : Int32)), .val (.int (0 : Int32)), .val (.ref wp), .val (.int (1 : Int32)), .unset, .unset, .unset, .unset, .unset] [(.ref wc), (.ref wp)])) X14 hx rfl rfl rfl (pc0 := 54) (pc' := 61) (same := false) rfl (hb hby at_54) rfl (decide_eq_false fun z => npc (Value.ref.inj z)) (by decide) (by decide) k_) ?_
      refine own_go (T' := T14) (g' := (mkF m 62 #[.val (.int v0), .val (.int (1 : Int32)), .val (.int (0 : Int32)), .val (.ref wp), .val (.int (1 : Int32)), .unset, .unset, .unset, .unset, .unset] [(.int (0 : Int32))])) (fun t_ k_ => XS.iconst X14.here hx rfl (hb hby at_61) k_) ?_
      refine own_go (T' := T14) (g' := (mkF m 64 #[.val (.int v0), .val (.int (1 : Int32)), .val (.int (0 : Int32)), .val (.ref wp), .val (.int (1 : Int32)), .val (.int (0 : Int32)), .unset, .unset, .unset, .unset] [])) (fun t_ k_ => XS.istore X14.here hx rfl (hb hby at_62) rfl (l' := #[.val (.int v0), .val (.int (1 : Int32)), .val (.int (0 : Int32)), .val (.ref wp), .val (.int (1 : Int32)), .val (.int (0 : Int32)), .unset, .unset, .unset, .unset]) rfl k_) ?_
      refine own_go (T' := T14) (g' := (mkF m 65 #[.val (.int v0), .val (.int (1 : Int32)), .val (.int (0 : Int32)), .val (.ref wp), .val (.int (1 : Int32)), .val (.int (0 : Int32)), .unset, .unset, .unset, .unset] [(.ref wp)])) (fun t_ k_ => XS.aloadN X14.here hx rfl (hb hby at_64) rfl rfl k_) ?_
      obtain ⟨T15, X15, e15, st15⟩ := getS2 X14 hx hZ hown (host := "") (Or.inl (hw _ (List.mem_of_getElem? (i := 10) rfl))) Via.refl e14 (S_OPEN.ext O0.2) (g := (mkF m 65 #[.val (.int v0), .val (.int (1 : Int32)), .val (.int (0 : Int32)), .val (.ref wp), .val (.int (1 : Int32)), .val (.int (0 : Int32)), .unset, .unset, .unset, .unset] [(.ref wp)])) rfl (hb hby at_65)
      refine own_go (T' := T15) (g' := (mkF m 68 #[.val (.int v0), .val (.int (1 : Int32)), .val (.int (0 : Int32)), .val (.ref wp), .val (.int (1 : Int32)), .val (.int (0 : Int32)), .unset, .unset, .unset, .unset] [(.ref wo), (.ref wp)])) (fun t_ k_ => st15 _ k_) ?_
      refine own_go (T' := T15) (g' := (mkF m 75 #[.val (.int v0), .val (.int (1 : Int32)), .val (.int (0 : Int32)), .val (.ref wp), .val (.int (1 : Int32)), .val (.int (0 : Int32)), .unset, .unset, .unset, .unset] [])) (fun t_ k_ => Jvm.RoadKit.acmp (g := (mkF m 68 #[.val (.int v0), .val (.int (1 : Int32)), .val (.int (0 : Int32)), .val (.ref wp), .val (.int (1 : Int32)), .val (.int (0 : Int32)), .unset, .unset, .unset, .unset] [(.ref wo), (.ref wp)])) X15 hx rfl rfl rfl (pc0 := 68) (pc' := 75) (same := false) rfl (hb hby at_68) rfl (decide_eq_false fun z => npo (Value.ref.inj z)) (by decide) (by decide) k_) ?_
      refine own_go (T' := T15) (g' := (mkF m 76 #[.val (.int v0), .val (.int (1 : Int32)), .val (.int (0 : Int32)), .val (.ref wp), .val (.int (1 : Int32)), .val (.int (0 : Int32)), .unset, .unset, .unset, .unset] [(.int (0 : Int32))])) (fun t_ k_ => XS.iconst X15.here hx rfl (hb hby at_75) k_) ?_
      refine own_go (T' := T15) (g' := (mkF m 78 #[.val (.int v0), .val (.int (1 : Int32)), .val (.int (0 : Int32)), .val (.ref wp), .val (.int (1 : Int32)), .val (.int (0 : Int32)), .val (.int (0 : Int32)), .unset, .unset, .unset] [])) (fun t_ k_ => XS.istore X15.here hx rfl (hb hby at_76) rfl (l' := #[.val (.int v0), .val (.int (1 : Int32)), .val (.int (0 : Int32)), .val (.ref wp), .val (.int (1 : Int32)), .val (.int (0 : Int32)), .val (.int (0 : Int32)), .unset, .unset, .unset]) rfl k_) ?_
      refine own_go (T' := T15) (g' := (mkF m 79 #[.val (.int v0), .val (.int (1 : Int32)), .val (.int (0 : Int32)), .val (.ref wp), .val (.int (1 : Int32)), .val (.int (0 : Int32)), .val (.int (0 : Int32)), .unset, .unset, .unset] [(.int (1 : Int32))])) (fun t_ k_ => XS.iloadN X15.here hx rfl (hb hby at_78) rfl k_) ?_
      refine own_go (T' := T15) (g' := (mkF m 81 #[.val (.int v0), .val (.int (1 : Int32)), .val (.int (0 : Int32)), .val (.ref wp), .val (.int (1 : Int32)), .val (.int (0 : Int32)), .val (.int (0 : Int32)), .val (.int (1 : Int32)), .unset, .unset] [])) (fun t_ k_ => XS.istore X15.here hx rfl (hb hby at_79) rfl (l' := #[.val (.int v0), .val (.int (1 : Int32)), .val (.int (0 : Int32)), .val (.ref wp), .val (.int (1 : Int32)), .val (.int (0 : Int32)), .val (.int (0 : Int32)), .val (.int (1 : Int32)), .unset, .unset]) rfl k_) ?_
      refine own_go (T' := T15) (g' := (mkF m 82 #[.val (.int v0), .val (.int (1 : Int32)), .val (.int (0 : Int32)), .val (.ref wp), .val (.int (1 : Int32)), .val (.int (0 : Int32)), .val (.int (0 : Int32)), .val (.int (1 : Int32)), .unset, .unset] [(.int (1 : Int32))])) (fun t_ k_ => XS.iloadN X15.here hx rfl (hb hby at_81) rfl k_) ?_
      refine own_go (T' := T15) (g' := (mkF m 93 #[.val (.int v0), .val (.int (1 : Int32)), .val (.int (0 : Int32)), .val (.ref wp), .val (.int (1 : Int32)), .val (.int (0 : Int32)), .val (.int (0 : Int32)), .val (.int (1 : Int32)), .unset, .unset] [])) (fun t_ k_ => XS.ifYes X15.here hx rfl (pc0 := 82) (pc' := 93) rfl (hb hby at_82) rfl ((if0 _ _).trans (feq (by decide)).2) (by decide) (by decide) k_) ?_
      refine own_go (T' := T15) (g' := (mkF m 94 #[.val (.int v0), .val (.int (1 : Int32)), .val (.int (0 : Int32)), .val (.ref wp), .val (.int (1 : Int32)), .val (.int (0 : Int32)), .val (.int (0 : Int32)), .val (.int (1 : Int32)), .unset, .unset] [(.int (0 : Int32))])) (fun t_ k_ => XS.iconst X15.here hx rfl (hb hby at_93) k_) ?_
      refine own_go (T' := T15) (g' := (mkF m 96 #[.val (.int v0), .val (.int (1 : Int32)), .val (.int (0 : Int32)), .val (.ref wp), .val (.int (1 : Int32)), .val (.int (0 : Int32)), .val (.int (0 : Int32)), .val (.int (1 : Int32)), .val (.int (0 : Int32)), .unset] [])) (fun t_ k_ => XS.istore X15.here hx rfl (hb hby at_94) rfl (l' := #[.val (.int v0), .val (.int (1 : Int32)), .val (.int (0 : Int32)), .val (.ref wp), .val (.int (1 : Int32)), .val (.int (0 : Int32)), .val (.int (0 : Int32)), .val (.int (1 : Int32)), .val (.int (0 : Int32)), .unset]) rfl k_) ?_
      refine own_go (T' := T15) (g' := (mkF m 97 #[.val (.int v0), .val (.int (1 : Int32)), .val (.int (0 : Int32)), .val (.ref wp), .val (.int (1 : Int32)), .val (.int (0 : Int32)), .val (.int (0 : Int32)), .val (.int (1 : Int32)), .val (.int (0 : Int32)), .unset] [(.int (1 : Int32))])) (fun t_ k_ => XS.iloadN X15.here hx rfl (hb hby at_96) rfl k_) ?_
      refine own_go (T' := T15) (g' := (mkF m 108 #[.val (.int v0), .val (.int (1 : Int32)), .val (.int (0 : Int32)), .val (.ref wp), .val (.int (1 : Int32)), .val (.int (0 : Int32)), .val (.int (0 : Int32)), .val (.int (1 : Int32)), .val (.int (0 : Int32)), .unset] [])) (fun t_ k_ => XS.ifYes X15.here hx rfl (pc0 := 97) (pc' := 108) rfl (hb hby at_97) rfl ((if0 _ _).trans (feq (by decide)).2) (by decide) (by decide) k_) ?_
      refine own_go (T' := T15) (g' := (mkF m 109 #[.val (.int v0), .val (.int (1 : Int32)), .val (.int (0 : Int32)), .val (.ref wp), .val (.int (1 : Int32)), .val (.int (0 : Int32)), .val (.int (0 : Int32)), .val (.int (1 : Int32)), .val (.int (0 : Int32)), .unset] [(.int (0 : Int32))])) (fun t_ k_ => XS.iconst X15.here hx rfl (hb hby at_108) k_) ?_
      refine own_go (T' := T15) (g' := (mkF m 111 #[.val (.int v0), .val (.int (1 : Int32)), .val (.int (0 : Int32)), .val (.ref wp), .val (.int (1 : Int32)), .val (.int (0 : Int32)), .val (.int (0 : Int32)), .val (.int (1 : Int32)), .val (.int (0 : Int32)), .val (.int (0 : Int32))] [])) (fun t_ k_ => XS.istore X15.here hx rfl (hb hby at_109) rfl (l' := #[.val (.int v0), .val (.int (1 : Int32)), .val (.int (0 : Int32)), .val (.ref wp), .val (.int (1 : Int32)), .val (.int (0 : Int32)), .val (.int (0 : Int32)), .val (.int (1 : Int32)), .val (.int (0 : Int32)), .val (.int (0 : Int32))]) rfl k_) ?_
      refine own_go (T' := T15) (g' := (mkF m 113 #[.val (.int v0), .val (.int (1 : Int32)), .val (.int (0 : Int32)), .val (.ref wp), .val (.int (1 : Int32)), .val (.int (0 : Int32)), .val (.int (0 : Int32)), .val (.int (1 : Int32)), .val (.int (0 : Int32)), .val (.int (0 : Int32))] [(.int (1 : Int32))])) (fun t_ k_ => XS.iload X15.here hx rfl (hb hby at_111) rfl k_) ?_
      refine own_go (T' := T15) (g' := (mkF m 115 #[.val (.int v0), .val (.int (1 : Int32)), .val (.int (0 : Int32)), .val (.ref wp), .val (.int (1 : Int32)), .val (.int (0 : Int32)), .val (.int (0 : Int32)), .val (.int (1 : Int32)), .val (.int (0 : Int32)), .val (.int (0 : Int32))] [(.int (1 : Int32)), (.int (1 : Int32))])) (fun t_ k_ => XS.iload X15.here hx rfl (hb hby at_113) rfl k_) ?_
      refine own_go (T' := T15) (g' := (mkF m 118 #[.val (.int v0), .val (.int (1 : Int32)), .val (.int (0 : Int32)), .val (.ref wp), .val (.int (1 : Int32)), .val (.int (0 : Int32)), .val (.int (0 : Int32)), .val (.int (1 : Int32)), .val (.int (0 : Int32)), .val (.int (0 : Int32))] [])) (fun t_ k_ => XS.icmpNo X15.here hx rfl (hb hby at_115) rfl (teq (by decide)).2 k_) ?_
      refine own_go (T' := T15) (g' := (mkF m 120 #[.val (.int v0), .val (.int (1 : Int32)), .val (.int (0 : Int32)), .val (.ref wp), .val (.int (1 : Int32)), .val (.int (0 : Int32)), .val (.int (0 : Int32)), .val (.int (1 : Int32)), .val (.int (0 : Int32)), .val (.int (0 : Int32))] [(.int (0 : Int32))])) (fun t_ k_ => XS.iload X15.here hx rfl (hb hby at_118) rfl k_) ?_
      refine own_go (T' := T15) (g' := (mkF m 122 #[.val (.int v0), .val (.int (1 : Int32)), .val (.int (0 : Int32)), .val (.ref wp), .val (.int (1 : Int32)), .val (.int (0 : Int32)), .val (.int (0 : Int32)), .val (.int (1 : Int32)), .val (.int (0 : Int32)), .val (.int (0 : Int32))] [(.int (0 : Int32)), (.int (0 : Int32))])) (fun t_ k_ => XS.iload X15.here hx rfl (hb hby at_120) rfl k_) ?_
      refine own_go (T' := T15) (g' := (mkF m 125 #[.val (.int v0), .val (.int (1 : Int32)), .val (.int (0 : Int32)), .val (.ref wp), .val (.int (1 : Int32)), .val (.int (0 : Int32)), .val (.int (0 : Int32)), .val (.int (1 : Int32)), .val (.int (0 : Int32)), .val (.int (0 : Int32))] [])) (fun t_ k_ => XS.icmpNo X15.here hx rfl (hb hby at_122) rfl (teq (by decide)).2 k_) ?_
      refine own_go (T' := T15) (g' := (mkF m 127 #[.val (.int v0), .val (.int (1 : Int32)), .val (.int (0 : Int32)), .val (.ref wp), .val (.int (1 : Int32)), .val (.int (0 : Int32)), .val (.int (0 : Int32)), .val (.int (1 : Int32)), .val (.int (0 : Int32)), .val (.int (0 : Int32))] [(.int (0 : Int32))])) (fun t_ k_ => XS.iload X15.here hx rfl (hb hby at_125) rfl k_) ?_
      refine own_go (T' := T15) (g' := (mkF m 129 #[.val (.int v0), .val (.int (1 : Int32)), .val (.int (0 : Int32)), .val (.ref wp), .val (.int (1 : Int32)), .val (.int (0 : Int32)), .val (.int (0 : Int32)), .val (.int (1 : Int32)), .val (.int (0 : Int32)), .val (.int (0 : Int32))] [(.int (0 : Int32)), (.int (0 : Int32))])) (fun t_ k_ => XS.iload X15.here hx rfl (hb hby at_127) rfl k_) ?_
      refine own_go (T' := T15) (g' := (mkF m 132 #[.val (.int v0), .val (.int (1 : Int32)), .val (.int (0 : Int32)), .val (.ref wp), .val (.int (1 : Int32)), .val (.int (0 : Int32)), .val (.int (0 : Int32)), .val (.int (1 : Int32)), .val (.int (0 : Int32)), .val (.int (0 : Int32))] [])) (fun t_ k_ => XS.icmpNo X15.here hx rfl (hb hby at_129) rfl (teq (by decide)).2 k_) ?_
      refine own_go (T' := T15) (g' := (mkF m 133 #[.val (.int v0), .val (.int (1 : Int32)), .val (.int (0 : Int32)), .val (.ref wp), .val (.int (1 : Int32)), .val (.int (0 : Int32)), .val (.int (0 : Int32)), .val (.int (1 : Int32)), .val (.int (0 : Int32)), .val (.int (0 : Int32))] [(.int (1 : Int32))])) (fun t_ k_ => XS.iconst X15.here hx rfl (hb hby at_132) k_) ?_
      refine own_go (T' := T15) (g' := (mkF m 137 #[.val (.int v0), .val (.int (1 : Int32)), .val (.int (0 : Int32)), .val (.ref wp), .val (.int (1 : Int32)), .val (.int (0 : Int32)), .val (.int (0 : Int32)), .val (.int (1 : Int32)), .val (.int (0 : Int32)), .val (.int (0 : Int32))] [(.int (1 : Int32))])) (fun t_ k_ => XS.goto X15.here hx rfl (pc0 := 133) (pc' := 137) rfl (hb hby at_133) (by decide) (by decide) k_) ?_
      exact own_out X15 (v := some (.int (nar .boolean (1 : Int32)))) (fun h => by rw [Bd.returns] at h; cases h) hlk (fun fs hr => retN X15 hx (t := .boolean) Bd.returns (by simp) (hb hby at_137) hr) (Q := Q_rm_law Z v0 wp wc wo h0 n0) (by rw [e15]; exact ⟨rfl, N12⟩) (by decide) (by decide)
    · -- not (v0 &&& (2 : Int32)) = (0 : Int32)
      refine own_go (T' := s₁) (g' := (mkF m 18 #[.val (.int v0), .val (.int (1 : Int32)), .unset, .unset, .unset, .unset, .unset, .unset, .unset, .unset] [])) (fun t_ k_ => XS.ifNo X0.here hx rfl (hb hby at_15) rfl ((if0 _ _).trans (feq c11).1) k_) ?_
      refine own_go (T' := s₁) (g' := (mkF m 19 #[.val (.int v0), .val (.int (1 : Int32)), .unset, .unset, .unset, .unset, .unset, .unset, .unset, .unset] [(.int (1 : Int32))])) (fun t_ k_ => XS.iconst X0.here hx rfl (hb hby at_18) k_) ?_
      refine own_go (T' := s₁) (g' := (mkF m 23 #[.val (.int v0), .val (.int (1 : Int32)), .unset, .unset, .unset, .unset, .unset, .unset, .unset, .unset] [(.int (1 : Int32))])) (fun t_ k_ => XS.goto X0.here hx rfl (pc0 := 19) (pc' := 23) rfl (hb hby at_19) (by decide) (by decide) k_) ?_
      refine own_go (T' := s₁) (g' := (mkF m 24 #[.val (.int v0), .val (.int (1 : Int32)), .val (.int (1 : Int32)), .unset, .unset, .unset, .unset, .unset, .unset, .unset] [])) (fun t_ k_ => XS.istoreN X0.here hx rfl (hb hby at_23) rfl (l' := #[.val (.int v0), .val (.int (1 : Int32)), .val (.int (1 : Int32)), .unset, .unset, .unset, .unset, .unset, .unset, .unset]) rfl k_) ?_
      refine own_go (T' := s₁) (g' := (mkF m 25 #[.val (.int v0), .val (.int (1 : Int32)), .val (.int (1 : Int32)), .unset, .unset, .unset, .unset, .unset, .unset, .unset] [(.int (1 : Int32))])) (fun t_ k_ => XS.iloadN X0.here hx rfl (hb hby at_24) rfl k_) ?_
      refine own_go (T' := s₁) (g' := (mkF m 26 #[.val (.int v0), .val (.int (1 : Int32)), .val (.int (1 : Int32)), .unset, .unset, .unset, .unset, .unset, .unset, .unset] [(.int (1 : Int32)), (.int (1 : Int32))])) (fun t_ k_ => XS.iloadN X0.here hx rfl (hb hby at_25) rfl k_) ?_
      obtain ⟨_, _, ⟨T16, L16, k16, n16⟩, -, X16, ⟨Lc16, hQ16, l16, y16, z16⟩, st16⟩ := Jvm.LawKit.callS X0 hx (y := (⟨"com/example/drawline/drawline/model/Application$Status", "of", "(ZZ)Lcom/example/drawline/drawline/model/Application$Status;"⟩ : MethodName)) hown (mvT hZ (hw _ (List.mem_of_getElem? (i := 0) rfl))) (mvT hZ (hw _ (List.mem_of_getElem? (i := 1) rfl))) (mvT hZ (hw _ (List.mem_of_getElem? (i := 2) rfl))) (mvT hZ (hw _ (List.mem_of_getElem? (i := 3) rfl))) (by decide) (backOf (W := 0) (rm_of l Z a0 hw [] (1 : Int32) (1 : Int32) wp wc wo wp h0 n0 (show n0 ≤ h0.size by omega) O0 S_PAID S_CERTIFIED S_OPEN ((if_neg (by decide)).symm)) hZ (hw _ (List.mem_of_getElem? (i := 3) rfl)) (hw _ (List.mem_of_getElem? (i := 2) rfl)) (by decide) (by decide)) (g := (mkF m 26 #[.val (.int v0), .val (.int (1 : Int32)), .val (.int (1 : Int32)), .unset, .unset, .unset, .unset, .unset, .unset, .unset] [(.int (1 : Int32)), (.int (1 : Int32))])) rfl (by rw [hml]; rfl) (argsL := [(.int (1 : Int32)), (.int (1 : Int32))]) (rest := []) (lenOf pd_0 rfl) rfl (by show 2 * 0 + _ ≤ _; exact Nat.le_of_eq rfl) (hb hby at_26) (fun _ _ => ⟨rfl, e0, (by decide : 0 + 0 ≤ _), (by decide : 0 + 0 ≤ _)⟩)
      dsimp only [Pt.U, Pt.locs, Pt.cells, Pt.slots] at X16 l16 y16 z16 st16 hQ16
      subst l16 y16 z16
      obtain ⟨rfl, M16, e16⟩ := hQ16
      have N16 := Fr.app N0 M16
      refine own_go (T' := T16) (g' := (mkF m 29 #[.val (.int v0), .val (.int (1 : Int32)), .val (.int (1 : Int32)), .unset, .unset, .unset, .unset, .unset, .unset, .unset] [(.ref wp)])) (fun t_ k_ => st16 _ k_) ?_
      refine own_go (T' := T16) (g' := (mkF m 30 #[.val (.int v0), .val (.int (1 : Int32)), .val (.int (1 : Int32)), .val (.ref wp), .unset, .unset, .unset, .unset, .unset, .unset] [])) (fun t_ k_ => XS.astoreN X16.here hx rfl (hb hby at_29) rfl rfl (l' := #[.val (.int v0), .val (.int (1 : Int32)), .val (.int (1 : Int32)), .val (.ref wp), .unset, .unset, .unset, .unset, .unset, .unset]) rfl k_) ?_
      refine own_go (T' := T16) (g' := (mkF m 31 #[.val (.int v0), .val (.int (1 : Int32)), .val (.int (1 : Int32)), .val (.ref wp), .unset, .unset, .unset, .unset, .unset, .unset] [(.ref wp)])) (fun t_ k_ => XS.aloadN X16.here hx rfl (hb hby at_30) rfl rfl k_) ?_
      refine own_go (T' := T16) (g' := (mkF m 36 #[.val (.int v0), .val (.int (1 : Int32)), .val (.int (1 : Int32)), .val (.ref wp), .unset, .unset, .unset, .unset, .unset, .unset] [])) (fun t_ k_ => XS.ifnonnullYes X16.here hx rfl (pc0 := 31) (pc' := 36) rfl (hb hby at_31) rfl (by decide) (by decide) k_) ?_
      refine own_go (T' := T16) (g' := (mkF m 37 #[.val (.int v0), .val (.int (1 : Int32)), .val (.int (1 : Int32)), .val (.ref wp), .unset, .unset, .unset, .unset, .unset, .unset] [(.ref wp)])) (fun t_ k_ => XS.aloadN X16.here hx rfl (hb hby at_36) rfl rfl k_) ?_
      obtain ⟨T17, X17, e17, st17⟩ := getS2 X16 hx hZ hown (host := "") (Or.inl (hw _ (List.mem_of_getElem? (i := 6) rfl))) Via.refl e16 (S_PAID.ext O0.2) (g := (mkF m 37 #[.val (.int v0), .val (.int (1 : Int32)), .val (.int (1 : Int32)), .val (.ref wp), .unset, .unset, .unset, .unset, .unset, .unset] [(.ref wp)])) rfl (hb hby at_37)
      refine own_go (T' := T17) (g' := (mkF m 40 #[.val (.int v0), .val (.int (1 : Int32)), .val (.int (1 : Int32)), .val (.ref wp), .unset, .unset, .unset, .unset, .unset, .unset] [(.ref wp), (.ref wp)])) (fun t_ k_ => st17 _ k_) ?_
      refine own_go (T' := T17) (g' := (mkF m 43 #[.val (.int v0), .val (.int (1 : Int32)), .val (.int (1 : Int32)), .val (.ref wp), .unset, .unset, .unset, .unset, .unset, .unset] [])) (fun t_ k_ => Jvm.RoadKit.acmp (g := (mkF m 40 #[.val (.int v0), .val (.int (1 : Int32)), .val (.int (1 : Int32)), .val (.ref wp), .unset, .unset, .unset, .unset, .unset, .unset] [(.ref wp), (.ref wp)])) X17 hx rfl rfl rfl (pc0 := 40) (pc' := 43) (same := true) rfl (hb hby at_40) rfl (decide_eq_true rfl) (by decide) (by decide) k_) ?_
      refine own_go (T' := T17) (g' := (mkF m 44 #[.val (.int v0), .val (.int (1 : Int32)), .val (.int (1 : Int32)), .val (.ref wp), .unset, .unset, .unset, .unset, .unset, .unset] [(.int (1 : Int32))])) (fun t_ k_ => XS.iconst X17.here hx rfl (hb hby at_43) k_) ?_
      refine own_go (T' := T17) (g' := (mkF m 48 #[.val (.int v0), .val (.int (1 : Int32)), .val (.int (1 : Int32)), .val (.ref wp), .unset, .unset, .unset, .unset, .unset, .unset] [(.int (1 : Int32))])) (fun t_ k_ => XS.goto X17.here hx rfl (pc0 := 44) (pc' := 48) rfl (hb hby at_44) (by decide) (by decide) k_) ?_
      refine own_go (T' := T17) (g' := (mkF m 50 #[.val (.int v0), .val (.int (1 : Int32)), .val (.int (1 : Int32)), .val (.ref wp), .val (.int (1 : Int32)), .unset, .unset, .unset, .unset, .unset] [])) (fun t_ k_ => XS.istore X17.here hx rfl (hb hby at_48) rfl (l' := #[.val (.int v0), .val (.int (1 : Int32)), .val (.int (1 : Int32)), .val (.ref wp), .val (.int (1 : Int32)), .unset, .unset, .unset, .unset, .unset]) rfl k_) ?_
      refine own_go (T' := T17) (g' := (mkF m 51 #[.val (.int v0), .val (.int (1 : Int32)), .val (.int (1 : Int32)), .val (.ref wp), .val (.int (1 : Int32)), .unset, .unset, .unset, .unset, .unset] [(.ref wp)])) (fun t_ k_ => XS.aloadN X17.here hx rfl (hb hby at_50) rfl rfl k_) ?_
      obtain ⟨T18, X18, e18, st18⟩ := getS2 X17 hx hZ hown (host := "") (Or.inl (hw _ (List.mem_of_getElem? (i := 8) rfl))) Via.refl e17 (S_CERTIFIED.ext O0.2) (g := (mkF m 51 #[.val (.int v0), .val (.int (1 : Int32)), .val (.int (1 : Int32)), .val (.ref wp), .val (.int (1 : Int32)), .unset, .unset, .unset, .unset, .unset] [(.ref wp)])) rfl (hb hby at_51)
      refine own_go (T' := T18) (g' := (mkF m 54 #[.val (.int v0), .val (.int (1 : Int32)), .val (.int (1 : Int32)), .val (.ref wp), .val (.int (1 : Int32)), .unset, .unset, .unset, .unset, .unset] [(.ref wc), (.ref wp)])) (fun t_ k_ => st18 _ k_) ?_
      refine own_go (T' := T18) (g' := (mkF m 61 #[.val (.int v0), .val (.int (1 : Int32)), .val (.int (1 : Int32)), .val (.ref wp), .val (.int (1 : Int32)), .unset, .unset, .unset, .unset, .unset] [])) (fun t_ k_ => Jvm.RoadKit.acmp (g := (mkF m 54 #[.val (.int v0), .val (.int (1 : Int32)), .val (.int (1 : Int32)), .val (.ref wp), .val (.int (1 : Int32)), .unset, .unset, .unset, .unset, .unset] [(.ref wc), (.ref wp)])) X18 hx rfl rfl rfl (pc0 := 54) (pc' := 61) (same := false) rfl (hb hby at_54) rfl (decide_eq_false fun z => npc (Value.ref.inj z)) (by decide) (by decide) k_) ?_
      refine own_go (T' := T18) (g' := (mkF m 62 #[.val (.int v0), .val (.int (1 : Int32)), .val (.int (1 : Int32)), .val (.ref wp), .val (.int (1 : Int32)), .unset, .unset, .unset, .unset, .unset] [(.int (0 : Int32))])) (fun t_ k_ => XS.iconst X18.here hx rfl (hb hby at_61) k_) ?_
      refine own_go (T' := T18) (g' := (mkF m 64 #[.val (.int v0), .val (.int (1 : Int32)), .val (.int (1 : Int32)), .val (.ref wp), .val (.int (1 : Int32)), .val (.int (0 : Int32)), .unset, .unset, .unset, .unset] [])) (fun t_ k_ => XS.istore X18.here hx rfl (hb hby at_62) rfl (l' := #[.val (.int v0), .val (.int (1 : Int32)), .val (.int (1 : Int32)), .val (.ref wp), .val (.int (1 : Int32)), .val (.int (0 : Int32)), .unset, .unset, .unset, .unset]) rfl k_) ?_
      refine own_go (T' := T18) (g' := (mkF m 65 #[.val (.int v0), .val (.int (1 : Int32)), .val (.int (1 : Int32)), .val (.ref wp), .val (.int (1 : Int32)), .val (.int (0 : Int32)), .unset, .unset, .unset, .unset] [(.ref wp)])) (fun t_ k_ => XS.aloadN X18.here hx rfl (hb hby at_64) rfl rfl k_) ?_
      obtain ⟨T19, X19, e19, st19⟩ := getS2 X18 hx hZ hown (host := "") (Or.inl (hw _ (List.mem_of_getElem? (i := 10) rfl))) Via.refl e18 (S_OPEN.ext O0.2) (g := (mkF m 65 #[.val (.int v0), .val (.int (1 : Int32)), .val (.int (1 : Int32)), .val (.ref wp), .val (.int (1 : Int32)), .val (.int (0 : Int32)), .unset, .unset, .unset, .unset] [(.ref wp)])) rfl (hb hby at_65)
      refine own_go (T' := T19) (g' := (mkF m 68 #[.val (.int v0), .val (.int (1 : Int32)), .val (.int (1 : Int32)), .val (.ref wp), .val (.int (1 : Int32)), .val (.int (0 : Int32)), .unset, .unset, .unset, .unset] [(.ref wo), (.ref wp)])) (fun t_ k_ => st19 _ k_) ?_
      refine own_go (T' := T19) (g' := (mkF m 75 #[.val (.int v0), .val (.int (1 : Int32)), .val (.int (1 : Int32)), .val (.ref wp), .val (.int (1 : Int32)), .val (.int (0 : Int32)), .unset, .unset, .unset, .unset] [])) (fun t_ k_ => Jvm.RoadKit.acmp (g := (mkF m 68 #[.val (.int v0), .val (.int (1 : Int32)), .val (.int (1 : Int32)), .val (.ref wp), .val (.int (1 : Int32)), .val (.int (0 : Int32)), .unset, .unset, .unset, .unset] [(.ref wo), (.ref wp)])) X19 hx rfl rfl rfl (pc0 := 68) (pc' := 75) (same := false) rfl (hb hby at_68) rfl (decide_eq_false fun z => npo (Value.ref.inj z)) (by decide) (by decide) k_) ?_
      refine own_go (T' := T19) (g' := (mkF m 76 #[.val (.int v0), .val (.int (1 : Int32)), .val (.int (1 : Int32)), .val (.ref wp), .val (.int (1 : Int32)), .val (.int (0 : Int32)), .unset, .unset, .unset, .unset] [(.int (0 : Int32))])) (fun t_ k_ => XS.iconst X19.here hx rfl (hb hby at_75) k_) ?_
      refine own_go (T' := T19) (g' := (mkF m 78 #[.val (.int v0), .val (.int (1 : Int32)), .val (.int (1 : Int32)), .val (.ref wp), .val (.int (1 : Int32)), .val (.int (0 : Int32)), .val (.int (0 : Int32)), .unset, .unset, .unset] [])) (fun t_ k_ => XS.istore X19.here hx rfl (hb hby at_76) rfl (l' := #[.val (.int v0), .val (.int (1 : Int32)), .val (.int (1 : Int32)), .val (.ref wp), .val (.int (1 : Int32)), .val (.int (0 : Int32)), .val (.int (0 : Int32)), .unset, .unset, .unset]) rfl k_) ?_
      refine own_go (T' := T19) (g' := (mkF m 79 #[.val (.int v0), .val (.int (1 : Int32)), .val (.int (1 : Int32)), .val (.ref wp), .val (.int (1 : Int32)), .val (.int (0 : Int32)), .val (.int (0 : Int32)), .unset, .unset, .unset] [(.int (1 : Int32))])) (fun t_ k_ => XS.iloadN X19.here hx rfl (hb hby at_78) rfl k_) ?_
      refine own_go (T' := T19) (g' := (mkF m 81 #[.val (.int v0), .val (.int (1 : Int32)), .val (.int (1 : Int32)), .val (.ref wp), .val (.int (1 : Int32)), .val (.int (0 : Int32)), .val (.int (0 : Int32)), .val (.int (1 : Int32)), .unset, .unset] [])) (fun t_ k_ => XS.istore X19.here hx rfl (hb hby at_79) rfl (l' := #[.val (.int v0), .val (.int (1 : Int32)), .val (.int (1 : Int32)), .val (.ref wp), .val (.int (1 : Int32)), .val (.int (0 : Int32)), .val (.int (0 : Int32)), .val (.int (1 : Int32)), .unset, .unset]) rfl k_) ?_
      refine own_go (T' := T19) (g' := (mkF m 82 #[.val (.int v0), .val (.int (1 : Int32)), .val (.int (1 : Int32)), .val (.ref wp), .val (.int (1 : Int32)), .val (.int (0 : Int32)), .val (.int (0 : Int32)), .val (.int (1 : Int32)), .unset, .unset] [(.int (1 : Int32))])) (fun t_ k_ => XS.iloadN X19.here hx rfl (hb hby at_81) rfl k_) ?_
      refine own_go (T' := T19) (g' := (mkF m 93 #[.val (.int v0), .val (.int (1 : Int32)), .val (.int (1 : Int32)), .val (.ref wp), .val (.int (1 : Int32)), .val (.int (0 : Int32)), .val (.int (0 : Int32)), .val (.int (1 : Int32)), .unset, .unset] [])) (fun t_ k_ => XS.ifYes X19.here hx rfl (pc0 := 82) (pc' := 93) rfl (hb hby at_82) rfl ((if0 _ _).trans (feq (by decide)).2) (by decide) (by decide) k_) ?_
      refine own_go (T' := T19) (g' := (mkF m 94 #[.val (.int v0), .val (.int (1 : Int32)), .val (.int (1 : Int32)), .val (.ref wp), .val (.int (1 : Int32)), .val (.int (0 : Int32)), .val (.int (0 : Int32)), .val (.int (1 : Int32)), .unset, .unset] [(.int (0 : Int32))])) (fun t_ k_ => XS.iconst X19.here hx rfl (hb hby at_93) k_) ?_
      refine own_go (T' := T19) (g' := (mkF m 96 #[.val (.int v0), .val (.int (1 : Int32)), .val (.int (1 : Int32)), .val (.ref wp), .val (.int (1 : Int32)), .val (.int (0 : Int32)), .val (.int (0 : Int32)), .val (.int (1 : Int32)), .val (.int (0 : Int32)), .unset] [])) (fun t_ k_ => XS.istore X19.here hx rfl (hb hby at_94) rfl (l' := #[.val (.int v0), .val (.int (1 : Int32)), .val (.int (1 : Int32)), .val (.ref wp), .val (.int (1 : Int32)), .val (.int (0 : Int32)), .val (.int (0 : Int32)), .val (.int (1 : Int32)), .val (.int (0 : Int32)), .unset]) rfl k_) ?_
      refine own_go (T' := T19) (g' := (mkF m 97 #[.val (.int v0), .val (.int (1 : Int32)), .val (.int (1 : Int32)), .val (.ref wp), .val (.int (1 : Int32)), .val (.int (0 : Int32)), .val (.int (0 : Int32)), .val (.int (1 : Int32)), .val (.int (0 : Int32)), .unset] [(.int (1 : Int32))])) (fun t_ k_ => XS.iloadN X19.here hx rfl (hb hby at_96) rfl k_) ?_
      refine own_go (T' := T19) (g' := (mkF m 108 #[.val (.int v0), .val (.int (1 : Int32)), .val (.int (1 : Int32)), .val (.ref wp), .val (.int (1 : Int32)), .val (.int (0 : Int32)), .val (.int (0 : Int32)), .val (.int (1 : Int32)), .val (.int (0 : Int32)), .unset] [])) (fun t_ k_ => XS.ifYes X19.here hx rfl (pc0 := 97) (pc' := 108) rfl (hb hby at_97) rfl ((if0 _ _).trans (feq (by decide)).2) (by decide) (by decide) k_) ?_
      refine own_go (T' := T19) (g' := (mkF m 109 #[.val (.int v0), .val (.int (1 : Int32)), .val (.int (1 : Int32)), .val (.ref wp), .val (.int (1 : Int32)), .val (.int (0 : Int32)), .val (.int (0 : Int32)), .val (.int (1 : Int32)), .val (.int (0 : Int32)), .unset] [(.int (0 : Int32))])) (fun t_ k_ => XS.iconst X19.here hx rfl (hb hby at_108) k_) ?_
      refine own_go (T' := T19) (g' := (mkF m 111 #[.val (.int v0), .val (.int (1 : Int32)), .val (.int (1 : Int32)), .val (.ref wp), .val (.int (1 : Int32)), .val (.int (0 : Int32)), .val (.int (0 : Int32)), .val (.int (1 : Int32)), .val (.int (0 : Int32)), .val (.int (0 : Int32))] [])) (fun t_ k_ => XS.istore X19.here hx rfl (hb hby at_109) rfl (l' := #[.val (.int v0), .val (.int (1 : Int32)), .val (.int (1 : Int32)), .val (.ref wp), .val (.int (1 : Int32)), .val (.int (0 : Int32)), .val (.int (0 : Int32)), .val (.int (1 : Int32)), .val (.int (0 : Int32)), .val (.int (0 : Int32))]) rfl k_) ?_
      refine own_go (T' := T19) (g' := (mkF m 113 #[.val (.int v0), .val (.int (1 : Int32)), .val (.int (1 : Int32)), .val (.ref wp), .val (.int (1 : Int32)), .val (.int (0 : Int32)), .val (.int (0 : Int32)), .val (.int (1 : Int32)), .val (.int (0 : Int32)), .val (.int (0 : Int32))] [(.int (1 : Int32))])) (fun t_ k_ => XS.iload X19.here hx rfl (hb hby at_111) rfl k_) ?_
      refine own_go (T' := T19) (g' := (mkF m 115 #[.val (.int v0), .val (.int (1 : Int32)), .val (.int (1 : Int32)), .val (.ref wp), .val (.int (1 : Int32)), .val (.int (0 : Int32)), .val (.int (0 : Int32)), .val (.int (1 : Int32)), .val (.int (0 : Int32)), .val (.int (0 : Int32))] [(.int (1 : Int32)), (.int (1 : Int32))])) (fun t_ k_ => XS.iload X19.here hx rfl (hb hby at_113) rfl k_) ?_
      refine own_go (T' := T19) (g' := (mkF m 118 #[.val (.int v0), .val (.int (1 : Int32)), .val (.int (1 : Int32)), .val (.ref wp), .val (.int (1 : Int32)), .val (.int (0 : Int32)), .val (.int (0 : Int32)), .val (.int (1 : Int32)), .val (.int (0 : Int32)), .val (.int (0 : Int32))] [])) (fun t_ k_ => XS.icmpNo X19.here hx rfl (hb hby at_115) rfl (teq (by decide)).2 k_) ?_
      refine own_go (T' := T19) (g' := (mkF m 120 #[.val (.int v0), .val (.int (1 : Int32)), .val (.int (1 : Int32)), .val (.ref wp), .val (.int (1 : Int32)), .val (.int (0 : Int32)), .val (.int (0 : Int32)), .val (.int (1 : Int32)), .val (.int (0 : Int32)), .val (.int (0 : Int32))] [(.int (0 : Int32))])) (fun t_ k_ => XS.iload X19.here hx rfl (hb hby at_118) rfl k_) ?_
      refine own_go (T' := T19) (g' := (mkF m 122 #[.val (.int v0), .val (.int (1 : Int32)), .val (.int (1 : Int32)), .val (.ref wp), .val (.int (1 : Int32)), .val (.int (0 : Int32)), .val (.int (0 : Int32)), .val (.int (1 : Int32)), .val (.int (0 : Int32)), .val (.int (0 : Int32))] [(.int (0 : Int32)), (.int (0 : Int32))])) (fun t_ k_ => XS.iload X19.here hx rfl (hb hby at_120) rfl k_) ?_
      refine own_go (T' := T19) (g' := (mkF m 125 #[.val (.int v0), .val (.int (1 : Int32)), .val (.int (1 : Int32)), .val (.ref wp), .val (.int (1 : Int32)), .val (.int (0 : Int32)), .val (.int (0 : Int32)), .val (.int (1 : Int32)), .val (.int (0 : Int32)), .val (.int (0 : Int32))] [])) (fun t_ k_ => XS.icmpNo X19.here hx rfl (hb hby at_122) rfl (teq (by decide)).2 k_) ?_
      refine own_go (T' := T19) (g' := (mkF m 127 #[.val (.int v0), .val (.int (1 : Int32)), .val (.int (1 : Int32)), .val (.ref wp), .val (.int (1 : Int32)), .val (.int (0 : Int32)), .val (.int (0 : Int32)), .val (.int (1 : Int32)), .val (.int (0 : Int32)), .val (.int (0 : Int32))] [(.int (0 : Int32))])) (fun t_ k_ => XS.iload X19.here hx rfl (hb hby at_125) rfl k_) ?_
      refine own_go (T' := T19) (g' := (mkF m 129 #[.val (.int v0), .val (.int (1 : Int32)), .val (.int (1 : Int32)), .val (.ref wp), .val (.int (1 : Int32)), .val (.int (0 : Int32)), .val (.int (0 : Int32)), .val (.int (1 : Int32)), .val (.int (0 : Int32)), .val (.int (0 : Int32))] [(.int (0 : Int32)), (.int (0 : Int32))])) (fun t_ k_ => XS.iload X19.here hx rfl (hb hby at_127) rfl k_) ?_
      refine own_go (T' := T19) (g' := (mkF m 132 #[.val (.int v0), .val (.int (1 : Int32)), .val (.int (1 : Int32)), .val (.ref wp), .val (.int (1 : Int32)), .val (.int (0 : Int32)), .val (.int (0 : Int32)), .val (.int (1 : Int32)), .val (.int (0 : Int32)), .val (.int (0 : Int32))] [])) (fun t_ k_ => XS.icmpNo X19.here hx rfl (hb hby at_129) rfl (teq (by decide)).2 k_) ?_
      refine own_go (T' := T19) (g' := (mkF m 133 #[.val (.int v0), .val (.int (1 : Int32)), .val (.int (1 : Int32)), .val (.ref wp), .val (.int (1 : Int32)), .val (.int (0 : Int32)), .val (.int (0 : Int32)), .val (.int (1 : Int32)), .val (.int (0 : Int32)), .val (.int (0 : Int32))] [(.int (1 : Int32))])) (fun t_ k_ => XS.iconst X19.here hx rfl (hb hby at_132) k_) ?_
      refine own_go (T' := T19) (g' := (mkF m 137 #[.val (.int v0), .val (.int (1 : Int32)), .val (.int (1 : Int32)), .val (.ref wp), .val (.int (1 : Int32)), .val (.int (0 : Int32)), .val (.int (0 : Int32)), .val (.int (1 : Int32)), .val (.int (0 : Int32)), .val (.int (0 : Int32))] [(.int (1 : Int32))])) (fun t_ k_ => XS.goto X19.here hx rfl (pc0 := 133) (pc' := 137) rfl (hb hby at_133) (by decide) (by decide) k_) ?_
      exact own_out X19 (v := some (.int (nar .boolean (1 : Int32)))) (fun h => by rw [Bd.returns] at h; cases h) hlk (fun fs hr => retN X19 hx (t := .boolean) Bd.returns (by simp) (hb hby at_137) hr) (Q := Q_rm_law Z v0 wp wc wo h0 n0) (by rw [e19]; exact ⟨rfl, N16⟩) (by decide) (by decide)
set_option maxRecDepth 65536 in
set_option maxHeartbeats 40000000 in
theorem comes_1 {Post : Tables → Env → Array Value → State → Outcome → State → Prop} (hpost : ∀ tb e args s v u, (limb_1_1.after args s (.returned v) u = true ∧ limb_1_2.after args s (.returned v) u = true ∧ True) → FrameEnd s (.returned v) u (Jvm.fieldLocs frame_1_writes args s ++ Jvm.arrayLocs frame_1_arrays args s ++ Jvm.staticLocs frame_1_statics s) 0 0 → Post tb e args s (.returned v) u) :
    ArmFor flags0 classFile x code maxLocals ret World_1 tables_1 room_1 Calls_1 rest_1 Pre_1 Post := by
  intro l hfl _ _ p e ha hc hk s m args below hf hA hF happ hP
  obtain ⟨hcalls, hrest, hpre⟩ := hP
  obtain ⟨-, -, -, hnamed, -, -, -, hat⟩ := (Spec.applies_iff hf).mp happ
  obtain ⟨hg, hn⟩ := and_e (Cond.before_iff.mp (show (Jvm.Cond.and given_1 narrow_1).before args s = true from hpre))
  obtain ⟨gc, gr⟩ := and_e hg
  have ga0 := gr
  obtain ⟨w0, rfl⟩ : ∃ w0 : Value, args = #[w0] := by
    have hs : args.size = 1 := by simpa [Cond.value, given_1] using gc
    obtain ⟨L⟩ := args
    match L, hs with
    | [w0], _ => exact ⟨w0, rfl⟩
  have hw := fun d (hd : d ∈ tables_1) => atoms_spec (ws := Jvm.Cond.code x code maxLocals ret :: tables_1) hat d (List.mem_cons_of_mem _ hd)
  have hfit : Fit s := fun {y c} hc i hi => by
    obtain ⟨ha, rfl⟩ := Array.getElem?_eq_some_iff.mp hc
    have q := List.all_eq_true.mp ((Array.all_eq_true_iff_forall_mem.mp hF) _ (Array.getElem_mem ha)) i (List.mem_range.mpr hi)
    simpa [Array.getElem?_eq_getElem hi] using q
  obtain ⟨i0, ei0⟩ := is_v ga0
  obtain rfl : w0 = (.int i0) := Option.some.inj ei0
  obtain ⟨xo, r1⟩ := and_e hn
  obtain ⟨xp, r2⟩ := and_e r1
  obtain ⟨oo, r3⟩ := and_e r2
  obtain ⟨op, r4⟩ := and_e r3
  obtain ⟨xc, oc⟩ := and_e r4
  obtain ⟨ao, evo⟩ := exa_v xo
  obtain ⟨ap, evp⟩ := exa_v xp
  obtain ⟨ac, evc⟩ := exa_v xc
  have fo := own_ord evo oo
  have fp := own_ord evp op
  have fc := own_ord evc oc
  obtain ⟨n, o, h1, h2, h3, _, L, rfl, ⟨rfl, N⟩, hq⟩ := rm_law l s _ hw tables_1 i0 ap ac ao s.heap s.heap.size (Nat.le_refl _) (Old.start s) (Sta.start evp (Or.inr ⟨(hw _ (List.mem_of_getElem? (i := 2) rfl)), (hw _ (List.mem_of_getElem? (i := 7) rfl))⟩)) (Sta.start evc (Or.inr ⟨(hw _ (List.mem_of_getElem? (i := 2) rfl)), (hw _ (List.mem_of_getElem? (i := 9) rfl))⟩)) (Sta.start evo (Or.inr ⟨(hw _ (List.mem_of_getElem? (i := 2) rfl)), (hw _ (List.mem_of_getElem? (i := 5) rfl))⟩)) (Fld.ne fp fc (by simp)) (Fld.ne fp fo (by simp)) (Fld.ne fc fo (by simp)) p e ha hc hk s m _ below hf ((Spec.applies_iff_loose hf).mp happ).1 ⟨rfl, State.Warmed39.refl s, rfl⟩ trivial
  refine ⟨n, _, h1, h2, h3, hpost _ _ _ _ _ _ ⟨Cond.after_iff.mpr rfl, Cond.after_iff.mpr (eq_i res_at (Term.int_eval (1)) rfl), trivial⟩ ⟨hq.1, hq.2.1, (hq.2.2.sift fun y hy => Or.inr (N y hy)).mono (by decide) (by decide)⟩⟩
theorem main_1_1 : Claimed_1_1 := comes_1 fun _ _ _ _ _ _ h hF => ⟨h.1, hF⟩
theorem main_1_2 : Claimed_1_2 := comes_1 fun _ _ _ _ _ _ h hF => ⟨h.2.1, hF⟩
end Jvm.Pilot.@@N@@
namespace Jvm.Pilot.@@N@@
open Jvm Jvm.ClassFile Sem Op Lib Jvm.Free Jvm.Stand Jvm.Pilot.@@N@@.Jvm.D
/-! MADE BY PROGRAM (witnessworld.py) out of the Statement's table words and the real class files: 12 classes; the members and pool entries that the words name. The judged class is class 1, her method 1. -/
namespace start1
open Jvm.ClassFile
def u (s : String) : CpInfo := .utf8 (stringToUtf16 s)
/-- a pool by its gaps: so many unusable entries, then the entry; so many at the end -/
def gap : Nat → List CpInfo → List CpInfo
  | 0, r => r
  | n + 1, r => .unusable :: gap n r
def poolList (es : List (Nat × CpInfo)) (last : Nat) : List CpInfo := es.foldr (fun e r => gap e.1 (e.2 :: r)) (gap last [])
def pool (es : List (Nat × CpInfo)) (last : Nat) : Array CpInfo := ⟨poolList es last⟩
def fileOf (pool : Array CpInfo) (this : Nat) (attrs : Array Attribute := #[]) (ms : Array MethodInfo := #[]) (fl : Nat := 33) (sup : Nat := 0) (ifs : Array Nat := #[]) (fds : Array FieldInfo := #[]) : ClassFile where
  minorVersion := 0
  majorVersion := 65
  constantPool := pool
  accessFlags := fl
  thisClass := this
  superClass := sup
  interfaces := ifs
  fields := fds
  methods := ms
  attributes := attrs
def plain (name : String) (sup : Option ClassId) : Class where
  name := name
  kind := .ordinary
  loader := none
  accessFlags := 33
  super := sup
  interfaces := #[]
  cf := none
  fields := #[]
  methods := #[]
  instanceTypes := #[]
  staticTypes := #[]
  resolved := #[]
  callSites := []
  init := .initialized
  statics := none
  mirror := none

def pool0 : Array CpInfo := pool [(5, u "<init>"), (0, u "()V"), (1, .class_ 10), (1, u "java/lang/Object")] 113

def k0m0 : Method := { name := "<init>", desc := "()V", sig := { parameters := [], returnType := none }, accessFlags := 1, code := none }
/-- java/lang/Object -/
def k0 : Class := { plain "java/lang/Object" none with
  accessFlags := 33
  interfaces := #[]
  cf := some (fileOf pool0 8 #[] #[{ accessFlags := 1, nameIndex := 5, descriptorIndex := 6, attributes := #[] }] 33 0 #[] #[])
  fields := #[]
  methods := #[k0m0]
  instanceTypes := #[]
  staticTypes := #[]
  resolved := Array.replicate 124 none
  statics := none }

def pool1 : Array CpInfo := pool [(2, .class_ 4), (1, u "java/lang/Object"), (0, u "<init>"), (0, u "()V"), (0, .methodref 8 9), (0, .class_ 10), (0, .nameAndType 11 12), (0, u "com/example/drawline/drawline/model/Application$Status"), (0, u "of"), (0, u "(ZZ)Lcom/example/drawline/drawline/model/Application$Status;"), (0, .fieldref 8 14), (0, .nameAndType 15 16), (0, u "PAID"), (0, u "Lcom/example/drawline/drawline/model/Application$Status;"), (0, .fieldref 8 18), (0, .nameAndType 19 16), (0, u "CERTIFIED"), (0, .fieldref 8 21), (0, .nameAndType 22 16), (0, u "OPEN"), (0, .class_ 24), (0, u "com/example/drawline/drawline/model/StatusOfPinLaw"), (2, u "law"), (0, u "(I)Z")] 7

def k1m0 : Method := { name := "<init>", desc := "()V", sig := { parameters := [], returnType := none }, accessFlags := 2, code := none }
def k1c1 : Code := { maxStack := 2, maxLocals := 10, code := code, exceptionTable := #[], attributes := #[] }
def k1m1 : Method := { name := "law", desc := "(I)Z", sig := { parameters := [.int], returnType := some .boolean }, accessFlags := 9, code := some k1c1 }
/-- com/example/drawline/drawline/model/StatusOfPinLaw -/
def k1 : Class := { plain "com/example/drawline/drawline/model/StatusOfPinLaw" (some 0) with
  accessFlags := 49
  interfaces := #[]
  cf := some (fileOf pool1 23 #[] #[{ accessFlags := 2, nameIndex := 5, descriptorIndex := 6, attributes := #[] }, { accessFlags := 9, nameIndex := 27, descriptorIndex := 28, attributes := #[] }] 49 2 #[] #[])
  fields := #[]
  methods := #[k1m0, k1m1]
  instanceTypes := #[]
  staticTypes := #[]
  resolved := Array.replicate 36 none
  statics := none }

def pool2 : Array CpInfo := pool [(1, .class_ 2), (0, u "java/lang/constant/Constable"), (0, .class_ 4), (0, u "java/lang/Object")] 6

/-- java/lang/constant/Constable -/
def k2 : Class := { plain "java/lang/constant/Constable" (some 0) with
  accessFlags := 1537
  interfaces := #[]
  cf := some (fileOf pool2 1 #[] #[] 1537 3 #[] #[])
  fields := #[]
  methods := #[]
  instanceTypes := #[]
  staticTypes := #[]
  resolved := Array.replicate 11 none
  statics := none }

def pool3 : Array CpInfo := pool [(1, .class_ 2), (0, u "java/lang/Comparable"), (0, .class_ 4), (0, u "java/lang/Object")] 7

/-- java/lang/Comparable -/
def k3 : Class := { plain "java/lang/Comparable" (some 0) with
  accessFlags := 1537
  interfaces := #[]
  cf := some (fileOf pool3 1 #[] #[] 1537 3 #[] #[])
  fields := #[]
  methods := #[]
  instanceTypes := #[]
  staticTypes := #[]
  resolved := Array.replicate 12 none
  statics := none }

def pool4 : Array CpInfo := pool [(1, .class_ 2), (0, u "java/io/Serializable"), (0, .class_ 4), (0, u "java/lang/Object")] 2

/-- java/io/Serializable -/
def k4 : Class := { plain "java/io/Serializable" (some 0) with
  accessFlags := 1537
  interfaces := #[]
  cf := some (fileOf pool4 1 #[] #[] 1537 3 #[] #[])
  fields := #[]
  methods := #[]
  instanceTypes := #[]
  staticTypes := #[]
  resolved := Array.replicate 7 none
  statics := none }

def pool5 : Array CpInfo := pool [(2, .class_ 4), (1, u "java/lang/Enum"), (0, u "name"), (0, u "Ljava/lang/String;"), (2, u "ordinal"), (0, u "I"), (1, .class_ 14), (1, u "java/lang/Object"), (4, u "hash"), (86, .class_ 108), (1, u "java/lang/Enum$EnumDesc"), (2, .class_ 112), (0, u "java/lang/constant/Constable"), (0, .class_ 114), (0, u "java/lang/Comparable"), (0, .class_ 116), (0, u "java/io/Serializable")] 87

/-- java/lang/Enum -/
def k5 : Class := { plain "java/lang/Enum" (some 0) with
  accessFlags := 1057
  interfaces := #[2, 3, 4]
  cf := some (fileOf pool5 2 #[.nestMembers #[106]] #[] 1057 12 #[111, 113, 115] #[{ accessFlags := 18, nameIndex := 5, descriptorIndex := 6, attributes := #[] }, { accessFlags := 18, nameIndex := 9, descriptorIndex := 10, attributes := #[] }, { accessFlags := 2, nameIndex := 19, descriptorIndex := 10, attributes := #[] }])
  fields := #[{ name := "name", type := (.object "java/lang/String"), accessFlags := 18, slot := 0, constantValue := 0 }, { name := "ordinal", type := .int, accessFlags := 18, slot := 1, constantValue := 0 }, { name := "hash", type := .int, accessFlags := 2, slot := 2, constantValue := 0 }]
  methods := #[]
  instanceTypes := #[(.object "java/lang/String"), .int, .int]
  staticTypes := #[]
  resolved := Array.replicate 204 none
  statics := none }

def pool6 : Array CpInfo := pool [(1, .class_ 2), (0, u "com/example/drawline/drawline/model/Application$Status"), (0, .fieldref 1 4), (0, .nameAndType 5 6), (0, u "OPEN"), (0, u "Lcom/example/drawline/drawline/model/Application$Status;"), (0, .fieldref 1 8), (0, .nameAndType 9 6), (0, u "CERTIFIED"), (0, .fieldref 1 11), (0, .nameAndType 12 6), (0, u "PAID"), (2, u "$VALUES"), (0, u "[Lcom/example/drawline/drawline/model/Application$Status;"), (6, .class_ 25), (1, u "java/lang/Enum"), (8, u "code"), (0, u "Ljava/lang/String;"), (2, u "label"), (30, u "of"), (0, u "(ZZ)Lcom/example/drawline/drawline/model/Application$Status;"), (7, .class_ 79), (0, u "com/example/drawline/drawline/model/Application")] 2

def k6c0 : Code := { maxStack := 1, maxLocals := 3, code := prog_26_method_6_code, exceptionTable := #[], attributes := #[] }
def k6m0 : Method := { name := "of", desc := "(ZZ)Lcom/example/drawline/drawline/model/Application$Status;", sig := { parameters := [.boolean, .boolean], returnType := some (.object "com/example/drawline/drawline/model/Application$Status") }, accessFlags := 9, code := some k6c0 }
/-- com/example/drawline/drawline/model/Application$Status -/
def k6 : Class := { plain "com/example/drawline/drawline/model/Application$Status" (some 5) with
  accessFlags := 16433
  interfaces := #[]
  cf := some (fileOf pool6 1 #[.nestHost 78] #[{ accessFlags := 9, nameIndex := 69, descriptorIndex := 70, attributes := #[] }] 16433 23 #[] #[{ accessFlags := 16409, nameIndex := 5, descriptorIndex := 6, attributes := #[] }, { accessFlags := 16409, nameIndex := 9, descriptorIndex := 6, attributes := #[] }, { accessFlags := 16409, nameIndex := 12, descriptorIndex := 6, attributes := #[] }, { accessFlags := 18, nameIndex := 34, descriptorIndex := 35, attributes := #[] }, { accessFlags := 18, nameIndex := 38, descriptorIndex := 35, attributes := #[] }, { accessFlags := 4122, nameIndex := 15, descriptorIndex := 16, attributes := #[] }])
  fields := #[{ name := "OPEN", type := (.object "com/example/drawline/drawline/model/Application$Status"), accessFlags := 16409, slot := 0, constantValue := 0 }, { name := "CERTIFIED", type := (.object "com/example/drawline/drawline/model/Application$Status"), accessFlags := 16409, slot := 1, constantValue := 0 }, { name := "PAID", type := (.object "com/example/drawline/drawline/model/Application$Status"), accessFlags := 16409, slot := 2, constantValue := 0 }, { name := "code", type := (.object "java/lang/String"), accessFlags := 18, slot := 3, constantValue := 0 }, { name := "label", type := (.object "java/lang/String"), accessFlags := 18, slot := 4, constantValue := 0 }, { name := "$VALUES", type := (.array (.object "com/example/drawline/drawline/model/Application$Status")), accessFlags := 4122, slot := 3, constantValue := 0 }]
  methods := #[k6m0]
  instanceTypes := #[(.object "java/lang/String"), .int, .int, (.object "java/lang/String"), (.object "java/lang/String")]
  staticTypes := #[(.object "com/example/drawline/drawline/model/Application$Status"), (.object "com/example/drawline/drawline/model/Application$Status"), (.object "com/example/drawline/drawline/model/Application$Status"), (.array (.object "com/example/drawline/drawline/model/Application$Status"))]
  resolved := Array.replicate 82 none
  statics := some 0 }

def pool7 : Array CpInfo := pool [(1, u "java/lang/Cloneable"), (0, .class_ 1), (0, u "java/lang/Object"), (0, .class_ 3)] 3

/-- java/lang/Cloneable -/
def k7 : Class := { plain "java/lang/Cloneable" (some 0) with
  accessFlags := 1537
  interfaces := #[]
  cf := some (fileOf pool7 2 #[] #[] 1537 4 #[] #[])
  fields := #[]
  methods := #[]
  instanceTypes := #[]
  staticTypes := #[]
  resolved := Array.replicate 8 none
  statics := none }

/-- the primitive byte -/
def k8 : Class := { plain "byte" none with kind := .primitive 'B', accessFlags := 0x411 }
/-- [B -/
def k9 : Class := { plain "[B" (some 0) with kind := .array 8 .byte, interfaces := #[7, 4], accessFlags := 1041 }

/-- the primitive int -/
def k10 : Class := { plain "int" none with kind := .primitive 'I', accessFlags := 0x411 }
/-- [I -/
def k11 : Class := { plain "[I" (some 0) with kind := .array 10 .int, interfaces := #[7, 4], accessFlags := 1041 }

def heap : Heap := #[{ cls := 6, slots := #[.ref 1, .ref 2, .ref 3, .null], vm := .statics 6 },
  { cls := 6, slots := #[.null, .int 0, .int 0, .null, .null], vm := .none },
  { cls := 6, slots := #[.null, .int 1, .int 0, .null, .null], vm := .none },
  { cls := 6, slots := #[.null, .int 2, .int 0, .null, .null], vm := .none }]
def classes : Array Class := #[k0, k1, k2, k3, k4, k5, k6, k7, k8, k9, k10, k11]
def interned : List (Array UInt16 × Addr) := []
def slotsUsed : Nat := 19
def theMethod : MethodId := ⟨1, 1⟩
def args0 : Array Value := #[.int 5]
def aboutOver (below : List Frame) : State where
  vm := { classes := classes, interned := interned.toArray }
  heap := heap
  slotsUsed := slotsUsed
  threads := #[{ frames := .invoking theMethod args0 :: below }]
def below0 : List Frame := [.native { method := ⟨0, 0⟩, args := #[] }]
def about1 : State := aboutOver below0
def p0 : Program := .bare "" "" ""
def e0 : Env := launch0.env 0 0 0
theorem w_frames : about1.frames = Frame.invoking theMethod args0 :: below0 := rfl
set_option maxRecDepth 65536 in
theorem w_args : argsFit about1.vm theMethod args0 = true := by decide +kernel
set_option maxRecDepth 65536 in
theorem w_heap : heapFits about1 = true := by decide +kernel
set_option maxRecDepth 65536 in
theorem w_runnable : about1.curStatus? = some .runnable := by decide +kernel
set_option maxRecDepth 65536 in
theorem w_alone : about1.alone = true := by decide +kernel
set_option maxRecDepth 65536 in
theorem w_named : about1.methodNamed? x = some theMethod := by decide +kernel
set_option maxRecDepth 65536 in
theorem w_hears : about1.hears theMethod below0 = true := by decide +kernel
set_option maxRecDepth 65536 in
theorem w_ripe : about1.ripe theMethod args0 below0 = true := by decide +kernel
theorem w_running : about1.status = .running := rfl
set_option maxRecDepth 65536 in
theorem w_room : about1.hasRoom e0.platform room_1 = true :=
  launch0.hasRoom_least _ room_1 (by decide +kernel) (by decide +kernel) (by decide +kernel) (by decide +kernel) (by decide +kernel) (by decide +kernel)
theorem allAtoms_all (ts : List Jvm.Cond) (a : Array Jvm.Value) (st : Jvm.State) : (allAtoms ts).before a st = ts.all (fun c => c.before a st) := by
  induction ts with
  | nil => rfl
  | cons c t ih =>
    show (Jvm.Cond.and c (allAtoms t)).before a st = _
    rw [Jvm.Cond.before_and, ih, List.all_cons]
def words1 : List Jvm.Cond := Jvm.Cond.code x code maxLocals ret :: tables_1
/-- a 'code' word, met by the world's own term for the bytes: nothing is compared byte by byte -/
theorem code_word {y : MethodName} {bytes : ByteArray} {mx : Nat} {rt : Option FieldType} {a : Array Value} {s : State} {m : MethodId} {meth : Method} {c : Code} (h1 : s.methodNamed? y = some m) (h2 : s.vm.method? m = some meth) (h3 : meth.code = some c) (h4 : c.code = bytes)
    (h5 : (c.maxLocals == mx && c.exceptionTable.isEmpty && decide (c.maxStack ≤ mostOperands) && decide (meth.sig.returnType = rt) && !meth.locks && decide (parseMethodDescriptor y.desc = some meth.sig)) = true) : (Jvm.Cond.code y bytes mx rt).before a s = true := by
  simp only [Bool.and_eq_true, beq_iff_eq, Bool.not_eq_true', decide_eq_true_eq] at h5
  obtain ⟨⟨⟨⟨⟨g1, g2⟩, g3⟩, g4⟩, g5⟩, g6⟩ := h5
  simp [Cond.before, Cond.holds, Cond.value, h1, h2, h3, h4, g1, g2, g3, g4, g5, g6]
def isCode : Jvm.Cond → Bool
  | .code _ _ _ _ => true
  | _ => false
theorem all_split {L : List Jvm.Cond} {P : Jvm.Cond → Bool} (h1 : L.all (fun c => isCode c || P c) = true) (h2 : ∀ c ∈ L.filter isCode, P c = true) : L.all P = true := by
  refine List.all_eq_true.mpr fun c hc => ?_
  have h := List.all_eq_true.mp h1 c hc
  rcases Bool.eq_false_or_eq_true (isCode c) with hi | hi
  · exact h2 c (List.mem_filter.mpr ⟨hc, hi⟩)
  · simpa [hi] using h
set_option maxRecDepth 65536 in
theorem w_c0 : (Jvm.Cond.code x code maxLocals ret).before args0 about1 = true := code_word (m := ⟨1, 1⟩) (meth := k1m1) (c := k1c1) (by decide +kernel) rfl rfl rfl (by decide +kernel)
set_option maxRecDepth 65536 in
theorem w_c1 : (Jvm.Cond.code ({ cls := "com/example/drawline/drawline/model/Application$Status", name := "of", desc := "(ZZ)Lcom/example/drawline/drawline/model/Application$Status;" } : Jvm.MethodName) prog_26_method_6_code (3 : Nat) (Option.some (Jvm.ClassFile.FieldType.object "com/example/drawline/drawline/model/Application$Status"))).before args0 about1 = true := code_word (m := ⟨6, 0⟩) (meth := k6m0) (c := k6c0) (by decide +kernel) rfl rfl rfl (by decide +kernel)
def codes1 : List Jvm.Cond := [Jvm.Cond.code x code maxLocals ret, Jvm.Cond.code ({ cls := "com/example/drawline/drawline/model/Application$Status", name := "of", desc := "(ZZ)Lcom/example/drawline/drawline/model/Application$Status;" } : Jvm.MethodName) prog_26_method_6_code (3 : Nat) (Option.some (Jvm.ClassFile.FieldType.object "com/example/drawline/drawline/model/Application$Status"))]
set_option maxRecDepth 65536 in
theorem codes_eq : words1.filter isCode = codes1 := rfl
theorem w_codes : ∀ c ∈ words1.filter isCode, c.before args0 about1 = true := by
  rw [codes_eq]
  intro c hc
  simp only [codes1, List.mem_cons, List.not_mem_nil, or_false] at hc
  rcases hc with rfl | rfl
  · exact w_c0
  · exact w_c1
set_option maxRecDepth 65536 in
theorem w_t1 : words1.all (fun c => isCode c || c.before args0 about1) = true := by decide +kernel
theorem w_tables : (allAtoms (Jvm.Cond.code x code maxLocals ret :: tables_1)).before args0 about1 = true := by
  rw [allAtoms_all]
  show words1.all (fun c => c.before args0 about1) = true
  refine all_split ?_ w_codes
  rw [w_t1]
set_option maxRecDepth 65536 in
theorem w_case : (Jvm.Cond.and given_1 narrow_1).before args0 about1 = true := by decide +kernel
theorem w_applies : (headSpec (Jvm.Cond.code x code maxLocals ret :: tables_1) room_1).applies x e0.platform about1 = true :=
  (Spec.applies_iff w_frames).mpr ⟨w_running, w_runnable, w_alone, w_named, w_hears, w_ripe, w_room, w_tables⟩
theorem atStart : AtStart classFile x code maxLocals ret World_1 tables_1 room_1 Calls_1 rest_1 Pre_1 launch0 p0 e0 about1 theMethod args0 below0 :=
  ⟨lists_1, trivial, launch0.admits_env _ _ _, launch0.least_env, fairChoices_fair.cas, fairChoices_fair.clock, w_frames, w_args, w_heap, w_applies, trivial, trivial, w_case⟩
end start1
theorem witness_1 : WitnessClaimed_1 := ⟨start1.p0, start1.e0, start1.about1, start1.theMethod, start1.args0, start1.below0, start1.atStart⟩
end Jvm.Pilot.@@N@@
