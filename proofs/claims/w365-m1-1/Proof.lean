import JvmDerived
import JvmDerived.Pilot.@@N@@Statement
import JvmDerived.Pilot.@@N@@Code
set_option linter.unusedVariables false
set_option linter.unusedSimpArgs false
namespace Jvm.RoadKit
open Sem ClassFile Op Lib Jvm.Stand Jvm.Free Jvm.LawKit
section New
variable {p : Program} {l : Launch} {e : Env} {R : Room} {s : State} {m : MethodId} {args : Array Value} {below : List Frame} {meth : Method} {c : Code} {T : State} {locs : List Loc} {cells slots : Nat}
theorem retI (X : Stand p l e R s m args below meth c T locs cells slots) (hx : p.tables.exec = Jvm.exec) {pc : Nat} {Ls : Array Slot} {z : Int32} {rest : List Value} (hret : meth.sig.returnType = some .int) (hd : decode c.code pc = .ok (.ireturn, 1)) {fs : List Frame}
    (hl : ∀ (f : JFrame) (acts : List Action), f.method = m → f.locked = none → f.entered = [] → (doReturn e (T.setTop f) acts (some (.int z))).1 = T.setFrames fs) : Steps p.tables e below (T.setTop (mkF m pc Ls (.int z :: rest))) (T.setFrames fs) :=
  retOut X hx hret rfl (Or.inl ⟨rfl, Or.inl rfl, _, rfl⟩) hd hl
theorem own_retA (X : Stand p l e R s m args below meth c T locs cells slots) (hx : p.tables.exec = Jvm.exec) {pc : Nat} {Ls : Array Slot} {w : Value} {t : FieldType} {rest : List Value} (hret : meth.sig.returnType = some t) (ht : t.isReference = true) (hw : w.isRef = true) (hd : decode c.code pc = .ok (.areturn, 1)) {fs : List Frame}
    (hl : ∀ (f : JFrame) (acts : List Action), f.method = m → f.locked = none → f.entered = [] → (doReturn e (T.setTop f) acts (some w)).1 = T.setFrames fs) : Steps p.tables e below (T.setTop (mkF m pc Ls (w :: rest))) (T.setFrames fs) :=
  retOut X hx hret (by cases w <;> first | (simp [Value.isRef] at hw; done) | (cases t <;> rfl)) (Or.inr (Or.inr (Or.inr (Or.inr ⟨rfl, ht, hw⟩)))) hd hl
theorem own_retJ (X : Stand p l e R s m args below meth c T locs cells slots) (hx : p.tables.exec = Jvm.exec) {pc : Nat} {Ls : Array Slot} {z : Int64} {rest : List Value} (hret : meth.sig.returnType = some .long) (hd : decode c.code pc = .ok (.lreturn, 1)) {fs : List Frame}
    (hl : ∀ (f : JFrame) (acts : List Action), f.method = m → f.locked = none → f.entered = [] → (doReturn e (T.setTop f) acts (some (.long z))).1 = T.setFrames fs) : Steps p.tables e below (T.setTop (mkF m pc Ls (.long z :: rest))) (T.setFrames fs) :=
  retOut X hx hret rfl (Or.inr (Or.inl ⟨rfl, rfl, _, rfl⟩)) hd hl
/-- the walk goes on from here and ends as Q says -/
def own_Go (p : Program) (e : Env) (below : List Frame) (T : State) (g : JFrame) (Q : Outcome → State → Prop) : Prop :=
  ∃ s₂ o, Steps p.tables e below (T.setTop g) s₂ ∧ s₂.status = .running ∧ Ended s₂ below o ∧ Q o s₂
theorem own_go {T T' : State} {g g' : JFrame} {Q : Outcome → State → Prop} (h : ∀ t, Steps p.tables e below (T'.setTop g') t → Steps p.tables e below (T.setTop g) t) (k : own_Go p e below T' g' Q) : own_Go p e below T g Q := by
  obtain ⟨s₂, o, a, b⟩ := k
  exact ⟨s₂, o, h _ a, b⟩
theorem own_cast {g g' : JFrame} {Q : Outcome → State → Prop} (q : g = g') (k : own_Go p e below T g' Q) : own_Go p e below T g Q := by
  subst q; exact k
theorem own_in {g g' : JFrame} {Q : Outcome → State → Prop} (q : g = g') (k : own_Go p e below T g' Q) : ∃ s₂ o, Steps p.tables e below (T.setTop g) s₂ ∧ s₂.status = .running ∧ Ended s₂ below o ∧ Q o s₂ := by
  subst q; exact k
theorem own_out (X : Stand p l e R s m args below meth c T locs cells slots) {g : JFrame} {v : Option Value} (hv : meth.sig.returnType = none → v = none) (hlk : meth.locks = false)
    (h : ∀ fs, (∀ (f : JFrame) (acts : List Action), f.method = m → f.locked = none → f.entered = [] → (doReturn e (T.setTop f) acts v).1 = T.setFrames fs) → Steps p.tables e below (T.setTop g) (T.setFrames fs))
    {Q : Option Value → Heap → List Loc → Prop} (hQ : Q v T.heap locs) {k n : Nat} (hc : cells ≤ k) (hn : slots ≤ n) :
    own_Go p e below T g (fun o U' => ∃ v L, o = .returned v ∧ Q v U'.heap L ∧ FrameEnd s o U' L k n) := by
  obtain ⟨fs, hr, hrun, hended, hW, hsame⟩ := X.leave hv hlk
  exact ⟨_, _, h fs hr, hrun, hended, _, _, rfl, hQ, ⟨_, rfl⟩, hW, hsame.mono hc hn⟩
theorem own_since (s : State) : s.Since s.vm 0 := ⟨State.Warmed39.refl s, fun j p hj hp => by
  rw [Array.getElem?_eq_none hj] at hp; cases hp⟩
theorem own_outW {vm₁ : Vm} (X : Stand p l e R (s.setVm vm₁) m args below meth c T locs cells slots) {n0 : Nat} (hS : s.Since vm₁ n0) (hn0 : n0 ≤ T.heap.size) {g : JFrame} {v : Option Value} (hv : meth.sig.returnType = none → v = none) (hlk : meth.locks = false)
    (h : ∀ fs, (∀ (f : JFrame) (acts : List Action), f.method = m → f.locked = none → f.entered = [] → (doReturn e (T.setTop f) acts v).1 = T.setFrames fs) → Steps p.tables e below (T.setTop g) (T.setFrames fs))
    {Q : Option Value → Heap → List Loc → Prop} (hQ : Q v T.heap locs) {k n : Nat} (hc : cells ≤ k) (hn : slots ≤ n) :
    own_Go p e below T g (fun o U' => ∃ v L, o = .returned v ∧ Q v U'.heap L ∧ ReturnedEndW s o U' L k n) := by
  obtain ⟨fs, hr, hrun, hended, h1, h2, h3, h4⟩ := X.leaveW hS hn0 hv hlk
  exact ⟨_, _, h fs hr, hrun, hended, _, _, rfl, hQ, h1, h2, h3, h4.mono hc hn⟩
theorem own_ltN {a n : Nat} (h : a < n) : a < n := h
theorem own_leN {a n : Nat} (h : a ≤ n) : a ≤ n := h
theorem own_ne {a b : Nat} (h : a ≠ b) : a ≠ b := h
theorem own_t0 {P : Prop} [Decidable P] (h : P) : (if P then (0 : Int32) else (1 : Int32)) = 0 := if_pos h
theorem own_f0 {P : Prop} [Decidable P] (h : ¬ P) : ¬ (if P then (0 : Int32) else (1 : Int32)) = 0 := by rw [if_neg h]; decide
theorem own_t1 {P : Prop} [Decidable P] (h : P) : ¬ (if P then (1 : Int32) else (0 : Int32)) = 0 := by rw [if_pos h]; decide
theorem own_f1 {P : Prop} [Decidable P] (h : ¬ P) : (if P then (1 : Int32) else (0 : Int32)) = 0 := if_neg h
end New
end Jvm.RoadKit
namespace Jvm.Pilot.@@N@@
open Jvm Jvm.ClassFile Sem Op Lib Jvm.Free Jvm.Stand Jvm.LawKit Jvm.RoadKit Bundle Jvm.Pilot.@@N@@.Jvm.D

def own_LongAt (Z : State) (h : Heap) (b : Addr) : Prop := ∃ cell : Cell, h[b]? = some cell ∧ Z.vm.findClass "java/lang/Long" = some cell.cls ∧ cell.vm.isStatics = false
def own_NoF (Z : State) : Prop := ∃ c t, Z.vm.findClass "java/lang/Long" = some c ∧ Z.vm.findClass "com/example/cover/cover/FeatureId" = some t ∧ Z.vm.assignable c t = false
theorem own_root {Z : State} {a0 : Array Value} {O K : String} {n : Nat} (w : (Jvm.Cond.noSuperclass O).before a0 Z = true) (wi : (Jvm.Cond.instantiable K n).before a0 Z = true) (hn : O ≠ K) : NS Z O K := by
  obtain ⟨c, k, h1, h2, h3, -, -⟩ := Cond.noSuperclass_spec w
  obtain ⟨t, k', g1, -⟩ := Cond.instantiable_spec wi
  have ne := ids_ne h1 g1 hn
  refine ⟨c, t, h1, g1, fun fuel => ?_⟩
  cases fuel with
  | zero => rfl
  | succ f => simp [Vm.isSubclassAux, ne, h2, h3]
theorem own_no {Z : State} {a0 : Array Value} {C S K : String} {n : Nat} (w : (Jvm.Cond.superclass C S).before a0 Z = true) (wi : (Jvm.Cond.instantiable K n).before a0 Z = true) (ns : NS Z C K) (hn : C ≠ K) : ∃ c t, Z.vm.findClass C = some c ∧ Z.vm.findClass K = some t ∧ Z.vm.assignable c t = false := by
  obtain ⟨c, t, h0, g0, n3⟩ := ns
  obtain ⟨p, k, kp, h1, h2, h3, h4, h5, -, h7⟩ := Cond.superclass_spec h0 w
  obtain ⟨t', k', g1, g2, g3, g4, -⟩ := Cond.instantiable_spec wi
  cases g0.symm.trans g1
  have ne := ids_ne h0 g0 hn
  have g7 : k'.isInterface = false := by
    rcases hq : k'.isInterface with _ | _
    · rfl
    · rw [hq] at g4; cases g4
  refine ⟨c, t, h0, g0, ?_⟩
  show Z.vm.assignableAux (255 + 1) c t = false
  simp [Vm.assignableAux, ne, h2, g2, h5, g3, g7, Vm.isSubclass, n3]
theorem own_insF {Z : State} {h : Heap} {b : Addr} (A : own_LongAt Z h b) (N : own_NoF Z) : Ins Z h b "com/example/cover/cover/FeatureId" false := by
  obtain ⟨cell, h1, h2, h3⟩ := A
  obtain ⟨c, t, n1, n2, n3⟩ := N
  cases h2.symm.trans n1
  exact ⟨cell, t, h1, n2, by rw [n3]; simp⟩
theorem own_insL {Z : State} {h : Heap} {b : Addr} (A : own_LongAt Z h b) : Ins Z h b "java/lang/Long" true := by
  obtain ⟨cell, h1, h2, h3⟩ := A
  exact ⟨cell, cell.cls, h1, h2, by rw [h3]; simp [Vm.assignable_self]⟩
theorem own_exaL {Z : State} {h : Heap} {b : Addr} (E : Exa Z h b "java/lang/Long") : own_LongAt Z h b := by
  obtain ⟨cell, k, h1, h2, h3, h4, -⟩ := E
  exact ⟨cell, h1, h2, h4⟩
theorem own_same {s : State} {v : Int64} {cL : ClassId} {fV : Field} {g : LongBox.ValueOf.G} {as' : Array Value} {ar : Addr} (S : Sta s s.heap "java/lang/Long$LongCache" "cache" "[Ljava/lang/Long;" (.ref ar)) (P : LongBox.ValueOf.P v cL fV g as' s) : g.arr = ar := by
  obtain ⟨-, -, -, -, ⟨cf, k, i, f1, f2, f3⟩, -, hs, -, hsl, -⟩ := P
  obtain ⟨cf', i', k', f', st, cell, g1, g2, g3, g4, g5, g6, g7⟩ := S
  cases (show s.fieldFound? "java/lang/Long$LongCache" "cache" "[Ljava/lang/Long;" = some (cf, k, i, g.fCa) from f1).symm.trans g1
  cases f3.symm.trans g4
  cases hs.symm.trans g5
  cases hsl.symm.trans g7
  rfl
theorem own_conj {args : Array Value} {s : State} {L : List Jvm.Cond} (h : ∀ d ∈ L, d.before args s = true) : (conj .tt L).before args s = true :=
  (conj_holds (args := args) (first := s) (o := none) (s := s) (idx := []) _ _).mpr ⟨rfl, h⟩
theorem d_prog_7_1_0 : decode prog_7_method_1_code 0 = .ok (.aload_n 0, 1) := by decide +kernel
theorem d_prog_7_1_1 : decode prog_7_method_1_code 1 = .ok (.invokespecial 3, 3) := by decide +kernel
theorem d_prog_7_1_4 : decode prog_7_method_1_code 4 = .ok (.lload_n 1, 1) := by decide +kernel
theorem d_prog_7_1_5 : decode prog_7_method_1_code 5 = .ok (.lconst 0, 1) := by decide +kernel
theorem d_prog_7_1_6 : decode prog_7_method_1_code 6 = .ok (.lcmp, 1) := by decide +kernel
theorem d_prog_7_1_7 : decode prog_7_method_1_code 7 = .ok (.ifCond .ge 17, 3) := by decide +kernel
theorem d_prog_7_1_24 : decode prog_7_method_1_code 24 = .ok (.aload_n 0, 1) := by decide +kernel
theorem d_prog_7_1_25 : decode prog_7_method_1_code 25 = .ok (.lload_n 1, 1) := by decide +kernel
theorem d_prog_7_1_26 : decode prog_7_method_1_code 26 = .ok (.putfield 18, 3) := by decide +kernel
theorem d_prog_7_1_29 : decode prog_7_method_1_code 29 = .ok (.return_, 1) := by decide +kernel
theorem pn_0 : plainName "com/example/cover/cover/FeatureId" = true := by first | (simp [plainName, overriddenIn]; done) | decide +kernel
theorem ef_0 (m : MethodId) (a : Nat) (v : Int64) : entryFrame m #[(.ref a), (.long v)] 3 = mkF m 0 #[.val (.ref a), .val (.long v), .second] [] := by first | (simp [entryFrame, mkF, argsToLocals, Value.category]; done) | rfl
def Q_rm_init (Z : State) (a : Nat) (v : Int64) (u : Int64) (h0 : Heap) (n0 : Nat) (vv : Option Value) (h : Heap) (LL : List Loc) : Prop := vv = none ∧ Fr n0 LL ∧ Keep h0 h [a] ∧ Fld Z h a "com/example/cover/cover/FeatureId" "iValue" "J" (.long v)
set_option maxRecDepth 65536 in
set_option maxHeartbeats 40000000 in
theorem rm_init (l : Launch) (Z : State) (a0 : Array Value) (hw : ∀ d ∈ tables_1, d.before a0 Z = true) (ws : List Jvm.Cond) (a : Nat) (v : Int64) (u : Int64) (h0 : Heap) (n0 : Nat) (Z0 : n0 ≤ h0.size) (E_a : Exa Z h0 a "com/example/cover/cover/FeatureId") (F_iValue_a : Fld Z h0 a "com/example/cover/cover/FeatureId" "iValue" "J" (.long u)) (g_a : n0 ≤ a) (hv : ¬ (v < (0 : Int64))) :
    MetFree l (⟨"com/example/cover/cover/FeatureId", "<init>", "(J)V"⟩ : MethodName) (head1 (Jvm.Cond.code (⟨"com/example/cover/cover/FeatureId", "<init>", "(J)V"⟩ : MethodName) prog_7_method_1_code 3 none :: ws) ({ frames := 1, cells := 0, slots := 0, locals := 12 } : Room)) (fun aa UU => aa = #[(.ref a), (.long v)] ∧ Z.Warmed39 UU.vm ∧ UU.heap = h0) (fun _ _ _ _ _ => True) (fun _ UU oo UU' => ∃ vv LL, oo = .returned vv ∧ Q_rm_init Z a v u h0 n0 vv UU'.heap LL ∧ FrameEnd UU oo UU' LL ({ frames := 1, cells := 0, slots := 0, locals := 12 } : Room).cells ({ frames := 1, cells := 0, slots := 0, locals := 12 } : Room).slots) := by
  refine MetFree.of_bodySF (plainFor_of_name pn_0) hisR ?_
  intro p e s m args below meth c s₁ Bd hml0 hP hK
  obtain ⟨rfl, hZ, hh⟩ := hP
  have hx := Bd.exec
  have hby := Bd.bytes
  have hml : c.maxLocals = 3 := hml0
  have hown : s.vm.findClass "com/example/cover/cover/FeatureId" = some m.cls := findClass_of_methodNamed Bd.named
  have hnm := (name_of_methodNamed Bd.named Bd.method).1
  have hlk : meth.locks = false := BodyLoose.notSynchronized Bd
  have X0 : Stand p l e ({ frames := 1, cells := 0, slots := 0, locals := 12 } : Room) s m #[(.ref a), (.long v)] below meth c s₁ [] 0 0 := Stand.of_body Bd
  have e0 : s₁.heap = h0 := by rw [← hh, Bd.state]; rfl
  have N0 := Fr.nil n0
  have lt_E_a := own_ltN E_a.lt
  have lt_F_iValue_a := own_ltN F_iValue_a.lt
  refine own_in (ef_0 m a v) ?_
  refine own_go (T' := s₁) (g' := (mkF m 1 #[.val (.ref a), .val (.long v), .second] [(.ref a)])) (fun t_ k_ => XS.aloadN X0.here hx rfl (hb hby d_prog_7_1_0) rfl rfl k_) ?_
  obtain ⟨T1, X1, e1, st1⟩ := initO X0 hx hZ hown (hw _ (List.mem_of_getElem? (i := 7) rfl)) (hw _ (List.mem_of_getElem? (i := 8) rfl)) (hw _ (List.mem_of_getElem? (i := 9) rfl)) e0 (g := (mkF m 1 #[.val (.ref a), .val (.long v), .second] [(.ref a)])) rfl (by rw [hml]; rfl) rfl (hb hby d_prog_7_1_1) (by decide) (W := 0) (by show 2 * 0 + _ ≤ _; exact Nat.le_of_eq rfl) (by decide)
  refine own_go (T' := T1) (g' := (mkF m 4 #[.val (.ref a), .val (.long v), .second] [])) (fun t_ k_ => st1 _ k_) ?_
  refine own_go (T' := T1) (g' := (mkF m 5 #[.val (.ref a), .val (.long v), .second] [(.long v)])) (fun t_ k_ => XS.lloadN X1.here hx rfl (hb hby d_prog_7_1_4) rfl k_) ?_
  refine own_go (T' := T1) (g' := (mkF m 6 #[.val (.ref a), .val (.long v), .second] [(.long (0 : Int64)), (.long v)])) (fun t_ k_ => XS.lconst X1.here hx rfl (hb hby d_prog_7_1_5) k_) ?_
  refine own_go (T' := T1) (g' := (mkF m 7 #[.val (.ref a), .val (.long v), .second] [(.int (lcmpW v (0 : Int64)))])) (fun t_ k_ => XS.lcmp X1.here hx rfl (hb hby d_prog_7_1_6) rfl k_) ?_
  refine own_go (T' := T1) (g' := (mkF m 24 #[.val (.ref a), .val (.long v), .second] [])) (fun t_ k_ => XS.ifYes X1.here hx rfl (pc0 := 7) (pc' := 24) rfl (hb hby d_prog_7_1_7) rfl ((if0 _ _).trans (flt (fun z => hv ((lw_lt _ _).mp z))).2.1) (by decide) (by decide) k_) ?_
  refine own_go (T' := T1) (g' := (mkF m 25 #[.val (.ref a), .val (.long v), .second] [(.ref a)])) (fun t_ k_ => XS.aloadN X1.here hx rfl (hb hby d_prog_7_1_24) rfl rfl k_) ?_
  refine own_go (T' := T1) (g' := (mkF m 26 #[.val (.ref a), .val (.long v), .second] [(.long v), (.ref a)])) (fun t_ k_ => XS.lloadN X1.here hx rfl (hb hby d_prog_7_1_25) rfl k_) ?_
  obtain ⟨T2, h2, X2, e2, W2, st2⟩ := putF X1 hx hZ hown (host := "") (Or.inl (hw _ (List.mem_of_getElem? (i := 10) rfl))) Via.refl e1 F_iValue_a E_a (Or.inr ⟨(hw _ (List.mem_of_getElem? (i := 11) rfl)), rfl, hnm⟩) (hw _ (List.mem_of_getElem? (i := 2) rfl)) (ty := .long) (by decide) rfl rfl (g := (mkF m 26 #[.val (.ref a), .val (.long v), .second] [(.long v), (.ref a)])) rfl rfl (hb hby d_prog_7_1_26)
  have F2 := F_iValue_a.same W2
  have z2 := W2.size
  have N2 := Fr.snoc X2 N0 (show n0 ≤ a by omega)
  have K2 := (Keep.refl h0 [a]).wr W2 (Or.inl (List.mem_of_getElem? (i := 0) rfl))
  refine own_go (T' := T2) (g' := (mkF m 29 #[.val (.ref a), .val (.long v), .second] [])) (fun t_ k_ => st2 _ k_) ?_
  exact own_out X2 (v := none) (fun _ => rfl) hlk (fun fs hr => X2.returnOut hx Bd.returns (hb hby d_prog_7_1_29) hr) (Q := Q_rm_init Z a v u h0 n0) (by rw [e2]; exact ⟨rfl, N2, K2, F2⟩) (by decide) (by decide)
theorem d_prog_7_11_0 : decode prog_7_method_11_code 0 = .ok (.aload_n 1, 1) := by decide +kernel
theorem d_prog_7_11_1 : decode prog_7_method_11_code 1 = .ok (.instanceof 1, 3) := by decide +kernel
theorem d_prog_7_11_4 : decode prog_7_method_11_code 4 = .ok (.ifCond .eq 22, 3) := by decide +kernel
theorem d_prog_7_11_7 : decode prog_7_method_11_code 7 = .ok (.aload_n 1, 1) := by decide +kernel
theorem d_prog_7_11_8 : decode prog_7_method_11_code 8 = .ok (.checkcast 1, 3) := by decide +kernel
theorem d_prog_7_11_11 : decode prog_7_method_11_code 11 = .ok (.getfield 18, 3) := by decide +kernel
theorem d_prog_7_11_14 : decode prog_7_method_11_code 14 = .ok (.aload_n 0, 1) := by decide +kernel
theorem d_prog_7_11_15 : decode prog_7_method_11_code 15 = .ok (.getfield 18, 3) := by decide +kernel
theorem d_prog_7_11_18 : decode prog_7_method_11_code 18 = .ok (.lcmp, 1) := by decide +kernel
theorem d_prog_7_11_19 : decode prog_7_method_11_code 19 = .ok (.ifCond .ne 7, 3) := by decide +kernel
theorem d_prog_7_11_22 : decode prog_7_method_11_code 22 = .ok (.iconst 1, 1) := by decide +kernel
theorem d_prog_7_11_23 : decode prog_7_method_11_code 23 = .ok (.goto 4, 3) := by decide +kernel
theorem d_prog_7_11_27 : decode prog_7_method_11_code 27 = .ok (.ireturn, 1) := by decide +kernel
theorem d_prog_7_11_26 : decode prog_7_method_11_code 26 = .ok (.iconst 0, 1) := by decide +kernel
theorem ef_1 (m : MethodId) (a : Nat) (b : Nat) : entryFrame m #[(.ref a), (.ref b)] 2 = mkF m 0 #[.val (.ref a), .val (.ref b)] [] := by first | (simp [entryFrame, mkF, argsToLocals, Value.category]; done) | rfl
def Q_rm_eq (Z : State) (a : Nat) (b : Nat) (u : Int64) (w : Int64) (r : Int32) (h0 : Heap) (n0 : Nat) (vv : Option Value) (h : Heap) (LL : List Loc) : Prop := vv = some (.int r) ∧ Fr n0 LL ∧ h = h0
set_option maxRecDepth 65536 in
set_option maxHeartbeats 40000000 in
theorem rm_eq (l : Launch) (Z : State) (a0 : Array Value) (hw : ∀ d ∈ tables_1, d.before a0 Z = true) (ws : List Jvm.Cond) (a : Nat) (b : Nat) (u : Int64) (w : Int64) (r : Int32) (h0 : Heap) (n0 : Nat) (Z0 : n0 ≤ h0.size) (E_b : Exa Z h0 b "com/example/cover/cover/FeatureId") (F_iValue_a : Fld Z h0 a "com/example/cover/cover/FeatureId" "iValue" "J" (.long u)) (F_iValue_b : Fld Z h0 b "com/example/cover/cover/FeatureId" "iValue" "J" (.long w)) (hr0 : r = (if w = u then (1 : Int32) else (0 : Int32))) :
    MetFree l (⟨"com/example/cover/cover/FeatureId", "equals", "(Ljava/lang/Object;)Z"⟩ : MethodName) (head1 (Jvm.Cond.code (⟨"com/example/cover/cover/FeatureId", "equals", "(Ljava/lang/Object;)Z"⟩ : MethodName) prog_7_method_11_code 2 (some .boolean) :: ws) ({ frames := 0, cells := 0, slots := 0, locals := 0 } : Room)) (fun aa UU => aa = #[(.ref a), (.ref b)] ∧ Z.Warmed39 UU.vm ∧ UU.heap = h0) (fun _ _ _ _ _ => True) (fun _ UU oo UU' => ∃ vv LL, oo = .returned vv ∧ Q_rm_eq Z a b u w r h0 n0 vv UU'.heap LL ∧ FrameEnd UU oo UU' LL ({ frames := 0, cells := 0, slots := 0, locals := 0 } : Room).cells ({ frames := 0, cells := 0, slots := 0, locals := 0 } : Room).slots) := by
  refine MetFree.of_bodySF (plainFor_of_name pn_0) hisR ?_
  intro p e s m args below meth c s₁ Bd hml0 hP hK
  obtain ⟨rfl, hZ, hh⟩ := hP
  have hx := Bd.exec
  have hby := Bd.bytes
  have hml : c.maxLocals = 2 := hml0
  have hown : s.vm.findClass "com/example/cover/cover/FeatureId" = some m.cls := findClass_of_methodNamed Bd.named
  have hnm := (name_of_methodNamed Bd.named Bd.method).1
  have hlk : meth.locks = false := BodyLoose.notSynchronized Bd
  have X0 : Stand p l e ({ frames := 0, cells := 0, slots := 0, locals := 0 } : Room) s m #[(.ref a), (.ref b)] below meth c s₁ [] 0 0 := Stand.of_body Bd
  have e0 : s₁.heap = h0 := by rw [← hh, Bd.state]; rfl
  have N0 := Fr.nil n0
  have lt_E_b := own_ltN E_b.lt
  have lt_F_iValue_a := own_ltN F_iValue_a.lt
  have lt_F_iValue_b := own_ltN F_iValue_b.lt
  refine own_in (ef_1 m a b) ?_
  refine own_go (T' := s₁) (g' := (mkF m 1 #[.val (.ref a), .val (.ref b)] [(.ref b)])) (fun t_ k_ => XS.aloadN X0.here hx rfl (hb hby d_prog_7_11_0) rfl rfl k_) ?_
  obtain ⟨T1, X1, e1, st1⟩ := instY X0 hx hZ hown (hw _ (List.mem_of_getElem? (i := 17) rfl)) e0 (Ins.self E_b) (g := (mkF m 1 #[.val (.ref a), .val (.ref b)] [(.ref b)])) rfl rfl (hb hby d_prog_7_11_1)
  refine own_go (T' := T1) (g' := (mkF m 4 #[.val (.ref a), .val (.ref b)] [(.int (1 : Int32))])) (fun t_ k_ => st1 _ k_) ?_
  refine own_go (T' := T1) (g' := (mkF m 7 #[.val (.ref a), .val (.ref b)] [])) (fun t_ k_ => XS.ifNo X1.here hx rfl (hb hby d_prog_7_11_4) rfl ((if0 _ _).trans (feq (by decide)).1) k_) ?_
  refine own_go (T' := T1) (g' := (mkF m 8 #[.val (.ref a), .val (.ref b)] [(.ref b)])) (fun t_ k_ => XS.aloadN X1.here hx rfl (hb hby d_prog_7_11_7) rfl rfl k_) ?_
  obtain ⟨T2, X2, e2, st2⟩ := castY X1 hx hZ hown (hw _ (List.mem_of_getElem? (i := 17) rfl)) e1 (Ins.self E_b) (g := (mkF m 8 #[.val (.ref a), .val (.ref b)] [(.ref b)])) rfl rfl (hb hby d_prog_7_11_8)
  refine own_go (T' := T2) (g' := (mkF m 11 #[.val (.ref a), .val (.ref b)] [(.ref b)])) (fun t_ k_ => st2 _ k_) ?_
  obtain ⟨T3, X3, e3, st3⟩ := getF X2 hx hZ hown (host := "") (Or.inl (hw _ (List.mem_of_getElem? (i := 10) rfl))) Via.refl e2 F_iValue_b (g := (mkF m 11 #[.val (.ref a), .val (.ref b)] [(.ref b)])) rfl rfl (hb hby d_prog_7_11_11)
  refine own_go (T' := T3) (g' := (mkF m 14 #[.val (.ref a), .val (.ref b)] [(.long w)])) (fun t_ k_ => st3 _ k_) ?_
  refine own_go (T' := T3) (g' := (mkF m 15 #[.val (.ref a), .val (.ref b)] [(.ref a), (.long w)])) (fun t_ k_ => XS.aloadN X3.here hx rfl (hb hby d_prog_7_11_14) rfl rfl k_) ?_
  obtain ⟨T4, X4, e4, st4⟩ := getF X3 hx hZ hown (host := "") (Or.inl (hw _ (List.mem_of_getElem? (i := 10) rfl))) Via.refl e3 F_iValue_a (g := (mkF m 15 #[.val (.ref a), .val (.ref b)] [(.ref a), (.long w)])) rfl rfl (hb hby d_prog_7_11_15)
  refine own_go (T' := T4) (g' := (mkF m 18 #[.val (.ref a), .val (.ref b)] [(.long u), (.long w)])) (fun t_ k_ => st4 _ k_) ?_
  refine own_go (T' := T4) (g' := (mkF m 19 #[.val (.ref a), .val (.ref b)] [(.int (lcmpW w u))])) (fun t_ k_ => XS.lcmp X4.here hx rfl (hb hby d_prog_7_11_18) rfl k_) ?_
  by_cases c5 : w = u
  · -- w = u
    refine own_go (T' := T4) (g' := (mkF m 22 #[.val (.ref a), .val (.ref b)] [])) (fun t_ k_ => XS.ifNo X4.here hx rfl (hb hby d_prog_7_11_19) rfl ((if0 _ _).trans (teq ((lw_eq _ _).mpr c5)).2) k_) ?_
    refine own_go (T' := T4) (g' := (mkF m 23 #[.val (.ref a), .val (.ref b)] [(.int (1 : Int32))])) (fun t_ k_ => XS.iconst X4.here hx rfl (hb hby d_prog_7_11_22) k_) ?_
    refine own_go (T' := T4) (g' := (mkF m 27 #[.val (.ref a), .val (.ref b)] [(.int (1 : Int32))])) (fun t_ k_ => XS.goto X4.here hx rfl (pc0 := 23) (pc' := 27) rfl (hb hby d_prog_7_11_23) (by decide) (by decide) k_) ?_
    exact own_out X4 (v := some (.int (nar .boolean (1 : Int32)))) (fun h => by rw [Bd.returns] at h; cases h) hlk (fun fs hr => retN X4 hx (t := .boolean) Bd.returns (by simp) (hb hby d_prog_7_11_27) hr) (Q := Q_rm_eq Z a b u w r h0 n0) (by rw [e4]; exact ⟨(congrArg (fun z => some (Value.int z)) (hr0.trans (if_pos c5)).symm), N0, rfl⟩) (by decide) (by decide)
  · -- not w = u
    refine own_go (T' := T4) (g' := (mkF m 26 #[.val (.ref a), .val (.ref b)] [])) (fun t_ k_ => XS.ifYes X4.here hx rfl (pc0 := 19) (pc' := 26) rfl (hb hby d_prog_7_11_19) rfl ((if0 _ _).trans (feq (fun z => c5 ((lw_eq _ _).mp z))).2) (by decide) (by decide) k_) ?_
    refine own_go (T' := T4) (g' := (mkF m 27 #[.val (.ref a), .val (.ref b)] [(.int (0 : Int32))])) (fun t_ k_ => XS.iconst X4.here hx rfl (hb hby d_prog_7_11_26) k_) ?_
    exact own_out X4 (v := some (.int (nar .boolean (0 : Int32)))) (fun h => by rw [Bd.returns] at h; cases h) hlk (fun fs hr => retN X4 hx (t := .boolean) Bd.returns (by simp) (hb hby d_prog_7_11_27) hr) (Q := Q_rm_eq Z a b u w r h0 n0) (by rw [e4]; exact ⟨(congrArg (fun z => some (Value.int z)) (hr0.trans (if_neg c5)).symm), N0, rfl⟩) (by decide) (by decide)
theorem ef_2 (m : MethodId) (a : Nat) : entryFrame m #[(.ref a), .null] 2 = mkF m 0 #[.val (.ref a), .val .null] [] := by first | (simp [entryFrame, mkF, argsToLocals, Value.category]; done) | rfl
def Q_rm_eqn (Z : State) (a : Nat) (h0 : Heap) (n0 : Nat) (vv : Option Value) (h : Heap) (LL : List Loc) : Prop := vv = some (.int (0 : Int32)) ∧ Fr n0 LL ∧ h = h0
set_option maxRecDepth 65536 in
set_option maxHeartbeats 40000000 in
theorem rm_eqn (l : Launch) (Z : State) (a0 : Array Value) (hw : ∀ d ∈ tables_1, d.before a0 Z = true) (ws : List Jvm.Cond) (a : Nat) (h0 : Heap) (n0 : Nat) (Z0 : n0 ≤ h0.size) :
    MetFree l (⟨"com/example/cover/cover/FeatureId", "equals", "(Ljava/lang/Object;)Z"⟩ : MethodName) (head1 (Jvm.Cond.code (⟨"com/example/cover/cover/FeatureId", "equals", "(Ljava/lang/Object;)Z"⟩ : MethodName) prog_7_method_11_code 2 (some .boolean) :: ws) ({ frames := 0, cells := 0, slots := 0, locals := 0 } : Room)) (fun aa UU => aa = #[(.ref a), .null] ∧ Z.Warmed39 UU.vm ∧ UU.heap = h0) (fun _ _ _ _ _ => True) (fun _ UU oo UU' => ∃ vv LL, oo = .returned vv ∧ Q_rm_eqn Z a h0 n0 vv UU'.heap LL ∧ FrameEnd UU oo UU' LL ({ frames := 0, cells := 0, slots := 0, locals := 0 } : Room).cells ({ frames := 0, cells := 0, slots := 0, locals := 0 } : Room).slots) := by
  refine MetFree.of_bodySF (plainFor_of_name pn_0) hisR ?_
  intro p e s m args below meth c s₁ Bd hml0 hP hK
  obtain ⟨rfl, hZ, hh⟩ := hP
  have hx := Bd.exec
  have hby := Bd.bytes
  have hml : c.maxLocals = 2 := hml0
  have hown : s.vm.findClass "com/example/cover/cover/FeatureId" = some m.cls := findClass_of_methodNamed Bd.named
  have hnm := (name_of_methodNamed Bd.named Bd.method).1
  have hlk : meth.locks = false := BodyLoose.notSynchronized Bd
  have X0 : Stand p l e ({ frames := 0, cells := 0, slots := 0, locals := 0 } : Room) s m #[(.ref a), .null] below meth c s₁ [] 0 0 := Stand.of_body Bd
  have e0 : s₁.heap = h0 := by rw [← hh, Bd.state]; rfl
  have N0 := Fr.nil n0
  refine own_in (ef_2 m a) ?_
  refine own_go (T' := s₁) (g' := (mkF m 1 #[.val (.ref a), .val .null] [.null])) (fun t_ k_ => XS.aloadN X0.here hx rfl (hb hby d_prog_7_11_0) rfl rfl k_) ?_
  refine own_go (T' := s₁) (g' := (mkF m 4 #[.val (.ref a), .val .null] [(.int (0 : Int32))])) (fun t_ k_ => X0.instanceofNull hx (g := (mkF m 1 #[.val (.ref a), .val .null] [.null])) rfl rfl (hb hby d_prog_7_11_1) _ k_) ?_
  refine own_go (T' := s₁) (g' := (mkF m 26 #[.val (.ref a), .val .null] [])) (fun t_ k_ => XS.ifYes X0.here hx rfl (pc0 := 4) (pc' := 26) rfl (hb hby d_prog_7_11_4) rfl ((if0 _ _).trans (teq (by decide)).1) (by decide) (by decide) k_) ?_
  refine own_go (T' := s₁) (g' := (mkF m 27 #[.val (.ref a), .val .null] [(.int (0 : Int32))])) (fun t_ k_ => XS.iconst X0.here hx rfl (hb hby d_prog_7_11_26) k_) ?_
  exact own_out X0 (v := some (.int (nar .boolean (0 : Int32)))) (fun h => by rw [Bd.returns] at h; cases h) hlk (fun fs hr => retN X0 hx (t := .boolean) Bd.returns (by simp) (hb hby d_prog_7_11_27) hr) (Q := Q_rm_eqn Z a h0 n0) (by rw [e0]; exact ⟨rfl, N0, rfl⟩) (by decide) (by decide)
def Q_rm_eql (Z : State) (a : Nat) (b : Nat) (h0 : Heap) (n0 : Nat) (vv : Option Value) (h : Heap) (LL : List Loc) : Prop := vv = some (.int (0 : Int32)) ∧ Fr n0 LL ∧ h = h0
set_option maxRecDepth 65536 in
set_option maxHeartbeats 40000000 in
theorem rm_eql (l : Launch) (Z : State) (a0 : Array Value) (hw : ∀ d ∈ tables_1, d.before a0 Z = true) (ws : List Jvm.Cond) (a : Nat) (b : Nat) (h0 : Heap) (n0 : Nat) (Z0 : n0 ≤ h0.size) (LA : own_LongAt Z h0 b) (NF : own_NoF Z) :
    MetFree l (⟨"com/example/cover/cover/FeatureId", "equals", "(Ljava/lang/Object;)Z"⟩ : MethodName) (head1 (Jvm.Cond.code (⟨"com/example/cover/cover/FeatureId", "equals", "(Ljava/lang/Object;)Z"⟩ : MethodName) prog_7_method_11_code 2 (some .boolean) :: ws) ({ frames := 0, cells := 0, slots := 0, locals := 0 } : Room)) (fun aa UU => aa = #[(.ref a), (.ref b)] ∧ Z.Warmed39 UU.vm ∧ UU.heap = h0) (fun _ _ _ _ _ => True) (fun _ UU oo UU' => ∃ vv LL, oo = .returned vv ∧ Q_rm_eql Z a b h0 n0 vv UU'.heap LL ∧ FrameEnd UU oo UU' LL ({ frames := 0, cells := 0, slots := 0, locals := 0 } : Room).cells ({ frames := 0, cells := 0, slots := 0, locals := 0 } : Room).slots) := by
  refine MetFree.of_bodySF (plainFor_of_name pn_0) hisR ?_
  intro p e s m args below meth c s₁ Bd hml0 hP hK
  obtain ⟨rfl, hZ, hh⟩ := hP
  have hx := Bd.exec
  have hby := Bd.bytes
  have hml : c.maxLocals = 2 := hml0
  have hown : s.vm.findClass "com/example/cover/cover/FeatureId" = some m.cls := findClass_of_methodNamed Bd.named
  have hnm := (name_of_methodNamed Bd.named Bd.method).1
  have hlk : meth.locks = false := BodyLoose.notSynchronized Bd
  have X0 : Stand p l e ({ frames := 0, cells := 0, slots := 0, locals := 0 } : Room) s m #[(.ref a), (.ref b)] below meth c s₁ [] 0 0 := Stand.of_body Bd
  have e0 : s₁.heap = h0 := by rw [← hh, Bd.state]; rfl
  have N0 := Fr.nil n0
  refine own_in (ef_1 m a b) ?_
  refine own_go (T' := s₁) (g' := (mkF m 1 #[.val (.ref a), .val (.ref b)] [(.ref b)])) (fun t_ k_ => XS.aloadN X0.here hx rfl (hb hby d_prog_7_11_0) rfl rfl k_) ?_
  obtain ⟨T1, X1, e1, st1⟩ := instN' X0 hx hZ hown (hw _ (List.mem_of_getElem? (i := 17) rfl)) e0 (K := "com/example/cover/cover/FeatureId") (C := "java/lang/Long") (by rw [hh]; exact own_insF LA NF) (by rw [hh]; exact own_insL LA) (g := (mkF m 1 #[.val (.ref a), .val (.ref b)] [(.ref b)])) rfl rfl (hb hby d_prog_7_11_1)
  refine own_go (T' := T1) (g' := (mkF m 4 #[.val (.ref a), .val (.ref b)] [(.int (0 : Int32))])) (fun t_ k_ => st1 _ k_) ?_
  refine own_go (T' := T1) (g' := (mkF m 26 #[.val (.ref a), .val (.ref b)] [])) (fun t_ k_ => XS.ifYes X1.here hx rfl (pc0 := 4) (pc' := 26) rfl (hb hby d_prog_7_11_4) rfl ((if0 _ _).trans (teq (by decide)).1) (by decide) (by decide) k_) ?_
  refine own_go (T' := T1) (g' := (mkF m 27 #[.val (.ref a), .val (.ref b)] [(.int (0 : Int32))])) (fun t_ k_ => XS.iconst X1.here hx rfl (hb hby d_prog_7_11_26) k_) ?_
  exact own_out X1 (v := some (.int (nar .boolean (0 : Int32)))) (fun h => by rw [Bd.returns] at h; cases h) hlk (fun fs hr => retN X1 hx (t := .boolean) Bd.returns (by simp) (hb hby d_prog_7_11_27) hr) (Q := Q_rm_eql Z a b h0 n0) (by rw [e1]; exact ⟨rfl, N0, rfl⟩) (by decide) (by decide)
theorem d_jdk_18_1_0 : decode jdk_18_method_1_code 0 = .ok (.aload_n 0, 1) := by decide +kernel
theorem d_jdk_18_1_1 : decode jdk_18_method_1_code 1 = .ok (.invokespecial 1, 3) := by decide +kernel
theorem d_jdk_18_1_4 : decode jdk_18_method_1_code 4 = .ok (.return_, 1) := by decide +kernel
theorem pn_1 : plainName "java/lang/Number" = true := by first | (simp [plainName, overriddenIn]; done) | decide +kernel
theorem ef_3 (m : MethodId) (a : Nat) : entryFrame m #[(.ref a)] 1 = mkF m 0 #[.val (.ref a)] [] := by first | (simp [entryFrame, mkF, argsToLocals, Value.category]; done) | rfl
def Q_rm_num (Z : State) (a : Nat) (h0 : Heap) (n0 : Nat) (vv : Option Value) (h : Heap) (LL : List Loc) : Prop := vv = none ∧ Fr n0 LL ∧ h = h0
set_option maxRecDepth 65536 in
set_option maxHeartbeats 40000000 in
theorem rm_num (l : Launch) (Z : State) (a0 : Array Value) (hw : ∀ d ∈ tables_1, d.before a0 Z = true) (ws : List Jvm.Cond) (a : Nat) (h0 : Heap) (n0 : Nat) (Z0 : n0 ≤ h0.size) :
    MetFree l (⟨"java/lang/Number", "<init>", "()V"⟩ : MethodName) (head1 (Jvm.Cond.code (⟨"java/lang/Number", "<init>", "()V"⟩ : MethodName) jdk_18_method_1_code 1 none :: ws) ({ frames := 1, cells := 0, slots := 0, locals := 12 } : Room)) (fun aa UU => aa = #[(.ref a)] ∧ Z.Warmed39 UU.vm ∧ UU.heap = h0) (fun _ _ _ _ _ => True) (fun _ UU oo UU' => ∃ vv LL, oo = .returned vv ∧ Q_rm_num Z a h0 n0 vv UU'.heap LL ∧ FrameEnd UU oo UU' LL ({ frames := 1, cells := 0, slots := 0, locals := 12 } : Room).cells ({ frames := 1, cells := 0, slots := 0, locals := 12 } : Room).slots) := by
  refine MetFree.of_bodySF (plainFor_of_name pn_1) hisR ?_
  intro p e s m args below meth c s₁ Bd hml0 hP hK
  obtain ⟨rfl, hZ, hh⟩ := hP
  have hx := Bd.exec
  have hby := Bd.bytes
  have hml : c.maxLocals = 1 := hml0
  have hown : s.vm.findClass "java/lang/Number" = some m.cls := findClass_of_methodNamed Bd.named
  have hnm := (name_of_methodNamed Bd.named Bd.method).1
  have hlk : meth.locks = false := BodyLoose.notSynchronized Bd
  have X0 : Stand p l e ({ frames := 1, cells := 0, slots := 0, locals := 12 } : Room) s m #[(.ref a)] below meth c s₁ [] 0 0 := Stand.of_body Bd
  have e0 : s₁.heap = h0 := by rw [← hh, Bd.state]; rfl
  have N0 := Fr.nil n0
  refine own_in (ef_3 m a) ?_
  refine own_go (T' := s₁) (g' := (mkF m 1 #[.val (.ref a)] [(.ref a)])) (fun t_ k_ => XS.aloadN X0.here hx rfl (hb hby d_jdk_18_1_0) rfl rfl k_) ?_
  obtain ⟨T1, X1, e1, st1⟩ := initO X0 hx hZ hown (hw _ (List.mem_of_getElem? (i := 37) rfl)) (hw _ (List.mem_of_getElem? (i := 8) rfl)) (hw _ (List.mem_of_getElem? (i := 9) rfl)) e0 (g := (mkF m 1 #[.val (.ref a)] [(.ref a)])) rfl (by rw [hml]; rfl) rfl (hb hby d_jdk_18_1_1) (by decide) (W := 0) (by show 2 * 0 + _ ≤ _; exact Nat.le_of_eq rfl) (by decide)
  refine own_go (T' := T1) (g' := (mkF m 4 #[.val (.ref a)] [])) (fun t_ k_ => st1 _ k_) ?_
  exact own_out X1 (v := none) (fun _ => rfl) hlk (fun fs hr => X1.returnOut hx Bd.returns (hb hby d_jdk_18_1_4) hr) (Q := Q_rm_num Z a h0 n0) (by rw [e1]; exact ⟨rfl, N0, rfl⟩) (by decide) (by decide)
theorem d_jdk_35_26_0 : decode jdk_35_method_26_code 0 = .ok (.aload_n 0, 1) := by decide +kernel
theorem d_jdk_35_26_1 : decode jdk_35_method_26_code 1 = .ok (.invokespecial 270, 3) := by decide +kernel
theorem pd_0 : parseMethodDescriptor "()V" = some ⟨[], none⟩ := by decide +kernel
theorem d_jdk_35_26_4 : decode jdk_35_method_26_code 4 = .ok (.aload_n 0, 1) := by decide +kernel
theorem d_jdk_35_26_5 : decode jdk_35_method_26_code 5 = .ok (.lload_n 1, 1) := by decide +kernel
theorem d_jdk_35_26_6 : decode jdk_35_method_26_code 6 = .ok (.putfield 273, 3) := by decide +kernel
theorem d_jdk_35_26_9 : decode jdk_35_method_26_code 9 = .ok (.return_, 1) := by decide +kernel
theorem pn_2 : plainName "java/lang/Long" = true := by first | (simp [plainName, overriddenIn]; done) | decide +kernel
theorem ef_4 (m : MethodId) (a : Nat) (v : Int64) : entryFrame m #[(.ref a), (.long v)] 3 = mkF m 0 #[.val (.ref a), .val (.long v), .second] [] := by first | (simp [entryFrame, mkF, argsToLocals, Value.category]; done) | rfl
def Q_rm_linit (Z : State) (a : Nat) (v : Int64) (u : Int64) (h0 : Heap) (n0 : Nat) (vv : Option Value) (h : Heap) (LL : List Loc) : Prop := vv = none ∧ Fr n0 LL ∧ Keep h0 h [a] ∧ Fld Z h a "java/lang/Long" "value" "J" (.long v)
set_option maxRecDepth 65536 in
set_option maxHeartbeats 40000000 in
theorem rm_linit (l : Launch) (Z : State) (a0 : Array Value) (hw : ∀ d ∈ tables_1, d.before a0 Z = true) (ws : List Jvm.Cond) (a : Nat) (v : Int64) (u : Int64) (h0 : Heap) (n0 : Nat) (Z0 : n0 ≤ h0.size) (E_a : Exa Z h0 a "java/lang/Long") (F_value_a : Fld Z h0 a "java/lang/Long" "value" "J" (.long u)) (g_a : n0 ≤ a) :
    MetFree l (⟨"java/lang/Long", "<init>", "(J)V"⟩ : MethodName) (head1 (Jvm.Cond.code (⟨"java/lang/Long", "<init>", "(J)V"⟩ : MethodName) jdk_35_method_26_code 3 none :: ws) ({ frames := 2, cells := 0, slots := 0, locals := 24 } : Room)) (fun aa UU => aa = #[(.ref a), (.long v)] ∧ Z.Warmed39 UU.vm ∧ UU.heap = h0) (fun _ _ _ _ _ => True) (fun _ UU oo UU' => ∃ vv LL, oo = .returned vv ∧ Q_rm_linit Z a v u h0 n0 vv UU'.heap LL ∧ FrameEnd UU oo UU' LL ({ frames := 2, cells := 0, slots := 0, locals := 24 } : Room).cells ({ frames := 2, cells := 0, slots := 0, locals := 24 } : Room).slots) := by
  refine MetFree.of_bodySF (plainFor_of_name pn_2) hisR ?_
  intro p e s m args below meth c s₁ Bd hml0 hP hK
  obtain ⟨rfl, hZ, hh⟩ := hP
  have hx := Bd.exec
  have hby := Bd.bytes
  have hml : c.maxLocals = 3 := hml0
  have hown : s.vm.findClass "java/lang/Long" = some m.cls := findClass_of_methodNamed Bd.named
  have hnm := (name_of_methodNamed Bd.named Bd.method).1
  have hlk : meth.locks = false := BodyLoose.notSynchronized Bd
  have X0 : Stand p l e ({ frames := 2, cells := 0, slots := 0, locals := 24 } : Room) s m #[(.ref a), (.long v)] below meth c s₁ [] 0 0 := Stand.of_body Bd
  have e0 : s₁.heap = h0 := by rw [← hh, Bd.state]; rfl
  have N0 := Fr.nil n0
  have lt_E_a := own_ltN E_a.lt
  have lt_F_value_a := own_ltN F_value_a.lt
  refine own_in (ef_4 m a v) ?_
  refine own_go (T' := s₁) (g' := (mkF m 1 #[.val (.ref a), .val (.long v), .second] [(.ref a)])) (fun t_ k_ => XS.aloadN X0.here hx rfl (hb hby d_jdk_35_26_0) rfl rfl k_) ?_
  obtain ⟨_, _, ⟨T1, L1, k1, n1⟩, -, X1, ⟨Lc1, hQ1, l1, y1, z1⟩, st1⟩ := X0.specialBack hx (y := (⟨"java/lang/Number", "<init>", "()V"⟩ : MethodName)) rfl hown (mvT hZ (hw _ (List.mem_of_getElem? (i := 31) rfl))) (mvT hZ (hw _ (List.mem_of_getElem? (i := 32) rfl))) (mvT hZ (hw _ (List.mem_of_getElem? (i := 36) rfl))) (by decide) (backOf (W := 0) (rm_num l Z a0 hw [] a h0 n0 (show n0 ≤ h0.size by omega)) hZ (hw _ (List.mem_of_getElem? (i := 36) rfl)) (hw _ (List.mem_of_getElem? (i := 35) rfl)) (by decide) (by decide)) (g := (mkF m 1 #[.val (.ref a), .val (.long v), .second] [(.ref a)])) rfl (by rw [hml]; rfl) (Steps.refl _) (a := a) (argsL := []) (rest := []) (lenOf pd_0 rfl) rfl (by show 2 * 0 + _ ≤ _; exact Nat.le_of_eq rfl) (hb hby d_jdk_35_26_1) (fun _ _ => ⟨rfl, e0, (by decide : 0 + 0 ≤ _), (by decide : 0 + 0 ≤ _)⟩)
  dsimp only [Pt.U, Pt.locs, Pt.cells, Pt.slots] at X1 l1 y1 z1 st1 hQ1
  subst l1 y1 z1
  obtain ⟨rfl, M1, e1⟩ := hQ1
  have N1 := Fr.app N0 M1
  refine own_go (T' := T1) (g' := (mkF m 4 #[.val (.ref a), .val (.long v), .second] [])) (fun t_ k_ => st1.trans k_) ?_
  refine own_go (T' := T1) (g' := (mkF m 5 #[.val (.ref a), .val (.long v), .second] [(.ref a)])) (fun t_ k_ => XS.aloadN X1.here hx rfl (hb hby d_jdk_35_26_4) rfl rfl k_) ?_
  refine own_go (T' := T1) (g' := (mkF m 6 #[.val (.ref a), .val (.long v), .second] [(.long v), (.ref a)])) (fun t_ k_ => XS.lloadN X1.here hx rfl (hb hby d_jdk_35_26_5) rfl k_) ?_
  obtain ⟨T2, h2, X2, e2, W2, st2⟩ := putF X1 hx hZ hown (host := "") (Or.inl (hw _ (List.mem_of_getElem? (i := 38) rfl))) Via.refl e1 F_value_a E_a (Or.inr ⟨(hw _ (List.mem_of_getElem? (i := 39) rfl)), rfl, hnm⟩) (hw _ (List.mem_of_getElem? (i := 26) rfl)) (ty := .long) (by decide) rfl rfl (g := (mkF m 6 #[.val (.ref a), .val (.long v), .second] [(.long v), (.ref a)])) rfl rfl (hb hby d_jdk_35_26_6)
  have F2 := F_value_a.same W2
  have z2 := W2.size
  have N2 := Fr.snoc X2 N1 (show n0 ≤ a by omega)
  have K2 := (Keep.refl h0 [a]).wr W2 (Or.inl (List.mem_of_getElem? (i := 0) rfl))
  refine own_go (T' := T2) (g' := (mkF m 9 #[.val (.ref a), .val (.long v), .second] [])) (fun t_ k_ => st2 _ k_) ?_
  exact own_out X2 (v := none) (fun _ => rfl) hlk (fun fs hr => X2.returnOut hx Bd.returns (hb hby d_jdk_35_26_9) hr) (Q := Q_rm_linit Z a v u h0 n0) (by rw [e2]; exact ⟨rfl, N2, K2, F2⟩) (by decide) (by decide)
theorem d_jdk_35_24_0 : decode jdk_35_method_24_code 0 = .ok (.sipush 128, 3) := by decide +kernel
theorem d_jdk_35_24_3 : decode jdk_35_method_24_code 3 = .ok (.istore_n 2, 1) := by decide +kernel
theorem d_jdk_35_24_4 : decode jdk_35_method_24_code 4 = .ok (.lload_n 0, 1) := by decide +kernel
theorem d_jdk_35_24_5 : decode jdk_35_method_24_code 5 = .ok (.ldc2_w 230, 3) := by decide +kernel
theorem d_jdk_35_24_8 : decode jdk_35_method_24_code 8 = .ok (.lcmp, 1) := by decide +kernel
theorem d_jdk_35_24_9 : decode jdk_35_method_24_code 9 = .ok (.ifCond .lt 22, 3) := by decide +kernel
theorem d_jdk_35_24_31 : decode jdk_35_method_24_code 31 = .ok (.new 1, 3) := by decide +kernel
theorem d_jdk_35_24_34 : decode jdk_35_method_24_code 34 = .ok (.dup, 1) := by decide +kernel
theorem d_jdk_35_24_35 : decode jdk_35_method_24_code 35 = .ok (.lload_n 0, 1) := by decide +kernel
theorem d_jdk_35_24_36 : decode jdk_35_method_24_code 36 = .ok (.invokespecial 240, 3) := by decide +kernel
theorem pd_1 : parseMethodDescriptor "(J)V" = some ⟨[.long], none⟩ := by decide +kernel
theorem d_jdk_35_24_39 : decode jdk_35_method_24_code 39 = .ok (.areturn, 1) := by decide +kernel
theorem d_jdk_35_24_12 : decode jdk_35_method_24_code 12 = .ok (.lload_n 0, 1) := by decide +kernel
theorem d_jdk_35_24_13 : decode jdk_35_method_24_code 13 = .ok (.ldc2_w 232, 3) := by decide +kernel
theorem d_jdk_35_24_16 : decode jdk_35_method_24_code 16 = .ok (.lcmp, 1) := by decide +kernel
theorem d_jdk_35_24_17 : decode jdk_35_method_24_code 17 = .ok (.ifCond .gt 14, 3) := by decide +kernel
theorem d_jdk_35_24_20 : decode jdk_35_method_24_code 20 = .ok (.getstatic 234, 3) := by decide +kernel
theorem d_jdk_35_24_23 : decode jdk_35_method_24_code 23 = .ok (.lload_n 0, 1) := by decide +kernel
theorem d_jdk_35_24_24 : decode jdk_35_method_24_code 24 = .ok (.l2i, 1) := by decide +kernel
theorem d_jdk_35_24_25 : decode jdk_35_method_24_code 25 = .ok (.sipush 128, 3) := by decide +kernel
theorem d_jdk_35_24_28 : decode jdk_35_method_24_code 28 = .ok (.iadd, 1) := by decide +kernel
theorem d_jdk_35_24_29 : decode jdk_35_method_24_code 29 = .ok (.aaload, 1) := by decide +kernel
theorem d_jdk_35_24_30 : decode jdk_35_method_24_code 30 = .ok (.areturn, 1) := by decide +kernel
theorem ef_5 (m : MethodId) (v : Int64) : entryFrame m #[(.long v)] 3 = mkF m 0 #[.val (.long v), .second, .unset] [] := by first | (simp [entryFrame, mkF, argsToLocals, Value.category]; done) | rfl
def Q_rm_vof (Z : State) (v : Int64) (g : LongBox.ValueOf.G) (cL : ClassId) (fV : Field) (ar : Nat) (h0 : Heap) (n0 : Nat) (vv : Option Value) (h : Heap) (LL : List Loc) : Prop := ∃ b : Nat, vv = some (.ref b) ∧ Fr n0 LL ∧ Keep h0 h [] ∧ own_LongAt Z h b
set_option maxRecDepth 65536 in
set_option maxHeartbeats 40000000 in
theorem rm_vof (l : Launch) (Z : State) (a0 : Array Value) (hw : ∀ d ∈ tables_1, d.before a0 Z = true) (ws : List Jvm.Cond) (v : Int64) (g : LongBox.ValueOf.G) (cL : ClassId) (fV : Field) (ar : Nat) (h0 : Heap) (n0 : Nat) (Z0 : n0 ≤ h0.size) (O0 : Old Z n0 h0) (S_cache : Sta Z Z.heap "java/lang/Long$LongCache" "cache" "[Ljava/lang/Long;" (.ref ar)) (PL : LongBox.ValueOf.P v cL fV g #[.long v] Z) (ha : g.arr = ar) :
    MetFree l (⟨"java/lang/Long", "valueOf", "(J)Ljava/lang/Long;"⟩ : MethodName) (head1 (Jvm.Cond.code (⟨"java/lang/Long", "valueOf", "(J)Ljava/lang/Long;"⟩ : MethodName) jdk_35_method_24_code 3 (some (.object "java/lang/Long")) :: ws) ({ frames := 3, cells := 1, slots := 1, locals := 39 } : Room)) (fun aa UU => aa = #[(.long v)] ∧ Z.Warmed39 UU.vm ∧ UU.heap = h0) (fun _ _ _ _ _ => True) (fun _ UU oo UU' => ∃ vv LL, oo = .returned vv ∧ Q_rm_vof Z v g cL fV ar h0 n0 vv UU'.heap LL ∧ FrameEnd UU oo UU' LL ({ frames := 3, cells := 1, slots := 1, locals := 39 } : Room).cells ({ frames := 3, cells := 1, slots := 1, locals := 39 } : Room).slots) := by
  refine MetFree.of_bodySF (plainFor_of_name pn_2) hisR ?_
  intro p e s m args below meth c s₁ Bd hml0 hP hK
  obtain ⟨rfl, hZ, hh⟩ := hP
  have hx := Bd.exec
  have hby := Bd.bytes
  have hml : c.maxLocals = 3 := hml0
  have hown : s.vm.findClass "java/lang/Long" = some m.cls := findClass_of_methodNamed Bd.named
  have hnm := (name_of_methodNamed Bd.named Bd.method).1
  have hlk : meth.locks = false := BodyLoose.notSynchronized Bd
  have X0 : Stand p l e ({ frames := 3, cells := 1, slots := 1, locals := 39 } : Room) s m #[(.long v)] below meth c s₁ [] 0 0 := Stand.of_body Bd
  have e0 : s₁.heap = h0 := by rw [← hh, Bd.state]; rfl
  have N0 := Fr.nil n0
  refine own_in (ef_5 m v) ?_
  refine own_go (T' := s₁) (g' := (mkF m 3 #[.val (.long v), .second, .unset] [(.int (128 : Int32))])) (fun t_ k_ => XS.sipush X0.here hx rfl (hb hby d_jdk_35_24_0) k_) ?_
  refine own_go (T' := s₁) (g' := (mkF m 4 #[.val (.long v), .second, .val (.int (128 : Int32))] [])) (fun t_ k_ => XS.istoreN X0.here hx rfl (hb hby d_jdk_35_24_3) rfl (l' := #[.val (.long v), .second, .val (.int (128 : Int32))]) rfl k_) ?_
  refine own_go (T' := s₁) (g' := (mkF m 5 #[.val (.long v), .second, .val (.int (128 : Int32))] [(.long v)])) (fun t_ k_ => XS.lloadN X0.here hx rfl (hb hby d_jdk_35_24_4) rfl k_) ?_
  refine own_go (T' := s₁) (g' := (mkF m 8 #[.val (.long v), .second, .val (.int (128 : Int32))] [(.long (-128 : Int64)), (.long v)])) (fun t_ k_ => X0.ldc2Long hx hown (mvT hZ (hw _ (List.mem_of_getElem? (i := 23) rfl))) (g := (mkF m 5 #[.val (.long v), .second, .val (.int (128 : Int32))] [(.long v)])) rfl (hb hby d_jdk_35_24_5) _ k_) ?_
  refine own_go (T' := s₁) (g' := (mkF m 9 #[.val (.long v), .second, .val (.int (128 : Int32))] [(.int (lcmpW v (-128 : Int64)))])) (fun t_ k_ => XS.lcmp X0.here hx rfl (hb hby d_jdk_35_24_8) rfl k_) ?_
  by_cases c1 : v < (-128 : Int64)
  · -- v < (-128 : Int64)
    refine own_go (T' := s₁) (g' := (mkF m 31 #[.val (.long v), .second, .val (.int (128 : Int32))] [])) (fun t_ k_ => XS.ifYes X0.here hx rfl (pc0 := 9) (pc' := 31) rfl (hb hby d_jdk_35_24_9) rfl ((if0 _ _).trans (tlt ((lw_lt _ _).mpr c1)).1) (by decide) (by decide) k_) ?_
    obtain ⟨T2, h2, X2, e2, E2, A2, D2, -, st2⟩ := newO X0 hx hZ hown (hw _ (List.mem_of_getElem? (i := 25) rfl)) (hw _ (List.mem_of_getElem? (i := 26) rfl)) (hw _ (List.mem_of_getElem? (i := 21) rfl)) e0 (g := (mkF m 31 #[.val (.long v), .second, .val (.int (128 : Int32))] [])) rfl (hb hby d_jdk_35_24_31) (by decide) (by decide)
    obtain ⟨b2, g2⟩ : ∃ z, z = h0.size := ⟨_, rfl⟩
    rw [← g2] at A2 D2 st2
    have l2 := own_ltN A2.lt
    have z2 := E2.1
    have O2 := O0.ext E2
    have K2 := (Keep.refl h0 []).ext E2
    have F2_value : Fld Z h2 b2 "java/lang/Long" "value" "J" (.long (0 : Int64)) := D2 (Or.inr (hw _ (List.mem_of_getElem? (i := 39) rfl))) (ty := .long) (by decide)
    refine own_go (T' := T2) (g' := (mkF m 34 #[.val (.long v), .second, .val (.int (128 : Int32))] [(.ref b2)])) (fun t_ k_ => st2 _ k_) ?_
    refine own_go (T' := T2) (g' := (mkF m 35 #[.val (.long v), .second, .val (.int (128 : Int32))] [(.ref b2), (.ref b2)])) (fun t_ k_ => XS.dup X2.here hx rfl (hb hby d_jdk_35_24_34) rfl rfl k_) ?_
    refine own_go (T' := T2) (g' := (mkF m 36 #[.val (.long v), .second, .val (.int (128 : Int32))] [(.long v), (.ref b2), (.ref b2)])) (fun t_ k_ => XS.lloadN X2.here hx rfl (hb hby d_jdk_35_24_35) rfl k_) ?_
    obtain ⟨_, _, ⟨T3, L3, k3, n3⟩, -, X3, ⟨Lc3, hQ3, l3, y3, z3⟩, st3⟩ := X2.specialBack hx (y := (⟨"java/lang/Long", "<init>", "(J)V"⟩ : MethodName)) rfl hown (mvT hZ (hw _ (List.mem_of_getElem? (i := 27) rfl))) (mvT hZ (hw _ (List.mem_of_getElem? (i := 28) rfl))) (mvT hZ (hw _ (List.mem_of_getElem? (i := 30) rfl))) (by decide) (backOf (W := 1) (rm_linit l Z a0 hw [] b2 v (0 : Int64) h2 n0 (show n0 ≤ h2.size by omega) A2 F2_value (show n0 ≤ b2 by omega)) hZ (hw _ (List.mem_of_getElem? (i := 30) rfl)) (hw _ (List.mem_of_getElem? (i := 21) rfl)) (by decide) (by decide)) (g := (mkF m 36 #[.val (.long v), .second, .val (.int (128 : Int32))] [(.long v), (.ref b2), (.ref b2)])) rfl (by rw [hml]; rfl) (Steps.refl _) (a := b2) (argsL := [(.long v)]) (rest := [(.ref b2)]) (lenOf pd_1 rfl) rfl (by show 2 * 0 + _ ≤ _; exact Nat.le_of_eq rfl) (hb hby d_jdk_35_24_36) (fun _ _ => ⟨rfl, e2, (by decide : 1 + 0 ≤ _), (by decide : 1 + 0 ≤ _)⟩)
    dsimp only [Pt.U, Pt.locs, Pt.cells, Pt.slots] at X3 l3 y3 z3 st3 hQ3
    subst l3 y3 z3
    obtain ⟨rfl, M3, K3_, f3_0⟩ := hQ3
    have zz3 := K3_.1
    have O3 := O2.keep K3_ (allS (show n0 ≤ b2 by omega) all0)
    have K3 := K2.trans K3_ (allS (Or.inr (show h0.size ≤ b2 by omega)) all0)
    have N3 := Fr.app N0 M3
    refine own_go (T' := T3) (g' := (mkF m 39 #[.val (.long v), .second, .val (.int (128 : Int32))] [(.ref b2)])) (fun t_ k_ => st3.trans k_) ?_
    have ff4 := (A2.keep K3_)
    exact own_out X3 (v := some (.ref b2)) (fun h => by rw [Bd.returns] at h; cases h) hlk (fun fs hr => own_retA X3 hx Bd.returns rfl rfl (hb hby d_jdk_35_24_39) hr) (Q := Q_rm_vof Z v g cL fV ar h0 n0) (by exact ⟨b2, rfl, N3, K3, own_exaL ff4⟩) (by decide) (by decide)
  · -- not v < (-128 : Int64)
    refine own_go (T' := s₁) (g' := (mkF m 12 #[.val (.long v), .second, .val (.int (128 : Int32))] [])) (fun t_ k_ => XS.ifNo X0.here hx rfl (hb hby d_jdk_35_24_9) rfl ((if0 _ _).trans (flt (fun z => c1 ((lw_lt _ _).mp z))).1) k_) ?_
    refine own_go (T' := s₁) (g' := (mkF m 13 #[.val (.long v), .second, .val (.int (128 : Int32))] [(.long v)])) (fun t_ k_ => XS.lloadN X0.here hx rfl (hb hby d_jdk_35_24_12) rfl k_) ?_
    refine own_go (T' := s₁) (g' := (mkF m 16 #[.val (.long v), .second, .val (.int (128 : Int32))] [(.long (127 : Int64)), (.long v)])) (fun t_ k_ => X0.ldc2Long hx hown (mvT hZ (hw _ (List.mem_of_getElem? (i := 24) rfl))) (g := (mkF m 13 #[.val (.long v), .second, .val (.int (128 : Int32))] [(.long v)])) rfl (hb hby d_jdk_35_24_13) _ k_) ?_
    refine own_go (T' := s₁) (g' := (mkF m 17 #[.val (.long v), .second, .val (.int (128 : Int32))] [(.int (lcmpW v (127 : Int64)))])) (fun t_ k_ => XS.lcmp X0.here hx rfl (hb hby d_jdk_35_24_16) rfl k_) ?_
    by_cases c5 : (127 : Int64) < v
    · -- (127 : Int64) < v
      refine own_go (T' := s₁) (g' := (mkF m 31 #[.val (.long v), .second, .val (.int (128 : Int32))] [])) (fun t_ k_ => XS.ifYes X0.here hx rfl (pc0 := 17) (pc' := 31) rfl (hb hby d_jdk_35_24_17) rfl ((if0 _ _).trans (tlt ((lw_gt _ _).mpr c5)).2.2.1) (by decide) (by decide) k_) ?_
      obtain ⟨T6, h6, X6, e6, E6, A6, D6, -, st6⟩ := newO X0 hx hZ hown (hw _ (List.mem_of_getElem? (i := 25) rfl)) (hw _ (List.mem_of_getElem? (i := 26) rfl)) (hw _ (List.mem_of_getElem? (i := 21) rfl)) e0 (g := (mkF m 31 #[.val (.long v), .second, .val (.int (128 : Int32))] [])) rfl (hb hby d_jdk_35_24_31) (by decide) (by decide)
      obtain ⟨b6, g6⟩ : ∃ z, z = h0.size := ⟨_, rfl⟩
      rw [← g6] at A6 D6 st6
      have l6 := own_ltN A6.lt
      have z6 := E6.1
      have O6 := O0.ext E6
      have K6 := (Keep.refl h0 []).ext E6
      have F6_value : Fld Z h6 b6 "java/lang/Long" "value" "J" (.long (0 : Int64)) := D6 (Or.inr (hw _ (List.mem_of_getElem? (i := 39) rfl))) (ty := .long) (by decide)
      refine own_go (T' := T6) (g' := (mkF m 34 #[.val (.long v), .second, .val (.int (128 : Int32))] [(.ref b6)])) (fun t_ k_ => st6 _ k_) ?_
      refine own_go (T' := T6) (g' := (mkF m 35 #[.val (.long v), .second, .val (.int (128 : Int32))] [(.ref b6), (.ref b6)])) (fun t_ k_ => XS.dup X6.here hx rfl (hb hby d_jdk_35_24_34) rfl rfl k_) ?_
      refine own_go (T' := T6) (g' := (mkF m 36 #[.val (.long v), .second, .val (.int (128 : Int32))] [(.long v), (.ref b6), (.ref b6)])) (fun t_ k_ => XS.lloadN X6.here hx rfl (hb hby d_jdk_35_24_35) rfl k_) ?_
      obtain ⟨_, _, ⟨T7, L7, k7, n7⟩, -, X7, ⟨Lc7, hQ7, l7, y7, z7⟩, st7⟩ := X6.specialBack hx (y := (⟨"java/lang/Long", "<init>", "(J)V"⟩ : MethodName)) rfl hown (mvT hZ (hw _ (List.mem_of_getElem? (i := 27) rfl))) (mvT hZ (hw _ (List.mem_of_getElem? (i := 28) rfl))) (mvT hZ (hw _ (List.mem_of_getElem? (i := 30) rfl))) (by decide) (backOf (W := 1) (rm_linit l Z a0 hw [] b6 v (0 : Int64) h6 n0 (show n0 ≤ h6.size by omega) A6 F6_value (show n0 ≤ b6 by omega)) hZ (hw _ (List.mem_of_getElem? (i := 30) rfl)) (hw _ (List.mem_of_getElem? (i := 21) rfl)) (by decide) (by decide)) (g := (mkF m 36 #[.val (.long v), .second, .val (.int (128 : Int32))] [(.long v), (.ref b6), (.ref b6)])) rfl (by rw [hml]; rfl) (Steps.refl _) (a := b6) (argsL := [(.long v)]) (rest := [(.ref b6)]) (lenOf pd_1 rfl) rfl (by show 2 * 0 + _ ≤ _; exact Nat.le_of_eq rfl) (hb hby d_jdk_35_24_36) (fun _ _ => ⟨rfl, e6, (by decide : 1 + 0 ≤ _), (by decide : 1 + 0 ≤ _)⟩)
      dsimp only [Pt.U, Pt.locs, Pt.cells, Pt.slots] at X7 l7 y7 z7 st7 hQ7
      subst l7 y7 z7
      obtain ⟨rfl, M7, K7_, f7_0⟩ := hQ7
      have zz7 := K7_.1
      have O7 := O6.keep K7_ (allS (show n0 ≤ b6 by omega) all0)
      have K7 := K6.trans K7_ (allS (Or.inr (show h0.size ≤ b6 by omega)) all0)
      have N7 := Fr.app N0 M7
      refine own_go (T' := T7) (g' := (mkF m 39 #[.val (.long v), .second, .val (.int (128 : Int32))] [(.ref b6)])) (fun t_ k_ => st7.trans k_) ?_
      have ff8 := (A6.keep K7_)
      exact own_out X7 (v := some (.ref b6)) (fun h => by rw [Bd.returns] at h; cases h) hlk (fun fs hr => own_retA X7 hx Bd.returns rfl rfl (hb hby d_jdk_35_24_39) hr) (Q := Q_rm_vof Z v g cL fV ar h0 n0) (by exact ⟨b6, rfl, N7, K7, own_exaL ff8⟩) (by decide) (by decide)
    · -- not (127 : Int64) < v
      refine own_go (T' := s₁) (g' := (mkF m 20 #[.val (.long v), .second, .val (.int (128 : Int32))] [])) (fun t_ k_ => XS.ifNo X0.here hx rfl (hb hby d_jdk_35_24_17) rfl ((if0 _ _).trans (flt (fun z => c5 ((lw_gt _ _).mp z))).2.2.1) k_) ?_
      obtain ⟨T9, X9, e9, st9⟩ := getS2 X0 hx hZ hown (host := "") (Or.inl (hw _ (List.mem_of_getElem? (i := 43) rfl))) Via.refl e0 (S_cache.ext O0.2) (g := (mkF m 20 #[.val (.long v), .second, .val (.int (128 : Int32))] [])) rfl (hb hby d_jdk_35_24_20)
      refine own_go (T' := T9) (g' := (mkF m 23 #[.val (.long v), .second, .val (.int (128 : Int32))] [(.ref ar)])) (fun t_ k_ => st9 _ k_) ?_
      refine own_go (T' := T9) (g' := (mkF m 24 #[.val (.long v), .second, .val (.int (128 : Int32))] [(.long v), (.ref ar)])) (fun t_ k_ => XS.lloadN X9.here hx rfl (hb hby d_jdk_35_24_23) rfl k_) ?_
      refine own_go (T' := T9) (g' := (mkF m 25 #[.val (.long v), .second, .val (.int (128 : Int32))] [(.int (v.toInt32)), (.ref ar)])) (fun t_ k_ => XS.l2i X9.here hx rfl (hb hby d_jdk_35_24_24) rfl k_) ?_
      refine own_go (T' := T9) (g' := (mkF m 28 #[.val (.long v), .second, .val (.int (128 : Int32))] [(.int (128 : Int32)), (.int (v.toInt32)), (.ref ar)])) (fun t_ k_ => XS.sipush X9.here hx rfl (hb hby d_jdk_35_24_25) k_) ?_
      refine own_go (T' := T9) (g' := (mkF m 29 #[.val (.long v), .second, .val (.int (128 : Int32))] [(.int ((v.toInt32) + (128 : Int32))), (.ref ar)])) (fun t_ k_ => XS.iadd X9.here hx rfl (hb hby d_jdk_35_24_28) rfl k_) ?_
      obtain ⟨-, pL, -, -, -, -, -, -, -, pA, pAk, pArr, pEl⟩ := PL
      rw [ha] at pA
      obtain ⟨bx, cB, q1, q2, q3, q4, q5, q6, q7⟩ := pEl v c1 c5
      refine own_go (T' := T9) (g' := (mkF m 30 #[.val (.long v), .second, .val (.int (128 : Int32))] [(.ref bx)])) (fun t_ k_ => X9.aaload hx (j := ((v.toInt32) + (128 : Int32))) (v := .ref bx) (by rw [e9]; exact O0.2.2 _ _ pA) (State.isArrayOf_alike hZ.alike pArr) rfl pAk q1 q2 (g := (mkF m 29 #[.val (.long v), .second, .val (.int (128 : Int32))] [(.int ((v.toInt32) + (128 : Int32))), (.ref ar)])) rfl rfl (hb hby d_jdk_35_24_29) _ k_) ?_
      exact own_out X9 (v := some (.ref bx)) (fun h => by rw [Bd.returns] at h; cases h) hlk (fun fs hr => own_retA X9 hx Bd.returns rfl rfl (hb hby d_jdk_35_24_30) hr) (Q := Q_rm_vof Z v g cL fV ar h0 n0) (by rw [e9]; exact ⟨bx, rfl, N0, (Keep.refl h0 []), ⟨cB, O0.2.2 _ _ q3, by rw [q4]; exact pL, q6⟩⟩) (by decide) (by decide)
theorem own_mask (a : Int64) : ¬ ((a &&& (9223372036854775807 : Int64)) < (0 : Int64)) := by
  have h := c_maskL a (9223372036854775807 : Int64) 63 (by decide) (by decide)
  rw [Int64.lt_iff_toInt_lt, h]
  have : (0 : Int64).toInt = 0 := rfl
  rw [this]
  have := Int.emod_nonneg a.toInt (b := ((2 ^ 63 : Nat) : Int)) (by decide)
  omega
theorem pd_2 : parseMethodDescriptor "(Ljava/lang/Object;)Z" = some ⟨[(.object "java/lang/Object")], some .boolean⟩ := by decide +kernel
theorem pd_3 : parseMethodDescriptor "(J)Ljava/lang/Long;" = some ⟨[.long], some (.object "java/lang/Long")⟩ := by decide +kernel
theorem pn_3 : plainName "com/example/cover/cover/FeatureIdEqualsPinLaw" = true := by first | (simp [plainName, overriddenIn]; done) | decide +kernel
theorem ef_6 (m : MethodId) (v0 : Int64) (v1 : Int64) (v2 : Int32) : entryFrame m #[(.long v0), (.long v1), (.int v2)] maxLocals = mkF m 0 #[.val (.long v0), .second, .val (.long v1), .second, .val (.int v2), .unset, .unset, .unset, .unset, .unset, .unset, .unset, .unset] [] := by first | (simp [entryFrame, mkF, argsToLocals, Value.category, maxLocals]; done) | rfl
def Q_rm_law (Z : State) (v0 : Int64) (v1 : Int64) (v2 : Int32) (gL : LongBox.ValueOf.G) (cL : ClassId) (fV : Field) (ar : Nat) (h0 : Heap) (n0 : Nat) (vv : Option Value) (h : Heap) (LL : List Loc) : Prop := vv = some (.int 1) ∧ Fr n0 LL
set_option maxRecDepth 65536 in
set_option maxHeartbeats 40000000 in
theorem rm_law (l : Launch) (Z : State) (a0 : Array Value) (hw : ∀ d ∈ tables_1, d.before a0 Z = true) (ws : List Jvm.Cond) (v0 : Int64) (v1 : Int64) (v2 : Int32) (gL : LongBox.ValueOf.G) (cL : ClassId) (fV : Field) (ar : Nat) (h0 : Heap) (n0 : Nat) (Z0 : n0 ≤ h0.size) (O0 : Old Z n0 h0) (S_cache : Sta Z Z.heap "java/lang/Long$LongCache" "cache" "[Ljava/lang/Long;" (.ref ar)) (PL : LongBox.ValueOf.P (v0 &&& (9223372036854775807 : Int64)) cL fV gL #[.long (v0 &&& (9223372036854775807 : Int64))] Z) (ha : gL.arr = ar) (NF : own_NoF Z) :
    MetFree l x (head1 (Jvm.Cond.code x code maxLocals ret :: ws) room_1) (fun aa UU => aa = #[(.long v0), (.long v1), (.int v2)] ∧ Z.Warmed39 UU.vm ∧ UU.heap = h0) (fun _ _ _ _ _ => True) (fun _ UU oo UU' => ∃ vv LL, oo = .returned vv ∧ Q_rm_law Z v0 v1 v2 gL cL fV ar h0 n0 vv UU'.heap LL ∧ FrameEnd UU oo UU' LL room_1.cells room_1.slots) := by
  refine MetFree.of_bodySF (plainFor_of_name pn_3) hisR ?_
  intro p e s m args below meth c s₁ Bd hml0 hP hK
  obtain ⟨rfl, hZ, hh⟩ := hP
  have hx := Bd.exec
  have hby := Bd.bytes
  have hml : c.maxLocals = 13 := hml0
  have hown : s.vm.findClass "com/example/cover/cover/FeatureIdEqualsPinLaw" = some m.cls := findClass_of_methodNamed Bd.named
  have hnm := (name_of_methodNamed Bd.named Bd.method).1
  have hlk : meth.locks = false := BodyLoose.notSynchronized Bd
  have X0 : Stand p l e room_1 s m #[(.long v0), (.long v1), (.int v2)] below meth c s₁ [] 0 0 := Stand.of_body Bd
  have e0 : s₁.heap = h0 := by rw [← hh, Bd.state]; rfl
  have N0 := Fr.nil n0
  refine own_in (ef_6 m v0 v1 v2) ?_
  refine own_go (T' := s₁) (g' := (mkF m 1 #[.val (.long v0), .second, .val (.long v1), .second, .val (.int v2), .unset, .unset, .unset, .unset, .unset, .unset, .unset, .unset] [(.long v0)])) (fun t_ k_ => XS.lloadN X0.here hx rfl (hb hby at_0) rfl k_) ?_
  refine own_go (T' := s₁) (g' := (mkF m 4 #[.val (.long v0), .second, .val (.long v1), .second, .val (.int v2), .unset, .unset, .unset, .unset, .unset, .unset, .unset, .unset] [(.long (9223372036854775807 : Int64)), (.long v0)])) (fun t_ k_ => X0.ldc2Long hx hown (mvT hZ (hw _ (List.mem_of_getElem? (i := 0) rfl))) (g := (mkF m 1 #[.val (.long v0), .second, .val (.long v1), .second, .val (.int v2), .unset, .unset, .unset, .unset, .unset, .unset, .unset, .unset] [(.long v0)])) rfl (hb hby at_1) _ k_) ?_
  refine own_go (T' := s₁) (g' := (mkF m 5 #[.val (.long v0), .second, .val (.long v1), .second, .val (.int v2), .unset, .unset, .unset, .unset, .unset, .unset, .unset, .unset] [(.long (v0 &&& (9223372036854775807 : Int64)))])) (fun t_ k_ => XS.land X0.here hx rfl (hb hby at_4) rfl k_) ?_
  refine own_go (T' := s₁) (g' := (mkF m 7 #[.val (.long v0), .second, .val (.long v1), .second, .val (.int v2), .val (.long (v0 &&& (9223372036854775807 : Int64))), .second, .unset, .unset, .unset, .unset, .unset, .unset] [])) (fun t_ k_ => XS.lstore X0.here hx rfl (hb hby at_5) rfl (l' := #[.val (.long v0), .second, .val (.long v1), .second, .val (.int v2), .val (.long (v0 &&& (9223372036854775807 : Int64))), .second, .unset, .unset, .unset, .unset, .unset, .unset]) rfl k_) ?_
  refine own_go (T' := s₁) (g' := (mkF m 9 #[.val (.long v0), .second, .val (.long v1), .second, .val (.int v2), .val (.long (v0 &&& (9223372036854775807 : Int64))), .second, .unset, .unset, .unset, .unset, .unset, .unset] [(.int v2)])) (fun t_ k_ => XS.iload X0.here hx rfl (hb hby at_7) rfl k_) ?_
  refine own_go (T' := s₁) (g' := (mkF m 10 #[.val (.long v0), .second, .val (.long v1), .second, .val (.int v2), .val (.long (v0 &&& (9223372036854775807 : Int64))), .second, .unset, .unset, .unset, .unset, .unset, .unset] [(.int (1 : Int32)), (.int v2)])) (fun t_ k_ => XS.iconst X0.here hx rfl (hb hby at_9) k_) ?_
  refine own_go (T' := s₁) (g' := (mkF m 11 #[.val (.long v0), .second, .val (.long v1), .second, .val (.int v2), .val (.long (v0 &&& (9223372036854775807 : Int64))), .second, .unset, .unset, .unset, .unset, .unset, .unset] [(.int (v2 &&& (1 : Int32)))])) (fun t_ k_ => XS.iand X0.here hx rfl (hb hby at_10) rfl k_) ?_
  by_cases c1 : (v2 &&& (1 : Int32)) = (0 : Int32)
  · -- (v2 &&& (1 : Int32)) = (0 : Int32)
    refine own_go (T' := s₁) (g' := (mkF m 19 #[.val (.long v0), .second, .val (.long v1), .second, .val (.int v2), .val (.long (v0 &&& (9223372036854775807 : Int64))), .second, .unset, .unset, .unset, .unset, .unset, .unset] [])) (fun t_ k_ => XS.ifYes X0.here hx rfl (pc0 := 11) (pc' := 19) rfl (hb hby at_11) rfl ((if0 _ _).trans (teq c1).1) (by decide) (by decide) k_) ?_
    refine own_go (T' := s₁) (g' := (mkF m 20 #[.val (.long v0), .second, .val (.long v1), .second, .val (.int v2), .val (.long (v0 &&& (9223372036854775807 : Int64))), .second, .unset, .unset, .unset, .unset, .unset, .unset] [(.long v1)])) (fun t_ k_ => XS.lloadN X0.here hx rfl (hb hby at_19) rfl k_) ?_
    refine own_go (T' := s₁) (g' := (mkF m 23 #[.val (.long v0), .second, .val (.long v1), .second, .val (.int v2), .val (.long (v0 &&& (9223372036854775807 : Int64))), .second, .unset, .unset, .unset, .unset, .unset, .unset] [(.long (9223372036854775807 : Int64)), (.long v1)])) (fun t_ k_ => X0.ldc2Long hx hown (mvT hZ (hw _ (List.mem_of_getElem? (i := 0) rfl))) (g := (mkF m 20 #[.val (.long v0), .second, .val (.long v1), .second, .val (.int v2), .val (.long (v0 &&& (9223372036854775807 : Int64))), .second, .unset, .unset, .unset, .unset, .unset, .unset] [(.long v1)])) rfl (hb hby at_20) _ k_) ?_
    refine own_go (T' := s₁) (g' := (mkF m 24 #[.val (.long v0), .second, .val (.long v1), .second, .val (.int v2), .val (.long (v0 &&& (9223372036854775807 : Int64))), .second, .unset, .unset, .unset, .unset, .unset, .unset] [(.long (v1 &&& (9223372036854775807 : Int64)))])) (fun t_ k_ => XS.land X0.here hx rfl (hb hby at_23) rfl k_) ?_
    refine own_go (T' := s₁) (g' := (mkF m 26 #[.val (.long v0), .second, .val (.long v1), .second, .val (.int v2), .val (.long (v0 &&& (9223372036854775807 : Int64))), .second, .val (.long (v1 &&& (9223372036854775807 : Int64))), .second, .unset, .unset, .unset, .unset] [])) (fun t_ k_ => XS.lstore X0.here hx rfl (hb hby at_24) rfl (l' := #[.val (.long v0), .second, .val (.long v1), .second, .val (.int v2), .val (.long (v0 &&& (9223372036854775807 : Int64))), .second, .val (.long (v1 &&& (9223372036854775807 : Int64))), .second, .unset, .unset, .unset, .unset]) rfl k_) ?_
    obtain ⟨T2, h2, X2, e2, E2, A2, D2, -, st2⟩ := newO X0 hx hZ hown (hw _ (List.mem_of_getElem? (i := 1) rfl)) (hw _ (List.mem_of_getElem? (i := 2) rfl)) (hw _ (List.mem_of_getElem? (i := 3) rfl)) e0 (g := (mkF m 26 #[.val (.long v0), .second, .val (.long v1), .second, .val (.int v2), .val (.long (v0 &&& (9223372036854775807 : Int64))), .second, .val (.long (v1 &&& (9223372036854775807 : Int64))), .second, .unset, .unset, .unset, .unset] [])) rfl (hb hby at_26) (by decide) (by decide)
    obtain ⟨b2, g2⟩ : ∃ z, z = h0.size := ⟨_, rfl⟩
    rw [← g2] at A2 D2 st2
    have l2 := own_ltN A2.lt
    have z2 := E2.1
    have O2 := O0.ext E2
    have F2_iValue : Fld Z h2 b2 "com/example/cover/cover/FeatureId" "iValue" "J" (.long (0 : Int64)) := D2 (Or.inr (hw _ (List.mem_of_getElem? (i := 11) rfl))) (ty := .long) (by decide)
    refine own_go (T' := T2) (g' := (mkF m 29 #[.val (.long v0), .second, .val (.long v1), .second, .val (.int v2), .val (.long (v0 &&& (9223372036854775807 : Int64))), .second, .val (.long (v1 &&& (9223372036854775807 : Int64))), .second, .unset, .unset, .unset, .unset] [(.ref b2)])) (fun t_ k_ => st2 _ k_) ?_
    refine own_go (T' := T2) (g' := (mkF m 30 #[.val (.long v0), .second, .val (.long v1), .second, .val (.int v2), .val (.long (v0 &&& (9223372036854775807 : Int64))), .second, .val (.long (v1 &&& (9223372036854775807 : Int64))), .second, .unset, .unset, .unset, .unset] [(.ref b2), (.ref b2)])) (fun t_ k_ => XS.dup X2.here hx rfl (hb hby at_29) rfl rfl k_) ?_
    refine own_go (T' := T2) (g' := (mkF m 32 #[.val (.long v0), .second, .val (.long v1), .second, .val (.int v2), .val (.long (v0 &&& (9223372036854775807 : Int64))), .second, .val (.long (v1 &&& (9223372036854775807 : Int64))), .second, .unset, .unset, .unset, .unset] [(.long (v0 &&& (9223372036854775807 : Int64))), (.ref b2), (.ref b2)])) (fun t_ k_ => XS.lload X2.here hx rfl (hb hby at_30) rfl k_) ?_
    obtain ⟨_, _, ⟨T3, L3, k3, n3⟩, -, X3, ⟨Lc3, hQ3, l3, y3, z3⟩, st3⟩ := X2.specialBack hx (y := (⟨"com/example/cover/cover/FeatureId", "<init>", "(J)V"⟩ : MethodName)) rfl hown (mvT hZ (hw _ (List.mem_of_getElem? (i := 4) rfl))) (mvT hZ (hw _ (List.mem_of_getElem? (i := 5) rfl))) (mvT hZ (hw _ (List.mem_of_getElem? (i := 6) rfl))) (by decide) (backOf (W := 1) (rm_init l Z a0 hw [] b2 (v0 &&& (9223372036854775807 : Int64)) (0 : Int64) h2 n0 (show n0 ≤ h2.size by omega) A2 F2_iValue (show n0 ≤ b2 by omega) (own_mask _)) hZ (hw _ (List.mem_of_getElem? (i := 6) rfl)) (hw _ (List.mem_of_getElem? (i := 3) rfl)) (by decide) (by decide)) (g := (mkF m 32 #[.val (.long v0), .second, .val (.long v1), .second, .val (.int v2), .val (.long (v0 &&& (9223372036854775807 : Int64))), .second, .val (.long (v1 &&& (9223372036854775807 : Int64))), .second, .unset, .unset, .unset, .unset] [(.long (v0 &&& (9223372036854775807 : Int64))), (.ref b2), (.ref b2)])) rfl (by rw [hml]; rfl) (Steps.refl _) (a := b2) (argsL := [(.long (v0 &&& (9223372036854775807 : Int64)))]) (rest := [(.ref b2)]) (lenOf pd_1 rfl) rfl (by show 2 * 0 + _ ≤ _; exact Nat.le_of_eq rfl) (hb hby at_32) (fun _ _ => ⟨rfl, e2, (by decide : 1 + 0 ≤ _), (by decide : 1 + 0 ≤ _)⟩)
    dsimp only [Pt.U, Pt.locs, Pt.cells, Pt.slots] at X3 l3 y3 z3 st3 hQ3
    subst l3 y3 z3
    obtain ⟨rfl, M3, K3_, f3_0⟩ := hQ3
    have zz3 := K3_.1
    have O3 := O2.keep K3_ (allS (show n0 ≤ b2 by omega) all0)
    have N3 := Fr.app N0 M3
    refine own_go (T' := T3) (g' := (mkF m 35 #[.val (.long v0), .second, .val (.long v1), .second, .val (.int v2), .val (.long (v0 &&& (9223372036854775807 : Int64))), .second, .val (.long (v1 &&& (9223372036854775807 : Int64))), .second, .unset, .unset, .unset, .unset] [(.ref b2)])) (fun t_ k_ => st3.trans k_) ?_
    refine own_go (T' := T3) (g' := (mkF m 37 #[.val (.long v0), .second, .val (.long v1), .second, .val (.int v2), .val (.long (v0 &&& (9223372036854775807 : Int64))), .second, .val (.long (v1 &&& (9223372036854775807 : Int64))), .second, .val (.ref b2), .unset, .unset, .unset] [])) (fun t_ k_ => XS.astore X3.here hx rfl (hb hby at_35) rfl rfl (l' := #[.val (.long v0), .second, .val (.long v1), .second, .val (.int v2), .val (.long (v0 &&& (9223372036854775807 : Int64))), .second, .val (.long (v1 &&& (9223372036854775807 : Int64))), .second, .val (.ref b2), .unset, .unset, .unset]) rfl k_) ?_
    obtain ⟨T4, h4, X4, e4, E4, A4, D4, -, st4⟩ := newO X3 hx hZ hown (hw _ (List.mem_of_getElem? (i := 1) rfl)) (hw _ (List.mem_of_getElem? (i := 2) rfl)) (hw _ (List.mem_of_getElem? (i := 3) rfl)) rfl (g := (mkF m 37 #[.val (.long v0), .second, .val (.long v1), .second, .val (.int v2), .val (.long (v0 &&& (9223372036854775807 : Int64))), .second, .val (.long (v1 &&& (9223372036854775807 : Int64))), .second, .val (.ref b2), .unset, .unset, .unset] [])) rfl (hb hby at_37) (by decide) (by decide)
    obtain ⟨b4, g4⟩ : ∃ z, z = T3.heap.size := ⟨_, rfl⟩
    rw [← g4] at A4 D4 st4
    have l4 := own_ltN A4.lt
    have z4 := E4.1
    have O4 := O3.ext E4
    have F4_iValue : Fld Z h4 b4 "com/example/cover/cover/FeatureId" "iValue" "J" (.long (0 : Int64)) := D4 (Or.inr (hw _ (List.mem_of_getElem? (i := 11) rfl))) (ty := .long) (by decide)
    refine own_go (T' := T4) (g' := (mkF m 40 #[.val (.long v0), .second, .val (.long v1), .second, .val (.int v2), .val (.long (v0 &&& (9223372036854775807 : Int64))), .second, .val (.long (v1 &&& (9223372036854775807 : Int64))), .second, .val (.ref b2), .unset, .unset, .unset] [(.ref b4)])) (fun t_ k_ => st4 _ k_) ?_
    refine own_go (T' := T4) (g' := (mkF m 41 #[.val (.long v0), .second, .val (.long v1), .second, .val (.int v2), .val (.long (v0 &&& (9223372036854775807 : Int64))), .second, .val (.long (v1 &&& (9223372036854775807 : Int64))), .second, .val (.ref b2), .unset, .unset, .unset] [(.ref b4), (.ref b4)])) (fun t_ k_ => XS.dup X4.here hx rfl (hb hby at_40) rfl rfl k_) ?_
    refine own_go (T' := T4) (g' := (mkF m 43 #[.val (.long v0), .second, .val (.long v1), .second, .val (.int v2), .val (.long (v0 &&& (9223372036854775807 : Int64))), .second, .val (.long (v1 &&& (9223372036854775807 : Int64))), .second, .val (.ref b2), .unset, .unset, .unset] [(.long (v1 &&& (9223372036854775807 : Int64))), (.ref b4), (.ref b4)])) (fun t_ k_ => XS.lload X4.here hx rfl (hb hby at_41) rfl k_) ?_
    obtain ⟨_, _, ⟨T5, L5, k5, n5⟩, -, X5, ⟨Lc5, hQ5, l5, y5, z5⟩, st5⟩ := X4.specialBack hx (y := (⟨"com/example/cover/cover/FeatureId", "<init>", "(J)V"⟩ : MethodName)) rfl hown (mvT hZ (hw _ (List.mem_of_getElem? (i := 4) rfl))) (mvT hZ (hw _ (List.mem_of_getElem? (i := 5) rfl))) (mvT hZ (hw _ (List.mem_of_getElem? (i := 6) rfl))) (by decide) (backOf (W := 1) (rm_init l Z a0 hw [] b4 (v1 &&& (9223372036854775807 : Int64)) (0 : Int64) h4 n0 (show n0 ≤ h4.size by omega) A4 F4_iValue (show n0 ≤ b4 by omega) (own_mask _)) hZ (hw _ (List.mem_of_getElem? (i := 6) rfl)) (hw _ (List.mem_of_getElem? (i := 3) rfl)) (by decide) (by decide)) (g := (mkF m 43 #[.val (.long v0), .second, .val (.long v1), .second, .val (.int v2), .val (.long (v0 &&& (9223372036854775807 : Int64))), .second, .val (.long (v1 &&& (9223372036854775807 : Int64))), .second, .val (.ref b2), .unset, .unset, .unset] [(.long (v1 &&& (9223372036854775807 : Int64))), (.ref b4), (.ref b4)])) rfl (by rw [hml]; rfl) (Steps.refl _) (a := b4) (argsL := [(.long (v1 &&& (9223372036854775807 : Int64)))]) (rest := [(.ref b4)]) (lenOf pd_1 rfl) rfl (by show 2 * 0 + _ ≤ _; exact Nat.le_of_eq rfl) (hb hby at_43) (fun _ _ => ⟨rfl, e4, (by decide : 2 + 0 ≤ _), (by decide : 2 + 0 ≤ _)⟩)
    dsimp only [Pt.U, Pt.locs, Pt.cells, Pt.slots] at X5 l5 y5 z5 st5 hQ5
    subst l5 y5 z5
    obtain ⟨rfl, M5, K5_, f5_0⟩ := hQ5
    have zz5 := K5_.1
    have O5 := O4.keep K5_ (allS (show n0 ≤ b4 by omega) all0)
    have N5 := Fr.app N3 M5
    refine own_go (T' := T5) (g' := (mkF m 46 #[.val (.long v0), .second, .val (.long v1), .second, .val (.int v2), .val (.long (v0 &&& (9223372036854775807 : Int64))), .second, .val (.long (v1 &&& (9223372036854775807 : Int64))), .second, .val (.ref b2), .unset, .unset, .unset] [(.ref b4)])) (fun t_ k_ => st5.trans k_) ?_
    refine own_go (T' := T5) (g' := (mkF m 48 #[.val (.long v0), .second, .val (.long v1), .second, .val (.int v2), .val (.long (v0 &&& (9223372036854775807 : Int64))), .second, .val (.long (v1 &&& (9223372036854775807 : Int64))), .second, .val (.ref b2), .val (.ref b4), .unset, .unset] [])) (fun t_ k_ => XS.astore X5.here hx rfl (hb hby at_46) rfl rfl (l' := #[.val (.long v0), .second, .val (.long v1), .second, .val (.int v2), .val (.long (v0 &&& (9223372036854775807 : Int64))), .second, .val (.long (v1 &&& (9223372036854775807 : Int64))), .second, .val (.ref b2), .val (.ref b4), .unset, .unset]) rfl k_) ?_
    refine own_go (T' := T5) (g' := (mkF m 50 #[.val (.long v0), .second, .val (.long v1), .second, .val (.int v2), .val (.long (v0 &&& (9223372036854775807 : Int64))), .second, .val (.long (v1 &&& (9223372036854775807 : Int64))), .second, .val (.ref b2), .val (.ref b4), .unset, .unset] [(.int v2)])) (fun t_ k_ => XS.iload X5.here hx rfl (hb hby at_48) rfl k_) ?_
    refine own_go (T' := T5) (g' := (mkF m 51 #[.val (.long v0), .second, .val (.long v1), .second, .val (.int v2), .val (.long (v0 &&& (9223372036854775807 : Int64))), .second, .val (.long (v1 &&& (9223372036854775807 : Int64))), .second, .val (.ref b2), .val (.ref b4), .unset, .unset] [(.int (1 : Int32)), (.int v2)])) (fun t_ k_ => XS.iconst X5.here hx rfl (hb hby at_50) k_) ?_
    refine own_go (T' := T5) (g' := (mkF m 52 #[.val (.long v0), .second, .val (.long v1), .second, .val (.int v2), .val (.long (v0 &&& (9223372036854775807 : Int64))), .second, .val (.long (v1 &&& (9223372036854775807 : Int64))), .second, .val (.ref b2), .val (.ref b4), .unset, .unset] [(.int ((v2.toUInt32 >>> ((1 : Int32) &&& 31).toUInt32).toInt32))])) (fun t_ k_ => XS.iushr X5.here hx rfl (hb hby at_51) rfl k_) ?_
    refine own_go (T' := T5) (g' := (mkF m 53 #[.val (.long v0), .second, .val (.long v1), .second, .val (.int v2), .val (.long (v0 &&& (9223372036854775807 : Int64))), .second, .val (.long (v1 &&& (9223372036854775807 : Int64))), .second, .val (.ref b2), .val (.ref b4), .unset, .unset] [(.int (3 : Int32)), (.int ((v2.toUInt32 >>> ((1 : Int32) &&& 31).toUInt32).toInt32))])) (fun t_ k_ => XS.iconst X5.here hx rfl (hb hby at_52) k_) ?_
    refine own_go (T' := T5) (g' := (mkF m 54 #[.val (.long v0), .second, .val (.long v1), .second, .val (.int v2), .val (.long (v0 &&& (9223372036854775807 : Int64))), .second, .val (.long (v1 &&& (9223372036854775807 : Int64))), .second, .val (.ref b2), .val (.ref b4), .unset, .unset] [(.int (((v2.toUInt32 >>> ((1 : Int32) &&& 31).toUInt32).toInt32) &&& (3 : Int32)))])) (fun t_ k_ => XS.iand X5.here hx rfl (hb hby at_53) rfl k_) ?_
    refine own_go (T' := T5) (g' := (mkF m 56 #[.val (.long v0), .second, .val (.long v1), .second, .val (.int v2), .val (.long (v0 &&& (9223372036854775807 : Int64))), .second, .val (.long (v1 &&& (9223372036854775807 : Int64))), .second, .val (.ref b2), .val (.ref b4), .val (.int (((v2.toUInt32 >>> ((1 : Int32) &&& 31).toUInt32).toInt32) &&& (3 : Int32))), .unset] [])) (fun t_ k_ => XS.istore X5.here hx rfl (hb hby at_54) rfl (l' := #[.val (.long v0), .second, .val (.long v1), .second, .val (.int v2), .val (.long (v0 &&& (9223372036854775807 : Int64))), .second, .val (.long (v1 &&& (9223372036854775807 : Int64))), .second, .val (.ref b2), .val (.ref b4), .val (.int (((v2.toUInt32 >>> ((1 : Int32) &&& 31).toUInt32).toInt32) &&& (3 : Int32))), .unset]) rfl k_) ?_
    refine own_go (T' := T5) (g' := (mkF m 58 #[.val (.long v0), .second, .val (.long v1), .second, .val (.int v2), .val (.long (v0 &&& (9223372036854775807 : Int64))), .second, .val (.long (v1 &&& (9223372036854775807 : Int64))), .second, .val (.ref b2), .val (.ref b4), .val (.int (((v2.toUInt32 >>> ((1 : Int32) &&& 31).toUInt32).toInt32) &&& (3 : Int32))), .unset] [(.int (((v2.toUInt32 >>> ((1 : Int32) &&& 31).toUInt32).toInt32) &&& (3 : Int32)))])) (fun t_ k_ => XS.iload X5.here hx rfl (hb hby at_56) rfl k_) ?_
    by_cases c6 : (((v2.toUInt32 >>> ((1 : Int32) &&& 31).toUInt32).toInt32) &&& (3 : Int32)) = (0 : Int32)
    · -- (((v2.toUInt32 >>> ((1 : Int32) &&& 31).toUInt32).toInt32) &&& (3 : Int32)) = (0 : Int32)
      refine own_go (T' := T5) (g' := (mkF m 61 #[.val (.long v0), .second, .val (.long v1), .second, .val (.int v2), .val (.long (v0 &&& (9223372036854775807 : Int64))), .second, .val (.long (v1 &&& (9223372036854775807 : Int64))), .second, .val (.ref b2), .val (.ref b4), .val (.int (((v2.toUInt32 >>> ((1 : Int32) &&& 31).toUInt32).toInt32) &&& (3 : Int32))), .unset] [])) (fun t_ k_ => XS.ifNo X5.here hx rfl (hb hby at_58) rfl ((if0 _ _).trans (teq c6).2) k_) ?_
      refine own_go (T' := T5) (g' := (mkF m 63 #[.val (.long v0), .second, .val (.long v1), .second, .val (.int v2), .val (.long (v0 &&& (9223372036854775807 : Int64))), .second, .val (.long (v1 &&& (9223372036854775807 : Int64))), .second, .val (.ref b2), .val (.ref b4), .val (.int (((v2.toUInt32 >>> ((1 : Int32) &&& 31).toUInt32).toInt32) &&& (3 : Int32))), .unset] [(.long (v0 &&& (9223372036854775807 : Int64)))])) (fun t_ k_ => XS.lload X5.here hx rfl (hb hby at_61) rfl k_) ?_
      refine own_go (T' := T5) (g' := (mkF m 65 #[.val (.long v0), .second, .val (.long v1), .second, .val (.int v2), .val (.long (v0 &&& (9223372036854775807 : Int64))), .second, .val (.long (v1 &&& (9223372036854775807 : Int64))), .second, .val (.ref b2), .val (.ref b4), .val (.int (((v2.toUInt32 >>> ((1 : Int32) &&& 31).toUInt32).toInt32) &&& (3 : Int32))), .unset] [(.long (v1 &&& (9223372036854775807 : Int64))), (.long (v0 &&& (9223372036854775807 : Int64)))])) (fun t_ k_ => XS.lload X5.here hx rfl (hb hby at_63) rfl k_) ?_
      refine own_go (T' := T5) (g' := (mkF m 66 #[.val (.long v0), .second, .val (.long v1), .second, .val (.int v2), .val (.long (v0 &&& (9223372036854775807 : Int64))), .second, .val (.long (v1 &&& (9223372036854775807 : Int64))), .second, .val (.ref b2), .val (.ref b4), .val (.int (((v2.toUInt32 >>> ((1 : Int32) &&& 31).toUInt32).toInt32) &&& (3 : Int32))), .unset] [(.int (lcmpW (v0 &&& (9223372036854775807 : Int64)) (v1 &&& (9223372036854775807 : Int64))))])) (fun t_ k_ => XS.lcmp X5.here hx rfl (hb hby at_65) rfl k_) ?_
      by_cases c7 : (v0 &&& (9223372036854775807 : Int64)) = (v1 &&& (9223372036854775807 : Int64))
      · -- (v0 &&& (9223372036854775807 : Int64)) = (v1 &&& (9223372036854775807 : Int64))
        refine own_go (T' := T5) (g' := (mkF m 69 #[.val (.long v0), .second, .val (.long v1), .second, .val (.int v2), .val (.long (v0 &&& (9223372036854775807 : Int64))), .second, .val (.long (v1 &&& (9223372036854775807 : Int64))), .second, .val (.ref b2), .val (.ref b4), .val (.int (((v2.toUInt32 >>> ((1 : Int32) &&& 31).toUInt32).toInt32) &&& (3 : Int32))), .unset] [])) (fun t_ k_ => XS.ifNo X5.here hx rfl (hb hby at_66) rfl ((if0 _ _).trans (teq ((lw_eq _ _).mpr c7)).2) k_) ?_
        refine own_go (T' := T5) (g' := (mkF m 70 #[.val (.long v0), .second, .val (.long v1), .second, .val (.int v2), .val (.long (v0 &&& (9223372036854775807 : Int64))), .second, .val (.long (v1 &&& (9223372036854775807 : Int64))), .second, .val (.ref b2), .val (.ref b4), .val (.int (((v2.toUInt32 >>> ((1 : Int32) &&& 31).toUInt32).toInt32) &&& (3 : Int32))), .unset] [(.int (1 : Int32))])) (fun t_ k_ => XS.iconst X5.here hx rfl (hb hby at_69) k_) ?_
        refine own_go (T' := T5) (g' := (mkF m 74 #[.val (.long v0), .second, .val (.long v1), .second, .val (.int v2), .val (.long (v0 &&& (9223372036854775807 : Int64))), .second, .val (.long (v1 &&& (9223372036854775807 : Int64))), .second, .val (.ref b2), .val (.ref b4), .val (.int (((v2.toUInt32 >>> ((1 : Int32) &&& 31).toUInt32).toInt32) &&& (3 : Int32))), .unset] [(.int (1 : Int32))])) (fun t_ k_ => XS.goto X5.here hx rfl (pc0 := 70) (pc' := 74) rfl (hb hby at_70) (by decide) (by decide) k_) ?_
        refine own_go (T' := T5) (g' := (mkF m 76 #[.val (.long v0), .second, .val (.long v1), .second, .val (.int v2), .val (.long (v0 &&& (9223372036854775807 : Int64))), .second, .val (.long (v1 &&& (9223372036854775807 : Int64))), .second, .val (.ref b2), .val (.ref b4), .val (.int (((v2.toUInt32 >>> ((1 : Int32) &&& 31).toUInt32).toInt32) &&& (3 : Int32))), .val (.int (1 : Int32))] [])) (fun t_ k_ => XS.istore X5.here hx rfl (hb hby at_74) rfl (l' := #[.val (.long v0), .second, .val (.long v1), .second, .val (.int v2), .val (.long (v0 &&& (9223372036854775807 : Int64))), .second, .val (.long (v1 &&& (9223372036854775807 : Int64))), .second, .val (.ref b2), .val (.ref b4), .val (.int (((v2.toUInt32 >>> ((1 : Int32) &&& 31).toUInt32).toInt32) &&& (3 : Int32))), .val (.int (1 : Int32))]) rfl k_) ?_
        refine own_go (T' := T5) (g' := (mkF m 78 #[.val (.long v0), .second, .val (.long v1), .second, .val (.int v2), .val (.long (v0 &&& (9223372036854775807 : Int64))), .second, .val (.long (v1 &&& (9223372036854775807 : Int64))), .second, .val (.ref b2), .val (.ref b4), .val (.int (((v2.toUInt32 >>> ((1 : Int32) &&& 31).toUInt32).toInt32) &&& (3 : Int32))), .val (.int (1 : Int32))] [(.ref b2)])) (fun t_ k_ => XS.aload X5.here hx rfl (hb hby at_76) rfl rfl k_) ?_
        refine own_go (T' := T5) (g' := (mkF m 80 #[.val (.long v0), .second, .val (.long v1), .second, .val (.int v2), .val (.long (v0 &&& (9223372036854775807 : Int64))), .second, .val (.long (v1 &&& (9223372036854775807 : Int64))), .second, .val (.ref b2), .val (.ref b4), .val (.int (((v2.toUInt32 >>> ((1 : Int32) &&& 31).toUInt32).toInt32) &&& (3 : Int32))), .val (.int (1 : Int32))] [(.ref b4), (.ref b2)])) (fun t_ k_ => XS.aload X5.here hx rfl (hb hby at_78) rfl rfl k_) ?_
        have ff9 := (A4.keep K5_)
        have ff10 := ((f3_0.ext E4).keep K5_ (ninS (own_ne (by omega)) nin0))
        have ff11 := (((A2.keep K3_).ext E4).keep K5_)
        obtain ⟨cq8, kq8, q8a, q8b, q8c⟩ := isOf hZ rfl ff11
        obtain ⟨_, _, ⟨T8, L8, k8, n8⟩, -, X8, ⟨Lc8, hQ8, l8, y8, z8⟩, st8⟩ := X5.virtualBack hx (y := (⟨"com/example/cover/cover/FeatureId", "equals", "(Ljava/lang/Object;)Z"⟩ : MethodName)) (z := (⟨"com/example/cover/cover/FeatureId", "equals", "(Ljava/lang/Object;)Z"⟩ : MethodName)) hown (mvT hZ (hw _ (List.mem_of_getElem? (i := 12) rfl))) (mvT hZ (hw _ (List.mem_of_getElem? (i := 13) rfl))) (notFace_of_selects (args := #[]) (mvT hZ (hw _ (List.mem_of_getElem? (i := 15) rfl)))) (mvT hZ (hw _ (List.mem_of_getElem? (i := 15) rfl))) (mvT hZ (hw _ (List.mem_of_getElem? (i := 14) rfl))) (by decide) (backOf (W := 0) (rm_eq l Z a0 hw [] b2 b4 (v0 &&& (9223372036854775807 : Int64)) (v1 &&& (9223372036854775807 : Int64)) (1 : Int32) T5.heap n0 (show n0 ≤ T5.heap.size by omega) ff9 ff10 f5_0 (if_pos c7.symm).symm) hZ (hw _ (List.mem_of_getElem? (i := 16) rfl)) (hw _ (List.mem_of_getElem? (i := 3) rfl)) (by decide) (by decide)) q8a q8c (g := (mkF m 80 #[.val (.long v0), .second, .val (.long v1), .second, .val (.int v2), .val (.long (v0 &&& (9223372036854775807 : Int64))), .second, .val (.long (v1 &&& (9223372036854775807 : Int64))), .second, .val (.ref b2), .val (.ref b4), .val (.int (((v2.toUInt32 >>> ((1 : Int32) &&& 31).toUInt32).toInt32) &&& (3 : Int32))), .val (.int (1 : Int32))] [(.ref b4), (.ref b2)])) rfl (by rw [hml]; rfl) (Steps.refl _) (argsL := [(.ref b4)]) (rest := []) (lenOf pd_2 rfl) rfl (by show 2 * 0 + _ ≤ _; exact Nat.le_of_eq rfl) (hb hby at_80) (fun _ _ => ⟨rfl, rfl, (by decide : 2 + 0 ≤ _), (by decide : 2 + 0 ≤ _)⟩)
        dsimp only [Pt.U, Pt.locs, Pt.cells, Pt.slots] at X8 l8 y8 z8 st8 hQ8
        subst l8 y8 z8
        obtain ⟨rfl, M8, e8⟩ := hQ8
        have N8 := Fr.app N5 M8
        refine own_go (T' := T8) (g' := (mkF m 83 #[.val (.long v0), .second, .val (.long v1), .second, .val (.int v2), .val (.long (v0 &&& (9223372036854775807 : Int64))), .second, .val (.long (v1 &&& (9223372036854775807 : Int64))), .second, .val (.ref b2), .val (.ref b4), .val (.int (((v2.toUInt32 >>> ((1 : Int32) &&& 31).toUInt32).toInt32) &&& (3 : Int32))), .val (.int (1 : Int32))] [(.int (1 : Int32))])) (fun t_ k_ => st8.trans k_) ?_
        refine own_go (T' := T8) (g' := (mkF m 85 #[.val (.long v0), .second, .val (.long v1), .second, .val (.int v2), .val (.long (v0 &&& (9223372036854775807 : Int64))), .second, .val (.long (v1 &&& (9223372036854775807 : Int64))), .second, .val (.ref b2), .val (.ref b4), .val (.int (((v2.toUInt32 >>> ((1 : Int32) &&& 31).toUInt32).toInt32) &&& (3 : Int32))), .val (.int (1 : Int32))] [(.int (1 : Int32)), (.int (1 : Int32))])) (fun t_ k_ => XS.iload X8.here hx rfl (hb hby at_83) rfl k_) ?_
        refine own_go (T' := T8) (g' := (mkF m 88 #[.val (.long v0), .second, .val (.long v1), .second, .val (.int v2), .val (.long (v0 &&& (9223372036854775807 : Int64))), .second, .val (.long (v1 &&& (9223372036854775807 : Int64))), .second, .val (.ref b2), .val (.ref b4), .val (.int (((v2.toUInt32 >>> ((1 : Int32) &&& 31).toUInt32).toInt32) &&& (3 : Int32))), .val (.int (1 : Int32))] [])) (fun t_ k_ => XS.icmpNo X8.here hx rfl (hb hby at_85) rfl (teq (by decide)).2 k_) ?_
        refine own_go (T' := T8) (g' := (mkF m 90 #[.val (.long v0), .second, .val (.long v1), .second, .val (.int v2), .val (.long (v0 &&& (9223372036854775807 : Int64))), .second, .val (.long (v1 &&& (9223372036854775807 : Int64))), .second, .val (.ref b2), .val (.ref b4), .val (.int (((v2.toUInt32 >>> ((1 : Int32) &&& 31).toUInt32).toInt32) &&& (3 : Int32))), .val (.int (1 : Int32))] [(.ref b4)])) (fun t_ k_ => XS.aload X8.here hx rfl (hb hby at_88) rfl rfl k_) ?_
        refine own_go (T' := T8) (g' := (mkF m 92 #[.val (.long v0), .second, .val (.long v1), .second, .val (.int v2), .val (.long (v0 &&& (9223372036854775807 : Int64))), .second, .val (.long (v1 &&& (9223372036854775807 : Int64))), .second, .val (.ref b2), .val (.ref b4), .val (.int (((v2.toUInt32 >>> ((1 : Int32) &&& 31).toUInt32).toInt32) &&& (3 : Int32))), .val (.int (1 : Int32))] [(.ref b2), (.ref b4)])) (fun t_ k_ => XS.aload X8.here hx rfl (hb hby at_90) rfl rfl k_) ?_
        obtain ⟨cq12, kq12, q12a, q12b, q12c⟩ := isOf hZ e8 ff9
        obtain ⟨_, _, ⟨T12, L12, k12, n12⟩, -, X12, ⟨Lc12, hQ12, l12, y12, z12⟩, st12⟩ := X8.virtualBack hx (y := (⟨"com/example/cover/cover/FeatureId", "equals", "(Ljava/lang/Object;)Z"⟩ : MethodName)) (z := (⟨"com/example/cover/cover/FeatureId", "equals", "(Ljava/lang/Object;)Z"⟩ : MethodName)) hown (mvT hZ (hw _ (List.mem_of_getElem? (i := 12) rfl))) (mvT hZ (hw _ (List.mem_of_getElem? (i := 13) rfl))) (notFace_of_selects (args := #[]) (mvT hZ (hw _ (List.mem_of_getElem? (i := 15) rfl)))) (mvT hZ (hw _ (List.mem_of_getElem? (i := 15) rfl))) (mvT hZ (hw _ (List.mem_of_getElem? (i := 14) rfl))) (by decide) (backOf (W := 0) (rm_eq l Z a0 hw [] b4 b2 (v1 &&& (9223372036854775807 : Int64)) (v0 &&& (9223372036854775807 : Int64)) (1 : Int32) T5.heap n0 (show n0 ≤ T5.heap.size by omega) ff11 f5_0 ff10 (if_pos c7).symm) hZ (hw _ (List.mem_of_getElem? (i := 16) rfl)) (hw _ (List.mem_of_getElem? (i := 3) rfl)) (by decide) (by decide)) q12a q12c (g := (mkF m 92 #[.val (.long v0), .second, .val (.long v1), .second, .val (.int v2), .val (.long (v0 &&& (9223372036854775807 : Int64))), .second, .val (.long (v1 &&& (9223372036854775807 : Int64))), .second, .val (.ref b2), .val (.ref b4), .val (.int (((v2.toUInt32 >>> ((1 : Int32) &&& 31).toUInt32).toInt32) &&& (3 : Int32))), .val (.int (1 : Int32))] [(.ref b2), (.ref b4)])) rfl (by rw [hml]; rfl) (Steps.refl _) (argsL := [(.ref b2)]) (rest := []) (lenOf pd_2 rfl) rfl (by show 2 * 0 + _ ≤ _; exact Nat.le_of_eq rfl) (hb hby at_92) (fun _ _ => ⟨rfl, e8, (by decide : 2 + 0 ≤ _), (by decide : 2 + 0 ≤ _)⟩)
        dsimp only [Pt.U, Pt.locs, Pt.cells, Pt.slots] at X12 l12 y12 z12 st12 hQ12
        subst l12 y12 z12
        obtain ⟨rfl, M12, e12⟩ := hQ12
        have N12 := Fr.app N8 M12
        refine own_go (T' := T12) (g' := (mkF m 95 #[.val (.long v0), .second, .val (.long v1), .second, .val (.int v2), .val (.long (v0 &&& (9223372036854775807 : Int64))), .second, .val (.long (v1 &&& (9223372036854775807 : Int64))), .second, .val (.ref b2), .val (.ref b4), .val (.int (((v2.toUInt32 >>> ((1 : Int32) &&& 31).toUInt32).toInt32) &&& (3 : Int32))), .val (.int (1 : Int32))] [(.int (1 : Int32))])) (fun t_ k_ => st12.trans k_) ?_
        refine own_go (T' := T12) (g' := (mkF m 97 #[.val (.long v0), .second, .val (.long v1), .second, .val (.int v2), .val (.long (v0 &&& (9223372036854775807 : Int64))), .second, .val (.long (v1 &&& (9223372036854775807 : Int64))), .second, .val (.ref b2), .val (.ref b4), .val (.int (((v2.toUInt32 >>> ((1 : Int32) &&& 31).toUInt32).toInt32) &&& (3 : Int32))), .val (.int (1 : Int32))] [(.int (1 : Int32)), (.int (1 : Int32))])) (fun t_ k_ => XS.iload X12.here hx rfl (hb hby at_95) rfl k_) ?_
        refine own_go (T' := T12) (g' := (mkF m 100 #[.val (.long v0), .second, .val (.long v1), .second, .val (.int v2), .val (.long (v0 &&& (9223372036854775807 : Int64))), .second, .val (.long (v1 &&& (9223372036854775807 : Int64))), .second, .val (.ref b2), .val (.ref b4), .val (.int (((v2.toUInt32 >>> ((1 : Int32) &&& 31).toUInt32).toInt32) &&& (3 : Int32))), .val (.int (1 : Int32))] [])) (fun t_ k_ => XS.icmpNo X12.here hx rfl (hb hby at_97) rfl (teq (by decide)).2 k_) ?_
        refine own_go (T' := T12) (g' := (mkF m 101 #[.val (.long v0), .second, .val (.long v1), .second, .val (.int v2), .val (.long (v0 &&& (9223372036854775807 : Int64))), .second, .val (.long (v1 &&& (9223372036854775807 : Int64))), .second, .val (.ref b2), .val (.ref b4), .val (.int (((v2.toUInt32 >>> ((1 : Int32) &&& 31).toUInt32).toInt32) &&& (3 : Int32))), .val (.int (1 : Int32))] [(.int (1 : Int32))])) (fun t_ k_ => XS.iconst X12.here hx rfl (hb hby at_100) k_) ?_
        refine own_go (T' := T12) (g' := (mkF m 105 #[.val (.long v0), .second, .val (.long v1), .second, .val (.int v2), .val (.long (v0 &&& (9223372036854775807 : Int64))), .second, .val (.long (v1 &&& (9223372036854775807 : Int64))), .second, .val (.ref b2), .val (.ref b4), .val (.int (((v2.toUInt32 >>> ((1 : Int32) &&& 31).toUInt32).toInt32) &&& (3 : Int32))), .val (.int (1 : Int32))] [(.int (1 : Int32))])) (fun t_ k_ => XS.goto X12.here hx rfl (pc0 := 101) (pc' := 105) rfl (hb hby at_101) (by decide) (by decide) k_) ?_
        exact own_out X12 (v := some (.int (nar .boolean (1 : Int32)))) (fun h => by rw [Bd.returns] at h; cases h) hlk (fun fs hr => retN X12 hx (t := .boolean) Bd.returns (by simp) (hb hby at_105) hr) (Q := Q_rm_law Z v0 v1 v2 gL cL fV ar h0 n0) (by rw [e12]; exact ⟨rfl, N12⟩) (by decide) (by decide)
      · -- not (v0 &&& (9223372036854775807 : Int64)) = (v1 &&& (9223372036854775807 : Int64))
        refine own_go (T' := T5) (g' := (mkF m 73 #[.val (.long v0), .second, .val (.long v1), .second, .val (.int v2), .val (.long (v0 &&& (9223372036854775807 : Int64))), .second, .val (.long (v1 &&& (9223372036854775807 : Int64))), .second, .val (.ref b2), .val (.ref b4), .val (.int (((v2.toUInt32 >>> ((1 : Int32) &&& 31).toUInt32).toInt32) &&& (3 : Int32))), .unset] [])) (fun t_ k_ => XS.ifYes X5.here hx rfl (pc0 := 66) (pc' := 73) rfl (hb hby at_66) rfl ((if0 _ _).trans (feq (fun z => c7 ((lw_eq _ _).mp z))).2) (by decide) (by decide) k_) ?_
        refine own_go (T' := T5) (g' := (mkF m 74 #[.val (.long v0), .second, .val (.long v1), .second, .val (.int v2), .val (.long (v0 &&& (9223372036854775807 : Int64))), .second, .val (.long (v1 &&& (9223372036854775807 : Int64))), .second, .val (.ref b2), .val (.ref b4), .val (.int (((v2.toUInt32 >>> ((1 : Int32) &&& 31).toUInt32).toInt32) &&& (3 : Int32))), .unset] [(.int (0 : Int32))])) (fun t_ k_ => XS.iconst X5.here hx rfl (hb hby at_73) k_) ?_
        refine own_go (T' := T5) (g' := (mkF m 76 #[.val (.long v0), .second, .val (.long v1), .second, .val (.int v2), .val (.long (v0 &&& (9223372036854775807 : Int64))), .second, .val (.long (v1 &&& (9223372036854775807 : Int64))), .second, .val (.ref b2), .val (.ref b4), .val (.int (((v2.toUInt32 >>> ((1 : Int32) &&& 31).toUInt32).toInt32) &&& (3 : Int32))), .val (.int (0 : Int32))] [])) (fun t_ k_ => XS.istore X5.here hx rfl (hb hby at_74) rfl (l' := #[.val (.long v0), .second, .val (.long v1), .second, .val (.int v2), .val (.long (v0 &&& (9223372036854775807 : Int64))), .second, .val (.long (v1 &&& (9223372036854775807 : Int64))), .second, .val (.ref b2), .val (.ref b4), .val (.int (((v2.toUInt32 >>> ((1 : Int32) &&& 31).toUInt32).toInt32) &&& (3 : Int32))), .val (.int (0 : Int32))]) rfl k_) ?_
        refine own_go (T' := T5) (g' := (mkF m 78 #[.val (.long v0), .second, .val (.long v1), .second, .val (.int v2), .val (.long (v0 &&& (9223372036854775807 : Int64))), .second, .val (.long (v1 &&& (9223372036854775807 : Int64))), .second, .val (.ref b2), .val (.ref b4), .val (.int (((v2.toUInt32 >>> ((1 : Int32) &&& 31).toUInt32).toInt32) &&& (3 : Int32))), .val (.int (0 : Int32))] [(.ref b2)])) (fun t_ k_ => XS.aload X5.here hx rfl (hb hby at_76) rfl rfl k_) ?_
        refine own_go (T' := T5) (g' := (mkF m 80 #[.val (.long v0), .second, .val (.long v1), .second, .val (.int v2), .val (.long (v0 &&& (9223372036854775807 : Int64))), .second, .val (.long (v1 &&& (9223372036854775807 : Int64))), .second, .val (.ref b2), .val (.ref b4), .val (.int (((v2.toUInt32 >>> ((1 : Int32) &&& 31).toUInt32).toInt32) &&& (3 : Int32))), .val (.int (0 : Int32))] [(.ref b4), (.ref b2)])) (fun t_ k_ => XS.aload X5.here hx rfl (hb hby at_78) rfl rfl k_) ?_
        have ff14 := (A4.keep K5_)
        have ff15 := ((f3_0.ext E4).keep K5_ (ninS (own_ne (by omega)) nin0))
        have ff16 := (((A2.keep K3_).ext E4).keep K5_)
        obtain ⟨cq13, kq13, q13a, q13b, q13c⟩ := isOf hZ rfl ff16
        obtain ⟨_, _, ⟨T13, L13, k13, n13⟩, -, X13, ⟨Lc13, hQ13, l13, y13, z13⟩, st13⟩ := X5.virtualBack hx (y := (⟨"com/example/cover/cover/FeatureId", "equals", "(Ljava/lang/Object;)Z"⟩ : MethodName)) (z := (⟨"com/example/cover/cover/FeatureId", "equals", "(Ljava/lang/Object;)Z"⟩ : MethodName)) hown (mvT hZ (hw _ (List.mem_of_getElem? (i := 12) rfl))) (mvT hZ (hw _ (List.mem_of_getElem? (i := 13) rfl))) (notFace_of_selects (args := #[]) (mvT hZ (hw _ (List.mem_of_getElem? (i := 15) rfl)))) (mvT hZ (hw _ (List.mem_of_getElem? (i := 15) rfl))) (mvT hZ (hw _ (List.mem_of_getElem? (i := 14) rfl))) (by decide) (backOf (W := 0) (rm_eq l Z a0 hw [] b2 b4 (v0 &&& (9223372036854775807 : Int64)) (v1 &&& (9223372036854775807 : Int64)) (0 : Int32) T5.heap n0 (show n0 ≤ T5.heap.size by omega) ff14 ff15 f5_0 (if_neg (fun z => c7 z.symm)).symm) hZ (hw _ (List.mem_of_getElem? (i := 16) rfl)) (hw _ (List.mem_of_getElem? (i := 3) rfl)) (by decide) (by decide)) q13a q13c (g := (mkF m 80 #[.val (.long v0), .second, .val (.long v1), .second, .val (.int v2), .val (.long (v0 &&& (9223372036854775807 : Int64))), .second, .val (.long (v1 &&& (9223372036854775807 : Int64))), .second, .val (.ref b2), .val (.ref b4), .val (.int (((v2.toUInt32 >>> ((1 : Int32) &&& 31).toUInt32).toInt32) &&& (3 : Int32))), .val (.int (0 : Int32))] [(.ref b4), (.ref b2)])) rfl (by rw [hml]; rfl) (Steps.refl _) (argsL := [(.ref b4)]) (rest := []) (lenOf pd_2 rfl) rfl (by show 2 * 0 + _ ≤ _; exact Nat.le_of_eq rfl) (hb hby at_80) (fun _ _ => ⟨rfl, rfl, (by decide : 2 + 0 ≤ _), (by decide : 2 + 0 ≤ _)⟩)
        dsimp only [Pt.U, Pt.locs, Pt.cells, Pt.slots] at X13 l13 y13 z13 st13 hQ13
        subst l13 y13 z13
        obtain ⟨rfl, M13, e13⟩ := hQ13
        have N13 := Fr.app N5 M13
        refine own_go (T' := T13) (g' := (mkF m 83 #[.val (.long v0), .second, .val (.long v1), .second, .val (.int v2), .val (.long (v0 &&& (9223372036854775807 : Int64))), .second, .val (.long (v1 &&& (9223372036854775807 : Int64))), .second, .val (.ref b2), .val (.ref b4), .val (.int (((v2.toUInt32 >>> ((1 : Int32) &&& 31).toUInt32).toInt32) &&& (3 : Int32))), .val (.int (0 : Int32))] [(.int (0 : Int32))])) (fun t_ k_ => st13.trans k_) ?_
        refine own_go (T' := T13) (g' := (mkF m 85 #[.val (.long v0), .second, .val (.long v1), .second, .val (.int v2), .val (.long (v0 &&& (9223372036854775807 : Int64))), .second, .val (.long (v1 &&& (9223372036854775807 : Int64))), .second, .val (.ref b2), .val (.ref b4), .val (.int (((v2.toUInt32 >>> ((1 : Int32) &&& 31).toUInt32).toInt32) &&& (3 : Int32))), .val (.int (0 : Int32))] [(.int (0 : Int32)), (.int (0 : Int32))])) (fun t_ k_ => XS.iload X13.here hx rfl (hb hby at_83) rfl k_) ?_
        refine own_go (T' := T13) (g' := (mkF m 88 #[.val (.long v0), .second, .val (.long v1), .second, .val (.int v2), .val (.long (v0 &&& (9223372036854775807 : Int64))), .second, .val (.long (v1 &&& (9223372036854775807 : Int64))), .second, .val (.ref b2), .val (.ref b4), .val (.int (((v2.toUInt32 >>> ((1 : Int32) &&& 31).toUInt32).toInt32) &&& (3 : Int32))), .val (.int (0 : Int32))] [])) (fun t_ k_ => XS.icmpNo X13.here hx rfl (hb hby at_85) rfl (teq (by decide)).2 k_) ?_
        refine own_go (T' := T13) (g' := (mkF m 90 #[.val (.long v0), .second, .val (.long v1), .second, .val (.int v2), .val (.long (v0 &&& (9223372036854775807 : Int64))), .second, .val (.long (v1 &&& (9223372036854775807 : Int64))), .second, .val (.ref b2), .val (.ref b4), .val (.int (((v2.toUInt32 >>> ((1 : Int32) &&& 31).toUInt32).toInt32) &&& (3 : Int32))), .val (.int (0 : Int32))] [(.ref b4)])) (fun t_ k_ => XS.aload X13.here hx rfl (hb hby at_88) rfl rfl k_) ?_
        refine own_go (T' := T13) (g' := (mkF m 92 #[.val (.long v0), .second, .val (.long v1), .second, .val (.int v2), .val (.long (v0 &&& (9223372036854775807 : Int64))), .second, .val (.long (v1 &&& (9223372036854775807 : Int64))), .second, .val (.ref b2), .val (.ref b4), .val (.int (((v2.toUInt32 >>> ((1 : Int32) &&& 31).toUInt32).toInt32) &&& (3 : Int32))), .val (.int (0 : Int32))] [(.ref b2), (.ref b4)])) (fun t_ k_ => XS.aload X13.here hx rfl (hb hby at_90) rfl rfl k_) ?_
        obtain ⟨cq17, kq17, q17a, q17b, q17c⟩ := isOf hZ e13 ff14
        obtain ⟨_, _, ⟨T17, L17, k17, n17⟩, -, X17, ⟨Lc17, hQ17, l17, y17, z17⟩, st17⟩ := X13.virtualBack hx (y := (⟨"com/example/cover/cover/FeatureId", "equals", "(Ljava/lang/Object;)Z"⟩ : MethodName)) (z := (⟨"com/example/cover/cover/FeatureId", "equals", "(Ljava/lang/Object;)Z"⟩ : MethodName)) hown (mvT hZ (hw _ (List.mem_of_getElem? (i := 12) rfl))) (mvT hZ (hw _ (List.mem_of_getElem? (i := 13) rfl))) (notFace_of_selects (args := #[]) (mvT hZ (hw _ (List.mem_of_getElem? (i := 15) rfl)))) (mvT hZ (hw _ (List.mem_of_getElem? (i := 15) rfl))) (mvT hZ (hw _ (List.mem_of_getElem? (i := 14) rfl))) (by decide) (backOf (W := 0) (rm_eq l Z a0 hw [] b4 b2 (v1 &&& (9223372036854775807 : Int64)) (v0 &&& (9223372036854775807 : Int64)) (0 : Int32) T5.heap n0 (show n0 ≤ T5.heap.size by omega) ff16 f5_0 ff15 (if_neg c7).symm) hZ (hw _ (List.mem_of_getElem? (i := 16) rfl)) (hw _ (List.mem_of_getElem? (i := 3) rfl)) (by decide) (by decide)) q17a q17c (g := (mkF m 92 #[.val (.long v0), .second, .val (.long v1), .second, .val (.int v2), .val (.long (v0 &&& (9223372036854775807 : Int64))), .second, .val (.long (v1 &&& (9223372036854775807 : Int64))), .second, .val (.ref b2), .val (.ref b4), .val (.int (((v2.toUInt32 >>> ((1 : Int32) &&& 31).toUInt32).toInt32) &&& (3 : Int32))), .val (.int (0 : Int32))] [(.ref b2), (.ref b4)])) rfl (by rw [hml]; rfl) (Steps.refl _) (argsL := [(.ref b2)]) (rest := []) (lenOf pd_2 rfl) rfl (by show 2 * 0 + _ ≤ _; exact Nat.le_of_eq rfl) (hb hby at_92) (fun _ _ => ⟨rfl, e13, (by decide : 2 + 0 ≤ _), (by decide : 2 + 0 ≤ _)⟩)
        dsimp only [Pt.U, Pt.locs, Pt.cells, Pt.slots] at X17 l17 y17 z17 st17 hQ17
        subst l17 y17 z17
        obtain ⟨rfl, M17, e17⟩ := hQ17
        have N17 := Fr.app N13 M17
        refine own_go (T' := T17) (g' := (mkF m 95 #[.val (.long v0), .second, .val (.long v1), .second, .val (.int v2), .val (.long (v0 &&& (9223372036854775807 : Int64))), .second, .val (.long (v1 &&& (9223372036854775807 : Int64))), .second, .val (.ref b2), .val (.ref b4), .val (.int (((v2.toUInt32 >>> ((1 : Int32) &&& 31).toUInt32).toInt32) &&& (3 : Int32))), .val (.int (0 : Int32))] [(.int (0 : Int32))])) (fun t_ k_ => st17.trans k_) ?_
        refine own_go (T' := T17) (g' := (mkF m 97 #[.val (.long v0), .second, .val (.long v1), .second, .val (.int v2), .val (.long (v0 &&& (9223372036854775807 : Int64))), .second, .val (.long (v1 &&& (9223372036854775807 : Int64))), .second, .val (.ref b2), .val (.ref b4), .val (.int (((v2.toUInt32 >>> ((1 : Int32) &&& 31).toUInt32).toInt32) &&& (3 : Int32))), .val (.int (0 : Int32))] [(.int (0 : Int32)), (.int (0 : Int32))])) (fun t_ k_ => XS.iload X17.here hx rfl (hb hby at_95) rfl k_) ?_
        refine own_go (T' := T17) (g' := (mkF m 100 #[.val (.long v0), .second, .val (.long v1), .second, .val (.int v2), .val (.long (v0 &&& (9223372036854775807 : Int64))), .second, .val (.long (v1 &&& (9223372036854775807 : Int64))), .second, .val (.ref b2), .val (.ref b4), .val (.int (((v2.toUInt32 >>> ((1 : Int32) &&& 31).toUInt32).toInt32) &&& (3 : Int32))), .val (.int (0 : Int32))] [])) (fun t_ k_ => XS.icmpNo X17.here hx rfl (hb hby at_97) rfl (teq (by decide)).2 k_) ?_
        refine own_go (T' := T17) (g' := (mkF m 101 #[.val (.long v0), .second, .val (.long v1), .second, .val (.int v2), .val (.long (v0 &&& (9223372036854775807 : Int64))), .second, .val (.long (v1 &&& (9223372036854775807 : Int64))), .second, .val (.ref b2), .val (.ref b4), .val (.int (((v2.toUInt32 >>> ((1 : Int32) &&& 31).toUInt32).toInt32) &&& (3 : Int32))), .val (.int (0 : Int32))] [(.int (1 : Int32))])) (fun t_ k_ => XS.iconst X17.here hx rfl (hb hby at_100) k_) ?_
        refine own_go (T' := T17) (g' := (mkF m 105 #[.val (.long v0), .second, .val (.long v1), .second, .val (.int v2), .val (.long (v0 &&& (9223372036854775807 : Int64))), .second, .val (.long (v1 &&& (9223372036854775807 : Int64))), .second, .val (.ref b2), .val (.ref b4), .val (.int (((v2.toUInt32 >>> ((1 : Int32) &&& 31).toUInt32).toInt32) &&& (3 : Int32))), .val (.int (0 : Int32))] [(.int (1 : Int32))])) (fun t_ k_ => XS.goto X17.here hx rfl (pc0 := 101) (pc' := 105) rfl (hb hby at_101) (by decide) (by decide) k_) ?_
        exact own_out X17 (v := some (.int (nar .boolean (1 : Int32)))) (fun h => by rw [Bd.returns] at h; cases h) hlk (fun fs hr => retN X17 hx (t := .boolean) Bd.returns (by simp) (hb hby at_105) hr) (Q := Q_rm_law Z v0 v1 v2 gL cL fV ar h0 n0) (by rw [e17]; exact ⟨rfl, N17⟩) (by decide) (by decide)
    · -- not (((v2.toUInt32 >>> ((1 : Int32) &&& 31).toUInt32).toInt32) &&& (3 : Int32)) = (0 : Int32)
      refine own_go (T' := T5) (g' := (mkF m 106 #[.val (.long v0), .second, .val (.long v1), .second, .val (.int v2), .val (.long (v0 &&& (9223372036854775807 : Int64))), .second, .val (.long (v1 &&& (9223372036854775807 : Int64))), .second, .val (.ref b2), .val (.ref b4), .val (.int (((v2.toUInt32 >>> ((1 : Int32) &&& 31).toUInt32).toInt32) &&& (3 : Int32))), .unset] [])) (fun t_ k_ => XS.ifYes X5.here hx rfl (pc0 := 58) (pc' := 106) rfl (hb hby at_58) rfl ((if0 _ _).trans (feq c6).2) (by decide) (by decide) k_) ?_
      refine own_go (T' := T5) (g' := (mkF m 108 #[.val (.long v0), .second, .val (.long v1), .second, .val (.int v2), .val (.long (v0 &&& (9223372036854775807 : Int64))), .second, .val (.long (v1 &&& (9223372036854775807 : Int64))), .second, .val (.ref b2), .val (.ref b4), .val (.int (((v2.toUInt32 >>> ((1 : Int32) &&& 31).toUInt32).toInt32) &&& (3 : Int32))), .unset] [(.int (((v2.toUInt32 >>> ((1 : Int32) &&& 31).toUInt32).toInt32) &&& (3 : Int32)))])) (fun t_ k_ => XS.iload X5.here hx rfl (hb hby at_106) rfl k_) ?_
      refine own_go (T' := T5) (g' := (mkF m 109 #[.val (.long v0), .second, .val (.long v1), .second, .val (.int v2), .val (.long (v0 &&& (9223372036854775807 : Int64))), .second, .val (.long (v1 &&& (9223372036854775807 : Int64))), .second, .val (.ref b2), .val (.ref b4), .val (.int (((v2.toUInt32 >>> ((1 : Int32) &&& 31).toUInt32).toInt32) &&& (3 : Int32))), .unset] [(.int (1 : Int32)), (.int (((v2.toUInt32 >>> ((1 : Int32) &&& 31).toUInt32).toInt32) &&& (3 : Int32)))])) (fun t_ k_ => XS.iconst X5.here hx rfl (hb hby at_108) k_) ?_
      by_cases c18 : (((v2.toUInt32 >>> ((1 : Int32) &&& 31).toUInt32).toInt32) &&& (3 : Int32)) = (1 : Int32)
      · -- (((v2.toUInt32 >>> ((1 : Int32) &&& 31).toUInt32).toInt32) &&& (3 : Int32)) = (1 : Int32)
        refine own_go (T' := T5) (g' := (mkF m 112 #[.val (.long v0), .second, .val (.long v1), .second, .val (.int v2), .val (.long (v0 &&& (9223372036854775807 : Int64))), .second, .val (.long (v1 &&& (9223372036854775807 : Int64))), .second, .val (.ref b2), .val (.ref b4), .val (.int (((v2.toUInt32 >>> ((1 : Int32) &&& 31).toUInt32).toInt32) &&& (3 : Int32))), .unset] [])) (fun t_ k_ => XS.icmpNo X5.here hx rfl (hb hby at_109) rfl (teq c18).2 k_) ?_
        refine own_go (T' := T5) (g' := (mkF m 114 #[.val (.long v0), .second, .val (.long v1), .second, .val (.int v2), .val (.long (v0 &&& (9223372036854775807 : Int64))), .second, .val (.long (v1 &&& (9223372036854775807 : Int64))), .second, .val (.ref b2), .val (.ref b4), .val (.int (((v2.toUInt32 >>> ((1 : Int32) &&& 31).toUInt32).toInt32) &&& (3 : Int32))), .unset] [(.ref b2)])) (fun t_ k_ => XS.aload X5.here hx rfl (hb hby at_112) rfl rfl k_) ?_
        refine own_go (T' := T5) (g' := (mkF m 115 #[.val (.long v0), .second, .val (.long v1), .second, .val (.int v2), .val (.long (v0 &&& (9223372036854775807 : Int64))), .second, .val (.long (v1 &&& (9223372036854775807 : Int64))), .second, .val (.ref b2), .val (.ref b4), .val (.int (((v2.toUInt32 >>> ((1 : Int32) &&& 31).toUInt32).toInt32) &&& (3 : Int32))), .unset] [.null, (.ref b2)])) (fun t_ k_ => XS.aconstNull X5.here hx rfl (hb hby at_114) k_) ?_
        have ff20 := (((A2.keep K3_).ext E4).keep K5_)
        obtain ⟨cq19, kq19, q19a, q19b, q19c⟩ := isOf hZ rfl ff20
        obtain ⟨_, _, ⟨T19, L19, k19, n19⟩, -, X19, ⟨Lc19, hQ19, l19, y19, z19⟩, st19⟩ := X5.virtualBack hx (y := (⟨"com/example/cover/cover/FeatureId", "equals", "(Ljava/lang/Object;)Z"⟩ : MethodName)) (z := (⟨"com/example/cover/cover/FeatureId", "equals", "(Ljava/lang/Object;)Z"⟩ : MethodName)) hown (mvT hZ (hw _ (List.mem_of_getElem? (i := 12) rfl))) (mvT hZ (hw _ (List.mem_of_getElem? (i := 13) rfl))) (notFace_of_selects (args := #[]) (mvT hZ (hw _ (List.mem_of_getElem? (i := 15) rfl)))) (mvT hZ (hw _ (List.mem_of_getElem? (i := 15) rfl))) (mvT hZ (hw _ (List.mem_of_getElem? (i := 14) rfl))) (by decide) (backOf (W := 0) (rm_eqn l Z a0 hw [] b2 T5.heap n0 (show n0 ≤ T5.heap.size by omega)) hZ (hw _ (List.mem_of_getElem? (i := 16) rfl)) (hw _ (List.mem_of_getElem? (i := 3) rfl)) (by decide) (by decide)) q19a q19c (g := (mkF m 115 #[.val (.long v0), .second, .val (.long v1), .second, .val (.int v2), .val (.long (v0 &&& (9223372036854775807 : Int64))), .second, .val (.long (v1 &&& (9223372036854775807 : Int64))), .second, .val (.ref b2), .val (.ref b4), .val (.int (((v2.toUInt32 >>> ((1 : Int32) &&& 31).toUInt32).toInt32) &&& (3 : Int32))), .unset] [.null, (.ref b2)])) rfl (by rw [hml]; rfl) (Steps.refl _) (argsL := [.null]) (rest := []) (lenOf pd_2 rfl) rfl (by show 2 * 0 + _ ≤ _; exact Nat.le_of_eq rfl) (hb hby at_115) (fun _ _ => ⟨rfl, rfl, (by decide : 2 + 0 ≤ _), (by decide : 2 + 0 ≤ _)⟩)
        dsimp only [Pt.U, Pt.locs, Pt.cells, Pt.slots] at X19 l19 y19 z19 st19 hQ19
        subst l19 y19 z19
        obtain ⟨rfl, M19, e19⟩ := hQ19
        have N19 := Fr.app N5 M19
        refine own_go (T' := T19) (g' := (mkF m 118 #[.val (.long v0), .second, .val (.long v1), .second, .val (.int v2), .val (.long (v0 &&& (9223372036854775807 : Int64))), .second, .val (.long (v1 &&& (9223372036854775807 : Int64))), .second, .val (.ref b2), .val (.ref b4), .val (.int (((v2.toUInt32 >>> ((1 : Int32) &&& 31).toUInt32).toInt32) &&& (3 : Int32))), .unset] [(.int (0 : Int32))])) (fun t_ k_ => st19.trans k_) ?_
        refine own_go (T' := T19) (g' := (mkF m 121 #[.val (.long v0), .second, .val (.long v1), .second, .val (.int v2), .val (.long (v0 &&& (9223372036854775807 : Int64))), .second, .val (.long (v1 &&& (9223372036854775807 : Int64))), .second, .val (.ref b2), .val (.ref b4), .val (.int (((v2.toUInt32 >>> ((1 : Int32) &&& 31).toUInt32).toInt32) &&& (3 : Int32))), .unset] [])) (fun t_ k_ => XS.ifNo X19.here hx rfl (hb hby at_118) rfl ((if0 _ _).trans (teq (by decide)).2) k_) ?_
        refine own_go (T' := T19) (g' := (mkF m 122 #[.val (.long v0), .second, .val (.long v1), .second, .val (.int v2), .val (.long (v0 &&& (9223372036854775807 : Int64))), .second, .val (.long (v1 &&& (9223372036854775807 : Int64))), .second, .val (.ref b2), .val (.ref b4), .val (.int (((v2.toUInt32 >>> ((1 : Int32) &&& 31).toUInt32).toInt32) &&& (3 : Int32))), .unset] [(.int (1 : Int32))])) (fun t_ k_ => XS.iconst X19.here hx rfl (hb hby at_121) k_) ?_
        refine own_go (T' := T19) (g' := (mkF m 126 #[.val (.long v0), .second, .val (.long v1), .second, .val (.int v2), .val (.long (v0 &&& (9223372036854775807 : Int64))), .second, .val (.long (v1 &&& (9223372036854775807 : Int64))), .second, .val (.ref b2), .val (.ref b4), .val (.int (((v2.toUInt32 >>> ((1 : Int32) &&& 31).toUInt32).toInt32) &&& (3 : Int32))), .unset] [(.int (1 : Int32))])) (fun t_ k_ => XS.goto X19.here hx rfl (pc0 := 122) (pc' := 126) rfl (hb hby at_122) (by decide) (by decide) k_) ?_
        exact own_out X19 (v := some (.int (nar .boolean (1 : Int32)))) (fun h => by rw [Bd.returns] at h; cases h) hlk (fun fs hr => retN X19 hx (t := .boolean) Bd.returns (by simp) (hb hby at_126) hr) (Q := Q_rm_law Z v0 v1 v2 gL cL fV ar h0 n0) (by rw [e19]; exact ⟨rfl, N19⟩) (by decide) (by decide)
      · -- not (((v2.toUInt32 >>> ((1 : Int32) &&& 31).toUInt32).toInt32) &&& (3 : Int32)) = (1 : Int32)
        refine own_go (T' := T5) (g' := (mkF m 127 #[.val (.long v0), .second, .val (.long v1), .second, .val (.int v2), .val (.long (v0 &&& (9223372036854775807 : Int64))), .second, .val (.long (v1 &&& (9223372036854775807 : Int64))), .second, .val (.ref b2), .val (.ref b4), .val (.int (((v2.toUInt32 >>> ((1 : Int32) &&& 31).toUInt32).toInt32) &&& (3 : Int32))), .unset] [])) (fun t_ k_ => XS.icmpYes X5.here hx rfl (pc0 := 109) (pc' := 127) rfl (hb hby at_109) rfl (feq c18).2 (by decide) (by decide) k_) ?_
        refine own_go (T' := T5) (g' := (mkF m 129 #[.val (.long v0), .second, .val (.long v1), .second, .val (.int v2), .val (.long (v0 &&& (9223372036854775807 : Int64))), .second, .val (.long (v1 &&& (9223372036854775807 : Int64))), .second, .val (.ref b2), .val (.ref b4), .val (.int (((v2.toUInt32 >>> ((1 : Int32) &&& 31).toUInt32).toInt32) &&& (3 : Int32))), .unset] [(.int (((v2.toUInt32 >>> ((1 : Int32) &&& 31).toUInt32).toInt32) &&& (3 : Int32)))])) (fun t_ k_ => XS.iload X5.here hx rfl (hb hby at_127) rfl k_) ?_
        refine own_go (T' := T5) (g' := (mkF m 130 #[.val (.long v0), .second, .val (.long v1), .second, .val (.int v2), .val (.long (v0 &&& (9223372036854775807 : Int64))), .second, .val (.long (v1 &&& (9223372036854775807 : Int64))), .second, .val (.ref b2), .val (.ref b4), .val (.int (((v2.toUInt32 >>> ((1 : Int32) &&& 31).toUInt32).toInt32) &&& (3 : Int32))), .unset] [(.int (2 : Int32)), (.int (((v2.toUInt32 >>> ((1 : Int32) &&& 31).toUInt32).toInt32) &&& (3 : Int32)))])) (fun t_ k_ => XS.iconst X5.here hx rfl (hb hby at_129) k_) ?_
        by_cases c21 : (((v2.toUInt32 >>> ((1 : Int32) &&& 31).toUInt32).toInt32) &&& (3 : Int32)) = (2 : Int32)
        · -- (((v2.toUInt32 >>> ((1 : Int32) &&& 31).toUInt32).toInt32) &&& (3 : Int32)) = (2 : Int32)
          refine own_go (T' := T5) (g' := (mkF m 133 #[.val (.long v0), .second, .val (.long v1), .second, .val (.int v2), .val (.long (v0 &&& (9223372036854775807 : Int64))), .second, .val (.long (v1 &&& (9223372036854775807 : Int64))), .second, .val (.ref b2), .val (.ref b4), .val (.int (((v2.toUInt32 >>> ((1 : Int32) &&& 31).toUInt32).toInt32) &&& (3 : Int32))), .unset] [])) (fun t_ k_ => XS.icmpNo X5.here hx rfl (hb hby at_130) rfl (teq c21).2 k_) ?_
          refine own_go (T' := T5) (g' := (mkF m 135 #[.val (.long v0), .second, .val (.long v1), .second, .val (.int v2), .val (.long (v0 &&& (9223372036854775807 : Int64))), .second, .val (.long (v1 &&& (9223372036854775807 : Int64))), .second, .val (.ref b2), .val (.ref b4), .val (.int (((v2.toUInt32 >>> ((1 : Int32) &&& 31).toUInt32).toInt32) &&& (3 : Int32))), .unset] [(.ref b2)])) (fun t_ k_ => XS.aload X5.here hx rfl (hb hby at_133) rfl rfl k_) ?_
          refine own_go (T' := T5) (g' := (mkF m 137 #[.val (.long v0), .second, .val (.long v1), .second, .val (.int v2), .val (.long (v0 &&& (9223372036854775807 : Int64))), .second, .val (.long (v1 &&& (9223372036854775807 : Int64))), .second, .val (.ref b2), .val (.ref b4), .val (.int (((v2.toUInt32 >>> ((1 : Int32) &&& 31).toUInt32).toInt32) &&& (3 : Int32))), .unset] [(.long (v0 &&& (9223372036854775807 : Int64))), (.ref b2)])) (fun t_ k_ => XS.lload X5.here hx rfl (hb hby at_135) rfl k_) ?_
          obtain ⟨_, _, ⟨T22, L22, k22, n22⟩, -, X22, ⟨Lc22, hQ22, l22, y22, z22⟩, st22⟩ := Jvm.LawKit.callS X5 hx (y := (⟨"java/lang/Long", "valueOf", "(J)Ljava/lang/Long;"⟩ : MethodName)) hown (mvT hZ (hw _ (List.mem_of_getElem? (i := 19) rfl))) (mvT hZ (hw _ (List.mem_of_getElem? (i := 20) rfl))) (mvT hZ (hw _ (List.mem_of_getElem? (i := 21) rfl))) (mvT hZ (hw _ (List.mem_of_getElem? (i := 22) rfl))) (by decide) (backOf (W := 1) (rm_vof l Z a0 hw [] (v0 &&& (9223372036854775807 : Int64)) gL cL fV ar T5.heap n0 (show n0 ≤ T5.heap.size by omega) O5 S_cache PL ha) hZ (hw _ (List.mem_of_getElem? (i := 22) rfl)) (hw _ (List.mem_of_getElem? (i := 21) rfl)) (by decide) (by decide)) (g := (mkF m 137 #[.val (.long v0), .second, .val (.long v1), .second, .val (.int v2), .val (.long (v0 &&& (9223372036854775807 : Int64))), .second, .val (.long (v1 &&& (9223372036854775807 : Int64))), .second, .val (.ref b2), .val (.ref b4), .val (.int (((v2.toUInt32 >>> ((1 : Int32) &&& 31).toUInt32).toInt32) &&& (3 : Int32))), .unset] [(.long (v0 &&& (9223372036854775807 : Int64))), (.ref b2)])) rfl (by rw [hml]; rfl) (argsL := [(.long (v0 &&& (9223372036854775807 : Int64)))]) (rest := [(.ref b2)]) (lenOf pd_3 rfl) rfl (by show 2 * 0 + _ ≤ _; exact Nat.le_of_eq rfl) (hb hby at_137) (fun _ _ => ⟨rfl, rfl, (by decide : 2 + 1 ≤ _), (by decide : 2 + 1 ≤ _)⟩)
          dsimp only [Pt.U, Pt.locs, Pt.cells, Pt.slots] at X22 l22 y22 z22 st22 hQ22
          subst l22 y22 z22
          obtain ⟨b22, rfl, M22, K22_, f22_0⟩ := hQ22
          have zz22 := K22_.1
          have O22 := O5.keep K22_ all0
          have N22 := Fr.app N5 M22
          refine own_go (T' := T22) (g' := (mkF m 140 #[.val (.long v0), .second, .val (.long v1), .second, .val (.int v2), .val (.long (v0 &&& (9223372036854775807 : Int64))), .second, .val (.long (v1 &&& (9223372036854775807 : Int64))), .second, .val (.ref b2), .val (.ref b4), .val (.int (((v2.toUInt32 >>> ((1 : Int32) &&& 31).toUInt32).toInt32) &&& (3 : Int32))), .unset] [(.ref b22), (.ref b2)])) (fun t_ k_ => st22 _ k_) ?_
          have ff24 := ((((A2.keep K3_).ext E4).keep K5_).keep K22_)
          obtain ⟨cq23, kq23, q23a, q23b, q23c⟩ := isOf hZ rfl ff24
          obtain ⟨_, _, ⟨T23, L23, k23, n23⟩, -, X23, ⟨Lc23, hQ23, l23, y23, z23⟩, st23⟩ := X22.virtualBack hx (y := (⟨"com/example/cover/cover/FeatureId", "equals", "(Ljava/lang/Object;)Z"⟩ : MethodName)) (z := (⟨"com/example/cover/cover/FeatureId", "equals", "(Ljava/lang/Object;)Z"⟩ : MethodName)) hown (mvT hZ (hw _ (List.mem_of_getElem? (i := 12) rfl))) (mvT hZ (hw _ (List.mem_of_getElem? (i := 13) rfl))) (notFace_of_selects (args := #[]) (mvT hZ (hw _ (List.mem_of_getElem? (i := 15) rfl)))) (mvT hZ (hw _ (List.mem_of_getElem? (i := 15) rfl))) (mvT hZ (hw _ (List.mem_of_getElem? (i := 14) rfl))) (by decide) (backOf (W := 0) (rm_eql l Z a0 hw [] b2 b22 T22.heap n0 (show n0 ≤ T22.heap.size by omega) f22_0 NF) hZ (hw _ (List.mem_of_getElem? (i := 16) rfl)) (hw _ (List.mem_of_getElem? (i := 3) rfl)) (by decide) (by decide)) q23a q23c (g := (mkF m 140 #[.val (.long v0), .second, .val (.long v1), .second, .val (.int v2), .val (.long (v0 &&& (9223372036854775807 : Int64))), .second, .val (.long (v1 &&& (9223372036854775807 : Int64))), .second, .val (.ref b2), .val (.ref b4), .val (.int (((v2.toUInt32 >>> ((1 : Int32) &&& 31).toUInt32).toInt32) &&& (3 : Int32))), .unset] [(.ref b22), (.ref b2)])) rfl (by rw [hml]; rfl) (Steps.refl _) (argsL := [(.ref b22)]) (rest := []) (lenOf pd_2 rfl) rfl (by show 2 * 0 + _ ≤ _; exact Nat.le_of_eq rfl) (hb hby at_140) (fun _ _ => ⟨rfl, rfl, (by decide : 3 + 0 ≤ _), (by decide : 3 + 0 ≤ _)⟩)
          dsimp only [Pt.U, Pt.locs, Pt.cells, Pt.slots] at X23 l23 y23 z23 st23 hQ23
          subst l23 y23 z23
          obtain ⟨rfl, M23, e23⟩ := hQ23
          have N23 := Fr.app N22 M23
          refine own_go (T' := T23) (g' := (mkF m 143 #[.val (.long v0), .second, .val (.long v1), .second, .val (.int v2), .val (.long (v0 &&& (9223372036854775807 : Int64))), .second, .val (.long (v1 &&& (9223372036854775807 : Int64))), .second, .val (.ref b2), .val (.ref b4), .val (.int (((v2.toUInt32 >>> ((1 : Int32) &&& 31).toUInt32).toInt32) &&& (3 : Int32))), .unset] [(.int (0 : Int32))])) (fun t_ k_ => st23.trans k_) ?_
          refine own_go (T' := T23) (g' := (mkF m 146 #[.val (.long v0), .second, .val (.long v1), .second, .val (.int v2), .val (.long (v0 &&& (9223372036854775807 : Int64))), .second, .val (.long (v1 &&& (9223372036854775807 : Int64))), .second, .val (.ref b2), .val (.ref b4), .val (.int (((v2.toUInt32 >>> ((1 : Int32) &&& 31).toUInt32).toInt32) &&& (3 : Int32))), .unset] [])) (fun t_ k_ => XS.ifNo X23.here hx rfl (hb hby at_143) rfl ((if0 _ _).trans (teq (by decide)).2) k_) ?_
          refine own_go (T' := T23) (g' := (mkF m 147 #[.val (.long v0), .second, .val (.long v1), .second, .val (.int v2), .val (.long (v0 &&& (9223372036854775807 : Int64))), .second, .val (.long (v1 &&& (9223372036854775807 : Int64))), .second, .val (.ref b2), .val (.ref b4), .val (.int (((v2.toUInt32 >>> ((1 : Int32) &&& 31).toUInt32).toInt32) &&& (3 : Int32))), .unset] [(.int (1 : Int32))])) (fun t_ k_ => XS.iconst X23.here hx rfl (hb hby at_146) k_) ?_
          refine own_go (T' := T23) (g' := (mkF m 151 #[.val (.long v0), .second, .val (.long v1), .second, .val (.int v2), .val (.long (v0 &&& (9223372036854775807 : Int64))), .second, .val (.long (v1 &&& (9223372036854775807 : Int64))), .second, .val (.ref b2), .val (.ref b4), .val (.int (((v2.toUInt32 >>> ((1 : Int32) &&& 31).toUInt32).toInt32) &&& (3 : Int32))), .unset] [(.int (1 : Int32))])) (fun t_ k_ => XS.goto X23.here hx rfl (pc0 := 147) (pc' := 151) rfl (hb hby at_147) (by decide) (by decide) k_) ?_
          exact own_out X23 (v := some (.int (nar .boolean (1 : Int32)))) (fun h => by rw [Bd.returns] at h; cases h) hlk (fun fs hr => retN X23 hx (t := .boolean) Bd.returns (by simp) (hb hby at_151) hr) (Q := Q_rm_law Z v0 v1 v2 gL cL fV ar h0 n0) (by rw [e23]; exact ⟨rfl, N23⟩) (by decide) (by decide)
        · -- not (((v2.toUInt32 >>> ((1 : Int32) &&& 31).toUInt32).toInt32) &&& (3 : Int32)) = (2 : Int32)
          refine own_go (T' := T5) (g' := (mkF m 152 #[.val (.long v0), .second, .val (.long v1), .second, .val (.int v2), .val (.long (v0 &&& (9223372036854775807 : Int64))), .second, .val (.long (v1 &&& (9223372036854775807 : Int64))), .second, .val (.ref b2), .val (.ref b4), .val (.int (((v2.toUInt32 >>> ((1 : Int32) &&& 31).toUInt32).toInt32) &&& (3 : Int32))), .unset] [])) (fun t_ k_ => XS.icmpYes X5.here hx rfl (pc0 := 130) (pc' := 152) rfl (hb hby at_130) rfl (feq c21).2 (by decide) (by decide) k_) ?_
          refine own_go (T' := T5) (g' := (mkF m 154 #[.val (.long v0), .second, .val (.long v1), .second, .val (.int v2), .val (.long (v0 &&& (9223372036854775807 : Int64))), .second, .val (.long (v1 &&& (9223372036854775807 : Int64))), .second, .val (.ref b2), .val (.ref b4), .val (.int (((v2.toUInt32 >>> ((1 : Int32) &&& 31).toUInt32).toInt32) &&& (3 : Int32))), .unset] [(.ref b2)])) (fun t_ k_ => XS.aload X5.here hx rfl (hb hby at_152) rfl rfl k_) ?_
          refine own_go (T' := T5) (g' := (mkF m 156 #[.val (.long v0), .second, .val (.long v1), .second, .val (.int v2), .val (.long (v0 &&& (9223372036854775807 : Int64))), .second, .val (.long (v1 &&& (9223372036854775807 : Int64))), .second, .val (.ref b2), .val (.ref b4), .val (.int (((v2.toUInt32 >>> ((1 : Int32) &&& 31).toUInt32).toInt32) &&& (3 : Int32))), .unset] [(.ref b2), (.ref b2)])) (fun t_ k_ => XS.aload X5.here hx rfl (hb hby at_154) rfl rfl k_) ?_
          have ff26 := (((A2.keep K3_).ext E4).keep K5_)
          have ff27 := ((f3_0.ext E4).keep K5_ (ninS (own_ne (by omega)) nin0))
          obtain ⟨cq25, kq25, q25a, q25b, q25c⟩ := isOf hZ rfl ff26
          obtain ⟨_, _, ⟨T25, L25, k25, n25⟩, -, X25, ⟨Lc25, hQ25, l25, y25, z25⟩, st25⟩ := X5.virtualBack hx (y := (⟨"com/example/cover/cover/FeatureId", "equals", "(Ljava/lang/Object;)Z"⟩ : MethodName)) (z := (⟨"com/example/cover/cover/FeatureId", "equals", "(Ljava/lang/Object;)Z"⟩ : MethodName)) hown (mvT hZ (hw _ (List.mem_of_getElem? (i := 12) rfl))) (mvT hZ (hw _ (List.mem_of_getElem? (i := 13) rfl))) (notFace_of_selects (args := #[]) (mvT hZ (hw _ (List.mem_of_getElem? (i := 15) rfl)))) (mvT hZ (hw _ (List.mem_of_getElem? (i := 15) rfl))) (mvT hZ (hw _ (List.mem_of_getElem? (i := 14) rfl))) (by decide) (backOf (W := 0) (rm_eq l Z a0 hw [] b2 b2 (v0 &&& (9223372036854775807 : Int64)) (v0 &&& (9223372036854775807 : Int64)) (1 : Int32) T5.heap n0 (show n0 ≤ T5.heap.size by omega) ff26 ff27 ff27 (if_pos rfl).symm) hZ (hw _ (List.mem_of_getElem? (i := 16) rfl)) (hw _ (List.mem_of_getElem? (i := 3) rfl)) (by decide) (by decide)) q25a q25c (g := (mkF m 156 #[.val (.long v0), .second, .val (.long v1), .second, .val (.int v2), .val (.long (v0 &&& (9223372036854775807 : Int64))), .second, .val (.long (v1 &&& (9223372036854775807 : Int64))), .second, .val (.ref b2), .val (.ref b4), .val (.int (((v2.toUInt32 >>> ((1 : Int32) &&& 31).toUInt32).toInt32) &&& (3 : Int32))), .unset] [(.ref b2), (.ref b2)])) rfl (by rw [hml]; rfl) (Steps.refl _) (argsL := [(.ref b2)]) (rest := []) (lenOf pd_2 rfl) rfl (by show 2 * 0 + _ ≤ _; exact Nat.le_of_eq rfl) (hb hby at_156) (fun _ _ => ⟨rfl, rfl, (by decide : 2 + 0 ≤ _), (by decide : 2 + 0 ≤ _)⟩)
          dsimp only [Pt.U, Pt.locs, Pt.cells, Pt.slots] at X25 l25 y25 z25 st25 hQ25
          subst l25 y25 z25
          obtain ⟨rfl, M25, e25⟩ := hQ25
          have N25 := Fr.app N5 M25
          refine own_go (T' := T25) (g' := (mkF m 159 #[.val (.long v0), .second, .val (.long v1), .second, .val (.int v2), .val (.long (v0 &&& (9223372036854775807 : Int64))), .second, .val (.long (v1 &&& (9223372036854775807 : Int64))), .second, .val (.ref b2), .val (.ref b4), .val (.int (((v2.toUInt32 >>> ((1 : Int32) &&& 31).toUInt32).toInt32) &&& (3 : Int32))), .unset] [(.int (1 : Int32))])) (fun t_ k_ => st25.trans k_) ?_
          exact own_out X25 (v := some (.int (nar .boolean (1 : Int32)))) (fun h => by rw [Bd.returns] at h; cases h) hlk (fun fs hr => retN X25 hx (t := .boolean) Bd.returns (by simp) (hb hby at_159) hr) (Q := Q_rm_law Z v0 v1 v2 gL cL fV ar h0 n0) (by rw [e25]; exact ⟨rfl, N25⟩) (by decide) (by decide)
  · -- not (v2 &&& (1 : Int32)) = (0 : Int32)
    refine own_go (T' := s₁) (g' := (mkF m 14 #[.val (.long v0), .second, .val (.long v1), .second, .val (.int v2), .val (.long (v0 &&& (9223372036854775807 : Int64))), .second, .unset, .unset, .unset, .unset, .unset, .unset] [])) (fun t_ k_ => XS.ifNo X0.here hx rfl (hb hby at_11) rfl ((if0 _ _).trans (feq c1).1) k_) ?_
    refine own_go (T' := s₁) (g' := (mkF m 16 #[.val (.long v0), .second, .val (.long v1), .second, .val (.int v2), .val (.long (v0 &&& (9223372036854775807 : Int64))), .second, .unset, .unset, .unset, .unset, .unset, .unset] [(.long (v0 &&& (9223372036854775807 : Int64)))])) (fun t_ k_ => XS.lload X0.here hx rfl (hb hby at_14) rfl k_) ?_
    refine own_go (T' := s₁) (g' := (mkF m 24 #[.val (.long v0), .second, .val (.long v1), .second, .val (.int v2), .val (.long (v0 &&& (9223372036854775807 : Int64))), .second, .unset, .unset, .unset, .unset, .unset, .unset] [(.long (v0 &&& (9223372036854775807 : Int64)))])) (fun t_ k_ => XS.goto X0.here hx rfl (pc0 := 16) (pc' := 24) rfl (hb hby at_16) (by decide) (by decide) k_) ?_
    refine own_go (T' := s₁) (g' := (mkF m 26 #[.val (.long v0), .second, .val (.long v1), .second, .val (.int v2), .val (.long (v0 &&& (9223372036854775807 : Int64))), .second, .val (.long (v0 &&& (9223372036854775807 : Int64))), .second, .unset, .unset, .unset, .unset] [])) (fun t_ k_ => XS.lstore X0.here hx rfl (hb hby at_24) rfl (l' := #[.val (.long v0), .second, .val (.long v1), .second, .val (.int v2), .val (.long (v0 &&& (9223372036854775807 : Int64))), .second, .val (.long (v0 &&& (9223372036854775807 : Int64))), .second, .unset, .unset, .unset, .unset]) rfl k_) ?_
    obtain ⟨T28, h28, X28, e28, E28, A28, D28, -, st28⟩ := newO X0 hx hZ hown (hw _ (List.mem_of_getElem? (i := 1) rfl)) (hw _ (List.mem_of_getElem? (i := 2) rfl)) (hw _ (List.mem_of_getElem? (i := 3) rfl)) e0 (g := (mkF m 26 #[.val (.long v0), .second, .val (.long v1), .second, .val (.int v2), .val (.long (v0 &&& (9223372036854775807 : Int64))), .second, .val (.long (v0 &&& (9223372036854775807 : Int64))), .second, .unset, .unset, .unset, .unset] [])) rfl (hb hby at_26) (by decide) (by decide)
    obtain ⟨b28, g28⟩ : ∃ z, z = h0.size := ⟨_, rfl⟩
    rw [← g28] at A28 D28 st28
    have l28 := own_ltN A28.lt
    have z28 := E28.1
    have O28 := O0.ext E28
    have F28_iValue : Fld Z h28 b28 "com/example/cover/cover/FeatureId" "iValue" "J" (.long (0 : Int64)) := D28 (Or.inr (hw _ (List.mem_of_getElem? (i := 11) rfl))) (ty := .long) (by decide)
    refine own_go (T' := T28) (g' := (mkF m 29 #[.val (.long v0), .second, .val (.long v1), .second, .val (.int v2), .val (.long (v0 &&& (9223372036854775807 : Int64))), .second, .val (.long (v0 &&& (9223372036854775807 : Int64))), .second, .unset, .unset, .unset, .unset] [(.ref b28)])) (fun t_ k_ => st28 _ k_) ?_
    refine own_go (T' := T28) (g' := (mkF m 30 #[.val (.long v0), .second, .val (.long v1), .second, .val (.int v2), .val (.long (v0 &&& (9223372036854775807 : Int64))), .second, .val (.long (v0 &&& (9223372036854775807 : Int64))), .second, .unset, .unset, .unset, .unset] [(.ref b28), (.ref b28)])) (fun t_ k_ => XS.dup X28.here hx rfl (hb hby at_29) rfl rfl k_) ?_
    refine own_go (T' := T28) (g' := (mkF m 32 #[.val (.long v0), .second, .val (.long v1), .second, .val (.int v2), .val (.long (v0 &&& (9223372036854775807 : Int64))), .second, .val (.long (v0 &&& (9223372036854775807 : Int64))), .second, .unset, .unset, .unset, .unset] [(.long (v0 &&& (9223372036854775807 : Int64))), (.ref b28), (.ref b28)])) (fun t_ k_ => XS.lload X28.here hx rfl (hb hby at_30) rfl k_) ?_
    obtain ⟨_, _, ⟨T29, L29, k29, n29⟩, -, X29, ⟨Lc29, hQ29, l29, y29, z29⟩, st29⟩ := X28.specialBack hx (y := (⟨"com/example/cover/cover/FeatureId", "<init>", "(J)V"⟩ : MethodName)) rfl hown (mvT hZ (hw _ (List.mem_of_getElem? (i := 4) rfl))) (mvT hZ (hw _ (List.mem_of_getElem? (i := 5) rfl))) (mvT hZ (hw _ (List.mem_of_getElem? (i := 6) rfl))) (by decide) (backOf (W := 1) (rm_init l Z a0 hw [] b28 (v0 &&& (9223372036854775807 : Int64)) (0 : Int64) h28 n0 (show n0 ≤ h28.size by omega) A28 F28_iValue (show n0 ≤ b28 by omega) (own_mask _)) hZ (hw _ (List.mem_of_getElem? (i := 6) rfl)) (hw _ (List.mem_of_getElem? (i := 3) rfl)) (by decide) (by decide)) (g := (mkF m 32 #[.val (.long v0), .second, .val (.long v1), .second, .val (.int v2), .val (.long (v0 &&& (9223372036854775807 : Int64))), .second, .val (.long (v0 &&& (9223372036854775807 : Int64))), .second, .unset, .unset, .unset, .unset] [(.long (v0 &&& (9223372036854775807 : Int64))), (.ref b28), (.ref b28)])) rfl (by rw [hml]; rfl) (Steps.refl _) (a := b28) (argsL := [(.long (v0 &&& (9223372036854775807 : Int64)))]) (rest := [(.ref b28)]) (lenOf pd_1 rfl) rfl (by show 2 * 0 + _ ≤ _; exact Nat.le_of_eq rfl) (hb hby at_32) (fun _ _ => ⟨rfl, e28, (by decide : 1 + 0 ≤ _), (by decide : 1 + 0 ≤ _)⟩)
    dsimp only [Pt.U, Pt.locs, Pt.cells, Pt.slots] at X29 l29 y29 z29 st29 hQ29
    subst l29 y29 z29
    obtain ⟨rfl, M29, K29_, f29_0⟩ := hQ29
    have zz29 := K29_.1
    have O29 := O28.keep K29_ (allS (show n0 ≤ b28 by omega) all0)
    have N29 := Fr.app N0 M29
    refine own_go (T' := T29) (g' := (mkF m 35 #[.val (.long v0), .second, .val (.long v1), .second, .val (.int v2), .val (.long (v0 &&& (9223372036854775807 : Int64))), .second, .val (.long (v0 &&& (9223372036854775807 : Int64))), .second, .unset, .unset, .unset, .unset] [(.ref b28)])) (fun t_ k_ => st29.trans k_) ?_
    refine own_go (T' := T29) (g' := (mkF m 37 #[.val (.long v0), .second, .val (.long v1), .second, .val (.int v2), .val (.long (v0 &&& (9223372036854775807 : Int64))), .second, .val (.long (v0 &&& (9223372036854775807 : Int64))), .second, .val (.ref b28), .unset, .unset, .unset] [])) (fun t_ k_ => XS.astore X29.here hx rfl (hb hby at_35) rfl rfl (l' := #[.val (.long v0), .second, .val (.long v1), .second, .val (.int v2), .val (.long (v0 &&& (9223372036854775807 : Int64))), .second, .val (.long (v0 &&& (9223372036854775807 : Int64))), .second, .val (.ref b28), .unset, .unset, .unset]) rfl k_) ?_
    obtain ⟨T30, h30, X30, e30, E30, A30, D30, -, st30⟩ := newO X29 hx hZ hown (hw _ (List.mem_of_getElem? (i := 1) rfl)) (hw _ (List.mem_of_getElem? (i := 2) rfl)) (hw _ (List.mem_of_getElem? (i := 3) rfl)) rfl (g := (mkF m 37 #[.val (.long v0), .second, .val (.long v1), .second, .val (.int v2), .val (.long (v0 &&& (9223372036854775807 : Int64))), .second, .val (.long (v0 &&& (9223372036854775807 : Int64))), .second, .val (.ref b28), .unset, .unset, .unset] [])) rfl (hb hby at_37) (by decide) (by decide)
    obtain ⟨b30, g30⟩ : ∃ z, z = T29.heap.size := ⟨_, rfl⟩
    rw [← g30] at A30 D30 st30
    have l30 := own_ltN A30.lt
    have z30 := E30.1
    have O30 := O29.ext E30
    have F30_iValue : Fld Z h30 b30 "com/example/cover/cover/FeatureId" "iValue" "J" (.long (0 : Int64)) := D30 (Or.inr (hw _ (List.mem_of_getElem? (i := 11) rfl))) (ty := .long) (by decide)
    refine own_go (T' := T30) (g' := (mkF m 40 #[.val (.long v0), .second, .val (.long v1), .second, .val (.int v2), .val (.long (v0 &&& (9223372036854775807 : Int64))), .second, .val (.long (v0 &&& (9223372036854775807 : Int64))), .second, .val (.ref b28), .unset, .unset, .unset] [(.ref b30)])) (fun t_ k_ => st30 _ k_) ?_
    refine own_go (T' := T30) (g' := (mkF m 41 #[.val (.long v0), .second, .val (.long v1), .second, .val (.int v2), .val (.long (v0 &&& (9223372036854775807 : Int64))), .second, .val (.long (v0 &&& (9223372036854775807 : Int64))), .second, .val (.ref b28), .unset, .unset, .unset] [(.ref b30), (.ref b30)])) (fun t_ k_ => XS.dup X30.here hx rfl (hb hby at_40) rfl rfl k_) ?_
    refine own_go (T' := T30) (g' := (mkF m 43 #[.val (.long v0), .second, .val (.long v1), .second, .val (.int v2), .val (.long (v0 &&& (9223372036854775807 : Int64))), .second, .val (.long (v0 &&& (9223372036854775807 : Int64))), .second, .val (.ref b28), .unset, .unset, .unset] [(.long (v0 &&& (9223372036854775807 : Int64))), (.ref b30), (.ref b30)])) (fun t_ k_ => XS.lload X30.here hx rfl (hb hby at_41) rfl k_) ?_
    obtain ⟨_, _, ⟨T31, L31, k31, n31⟩, -, X31, ⟨Lc31, hQ31, l31, y31, z31⟩, st31⟩ := X30.specialBack hx (y := (⟨"com/example/cover/cover/FeatureId", "<init>", "(J)V"⟩ : MethodName)) rfl hown (mvT hZ (hw _ (List.mem_of_getElem? (i := 4) rfl))) (mvT hZ (hw _ (List.mem_of_getElem? (i := 5) rfl))) (mvT hZ (hw _ (List.mem_of_getElem? (i := 6) rfl))) (by decide) (backOf (W := 1) (rm_init l Z a0 hw [] b30 (v0 &&& (9223372036854775807 : Int64)) (0 : Int64) h30 n0 (show n0 ≤ h30.size by omega) A30 F30_iValue (show n0 ≤ b30 by omega) (own_mask _)) hZ (hw _ (List.mem_of_getElem? (i := 6) rfl)) (hw _ (List.mem_of_getElem? (i := 3) rfl)) (by decide) (by decide)) (g := (mkF m 43 #[.val (.long v0), .second, .val (.long v1), .second, .val (.int v2), .val (.long (v0 &&& (9223372036854775807 : Int64))), .second, .val (.long (v0 &&& (9223372036854775807 : Int64))), .second, .val (.ref b28), .unset, .unset, .unset] [(.long (v0 &&& (9223372036854775807 : Int64))), (.ref b30), (.ref b30)])) rfl (by rw [hml]; rfl) (Steps.refl _) (a := b30) (argsL := [(.long (v0 &&& (9223372036854775807 : Int64)))]) (rest := [(.ref b30)]) (lenOf pd_1 rfl) rfl (by show 2 * 0 + _ ≤ _; exact Nat.le_of_eq rfl) (hb hby at_43) (fun _ _ => ⟨rfl, e30, (by decide : 2 + 0 ≤ _), (by decide : 2 + 0 ≤ _)⟩)
    dsimp only [Pt.U, Pt.locs, Pt.cells, Pt.slots] at X31 l31 y31 z31 st31 hQ31
    subst l31 y31 z31
    obtain ⟨rfl, M31, K31_, f31_0⟩ := hQ31
    have zz31 := K31_.1
    have O31 := O30.keep K31_ (allS (show n0 ≤ b30 by omega) all0)
    have N31 := Fr.app N29 M31
    refine own_go (T' := T31) (g' := (mkF m 46 #[.val (.long v0), .second, .val (.long v1), .second, .val (.int v2), .val (.long (v0 &&& (9223372036854775807 : Int64))), .second, .val (.long (v0 &&& (9223372036854775807 : Int64))), .second, .val (.ref b28), .unset, .unset, .unset] [(.ref b30)])) (fun t_ k_ => st31.trans k_) ?_
    refine own_go (T' := T31) (g' := (mkF m 48 #[.val (.long v0), .second, .val (.long v1), .second, .val (.int v2), .val (.long (v0 &&& (9223372036854775807 : Int64))), .second, .val (.long (v0 &&& (9223372036854775807 : Int64))), .second, .val (.ref b28), .val (.ref b30), .unset, .unset] [])) (fun t_ k_ => XS.astore X31.here hx rfl (hb hby at_46) rfl rfl (l' := #[.val (.long v0), .second, .val (.long v1), .second, .val (.int v2), .val (.long (v0 &&& (9223372036854775807 : Int64))), .second, .val (.long (v0 &&& (9223372036854775807 : Int64))), .second, .val (.ref b28), .val (.ref b30), .unset, .unset]) rfl k_) ?_
    refine own_go (T' := T31) (g' := (mkF m 50 #[.val (.long v0), .second, .val (.long v1), .second, .val (.int v2), .val (.long (v0 &&& (9223372036854775807 : Int64))), .second, .val (.long (v0 &&& (9223372036854775807 : Int64))), .second, .val (.ref b28), .val (.ref b30), .unset, .unset] [(.int v2)])) (fun t_ k_ => XS.iload X31.here hx rfl (hb hby at_48) rfl k_) ?_
    refine own_go (T' := T31) (g' := (mkF m 51 #[.val (.long v0), .second, .val (.long v1), .second, .val (.int v2), .val (.long (v0 &&& (9223372036854775807 : Int64))), .second, .val (.long (v0 &&& (9223372036854775807 : Int64))), .second, .val (.ref b28), .val (.ref b30), .unset, .unset] [(.int (1 : Int32)), (.int v2)])) (fun t_ k_ => XS.iconst X31.here hx rfl (hb hby at_50) k_) ?_
    refine own_go (T' := T31) (g' := (mkF m 52 #[.val (.long v0), .second, .val (.long v1), .second, .val (.int v2), .val (.long (v0 &&& (9223372036854775807 : Int64))), .second, .val (.long (v0 &&& (9223372036854775807 : Int64))), .second, .val (.ref b28), .val (.ref b30), .unset, .unset] [(.int ((v2.toUInt32 >>> ((1 : Int32) &&& 31).toUInt32).toInt32))])) (fun t_ k_ => XS.iushr X31.here hx rfl (hb hby at_51) rfl k_) ?_
    refine own_go (T' := T31) (g' := (mkF m 53 #[.val (.long v0), .second, .val (.long v1), .second, .val (.int v2), .val (.long (v0 &&& (9223372036854775807 : Int64))), .second, .val (.long (v0 &&& (9223372036854775807 : Int64))), .second, .val (.ref b28), .val (.ref b30), .unset, .unset] [(.int (3 : Int32)), (.int ((v2.toUInt32 >>> ((1 : Int32) &&& 31).toUInt32).toInt32))])) (fun t_ k_ => XS.iconst X31.here hx rfl (hb hby at_52) k_) ?_
    refine own_go (T' := T31) (g' := (mkF m 54 #[.val (.long v0), .second, .val (.long v1), .second, .val (.int v2), .val (.long (v0 &&& (9223372036854775807 : Int64))), .second, .val (.long (v0 &&& (9223372036854775807 : Int64))), .second, .val (.ref b28), .val (.ref b30), .unset, .unset] [(.int (((v2.toUInt32 >>> ((1 : Int32) &&& 31).toUInt32).toInt32) &&& (3 : Int32)))])) (fun t_ k_ => XS.iand X31.here hx rfl (hb hby at_53) rfl k_) ?_
    refine own_go (T' := T31) (g' := (mkF m 56 #[.val (.long v0), .second, .val (.long v1), .second, .val (.int v2), .val (.long (v0 &&& (9223372036854775807 : Int64))), .second, .val (.long (v0 &&& (9223372036854775807 : Int64))), .second, .val (.ref b28), .val (.ref b30), .val (.int (((v2.toUInt32 >>> ((1 : Int32) &&& 31).toUInt32).toInt32) &&& (3 : Int32))), .unset] [])) (fun t_ k_ => XS.istore X31.here hx rfl (hb hby at_54) rfl (l' := #[.val (.long v0), .second, .val (.long v1), .second, .val (.int v2), .val (.long (v0 &&& (9223372036854775807 : Int64))), .second, .val (.long (v0 &&& (9223372036854775807 : Int64))), .second, .val (.ref b28), .val (.ref b30), .val (.int (((v2.toUInt32 >>> ((1 : Int32) &&& 31).toUInt32).toInt32) &&& (3 : Int32))), .unset]) rfl k_) ?_
    refine own_go (T' := T31) (g' := (mkF m 58 #[.val (.long v0), .second, .val (.long v1), .second, .val (.int v2), .val (.long (v0 &&& (9223372036854775807 : Int64))), .second, .val (.long (v0 &&& (9223372036854775807 : Int64))), .second, .val (.ref b28), .val (.ref b30), .val (.int (((v2.toUInt32 >>> ((1 : Int32) &&& 31).toUInt32).toInt32) &&& (3 : Int32))), .unset] [(.int (((v2.toUInt32 >>> ((1 : Int32) &&& 31).toUInt32).toInt32) &&& (3 : Int32)))])) (fun t_ k_ => XS.iload X31.here hx rfl (hb hby at_56) rfl k_) ?_
    by_cases c32 : (((v2.toUInt32 >>> ((1 : Int32) &&& 31).toUInt32).toInt32) &&& (3 : Int32)) = (0 : Int32)
    · -- (((v2.toUInt32 >>> ((1 : Int32) &&& 31).toUInt32).toInt32) &&& (3 : Int32)) = (0 : Int32)
      refine own_go (T' := T31) (g' := (mkF m 61 #[.val (.long v0), .second, .val (.long v1), .second, .val (.int v2), .val (.long (v0 &&& (9223372036854775807 : Int64))), .second, .val (.long (v0 &&& (9223372036854775807 : Int64))), .second, .val (.ref b28), .val (.ref b30), .val (.int (((v2.toUInt32 >>> ((1 : Int32) &&& 31).toUInt32).toInt32) &&& (3 : Int32))), .unset] [])) (fun t_ k_ => XS.ifNo X31.here hx rfl (hb hby at_58) rfl ((if0 _ _).trans (teq c32).2) k_) ?_
      refine own_go (T' := T31) (g' := (mkF m 63 #[.val (.long v0), .second, .val (.long v1), .second, .val (.int v2), .val (.long (v0 &&& (9223372036854775807 : Int64))), .second, .val (.long (v0 &&& (9223372036854775807 : Int64))), .second, .val (.ref b28), .val (.ref b30), .val (.int (((v2.toUInt32 >>> ((1 : Int32) &&& 31).toUInt32).toInt32) &&& (3 : Int32))), .unset] [(.long (v0 &&& (9223372036854775807 : Int64)))])) (fun t_ k_ => XS.lload X31.here hx rfl (hb hby at_61) rfl k_) ?_
      refine own_go (T' := T31) (g' := (mkF m 65 #[.val (.long v0), .second, .val (.long v1), .second, .val (.int v2), .val (.long (v0 &&& (9223372036854775807 : Int64))), .second, .val (.long (v0 &&& (9223372036854775807 : Int64))), .second, .val (.ref b28), .val (.ref b30), .val (.int (((v2.toUInt32 >>> ((1 : Int32) &&& 31).toUInt32).toInt32) &&& (3 : Int32))), .unset] [(.long (v0 &&& (9223372036854775807 : Int64))), (.long (v0 &&& (9223372036854775807 : Int64)))])) (fun t_ k_ => XS.lload X31.here hx rfl (hb hby at_63) rfl k_) ?_
      refine own_go (T' := T31) (g' := (mkF m 66 #[.val (.long v0), .second, .val (.long v1), .second, .val (.int v2), .val (.long (v0 &&& (9223372036854775807 : Int64))), .second, .val (.long (v0 &&& (9223372036854775807 : Int64))), .second, .val (.ref b28), .val (.ref b30), .val (.int (((v2.toUInt32 >>> ((1 : Int32) &&& 31).toUInt32).toInt32) &&& (3 : Int32))), .unset] [(.int (lcmpW (v0 &&& (9223372036854775807 : Int64)) (v0 &&& (9223372036854775807 : Int64))))])) (fun t_ k_ => XS.lcmp X31.here hx rfl (hb hby at_65) rfl k_) ?_
      refine own_go (T' := T31) (g' := (mkF m 69 #[.val (.long v0), .second, .val (.long v1), .second, .val (.int v2), .val (.long (v0 &&& (9223372036854775807 : Int64))), .second, .val (.long (v0 &&& (9223372036854775807 : Int64))), .second, .val (.ref b28), .val (.ref b30), .val (.int (((v2.toUInt32 >>> ((1 : Int32) &&& 31).toUInt32).toInt32) &&& (3 : Int32))), .unset] [])) (fun t_ k_ => XS.ifNo X31.here hx rfl (hb hby at_66) rfl ((if0 _ _).trans (teq ((lw_eq _ _).mpr rfl)).2) k_) ?_
      refine own_go (T' := T31) (g' := (mkF m 70 #[.val (.long v0), .second, .val (.long v1), .second, .val (.int v2), .val (.long (v0 &&& (9223372036854775807 : Int64))), .second, .val (.long (v0 &&& (9223372036854775807 : Int64))), .second, .val (.ref b28), .val (.ref b30), .val (.int (((v2.toUInt32 >>> ((1 : Int32) &&& 31).toUInt32).toInt32) &&& (3 : Int32))), .unset] [(.int (1 : Int32))])) (fun t_ k_ => XS.iconst X31.here hx rfl (hb hby at_69) k_) ?_
      refine own_go (T' := T31) (g' := (mkF m 74 #[.val (.long v0), .second, .val (.long v1), .second, .val (.int v2), .val (.long (v0 &&& (9223372036854775807 : Int64))), .second, .val (.long (v0 &&& (9223372036854775807 : Int64))), .second, .val (.ref b28), .val (.ref b30), .val (.int (((v2.toUInt32 >>> ((1 : Int32) &&& 31).toUInt32).toInt32) &&& (3 : Int32))), .unset] [(.int (1 : Int32))])) (fun t_ k_ => XS.goto X31.here hx rfl (pc0 := 70) (pc' := 74) rfl (hb hby at_70) (by decide) (by decide) k_) ?_
      refine own_go (T' := T31) (g' := (mkF m 76 #[.val (.long v0), .second, .val (.long v1), .second, .val (.int v2), .val (.long (v0 &&& (9223372036854775807 : Int64))), .second, .val (.long (v0 &&& (9223372036854775807 : Int64))), .second, .val (.ref b28), .val (.ref b30), .val (.int (((v2.toUInt32 >>> ((1 : Int32) &&& 31).toUInt32).toInt32) &&& (3 : Int32))), .val (.int (1 : Int32))] [])) (fun t_ k_ => XS.istore X31.here hx rfl (hb hby at_74) rfl (l' := #[.val (.long v0), .second, .val (.long v1), .second, .val (.int v2), .val (.long (v0 &&& (9223372036854775807 : Int64))), .second, .val (.long (v0 &&& (9223372036854775807 : Int64))), .second, .val (.ref b28), .val (.ref b30), .val (.int (((v2.toUInt32 >>> ((1 : Int32) &&& 31).toUInt32).toInt32) &&& (3 : Int32))), .val (.int (1 : Int32))]) rfl k_) ?_
      refine own_go (T' := T31) (g' := (mkF m 78 #[.val (.long v0), .second, .val (.long v1), .second, .val (.int v2), .val (.long (v0 &&& (9223372036854775807 : Int64))), .second, .val (.long (v0 &&& (9223372036854775807 : Int64))), .second, .val (.ref b28), .val (.ref b30), .val (.int (((v2.toUInt32 >>> ((1 : Int32) &&& 31).toUInt32).toInt32) &&& (3 : Int32))), .val (.int (1 : Int32))] [(.ref b28)])) (fun t_ k_ => XS.aload X31.here hx rfl (hb hby at_76) rfl rfl k_) ?_
      refine own_go (T' := T31) (g' := (mkF m 80 #[.val (.long v0), .second, .val (.long v1), .second, .val (.int v2), .val (.long (v0 &&& (9223372036854775807 : Int64))), .second, .val (.long (v0 &&& (9223372036854775807 : Int64))), .second, .val (.ref b28), .val (.ref b30), .val (.int (((v2.toUInt32 >>> ((1 : Int32) &&& 31).toUInt32).toInt32) &&& (3 : Int32))), .val (.int (1 : Int32))] [(.ref b30), (.ref b28)])) (fun t_ k_ => XS.aload X31.here hx rfl (hb hby at_78) rfl rfl k_) ?_
      have ff34 := (A30.keep K31_)
      have ff35 := ((f29_0.ext E30).keep K31_ (ninS (own_ne (by omega)) nin0))
      have ff36 := (((A28.keep K29_).ext E30).keep K31_)
      obtain ⟨cq33, kq33, q33a, q33b, q33c⟩ := isOf hZ rfl ff36
      obtain ⟨_, _, ⟨T33, L33, k33, n33⟩, -, X33, ⟨Lc33, hQ33, l33, y33, z33⟩, st33⟩ := X31.virtualBack hx (y := (⟨"com/example/cover/cover/FeatureId", "equals", "(Ljava/lang/Object;)Z"⟩ : MethodName)) (z := (⟨"com/example/cover/cover/FeatureId", "equals", "(Ljava/lang/Object;)Z"⟩ : MethodName)) hown (mvT hZ (hw _ (List.mem_of_getElem? (i := 12) rfl))) (mvT hZ (hw _ (List.mem_of_getElem? (i := 13) rfl))) (notFace_of_selects (args := #[]) (mvT hZ (hw _ (List.mem_of_getElem? (i := 15) rfl)))) (mvT hZ (hw _ (List.mem_of_getElem? (i := 15) rfl))) (mvT hZ (hw _ (List.mem_of_getElem? (i := 14) rfl))) (by decide) (backOf (W := 0) (rm_eq l Z a0 hw [] b28 b30 (v0 &&& (9223372036854775807 : Int64)) (v0 &&& (9223372036854775807 : Int64)) (1 : Int32) T31.heap n0 (show n0 ≤ T31.heap.size by omega) ff34 ff35 f31_0 (if_pos rfl).symm) hZ (hw _ (List.mem_of_getElem? (i := 16) rfl)) (hw _ (List.mem_of_getElem? (i := 3) rfl)) (by decide) (by decide)) q33a q33c (g := (mkF m 80 #[.val (.long v0), .second, .val (.long v1), .second, .val (.int v2), .val (.long (v0 &&& (9223372036854775807 : Int64))), .second, .val (.long (v0 &&& (9223372036854775807 : Int64))), .second, .val (.ref b28), .val (.ref b30), .val (.int (((v2.toUInt32 >>> ((1 : Int32) &&& 31).toUInt32).toInt32) &&& (3 : Int32))), .val (.int (1 : Int32))] [(.ref b30), (.ref b28)])) rfl (by rw [hml]; rfl) (Steps.refl _) (argsL := [(.ref b30)]) (rest := []) (lenOf pd_2 rfl) rfl (by show 2 * 0 + _ ≤ _; exact Nat.le_of_eq rfl) (hb hby at_80) (fun _ _ => ⟨rfl, rfl, (by decide : 2 + 0 ≤ _), (by decide : 2 + 0 ≤ _)⟩)
      dsimp only [Pt.U, Pt.locs, Pt.cells, Pt.slots] at X33 l33 y33 z33 st33 hQ33
      subst l33 y33 z33
      obtain ⟨rfl, M33, e33⟩ := hQ33
      have N33 := Fr.app N31 M33
      refine own_go (T' := T33) (g' := (mkF m 83 #[.val (.long v0), .second, .val (.long v1), .second, .val (.int v2), .val (.long (v0 &&& (9223372036854775807 : Int64))), .second, .val (.long (v0 &&& (9223372036854775807 : Int64))), .second, .val (.ref b28), .val (.ref b30), .val (.int (((v2.toUInt32 >>> ((1 : Int32) &&& 31).toUInt32).toInt32) &&& (3 : Int32))), .val (.int (1 : Int32))] [(.int (1 : Int32))])) (fun t_ k_ => st33.trans k_) ?_
      refine own_go (T' := T33) (g' := (mkF m 85 #[.val (.long v0), .second, .val (.long v1), .second, .val (.int v2), .val (.long (v0 &&& (9223372036854775807 : Int64))), .second, .val (.long (v0 &&& (9223372036854775807 : Int64))), .second, .val (.ref b28), .val (.ref b30), .val (.int (((v2.toUInt32 >>> ((1 : Int32) &&& 31).toUInt32).toInt32) &&& (3 : Int32))), .val (.int (1 : Int32))] [(.int (1 : Int32)), (.int (1 : Int32))])) (fun t_ k_ => XS.iload X33.here hx rfl (hb hby at_83) rfl k_) ?_
      refine own_go (T' := T33) (g' := (mkF m 88 #[.val (.long v0), .second, .val (.long v1), .second, .val (.int v2), .val (.long (v0 &&& (9223372036854775807 : Int64))), .second, .val (.long (v0 &&& (9223372036854775807 : Int64))), .second, .val (.ref b28), .val (.ref b30), .val (.int (((v2.toUInt32 >>> ((1 : Int32) &&& 31).toUInt32).toInt32) &&& (3 : Int32))), .val (.int (1 : Int32))] [])) (fun t_ k_ => XS.icmpNo X33.here hx rfl (hb hby at_85) rfl (teq (by decide)).2 k_) ?_
      refine own_go (T' := T33) (g' := (mkF m 90 #[.val (.long v0), .second, .val (.long v1), .second, .val (.int v2), .val (.long (v0 &&& (9223372036854775807 : Int64))), .second, .val (.long (v0 &&& (9223372036854775807 : Int64))), .second, .val (.ref b28), .val (.ref b30), .val (.int (((v2.toUInt32 >>> ((1 : Int32) &&& 31).toUInt32).toInt32) &&& (3 : Int32))), .val (.int (1 : Int32))] [(.ref b30)])) (fun t_ k_ => XS.aload X33.here hx rfl (hb hby at_88) rfl rfl k_) ?_
      refine own_go (T' := T33) (g' := (mkF m 92 #[.val (.long v0), .second, .val (.long v1), .second, .val (.int v2), .val (.long (v0 &&& (9223372036854775807 : Int64))), .second, .val (.long (v0 &&& (9223372036854775807 : Int64))), .second, .val (.ref b28), .val (.ref b30), .val (.int (((v2.toUInt32 >>> ((1 : Int32) &&& 31).toUInt32).toInt32) &&& (3 : Int32))), .val (.int (1 : Int32))] [(.ref b28), (.ref b30)])) (fun t_ k_ => XS.aload X33.here hx rfl (hb hby at_90) rfl rfl k_) ?_
      obtain ⟨cq37, kq37, q37a, q37b, q37c⟩ := isOf hZ e33 ff34
      obtain ⟨_, _, ⟨T37, L37, k37, n37⟩, -, X37, ⟨Lc37, hQ37, l37, y37, z37⟩, st37⟩ := X33.virtualBack hx (y := (⟨"com/example/cover/cover/FeatureId", "equals", "(Ljava/lang/Object;)Z"⟩ : MethodName)) (z := (⟨"com/example/cover/cover/FeatureId", "equals", "(Ljava/lang/Object;)Z"⟩ : MethodName)) hown (mvT hZ (hw _ (List.mem_of_getElem? (i := 12) rfl))) (mvT hZ (hw _ (List.mem_of_getElem? (i := 13) rfl))) (notFace_of_selects (args := #[]) (mvT hZ (hw _ (List.mem_of_getElem? (i := 15) rfl)))) (mvT hZ (hw _ (List.mem_of_getElem? (i := 15) rfl))) (mvT hZ (hw _ (List.mem_of_getElem? (i := 14) rfl))) (by decide) (backOf (W := 0) (rm_eq l Z a0 hw [] b30 b28 (v0 &&& (9223372036854775807 : Int64)) (v0 &&& (9223372036854775807 : Int64)) (1 : Int32) T31.heap n0 (show n0 ≤ T31.heap.size by omega) ff36 f31_0 ff35 (if_pos rfl).symm) hZ (hw _ (List.mem_of_getElem? (i := 16) rfl)) (hw _ (List.mem_of_getElem? (i := 3) rfl)) (by decide) (by decide)) q37a q37c (g := (mkF m 92 #[.val (.long v0), .second, .val (.long v1), .second, .val (.int v2), .val (.long (v0 &&& (9223372036854775807 : Int64))), .second, .val (.long (v0 &&& (9223372036854775807 : Int64))), .second, .val (.ref b28), .val (.ref b30), .val (.int (((v2.toUInt32 >>> ((1 : Int32) &&& 31).toUInt32).toInt32) &&& (3 : Int32))), .val (.int (1 : Int32))] [(.ref b28), (.ref b30)])) rfl (by rw [hml]; rfl) (Steps.refl _) (argsL := [(.ref b28)]) (rest := []) (lenOf pd_2 rfl) rfl (by show 2 * 0 + _ ≤ _; exact Nat.le_of_eq rfl) (hb hby at_92) (fun _ _ => ⟨rfl, e33, (by decide : 2 + 0 ≤ _), (by decide : 2 + 0 ≤ _)⟩)
      dsimp only [Pt.U, Pt.locs, Pt.cells, Pt.slots] at X37 l37 y37 z37 st37 hQ37
      subst l37 y37 z37
      obtain ⟨rfl, M37, e37⟩ := hQ37
      have N37 := Fr.app N33 M37
      refine own_go (T' := T37) (g' := (mkF m 95 #[.val (.long v0), .second, .val (.long v1), .second, .val (.int v2), .val (.long (v0 &&& (9223372036854775807 : Int64))), .second, .val (.long (v0 &&& (9223372036854775807 : Int64))), .second, .val (.ref b28), .val (.ref b30), .val (.int (((v2.toUInt32 >>> ((1 : Int32) &&& 31).toUInt32).toInt32) &&& (3 : Int32))), .val (.int (1 : Int32))] [(.int (1 : Int32))])) (fun t_ k_ => st37.trans k_) ?_
      refine own_go (T' := T37) (g' := (mkF m 97 #[.val (.long v0), .second, .val (.long v1), .second, .val (.int v2), .val (.long (v0 &&& (9223372036854775807 : Int64))), .second, .val (.long (v0 &&& (9223372036854775807 : Int64))), .second, .val (.ref b28), .val (.ref b30), .val (.int (((v2.toUInt32 >>> ((1 : Int32) &&& 31).toUInt32).toInt32) &&& (3 : Int32))), .val (.int (1 : Int32))] [(.int (1 : Int32)), (.int (1 : Int32))])) (fun t_ k_ => XS.iload X37.here hx rfl (hb hby at_95) rfl k_) ?_
      refine own_go (T' := T37) (g' := (mkF m 100 #[.val (.long v0), .second, .val (.long v1), .second, .val (.int v2), .val (.long (v0 &&& (9223372036854775807 : Int64))), .second, .val (.long (v0 &&& (9223372036854775807 : Int64))), .second, .val (.ref b28), .val (.ref b30), .val (.int (((v2.toUInt32 >>> ((1 : Int32) &&& 31).toUInt32).toInt32) &&& (3 : Int32))), .val (.int (1 : Int32))] [])) (fun t_ k_ => XS.icmpNo X37.here hx rfl (hb hby at_97) rfl (teq (by decide)).2 k_) ?_
      refine own_go (T' := T37) (g' := (mkF m 101 #[.val (.long v0), .second, .val (.long v1), .second, .val (.int v2), .val (.long (v0 &&& (9223372036854775807 : Int64))), .second, .val (.long (v0 &&& (9223372036854775807 : Int64))), .second, .val (.ref b28), .val (.ref b30), .val (.int (((v2.toUInt32 >>> ((1 : Int32) &&& 31).toUInt32).toInt32) &&& (3 : Int32))), .val (.int (1 : Int32))] [(.int (1 : Int32))])) (fun t_ k_ => XS.iconst X37.here hx rfl (hb hby at_100) k_) ?_
      refine own_go (T' := T37) (g' := (mkF m 105 #[.val (.long v0), .second, .val (.long v1), .second, .val (.int v2), .val (.long (v0 &&& (9223372036854775807 : Int64))), .second, .val (.long (v0 &&& (9223372036854775807 : Int64))), .second, .val (.ref b28), .val (.ref b30), .val (.int (((v2.toUInt32 >>> ((1 : Int32) &&& 31).toUInt32).toInt32) &&& (3 : Int32))), .val (.int (1 : Int32))] [(.int (1 : Int32))])) (fun t_ k_ => XS.goto X37.here hx rfl (pc0 := 101) (pc' := 105) rfl (hb hby at_101) (by decide) (by decide) k_) ?_
      exact own_out X37 (v := some (.int (nar .boolean (1 : Int32)))) (fun h => by rw [Bd.returns] at h; cases h) hlk (fun fs hr => retN X37 hx (t := .boolean) Bd.returns (by simp) (hb hby at_105) hr) (Q := Q_rm_law Z v0 v1 v2 gL cL fV ar h0 n0) (by rw [e37]; exact ⟨rfl, N37⟩) (by decide) (by decide)
    · -- not (((v2.toUInt32 >>> ((1 : Int32) &&& 31).toUInt32).toInt32) &&& (3 : Int32)) = (0 : Int32)
      refine own_go (T' := T31) (g' := (mkF m 106 #[.val (.long v0), .second, .val (.long v1), .second, .val (.int v2), .val (.long (v0 &&& (9223372036854775807 : Int64))), .second, .val (.long (v0 &&& (9223372036854775807 : Int64))), .second, .val (.ref b28), .val (.ref b30), .val (.int (((v2.toUInt32 >>> ((1 : Int32) &&& 31).toUInt32).toInt32) &&& (3 : Int32))), .unset] [])) (fun t_ k_ => XS.ifYes X31.here hx rfl (pc0 := 58) (pc' := 106) rfl (hb hby at_58) rfl ((if0 _ _).trans (feq c32).2) (by decide) (by decide) k_) ?_
      refine own_go (T' := T31) (g' := (mkF m 108 #[.val (.long v0), .second, .val (.long v1), .second, .val (.int v2), .val (.long (v0 &&& (9223372036854775807 : Int64))), .second, .val (.long (v0 &&& (9223372036854775807 : Int64))), .second, .val (.ref b28), .val (.ref b30), .val (.int (((v2.toUInt32 >>> ((1 : Int32) &&& 31).toUInt32).toInt32) &&& (3 : Int32))), .unset] [(.int (((v2.toUInt32 >>> ((1 : Int32) &&& 31).toUInt32).toInt32) &&& (3 : Int32)))])) (fun t_ k_ => XS.iload X31.here hx rfl (hb hby at_106) rfl k_) ?_
      refine own_go (T' := T31) (g' := (mkF m 109 #[.val (.long v0), .second, .val (.long v1), .second, .val (.int v2), .val (.long (v0 &&& (9223372036854775807 : Int64))), .second, .val (.long (v0 &&& (9223372036854775807 : Int64))), .second, .val (.ref b28), .val (.ref b30), .val (.int (((v2.toUInt32 >>> ((1 : Int32) &&& 31).toUInt32).toInt32) &&& (3 : Int32))), .unset] [(.int (1 : Int32)), (.int (((v2.toUInt32 >>> ((1 : Int32) &&& 31).toUInt32).toInt32) &&& (3 : Int32)))])) (fun t_ k_ => XS.iconst X31.here hx rfl (hb hby at_108) k_) ?_
      by_cases c38 : (((v2.toUInt32 >>> ((1 : Int32) &&& 31).toUInt32).toInt32) &&& (3 : Int32)) = (1 : Int32)
      · -- (((v2.toUInt32 >>> ((1 : Int32) &&& 31).toUInt32).toInt32) &&& (3 : Int32)) = (1 : Int32)
        refine own_go (T' := T31) (g' := (mkF m 112 #[.val (.long v0), .second, .val (.long v1), .second, .val (.int v2), .val (.long (v0 &&& (9223372036854775807 : Int64))), .second, .val (.long (v0 &&& (9223372036854775807 : Int64))), .second, .val (.ref b28), .val (.ref b30), .val (.int (((v2.toUInt32 >>> ((1 : Int32) &&& 31).toUInt32).toInt32) &&& (3 : Int32))), .unset] [])) (fun t_ k_ => XS.icmpNo X31.here hx rfl (hb hby at_109) rfl (teq c38).2 k_) ?_
        refine own_go (T' := T31) (g' := (mkF m 114 #[.val (.long v0), .second, .val (.long v1), .second, .val (.int v2), .val (.long (v0 &&& (9223372036854775807 : Int64))), .second, .val (.long (v0 &&& (9223372036854775807 : Int64))), .second, .val (.ref b28), .val (.ref b30), .val (.int (((v2.toUInt32 >>> ((1 : Int32) &&& 31).toUInt32).toInt32) &&& (3 : Int32))), .unset] [(.ref b28)])) (fun t_ k_ => XS.aload X31.here hx rfl (hb hby at_112) rfl rfl k_) ?_
        refine own_go (T' := T31) (g' := (mkF m 115 #[.val (.long v0), .second, .val (.long v1), .second, .val (.int v2), .val (.long (v0 &&& (9223372036854775807 : Int64))), .second, .val (.long (v0 &&& (9223372036854775807 : Int64))), .second, .val (.ref b28), .val (.ref b30), .val (.int (((v2.toUInt32 >>> ((1 : Int32) &&& 31).toUInt32).toInt32) &&& (3 : Int32))), .unset] [.null, (.ref b28)])) (fun t_ k_ => XS.aconstNull X31.here hx rfl (hb hby at_114) k_) ?_
        have ff40 := (((A28.keep K29_).ext E30).keep K31_)
        obtain ⟨cq39, kq39, q39a, q39b, q39c⟩ := isOf hZ rfl ff40
        obtain ⟨_, _, ⟨T39, L39, k39, n39⟩, -, X39, ⟨Lc39, hQ39, l39, y39, z39⟩, st39⟩ := X31.virtualBack hx (y := (⟨"com/example/cover/cover/FeatureId", "equals", "(Ljava/lang/Object;)Z"⟩ : MethodName)) (z := (⟨"com/example/cover/cover/FeatureId", "equals", "(Ljava/lang/Object;)Z"⟩ : MethodName)) hown (mvT hZ (hw _ (List.mem_of_getElem? (i := 12) rfl))) (mvT hZ (hw _ (List.mem_of_getElem? (i := 13) rfl))) (notFace_of_selects (args := #[]) (mvT hZ (hw _ (List.mem_of_getElem? (i := 15) rfl)))) (mvT hZ (hw _ (List.mem_of_getElem? (i := 15) rfl))) (mvT hZ (hw _ (List.mem_of_getElem? (i := 14) rfl))) (by decide) (backOf (W := 0) (rm_eqn l Z a0 hw [] b28 T31.heap n0 (show n0 ≤ T31.heap.size by omega)) hZ (hw _ (List.mem_of_getElem? (i := 16) rfl)) (hw _ (List.mem_of_getElem? (i := 3) rfl)) (by decide) (by decide)) q39a q39c (g := (mkF m 115 #[.val (.long v0), .second, .val (.long v1), .second, .val (.int v2), .val (.long (v0 &&& (9223372036854775807 : Int64))), .second, .val (.long (v0 &&& (9223372036854775807 : Int64))), .second, .val (.ref b28), .val (.ref b30), .val (.int (((v2.toUInt32 >>> ((1 : Int32) &&& 31).toUInt32).toInt32) &&& (3 : Int32))), .unset] [.null, (.ref b28)])) rfl (by rw [hml]; rfl) (Steps.refl _) (argsL := [.null]) (rest := []) (lenOf pd_2 rfl) rfl (by show 2 * 0 + _ ≤ _; exact Nat.le_of_eq rfl) (hb hby at_115) (fun _ _ => ⟨rfl, rfl, (by decide : 2 + 0 ≤ _), (by decide : 2 + 0 ≤ _)⟩)
        dsimp only [Pt.U, Pt.locs, Pt.cells, Pt.slots] at X39 l39 y39 z39 st39 hQ39
        subst l39 y39 z39
        obtain ⟨rfl, M39, e39⟩ := hQ39
        have N39 := Fr.app N31 M39
        refine own_go (T' := T39) (g' := (mkF m 118 #[.val (.long v0), .second, .val (.long v1), .second, .val (.int v2), .val (.long (v0 &&& (9223372036854775807 : Int64))), .second, .val (.long (v0 &&& (9223372036854775807 : Int64))), .second, .val (.ref b28), .val (.ref b30), .val (.int (((v2.toUInt32 >>> ((1 : Int32) &&& 31).toUInt32).toInt32) &&& (3 : Int32))), .unset] [(.int (0 : Int32))])) (fun t_ k_ => st39.trans k_) ?_
        refine own_go (T' := T39) (g' := (mkF m 121 #[.val (.long v0), .second, .val (.long v1), .second, .val (.int v2), .val (.long (v0 &&& (9223372036854775807 : Int64))), .second, .val (.long (v0 &&& (9223372036854775807 : Int64))), .second, .val (.ref b28), .val (.ref b30), .val (.int (((v2.toUInt32 >>> ((1 : Int32) &&& 31).toUInt32).toInt32) &&& (3 : Int32))), .unset] [])) (fun t_ k_ => XS.ifNo X39.here hx rfl (hb hby at_118) rfl ((if0 _ _).trans (teq (by decide)).2) k_) ?_
        refine own_go (T' := T39) (g' := (mkF m 122 #[.val (.long v0), .second, .val (.long v1), .second, .val (.int v2), .val (.long (v0 &&& (9223372036854775807 : Int64))), .second, .val (.long (v0 &&& (9223372036854775807 : Int64))), .second, .val (.ref b28), .val (.ref b30), .val (.int (((v2.toUInt32 >>> ((1 : Int32) &&& 31).toUInt32).toInt32) &&& (3 : Int32))), .unset] [(.int (1 : Int32))])) (fun t_ k_ => XS.iconst X39.here hx rfl (hb hby at_121) k_) ?_
        refine own_go (T' := T39) (g' := (mkF m 126 #[.val (.long v0), .second, .val (.long v1), .second, .val (.int v2), .val (.long (v0 &&& (9223372036854775807 : Int64))), .second, .val (.long (v0 &&& (9223372036854775807 : Int64))), .second, .val (.ref b28), .val (.ref b30), .val (.int (((v2.toUInt32 >>> ((1 : Int32) &&& 31).toUInt32).toInt32) &&& (3 : Int32))), .unset] [(.int (1 : Int32))])) (fun t_ k_ => XS.goto X39.here hx rfl (pc0 := 122) (pc' := 126) rfl (hb hby at_122) (by decide) (by decide) k_) ?_
        exact own_out X39 (v := some (.int (nar .boolean (1 : Int32)))) (fun h => by rw [Bd.returns] at h; cases h) hlk (fun fs hr => retN X39 hx (t := .boolean) Bd.returns (by simp) (hb hby at_126) hr) (Q := Q_rm_law Z v0 v1 v2 gL cL fV ar h0 n0) (by rw [e39]; exact ⟨rfl, N39⟩) (by decide) (by decide)
      · -- not (((v2.toUInt32 >>> ((1 : Int32) &&& 31).toUInt32).toInt32) &&& (3 : Int32)) = (1 : Int32)
        refine own_go (T' := T31) (g' := (mkF m 127 #[.val (.long v0), .second, .val (.long v1), .second, .val (.int v2), .val (.long (v0 &&& (9223372036854775807 : Int64))), .second, .val (.long (v0 &&& (9223372036854775807 : Int64))), .second, .val (.ref b28), .val (.ref b30), .val (.int (((v2.toUInt32 >>> ((1 : Int32) &&& 31).toUInt32).toInt32) &&& (3 : Int32))), .unset] [])) (fun t_ k_ => XS.icmpYes X31.here hx rfl (pc0 := 109) (pc' := 127) rfl (hb hby at_109) rfl (feq c38).2 (by decide) (by decide) k_) ?_
        refine own_go (T' := T31) (g' := (mkF m 129 #[.val (.long v0), .second, .val (.long v1), .second, .val (.int v2), .val (.long (v0 &&& (9223372036854775807 : Int64))), .second, .val (.long (v0 &&& (9223372036854775807 : Int64))), .second, .val (.ref b28), .val (.ref b30), .val (.int (((v2.toUInt32 >>> ((1 : Int32) &&& 31).toUInt32).toInt32) &&& (3 : Int32))), .unset] [(.int (((v2.toUInt32 >>> ((1 : Int32) &&& 31).toUInt32).toInt32) &&& (3 : Int32)))])) (fun t_ k_ => XS.iload X31.here hx rfl (hb hby at_127) rfl k_) ?_
        refine own_go (T' := T31) (g' := (mkF m 130 #[.val (.long v0), .second, .val (.long v1), .second, .val (.int v2), .val (.long (v0 &&& (9223372036854775807 : Int64))), .second, .val (.long (v0 &&& (9223372036854775807 : Int64))), .second, .val (.ref b28), .val (.ref b30), .val (.int (((v2.toUInt32 >>> ((1 : Int32) &&& 31).toUInt32).toInt32) &&& (3 : Int32))), .unset] [(.int (2 : Int32)), (.int (((v2.toUInt32 >>> ((1 : Int32) &&& 31).toUInt32).toInt32) &&& (3 : Int32)))])) (fun t_ k_ => XS.iconst X31.here hx rfl (hb hby at_129) k_) ?_
        by_cases c41 : (((v2.toUInt32 >>> ((1 : Int32) &&& 31).toUInt32).toInt32) &&& (3 : Int32)) = (2 : Int32)
        · -- (((v2.toUInt32 >>> ((1 : Int32) &&& 31).toUInt32).toInt32) &&& (3 : Int32)) = (2 : Int32)
          refine own_go (T' := T31) (g' := (mkF m 133 #[.val (.long v0), .second, .val (.long v1), .second, .val (.int v2), .val (.long (v0 &&& (9223372036854775807 : Int64))), .second, .val (.long (v0 &&& (9223372036854775807 : Int64))), .second, .val (.ref b28), .val (.ref b30), .val (.int (((v2.toUInt32 >>> ((1 : Int32) &&& 31).toUInt32).toInt32) &&& (3 : Int32))), .unset] [])) (fun t_ k_ => XS.icmpNo X31.here hx rfl (hb hby at_130) rfl (teq c41).2 k_) ?_
          refine own_go (T' := T31) (g' := (mkF m 135 #[.val (.long v0), .second, .val (.long v1), .second, .val (.int v2), .val (.long (v0 &&& (9223372036854775807 : Int64))), .second, .val (.long (v0 &&& (9223372036854775807 : Int64))), .second, .val (.ref b28), .val (.ref b30), .val (.int (((v2.toUInt32 >>> ((1 : Int32) &&& 31).toUInt32).toInt32) &&& (3 : Int32))), .unset] [(.ref b28)])) (fun t_ k_ => XS.aload X31.here hx rfl (hb hby at_133) rfl rfl k_) ?_
          refine own_go (T' := T31) (g' := (mkF m 137 #[.val (.long v0), .second, .val (.long v1), .second, .val (.int v2), .val (.long (v0 &&& (9223372036854775807 : Int64))), .second, .val (.long (v0 &&& (9223372036854775807 : Int64))), .second, .val (.ref b28), .val (.ref b30), .val (.int (((v2.toUInt32 >>> ((1 : Int32) &&& 31).toUInt32).toInt32) &&& (3 : Int32))), .unset] [(.long (v0 &&& (9223372036854775807 : Int64))), (.ref b28)])) (fun t_ k_ => XS.lload X31.here hx rfl (hb hby at_135) rfl k_) ?_
          obtain ⟨_, _, ⟨T42, L42, k42, n42⟩, -, X42, ⟨Lc42, hQ42, l42, y42, z42⟩, st42⟩ := Jvm.LawKit.callS X31 hx (y := (⟨"java/lang/Long", "valueOf", "(J)Ljava/lang/Long;"⟩ : MethodName)) hown (mvT hZ (hw _ (List.mem_of_getElem? (i := 19) rfl))) (mvT hZ (hw _ (List.mem_of_getElem? (i := 20) rfl))) (mvT hZ (hw _ (List.mem_of_getElem? (i := 21) rfl))) (mvT hZ (hw _ (List.mem_of_getElem? (i := 22) rfl))) (by decide) (backOf (W := 1) (rm_vof l Z a0 hw [] (v0 &&& (9223372036854775807 : Int64)) gL cL fV ar T31.heap n0 (show n0 ≤ T31.heap.size by omega) O31 S_cache PL ha) hZ (hw _ (List.mem_of_getElem? (i := 22) rfl)) (hw _ (List.mem_of_getElem? (i := 21) rfl)) (by decide) (by decide)) (g := (mkF m 137 #[.val (.long v0), .second, .val (.long v1), .second, .val (.int v2), .val (.long (v0 &&& (9223372036854775807 : Int64))), .second, .val (.long (v0 &&& (9223372036854775807 : Int64))), .second, .val (.ref b28), .val (.ref b30), .val (.int (((v2.toUInt32 >>> ((1 : Int32) &&& 31).toUInt32).toInt32) &&& (3 : Int32))), .unset] [(.long (v0 &&& (9223372036854775807 : Int64))), (.ref b28)])) rfl (by rw [hml]; rfl) (argsL := [(.long (v0 &&& (9223372036854775807 : Int64)))]) (rest := [(.ref b28)]) (lenOf pd_3 rfl) rfl (by show 2 * 0 + _ ≤ _; exact Nat.le_of_eq rfl) (hb hby at_137) (fun _ _ => ⟨rfl, rfl, (by decide : 2 + 1 ≤ _), (by decide : 2 + 1 ≤ _)⟩)
          dsimp only [Pt.U, Pt.locs, Pt.cells, Pt.slots] at X42 l42 y42 z42 st42 hQ42
          subst l42 y42 z42
          obtain ⟨b42, rfl, M42, K42_, f42_0⟩ := hQ42
          have zz42 := K42_.1
          have O42 := O31.keep K42_ all0
          have N42 := Fr.app N31 M42
          refine own_go (T' := T42) (g' := (mkF m 140 #[.val (.long v0), .second, .val (.long v1), .second, .val (.int v2), .val (.long (v0 &&& (9223372036854775807 : Int64))), .second, .val (.long (v0 &&& (9223372036854775807 : Int64))), .second, .val (.ref b28), .val (.ref b30), .val (.int (((v2.toUInt32 >>> ((1 : Int32) &&& 31).toUInt32).toInt32) &&& (3 : Int32))), .unset] [(.ref b42), (.ref b28)])) (fun t_ k_ => st42 _ k_) ?_
          have ff44 := ((((A28.keep K29_).ext E30).keep K31_).keep K42_)
          obtain ⟨cq43, kq43, q43a, q43b, q43c⟩ := isOf hZ rfl ff44
          obtain ⟨_, _, ⟨T43, L43, k43, n43⟩, -, X43, ⟨Lc43, hQ43, l43, y43, z43⟩, st43⟩ := X42.virtualBack hx (y := (⟨"com/example/cover/cover/FeatureId", "equals", "(Ljava/lang/Object;)Z"⟩ : MethodName)) (z := (⟨"com/example/cover/cover/FeatureId", "equals", "(Ljava/lang/Object;)Z"⟩ : MethodName)) hown (mvT hZ (hw _ (List.mem_of_getElem? (i := 12) rfl))) (mvT hZ (hw _ (List.mem_of_getElem? (i := 13) rfl))) (notFace_of_selects (args := #[]) (mvT hZ (hw _ (List.mem_of_getElem? (i := 15) rfl)))) (mvT hZ (hw _ (List.mem_of_getElem? (i := 15) rfl))) (mvT hZ (hw _ (List.mem_of_getElem? (i := 14) rfl))) (by decide) (backOf (W := 0) (rm_eql l Z a0 hw [] b28 b42 T42.heap n0 (show n0 ≤ T42.heap.size by omega) f42_0 NF) hZ (hw _ (List.mem_of_getElem? (i := 16) rfl)) (hw _ (List.mem_of_getElem? (i := 3) rfl)) (by decide) (by decide)) q43a q43c (g := (mkF m 140 #[.val (.long v0), .second, .val (.long v1), .second, .val (.int v2), .val (.long (v0 &&& (9223372036854775807 : Int64))), .second, .val (.long (v0 &&& (9223372036854775807 : Int64))), .second, .val (.ref b28), .val (.ref b30), .val (.int (((v2.toUInt32 >>> ((1 : Int32) &&& 31).toUInt32).toInt32) &&& (3 : Int32))), .unset] [(.ref b42), (.ref b28)])) rfl (by rw [hml]; rfl) (Steps.refl _) (argsL := [(.ref b42)]) (rest := []) (lenOf pd_2 rfl) rfl (by show 2 * 0 + _ ≤ _; exact Nat.le_of_eq rfl) (hb hby at_140) (fun _ _ => ⟨rfl, rfl, (by decide : 3 + 0 ≤ _), (by decide : 3 + 0 ≤ _)⟩)
          dsimp only [Pt.U, Pt.locs, Pt.cells, Pt.slots] at X43 l43 y43 z43 st43 hQ43
          subst l43 y43 z43
          obtain ⟨rfl, M43, e43⟩ := hQ43
          have N43 := Fr.app N42 M43
          refine own_go (T' := T43) (g' := (mkF m 143 #[.val (.long v0), .second, .val (.long v1), .second, .val (.int v2), .val (.long (v0 &&& (9223372036854775807 : Int64))), .second, .val (.long (v0 &&& (9223372036854775807 : Int64))), .second, .val (.ref b28), .val (.ref b30), .val (.int (((v2.toUInt32 >>> ((1 : Int32) &&& 31).toUInt32).toInt32) &&& (3 : Int32))), .unset] [(.int (0 : Int32))])) (fun t_ k_ => st43.trans k_) ?_
          refine own_go (T' := T43) (g' := (mkF m 146 #[.val (.long v0), .second, .val (.long v1), .second, .val (.int v2), .val (.long (v0 &&& (9223372036854775807 : Int64))), .second, .val (.long (v0 &&& (9223372036854775807 : Int64))), .second, .val (.ref b28), .val (.ref b30), .val (.int (((v2.toUInt32 >>> ((1 : Int32) &&& 31).toUInt32).toInt32) &&& (3 : Int32))), .unset] [])) (fun t_ k_ => XS.ifNo X43.here hx rfl (hb hby at_143) rfl ((if0 _ _).trans (teq (by decide)).2) k_) ?_
          refine own_go (T' := T43) (g' := (mkF m 147 #[.val (.long v0), .second, .val (.long v1), .second, .val (.int v2), .val (.long (v0 &&& (9223372036854775807 : Int64))), .second, .val (.long (v0 &&& (9223372036854775807 : Int64))), .second, .val (.ref b28), .val (.ref b30), .val (.int (((v2.toUInt32 >>> ((1 : Int32) &&& 31).toUInt32).toInt32) &&& (3 : Int32))), .unset] [(.int (1 : Int32))])) (fun t_ k_ => XS.iconst X43.here hx rfl (hb hby at_146) k_) ?_
          refine own_go (T' := T43) (g' := (mkF m 151 #[.val (.long v0), .second, .val (.long v1), .second, .val (.int v2), .val (.long (v0 &&& (9223372036854775807 : Int64))), .second, .val (.long (v0 &&& (9223372036854775807 : Int64))), .second, .val (.ref b28), .val (.ref b30), .val (.int (((v2.toUInt32 >>> ((1 : Int32) &&& 31).toUInt32).toInt32) &&& (3 : Int32))), .unset] [(.int (1 : Int32))])) (fun t_ k_ => XS.goto X43.here hx rfl (pc0 := 147) (pc' := 151) rfl (hb hby at_147) (by decide) (by decide) k_) ?_
          exact own_out X43 (v := some (.int (nar .boolean (1 : Int32)))) (fun h => by rw [Bd.returns] at h; cases h) hlk (fun fs hr => retN X43 hx (t := .boolean) Bd.returns (by simp) (hb hby at_151) hr) (Q := Q_rm_law Z v0 v1 v2 gL cL fV ar h0 n0) (by rw [e43]; exact ⟨rfl, N43⟩) (by decide) (by decide)
        · -- not (((v2.toUInt32 >>> ((1 : Int32) &&& 31).toUInt32).toInt32) &&& (3 : Int32)) = (2 : Int32)
          refine own_go (T' := T31) (g' := (mkF m 152 #[.val (.long v0), .second, .val (.long v1), .second, .val (.int v2), .val (.long (v0 &&& (9223372036854775807 : Int64))), .second, .val (.long (v0 &&& (9223372036854775807 : Int64))), .second, .val (.ref b28), .val (.ref b30), .val (.int (((v2.toUInt32 >>> ((1 : Int32) &&& 31).toUInt32).toInt32) &&& (3 : Int32))), .unset] [])) (fun t_ k_ => XS.icmpYes X31.here hx rfl (pc0 := 130) (pc' := 152) rfl (hb hby at_130) rfl (feq c41).2 (by decide) (by decide) k_) ?_
          refine own_go (T' := T31) (g' := (mkF m 154 #[.val (.long v0), .second, .val (.long v1), .second, .val (.int v2), .val (.long (v0 &&& (9223372036854775807 : Int64))), .second, .val (.long (v0 &&& (9223372036854775807 : Int64))), .second, .val (.ref b28), .val (.ref b30), .val (.int (((v2.toUInt32 >>> ((1 : Int32) &&& 31).toUInt32).toInt32) &&& (3 : Int32))), .unset] [(.ref b28)])) (fun t_ k_ => XS.aload X31.here hx rfl (hb hby at_152) rfl rfl k_) ?_
          refine own_go (T' := T31) (g' := (mkF m 156 #[.val (.long v0), .second, .val (.long v1), .second, .val (.int v2), .val (.long (v0 &&& (9223372036854775807 : Int64))), .second, .val (.long (v0 &&& (9223372036854775807 : Int64))), .second, .val (.ref b28), .val (.ref b30), .val (.int (((v2.toUInt32 >>> ((1 : Int32) &&& 31).toUInt32).toInt32) &&& (3 : Int32))), .unset] [(.ref b28), (.ref b28)])) (fun t_ k_ => XS.aload X31.here hx rfl (hb hby at_154) rfl rfl k_) ?_
          have ff46 := (((A28.keep K29_).ext E30).keep K31_)
          have ff47 := ((f29_0.ext E30).keep K31_ (ninS (own_ne (by omega)) nin0))
          obtain ⟨cq45, kq45, q45a, q45b, q45c⟩ := isOf hZ rfl ff46
          obtain ⟨_, _, ⟨T45, L45, k45, n45⟩, -, X45, ⟨Lc45, hQ45, l45, y45, z45⟩, st45⟩ := X31.virtualBack hx (y := (⟨"com/example/cover/cover/FeatureId", "equals", "(Ljava/lang/Object;)Z"⟩ : MethodName)) (z := (⟨"com/example/cover/cover/FeatureId", "equals", "(Ljava/lang/Object;)Z"⟩ : MethodName)) hown (mvT hZ (hw _ (List.mem_of_getElem? (i := 12) rfl))) (mvT hZ (hw _ (List.mem_of_getElem? (i := 13) rfl))) (notFace_of_selects (args := #[]) (mvT hZ (hw _ (List.mem_of_getElem? (i := 15) rfl)))) (mvT hZ (hw _ (List.mem_of_getElem? (i := 15) rfl))) (mvT hZ (hw _ (List.mem_of_getElem? (i := 14) rfl))) (by decide) (backOf (W := 0) (rm_eq l Z a0 hw [] b28 b28 (v0 &&& (9223372036854775807 : Int64)) (v0 &&& (9223372036854775807 : Int64)) (1 : Int32) T31.heap n0 (show n0 ≤ T31.heap.size by omega) ff46 ff47 ff47 (if_pos rfl).symm) hZ (hw _ (List.mem_of_getElem? (i := 16) rfl)) (hw _ (List.mem_of_getElem? (i := 3) rfl)) (by decide) (by decide)) q45a q45c (g := (mkF m 156 #[.val (.long v0), .second, .val (.long v1), .second, .val (.int v2), .val (.long (v0 &&& (9223372036854775807 : Int64))), .second, .val (.long (v0 &&& (9223372036854775807 : Int64))), .second, .val (.ref b28), .val (.ref b30), .val (.int (((v2.toUInt32 >>> ((1 : Int32) &&& 31).toUInt32).toInt32) &&& (3 : Int32))), .unset] [(.ref b28), (.ref b28)])) rfl (by rw [hml]; rfl) (Steps.refl _) (argsL := [(.ref b28)]) (rest := []) (lenOf pd_2 rfl) rfl (by show 2 * 0 + _ ≤ _; exact Nat.le_of_eq rfl) (hb hby at_156) (fun _ _ => ⟨rfl, rfl, (by decide : 2 + 0 ≤ _), (by decide : 2 + 0 ≤ _)⟩)
          dsimp only [Pt.U, Pt.locs, Pt.cells, Pt.slots] at X45 l45 y45 z45 st45 hQ45
          subst l45 y45 z45
          obtain ⟨rfl, M45, e45⟩ := hQ45
          have N45 := Fr.app N31 M45
          refine own_go (T' := T45) (g' := (mkF m 159 #[.val (.long v0), .second, .val (.long v1), .second, .val (.int v2), .val (.long (v0 &&& (9223372036854775807 : Int64))), .second, .val (.long (v0 &&& (9223372036854775807 : Int64))), .second, .val (.ref b28), .val (.ref b30), .val (.int (((v2.toUInt32 >>> ((1 : Int32) &&& 31).toUInt32).toInt32) &&& (3 : Int32))), .unset] [(.int (1 : Int32))])) (fun t_ k_ => st45.trans k_) ?_
          exact own_out X45 (v := some (.int (nar .boolean (1 : Int32)))) (fun h => by rw [Bd.returns] at h; cases h) hlk (fun fs hr => retN X45 hx (t := .boolean) Bd.returns (by simp) (hb hby at_159) hr) (Q := Q_rm_law Z v0 v1 v2 gL cL fV ar h0 n0) (by rw [e45]; exact ⟨rfl, N45⟩) (by decide) (by decide)
set_option maxRecDepth 65536 in
set_option maxHeartbeats 40000000 in
theorem comes_1 {Post : Tables → Env → Array Value → State → Outcome → State → Prop} (hpost : ∀ tb e args s v u, (limb_1_1.after args s (.returned v) u = true ∧ limb_1_2.after args s (.returned v) u = true ∧ True) → FrameEnd s (.returned v) u (Jvm.fieldLocs frame_1_writes args s ++ Jvm.arrayLocs frame_1_arrays args s ++ Jvm.staticLocs frame_1_statics s) 16 128 → Post tb e args s (.returned v) u) :
    ArmFor flags0 classFile x code maxLocals ret World_1 tables_1 room_1 Calls_1 rest_1 Pre_1 Post := by
  intro l hfl _ _ p e ha hc hk s m args below hf hA hF happ hP
  obtain ⟨hcalls, hrest, hpre⟩ := hP
  obtain ⟨-, -, -, hnamed, -, -, -, hat⟩ := (Spec.applies_iff hf).mp happ
  obtain ⟨hg, hn⟩ := and_e (Cond.before_iff.mp (show (Jvm.Cond.and given_1 narrow_1).before args s = true from hpre))
  obtain ⟨gc, gr⟩ := and_e hg
  obtain ⟨ga0, gr0⟩ := and_e gr
  obtain ⟨ga1, gr1⟩ := and_e gr0
  have ga2 := gr1
  obtain ⟨w0, w1, w2, rfl⟩ : ∃ w0 w1 w2 : Value, args = #[w0, w1, w2] := by
    have hs : args.size = 3 := by simpa [Cond.value, given_1] using gc
    obtain ⟨L⟩ := args
    match L, hs with
    | [w0, w1, w2], _ => exact ⟨w0, w1, w2, rfl⟩
  have hw := fun d (hd : d ∈ tables_1) => atoms_spec (ws := Jvm.Cond.code x code maxLocals ret :: tables_1) hat d (List.mem_cons_of_mem _ hd)
  have hfit : Fit s := fun {y c} hc i hi => by
    obtain ⟨ha, rfl⟩ := Array.getElem?_eq_some_iff.mp hc
    have q := List.all_eq_true.mp ((Array.all_eq_true_iff_forall_mem.mp hF) _ (Array.getElem_mem ha)) i (List.mem_range.mpr hi)
    simpa [Array.getElem?_eq_getElem hi] using q
  obtain ⟨hsets, hown0⟩ := atoms_of _ (rest_1_c_eq ▸ (show rest_1_c.before _ s = true from hrest))
  obtain ⟨i0, ei0⟩ := isL_v ga0
  obtain rfl : w0 = (.long i0) := Option.some.inj ei0
  obtain ⟨i1, ei1⟩ := isL_v ga1
  obtain rfl : w1 = (.long i1) := Option.some.inj ei1
  obtain ⟨i2, ei2⟩ := is_v ga2
  obtain rfl : w2 = (.int i2) := Option.some.inj ei2
  have NF : own_NoF s := own_no (hw _ (List.mem_of_getElem? (i := 40) rfl)) (hw _ (List.mem_of_getElem? (i := 2) rfl)) (NS.step (hw _ (List.mem_of_getElem? (i := 40) rfl)) (NS.step (hw _ (List.mem_of_getElem? (i := 41) rfl)) (own_root (hw _ (List.mem_of_getElem? (i := 42) rfl)) (hw _ (List.mem_of_getElem? (i := 2) rfl)) (by decide)) (by decide)) (by decide)) (by decide)
  obtain ⟨cL, kL, cL2, kf, ii, fV, a1, a2, a3, a4, -, -, a6, -⟩ := Cond.laysFinal_spec (hw _ (List.mem_of_getElem? (i := 39) rfl))
  cases a1.symm.trans a6
  obtain ⟨gL, PL⟩ := LongBox.statics_fwd (i0 &&& (9223372036854775807 : Int64)) (own_conj fun d hd => hsets d hd) a1 a3 a4
  obtain ⟨ar, ev⟩ := arr_v (Cond.before_iff.mp (hsets _ (List.mem_of_getElem? (i := 2) rfl)))
  have SC := Sta.start ev (Or.inl (hsets _ (List.mem_of_getElem? (i := 1) rfl)))
  have hga := own_same SC PL
  obtain ⟨n, o, h1, h2, h3, _, L, rfl, ⟨rfl, N⟩, hq⟩ := rm_law l s _ hw tables_1 i0 i1 i2 gL cL fV ar s.heap s.heap.size (Nat.le_refl _) (Old.start s) SC PL hga NF p e ha hc hk s m _ below hf ((Spec.applies_iff_loose hf).mp happ).1 ⟨rfl, State.Warmed39.refl s, rfl⟩ trivial
  refine ⟨n, _, h1, h2, h3, hpost _ _ _ _ _ _ ⟨Cond.after_iff.mpr rfl, Cond.after_iff.mpr (eq_i res_at (Term.int_eval (1)) rfl), trivial⟩ ⟨hq.1, hq.2.1, (hq.2.2.sift fun y hy => Or.inr (N y hy)).mono (by decide) (by decide)⟩⟩
theorem main_1_1 : Claimed_1_1 := comes_1 fun _ _ _ _ _ _ h hF => ⟨h.1, hF⟩
theorem main_1_2 : Claimed_1_2 := comes_1 fun _ _ _ _ _ _ h hF => ⟨h.2.1, hF⟩
end Jvm.Pilot.@@N@@
namespace Jvm.Pilot.@@N@@
open Jvm Jvm.ClassFile Sem Op Lib Jvm.Free Jvm.Stand Jvm.Pilot.@@N@@.Jvm.D
/-! MADE BY PROGRAM (witnessworld.py) out of the Statement's table words and the real class files: 16 classes; the members and pool entries that the words name. The judged class is class 1, her method 1. -/
namespace start1
open Jvm.ClassFile
def u (s : String) : CpInfo := .utf8 (stringToUtf16 s)
/-- a pool by its gaps: so many unusable entries, then the entry; so many at the end -/
def gap : Nat → List CpInfo → List CpInfo
  | 0, r => r
  | n + 1, r => .unusable :: gap n r
def poolList (es : List (Nat × CpInfo)) (last : Nat) : List CpInfo := es.foldr (fun e r => gap e.1 (e.2 :: r)) (gap last [])
def pool (es : List (Nat × CpInfo)) (last : Nat) : Array CpInfo := ⟨poolList es last⟩
def fileOf (pool : Array CpInfo) (this : Nat) (attrs : Array Attribute := #[]) (ms : Array MethodInfo := #[]) (fl : Nat := 33) (sup : Nat := 0) (ifs : Array Nat := #[]) (fds : Array FieldInfo := #[]) : ClassFile where
  minorVersion := 0
  majorVersion := 65
  constantPool := pool
  accessFlags := fl
  thisClass := this
  superClass := sup
  interfaces := ifs
  fields := fds
  methods := ms
  attributes := attrs
def plain (name : String) (sup : Option ClassId) : Class where
  name := name
  kind := .ordinary
  loader := none
  accessFlags := 33
  super := sup
  interfaces := #[]
  cf := none
  fields := #[]
  methods := #[]
  instanceTypes := #[]
  staticTypes := #[]
  resolved := #[]
  callSites := []
  init := .initialized
  statics := none
  mirror := none

def pool0 : Array CpInfo := pool [(5, u "<init>"), (0, u "()V"), (1, .class_ 10), (1, u "java/lang/Object")] 113

def k0c0 : Code := { maxStack := 0, maxLocals := 1, code := object_method_1_code, exceptionTable := #[], attributes := #[] }
def k0m0 : Method := { name := "<init>", desc := "()V", sig := { parameters := [], returnType := none }, accessFlags := 1, code := some k0c0 }
/-- java/lang/Object -/
def k0 : Class := { plain "java/lang/Object" none with
  accessFlags := 33
  interfaces := #[]
  cf := some (fileOf pool0 8 #[] #[{ accessFlags := 1, nameIndex := 5, descriptorIndex := 6, attributes := #[] }] 33 0 #[] #[])
  fields := #[]
  methods := #[k0m0]
  instanceTypes := #[]
  staticTypes := #[]
  resolved := Array.replicate 124 none
  statics := none }

def pool1 : Array CpInfo := pool [(2, .class_ 4), (1, u "java/lang/Object"), (0, u "<init>"), (0, u "()V"), (0, .class_ 8), (0, u "java/lang/Long"), (0, .long 9223372036854775807), (1, .class_ 12), (0, u "com/example/cover/cover/FeatureId"), (0, .methodref 11 14), (0, .nameAndType 5 15), (0, u "(J)V"), (0, .methodref 11 17), (0, .nameAndType 18 19), (0, u "equals"), (0, u "(Ljava/lang/Object;)Z"), (0, .methodref 7 21), (0, .nameAndType 22 23), (0, u "valueOf"), (0, u "(J)Ljava/lang/Long;"), (0, .class_ 25), (0, u "com/example/cover/cover/FeatureIdEqualsPinLaw"), (2, u "law"), (0, u "(JJI)Z")] 3

def k1m0 : Method := { name := "<init>", desc := "()V", sig := { parameters := [], returnType := none }, accessFlags := 1, code := none }
def k1c1 : Code := { maxStack := 4, maxLocals := 13, code := code, exceptionTable := #[], attributes := #[] }
def k1m1 : Method := { name := "law", desc := "(JJI)Z", sig := { parameters := [.long, .long, .int], returnType := some .boolean }, accessFlags := 9, code := some k1c1 }
/-- com/example/cover/cover/FeatureIdEqualsPinLaw -/
def k1 : Class := { plain "com/example/cover/cover/FeatureIdEqualsPinLaw" (some 0) with
  accessFlags := 49
  interfaces := #[]
  cf := some (fileOf pool1 24 #[] #[{ accessFlags := 1, nameIndex := 5, descriptorIndex := 6, attributes := #[] }, { accessFlags := 9, nameIndex := 28, descriptorIndex := 29, attributes := #[] }] 49 2 #[] #[])
  fields := #[]
  methods := #[k1m0, k1m1]
  instanceTypes := #[]
  staticTypes := #[]
  resolved := Array.replicate 33 none
  statics := none }

def pool2 : Array CpInfo := pool [(1, .class_ 2), (0, u "com/example/cover/cover/FeatureId"), (0, .methodref 4 5), (0, .class_ 6), (0, .nameAndType 7 8), (0, u "java/lang/Object"), (0, u "<init>"), (0, u "()V"), (9, .fieldref 1 19), (0, .nameAndType 20 21), (0, u "iValue"), (0, u "J"), (2, u "EPOCH"), (0, u "Ljava/time/Instant;"), (8, u "END"), (25, u "(J)V"), (39, u "MAX_CLUSTER"), (0, u "I"), (2, u "MAX_NODE"), (0, u "MAX_SEQUENCE"), (1, u "SEQUENCE_BITS"), (1, u "NODE_BITS"), (1, u "CLUSTER_BITS"), (0, u "TIME_BITS"), (1, u "NODE_SHIFT"), (0, u "CLUSTER_SHIFT"), (1, u "TIME_SHIFT"), (15, u "equals"), (0, u "(Ljava/lang/Object;)Z")] 25

def k2c0 : Code := { maxStack := 4, maxLocals := 3, code := prog_7_method_1_code, exceptionTable := #[], attributes := #[] }
def k2m0 : Method := { name := "<init>", desc := "(J)V", sig := { parameters := [.long], returnType := none }, accessFlags := 1, code := some k2c0 }
def k2c1 : Code := { maxStack := 4, maxLocals := 2, code := prog_7_method_11_code, exceptionTable := #[], attributes := #[] }
def k2m1 : Method := { name := "equals", desc := "(Ljava/lang/Object;)Z", sig := { parameters := [(.object "java/lang/Object")], returnType := some .boolean }, accessFlags := 1, code := some k2c1 }
/-- com/example/cover/cover/FeatureId -/
def k2 : Class := { plain "com/example/cover/cover/FeatureId" (some 0) with
  accessFlags := 33
  interfaces := #[]
  cf := some (fileOf pool2 1 #[] #[{ accessFlags := 1, nameIndex := 7, descriptorIndex := 60, attributes := #[] }, { accessFlags := 1, nameIndex := 133, descriptorIndex := 134, attributes := #[] }] 33 4 #[] #[{ accessFlags := 25, nameIndex := 24, descriptorIndex := 25, attributes := #[] }, { accessFlags := 25, nameIndex := 100, descriptorIndex := 101, attributes := #[] }, { accessFlags := 25, nameIndex := 104, descriptorIndex := 101, attributes := #[] }, { accessFlags := 25, nameIndex := 105, descriptorIndex := 101, attributes := #[] }, { accessFlags := 26, nameIndex := 107, descriptorIndex := 101, attributes := #[] }, { accessFlags := 26, nameIndex := 109, descriptorIndex := 101, attributes := #[] }, { accessFlags := 26, nameIndex := 111, descriptorIndex := 101, attributes := #[] }, { accessFlags := 26, nameIndex := 112, descriptorIndex := 101, attributes := #[] }, { accessFlags := 26, nameIndex := 114, descriptorIndex := 101, attributes := #[] }, { accessFlags := 26, nameIndex := 115, descriptorIndex := 101, attributes := #[] }, { accessFlags := 26, nameIndex := 117, descriptorIndex := 101, attributes := #[] }, { accessFlags := 26, nameIndex := 34, descriptorIndex := 25, attributes := #[] }, { accessFlags := 18, nameIndex := 20, descriptorIndex := 21, attributes := #[] }])
  fields := #[{ name := "EPOCH", type := (.object "java/time/Instant"), accessFlags := 25, slot := 0, constantValue := 0 }, { name := "MAX_CLUSTER", type := .int, accessFlags := 25, slot := 1, constantValue := 0 }, { name := "MAX_NODE", type := .int, accessFlags := 25, slot := 2, constantValue := 0 }, { name := "MAX_SEQUENCE", type := .int, accessFlags := 25, slot := 3, constantValue := 0 }, { name := "SEQUENCE_BITS", type := .int, accessFlags := 26, slot := 4, constantValue := 0 }, { name := "NODE_BITS", type := .int, accessFlags := 26, slot := 5, constantValue := 0 }, { name := "CLUSTER_BITS", type := .int, accessFlags := 26, slot := 6, constantValue := 0 }, { name := "TIME_BITS", type := .int, accessFlags := 26, slot := 7, constantValue := 0 }, { name := "NODE_SHIFT", type := .int, accessFlags := 26, slot := 8, constantValue := 0 }, { name := "CLUSTER_SHIFT", type := .int, accessFlags := 26, slot := 9, constantValue := 0 }, { name := "TIME_SHIFT", type := .int, accessFlags := 26, slot := 10, constantValue := 0 }, { name := "END", type := (.object "java/time/Instant"), accessFlags := 26, slot := 11, constantValue := 0 }, { name := "iValue", type := .long, accessFlags := 18, slot := 0, constantValue := 0 }]
  methods := #[k2m0, k2m1]
  instanceTypes := #[.long]
  staticTypes := #[(.object "java/time/Instant"), .int, .int, .int, .int, .int, .int, .int, .int, .int, .int, (.object "java/time/Instant")]
  resolved := Array.replicate 160 none
  statics := none }

def pool3 : Array CpInfo := pool [(1, .class_ 2), (0, u "java/io/Serializable"), (0, .class_ 4), (0, u "java/lang/Object")] 2

/-- java/io/Serializable -/
def k3 : Class := { plain "java/io/Serializable" (some 0) with
  accessFlags := 1537
  interfaces := #[]
  cf := some (fileOf pool3 1 #[] #[] 1537 3 #[] #[])
  fields := #[]
  methods := #[]
  instanceTypes := #[]
  staticTypes := #[]
  resolved := Array.replicate 7 none
  statics := none }

def pool4 : Array CpInfo := pool [(1, .methodref 2 3), (0, .class_ 4), (0, .nameAndType 5 6), (0, u "java/lang/Object"), (0, u "<init>"), (0, u "()V"), (1, .class_ 10), (1, u "java/lang/Number"), (2, .class_ 14), (0, u "java/io/Serializable"), (0, u "serialVersionUID"), (0, u "J")] 20

def k4c0 : Code := { maxStack := 1, maxLocals := 1, code := jdk_18_method_1_code, exceptionTable := #[], attributes := #[] }
def k4m0 : Method := { name := "<init>", desc := "()V", sig := { parameters := [], returnType := none }, accessFlags := 1, code := some k4c0 }
/-- java/lang/Number -/
def k4 : Class := { plain "java/lang/Number" (some 0) with
  accessFlags := 1057
  interfaces := #[3]
  cf := some (fileOf pool4 8 #[] #[{ accessFlags := 1, nameIndex := 5, descriptorIndex := 6, attributes := #[] }] 1057 2 #[13] #[{ accessFlags := 26, nameIndex := 15, descriptorIndex := 16, attributes := #[] }])
  fields := #[{ name := "serialVersionUID", type := .long, accessFlags := 26, slot := 0, constantValue := 0 }]
  methods := #[k4m0]
  instanceTypes := #[]
  staticTypes := #[.long]
  resolved := Array.replicate 37 none
  statics := none }

def pool5 : Array CpInfo := pool [(1, .class_ 2), (0, u "java/lang/Comparable"), (0, .class_ 4), (0, u "java/lang/Object")] 7

/-- java/lang/Comparable -/
def k5 : Class := { plain "java/lang/Comparable" (some 0) with
  accessFlags := 1537
  interfaces := #[]
  cf := some (fileOf pool5 1 #[] #[] 1537 3 #[] #[])
  fields := #[]
  methods := #[]
  instanceTypes := #[]
  staticTypes := #[]
  resolved := Array.replicate 12 none
  statics := none }

def pool6 : Array CpInfo := pool [(1, .class_ 2), (0, u "java/lang/constant/Constable"), (0, .class_ 4), (0, u "java/lang/Object")] 6

/-- java/lang/constant/Constable -/
def k6 : Class := { plain "java/lang/constant/Constable" (some 0) with
  accessFlags := 1537
  interfaces := #[]
  cf := some (fileOf pool6 1 #[] #[] 1537 3 #[] #[])
  fields := #[]
  methods := #[]
  instanceTypes := #[]
  staticTypes := #[]
  resolved := Array.replicate 11 none
  statics := none }

def pool7 : Array CpInfo := pool [(1, .class_ 2), (0, u "java/lang/constant/ConstantDesc"), (0, .class_ 4), (0, u "java/lang/Object")] 32

/-- java/lang/constant/ConstantDesc -/
def k7 : Class := { plain "java/lang/constant/ConstantDesc" (some 0) with
  accessFlags := 1537
  interfaces := #[]
  cf := some (fileOf pool7 1 #[] #[] 1537 3 #[] #[])
  fields := #[]
  methods := #[]
  instanceTypes := #[]
  staticTypes := #[]
  resolved := Array.replicate 37 none
  statics := none }

def pool8 : Array CpInfo := pool [(1, .class_ 2), (0, u "java/lang/Long"), (55, .nameAndType 59 60), (0, u "<init>"), (0, u "()V"), (24, u "valueOf"), (143, u "(J)Ljava/lang/Long;"), (0, .long 18446744073709551488), (1, .long 127), (1, .fieldref 235 236), (0, .class_ 237), (0, .nameAndType 238 239), (0, u "java/lang/Long$LongCache"), (0, u "cache"), (0, u "[Ljava/lang/Long;"), (0, .methodref 1 241), (0, .nameAndType 59 242), (0, u "(J)V"), (27, .methodref 271 58), (0, .class_ 272), (0, u "java/lang/Number"), (0, .fieldref 1 274), (0, .nameAndType 275 276), (0, u "value"), (0, u "J"), (84, u "TYPE"), (0, u "Ljava/lang/Class;"), (0, .class_ 364), (0, u "java/lang/Comparable"), (0, .class_ 366), (0, u "java/lang/constant/Constable"), (0, .class_ 368), (0, u "java/lang/constant/ConstantDesc"), (0, u "MIN_VALUE"), (1, u "MAX_VALUE"), (4, u "SIZE"), (0, u "I"), (1, u "BYTES"), (1, u "serialVersionUID")] 142

def k8c0 : Code := { maxStack := 4, maxLocals := 3, code := jdk_35_method_24_code, exceptionTable := #[], attributes := #[] }
def k8m0 : Method := { name := "valueOf", desc := "(J)Ljava/lang/Long;", sig := { parameters := [.long], returnType := some (.object "java/lang/Long") }, accessFlags := 9, code := some k8c0 }
def k8c1 : Code := { maxStack := 3, maxLocals := 3, code := jdk_35_method_26_code, exceptionTable := #[], attributes := #[] }
def k8m1 : Method := { name := "<init>", desc := "(J)V", sig := { parameters := [.long], returnType := none }, accessFlags := 1, code := some k8c1 }
/-- java/lang/Long -/
def k8 : Class := { plain "java/lang/Long" (some 4) with
  accessFlags := 49
  interfaces := #[5, 6, 7]
  cf := some (fileOf pool8 1 #[.nestMembers #[235]] #[{ accessFlags := 9, nameIndex := 85, descriptorIndex := 229, attributes := #[] }, { accessFlags := 1, nameIndex := 59, descriptorIndex := 242, attributes := #[] }] 49 271 #[363, 365, 367] #[{ accessFlags := 25, nameIndex := 369, descriptorIndex := 276, attributes := #[] }, { accessFlags := 25, nameIndex := 371, descriptorIndex := 276, attributes := #[] }, { accessFlags := 25, nameIndex := 361, descriptorIndex := 362, attributes := #[] }, { accessFlags := 18, nameIndex := 275, descriptorIndex := 276, attributes := #[] }, { accessFlags := 25, nameIndex := 376, descriptorIndex := 377, attributes := #[] }, { accessFlags := 25, nameIndex := 379, descriptorIndex := 377, attributes := #[] }, { accessFlags := 26, nameIndex := 381, descriptorIndex := 276, attributes := #[] }])
  fields := #[{ name := "MIN_VALUE", type := .long, accessFlags := 25, slot := 0, constantValue := 0 }, { name := "MAX_VALUE", type := .long, accessFlags := 25, slot := 1, constantValue := 0 }, { name := "TYPE", type := (.object "java/lang/Class"), accessFlags := 25, slot := 2, constantValue := 0 }, { name := "value", type := .long, accessFlags := 18, slot := 0, constantValue := 0 }, { name := "SIZE", type := .int, accessFlags := 25, slot := 3, constantValue := 0 }, { name := "BYTES", type := .int, accessFlags := 25, slot := 4, constantValue := 0 }, { name := "serialVersionUID", type := .long, accessFlags := 26, slot := 5, constantValue := 0 }]
  methods := #[k8m0, k8m1]
  instanceTypes := #[.long]
  staticTypes := #[.long, .long, (.object "java/lang/Class"), .int, .int, .long]
  resolved := Array.replicate 524 none
  statics := none }

def pool9 : Array CpInfo := pool [(2, .class_ 4), (1, u "java/lang/Object"), (0, u "<init>"), (0, u "()V"), (0, .class_ 8), (0, u "java/lang/Long"), (7, .class_ 18), (1, u "java/lang/Long$LongCache"), (0, u "$assertionsDisabled"), (0, u "Z"), (8, u "archivedCache"), (0, u "[Ljava/lang/Long;"), (7, u "cache")] 24

def k9m0 : Method := { name := "<init>", desc := "()V", sig := { parameters := [], returnType := none }, accessFlags := 2, code := none }
/-- java/lang/Long$LongCache -/
def k9 : Class := { plain "java/lang/Long$LongCache" (some 0) with
  accessFlags := 48
  interfaces := #[]
  cf := some (fileOf pool9 16 #[.nestHost 7] #[{ accessFlags := 2, nameIndex := 5, descriptorIndex := 6, attributes := #[] }] 48 2 #[] #[{ accessFlags := 24, nameIndex := 38, descriptorIndex := 30, attributes := #[] }, { accessFlags := 8, nameIndex := 29, descriptorIndex := 30, attributes := #[] }, { accessFlags := 4120, nameIndex := 19, descriptorIndex := 20, attributes := #[] }])
  fields := #[{ name := "cache", type := (.array (.object "java/lang/Long")), accessFlags := 24, slot := 0, constantValue := 0 }, { name := "archivedCache", type := (.array (.object "java/lang/Long")), accessFlags := 8, slot := 1, constantValue := 0 }, { name := "$assertionsDisabled", type := .boolean, accessFlags := 4120, slot := 2, constantValue := 0 }]
  methods := #[k9m0]
  instanceTypes := #[]
  staticTypes := #[(.array (.object "java/lang/Long")), (.array (.object "java/lang/Long")), .boolean]
  resolved := Array.replicate 63 none
  statics := some 0 }

def pool10 : Array CpInfo := pool [(1, u "java/lang/Cloneable"), (0, .class_ 1), (0, u "java/lang/Object"), (0, .class_ 3)] 3

/-- java/lang/Cloneable -/
def k10 : Class := { plain "java/lang/Cloneable" (some 0) with
  accessFlags := 1537
  interfaces := #[]
  cf := some (fileOf pool10 2 #[] #[] 1537 4 #[] #[])
  fields := #[]
  methods := #[]
  instanceTypes := #[]
  staticTypes := #[]
  resolved := Array.replicate 8 none
  statics := none }

/-- the primitive byte -/
def k11 : Class := { plain "byte" none with kind := .primitive 'B', accessFlags := 0x411 }
/-- [B -/
def k12 : Class := { plain "[B" (some 0) with kind := .array 11 .byte, interfaces := #[10, 3], accessFlags := 1041 }

/-- the primitive int -/
def k13 : Class := { plain "int" none with kind := .primitive 'I', accessFlags := 0x411 }
/-- [I -/
def k14 : Class := { plain "[I" (some 0) with kind := .array 13 .int, interfaces := #[10, 3], accessFlags := 1041 }

/-- [Ljava/lang/Long; -/
def k15 : Class := { plain "[Ljava/lang/Long;" (some 0) with kind := .array 8 (.object "java/lang/Long"), interfaces := #[10, 3], accessFlags := 1041 }

def heap : Heap := #[{ cls := 9, slots := #[.ref 1, .null, .int 0], vm := .statics 9 },
  { cls := 15, slots := #[.ref 2, .ref 3, .ref 4, .ref 5, .ref 6, .ref 7, .ref 8, .ref 9, .ref 10, .ref 11, .ref 12, .ref 13, .ref 14, .ref 15, .ref 16, .ref 17, .ref 18, .ref 19, .ref 20, .ref 21, .ref 22, .ref 23, .ref 24, .ref 25, .ref 26, .ref 27, .ref 28, .ref 29, .ref 30, .ref 31, .ref 32, .ref 33, .ref 34, .ref 35, .ref 36, .ref 37, .ref 38, .ref 39, .ref 40, .ref 41, .ref 42, .ref 43, .ref 44, .ref 45, .ref 46, .ref 47, .ref 48, .ref 49, .ref 50, .ref 51, .ref 52, .ref 53, .ref 54, .ref 55, .ref 56, .ref 57, .ref 58, .ref 59, .ref 60, .ref 61, .ref 62, .ref 63, .ref 64, .ref 65, .ref 66, .ref 67, .ref 68, .ref 69, .ref 70, .ref 71, .ref 72, .ref 73, .ref 74, .ref 75, .ref 76, .ref 77, .ref 78, .ref 79, .ref 80, .ref 81, .ref 82, .ref 83, .ref 84, .ref 85, .ref 86, .ref 87, .ref 88, .ref 89, .ref 90, .ref 91, .ref 92, .ref 93, .ref 94, .ref 95, .ref 96, .ref 97, .ref 98, .ref 99, .ref 100, .ref 101, .ref 102, .ref 103, .ref 104, .ref 105, .ref 106, .ref 107, .ref 108, .ref 109, .ref 110, .ref 111, .ref 112, .ref 113, .ref 114, .ref 115, .ref 116, .ref 117, .ref 118, .ref 119, .ref 120, .ref 121, .ref 122, .ref 123, .ref 124, .ref 125, .ref 126, .ref 127, .ref 128, .ref 129, .ref 130, .ref 131, .ref 132, .ref 133, .ref 134, .ref 135, .ref 136, .ref 137, .ref 138, .ref 139, .ref 140, .ref 141, .ref 142, .ref 143, .ref 144, .ref 145, .ref 146, .ref 147, .ref 148, .ref 149, .ref 150, .ref 151, .ref 152, .ref 153, .ref 154, .ref 155, .ref 156, .ref 157, .ref 158, .ref 159, .ref 160, .ref 161, .ref 162, .ref 163, .ref 164, .ref 165, .ref 166, .ref 167, .ref 168, .ref 169, .ref 170, .ref 171, .ref 172, .ref 173, .ref 174, .ref 175, .ref 176, .ref 177, .ref 178, .ref 179, .ref 180, .ref 181, .ref 182, .ref 183, .ref 184, .ref 185, .ref 186, .ref 187, .ref 188, .ref 189, .ref 190, .ref 191, .ref 192, .ref 193, .ref 194, .ref 195, .ref 196, .ref 197, .ref 198, .ref 199, .ref 200, .ref 201, .ref 202, .ref 203, .ref 204, .ref 205, .ref 206, .ref 207, .ref 208, .ref 209, .ref 210, .ref 211, .ref 212, .ref 213, .ref 214, .ref 215, .ref 216, .ref 217, .ref 218, .ref 219, .ref 220, .ref 221, .ref 222, .ref 223, .ref 224, .ref 225, .ref 226, .ref 227, .ref 228, .ref 229, .ref 230, .ref 231, .ref 232, .ref 233, .ref 234, .ref 235, .ref 236, .ref 237, .ref 238, .ref 239, .ref 240, .ref 241, .ref 242, .ref 243, .ref 244, .ref 245, .ref 246, .ref 247, .ref 248, .ref 249, .ref 250, .ref 251, .ref 252, .ref 253, .ref 254, .ref 255, .ref 256, .ref 257], vm := .none },
  { cls := 8, slots := #[.long (-128)], vm := .none },
  { cls := 8, slots := #[.long (-127)], vm := .none },
  { cls := 8, slots := #[.long (-126)], vm := .none },
  { cls := 8, slots := #[.long (-125)], vm := .none },
  { cls := 8, slots := #[.long (-124)], vm := .none },
  { cls := 8, slots := #[.long (-123)], vm := .none },
  { cls := 8, slots := #[.long (-122)], vm := .none },
  { cls := 8, slots := #[.long (-121)], vm := .none },
  { cls := 8, slots := #[.long (-120)], vm := .none },
  { cls := 8, slots := #[.long (-119)], vm := .none },
  { cls := 8, slots := #[.long (-118)], vm := .none },
  { cls := 8, slots := #[.long (-117)], vm := .none },
  { cls := 8, slots := #[.long (-116)], vm := .none },
  { cls := 8, slots := #[.long (-115)], vm := .none },
  { cls := 8, slots := #[.long (-114)], vm := .none },
  { cls := 8, slots := #[.long (-113)], vm := .none },
  { cls := 8, slots := #[.long (-112)], vm := .none },
  { cls := 8, slots := #[.long (-111)], vm := .none },
  { cls := 8, slots := #[.long (-110)], vm := .none },
  { cls := 8, slots := #[.long (-109)], vm := .none },
  { cls := 8, slots := #[.long (-108)], vm := .none },
  { cls := 8, slots := #[.long (-107)], vm := .none },
  { cls := 8, slots := #[.long (-106)], vm := .none },
  { cls := 8, slots := #[.long (-105)], vm := .none },
  { cls := 8, slots := #[.long (-104)], vm := .none },
  { cls := 8, slots := #[.long (-103)], vm := .none },
  { cls := 8, slots := #[.long (-102)], vm := .none },
  { cls := 8, slots := #[.long (-101)], vm := .none },
  { cls := 8, slots := #[.long (-100)], vm := .none },
  { cls := 8, slots := #[.long (-99)], vm := .none },
  { cls := 8, slots := #[.long (-98)], vm := .none },
  { cls := 8, slots := #[.long (-97)], vm := .none },
  { cls := 8, slots := #[.long (-96)], vm := .none },
  { cls := 8, slots := #[.long (-95)], vm := .none },
  { cls := 8, slots := #[.long (-94)], vm := .none },
  { cls := 8, slots := #[.long (-93)], vm := .none },
  { cls := 8, slots := #[.long (-92)], vm := .none },
  { cls := 8, slots := #[.long (-91)], vm := .none },
  { cls := 8, slots := #[.long (-90)], vm := .none },
  { cls := 8, slots := #[.long (-89)], vm := .none },
  { cls := 8, slots := #[.long (-88)], vm := .none },
  { cls := 8, slots := #[.long (-87)], vm := .none },
  { cls := 8, slots := #[.long (-86)], vm := .none },
  { cls := 8, slots := #[.long (-85)], vm := .none },
  { cls := 8, slots := #[.long (-84)], vm := .none },
  { cls := 8, slots := #[.long (-83)], vm := .none },
  { cls := 8, slots := #[.long (-82)], vm := .none },
  { cls := 8, slots := #[.long (-81)], vm := .none },
  { cls := 8, slots := #[.long (-80)], vm := .none },
  { cls := 8, slots := #[.long (-79)], vm := .none },
  { cls := 8, slots := #[.long (-78)], vm := .none },
  { cls := 8, slots := #[.long (-77)], vm := .none },
  { cls := 8, slots := #[.long (-76)], vm := .none },
  { cls := 8, slots := #[.long (-75)], vm := .none },
  { cls := 8, slots := #[.long (-74)], vm := .none },
  { cls := 8, slots := #[.long (-73)], vm := .none },
  { cls := 8, slots := #[.long (-72)], vm := .none },
  { cls := 8, slots := #[.long (-71)], vm := .none },
  { cls := 8, slots := #[.long (-70)], vm := .none },
  { cls := 8, slots := #[.long (-69)], vm := .none },
  { cls := 8, slots := #[.long (-68)], vm := .none },
  { cls := 8, slots := #[.long (-67)], vm := .none },
  { cls := 8, slots := #[.long (-66)], vm := .none },
  { cls := 8, slots := #[.long (-65)], vm := .none },
  { cls := 8, slots := #[.long (-64)], vm := .none },
  { cls := 8, slots := #[.long (-63)], vm := .none },
  { cls := 8, slots := #[.long (-62)], vm := .none },
  { cls := 8, slots := #[.long (-61)], vm := .none },
  { cls := 8, slots := #[.long (-60)], vm := .none },
  { cls := 8, slots := #[.long (-59)], vm := .none },
  { cls := 8, slots := #[.long (-58)], vm := .none },
  { cls := 8, slots := #[.long (-57)], vm := .none },
  { cls := 8, slots := #[.long (-56)], vm := .none },
  { cls := 8, slots := #[.long (-55)], vm := .none },
  { cls := 8, slots := #[.long (-54)], vm := .none },
  { cls := 8, slots := #[.long (-53)], vm := .none },
  { cls := 8, slots := #[.long (-52)], vm := .none },
  { cls := 8, slots := #[.long (-51)], vm := .none },
  { cls := 8, slots := #[.long (-50)], vm := .none },
  { cls := 8, slots := #[.long (-49)], vm := .none },
  { cls := 8, slots := #[.long (-48)], vm := .none },
  { cls := 8, slots := #[.long (-47)], vm := .none },
  { cls := 8, slots := #[.long (-46)], vm := .none },
  { cls := 8, slots := #[.long (-45)], vm := .none },
  { cls := 8, slots := #[.long (-44)], vm := .none },
  { cls := 8, slots := #[.long (-43)], vm := .none },
  { cls := 8, slots := #[.long (-42)], vm := .none },
  { cls := 8, slots := #[.long (-41)], vm := .none },
  { cls := 8, slots := #[.long (-40)], vm := .none },
  { cls := 8, slots := #[.long (-39)], vm := .none },
  { cls := 8, slots := #[.long (-38)], vm := .none },
  { cls := 8, slots := #[.long (-37)], vm := .none },
  { cls := 8, slots := #[.long (-36)], vm := .none },
  { cls := 8, slots := #[.long (-35)], vm := .none },
  { cls := 8, slots := #[.long (-34)], vm := .none },
  { cls := 8, slots := #[.long (-33)], vm := .none },
  { cls := 8, slots := #[.long (-32)], vm := .none },
  { cls := 8, slots := #[.long (-31)], vm := .none },
  { cls := 8, slots := #[.long (-30)], vm := .none },
  { cls := 8, slots := #[.long (-29)], vm := .none },
  { cls := 8, slots := #[.long (-28)], vm := .none },
  { cls := 8, slots := #[.long (-27)], vm := .none },
  { cls := 8, slots := #[.long (-26)], vm := .none },
  { cls := 8, slots := #[.long (-25)], vm := .none },
  { cls := 8, slots := #[.long (-24)], vm := .none },
  { cls := 8, slots := #[.long (-23)], vm := .none },
  { cls := 8, slots := #[.long (-22)], vm := .none },
  { cls := 8, slots := #[.long (-21)], vm := .none },
  { cls := 8, slots := #[.long (-20)], vm := .none },
  { cls := 8, slots := #[.long (-19)], vm := .none },
  { cls := 8, slots := #[.long (-18)], vm := .none },
  { cls := 8, slots := #[.long (-17)], vm := .none },
  { cls := 8, slots := #[.long (-16)], vm := .none },
  { cls := 8, slots := #[.long (-15)], vm := .none },
  { cls := 8, slots := #[.long (-14)], vm := .none },
  { cls := 8, slots := #[.long (-13)], vm := .none },
  { cls := 8, slots := #[.long (-12)], vm := .none },
  { cls := 8, slots := #[.long (-11)], vm := .none },
  { cls := 8, slots := #[.long (-10)], vm := .none },
  { cls := 8, slots := #[.long (-9)], vm := .none },
  { cls := 8, slots := #[.long (-8)], vm := .none },
  { cls := 8, slots := #[.long (-7)], vm := .none },
  { cls := 8, slots := #[.long (-6)], vm := .none },
  { cls := 8, slots := #[.long (-5)], vm := .none },
  { cls := 8, slots := #[.long (-4)], vm := .none },
  { cls := 8, slots := #[.long (-3)], vm := .none },
  { cls := 8, slots := #[.long (-2)], vm := .none },
  { cls := 8, slots := #[.long (-1)], vm := .none },
  { cls := 8, slots := #[.long 0], vm := .none },
  { cls := 8, slots := #[.long 1], vm := .none },
  { cls := 8, slots := #[.long 2], vm := .none },
  { cls := 8, slots := #[.long 3], vm := .none },
  { cls := 8, slots := #[.long 4], vm := .none },
  { cls := 8, slots := #[.long 5], vm := .none },
  { cls := 8, slots := #[.long 6], vm := .none },
  { cls := 8, slots := #[.long 7], vm := .none },
  { cls := 8, slots := #[.long 8], vm := .none },
  { cls := 8, slots := #[.long 9], vm := .none },
  { cls := 8, slots := #[.long 10], vm := .none },
  { cls := 8, slots := #[.long 11], vm := .none },
  { cls := 8, slots := #[.long 12], vm := .none },
  { cls := 8, slots := #[.long 13], vm := .none },
  { cls := 8, slots := #[.long 14], vm := .none },
  { cls := 8, slots := #[.long 15], vm := .none },
  { cls := 8, slots := #[.long 16], vm := .none },
  { cls := 8, slots := #[.long 17], vm := .none },
  { cls := 8, slots := #[.long 18], vm := .none },
  { cls := 8, slots := #[.long 19], vm := .none },
  { cls := 8, slots := #[.long 20], vm := .none },
  { cls := 8, slots := #[.long 21], vm := .none },
  { cls := 8, slots := #[.long 22], vm := .none },
  { cls := 8, slots := #[.long 23], vm := .none },
  { cls := 8, slots := #[.long 24], vm := .none },
  { cls := 8, slots := #[.long 25], vm := .none },
  { cls := 8, slots := #[.long 26], vm := .none },
  { cls := 8, slots := #[.long 27], vm := .none },
  { cls := 8, slots := #[.long 28], vm := .none },
  { cls := 8, slots := #[.long 29], vm := .none },
  { cls := 8, slots := #[.long 30], vm := .none },
  { cls := 8, slots := #[.long 31], vm := .none },
  { cls := 8, slots := #[.long 32], vm := .none },
  { cls := 8, slots := #[.long 33], vm := .none },
  { cls := 8, slots := #[.long 34], vm := .none },
  { cls := 8, slots := #[.long 35], vm := .none },
  { cls := 8, slots := #[.long 36], vm := .none },
  { cls := 8, slots := #[.long 37], vm := .none },
  { cls := 8, slots := #[.long 38], vm := .none },
  { cls := 8, slots := #[.long 39], vm := .none },
  { cls := 8, slots := #[.long 40], vm := .none },
  { cls := 8, slots := #[.long 41], vm := .none },
  { cls := 8, slots := #[.long 42], vm := .none },
  { cls := 8, slots := #[.long 43], vm := .none },
  { cls := 8, slots := #[.long 44], vm := .none },
  { cls := 8, slots := #[.long 45], vm := .none },
  { cls := 8, slots := #[.long 46], vm := .none },
  { cls := 8, slots := #[.long 47], vm := .none },
  { cls := 8, slots := #[.long 48], vm := .none },
  { cls := 8, slots := #[.long 49], vm := .none },
  { cls := 8, slots := #[.long 50], vm := .none },
  { cls := 8, slots := #[.long 51], vm := .none },
  { cls := 8, slots := #[.long 52], vm := .none },
  { cls := 8, slots := #[.long 53], vm := .none },
  { cls := 8, slots := #[.long 54], vm := .none },
  { cls := 8, slots := #[.long 55], vm := .none },
  { cls := 8, slots := #[.long 56], vm := .none },
  { cls := 8, slots := #[.long 57], vm := .none },
  { cls := 8, slots := #[.long 58], vm := .none },
  { cls := 8, slots := #[.long 59], vm := .none },
  { cls := 8, slots := #[.long 60], vm := .none },
  { cls := 8, slots := #[.long 61], vm := .none },
  { cls := 8, slots := #[.long 62], vm := .none },
  { cls := 8, slots := #[.long 63], vm := .none },
  { cls := 8, slots := #[.long 64], vm := .none },
  { cls := 8, slots := #[.long 65], vm := .none },
  { cls := 8, slots := #[.long 66], vm := .none },
  { cls := 8, slots := #[.long 67], vm := .none },
  { cls := 8, slots := #[.long 68], vm := .none },
  { cls := 8, slots := #[.long 69], vm := .none },
  { cls := 8, slots := #[.long 70], vm := .none },
  { cls := 8, slots := #[.long 71], vm := .none },
  { cls := 8, slots := #[.long 72], vm := .none },
  { cls := 8, slots := #[.long 73], vm := .none },
  { cls := 8, slots := #[.long 74], vm := .none },
  { cls := 8, slots := #[.long 75], vm := .none },
  { cls := 8, slots := #[.long 76], vm := .none },
  { cls := 8, slots := #[.long 77], vm := .none },
  { cls := 8, slots := #[.long 78], vm := .none },
  { cls := 8, slots := #[.long 79], vm := .none },
  { cls := 8, slots := #[.long 80], vm := .none },
  { cls := 8, slots := #[.long 81], vm := .none },
  { cls := 8, slots := #[.long 82], vm := .none },
  { cls := 8, slots := #[.long 83], vm := .none },
  { cls := 8, slots := #[.long 84], vm := .none },
  { cls := 8, slots := #[.long 85], vm := .none },
  { cls := 8, slots := #[.long 86], vm := .none },
  { cls := 8, slots := #[.long 87], vm := .none },
  { cls := 8, slots := #[.long 88], vm := .none },
  { cls := 8, slots := #[.long 89], vm := .none },
  { cls := 8, slots := #[.long 90], vm := .none },
  { cls := 8, slots := #[.long 91], vm := .none },
  { cls := 8, slots := #[.long 92], vm := .none },
  { cls := 8, slots := #[.long 93], vm := .none },
  { cls := 8, slots := #[.long 94], vm := .none },
  { cls := 8, slots := #[.long 95], vm := .none },
  { cls := 8, slots := #[.long 96], vm := .none },
  { cls := 8, slots := #[.long 97], vm := .none },
  { cls := 8, slots := #[.long 98], vm := .none },
  { cls := 8, slots := #[.long 99], vm := .none },
  { cls := 8, slots := #[.long 100], vm := .none },
  { cls := 8, slots := #[.long 101], vm := .none },
  { cls := 8, slots := #[.long 102], vm := .none },
  { cls := 8, slots := #[.long 103], vm := .none },
  { cls := 8, slots := #[.long 104], vm := .none },
  { cls := 8, slots := #[.long 105], vm := .none },
  { cls := 8, slots := #[.long 106], vm := .none },
  { cls := 8, slots := #[.long 107], vm := .none },
  { cls := 8, slots := #[.long 108], vm := .none },
  { cls := 8, slots := #[.long 109], vm := .none },
  { cls := 8, slots := #[.long 110], vm := .none },
  { cls := 8, slots := #[.long 111], vm := .none },
  { cls := 8, slots := #[.long 112], vm := .none },
  { cls := 8, slots := #[.long 113], vm := .none },
  { cls := 8, slots := #[.long 114], vm := .none },
  { cls := 8, slots := #[.long 115], vm := .none },
  { cls := 8, slots := #[.long 116], vm := .none },
  { cls := 8, slots := #[.long 117], vm := .none },
  { cls := 8, slots := #[.long 118], vm := .none },
  { cls := 8, slots := #[.long 119], vm := .none },
  { cls := 8, slots := #[.long 120], vm := .none },
  { cls := 8, slots := #[.long 121], vm := .none },
  { cls := 8, slots := #[.long 122], vm := .none },
  { cls := 8, slots := #[.long 123], vm := .none },
  { cls := 8, slots := #[.long 124], vm := .none },
  { cls := 8, slots := #[.long 125], vm := .none },
  { cls := 8, slots := #[.long 126], vm := .none },
  { cls := 8, slots := #[.long 127], vm := .none }]
def classes : Array Class := #[k0, k1, k2, k3, k4, k5, k6, k7, k8, k9, k10, k11, k12, k13, k14, k15]
def interned : List (Array UInt16 × Addr) := []
def slotsUsed : Nat := 515
def theMethod : MethodId := ⟨1, 1⟩
def args0 : Array Value := #[.long 5, .long 6, .int 0]
def aboutOver (below : List Frame) : State where
  vm := { classes := classes, interned := interned.toArray }
  heap := heap
  slotsUsed := slotsUsed
  threads := #[{ frames := .invoking theMethod args0 :: below }]
def below0 : List Frame := [.native { method := ⟨0, 0⟩, args := #[] }]
def about1 : State := aboutOver below0
def p0 : Program := .bare "" "" ""
def e0 : Env := launch0.env 0 0 0
theorem w_frames : about1.frames = Frame.invoking theMethod args0 :: below0 := rfl
set_option maxRecDepth 65536 in
theorem w_args : argsFit about1.vm theMethod args0 = true := by decide +kernel
set_option maxRecDepth 65536 in
theorem w_heap : heapFits about1 = true := by decide +kernel
set_option maxRecDepth 65536 in
theorem w_runnable : about1.curStatus? = some .runnable := by decide +kernel
set_option maxRecDepth 65536 in
theorem w_alone : about1.alone = true := by decide +kernel
set_option maxRecDepth 65536 in
theorem w_named : about1.methodNamed? x = some theMethod := by decide +kernel
set_option maxRecDepth 65536 in
theorem w_hears : about1.hears theMethod below0 = true := by decide +kernel
set_option maxRecDepth 65536 in
theorem w_ripe : about1.ripe theMethod args0 below0 = true := by decide +kernel
theorem w_running : about1.status = .running := rfl
set_option maxRecDepth 65536 in
theorem w_room : about1.hasRoom e0.platform room_1 = true :=
  launch0.hasRoom_least _ room_1 (by decide +kernel) (by decide +kernel) (by decide +kernel) (by decide +kernel) (by decide +kernel) (by decide +kernel)
theorem allAtoms_all (ts : List Jvm.Cond) (a : Array Jvm.Value) (st : Jvm.State) : (allAtoms ts).before a st = ts.all (fun c => c.before a st) := by
  induction ts with
  | nil => rfl
  | cons c t ih =>
    show (Jvm.Cond.and c (allAtoms t)).before a st = _
    rw [Jvm.Cond.before_and, ih, List.all_cons]
def words1 : List Jvm.Cond := Jvm.Cond.code x code maxLocals ret :: tables_1
/-- a 'code' word, met by the world's own term for the bytes: nothing is compared byte by byte -/
theorem code_word {y : MethodName} {bytes : ByteArray} {mx : Nat} {rt : Option FieldType} {a : Array Value} {s : State} {m : MethodId} {meth : Method} {c : Code} (h1 : s.methodNamed? y = some m) (h2 : s.vm.method? m = some meth) (h3 : meth.code = some c) (h4 : c.code = bytes)
    (h5 : (c.maxLocals == mx && c.exceptionTable.isEmpty && decide (c.maxStack ≤ mostOperands) && decide (meth.sig.returnType = rt) && !meth.locks && decide (parseMethodDescriptor y.desc = some meth.sig)) = true) : (Jvm.Cond.code y bytes mx rt).before a s = true := by
  simp only [Bool.and_eq_true, beq_iff_eq, Bool.not_eq_true', decide_eq_true_eq] at h5
  obtain ⟨⟨⟨⟨⟨g1, g2⟩, g3⟩, g4⟩, g5⟩, g6⟩ := h5
  simp [Cond.before, Cond.holds, Cond.value, h1, h2, h3, h4, g1, g2, g3, g4, g5, g6]
def isCode : Jvm.Cond → Bool
  | .code _ _ _ _ => true
  | _ => false
theorem all_split {L : List Jvm.Cond} {P : Jvm.Cond → Bool} (h1 : L.all (fun c => isCode c || P c) = true) (h2 : ∀ c ∈ L.filter isCode, P c = true) : L.all P = true := by
  refine List.all_eq_true.mpr fun c hc => ?_
  have h := List.all_eq_true.mp h1 c hc
  rcases Bool.eq_false_or_eq_true (isCode c) with hi | hi
  · exact h2 c (List.mem_filter.mpr ⟨hc, hi⟩)
  · simpa [hi] using h
set_option maxRecDepth 65536 in
theorem w_c0 : (Jvm.Cond.code x code maxLocals ret).before args0 about1 = true := code_word (m := ⟨1, 1⟩) (meth := k1m1) (c := k1c1) (by decide +kernel) rfl rfl rfl (by decide +kernel)
set_option maxRecDepth 65536 in
theorem w_c1 : (Jvm.Cond.code ({ cls := "com/example/cover/cover/FeatureId", name := "<init>", desc := "(J)V" } : Jvm.MethodName) prog_7_method_1_code (3 : Nat) (Option.none : Option Jvm.ClassFile.FieldType)).before args0 about1 = true := code_word (m := ⟨2, 0⟩) (meth := k2m0) (c := k2c0) (by decide +kernel) rfl rfl rfl (by decide +kernel)
set_option maxRecDepth 65536 in
theorem w_c2 : (Jvm.Cond.code ({ cls := "java/lang/Object", name := "<init>", desc := "()V" } : Jvm.MethodName) object_method_1_code (1 : Nat) (Option.none : Option Jvm.ClassFile.FieldType)).before args0 about1 = true := code_word (m := ⟨0, 0⟩) (meth := k0m0) (c := k0c0) (by decide +kernel) rfl rfl rfl (by decide +kernel)
set_option maxRecDepth 65536 in
theorem w_c3 : (Jvm.Cond.code ({ cls := "com/example/cover/cover/FeatureId", name := "equals", desc := "(Ljava/lang/Object;)Z" } : Jvm.MethodName) prog_7_method_11_code (2 : Nat) (Option.some Jvm.ClassFile.FieldType.boolean)).before args0 about1 = true := code_word (m := ⟨2, 1⟩) (meth := k2m1) (c := k2c1) (by decide +kernel) rfl rfl rfl (by decide +kernel)
set_option maxRecDepth 65536 in
theorem w_c4 : (Jvm.Cond.code ({ cls := "java/lang/Long", name := "valueOf", desc := "(J)Ljava/lang/Long;" } : Jvm.MethodName) jdk_35_method_24_code (3 : Nat) (Option.some (Jvm.ClassFile.FieldType.object "java/lang/Long"))).before args0 about1 = true := code_word (m := ⟨8, 0⟩) (meth := k8m0) (c := k8c0) (by decide +kernel) rfl rfl rfl (by decide +kernel)
set_option maxRecDepth 65536 in
theorem w_c5 : (Jvm.Cond.code ({ cls := "java/lang/Long", name := "<init>", desc := "(J)V" } : Jvm.MethodName) jdk_35_method_26_code (3 : Nat) (Option.none : Option Jvm.ClassFile.FieldType)).before args0 about1 = true := code_word (m := ⟨8, 1⟩) (meth := k8m1) (c := k8c1) (by decide +kernel) rfl rfl rfl (by decide +kernel)
set_option maxRecDepth 65536 in
theorem w_c6 : (Jvm.Cond.code ({ cls := "java/lang/Number", name := "<init>", desc := "()V" } : Jvm.MethodName) jdk_18_method_1_code (1 : Nat) (Option.none : Option Jvm.ClassFile.FieldType)).before args0 about1 = true := code_word (m := ⟨4, 0⟩) (meth := k4m0) (c := k4c0) (by decide +kernel) rfl rfl rfl (by decide +kernel)
def codes1 : List Jvm.Cond := [Jvm.Cond.code x code maxLocals ret, Jvm.Cond.code ({ cls := "com/example/cover/cover/FeatureId", name := "<init>", desc := "(J)V" } : Jvm.MethodName) prog_7_method_1_code (3 : Nat) (Option.none : Option Jvm.ClassFile.FieldType), Jvm.Cond.code ({ cls := "java/lang/Object", name := "<init>", desc := "()V" } : Jvm.MethodName) object_method_1_code (1 : Nat) (Option.none : Option Jvm.ClassFile.FieldType), Jvm.Cond.code ({ cls := "com/example/cover/cover/FeatureId", name := "equals", desc := "(Ljava/lang/Object;)Z" } : Jvm.MethodName) prog_7_method_11_code (2 : Nat) (Option.some Jvm.ClassFile.FieldType.boolean), Jvm.Cond.code ({ cls := "java/lang/Long", name := "valueOf", desc := "(J)Ljava/lang/Long;" } : Jvm.MethodName) jdk_35_method_24_code (3 : Nat) (Option.some (Jvm.ClassFile.FieldType.object "java/lang/Long")), Jvm.Cond.code ({ cls := "java/lang/Long", name := "<init>", desc := "(J)V" } : Jvm.MethodName) jdk_35_method_26_code (3 : Nat) (Option.none : Option Jvm.ClassFile.FieldType), Jvm.Cond.code ({ cls := "java/lang/Number", name := "<init>", desc := "()V" } : Jvm.MethodName) jdk_18_method_1_code (1 : Nat) (Option.none : Option Jvm.ClassFile.FieldType)]
set_option maxRecDepth 65536 in
theorem codes_eq : words1.filter isCode = codes1 := rfl
theorem w_codes : ∀ c ∈ words1.filter isCode, c.before args0 about1 = true := by
  rw [codes_eq]
  intro c hc
  simp only [codes1, List.mem_cons, List.not_mem_nil, or_false] at hc
  rcases hc with rfl | rfl | rfl | rfl | rfl | rfl | rfl
  · exact w_c0
  · exact w_c1
  · exact w_c2
  · exact w_c3
  · exact w_c4
  · exact w_c5
  · exact w_c6
set_option maxRecDepth 65536 in
theorem w_t1 : (words1.take 24).all (fun c => isCode c || c.before args0 about1) = true := by decide +kernel
set_option maxRecDepth 65536 in
theorem w_t2 : (words1.drop 24).all (fun c => isCode c || c.before args0 about1) = true := by decide +kernel
theorem w_tables : (allAtoms (Jvm.Cond.code x code maxLocals ret :: tables_1)).before args0 about1 = true := by
  rw [allAtoms_all]
  show words1.all (fun c => c.before args0 about1) = true
  refine all_split ?_ w_codes
  rw [← List.take_append_drop 24 words1, List.all_append, w_t1, w_t2]
  rfl
set_option maxRecDepth 65536 in
theorem w_rest : rest_1_c.before args0 about1 = true := by decide +kernel
set_option maxRecDepth 65536 in
theorem w_case : (Jvm.Cond.and given_1 narrow_1).before args0 about1 = true := by decide +kernel
theorem w_applies : (headSpec (Jvm.Cond.code x code maxLocals ret :: tables_1) room_1).applies x e0.platform about1 = true :=
  (Spec.applies_iff w_frames).mpr ⟨w_running, w_runnable, w_alone, w_named, w_hears, w_ripe, w_room, w_tables⟩
theorem atStart : AtStart classFile x code maxLocals ret World_1 tables_1 room_1 Calls_1 rest_1 Pre_1 launch0 p0 e0 about1 theMethod args0 below0 :=
  ⟨lists_1, trivial, launch0.admits_env _ _ _, launch0.least_env, fairChoices_fair.cas, fairChoices_fair.clock, w_frames, w_args, w_heap, w_applies, trivial, w_rest, w_case⟩
end start1
theorem witness_1 : WitnessClaimed_1 := ⟨start1.p0, start1.e0, start1.about1, start1.theMethod, start1.args0, start1.below0, start1.atStart⟩
end Jvm.Pilot.@@N@@
