import JvmDerived
import JvmDerived.Pilot.@@N@@Statement
import JvmDerived.Pilot.@@N@@Code
set_option linter.unusedVariables false
set_option linter.unusedSimpArgs false
namespace Jvm.RoadKit
open Sem ClassFile Op Lib Jvm.Stand Jvm.Free Jvm.LawKit
section New
variable {p : Program} {l : Launch} {e : Env} {R : Room} {s : State} {m : MethodId} {args : Array Value} {below : List Frame} {meth : Method} {c : Code} {T : State} {locs : List Loc} {cells slots : Nat}
theorem retI (X : Stand p l e R s m args below meth c T locs cells slots) (hx : p.tables.exec = Jvm.exec) {pc : Nat} {Ls : Array Slot} {z : Int32} {rest : List Value} (hret : meth.sig.returnType = some .int) (hd : decode c.code pc = .ok (.ireturn, 1)) {fs : List Frame}
    (hl : ∀ (f : JFrame) (acts : List Action), f.method = m → f.locked = none → f.entered = [] → (doReturn e (T.setTop f) acts (some (.int z))).1 = T.setFrames fs) : Steps p.tables e below (T.setTop (mkF m pc Ls (.int z :: rest))) (T.setFrames fs) :=
  retOut X hx hret rfl (Or.inl ⟨rfl, Or.inl rfl, _, rfl⟩) hd hl
theorem own_retA (X : Stand p l e R s m args below meth c T locs cells slots) (hx : p.tables.exec = Jvm.exec) {pc : Nat} {Ls : Array Slot} {w : Value} {t : FieldType} {rest : List Value} (hret : meth.sig.returnType = some t) (ht : t.isReference = true) (hw : w.isRef = true) (hd : decode c.code pc = .ok (.areturn, 1)) {fs : List Frame}
    (hl : ∀ (f : JFrame) (acts : List Action), f.method = m → f.locked = none → f.entered = [] → (doReturn e (T.setTop f) acts (some w)).1 = T.setFrames fs) : Steps p.tables e below (T.setTop (mkF m pc Ls (w :: rest))) (T.setFrames fs) :=
  retOut X hx hret (by cases w <;> first | (simp [Value.isRef] at hw; done) | (cases t <;> rfl)) (Or.inr (Or.inr (Or.inr (Or.inr ⟨rfl, ht, hw⟩)))) hd hl
theorem own_retJ (X : Stand p l e R s m args below meth c T locs cells slots) (hx : p.tables.exec = Jvm.exec) {pc : Nat} {Ls : Array Slot} {z : Int64} {rest : List Value} (hret : meth.sig.returnType = some .long) (hd : decode c.code pc = .ok (.lreturn, 1)) {fs : List Frame}
    (hl : ∀ (f : JFrame) (acts : List Action), f.method = m → f.locked = none → f.entered = [] → (doReturn e (T.setTop f) acts (some (.long z))).1 = T.setFrames fs) : Steps p.tables e below (T.setTop (mkF m pc Ls (.long z :: rest))) (T.setFrames fs) :=
  retOut X hx hret rfl (Or.inr (Or.inl ⟨rfl, rfl, _, rfl⟩)) hd hl
theorem own_retD (X : Stand p l e R s m args below meth c T locs cells slots) (hx : p.tables.exec = Jvm.exec) {pc : Nat} {Ls : Array Slot} {z : UInt64} {rest : List Value} (hret : meth.sig.returnType = some .double) (hd : decode c.code pc = .ok (.dreturn, 1)) {fs : List Frame}
    (hl : ∀ (f : JFrame) (acts : List Action), f.method = m → f.locked = none → f.entered = [] → (doReturn e (T.setTop f) acts (some (.double z))).1 = T.setFrames fs) : Steps p.tables e below (T.setTop (mkF m pc Ls (.double z :: rest))) (T.setFrames fs) :=
  retOut X hx hret rfl (Or.inr (Or.inr (Or.inl ⟨rfl, rfl, _, rfl⟩))) hd hl
/-- the walk goes on from here and ends as Q says -/
def own_Go (p : Program) (e : Env) (below : List Frame) (T : State) (g : JFrame) (Q : Outcome → State → Prop) : Prop :=
  ∃ s₂ o, Steps p.tables e below (T.setTop g) s₂ ∧ s₂.status = .running ∧ Ended s₂ below o ∧ Q o s₂
theorem own_go {T T' : State} {g g' : JFrame} {Q : Outcome → State → Prop} (h : ∀ t, Steps p.tables e below (T'.setTop g') t → Steps p.tables e below (T.setTop g) t) (k : own_Go p e below T' g' Q) : own_Go p e below T g Q := by
  obtain ⟨s₂, o, a, b⟩ := k
  exact ⟨s₂, o, h _ a, b⟩
theorem own_st {T T' t : State} {g g' : JFrame} (h : Steps p.tables e below (T'.setTop g') t → Steps p.tables e below (T.setTop g) t) (k : Steps p.tables e below (T'.setTop g') t) : Steps p.tables e below (T.setTop g) t := h k
theorem own_cast {g g' : JFrame} {Q : Outcome → State → Prop} (q : g = g') (k : own_Go p e below T g' Q) : own_Go p e below T g Q := by
  subst q; exact k
theorem og {T : State} {g : JFrame} {Q : Outcome → State → Prop} (T' : State) (g' : JFrame) (h : ∀ t, Steps p.tables e below (T'.setTop g') t → Steps p.tables e below (T.setTop g) t) (k : own_Go p e below T' g' Q) : own_Go p e below T g Q := own_go h k
theorem os {T t : State} {g : JFrame} (T' : State) (g' : JFrame) (h : Steps p.tables e below (T'.setTop g') t → Steps p.tables e below (T.setTop g) t) (k : Steps p.tables e below (T'.setTop g') t) : Steps p.tables e below (T.setTop g) t := h k
theorem own_in {g g' : JFrame} {Q : Outcome → State → Prop} (q : g = g') (k : own_Go p e below T g' Q) : ∃ s₂ o, Steps p.tables e below (T.setTop g) s₂ ∧ s₂.status = .running ∧ Ended s₂ below o ∧ Q o s₂ := by
  subst q; exact k
theorem own_out (X : Stand p l e R s m args below meth c T locs cells slots) {g : JFrame} {v : Option Value} (hv : meth.sig.returnType = none → v = none) (hlk : meth.locks = false)
    (h : ∀ fs, (∀ (f : JFrame) (acts : List Action), f.method = m → f.locked = none → f.entered = [] → (doReturn e (T.setTop f) acts v).1 = T.setFrames fs) → Steps p.tables e below (T.setTop g) (T.setFrames fs))
    {Q : Option Value → Heap → List Loc → Prop} (hQ : Q v T.heap locs) {k n : Nat} (hc : cells ≤ k) (hn : slots ≤ n) :
    own_Go p e below T g (fun o U' => ∃ v L, o = .returned v ∧ Q v U'.heap L ∧ FrameEnd s o U' L k n) := by
  obtain ⟨fs, hr, hrun, hended, hW, hsame⟩ := X.leave hv hlk
  exact ⟨_, _, h fs hr, hrun, hended, _, _, rfl, hQ, ⟨_, rfl⟩, hW, hsame.mono hc hn⟩
theorem own_since (s : State) : s.Since s.vm 0 := ⟨State.Warmed39.refl s, fun j p hj hp => by
  rw [Array.getElem?_eq_none hj] at hp; cases hp⟩
theorem own_outW {vm₁ : Vm} (X : Stand p l e R (s.setVm vm₁) m args below meth c T locs cells slots) {n0 : Nat} (hS : s.Since vm₁ n0) (hn0 : n0 ≤ T.heap.size) {g : JFrame} {v : Option Value} (hv : meth.sig.returnType = none → v = none) (hlk : meth.locks = false)
    (h : ∀ fs, (∀ (f : JFrame) (acts : List Action), f.method = m → f.locked = none → f.entered = [] → (doReturn e (T.setTop f) acts v).1 = T.setFrames fs) → Steps p.tables e below (T.setTop g) (T.setFrames fs))
    {Q : Option Value → Heap → List Loc → Prop} (hQ : Q v T.heap locs) {k n : Nat} (hc : cells ≤ k) (hn : slots ≤ n) :
    own_Go p e below T g (fun o U' => ∃ v L, o = .returned v ∧ Q v U'.heap L ∧ ReturnedEndW s o U' L k n) := by
  obtain ⟨fs, hr, hrun, hended, h1, h2, h3, h4⟩ := X.leaveW hS hn0 hv hlk
  exact ⟨_, _, h fs hr, hrun, hended, _, _, rfl, hQ, h1, h2, h3, h4.mono hc hn⟩
theorem own_outV {vm₁ : Vm} (X : Stand p l e R (s.setVm vm₁) m args below meth c T locs cells slots) {n0 : Nat} (hS : s.Since vm₁ n0) (hn0 : n0 ≤ T.heap.size) {g : JFrame} {v : Option Value} (hv : meth.sig.returnType = none → v = none) (hlk : meth.locks = false)
    (h : ∀ fs, (∀ (f : JFrame) (acts : List Action), f.method = m → f.locked = none → f.entered = [] → (doReturn e (T.setTop f) acts v).1 = T.setFrames fs) → Steps p.tables e below (T.setTop g) (T.setFrames fs))
    {Q : Option Value → Heap → Vm → List Loc → Prop} (hQ : Q v T.heap T.vm locs) {k n : Nat} (hc : cells ≤ k) (hn : slots ≤ n) :
    own_Go p e below T g (fun o U' => ∃ v L, o = .returned v ∧ Q v U'.heap U'.vm L ∧ ReturnedEndW s o U' L k n) := by
  obtain ⟨fs, hr, hrun, hended, h1, h2, h3, h4⟩ := X.leaveW hS hn0 hv hlk
  exact ⟨_, _, h fs hr, hrun, hended, _, _, rfl, hQ, h1, h2, h3, h4.mono hc hn⟩
/-- a callee that may intern, whose contract also reads and tells the tables -/
theorem own_backV {Z : State} {h : Heap} {a0 : Array Value} {y : MethodName} {bytes : ByteArray} {maxL : Nat} {ret : Option FieldType} {rm : Room} {len W : Nat} {as' : Array Value} {Q : Option Value → Heap → Vm → List Loc → Prop} {I : Vm → Prop} (hI : ∀ vm, s.WarmedH vm → I vm)
    (hM : MetFree l y (head1 [Cond.code y bytes maxL ret] rm) (fun a U => a = as' ∧ Z.Warmed39 U.vm ∧ U.heap = h ∧ I U.vm) (fun _ _ _ _ _ => True) (fun _ U o U' => ∃ v L, o = .returned v ∧ Q v U'.heap U'.vm L ∧ ReturnedEndW U o U' L rm.cells rm.slots))
    (hZ : Z.Warmed39 s.vm) (wc : (Cond.code y bytes maxL ret).before a0 Z = true) (wz : (Cond.initialized y.cls).before a0 Z = true) (hf : rm.frames + 1 ≤ R.frames) (hl : W + (maxL + 11) + rm.locals ≤ R.locals) :
    BackS l R p e below s args y len W (fun A a => a = as' ∧ A.U.heap = h ∧ A.cells + rm.cells ≤ R.cells ∧ A.slots + rm.slots ≤ R.slots)
      (fun A _ v B => ∃ L, Q v B.U.heap B.U.vm L ∧ B.locs = A.locs ++ L ∧ B.cells = A.cells + rm.cells ∧ B.slots = A.slots + rm.slots) :=
  BackS.of_freeW (bytes := bytes) (maxL := maxL) (ret := ret) (E := fun _ _ o t L k n => k = rm.cells ∧ n = rm.slots ∧ ∃ v, o = .returned v ∧ Q v t.heap t.vm L) hM hf hl
    (fun m meth c A a Y hp => have hU : Z.Warmed39 A.U.vm := wtrans hZ Y.warmed
      ⟨by show (Cond.and _ .tt).before a A.U = true; rw [Cond.before_and, mv hU wc]; rfl, mv hU wc, mv hU wz, hp.2.2.1, hp.2.2.2⟩)
    (fun m meth c A a g mk Y hp => ⟨hp.1, wtrans hZ Y.warmed, hp.2.1, hI _ Y.warmed⟩) (fun _ _ _ _ _ _ _ _ _ => trivial)
    (fun _ _ _ _ ⟨v, L, h1, h2, h3⟩ => ⟨L, _, _, h3, rfl, rfl, v, h1, h2⟩)
    (fun m meth c A a g mk v t L k n Y hp _ _ ⟨e1, e2, v', e3, e4⟩ => by cases e3; subst e1 e2; exact ⟨L, e4, rfl, rfl, rfl⟩)
theorem own_ltN {a n : Nat} (h : a < n) : a < n := h
theorem own_leN {a n : Nat} (h : a ≤ n) : a ≤ n := h
theorem own_ne {a b : Nat} (h : a ≠ b) : a ≠ b := h
abbrev own_MF (l : Launch) (y : MethodName) (code : ByteArray) (ml : Nat) (ret : Option FieldType) (R : Room) (ws : List Jvm.Cond) (Z : State) (as' : Array Value) (h0 : Heap) (Q : Option Value → Heap → List Loc → Prop) : Prop :=
  MetFree l y (head1 (Jvm.Cond.code y code ml ret :: ws) R) (fun a U => a = as' ∧ Z.Warmed39 U.vm ∧ U.heap = h0) (fun _ _ _ _ _ => True) (fun _ U o U' => ∃ v L, o = .returned v ∧ Q v U'.heap L ∧ FrameEnd U o U' L R.cells R.slots)
theorem own_begin {l : Launch} {y : MethodName} {code : ByteArray} {ml : Nat} {ret : Option FieldType} {R : Room} {ws : List Jvm.Cond} {Z : State} {as' : Array Value} {h0 : Heap} {Q : Option Value → Heap → List Loc → Prop} (hpl : plainFor y = true) {fr : MethodId → JFrame} (hef : ∀ m, entryFrame m as' ml = fr m)
    (body : ∀ (p : Program) (e : Env) (s : State) (m : MethodId) (below : List Frame) (meth : Method) (c : Code) (s₁ : State), meth.sig.returnType = ret → p.tables.exec = Jvm.exec → c.code = code → c.maxLocals = ml → s.vm.findClass y.cls = some m.cls → meth.name = y.name → meth.locks = false → Stand p l e R s m as' below meth c s₁ [] 0 0 → s₁.heap = h0 → s.heap = h0 → Z.Warmed39 s.vm →
      own_Go p e below s₁ (fr m) (fun o U' => ∃ v L, o = .returned v ∧ Q v U'.heap L ∧ FrameEnd s o U' L R.cells R.slots)) : own_MF l y code ml ret R ws Z as' h0 Q := by
  refine MetFree.of_bodySF hpl hisR ?_
  intro p e s m args below meth c s₁ Bd hml0 hP hK
  obtain ⟨rfl, hZ, hh⟩ := hP
  exact own_in (hef m) (body p e s m below meth c s₁ Bd.returns Bd.exec Bd.bytes hml0 (findClass_of_methodNamed Bd.named) (name_of_methodNamed Bd.named Bd.method).1 (BodyLoose.notSynchronized Bd) (Stand.of_body Bd) (by rw [← hh, Bd.state]; rfl) hh hZ)
theorem own_t0 {P : Prop} [Decidable P] (h : P) : (if P then (0 : Int32) else (1 : Int32)) = 0 := if_pos h
theorem own_f0 {P : Prop} [Decidable P] (h : ¬ P) : ¬ (if P then (0 : Int32) else (1 : Int32)) = 0 := by rw [if_neg h]; decide
theorem own_t1 {P : Prop} [Decidable P] (h : P) : ¬ (if P then (1 : Int32) else (0 : Int32)) = 0 := by rw [if_pos h]; decide
theorem own_f1 {P : Prop} [Decidable P] (h : ¬ P) : (if P then (1 : Int32) else (0 : Int32)) = 0 := if_neg h
end New
end Jvm.RoadKit
namespace Jvm.Pilot.@@N@@
open Jvm Jvm.ClassFile Sem Op Lib Jvm.Free Jvm.Stand Jvm.LawKit Jvm.RoadKit Bundle Jvm.Pilot.@@N@@.Jvm.D
theorem own_w {Z : State} {a0 : Array Value} {d : Jvm.Cond} (hw : ∀ d ∈ tables_1, d.before a0 Z = true) (i : Nat) (h : tables_1[i]? = some d) : d.before a0 Z = true := hw d (List.mem_of_getElem? h)

def own_tab : List (UInt64 × Int) := [(13837309855095848960, -3), (13835058055282163712, -2), (13830554455654793216, -1), (0, 0), (4607182418800017408, 1), (4611686018427387904, 2), (4613937818241073152, 3), (9223372036854775808, 0)]
/-- one of the eight values, with its rank -/
def own_D (x : UInt64) (r : Int) : Prop := (x, r) ∈ own_tab
def own_N (x : UInt64) : Prop := ∃ r, own_D x r
def own_cmp (r s : Int) : Int32 := if r < s then -1 else if r = s then 0 else 1
theorem own_dc {x y : UInt64} {r s : Int} (o : CmpOp) (hx : own_D x r) (hy : own_D y s) : cmpValue (FP.dcmp x y) o = own_cmp r s := by
  have t : ∀ a ∈ own_tab, ∀ b ∈ own_tab, cmpValue (FP.dcmp a.1 b.1) .l = own_cmp a.2 b.2 ∧ cmpValue (FP.dcmp a.1 b.1) .g = own_cmp a.2 b.2 := by decide +kernel
  cases o <;> first | exact (t _ hx _ hy).1 | exact (t _ hx _ hy).2
theorem own_clt (r s : Int) : own_cmp r s < 0 ↔ r < s := by
  unfold own_cmp
  split
  · exact ⟨fun _ => by assumption, fun _ => by decide⟩
  · split <;> exact ⟨fun h => absurd h (by decide), fun h => absurd h (by assumption)⟩
theorem own_ceq (r s : Int) : own_cmp r s = 0 ↔ r = s := by
  unfold own_cmp
  split
  · exact ⟨fun h => absurd h (by decide), fun h => by omega⟩
  · split
    · exact ⟨fun _ => by assumption, fun _ => rfl⟩
    · exact ⟨fun h => absurd h (by decide), fun h => absurd h (by assumption)⟩
theorem own_cgt (r s : Int) : 0 < own_cmp r s ↔ s < r := by
  unfold own_cmp
  split
  · exact ⟨fun h => absurd h (by decide), fun h => by omega⟩
  · split
    · exact ⟨fun h => absurd h (by decide), fun h => by omega⟩
    · exact ⟨fun _ => by omega, fun _ => by decide⟩
theorem own_i2d {x : Int32} (h : ¬ (x &&& (7 : Int32)) = (7 : Int32)) : own_D (FP.i2d ((x &&& (7 : Int32)) - (3 : Int32))) ((x &&& (7 : Int32)).toInt - 3) := by
  have t : ∀ k : Fin 7, own_D (FP.i2d ((Int32.ofNat k.val) - (3 : Int32))) ((Int32.ofNat k.val).toInt - 3) := by unfold own_D; decide +kernel
  have m := c_mask x (7 : Int32) 3 (by decide) (by decide)
  have n7 : (x &&& (7 : Int32)).toInt ≠ 7 := fun q => h (Int32.toInt_inj.mp q)
  obtain ⟨k, hk⟩ : ∃ k : Nat, (x &&& (7 : Int32)).toInt = k := ⟨(x &&& (7 : Int32)).toInt.toNat, by omega⟩
  have e : (x &&& (7 : Int32)) = Int32.ofNat k := by
    apply Int32.toInt_inj.mp
    rw [hk, Int32.toInt_ofNat_of_lt (by omega)]
  rw [e]
  exact t ⟨k, by omega⟩
def own_bot (a b c d : Int) : Int32 := if a ≤ b ∧ a ≤ c ∧ a ≤ d then 0 else if b < a ∧ b ≤ c ∧ b ≤ d then 1 else if c < a ∧ c < b ∧ c ≤ d then 2 else 3
def own_top (a b c d : Int) : Int32 := if b ≤ a ∧ c ≤ a ∧ d ≤ a then 0 else if a < b ∧ c ≤ b ∧ d ≤ b then 1 else if a < c ∧ b < c ∧ d ≤ c then 2 else 3
theorem own_bot_spec (a b c d : Int) : (own_bot a b c d = 0 ∧ a ≤ b ∧ a ≤ c ∧ a ≤ d) ∨ (own_bot a b c d = 1 ∧ b < a ∧ b ≤ c ∧ b ≤ d) ∨ (own_bot a b c d = 2 ∧ c < a ∧ c < b ∧ c ≤ d) ∨ (own_bot a b c d = 3 ∧ d < a ∧ d < b ∧ d < c) := by
  unfold own_bot
  split
  · exact Or.inl ⟨rfl, by assumption⟩
  · split
    · exact Or.inr (Or.inl ⟨rfl, by assumption⟩)
    · split
      · exact Or.inr (Or.inr (Or.inl ⟨rfl, by assumption⟩))
      · exact Or.inr (Or.inr (Or.inr ⟨rfl, by omega, by omega, by omega⟩))
theorem own_top_spec (a b c d : Int) : (own_top a b c d = 0 ∧ b ≤ a ∧ c ≤ a ∧ d ≤ a) ∨ (own_top a b c d = 1 ∧ a < b ∧ c ≤ b ∧ d ≤ b) ∨ (own_top a b c d = 2 ∧ a < c ∧ b < c ∧ d ≤ c) ∨ (own_top a b c d = 3 ∧ a < d ∧ b < d ∧ c < d) := by
  unfold own_top
  split
  · exact Or.inl ⟨rfl, by assumption⟩
  · split
    · exact Or.inr (Or.inl ⟨rfl, by assumption⟩)
    · split
      · exact Or.inr (Or.inr (Or.inl ⟨rfl, by assumption⟩))
      · exact Or.inr (Or.inr (Or.inr ⟨rfl, by omega, by omega, by omega⟩))
def own_g4 {α : Type} (i : Int32) (a b c d : α) : α := if i = 0 then a else if i = 1 then b else if i = 2 then c else d
def own_I4 (i : Int32) : Prop := i = 0 ∨ i = 1 ∨ i = 2 ∨ i = 3
theorem own_botI (a b c d : Int) : own_I4 (own_bot a b c d) := by
  rcases own_bot_spec a b c d with h | h | h | h
  · exact Or.inl h.1
  · exact Or.inr (Or.inl h.1)
  · exact Or.inr (Or.inr (Or.inl h.1))
  · exact Or.inr (Or.inr (Or.inr h.1))
theorem own_topI (a b c d : Int) : own_I4 (own_top a b c d) := by
  rcases own_top_spec a b c d with h | h | h | h
  · exact Or.inl h.1
  · exact Or.inr (Or.inl h.1)
  · exact Or.inr (Or.inr (Or.inl h.1))
  · exact Or.inr (Or.inr (Or.inr h.1))
theorem own_in4 {i : Int32} (h : own_I4 i) : ¬ i < 0 ∧ i < (4 : Int32) := by
  rcases h with rfl | rfl | rfl | rfl <;> decide
theorem own_atJ {i : Int32} (h : own_I4 i) (a b c d : Int64) : [Value.long a, .long b, .long c, .long d].getD i.toNatClampNeg (.long 0) = .long (own_g4 i a b c d) := by
  rcases h with rfl | rfl | rfl | rfl <;> rfl
theorem own_atD {i : Int32} (h : own_I4 i) (a b c d : UInt64) : [Value.double a, .double b, .double c, .double d].getD i.toNatClampNeg (.double 0) = .double (own_g4 i a b c d) := by
  rcases h with rfl | rfl | rfl | rfl <;> rfl
theorem own_gD {i : Int32} (h : own_I4 i) {a b c d : UInt64} {ra rb rc rd : Int} (ha : own_D a ra) (hb : own_D b rb) (hc : own_D c rc) (hd : own_D d rd) : own_D (own_g4 i a b c d) (own_g4 i ra rb rc rd) := by
  rcases h with rfl | rfl | rfl | rfl
  · exact ha
  · exact hb
  · exact hc
  · exact hd
theorem d_method_3_0 : decode method_3_code 0 = .ok (.iload_n 0, 1) := by decide +kernel
theorem d_method_3_1 : decode method_3_code 1 = .ok (.bipush 7, 2) := by decide +kernel
theorem d_method_3_3 : decode method_3_code 3 = .ok (.iand, 1) := by decide +kernel
theorem d_method_3_4 : decode method_3_code 4 = .ok (.istore_n 1, 1) := by decide +kernel
theorem d_method_3_5 : decode method_3_code 5 = .ok (.iload_n 1, 1) := by decide +kernel
theorem d_method_3_6 : decode method_3_code 6 = .ok (.bipush 7, 2) := by decide +kernel
theorem d_method_3_8 : decode method_3_code 8 = .ok (.if_icmp .ne 7, 3) := by decide +kernel
theorem d_method_3_11 : decode method_3_code 11 = .ok (.ldc2_w 44, 3) := by decide +kernel
theorem d_method_3_14 : decode method_3_code 14 = .ok (.dreturn, 1) := by decide +kernel
theorem d_method_3_15 : decode method_3_code 15 = .ok (.iload_n 1, 1) := by decide +kernel
theorem d_method_3_16 : decode method_3_code 16 = .ok (.iconst 3, 1) := by decide +kernel
theorem d_method_3_17 : decode method_3_code 17 = .ok (.isub, 1) := by decide +kernel
theorem d_method_3_18 : decode method_3_code 18 = .ok (.i2d, 1) := by decide +kernel
theorem d_method_3_19 : decode method_3_code 19 = .ok (.dreturn, 1) := by decide +kernel
theorem pn_0 : plainName "com/example/driftline/driftline/storage/ExtremesWeighPinLaw" = true := by first | (simp [plainName, overriddenIn]; done) | decide +kernel
theorem ef_0 (m : MethodId) (x0 : Int32) : entryFrame m #[(.int x0)] 2 = mkF m 0 #[iv x0, .unset] [] := by first | (simp [entryFrame, mkF, argsToLocals, Value.category]; done) | rfl
abbrev ym_0 : MethodName := ⟨"com/example/driftline/driftline/storage/ExtremesWeighPinLaw", "val", "(I)D"⟩
def Q_rm_val (Z : State) (x0 : Int32) (h0 : Heap) (n0 : Nat) (vv : Option Value) (h : Heap) (LL : List Loc) : Prop := ∃ v : UInt64, ∃ r : Int, vv = some (.double v) ∧ Fr n0 LL ∧ h = h0 ∧ own_D v r
set_option maxRecDepth 65536 in
set_option maxHeartbeats 40000000 in
theorem rm_val (l : Launch) (Z : State) (a0 : Array Value) (hw : ∀ d ∈ tables_1, d.before a0 Z = true) (ws : List Jvm.Cond) (x0 : Int32) (h0 : Heap) (n0 : Nat) (Z0 : n0 ≤ h0.size) :
    own_MF l ym_0 method_3_code 2 (some .double) ⟨0, 0, 0, 0⟩ ws Z #[(.int x0)] h0 (Q_rm_val Z x0 h0 n0) := by
  refine own_begin (plainFor_of_name pn_0) (fun m => ef_0 m x0) ?_
  intro p e s m below meth c s₁ hret hx hby hml hown hnm hlk X0 e0 hh hZ
  have N0 := Fr.nil n0
  refine og s₁ (mkF m 1 #[iv x0, .unset] [(.int x0)]) (fun t_ k_ => XS.iloadN X0.here hx rfl (hb hby d_method_3_0) rfl k_) ?_
  refine og s₁ (mkF m 3 #[iv x0, .unset] [(.int 7), (.int x0)]) (fun t_ k_ => XS.bipush X0.here hx rfl (hb hby d_method_3_1) k_) ?_
  refine og s₁ (mkF m 4 #[iv x0, .unset] [(.int (x0 &&& (7 : Int32)))]) (fun t_ k_ => XS.iand X0.here hx rfl (hb hby d_method_3_3) rfl k_) ?_
  refine og s₁ (mkF m 5 #[iv x0, iv (x0 &&& (7 : Int32))] []) (fun t_ k_ => XS.istoreN X0.here hx rfl (hb hby d_method_3_4) rfl (l' := #[iv x0, iv (x0 &&& (7 : Int32))]) rfl k_) ?_
  refine og s₁ (mkF m 6 #[iv x0, iv (x0 &&& (7 : Int32))] [(.int (x0 &&& (7 : Int32)))]) (fun t_ k_ => XS.iloadN X0.here hx rfl (hb hby d_method_3_5) rfl k_) ?_
  refine og s₁ (mkF m 8 #[iv x0, iv (x0 &&& (7 : Int32))] [(.int 7), (.int (x0 &&& (7 : Int32)))]) (fun t_ k_ => XS.bipush X0.here hx rfl (hb hby d_method_3_6) k_) ?_
  by_cases hq1_ : (x0 &&& (7 : Int32)) = (7 : Int32)
  · skip
    refine og s₁ (mkF m 11 #[iv x0, iv (x0 &&& (7 : Int32))] []) (fun t_ k_ => XS.icmpNo X0.here hx rfl (hb hby d_method_3_8) rfl (teq hq1_).2 k_) ?_
    refine og s₁ (mkF m 14 #[iv x0, iv (x0 &&& (7 : Int32))] [(.double 9223372036854775808)]) (fun t_ k_ => X0.ldc2DoubleC hx hown (mvT hZ (own_w hw 74 rfl)) (g := (mkF m 11 #[iv x0, iv (x0 &&& (7 : Int32))] [])) rfl (hb hby d_method_3_11) _ k_) ?_
    exact own_out X0 (v := some (.double 9223372036854775808)) (fun h => by rw [hret] at h; cases h) hlk (fun fs hr => own_retD X0 hx hret (hb hby d_method_3_14) hr) (Q := Q_rm_val Z x0 h0 n0) (by rw [e0]; exact ⟨9223372036854775808, 0, rfl, N0, rfl, (by unfold own_D; decide)⟩) (by decide) (by decide)
  · skip
    refine og s₁ (mkF m 15 #[iv x0, iv (x0 &&& (7 : Int32))] []) (fun t_ k_ => XS.icmpYes X0.here hx rfl (pc0 := 8) (pc' := 15) rfl (hb hby d_method_3_8) rfl (feq hq1_).2 (by decide) (by decide) k_) ?_
    refine og s₁ (mkF m 16 #[iv x0, iv (x0 &&& (7 : Int32))] [(.int (x0 &&& (7 : Int32)))]) (fun t_ k_ => XS.iloadN X0.here hx rfl (hb hby d_method_3_15) rfl k_) ?_
    refine og s₁ (mkF m 17 #[iv x0, iv (x0 &&& (7 : Int32))] [(.int 3), (.int (x0 &&& (7 : Int32)))]) (fun t_ k_ => XS.iconst X0.here hx rfl (hb hby d_method_3_16) k_) ?_
    refine og s₁ (mkF m 18 #[iv x0, iv (x0 &&& (7 : Int32))] [(.int ((x0 &&& (7 : Int32)) - (3 : Int32)))]) (fun t_ k_ => XS.isub X0.here hx rfl (hb hby d_method_3_17) rfl k_) ?_
    refine og s₁ (mkF m 19 #[iv x0, iv (x0 &&& (7 : Int32))] [(.double (FP.i2d ((x0 &&& (7 : Int32)) - (3 : Int32))))]) (fun t_ k_ => XS.i2dS X0.here hx rfl (hb hby d_method_3_18) rfl rfl k_) ?_
    exact own_out X0 (v := some (.double (FP.i2d ((x0 &&& (7 : Int32)) - (3 : Int32))))) (fun h => by rw [hret] at h; cases h) hlk (fun fs hr => own_retD X0 hx hret (hb hby d_method_3_19) hr) (Q := Q_rm_val Z x0 h0 n0) (by rw [e0]; exact ⟨(FP.i2d ((x0 &&& (7 : Int32)) - (3 : Int32))), _, rfl, N0, rfl, (own_i2d hq1_)⟩) (by decide) (by decide)
theorem d_jdk_29_70_0 : decode jdk_29_method_70_code 0 = .ok (.lload_n 0, 1) := by decide +kernel
theorem d_jdk_29_70_1 : decode jdk_29_method_70_code 1 = .ok (.lload_n 2, 1) := by decide +kernel
theorem d_jdk_29_70_2 : decode jdk_29_method_70_code 2 = .ok (.lcmp, 1) := by decide +kernel
theorem d_jdk_29_70_3 : decode jdk_29_method_70_code 3 = .ok (.ifCond .gt 7, 3) := by decide +kernel
theorem d_jdk_29_70_10 : decode jdk_29_method_70_code 10 = .ok (.lload_n 2, 1) := by decide +kernel
theorem d_jdk_29_70_11 : decode jdk_29_method_70_code 11 = .ok (.lreturn, 1) := by decide +kernel
theorem d_jdk_29_70_6 : decode jdk_29_method_70_code 6 = .ok (.lload_n 0, 1) := by decide +kernel
theorem d_jdk_29_70_7 : decode jdk_29_method_70_code 7 = .ok (.goto 4, 3) := by decide +kernel
theorem ef_1 (m : MethodId) (p1 : Int64) (p2 : Int64) : entryFrame m #[(.long p1), (.long p2)] 4 = mkF m 0 #[.val (.long p1), .second, .val (.long p2), .second] [] := by first | (simp [entryFrame, mkF, argsToLocals, Value.category]; done) | rfl
abbrev ym_1 : MethodName := ⟨"java/lang/Math", "min", "(JJ)J"⟩
def Q_rm_min (Z : State) (p1 : Int64) (p2 : Int64) (h0 : Heap) (n0 : Nat) (vv : Option Value) (h : Heap) (LL : List Loc) : Prop := ∃ v : Int64, vv = some (.long v) ∧ Fr n0 LL ∧ h = h0
set_option maxRecDepth 65536 in
set_option maxHeartbeats 40000000 in
theorem rm_min (l : Launch) (Z : State) (a0 : Array Value) (hw : ∀ d ∈ tables_1, d.before a0 Z = true) (ws : List Jvm.Cond) (p1 : Int64) (p2 : Int64) (h0 : Heap) (n0 : Nat) (Z0 : n0 ≤ h0.size) :
    own_MF l ym_1 jdk_29_method_70_code 4 (some .long) ⟨0, 0, 0, 0⟩ ws Z #[(.long p1), (.long p2)] h0 (Q_rm_min Z p1 p2 h0 n0) := by
  refine own_begin (Jvm.Free.JP.mathPlain rfl (by decide +kernel)) (fun m => ef_1 m p1 p2) ?_
  intro p e s m below meth c s₁ hret hx hby hml hown hnm hlk X0 e0 hh hZ
  have N0 := Fr.nil n0
  refine og s₁ (mkF m 1 #[.val (.long p1), .second, .val (.long p2), .second] [(.long p1)]) (fun t_ k_ => XS.lloadN X0.here hx rfl (hb hby d_jdk_29_70_0) rfl k_) ?_
  refine og s₁ (mkF m 2 #[.val (.long p1), .second, .val (.long p2), .second] [(.long p2), (.long p1)]) (fun t_ k_ => XS.lloadN X0.here hx rfl (hb hby d_jdk_29_70_1) rfl k_) ?_
  refine og s₁ (mkF m 3 #[.val (.long p1), .second, .val (.long p2), .second] [(.int (lcmpW p1 p2))]) (fun t_ k_ => XS.lcmp X0.here hx rfl (hb hby d_jdk_29_70_2) rfl k_) ?_
  by_cases hq1_ : p2 < p1
  · skip
    refine og s₁ (mkF m 10 #[.val (.long p1), .second, .val (.long p2), .second] []) (fun t_ k_ => XS.ifYes X0.here hx rfl (pc0 := 3) (pc' := 10) rfl (hb hby d_jdk_29_70_3) rfl ((if0 _ _).trans (tlt ((lw_gt _ _).mpr hq1_)).2.2.1) (by decide) (by decide) k_) ?_
    refine og s₁ (mkF m 11 #[.val (.long p1), .second, .val (.long p2), .second] [(.long p2)]) (fun t_ k_ => XS.lloadN X0.here hx rfl (hb hby d_jdk_29_70_10) rfl k_) ?_
    exact own_out X0 (v := some (.long p2)) (fun h => by rw [hret] at h; cases h) hlk (fun fs hr => own_retJ X0 hx hret (hb hby d_jdk_29_70_11) hr) (Q := Q_rm_min Z p1 p2 h0 n0) (by rw [e0]; exact ⟨p2, rfl, N0, rfl⟩) (by decide) (by decide)
  · skip
    refine og s₁ (mkF m 6 #[.val (.long p1), .second, .val (.long p2), .second] []) (fun t_ k_ => XS.ifNo X0.here hx rfl (hb hby d_jdk_29_70_3) rfl ((if0 _ _).trans (flt (fun z => hq1_ ((lw_gt _ _).mp z))).2.2.1) k_) ?_
    refine og s₁ (mkF m 7 #[.val (.long p1), .second, .val (.long p2), .second] [(.long p1)]) (fun t_ k_ => XS.lloadN X0.here hx rfl (hb hby d_jdk_29_70_6) rfl k_) ?_
    refine og s₁ (mkF m 11 #[.val (.long p1), .second, .val (.long p2), .second] [(.long p1)]) (fun t_ k_ => XS.goto X0.here hx rfl (pc0 := 7) (pc' := 11) rfl (hb hby d_jdk_29_70_7) (by decide) (by decide) k_) ?_
    exact own_out X0 (v := some (.long p1)) (fun h => by rw [hret] at h; cases h) hlk (fun fs hr => own_retJ X0 hx hret (hb hby d_jdk_29_70_11) hr) (Q := Q_rm_min Z p1 p2 h0 n0) (by rw [e0]; exact ⟨p1, rfl, N0, rfl⟩) (by decide) (by decide)
theorem d_jdk_29_66_0 : decode jdk_29_method_66_code 0 = .ok (.lload_n 0, 1) := by decide +kernel
theorem d_jdk_29_66_1 : decode jdk_29_method_66_code 1 = .ok (.lload_n 2, 1) := by decide +kernel
theorem d_jdk_29_66_2 : decode jdk_29_method_66_code 2 = .ok (.lcmp, 1) := by decide +kernel
theorem d_jdk_29_66_3 : decode jdk_29_method_66_code 3 = .ok (.ifCond .lt 7, 3) := by decide +kernel
theorem d_jdk_29_66_10 : decode jdk_29_method_66_code 10 = .ok (.lload_n 2, 1) := by decide +kernel
theorem d_jdk_29_66_11 : decode jdk_29_method_66_code 11 = .ok (.lreturn, 1) := by decide +kernel
theorem d_jdk_29_66_6 : decode jdk_29_method_66_code 6 = .ok (.lload_n 0, 1) := by decide +kernel
theorem d_jdk_29_66_7 : decode jdk_29_method_66_code 7 = .ok (.goto 4, 3) := by decide +kernel
theorem ef_2 (m : MethodId) (p1 : Int64) (p2 : Int64) : entryFrame m #[(.long p1), (.long p2)] 4 = mkF m 0 #[.val (.long p1), .second, .val (.long p2), .second] [] := by first | (simp [entryFrame, mkF, argsToLocals, Value.category]; done) | rfl
abbrev ym_2 : MethodName := ⟨"java/lang/Math", "max", "(JJ)J"⟩
def Q_rm_max (Z : State) (p1 : Int64) (p2 : Int64) (h0 : Heap) (n0 : Nat) (vv : Option Value) (h : Heap) (LL : List Loc) : Prop := ∃ v : Int64, vv = some (.long v) ∧ Fr n0 LL ∧ h = h0
set_option maxRecDepth 65536 in
set_option maxHeartbeats 40000000 in
theorem rm_max (l : Launch) (Z : State) (a0 : Array Value) (hw : ∀ d ∈ tables_1, d.before a0 Z = true) (ws : List Jvm.Cond) (p1 : Int64) (p2 : Int64) (h0 : Heap) (n0 : Nat) (Z0 : n0 ≤ h0.size) :
    own_MF l ym_2 jdk_29_method_66_code 4 (some .long) ⟨0, 0, 0, 0⟩ ws Z #[(.long p1), (.long p2)] h0 (Q_rm_max Z p1 p2 h0 n0) := by
  refine own_begin (Jvm.Free.JP.mathPlain rfl (by decide +kernel)) (fun m => ef_2 m p1 p2) ?_
  intro p e s m below meth c s₁ hret hx hby hml hown hnm hlk X0 e0 hh hZ
  have N0 := Fr.nil n0
  refine og s₁ (mkF m 1 #[.val (.long p1), .second, .val (.long p2), .second] [(.long p1)]) (fun t_ k_ => XS.lloadN X0.here hx rfl (hb hby d_jdk_29_66_0) rfl k_) ?_
  refine og s₁ (mkF m 2 #[.val (.long p1), .second, .val (.long p2), .second] [(.long p2), (.long p1)]) (fun t_ k_ => XS.lloadN X0.here hx rfl (hb hby d_jdk_29_66_1) rfl k_) ?_
  refine og s₁ (mkF m 3 #[.val (.long p1), .second, .val (.long p2), .second] [(.int (lcmpW p1 p2))]) (fun t_ k_ => XS.lcmp X0.here hx rfl (hb hby d_jdk_29_66_2) rfl k_) ?_
  by_cases hq1_ : p1 < p2
  · skip
    refine og s₁ (mkF m 10 #[.val (.long p1), .second, .val (.long p2), .second] []) (fun t_ k_ => XS.ifYes X0.here hx rfl (pc0 := 3) (pc' := 10) rfl (hb hby d_jdk_29_66_3) rfl ((if0 _ _).trans (tlt ((lw_lt _ _).mpr hq1_)).1) (by decide) (by decide) k_) ?_
    refine og s₁ (mkF m 11 #[.val (.long p1), .second, .val (.long p2), .second] [(.long p2)]) (fun t_ k_ => XS.lloadN X0.here hx rfl (hb hby d_jdk_29_66_10) rfl k_) ?_
    exact own_out X0 (v := some (.long p2)) (fun h => by rw [hret] at h; cases h) hlk (fun fs hr => own_retJ X0 hx hret (hb hby d_jdk_29_66_11) hr) (Q := Q_rm_max Z p1 p2 h0 n0) (by rw [e0]; exact ⟨p2, rfl, N0, rfl⟩) (by decide) (by decide)
  · skip
    refine og s₁ (mkF m 6 #[.val (.long p1), .second, .val (.long p2), .second] []) (fun t_ k_ => XS.ifNo X0.here hx rfl (hb hby d_jdk_29_66_3) rfl ((if0 _ _).trans (flt (fun z => hq1_ ((lw_lt _ _).mp z))).1) k_) ?_
    refine og s₁ (mkF m 7 #[.val (.long p1), .second, .val (.long p2), .second] [(.long p1)]) (fun t_ k_ => XS.lloadN X0.here hx rfl (hb hby d_jdk_29_66_6) rfl k_) ?_
    refine og s₁ (mkF m 11 #[.val (.long p1), .second, .val (.long p2), .second] [(.long p1)]) (fun t_ k_ => XS.goto X0.here hx rfl (pc0 := 7) (pc' := 11) rfl (hb hby d_jdk_29_66_7) (by decide) (by decide) k_) ?_
    exact own_out X0 (v := some (.long p1)) (fun h => by rw [hret] at h; cases h) hlk (fun fs hr => own_retJ X0 hx hret (hb hby d_jdk_29_66_11) hr) (Q := Q_rm_max Z p1 p2 h0 n0) (by rw [e0]; exact ⟨p1, rfl, N0, rfl⟩) (by decide) (by decide)
theorem d_prog_59_1_0 : decode prog_59_method_1_code 0 = .ok (.aload_n 0, 1) := by decide +kernel
theorem d_prog_59_1_1 : decode prog_59_method_1_code 1 = .ok (.invokespecial 1, 3) := by decide +kernel
theorem d_prog_59_1_4 : decode prog_59_method_1_code 4 = .ok (.return_, 1) := by decide +kernel
theorem pn_1 : plainName "com/example/driftline/driftline/storage/Extremes" = true := by first | (simp [plainName, overriddenIn]; done) | decide +kernel
theorem ef_3 (m : MethodId) (a : Nat) : entryFrame m #[(.ref a)] 1 = mkF m 0 #[rv a] [] := by first | (simp [entryFrame, mkF, argsToLocals, Value.category]; done) | rfl
abbrev ym_3 : MethodName := ⟨"com/example/driftline/driftline/storage/Extremes", "<init>", "()V"⟩
def Q_rm_init (Z : State) (a : Nat) (h0 : Heap) (n0 : Nat) (vv : Option Value) (h : Heap) (LL : List Loc) : Prop := vv = none ∧ Fr n0 LL ∧ h = h0
set_option maxRecDepth 65536 in
set_option maxHeartbeats 40000000 in
theorem rm_init (l : Launch) (Z : State) (a0 : Array Value) (hw : ∀ d ∈ tables_1, d.before a0 Z = true) (ws : List Jvm.Cond) (a : Nat) (h0 : Heap) (n0 : Nat) (Z0 : n0 ≤ h0.size) :
    own_MF l ym_3 prog_59_method_1_code 1 none ⟨1, 0, 0, 12⟩ ws Z #[(.ref a)] h0 (Q_rm_init Z a h0 n0) := by
  refine own_begin (plainFor_of_name pn_1) (fun m => ef_3 m a) ?_
  intro p e s m below meth c s₁ hret hx hby hml hown hnm hlk X0 e0 hh hZ
  have N0 := Fr.nil n0
  refine og s₁ (mkF m 1 #[rv a] [(.ref a)]) (fun t_ k_ => XS.aloadN X0.here hx rfl (hb hby d_prog_59_1_0) rfl rfl k_) ?_
  obtain ⟨T1, X1, e1, st1⟩ := initO X0 hx hZ hown (own_w hw 19 rfl) (own_w hw 20 rfl) (own_w hw 21 rfl) e0 (g := (mkF m 1 #[rv a] [(.ref a)])) rfl (by rw [hml]; rfl) rfl (hb hby d_prog_59_1_1) (by decide) (W := 0) (by show 2 * 0 + _ ≤ _; exact Nat.le_of_eq rfl) (by decide)
  refine og T1 (mkF m 4 #[rv a] []) (fun t_ k_ => st1 _ k_) ?_
  exact own_out X1 (v := none) (fun _ => rfl) hlk (fun fs hr => X1.returnOut hx hret (hb hby d_prog_59_1_4) hr) (Q := Q_rm_init Z a h0 n0) (by rw [e1]; exact ⟨rfl, N0, rfl⟩) (by decide) (by decide)
theorem d_method_4_0 : decode method_4_code 0 = .ok (.aload_n 0, 1) := by decide +kernel
theorem d_method_4_1 : decode method_4_code 1 = .ok (.iconst 0, 1) := by decide +kernel
theorem d_method_4_2 : decode method_4_code 2 = .ok (.daload, 1) := by decide +kernel
theorem d_method_4_3 : decode method_4_code 3 = .ok (.aload_n 0, 1) := by decide +kernel
theorem d_method_4_4 : decode method_4_code 4 = .ok (.iconst 1, 1) := by decide +kernel
theorem d_method_4_5 : decode method_4_code 5 = .ok (.daload, 1) := by decide +kernel
theorem d_method_4_6 : decode method_4_code 6 = .ok (.dcmp .g, 1) := by decide +kernel
theorem d_method_4_7 : decode method_4_code 7 = .ok (.ifCond .gt 25, 3) := by decide +kernel
theorem d_method_4_32 : decode method_4_code 32 = .ok (.aload_n 0, 1) := by decide +kernel
theorem d_method_4_33 : decode method_4_code 33 = .ok (.iconst 1, 1) := by decide +kernel
theorem d_method_4_34 : decode method_4_code 34 = .ok (.daload, 1) := by decide +kernel
theorem d_method_4_35 : decode method_4_code 35 = .ok (.aload_n 0, 1) := by decide +kernel
theorem d_method_4_36 : decode method_4_code 36 = .ok (.iconst 0, 1) := by decide +kernel
theorem d_method_4_37 : decode method_4_code 37 = .ok (.daload, 1) := by decide +kernel
theorem d_method_4_38 : decode method_4_code 38 = .ok (.dcmp .g, 1) := by decide +kernel
theorem d_method_4_39 : decode method_4_code 39 = .ok (.ifCond .ge 25, 3) := by decide +kernel
theorem d_method_4_42 : decode method_4_code 42 = .ok (.aload_n 0, 1) := by decide +kernel
theorem d_method_4_43 : decode method_4_code 43 = .ok (.iconst 1, 1) := by decide +kernel
theorem d_method_4_44 : decode method_4_code 44 = .ok (.daload, 1) := by decide +kernel
theorem d_method_4_45 : decode method_4_code 45 = .ok (.aload_n 0, 1) := by decide +kernel
theorem d_method_4_46 : decode method_4_code 46 = .ok (.iconst 2, 1) := by decide +kernel
theorem d_method_4_47 : decode method_4_code 47 = .ok (.daload, 1) := by decide +kernel
theorem d_method_4_48 : decode method_4_code 48 = .ok (.dcmp .g, 1) := by decide +kernel
theorem d_method_4_49 : decode method_4_code 49 = .ok (.ifCond .gt 15, 3) := by decide +kernel
theorem d_method_4_64 : decode method_4_code 64 = .ok (.aload_n 0, 1) := by decide +kernel
theorem d_method_4_65 : decode method_4_code 65 = .ok (.iconst 2, 1) := by decide +kernel
theorem d_method_4_66 : decode method_4_code 66 = .ok (.daload, 1) := by decide +kernel
theorem d_method_4_67 : decode method_4_code 67 = .ok (.aload_n 0, 1) := by decide +kernel
theorem d_method_4_68 : decode method_4_code 68 = .ok (.iconst 0, 1) := by decide +kernel
theorem d_method_4_69 : decode method_4_code 69 = .ok (.daload, 1) := by decide +kernel
theorem d_method_4_70 : decode method_4_code 70 = .ok (.dcmp .g, 1) := by decide +kernel
theorem d_method_4_71 : decode method_4_code 71 = .ok (.ifCond .ge 25, 3) := by decide +kernel
theorem d_method_4_74 : decode method_4_code 74 = .ok (.aload_n 0, 1) := by decide +kernel
theorem d_method_4_75 : decode method_4_code 75 = .ok (.iconst 2, 1) := by decide +kernel
theorem d_method_4_76 : decode method_4_code 76 = .ok (.daload, 1) := by decide +kernel
theorem d_method_4_77 : decode method_4_code 77 = .ok (.aload_n 0, 1) := by decide +kernel
theorem d_method_4_78 : decode method_4_code 78 = .ok (.iconst 1, 1) := by decide +kernel
theorem d_method_4_79 : decode method_4_code 79 = .ok (.daload, 1) := by decide +kernel
theorem d_method_4_80 : decode method_4_code 80 = .ok (.dcmp .g, 1) := by decide +kernel
theorem d_method_4_81 : decode method_4_code 81 = .ok (.ifCond .ge 15, 3) := by decide +kernel
theorem d_method_4_84 : decode method_4_code 84 = .ok (.aload_n 0, 1) := by decide +kernel
theorem d_method_4_85 : decode method_4_code 85 = .ok (.iconst 2, 1) := by decide +kernel
theorem d_method_4_86 : decode method_4_code 86 = .ok (.daload, 1) := by decide +kernel
theorem d_method_4_87 : decode method_4_code 87 = .ok (.aload_n 0, 1) := by decide +kernel
theorem d_method_4_88 : decode method_4_code 88 = .ok (.iconst 3, 1) := by decide +kernel
theorem d_method_4_89 : decode method_4_code 89 = .ok (.daload, 1) := by decide +kernel
theorem d_method_4_90 : decode method_4_code 90 = .ok (.dcmp .g, 1) := by decide +kernel
theorem d_method_4_91 : decode method_4_code 91 = .ok (.ifCond .gt 5, 3) := by decide +kernel
theorem d_method_4_96 : decode method_4_code 96 = .ok (.iconst 3, 1) := by decide +kernel
theorem d_method_4_97 : decode method_4_code 97 = .ok (.ireturn, 1) := by decide +kernel
theorem d_method_4_94 : decode method_4_code 94 = .ok (.iconst 2, 1) := by decide +kernel
theorem d_method_4_95 : decode method_4_code 95 = .ok (.ireturn, 1) := by decide +kernel
theorem d_method_4_52 : decode method_4_code 52 = .ok (.aload_n 0, 1) := by decide +kernel
theorem d_method_4_53 : decode method_4_code 53 = .ok (.iconst 1, 1) := by decide +kernel
theorem d_method_4_54 : decode method_4_code 54 = .ok (.daload, 1) := by decide +kernel
theorem d_method_4_55 : decode method_4_code 55 = .ok (.aload_n 0, 1) := by decide +kernel
theorem d_method_4_56 : decode method_4_code 56 = .ok (.iconst 3, 1) := by decide +kernel
theorem d_method_4_57 : decode method_4_code 57 = .ok (.daload, 1) := by decide +kernel
theorem d_method_4_58 : decode method_4_code 58 = .ok (.dcmp .g, 1) := by decide +kernel
theorem d_method_4_59 : decode method_4_code 59 = .ok (.ifCond .gt 5, 3) := by decide +kernel
theorem d_method_4_62 : decode method_4_code 62 = .ok (.iconst 1, 1) := by decide +kernel
theorem d_method_4_63 : decode method_4_code 63 = .ok (.ireturn, 1) := by decide +kernel
theorem d_method_4_10 : decode method_4_code 10 = .ok (.aload_n 0, 1) := by decide +kernel
theorem d_method_4_11 : decode method_4_code 11 = .ok (.iconst 0, 1) := by decide +kernel
theorem d_method_4_12 : decode method_4_code 12 = .ok (.daload, 1) := by decide +kernel
theorem d_method_4_13 : decode method_4_code 13 = .ok (.aload_n 0, 1) := by decide +kernel
theorem d_method_4_14 : decode method_4_code 14 = .ok (.iconst 2, 1) := by decide +kernel
theorem d_method_4_15 : decode method_4_code 15 = .ok (.daload, 1) := by decide +kernel
theorem d_method_4_16 : decode method_4_code 16 = .ok (.dcmp .g, 1) := by decide +kernel
theorem d_method_4_17 : decode method_4_code 17 = .ok (.ifCond .gt 15, 3) := by decide +kernel
theorem d_method_4_20 : decode method_4_code 20 = .ok (.aload_n 0, 1) := by decide +kernel
theorem d_method_4_21 : decode method_4_code 21 = .ok (.iconst 0, 1) := by decide +kernel
theorem d_method_4_22 : decode method_4_code 22 = .ok (.daload, 1) := by decide +kernel
theorem d_method_4_23 : decode method_4_code 23 = .ok (.aload_n 0, 1) := by decide +kernel
theorem d_method_4_24 : decode method_4_code 24 = .ok (.iconst 3, 1) := by decide +kernel
theorem d_method_4_25 : decode method_4_code 25 = .ok (.daload, 1) := by decide +kernel
theorem d_method_4_26 : decode method_4_code 26 = .ok (.dcmp .g, 1) := by decide +kernel
theorem d_method_4_27 : decode method_4_code 27 = .ok (.ifCond .gt 5, 3) := by decide +kernel
theorem d_method_4_30 : decode method_4_code 30 = .ok (.iconst 0, 1) := by decide +kernel
theorem d_method_4_31 : decode method_4_code 31 = .ok (.ireturn, 1) := by decide +kernel
theorem ef_4 (m : MethodId) (u : Nat) : entryFrame m #[(.ref u)] 1 = mkF m 0 #[rv u] [] := by first | (simp [entryFrame, mkF, argsToLocals, Value.category]; done) | rfl
abbrev ym_4 : MethodName := ⟨"com/example/driftline/driftline/storage/ExtremesWeighPinLaw", "bottomAt", "([D)I"⟩
def Q_rm_bottomAt (Z : State) (u : Nat) (d0 : UInt64) (d1 : UInt64) (d2 : UInt64) (d3 : UInt64) (r0 : Int) (r1 : Int) (r2 : Int) (r3 : Int) (k_u : ClassId) (h0 : Heap) (n0 : Nat) (vv : Option Value) (h : Heap) (LL : List Loc) : Prop := vv = some (.int (own_bot r0 r1 r2 r3)) ∧ Fr n0 LL ∧ h = h0
set_option maxRecDepth 65536 in
set_option maxHeartbeats 40000000 in
theorem rm_bottomAt (l : Launch) (Z : State) (a0 : Array Value) (hw : ∀ d ∈ tables_1, d.before a0 Z = true) (ws : List Jvm.Cond) (u : Nat) (d0 : UInt64) (d1 : UInt64) (d2 : UInt64) (d3 : UInt64) (r0 : Int) (r1 : Int) (r2 : Int) (r3 : Int) (k_u : ClassId) (h0 : Heap) (n0 : Nat) (Z0 : n0 ≤ h0.size) (D_d0 : own_D d0 r0) (D_d1 : own_D d1 r1) (D_d2 : own_D d2 r2) (D_d3 : own_D d3 r3) (V_u : Arv Z h0 u k_u .double (4 : Int32) [(.double d0), (.double d1), (.double d2), (.double d3)] (.double 0)) :
    own_MF l ym_4 method_4_code 1 (some .int) ⟨0, 0, 0, 0⟩ ws Z #[(.ref u)] h0 (Q_rm_bottomAt Z u d0 d1 d2 d3 r0 r1 r2 r3 k_u h0 n0) := by
  refine own_begin (plainFor_of_name pn_0) (fun m => ef_4 m u) ?_
  intro p e s m below meth c s₁ hret hx hby hml hown hnm hlk X0 e0 hh hZ
  have N0 := Fr.nil n0
  have lt_V_u := own_ltN V_u.lt
  refine og s₁ (mkF m 1 #[rv u] [(.ref u)]) (fun t_ k_ => XS.aloadN X0.here hx rfl (hb hby d_method_4_0) rfl rfl k_) ?_
  refine og s₁ (mkF m 2 #[rv u] [(.int 0), (.ref u)]) (fun t_ k_ => XS.iconst X0.here hx rfl (hb hby d_method_4_1) k_) ?_
  obtain ⟨cl1, Ar1, -, S1, Nn1, H1, -⟩ := id V_u
  have hin1 : ¬ ((0 : Int32) < 0 ∨ cl1.slots.size ≤ ((0 : Int32)).toNatClampNeg) := inb_of S1 ⟨by decide, by decide⟩
  refine og s₁ (mkF m 3 #[rv u] [(.double d0)]) (fun t_ k_ => X0.daload hx (j := (0 : Int32)) (v := (.double d0)) (by rw [e0]; exact Ar1.1) (State.isArrayOf_alike hZ.alike Ar1.2.1) Ar1.2.2 hin1 (H1.at hin1 rfl) (g := (mkF m 2 #[rv u] [(.int 0), (.ref u)])) rfl rfl (hb hby d_method_4_2) _ k_) ?_
  refine og s₁ (mkF m 4 #[rv u] [(.ref u), (.double d0)]) (fun t_ k_ => XS.aloadN X0.here hx rfl (hb hby d_method_4_3) rfl rfl k_) ?_
  refine og s₁ (mkF m 5 #[rv u] [(.int 1), (.ref u), (.double d0)]) (fun t_ k_ => XS.iconst X0.here hx rfl (hb hby d_method_4_4) k_) ?_
  obtain ⟨cl2, Ar2, -, S2, Nn2, H2, -⟩ := id V_u
  have hin2 : ¬ ((1 : Int32) < 0 ∨ cl2.slots.size ≤ ((1 : Int32)).toNatClampNeg) := inb_of S2 ⟨by decide, by decide⟩
  refine og s₁ (mkF m 6 #[rv u] [(.double d1), (.double d0)]) (fun t_ k_ => X0.daload hx (j := (1 : Int32)) (v := (.double d1)) (by rw [e0]; exact Ar2.1) (State.isArrayOf_alike hZ.alike Ar2.2.1) Ar2.2.2 hin2 (H2.at hin2 rfl) (g := (mkF m 5 #[rv u] [(.int 1), (.ref u), (.double d0)])) rfl rfl (hb hby d_method_4_5) _ k_) ?_
  refine og s₁ (mkF m 7 #[rv u] [(.int (own_cmp r0 r1))]) (fun t_ k_ => XS.dcmpS X0.here hx rfl (hb hby d_method_4_6) rfl (own_dc _ D_d0 D_d1) k_) ?_
  by_cases hq3_ : r1 < r0
  · skip
    refine og s₁ (mkF m 32 #[rv u] []) (fun t_ k_ => XS.ifYes X0.here hx rfl (pc0 := 7) (pc' := 32) rfl (hb hby d_method_4_7) rfl ((if0 _ _).trans (tlt ((own_cgt _ _).mpr hq3_)).2.2.1) (by decide) (by decide) k_) ?_
    refine og s₁ (mkF m 33 #[rv u] [(.ref u)]) (fun t_ k_ => XS.aloadN X0.here hx rfl (hb hby d_method_4_32) rfl rfl k_) ?_
    refine og s₁ (mkF m 34 #[rv u] [(.int 1), (.ref u)]) (fun t_ k_ => XS.iconst X0.here hx rfl (hb hby d_method_4_33) k_) ?_
    obtain ⟨cl4, Ar4, -, S4, Nn4, H4, -⟩ := id V_u
    have hin4 : ¬ ((1 : Int32) < 0 ∨ cl4.slots.size ≤ ((1 : Int32)).toNatClampNeg) := inb_of S4 ⟨by decide, by decide⟩
    refine og s₁ (mkF m 35 #[rv u] [(.double d1)]) (fun t_ k_ => X0.daload hx (j := (1 : Int32)) (v := (.double d1)) (by rw [e0]; exact Ar4.1) (State.isArrayOf_alike hZ.alike Ar4.2.1) Ar4.2.2 hin4 (H4.at hin4 rfl) (g := (mkF m 34 #[rv u] [(.int 1), (.ref u)])) rfl rfl (hb hby d_method_4_34) _ k_) ?_
    refine og s₁ (mkF m 36 #[rv u] [(.ref u), (.double d1)]) (fun t_ k_ => XS.aloadN X0.here hx rfl (hb hby d_method_4_35) rfl rfl k_) ?_
    refine og s₁ (mkF m 37 #[rv u] [(.int 0), (.ref u), (.double d1)]) (fun t_ k_ => XS.iconst X0.here hx rfl (hb hby d_method_4_36) k_) ?_
    obtain ⟨cl5, Ar5, -, S5, Nn5, H5, -⟩ := id V_u
    have hin5 : ¬ ((0 : Int32) < 0 ∨ cl5.slots.size ≤ ((0 : Int32)).toNatClampNeg) := inb_of S5 ⟨by decide, by decide⟩
    refine og s₁ (mkF m 38 #[rv u] [(.double d0), (.double d1)]) (fun t_ k_ => X0.daload hx (j := (0 : Int32)) (v := (.double d0)) (by rw [e0]; exact Ar5.1) (State.isArrayOf_alike hZ.alike Ar5.2.1) Ar5.2.2 hin5 (H5.at hin5 rfl) (g := (mkF m 37 #[rv u] [(.int 0), (.ref u), (.double d1)])) rfl rfl (hb hby d_method_4_37) _ k_) ?_
    refine og s₁ (mkF m 39 #[rv u] [(.int (own_cmp r1 r0))]) (fun t_ k_ => XS.dcmpS X0.here hx rfl (hb hby d_method_4_38) rfl (own_dc _ D_d1 D_d0) k_) ?_
    refine og s₁ (mkF m 42 #[rv u] []) (fun t_ k_ => XS.ifNo X0.here hx rfl (hb hby d_method_4_39) rfl ((if0 _ _).trans (tlt ((own_clt _ _).mpr hq3_)).2.1) k_) ?_
    refine og s₁ (mkF m 43 #[rv u] [(.ref u)]) (fun t_ k_ => XS.aloadN X0.here hx rfl (hb hby d_method_4_42) rfl rfl k_) ?_
    refine og s₁ (mkF m 44 #[rv u] [(.int 1), (.ref u)]) (fun t_ k_ => XS.iconst X0.here hx rfl (hb hby d_method_4_43) k_) ?_
    obtain ⟨cl6, Ar6, -, S6, Nn6, H6, -⟩ := id V_u
    have hin6 : ¬ ((1 : Int32) < 0 ∨ cl6.slots.size ≤ ((1 : Int32)).toNatClampNeg) := inb_of S6 ⟨by decide, by decide⟩
    refine og s₁ (mkF m 45 #[rv u] [(.double d1)]) (fun t_ k_ => X0.daload hx (j := (1 : Int32)) (v := (.double d1)) (by rw [e0]; exact Ar6.1) (State.isArrayOf_alike hZ.alike Ar6.2.1) Ar6.2.2 hin6 (H6.at hin6 rfl) (g := (mkF m 44 #[rv u] [(.int 1), (.ref u)])) rfl rfl (hb hby d_method_4_44) _ k_) ?_
    refine og s₁ (mkF m 46 #[rv u] [(.ref u), (.double d1)]) (fun t_ k_ => XS.aloadN X0.here hx rfl (hb hby d_method_4_45) rfl rfl k_) ?_
    refine og s₁ (mkF m 47 #[rv u] [(.int 2), (.ref u), (.double d1)]) (fun t_ k_ => XS.iconst X0.here hx rfl (hb hby d_method_4_46) k_) ?_
    obtain ⟨cl7, Ar7, -, S7, Nn7, H7, -⟩ := id V_u
    have hin7 : ¬ ((2 : Int32) < 0 ∨ cl7.slots.size ≤ ((2 : Int32)).toNatClampNeg) := inb_of S7 ⟨by decide, by decide⟩
    refine og s₁ (mkF m 48 #[rv u] [(.double d2), (.double d1)]) (fun t_ k_ => X0.daload hx (j := (2 : Int32)) (v := (.double d2)) (by rw [e0]; exact Ar7.1) (State.isArrayOf_alike hZ.alike Ar7.2.1) Ar7.2.2 hin7 (H7.at hin7 rfl) (g := (mkF m 47 #[rv u] [(.int 2), (.ref u), (.double d1)])) rfl rfl (hb hby d_method_4_47) _ k_) ?_
    refine og s₁ (mkF m 49 #[rv u] [(.int (own_cmp r1 r2))]) (fun t_ k_ => XS.dcmpS X0.here hx rfl (hb hby d_method_4_48) rfl (own_dc _ D_d1 D_d2) k_) ?_
    by_cases hq8_ : r2 < r1
    · skip
      refine og s₁ (mkF m 64 #[rv u] []) (fun t_ k_ => XS.ifYes X0.here hx rfl (pc0 := 49) (pc' := 64) rfl (hb hby d_method_4_49) rfl ((if0 _ _).trans (tlt ((own_cgt _ _).mpr hq8_)).2.2.1) (by decide) (by decide) k_) ?_
      refine og s₁ (mkF m 65 #[rv u] [(.ref u)]) (fun t_ k_ => XS.aloadN X0.here hx rfl (hb hby d_method_4_64) rfl rfl k_) ?_
      refine og s₁ (mkF m 66 #[rv u] [(.int 2), (.ref u)]) (fun t_ k_ => XS.iconst X0.here hx rfl (hb hby d_method_4_65) k_) ?_
      obtain ⟨cl9, Ar9, -, S9, Nn9, H9, -⟩ := id V_u
      have hin9 : ¬ ((2 : Int32) < 0 ∨ cl9.slots.size ≤ ((2 : Int32)).toNatClampNeg) := inb_of S9 ⟨by decide, by decide⟩
      refine og s₁ (mkF m 67 #[rv u] [(.double d2)]) (fun t_ k_ => X0.daload hx (j := (2 : Int32)) (v := (.double d2)) (by rw [e0]; exact Ar9.1) (State.isArrayOf_alike hZ.alike Ar9.2.1) Ar9.2.2 hin9 (H9.at hin9 rfl) (g := (mkF m 66 #[rv u] [(.int 2), (.ref u)])) rfl rfl (hb hby d_method_4_66) _ k_) ?_
      refine og s₁ (mkF m 68 #[rv u] [(.ref u), (.double d2)]) (fun t_ k_ => XS.aloadN X0.here hx rfl (hb hby d_method_4_67) rfl rfl k_) ?_
      refine og s₁ (mkF m 69 #[rv u] [(.int 0), (.ref u), (.double d2)]) (fun t_ k_ => XS.iconst X0.here hx rfl (hb hby d_method_4_68) k_) ?_
      obtain ⟨cl10, Ar10, -, S10, Nn10, H10, -⟩ := id V_u
      have hin10 : ¬ ((0 : Int32) < 0 ∨ cl10.slots.size ≤ ((0 : Int32)).toNatClampNeg) := inb_of S10 ⟨by decide, by decide⟩
      refine og s₁ (mkF m 70 #[rv u] [(.double d0), (.double d2)]) (fun t_ k_ => X0.daload hx (j := (0 : Int32)) (v := (.double d0)) (by rw [e0]; exact Ar10.1) (State.isArrayOf_alike hZ.alike Ar10.2.1) Ar10.2.2 hin10 (H10.at hin10 rfl) (g := (mkF m 69 #[rv u] [(.int 0), (.ref u), (.double d2)])) rfl rfl (hb hby d_method_4_69) _ k_) ?_
      refine og s₁ (mkF m 71 #[rv u] [(.int (own_cmp r2 r0))]) (fun t_ k_ => XS.dcmpS X0.here hx rfl (hb hby d_method_4_70) rfl (own_dc _ D_d2 D_d0) k_) ?_
      by_cases hq11_ : r2 < r0
      · skip
        refine og s₁ (mkF m 74 #[rv u] []) (fun t_ k_ => XS.ifNo X0.here hx rfl (hb hby d_method_4_71) rfl ((if0 _ _).trans (tlt ((own_clt _ _).mpr hq11_)).2.1) k_) ?_
        refine og s₁ (mkF m 75 #[rv u] [(.ref u)]) (fun t_ k_ => XS.aloadN X0.here hx rfl (hb hby d_method_4_74) rfl rfl k_) ?_
        refine og s₁ (mkF m 76 #[rv u] [(.int 2), (.ref u)]) (fun t_ k_ => XS.iconst X0.here hx rfl (hb hby d_method_4_75) k_) ?_
        obtain ⟨cl12, Ar12, -, S12, Nn12, H12, -⟩ := id V_u
        have hin12 : ¬ ((2 : Int32) < 0 ∨ cl12.slots.size ≤ ((2 : Int32)).toNatClampNeg) := inb_of S12 ⟨by decide, by decide⟩
        refine og s₁ (mkF m 77 #[rv u] [(.double d2)]) (fun t_ k_ => X0.daload hx (j := (2 : Int32)) (v := (.double d2)) (by rw [e0]; exact Ar12.1) (State.isArrayOf_alike hZ.alike Ar12.2.1) Ar12.2.2 hin12 (H12.at hin12 rfl) (g := (mkF m 76 #[rv u] [(.int 2), (.ref u)])) rfl rfl (hb hby d_method_4_76) _ k_) ?_
        refine og s₁ (mkF m 78 #[rv u] [(.ref u), (.double d2)]) (fun t_ k_ => XS.aloadN X0.here hx rfl (hb hby d_method_4_77) rfl rfl k_) ?_
        refine og s₁ (mkF m 79 #[rv u] [(.int 1), (.ref u), (.double d2)]) (fun t_ k_ => XS.iconst X0.here hx rfl (hb hby d_method_4_78) k_) ?_
        obtain ⟨cl13, Ar13, -, S13, Nn13, H13, -⟩ := id V_u
        have hin13 : ¬ ((1 : Int32) < 0 ∨ cl13.slots.size ≤ ((1 : Int32)).toNatClampNeg) := inb_of S13 ⟨by decide, by decide⟩
        refine og s₁ (mkF m 80 #[rv u] [(.double d1), (.double d2)]) (fun t_ k_ => X0.daload hx (j := (1 : Int32)) (v := (.double d1)) (by rw [e0]; exact Ar13.1) (State.isArrayOf_alike hZ.alike Ar13.2.1) Ar13.2.2 hin13 (H13.at hin13 rfl) (g := (mkF m 79 #[rv u] [(.int 1), (.ref u), (.double d2)])) rfl rfl (hb hby d_method_4_79) _ k_) ?_
        refine og s₁ (mkF m 81 #[rv u] [(.int (own_cmp r2 r1))]) (fun t_ k_ => XS.dcmpS X0.here hx rfl (hb hby d_method_4_80) rfl (own_dc _ D_d2 D_d1) k_) ?_
        refine og s₁ (mkF m 84 #[rv u] []) (fun t_ k_ => XS.ifNo X0.here hx rfl (hb hby d_method_4_81) rfl ((if0 _ _).trans (tlt ((own_clt _ _).mpr hq8_)).2.1) k_) ?_
        refine og s₁ (mkF m 85 #[rv u] [(.ref u)]) (fun t_ k_ => XS.aloadN X0.here hx rfl (hb hby d_method_4_84) rfl rfl k_) ?_
        refine og s₁ (mkF m 86 #[rv u] [(.int 2), (.ref u)]) (fun t_ k_ => XS.iconst X0.here hx rfl (hb hby d_method_4_85) k_) ?_
        obtain ⟨cl14, Ar14, -, S14, Nn14, H14, -⟩ := id V_u
        have hin14 : ¬ ((2 : Int32) < 0 ∨ cl14.slots.size ≤ ((2 : Int32)).toNatClampNeg) := inb_of S14 ⟨by decide, by decide⟩
        refine og s₁ (mkF m 87 #[rv u] [(.double d2)]) (fun t_ k_ => X0.daload hx (j := (2 : Int32)) (v := (.double d2)) (by rw [e0]; exact Ar14.1) (State.isArrayOf_alike hZ.alike Ar14.2.1) Ar14.2.2 hin14 (H14.at hin14 rfl) (g := (mkF m 86 #[rv u] [(.int 2), (.ref u)])) rfl rfl (hb hby d_method_4_86) _ k_) ?_
        refine og s₁ (mkF m 88 #[rv u] [(.ref u), (.double d2)]) (fun t_ k_ => XS.aloadN X0.here hx rfl (hb hby d_method_4_87) rfl rfl k_) ?_
        refine og s₁ (mkF m 89 #[rv u] [(.int 3), (.ref u), (.double d2)]) (fun t_ k_ => XS.iconst X0.here hx rfl (hb hby d_method_4_88) k_) ?_
        obtain ⟨cl15, Ar15, -, S15, Nn15, H15, -⟩ := id V_u
        have hin15 : ¬ ((3 : Int32) < 0 ∨ cl15.slots.size ≤ ((3 : Int32)).toNatClampNeg) := inb_of S15 ⟨by decide, by decide⟩
        refine og s₁ (mkF m 90 #[rv u] [(.double d3), (.double d2)]) (fun t_ k_ => X0.daload hx (j := (3 : Int32)) (v := (.double d3)) (by rw [e0]; exact Ar15.1) (State.isArrayOf_alike hZ.alike Ar15.2.1) Ar15.2.2 hin15 (H15.at hin15 rfl) (g := (mkF m 89 #[rv u] [(.int 3), (.ref u), (.double d2)])) rfl rfl (hb hby d_method_4_89) _ k_) ?_
        refine og s₁ (mkF m 91 #[rv u] [(.int (own_cmp r2 r3))]) (fun t_ k_ => XS.dcmpS X0.here hx rfl (hb hby d_method_4_90) rfl (own_dc _ D_d2 D_d3) k_) ?_
        by_cases hq16_ : r3 < r2
        · skip
          refine og s₁ (mkF m 96 #[rv u] []) (fun t_ k_ => XS.ifYes X0.here hx rfl (pc0 := 91) (pc' := 96) rfl (hb hby d_method_4_91) rfl ((if0 _ _).trans (tlt ((own_cgt _ _).mpr hq16_)).2.2.1) (by decide) (by decide) k_) ?_
          refine og s₁ (mkF m 97 #[rv u] [(.int 3)]) (fun t_ k_ => XS.iconst X0.here hx rfl (hb hby d_method_4_96) k_) ?_
          exact own_out X0 (v := some (.int 3)) (fun h => by rw [hret] at h; cases h) hlk (fun fs hr => retI X0 hx hret (hb hby d_method_4_97) hr) (Q := Q_rm_bottomAt Z u d0 d1 d2 d3 r0 r1 r2 r3 k_u h0 n0) (by rw [e0]; exact ⟨(congrArg (fun z => some (Value.int z)) (show own_bot r0 r1 r2 r3 = (3 : Int32) from by unfold own_bot; (repeat' split) <;> first | rfl | (exfalso; omega)).symm), N0, rfl⟩) (by decide) (by decide)
        · skip
          refine og s₁ (mkF m 94 #[rv u] []) (fun t_ k_ => XS.ifNo X0.here hx rfl (hb hby d_method_4_91) rfl ((if0 _ _).trans (flt (fun z => hq16_ ((own_cgt _ _).mp z))).2.2.1) k_) ?_
          refine og s₁ (mkF m 95 #[rv u] [(.int 2)]) (fun t_ k_ => XS.iconst X0.here hx rfl (hb hby d_method_4_94) k_) ?_
          exact own_out X0 (v := some (.int 2)) (fun h => by rw [hret] at h; cases h) hlk (fun fs hr => retI X0 hx hret (hb hby d_method_4_95) hr) (Q := Q_rm_bottomAt Z u d0 d1 d2 d3 r0 r1 r2 r3 k_u h0 n0) (by rw [e0]; exact ⟨(congrArg (fun z => some (Value.int z)) (show own_bot r0 r1 r2 r3 = (2 : Int32) from by unfold own_bot; (repeat' split) <;> first | rfl | (exfalso; omega)).symm), N0, rfl⟩) (by decide) (by decide)
      · skip
        refine og s₁ (mkF m 96 #[rv u] []) (fun t_ k_ => XS.ifYes X0.here hx rfl (pc0 := 71) (pc' := 96) rfl (hb hby d_method_4_71) rfl ((if0 _ _).trans (flt (fun z => hq11_ ((own_clt _ _).mp z))).2.1) (by decide) (by decide) k_) ?_
        refine og s₁ (mkF m 97 #[rv u] [(.int 3)]) (fun t_ k_ => XS.iconst X0.here hx rfl (hb hby d_method_4_96) k_) ?_
        exact own_out X0 (v := some (.int 3)) (fun h => by rw [hret] at h; cases h) hlk (fun fs hr => retI X0 hx hret (hb hby d_method_4_97) hr) (Q := Q_rm_bottomAt Z u d0 d1 d2 d3 r0 r1 r2 r3 k_u h0 n0) (by rw [e0]; exact ⟨(congrArg (fun z => some (Value.int z)) (show own_bot r0 r1 r2 r3 = (3 : Int32) from by unfold own_bot; (repeat' split) <;> first | rfl | (exfalso; omega)).symm), N0, rfl⟩) (by decide) (by decide)
    · skip
      refine og s₁ (mkF m 52 #[rv u] []) (fun t_ k_ => XS.ifNo X0.here hx rfl (hb hby d_method_4_49) rfl ((if0 _ _).trans (flt (fun z => hq8_ ((own_cgt _ _).mp z))).2.2.1) k_) ?_
      refine og s₁ (mkF m 53 #[rv u] [(.ref u)]) (fun t_ k_ => XS.aloadN X0.here hx rfl (hb hby d_method_4_52) rfl rfl k_) ?_
      refine og s₁ (mkF m 54 #[rv u] [(.int 1), (.ref u)]) (fun t_ k_ => XS.iconst X0.here hx rfl (hb hby d_method_4_53) k_) ?_
      obtain ⟨cl17, Ar17, -, S17, Nn17, H17, -⟩ := id V_u
      have hin17 : ¬ ((1 : Int32) < 0 ∨ cl17.slots.size ≤ ((1 : Int32)).toNatClampNeg) := inb_of S17 ⟨by decide, by decide⟩
      refine og s₁ (mkF m 55 #[rv u] [(.double d1)]) (fun t_ k_ => X0.daload hx (j := (1 : Int32)) (v := (.double d1)) (by rw [e0]; exact Ar17.1) (State.isArrayOf_alike hZ.alike Ar17.2.1) Ar17.2.2 hin17 (H17.at hin17 rfl) (g := (mkF m 54 #[rv u] [(.int 1), (.ref u)])) rfl rfl (hb hby d_method_4_54) _ k_) ?_
      refine og s₁ (mkF m 56 #[rv u] [(.ref u), (.double d1)]) (fun t_ k_ => XS.aloadN X0.here hx rfl (hb hby d_method_4_55) rfl rfl k_) ?_
      refine og s₁ (mkF m 57 #[rv u] [(.int 3), (.ref u), (.double d1)]) (fun t_ k_ => XS.iconst X0.here hx rfl (hb hby d_method_4_56) k_) ?_
      obtain ⟨cl18, Ar18, -, S18, Nn18, H18, -⟩ := id V_u
      have hin18 : ¬ ((3 : Int32) < 0 ∨ cl18.slots.size ≤ ((3 : Int32)).toNatClampNeg) := inb_of S18 ⟨by decide, by decide⟩
      refine og s₁ (mkF m 58 #[rv u] [(.double d3), (.double d1)]) (fun t_ k_ => X0.daload hx (j := (3 : Int32)) (v := (.double d3)) (by rw [e0]; exact Ar18.1) (State.isArrayOf_alike hZ.alike Ar18.2.1) Ar18.2.2 hin18 (H18.at hin18 rfl) (g := (mkF m 57 #[rv u] [(.int 3), (.ref u), (.double d1)])) rfl rfl (hb hby d_method_4_57) _ k_) ?_
      refine og s₁ (mkF m 59 #[rv u] [(.int (own_cmp r1 r3))]) (fun t_ k_ => XS.dcmpS X0.here hx rfl (hb hby d_method_4_58) rfl (own_dc _ D_d1 D_d3) k_) ?_
      by_cases hq19_ : r3 < r1
      · skip
        refine og s₁ (mkF m 64 #[rv u] []) (fun t_ k_ => XS.ifYes X0.here hx rfl (pc0 := 59) (pc' := 64) rfl (hb hby d_method_4_59) rfl ((if0 _ _).trans (tlt ((own_cgt _ _).mpr hq19_)).2.2.1) (by decide) (by decide) k_) ?_
        refine og s₁ (mkF m 65 #[rv u] [(.ref u)]) (fun t_ k_ => XS.aloadN X0.here hx rfl (hb hby d_method_4_64) rfl rfl k_) ?_
        refine og s₁ (mkF m 66 #[rv u] [(.int 2), (.ref u)]) (fun t_ k_ => XS.iconst X0.here hx rfl (hb hby d_method_4_65) k_) ?_
        obtain ⟨cl20, Ar20, -, S20, Nn20, H20, -⟩ := id V_u
        have hin20 : ¬ ((2 : Int32) < 0 ∨ cl20.slots.size ≤ ((2 : Int32)).toNatClampNeg) := inb_of S20 ⟨by decide, by decide⟩
        refine og s₁ (mkF m 67 #[rv u] [(.double d2)]) (fun t_ k_ => X0.daload hx (j := (2 : Int32)) (v := (.double d2)) (by rw [e0]; exact Ar20.1) (State.isArrayOf_alike hZ.alike Ar20.2.1) Ar20.2.2 hin20 (H20.at hin20 rfl) (g := (mkF m 66 #[rv u] [(.int 2), (.ref u)])) rfl rfl (hb hby d_method_4_66) _ k_) ?_
        refine og s₁ (mkF m 68 #[rv u] [(.ref u), (.double d2)]) (fun t_ k_ => XS.aloadN X0.here hx rfl (hb hby d_method_4_67) rfl rfl k_) ?_
        refine og s₁ (mkF m 69 #[rv u] [(.int 0), (.ref u), (.double d2)]) (fun t_ k_ => XS.iconst X0.here hx rfl (hb hby d_method_4_68) k_) ?_
        obtain ⟨cl21, Ar21, -, S21, Nn21, H21, -⟩ := id V_u
        have hin21 : ¬ ((0 : Int32) < 0 ∨ cl21.slots.size ≤ ((0 : Int32)).toNatClampNeg) := inb_of S21 ⟨by decide, by decide⟩
        refine og s₁ (mkF m 70 #[rv u] [(.double d0), (.double d2)]) (fun t_ k_ => X0.daload hx (j := (0 : Int32)) (v := (.double d0)) (by rw [e0]; exact Ar21.1) (State.isArrayOf_alike hZ.alike Ar21.2.1) Ar21.2.2 hin21 (H21.at hin21 rfl) (g := (mkF m 69 #[rv u] [(.int 0), (.ref u), (.double d2)])) rfl rfl (hb hby d_method_4_69) _ k_) ?_
        refine og s₁ (mkF m 71 #[rv u] [(.int (own_cmp r2 r0))]) (fun t_ k_ => XS.dcmpS X0.here hx rfl (hb hby d_method_4_70) rfl (own_dc _ D_d2 D_d0) k_) ?_
        by_cases hq22_ : r2 < r0
        · skip
          refine og s₁ (mkF m 74 #[rv u] []) (fun t_ k_ => XS.ifNo X0.here hx rfl (hb hby d_method_4_71) rfl ((if0 _ _).trans (tlt ((own_clt _ _).mpr hq22_)).2.1) k_) ?_
          refine og s₁ (mkF m 75 #[rv u] [(.ref u)]) (fun t_ k_ => XS.aloadN X0.here hx rfl (hb hby d_method_4_74) rfl rfl k_) ?_
          refine og s₁ (mkF m 76 #[rv u] [(.int 2), (.ref u)]) (fun t_ k_ => XS.iconst X0.here hx rfl (hb hby d_method_4_75) k_) ?_
          obtain ⟨cl23, Ar23, -, S23, Nn23, H23, -⟩ := id V_u
          have hin23 : ¬ ((2 : Int32) < 0 ∨ cl23.slots.size ≤ ((2 : Int32)).toNatClampNeg) := inb_of S23 ⟨by decide, by decide⟩
          refine og s₁ (mkF m 77 #[rv u] [(.double d2)]) (fun t_ k_ => X0.daload hx (j := (2 : Int32)) (v := (.double d2)) (by rw [e0]; exact Ar23.1) (State.isArrayOf_alike hZ.alike Ar23.2.1) Ar23.2.2 hin23 (H23.at hin23 rfl) (g := (mkF m 76 #[rv u] [(.int 2), (.ref u)])) rfl rfl (hb hby d_method_4_76) _ k_) ?_
          refine og s₁ (mkF m 78 #[rv u] [(.ref u), (.double d2)]) (fun t_ k_ => XS.aloadN X0.here hx rfl (hb hby d_method_4_77) rfl rfl k_) ?_
          refine og s₁ (mkF m 79 #[rv u] [(.int 1), (.ref u), (.double d2)]) (fun t_ k_ => XS.iconst X0.here hx rfl (hb hby d_method_4_78) k_) ?_
          obtain ⟨cl24, Ar24, -, S24, Nn24, H24, -⟩ := id V_u
          have hin24 : ¬ ((1 : Int32) < 0 ∨ cl24.slots.size ≤ ((1 : Int32)).toNatClampNeg) := inb_of S24 ⟨by decide, by decide⟩
          refine og s₁ (mkF m 80 #[rv u] [(.double d1), (.double d2)]) (fun t_ k_ => X0.daload hx (j := (1 : Int32)) (v := (.double d1)) (by rw [e0]; exact Ar24.1) (State.isArrayOf_alike hZ.alike Ar24.2.1) Ar24.2.2 hin24 (H24.at hin24 rfl) (g := (mkF m 79 #[rv u] [(.int 1), (.ref u), (.double d2)])) rfl rfl (hb hby d_method_4_79) _ k_) ?_
          refine og s₁ (mkF m 81 #[rv u] [(.int (own_cmp r2 r1))]) (fun t_ k_ => XS.dcmpS X0.here hx rfl (hb hby d_method_4_80) rfl (own_dc _ D_d2 D_d1) k_) ?_
          refine og s₁ (mkF m 96 #[rv u] []) (fun t_ k_ => XS.ifYes X0.here hx rfl (pc0 := 81) (pc' := 96) rfl (hb hby d_method_4_81) rfl ((if0 _ _).trans (flt (fun z => hq8_ ((own_clt _ _).mp z))).2.1) (by decide) (by decide) k_) ?_
          refine og s₁ (mkF m 97 #[rv u] [(.int 3)]) (fun t_ k_ => XS.iconst X0.here hx rfl (hb hby d_method_4_96) k_) ?_
          exact own_out X0 (v := some (.int 3)) (fun h => by rw [hret] at h; cases h) hlk (fun fs hr => retI X0 hx hret (hb hby d_method_4_97) hr) (Q := Q_rm_bottomAt Z u d0 d1 d2 d3 r0 r1 r2 r3 k_u h0 n0) (by rw [e0]; exact ⟨(congrArg (fun z => some (Value.int z)) (show own_bot r0 r1 r2 r3 = (3 : Int32) from by unfold own_bot; (repeat' split) <;> first | rfl | (exfalso; omega)).symm), N0, rfl⟩) (by decide) (by decide)
        · skip
          refine og s₁ (mkF m 96 #[rv u] []) (fun t_ k_ => XS.ifYes X0.here hx rfl (pc0 := 71) (pc' := 96) rfl (hb hby d_method_4_71) rfl ((if0 _ _).trans (flt (fun z => hq22_ ((own_clt _ _).mp z))).2.1) (by decide) (by decide) k_) ?_
          refine og s₁ (mkF m 97 #[rv u] [(.int 3)]) (fun t_ k_ => XS.iconst X0.here hx rfl (hb hby d_method_4_96) k_) ?_
          exact own_out X0 (v := some (.int 3)) (fun h => by rw [hret] at h; cases h) hlk (fun fs hr => retI X0 hx hret (hb hby d_method_4_97) hr) (Q := Q_rm_bottomAt Z u d0 d1 d2 d3 r0 r1 r2 r3 k_u h0 n0) (by rw [e0]; exact ⟨(congrArg (fun z => some (Value.int z)) (show own_bot r0 r1 r2 r3 = (3 : Int32) from by unfold own_bot; (repeat' split) <;> first | rfl | (exfalso; omega)).symm), N0, rfl⟩) (by decide) (by decide)
      · skip
        refine og s₁ (mkF m 62 #[rv u] []) (fun t_ k_ => XS.ifNo X0.here hx rfl (hb hby d_method_4_59) rfl ((if0 _ _).trans (flt (fun z => hq19_ ((own_cgt _ _).mp z))).2.2.1) k_) ?_
        refine og s₁ (mkF m 63 #[rv u] [(.int 1)]) (fun t_ k_ => XS.iconst X0.here hx rfl (hb hby d_method_4_62) k_) ?_
        exact own_out X0 (v := some (.int 1)) (fun h => by rw [hret] at h; cases h) hlk (fun fs hr => retI X0 hx hret (hb hby d_method_4_63) hr) (Q := Q_rm_bottomAt Z u d0 d1 d2 d3 r0 r1 r2 r3 k_u h0 n0) (by rw [e0]; exact ⟨(congrArg (fun z => some (Value.int z)) (show own_bot r0 r1 r2 r3 = (1 : Int32) from by unfold own_bot; (repeat' split) <;> first | rfl | (exfalso; omega)).symm), N0, rfl⟩) (by decide) (by decide)
  · skip
    refine og s₁ (mkF m 10 #[rv u] []) (fun t_ k_ => XS.ifNo X0.here hx rfl (hb hby d_method_4_7) rfl ((if0 _ _).trans (flt (fun z => hq3_ ((own_cgt _ _).mp z))).2.2.1) k_) ?_
    refine og s₁ (mkF m 11 #[rv u] [(.ref u)]) (fun t_ k_ => XS.aloadN X0.here hx rfl (hb hby d_method_4_10) rfl rfl k_) ?_
    refine og s₁ (mkF m 12 #[rv u] [(.int 0), (.ref u)]) (fun t_ k_ => XS.iconst X0.here hx rfl (hb hby d_method_4_11) k_) ?_
    obtain ⟨cl25, Ar25, -, S25, Nn25, H25, -⟩ := id V_u
    have hin25 : ¬ ((0 : Int32) < 0 ∨ cl25.slots.size ≤ ((0 : Int32)).toNatClampNeg) := inb_of S25 ⟨by decide, by decide⟩
    refine og s₁ (mkF m 13 #[rv u] [(.double d0)]) (fun t_ k_ => X0.daload hx (j := (0 : Int32)) (v := (.double d0)) (by rw [e0]; exact Ar25.1) (State.isArrayOf_alike hZ.alike Ar25.2.1) Ar25.2.2 hin25 (H25.at hin25 rfl) (g := (mkF m 12 #[rv u] [(.int 0), (.ref u)])) rfl rfl (hb hby d_method_4_12) _ k_) ?_
    refine og s₁ (mkF m 14 #[rv u] [(.ref u), (.double d0)]) (fun t_ k_ => XS.aloadN X0.here hx rfl (hb hby d_method_4_13) rfl rfl k_) ?_
    refine og s₁ (mkF m 15 #[rv u] [(.int 2), (.ref u), (.double d0)]) (fun t_ k_ => XS.iconst X0.here hx rfl (hb hby d_method_4_14) k_) ?_
    obtain ⟨cl26, Ar26, -, S26, Nn26, H26, -⟩ := id V_u
    have hin26 : ¬ ((2 : Int32) < 0 ∨ cl26.slots.size ≤ ((2 : Int32)).toNatClampNeg) := inb_of S26 ⟨by decide, by decide⟩
    refine og s₁ (mkF m 16 #[rv u] [(.double d2), (.double d0)]) (fun t_ k_ => X0.daload hx (j := (2 : Int32)) (v := (.double d2)) (by rw [e0]; exact Ar26.1) (State.isArrayOf_alike hZ.alike Ar26.2.1) Ar26.2.2 hin26 (H26.at hin26 rfl) (g := (mkF m 15 #[rv u] [(.int 2), (.ref u), (.double d0)])) rfl rfl (hb hby d_method_4_15) _ k_) ?_
    refine og s₁ (mkF m 17 #[rv u] [(.int (own_cmp r0 r2))]) (fun t_ k_ => XS.dcmpS X0.here hx rfl (hb hby d_method_4_16) rfl (own_dc _ D_d0 D_d2) k_) ?_
    by_cases hq27_ : r2 < r0
    · skip
      refine og s₁ (mkF m 32 #[rv u] []) (fun t_ k_ => XS.ifYes X0.here hx rfl (pc0 := 17) (pc' := 32) rfl (hb hby d_method_4_17) rfl ((if0 _ _).trans (tlt ((own_cgt _ _).mpr hq27_)).2.2.1) (by decide) (by decide) k_) ?_
      refine og s₁ (mkF m 33 #[rv u] [(.ref u)]) (fun t_ k_ => XS.aloadN X0.here hx rfl (hb hby d_method_4_32) rfl rfl k_) ?_
      refine og s₁ (mkF m 34 #[rv u] [(.int 1), (.ref u)]) (fun t_ k_ => XS.iconst X0.here hx rfl (hb hby d_method_4_33) k_) ?_
      obtain ⟨cl28, Ar28, -, S28, Nn28, H28, -⟩ := id V_u
      have hin28 : ¬ ((1 : Int32) < 0 ∨ cl28.slots.size ≤ ((1 : Int32)).toNatClampNeg) := inb_of S28 ⟨by decide, by decide⟩
      refine og s₁ (mkF m 35 #[rv u] [(.double d1)]) (fun t_ k_ => X0.daload hx (j := (1 : Int32)) (v := (.double d1)) (by rw [e0]; exact Ar28.1) (State.isArrayOf_alike hZ.alike Ar28.2.1) Ar28.2.2 hin28 (H28.at hin28 rfl) (g := (mkF m 34 #[rv u] [(.int 1), (.ref u)])) rfl rfl (hb hby d_method_4_34) _ k_) ?_
      refine og s₁ (mkF m 36 #[rv u] [(.ref u), (.double d1)]) (fun t_ k_ => XS.aloadN X0.here hx rfl (hb hby d_method_4_35) rfl rfl k_) ?_
      refine og s₁ (mkF m 37 #[rv u] [(.int 0), (.ref u), (.double d1)]) (fun t_ k_ => XS.iconst X0.here hx rfl (hb hby d_method_4_36) k_) ?_
      obtain ⟨cl29, Ar29, -, S29, Nn29, H29, -⟩ := id V_u
      have hin29 : ¬ ((0 : Int32) < 0 ∨ cl29.slots.size ≤ ((0 : Int32)).toNatClampNeg) := inb_of S29 ⟨by decide, by decide⟩
      refine og s₁ (mkF m 38 #[rv u] [(.double d0), (.double d1)]) (fun t_ k_ => X0.daload hx (j := (0 : Int32)) (v := (.double d0)) (by rw [e0]; exact Ar29.1) (State.isArrayOf_alike hZ.alike Ar29.2.1) Ar29.2.2 hin29 (H29.at hin29 rfl) (g := (mkF m 37 #[rv u] [(.int 0), (.ref u), (.double d1)])) rfl rfl (hb hby d_method_4_37) _ k_) ?_
      refine og s₁ (mkF m 39 #[rv u] [(.int (own_cmp r1 r0))]) (fun t_ k_ => XS.dcmpS X0.here hx rfl (hb hby d_method_4_38) rfl (own_dc _ D_d1 D_d0) k_) ?_
      refine og s₁ (mkF m 64 #[rv u] []) (fun t_ k_ => XS.ifYes X0.here hx rfl (pc0 := 39) (pc' := 64) rfl (hb hby d_method_4_39) rfl ((if0 _ _).trans (flt (fun z => hq3_ ((own_clt _ _).mp z))).2.1) (by decide) (by decide) k_) ?_
      refine og s₁ (mkF m 65 #[rv u] [(.ref u)]) (fun t_ k_ => XS.aloadN X0.here hx rfl (hb hby d_method_4_64) rfl rfl k_) ?_
      refine og s₁ (mkF m 66 #[rv u] [(.int 2), (.ref u)]) (fun t_ k_ => XS.iconst X0.here hx rfl (hb hby d_method_4_65) k_) ?_
      obtain ⟨cl30, Ar30, -, S30, Nn30, H30, -⟩ := id V_u
      have hin30 : ¬ ((2 : Int32) < 0 ∨ cl30.slots.size ≤ ((2 : Int32)).toNatClampNeg) := inb_of S30 ⟨by decide, by decide⟩
      refine og s₁ (mkF m 67 #[rv u] [(.double d2)]) (fun t_ k_ => X0.daload hx (j := (2 : Int32)) (v := (.double d2)) (by rw [e0]; exact Ar30.1) (State.isArrayOf_alike hZ.alike Ar30.2.1) Ar30.2.2 hin30 (H30.at hin30 rfl) (g := (mkF m 66 #[rv u] [(.int 2), (.ref u)])) rfl rfl (hb hby d_method_4_66) _ k_) ?_
      refine og s₁ (mkF m 68 #[rv u] [(.ref u), (.double d2)]) (fun t_ k_ => XS.aloadN X0.here hx rfl (hb hby d_method_4_67) rfl rfl k_) ?_
      refine og s₁ (mkF m 69 #[rv u] [(.int 0), (.ref u), (.double d2)]) (fun t_ k_ => XS.iconst X0.here hx rfl (hb hby d_method_4_68) k_) ?_
      obtain ⟨cl31, Ar31, -, S31, Nn31, H31, -⟩ := id V_u
      have hin31 : ¬ ((0 : Int32) < 0 ∨ cl31.slots.size ≤ ((0 : Int32)).toNatClampNeg) := inb_of S31 ⟨by decide, by decide⟩
      refine og s₁ (mkF m 70 #[rv u] [(.double d0), (.double d2)]) (fun t_ k_ => X0.daload hx (j := (0 : Int32)) (v := (.double d0)) (by rw [e0]; exact Ar31.1) (State.isArrayOf_alike hZ.alike Ar31.2.1) Ar31.2.2 hin31 (H31.at hin31 rfl) (g := (mkF m 69 #[rv u] [(.int 0), (.ref u), (.double d2)])) rfl rfl (hb hby d_method_4_69) _ k_) ?_
      refine og s₁ (mkF m 71 #[rv u] [(.int (own_cmp r2 r0))]) (fun t_ k_ => XS.dcmpS X0.here hx rfl (hb hby d_method_4_70) rfl (own_dc _ D_d2 D_d0) k_) ?_
      refine og s₁ (mkF m 74 #[rv u] []) (fun t_ k_ => XS.ifNo X0.here hx rfl (hb hby d_method_4_71) rfl ((if0 _ _).trans (tlt ((own_clt _ _).mpr hq27_)).2.1) k_) ?_
      refine og s₁ (mkF m 75 #[rv u] [(.ref u)]) (fun t_ k_ => XS.aloadN X0.here hx rfl (hb hby d_method_4_74) rfl rfl k_) ?_
      refine og s₁ (mkF m 76 #[rv u] [(.int 2), (.ref u)]) (fun t_ k_ => XS.iconst X0.here hx rfl (hb hby d_method_4_75) k_) ?_
      obtain ⟨cl32, Ar32, -, S32, Nn32, H32, -⟩ := id V_u
      have hin32 : ¬ ((2 : Int32) < 0 ∨ cl32.slots.size ≤ ((2 : Int32)).toNatClampNeg) := inb_of S32 ⟨by decide, by decide⟩
      refine og s₁ (mkF m 77 #[rv u] [(.double d2)]) (fun t_ k_ => X0.daload hx (j := (2 : Int32)) (v := (.double d2)) (by rw [e0]; exact Ar32.1) (State.isArrayOf_alike hZ.alike Ar32.2.1) Ar32.2.2 hin32 (H32.at hin32 rfl) (g := (mkF m 76 #[rv u] [(.int 2), (.ref u)])) rfl rfl (hb hby d_method_4_76) _ k_) ?_
      refine og s₁ (mkF m 78 #[rv u] [(.ref u), (.double d2)]) (fun t_ k_ => XS.aloadN X0.here hx rfl (hb hby d_method_4_77) rfl rfl k_) ?_
      refine og s₁ (mkF m 79 #[rv u] [(.int 1), (.ref u), (.double d2)]) (fun t_ k_ => XS.iconst X0.here hx rfl (hb hby d_method_4_78) k_) ?_
      obtain ⟨cl33, Ar33, -, S33, Nn33, H33, -⟩ := id V_u
      have hin33 : ¬ ((1 : Int32) < 0 ∨ cl33.slots.size ≤ ((1 : Int32)).toNatClampNeg) := inb_of S33 ⟨by decide, by decide⟩
      refine og s₁ (mkF m 80 #[rv u] [(.double d1), (.double d2)]) (fun t_ k_ => X0.daload hx (j := (1 : Int32)) (v := (.double d1)) (by rw [e0]; exact Ar33.1) (State.isArrayOf_alike hZ.alike Ar33.2.1) Ar33.2.2 hin33 (H33.at hin33 rfl) (g := (mkF m 79 #[rv u] [(.int 1), (.ref u), (.double d2)])) rfl rfl (hb hby d_method_4_79) _ k_) ?_
      refine og s₁ (mkF m 81 #[rv u] [(.int (own_cmp r2 r1))]) (fun t_ k_ => XS.dcmpS X0.here hx rfl (hb hby d_method_4_80) rfl (own_dc _ D_d2 D_d1) k_) ?_
      by_cases hq34_ : r2 < r1
      · skip
        refine og s₁ (mkF m 84 #[rv u] []) (fun t_ k_ => XS.ifNo X0.here hx rfl (hb hby d_method_4_81) rfl ((if0 _ _).trans (tlt ((own_clt _ _).mpr hq34_)).2.1) k_) ?_
        refine og s₁ (mkF m 85 #[rv u] [(.ref u)]) (fun t_ k_ => XS.aloadN X0.here hx rfl (hb hby d_method_4_84) rfl rfl k_) ?_
        refine og s₁ (mkF m 86 #[rv u] [(.int 2), (.ref u)]) (fun t_ k_ => XS.iconst X0.here hx rfl (hb hby d_method_4_85) k_) ?_
        obtain ⟨cl35, Ar35, -, S35, Nn35, H35, -⟩ := id V_u
        have hin35 : ¬ ((2 : Int32) < 0 ∨ cl35.slots.size ≤ ((2 : Int32)).toNatClampNeg) := inb_of S35 ⟨by decide, by decide⟩
        refine og s₁ (mkF m 87 #[rv u] [(.double d2)]) (fun t_ k_ => X0.daload hx (j := (2 : Int32)) (v := (.double d2)) (by rw [e0]; exact Ar35.1) (State.isArrayOf_alike hZ.alike Ar35.2.1) Ar35.2.2 hin35 (H35.at hin35 rfl) (g := (mkF m 86 #[rv u] [(.int 2), (.ref u)])) rfl rfl (hb hby d_method_4_86) _ k_) ?_
        refine og s₁ (mkF m 88 #[rv u] [(.ref u), (.double d2)]) (fun t_ k_ => XS.aloadN X0.here hx rfl (hb hby d_method_4_87) rfl rfl k_) ?_
        refine og s₁ (mkF m 89 #[rv u] [(.int 3), (.ref u), (.double d2)]) (fun t_ k_ => XS.iconst X0.here hx rfl (hb hby d_method_4_88) k_) ?_
        obtain ⟨cl36, Ar36, -, S36, Nn36, H36, -⟩ := id V_u
        have hin36 : ¬ ((3 : Int32) < 0 ∨ cl36.slots.size ≤ ((3 : Int32)).toNatClampNeg) := inb_of S36 ⟨by decide, by decide⟩
        refine og s₁ (mkF m 90 #[rv u] [(.double d3), (.double d2)]) (fun t_ k_ => X0.daload hx (j := (3 : Int32)) (v := (.double d3)) (by rw [e0]; exact Ar36.1) (State.isArrayOf_alike hZ.alike Ar36.2.1) Ar36.2.2 hin36 (H36.at hin36 rfl) (g := (mkF m 89 #[rv u] [(.int 3), (.ref u), (.double d2)])) rfl rfl (hb hby d_method_4_89) _ k_) ?_
        refine og s₁ (mkF m 91 #[rv u] [(.int (own_cmp r2 r3))]) (fun t_ k_ => XS.dcmpS X0.here hx rfl (hb hby d_method_4_90) rfl (own_dc _ D_d2 D_d3) k_) ?_
        by_cases hq37_ : r3 < r2
        · skip
          refine og s₁ (mkF m 96 #[rv u] []) (fun t_ k_ => XS.ifYes X0.here hx rfl (pc0 := 91) (pc' := 96) rfl (hb hby d_method_4_91) rfl ((if0 _ _).trans (tlt ((own_cgt _ _).mpr hq37_)).2.2.1) (by decide) (by decide) k_) ?_
          refine og s₁ (mkF m 97 #[rv u] [(.int 3)]) (fun t_ k_ => XS.iconst X0.here hx rfl (hb hby d_method_4_96) k_) ?_
          exact own_out X0 (v := some (.int 3)) (fun h => by rw [hret] at h; cases h) hlk (fun fs hr => retI X0 hx hret (hb hby d_method_4_97) hr) (Q := Q_rm_bottomAt Z u d0 d1 d2 d3 r0 r1 r2 r3 k_u h0 n0) (by rw [e0]; exact ⟨(congrArg (fun z => some (Value.int z)) (show own_bot r0 r1 r2 r3 = (3 : Int32) from by unfold own_bot; (repeat' split) <;> first | rfl | (exfalso; omega)).symm), N0, rfl⟩) (by decide) (by decide)
        · skip
          refine og s₁ (mkF m 94 #[rv u] []) (fun t_ k_ => XS.ifNo X0.here hx rfl (hb hby d_method_4_91) rfl ((if0 _ _).trans (flt (fun z => hq37_ ((own_cgt _ _).mp z))).2.2.1) k_) ?_
          refine og s₁ (mkF m 95 #[rv u] [(.int 2)]) (fun t_ k_ => XS.iconst X0.here hx rfl (hb hby d_method_4_94) k_) ?_
          exact own_out X0 (v := some (.int 2)) (fun h => by rw [hret] at h; cases h) hlk (fun fs hr => retI X0 hx hret (hb hby d_method_4_95) hr) (Q := Q_rm_bottomAt Z u d0 d1 d2 d3 r0 r1 r2 r3 k_u h0 n0) (by rw [e0]; exact ⟨(congrArg (fun z => some (Value.int z)) (show own_bot r0 r1 r2 r3 = (2 : Int32) from by unfold own_bot; (repeat' split) <;> first | rfl | (exfalso; omega)).symm), N0, rfl⟩) (by decide) (by decide)
      · skip
        refine og s₁ (mkF m 96 #[rv u] []) (fun t_ k_ => XS.ifYes X0.here hx rfl (pc0 := 81) (pc' := 96) rfl (hb hby d_method_4_81) rfl ((if0 _ _).trans (flt (fun z => hq34_ ((own_clt _ _).mp z))).2.1) (by decide) (by decide) k_) ?_
        refine og s₁ (mkF m 97 #[rv u] [(.int 3)]) (fun t_ k_ => XS.iconst X0.here hx rfl (hb hby d_method_4_96) k_) ?_
        exact own_out X0 (v := some (.int 3)) (fun h => by rw [hret] at h; cases h) hlk (fun fs hr => retI X0 hx hret (hb hby d_method_4_97) hr) (Q := Q_rm_bottomAt Z u d0 d1 d2 d3 r0 r1 r2 r3 k_u h0 n0) (by rw [e0]; exact ⟨(congrArg (fun z => some (Value.int z)) (show own_bot r0 r1 r2 r3 = (3 : Int32) from by unfold own_bot; (repeat' split) <;> first | rfl | (exfalso; omega)).symm), N0, rfl⟩) (by decide) (by decide)
    · skip
      refine og s₁ (mkF m 20 #[rv u] []) (fun t_ k_ => XS.ifNo X0.here hx rfl (hb hby d_method_4_17) rfl ((if0 _ _).trans (flt (fun z => hq27_ ((own_cgt _ _).mp z))).2.2.1) k_) ?_
      refine og s₁ (mkF m 21 #[rv u] [(.ref u)]) (fun t_ k_ => XS.aloadN X0.here hx rfl (hb hby d_method_4_20) rfl rfl k_) ?_
      refine og s₁ (mkF m 22 #[rv u] [(.int 0), (.ref u)]) (fun t_ k_ => XS.iconst X0.here hx rfl (hb hby d_method_4_21) k_) ?_
      obtain ⟨cl38, Ar38, -, S38, Nn38, H38, -⟩ := id V_u
      have hin38 : ¬ ((0 : Int32) < 0 ∨ cl38.slots.size ≤ ((0 : Int32)).toNatClampNeg) := inb_of S38 ⟨by decide, by decide⟩
      refine og s₁ (mkF m 23 #[rv u] [(.double d0)]) (fun t_ k_ => X0.daload hx (j := (0 : Int32)) (v := (.double d0)) (by rw [e0]; exact Ar38.1) (State.isArrayOf_alike hZ.alike Ar38.2.1) Ar38.2.2 hin38 (H38.at hin38 rfl) (g := (mkF m 22 #[rv u] [(.int 0), (.ref u)])) rfl rfl (hb hby d_method_4_22) _ k_) ?_
      refine og s₁ (mkF m 24 #[rv u] [(.ref u), (.double d0)]) (fun t_ k_ => XS.aloadN X0.here hx rfl (hb hby d_method_4_23) rfl rfl k_) ?_
      refine og s₁ (mkF m 25 #[rv u] [(.int 3), (.ref u), (.double d0)]) (fun t_ k_ => XS.iconst X0.here hx rfl (hb hby d_method_4_24) k_) ?_
      obtain ⟨cl39, Ar39, -, S39, Nn39, H39, -⟩ := id V_u
      have hin39 : ¬ ((3 : Int32) < 0 ∨ cl39.slots.size ≤ ((3 : Int32)).toNatClampNeg) := inb_of S39 ⟨by decide, by decide⟩
      refine og s₁ (mkF m 26 #[rv u] [(.double d3), (.double d0)]) (fun t_ k_ => X0.daload hx (j := (3 : Int32)) (v := (.double d3)) (by rw [e0]; exact Ar39.1) (State.isArrayOf_alike hZ.alike Ar39.2.1) Ar39.2.2 hin39 (H39.at hin39 rfl) (g := (mkF m 25 #[rv u] [(.int 3), (.ref u), (.double d0)])) rfl rfl (hb hby d_method_4_25) _ k_) ?_
      refine og s₁ (mkF m 27 #[rv u] [(.int (own_cmp r0 r3))]) (fun t_ k_ => XS.dcmpS X0.here hx rfl (hb hby d_method_4_26) rfl (own_dc _ D_d0 D_d3) k_) ?_
      by_cases hq40_ : r3 < r0
      · skip
        refine og s₁ (mkF m 32 #[rv u] []) (fun t_ k_ => XS.ifYes X0.here hx rfl (pc0 := 27) (pc' := 32) rfl (hb hby d_method_4_27) rfl ((if0 _ _).trans (tlt ((own_cgt _ _).mpr hq40_)).2.2.1) (by decide) (by decide) k_) ?_
        refine og s₁ (mkF m 33 #[rv u] [(.ref u)]) (fun t_ k_ => XS.aloadN X0.here hx rfl (hb hby d_method_4_32) rfl rfl k_) ?_
        refine og s₁ (mkF m 34 #[rv u] [(.int 1), (.ref u)]) (fun t_ k_ => XS.iconst X0.here hx rfl (hb hby d_method_4_33) k_) ?_
        obtain ⟨cl41, Ar41, -, S41, Nn41, H41, -⟩ := id V_u
        have hin41 : ¬ ((1 : Int32) < 0 ∨ cl41.slots.size ≤ ((1 : Int32)).toNatClampNeg) := inb_of S41 ⟨by decide, by decide⟩
        refine og s₁ (mkF m 35 #[rv u] [(.double d1)]) (fun t_ k_ => X0.daload hx (j := (1 : Int32)) (v := (.double d1)) (by rw [e0]; exact Ar41.1) (State.isArrayOf_alike hZ.alike Ar41.2.1) Ar41.2.2 hin41 (H41.at hin41 rfl) (g := (mkF m 34 #[rv u] [(.int 1), (.ref u)])) rfl rfl (hb hby d_method_4_34) _ k_) ?_
        refine og s₁ (mkF m 36 #[rv u] [(.ref u), (.double d1)]) (fun t_ k_ => XS.aloadN X0.here hx rfl (hb hby d_method_4_35) rfl rfl k_) ?_
        refine og s₁ (mkF m 37 #[rv u] [(.int 0), (.ref u), (.double d1)]) (fun t_ k_ => XS.iconst X0.here hx rfl (hb hby d_method_4_36) k_) ?_
        obtain ⟨cl42, Ar42, -, S42, Nn42, H42, -⟩ := id V_u
        have hin42 : ¬ ((0 : Int32) < 0 ∨ cl42.slots.size ≤ ((0 : Int32)).toNatClampNeg) := inb_of S42 ⟨by decide, by decide⟩
        refine og s₁ (mkF m 38 #[rv u] [(.double d0), (.double d1)]) (fun t_ k_ => X0.daload hx (j := (0 : Int32)) (v := (.double d0)) (by rw [e0]; exact Ar42.1) (State.isArrayOf_alike hZ.alike Ar42.2.1) Ar42.2.2 hin42 (H42.at hin42 rfl) (g := (mkF m 37 #[rv u] [(.int 0), (.ref u), (.double d1)])) rfl rfl (hb hby d_method_4_37) _ k_) ?_
        refine og s₁ (mkF m 39 #[rv u] [(.int (own_cmp r1 r0))]) (fun t_ k_ => XS.dcmpS X0.here hx rfl (hb hby d_method_4_38) rfl (own_dc _ D_d1 D_d0) k_) ?_
        refine og s₁ (mkF m 64 #[rv u] []) (fun t_ k_ => XS.ifYes X0.here hx rfl (pc0 := 39) (pc' := 64) rfl (hb hby d_method_4_39) rfl ((if0 _ _).trans (flt (fun z => hq3_ ((own_clt _ _).mp z))).2.1) (by decide) (by decide) k_) ?_
        refine og s₁ (mkF m 65 #[rv u] [(.ref u)]) (fun t_ k_ => XS.aloadN X0.here hx rfl (hb hby d_method_4_64) rfl rfl k_) ?_
        refine og s₁ (mkF m 66 #[rv u] [(.int 2), (.ref u)]) (fun t_ k_ => XS.iconst X0.here hx rfl (hb hby d_method_4_65) k_) ?_
        obtain ⟨cl43, Ar43, -, S43, Nn43, H43, -⟩ := id V_u
        have hin43 : ¬ ((2 : Int32) < 0 ∨ cl43.slots.size ≤ ((2 : Int32)).toNatClampNeg) := inb_of S43 ⟨by decide, by decide⟩
        refine og s₁ (mkF m 67 #[rv u] [(.double d2)]) (fun t_ k_ => X0.daload hx (j := (2 : Int32)) (v := (.double d2)) (by rw [e0]; exact Ar43.1) (State.isArrayOf_alike hZ.alike Ar43.2.1) Ar43.2.2 hin43 (H43.at hin43 rfl) (g := (mkF m 66 #[rv u] [(.int 2), (.ref u)])) rfl rfl (hb hby d_method_4_66) _ k_) ?_
        refine og s₁ (mkF m 68 #[rv u] [(.ref u), (.double d2)]) (fun t_ k_ => XS.aloadN X0.here hx rfl (hb hby d_method_4_67) rfl rfl k_) ?_
        refine og s₁ (mkF m 69 #[rv u] [(.int 0), (.ref u), (.double d2)]) (fun t_ k_ => XS.iconst X0.here hx rfl (hb hby d_method_4_68) k_) ?_
        obtain ⟨cl44, Ar44, -, S44, Nn44, H44, -⟩ := id V_u
        have hin44 : ¬ ((0 : Int32) < 0 ∨ cl44.slots.size ≤ ((0 : Int32)).toNatClampNeg) := inb_of S44 ⟨by decide, by decide⟩
        refine og s₁ (mkF m 70 #[rv u] [(.double d0), (.double d2)]) (fun t_ k_ => X0.daload hx (j := (0 : Int32)) (v := (.double d0)) (by rw [e0]; exact Ar44.1) (State.isArrayOf_alike hZ.alike Ar44.2.1) Ar44.2.2 hin44 (H44.at hin44 rfl) (g := (mkF m 69 #[rv u] [(.int 0), (.ref u), (.double d2)])) rfl rfl (hb hby d_method_4_69) _ k_) ?_
        refine og s₁ (mkF m 71 #[rv u] [(.int (own_cmp r2 r0))]) (fun t_ k_ => XS.dcmpS X0.here hx rfl (hb hby d_method_4_70) rfl (own_dc _ D_d2 D_d0) k_) ?_
        refine og s₁ (mkF m 96 #[rv u] []) (fun t_ k_ => XS.ifYes X0.here hx rfl (pc0 := 71) (pc' := 96) rfl (hb hby d_method_4_71) rfl ((if0 _ _).trans (flt (fun z => hq27_ ((own_clt _ _).mp z))).2.1) (by decide) (by decide) k_) ?_
        refine og s₁ (mkF m 97 #[rv u] [(.int 3)]) (fun t_ k_ => XS.iconst X0.here hx rfl (hb hby d_method_4_96) k_) ?_
        exact own_out X0 (v := some (.int 3)) (fun h => by rw [hret] at h; cases h) hlk (fun fs hr => retI X0 hx hret (hb hby d_method_4_97) hr) (Q := Q_rm_bottomAt Z u d0 d1 d2 d3 r0 r1 r2 r3 k_u h0 n0) (by rw [e0]; exact ⟨(congrArg (fun z => some (Value.int z)) (show own_bot r0 r1 r2 r3 = (3 : Int32) from by unfold own_bot; (repeat' split) <;> first | rfl | (exfalso; omega)).symm), N0, rfl⟩) (by decide) (by decide)
      · skip
        refine og s₁ (mkF m 30 #[rv u] []) (fun t_ k_ => XS.ifNo X0.here hx rfl (hb hby d_method_4_27) rfl ((if0 _ _).trans (flt (fun z => hq40_ ((own_cgt _ _).mp z))).2.2.1) k_) ?_
        refine og s₁ (mkF m 31 #[rv u] [(.int 0)]) (fun t_ k_ => XS.iconst X0.here hx rfl (hb hby d_method_4_30) k_) ?_
        exact own_out X0 (v := some (.int 0)) (fun h => by rw [hret] at h; cases h) hlk (fun fs hr => retI X0 hx hret (hb hby d_method_4_31) hr) (Q := Q_rm_bottomAt Z u d0 d1 d2 d3 r0 r1 r2 r3 k_u h0 n0) (by rw [e0]; exact ⟨(congrArg (fun z => some (Value.int z)) (show own_bot r0 r1 r2 r3 = (0 : Int32) from by unfold own_bot; (repeat' split) <;> first | rfl | (exfalso; omega)).symm), N0, rfl⟩) (by decide) (by decide)
theorem d_method_5_0 : decode method_5_code 0 = .ok (.aload_n 0, 1) := by decide +kernel
theorem d_method_5_1 : decode method_5_code 1 = .ok (.iconst 0, 1) := by decide +kernel
theorem d_method_5_2 : decode method_5_code 2 = .ok (.daload, 1) := by decide +kernel
theorem d_method_5_3 : decode method_5_code 3 = .ok (.aload_n 0, 1) := by decide +kernel
theorem d_method_5_4 : decode method_5_code 4 = .ok (.iconst 1, 1) := by decide +kernel
theorem d_method_5_5 : decode method_5_code 5 = .ok (.daload, 1) := by decide +kernel
theorem d_method_5_6 : decode method_5_code 6 = .ok (.dcmp .l, 1) := by decide +kernel
theorem d_method_5_7 : decode method_5_code 7 = .ok (.ifCond .lt 25, 3) := by decide +kernel
theorem d_method_5_32 : decode method_5_code 32 = .ok (.aload_n 0, 1) := by decide +kernel
theorem d_method_5_33 : decode method_5_code 33 = .ok (.iconst 1, 1) := by decide +kernel
theorem d_method_5_34 : decode method_5_code 34 = .ok (.daload, 1) := by decide +kernel
theorem d_method_5_35 : decode method_5_code 35 = .ok (.aload_n 0, 1) := by decide +kernel
theorem d_method_5_36 : decode method_5_code 36 = .ok (.iconst 0, 1) := by decide +kernel
theorem d_method_5_37 : decode method_5_code 37 = .ok (.daload, 1) := by decide +kernel
theorem d_method_5_38 : decode method_5_code 38 = .ok (.dcmp .l, 1) := by decide +kernel
theorem d_method_5_39 : decode method_5_code 39 = .ok (.ifCond .le 25, 3) := by decide +kernel
theorem d_method_5_42 : decode method_5_code 42 = .ok (.aload_n 0, 1) := by decide +kernel
theorem d_method_5_43 : decode method_5_code 43 = .ok (.iconst 1, 1) := by decide +kernel
theorem d_method_5_44 : decode method_5_code 44 = .ok (.daload, 1) := by decide +kernel
theorem d_method_5_45 : decode method_5_code 45 = .ok (.aload_n 0, 1) := by decide +kernel
theorem d_method_5_46 : decode method_5_code 46 = .ok (.iconst 2, 1) := by decide +kernel
theorem d_method_5_47 : decode method_5_code 47 = .ok (.daload, 1) := by decide +kernel
theorem d_method_5_48 : decode method_5_code 48 = .ok (.dcmp .l, 1) := by decide +kernel
theorem d_method_5_49 : decode method_5_code 49 = .ok (.ifCond .lt 15, 3) := by decide +kernel
theorem d_method_5_64 : decode method_5_code 64 = .ok (.aload_n 0, 1) := by decide +kernel
theorem d_method_5_65 : decode method_5_code 65 = .ok (.iconst 2, 1) := by decide +kernel
theorem d_method_5_66 : decode method_5_code 66 = .ok (.daload, 1) := by decide +kernel
theorem d_method_5_67 : decode method_5_code 67 = .ok (.aload_n 0, 1) := by decide +kernel
theorem d_method_5_68 : decode method_5_code 68 = .ok (.iconst 0, 1) := by decide +kernel
theorem d_method_5_69 : decode method_5_code 69 = .ok (.daload, 1) := by decide +kernel
theorem d_method_5_70 : decode method_5_code 70 = .ok (.dcmp .l, 1) := by decide +kernel
theorem d_method_5_71 : decode method_5_code 71 = .ok (.ifCond .le 25, 3) := by decide +kernel
theorem d_method_5_74 : decode method_5_code 74 = .ok (.aload_n 0, 1) := by decide +kernel
theorem d_method_5_75 : decode method_5_code 75 = .ok (.iconst 2, 1) := by decide +kernel
theorem d_method_5_76 : decode method_5_code 76 = .ok (.daload, 1) := by decide +kernel
theorem d_method_5_77 : decode method_5_code 77 = .ok (.aload_n 0, 1) := by decide +kernel
theorem d_method_5_78 : decode method_5_code 78 = .ok (.iconst 1, 1) := by decide +kernel
theorem d_method_5_79 : decode method_5_code 79 = .ok (.daload, 1) := by decide +kernel
theorem d_method_5_80 : decode method_5_code 80 = .ok (.dcmp .l, 1) := by decide +kernel
theorem d_method_5_81 : decode method_5_code 81 = .ok (.ifCond .le 15, 3) := by decide +kernel
theorem d_method_5_84 : decode method_5_code 84 = .ok (.aload_n 0, 1) := by decide +kernel
theorem d_method_5_85 : decode method_5_code 85 = .ok (.iconst 2, 1) := by decide +kernel
theorem d_method_5_86 : decode method_5_code 86 = .ok (.daload, 1) := by decide +kernel
theorem d_method_5_87 : decode method_5_code 87 = .ok (.aload_n 0, 1) := by decide +kernel
theorem d_method_5_88 : decode method_5_code 88 = .ok (.iconst 3, 1) := by decide +kernel
theorem d_method_5_89 : decode method_5_code 89 = .ok (.daload, 1) := by decide +kernel
theorem d_method_5_90 : decode method_5_code 90 = .ok (.dcmp .l, 1) := by decide +kernel
theorem d_method_5_91 : decode method_5_code 91 = .ok (.ifCond .lt 5, 3) := by decide +kernel
theorem d_method_5_96 : decode method_5_code 96 = .ok (.iconst 3, 1) := by decide +kernel
theorem d_method_5_97 : decode method_5_code 97 = .ok (.ireturn, 1) := by decide +kernel
theorem d_method_5_94 : decode method_5_code 94 = .ok (.iconst 2, 1) := by decide +kernel
theorem d_method_5_95 : decode method_5_code 95 = .ok (.ireturn, 1) := by decide +kernel
theorem d_method_5_52 : decode method_5_code 52 = .ok (.aload_n 0, 1) := by decide +kernel
theorem d_method_5_53 : decode method_5_code 53 = .ok (.iconst 1, 1) := by decide +kernel
theorem d_method_5_54 : decode method_5_code 54 = .ok (.daload, 1) := by decide +kernel
theorem d_method_5_55 : decode method_5_code 55 = .ok (.aload_n 0, 1) := by decide +kernel
theorem d_method_5_56 : decode method_5_code 56 = .ok (.iconst 3, 1) := by decide +kernel
theorem d_method_5_57 : decode method_5_code 57 = .ok (.daload, 1) := by decide +kernel
theorem d_method_5_58 : decode method_5_code 58 = .ok (.dcmp .l, 1) := by decide +kernel
theorem d_method_5_59 : decode method_5_code 59 = .ok (.ifCond .lt 5, 3) := by decide +kernel
theorem d_method_5_62 : decode method_5_code 62 = .ok (.iconst 1, 1) := by decide +kernel
theorem d_method_5_63 : decode method_5_code 63 = .ok (.ireturn, 1) := by decide +kernel
theorem d_method_5_10 : decode method_5_code 10 = .ok (.aload_n 0, 1) := by decide +kernel
theorem d_method_5_11 : decode method_5_code 11 = .ok (.iconst 0, 1) := by decide +kernel
theorem d_method_5_12 : decode method_5_code 12 = .ok (.daload, 1) := by decide +kernel
theorem d_method_5_13 : decode method_5_code 13 = .ok (.aload_n 0, 1) := by decide +kernel
theorem d_method_5_14 : decode method_5_code 14 = .ok (.iconst 2, 1) := by decide +kernel
theorem d_method_5_15 : decode method_5_code 15 = .ok (.daload, 1) := by decide +kernel
theorem d_method_5_16 : decode method_5_code 16 = .ok (.dcmp .l, 1) := by decide +kernel
theorem d_method_5_17 : decode method_5_code 17 = .ok (.ifCond .lt 15, 3) := by decide +kernel
theorem d_method_5_20 : decode method_5_code 20 = .ok (.aload_n 0, 1) := by decide +kernel
theorem d_method_5_21 : decode method_5_code 21 = .ok (.iconst 0, 1) := by decide +kernel
theorem d_method_5_22 : decode method_5_code 22 = .ok (.daload, 1) := by decide +kernel
theorem d_method_5_23 : decode method_5_code 23 = .ok (.aload_n 0, 1) := by decide +kernel
theorem d_method_5_24 : decode method_5_code 24 = .ok (.iconst 3, 1) := by decide +kernel
theorem d_method_5_25 : decode method_5_code 25 = .ok (.daload, 1) := by decide +kernel
theorem d_method_5_26 : decode method_5_code 26 = .ok (.dcmp .l, 1) := by decide +kernel
theorem d_method_5_27 : decode method_5_code 27 = .ok (.ifCond .lt 5, 3) := by decide +kernel
theorem d_method_5_30 : decode method_5_code 30 = .ok (.iconst 0, 1) := by decide +kernel
theorem d_method_5_31 : decode method_5_code 31 = .ok (.ireturn, 1) := by decide +kernel
theorem ef_5 (m : MethodId) (u : Nat) : entryFrame m #[(.ref u)] 1 = mkF m 0 #[rv u] [] := by first | (simp [entryFrame, mkF, argsToLocals, Value.category]; done) | rfl
abbrev ym_5 : MethodName := ⟨"com/example/driftline/driftline/storage/ExtremesWeighPinLaw", "topAt", "([D)I"⟩
def Q_rm_topAt (Z : State) (u : Nat) (d0 : UInt64) (d1 : UInt64) (d2 : UInt64) (d3 : UInt64) (r0 : Int) (r1 : Int) (r2 : Int) (r3 : Int) (k_u : ClassId) (h0 : Heap) (n0 : Nat) (vv : Option Value) (h : Heap) (LL : List Loc) : Prop := vv = some (.int (own_top r0 r1 r2 r3)) ∧ Fr n0 LL ∧ h = h0
set_option maxRecDepth 65536 in
set_option maxHeartbeats 40000000 in
theorem rm_topAt (l : Launch) (Z : State) (a0 : Array Value) (hw : ∀ d ∈ tables_1, d.before a0 Z = true) (ws : List Jvm.Cond) (u : Nat) (d0 : UInt64) (d1 : UInt64) (d2 : UInt64) (d3 : UInt64) (r0 : Int) (r1 : Int) (r2 : Int) (r3 : Int) (k_u : ClassId) (h0 : Heap) (n0 : Nat) (Z0 : n0 ≤ h0.size) (D_d0 : own_D d0 r0) (D_d1 : own_D d1 r1) (D_d2 : own_D d2 r2) (D_d3 : own_D d3 r3) (V_u : Arv Z h0 u k_u .double (4 : Int32) [(.double d0), (.double d1), (.double d2), (.double d3)] (.double 0)) :
    own_MF l ym_5 method_5_code 1 (some .int) ⟨0, 0, 0, 0⟩ ws Z #[(.ref u)] h0 (Q_rm_topAt Z u d0 d1 d2 d3 r0 r1 r2 r3 k_u h0 n0) := by
  refine own_begin (plainFor_of_name pn_0) (fun m => ef_5 m u) ?_
  intro p e s m below meth c s₁ hret hx hby hml hown hnm hlk X0 e0 hh hZ
  have N0 := Fr.nil n0
  have lt_V_u := own_ltN V_u.lt
  refine og s₁ (mkF m 1 #[rv u] [(.ref u)]) (fun t_ k_ => XS.aloadN X0.here hx rfl (hb hby d_method_5_0) rfl rfl k_) ?_
  refine og s₁ (mkF m 2 #[rv u] [(.int 0), (.ref u)]) (fun t_ k_ => XS.iconst X0.here hx rfl (hb hby d_method_5_1) k_) ?_
  obtain ⟨cl1, Ar1, -, S1, Nn1, H1, -⟩ := id V_u
  have hin1 : ¬ ((0 : Int32) < 0 ∨ cl1.slots.size ≤ ((0 : Int32)).toNatClampNeg) := inb_of S1 ⟨by decide, by decide⟩
  refine og s₁ (mkF m 3 #[rv u] [(.double d0)]) (fun t_ k_ => X0.daload hx (j := (0 : Int32)) (v := (.double d0)) (by rw [e0]; exact Ar1.1) (State.isArrayOf_alike hZ.alike Ar1.2.1) Ar1.2.2 hin1 (H1.at hin1 rfl) (g := (mkF m 2 #[rv u] [(.int 0), (.ref u)])) rfl rfl (hb hby d_method_5_2) _ k_) ?_
  refine og s₁ (mkF m 4 #[rv u] [(.ref u), (.double d0)]) (fun t_ k_ => XS.aloadN X0.here hx rfl (hb hby d_method_5_3) rfl rfl k_) ?_
  refine og s₁ (mkF m 5 #[rv u] [(.int 1), (.ref u), (.double d0)]) (fun t_ k_ => XS.iconst X0.here hx rfl (hb hby d_method_5_4) k_) ?_
  obtain ⟨cl2, Ar2, -, S2, Nn2, H2, -⟩ := id V_u
  have hin2 : ¬ ((1 : Int32) < 0 ∨ cl2.slots.size ≤ ((1 : Int32)).toNatClampNeg) := inb_of S2 ⟨by decide, by decide⟩
  refine og s₁ (mkF m 6 #[rv u] [(.double d1), (.double d0)]) (fun t_ k_ => X0.daload hx (j := (1 : Int32)) (v := (.double d1)) (by rw [e0]; exact Ar2.1) (State.isArrayOf_alike hZ.alike Ar2.2.1) Ar2.2.2 hin2 (H2.at hin2 rfl) (g := (mkF m 5 #[rv u] [(.int 1), (.ref u), (.double d0)])) rfl rfl (hb hby d_method_5_5) _ k_) ?_
  refine og s₁ (mkF m 7 #[rv u] [(.int (own_cmp r0 r1))]) (fun t_ k_ => XS.dcmpS X0.here hx rfl (hb hby d_method_5_6) rfl (own_dc _ D_d0 D_d1) k_) ?_
  by_cases hq3_ : r0 < r1
  · skip
    refine og s₁ (mkF m 32 #[rv u] []) (fun t_ k_ => XS.ifYes X0.here hx rfl (pc0 := 7) (pc' := 32) rfl (hb hby d_method_5_7) rfl ((if0 _ _).trans (tlt ((own_clt _ _).mpr hq3_)).1) (by decide) (by decide) k_) ?_
    refine og s₁ (mkF m 33 #[rv u] [(.ref u)]) (fun t_ k_ => XS.aloadN X0.here hx rfl (hb hby d_method_5_32) rfl rfl k_) ?_
    refine og s₁ (mkF m 34 #[rv u] [(.int 1), (.ref u)]) (fun t_ k_ => XS.iconst X0.here hx rfl (hb hby d_method_5_33) k_) ?_
    obtain ⟨cl4, Ar4, -, S4, Nn4, H4, -⟩ := id V_u
    have hin4 : ¬ ((1 : Int32) < 0 ∨ cl4.slots.size ≤ ((1 : Int32)).toNatClampNeg) := inb_of S4 ⟨by decide, by decide⟩
    refine og s₁ (mkF m 35 #[rv u] [(.double d1)]) (fun t_ k_ => X0.daload hx (j := (1 : Int32)) (v := (.double d1)) (by rw [e0]; exact Ar4.1) (State.isArrayOf_alike hZ.alike Ar4.2.1) Ar4.2.2 hin4 (H4.at hin4 rfl) (g := (mkF m 34 #[rv u] [(.int 1), (.ref u)])) rfl rfl (hb hby d_method_5_34) _ k_) ?_
    refine og s₁ (mkF m 36 #[rv u] [(.ref u), (.double d1)]) (fun t_ k_ => XS.aloadN X0.here hx rfl (hb hby d_method_5_35) rfl rfl k_) ?_
    refine og s₁ (mkF m 37 #[rv u] [(.int 0), (.ref u), (.double d1)]) (fun t_ k_ => XS.iconst X0.here hx rfl (hb hby d_method_5_36) k_) ?_
    obtain ⟨cl5, Ar5, -, S5, Nn5, H5, -⟩ := id V_u
    have hin5 : ¬ ((0 : Int32) < 0 ∨ cl5.slots.size ≤ ((0 : Int32)).toNatClampNeg) := inb_of S5 ⟨by decide, by decide⟩
    refine og s₁ (mkF m 38 #[rv u] [(.double d0), (.double d1)]) (fun t_ k_ => X0.daload hx (j := (0 : Int32)) (v := (.double d0)) (by rw [e0]; exact Ar5.1) (State.isArrayOf_alike hZ.alike Ar5.2.1) Ar5.2.2 hin5 (H5.at hin5 rfl) (g := (mkF m 37 #[rv u] [(.int 0), (.ref u), (.double d1)])) rfl rfl (hb hby d_method_5_37) _ k_) ?_
    refine og s₁ (mkF m 39 #[rv u] [(.int (own_cmp r1 r0))]) (fun t_ k_ => XS.dcmpS X0.here hx rfl (hb hby d_method_5_38) rfl (own_dc _ D_d1 D_d0) k_) ?_
    refine og s₁ (mkF m 42 #[rv u] []) (fun t_ k_ => XS.ifNo X0.here hx rfl (hb hby d_method_5_39) rfl ((if0 _ _).trans (tlt ((own_cgt _ _).mpr hq3_)).2.2.2) k_) ?_
    refine og s₁ (mkF m 43 #[rv u] [(.ref u)]) (fun t_ k_ => XS.aloadN X0.here hx rfl (hb hby d_method_5_42) rfl rfl k_) ?_
    refine og s₁ (mkF m 44 #[rv u] [(.int 1), (.ref u)]) (fun t_ k_ => XS.iconst X0.here hx rfl (hb hby d_method_5_43) k_) ?_
    obtain ⟨cl6, Ar6, -, S6, Nn6, H6, -⟩ := id V_u
    have hin6 : ¬ ((1 : Int32) < 0 ∨ cl6.slots.size ≤ ((1 : Int32)).toNatClampNeg) := inb_of S6 ⟨by decide, by decide⟩
    refine og s₁ (mkF m 45 #[rv u] [(.double d1)]) (fun t_ k_ => X0.daload hx (j := (1 : Int32)) (v := (.double d1)) (by rw [e0]; exact Ar6.1) (State.isArrayOf_alike hZ.alike Ar6.2.1) Ar6.2.2 hin6 (H6.at hin6 rfl) (g := (mkF m 44 #[rv u] [(.int 1), (.ref u)])) rfl rfl (hb hby d_method_5_44) _ k_) ?_
    refine og s₁ (mkF m 46 #[rv u] [(.ref u), (.double d1)]) (fun t_ k_ => XS.aloadN X0.here hx rfl (hb hby d_method_5_45) rfl rfl k_) ?_
    refine og s₁ (mkF m 47 #[rv u] [(.int 2), (.ref u), (.double d1)]) (fun t_ k_ => XS.iconst X0.here hx rfl (hb hby d_method_5_46) k_) ?_
    obtain ⟨cl7, Ar7, -, S7, Nn7, H7, -⟩ := id V_u
    have hin7 : ¬ ((2 : Int32) < 0 ∨ cl7.slots.size ≤ ((2 : Int32)).toNatClampNeg) := inb_of S7 ⟨by decide, by decide⟩
    refine og s₁ (mkF m 48 #[rv u] [(.double d2), (.double d1)]) (fun t_ k_ => X0.daload hx (j := (2 : Int32)) (v := (.double d2)) (by rw [e0]; exact Ar7.1) (State.isArrayOf_alike hZ.alike Ar7.2.1) Ar7.2.2 hin7 (H7.at hin7 rfl) (g := (mkF m 47 #[rv u] [(.int 2), (.ref u), (.double d1)])) rfl rfl (hb hby d_method_5_47) _ k_) ?_
    refine og s₁ (mkF m 49 #[rv u] [(.int (own_cmp r1 r2))]) (fun t_ k_ => XS.dcmpS X0.here hx rfl (hb hby d_method_5_48) rfl (own_dc _ D_d1 D_d2) k_) ?_
    by_cases hq8_ : r1 < r2
    · skip
      refine og s₁ (mkF m 64 #[rv u] []) (fun t_ k_ => XS.ifYes X0.here hx rfl (pc0 := 49) (pc' := 64) rfl (hb hby d_method_5_49) rfl ((if0 _ _).trans (tlt ((own_clt _ _).mpr hq8_)).1) (by decide) (by decide) k_) ?_
      refine og s₁ (mkF m 65 #[rv u] [(.ref u)]) (fun t_ k_ => XS.aloadN X0.here hx rfl (hb hby d_method_5_64) rfl rfl k_) ?_
      refine og s₁ (mkF m 66 #[rv u] [(.int 2), (.ref u)]) (fun t_ k_ => XS.iconst X0.here hx rfl (hb hby d_method_5_65) k_) ?_
      obtain ⟨cl9, Ar9, -, S9, Nn9, H9, -⟩ := id V_u
      have hin9 : ¬ ((2 : Int32) < 0 ∨ cl9.slots.size ≤ ((2 : Int32)).toNatClampNeg) := inb_of S9 ⟨by decide, by decide⟩
      refine og s₁ (mkF m 67 #[rv u] [(.double d2)]) (fun t_ k_ => X0.daload hx (j := (2 : Int32)) (v := (.double d2)) (by rw [e0]; exact Ar9.1) (State.isArrayOf_alike hZ.alike Ar9.2.1) Ar9.2.2 hin9 (H9.at hin9 rfl) (g := (mkF m 66 #[rv u] [(.int 2), (.ref u)])) rfl rfl (hb hby d_method_5_66) _ k_) ?_
      refine og s₁ (mkF m 68 #[rv u] [(.ref u), (.double d2)]) (fun t_ k_ => XS.aloadN X0.here hx rfl (hb hby d_method_5_67) rfl rfl k_) ?_
      refine og s₁ (mkF m 69 #[rv u] [(.int 0), (.ref u), (.double d2)]) (fun t_ k_ => XS.iconst X0.here hx rfl (hb hby d_method_5_68) k_) ?_
      obtain ⟨cl10, Ar10, -, S10, Nn10, H10, -⟩ := id V_u
      have hin10 : ¬ ((0 : Int32) < 0 ∨ cl10.slots.size ≤ ((0 : Int32)).toNatClampNeg) := inb_of S10 ⟨by decide, by decide⟩
      refine og s₁ (mkF m 70 #[rv u] [(.double d0), (.double d2)]) (fun t_ k_ => X0.daload hx (j := (0 : Int32)) (v := (.double d0)) (by rw [e0]; exact Ar10.1) (State.isArrayOf_alike hZ.alike Ar10.2.1) Ar10.2.2 hin10 (H10.at hin10 rfl) (g := (mkF m 69 #[rv u] [(.int 0), (.ref u), (.double d2)])) rfl rfl (hb hby d_method_5_69) _ k_) ?_
      refine og s₁ (mkF m 71 #[rv u] [(.int (own_cmp r2 r0))]) (fun t_ k_ => XS.dcmpS X0.here hx rfl (hb hby d_method_5_70) rfl (own_dc _ D_d2 D_d0) k_) ?_
      by_cases hq11_ : r0 < r2
      · skip
        refine og s₁ (mkF m 74 #[rv u] []) (fun t_ k_ => XS.ifNo X0.here hx rfl (hb hby d_method_5_71) rfl ((if0 _ _).trans (tlt ((own_cgt _ _).mpr hq11_)).2.2.2) k_) ?_
        refine og s₁ (mkF m 75 #[rv u] [(.ref u)]) (fun t_ k_ => XS.aloadN X0.here hx rfl (hb hby d_method_5_74) rfl rfl k_) ?_
        refine og s₁ (mkF m 76 #[rv u] [(.int 2), (.ref u)]) (fun t_ k_ => XS.iconst X0.here hx rfl (hb hby d_method_5_75) k_) ?_
        obtain ⟨cl12, Ar12, -, S12, Nn12, H12, -⟩ := id V_u
        have hin12 : ¬ ((2 : Int32) < 0 ∨ cl12.slots.size ≤ ((2 : Int32)).toNatClampNeg) := inb_of S12 ⟨by decide, by decide⟩
        refine og s₁ (mkF m 77 #[rv u] [(.double d2)]) (fun t_ k_ => X0.daload hx (j := (2 : Int32)) (v := (.double d2)) (by rw [e0]; exact Ar12.1) (State.isArrayOf_alike hZ.alike Ar12.2.1) Ar12.2.2 hin12 (H12.at hin12 rfl) (g := (mkF m 76 #[rv u] [(.int 2), (.ref u)])) rfl rfl (hb hby d_method_5_76) _ k_) ?_
        refine og s₁ (mkF m 78 #[rv u] [(.ref u), (.double d2)]) (fun t_ k_ => XS.aloadN X0.here hx rfl (hb hby d_method_5_77) rfl rfl k_) ?_
        refine og s₁ (mkF m 79 #[rv u] [(.int 1), (.ref u), (.double d2)]) (fun t_ k_ => XS.iconst X0.here hx rfl (hb hby d_method_5_78) k_) ?_
        obtain ⟨cl13, Ar13, -, S13, Nn13, H13, -⟩ := id V_u
        have hin13 : ¬ ((1 : Int32) < 0 ∨ cl13.slots.size ≤ ((1 : Int32)).toNatClampNeg) := inb_of S13 ⟨by decide, by decide⟩
        refine og s₁ (mkF m 80 #[rv u] [(.double d1), (.double d2)]) (fun t_ k_ => X0.daload hx (j := (1 : Int32)) (v := (.double d1)) (by rw [e0]; exact Ar13.1) (State.isArrayOf_alike hZ.alike Ar13.2.1) Ar13.2.2 hin13 (H13.at hin13 rfl) (g := (mkF m 79 #[rv u] [(.int 1), (.ref u), (.double d2)])) rfl rfl (hb hby d_method_5_79) _ k_) ?_
        refine og s₁ (mkF m 81 #[rv u] [(.int (own_cmp r2 r1))]) (fun t_ k_ => XS.dcmpS X0.here hx rfl (hb hby d_method_5_80) rfl (own_dc _ D_d2 D_d1) k_) ?_
        refine og s₁ (mkF m 84 #[rv u] []) (fun t_ k_ => XS.ifNo X0.here hx rfl (hb hby d_method_5_81) rfl ((if0 _ _).trans (tlt ((own_cgt _ _).mpr hq8_)).2.2.2) k_) ?_
        refine og s₁ (mkF m 85 #[rv u] [(.ref u)]) (fun t_ k_ => XS.aloadN X0.here hx rfl (hb hby d_method_5_84) rfl rfl k_) ?_
        refine og s₁ (mkF m 86 #[rv u] [(.int 2), (.ref u)]) (fun t_ k_ => XS.iconst X0.here hx rfl (hb hby d_method_5_85) k_) ?_
        obtain ⟨cl14, Ar14, -, S14, Nn14, H14, -⟩ := id V_u
        have hin14 : ¬ ((2 : Int32) < 0 ∨ cl14.slots.size ≤ ((2 : Int32)).toNatClampNeg) := inb_of S14 ⟨by decide, by decide⟩
        refine og s₁ (mkF m 87 #[rv u] [(.double d2)]) (fun t_ k_ => X0.daload hx (j := (2 : Int32)) (v := (.double d2)) (by rw [e0]; exact Ar14.1) (State.isArrayOf_alike hZ.alike Ar14.2.1) Ar14.2.2 hin14 (H14.at hin14 rfl) (g := (mkF m 86 #[rv u] [(.int 2), (.ref u)])) rfl rfl (hb hby d_method_5_86) _ k_) ?_
        refine og s₁ (mkF m 88 #[rv u] [(.ref u), (.double d2)]) (fun t_ k_ => XS.aloadN X0.here hx rfl (hb hby d_method_5_87) rfl rfl k_) ?_
        refine og s₁ (mkF m 89 #[rv u] [(.int 3), (.ref u), (.double d2)]) (fun t_ k_ => XS.iconst X0.here hx rfl (hb hby d_method_5_88) k_) ?_
        obtain ⟨cl15, Ar15, -, S15, Nn15, H15, -⟩ := id V_u
        have hin15 : ¬ ((3 : Int32) < 0 ∨ cl15.slots.size ≤ ((3 : Int32)).toNatClampNeg) := inb_of S15 ⟨by decide, by decide⟩
        refine og s₁ (mkF m 90 #[rv u] [(.double d3), (.double d2)]) (fun t_ k_ => X0.daload hx (j := (3 : Int32)) (v := (.double d3)) (by rw [e0]; exact Ar15.1) (State.isArrayOf_alike hZ.alike Ar15.2.1) Ar15.2.2 hin15 (H15.at hin15 rfl) (g := (mkF m 89 #[rv u] [(.int 3), (.ref u), (.double d2)])) rfl rfl (hb hby d_method_5_89) _ k_) ?_
        refine og s₁ (mkF m 91 #[rv u] [(.int (own_cmp r2 r3))]) (fun t_ k_ => XS.dcmpS X0.here hx rfl (hb hby d_method_5_90) rfl (own_dc _ D_d2 D_d3) k_) ?_
        by_cases hq16_ : r2 < r3
        · skip
          refine og s₁ (mkF m 96 #[rv u] []) (fun t_ k_ => XS.ifYes X0.here hx rfl (pc0 := 91) (pc' := 96) rfl (hb hby d_method_5_91) rfl ((if0 _ _).trans (tlt ((own_clt _ _).mpr hq16_)).1) (by decide) (by decide) k_) ?_
          refine og s₁ (mkF m 97 #[rv u] [(.int 3)]) (fun t_ k_ => XS.iconst X0.here hx rfl (hb hby d_method_5_96) k_) ?_
          exact own_out X0 (v := some (.int 3)) (fun h => by rw [hret] at h; cases h) hlk (fun fs hr => retI X0 hx hret (hb hby d_method_5_97) hr) (Q := Q_rm_topAt Z u d0 d1 d2 d3 r0 r1 r2 r3 k_u h0 n0) (by rw [e0]; exact ⟨(congrArg (fun z => some (Value.int z)) (show own_top r0 r1 r2 r3 = (3 : Int32) from by unfold own_top; (repeat' split) <;> first | rfl | (exfalso; omega)).symm), N0, rfl⟩) (by decide) (by decide)
        · skip
          refine og s₁ (mkF m 94 #[rv u] []) (fun t_ k_ => XS.ifNo X0.here hx rfl (hb hby d_method_5_91) rfl ((if0 _ _).trans (flt (fun z => hq16_ ((own_clt _ _).mp z))).1) k_) ?_
          refine og s₁ (mkF m 95 #[rv u] [(.int 2)]) (fun t_ k_ => XS.iconst X0.here hx rfl (hb hby d_method_5_94) k_) ?_
          exact own_out X0 (v := some (.int 2)) (fun h => by rw [hret] at h; cases h) hlk (fun fs hr => retI X0 hx hret (hb hby d_method_5_95) hr) (Q := Q_rm_topAt Z u d0 d1 d2 d3 r0 r1 r2 r3 k_u h0 n0) (by rw [e0]; exact ⟨(congrArg (fun z => some (Value.int z)) (show own_top r0 r1 r2 r3 = (2 : Int32) from by unfold own_top; (repeat' split) <;> first | rfl | (exfalso; omega)).symm), N0, rfl⟩) (by decide) (by decide)
      · skip
        refine og s₁ (mkF m 96 #[rv u] []) (fun t_ k_ => XS.ifYes X0.here hx rfl (pc0 := 71) (pc' := 96) rfl (hb hby d_method_5_71) rfl ((if0 _ _).trans (flt (fun z => hq11_ ((own_cgt _ _).mp z))).2.2.2) (by decide) (by decide) k_) ?_
        refine og s₁ (mkF m 97 #[rv u] [(.int 3)]) (fun t_ k_ => XS.iconst X0.here hx rfl (hb hby d_method_5_96) k_) ?_
        exact own_out X0 (v := some (.int 3)) (fun h => by rw [hret] at h; cases h) hlk (fun fs hr => retI X0 hx hret (hb hby d_method_5_97) hr) (Q := Q_rm_topAt Z u d0 d1 d2 d3 r0 r1 r2 r3 k_u h0 n0) (by rw [e0]; exact ⟨(congrArg (fun z => some (Value.int z)) (show own_top r0 r1 r2 r3 = (3 : Int32) from by unfold own_top; (repeat' split) <;> first | rfl | (exfalso; omega)).symm), N0, rfl⟩) (by decide) (by decide)
    · skip
      refine og s₁ (mkF m 52 #[rv u] []) (fun t_ k_ => XS.ifNo X0.here hx rfl (hb hby d_method_5_49) rfl ((if0 _ _).trans (flt (fun z => hq8_ ((own_clt _ _).mp z))).1) k_) ?_
      refine og s₁ (mkF m 53 #[rv u] [(.ref u)]) (fun t_ k_ => XS.aloadN X0.here hx rfl (hb hby d_method_5_52) rfl rfl k_) ?_
      refine og s₁ (mkF m 54 #[rv u] [(.int 1), (.ref u)]) (fun t_ k_ => XS.iconst X0.here hx rfl (hb hby d_method_5_53) k_) ?_
      obtain ⟨cl17, Ar17, -, S17, Nn17, H17, -⟩ := id V_u
      have hin17 : ¬ ((1 : Int32) < 0 ∨ cl17.slots.size ≤ ((1 : Int32)).toNatClampNeg) := inb_of S17 ⟨by decide, by decide⟩
      refine og s₁ (mkF m 55 #[rv u] [(.double d1)]) (fun t_ k_ => X0.daload hx (j := (1 : Int32)) (v := (.double d1)) (by rw [e0]; exact Ar17.1) (State.isArrayOf_alike hZ.alike Ar17.2.1) Ar17.2.2 hin17 (H17.at hin17 rfl) (g := (mkF m 54 #[rv u] [(.int 1), (.ref u)])) rfl rfl (hb hby d_method_5_54) _ k_) ?_
      refine og s₁ (mkF m 56 #[rv u] [(.ref u), (.double d1)]) (fun t_ k_ => XS.aloadN X0.here hx rfl (hb hby d_method_5_55) rfl rfl k_) ?_
      refine og s₁ (mkF m 57 #[rv u] [(.int 3), (.ref u), (.double d1)]) (fun t_ k_ => XS.iconst X0.here hx rfl (hb hby d_method_5_56) k_) ?_
      obtain ⟨cl18, Ar18, -, S18, Nn18, H18, -⟩ := id V_u
      have hin18 : ¬ ((3 : Int32) < 0 ∨ cl18.slots.size ≤ ((3 : Int32)).toNatClampNeg) := inb_of S18 ⟨by decide, by decide⟩
      refine og s₁ (mkF m 58 #[rv u] [(.double d3), (.double d1)]) (fun t_ k_ => X0.daload hx (j := (3 : Int32)) (v := (.double d3)) (by rw [e0]; exact Ar18.1) (State.isArrayOf_alike hZ.alike Ar18.2.1) Ar18.2.2 hin18 (H18.at hin18 rfl) (g := (mkF m 57 #[rv u] [(.int 3), (.ref u), (.double d1)])) rfl rfl (hb hby d_method_5_57) _ k_) ?_
      refine og s₁ (mkF m 59 #[rv u] [(.int (own_cmp r1 r3))]) (fun t_ k_ => XS.dcmpS X0.here hx rfl (hb hby d_method_5_58) rfl (own_dc _ D_d1 D_d3) k_) ?_
      by_cases hq19_ : r1 < r3
      · skip
        refine og s₁ (mkF m 64 #[rv u] []) (fun t_ k_ => XS.ifYes X0.here hx rfl (pc0 := 59) (pc' := 64) rfl (hb hby d_method_5_59) rfl ((if0 _ _).trans (tlt ((own_clt _ _).mpr hq19_)).1) (by decide) (by decide) k_) ?_
        refine og s₁ (mkF m 65 #[rv u] [(.ref u)]) (fun t_ k_ => XS.aloadN X0.here hx rfl (hb hby d_method_5_64) rfl rfl k_) ?_
        refine og s₁ (mkF m 66 #[rv u] [(.int 2), (.ref u)]) (fun t_ k_ => XS.iconst X0.here hx rfl (hb hby d_method_5_65) k_) ?_
        obtain ⟨cl20, Ar20, -, S20, Nn20, H20, -⟩ := id V_u
        have hin20 : ¬ ((2 : Int32) < 0 ∨ cl20.slots.size ≤ ((2 : Int32)).toNatClampNeg) := inb_of S20 ⟨by decide, by decide⟩
        refine og s₁ (mkF m 67 #[rv u] [(.double d2)]) (fun t_ k_ => X0.daload hx (j := (2 : Int32)) (v := (.double d2)) (by rw [e0]; exact Ar20.1) (State.isArrayOf_alike hZ.alike Ar20.2.1) Ar20.2.2 hin20 (H20.at hin20 rfl) (g := (mkF m 66 #[rv u] [(.int 2), (.ref u)])) rfl rfl (hb hby d_method_5_66) _ k_) ?_
        refine og s₁ (mkF m 68 #[rv u] [(.ref u), (.double d2)]) (fun t_ k_ => XS.aloadN X0.here hx rfl (hb hby d_method_5_67) rfl rfl k_) ?_
        refine og s₁ (mkF m 69 #[rv u] [(.int 0), (.ref u), (.double d2)]) (fun t_ k_ => XS.iconst X0.here hx rfl (hb hby d_method_5_68) k_) ?_
        obtain ⟨cl21, Ar21, -, S21, Nn21, H21, -⟩ := id V_u
        have hin21 : ¬ ((0 : Int32) < 0 ∨ cl21.slots.size ≤ ((0 : Int32)).toNatClampNeg) := inb_of S21 ⟨by decide, by decide⟩
        refine og s₁ (mkF m 70 #[rv u] [(.double d0), (.double d2)]) (fun t_ k_ => X0.daload hx (j := (0 : Int32)) (v := (.double d0)) (by rw [e0]; exact Ar21.1) (State.isArrayOf_alike hZ.alike Ar21.2.1) Ar21.2.2 hin21 (H21.at hin21 rfl) (g := (mkF m 69 #[rv u] [(.int 0), (.ref u), (.double d2)])) rfl rfl (hb hby d_method_5_69) _ k_) ?_
        refine og s₁ (mkF m 71 #[rv u] [(.int (own_cmp r2 r0))]) (fun t_ k_ => XS.dcmpS X0.here hx rfl (hb hby d_method_5_70) rfl (own_dc _ D_d2 D_d0) k_) ?_
        by_cases hq22_ : r0 < r2
        · skip
          refine og s₁ (mkF m 74 #[rv u] []) (fun t_ k_ => XS.ifNo X0.here hx rfl (hb hby d_method_5_71) rfl ((if0 _ _).trans (tlt ((own_cgt _ _).mpr hq22_)).2.2.2) k_) ?_
          refine og s₁ (mkF m 75 #[rv u] [(.ref u)]) (fun t_ k_ => XS.aloadN X0.here hx rfl (hb hby d_method_5_74) rfl rfl k_) ?_
          refine og s₁ (mkF m 76 #[rv u] [(.int 2), (.ref u)]) (fun t_ k_ => XS.iconst X0.here hx rfl (hb hby d_method_5_75) k_) ?_
          obtain ⟨cl23, Ar23, -, S23, Nn23, H23, -⟩ := id V_u
          have hin23 : ¬ ((2 : Int32) < 0 ∨ cl23.slots.size ≤ ((2 : Int32)).toNatClampNeg) := inb_of S23 ⟨by decide, by decide⟩
          refine og s₁ (mkF m 77 #[rv u] [(.double d2)]) (fun t_ k_ => X0.daload hx (j := (2 : Int32)) (v := (.double d2)) (by rw [e0]; exact Ar23.1) (State.isArrayOf_alike hZ.alike Ar23.2.1) Ar23.2.2 hin23 (H23.at hin23 rfl) (g := (mkF m 76 #[rv u] [(.int 2), (.ref u)])) rfl rfl (hb hby d_method_5_76) _ k_) ?_
          refine og s₁ (mkF m 78 #[rv u] [(.ref u), (.double d2)]) (fun t_ k_ => XS.aloadN X0.here hx rfl (hb hby d_method_5_77) rfl rfl k_) ?_
          refine og s₁ (mkF m 79 #[rv u] [(.int 1), (.ref u), (.double d2)]) (fun t_ k_ => XS.iconst X0.here hx rfl (hb hby d_method_5_78) k_) ?_
          obtain ⟨cl24, Ar24, -, S24, Nn24, H24, -⟩ := id V_u
          have hin24 : ¬ ((1 : Int32) < 0 ∨ cl24.slots.size ≤ ((1 : Int32)).toNatClampNeg) := inb_of S24 ⟨by decide, by decide⟩
          refine og s₁ (mkF m 80 #[rv u] [(.double d1), (.double d2)]) (fun t_ k_ => X0.daload hx (j := (1 : Int32)) (v := (.double d1)) (by rw [e0]; exact Ar24.1) (State.isArrayOf_alike hZ.alike Ar24.2.1) Ar24.2.2 hin24 (H24.at hin24 rfl) (g := (mkF m 79 #[rv u] [(.int 1), (.ref u), (.double d2)])) rfl rfl (hb hby d_method_5_79) _ k_) ?_
          refine og s₁ (mkF m 81 #[rv u] [(.int (own_cmp r2 r1))]) (fun t_ k_ => XS.dcmpS X0.here hx rfl (hb hby d_method_5_80) rfl (own_dc _ D_d2 D_d1) k_) ?_
          refine og s₁ (mkF m 96 #[rv u] []) (fun t_ k_ => XS.ifYes X0.here hx rfl (pc0 := 81) (pc' := 96) rfl (hb hby d_method_5_81) rfl ((if0 _ _).trans (flt (fun z => hq8_ ((own_cgt _ _).mp z))).2.2.2) (by decide) (by decide) k_) ?_
          refine og s₁ (mkF m 97 #[rv u] [(.int 3)]) (fun t_ k_ => XS.iconst X0.here hx rfl (hb hby d_method_5_96) k_) ?_
          exact own_out X0 (v := some (.int 3)) (fun h => by rw [hret] at h; cases h) hlk (fun fs hr => retI X0 hx hret (hb hby d_method_5_97) hr) (Q := Q_rm_topAt Z u d0 d1 d2 d3 r0 r1 r2 r3 k_u h0 n0) (by rw [e0]; exact ⟨(congrArg (fun z => some (Value.int z)) (show own_top r0 r1 r2 r3 = (3 : Int32) from by unfold own_top; (repeat' split) <;> first | rfl | (exfalso; omega)).symm), N0, rfl⟩) (by decide) (by decide)
        · skip
          refine og s₁ (mkF m 96 #[rv u] []) (fun t_ k_ => XS.ifYes X0.here hx rfl (pc0 := 71) (pc' := 96) rfl (hb hby d_method_5_71) rfl ((if0 _ _).trans (flt (fun z => hq22_ ((own_cgt _ _).mp z))).2.2.2) (by decide) (by decide) k_) ?_
          refine og s₁ (mkF m 97 #[rv u] [(.int 3)]) (fun t_ k_ => XS.iconst X0.here hx rfl (hb hby d_method_5_96) k_) ?_
          exact own_out X0 (v := some (.int 3)) (fun h => by rw [hret] at h; cases h) hlk (fun fs hr => retI X0 hx hret (hb hby d_method_5_97) hr) (Q := Q_rm_topAt Z u d0 d1 d2 d3 r0 r1 r2 r3 k_u h0 n0) (by rw [e0]; exact ⟨(congrArg (fun z => some (Value.int z)) (show own_top r0 r1 r2 r3 = (3 : Int32) from by unfold own_top; (repeat' split) <;> first | rfl | (exfalso; omega)).symm), N0, rfl⟩) (by decide) (by decide)
      · skip
        refine og s₁ (mkF m 62 #[rv u] []) (fun t_ k_ => XS.ifNo X0.here hx rfl (hb hby d_method_5_59) rfl ((if0 _ _).trans (flt (fun z => hq19_ ((own_clt _ _).mp z))).1) k_) ?_
        refine og s₁ (mkF m 63 #[rv u] [(.int 1)]) (fun t_ k_ => XS.iconst X0.here hx rfl (hb hby d_method_5_62) k_) ?_
        exact own_out X0 (v := some (.int 1)) (fun h => by rw [hret] at h; cases h) hlk (fun fs hr => retI X0 hx hret (hb hby d_method_5_63) hr) (Q := Q_rm_topAt Z u d0 d1 d2 d3 r0 r1 r2 r3 k_u h0 n0) (by rw [e0]; exact ⟨(congrArg (fun z => some (Value.int z)) (show own_top r0 r1 r2 r3 = (1 : Int32) from by unfold own_top; (repeat' split) <;> first | rfl | (exfalso; omega)).symm), N0, rfl⟩) (by decide) (by decide)
  · skip
    refine og s₁ (mkF m 10 #[rv u] []) (fun t_ k_ => XS.ifNo X0.here hx rfl (hb hby d_method_5_7) rfl ((if0 _ _).trans (flt (fun z => hq3_ ((own_clt _ _).mp z))).1) k_) ?_
    refine og s₁ (mkF m 11 #[rv u] [(.ref u)]) (fun t_ k_ => XS.aloadN X0.here hx rfl (hb hby d_method_5_10) rfl rfl k_) ?_
    refine og s₁ (mkF m 12 #[rv u] [(.int 0), (.ref u)]) (fun t_ k_ => XS.iconst X0.here hx rfl (hb hby d_method_5_11) k_) ?_
    obtain ⟨cl25, Ar25, -, S25, Nn25, H25, -⟩ := id V_u
    have hin25 : ¬ ((0 : Int32) < 0 ∨ cl25.slots.size ≤ ((0 : Int32)).toNatClampNeg) := inb_of S25 ⟨by decide, by decide⟩
    refine og s₁ (mkF m 13 #[rv u] [(.double d0)]) (fun t_ k_ => X0.daload hx (j := (0 : Int32)) (v := (.double d0)) (by rw [e0]; exact Ar25.1) (State.isArrayOf_alike hZ.alike Ar25.2.1) Ar25.2.2 hin25 (H25.at hin25 rfl) (g := (mkF m 12 #[rv u] [(.int 0), (.ref u)])) rfl rfl (hb hby d_method_5_12) _ k_) ?_
    refine og s₁ (mkF m 14 #[rv u] [(.ref u), (.double d0)]) (fun t_ k_ => XS.aloadN X0.here hx rfl (hb hby d_method_5_13) rfl rfl k_) ?_
    refine og s₁ (mkF m 15 #[rv u] [(.int 2), (.ref u), (.double d0)]) (fun t_ k_ => XS.iconst X0.here hx rfl (hb hby d_method_5_14) k_) ?_
    obtain ⟨cl26, Ar26, -, S26, Nn26, H26, -⟩ := id V_u
    have hin26 : ¬ ((2 : Int32) < 0 ∨ cl26.slots.size ≤ ((2 : Int32)).toNatClampNeg) := inb_of S26 ⟨by decide, by decide⟩
    refine og s₁ (mkF m 16 #[rv u] [(.double d2), (.double d0)]) (fun t_ k_ => X0.daload hx (j := (2 : Int32)) (v := (.double d2)) (by rw [e0]; exact Ar26.1) (State.isArrayOf_alike hZ.alike Ar26.2.1) Ar26.2.2 hin26 (H26.at hin26 rfl) (g := (mkF m 15 #[rv u] [(.int 2), (.ref u), (.double d0)])) rfl rfl (hb hby d_method_5_15) _ k_) ?_
    refine og s₁ (mkF m 17 #[rv u] [(.int (own_cmp r0 r2))]) (fun t_ k_ => XS.dcmpS X0.here hx rfl (hb hby d_method_5_16) rfl (own_dc _ D_d0 D_d2) k_) ?_
    by_cases hq27_ : r0 < r2
    · skip
      refine og s₁ (mkF m 32 #[rv u] []) (fun t_ k_ => XS.ifYes X0.here hx rfl (pc0 := 17) (pc' := 32) rfl (hb hby d_method_5_17) rfl ((if0 _ _).trans (tlt ((own_clt _ _).mpr hq27_)).1) (by decide) (by decide) k_) ?_
      refine og s₁ (mkF m 33 #[rv u] [(.ref u)]) (fun t_ k_ => XS.aloadN X0.here hx rfl (hb hby d_method_5_32) rfl rfl k_) ?_
      refine og s₁ (mkF m 34 #[rv u] [(.int 1), (.ref u)]) (fun t_ k_ => XS.iconst X0.here hx rfl (hb hby d_method_5_33) k_) ?_
      obtain ⟨cl28, Ar28, -, S28, Nn28, H28, -⟩ := id V_u
      have hin28 : ¬ ((1 : Int32) < 0 ∨ cl28.slots.size ≤ ((1 : Int32)).toNatClampNeg) := inb_of S28 ⟨by decide, by decide⟩
      refine og s₁ (mkF m 35 #[rv u] [(.double d1)]) (fun t_ k_ => X0.daload hx (j := (1 : Int32)) (v := (.double d1)) (by rw [e0]; exact Ar28.1) (State.isArrayOf_alike hZ.alike Ar28.2.1) Ar28.2.2 hin28 (H28.at hin28 rfl) (g := (mkF m 34 #[rv u] [(.int 1), (.ref u)])) rfl rfl (hb hby d_method_5_34) _ k_) ?_
      refine og s₁ (mkF m 36 #[rv u] [(.ref u), (.double d1)]) (fun t_ k_ => XS.aloadN X0.here hx rfl (hb hby d_method_5_35) rfl rfl k_) ?_
      refine og s₁ (mkF m 37 #[rv u] [(.int 0), (.ref u), (.double d1)]) (fun t_ k_ => XS.iconst X0.here hx rfl (hb hby d_method_5_36) k_) ?_
      obtain ⟨cl29, Ar29, -, S29, Nn29, H29, -⟩ := id V_u
      have hin29 : ¬ ((0 : Int32) < 0 ∨ cl29.slots.size ≤ ((0 : Int32)).toNatClampNeg) := inb_of S29 ⟨by decide, by decide⟩
      refine og s₁ (mkF m 38 #[rv u] [(.double d0), (.double d1)]) (fun t_ k_ => X0.daload hx (j := (0 : Int32)) (v := (.double d0)) (by rw [e0]; exact Ar29.1) (State.isArrayOf_alike hZ.alike Ar29.2.1) Ar29.2.2 hin29 (H29.at hin29 rfl) (g := (mkF m 37 #[rv u] [(.int 0), (.ref u), (.double d1)])) rfl rfl (hb hby d_method_5_37) _ k_) ?_
      refine og s₁ (mkF m 39 #[rv u] [(.int (own_cmp r1 r0))]) (fun t_ k_ => XS.dcmpS X0.here hx rfl (hb hby d_method_5_38) rfl (own_dc _ D_d1 D_d0) k_) ?_
      refine og s₁ (mkF m 64 #[rv u] []) (fun t_ k_ => XS.ifYes X0.here hx rfl (pc0 := 39) (pc' := 64) rfl (hb hby d_method_5_39) rfl ((if0 _ _).trans (flt (fun z => hq3_ ((own_cgt _ _).mp z))).2.2.2) (by decide) (by decide) k_) ?_
      refine og s₁ (mkF m 65 #[rv u] [(.ref u)]) (fun t_ k_ => XS.aloadN X0.here hx rfl (hb hby d_method_5_64) rfl rfl k_) ?_
      refine og s₁ (mkF m 66 #[rv u] [(.int 2), (.ref u)]) (fun t_ k_ => XS.iconst X0.here hx rfl (hb hby d_method_5_65) k_) ?_
      obtain ⟨cl30, Ar30, -, S30, Nn30, H30, -⟩ := id V_u
      have hin30 : ¬ ((2 : Int32) < 0 ∨ cl30.slots.size ≤ ((2 : Int32)).toNatClampNeg) := inb_of S30 ⟨by decide, by decide⟩
      refine og s₁ (mkF m 67 #[rv u] [(.double d2)]) (fun t_ k_ => X0.daload hx (j := (2 : Int32)) (v := (.double d2)) (by rw [e0]; exact Ar30.1) (State.isArrayOf_alike hZ.alike Ar30.2.1) Ar30.2.2 hin30 (H30.at hin30 rfl) (g := (mkF m 66 #[rv u] [(.int 2), (.ref u)])) rfl rfl (hb hby d_method_5_66) _ k_) ?_
      refine og s₁ (mkF m 68 #[rv u] [(.ref u), (.double d2)]) (fun t_ k_ => XS.aloadN X0.here hx rfl (hb hby d_method_5_67) rfl rfl k_) ?_
      refine og s₁ (mkF m 69 #[rv u] [(.int 0), (.ref u), (.double d2)]) (fun t_ k_ => XS.iconst X0.here hx rfl (hb hby d_method_5_68) k_) ?_
      obtain ⟨cl31, Ar31, -, S31, Nn31, H31, -⟩ := id V_u
      have hin31 : ¬ ((0 : Int32) < 0 ∨ cl31.slots.size ≤ ((0 : Int32)).toNatClampNeg) := inb_of S31 ⟨by decide, by decide⟩
      refine og s₁ (mkF m 70 #[rv u] [(.double d0), (.double d2)]) (fun t_ k_ => X0.daload hx (j := (0 : Int32)) (v := (.double d0)) (by rw [e0]; exact Ar31.1) (State.isArrayOf_alike hZ.alike Ar31.2.1) Ar31.2.2 hin31 (H31.at hin31 rfl) (g := (mkF m 69 #[rv u] [(.int 0), (.ref u), (.double d2)])) rfl rfl (hb hby d_method_5_69) _ k_) ?_
      refine og s₁ (mkF m 71 #[rv u] [(.int (own_cmp r2 r0))]) (fun t_ k_ => XS.dcmpS X0.here hx rfl (hb hby d_method_5_70) rfl (own_dc _ D_d2 D_d0) k_) ?_
      refine og s₁ (mkF m 74 #[rv u] []) (fun t_ k_ => XS.ifNo X0.here hx rfl (hb hby d_method_5_71) rfl ((if0 _ _).trans (tlt ((own_cgt _ _).mpr hq27_)).2.2.2) k_) ?_
      refine og s₁ (mkF m 75 #[rv u] [(.ref u)]) (fun t_ k_ => XS.aloadN X0.here hx rfl (hb hby d_method_5_74) rfl rfl k_) ?_
      refine og s₁ (mkF m 76 #[rv u] [(.int 2), (.ref u)]) (fun t_ k_ => XS.iconst X0.here hx rfl (hb hby d_method_5_75) k_) ?_
      obtain ⟨cl32, Ar32, -, S32, Nn32, H32, -⟩ := id V_u
      have hin32 : ¬ ((2 : Int32) < 0 ∨ cl32.slots.size ≤ ((2 : Int32)).toNatClampNeg) := inb_of S32 ⟨by decide, by decide⟩
      refine og s₁ (mkF m 77 #[rv u] [(.double d2)]) (fun t_ k_ => X0.daload hx (j := (2 : Int32)) (v := (.double d2)) (by rw [e0]; exact Ar32.1) (State.isArrayOf_alike hZ.alike Ar32.2.1) Ar32.2.2 hin32 (H32.at hin32 rfl) (g := (mkF m 76 #[rv u] [(.int 2), (.ref u)])) rfl rfl (hb hby d_method_5_76) _ k_) ?_
      refine og s₁ (mkF m 78 #[rv u] [(.ref u), (.double d2)]) (fun t_ k_ => XS.aloadN X0.here hx rfl (hb hby d_method_5_77) rfl rfl k_) ?_
      refine og s₁ (mkF m 79 #[rv u] [(.int 1), (.ref u), (.double d2)]) (fun t_ k_ => XS.iconst X0.here hx rfl (hb hby d_method_5_78) k_) ?_
      obtain ⟨cl33, Ar33, -, S33, Nn33, H33, -⟩ := id V_u
      have hin33 : ¬ ((1 : Int32) < 0 ∨ cl33.slots.size ≤ ((1 : Int32)).toNatClampNeg) := inb_of S33 ⟨by decide, by decide⟩
      refine og s₁ (mkF m 80 #[rv u] [(.double d1), (.double d2)]) (fun t_ k_ => X0.daload hx (j := (1 : Int32)) (v := (.double d1)) (by rw [e0]; exact Ar33.1) (State.isArrayOf_alike hZ.alike Ar33.2.1) Ar33.2.2 hin33 (H33.at hin33 rfl) (g := (mkF m 79 #[rv u] [(.int 1), (.ref u), (.double d2)])) rfl rfl (hb hby d_method_5_79) _ k_) ?_
      refine og s₁ (mkF m 81 #[rv u] [(.int (own_cmp r2 r1))]) (fun t_ k_ => XS.dcmpS X0.here hx rfl (hb hby d_method_5_80) rfl (own_dc _ D_d2 D_d1) k_) ?_
      by_cases hq34_ : r1 < r2
      · skip
        refine og s₁ (mkF m 84 #[rv u] []) (fun t_ k_ => XS.ifNo X0.here hx rfl (hb hby d_method_5_81) rfl ((if0 _ _).trans (tlt ((own_cgt _ _).mpr hq34_)).2.2.2) k_) ?_
        refine og s₁ (mkF m 85 #[rv u] [(.ref u)]) (fun t_ k_ => XS.aloadN X0.here hx rfl (hb hby d_method_5_84) rfl rfl k_) ?_
        refine og s₁ (mkF m 86 #[rv u] [(.int 2), (.ref u)]) (fun t_ k_ => XS.iconst X0.here hx rfl (hb hby d_method_5_85) k_) ?_
        obtain ⟨cl35, Ar35, -, S35, Nn35, H35, -⟩ := id V_u
        have hin35 : ¬ ((2 : Int32) < 0 ∨ cl35.slots.size ≤ ((2 : Int32)).toNatClampNeg) := inb_of S35 ⟨by decide, by decide⟩
        refine og s₁ (mkF m 87 #[rv u] [(.double d2)]) (fun t_ k_ => X0.daload hx (j := (2 : Int32)) (v := (.double d2)) (by rw [e0]; exact Ar35.1) (State.isArrayOf_alike hZ.alike Ar35.2.1) Ar35.2.2 hin35 (H35.at hin35 rfl) (g := (mkF m 86 #[rv u] [(.int 2), (.ref u)])) rfl rfl (hb hby d_method_5_86) _ k_) ?_
        refine og s₁ (mkF m 88 #[rv u] [(.ref u), (.double d2)]) (fun t_ k_ => XS.aloadN X0.here hx rfl (hb hby d_method_5_87) rfl rfl k_) ?_
        refine og s₁ (mkF m 89 #[rv u] [(.int 3), (.ref u), (.double d2)]) (fun t_ k_ => XS.iconst X0.here hx rfl (hb hby d_method_5_88) k_) ?_
        obtain ⟨cl36, Ar36, -, S36, Nn36, H36, -⟩ := id V_u
        have hin36 : ¬ ((3 : Int32) < 0 ∨ cl36.slots.size ≤ ((3 : Int32)).toNatClampNeg) := inb_of S36 ⟨by decide, by decide⟩
        refine og s₁ (mkF m 90 #[rv u] [(.double d3), (.double d2)]) (fun t_ k_ => X0.daload hx (j := (3 : Int32)) (v := (.double d3)) (by rw [e0]; exact Ar36.1) (State.isArrayOf_alike hZ.alike Ar36.2.1) Ar36.2.2 hin36 (H36.at hin36 rfl) (g := (mkF m 89 #[rv u] [(.int 3), (.ref u), (.double d2)])) rfl rfl (hb hby d_method_5_89) _ k_) ?_
        refine og s₁ (mkF m 91 #[rv u] [(.int (own_cmp r2 r3))]) (fun t_ k_ => XS.dcmpS X0.here hx rfl (hb hby d_method_5_90) rfl (own_dc _ D_d2 D_d3) k_) ?_
        by_cases hq37_ : r2 < r3
        · skip
          refine og s₁ (mkF m 96 #[rv u] []) (fun t_ k_ => XS.ifYes X0.here hx rfl (pc0 := 91) (pc' := 96) rfl (hb hby d_method_5_91) rfl ((if0 _ _).trans (tlt ((own_clt _ _).mpr hq37_)).1) (by decide) (by decide) k_) ?_
          refine og s₁ (mkF m 97 #[rv u] [(.int 3)]) (fun t_ k_ => XS.iconst X0.here hx rfl (hb hby d_method_5_96) k_) ?_
          exact own_out X0 (v := some (.int 3)) (fun h => by rw [hret] at h; cases h) hlk (fun fs hr => retI X0 hx hret (hb hby d_method_5_97) hr) (Q := Q_rm_topAt Z u d0 d1 d2 d3 r0 r1 r2 r3 k_u h0 n0) (by rw [e0]; exact ⟨(congrArg (fun z => some (Value.int z)) (show own_top r0 r1 r2 r3 = (3 : Int32) from by unfold own_top; (repeat' split) <;> first | rfl | (exfalso; omega)).symm), N0, rfl⟩) (by decide) (by decide)
        · skip
          refine og s₁ (mkF m 94 #[rv u] []) (fun t_ k_ => XS.ifNo X0.here hx rfl (hb hby d_method_5_91) rfl ((if0 _ _).trans (flt (fun z => hq37_ ((own_clt _ _).mp z))).1) k_) ?_
          refine og s₁ (mkF m 95 #[rv u] [(.int 2)]) (fun t_ k_ => XS.iconst X0.here hx rfl (hb hby d_method_5_94) k_) ?_
          exact own_out X0 (v := some (.int 2)) (fun h => by rw [hret] at h; cases h) hlk (fun fs hr => retI X0 hx hret (hb hby d_method_5_95) hr) (Q := Q_rm_topAt Z u d0 d1 d2 d3 r0 r1 r2 r3 k_u h0 n0) (by rw [e0]; exact ⟨(congrArg (fun z => some (Value.int z)) (show own_top r0 r1 r2 r3 = (2 : Int32) from by unfold own_top; (repeat' split) <;> first | rfl | (exfalso; omega)).symm), N0, rfl⟩) (by decide) (by decide)
      · skip
        refine og s₁ (mkF m 96 #[rv u] []) (fun t_ k_ => XS.ifYes X0.here hx rfl (pc0 := 81) (pc' := 96) rfl (hb hby d_method_5_81) rfl ((if0 _ _).trans (flt (fun z => hq34_ ((own_cgt _ _).mp z))).2.2.2) (by decide) (by decide) k_) ?_
        refine og s₁ (mkF m 97 #[rv u] [(.int 3)]) (fun t_ k_ => XS.iconst X0.here hx rfl (hb hby d_method_5_96) k_) ?_
        exact own_out X0 (v := some (.int 3)) (fun h => by rw [hret] at h; cases h) hlk (fun fs hr => retI X0 hx hret (hb hby d_method_5_97) hr) (Q := Q_rm_topAt Z u d0 d1 d2 d3 r0 r1 r2 r3 k_u h0 n0) (by rw [e0]; exact ⟨(congrArg (fun z => some (Value.int z)) (show own_top r0 r1 r2 r3 = (3 : Int32) from by unfold own_top; (repeat' split) <;> first | rfl | (exfalso; omega)).symm), N0, rfl⟩) (by decide) (by decide)
    · skip
      refine og s₁ (mkF m 20 #[rv u] []) (fun t_ k_ => XS.ifNo X0.here hx rfl (hb hby d_method_5_17) rfl ((if0 _ _).trans (flt (fun z => hq27_ ((own_clt _ _).mp z))).1) k_) ?_
      refine og s₁ (mkF m 21 #[rv u] [(.ref u)]) (fun t_ k_ => XS.aloadN X0.here hx rfl (hb hby d_method_5_20) rfl rfl k_) ?_
      refine og s₁ (mkF m 22 #[rv u] [(.int 0), (.ref u)]) (fun t_ k_ => XS.iconst X0.here hx rfl (hb hby d_method_5_21) k_) ?_
      obtain ⟨cl38, Ar38, -, S38, Nn38, H38, -⟩ := id V_u
      have hin38 : ¬ ((0 : Int32) < 0 ∨ cl38.slots.size ≤ ((0 : Int32)).toNatClampNeg) := inb_of S38 ⟨by decide, by decide⟩
      refine og s₁ (mkF m 23 #[rv u] [(.double d0)]) (fun t_ k_ => X0.daload hx (j := (0 : Int32)) (v := (.double d0)) (by rw [e0]; exact Ar38.1) (State.isArrayOf_alike hZ.alike Ar38.2.1) Ar38.2.2 hin38 (H38.at hin38 rfl) (g := (mkF m 22 #[rv u] [(.int 0), (.ref u)])) rfl rfl (hb hby d_method_5_22) _ k_) ?_
      refine og s₁ (mkF m 24 #[rv u] [(.ref u), (.double d0)]) (fun t_ k_ => XS.aloadN X0.here hx rfl (hb hby d_method_5_23) rfl rfl k_) ?_
      refine og s₁ (mkF m 25 #[rv u] [(.int 3), (.ref u), (.double d0)]) (fun t_ k_ => XS.iconst X0.here hx rfl (hb hby d_method_5_24) k_) ?_
      obtain ⟨cl39, Ar39, -, S39, Nn39, H39, -⟩ := id V_u
      have hin39 : ¬ ((3 : Int32) < 0 ∨ cl39.slots.size ≤ ((3 : Int32)).toNatClampNeg) := inb_of S39 ⟨by decide, by decide⟩
      refine og s₁ (mkF m 26 #[rv u] [(.double d3), (.double d0)]) (fun t_ k_ => X0.daload hx (j := (3 : Int32)) (v := (.double d3)) (by rw [e0]; exact Ar39.1) (State.isArrayOf_alike hZ.alike Ar39.2.1) Ar39.2.2 hin39 (H39.at hin39 rfl) (g := (mkF m 25 #[rv u] [(.int 3), (.ref u), (.double d0)])) rfl rfl (hb hby d_method_5_25) _ k_) ?_
      refine og s₁ (mkF m 27 #[rv u] [(.int (own_cmp r0 r3))]) (fun t_ k_ => XS.dcmpS X0.here hx rfl (hb hby d_method_5_26) rfl (own_dc _ D_d0 D_d3) k_) ?_
      by_cases hq40_ : r0 < r3
      · skip
        refine og s₁ (mkF m 32 #[rv u] []) (fun t_ k_ => XS.ifYes X0.here hx rfl (pc0 := 27) (pc' := 32) rfl (hb hby d_method_5_27) rfl ((if0 _ _).trans (tlt ((own_clt _ _).mpr hq40_)).1) (by decide) (by decide) k_) ?_
        refine og s₁ (mkF m 33 #[rv u] [(.ref u)]) (fun t_ k_ => XS.aloadN X0.here hx rfl (hb hby d_method_5_32) rfl rfl k_) ?_
        refine og s₁ (mkF m 34 #[rv u] [(.int 1), (.ref u)]) (fun t_ k_ => XS.iconst X0.here hx rfl (hb hby d_method_5_33) k_) ?_
        obtain ⟨cl41, Ar41, -, S41, Nn41, H41, -⟩ := id V_u
        have hin41 : ¬ ((1 : Int32) < 0 ∨ cl41.slots.size ≤ ((1 : Int32)).toNatClampNeg) := inb_of S41 ⟨by decide, by decide⟩
        refine og s₁ (mkF m 35 #[rv u] [(.double d1)]) (fun t_ k_ => X0.daload hx (j := (1 : Int32)) (v := (.double d1)) (by rw [e0]; exact Ar41.1) (State.isArrayOf_alike hZ.alike Ar41.2.1) Ar41.2.2 hin41 (H41.at hin41 rfl) (g := (mkF m 34 #[rv u] [(.int 1), (.ref u)])) rfl rfl (hb hby d_method_5_34) _ k_) ?_
        refine og s₁ (mkF m 36 #[rv u] [(.ref u), (.double d1)]) (fun t_ k_ => XS.aloadN X0.here hx rfl (hb hby d_method_5_35) rfl rfl k_) ?_
        refine og s₁ (mkF m 37 #[rv u] [(.int 0), (.ref u), (.double d1)]) (fun t_ k_ => XS.iconst X0.here hx rfl (hb hby d_method_5_36) k_) ?_
        obtain ⟨cl42, Ar42, -, S42, Nn42, H42, -⟩ := id V_u
        have hin42 : ¬ ((0 : Int32) < 0 ∨ cl42.slots.size ≤ ((0 : Int32)).toNatClampNeg) := inb_of S42 ⟨by decide, by decide⟩
        refine og s₁ (mkF m 38 #[rv u] [(.double d0), (.double d1)]) (fun t_ k_ => X0.daload hx (j := (0 : Int32)) (v := (.double d0)) (by rw [e0]; exact Ar42.1) (State.isArrayOf_alike hZ.alike Ar42.2.1) Ar42.2.2 hin42 (H42.at hin42 rfl) (g := (mkF m 37 #[rv u] [(.int 0), (.ref u), (.double d1)])) rfl rfl (hb hby d_method_5_37) _ k_) ?_
        refine og s₁ (mkF m 39 #[rv u] [(.int (own_cmp r1 r0))]) (fun t_ k_ => XS.dcmpS X0.here hx rfl (hb hby d_method_5_38) rfl (own_dc _ D_d1 D_d0) k_) ?_
        refine og s₁ (mkF m 64 #[rv u] []) (fun t_ k_ => XS.ifYes X0.here hx rfl (pc0 := 39) (pc' := 64) rfl (hb hby d_method_5_39) rfl ((if0 _ _).trans (flt (fun z => hq3_ ((own_cgt _ _).mp z))).2.2.2) (by decide) (by decide) k_) ?_
        refine og s₁ (mkF m 65 #[rv u] [(.ref u)]) (fun t_ k_ => XS.aloadN X0.here hx rfl (hb hby d_method_5_64) rfl rfl k_) ?_
        refine og s₁ (mkF m 66 #[rv u] [(.int 2), (.ref u)]) (fun t_ k_ => XS.iconst X0.here hx rfl (hb hby d_method_5_65) k_) ?_
        obtain ⟨cl43, Ar43, -, S43, Nn43, H43, -⟩ := id V_u
        have hin43 : ¬ ((2 : Int32) < 0 ∨ cl43.slots.size ≤ ((2 : Int32)).toNatClampNeg) := inb_of S43 ⟨by decide, by decide⟩
        refine og s₁ (mkF m 67 #[rv u] [(.double d2)]) (fun t_ k_ => X0.daload hx (j := (2 : Int32)) (v := (.double d2)) (by rw [e0]; exact Ar43.1) (State.isArrayOf_alike hZ.alike Ar43.2.1) Ar43.2.2 hin43 (H43.at hin43 rfl) (g := (mkF m 66 #[rv u] [(.int 2), (.ref u)])) rfl rfl (hb hby d_method_5_66) _ k_) ?_
        refine og s₁ (mkF m 68 #[rv u] [(.ref u), (.double d2)]) (fun t_ k_ => XS.aloadN X0.here hx rfl (hb hby d_method_5_67) rfl rfl k_) ?_
        refine og s₁ (mkF m 69 #[rv u] [(.int 0), (.ref u), (.double d2)]) (fun t_ k_ => XS.iconst X0.here hx rfl (hb hby d_method_5_68) k_) ?_
        obtain ⟨cl44, Ar44, -, S44, Nn44, H44, -⟩ := id V_u
        have hin44 : ¬ ((0 : Int32) < 0 ∨ cl44.slots.size ≤ ((0 : Int32)).toNatClampNeg) := inb_of S44 ⟨by decide, by decide⟩
        refine og s₁ (mkF m 70 #[rv u] [(.double d0), (.double d2)]) (fun t_ k_ => X0.daload hx (j := (0 : Int32)) (v := (.double d0)) (by rw [e0]; exact Ar44.1) (State.isArrayOf_alike hZ.alike Ar44.2.1) Ar44.2.2 hin44 (H44.at hin44 rfl) (g := (mkF m 69 #[rv u] [(.int 0), (.ref u), (.double d2)])) rfl rfl (hb hby d_method_5_69) _ k_) ?_
        refine og s₁ (mkF m 71 #[rv u] [(.int (own_cmp r2 r0))]) (fun t_ k_ => XS.dcmpS X0.here hx rfl (hb hby d_method_5_70) rfl (own_dc _ D_d2 D_d0) k_) ?_
        refine og s₁ (mkF m 96 #[rv u] []) (fun t_ k_ => XS.ifYes X0.here hx rfl (pc0 := 71) (pc' := 96) rfl (hb hby d_method_5_71) rfl ((if0 _ _).trans (flt (fun z => hq27_ ((own_cgt _ _).mp z))).2.2.2) (by decide) (by decide) k_) ?_
        refine og s₁ (mkF m 97 #[rv u] [(.int 3)]) (fun t_ k_ => XS.iconst X0.here hx rfl (hb hby d_method_5_96) k_) ?_
        exact own_out X0 (v := some (.int 3)) (fun h => by rw [hret] at h; cases h) hlk (fun fs hr => retI X0 hx hret (hb hby d_method_5_97) hr) (Q := Q_rm_topAt Z u d0 d1 d2 d3 r0 r1 r2 r3 k_u h0 n0) (by rw [e0]; exact ⟨(congrArg (fun z => some (Value.int z)) (show own_top r0 r1 r2 r3 = (3 : Int32) from by unfold own_top; (repeat' split) <;> first | rfl | (exfalso; omega)).symm), N0, rfl⟩) (by decide) (by decide)
      · skip
        refine og s₁ (mkF m 30 #[rv u] []) (fun t_ k_ => XS.ifNo X0.here hx rfl (hb hby d_method_5_27) rfl ((if0 _ _).trans (flt (fun z => hq40_ ((own_clt _ _).mp z))).1) k_) ?_
        refine og s₁ (mkF m 31 #[rv u] [(.int 0)]) (fun t_ k_ => XS.iconst X0.here hx rfl (hb hby d_method_5_30) k_) ?_
        exact own_out X0 (v := some (.int 0)) (fun h => by rw [hret] at h; cases h) hlk (fun fs hr => retI X0 hx hret (hb hby d_method_5_31) hr) (Q := Q_rm_topAt Z u d0 d1 d2 d3 r0 r1 r2 r3 k_u h0 n0) (by rw [e0]; exact ⟨(congrArg (fun z => some (Value.int z)) (show own_top r0 r1 r2 r3 = (0 : Int32) from by unfold own_top; (repeat' split) <;> first | rfl | (exfalso; omega)).symm), N0, rfl⟩) (by decide) (by decide)
theorem d_prog_59_21_0 : decode prog_59_method_21_code 0 = .ok (.aload_n 0, 1) := by decide +kernel
theorem d_prog_59_21_1 : decode prog_59_method_21_code 1 = .ok (.lload_n 1, 1) := by decide +kernel
theorem d_prog_59_21_2 : decode prog_59_method_21_code 2 = .ok (.putfield 13, 3) := by decide +kernel
theorem d_prog_59_21_5 : decode prog_59_method_21_code 5 = .ok (.aload_n 0, 1) := by decide +kernel
theorem d_prog_59_21_6 : decode prog_59_method_21_code 6 = .ok (.dload_n 3, 1) := by decide +kernel
theorem d_prog_59_21_7 : decode prog_59_method_21_code 7 = .ok (.putfield 17, 3) := by decide +kernel
theorem sn_0 {Z : State} {a0 : Array Value} (hw : ∀ d ∈ tables_1, d.before a0 Z = true) : Jvm.RoadKit.slotOf Z "com/example/driftline/driftline/storage/Extremes" "m_dFirstValue" "D" ≠ Jvm.RoadKit.slotOf Z "com/example/driftline/driftline/storage/Extremes" "m_nFirstTimestamp" "J" := Jvm.RoadKit.slot_ne (Or.inl (own_w hw 36 rfl)) (Or.inl (own_w hw 34 rfl)) (by decide) (t := .double) (t' := .long) (by decide) (by decide)
theorem d_prog_59_21_10 : decode prog_59_method_21_code 10 = .ok (.aload_n 0, 1) := by decide +kernel
theorem d_prog_59_21_11 : decode prog_59_method_21_code 11 = .ok (.lload 5, 2) := by decide +kernel
theorem d_prog_59_21_13 : decode prog_59_method_21_code 13 = .ok (.putfield 21, 3) := by decide +kernel
theorem sn_1 {Z : State} {a0 : Array Value} (hw : ∀ d ∈ tables_1, d.before a0 Z = true) : Jvm.RoadKit.slotOf Z "com/example/driftline/driftline/storage/Extremes" "m_nLastTimestamp" "J" ≠ Jvm.RoadKit.slotOf Z "com/example/driftline/driftline/storage/Extremes" "m_nFirstTimestamp" "J" := Jvm.RoadKit.slot_ne (Or.inl (own_w hw 38 rfl)) (Or.inl (own_w hw 34 rfl)) (by decide) (t := .long) (t' := .long) (by decide) (by decide)
theorem sn_2 {Z : State} {a0 : Array Value} (hw : ∀ d ∈ tables_1, d.before a0 Z = true) : Jvm.RoadKit.slotOf Z "com/example/driftline/driftline/storage/Extremes" "m_nLastTimestamp" "J" ≠ Jvm.RoadKit.slotOf Z "com/example/driftline/driftline/storage/Extremes" "m_dFirstValue" "D" := Jvm.RoadKit.slot_ne (Or.inl (own_w hw 38 rfl)) (Or.inl (own_w hw 36 rfl)) (by decide) (t := .long) (t' := .double) (by decide) (by decide)
theorem d_prog_59_21_16 : decode prog_59_method_21_code 16 = .ok (.aload_n 0, 1) := by decide +kernel
theorem d_prog_59_21_17 : decode prog_59_method_21_code 17 = .ok (.dload 7, 2) := by decide +kernel
theorem d_prog_59_21_19 : decode prog_59_method_21_code 19 = .ok (.putfield 24, 3) := by decide +kernel
theorem sn_3 {Z : State} {a0 : Array Value} (hw : ∀ d ∈ tables_1, d.before a0 Z = true) : Jvm.RoadKit.slotOf Z "com/example/driftline/driftline/storage/Extremes" "m_dLastValue" "D" ≠ Jvm.RoadKit.slotOf Z "com/example/driftline/driftline/storage/Extremes" "m_nFirstTimestamp" "J" := Jvm.RoadKit.slot_ne (Or.inl (own_w hw 40 rfl)) (Or.inl (own_w hw 34 rfl)) (by decide) (t := .double) (t' := .long) (by decide) (by decide)
theorem sn_4 {Z : State} {a0 : Array Value} (hw : ∀ d ∈ tables_1, d.before a0 Z = true) : Jvm.RoadKit.slotOf Z "com/example/driftline/driftline/storage/Extremes" "m_dLastValue" "D" ≠ Jvm.RoadKit.slotOf Z "com/example/driftline/driftline/storage/Extremes" "m_dFirstValue" "D" := Jvm.RoadKit.slot_ne (Or.inl (own_w hw 40 rfl)) (Or.inl (own_w hw 36 rfl)) (by decide) (t := .double) (t' := .double) (by decide) (by decide)
theorem sn_5 {Z : State} {a0 : Array Value} (hw : ∀ d ∈ tables_1, d.before a0 Z = true) : Jvm.RoadKit.slotOf Z "com/example/driftline/driftline/storage/Extremes" "m_dLastValue" "D" ≠ Jvm.RoadKit.slotOf Z "com/example/driftline/driftline/storage/Extremes" "m_nLastTimestamp" "J" := Jvm.RoadKit.slot_ne (Or.inl (own_w hw 40 rfl)) (Or.inl (own_w hw 38 rfl)) (by decide) (t := .double) (t' := .long) (by decide) (by decide)
theorem d_prog_59_21_22 : decode prog_59_method_21_code 22 = .ok (.aload_n 0, 1) := by decide +kernel
theorem d_prog_59_21_23 : decode prog_59_method_21_code 23 = .ok (.lload 9, 2) := by decide +kernel
theorem d_prog_59_21_25 : decode prog_59_method_21_code 25 = .ok (.putfield 27, 3) := by decide +kernel
theorem sn_6 {Z : State} {a0 : Array Value} (hw : ∀ d ∈ tables_1, d.before a0 Z = true) : Jvm.RoadKit.slotOf Z "com/example/driftline/driftline/storage/Extremes" "m_nBottomTimestamp" "J" ≠ Jvm.RoadKit.slotOf Z "com/example/driftline/driftline/storage/Extremes" "m_nFirstTimestamp" "J" := Jvm.RoadKit.slot_ne (Or.inl (own_w hw 42 rfl)) (Or.inl (own_w hw 34 rfl)) (by decide) (t := .long) (t' := .long) (by decide) (by decide)
theorem sn_7 {Z : State} {a0 : Array Value} (hw : ∀ d ∈ tables_1, d.before a0 Z = true) : Jvm.RoadKit.slotOf Z "com/example/driftline/driftline/storage/Extremes" "m_nBottomTimestamp" "J" ≠ Jvm.RoadKit.slotOf Z "com/example/driftline/driftline/storage/Extremes" "m_dFirstValue" "D" := Jvm.RoadKit.slot_ne (Or.inl (own_w hw 42 rfl)) (Or.inl (own_w hw 36 rfl)) (by decide) (t := .long) (t' := .double) (by decide) (by decide)
theorem sn_8 {Z : State} {a0 : Array Value} (hw : ∀ d ∈ tables_1, d.before a0 Z = true) : Jvm.RoadKit.slotOf Z "com/example/driftline/driftline/storage/Extremes" "m_nBottomTimestamp" "J" ≠ Jvm.RoadKit.slotOf Z "com/example/driftline/driftline/storage/Extremes" "m_nLastTimestamp" "J" := Jvm.RoadKit.slot_ne (Or.inl (own_w hw 42 rfl)) (Or.inl (own_w hw 38 rfl)) (by decide) (t := .long) (t' := .long) (by decide) (by decide)
theorem sn_9 {Z : State} {a0 : Array Value} (hw : ∀ d ∈ tables_1, d.before a0 Z = true) : Jvm.RoadKit.slotOf Z "com/example/driftline/driftline/storage/Extremes" "m_nBottomTimestamp" "J" ≠ Jvm.RoadKit.slotOf Z "com/example/driftline/driftline/storage/Extremes" "m_dLastValue" "D" := Jvm.RoadKit.slot_ne (Or.inl (own_w hw 42 rfl)) (Or.inl (own_w hw 40 rfl)) (by decide) (t := .long) (t' := .double) (by decide) (by decide)
theorem d_prog_59_21_28 : decode prog_59_method_21_code 28 = .ok (.aload_n 0, 1) := by decide +kernel
theorem d_prog_59_21_29 : decode prog_59_method_21_code 29 = .ok (.dload 11, 2) := by decide +kernel
theorem d_prog_59_21_31 : decode prog_59_method_21_code 31 = .ok (.putfield 30, 3) := by decide +kernel
theorem sn_10 {Z : State} {a0 : Array Value} (hw : ∀ d ∈ tables_1, d.before a0 Z = true) : Jvm.RoadKit.slotOf Z "com/example/driftline/driftline/storage/Extremes" "m_dBottomValue" "D" ≠ Jvm.RoadKit.slotOf Z "com/example/driftline/driftline/storage/Extremes" "m_nFirstTimestamp" "J" := Jvm.RoadKit.slot_ne (Or.inl (own_w hw 44 rfl)) (Or.inl (own_w hw 34 rfl)) (by decide) (t := .double) (t' := .long) (by decide) (by decide)
theorem sn_11 {Z : State} {a0 : Array Value} (hw : ∀ d ∈ tables_1, d.before a0 Z = true) : Jvm.RoadKit.slotOf Z "com/example/driftline/driftline/storage/Extremes" "m_dBottomValue" "D" ≠ Jvm.RoadKit.slotOf Z "com/example/driftline/driftline/storage/Extremes" "m_dFirstValue" "D" := Jvm.RoadKit.slot_ne (Or.inl (own_w hw 44 rfl)) (Or.inl (own_w hw 36 rfl)) (by decide) (t := .double) (t' := .double) (by decide) (by decide)
theorem sn_12 {Z : State} {a0 : Array Value} (hw : ∀ d ∈ tables_1, d.before a0 Z = true) : Jvm.RoadKit.slotOf Z "com/example/driftline/driftline/storage/Extremes" "m_dBottomValue" "D" ≠ Jvm.RoadKit.slotOf Z "com/example/driftline/driftline/storage/Extremes" "m_nLastTimestamp" "J" := Jvm.RoadKit.slot_ne (Or.inl (own_w hw 44 rfl)) (Or.inl (own_w hw 38 rfl)) (by decide) (t := .double) (t' := .long) (by decide) (by decide)
theorem sn_13 {Z : State} {a0 : Array Value} (hw : ∀ d ∈ tables_1, d.before a0 Z = true) : Jvm.RoadKit.slotOf Z "com/example/driftline/driftline/storage/Extremes" "m_dBottomValue" "D" ≠ Jvm.RoadKit.slotOf Z "com/example/driftline/driftline/storage/Extremes" "m_dLastValue" "D" := Jvm.RoadKit.slot_ne (Or.inl (own_w hw 44 rfl)) (Or.inl (own_w hw 40 rfl)) (by decide) (t := .double) (t' := .double) (by decide) (by decide)
theorem sn_14 {Z : State} {a0 : Array Value} (hw : ∀ d ∈ tables_1, d.before a0 Z = true) : Jvm.RoadKit.slotOf Z "com/example/driftline/driftline/storage/Extremes" "m_dBottomValue" "D" ≠ Jvm.RoadKit.slotOf Z "com/example/driftline/driftline/storage/Extremes" "m_nBottomTimestamp" "J" := Jvm.RoadKit.slot_ne (Or.inl (own_w hw 44 rfl)) (Or.inl (own_w hw 42 rfl)) (by decide) (t := .double) (t' := .long) (by decide) (by decide)
theorem d_prog_59_21_34 : decode prog_59_method_21_code 34 = .ok (.aload_n 0, 1) := by decide +kernel
theorem d_prog_59_21_35 : decode prog_59_method_21_code 35 = .ok (.lload 13, 2) := by decide +kernel
theorem d_prog_59_21_37 : decode prog_59_method_21_code 37 = .ok (.putfield 33, 3) := by decide +kernel
theorem sn_15 {Z : State} {a0 : Array Value} (hw : ∀ d ∈ tables_1, d.before a0 Z = true) : Jvm.RoadKit.slotOf Z "com/example/driftline/driftline/storage/Extremes" "m_nTopTimestamp" "J" ≠ Jvm.RoadKit.slotOf Z "com/example/driftline/driftline/storage/Extremes" "m_nFirstTimestamp" "J" := Jvm.RoadKit.slot_ne (Or.inl (own_w hw 46 rfl)) (Or.inl (own_w hw 34 rfl)) (by decide) (t := .long) (t' := .long) (by decide) (by decide)
theorem sn_16 {Z : State} {a0 : Array Value} (hw : ∀ d ∈ tables_1, d.before a0 Z = true) : Jvm.RoadKit.slotOf Z "com/example/driftline/driftline/storage/Extremes" "m_nTopTimestamp" "J" ≠ Jvm.RoadKit.slotOf Z "com/example/driftline/driftline/storage/Extremes" "m_dFirstValue" "D" := Jvm.RoadKit.slot_ne (Or.inl (own_w hw 46 rfl)) (Or.inl (own_w hw 36 rfl)) (by decide) (t := .long) (t' := .double) (by decide) (by decide)
theorem sn_17 {Z : State} {a0 : Array Value} (hw : ∀ d ∈ tables_1, d.before a0 Z = true) : Jvm.RoadKit.slotOf Z "com/example/driftline/driftline/storage/Extremes" "m_nTopTimestamp" "J" ≠ Jvm.RoadKit.slotOf Z "com/example/driftline/driftline/storage/Extremes" "m_nLastTimestamp" "J" := Jvm.RoadKit.slot_ne (Or.inl (own_w hw 46 rfl)) (Or.inl (own_w hw 38 rfl)) (by decide) (t := .long) (t' := .long) (by decide) (by decide)
theorem sn_18 {Z : State} {a0 : Array Value} (hw : ∀ d ∈ tables_1, d.before a0 Z = true) : Jvm.RoadKit.slotOf Z "com/example/driftline/driftline/storage/Extremes" "m_nTopTimestamp" "J" ≠ Jvm.RoadKit.slotOf Z "com/example/driftline/driftline/storage/Extremes" "m_dLastValue" "D" := Jvm.RoadKit.slot_ne (Or.inl (own_w hw 46 rfl)) (Or.inl (own_w hw 40 rfl)) (by decide) (t := .long) (t' := .double) (by decide) (by decide)
theorem sn_19 {Z : State} {a0 : Array Value} (hw : ∀ d ∈ tables_1, d.before a0 Z = true) : Jvm.RoadKit.slotOf Z "com/example/driftline/driftline/storage/Extremes" "m_nTopTimestamp" "J" ≠ Jvm.RoadKit.slotOf Z "com/example/driftline/driftline/storage/Extremes" "m_nBottomTimestamp" "J" := Jvm.RoadKit.slot_ne (Or.inl (own_w hw 46 rfl)) (Or.inl (own_w hw 42 rfl)) (by decide) (t := .long) (t' := .long) (by decide) (by decide)
theorem sn_20 {Z : State} {a0 : Array Value} (hw : ∀ d ∈ tables_1, d.before a0 Z = true) : Jvm.RoadKit.slotOf Z "com/example/driftline/driftline/storage/Extremes" "m_nTopTimestamp" "J" ≠ Jvm.RoadKit.slotOf Z "com/example/driftline/driftline/storage/Extremes" "m_dBottomValue" "D" := Jvm.RoadKit.slot_ne (Or.inl (own_w hw 46 rfl)) (Or.inl (own_w hw 44 rfl)) (by decide) (t := .long) (t' := .double) (by decide) (by decide)
theorem d_prog_59_21_40 : decode prog_59_method_21_code 40 = .ok (.aload_n 0, 1) := by decide +kernel
theorem d_prog_59_21_41 : decode prog_59_method_21_code 41 = .ok (.dload 15, 2) := by decide +kernel
theorem d_prog_59_21_43 : decode prog_59_method_21_code 43 = .ok (.putfield 36, 3) := by decide +kernel
theorem sn_21 {Z : State} {a0 : Array Value} (hw : ∀ d ∈ tables_1, d.before a0 Z = true) : Jvm.RoadKit.slotOf Z "com/example/driftline/driftline/storage/Extremes" "m_dTopValue" "D" ≠ Jvm.RoadKit.slotOf Z "com/example/driftline/driftline/storage/Extremes" "m_nFirstTimestamp" "J" := Jvm.RoadKit.slot_ne (Or.inl (own_w hw 48 rfl)) (Or.inl (own_w hw 34 rfl)) (by decide) (t := .double) (t' := .long) (by decide) (by decide)
theorem sn_22 {Z : State} {a0 : Array Value} (hw : ∀ d ∈ tables_1, d.before a0 Z = true) : Jvm.RoadKit.slotOf Z "com/example/driftline/driftline/storage/Extremes" "m_dTopValue" "D" ≠ Jvm.RoadKit.slotOf Z "com/example/driftline/driftline/storage/Extremes" "m_dFirstValue" "D" := Jvm.RoadKit.slot_ne (Or.inl (own_w hw 48 rfl)) (Or.inl (own_w hw 36 rfl)) (by decide) (t := .double) (t' := .double) (by decide) (by decide)
theorem sn_23 {Z : State} {a0 : Array Value} (hw : ∀ d ∈ tables_1, d.before a0 Z = true) : Jvm.RoadKit.slotOf Z "com/example/driftline/driftline/storage/Extremes" "m_dTopValue" "D" ≠ Jvm.RoadKit.slotOf Z "com/example/driftline/driftline/storage/Extremes" "m_nLastTimestamp" "J" := Jvm.RoadKit.slot_ne (Or.inl (own_w hw 48 rfl)) (Or.inl (own_w hw 38 rfl)) (by decide) (t := .double) (t' := .long) (by decide) (by decide)
theorem sn_24 {Z : State} {a0 : Array Value} (hw : ∀ d ∈ tables_1, d.before a0 Z = true) : Jvm.RoadKit.slotOf Z "com/example/driftline/driftline/storage/Extremes" "m_dTopValue" "D" ≠ Jvm.RoadKit.slotOf Z "com/example/driftline/driftline/storage/Extremes" "m_dLastValue" "D" := Jvm.RoadKit.slot_ne (Or.inl (own_w hw 48 rfl)) (Or.inl (own_w hw 40 rfl)) (by decide) (t := .double) (t' := .double) (by decide) (by decide)
theorem sn_25 {Z : State} {a0 : Array Value} (hw : ∀ d ∈ tables_1, d.before a0 Z = true) : Jvm.RoadKit.slotOf Z "com/example/driftline/driftline/storage/Extremes" "m_dTopValue" "D" ≠ Jvm.RoadKit.slotOf Z "com/example/driftline/driftline/storage/Extremes" "m_nBottomTimestamp" "J" := Jvm.RoadKit.slot_ne (Or.inl (own_w hw 48 rfl)) (Or.inl (own_w hw 42 rfl)) (by decide) (t := .double) (t' := .long) (by decide) (by decide)
theorem sn_26 {Z : State} {a0 : Array Value} (hw : ∀ d ∈ tables_1, d.before a0 Z = true) : Jvm.RoadKit.slotOf Z "com/example/driftline/driftline/storage/Extremes" "m_dTopValue" "D" ≠ Jvm.RoadKit.slotOf Z "com/example/driftline/driftline/storage/Extremes" "m_dBottomValue" "D" := Jvm.RoadKit.slot_ne (Or.inl (own_w hw 48 rfl)) (Or.inl (own_w hw 44 rfl)) (by decide) (t := .double) (t' := .double) (by decide) (by decide)
theorem sn_27 {Z : State} {a0 : Array Value} (hw : ∀ d ∈ tables_1, d.before a0 Z = true) : Jvm.RoadKit.slotOf Z "com/example/driftline/driftline/storage/Extremes" "m_dTopValue" "D" ≠ Jvm.RoadKit.slotOf Z "com/example/driftline/driftline/storage/Extremes" "m_nTopTimestamp" "J" := Jvm.RoadKit.slot_ne (Or.inl (own_w hw 48 rfl)) (Or.inl (own_w hw 46 rfl)) (by decide) (t := .double) (t' := .long) (by decide) (by decide)
theorem d_prog_59_21_46 : decode prog_59_method_21_code 46 = .ok (.return_, 1) := by decide +kernel
theorem sn_28 {Z : State} {a0 : Array Value} (hw : ∀ d ∈ tables_1, d.before a0 Z = true) : Jvm.RoadKit.slotOf Z "com/example/driftline/driftline/storage/Extremes" "m_nFirstTimestamp" "J" ≠ Jvm.RoadKit.slotOf Z "com/example/driftline/driftline/storage/Extremes" "m_dFirstValue" "D" := Jvm.RoadKit.slot_ne (Or.inl (own_w hw 34 rfl)) (Or.inl (own_w hw 36 rfl)) (by decide) (t := .long) (t' := .double) (by decide) (by decide)
theorem sn_29 {Z : State} {a0 : Array Value} (hw : ∀ d ∈ tables_1, d.before a0 Z = true) : Jvm.RoadKit.slotOf Z "com/example/driftline/driftline/storage/Extremes" "m_nFirstTimestamp" "J" ≠ Jvm.RoadKit.slotOf Z "com/example/driftline/driftline/storage/Extremes" "m_nLastTimestamp" "J" := Jvm.RoadKit.slot_ne (Or.inl (own_w hw 34 rfl)) (Or.inl (own_w hw 38 rfl)) (by decide) (t := .long) (t' := .long) (by decide) (by decide)
theorem sn_30 {Z : State} {a0 : Array Value} (hw : ∀ d ∈ tables_1, d.before a0 Z = true) : Jvm.RoadKit.slotOf Z "com/example/driftline/driftline/storage/Extremes" "m_nFirstTimestamp" "J" ≠ Jvm.RoadKit.slotOf Z "com/example/driftline/driftline/storage/Extremes" "m_dLastValue" "D" := Jvm.RoadKit.slot_ne (Or.inl (own_w hw 34 rfl)) (Or.inl (own_w hw 40 rfl)) (by decide) (t := .long) (t' := .double) (by decide) (by decide)
theorem sn_31 {Z : State} {a0 : Array Value} (hw : ∀ d ∈ tables_1, d.before a0 Z = true) : Jvm.RoadKit.slotOf Z "com/example/driftline/driftline/storage/Extremes" "m_nFirstTimestamp" "J" ≠ Jvm.RoadKit.slotOf Z "com/example/driftline/driftline/storage/Extremes" "m_nBottomTimestamp" "J" := Jvm.RoadKit.slot_ne (Or.inl (own_w hw 34 rfl)) (Or.inl (own_w hw 42 rfl)) (by decide) (t := .long) (t' := .long) (by decide) (by decide)
theorem sn_32 {Z : State} {a0 : Array Value} (hw : ∀ d ∈ tables_1, d.before a0 Z = true) : Jvm.RoadKit.slotOf Z "com/example/driftline/driftline/storage/Extremes" "m_nFirstTimestamp" "J" ≠ Jvm.RoadKit.slotOf Z "com/example/driftline/driftline/storage/Extremes" "m_dBottomValue" "D" := Jvm.RoadKit.slot_ne (Or.inl (own_w hw 34 rfl)) (Or.inl (own_w hw 44 rfl)) (by decide) (t := .long) (t' := .double) (by decide) (by decide)
theorem sn_33 {Z : State} {a0 : Array Value} (hw : ∀ d ∈ tables_1, d.before a0 Z = true) : Jvm.RoadKit.slotOf Z "com/example/driftline/driftline/storage/Extremes" "m_nFirstTimestamp" "J" ≠ Jvm.RoadKit.slotOf Z "com/example/driftline/driftline/storage/Extremes" "m_nTopTimestamp" "J" := Jvm.RoadKit.slot_ne (Or.inl (own_w hw 34 rfl)) (Or.inl (own_w hw 46 rfl)) (by decide) (t := .long) (t' := .long) (by decide) (by decide)
theorem sn_34 {Z : State} {a0 : Array Value} (hw : ∀ d ∈ tables_1, d.before a0 Z = true) : Jvm.RoadKit.slotOf Z "com/example/driftline/driftline/storage/Extremes" "m_nFirstTimestamp" "J" ≠ Jvm.RoadKit.slotOf Z "com/example/driftline/driftline/storage/Extremes" "m_dTopValue" "D" := Jvm.RoadKit.slot_ne (Or.inl (own_w hw 34 rfl)) (Or.inl (own_w hw 48 rfl)) (by decide) (t := .long) (t' := .double) (by decide) (by decide)
theorem sn_35 {Z : State} {a0 : Array Value} (hw : ∀ d ∈ tables_1, d.before a0 Z = true) : Jvm.RoadKit.slotOf Z "com/example/driftline/driftline/storage/Extremes" "m_dFirstValue" "D" ≠ Jvm.RoadKit.slotOf Z "com/example/driftline/driftline/storage/Extremes" "m_nLastTimestamp" "J" := Jvm.RoadKit.slot_ne (Or.inl (own_w hw 36 rfl)) (Or.inl (own_w hw 38 rfl)) (by decide) (t := .double) (t' := .long) (by decide) (by decide)
theorem sn_36 {Z : State} {a0 : Array Value} (hw : ∀ d ∈ tables_1, d.before a0 Z = true) : Jvm.RoadKit.slotOf Z "com/example/driftline/driftline/storage/Extremes" "m_dFirstValue" "D" ≠ Jvm.RoadKit.slotOf Z "com/example/driftline/driftline/storage/Extremes" "m_dLastValue" "D" := Jvm.RoadKit.slot_ne (Or.inl (own_w hw 36 rfl)) (Or.inl (own_w hw 40 rfl)) (by decide) (t := .double) (t' := .double) (by decide) (by decide)
theorem sn_37 {Z : State} {a0 : Array Value} (hw : ∀ d ∈ tables_1, d.before a0 Z = true) : Jvm.RoadKit.slotOf Z "com/example/driftline/driftline/storage/Extremes" "m_dFirstValue" "D" ≠ Jvm.RoadKit.slotOf Z "com/example/driftline/driftline/storage/Extremes" "m_nBottomTimestamp" "J" := Jvm.RoadKit.slot_ne (Or.inl (own_w hw 36 rfl)) (Or.inl (own_w hw 42 rfl)) (by decide) (t := .double) (t' := .long) (by decide) (by decide)
theorem sn_38 {Z : State} {a0 : Array Value} (hw : ∀ d ∈ tables_1, d.before a0 Z = true) : Jvm.RoadKit.slotOf Z "com/example/driftline/driftline/storage/Extremes" "m_dFirstValue" "D" ≠ Jvm.RoadKit.slotOf Z "com/example/driftline/driftline/storage/Extremes" "m_dBottomValue" "D" := Jvm.RoadKit.slot_ne (Or.inl (own_w hw 36 rfl)) (Or.inl (own_w hw 44 rfl)) (by decide) (t := .double) (t' := .double) (by decide) (by decide)
theorem sn_39 {Z : State} {a0 : Array Value} (hw : ∀ d ∈ tables_1, d.before a0 Z = true) : Jvm.RoadKit.slotOf Z "com/example/driftline/driftline/storage/Extremes" "m_dFirstValue" "D" ≠ Jvm.RoadKit.slotOf Z "com/example/driftline/driftline/storage/Extremes" "m_nTopTimestamp" "J" := Jvm.RoadKit.slot_ne (Or.inl (own_w hw 36 rfl)) (Or.inl (own_w hw 46 rfl)) (by decide) (t := .double) (t' := .long) (by decide) (by decide)
theorem sn_40 {Z : State} {a0 : Array Value} (hw : ∀ d ∈ tables_1, d.before a0 Z = true) : Jvm.RoadKit.slotOf Z "com/example/driftline/driftline/storage/Extremes" "m_dFirstValue" "D" ≠ Jvm.RoadKit.slotOf Z "com/example/driftline/driftline/storage/Extremes" "m_dTopValue" "D" := Jvm.RoadKit.slot_ne (Or.inl (own_w hw 36 rfl)) (Or.inl (own_w hw 48 rfl)) (by decide) (t := .double) (t' := .double) (by decide) (by decide)
theorem sn_41 {Z : State} {a0 : Array Value} (hw : ∀ d ∈ tables_1, d.before a0 Z = true) : Jvm.RoadKit.slotOf Z "com/example/driftline/driftline/storage/Extremes" "m_nLastTimestamp" "J" ≠ Jvm.RoadKit.slotOf Z "com/example/driftline/driftline/storage/Extremes" "m_dLastValue" "D" := Jvm.RoadKit.slot_ne (Or.inl (own_w hw 38 rfl)) (Or.inl (own_w hw 40 rfl)) (by decide) (t := .long) (t' := .double) (by decide) (by decide)
theorem sn_42 {Z : State} {a0 : Array Value} (hw : ∀ d ∈ tables_1, d.before a0 Z = true) : Jvm.RoadKit.slotOf Z "com/example/driftline/driftline/storage/Extremes" "m_nLastTimestamp" "J" ≠ Jvm.RoadKit.slotOf Z "com/example/driftline/driftline/storage/Extremes" "m_nBottomTimestamp" "J" := Jvm.RoadKit.slot_ne (Or.inl (own_w hw 38 rfl)) (Or.inl (own_w hw 42 rfl)) (by decide) (t := .long) (t' := .long) (by decide) (by decide)
theorem sn_43 {Z : State} {a0 : Array Value} (hw : ∀ d ∈ tables_1, d.before a0 Z = true) : Jvm.RoadKit.slotOf Z "com/example/driftline/driftline/storage/Extremes" "m_nLastTimestamp" "J" ≠ Jvm.RoadKit.slotOf Z "com/example/driftline/driftline/storage/Extremes" "m_dBottomValue" "D" := Jvm.RoadKit.slot_ne (Or.inl (own_w hw 38 rfl)) (Or.inl (own_w hw 44 rfl)) (by decide) (t := .long) (t' := .double) (by decide) (by decide)
theorem sn_44 {Z : State} {a0 : Array Value} (hw : ∀ d ∈ tables_1, d.before a0 Z = true) : Jvm.RoadKit.slotOf Z "com/example/driftline/driftline/storage/Extremes" "m_nLastTimestamp" "J" ≠ Jvm.RoadKit.slotOf Z "com/example/driftline/driftline/storage/Extremes" "m_nTopTimestamp" "J" := Jvm.RoadKit.slot_ne (Or.inl (own_w hw 38 rfl)) (Or.inl (own_w hw 46 rfl)) (by decide) (t := .long) (t' := .long) (by decide) (by decide)
theorem sn_45 {Z : State} {a0 : Array Value} (hw : ∀ d ∈ tables_1, d.before a0 Z = true) : Jvm.RoadKit.slotOf Z "com/example/driftline/driftline/storage/Extremes" "m_nLastTimestamp" "J" ≠ Jvm.RoadKit.slotOf Z "com/example/driftline/driftline/storage/Extremes" "m_dTopValue" "D" := Jvm.RoadKit.slot_ne (Or.inl (own_w hw 38 rfl)) (Or.inl (own_w hw 48 rfl)) (by decide) (t := .long) (t' := .double) (by decide) (by decide)
theorem sn_46 {Z : State} {a0 : Array Value} (hw : ∀ d ∈ tables_1, d.before a0 Z = true) : Jvm.RoadKit.slotOf Z "com/example/driftline/driftline/storage/Extremes" "m_dLastValue" "D" ≠ Jvm.RoadKit.slotOf Z "com/example/driftline/driftline/storage/Extremes" "m_nBottomTimestamp" "J" := Jvm.RoadKit.slot_ne (Or.inl (own_w hw 40 rfl)) (Or.inl (own_w hw 42 rfl)) (by decide) (t := .double) (t' := .long) (by decide) (by decide)
theorem sn_47 {Z : State} {a0 : Array Value} (hw : ∀ d ∈ tables_1, d.before a0 Z = true) : Jvm.RoadKit.slotOf Z "com/example/driftline/driftline/storage/Extremes" "m_dLastValue" "D" ≠ Jvm.RoadKit.slotOf Z "com/example/driftline/driftline/storage/Extremes" "m_dBottomValue" "D" := Jvm.RoadKit.slot_ne (Or.inl (own_w hw 40 rfl)) (Or.inl (own_w hw 44 rfl)) (by decide) (t := .double) (t' := .double) (by decide) (by decide)
theorem sn_48 {Z : State} {a0 : Array Value} (hw : ∀ d ∈ tables_1, d.before a0 Z = true) : Jvm.RoadKit.slotOf Z "com/example/driftline/driftline/storage/Extremes" "m_dLastValue" "D" ≠ Jvm.RoadKit.slotOf Z "com/example/driftline/driftline/storage/Extremes" "m_nTopTimestamp" "J" := Jvm.RoadKit.slot_ne (Or.inl (own_w hw 40 rfl)) (Or.inl (own_w hw 46 rfl)) (by decide) (t := .double) (t' := .long) (by decide) (by decide)
theorem sn_49 {Z : State} {a0 : Array Value} (hw : ∀ d ∈ tables_1, d.before a0 Z = true) : Jvm.RoadKit.slotOf Z "com/example/driftline/driftline/storage/Extremes" "m_dLastValue" "D" ≠ Jvm.RoadKit.slotOf Z "com/example/driftline/driftline/storage/Extremes" "m_dTopValue" "D" := Jvm.RoadKit.slot_ne (Or.inl (own_w hw 40 rfl)) (Or.inl (own_w hw 48 rfl)) (by decide) (t := .double) (t' := .double) (by decide) (by decide)
theorem sn_50 {Z : State} {a0 : Array Value} (hw : ∀ d ∈ tables_1, d.before a0 Z = true) : Jvm.RoadKit.slotOf Z "com/example/driftline/driftline/storage/Extremes" "m_nBottomTimestamp" "J" ≠ Jvm.RoadKit.slotOf Z "com/example/driftline/driftline/storage/Extremes" "m_dBottomValue" "D" := Jvm.RoadKit.slot_ne (Or.inl (own_w hw 42 rfl)) (Or.inl (own_w hw 44 rfl)) (by decide) (t := .long) (t' := .double) (by decide) (by decide)
theorem sn_51 {Z : State} {a0 : Array Value} (hw : ∀ d ∈ tables_1, d.before a0 Z = true) : Jvm.RoadKit.slotOf Z "com/example/driftline/driftline/storage/Extremes" "m_nBottomTimestamp" "J" ≠ Jvm.RoadKit.slotOf Z "com/example/driftline/driftline/storage/Extremes" "m_nTopTimestamp" "J" := Jvm.RoadKit.slot_ne (Or.inl (own_w hw 42 rfl)) (Or.inl (own_w hw 46 rfl)) (by decide) (t := .long) (t' := .long) (by decide) (by decide)
theorem sn_52 {Z : State} {a0 : Array Value} (hw : ∀ d ∈ tables_1, d.before a0 Z = true) : Jvm.RoadKit.slotOf Z "com/example/driftline/driftline/storage/Extremes" "m_nBottomTimestamp" "J" ≠ Jvm.RoadKit.slotOf Z "com/example/driftline/driftline/storage/Extremes" "m_dTopValue" "D" := Jvm.RoadKit.slot_ne (Or.inl (own_w hw 42 rfl)) (Or.inl (own_w hw 48 rfl)) (by decide) (t := .long) (t' := .double) (by decide) (by decide)
theorem sn_53 {Z : State} {a0 : Array Value} (hw : ∀ d ∈ tables_1, d.before a0 Z = true) : Jvm.RoadKit.slotOf Z "com/example/driftline/driftline/storage/Extremes" "m_dBottomValue" "D" ≠ Jvm.RoadKit.slotOf Z "com/example/driftline/driftline/storage/Extremes" "m_nTopTimestamp" "J" := Jvm.RoadKit.slot_ne (Or.inl (own_w hw 44 rfl)) (Or.inl (own_w hw 46 rfl)) (by decide) (t := .double) (t' := .long) (by decide) (by decide)
theorem sn_54 {Z : State} {a0 : Array Value} (hw : ∀ d ∈ tables_1, d.before a0 Z = true) : Jvm.RoadKit.slotOf Z "com/example/driftline/driftline/storage/Extremes" "m_dBottomValue" "D" ≠ Jvm.RoadKit.slotOf Z "com/example/driftline/driftline/storage/Extremes" "m_dTopValue" "D" := Jvm.RoadKit.slot_ne (Or.inl (own_w hw 44 rfl)) (Or.inl (own_w hw 48 rfl)) (by decide) (t := .double) (t' := .double) (by decide) (by decide)
theorem sn_55 {Z : State} {a0 : Array Value} (hw : ∀ d ∈ tables_1, d.before a0 Z = true) : Jvm.RoadKit.slotOf Z "com/example/driftline/driftline/storage/Extremes" "m_nTopTimestamp" "J" ≠ Jvm.RoadKit.slotOf Z "com/example/driftline/driftline/storage/Extremes" "m_dTopValue" "D" := Jvm.RoadKit.slot_ne (Or.inl (own_w hw 46 rfl)) (Or.inl (own_w hw 48 rfl)) (by decide) (t := .long) (t' := .double) (by decide) (by decide)
theorem ef_6 (m : MethodId) (a : Nat) (x0 : Int64) (x1 : UInt64) (x2 : Int64) (x3 : UInt64) (x4 : Int64) (x5 : UInt64) (x6 : Int64) (x7 : UInt64) : entryFrame m #[(.ref a), (.long x0), (.double x1), (.long x2), (.double x3), (.long x4), (.double x5), (.long x6), (.double x7)] 17 = mkF m 0 #[rv a, .val (.long x0), .second, .val (.double x1), .second, .val (.long x2), .second, .val (.double x3), .second, .val (.long x4), .second, .val (.double x5), .second, .val (.long x6), .second, .val (.double x7), .second] [] := by first | (simp [entryFrame, mkF, argsToLocals, Value.category]; done) | rfl
abbrev ym_6 : MethodName := ⟨"com/example/driftline/driftline/storage/Extremes", "set", "(JDJDJDJD)V"⟩
def Q_rm_set (Z : State) (a : Nat) (x0 : Int64) (x1 : UInt64) (x2 : Int64) (x3 : UInt64) (x4 : Int64) (x5 : UInt64) (x6 : Int64) (x7 : UInt64) (u0 : Int64) (u1 : UInt64) (u2 : Int64) (u3 : UInt64) (u4 : Int64) (u5 : UInt64) (u6 : Int64) (u7 : UInt64) (h0 : Heap) (n0 : Nat) (vv : Option Value) (h : Heap) (LL : List Loc) : Prop := vv = none ∧ Fr n0 LL ∧ Keep h0 h [a] ∧ Fld Z h a "com/example/driftline/driftline/storage/Extremes" "m_nFirstTimestamp" "J" (.long x0) ∧ Fld Z h a "com/example/driftline/driftline/storage/Extremes" "m_dFirstValue" "D" (.double x1) ∧ Fld Z h a "com/example/driftline/driftline/storage/Extremes" "m_nLastTimestamp" "J" (.long x2) ∧ Fld Z h a "com/example/driftline/driftline/storage/Extremes" "m_dLastValue" "D" (.double x3) ∧ Fld Z h a "com/example/driftline/driftline/storage/Extremes" "m_nBottomTimestamp" "J" (.long x4) ∧ Fld Z h a "com/example/driftline/driftline/storage/Extremes" "m_dBottomValue" "D" (.double x5) ∧ Fld Z h a "com/example/driftline/driftline/storage/Extremes" "m_nTopTimestamp" "J" (.long x6) ∧ Fld Z h a "com/example/driftline/driftline/storage/Extremes" "m_dTopValue" "D" (.double x7)
set_option maxRecDepth 65536 in
set_option maxHeartbeats 40000000 in
theorem rm_set (l : Launch) (Z : State) (a0 : Array Value) (hw : ∀ d ∈ tables_1, d.before a0 Z = true) (ws : List Jvm.Cond) (a : Nat) (x0 : Int64) (x1 : UInt64) (x2 : Int64) (x3 : UInt64) (x4 : Int64) (x5 : UInt64) (x6 : Int64) (x7 : UInt64) (u0 : Int64) (u1 : UInt64) (u2 : Int64) (u3 : UInt64) (u4 : Int64) (u5 : UInt64) (u6 : Int64) (u7 : UInt64) (h0 : Heap) (n0 : Nat) (Z0 : n0 ≤ h0.size) (E_a : Exa Z h0 a "com/example/driftline/driftline/storage/Extremes") (F_m_nFirstTimestamp_a : Fld Z h0 a "com/example/driftline/driftline/storage/Extremes" "m_nFirstTimestamp" "J" (.long u0)) (F_m_dFirstValue_a : Fld Z h0 a "com/example/driftline/driftline/storage/Extremes" "m_dFirstValue" "D" (.double u1)) (F_m_nLastTimestamp_a : Fld Z h0 a "com/example/driftline/driftline/storage/Extremes" "m_nLastTimestamp" "J" (.long u2)) (F_m_dLastValue_a : Fld Z h0 a "com/example/driftline/driftline/storage/Extremes" "m_dLastValue" "D" (.double u3)) (F_m_nBottomTimestamp_a : Fld Z h0 a "com/example/driftline/driftline/storage/Extremes" "m_nBottomTimestamp" "J" (.long u4)) (F_m_dBottomValue_a : Fld Z h0 a "com/example/driftline/driftline/storage/Extremes" "m_dBottomValue" "D" (.double u5)) (F_m_nTopTimestamp_a : Fld Z h0 a "com/example/driftline/driftline/storage/Extremes" "m_nTopTimestamp" "J" (.long u6)) (F_m_dTopValue_a : Fld Z h0 a "com/example/driftline/driftline/storage/Extremes" "m_dTopValue" "D" (.double u7)) (g_a : n0 ≤ a) :
    own_MF l ym_6 prog_59_method_21_code 17 none ⟨0, 0, 0, 0⟩ ws Z #[(.ref a), (.long x0), (.double x1), (.long x2), (.double x3), (.long x4), (.double x5), (.long x6), (.double x7)] h0 (Q_rm_set Z a x0 x1 x2 x3 x4 x5 x6 x7 u0 u1 u2 u3 u4 u5 u6 u7 h0 n0) := by
  refine own_begin (plainFor_of_name pn_1) (fun m => ef_6 m a x0 x1 x2 x3 x4 x5 x6 x7) ?_
  intro p e s m below meth c s₁ hret hx hby hml hown hnm hlk X0 e0 hh hZ
  have N0 := Fr.nil n0
  have lt_E_a := own_ltN E_a.lt
  have lt_F_m_nFirstTimestamp_a := own_ltN F_m_nFirstTimestamp_a.lt
  have lt_F_m_dFirstValue_a := own_ltN F_m_dFirstValue_a.lt
  have lt_F_m_nLastTimestamp_a := own_ltN F_m_nLastTimestamp_a.lt
  have lt_F_m_dLastValue_a := own_ltN F_m_dLastValue_a.lt
  have lt_F_m_nBottomTimestamp_a := own_ltN F_m_nBottomTimestamp_a.lt
  have lt_F_m_dBottomValue_a := own_ltN F_m_dBottomValue_a.lt
  have lt_F_m_nTopTimestamp_a := own_ltN F_m_nTopTimestamp_a.lt
  have lt_F_m_dTopValue_a := own_ltN F_m_dTopValue_a.lt
  refine og s₁ (mkF m 1 #[rv a, .val (.long x0), .second, .val (.double x1), .second, .val (.long x2), .second, .val (.double x3), .second, .val (.long x4), .second, .val (.double x5), .second, .val (.long x6), .second, .val (.double x7), .second] [(.ref a)]) (fun t_ k_ => XS.aloadN X0.here hx rfl (hb hby d_prog_59_21_0) rfl rfl k_) ?_
  refine og s₁ (mkF m 2 #[rv a, .val (.long x0), .second, .val (.double x1), .second, .val (.long x2), .second, .val (.double x3), .second, .val (.long x4), .second, .val (.double x5), .second, .val (.long x6), .second, .val (.double x7), .second] [(.long x0), (.ref a)]) (fun t_ k_ => XS.lloadN X0.here hx rfl (hb hby d_prog_59_21_1) rfl k_) ?_
  obtain ⟨T1, h1, X1, e1, W1, st1⟩ := putF X0 hx hZ hown (host := "") (Or.inl (own_w hw 33 rfl)) Via.refl e0 F_m_nFirstTimestamp_a E_a (Or.inl (own_w hw 34 rfl)) (own_w hw 14 rfl) (ty := .long) (by decide) rfl rfl (g := (mkF m 2 #[rv a, .val (.long x0), .second, .val (.double x1), .second, .val (.long x2), .second, .val (.double x3), .second, .val (.long x4), .second, .val (.double x5), .second, .val (.long x6), .second, .val (.double x7), .second] [(.long x0), (.ref a)])) rfl rfl (hb hby d_prog_59_21_2)
  have F1 := F_m_nFirstTimestamp_a.same W1
  have z1 := W1.size
  have N1 := Fr.snoc X1 N0 (show n0 ≤ a by omega)
  have K1 := (Keep.refl h0 [a]).wr W1 (Or.inl (List.mem_of_getElem? (i := 0) rfl))
  refine og T1 (mkF m 5 #[rv a, .val (.long x0), .second, .val (.double x1), .second, .val (.long x2), .second, .val (.double x3), .second, .val (.long x4), .second, .val (.double x5), .second, .val (.long x6), .second, .val (.double x7), .second] []) (fun t_ k_ => st1 _ k_) ?_
  refine og T1 (mkF m 6 #[rv a, .val (.long x0), .second, .val (.double x1), .second, .val (.long x2), .second, .val (.double x3), .second, .val (.long x4), .second, .val (.double x5), .second, .val (.long x6), .second, .val (.double x7), .second] [(.ref a)]) (fun t_ k_ => XS.aloadN X1.here hx rfl (hb hby d_prog_59_21_5) rfl rfl k_) ?_
  refine og T1 (mkF m 7 #[rv a, .val (.long x0), .second, .val (.double x1), .second, .val (.long x2), .second, .val (.double x3), .second, .val (.long x4), .second, .val (.double x5), .second, .val (.long x6), .second, .val (.double x7), .second] [(.double x1), (.ref a)]) (fun t_ k_ => XS.dloadN X1.here hx rfl (hb hby d_prog_59_21_6) rfl k_) ?_
  have ff3 := (F_m_dFirstValue_a.other W1 (Or.inr (sn_0 hw)))
  have ff4 := (E_a.wr W1)
  obtain ⟨T2, h2, X2, e2, W2, st2⟩ := putF X1 hx hZ hown (host := "") (Or.inl (own_w hw 35 rfl)) Via.refl e1 ff3 ff4 (Or.inl (own_w hw 36 rfl)) (own_w hw 14 rfl) (ty := .double) (by decide) rfl rfl (g := (mkF m 7 #[rv a, .val (.long x0), .second, .val (.double x1), .second, .val (.long x2), .second, .val (.double x3), .second, .val (.long x4), .second, .val (.double x5), .second, .val (.long x6), .second, .val (.double x7), .second] [(.double x1), (.ref a)])) rfl rfl (hb hby d_prog_59_21_7)
  have F2 := ff3.same W2
  have z2 := W2.size
  have N2 := Fr.snoc X2 N1 (show n0 ≤ a by omega)
  have K2 := K1.wr W2 (Or.inl (List.mem_of_getElem? (i := 0) rfl))
  refine og T2 (mkF m 10 #[rv a, .val (.long x0), .second, .val (.double x1), .second, .val (.long x2), .second, .val (.double x3), .second, .val (.long x4), .second, .val (.double x5), .second, .val (.long x6), .second, .val (.double x7), .second] []) (fun t_ k_ => st2 _ k_) ?_
  refine og T2 (mkF m 11 #[rv a, .val (.long x0), .second, .val (.double x1), .second, .val (.long x2), .second, .val (.double x3), .second, .val (.long x4), .second, .val (.double x5), .second, .val (.long x6), .second, .val (.double x7), .second] [(.ref a)]) (fun t_ k_ => XS.aloadN X2.here hx rfl (hb hby d_prog_59_21_10) rfl rfl k_) ?_
  refine og T2 (mkF m 13 #[rv a, .val (.long x0), .second, .val (.double x1), .second, .val (.long x2), .second, .val (.double x3), .second, .val (.long x4), .second, .val (.double x5), .second, .val (.long x6), .second, .val (.double x7), .second] [(.long x2), (.ref a)]) (fun t_ k_ => XS.lload X2.here hx rfl (hb hby d_prog_59_21_11) rfl k_) ?_
  have ff6 := ((F_m_nLastTimestamp_a.other W1 (Or.inr (sn_1 hw))).other W2 (Or.inr (sn_2 hw)))
  have ff7 := (ff4.wr W2)
  obtain ⟨T5, h5, X5, e5, W5, st5⟩ := putF X2 hx hZ hown (host := "") (Or.inl (own_w hw 37 rfl)) Via.refl e2 ff6 ff7 (Or.inl (own_w hw 38 rfl)) (own_w hw 14 rfl) (ty := .long) (by decide) rfl rfl (g := (mkF m 13 #[rv a, .val (.long x0), .second, .val (.double x1), .second, .val (.long x2), .second, .val (.double x3), .second, .val (.long x4), .second, .val (.double x5), .second, .val (.long x6), .second, .val (.double x7), .second] [(.long x2), (.ref a)])) rfl rfl (hb hby d_prog_59_21_13)
  have F5 := ff6.same W5
  have z5 := W5.size
  have N5 := Fr.snoc X5 N2 (show n0 ≤ a by omega)
  have K5 := K2.wr W5 (Or.inl (List.mem_of_getElem? (i := 0) rfl))
  refine og T5 (mkF m 16 #[rv a, .val (.long x0), .second, .val (.double x1), .second, .val (.long x2), .second, .val (.double x3), .second, .val (.long x4), .second, .val (.double x5), .second, .val (.long x6), .second, .val (.double x7), .second] []) (fun t_ k_ => st5 _ k_) ?_
  refine og T5 (mkF m 17 #[rv a, .val (.long x0), .second, .val (.double x1), .second, .val (.long x2), .second, .val (.double x3), .second, .val (.long x4), .second, .val (.double x5), .second, .val (.long x6), .second, .val (.double x7), .second] [(.ref a)]) (fun t_ k_ => XS.aloadN X5.here hx rfl (hb hby d_prog_59_21_16) rfl rfl k_) ?_
  refine og T5 (mkF m 19 #[rv a, .val (.long x0), .second, .val (.double x1), .second, .val (.long x2), .second, .val (.double x3), .second, .val (.long x4), .second, .val (.double x5), .second, .val (.long x6), .second, .val (.double x7), .second] [(.double x3), (.ref a)]) (fun t_ k_ => XS.dload X5.here hx rfl (hb hby d_prog_59_21_17) rfl k_) ?_
  have ff9 := (((F_m_dLastValue_a.other W1 (Or.inr (sn_3 hw))).other W2 (Or.inr (sn_4 hw))).other W5 (Or.inr (sn_5 hw)))
  have ff10 := (ff7.wr W5)
  obtain ⟨T8, h8, X8, e8, W8, st8⟩ := putF X5 hx hZ hown (host := "") (Or.inl (own_w hw 39 rfl)) Via.refl e5 ff9 ff10 (Or.inl (own_w hw 40 rfl)) (own_w hw 14 rfl) (ty := .double) (by decide) rfl rfl (g := (mkF m 19 #[rv a, .val (.long x0), .second, .val (.double x1), .second, .val (.long x2), .second, .val (.double x3), .second, .val (.long x4), .second, .val (.double x5), .second, .val (.long x6), .second, .val (.double x7), .second] [(.double x3), (.ref a)])) rfl rfl (hb hby d_prog_59_21_19)
  have F8 := ff9.same W8
  have z8 := W8.size
  have N8 := Fr.snoc X8 N5 (show n0 ≤ a by omega)
  have K8 := K5.wr W8 (Or.inl (List.mem_of_getElem? (i := 0) rfl))
  refine og T8 (mkF m 22 #[rv a, .val (.long x0), .second, .val (.double x1), .second, .val (.long x2), .second, .val (.double x3), .second, .val (.long x4), .second, .val (.double x5), .second, .val (.long x6), .second, .val (.double x7), .second] []) (fun t_ k_ => st8 _ k_) ?_
  refine og T8 (mkF m 23 #[rv a, .val (.long x0), .second, .val (.double x1), .second, .val (.long x2), .second, .val (.double x3), .second, .val (.long x4), .second, .val (.double x5), .second, .val (.long x6), .second, .val (.double x7), .second] [(.ref a)]) (fun t_ k_ => XS.aloadN X8.here hx rfl (hb hby d_prog_59_21_22) rfl rfl k_) ?_
  refine og T8 (mkF m 25 #[rv a, .val (.long x0), .second, .val (.double x1), .second, .val (.long x2), .second, .val (.double x3), .second, .val (.long x4), .second, .val (.double x5), .second, .val (.long x6), .second, .val (.double x7), .second] [(.long x4), (.ref a)]) (fun t_ k_ => XS.lload X8.here hx rfl (hb hby d_prog_59_21_23) rfl k_) ?_
  have ff12 := ((((F_m_nBottomTimestamp_a.other W1 (Or.inr (sn_6 hw))).other W2 (Or.inr (sn_7 hw))).other W5 (Or.inr (sn_8 hw))).other W8 (Or.inr (sn_9 hw)))
  have ff13 := (ff10.wr W8)
  obtain ⟨T11, h11, X11, e11, W11, st11⟩ := putF X8 hx hZ hown (host := "") (Or.inl (own_w hw 41 rfl)) Via.refl e8 ff12 ff13 (Or.inl (own_w hw 42 rfl)) (own_w hw 14 rfl) (ty := .long) (by decide) rfl rfl (g := (mkF m 25 #[rv a, .val (.long x0), .second, .val (.double x1), .second, .val (.long x2), .second, .val (.double x3), .second, .val (.long x4), .second, .val (.double x5), .second, .val (.long x6), .second, .val (.double x7), .second] [(.long x4), (.ref a)])) rfl rfl (hb hby d_prog_59_21_25)
  have F11 := ff12.same W11
  have z11 := W11.size
  have N11 := Fr.snoc X11 N8 (show n0 ≤ a by omega)
  have K11 := K8.wr W11 (Or.inl (List.mem_of_getElem? (i := 0) rfl))
  refine og T11 (mkF m 28 #[rv a, .val (.long x0), .second, .val (.double x1), .second, .val (.long x2), .second, .val (.double x3), .second, .val (.long x4), .second, .val (.double x5), .second, .val (.long x6), .second, .val (.double x7), .second] []) (fun t_ k_ => st11 _ k_) ?_
  refine og T11 (mkF m 29 #[rv a, .val (.long x0), .second, .val (.double x1), .second, .val (.long x2), .second, .val (.double x3), .second, .val (.long x4), .second, .val (.double x5), .second, .val (.long x6), .second, .val (.double x7), .second] [(.ref a)]) (fun t_ k_ => XS.aloadN X11.here hx rfl (hb hby d_prog_59_21_28) rfl rfl k_) ?_
  refine og T11 (mkF m 31 #[rv a, .val (.long x0), .second, .val (.double x1), .second, .val (.long x2), .second, .val (.double x3), .second, .val (.long x4), .second, .val (.double x5), .second, .val (.long x6), .second, .val (.double x7), .second] [(.double x5), (.ref a)]) (fun t_ k_ => XS.dload X11.here hx rfl (hb hby d_prog_59_21_29) rfl k_) ?_
  have ff15 := (((((F_m_dBottomValue_a.other W1 (Or.inr (sn_10 hw))).other W2 (Or.inr (sn_11 hw))).other W5 (Or.inr (sn_12 hw))).other W8 (Or.inr (sn_13 hw))).other W11 (Or.inr (sn_14 hw)))
  have ff16 := (ff13.wr W11)
  obtain ⟨T14, h14, X14, e14, W14, st14⟩ := putF X11 hx hZ hown (host := "") (Or.inl (own_w hw 43 rfl)) Via.refl e11 ff15 ff16 (Or.inl (own_w hw 44 rfl)) (own_w hw 14 rfl) (ty := .double) (by decide) rfl rfl (g := (mkF m 31 #[rv a, .val (.long x0), .second, .val (.double x1), .second, .val (.long x2), .second, .val (.double x3), .second, .val (.long x4), .second, .val (.double x5), .second, .val (.long x6), .second, .val (.double x7), .second] [(.double x5), (.ref a)])) rfl rfl (hb hby d_prog_59_21_31)
  have F14 := ff15.same W14
  have z14 := W14.size
  have N14 := Fr.snoc X14 N11 (show n0 ≤ a by omega)
  have K14 := K11.wr W14 (Or.inl (List.mem_of_getElem? (i := 0) rfl))
  refine og T14 (mkF m 34 #[rv a, .val (.long x0), .second, .val (.double x1), .second, .val (.long x2), .second, .val (.double x3), .second, .val (.long x4), .second, .val (.double x5), .second, .val (.long x6), .second, .val (.double x7), .second] []) (fun t_ k_ => st14 _ k_) ?_
  refine og T14 (mkF m 35 #[rv a, .val (.long x0), .second, .val (.double x1), .second, .val (.long x2), .second, .val (.double x3), .second, .val (.long x4), .second, .val (.double x5), .second, .val (.long x6), .second, .val (.double x7), .second] [(.ref a)]) (fun t_ k_ => XS.aloadN X14.here hx rfl (hb hby d_prog_59_21_34) rfl rfl k_) ?_
  refine og T14 (mkF m 37 #[rv a, .val (.long x0), .second, .val (.double x1), .second, .val (.long x2), .second, .val (.double x3), .second, .val (.long x4), .second, .val (.double x5), .second, .val (.long x6), .second, .val (.double x7), .second] [(.long x6), (.ref a)]) (fun t_ k_ => XS.lload X14.here hx rfl (hb hby d_prog_59_21_35) rfl k_) ?_
  have ff18 := ((((((F_m_nTopTimestamp_a.other W1 (Or.inr (sn_15 hw))).other W2 (Or.inr (sn_16 hw))).other W5 (Or.inr (sn_17 hw))).other W8 (Or.inr (sn_18 hw))).other W11 (Or.inr (sn_19 hw))).other W14 (Or.inr (sn_20 hw)))
  have ff19 := (ff16.wr W14)
  obtain ⟨T17, h17, X17, e17, W17, st17⟩ := putF X14 hx hZ hown (host := "") (Or.inl (own_w hw 45 rfl)) Via.refl e14 ff18 ff19 (Or.inl (own_w hw 46 rfl)) (own_w hw 14 rfl) (ty := .long) (by decide) rfl rfl (g := (mkF m 37 #[rv a, .val (.long x0), .second, .val (.double x1), .second, .val (.long x2), .second, .val (.double x3), .second, .val (.long x4), .second, .val (.double x5), .second, .val (.long x6), .second, .val (.double x7), .second] [(.long x6), (.ref a)])) rfl rfl (hb hby d_prog_59_21_37)
  have F17 := ff18.same W17
  have z17 := W17.size
  have N17 := Fr.snoc X17 N14 (show n0 ≤ a by omega)
  have K17 := K14.wr W17 (Or.inl (List.mem_of_getElem? (i := 0) rfl))
  refine og T17 (mkF m 40 #[rv a, .val (.long x0), .second, .val (.double x1), .second, .val (.long x2), .second, .val (.double x3), .second, .val (.long x4), .second, .val (.double x5), .second, .val (.long x6), .second, .val (.double x7), .second] []) (fun t_ k_ => st17 _ k_) ?_
  refine og T17 (mkF m 41 #[rv a, .val (.long x0), .second, .val (.double x1), .second, .val (.long x2), .second, .val (.double x3), .second, .val (.long x4), .second, .val (.double x5), .second, .val (.long x6), .second, .val (.double x7), .second] [(.ref a)]) (fun t_ k_ => XS.aloadN X17.here hx rfl (hb hby d_prog_59_21_40) rfl rfl k_) ?_
  refine og T17 (mkF m 43 #[rv a, .val (.long x0), .second, .val (.double x1), .second, .val (.long x2), .second, .val (.double x3), .second, .val (.long x4), .second, .val (.double x5), .second, .val (.long x6), .second, .val (.double x7), .second] [(.double x7), (.ref a)]) (fun t_ k_ => XS.dload X17.here hx rfl (hb hby d_prog_59_21_41) rfl k_) ?_
  have ff21 := (((((((F_m_dTopValue_a.other W1 (Or.inr (sn_21 hw))).other W2 (Or.inr (sn_22 hw))).other W5 (Or.inr (sn_23 hw))).other W8 (Or.inr (sn_24 hw))).other W11 (Or.inr (sn_25 hw))).other W14 (Or.inr (sn_26 hw))).other W17 (Or.inr (sn_27 hw)))
  have ff22 := (ff19.wr W17)
  obtain ⟨T20, h20, X20, e20, W20, st20⟩ := putF X17 hx hZ hown (host := "") (Or.inl (own_w hw 47 rfl)) Via.refl e17 ff21 ff22 (Or.inl (own_w hw 48 rfl)) (own_w hw 14 rfl) (ty := .double) (by decide) rfl rfl (g := (mkF m 43 #[rv a, .val (.long x0), .second, .val (.double x1), .second, .val (.long x2), .second, .val (.double x3), .second, .val (.long x4), .second, .val (.double x5), .second, .val (.long x6), .second, .val (.double x7), .second] [(.double x7), (.ref a)])) rfl rfl (hb hby d_prog_59_21_43)
  have F20 := ff21.same W20
  have z20 := W20.size
  have N20 := Fr.snoc X20 N17 (show n0 ≤ a by omega)
  have K20 := K17.wr W20 (Or.inl (List.mem_of_getElem? (i := 0) rfl))
  refine og T20 (mkF m 46 #[rv a, .val (.long x0), .second, .val (.double x1), .second, .val (.long x2), .second, .val (.double x3), .second, .val (.long x4), .second, .val (.double x5), .second, .val (.long x6), .second, .val (.double x7), .second] []) (fun t_ k_ => st20 _ k_) ?_
  have ff23 := (((((((F1.other W2 (Or.inr (sn_28 hw))).other W5 (Or.inr (sn_29 hw))).other W8 (Or.inr (sn_30 hw))).other W11 (Or.inr (sn_31 hw))).other W14 (Or.inr (sn_32 hw))).other W17 (Or.inr (sn_33 hw))).other W20 (Or.inr (sn_34 hw)))
  have ff24 := ((((((F2.other W5 (Or.inr (sn_35 hw))).other W8 (Or.inr (sn_36 hw))).other W11 (Or.inr (sn_37 hw))).other W14 (Or.inr (sn_38 hw))).other W17 (Or.inr (sn_39 hw))).other W20 (Or.inr (sn_40 hw)))
  have ff25 := (((((F5.other W8 (Or.inr (sn_41 hw))).other W11 (Or.inr (sn_42 hw))).other W14 (Or.inr (sn_43 hw))).other W17 (Or.inr (sn_44 hw))).other W20 (Or.inr (sn_45 hw)))
  have ff26 := ((((F8.other W11 (Or.inr (sn_46 hw))).other W14 (Or.inr (sn_47 hw))).other W17 (Or.inr (sn_48 hw))).other W20 (Or.inr (sn_49 hw)))
  have ff27 := (((F11.other W14 (Or.inr (sn_50 hw))).other W17 (Or.inr (sn_51 hw))).other W20 (Or.inr (sn_52 hw)))
  have ff28 := ((F14.other W17 (Or.inr (sn_53 hw))).other W20 (Or.inr (sn_54 hw)))
  have ff29 := (F17.other W20 (Or.inr (sn_55 hw)))
  exact own_out X20 (v := none) (fun _ => rfl) hlk (fun fs hr => X20.returnOut hx hret (hb hby d_prog_59_21_46) hr) (Q := Q_rm_set Z a x0 x1 x2 x3 x4 x5 x6 x7 u0 u1 u2 u3 u4 u5 u6 u7 h0 n0) (by rw [e20]; exact ⟨rfl, N20, K20, ff23, ff24, ff25, ff26, ff27, ff28, ff29, F20⟩) (by decide) (by decide)
theorem d_prog_59_22_0 : decode prog_59_method_22_code 0 = .ok (.lload_n 1, 1) := by decide +kernel
theorem d_prog_59_22_1 : decode prog_59_method_22_code 1 = .ok (.aload_n 0, 1) := by decide +kernel
theorem d_prog_59_22_2 : decode prog_59_method_22_code 2 = .ok (.getfield 13, 3) := by decide +kernel
theorem d_prog_59_22_5 : decode prog_59_method_22_code 5 = .ok (.lcmp, 1) := by decide +kernel
theorem d_prog_59_22_6 : decode prog_59_method_22_code 6 = .ok (.ifCond .ne 8, 3) := by decide +kernel
theorem d_prog_59_22_9 : decode prog_59_method_22_code 9 = .ok (.aload_n 0, 1) := by decide +kernel
theorem d_prog_59_22_10 : decode prog_59_method_22_code 10 = .ok (.dload_n 3, 1) := by decide +kernel
theorem d_prog_59_22_11 : decode prog_59_method_22_code 11 = .ok (.putfield 17, 3) := by decide +kernel
theorem d_prog_59_22_14 : decode prog_59_method_22_code 14 = .ok (.lload_n 1, 1) := by decide +kernel
theorem d_prog_59_22_15 : decode prog_59_method_22_code 15 = .ok (.aload_n 0, 1) := by decide +kernel
theorem d_prog_59_22_16 : decode prog_59_method_22_code 16 = .ok (.getfield 21, 3) := by decide +kernel
theorem d_prog_59_22_19 : decode prog_59_method_22_code 19 = .ok (.lcmp, 1) := by decide +kernel
theorem d_prog_59_22_20 : decode prog_59_method_22_code 20 = .ok (.ifCond .ne 8, 3) := by decide +kernel
theorem d_prog_59_22_28 : decode prog_59_method_22_code 28 = .ok (.dload_n 3, 1) := by decide +kernel
theorem d_prog_59_22_29 : decode prog_59_method_22_code 29 = .ok (.aload_n 0, 1) := by decide +kernel
theorem d_prog_59_22_30 : decode prog_59_method_22_code 30 = .ok (.getfield 30, 3) := by decide +kernel
theorem d_prog_59_22_33 : decode prog_59_method_22_code 33 = .ok (.dcmp .g, 1) := by decide +kernel
theorem d_prog_59_22_34 : decode prog_59_method_22_code 34 = .ok (.ifCond .lt 21, 3) := by decide +kernel
theorem d_prog_59_22_55 : decode prog_59_method_22_code 55 = .ok (.aload_n 0, 1) := by decide +kernel
theorem d_prog_59_22_56 : decode prog_59_method_22_code 56 = .ok (.lload_n 1, 1) := by decide +kernel
theorem d_prog_59_22_57 : decode prog_59_method_22_code 57 = .ok (.putfield 27, 3) := by decide +kernel
theorem d_prog_59_22_60 : decode prog_59_method_22_code 60 = .ok (.aload_n 0, 1) := by decide +kernel
theorem d_prog_59_22_61 : decode prog_59_method_22_code 61 = .ok (.dload_n 3, 1) := by decide +kernel
theorem d_prog_59_22_62 : decode prog_59_method_22_code 62 = .ok (.putfield 30, 3) := by decide +kernel
theorem d_prog_59_22_65 : decode prog_59_method_22_code 65 = .ok (.dload_n 3, 1) := by decide +kernel
theorem d_prog_59_22_66 : decode prog_59_method_22_code 66 = .ok (.aload_n 0, 1) := by decide +kernel
theorem d_prog_59_22_67 : decode prog_59_method_22_code 67 = .ok (.getfield 36, 3) := by decide +kernel
theorem d_prog_59_22_70 : decode prog_59_method_22_code 70 = .ok (.dcmp .l, 1) := by decide +kernel
theorem d_prog_59_22_71 : decode prog_59_method_22_code 71 = .ok (.ifCond .gt 21, 3) := by decide +kernel
theorem d_prog_59_22_92 : decode prog_59_method_22_code 92 = .ok (.aload_n 0, 1) := by decide +kernel
theorem d_prog_59_22_93 : decode prog_59_method_22_code 93 = .ok (.lload_n 1, 1) := by decide +kernel
theorem d_prog_59_22_94 : decode prog_59_method_22_code 94 = .ok (.putfield 33, 3) := by decide +kernel
theorem d_prog_59_22_97 : decode prog_59_method_22_code 97 = .ok (.aload_n 0, 1) := by decide +kernel
theorem d_prog_59_22_98 : decode prog_59_method_22_code 98 = .ok (.dload_n 3, 1) := by decide +kernel
theorem d_prog_59_22_99 : decode prog_59_method_22_code 99 = .ok (.putfield 36, 3) := by decide +kernel
theorem d_prog_59_22_102 : decode prog_59_method_22_code 102 = .ok (.return_, 1) := by decide +kernel
theorem d_prog_59_22_74 : decode prog_59_method_22_code 74 = .ok (.dload_n 3, 1) := by decide +kernel
theorem d_prog_59_22_75 : decode prog_59_method_22_code 75 = .ok (.aload_n 0, 1) := by decide +kernel
theorem d_prog_59_22_76 : decode prog_59_method_22_code 76 = .ok (.getfield 36, 3) := by decide +kernel
theorem d_prog_59_22_79 : decode prog_59_method_22_code 79 = .ok (.dcmp .l, 1) := by decide +kernel
theorem d_prog_59_22_80 : decode prog_59_method_22_code 80 = .ok (.ifCond .ne 22, 3) := by decide +kernel
theorem d_prog_59_22_83 : decode prog_59_method_22_code 83 = .ok (.lload_n 1, 1) := by decide +kernel
theorem d_prog_59_22_84 : decode prog_59_method_22_code 84 = .ok (.aload_n 0, 1) := by decide +kernel
theorem d_prog_59_22_85 : decode prog_59_method_22_code 85 = .ok (.getfield 33, 3) := by decide +kernel
theorem d_prog_59_22_88 : decode prog_59_method_22_code 88 = .ok (.lcmp, 1) := by decide +kernel
theorem d_prog_59_22_89 : decode prog_59_method_22_code 89 = .ok (.ifCond .ge 13, 3) := by decide +kernel
theorem d_prog_59_22_37 : decode prog_59_method_22_code 37 = .ok (.dload_n 3, 1) := by decide +kernel
theorem d_prog_59_22_38 : decode prog_59_method_22_code 38 = .ok (.aload_n 0, 1) := by decide +kernel
theorem d_prog_59_22_39 : decode prog_59_method_22_code 39 = .ok (.getfield 30, 3) := by decide +kernel
theorem d_prog_59_22_42 : decode prog_59_method_22_code 42 = .ok (.dcmp .l, 1) := by decide +kernel
theorem d_prog_59_22_43 : decode prog_59_method_22_code 43 = .ok (.ifCond .ne 22, 3) := by decide +kernel
theorem d_prog_59_22_46 : decode prog_59_method_22_code 46 = .ok (.lload_n 1, 1) := by decide +kernel
theorem d_prog_59_22_47 : decode prog_59_method_22_code 47 = .ok (.aload_n 0, 1) := by decide +kernel
theorem d_prog_59_22_48 : decode prog_59_method_22_code 48 = .ok (.getfield 27, 3) := by decide +kernel
theorem d_prog_59_22_51 : decode prog_59_method_22_code 51 = .ok (.lcmp, 1) := by decide +kernel
theorem d_prog_59_22_52 : decode prog_59_method_22_code 52 = .ok (.ifCond .ge 13, 3) := by decide +kernel
theorem d_prog_59_22_23 : decode prog_59_method_22_code 23 = .ok (.aload_n 0, 1) := by decide +kernel
theorem d_prog_59_22_24 : decode prog_59_method_22_code 24 = .ok (.dload_n 3, 1) := by decide +kernel
theorem d_prog_59_22_25 : decode prog_59_method_22_code 25 = .ok (.putfield 24, 3) := by decide +kernel
theorem ef_7 (m : MethodId) (a : Nat) (t : Int64) (d : UInt64) : entryFrame m #[(.ref a), (.long t), (.double d)] 5 = mkF m 0 #[rv a, .val (.long t), .second, .val (.double d), .second] [] := by first | (simp [entryFrame, mkF, argsToLocals, Value.category]; done) | rfl
abbrev ym_7 : MethodName := ⟨"com/example/driftline/driftline/storage/Extremes", "weigh", "(JD)V"⟩
def Q_rm_weigh (Z : State) (a : Nat) (t : Int64) (d : UInt64) (fT : Int64) (fV : UInt64) (lT : Int64) (lV : UInt64) (bT : Int64) (bV : UInt64) (tT : Int64) (tV : UInt64) (rw : Int) (rb : Int) (rt : Int) (h0 : Heap) (n0 : Nat) (vv : Option Value) (h : Heap) (LL : List Loc) : Prop := vv = none ∧ Fr n0 LL ∧ Keep h0 h [a] ∧ Fld Z h a "com/example/driftline/driftline/storage/Extremes" "m_nFirstTimestamp" "J" (.long fT) ∧ Fld Z h a "com/example/driftline/driftline/storage/Extremes" "m_dFirstValue" "D" (.double (if t = fT then d else fV)) ∧ Fld Z h a "com/example/driftline/driftline/storage/Extremes" "m_nLastTimestamp" "J" (.long lT) ∧ Fld Z h a "com/example/driftline/driftline/storage/Extremes" "m_dLastValue" "D" (.double (if t = lT then d else lV)) ∧ Fld Z h a "com/example/driftline/driftline/storage/Extremes" "m_nBottomTimestamp" "J" (.long (if (rw < rb ∨ (rw = rb ∧ t < bT)) then t else bT)) ∧ Fld Z h a "com/example/driftline/driftline/storage/Extremes" "m_dBottomValue" "D" (.double (if (rw < rb ∨ (rw = rb ∧ t < bT)) then d else bV)) ∧ Fld Z h a "com/example/driftline/driftline/storage/Extremes" "m_nTopTimestamp" "J" (.long (if (rt < rw ∨ (rw = rt ∧ t < tT)) then t else tT)) ∧ Fld Z h a "com/example/driftline/driftline/storage/Extremes" "m_dTopValue" "D" (.double (if (rt < rw ∨ (rw = rt ∧ t < tT)) then d else tV))
set_option maxRecDepth 65536 in
set_option maxHeartbeats 40000000 in
theorem rm_weigh (l : Launch) (Z : State) (a0 : Array Value) (hw : ∀ d ∈ tables_1, d.before a0 Z = true) (ws : List Jvm.Cond) (a : Nat) (t : Int64) (d : UInt64) (fT : Int64) (fV : UInt64) (lT : Int64) (lV : UInt64) (bT : Int64) (bV : UInt64) (tT : Int64) (tV : UInt64) (rw : Int) (rb : Int) (rt : Int) (h0 : Heap) (n0 : Nat) (Z0 : n0 ≤ h0.size) (E_a : Exa Z h0 a "com/example/driftline/driftline/storage/Extremes") (F_m_nFirstTimestamp_a : Fld Z h0 a "com/example/driftline/driftline/storage/Extremes" "m_nFirstTimestamp" "J" (.long fT)) (F_m_dFirstValue_a : Fld Z h0 a "com/example/driftline/driftline/storage/Extremes" "m_dFirstValue" "D" (.double fV)) (F_m_nLastTimestamp_a : Fld Z h0 a "com/example/driftline/driftline/storage/Extremes" "m_nLastTimestamp" "J" (.long lT)) (F_m_dLastValue_a : Fld Z h0 a "com/example/driftline/driftline/storage/Extremes" "m_dLastValue" "D" (.double lV)) (F_m_nBottomTimestamp_a : Fld Z h0 a "com/example/driftline/driftline/storage/Extremes" "m_nBottomTimestamp" "J" (.long bT)) (F_m_dBottomValue_a : Fld Z h0 a "com/example/driftline/driftline/storage/Extremes" "m_dBottomValue" "D" (.double bV)) (F_m_nTopTimestamp_a : Fld Z h0 a "com/example/driftline/driftline/storage/Extremes" "m_nTopTimestamp" "J" (.long tT)) (F_m_dTopValue_a : Fld Z h0 a "com/example/driftline/driftline/storage/Extremes" "m_dTopValue" "D" (.double tV)) (D_d : own_D d rw) (D_bV : own_D bV rb) (D_tV : own_D tV rt) (g_a : n0 ≤ a) (hfl : ¬ fT = lT) :
    own_MF l ym_7 prog_59_method_22_code 5 none ⟨0, 0, 0, 0⟩ ws Z #[(.ref a), (.long t), (.double d)] h0 (Q_rm_weigh Z a t d fT fV lT lV bT bV tT tV rw rb rt h0 n0) := by
  refine own_begin (plainFor_of_name pn_1) (fun m => ef_7 m a t d) ?_
  intro p e s m below meth c s₁ hret hx hby hml hown hnm hlk X0 e0 hh hZ
  have N0 := Fr.nil n0
  have lt_E_a := own_ltN E_a.lt
  have lt_F_m_nFirstTimestamp_a := own_ltN F_m_nFirstTimestamp_a.lt
  have lt_F_m_dFirstValue_a := own_ltN F_m_dFirstValue_a.lt
  have lt_F_m_nLastTimestamp_a := own_ltN F_m_nLastTimestamp_a.lt
  have lt_F_m_dLastValue_a := own_ltN F_m_dLastValue_a.lt
  have lt_F_m_nBottomTimestamp_a := own_ltN F_m_nBottomTimestamp_a.lt
  have lt_F_m_dBottomValue_a := own_ltN F_m_dBottomValue_a.lt
  have lt_F_m_nTopTimestamp_a := own_ltN F_m_nTopTimestamp_a.lt
  have lt_F_m_dTopValue_a := own_ltN F_m_dTopValue_a.lt
  refine og s₁ (mkF m 1 #[rv a, .val (.long t), .second, .val (.double d), .second] [(.long t)]) (fun t_ k_ => XS.lloadN X0.here hx rfl (hb hby d_prog_59_22_0) rfl k_) ?_
  refine og s₁ (mkF m 2 #[rv a, .val (.long t), .second, .val (.double d), .second] [(.ref a), (.long t)]) (fun t_ k_ => XS.aloadN X0.here hx rfl (hb hby d_prog_59_22_1) rfl rfl k_) ?_
  obtain ⟨T1, X1, e1, st1⟩ := getF X0 hx hZ hown (host := "") (Or.inl (own_w hw 33 rfl)) Via.refl e0 F_m_nFirstTimestamp_a (g := (mkF m 2 #[rv a, .val (.long t), .second, .val (.double d), .second] [(.ref a), (.long t)])) rfl rfl (hb hby d_prog_59_22_2)
  refine og T1 (mkF m 5 #[rv a, .val (.long t), .second, .val (.double d), .second] [(.long fT), (.long t)]) (fun t_ k_ => st1 _ k_) ?_
  refine og T1 (mkF m 6 #[rv a, .val (.long t), .second, .val (.double d), .second] [(.int (lcmpW t fT))]) (fun t_ k_ => XS.lcmp X1.here hx rfl (hb hby d_prog_59_22_5) rfl k_) ?_
  by_cases hq2_ : t = fT
  · skip
    refine og T1 (mkF m 9 #[rv a, .val (.long t), .second, .val (.double d), .second] []) (fun t_ k_ => XS.ifNo X1.here hx rfl (hb hby d_prog_59_22_6) rfl ((if0 _ _).trans (teq ((lw_eq _ _).mpr hq2_)).2) k_) ?_
    refine og T1 (mkF m 10 #[rv a, .val (.long t), .second, .val (.double d), .second] [(.ref a)]) (fun t_ k_ => XS.aloadN X1.here hx rfl (hb hby d_prog_59_22_9) rfl rfl k_) ?_
    refine og T1 (mkF m 11 #[rv a, .val (.long t), .second, .val (.double d), .second] [(.double d), (.ref a)]) (fun t_ k_ => XS.dloadN X1.here hx rfl (hb hby d_prog_59_22_10) rfl k_) ?_
    obtain ⟨T3, h3, X3, e3, W3, st3⟩ := putF X1 hx hZ hown (host := "") (Or.inl (own_w hw 35 rfl)) Via.refl e1 F_m_dFirstValue_a E_a (Or.inl (own_w hw 36 rfl)) (own_w hw 14 rfl) (ty := .double) (by decide) rfl rfl (g := (mkF m 11 #[rv a, .val (.long t), .second, .val (.double d), .second] [(.double d), (.ref a)])) rfl rfl (hb hby d_prog_59_22_11)
    have F3 := F_m_dFirstValue_a.same W3
    have z3 := W3.size
    have N3 := Fr.snoc X3 N0 (show n0 ≤ a by omega)
    have K3 := (Keep.refl h0 [a]).wr W3 (Or.inl (List.mem_of_getElem? (i := 0) rfl))
    refine og T3 (mkF m 14 #[rv a, .val (.long t), .second, .val (.double d), .second] []) (fun t_ k_ => st3 _ k_) ?_
    refine og T3 (mkF m 15 #[rv a, .val (.long t), .second, .val (.double d), .second] [(.long t)]) (fun t_ k_ => XS.lloadN X3.here hx rfl (hb hby d_prog_59_22_14) rfl k_) ?_
    refine og T3 (mkF m 16 #[rv a, .val (.long t), .second, .val (.double d), .second] [(.ref a), (.long t)]) (fun t_ k_ => XS.aloadN X3.here hx rfl (hb hby d_prog_59_22_15) rfl rfl k_) ?_
    have ff5 := (F_m_nLastTimestamp_a.other W3 (Or.inr (sn_2 hw)))
    obtain ⟨T4, X4, e4, st4⟩ := getF X3 hx hZ hown (host := "") (Or.inl (own_w hw 37 rfl)) Via.refl e3 ff5 (g := (mkF m 16 #[rv a, .val (.long t), .second, .val (.double d), .second] [(.ref a), (.long t)])) rfl rfl (hb hby d_prog_59_22_16)
    refine og T4 (mkF m 19 #[rv a, .val (.long t), .second, .val (.double d), .second] [(.long lT), (.long t)]) (fun t_ k_ => st4 _ k_) ?_
    refine og T4 (mkF m 20 #[rv a, .val (.long t), .second, .val (.double d), .second] [(.int (lcmpW t lT))]) (fun t_ k_ => XS.lcmp X4.here hx rfl (hb hby d_prog_59_22_19) rfl k_) ?_
    refine og T4 (mkF m 28 #[rv a, .val (.long t), .second, .val (.double d), .second] []) (fun t_ k_ => XS.ifYes X4.here hx rfl (pc0 := 20) (pc' := 28) rfl (hb hby d_prog_59_22_20) rfl ((if0 _ _).trans (feq (fun z => (fun q => hfl (hq2_.symm.trans q)) ((lw_eq _ _).mp z))).2) (by decide) (by decide) k_) ?_
    refine og T4 (mkF m 29 #[rv a, .val (.long t), .second, .val (.double d), .second] [(.double d)]) (fun t_ k_ => XS.dloadN X4.here hx rfl (hb hby d_prog_59_22_28) rfl k_) ?_
    refine og T4 (mkF m 30 #[rv a, .val (.long t), .second, .val (.double d), .second] [(.ref a), (.double d)]) (fun t_ k_ => XS.aloadN X4.here hx rfl (hb hby d_prog_59_22_29) rfl rfl k_) ?_
    have ff7 := (F_m_dBottomValue_a.other W3 (Or.inr (sn_11 hw)))
    obtain ⟨T6, X6, e6, st6⟩ := getF X4 hx hZ hown (host := "") (Or.inl (own_w hw 43 rfl)) Via.refl e4 ff7 (g := (mkF m 30 #[rv a, .val (.long t), .second, .val (.double d), .second] [(.ref a), (.double d)])) rfl rfl (hb hby d_prog_59_22_30)
    refine og T6 (mkF m 33 #[rv a, .val (.long t), .second, .val (.double d), .second] [(.double bV), (.double d)]) (fun t_ k_ => st6 _ k_) ?_
    refine og T6 (mkF m 34 #[rv a, .val (.long t), .second, .val (.double d), .second] [(.int (own_cmp rw rb))]) (fun t_ k_ => XS.dcmpS X6.here hx rfl (hb hby d_prog_59_22_33) rfl (own_dc _ D_d D_bV) k_) ?_
    by_cases hq8_ : rw < rb
    · skip
      refine og T6 (mkF m 55 #[rv a, .val (.long t), .second, .val (.double d), .second] []) (fun t_ k_ => XS.ifYes X6.here hx rfl (pc0 := 34) (pc' := 55) rfl (hb hby d_prog_59_22_34) rfl ((if0 _ _).trans (tlt ((own_clt _ _).mpr hq8_)).1) (by decide) (by decide) k_) ?_
      refine og T6 (mkF m 56 #[rv a, .val (.long t), .second, .val (.double d), .second] [(.ref a)]) (fun t_ k_ => XS.aloadN X6.here hx rfl (hb hby d_prog_59_22_55) rfl rfl k_) ?_
      refine og T6 (mkF m 57 #[rv a, .val (.long t), .second, .val (.double d), .second] [(.long t), (.ref a)]) (fun t_ k_ => XS.lloadN X6.here hx rfl (hb hby d_prog_59_22_56) rfl k_) ?_
      have ff10 := (F_m_nBottomTimestamp_a.other W3 (Or.inr (sn_7 hw)))
      have ff11 := (E_a.wr W3)
      obtain ⟨T9, h9, X9, e9, W9, st9⟩ := putF X6 hx hZ hown (host := "") (Or.inl (own_w hw 41 rfl)) Via.refl e6 ff10 ff11 (Or.inl (own_w hw 42 rfl)) (own_w hw 14 rfl) (ty := .long) (by decide) rfl rfl (g := (mkF m 57 #[rv a, .val (.long t), .second, .val (.double d), .second] [(.long t), (.ref a)])) rfl rfl (hb hby d_prog_59_22_57)
      have F9 := ff10.same W9
      have z9 := W9.size
      have N9 := Fr.snoc X9 N3 (show n0 ≤ a by omega)
      have K9 := K3.wr W9 (Or.inl (List.mem_of_getElem? (i := 0) rfl))
      refine og T9 (mkF m 60 #[rv a, .val (.long t), .second, .val (.double d), .second] []) (fun t_ k_ => st9 _ k_) ?_
      refine og T9 (mkF m 61 #[rv a, .val (.long t), .second, .val (.double d), .second] [(.ref a)]) (fun t_ k_ => XS.aloadN X9.here hx rfl (hb hby d_prog_59_22_60) rfl rfl k_) ?_
      refine og T9 (mkF m 62 #[rv a, .val (.long t), .second, .val (.double d), .second] [(.double d), (.ref a)]) (fun t_ k_ => XS.dloadN X9.here hx rfl (hb hby d_prog_59_22_61) rfl k_) ?_
      have ff13 := (ff7.other W9 (Or.inr (sn_14 hw)))
      have ff14 := (ff11.wr W9)
      obtain ⟨T12, h12, X12, e12, W12, st12⟩ := putF X9 hx hZ hown (host := "") (Or.inl (own_w hw 43 rfl)) Via.refl e9 ff13 ff14 (Or.inl (own_w hw 44 rfl)) (own_w hw 14 rfl) (ty := .double) (by decide) rfl rfl (g := (mkF m 62 #[rv a, .val (.long t), .second, .val (.double d), .second] [(.double d), (.ref a)])) rfl rfl (hb hby d_prog_59_22_62)
      have F12 := ff13.same W12
      have z12 := W12.size
      have N12 := Fr.snoc X12 N9 (show n0 ≤ a by omega)
      have K12 := K9.wr W12 (Or.inl (List.mem_of_getElem? (i := 0) rfl))
      refine og T12 (mkF m 65 #[rv a, .val (.long t), .second, .val (.double d), .second] []) (fun t_ k_ => st12 _ k_) ?_
      refine og T12 (mkF m 66 #[rv a, .val (.long t), .second, .val (.double d), .second] [(.double d)]) (fun t_ k_ => XS.dloadN X12.here hx rfl (hb hby d_prog_59_22_65) rfl k_) ?_
      refine og T12 (mkF m 67 #[rv a, .val (.long t), .second, .val (.double d), .second] [(.ref a), (.double d)]) (fun t_ k_ => XS.aloadN X12.here hx rfl (hb hby d_prog_59_22_66) rfl rfl k_) ?_
      have ff16 := (((F_m_dTopValue_a.other W3 (Or.inr (sn_22 hw))).other W9 (Or.inr (sn_25 hw))).other W12 (Or.inr (sn_26 hw)))
      obtain ⟨T15, X15, e15, st15⟩ := getF X12 hx hZ hown (host := "") (Or.inl (own_w hw 47 rfl)) Via.refl e12 ff16 (g := (mkF m 67 #[rv a, .val (.long t), .second, .val (.double d), .second] [(.ref a), (.double d)])) rfl rfl (hb hby d_prog_59_22_67)
      refine og T15 (mkF m 70 #[rv a, .val (.long t), .second, .val (.double d), .second] [(.double tV), (.double d)]) (fun t_ k_ => st15 _ k_) ?_
      refine og T15 (mkF m 71 #[rv a, .val (.long t), .second, .val (.double d), .second] [(.int (own_cmp rw rt))]) (fun t_ k_ => XS.dcmpS X15.here hx rfl (hb hby d_prog_59_22_70) rfl (own_dc _ D_d D_tV) k_) ?_
      by_cases hq17_ : rt < rw
      · skip
        refine og T15 (mkF m 92 #[rv a, .val (.long t), .second, .val (.double d), .second] []) (fun t_ k_ => XS.ifYes X15.here hx rfl (pc0 := 71) (pc' := 92) rfl (hb hby d_prog_59_22_71) rfl ((if0 _ _).trans (tlt ((own_cgt _ _).mpr hq17_)).2.2.1) (by decide) (by decide) k_) ?_
        refine og T15 (mkF m 93 #[rv a, .val (.long t), .second, .val (.double d), .second] [(.ref a)]) (fun t_ k_ => XS.aloadN X15.here hx rfl (hb hby d_prog_59_22_92) rfl rfl k_) ?_
        refine og T15 (mkF m 94 #[rv a, .val (.long t), .second, .val (.double d), .second] [(.long t), (.ref a)]) (fun t_ k_ => XS.lloadN X15.here hx rfl (hb hby d_prog_59_22_93) rfl k_) ?_
        have ff19 := (((F_m_nTopTimestamp_a.other W3 (Or.inr (sn_16 hw))).other W9 (Or.inr (sn_19 hw))).other W12 (Or.inr (sn_20 hw)))
        have ff20 := (ff14.wr W12)
        obtain ⟨T18, h18, X18, e18, W18, st18⟩ := putF X15 hx hZ hown (host := "") (Or.inl (own_w hw 45 rfl)) Via.refl e15 ff19 ff20 (Or.inl (own_w hw 46 rfl)) (own_w hw 14 rfl) (ty := .long) (by decide) rfl rfl (g := (mkF m 94 #[rv a, .val (.long t), .second, .val (.double d), .second] [(.long t), (.ref a)])) rfl rfl (hb hby d_prog_59_22_94)
        have F18 := ff19.same W18
        have z18 := W18.size
        have N18 := Fr.snoc X18 N12 (show n0 ≤ a by omega)
        have K18 := K12.wr W18 (Or.inl (List.mem_of_getElem? (i := 0) rfl))
        refine og T18 (mkF m 97 #[rv a, .val (.long t), .second, .val (.double d), .second] []) (fun t_ k_ => st18 _ k_) ?_
        refine og T18 (mkF m 98 #[rv a, .val (.long t), .second, .val (.double d), .second] [(.ref a)]) (fun t_ k_ => XS.aloadN X18.here hx rfl (hb hby d_prog_59_22_97) rfl rfl k_) ?_
        refine og T18 (mkF m 99 #[rv a, .val (.long t), .second, .val (.double d), .second] [(.double d), (.ref a)]) (fun t_ k_ => XS.dloadN X18.here hx rfl (hb hby d_prog_59_22_98) rfl k_) ?_
        have ff22 := (ff16.other W18 (Or.inr (sn_27 hw)))
        have ff23 := (ff20.wr W18)
        obtain ⟨T21, h21, X21, e21, W21, st21⟩ := putF X18 hx hZ hown (host := "") (Or.inl (own_w hw 47 rfl)) Via.refl e18 ff22 ff23 (Or.inl (own_w hw 48 rfl)) (own_w hw 14 rfl) (ty := .double) (by decide) rfl rfl (g := (mkF m 99 #[rv a, .val (.long t), .second, .val (.double d), .second] [(.double d), (.ref a)])) rfl rfl (hb hby d_prog_59_22_99)
        have F21 := ff22.same W21
        have z21 := W21.size
        have N21 := Fr.snoc X21 N18 (show n0 ≤ a by omega)
        have K21 := K18.wr W21 (Or.inl (List.mem_of_getElem? (i := 0) rfl))
        refine og T21 (mkF m 102 #[rv a, .val (.long t), .second, .val (.double d), .second] []) (fun t_ k_ => st21 _ k_) ?_
        have ff24 := (((((F_m_nFirstTimestamp_a.other W3 (Or.inr (sn_28 hw))).other W9 (Or.inr (sn_31 hw))).other W12 (Or.inr (sn_32 hw))).other W18 (Or.inr (sn_33 hw))).other W21 (Or.inr (sn_34 hw)))
        have ff25 := ((((F3.other W9 (Or.inr (sn_37 hw))).other W12 (Or.inr (sn_38 hw))).other W18 (Or.inr (sn_39 hw))).other W21 (Or.inr (sn_40 hw)))
        have ff26 := ((((ff5.other W9 (Or.inr (sn_42 hw))).other W12 (Or.inr (sn_43 hw))).other W18 (Or.inr (sn_44 hw))).other W21 (Or.inr (sn_45 hw)))
        have ff27 := (((((F_m_dLastValue_a.other W3 (Or.inr (sn_4 hw))).other W9 (Or.inr (sn_46 hw))).other W12 (Or.inr (sn_47 hw))).other W18 (Or.inr (sn_48 hw))).other W21 (Or.inr (sn_49 hw)))
        have ff28 := (((F9.other W12 (Or.inr (sn_50 hw))).other W18 (Or.inr (sn_51 hw))).other W21 (Or.inr (sn_52 hw)))
        have ff29 := ((F12.other W18 (Or.inr (sn_53 hw))).other W21 (Or.inr (sn_54 hw)))
        have ff30 := (F18.other W21 (Or.inr (sn_55 hw)))
        exact own_out X21 (v := none) (fun _ => rfl) hlk (fun fs hr => X21.returnOut hx hret (hb hby d_prog_59_22_102) hr) (Q := Q_rm_weigh Z a t d fT fV lT lV bT bV tT tV rw rb rt h0 n0) (by rw [e21]; exact ⟨rfl, N21, K21, ff24, (by rw [if_pos hq2_]; exact ff25), ff26, (by rw [if_neg (fun q => hfl (hq2_.symm.trans q))]; exact ff27), (by rw [if_pos (Or.inl hq8_)]; exact ff28), (by rw [if_pos (Or.inl hq8_)]; exact ff29), (by rw [if_pos (Or.inl hq17_)]; exact ff30), (by rw [if_pos (Or.inl hq17_)]; exact F21)⟩) (by decide) (by decide)
      · skip
        refine og T15 (mkF m 74 #[rv a, .val (.long t), .second, .val (.double d), .second] []) (fun t_ k_ => XS.ifNo X15.here hx rfl (hb hby d_prog_59_22_71) rfl ((if0 _ _).trans (flt (fun z => hq17_ ((own_cgt _ _).mp z))).2.2.1) k_) ?_
        refine og T15 (mkF m 75 #[rv a, .val (.long t), .second, .val (.double d), .second] [(.double d)]) (fun t_ k_ => XS.dloadN X15.here hx rfl (hb hby d_prog_59_22_74) rfl k_) ?_
        refine og T15 (mkF m 76 #[rv a, .val (.long t), .second, .val (.double d), .second] [(.ref a), (.double d)]) (fun t_ k_ => XS.aloadN X15.here hx rfl (hb hby d_prog_59_22_75) rfl rfl k_) ?_
        obtain ⟨T31, X31, e31, st31⟩ := getF X15 hx hZ hown (host := "") (Or.inl (own_w hw 47 rfl)) Via.refl e15 ff16 (g := (mkF m 76 #[rv a, .val (.long t), .second, .val (.double d), .second] [(.ref a), (.double d)])) rfl rfl (hb hby d_prog_59_22_76)
        refine og T31 (mkF m 79 #[rv a, .val (.long t), .second, .val (.double d), .second] [(.double tV), (.double d)]) (fun t_ k_ => st31 _ k_) ?_
        refine og T31 (mkF m 80 #[rv a, .val (.long t), .second, .val (.double d), .second] [(.int (own_cmp rw rt))]) (fun t_ k_ => XS.dcmpS X31.here hx rfl (hb hby d_prog_59_22_79) rfl (own_dc _ D_d D_tV) k_) ?_
        by_cases hq32_ : rw = rt
        · skip
          refine og T31 (mkF m 83 #[rv a, .val (.long t), .second, .val (.double d), .second] []) (fun t_ k_ => XS.ifNo X31.here hx rfl (hb hby d_prog_59_22_80) rfl ((if0 _ _).trans (teq ((own_ceq _ _).mpr hq32_)).2) k_) ?_
          refine og T31 (mkF m 84 #[rv a, .val (.long t), .second, .val (.double d), .second] [(.long t)]) (fun t_ k_ => XS.lloadN X31.here hx rfl (hb hby d_prog_59_22_83) rfl k_) ?_
          refine og T31 (mkF m 85 #[rv a, .val (.long t), .second, .val (.double d), .second] [(.ref a), (.long t)]) (fun t_ k_ => XS.aloadN X31.here hx rfl (hb hby d_prog_59_22_84) rfl rfl k_) ?_
          have ff34 := (((F_m_nTopTimestamp_a.other W3 (Or.inr (sn_16 hw))).other W9 (Or.inr (sn_19 hw))).other W12 (Or.inr (sn_20 hw)))
          obtain ⟨T33, X33, e33, st33⟩ := getF X31 hx hZ hown (host := "") (Or.inl (own_w hw 45 rfl)) Via.refl e31 ff34 (g := (mkF m 85 #[rv a, .val (.long t), .second, .val (.double d), .second] [(.ref a), (.long t)])) rfl rfl (hb hby d_prog_59_22_85)
          refine og T33 (mkF m 88 #[rv a, .val (.long t), .second, .val (.double d), .second] [(.long tT), (.long t)]) (fun t_ k_ => st33 _ k_) ?_
          refine og T33 (mkF m 89 #[rv a, .val (.long t), .second, .val (.double d), .second] [(.int (lcmpW t tT))]) (fun t_ k_ => XS.lcmp X33.here hx rfl (hb hby d_prog_59_22_88) rfl k_) ?_
          by_cases hq35_ : t < tT
          · skip
            refine og T33 (mkF m 92 #[rv a, .val (.long t), .second, .val (.double d), .second] []) (fun t_ k_ => XS.ifNo X33.here hx rfl (hb hby d_prog_59_22_89) rfl ((if0 _ _).trans (tlt ((lw_lt _ _).mpr hq35_)).2.1) k_) ?_
            refine og T33 (mkF m 93 #[rv a, .val (.long t), .second, .val (.double d), .second] [(.ref a)]) (fun t_ k_ => XS.aloadN X33.here hx rfl (hb hby d_prog_59_22_92) rfl rfl k_) ?_
            refine og T33 (mkF m 94 #[rv a, .val (.long t), .second, .val (.double d), .second] [(.long t), (.ref a)]) (fun t_ k_ => XS.lloadN X33.here hx rfl (hb hby d_prog_59_22_93) rfl k_) ?_
            have ff37 := (ff14.wr W12)
            obtain ⟨T36, h36, X36, e36, W36, st36⟩ := putF X33 hx hZ hown (host := "") (Or.inl (own_w hw 45 rfl)) Via.refl e33 ff34 ff37 (Or.inl (own_w hw 46 rfl)) (own_w hw 14 rfl) (ty := .long) (by decide) rfl rfl (g := (mkF m 94 #[rv a, .val (.long t), .second, .val (.double d), .second] [(.long t), (.ref a)])) rfl rfl (hb hby d_prog_59_22_94)
            have F36 := ff34.same W36
            have z36 := W36.size
            have N36 := Fr.snoc X36 N12 (show n0 ≤ a by omega)
            have K36 := K12.wr W36 (Or.inl (List.mem_of_getElem? (i := 0) rfl))
            refine og T36 (mkF m 97 #[rv a, .val (.long t), .second, .val (.double d), .second] []) (fun t_ k_ => st36 _ k_) ?_
            refine og T36 (mkF m 98 #[rv a, .val (.long t), .second, .val (.double d), .second] [(.ref a)]) (fun t_ k_ => XS.aloadN X36.here hx rfl (hb hby d_prog_59_22_97) rfl rfl k_) ?_
            refine og T36 (mkF m 99 #[rv a, .val (.long t), .second, .val (.double d), .second] [(.double d), (.ref a)]) (fun t_ k_ => XS.dloadN X36.here hx rfl (hb hby d_prog_59_22_98) rfl k_) ?_
            have ff39 := (ff16.other W36 (Or.inr (sn_27 hw)))
            have ff40 := (ff37.wr W36)
            obtain ⟨T38, h38, X38, e38, W38, st38⟩ := putF X36 hx hZ hown (host := "") (Or.inl (own_w hw 47 rfl)) Via.refl e36 ff39 ff40 (Or.inl (own_w hw 48 rfl)) (own_w hw 14 rfl) (ty := .double) (by decide) rfl rfl (g := (mkF m 99 #[rv a, .val (.long t), .second, .val (.double d), .second] [(.double d), (.ref a)])) rfl rfl (hb hby d_prog_59_22_99)
            have F38 := ff39.same W38
            have z38 := W38.size
            have N38 := Fr.snoc X38 N36 (show n0 ≤ a by omega)
            have K38 := K36.wr W38 (Or.inl (List.mem_of_getElem? (i := 0) rfl))
            refine og T38 (mkF m 102 #[rv a, .val (.long t), .second, .val (.double d), .second] []) (fun t_ k_ => st38 _ k_) ?_
            have ff41 := (((((F_m_nFirstTimestamp_a.other W3 (Or.inr (sn_28 hw))).other W9 (Or.inr (sn_31 hw))).other W12 (Or.inr (sn_32 hw))).other W36 (Or.inr (sn_33 hw))).other W38 (Or.inr (sn_34 hw)))
            have ff42 := ((((F3.other W9 (Or.inr (sn_37 hw))).other W12 (Or.inr (sn_38 hw))).other W36 (Or.inr (sn_39 hw))).other W38 (Or.inr (sn_40 hw)))
            have ff43 := ((((ff5.other W9 (Or.inr (sn_42 hw))).other W12 (Or.inr (sn_43 hw))).other W36 (Or.inr (sn_44 hw))).other W38 (Or.inr (sn_45 hw)))
            have ff44 := (((((F_m_dLastValue_a.other W3 (Or.inr (sn_4 hw))).other W9 (Or.inr (sn_46 hw))).other W12 (Or.inr (sn_47 hw))).other W36 (Or.inr (sn_48 hw))).other W38 (Or.inr (sn_49 hw)))
            have ff45 := (((F9.other W12 (Or.inr (sn_50 hw))).other W36 (Or.inr (sn_51 hw))).other W38 (Or.inr (sn_52 hw)))
            have ff46 := ((F12.other W36 (Or.inr (sn_53 hw))).other W38 (Or.inr (sn_54 hw)))
            have ff47 := (F36.other W38 (Or.inr (sn_55 hw)))
            exact own_out X38 (v := none) (fun _ => rfl) hlk (fun fs hr => X38.returnOut hx hret (hb hby d_prog_59_22_102) hr) (Q := Q_rm_weigh Z a t d fT fV lT lV bT bV tT tV rw rb rt h0 n0) (by rw [e38]; exact ⟨rfl, N38, K38, ff41, (by rw [if_pos hq2_]; exact ff42), ff43, (by rw [if_neg (fun q => hfl (hq2_.symm.trans q))]; exact ff44), (by rw [if_pos (Or.inl hq8_)]; exact ff45), (by rw [if_pos (Or.inl hq8_)]; exact ff46), (by rw [if_pos (Or.inr ⟨hq32_, hq35_⟩)]; exact ff47), (by rw [if_pos (Or.inr ⟨hq32_, hq35_⟩)]; exact F38)⟩) (by decide) (by decide)
          · skip
            refine og T33 (mkF m 102 #[rv a, .val (.long t), .second, .val (.double d), .second] []) (fun t_ k_ => XS.ifYes X33.here hx rfl (pc0 := 89) (pc' := 102) rfl (hb hby d_prog_59_22_89) rfl ((if0 _ _).trans (flt (fun z => hq35_ ((lw_lt _ _).mp z))).2.1) (by decide) (by decide) k_) ?_
            have ff48 := (((F_m_nFirstTimestamp_a.other W3 (Or.inr (sn_28 hw))).other W9 (Or.inr (sn_31 hw))).other W12 (Or.inr (sn_32 hw)))
            have ff49 := ((F3.other W9 (Or.inr (sn_37 hw))).other W12 (Or.inr (sn_38 hw)))
            have ff50 := ((ff5.other W9 (Or.inr (sn_42 hw))).other W12 (Or.inr (sn_43 hw)))
            have ff51 := (((F_m_dLastValue_a.other W3 (Or.inr (sn_4 hw))).other W9 (Or.inr (sn_46 hw))).other W12 (Or.inr (sn_47 hw)))
            have ff52 := (F9.other W12 (Or.inr (sn_50 hw)))
            exact own_out X33 (v := none) (fun _ => rfl) hlk (fun fs hr => X33.returnOut hx hret (hb hby d_prog_59_22_102) hr) (Q := Q_rm_weigh Z a t d fT fV lT lV bT bV tT tV rw rb rt h0 n0) (by rw [e33]; exact ⟨rfl, N12, K12, ff48, (by rw [if_pos hq2_]; exact ff49), ff50, (by rw [if_neg (fun q => hfl (hq2_.symm.trans q))]; exact ff51), (by rw [if_pos (Or.inl hq8_)]; exact ff52), (by rw [if_pos (Or.inl hq8_)]; exact F12), (by rw [if_neg (fun q => q.elim hq17_ (fun q => hq35_ q.2))]; exact ff34), (by rw [if_neg (fun q => q.elim hq17_ (fun q => hq35_ q.2))]; exact ff16)⟩) (by decide) (by decide)
        · skip
          refine og T31 (mkF m 102 #[rv a, .val (.long t), .second, .val (.double d), .second] []) (fun t_ k_ => XS.ifYes X31.here hx rfl (pc0 := 80) (pc' := 102) rfl (hb hby d_prog_59_22_80) rfl ((if0 _ _).trans (feq (fun z => hq32_ ((own_ceq _ _).mp z))).2) (by decide) (by decide) k_) ?_
          have ff53 := (((F_m_nFirstTimestamp_a.other W3 (Or.inr (sn_28 hw))).other W9 (Or.inr (sn_31 hw))).other W12 (Or.inr (sn_32 hw)))
          have ff54 := ((F3.other W9 (Or.inr (sn_37 hw))).other W12 (Or.inr (sn_38 hw)))
          have ff55 := ((ff5.other W9 (Or.inr (sn_42 hw))).other W12 (Or.inr (sn_43 hw)))
          have ff56 := (((F_m_dLastValue_a.other W3 (Or.inr (sn_4 hw))).other W9 (Or.inr (sn_46 hw))).other W12 (Or.inr (sn_47 hw)))
          have ff57 := (F9.other W12 (Or.inr (sn_50 hw)))
          have ff58 := (((F_m_nTopTimestamp_a.other W3 (Or.inr (sn_16 hw))).other W9 (Or.inr (sn_19 hw))).other W12 (Or.inr (sn_20 hw)))
          exact own_out X31 (v := none) (fun _ => rfl) hlk (fun fs hr => X31.returnOut hx hret (hb hby d_prog_59_22_102) hr) (Q := Q_rm_weigh Z a t d fT fV lT lV bT bV tT tV rw rb rt h0 n0) (by rw [e31]; exact ⟨rfl, N12, K12, ff53, (by rw [if_pos hq2_]; exact ff54), ff55, (by rw [if_neg (fun q => hfl (hq2_.symm.trans q))]; exact ff56), (by rw [if_pos (Or.inl hq8_)]; exact ff57), (by rw [if_pos (Or.inl hq8_)]; exact F12), (by rw [if_neg (fun q => q.elim hq17_ (fun q => hq32_ q.1))]; exact ff58), (by rw [if_neg (fun q => q.elim hq17_ (fun q => hq32_ q.1))]; exact ff16)⟩) (by decide) (by decide)
    · skip
      refine og T6 (mkF m 37 #[rv a, .val (.long t), .second, .val (.double d), .second] []) (fun t_ k_ => XS.ifNo X6.here hx rfl (hb hby d_prog_59_22_34) rfl ((if0 _ _).trans (flt (fun z => hq8_ ((own_clt _ _).mp z))).1) k_) ?_
      refine og T6 (mkF m 38 #[rv a, .val (.long t), .second, .val (.double d), .second] [(.double d)]) (fun t_ k_ => XS.dloadN X6.here hx rfl (hb hby d_prog_59_22_37) rfl k_) ?_
      refine og T6 (mkF m 39 #[rv a, .val (.long t), .second, .val (.double d), .second] [(.ref a), (.double d)]) (fun t_ k_ => XS.aloadN X6.here hx rfl (hb hby d_prog_59_22_38) rfl rfl k_) ?_
      obtain ⟨T59, X59, e59, st59⟩ := getF X6 hx hZ hown (host := "") (Or.inl (own_w hw 43 rfl)) Via.refl e6 ff7 (g := (mkF m 39 #[rv a, .val (.long t), .second, .val (.double d), .second] [(.ref a), (.double d)])) rfl rfl (hb hby d_prog_59_22_39)
      refine og T59 (mkF m 42 #[rv a, .val (.long t), .second, .val (.double d), .second] [(.double bV), (.double d)]) (fun t_ k_ => st59 _ k_) ?_
      refine og T59 (mkF m 43 #[rv a, .val (.long t), .second, .val (.double d), .second] [(.int (own_cmp rw rb))]) (fun t_ k_ => XS.dcmpS X59.here hx rfl (hb hby d_prog_59_22_42) rfl (own_dc _ D_d D_bV) k_) ?_
      by_cases hq60_ : rw = rb
      · skip
        refine og T59 (mkF m 46 #[rv a, .val (.long t), .second, .val (.double d), .second] []) (fun t_ k_ => XS.ifNo X59.here hx rfl (hb hby d_prog_59_22_43) rfl ((if0 _ _).trans (teq ((own_ceq _ _).mpr hq60_)).2) k_) ?_
        refine og T59 (mkF m 47 #[rv a, .val (.long t), .second, .val (.double d), .second] [(.long t)]) (fun t_ k_ => XS.lloadN X59.here hx rfl (hb hby d_prog_59_22_46) rfl k_) ?_
        refine og T59 (mkF m 48 #[rv a, .val (.long t), .second, .val (.double d), .second] [(.ref a), (.long t)]) (fun t_ k_ => XS.aloadN X59.here hx rfl (hb hby d_prog_59_22_47) rfl rfl k_) ?_
        have ff62 := (F_m_nBottomTimestamp_a.other W3 (Or.inr (sn_7 hw)))
        obtain ⟨T61, X61, e61, st61⟩ := getF X59 hx hZ hown (host := "") (Or.inl (own_w hw 41 rfl)) Via.refl e59 ff62 (g := (mkF m 48 #[rv a, .val (.long t), .second, .val (.double d), .second] [(.ref a), (.long t)])) rfl rfl (hb hby d_prog_59_22_48)
        refine og T61 (mkF m 51 #[rv a, .val (.long t), .second, .val (.double d), .second] [(.long bT), (.long t)]) (fun t_ k_ => st61 _ k_) ?_
        refine og T61 (mkF m 52 #[rv a, .val (.long t), .second, .val (.double d), .second] [(.int (lcmpW t bT))]) (fun t_ k_ => XS.lcmp X61.here hx rfl (hb hby d_prog_59_22_51) rfl k_) ?_
        by_cases hq63_ : t < bT
        · skip
          refine og T61 (mkF m 55 #[rv a, .val (.long t), .second, .val (.double d), .second] []) (fun t_ k_ => XS.ifNo X61.here hx rfl (hb hby d_prog_59_22_52) rfl ((if0 _ _).trans (tlt ((lw_lt _ _).mpr hq63_)).2.1) k_) ?_
          refine og T61 (mkF m 56 #[rv a, .val (.long t), .second, .val (.double d), .second] [(.ref a)]) (fun t_ k_ => XS.aloadN X61.here hx rfl (hb hby d_prog_59_22_55) rfl rfl k_) ?_
          refine og T61 (mkF m 57 #[rv a, .val (.long t), .second, .val (.double d), .second] [(.long t), (.ref a)]) (fun t_ k_ => XS.lloadN X61.here hx rfl (hb hby d_prog_59_22_56) rfl k_) ?_
          have ff65 := (E_a.wr W3)
          obtain ⟨T64, h64, X64, e64, W64, st64⟩ := putF X61 hx hZ hown (host := "") (Or.inl (own_w hw 41 rfl)) Via.refl e61 ff62 ff65 (Or.inl (own_w hw 42 rfl)) (own_w hw 14 rfl) (ty := .long) (by decide) rfl rfl (g := (mkF m 57 #[rv a, .val (.long t), .second, .val (.double d), .second] [(.long t), (.ref a)])) rfl rfl (hb hby d_prog_59_22_57)
          have F64 := ff62.same W64
          have z64 := W64.size
          have N64 := Fr.snoc X64 N3 (show n0 ≤ a by omega)
          have K64 := K3.wr W64 (Or.inl (List.mem_of_getElem? (i := 0) rfl))
          refine og T64 (mkF m 60 #[rv a, .val (.long t), .second, .val (.double d), .second] []) (fun t_ k_ => st64 _ k_) ?_
          refine og T64 (mkF m 61 #[rv a, .val (.long t), .second, .val (.double d), .second] [(.ref a)]) (fun t_ k_ => XS.aloadN X64.here hx rfl (hb hby d_prog_59_22_60) rfl rfl k_) ?_
          refine og T64 (mkF m 62 #[rv a, .val (.long t), .second, .val (.double d), .second] [(.double d), (.ref a)]) (fun t_ k_ => XS.dloadN X64.here hx rfl (hb hby d_prog_59_22_61) rfl k_) ?_
          have ff67 := (ff7.other W64 (Or.inr (sn_14 hw)))
          have ff68 := (ff65.wr W64)
          obtain ⟨T66, h66, X66, e66, W66, st66⟩ := putF X64 hx hZ hown (host := "") (Or.inl (own_w hw 43 rfl)) Via.refl e64 ff67 ff68 (Or.inl (own_w hw 44 rfl)) (own_w hw 14 rfl) (ty := .double) (by decide) rfl rfl (g := (mkF m 62 #[rv a, .val (.long t), .second, .val (.double d), .second] [(.double d), (.ref a)])) rfl rfl (hb hby d_prog_59_22_62)
          have F66 := ff67.same W66
          have z66 := W66.size
          have N66 := Fr.snoc X66 N64 (show n0 ≤ a by omega)
          have K66 := K64.wr W66 (Or.inl (List.mem_of_getElem? (i := 0) rfl))
          refine og T66 (mkF m 65 #[rv a, .val (.long t), .second, .val (.double d), .second] []) (fun t_ k_ => st66 _ k_) ?_
          refine og T66 (mkF m 66 #[rv a, .val (.long t), .second, .val (.double d), .second] [(.double d)]) (fun t_ k_ => XS.dloadN X66.here hx rfl (hb hby d_prog_59_22_65) rfl k_) ?_
          refine og T66 (mkF m 67 #[rv a, .val (.long t), .second, .val (.double d), .second] [(.ref a), (.double d)]) (fun t_ k_ => XS.aloadN X66.here hx rfl (hb hby d_prog_59_22_66) rfl rfl k_) ?_
          have ff70 := (((F_m_dTopValue_a.other W3 (Or.inr (sn_22 hw))).other W64 (Or.inr (sn_25 hw))).other W66 (Or.inr (sn_26 hw)))
          obtain ⟨T69, X69, e69, st69⟩ := getF X66 hx hZ hown (host := "") (Or.inl (own_w hw 47 rfl)) Via.refl e66 ff70 (g := (mkF m 67 #[rv a, .val (.long t), .second, .val (.double d), .second] [(.ref a), (.double d)])) rfl rfl (hb hby d_prog_59_22_67)
          refine og T69 (mkF m 70 #[rv a, .val (.long t), .second, .val (.double d), .second] [(.double tV), (.double d)]) (fun t_ k_ => st69 _ k_) ?_
          refine og T69 (mkF m 71 #[rv a, .val (.long t), .second, .val (.double d), .second] [(.int (own_cmp rw rt))]) (fun t_ k_ => XS.dcmpS X69.here hx rfl (hb hby d_prog_59_22_70) rfl (own_dc _ D_d D_tV) k_) ?_
          by_cases hq71_ : rt < rw
          · skip
            refine og T69 (mkF m 92 #[rv a, .val (.long t), .second, .val (.double d), .second] []) (fun t_ k_ => XS.ifYes X69.here hx rfl (pc0 := 71) (pc' := 92) rfl (hb hby d_prog_59_22_71) rfl ((if0 _ _).trans (tlt ((own_cgt _ _).mpr hq71_)).2.2.1) (by decide) (by decide) k_) ?_
            refine og T69 (mkF m 93 #[rv a, .val (.long t), .second, .val (.double d), .second] [(.ref a)]) (fun t_ k_ => XS.aloadN X69.here hx rfl (hb hby d_prog_59_22_92) rfl rfl k_) ?_
            refine og T69 (mkF m 94 #[rv a, .val (.long t), .second, .val (.double d), .second] [(.long t), (.ref a)]) (fun t_ k_ => XS.lloadN X69.here hx rfl (hb hby d_prog_59_22_93) rfl k_) ?_
            have ff73 := (((F_m_nTopTimestamp_a.other W3 (Or.inr (sn_16 hw))).other W64 (Or.inr (sn_19 hw))).other W66 (Or.inr (sn_20 hw)))
            have ff74 := (ff68.wr W66)
            obtain ⟨T72, h72, X72, e72, W72, st72⟩ := putF X69 hx hZ hown (host := "") (Or.inl (own_w hw 45 rfl)) Via.refl e69 ff73 ff74 (Or.inl (own_w hw 46 rfl)) (own_w hw 14 rfl) (ty := .long) (by decide) rfl rfl (g := (mkF m 94 #[rv a, .val (.long t), .second, .val (.double d), .second] [(.long t), (.ref a)])) rfl rfl (hb hby d_prog_59_22_94)
            have F72 := ff73.same W72
            have z72 := W72.size
            have N72 := Fr.snoc X72 N66 (show n0 ≤ a by omega)
            have K72 := K66.wr W72 (Or.inl (List.mem_of_getElem? (i := 0) rfl))
            refine og T72 (mkF m 97 #[rv a, .val (.long t), .second, .val (.double d), .second] []) (fun t_ k_ => st72 _ k_) ?_
            refine og T72 (mkF m 98 #[rv a, .val (.long t), .second, .val (.double d), .second] [(.ref a)]) (fun t_ k_ => XS.aloadN X72.here hx rfl (hb hby d_prog_59_22_97) rfl rfl k_) ?_
            refine og T72 (mkF m 99 #[rv a, .val (.long t), .second, .val (.double d), .second] [(.double d), (.ref a)]) (fun t_ k_ => XS.dloadN X72.here hx rfl (hb hby d_prog_59_22_98) rfl k_) ?_
            have ff76 := (ff70.other W72 (Or.inr (sn_27 hw)))
            have ff77 := (ff74.wr W72)
            obtain ⟨T75, h75, X75, e75, W75, st75⟩ := putF X72 hx hZ hown (host := "") (Or.inl (own_w hw 47 rfl)) Via.refl e72 ff76 ff77 (Or.inl (own_w hw 48 rfl)) (own_w hw 14 rfl) (ty := .double) (by decide) rfl rfl (g := (mkF m 99 #[rv a, .val (.long t), .second, .val (.double d), .second] [(.double d), (.ref a)])) rfl rfl (hb hby d_prog_59_22_99)
            have F75 := ff76.same W75
            have z75 := W75.size
            have N75 := Fr.snoc X75 N72 (show n0 ≤ a by omega)
            have K75 := K72.wr W75 (Or.inl (List.mem_of_getElem? (i := 0) rfl))
            refine og T75 (mkF m 102 #[rv a, .val (.long t), .second, .val (.double d), .second] []) (fun t_ k_ => st75 _ k_) ?_
            have ff78 := (((((F_m_nFirstTimestamp_a.other W3 (Or.inr (sn_28 hw))).other W64 (Or.inr (sn_31 hw))).other W66 (Or.inr (sn_32 hw))).other W72 (Or.inr (sn_33 hw))).other W75 (Or.inr (sn_34 hw)))
            have ff79 := ((((F3.other W64 (Or.inr (sn_37 hw))).other W66 (Or.inr (sn_38 hw))).other W72 (Or.inr (sn_39 hw))).other W75 (Or.inr (sn_40 hw)))
            have ff80 := ((((ff5.other W64 (Or.inr (sn_42 hw))).other W66 (Or.inr (sn_43 hw))).other W72 (Or.inr (sn_44 hw))).other W75 (Or.inr (sn_45 hw)))
            have ff81 := (((((F_m_dLastValue_a.other W3 (Or.inr (sn_4 hw))).other W64 (Or.inr (sn_46 hw))).other W66 (Or.inr (sn_47 hw))).other W72 (Or.inr (sn_48 hw))).other W75 (Or.inr (sn_49 hw)))
            have ff82 := (((F64.other W66 (Or.inr (sn_50 hw))).other W72 (Or.inr (sn_51 hw))).other W75 (Or.inr (sn_52 hw)))
            have ff83 := ((F66.other W72 (Or.inr (sn_53 hw))).other W75 (Or.inr (sn_54 hw)))
            have ff84 := (F72.other W75 (Or.inr (sn_55 hw)))
            exact own_out X75 (v := none) (fun _ => rfl) hlk (fun fs hr => X75.returnOut hx hret (hb hby d_prog_59_22_102) hr) (Q := Q_rm_weigh Z a t d fT fV lT lV bT bV tT tV rw rb rt h0 n0) (by rw [e75]; exact ⟨rfl, N75, K75, ff78, (by rw [if_pos hq2_]; exact ff79), ff80, (by rw [if_neg (fun q => hfl (hq2_.symm.trans q))]; exact ff81), (by rw [if_pos (Or.inr ⟨hq60_, hq63_⟩)]; exact ff82), (by rw [if_pos (Or.inr ⟨hq60_, hq63_⟩)]; exact ff83), (by rw [if_pos (Or.inl hq71_)]; exact ff84), (by rw [if_pos (Or.inl hq71_)]; exact F75)⟩) (by decide) (by decide)
          · skip
            refine og T69 (mkF m 74 #[rv a, .val (.long t), .second, .val (.double d), .second] []) (fun t_ k_ => XS.ifNo X69.here hx rfl (hb hby d_prog_59_22_71) rfl ((if0 _ _).trans (flt (fun z => hq71_ ((own_cgt _ _).mp z))).2.2.1) k_) ?_
            refine og T69 (mkF m 75 #[rv a, .val (.long t), .second, .val (.double d), .second] [(.double d)]) (fun t_ k_ => XS.dloadN X69.here hx rfl (hb hby d_prog_59_22_74) rfl k_) ?_
            refine og T69 (mkF m 76 #[rv a, .val (.long t), .second, .val (.double d), .second] [(.ref a), (.double d)]) (fun t_ k_ => XS.aloadN X69.here hx rfl (hb hby d_prog_59_22_75) rfl rfl k_) ?_
            obtain ⟨T85, X85, e85, st85⟩ := getF X69 hx hZ hown (host := "") (Or.inl (own_w hw 47 rfl)) Via.refl e69 ff70 (g := (mkF m 76 #[rv a, .val (.long t), .second, .val (.double d), .second] [(.ref a), (.double d)])) rfl rfl (hb hby d_prog_59_22_76)
            refine og T85 (mkF m 79 #[rv a, .val (.long t), .second, .val (.double d), .second] [(.double tV), (.double d)]) (fun t_ k_ => st85 _ k_) ?_
            refine og T85 (mkF m 80 #[rv a, .val (.long t), .second, .val (.double d), .second] [(.int (own_cmp rw rt))]) (fun t_ k_ => XS.dcmpS X85.here hx rfl (hb hby d_prog_59_22_79) rfl (own_dc _ D_d D_tV) k_) ?_
            by_cases hq86_ : rw = rt
            · skip
              refine og T85 (mkF m 83 #[rv a, .val (.long t), .second, .val (.double d), .second] []) (fun t_ k_ => XS.ifNo X85.here hx rfl (hb hby d_prog_59_22_80) rfl ((if0 _ _).trans (teq ((own_ceq _ _).mpr hq86_)).2) k_) ?_
              refine og T85 (mkF m 84 #[rv a, .val (.long t), .second, .val (.double d), .second] [(.long t)]) (fun t_ k_ => XS.lloadN X85.here hx rfl (hb hby d_prog_59_22_83) rfl k_) ?_
              refine og T85 (mkF m 85 #[rv a, .val (.long t), .second, .val (.double d), .second] [(.ref a), (.long t)]) (fun t_ k_ => XS.aloadN X85.here hx rfl (hb hby d_prog_59_22_84) rfl rfl k_) ?_
              have ff88 := (((F_m_nTopTimestamp_a.other W3 (Or.inr (sn_16 hw))).other W64 (Or.inr (sn_19 hw))).other W66 (Or.inr (sn_20 hw)))
              obtain ⟨T87, X87, e87, st87⟩ := getF X85 hx hZ hown (host := "") (Or.inl (own_w hw 45 rfl)) Via.refl e85 ff88 (g := (mkF m 85 #[rv a, .val (.long t), .second, .val (.double d), .second] [(.ref a), (.long t)])) rfl rfl (hb hby d_prog_59_22_85)
              refine og T87 (mkF m 88 #[rv a, .val (.long t), .second, .val (.double d), .second] [(.long tT), (.long t)]) (fun t_ k_ => st87 _ k_) ?_
              refine og T87 (mkF m 89 #[rv a, .val (.long t), .second, .val (.double d), .second] [(.int (lcmpW t tT))]) (fun t_ k_ => XS.lcmp X87.here hx rfl (hb hby d_prog_59_22_88) rfl k_) ?_
              by_cases hq89_ : t < tT
              · skip
                refine og T87 (mkF m 92 #[rv a, .val (.long t), .second, .val (.double d), .second] []) (fun t_ k_ => XS.ifNo X87.here hx rfl (hb hby d_prog_59_22_89) rfl ((if0 _ _).trans (tlt ((lw_lt _ _).mpr hq89_)).2.1) k_) ?_
                refine og T87 (mkF m 93 #[rv a, .val (.long t), .second, .val (.double d), .second] [(.ref a)]) (fun t_ k_ => XS.aloadN X87.here hx rfl (hb hby d_prog_59_22_92) rfl rfl k_) ?_
                refine og T87 (mkF m 94 #[rv a, .val (.long t), .second, .val (.double d), .second] [(.long t), (.ref a)]) (fun t_ k_ => XS.lloadN X87.here hx rfl (hb hby d_prog_59_22_93) rfl k_) ?_
                have ff91 := (ff68.wr W66)
                obtain ⟨T90, h90, X90, e90, W90, st90⟩ := putF X87 hx hZ hown (host := "") (Or.inl (own_w hw 45 rfl)) Via.refl e87 ff88 ff91 (Or.inl (own_w hw 46 rfl)) (own_w hw 14 rfl) (ty := .long) (by decide) rfl rfl (g := (mkF m 94 #[rv a, .val (.long t), .second, .val (.double d), .second] [(.long t), (.ref a)])) rfl rfl (hb hby d_prog_59_22_94)
                have F90 := ff88.same W90
                have z90 := W90.size
                have N90 := Fr.snoc X90 N66 (show n0 ≤ a by omega)
                have K90 := K66.wr W90 (Or.inl (List.mem_of_getElem? (i := 0) rfl))
                refine og T90 (mkF m 97 #[rv a, .val (.long t), .second, .val (.double d), .second] []) (fun t_ k_ => st90 _ k_) ?_
                refine og T90 (mkF m 98 #[rv a, .val (.long t), .second, .val (.double d), .second] [(.ref a)]) (fun t_ k_ => XS.aloadN X90.here hx rfl (hb hby d_prog_59_22_97) rfl rfl k_) ?_
                refine og T90 (mkF m 99 #[rv a, .val (.long t), .second, .val (.double d), .second] [(.double d), (.ref a)]) (fun t_ k_ => XS.dloadN X90.here hx rfl (hb hby d_prog_59_22_98) rfl k_) ?_
                have ff93 := (ff70.other W90 (Or.inr (sn_27 hw)))
                have ff94 := (ff91.wr W90)
                obtain ⟨T92, h92, X92, e92, W92, st92⟩ := putF X90 hx hZ hown (host := "") (Or.inl (own_w hw 47 rfl)) Via.refl e90 ff93 ff94 (Or.inl (own_w hw 48 rfl)) (own_w hw 14 rfl) (ty := .double) (by decide) rfl rfl (g := (mkF m 99 #[rv a, .val (.long t), .second, .val (.double d), .second] [(.double d), (.ref a)])) rfl rfl (hb hby d_prog_59_22_99)
                have F92 := ff93.same W92
                have z92 := W92.size
                have N92 := Fr.snoc X92 N90 (show n0 ≤ a by omega)
                have K92 := K90.wr W92 (Or.inl (List.mem_of_getElem? (i := 0) rfl))
                refine og T92 (mkF m 102 #[rv a, .val (.long t), .second, .val (.double d), .second] []) (fun t_ k_ => st92 _ k_) ?_
                have ff95 := (((((F_m_nFirstTimestamp_a.other W3 (Or.inr (sn_28 hw))).other W64 (Or.inr (sn_31 hw))).other W66 (Or.inr (sn_32 hw))).other W90 (Or.inr (sn_33 hw))).other W92 (Or.inr (sn_34 hw)))
                have ff96 := ((((F3.other W64 (Or.inr (sn_37 hw))).other W66 (Or.inr (sn_38 hw))).other W90 (Or.inr (sn_39 hw))).other W92 (Or.inr (sn_40 hw)))
                have ff97 := ((((ff5.other W64 (Or.inr (sn_42 hw))).other W66 (Or.inr (sn_43 hw))).other W90 (Or.inr (sn_44 hw))).other W92 (Or.inr (sn_45 hw)))
                have ff98 := (((((F_m_dLastValue_a.other W3 (Or.inr (sn_4 hw))).other W64 (Or.inr (sn_46 hw))).other W66 (Or.inr (sn_47 hw))).other W90 (Or.inr (sn_48 hw))).other W92 (Or.inr (sn_49 hw)))
                have ff99 := (((F64.other W66 (Or.inr (sn_50 hw))).other W90 (Or.inr (sn_51 hw))).other W92 (Or.inr (sn_52 hw)))
                have ff100 := ((F66.other W90 (Or.inr (sn_53 hw))).other W92 (Or.inr (sn_54 hw)))
                have ff101 := (F90.other W92 (Or.inr (sn_55 hw)))
                exact own_out X92 (v := none) (fun _ => rfl) hlk (fun fs hr => X92.returnOut hx hret (hb hby d_prog_59_22_102) hr) (Q := Q_rm_weigh Z a t d fT fV lT lV bT bV tT tV rw rb rt h0 n0) (by rw [e92]; exact ⟨rfl, N92, K92, ff95, (by rw [if_pos hq2_]; exact ff96), ff97, (by rw [if_neg (fun q => hfl (hq2_.symm.trans q))]; exact ff98), (by rw [if_pos (Or.inr ⟨hq60_, hq63_⟩)]; exact ff99), (by rw [if_pos (Or.inr ⟨hq60_, hq63_⟩)]; exact ff100), (by rw [if_pos (Or.inr ⟨hq86_, hq89_⟩)]; exact ff101), (by rw [if_pos (Or.inr ⟨hq86_, hq89_⟩)]; exact F92)⟩) (by decide) (by decide)
              · skip
                refine og T87 (mkF m 102 #[rv a, .val (.long t), .second, .val (.double d), .second] []) (fun t_ k_ => XS.ifYes X87.here hx rfl (pc0 := 89) (pc' := 102) rfl (hb hby d_prog_59_22_89) rfl ((if0 _ _).trans (flt (fun z => hq89_ ((lw_lt _ _).mp z))).2.1) (by decide) (by decide) k_) ?_
                have ff102 := (((F_m_nFirstTimestamp_a.other W3 (Or.inr (sn_28 hw))).other W64 (Or.inr (sn_31 hw))).other W66 (Or.inr (sn_32 hw)))
                have ff103 := ((F3.other W64 (Or.inr (sn_37 hw))).other W66 (Or.inr (sn_38 hw)))
                have ff104 := ((ff5.other W64 (Or.inr (sn_42 hw))).other W66 (Or.inr (sn_43 hw)))
                have ff105 := (((F_m_dLastValue_a.other W3 (Or.inr (sn_4 hw))).other W64 (Or.inr (sn_46 hw))).other W66 (Or.inr (sn_47 hw)))
                have ff106 := (F64.other W66 (Or.inr (sn_50 hw)))
                exact own_out X87 (v := none) (fun _ => rfl) hlk (fun fs hr => X87.returnOut hx hret (hb hby d_prog_59_22_102) hr) (Q := Q_rm_weigh Z a t d fT fV lT lV bT bV tT tV rw rb rt h0 n0) (by rw [e87]; exact ⟨rfl, N66, K66, ff102, (by rw [if_pos hq2_]; exact ff103), ff104, (by rw [if_neg (fun q => hfl (hq2_.symm.trans q))]; exact ff105), (by rw [if_pos (Or.inr ⟨hq60_, hq63_⟩)]; exact ff106), (by rw [if_pos (Or.inr ⟨hq60_, hq63_⟩)]; exact F66), (by rw [if_neg (fun q => q.elim hq71_ (fun q => hq89_ q.2))]; exact ff88), (by rw [if_neg (fun q => q.elim hq71_ (fun q => hq89_ q.2))]; exact ff70)⟩) (by decide) (by decide)
            · skip
              refine og T85 (mkF m 102 #[rv a, .val (.long t), .second, .val (.double d), .second] []) (fun t_ k_ => XS.ifYes X85.here hx rfl (pc0 := 80) (pc' := 102) rfl (hb hby d_prog_59_22_80) rfl ((if0 _ _).trans (feq (fun z => hq86_ ((own_ceq _ _).mp z))).2) (by decide) (by decide) k_) ?_
              have ff107 := (((F_m_nFirstTimestamp_a.other W3 (Or.inr (sn_28 hw))).other W64 (Or.inr (sn_31 hw))).other W66 (Or.inr (sn_32 hw)))
              have ff108 := ((F3.other W64 (Or.inr (sn_37 hw))).other W66 (Or.inr (sn_38 hw)))
              have ff109 := ((ff5.other W64 (Or.inr (sn_42 hw))).other W66 (Or.inr (sn_43 hw)))
              have ff110 := (((F_m_dLastValue_a.other W3 (Or.inr (sn_4 hw))).other W64 (Or.inr (sn_46 hw))).other W66 (Or.inr (sn_47 hw)))
              have ff111 := (F64.other W66 (Or.inr (sn_50 hw)))
              have ff112 := (((F_m_nTopTimestamp_a.other W3 (Or.inr (sn_16 hw))).other W64 (Or.inr (sn_19 hw))).other W66 (Or.inr (sn_20 hw)))
              exact own_out X85 (v := none) (fun _ => rfl) hlk (fun fs hr => X85.returnOut hx hret (hb hby d_prog_59_22_102) hr) (Q := Q_rm_weigh Z a t d fT fV lT lV bT bV tT tV rw rb rt h0 n0) (by rw [e85]; exact ⟨rfl, N66, K66, ff107, (by rw [if_pos hq2_]; exact ff108), ff109, (by rw [if_neg (fun q => hfl (hq2_.symm.trans q))]; exact ff110), (by rw [if_pos (Or.inr ⟨hq60_, hq63_⟩)]; exact ff111), (by rw [if_pos (Or.inr ⟨hq60_, hq63_⟩)]; exact F66), (by rw [if_neg (fun q => q.elim hq71_ (fun q => hq86_ q.1))]; exact ff112), (by rw [if_neg (fun q => q.elim hq71_ (fun q => hq86_ q.1))]; exact ff70)⟩) (by decide) (by decide)
        · skip
          refine og T61 (mkF m 65 #[rv a, .val (.long t), .second, .val (.double d), .second] []) (fun t_ k_ => XS.ifYes X61.here hx rfl (pc0 := 52) (pc' := 65) rfl (hb hby d_prog_59_22_52) rfl ((if0 _ _).trans (flt (fun z => hq63_ ((lw_lt _ _).mp z))).2.1) (by decide) (by decide) k_) ?_
          refine og T61 (mkF m 66 #[rv a, .val (.long t), .second, .val (.double d), .second] [(.double d)]) (fun t_ k_ => XS.dloadN X61.here hx rfl (hb hby d_prog_59_22_65) rfl k_) ?_
          refine og T61 (mkF m 67 #[rv a, .val (.long t), .second, .val (.double d), .second] [(.ref a), (.double d)]) (fun t_ k_ => XS.aloadN X61.here hx rfl (hb hby d_prog_59_22_66) rfl rfl k_) ?_
          have ff114 := (F_m_dTopValue_a.other W3 (Or.inr (sn_22 hw)))
          obtain ⟨T113, X113, e113, st113⟩ := getF X61 hx hZ hown (host := "") (Or.inl (own_w hw 47 rfl)) Via.refl e61 ff114 (g := (mkF m 67 #[rv a, .val (.long t), .second, .val (.double d), .second] [(.ref a), (.double d)])) rfl rfl (hb hby d_prog_59_22_67)
          refine og T113 (mkF m 70 #[rv a, .val (.long t), .second, .val (.double d), .second] [(.double tV), (.double d)]) (fun t_ k_ => st113 _ k_) ?_
          refine og T113 (mkF m 71 #[rv a, .val (.long t), .second, .val (.double d), .second] [(.int (own_cmp rw rt))]) (fun t_ k_ => XS.dcmpS X113.here hx rfl (hb hby d_prog_59_22_70) rfl (own_dc _ D_d D_tV) k_) ?_
          by_cases hq115_ : rt < rw
          · skip
            refine og T113 (mkF m 92 #[rv a, .val (.long t), .second, .val (.double d), .second] []) (fun t_ k_ => XS.ifYes X113.here hx rfl (pc0 := 71) (pc' := 92) rfl (hb hby d_prog_59_22_71) rfl ((if0 _ _).trans (tlt ((own_cgt _ _).mpr hq115_)).2.2.1) (by decide) (by decide) k_) ?_
            refine og T113 (mkF m 93 #[rv a, .val (.long t), .second, .val (.double d), .second] [(.ref a)]) (fun t_ k_ => XS.aloadN X113.here hx rfl (hb hby d_prog_59_22_92) rfl rfl k_) ?_
            refine og T113 (mkF m 94 #[rv a, .val (.long t), .second, .val (.double d), .second] [(.long t), (.ref a)]) (fun t_ k_ => XS.lloadN X113.here hx rfl (hb hby d_prog_59_22_93) rfl k_) ?_
            have ff117 := (F_m_nTopTimestamp_a.other W3 (Or.inr (sn_16 hw)))
            have ff118 := (E_a.wr W3)
            obtain ⟨T116, h116, X116, e116, W116, st116⟩ := putF X113 hx hZ hown (host := "") (Or.inl (own_w hw 45 rfl)) Via.refl e113 ff117 ff118 (Or.inl (own_w hw 46 rfl)) (own_w hw 14 rfl) (ty := .long) (by decide) rfl rfl (g := (mkF m 94 #[rv a, .val (.long t), .second, .val (.double d), .second] [(.long t), (.ref a)])) rfl rfl (hb hby d_prog_59_22_94)
            have F116 := ff117.same W116
            have z116 := W116.size
            have N116 := Fr.snoc X116 N3 (show n0 ≤ a by omega)
            have K116 := K3.wr W116 (Or.inl (List.mem_of_getElem? (i := 0) rfl))
            refine og T116 (mkF m 97 #[rv a, .val (.long t), .second, .val (.double d), .second] []) (fun t_ k_ => st116 _ k_) ?_
            refine og T116 (mkF m 98 #[rv a, .val (.long t), .second, .val (.double d), .second] [(.ref a)]) (fun t_ k_ => XS.aloadN X116.here hx rfl (hb hby d_prog_59_22_97) rfl rfl k_) ?_
            refine og T116 (mkF m 99 #[rv a, .val (.long t), .second, .val (.double d), .second] [(.double d), (.ref a)]) (fun t_ k_ => XS.dloadN X116.here hx rfl (hb hby d_prog_59_22_98) rfl k_) ?_
            have ff120 := (ff114.other W116 (Or.inr (sn_27 hw)))
            have ff121 := (ff118.wr W116)
            obtain ⟨T119, h119, X119, e119, W119, st119⟩ := putF X116 hx hZ hown (host := "") (Or.inl (own_w hw 47 rfl)) Via.refl e116 ff120 ff121 (Or.inl (own_w hw 48 rfl)) (own_w hw 14 rfl) (ty := .double) (by decide) rfl rfl (g := (mkF m 99 #[rv a, .val (.long t), .second, .val (.double d), .second] [(.double d), (.ref a)])) rfl rfl (hb hby d_prog_59_22_99)
            have F119 := ff120.same W119
            have z119 := W119.size
            have N119 := Fr.snoc X119 N116 (show n0 ≤ a by omega)
            have K119 := K116.wr W119 (Or.inl (List.mem_of_getElem? (i := 0) rfl))
            refine og T119 (mkF m 102 #[rv a, .val (.long t), .second, .val (.double d), .second] []) (fun t_ k_ => st119 _ k_) ?_
            have ff122 := (((F_m_nFirstTimestamp_a.other W3 (Or.inr (sn_28 hw))).other W116 (Or.inr (sn_33 hw))).other W119 (Or.inr (sn_34 hw)))
            have ff123 := ((F3.other W116 (Or.inr (sn_39 hw))).other W119 (Or.inr (sn_40 hw)))
            have ff124 := ((ff5.other W116 (Or.inr (sn_44 hw))).other W119 (Or.inr (sn_45 hw)))
            have ff125 := (((F_m_dLastValue_a.other W3 (Or.inr (sn_4 hw))).other W116 (Or.inr (sn_48 hw))).other W119 (Or.inr (sn_49 hw)))
            have ff126 := ((ff62.other W116 (Or.inr (sn_51 hw))).other W119 (Or.inr (sn_52 hw)))
            have ff127 := ((ff7.other W116 (Or.inr (sn_53 hw))).other W119 (Or.inr (sn_54 hw)))
            have ff128 := (F116.other W119 (Or.inr (sn_55 hw)))
            exact own_out X119 (v := none) (fun _ => rfl) hlk (fun fs hr => X119.returnOut hx hret (hb hby d_prog_59_22_102) hr) (Q := Q_rm_weigh Z a t d fT fV lT lV bT bV tT tV rw rb rt h0 n0) (by rw [e119]; exact ⟨rfl, N119, K119, ff122, (by rw [if_pos hq2_]; exact ff123), ff124, (by rw [if_neg (fun q => hfl (hq2_.symm.trans q))]; exact ff125), (by rw [if_neg (fun q => q.elim hq8_ (fun q => hq63_ q.2))]; exact ff126), (by rw [if_neg (fun q => q.elim hq8_ (fun q => hq63_ q.2))]; exact ff127), (by rw [if_pos (Or.inl hq115_)]; exact ff128), (by rw [if_pos (Or.inl hq115_)]; exact F119)⟩) (by decide) (by decide)
          · skip
            refine og T113 (mkF m 74 #[rv a, .val (.long t), .second, .val (.double d), .second] []) (fun t_ k_ => XS.ifNo X113.here hx rfl (hb hby d_prog_59_22_71) rfl ((if0 _ _).trans (flt (fun z => hq115_ ((own_cgt _ _).mp z))).2.2.1) k_) ?_
            refine og T113 (mkF m 75 #[rv a, .val (.long t), .second, .val (.double d), .second] [(.double d)]) (fun t_ k_ => XS.dloadN X113.here hx rfl (hb hby d_prog_59_22_74) rfl k_) ?_
            refine og T113 (mkF m 76 #[rv a, .val (.long t), .second, .val (.double d), .second] [(.ref a), (.double d)]) (fun t_ k_ => XS.aloadN X113.here hx rfl (hb hby d_prog_59_22_75) rfl rfl k_) ?_
            obtain ⟨T129, X129, e129, st129⟩ := getF X113 hx hZ hown (host := "") (Or.inl (own_w hw 47 rfl)) Via.refl e113 ff114 (g := (mkF m 76 #[rv a, .val (.long t), .second, .val (.double d), .second] [(.ref a), (.double d)])) rfl rfl (hb hby d_prog_59_22_76)
            refine og T129 (mkF m 79 #[rv a, .val (.long t), .second, .val (.double d), .second] [(.double tV), (.double d)]) (fun t_ k_ => st129 _ k_) ?_
            refine og T129 (mkF m 80 #[rv a, .val (.long t), .second, .val (.double d), .second] [(.int (own_cmp rw rt))]) (fun t_ k_ => XS.dcmpS X129.here hx rfl (hb hby d_prog_59_22_79) rfl (own_dc _ D_d D_tV) k_) ?_
            by_cases hq130_ : rw = rt
            · skip
              refine og T129 (mkF m 83 #[rv a, .val (.long t), .second, .val (.double d), .second] []) (fun t_ k_ => XS.ifNo X129.here hx rfl (hb hby d_prog_59_22_80) rfl ((if0 _ _).trans (teq ((own_ceq _ _).mpr hq130_)).2) k_) ?_
              refine og T129 (mkF m 84 #[rv a, .val (.long t), .second, .val (.double d), .second] [(.long t)]) (fun t_ k_ => XS.lloadN X129.here hx rfl (hb hby d_prog_59_22_83) rfl k_) ?_
              refine og T129 (mkF m 85 #[rv a, .val (.long t), .second, .val (.double d), .second] [(.ref a), (.long t)]) (fun t_ k_ => XS.aloadN X129.here hx rfl (hb hby d_prog_59_22_84) rfl rfl k_) ?_
              have ff132 := (F_m_nTopTimestamp_a.other W3 (Or.inr (sn_16 hw)))
              obtain ⟨T131, X131, e131, st131⟩ := getF X129 hx hZ hown (host := "") (Or.inl (own_w hw 45 rfl)) Via.refl e129 ff132 (g := (mkF m 85 #[rv a, .val (.long t), .second, .val (.double d), .second] [(.ref a), (.long t)])) rfl rfl (hb hby d_prog_59_22_85)
              refine og T131 (mkF m 88 #[rv a, .val (.long t), .second, .val (.double d), .second] [(.long tT), (.long t)]) (fun t_ k_ => st131 _ k_) ?_
              refine og T131 (mkF m 89 #[rv a, .val (.long t), .second, .val (.double d), .second] [(.int (lcmpW t tT))]) (fun t_ k_ => XS.lcmp X131.here hx rfl (hb hby d_prog_59_22_88) rfl k_) ?_
              by_cases hq133_ : t < tT
              · skip
                refine og T131 (mkF m 92 #[rv a, .val (.long t), .second, .val (.double d), .second] []) (fun t_ k_ => XS.ifNo X131.here hx rfl (hb hby d_prog_59_22_89) rfl ((if0 _ _).trans (tlt ((lw_lt _ _).mpr hq133_)).2.1) k_) ?_
                refine og T131 (mkF m 93 #[rv a, .val (.long t), .second, .val (.double d), .second] [(.ref a)]) (fun t_ k_ => XS.aloadN X131.here hx rfl (hb hby d_prog_59_22_92) rfl rfl k_) ?_
                refine og T131 (mkF m 94 #[rv a, .val (.long t), .second, .val (.double d), .second] [(.long t), (.ref a)]) (fun t_ k_ => XS.lloadN X131.here hx rfl (hb hby d_prog_59_22_93) rfl k_) ?_
                have ff135 := (E_a.wr W3)
                obtain ⟨T134, h134, X134, e134, W134, st134⟩ := putF X131 hx hZ hown (host := "") (Or.inl (own_w hw 45 rfl)) Via.refl e131 ff132 ff135 (Or.inl (own_w hw 46 rfl)) (own_w hw 14 rfl) (ty := .long) (by decide) rfl rfl (g := (mkF m 94 #[rv a, .val (.long t), .second, .val (.double d), .second] [(.long t), (.ref a)])) rfl rfl (hb hby d_prog_59_22_94)
                have F134 := ff132.same W134
                have z134 := W134.size
                have N134 := Fr.snoc X134 N3 (show n0 ≤ a by omega)
                have K134 := K3.wr W134 (Or.inl (List.mem_of_getElem? (i := 0) rfl))
                refine og T134 (mkF m 97 #[rv a, .val (.long t), .second, .val (.double d), .second] []) (fun t_ k_ => st134 _ k_) ?_
                refine og T134 (mkF m 98 #[rv a, .val (.long t), .second, .val (.double d), .second] [(.ref a)]) (fun t_ k_ => XS.aloadN X134.here hx rfl (hb hby d_prog_59_22_97) rfl rfl k_) ?_
                refine og T134 (mkF m 99 #[rv a, .val (.long t), .second, .val (.double d), .second] [(.double d), (.ref a)]) (fun t_ k_ => XS.dloadN X134.here hx rfl (hb hby d_prog_59_22_98) rfl k_) ?_
                have ff137 := (ff114.other W134 (Or.inr (sn_27 hw)))
                have ff138 := (ff135.wr W134)
                obtain ⟨T136, h136, X136, e136, W136, st136⟩ := putF X134 hx hZ hown (host := "") (Or.inl (own_w hw 47 rfl)) Via.refl e134 ff137 ff138 (Or.inl (own_w hw 48 rfl)) (own_w hw 14 rfl) (ty := .double) (by decide) rfl rfl (g := (mkF m 99 #[rv a, .val (.long t), .second, .val (.double d), .second] [(.double d), (.ref a)])) rfl rfl (hb hby d_prog_59_22_99)
                have F136 := ff137.same W136
                have z136 := W136.size
                have N136 := Fr.snoc X136 N134 (show n0 ≤ a by omega)
                have K136 := K134.wr W136 (Or.inl (List.mem_of_getElem? (i := 0) rfl))
                refine og T136 (mkF m 102 #[rv a, .val (.long t), .second, .val (.double d), .second] []) (fun t_ k_ => st136 _ k_) ?_
                have ff139 := (((F_m_nFirstTimestamp_a.other W3 (Or.inr (sn_28 hw))).other W134 (Or.inr (sn_33 hw))).other W136 (Or.inr (sn_34 hw)))
                have ff140 := ((F3.other W134 (Or.inr (sn_39 hw))).other W136 (Or.inr (sn_40 hw)))
                have ff141 := ((ff5.other W134 (Or.inr (sn_44 hw))).other W136 (Or.inr (sn_45 hw)))
                have ff142 := (((F_m_dLastValue_a.other W3 (Or.inr (sn_4 hw))).other W134 (Or.inr (sn_48 hw))).other W136 (Or.inr (sn_49 hw)))
                have ff143 := ((ff62.other W134 (Or.inr (sn_51 hw))).other W136 (Or.inr (sn_52 hw)))
                have ff144 := ((ff7.other W134 (Or.inr (sn_53 hw))).other W136 (Or.inr (sn_54 hw)))
                have ff145 := (F134.other W136 (Or.inr (sn_55 hw)))
                exact own_out X136 (v := none) (fun _ => rfl) hlk (fun fs hr => X136.returnOut hx hret (hb hby d_prog_59_22_102) hr) (Q := Q_rm_weigh Z a t d fT fV lT lV bT bV tT tV rw rb rt h0 n0) (by rw [e136]; exact ⟨rfl, N136, K136, ff139, (by rw [if_pos hq2_]; exact ff140), ff141, (by rw [if_neg (fun q => hfl (hq2_.symm.trans q))]; exact ff142), (by rw [if_neg (fun q => q.elim hq8_ (fun q => hq63_ q.2))]; exact ff143), (by rw [if_neg (fun q => q.elim hq8_ (fun q => hq63_ q.2))]; exact ff144), (by rw [if_pos (Or.inr ⟨hq130_, hq133_⟩)]; exact ff145), (by rw [if_pos (Or.inr ⟨hq130_, hq133_⟩)]; exact F136)⟩) (by decide) (by decide)
              · skip
                refine og T131 (mkF m 102 #[rv a, .val (.long t), .second, .val (.double d), .second] []) (fun t_ k_ => XS.ifYes X131.here hx rfl (pc0 := 89) (pc' := 102) rfl (hb hby d_prog_59_22_89) rfl ((if0 _ _).trans (flt (fun z => hq133_ ((lw_lt _ _).mp z))).2.1) (by decide) (by decide) k_) ?_
                have ff146 := (F_m_nFirstTimestamp_a.other W3 (Or.inr (sn_28 hw)))
                have ff147 := (F_m_dLastValue_a.other W3 (Or.inr (sn_4 hw)))
                exact own_out X131 (v := none) (fun _ => rfl) hlk (fun fs hr => X131.returnOut hx hret (hb hby d_prog_59_22_102) hr) (Q := Q_rm_weigh Z a t d fT fV lT lV bT bV tT tV rw rb rt h0 n0) (by rw [e131]; exact ⟨rfl, N3, K3, ff146, (by rw [if_pos hq2_]; exact F3), ff5, (by rw [if_neg (fun q => hfl (hq2_.symm.trans q))]; exact ff147), (by rw [if_neg (fun q => q.elim hq8_ (fun q => hq63_ q.2))]; exact ff62), (by rw [if_neg (fun q => q.elim hq8_ (fun q => hq63_ q.2))]; exact ff7), (by rw [if_neg (fun q => q.elim hq115_ (fun q => hq133_ q.2))]; exact ff132), (by rw [if_neg (fun q => q.elim hq115_ (fun q => hq133_ q.2))]; exact ff114)⟩) (by decide) (by decide)
            · skip
              refine og T129 (mkF m 102 #[rv a, .val (.long t), .second, .val (.double d), .second] []) (fun t_ k_ => XS.ifYes X129.here hx rfl (pc0 := 80) (pc' := 102) rfl (hb hby d_prog_59_22_80) rfl ((if0 _ _).trans (feq (fun z => hq130_ ((own_ceq _ _).mp z))).2) (by decide) (by decide) k_) ?_
              have ff148 := (F_m_nFirstTimestamp_a.other W3 (Or.inr (sn_28 hw)))
              have ff149 := (F_m_dLastValue_a.other W3 (Or.inr (sn_4 hw)))
              have ff150 := (F_m_nTopTimestamp_a.other W3 (Or.inr (sn_16 hw)))
              exact own_out X129 (v := none) (fun _ => rfl) hlk (fun fs hr => X129.returnOut hx hret (hb hby d_prog_59_22_102) hr) (Q := Q_rm_weigh Z a t d fT fV lT lV bT bV tT tV rw rb rt h0 n0) (by rw [e129]; exact ⟨rfl, N3, K3, ff148, (by rw [if_pos hq2_]; exact F3), ff5, (by rw [if_neg (fun q => hfl (hq2_.symm.trans q))]; exact ff149), (by rw [if_neg (fun q => q.elim hq8_ (fun q => hq63_ q.2))]; exact ff62), (by rw [if_neg (fun q => q.elim hq8_ (fun q => hq63_ q.2))]; exact ff7), (by rw [if_neg (fun q => q.elim hq115_ (fun q => hq130_ q.1))]; exact ff150), (by rw [if_neg (fun q => q.elim hq115_ (fun q => hq130_ q.1))]; exact ff114)⟩) (by decide) (by decide)
      · skip
        refine og T59 (mkF m 65 #[rv a, .val (.long t), .second, .val (.double d), .second] []) (fun t_ k_ => XS.ifYes X59.here hx rfl (pc0 := 43) (pc' := 65) rfl (hb hby d_prog_59_22_43) rfl ((if0 _ _).trans (feq (fun z => hq60_ ((own_ceq _ _).mp z))).2) (by decide) (by decide) k_) ?_
        refine og T59 (mkF m 66 #[rv a, .val (.long t), .second, .val (.double d), .second] [(.double d)]) (fun t_ k_ => XS.dloadN X59.here hx rfl (hb hby d_prog_59_22_65) rfl k_) ?_
        refine og T59 (mkF m 67 #[rv a, .val (.long t), .second, .val (.double d), .second] [(.ref a), (.double d)]) (fun t_ k_ => XS.aloadN X59.here hx rfl (hb hby d_prog_59_22_66) rfl rfl k_) ?_
        have ff152 := (F_m_dTopValue_a.other W3 (Or.inr (sn_22 hw)))
        obtain ⟨T151, X151, e151, st151⟩ := getF X59 hx hZ hown (host := "") (Or.inl (own_w hw 47 rfl)) Via.refl e59 ff152 (g := (mkF m 67 #[rv a, .val (.long t), .second, .val (.double d), .second] [(.ref a), (.double d)])) rfl rfl (hb hby d_prog_59_22_67)
        refine og T151 (mkF m 70 #[rv a, .val (.long t), .second, .val (.double d), .second] [(.double tV), (.double d)]) (fun t_ k_ => st151 _ k_) ?_
        refine og T151 (mkF m 71 #[rv a, .val (.long t), .second, .val (.double d), .second] [(.int (own_cmp rw rt))]) (fun t_ k_ => XS.dcmpS X151.here hx rfl (hb hby d_prog_59_22_70) rfl (own_dc _ D_d D_tV) k_) ?_
        by_cases hq153_ : rt < rw
        · skip
          refine og T151 (mkF m 92 #[rv a, .val (.long t), .second, .val (.double d), .second] []) (fun t_ k_ => XS.ifYes X151.here hx rfl (pc0 := 71) (pc' := 92) rfl (hb hby d_prog_59_22_71) rfl ((if0 _ _).trans (tlt ((own_cgt _ _).mpr hq153_)).2.2.1) (by decide) (by decide) k_) ?_
          refine og T151 (mkF m 93 #[rv a, .val (.long t), .second, .val (.double d), .second] [(.ref a)]) (fun t_ k_ => XS.aloadN X151.here hx rfl (hb hby d_prog_59_22_92) rfl rfl k_) ?_
          refine og T151 (mkF m 94 #[rv a, .val (.long t), .second, .val (.double d), .second] [(.long t), (.ref a)]) (fun t_ k_ => XS.lloadN X151.here hx rfl (hb hby d_prog_59_22_93) rfl k_) ?_
          have ff155 := (F_m_nTopTimestamp_a.other W3 (Or.inr (sn_16 hw)))
          have ff156 := (E_a.wr W3)
          obtain ⟨T154, h154, X154, e154, W154, st154⟩ := putF X151 hx hZ hown (host := "") (Or.inl (own_w hw 45 rfl)) Via.refl e151 ff155 ff156 (Or.inl (own_w hw 46 rfl)) (own_w hw 14 rfl) (ty := .long) (by decide) rfl rfl (g := (mkF m 94 #[rv a, .val (.long t), .second, .val (.double d), .second] [(.long t), (.ref a)])) rfl rfl (hb hby d_prog_59_22_94)
          have F154 := ff155.same W154
          have z154 := W154.size
          have N154 := Fr.snoc X154 N3 (show n0 ≤ a by omega)
          have K154 := K3.wr W154 (Or.inl (List.mem_of_getElem? (i := 0) rfl))
          refine og T154 (mkF m 97 #[rv a, .val (.long t), .second, .val (.double d), .second] []) (fun t_ k_ => st154 _ k_) ?_
          refine og T154 (mkF m 98 #[rv a, .val (.long t), .second, .val (.double d), .second] [(.ref a)]) (fun t_ k_ => XS.aloadN X154.here hx rfl (hb hby d_prog_59_22_97) rfl rfl k_) ?_
          refine og T154 (mkF m 99 #[rv a, .val (.long t), .second, .val (.double d), .second] [(.double d), (.ref a)]) (fun t_ k_ => XS.dloadN X154.here hx rfl (hb hby d_prog_59_22_98) rfl k_) ?_
          have ff158 := (ff152.other W154 (Or.inr (sn_27 hw)))
          have ff159 := (ff156.wr W154)
          obtain ⟨T157, h157, X157, e157, W157, st157⟩ := putF X154 hx hZ hown (host := "") (Or.inl (own_w hw 47 rfl)) Via.refl e154 ff158 ff159 (Or.inl (own_w hw 48 rfl)) (own_w hw 14 rfl) (ty := .double) (by decide) rfl rfl (g := (mkF m 99 #[rv a, .val (.long t), .second, .val (.double d), .second] [(.double d), (.ref a)])) rfl rfl (hb hby d_prog_59_22_99)
          have F157 := ff158.same W157
          have z157 := W157.size
          have N157 := Fr.snoc X157 N154 (show n0 ≤ a by omega)
          have K157 := K154.wr W157 (Or.inl (List.mem_of_getElem? (i := 0) rfl))
          refine og T157 (mkF m 102 #[rv a, .val (.long t), .second, .val (.double d), .second] []) (fun t_ k_ => st157 _ k_) ?_
          have ff160 := (((F_m_nFirstTimestamp_a.other W3 (Or.inr (sn_28 hw))).other W154 (Or.inr (sn_33 hw))).other W157 (Or.inr (sn_34 hw)))
          have ff161 := ((F3.other W154 (Or.inr (sn_39 hw))).other W157 (Or.inr (sn_40 hw)))
          have ff162 := ((ff5.other W154 (Or.inr (sn_44 hw))).other W157 (Or.inr (sn_45 hw)))
          have ff163 := (((F_m_dLastValue_a.other W3 (Or.inr (sn_4 hw))).other W154 (Or.inr (sn_48 hw))).other W157 (Or.inr (sn_49 hw)))
          have ff164 := (((F_m_nBottomTimestamp_a.other W3 (Or.inr (sn_7 hw))).other W154 (Or.inr (sn_51 hw))).other W157 (Or.inr (sn_52 hw)))
          have ff165 := ((ff7.other W154 (Or.inr (sn_53 hw))).other W157 (Or.inr (sn_54 hw)))
          have ff166 := (F154.other W157 (Or.inr (sn_55 hw)))
          exact own_out X157 (v := none) (fun _ => rfl) hlk (fun fs hr => X157.returnOut hx hret (hb hby d_prog_59_22_102) hr) (Q := Q_rm_weigh Z a t d fT fV lT lV bT bV tT tV rw rb rt h0 n0) (by rw [e157]; exact ⟨rfl, N157, K157, ff160, (by rw [if_pos hq2_]; exact ff161), ff162, (by rw [if_neg (fun q => hfl (hq2_.symm.trans q))]; exact ff163), (by rw [if_neg (fun q => q.elim hq8_ (fun q => hq60_ q.1))]; exact ff164), (by rw [if_neg (fun q => q.elim hq8_ (fun q => hq60_ q.1))]; exact ff165), (by rw [if_pos (Or.inl hq153_)]; exact ff166), (by rw [if_pos (Or.inl hq153_)]; exact F157)⟩) (by decide) (by decide)
        · skip
          refine og T151 (mkF m 74 #[rv a, .val (.long t), .second, .val (.double d), .second] []) (fun t_ k_ => XS.ifNo X151.here hx rfl (hb hby d_prog_59_22_71) rfl ((if0 _ _).trans (flt (fun z => hq153_ ((own_cgt _ _).mp z))).2.2.1) k_) ?_
          refine og T151 (mkF m 75 #[rv a, .val (.long t), .second, .val (.double d), .second] [(.double d)]) (fun t_ k_ => XS.dloadN X151.here hx rfl (hb hby d_prog_59_22_74) rfl k_) ?_
          refine og T151 (mkF m 76 #[rv a, .val (.long t), .second, .val (.double d), .second] [(.ref a), (.double d)]) (fun t_ k_ => XS.aloadN X151.here hx rfl (hb hby d_prog_59_22_75) rfl rfl k_) ?_
          obtain ⟨T167, X167, e167, st167⟩ := getF X151 hx hZ hown (host := "") (Or.inl (own_w hw 47 rfl)) Via.refl e151 ff152 (g := (mkF m 76 #[rv a, .val (.long t), .second, .val (.double d), .second] [(.ref a), (.double d)])) rfl rfl (hb hby d_prog_59_22_76)
          refine og T167 (mkF m 79 #[rv a, .val (.long t), .second, .val (.double d), .second] [(.double tV), (.double d)]) (fun t_ k_ => st167 _ k_) ?_
          refine og T167 (mkF m 80 #[rv a, .val (.long t), .second, .val (.double d), .second] [(.int (own_cmp rw rt))]) (fun t_ k_ => XS.dcmpS X167.here hx rfl (hb hby d_prog_59_22_79) rfl (own_dc _ D_d D_tV) k_) ?_
          by_cases hq168_ : rw = rt
          · skip
            refine og T167 (mkF m 83 #[rv a, .val (.long t), .second, .val (.double d), .second] []) (fun t_ k_ => XS.ifNo X167.here hx rfl (hb hby d_prog_59_22_80) rfl ((if0 _ _).trans (teq ((own_ceq _ _).mpr hq168_)).2) k_) ?_
            refine og T167 (mkF m 84 #[rv a, .val (.long t), .second, .val (.double d), .second] [(.long t)]) (fun t_ k_ => XS.lloadN X167.here hx rfl (hb hby d_prog_59_22_83) rfl k_) ?_
            refine og T167 (mkF m 85 #[rv a, .val (.long t), .second, .val (.double d), .second] [(.ref a), (.long t)]) (fun t_ k_ => XS.aloadN X167.here hx rfl (hb hby d_prog_59_22_84) rfl rfl k_) ?_
            have ff170 := (F_m_nTopTimestamp_a.other W3 (Or.inr (sn_16 hw)))
            obtain ⟨T169, X169, e169, st169⟩ := getF X167 hx hZ hown (host := "") (Or.inl (own_w hw 45 rfl)) Via.refl e167 ff170 (g := (mkF m 85 #[rv a, .val (.long t), .second, .val (.double d), .second] [(.ref a), (.long t)])) rfl rfl (hb hby d_prog_59_22_85)
            refine og T169 (mkF m 88 #[rv a, .val (.long t), .second, .val (.double d), .second] [(.long tT), (.long t)]) (fun t_ k_ => st169 _ k_) ?_
            refine og T169 (mkF m 89 #[rv a, .val (.long t), .second, .val (.double d), .second] [(.int (lcmpW t tT))]) (fun t_ k_ => XS.lcmp X169.here hx rfl (hb hby d_prog_59_22_88) rfl k_) ?_
            by_cases hq171_ : t < tT
            · skip
              refine og T169 (mkF m 92 #[rv a, .val (.long t), .second, .val (.double d), .second] []) (fun t_ k_ => XS.ifNo X169.here hx rfl (hb hby d_prog_59_22_89) rfl ((if0 _ _).trans (tlt ((lw_lt _ _).mpr hq171_)).2.1) k_) ?_
              refine og T169 (mkF m 93 #[rv a, .val (.long t), .second, .val (.double d), .second] [(.ref a)]) (fun t_ k_ => XS.aloadN X169.here hx rfl (hb hby d_prog_59_22_92) rfl rfl k_) ?_
              refine og T169 (mkF m 94 #[rv a, .val (.long t), .second, .val (.double d), .second] [(.long t), (.ref a)]) (fun t_ k_ => XS.lloadN X169.here hx rfl (hb hby d_prog_59_22_93) rfl k_) ?_
              have ff173 := (E_a.wr W3)
              obtain ⟨T172, h172, X172, e172, W172, st172⟩ := putF X169 hx hZ hown (host := "") (Or.inl (own_w hw 45 rfl)) Via.refl e169 ff170 ff173 (Or.inl (own_w hw 46 rfl)) (own_w hw 14 rfl) (ty := .long) (by decide) rfl rfl (g := (mkF m 94 #[rv a, .val (.long t), .second, .val (.double d), .second] [(.long t), (.ref a)])) rfl rfl (hb hby d_prog_59_22_94)
              have F172 := ff170.same W172
              have z172 := W172.size
              have N172 := Fr.snoc X172 N3 (show n0 ≤ a by omega)
              have K172 := K3.wr W172 (Or.inl (List.mem_of_getElem? (i := 0) rfl))
              refine og T172 (mkF m 97 #[rv a, .val (.long t), .second, .val (.double d), .second] []) (fun t_ k_ => st172 _ k_) ?_
              refine og T172 (mkF m 98 #[rv a, .val (.long t), .second, .val (.double d), .second] [(.ref a)]) (fun t_ k_ => XS.aloadN X172.here hx rfl (hb hby d_prog_59_22_97) rfl rfl k_) ?_
              refine og T172 (mkF m 99 #[rv a, .val (.long t), .second, .val (.double d), .second] [(.double d), (.ref a)]) (fun t_ k_ => XS.dloadN X172.here hx rfl (hb hby d_prog_59_22_98) rfl k_) ?_
              have ff175 := (ff152.other W172 (Or.inr (sn_27 hw)))
              have ff176 := (ff173.wr W172)
              obtain ⟨T174, h174, X174, e174, W174, st174⟩ := putF X172 hx hZ hown (host := "") (Or.inl (own_w hw 47 rfl)) Via.refl e172 ff175 ff176 (Or.inl (own_w hw 48 rfl)) (own_w hw 14 rfl) (ty := .double) (by decide) rfl rfl (g := (mkF m 99 #[rv a, .val (.long t), .second, .val (.double d), .second] [(.double d), (.ref a)])) rfl rfl (hb hby d_prog_59_22_99)
              have F174 := ff175.same W174
              have z174 := W174.size
              have N174 := Fr.snoc X174 N172 (show n0 ≤ a by omega)
              have K174 := K172.wr W174 (Or.inl (List.mem_of_getElem? (i := 0) rfl))
              refine og T174 (mkF m 102 #[rv a, .val (.long t), .second, .val (.double d), .second] []) (fun t_ k_ => st174 _ k_) ?_
              have ff177 := (((F_m_nFirstTimestamp_a.other W3 (Or.inr (sn_28 hw))).other W172 (Or.inr (sn_33 hw))).other W174 (Or.inr (sn_34 hw)))
              have ff178 := ((F3.other W172 (Or.inr (sn_39 hw))).other W174 (Or.inr (sn_40 hw)))
              have ff179 := ((ff5.other W172 (Or.inr (sn_44 hw))).other W174 (Or.inr (sn_45 hw)))
              have ff180 := (((F_m_dLastValue_a.other W3 (Or.inr (sn_4 hw))).other W172 (Or.inr (sn_48 hw))).other W174 (Or.inr (sn_49 hw)))
              have ff181 := (((F_m_nBottomTimestamp_a.other W3 (Or.inr (sn_7 hw))).other W172 (Or.inr (sn_51 hw))).other W174 (Or.inr (sn_52 hw)))
              have ff182 := ((ff7.other W172 (Or.inr (sn_53 hw))).other W174 (Or.inr (sn_54 hw)))
              have ff183 := (F172.other W174 (Or.inr (sn_55 hw)))
              exact own_out X174 (v := none) (fun _ => rfl) hlk (fun fs hr => X174.returnOut hx hret (hb hby d_prog_59_22_102) hr) (Q := Q_rm_weigh Z a t d fT fV lT lV bT bV tT tV rw rb rt h0 n0) (by rw [e174]; exact ⟨rfl, N174, K174, ff177, (by rw [if_pos hq2_]; exact ff178), ff179, (by rw [if_neg (fun q => hfl (hq2_.symm.trans q))]; exact ff180), (by rw [if_neg (fun q => q.elim hq8_ (fun q => hq60_ q.1))]; exact ff181), (by rw [if_neg (fun q => q.elim hq8_ (fun q => hq60_ q.1))]; exact ff182), (by rw [if_pos (Or.inr ⟨hq168_, hq171_⟩)]; exact ff183), (by rw [if_pos (Or.inr ⟨hq168_, hq171_⟩)]; exact F174)⟩) (by decide) (by decide)
            · skip
              refine og T169 (mkF m 102 #[rv a, .val (.long t), .second, .val (.double d), .second] []) (fun t_ k_ => XS.ifYes X169.here hx rfl (pc0 := 89) (pc' := 102) rfl (hb hby d_prog_59_22_89) rfl ((if0 _ _).trans (flt (fun z => hq171_ ((lw_lt _ _).mp z))).2.1) (by decide) (by decide) k_) ?_
              have ff184 := (F_m_nFirstTimestamp_a.other W3 (Or.inr (sn_28 hw)))
              have ff185 := (F_m_dLastValue_a.other W3 (Or.inr (sn_4 hw)))
              have ff186 := (F_m_nBottomTimestamp_a.other W3 (Or.inr (sn_7 hw)))
              exact own_out X169 (v := none) (fun _ => rfl) hlk (fun fs hr => X169.returnOut hx hret (hb hby d_prog_59_22_102) hr) (Q := Q_rm_weigh Z a t d fT fV lT lV bT bV tT tV rw rb rt h0 n0) (by rw [e169]; exact ⟨rfl, N3, K3, ff184, (by rw [if_pos hq2_]; exact F3), ff5, (by rw [if_neg (fun q => hfl (hq2_.symm.trans q))]; exact ff185), (by rw [if_neg (fun q => q.elim hq8_ (fun q => hq60_ q.1))]; exact ff186), (by rw [if_neg (fun q => q.elim hq8_ (fun q => hq60_ q.1))]; exact ff7), (by rw [if_neg (fun q => q.elim hq153_ (fun q => hq171_ q.2))]; exact ff170), (by rw [if_neg (fun q => q.elim hq153_ (fun q => hq171_ q.2))]; exact ff152)⟩) (by decide) (by decide)
          · skip
            refine og T167 (mkF m 102 #[rv a, .val (.long t), .second, .val (.double d), .second] []) (fun t_ k_ => XS.ifYes X167.here hx rfl (pc0 := 80) (pc' := 102) rfl (hb hby d_prog_59_22_80) rfl ((if0 _ _).trans (feq (fun z => hq168_ ((own_ceq _ _).mp z))).2) (by decide) (by decide) k_) ?_
            have ff187 := (F_m_nFirstTimestamp_a.other W3 (Or.inr (sn_28 hw)))
            have ff188 := (F_m_dLastValue_a.other W3 (Or.inr (sn_4 hw)))
            have ff189 := (F_m_nBottomTimestamp_a.other W3 (Or.inr (sn_7 hw)))
            have ff190 := (F_m_nTopTimestamp_a.other W3 (Or.inr (sn_16 hw)))
            exact own_out X167 (v := none) (fun _ => rfl) hlk (fun fs hr => X167.returnOut hx hret (hb hby d_prog_59_22_102) hr) (Q := Q_rm_weigh Z a t d fT fV lT lV bT bV tT tV rw rb rt h0 n0) (by rw [e167]; exact ⟨rfl, N3, K3, ff187, (by rw [if_pos hq2_]; exact F3), ff5, (by rw [if_neg (fun q => hfl (hq2_.symm.trans q))]; exact ff188), (by rw [if_neg (fun q => q.elim hq8_ (fun q => hq60_ q.1))]; exact ff189), (by rw [if_neg (fun q => q.elim hq8_ (fun q => hq60_ q.1))]; exact ff7), (by rw [if_neg (fun q => q.elim hq153_ (fun q => hq168_ q.1))]; exact ff190), (by rw [if_neg (fun q => q.elim hq153_ (fun q => hq168_ q.1))]; exact ff152)⟩) (by decide) (by decide)
  · skip
    refine og T1 (mkF m 14 #[rv a, .val (.long t), .second, .val (.double d), .second] []) (fun t_ k_ => XS.ifYes X1.here hx rfl (pc0 := 6) (pc' := 14) rfl (hb hby d_prog_59_22_6) rfl ((if0 _ _).trans (feq (fun z => hq2_ ((lw_eq _ _).mp z))).2) (by decide) (by decide) k_) ?_
    refine og T1 (mkF m 15 #[rv a, .val (.long t), .second, .val (.double d), .second] [(.long t)]) (fun t_ k_ => XS.lloadN X1.here hx rfl (hb hby d_prog_59_22_14) rfl k_) ?_
    refine og T1 (mkF m 16 #[rv a, .val (.long t), .second, .val (.double d), .second] [(.ref a), (.long t)]) (fun t_ k_ => XS.aloadN X1.here hx rfl (hb hby d_prog_59_22_15) rfl rfl k_) ?_
    obtain ⟨T191, X191, e191, st191⟩ := getF X1 hx hZ hown (host := "") (Or.inl (own_w hw 37 rfl)) Via.refl e1 F_m_nLastTimestamp_a (g := (mkF m 16 #[rv a, .val (.long t), .second, .val (.double d), .second] [(.ref a), (.long t)])) rfl rfl (hb hby d_prog_59_22_16)
    refine og T191 (mkF m 19 #[rv a, .val (.long t), .second, .val (.double d), .second] [(.long lT), (.long t)]) (fun t_ k_ => st191 _ k_) ?_
    refine og T191 (mkF m 20 #[rv a, .val (.long t), .second, .val (.double d), .second] [(.int (lcmpW t lT))]) (fun t_ k_ => XS.lcmp X191.here hx rfl (hb hby d_prog_59_22_19) rfl k_) ?_
    by_cases hq192_ : t = lT
    · skip
      refine og T191 (mkF m 23 #[rv a, .val (.long t), .second, .val (.double d), .second] []) (fun t_ k_ => XS.ifNo X191.here hx rfl (hb hby d_prog_59_22_20) rfl ((if0 _ _).trans (teq ((lw_eq _ _).mpr hq192_)).2) k_) ?_
      refine og T191 (mkF m 24 #[rv a, .val (.long t), .second, .val (.double d), .second] [(.ref a)]) (fun t_ k_ => XS.aloadN X191.here hx rfl (hb hby d_prog_59_22_23) rfl rfl k_) ?_
      refine og T191 (mkF m 25 #[rv a, .val (.long t), .second, .val (.double d), .second] [(.double d), (.ref a)]) (fun t_ k_ => XS.dloadN X191.here hx rfl (hb hby d_prog_59_22_24) rfl k_) ?_
      obtain ⟨T193, h193, X193, e193, W193, st193⟩ := putF X191 hx hZ hown (host := "") (Or.inl (own_w hw 39 rfl)) Via.refl e191 F_m_dLastValue_a E_a (Or.inl (own_w hw 40 rfl)) (own_w hw 14 rfl) (ty := .double) (by decide) rfl rfl (g := (mkF m 25 #[rv a, .val (.long t), .second, .val (.double d), .second] [(.double d), (.ref a)])) rfl rfl (hb hby d_prog_59_22_25)
      have F193 := F_m_dLastValue_a.same W193
      have z193 := W193.size
      have N193 := Fr.snoc X193 N0 (show n0 ≤ a by omega)
      have K193 := (Keep.refl h0 [a]).wr W193 (Or.inl (List.mem_of_getElem? (i := 0) rfl))
      refine og T193 (mkF m 28 #[rv a, .val (.long t), .second, .val (.double d), .second] []) (fun t_ k_ => st193 _ k_) ?_
      refine og T193 (mkF m 29 #[rv a, .val (.long t), .second, .val (.double d), .second] [(.double d)]) (fun t_ k_ => XS.dloadN X193.here hx rfl (hb hby d_prog_59_22_28) rfl k_) ?_
      refine og T193 (mkF m 30 #[rv a, .val (.long t), .second, .val (.double d), .second] [(.ref a), (.double d)]) (fun t_ k_ => XS.aloadN X193.here hx rfl (hb hby d_prog_59_22_29) rfl rfl k_) ?_
      have ff195 := (F_m_dBottomValue_a.other W193 (Or.inr (sn_13 hw)))
      obtain ⟨T194, X194, e194, st194⟩ := getF X193 hx hZ hown (host := "") (Or.inl (own_w hw 43 rfl)) Via.refl e193 ff195 (g := (mkF m 30 #[rv a, .val (.long t), .second, .val (.double d), .second] [(.ref a), (.double d)])) rfl rfl (hb hby d_prog_59_22_30)
      refine og T194 (mkF m 33 #[rv a, .val (.long t), .second, .val (.double d), .second] [(.double bV), (.double d)]) (fun t_ k_ => st194 _ k_) ?_
      refine og T194 (mkF m 34 #[rv a, .val (.long t), .second, .val (.double d), .second] [(.int (own_cmp rw rb))]) (fun t_ k_ => XS.dcmpS X194.here hx rfl (hb hby d_prog_59_22_33) rfl (own_dc _ D_d D_bV) k_) ?_
      by_cases hq196_ : rw < rb
      · skip
        refine og T194 (mkF m 55 #[rv a, .val (.long t), .second, .val (.double d), .second] []) (fun t_ k_ => XS.ifYes X194.here hx rfl (pc0 := 34) (pc' := 55) rfl (hb hby d_prog_59_22_34) rfl ((if0 _ _).trans (tlt ((own_clt _ _).mpr hq196_)).1) (by decide) (by decide) k_) ?_
        refine og T194 (mkF m 56 #[rv a, .val (.long t), .second, .val (.double d), .second] [(.ref a)]) (fun t_ k_ => XS.aloadN X194.here hx rfl (hb hby d_prog_59_22_55) rfl rfl k_) ?_
        refine og T194 (mkF m 57 #[rv a, .val (.long t), .second, .val (.double d), .second] [(.long t), (.ref a)]) (fun t_ k_ => XS.lloadN X194.here hx rfl (hb hby d_prog_59_22_56) rfl k_) ?_
        have ff198 := (F_m_nBottomTimestamp_a.other W193 (Or.inr (sn_9 hw)))
        have ff199 := (E_a.wr W193)
        obtain ⟨T197, h197, X197, e197, W197, st197⟩ := putF X194 hx hZ hown (host := "") (Or.inl (own_w hw 41 rfl)) Via.refl e194 ff198 ff199 (Or.inl (own_w hw 42 rfl)) (own_w hw 14 rfl) (ty := .long) (by decide) rfl rfl (g := (mkF m 57 #[rv a, .val (.long t), .second, .val (.double d), .second] [(.long t), (.ref a)])) rfl rfl (hb hby d_prog_59_22_57)
        have F197 := ff198.same W197
        have z197 := W197.size
        have N197 := Fr.snoc X197 N193 (show n0 ≤ a by omega)
        have K197 := K193.wr W197 (Or.inl (List.mem_of_getElem? (i := 0) rfl))
        refine og T197 (mkF m 60 #[rv a, .val (.long t), .second, .val (.double d), .second] []) (fun t_ k_ => st197 _ k_) ?_
        refine og T197 (mkF m 61 #[rv a, .val (.long t), .second, .val (.double d), .second] [(.ref a)]) (fun t_ k_ => XS.aloadN X197.here hx rfl (hb hby d_prog_59_22_60) rfl rfl k_) ?_
        refine og T197 (mkF m 62 #[rv a, .val (.long t), .second, .val (.double d), .second] [(.double d), (.ref a)]) (fun t_ k_ => XS.dloadN X197.here hx rfl (hb hby d_prog_59_22_61) rfl k_) ?_
        have ff201 := (ff195.other W197 (Or.inr (sn_14 hw)))
        have ff202 := (ff199.wr W197)
        obtain ⟨T200, h200, X200, e200, W200, st200⟩ := putF X197 hx hZ hown (host := "") (Or.inl (own_w hw 43 rfl)) Via.refl e197 ff201 ff202 (Or.inl (own_w hw 44 rfl)) (own_w hw 14 rfl) (ty := .double) (by decide) rfl rfl (g := (mkF m 62 #[rv a, .val (.long t), .second, .val (.double d), .second] [(.double d), (.ref a)])) rfl rfl (hb hby d_prog_59_22_62)
        have F200 := ff201.same W200
        have z200 := W200.size
        have N200 := Fr.snoc X200 N197 (show n0 ≤ a by omega)
        have K200 := K197.wr W200 (Or.inl (List.mem_of_getElem? (i := 0) rfl))
        refine og T200 (mkF m 65 #[rv a, .val (.long t), .second, .val (.double d), .second] []) (fun t_ k_ => st200 _ k_) ?_
        refine og T200 (mkF m 66 #[rv a, .val (.long t), .second, .val (.double d), .second] [(.double d)]) (fun t_ k_ => XS.dloadN X200.here hx rfl (hb hby d_prog_59_22_65) rfl k_) ?_
        refine og T200 (mkF m 67 #[rv a, .val (.long t), .second, .val (.double d), .second] [(.ref a), (.double d)]) (fun t_ k_ => XS.aloadN X200.here hx rfl (hb hby d_prog_59_22_66) rfl rfl k_) ?_
        have ff204 := (((F_m_dTopValue_a.other W193 (Or.inr (sn_24 hw))).other W197 (Or.inr (sn_25 hw))).other W200 (Or.inr (sn_26 hw)))
        obtain ⟨T203, X203, e203, st203⟩ := getF X200 hx hZ hown (host := "") (Or.inl (own_w hw 47 rfl)) Via.refl e200 ff204 (g := (mkF m 67 #[rv a, .val (.long t), .second, .val (.double d), .second] [(.ref a), (.double d)])) rfl rfl (hb hby d_prog_59_22_67)
        refine og T203 (mkF m 70 #[rv a, .val (.long t), .second, .val (.double d), .second] [(.double tV), (.double d)]) (fun t_ k_ => st203 _ k_) ?_
        refine og T203 (mkF m 71 #[rv a, .val (.long t), .second, .val (.double d), .second] [(.int (own_cmp rw rt))]) (fun t_ k_ => XS.dcmpS X203.here hx rfl (hb hby d_prog_59_22_70) rfl (own_dc _ D_d D_tV) k_) ?_
        by_cases hq205_ : rt < rw
        · skip
          refine og T203 (mkF m 92 #[rv a, .val (.long t), .second, .val (.double d), .second] []) (fun t_ k_ => XS.ifYes X203.here hx rfl (pc0 := 71) (pc' := 92) rfl (hb hby d_prog_59_22_71) rfl ((if0 _ _).trans (tlt ((own_cgt _ _).mpr hq205_)).2.2.1) (by decide) (by decide) k_) ?_
          refine og T203 (mkF m 93 #[rv a, .val (.long t), .second, .val (.double d), .second] [(.ref a)]) (fun t_ k_ => XS.aloadN X203.here hx rfl (hb hby d_prog_59_22_92) rfl rfl k_) ?_
          refine og T203 (mkF m 94 #[rv a, .val (.long t), .second, .val (.double d), .second] [(.long t), (.ref a)]) (fun t_ k_ => XS.lloadN X203.here hx rfl (hb hby d_prog_59_22_93) rfl k_) ?_
          have ff207 := (((F_m_nTopTimestamp_a.other W193 (Or.inr (sn_18 hw))).other W197 (Or.inr (sn_19 hw))).other W200 (Or.inr (sn_20 hw)))
          have ff208 := (ff202.wr W200)
          obtain ⟨T206, h206, X206, e206, W206, st206⟩ := putF X203 hx hZ hown (host := "") (Or.inl (own_w hw 45 rfl)) Via.refl e203 ff207 ff208 (Or.inl (own_w hw 46 rfl)) (own_w hw 14 rfl) (ty := .long) (by decide) rfl rfl (g := (mkF m 94 #[rv a, .val (.long t), .second, .val (.double d), .second] [(.long t), (.ref a)])) rfl rfl (hb hby d_prog_59_22_94)
          have F206 := ff207.same W206
          have z206 := W206.size
          have N206 := Fr.snoc X206 N200 (show n0 ≤ a by omega)
          have K206 := K200.wr W206 (Or.inl (List.mem_of_getElem? (i := 0) rfl))
          refine og T206 (mkF m 97 #[rv a, .val (.long t), .second, .val (.double d), .second] []) (fun t_ k_ => st206 _ k_) ?_
          refine og T206 (mkF m 98 #[rv a, .val (.long t), .second, .val (.double d), .second] [(.ref a)]) (fun t_ k_ => XS.aloadN X206.here hx rfl (hb hby d_prog_59_22_97) rfl rfl k_) ?_
          refine og T206 (mkF m 99 #[rv a, .val (.long t), .second, .val (.double d), .second] [(.double d), (.ref a)]) (fun t_ k_ => XS.dloadN X206.here hx rfl (hb hby d_prog_59_22_98) rfl k_) ?_
          have ff210 := (ff204.other W206 (Or.inr (sn_27 hw)))
          have ff211 := (ff208.wr W206)
          obtain ⟨T209, h209, X209, e209, W209, st209⟩ := putF X206 hx hZ hown (host := "") (Or.inl (own_w hw 47 rfl)) Via.refl e206 ff210 ff211 (Or.inl (own_w hw 48 rfl)) (own_w hw 14 rfl) (ty := .double) (by decide) rfl rfl (g := (mkF m 99 #[rv a, .val (.long t), .second, .val (.double d), .second] [(.double d), (.ref a)])) rfl rfl (hb hby d_prog_59_22_99)
          have F209 := ff210.same W209
          have z209 := W209.size
          have N209 := Fr.snoc X209 N206 (show n0 ≤ a by omega)
          have K209 := K206.wr W209 (Or.inl (List.mem_of_getElem? (i := 0) rfl))
          refine og T209 (mkF m 102 #[rv a, .val (.long t), .second, .val (.double d), .second] []) (fun t_ k_ => st209 _ k_) ?_
          have ff212 := (((((F_m_nFirstTimestamp_a.other W193 (Or.inr (sn_30 hw))).other W197 (Or.inr (sn_31 hw))).other W200 (Or.inr (sn_32 hw))).other W206 (Or.inr (sn_33 hw))).other W209 (Or.inr (sn_34 hw)))
          have ff213 := (((((F_m_dFirstValue_a.other W193 (Or.inr (sn_36 hw))).other W197 (Or.inr (sn_37 hw))).other W200 (Or.inr (sn_38 hw))).other W206 (Or.inr (sn_39 hw))).other W209 (Or.inr (sn_40 hw)))
          have ff214 := (((((F_m_nLastTimestamp_a.other W193 (Or.inr (sn_41 hw))).other W197 (Or.inr (sn_42 hw))).other W200 (Or.inr (sn_43 hw))).other W206 (Or.inr (sn_44 hw))).other W209 (Or.inr (sn_45 hw)))
          have ff215 := ((((F193.other W197 (Or.inr (sn_46 hw))).other W200 (Or.inr (sn_47 hw))).other W206 (Or.inr (sn_48 hw))).other W209 (Or.inr (sn_49 hw)))
          have ff216 := (((F197.other W200 (Or.inr (sn_50 hw))).other W206 (Or.inr (sn_51 hw))).other W209 (Or.inr (sn_52 hw)))
          have ff217 := ((F200.other W206 (Or.inr (sn_53 hw))).other W209 (Or.inr (sn_54 hw)))
          have ff218 := (F206.other W209 (Or.inr (sn_55 hw)))
          exact own_out X209 (v := none) (fun _ => rfl) hlk (fun fs hr => X209.returnOut hx hret (hb hby d_prog_59_22_102) hr) (Q := Q_rm_weigh Z a t d fT fV lT lV bT bV tT tV rw rb rt h0 n0) (by rw [e209]; exact ⟨rfl, N209, K209, ff212, (by rw [if_neg hq2_]; exact ff213), ff214, (by rw [if_pos hq192_]; exact ff215), (by rw [if_pos (Or.inl hq196_)]; exact ff216), (by rw [if_pos (Or.inl hq196_)]; exact ff217), (by rw [if_pos (Or.inl hq205_)]; exact ff218), (by rw [if_pos (Or.inl hq205_)]; exact F209)⟩) (by decide) (by decide)
        · skip
          refine og T203 (mkF m 74 #[rv a, .val (.long t), .second, .val (.double d), .second] []) (fun t_ k_ => XS.ifNo X203.here hx rfl (hb hby d_prog_59_22_71) rfl ((if0 _ _).trans (flt (fun z => hq205_ ((own_cgt _ _).mp z))).2.2.1) k_) ?_
          refine og T203 (mkF m 75 #[rv a, .val (.long t), .second, .val (.double d), .second] [(.double d)]) (fun t_ k_ => XS.dloadN X203.here hx rfl (hb hby d_prog_59_22_74) rfl k_) ?_
          refine og T203 (mkF m 76 #[rv a, .val (.long t), .second, .val (.double d), .second] [(.ref a), (.double d)]) (fun t_ k_ => XS.aloadN X203.here hx rfl (hb hby d_prog_59_22_75) rfl rfl k_) ?_
          obtain ⟨T219, X219, e219, st219⟩ := getF X203 hx hZ hown (host := "") (Or.inl (own_w hw 47 rfl)) Via.refl e203 ff204 (g := (mkF m 76 #[rv a, .val (.long t), .second, .val (.double d), .second] [(.ref a), (.double d)])) rfl rfl (hb hby d_prog_59_22_76)
          refine og T219 (mkF m 79 #[rv a, .val (.long t), .second, .val (.double d), .second] [(.double tV), (.double d)]) (fun t_ k_ => st219 _ k_) ?_
          refine og T219 (mkF m 80 #[rv a, .val (.long t), .second, .val (.double d), .second] [(.int (own_cmp rw rt))]) (fun t_ k_ => XS.dcmpS X219.here hx rfl (hb hby d_prog_59_22_79) rfl (own_dc _ D_d D_tV) k_) ?_
          by_cases hq220_ : rw = rt
          · skip
            refine og T219 (mkF m 83 #[rv a, .val (.long t), .second, .val (.double d), .second] []) (fun t_ k_ => XS.ifNo X219.here hx rfl (hb hby d_prog_59_22_80) rfl ((if0 _ _).trans (teq ((own_ceq _ _).mpr hq220_)).2) k_) ?_
            refine og T219 (mkF m 84 #[rv a, .val (.long t), .second, .val (.double d), .second] [(.long t)]) (fun t_ k_ => XS.lloadN X219.here hx rfl (hb hby d_prog_59_22_83) rfl k_) ?_
            refine og T219 (mkF m 85 #[rv a, .val (.long t), .second, .val (.double d), .second] [(.ref a), (.long t)]) (fun t_ k_ => XS.aloadN X219.here hx rfl (hb hby d_prog_59_22_84) rfl rfl k_) ?_
            have ff222 := (((F_m_nTopTimestamp_a.other W193 (Or.inr (sn_18 hw))).other W197 (Or.inr (sn_19 hw))).other W200 (Or.inr (sn_20 hw)))
            obtain ⟨T221, X221, e221, st221⟩ := getF X219 hx hZ hown (host := "") (Or.inl (own_w hw 45 rfl)) Via.refl e219 ff222 (g := (mkF m 85 #[rv a, .val (.long t), .second, .val (.double d), .second] [(.ref a), (.long t)])) rfl rfl (hb hby d_prog_59_22_85)
            refine og T221 (mkF m 88 #[rv a, .val (.long t), .second, .val (.double d), .second] [(.long tT), (.long t)]) (fun t_ k_ => st221 _ k_) ?_
            refine og T221 (mkF m 89 #[rv a, .val (.long t), .second, .val (.double d), .second] [(.int (lcmpW t tT))]) (fun t_ k_ => XS.lcmp X221.here hx rfl (hb hby d_prog_59_22_88) rfl k_) ?_
            by_cases hq223_ : t < tT
            · skip
              refine og T221 (mkF m 92 #[rv a, .val (.long t), .second, .val (.double d), .second] []) (fun t_ k_ => XS.ifNo X221.here hx rfl (hb hby d_prog_59_22_89) rfl ((if0 _ _).trans (tlt ((lw_lt _ _).mpr hq223_)).2.1) k_) ?_
              refine og T221 (mkF m 93 #[rv a, .val (.long t), .second, .val (.double d), .second] [(.ref a)]) (fun t_ k_ => XS.aloadN X221.here hx rfl (hb hby d_prog_59_22_92) rfl rfl k_) ?_
              refine og T221 (mkF m 94 #[rv a, .val (.long t), .second, .val (.double d), .second] [(.long t), (.ref a)]) (fun t_ k_ => XS.lloadN X221.here hx rfl (hb hby d_prog_59_22_93) rfl k_) ?_
              have ff225 := (ff202.wr W200)
              obtain ⟨T224, h224, X224, e224, W224, st224⟩ := putF X221 hx hZ hown (host := "") (Or.inl (own_w hw 45 rfl)) Via.refl e221 ff222 ff225 (Or.inl (own_w hw 46 rfl)) (own_w hw 14 rfl) (ty := .long) (by decide) rfl rfl (g := (mkF m 94 #[rv a, .val (.long t), .second, .val (.double d), .second] [(.long t), (.ref a)])) rfl rfl (hb hby d_prog_59_22_94)
              have F224 := ff222.same W224
              have z224 := W224.size
              have N224 := Fr.snoc X224 N200 (show n0 ≤ a by omega)
              have K224 := K200.wr W224 (Or.inl (List.mem_of_getElem? (i := 0) rfl))
              refine og T224 (mkF m 97 #[rv a, .val (.long t), .second, .val (.double d), .second] []) (fun t_ k_ => st224 _ k_) ?_
              refine og T224 (mkF m 98 #[rv a, .val (.long t), .second, .val (.double d), .second] [(.ref a)]) (fun t_ k_ => XS.aloadN X224.here hx rfl (hb hby d_prog_59_22_97) rfl rfl k_) ?_
              refine og T224 (mkF m 99 #[rv a, .val (.long t), .second, .val (.double d), .second] [(.double d), (.ref a)]) (fun t_ k_ => XS.dloadN X224.here hx rfl (hb hby d_prog_59_22_98) rfl k_) ?_
              have ff227 := (ff204.other W224 (Or.inr (sn_27 hw)))
              have ff228 := (ff225.wr W224)
              obtain ⟨T226, h226, X226, e226, W226, st226⟩ := putF X224 hx hZ hown (host := "") (Or.inl (own_w hw 47 rfl)) Via.refl e224 ff227 ff228 (Or.inl (own_w hw 48 rfl)) (own_w hw 14 rfl) (ty := .double) (by decide) rfl rfl (g := (mkF m 99 #[rv a, .val (.long t), .second, .val (.double d), .second] [(.double d), (.ref a)])) rfl rfl (hb hby d_prog_59_22_99)
              have F226 := ff227.same W226
              have z226 := W226.size
              have N226 := Fr.snoc X226 N224 (show n0 ≤ a by omega)
              have K226 := K224.wr W226 (Or.inl (List.mem_of_getElem? (i := 0) rfl))
              refine og T226 (mkF m 102 #[rv a, .val (.long t), .second, .val (.double d), .second] []) (fun t_ k_ => st226 _ k_) ?_
              have ff229 := (((((F_m_nFirstTimestamp_a.other W193 (Or.inr (sn_30 hw))).other W197 (Or.inr (sn_31 hw))).other W200 (Or.inr (sn_32 hw))).other W224 (Or.inr (sn_33 hw))).other W226 (Or.inr (sn_34 hw)))
              have ff230 := (((((F_m_dFirstValue_a.other W193 (Or.inr (sn_36 hw))).other W197 (Or.inr (sn_37 hw))).other W200 (Or.inr (sn_38 hw))).other W224 (Or.inr (sn_39 hw))).other W226 (Or.inr (sn_40 hw)))
              have ff231 := (((((F_m_nLastTimestamp_a.other W193 (Or.inr (sn_41 hw))).other W197 (Or.inr (sn_42 hw))).other W200 (Or.inr (sn_43 hw))).other W224 (Or.inr (sn_44 hw))).other W226 (Or.inr (sn_45 hw)))
              have ff232 := ((((F193.other W197 (Or.inr (sn_46 hw))).other W200 (Or.inr (sn_47 hw))).other W224 (Or.inr (sn_48 hw))).other W226 (Or.inr (sn_49 hw)))
              have ff233 := (((F197.other W200 (Or.inr (sn_50 hw))).other W224 (Or.inr (sn_51 hw))).other W226 (Or.inr (sn_52 hw)))
              have ff234 := ((F200.other W224 (Or.inr (sn_53 hw))).other W226 (Or.inr (sn_54 hw)))
              have ff235 := (F224.other W226 (Or.inr (sn_55 hw)))
              exact own_out X226 (v := none) (fun _ => rfl) hlk (fun fs hr => X226.returnOut hx hret (hb hby d_prog_59_22_102) hr) (Q := Q_rm_weigh Z a t d fT fV lT lV bT bV tT tV rw rb rt h0 n0) (by rw [e226]; exact ⟨rfl, N226, K226, ff229, (by rw [if_neg hq2_]; exact ff230), ff231, (by rw [if_pos hq192_]; exact ff232), (by rw [if_pos (Or.inl hq196_)]; exact ff233), (by rw [if_pos (Or.inl hq196_)]; exact ff234), (by rw [if_pos (Or.inr ⟨hq220_, hq223_⟩)]; exact ff235), (by rw [if_pos (Or.inr ⟨hq220_, hq223_⟩)]; exact F226)⟩) (by decide) (by decide)
            · skip
              refine og T221 (mkF m 102 #[rv a, .val (.long t), .second, .val (.double d), .second] []) (fun t_ k_ => XS.ifYes X221.here hx rfl (pc0 := 89) (pc' := 102) rfl (hb hby d_prog_59_22_89) rfl ((if0 _ _).trans (flt (fun z => hq223_ ((lw_lt _ _).mp z))).2.1) (by decide) (by decide) k_) ?_
              have ff236 := (((F_m_nFirstTimestamp_a.other W193 (Or.inr (sn_30 hw))).other W197 (Or.inr (sn_31 hw))).other W200 (Or.inr (sn_32 hw)))
              have ff237 := (((F_m_dFirstValue_a.other W193 (Or.inr (sn_36 hw))).other W197 (Or.inr (sn_37 hw))).other W200 (Or.inr (sn_38 hw)))
              have ff238 := (((F_m_nLastTimestamp_a.other W193 (Or.inr (sn_41 hw))).other W197 (Or.inr (sn_42 hw))).other W200 (Or.inr (sn_43 hw)))
              have ff239 := ((F193.other W197 (Or.inr (sn_46 hw))).other W200 (Or.inr (sn_47 hw)))
              have ff240 := (F197.other W200 (Or.inr (sn_50 hw)))
              exact own_out X221 (v := none) (fun _ => rfl) hlk (fun fs hr => X221.returnOut hx hret (hb hby d_prog_59_22_102) hr) (Q := Q_rm_weigh Z a t d fT fV lT lV bT bV tT tV rw rb rt h0 n0) (by rw [e221]; exact ⟨rfl, N200, K200, ff236, (by rw [if_neg hq2_]; exact ff237), ff238, (by rw [if_pos hq192_]; exact ff239), (by rw [if_pos (Or.inl hq196_)]; exact ff240), (by rw [if_pos (Or.inl hq196_)]; exact F200), (by rw [if_neg (fun q => q.elim hq205_ (fun q => hq223_ q.2))]; exact ff222), (by rw [if_neg (fun q => q.elim hq205_ (fun q => hq223_ q.2))]; exact ff204)⟩) (by decide) (by decide)
          · skip
            refine og T219 (mkF m 102 #[rv a, .val (.long t), .second, .val (.double d), .second] []) (fun t_ k_ => XS.ifYes X219.here hx rfl (pc0 := 80) (pc' := 102) rfl (hb hby d_prog_59_22_80) rfl ((if0 _ _).trans (feq (fun z => hq220_ ((own_ceq _ _).mp z))).2) (by decide) (by decide) k_) ?_
            have ff241 := (((F_m_nFirstTimestamp_a.other W193 (Or.inr (sn_30 hw))).other W197 (Or.inr (sn_31 hw))).other W200 (Or.inr (sn_32 hw)))
            have ff242 := (((F_m_dFirstValue_a.other W193 (Or.inr (sn_36 hw))).other W197 (Or.inr (sn_37 hw))).other W200 (Or.inr (sn_38 hw)))
            have ff243 := (((F_m_nLastTimestamp_a.other W193 (Or.inr (sn_41 hw))).other W197 (Or.inr (sn_42 hw))).other W200 (Or.inr (sn_43 hw)))
            have ff244 := ((F193.other W197 (Or.inr (sn_46 hw))).other W200 (Or.inr (sn_47 hw)))
            have ff245 := (F197.other W200 (Or.inr (sn_50 hw)))
            have ff246 := (((F_m_nTopTimestamp_a.other W193 (Or.inr (sn_18 hw))).other W197 (Or.inr (sn_19 hw))).other W200 (Or.inr (sn_20 hw)))
            exact own_out X219 (v := none) (fun _ => rfl) hlk (fun fs hr => X219.returnOut hx hret (hb hby d_prog_59_22_102) hr) (Q := Q_rm_weigh Z a t d fT fV lT lV bT bV tT tV rw rb rt h0 n0) (by rw [e219]; exact ⟨rfl, N200, K200, ff241, (by rw [if_neg hq2_]; exact ff242), ff243, (by rw [if_pos hq192_]; exact ff244), (by rw [if_pos (Or.inl hq196_)]; exact ff245), (by rw [if_pos (Or.inl hq196_)]; exact F200), (by rw [if_neg (fun q => q.elim hq205_ (fun q => hq220_ q.1))]; exact ff246), (by rw [if_neg (fun q => q.elim hq205_ (fun q => hq220_ q.1))]; exact ff204)⟩) (by decide) (by decide)
      · skip
        refine og T194 (mkF m 37 #[rv a, .val (.long t), .second, .val (.double d), .second] []) (fun t_ k_ => XS.ifNo X194.here hx rfl (hb hby d_prog_59_22_34) rfl ((if0 _ _).trans (flt (fun z => hq196_ ((own_clt _ _).mp z))).1) k_) ?_
        refine og T194 (mkF m 38 #[rv a, .val (.long t), .second, .val (.double d), .second] [(.double d)]) (fun t_ k_ => XS.dloadN X194.here hx rfl (hb hby d_prog_59_22_37) rfl k_) ?_
        refine og T194 (mkF m 39 #[rv a, .val (.long t), .second, .val (.double d), .second] [(.ref a), (.double d)]) (fun t_ k_ => XS.aloadN X194.here hx rfl (hb hby d_prog_59_22_38) rfl rfl k_) ?_
        obtain ⟨T247, X247, e247, st247⟩ := getF X194 hx hZ hown (host := "") (Or.inl (own_w hw 43 rfl)) Via.refl e194 ff195 (g := (mkF m 39 #[rv a, .val (.long t), .second, .val (.double d), .second] [(.ref a), (.double d)])) rfl rfl (hb hby d_prog_59_22_39)
        refine og T247 (mkF m 42 #[rv a, .val (.long t), .second, .val (.double d), .second] [(.double bV), (.double d)]) (fun t_ k_ => st247 _ k_) ?_
        refine og T247 (mkF m 43 #[rv a, .val (.long t), .second, .val (.double d), .second] [(.int (own_cmp rw rb))]) (fun t_ k_ => XS.dcmpS X247.here hx rfl (hb hby d_prog_59_22_42) rfl (own_dc _ D_d D_bV) k_) ?_
        by_cases hq248_ : rw = rb
        · skip
          refine og T247 (mkF m 46 #[rv a, .val (.long t), .second, .val (.double d), .second] []) (fun t_ k_ => XS.ifNo X247.here hx rfl (hb hby d_prog_59_22_43) rfl ((if0 _ _).trans (teq ((own_ceq _ _).mpr hq248_)).2) k_) ?_
          refine og T247 (mkF m 47 #[rv a, .val (.long t), .second, .val (.double d), .second] [(.long t)]) (fun t_ k_ => XS.lloadN X247.here hx rfl (hb hby d_prog_59_22_46) rfl k_) ?_
          refine og T247 (mkF m 48 #[rv a, .val (.long t), .second, .val (.double d), .second] [(.ref a), (.long t)]) (fun t_ k_ => XS.aloadN X247.here hx rfl (hb hby d_prog_59_22_47) rfl rfl k_) ?_
          have ff250 := (F_m_nBottomTimestamp_a.other W193 (Or.inr (sn_9 hw)))
          obtain ⟨T249, X249, e249, st249⟩ := getF X247 hx hZ hown (host := "") (Or.inl (own_w hw 41 rfl)) Via.refl e247 ff250 (g := (mkF m 48 #[rv a, .val (.long t), .second, .val (.double d), .second] [(.ref a), (.long t)])) rfl rfl (hb hby d_prog_59_22_48)
          refine og T249 (mkF m 51 #[rv a, .val (.long t), .second, .val (.double d), .second] [(.long bT), (.long t)]) (fun t_ k_ => st249 _ k_) ?_
          refine og T249 (mkF m 52 #[rv a, .val (.long t), .second, .val (.double d), .second] [(.int (lcmpW t bT))]) (fun t_ k_ => XS.lcmp X249.here hx rfl (hb hby d_prog_59_22_51) rfl k_) ?_
          by_cases hq251_ : t < bT
          · skip
            refine og T249 (mkF m 55 #[rv a, .val (.long t), .second, .val (.double d), .second] []) (fun t_ k_ => XS.ifNo X249.here hx rfl (hb hby d_prog_59_22_52) rfl ((if0 _ _).trans (tlt ((lw_lt _ _).mpr hq251_)).2.1) k_) ?_
            refine og T249 (mkF m 56 #[rv a, .val (.long t), .second, .val (.double d), .second] [(.ref a)]) (fun t_ k_ => XS.aloadN X249.here hx rfl (hb hby d_prog_59_22_55) rfl rfl k_) ?_
            refine og T249 (mkF m 57 #[rv a, .val (.long t), .second, .val (.double d), .second] [(.long t), (.ref a)]) (fun t_ k_ => XS.lloadN X249.here hx rfl (hb hby d_prog_59_22_56) rfl k_) ?_
            have ff253 := (E_a.wr W193)
            obtain ⟨T252, h252, X252, e252, W252, st252⟩ := putF X249 hx hZ hown (host := "") (Or.inl (own_w hw 41 rfl)) Via.refl e249 ff250 ff253 (Or.inl (own_w hw 42 rfl)) (own_w hw 14 rfl) (ty := .long) (by decide) rfl rfl (g := (mkF m 57 #[rv a, .val (.long t), .second, .val (.double d), .second] [(.long t), (.ref a)])) rfl rfl (hb hby d_prog_59_22_57)
            have F252 := ff250.same W252
            have z252 := W252.size
            have N252 := Fr.snoc X252 N193 (show n0 ≤ a by omega)
            have K252 := K193.wr W252 (Or.inl (List.mem_of_getElem? (i := 0) rfl))
            refine og T252 (mkF m 60 #[rv a, .val (.long t), .second, .val (.double d), .second] []) (fun t_ k_ => st252 _ k_) ?_
            refine og T252 (mkF m 61 #[rv a, .val (.long t), .second, .val (.double d), .second] [(.ref a)]) (fun t_ k_ => XS.aloadN X252.here hx rfl (hb hby d_prog_59_22_60) rfl rfl k_) ?_
            refine og T252 (mkF m 62 #[rv a, .val (.long t), .second, .val (.double d), .second] [(.double d), (.ref a)]) (fun t_ k_ => XS.dloadN X252.here hx rfl (hb hby d_prog_59_22_61) rfl k_) ?_
            have ff255 := (ff195.other W252 (Or.inr (sn_14 hw)))
            have ff256 := (ff253.wr W252)
            obtain ⟨T254, h254, X254, e254, W254, st254⟩ := putF X252 hx hZ hown (host := "") (Or.inl (own_w hw 43 rfl)) Via.refl e252 ff255 ff256 (Or.inl (own_w hw 44 rfl)) (own_w hw 14 rfl) (ty := .double) (by decide) rfl rfl (g := (mkF m 62 #[rv a, .val (.long t), .second, .val (.double d), .second] [(.double d), (.ref a)])) rfl rfl (hb hby d_prog_59_22_62)
            have F254 := ff255.same W254
            have z254 := W254.size
            have N254 := Fr.snoc X254 N252 (show n0 ≤ a by omega)
            have K254 := K252.wr W254 (Or.inl (List.mem_of_getElem? (i := 0) rfl))
            refine og T254 (mkF m 65 #[rv a, .val (.long t), .second, .val (.double d), .second] []) (fun t_ k_ => st254 _ k_) ?_
            refine og T254 (mkF m 66 #[rv a, .val (.long t), .second, .val (.double d), .second] [(.double d)]) (fun t_ k_ => XS.dloadN X254.here hx rfl (hb hby d_prog_59_22_65) rfl k_) ?_
            refine og T254 (mkF m 67 #[rv a, .val (.long t), .second, .val (.double d), .second] [(.ref a), (.double d)]) (fun t_ k_ => XS.aloadN X254.here hx rfl (hb hby d_prog_59_22_66) rfl rfl k_) ?_
            have ff258 := (((F_m_dTopValue_a.other W193 (Or.inr (sn_24 hw))).other W252 (Or.inr (sn_25 hw))).other W254 (Or.inr (sn_26 hw)))
            obtain ⟨T257, X257, e257, st257⟩ := getF X254 hx hZ hown (host := "") (Or.inl (own_w hw 47 rfl)) Via.refl e254 ff258 (g := (mkF m 67 #[rv a, .val (.long t), .second, .val (.double d), .second] [(.ref a), (.double d)])) rfl rfl (hb hby d_prog_59_22_67)
            refine og T257 (mkF m 70 #[rv a, .val (.long t), .second, .val (.double d), .second] [(.double tV), (.double d)]) (fun t_ k_ => st257 _ k_) ?_
            refine og T257 (mkF m 71 #[rv a, .val (.long t), .second, .val (.double d), .second] [(.int (own_cmp rw rt))]) (fun t_ k_ => XS.dcmpS X257.here hx rfl (hb hby d_prog_59_22_70) rfl (own_dc _ D_d D_tV) k_) ?_
            by_cases hq259_ : rt < rw
            · skip
              refine og T257 (mkF m 92 #[rv a, .val (.long t), .second, .val (.double d), .second] []) (fun t_ k_ => XS.ifYes X257.here hx rfl (pc0 := 71) (pc' := 92) rfl (hb hby d_prog_59_22_71) rfl ((if0 _ _).trans (tlt ((own_cgt _ _).mpr hq259_)).2.2.1) (by decide) (by decide) k_) ?_
              refine og T257 (mkF m 93 #[rv a, .val (.long t), .second, .val (.double d), .second] [(.ref a)]) (fun t_ k_ => XS.aloadN X257.here hx rfl (hb hby d_prog_59_22_92) rfl rfl k_) ?_
              refine og T257 (mkF m 94 #[rv a, .val (.long t), .second, .val (.double d), .second] [(.long t), (.ref a)]) (fun t_ k_ => XS.lloadN X257.here hx rfl (hb hby d_prog_59_22_93) rfl k_) ?_
              have ff261 := (((F_m_nTopTimestamp_a.other W193 (Or.inr (sn_18 hw))).other W252 (Or.inr (sn_19 hw))).other W254 (Or.inr (sn_20 hw)))
              have ff262 := (ff256.wr W254)
              obtain ⟨T260, h260, X260, e260, W260, st260⟩ := putF X257 hx hZ hown (host := "") (Or.inl (own_w hw 45 rfl)) Via.refl e257 ff261 ff262 (Or.inl (own_w hw 46 rfl)) (own_w hw 14 rfl) (ty := .long) (by decide) rfl rfl (g := (mkF m 94 #[rv a, .val (.long t), .second, .val (.double d), .second] [(.long t), (.ref a)])) rfl rfl (hb hby d_prog_59_22_94)
              have F260 := ff261.same W260
              have z260 := W260.size
              have N260 := Fr.snoc X260 N254 (show n0 ≤ a by omega)
              have K260 := K254.wr W260 (Or.inl (List.mem_of_getElem? (i := 0) rfl))
              refine og T260 (mkF m 97 #[rv a, .val (.long t), .second, .val (.double d), .second] []) (fun t_ k_ => st260 _ k_) ?_
              refine og T260 (mkF m 98 #[rv a, .val (.long t), .second, .val (.double d), .second] [(.ref a)]) (fun t_ k_ => XS.aloadN X260.here hx rfl (hb hby d_prog_59_22_97) rfl rfl k_) ?_
              refine og T260 (mkF m 99 #[rv a, .val (.long t), .second, .val (.double d), .second] [(.double d), (.ref a)]) (fun t_ k_ => XS.dloadN X260.here hx rfl (hb hby d_prog_59_22_98) rfl k_) ?_
              have ff264 := (ff258.other W260 (Or.inr (sn_27 hw)))
              have ff265 := (ff262.wr W260)
              obtain ⟨T263, h263, X263, e263, W263, st263⟩ := putF X260 hx hZ hown (host := "") (Or.inl (own_w hw 47 rfl)) Via.refl e260 ff264 ff265 (Or.inl (own_w hw 48 rfl)) (own_w hw 14 rfl) (ty := .double) (by decide) rfl rfl (g := (mkF m 99 #[rv a, .val (.long t), .second, .val (.double d), .second] [(.double d), (.ref a)])) rfl rfl (hb hby d_prog_59_22_99)
              have F263 := ff264.same W263
              have z263 := W263.size
              have N263 := Fr.snoc X263 N260 (show n0 ≤ a by omega)
              have K263 := K260.wr W263 (Or.inl (List.mem_of_getElem? (i := 0) rfl))
              refine og T263 (mkF m 102 #[rv a, .val (.long t), .second, .val (.double d), .second] []) (fun t_ k_ => st263 _ k_) ?_
              have ff266 := (((((F_m_nFirstTimestamp_a.other W193 (Or.inr (sn_30 hw))).other W252 (Or.inr (sn_31 hw))).other W254 (Or.inr (sn_32 hw))).other W260 (Or.inr (sn_33 hw))).other W263 (Or.inr (sn_34 hw)))
              have ff267 := (((((F_m_dFirstValue_a.other W193 (Or.inr (sn_36 hw))).other W252 (Or.inr (sn_37 hw))).other W254 (Or.inr (sn_38 hw))).other W260 (Or.inr (sn_39 hw))).other W263 (Or.inr (sn_40 hw)))
              have ff268 := (((((F_m_nLastTimestamp_a.other W193 (Or.inr (sn_41 hw))).other W252 (Or.inr (sn_42 hw))).other W254 (Or.inr (sn_43 hw))).other W260 (Or.inr (sn_44 hw))).other W263 (Or.inr (sn_45 hw)))
              have ff269 := ((((F193.other W252 (Or.inr (sn_46 hw))).other W254 (Or.inr (sn_47 hw))).other W260 (Or.inr (sn_48 hw))).other W263 (Or.inr (sn_49 hw)))
              have ff270 := (((F252.other W254 (Or.inr (sn_50 hw))).other W260 (Or.inr (sn_51 hw))).other W263 (Or.inr (sn_52 hw)))
              have ff271 := ((F254.other W260 (Or.inr (sn_53 hw))).other W263 (Or.inr (sn_54 hw)))
              have ff272 := (F260.other W263 (Or.inr (sn_55 hw)))
              exact own_out X263 (v := none) (fun _ => rfl) hlk (fun fs hr => X263.returnOut hx hret (hb hby d_prog_59_22_102) hr) (Q := Q_rm_weigh Z a t d fT fV lT lV bT bV tT tV rw rb rt h0 n0) (by rw [e263]; exact ⟨rfl, N263, K263, ff266, (by rw [if_neg hq2_]; exact ff267), ff268, (by rw [if_pos hq192_]; exact ff269), (by rw [if_pos (Or.inr ⟨hq248_, hq251_⟩)]; exact ff270), (by rw [if_pos (Or.inr ⟨hq248_, hq251_⟩)]; exact ff271), (by rw [if_pos (Or.inl hq259_)]; exact ff272), (by rw [if_pos (Or.inl hq259_)]; exact F263)⟩) (by decide) (by decide)
            · skip
              refine og T257 (mkF m 74 #[rv a, .val (.long t), .second, .val (.double d), .second] []) (fun t_ k_ => XS.ifNo X257.here hx rfl (hb hby d_prog_59_22_71) rfl ((if0 _ _).trans (flt (fun z => hq259_ ((own_cgt _ _).mp z))).2.2.1) k_) ?_
              refine og T257 (mkF m 75 #[rv a, .val (.long t), .second, .val (.double d), .second] [(.double d)]) (fun t_ k_ => XS.dloadN X257.here hx rfl (hb hby d_prog_59_22_74) rfl k_) ?_
              refine og T257 (mkF m 76 #[rv a, .val (.long t), .second, .val (.double d), .second] [(.ref a), (.double d)]) (fun t_ k_ => XS.aloadN X257.here hx rfl (hb hby d_prog_59_22_75) rfl rfl k_) ?_
              obtain ⟨T273, X273, e273, st273⟩ := getF X257 hx hZ hown (host := "") (Or.inl (own_w hw 47 rfl)) Via.refl e257 ff258 (g := (mkF m 76 #[rv a, .val (.long t), .second, .val (.double d), .second] [(.ref a), (.double d)])) rfl rfl (hb hby d_prog_59_22_76)
              refine og T273 (mkF m 79 #[rv a, .val (.long t), .second, .val (.double d), .second] [(.double tV), (.double d)]) (fun t_ k_ => st273 _ k_) ?_
              refine og T273 (mkF m 80 #[rv a, .val (.long t), .second, .val (.double d), .second] [(.int (own_cmp rw rt))]) (fun t_ k_ => XS.dcmpS X273.here hx rfl (hb hby d_prog_59_22_79) rfl (own_dc _ D_d D_tV) k_) ?_
              by_cases hq274_ : rw = rt
              · skip
                refine og T273 (mkF m 83 #[rv a, .val (.long t), .second, .val (.double d), .second] []) (fun t_ k_ => XS.ifNo X273.here hx rfl (hb hby d_prog_59_22_80) rfl ((if0 _ _).trans (teq ((own_ceq _ _).mpr hq274_)).2) k_) ?_
                refine og T273 (mkF m 84 #[rv a, .val (.long t), .second, .val (.double d), .second] [(.long t)]) (fun t_ k_ => XS.lloadN X273.here hx rfl (hb hby d_prog_59_22_83) rfl k_) ?_
                refine og T273 (mkF m 85 #[rv a, .val (.long t), .second, .val (.double d), .second] [(.ref a), (.long t)]) (fun t_ k_ => XS.aloadN X273.here hx rfl (hb hby d_prog_59_22_84) rfl rfl k_) ?_
                have ff276 := (((F_m_nTopTimestamp_a.other W193 (Or.inr (sn_18 hw))).other W252 (Or.inr (sn_19 hw))).other W254 (Or.inr (sn_20 hw)))
                obtain ⟨T275, X275, e275, st275⟩ := getF X273 hx hZ hown (host := "") (Or.inl (own_w hw 45 rfl)) Via.refl e273 ff276 (g := (mkF m 85 #[rv a, .val (.long t), .second, .val (.double d), .second] [(.ref a), (.long t)])) rfl rfl (hb hby d_prog_59_22_85)
                refine og T275 (mkF m 88 #[rv a, .val (.long t), .second, .val (.double d), .second] [(.long tT), (.long t)]) (fun t_ k_ => st275 _ k_) ?_
                refine og T275 (mkF m 89 #[rv a, .val (.long t), .second, .val (.double d), .second] [(.int (lcmpW t tT))]) (fun t_ k_ => XS.lcmp X275.here hx rfl (hb hby d_prog_59_22_88) rfl k_) ?_
                by_cases hq277_ : t < tT
                · skip
                  refine og T275 (mkF m 92 #[rv a, .val (.long t), .second, .val (.double d), .second] []) (fun t_ k_ => XS.ifNo X275.here hx rfl (hb hby d_prog_59_22_89) rfl ((if0 _ _).trans (tlt ((lw_lt _ _).mpr hq277_)).2.1) k_) ?_
                  refine og T275 (mkF m 93 #[rv a, .val (.long t), .second, .val (.double d), .second] [(.ref a)]) (fun t_ k_ => XS.aloadN X275.here hx rfl (hb hby d_prog_59_22_92) rfl rfl k_) ?_
                  refine og T275 (mkF m 94 #[rv a, .val (.long t), .second, .val (.double d), .second] [(.long t), (.ref a)]) (fun t_ k_ => XS.lloadN X275.here hx rfl (hb hby d_prog_59_22_93) rfl k_) ?_
                  have ff279 := (ff256.wr W254)
                  obtain ⟨T278, h278, X278, e278, W278, st278⟩ := putF X275 hx hZ hown (host := "") (Or.inl (own_w hw 45 rfl)) Via.refl e275 ff276 ff279 (Or.inl (own_w hw 46 rfl)) (own_w hw 14 rfl) (ty := .long) (by decide) rfl rfl (g := (mkF m 94 #[rv a, .val (.long t), .second, .val (.double d), .second] [(.long t), (.ref a)])) rfl rfl (hb hby d_prog_59_22_94)
                  have F278 := ff276.same W278
                  have z278 := W278.size
                  have N278 := Fr.snoc X278 N254 (show n0 ≤ a by omega)
                  have K278 := K254.wr W278 (Or.inl (List.mem_of_getElem? (i := 0) rfl))
                  refine og T278 (mkF m 97 #[rv a, .val (.long t), .second, .val (.double d), .second] []) (fun t_ k_ => st278 _ k_) ?_
                  refine og T278 (mkF m 98 #[rv a, .val (.long t), .second, .val (.double d), .second] [(.ref a)]) (fun t_ k_ => XS.aloadN X278.here hx rfl (hb hby d_prog_59_22_97) rfl rfl k_) ?_
                  refine og T278 (mkF m 99 #[rv a, .val (.long t), .second, .val (.double d), .second] [(.double d), (.ref a)]) (fun t_ k_ => XS.dloadN X278.here hx rfl (hb hby d_prog_59_22_98) rfl k_) ?_
                  have ff281 := (ff258.other W278 (Or.inr (sn_27 hw)))
                  have ff282 := (ff279.wr W278)
                  obtain ⟨T280, h280, X280, e280, W280, st280⟩ := putF X278 hx hZ hown (host := "") (Or.inl (own_w hw 47 rfl)) Via.refl e278 ff281 ff282 (Or.inl (own_w hw 48 rfl)) (own_w hw 14 rfl) (ty := .double) (by decide) rfl rfl (g := (mkF m 99 #[rv a, .val (.long t), .second, .val (.double d), .second] [(.double d), (.ref a)])) rfl rfl (hb hby d_prog_59_22_99)
                  have F280 := ff281.same W280
                  have z280 := W280.size
                  have N280 := Fr.snoc X280 N278 (show n0 ≤ a by omega)
                  have K280 := K278.wr W280 (Or.inl (List.mem_of_getElem? (i := 0) rfl))
                  refine og T280 (mkF m 102 #[rv a, .val (.long t), .second, .val (.double d), .second] []) (fun t_ k_ => st280 _ k_) ?_
                  have ff283 := (((((F_m_nFirstTimestamp_a.other W193 (Or.inr (sn_30 hw))).other W252 (Or.inr (sn_31 hw))).other W254 (Or.inr (sn_32 hw))).other W278 (Or.inr (sn_33 hw))).other W280 (Or.inr (sn_34 hw)))
                  have ff284 := (((((F_m_dFirstValue_a.other W193 (Or.inr (sn_36 hw))).other W252 (Or.inr (sn_37 hw))).other W254 (Or.inr (sn_38 hw))).other W278 (Or.inr (sn_39 hw))).other W280 (Or.inr (sn_40 hw)))
                  have ff285 := (((((F_m_nLastTimestamp_a.other W193 (Or.inr (sn_41 hw))).other W252 (Or.inr (sn_42 hw))).other W254 (Or.inr (sn_43 hw))).other W278 (Or.inr (sn_44 hw))).other W280 (Or.inr (sn_45 hw)))
                  have ff286 := ((((F193.other W252 (Or.inr (sn_46 hw))).other W254 (Or.inr (sn_47 hw))).other W278 (Or.inr (sn_48 hw))).other W280 (Or.inr (sn_49 hw)))
                  have ff287 := (((F252.other W254 (Or.inr (sn_50 hw))).other W278 (Or.inr (sn_51 hw))).other W280 (Or.inr (sn_52 hw)))
                  have ff288 := ((F254.other W278 (Or.inr (sn_53 hw))).other W280 (Or.inr (sn_54 hw)))
                  have ff289 := (F278.other W280 (Or.inr (sn_55 hw)))
                  exact own_out X280 (v := none) (fun _ => rfl) hlk (fun fs hr => X280.returnOut hx hret (hb hby d_prog_59_22_102) hr) (Q := Q_rm_weigh Z a t d fT fV lT lV bT bV tT tV rw rb rt h0 n0) (by rw [e280]; exact ⟨rfl, N280, K280, ff283, (by rw [if_neg hq2_]; exact ff284), ff285, (by rw [if_pos hq192_]; exact ff286), (by rw [if_pos (Or.inr ⟨hq248_, hq251_⟩)]; exact ff287), (by rw [if_pos (Or.inr ⟨hq248_, hq251_⟩)]; exact ff288), (by rw [if_pos (Or.inr ⟨hq274_, hq277_⟩)]; exact ff289), (by rw [if_pos (Or.inr ⟨hq274_, hq277_⟩)]; exact F280)⟩) (by decide) (by decide)
                · skip
                  refine og T275 (mkF m 102 #[rv a, .val (.long t), .second, .val (.double d), .second] []) (fun t_ k_ => XS.ifYes X275.here hx rfl (pc0 := 89) (pc' := 102) rfl (hb hby d_prog_59_22_89) rfl ((if0 _ _).trans (flt (fun z => hq277_ ((lw_lt _ _).mp z))).2.1) (by decide) (by decide) k_) ?_
                  have ff290 := (((F_m_nFirstTimestamp_a.other W193 (Or.inr (sn_30 hw))).other W252 (Or.inr (sn_31 hw))).other W254 (Or.inr (sn_32 hw)))
                  have ff291 := (((F_m_dFirstValue_a.other W193 (Or.inr (sn_36 hw))).other W252 (Or.inr (sn_37 hw))).other W254 (Or.inr (sn_38 hw)))
                  have ff292 := (((F_m_nLastTimestamp_a.other W193 (Or.inr (sn_41 hw))).other W252 (Or.inr (sn_42 hw))).other W254 (Or.inr (sn_43 hw)))
                  have ff293 := ((F193.other W252 (Or.inr (sn_46 hw))).other W254 (Or.inr (sn_47 hw)))
                  have ff294 := (F252.other W254 (Or.inr (sn_50 hw)))
                  exact own_out X275 (v := none) (fun _ => rfl) hlk (fun fs hr => X275.returnOut hx hret (hb hby d_prog_59_22_102) hr) (Q := Q_rm_weigh Z a t d fT fV lT lV bT bV tT tV rw rb rt h0 n0) (by rw [e275]; exact ⟨rfl, N254, K254, ff290, (by rw [if_neg hq2_]; exact ff291), ff292, (by rw [if_pos hq192_]; exact ff293), (by rw [if_pos (Or.inr ⟨hq248_, hq251_⟩)]; exact ff294), (by rw [if_pos (Or.inr ⟨hq248_, hq251_⟩)]; exact F254), (by rw [if_neg (fun q => q.elim hq259_ (fun q => hq277_ q.2))]; exact ff276), (by rw [if_neg (fun q => q.elim hq259_ (fun q => hq277_ q.2))]; exact ff258)⟩) (by decide) (by decide)
              · skip
                refine og T273 (mkF m 102 #[rv a, .val (.long t), .second, .val (.double d), .second] []) (fun t_ k_ => XS.ifYes X273.here hx rfl (pc0 := 80) (pc' := 102) rfl (hb hby d_prog_59_22_80) rfl ((if0 _ _).trans (feq (fun z => hq274_ ((own_ceq _ _).mp z))).2) (by decide) (by decide) k_) ?_
                have ff295 := (((F_m_nFirstTimestamp_a.other W193 (Or.inr (sn_30 hw))).other W252 (Or.inr (sn_31 hw))).other W254 (Or.inr (sn_32 hw)))
                have ff296 := (((F_m_dFirstValue_a.other W193 (Or.inr (sn_36 hw))).other W252 (Or.inr (sn_37 hw))).other W254 (Or.inr (sn_38 hw)))
                have ff297 := (((F_m_nLastTimestamp_a.other W193 (Or.inr (sn_41 hw))).other W252 (Or.inr (sn_42 hw))).other W254 (Or.inr (sn_43 hw)))
                have ff298 := ((F193.other W252 (Or.inr (sn_46 hw))).other W254 (Or.inr (sn_47 hw)))
                have ff299 := (F252.other W254 (Or.inr (sn_50 hw)))
                have ff300 := (((F_m_nTopTimestamp_a.other W193 (Or.inr (sn_18 hw))).other W252 (Or.inr (sn_19 hw))).other W254 (Or.inr (sn_20 hw)))
                exact own_out X273 (v := none) (fun _ => rfl) hlk (fun fs hr => X273.returnOut hx hret (hb hby d_prog_59_22_102) hr) (Q := Q_rm_weigh Z a t d fT fV lT lV bT bV tT tV rw rb rt h0 n0) (by rw [e273]; exact ⟨rfl, N254, K254, ff295, (by rw [if_neg hq2_]; exact ff296), ff297, (by rw [if_pos hq192_]; exact ff298), (by rw [if_pos (Or.inr ⟨hq248_, hq251_⟩)]; exact ff299), (by rw [if_pos (Or.inr ⟨hq248_, hq251_⟩)]; exact F254), (by rw [if_neg (fun q => q.elim hq259_ (fun q => hq274_ q.1))]; exact ff300), (by rw [if_neg (fun q => q.elim hq259_ (fun q => hq274_ q.1))]; exact ff258)⟩) (by decide) (by decide)
          · skip
            refine og T249 (mkF m 65 #[rv a, .val (.long t), .second, .val (.double d), .second] []) (fun t_ k_ => XS.ifYes X249.here hx rfl (pc0 := 52) (pc' := 65) rfl (hb hby d_prog_59_22_52) rfl ((if0 _ _).trans (flt (fun z => hq251_ ((lw_lt _ _).mp z))).2.1) (by decide) (by decide) k_) ?_
            refine og T249 (mkF m 66 #[rv a, .val (.long t), .second, .val (.double d), .second] [(.double d)]) (fun t_ k_ => XS.dloadN X249.here hx rfl (hb hby d_prog_59_22_65) rfl k_) ?_
            refine og T249 (mkF m 67 #[rv a, .val (.long t), .second, .val (.double d), .second] [(.ref a), (.double d)]) (fun t_ k_ => XS.aloadN X249.here hx rfl (hb hby d_prog_59_22_66) rfl rfl k_) ?_
            have ff302 := (F_m_dTopValue_a.other W193 (Or.inr (sn_24 hw)))
            obtain ⟨T301, X301, e301, st301⟩ := getF X249 hx hZ hown (host := "") (Or.inl (own_w hw 47 rfl)) Via.refl e249 ff302 (g := (mkF m 67 #[rv a, .val (.long t), .second, .val (.double d), .second] [(.ref a), (.double d)])) rfl rfl (hb hby d_prog_59_22_67)
            refine og T301 (mkF m 70 #[rv a, .val (.long t), .second, .val (.double d), .second] [(.double tV), (.double d)]) (fun t_ k_ => st301 _ k_) ?_
            refine og T301 (mkF m 71 #[rv a, .val (.long t), .second, .val (.double d), .second] [(.int (own_cmp rw rt))]) (fun t_ k_ => XS.dcmpS X301.here hx rfl (hb hby d_prog_59_22_70) rfl (own_dc _ D_d D_tV) k_) ?_
            by_cases hq303_ : rt < rw
            · skip
              refine og T301 (mkF m 92 #[rv a, .val (.long t), .second, .val (.double d), .second] []) (fun t_ k_ => XS.ifYes X301.here hx rfl (pc0 := 71) (pc' := 92) rfl (hb hby d_prog_59_22_71) rfl ((if0 _ _).trans (tlt ((own_cgt _ _).mpr hq303_)).2.2.1) (by decide) (by decide) k_) ?_
              refine og T301 (mkF m 93 #[rv a, .val (.long t), .second, .val (.double d), .second] [(.ref a)]) (fun t_ k_ => XS.aloadN X301.here hx rfl (hb hby d_prog_59_22_92) rfl rfl k_) ?_
              refine og T301 (mkF m 94 #[rv a, .val (.long t), .second, .val (.double d), .second] [(.long t), (.ref a)]) (fun t_ k_ => XS.lloadN X301.here hx rfl (hb hby d_prog_59_22_93) rfl k_) ?_
              have ff305 := (F_m_nTopTimestamp_a.other W193 (Or.inr (sn_18 hw)))
              have ff306 := (E_a.wr W193)
              obtain ⟨T304, h304, X304, e304, W304, st304⟩ := putF X301 hx hZ hown (host := "") (Or.inl (own_w hw 45 rfl)) Via.refl e301 ff305 ff306 (Or.inl (own_w hw 46 rfl)) (own_w hw 14 rfl) (ty := .long) (by decide) rfl rfl (g := (mkF m 94 #[rv a, .val (.long t), .second, .val (.double d), .second] [(.long t), (.ref a)])) rfl rfl (hb hby d_prog_59_22_94)
              have F304 := ff305.same W304
              have z304 := W304.size
              have N304 := Fr.snoc X304 N193 (show n0 ≤ a by omega)
              have K304 := K193.wr W304 (Or.inl (List.mem_of_getElem? (i := 0) rfl))
              refine og T304 (mkF m 97 #[rv a, .val (.long t), .second, .val (.double d), .second] []) (fun t_ k_ => st304 _ k_) ?_
              refine og T304 (mkF m 98 #[rv a, .val (.long t), .second, .val (.double d), .second] [(.ref a)]) (fun t_ k_ => XS.aloadN X304.here hx rfl (hb hby d_prog_59_22_97) rfl rfl k_) ?_
              refine og T304 (mkF m 99 #[rv a, .val (.long t), .second, .val (.double d), .second] [(.double d), (.ref a)]) (fun t_ k_ => XS.dloadN X304.here hx rfl (hb hby d_prog_59_22_98) rfl k_) ?_
              have ff308 := (ff302.other W304 (Or.inr (sn_27 hw)))
              have ff309 := (ff306.wr W304)
              obtain ⟨T307, h307, X307, e307, W307, st307⟩ := putF X304 hx hZ hown (host := "") (Or.inl (own_w hw 47 rfl)) Via.refl e304 ff308 ff309 (Or.inl (own_w hw 48 rfl)) (own_w hw 14 rfl) (ty := .double) (by decide) rfl rfl (g := (mkF m 99 #[rv a, .val (.long t), .second, .val (.double d), .second] [(.double d), (.ref a)])) rfl rfl (hb hby d_prog_59_22_99)
              have F307 := ff308.same W307
              have z307 := W307.size
              have N307 := Fr.snoc X307 N304 (show n0 ≤ a by omega)
              have K307 := K304.wr W307 (Or.inl (List.mem_of_getElem? (i := 0) rfl))
              refine og T307 (mkF m 102 #[rv a, .val (.long t), .second, .val (.double d), .second] []) (fun t_ k_ => st307 _ k_) ?_
              have ff310 := (((F_m_nFirstTimestamp_a.other W193 (Or.inr (sn_30 hw))).other W304 (Or.inr (sn_33 hw))).other W307 (Or.inr (sn_34 hw)))
              have ff311 := (((F_m_dFirstValue_a.other W193 (Or.inr (sn_36 hw))).other W304 (Or.inr (sn_39 hw))).other W307 (Or.inr (sn_40 hw)))
              have ff312 := (((F_m_nLastTimestamp_a.other W193 (Or.inr (sn_41 hw))).other W304 (Or.inr (sn_44 hw))).other W307 (Or.inr (sn_45 hw)))
              have ff313 := ((F193.other W304 (Or.inr (sn_48 hw))).other W307 (Or.inr (sn_49 hw)))
              have ff314 := ((ff250.other W304 (Or.inr (sn_51 hw))).other W307 (Or.inr (sn_52 hw)))
              have ff315 := ((ff195.other W304 (Or.inr (sn_53 hw))).other W307 (Or.inr (sn_54 hw)))
              have ff316 := (F304.other W307 (Or.inr (sn_55 hw)))
              exact own_out X307 (v := none) (fun _ => rfl) hlk (fun fs hr => X307.returnOut hx hret (hb hby d_prog_59_22_102) hr) (Q := Q_rm_weigh Z a t d fT fV lT lV bT bV tT tV rw rb rt h0 n0) (by rw [e307]; exact ⟨rfl, N307, K307, ff310, (by rw [if_neg hq2_]; exact ff311), ff312, (by rw [if_pos hq192_]; exact ff313), (by rw [if_neg (fun q => q.elim hq196_ (fun q => hq251_ q.2))]; exact ff314), (by rw [if_neg (fun q => q.elim hq196_ (fun q => hq251_ q.2))]; exact ff315), (by rw [if_pos (Or.inl hq303_)]; exact ff316), (by rw [if_pos (Or.inl hq303_)]; exact F307)⟩) (by decide) (by decide)
            · skip
              refine og T301 (mkF m 74 #[rv a, .val (.long t), .second, .val (.double d), .second] []) (fun t_ k_ => XS.ifNo X301.here hx rfl (hb hby d_prog_59_22_71) rfl ((if0 _ _).trans (flt (fun z => hq303_ ((own_cgt _ _).mp z))).2.2.1) k_) ?_
              refine og T301 (mkF m 75 #[rv a, .val (.long t), .second, .val (.double d), .second] [(.double d)]) (fun t_ k_ => XS.dloadN X301.here hx rfl (hb hby d_prog_59_22_74) rfl k_) ?_
              refine og T301 (mkF m 76 #[rv a, .val (.long t), .second, .val (.double d), .second] [(.ref a), (.double d)]) (fun t_ k_ => XS.aloadN X301.here hx rfl (hb hby d_prog_59_22_75) rfl rfl k_) ?_
              obtain ⟨T317, X317, e317, st317⟩ := getF X301 hx hZ hown (host := "") (Or.inl (own_w hw 47 rfl)) Via.refl e301 ff302 (g := (mkF m 76 #[rv a, .val (.long t), .second, .val (.double d), .second] [(.ref a), (.double d)])) rfl rfl (hb hby d_prog_59_22_76)
              refine og T317 (mkF m 79 #[rv a, .val (.long t), .second, .val (.double d), .second] [(.double tV), (.double d)]) (fun t_ k_ => st317 _ k_) ?_
              refine og T317 (mkF m 80 #[rv a, .val (.long t), .second, .val (.double d), .second] [(.int (own_cmp rw rt))]) (fun t_ k_ => XS.dcmpS X317.here hx rfl (hb hby d_prog_59_22_79) rfl (own_dc _ D_d D_tV) k_) ?_
              by_cases hq318_ : rw = rt
              · skip
                refine og T317 (mkF m 83 #[rv a, .val (.long t), .second, .val (.double d), .second] []) (fun t_ k_ => XS.ifNo X317.here hx rfl (hb hby d_prog_59_22_80) rfl ((if0 _ _).trans (teq ((own_ceq _ _).mpr hq318_)).2) k_) ?_
                refine og T317 (mkF m 84 #[rv a, .val (.long t), .second, .val (.double d), .second] [(.long t)]) (fun t_ k_ => XS.lloadN X317.here hx rfl (hb hby d_prog_59_22_83) rfl k_) ?_
                refine og T317 (mkF m 85 #[rv a, .val (.long t), .second, .val (.double d), .second] [(.ref a), (.long t)]) (fun t_ k_ => XS.aloadN X317.here hx rfl (hb hby d_prog_59_22_84) rfl rfl k_) ?_
                have ff320 := (F_m_nTopTimestamp_a.other W193 (Or.inr (sn_18 hw)))
                obtain ⟨T319, X319, e319, st319⟩ := getF X317 hx hZ hown (host := "") (Or.inl (own_w hw 45 rfl)) Via.refl e317 ff320 (g := (mkF m 85 #[rv a, .val (.long t), .second, .val (.double d), .second] [(.ref a), (.long t)])) rfl rfl (hb hby d_prog_59_22_85)
                refine og T319 (mkF m 88 #[rv a, .val (.long t), .second, .val (.double d), .second] [(.long tT), (.long t)]) (fun t_ k_ => st319 _ k_) ?_
                refine og T319 (mkF m 89 #[rv a, .val (.long t), .second, .val (.double d), .second] [(.int (lcmpW t tT))]) (fun t_ k_ => XS.lcmp X319.here hx rfl (hb hby d_prog_59_22_88) rfl k_) ?_
                by_cases hq321_ : t < tT
                · skip
                  refine og T319 (mkF m 92 #[rv a, .val (.long t), .second, .val (.double d), .second] []) (fun t_ k_ => XS.ifNo X319.here hx rfl (hb hby d_prog_59_22_89) rfl ((if0 _ _).trans (tlt ((lw_lt _ _).mpr hq321_)).2.1) k_) ?_
                  refine og T319 (mkF m 93 #[rv a, .val (.long t), .second, .val (.double d), .second] [(.ref a)]) (fun t_ k_ => XS.aloadN X319.here hx rfl (hb hby d_prog_59_22_92) rfl rfl k_) ?_
                  refine og T319 (mkF m 94 #[rv a, .val (.long t), .second, .val (.double d), .second] [(.long t), (.ref a)]) (fun t_ k_ => XS.lloadN X319.here hx rfl (hb hby d_prog_59_22_93) rfl k_) ?_
                  have ff323 := (E_a.wr W193)
                  obtain ⟨T322, h322, X322, e322, W322, st322⟩ := putF X319 hx hZ hown (host := "") (Or.inl (own_w hw 45 rfl)) Via.refl e319 ff320 ff323 (Or.inl (own_w hw 46 rfl)) (own_w hw 14 rfl) (ty := .long) (by decide) rfl rfl (g := (mkF m 94 #[rv a, .val (.long t), .second, .val (.double d), .second] [(.long t), (.ref a)])) rfl rfl (hb hby d_prog_59_22_94)
                  have F322 := ff320.same W322
                  have z322 := W322.size
                  have N322 := Fr.snoc X322 N193 (show n0 ≤ a by omega)
                  have K322 := K193.wr W322 (Or.inl (List.mem_of_getElem? (i := 0) rfl))
                  refine og T322 (mkF m 97 #[rv a, .val (.long t), .second, .val (.double d), .second] []) (fun t_ k_ => st322 _ k_) ?_
                  refine og T322 (mkF m 98 #[rv a, .val (.long t), .second, .val (.double d), .second] [(.ref a)]) (fun t_ k_ => XS.aloadN X322.here hx rfl (hb hby d_prog_59_22_97) rfl rfl k_) ?_
                  refine og T322 (mkF m 99 #[rv a, .val (.long t), .second, .val (.double d), .second] [(.double d), (.ref a)]) (fun t_ k_ => XS.dloadN X322.here hx rfl (hb hby d_prog_59_22_98) rfl k_) ?_
                  have ff325 := (ff302.other W322 (Or.inr (sn_27 hw)))
                  have ff326 := (ff323.wr W322)
                  obtain ⟨T324, h324, X324, e324, W324, st324⟩ := putF X322 hx hZ hown (host := "") (Or.inl (own_w hw 47 rfl)) Via.refl e322 ff325 ff326 (Or.inl (own_w hw 48 rfl)) (own_w hw 14 rfl) (ty := .double) (by decide) rfl rfl (g := (mkF m 99 #[rv a, .val (.long t), .second, .val (.double d), .second] [(.double d), (.ref a)])) rfl rfl (hb hby d_prog_59_22_99)
                  have F324 := ff325.same W324
                  have z324 := W324.size
                  have N324 := Fr.snoc X324 N322 (show n0 ≤ a by omega)
                  have K324 := K322.wr W324 (Or.inl (List.mem_of_getElem? (i := 0) rfl))
                  refine og T324 (mkF m 102 #[rv a, .val (.long t), .second, .val (.double d), .second] []) (fun t_ k_ => st324 _ k_) ?_
                  have ff327 := (((F_m_nFirstTimestamp_a.other W193 (Or.inr (sn_30 hw))).other W322 (Or.inr (sn_33 hw))).other W324 (Or.inr (sn_34 hw)))
                  have ff328 := (((F_m_dFirstValue_a.other W193 (Or.inr (sn_36 hw))).other W322 (Or.inr (sn_39 hw))).other W324 (Or.inr (sn_40 hw)))
                  have ff329 := (((F_m_nLastTimestamp_a.other W193 (Or.inr (sn_41 hw))).other W322 (Or.inr (sn_44 hw))).other W324 (Or.inr (sn_45 hw)))
                  have ff330 := ((F193.other W322 (Or.inr (sn_48 hw))).other W324 (Or.inr (sn_49 hw)))
                  have ff331 := ((ff250.other W322 (Or.inr (sn_51 hw))).other W324 (Or.inr (sn_52 hw)))
                  have ff332 := ((ff195.other W322 (Or.inr (sn_53 hw))).other W324 (Or.inr (sn_54 hw)))
                  have ff333 := (F322.other W324 (Or.inr (sn_55 hw)))
                  exact own_out X324 (v := none) (fun _ => rfl) hlk (fun fs hr => X324.returnOut hx hret (hb hby d_prog_59_22_102) hr) (Q := Q_rm_weigh Z a t d fT fV lT lV bT bV tT tV rw rb rt h0 n0) (by rw [e324]; exact ⟨rfl, N324, K324, ff327, (by rw [if_neg hq2_]; exact ff328), ff329, (by rw [if_pos hq192_]; exact ff330), (by rw [if_neg (fun q => q.elim hq196_ (fun q => hq251_ q.2))]; exact ff331), (by rw [if_neg (fun q => q.elim hq196_ (fun q => hq251_ q.2))]; exact ff332), (by rw [if_pos (Or.inr ⟨hq318_, hq321_⟩)]; exact ff333), (by rw [if_pos (Or.inr ⟨hq318_, hq321_⟩)]; exact F324)⟩) (by decide) (by decide)
                · skip
                  refine og T319 (mkF m 102 #[rv a, .val (.long t), .second, .val (.double d), .second] []) (fun t_ k_ => XS.ifYes X319.here hx rfl (pc0 := 89) (pc' := 102) rfl (hb hby d_prog_59_22_89) rfl ((if0 _ _).trans (flt (fun z => hq321_ ((lw_lt _ _).mp z))).2.1) (by decide) (by decide) k_) ?_
                  have ff334 := (F_m_nFirstTimestamp_a.other W193 (Or.inr (sn_30 hw)))
                  have ff335 := (F_m_dFirstValue_a.other W193 (Or.inr (sn_36 hw)))
                  have ff336 := (F_m_nLastTimestamp_a.other W193 (Or.inr (sn_41 hw)))
                  exact own_out X319 (v := none) (fun _ => rfl) hlk (fun fs hr => X319.returnOut hx hret (hb hby d_prog_59_22_102) hr) (Q := Q_rm_weigh Z a t d fT fV lT lV bT bV tT tV rw rb rt h0 n0) (by rw [e319]; exact ⟨rfl, N193, K193, ff334, (by rw [if_neg hq2_]; exact ff335), ff336, (by rw [if_pos hq192_]; exact F193), (by rw [if_neg (fun q => q.elim hq196_ (fun q => hq251_ q.2))]; exact ff250), (by rw [if_neg (fun q => q.elim hq196_ (fun q => hq251_ q.2))]; exact ff195), (by rw [if_neg (fun q => q.elim hq303_ (fun q => hq321_ q.2))]; exact ff320), (by rw [if_neg (fun q => q.elim hq303_ (fun q => hq321_ q.2))]; exact ff302)⟩) (by decide) (by decide)
              · skip
                refine og T317 (mkF m 102 #[rv a, .val (.long t), .second, .val (.double d), .second] []) (fun t_ k_ => XS.ifYes X317.here hx rfl (pc0 := 80) (pc' := 102) rfl (hb hby d_prog_59_22_80) rfl ((if0 _ _).trans (feq (fun z => hq318_ ((own_ceq _ _).mp z))).2) (by decide) (by decide) k_) ?_
                have ff337 := (F_m_nFirstTimestamp_a.other W193 (Or.inr (sn_30 hw)))
                have ff338 := (F_m_dFirstValue_a.other W193 (Or.inr (sn_36 hw)))
                have ff339 := (F_m_nLastTimestamp_a.other W193 (Or.inr (sn_41 hw)))
                have ff340 := (F_m_nTopTimestamp_a.other W193 (Or.inr (sn_18 hw)))
                exact own_out X317 (v := none) (fun _ => rfl) hlk (fun fs hr => X317.returnOut hx hret (hb hby d_prog_59_22_102) hr) (Q := Q_rm_weigh Z a t d fT fV lT lV bT bV tT tV rw rb rt h0 n0) (by rw [e317]; exact ⟨rfl, N193, K193, ff337, (by rw [if_neg hq2_]; exact ff338), ff339, (by rw [if_pos hq192_]; exact F193), (by rw [if_neg (fun q => q.elim hq196_ (fun q => hq251_ q.2))]; exact ff250), (by rw [if_neg (fun q => q.elim hq196_ (fun q => hq251_ q.2))]; exact ff195), (by rw [if_neg (fun q => q.elim hq303_ (fun q => hq318_ q.1))]; exact ff340), (by rw [if_neg (fun q => q.elim hq303_ (fun q => hq318_ q.1))]; exact ff302)⟩) (by decide) (by decide)
        · skip
          refine og T247 (mkF m 65 #[rv a, .val (.long t), .second, .val (.double d), .second] []) (fun t_ k_ => XS.ifYes X247.here hx rfl (pc0 := 43) (pc' := 65) rfl (hb hby d_prog_59_22_43) rfl ((if0 _ _).trans (feq (fun z => hq248_ ((own_ceq _ _).mp z))).2) (by decide) (by decide) k_) ?_
          refine og T247 (mkF m 66 #[rv a, .val (.long t), .second, .val (.double d), .second] [(.double d)]) (fun t_ k_ => XS.dloadN X247.here hx rfl (hb hby d_prog_59_22_65) rfl k_) ?_
          refine og T247 (mkF m 67 #[rv a, .val (.long t), .second, .val (.double d), .second] [(.ref a), (.double d)]) (fun t_ k_ => XS.aloadN X247.here hx rfl (hb hby d_prog_59_22_66) rfl rfl k_) ?_
          have ff342 := (F_m_dTopValue_a.other W193 (Or.inr (sn_24 hw)))
          obtain ⟨T341, X341, e341, st341⟩ := getF X247 hx hZ hown (host := "") (Or.inl (own_w hw 47 rfl)) Via.refl e247 ff342 (g := (mkF m 67 #[rv a, .val (.long t), .second, .val (.double d), .second] [(.ref a), (.double d)])) rfl rfl (hb hby d_prog_59_22_67)
          refine og T341 (mkF m 70 #[rv a, .val (.long t), .second, .val (.double d), .second] [(.double tV), (.double d)]) (fun t_ k_ => st341 _ k_) ?_
          refine og T341 (mkF m 71 #[rv a, .val (.long t), .second, .val (.double d), .second] [(.int (own_cmp rw rt))]) (fun t_ k_ => XS.dcmpS X341.here hx rfl (hb hby d_prog_59_22_70) rfl (own_dc _ D_d D_tV) k_) ?_
          by_cases hq343_ : rt < rw
          · skip
            refine og T341 (mkF m 92 #[rv a, .val (.long t), .second, .val (.double d), .second] []) (fun t_ k_ => XS.ifYes X341.here hx rfl (pc0 := 71) (pc' := 92) rfl (hb hby d_prog_59_22_71) rfl ((if0 _ _).trans (tlt ((own_cgt _ _).mpr hq343_)).2.2.1) (by decide) (by decide) k_) ?_
            refine og T341 (mkF m 93 #[rv a, .val (.long t), .second, .val (.double d), .second] [(.ref a)]) (fun t_ k_ => XS.aloadN X341.here hx rfl (hb hby d_prog_59_22_92) rfl rfl k_) ?_
            refine og T341 (mkF m 94 #[rv a, .val (.long t), .second, .val (.double d), .second] [(.long t), (.ref a)]) (fun t_ k_ => XS.lloadN X341.here hx rfl (hb hby d_prog_59_22_93) rfl k_) ?_
            have ff345 := (F_m_nTopTimestamp_a.other W193 (Or.inr (sn_18 hw)))
            have ff346 := (E_a.wr W193)
            obtain ⟨T344, h344, X344, e344, W344, st344⟩ := putF X341 hx hZ hown (host := "") (Or.inl (own_w hw 45 rfl)) Via.refl e341 ff345 ff346 (Or.inl (own_w hw 46 rfl)) (own_w hw 14 rfl) (ty := .long) (by decide) rfl rfl (g := (mkF m 94 #[rv a, .val (.long t), .second, .val (.double d), .second] [(.long t), (.ref a)])) rfl rfl (hb hby d_prog_59_22_94)
            have F344 := ff345.same W344
            have z344 := W344.size
            have N344 := Fr.snoc X344 N193 (show n0 ≤ a by omega)
            have K344 := K193.wr W344 (Or.inl (List.mem_of_getElem? (i := 0) rfl))
            refine og T344 (mkF m 97 #[rv a, .val (.long t), .second, .val (.double d), .second] []) (fun t_ k_ => st344 _ k_) ?_
            refine og T344 (mkF m 98 #[rv a, .val (.long t), .second, .val (.double d), .second] [(.ref a)]) (fun t_ k_ => XS.aloadN X344.here hx rfl (hb hby d_prog_59_22_97) rfl rfl k_) ?_
            refine og T344 (mkF m 99 #[rv a, .val (.long t), .second, .val (.double d), .second] [(.double d), (.ref a)]) (fun t_ k_ => XS.dloadN X344.here hx rfl (hb hby d_prog_59_22_98) rfl k_) ?_
            have ff348 := (ff342.other W344 (Or.inr (sn_27 hw)))
            have ff349 := (ff346.wr W344)
            obtain ⟨T347, h347, X347, e347, W347, st347⟩ := putF X344 hx hZ hown (host := "") (Or.inl (own_w hw 47 rfl)) Via.refl e344 ff348 ff349 (Or.inl (own_w hw 48 rfl)) (own_w hw 14 rfl) (ty := .double) (by decide) rfl rfl (g := (mkF m 99 #[rv a, .val (.long t), .second, .val (.double d), .second] [(.double d), (.ref a)])) rfl rfl (hb hby d_prog_59_22_99)
            have F347 := ff348.same W347
            have z347 := W347.size
            have N347 := Fr.snoc X347 N344 (show n0 ≤ a by omega)
            have K347 := K344.wr W347 (Or.inl (List.mem_of_getElem? (i := 0) rfl))
            refine og T347 (mkF m 102 #[rv a, .val (.long t), .second, .val (.double d), .second] []) (fun t_ k_ => st347 _ k_) ?_
            have ff350 := (((F_m_nFirstTimestamp_a.other W193 (Or.inr (sn_30 hw))).other W344 (Or.inr (sn_33 hw))).other W347 (Or.inr (sn_34 hw)))
            have ff351 := (((F_m_dFirstValue_a.other W193 (Or.inr (sn_36 hw))).other W344 (Or.inr (sn_39 hw))).other W347 (Or.inr (sn_40 hw)))
            have ff352 := (((F_m_nLastTimestamp_a.other W193 (Or.inr (sn_41 hw))).other W344 (Or.inr (sn_44 hw))).other W347 (Or.inr (sn_45 hw)))
            have ff353 := ((F193.other W344 (Or.inr (sn_48 hw))).other W347 (Or.inr (sn_49 hw)))
            have ff354 := (((F_m_nBottomTimestamp_a.other W193 (Or.inr (sn_9 hw))).other W344 (Or.inr (sn_51 hw))).other W347 (Or.inr (sn_52 hw)))
            have ff355 := ((ff195.other W344 (Or.inr (sn_53 hw))).other W347 (Or.inr (sn_54 hw)))
            have ff356 := (F344.other W347 (Or.inr (sn_55 hw)))
            exact own_out X347 (v := none) (fun _ => rfl) hlk (fun fs hr => X347.returnOut hx hret (hb hby d_prog_59_22_102) hr) (Q := Q_rm_weigh Z a t d fT fV lT lV bT bV tT tV rw rb rt h0 n0) (by rw [e347]; exact ⟨rfl, N347, K347, ff350, (by rw [if_neg hq2_]; exact ff351), ff352, (by rw [if_pos hq192_]; exact ff353), (by rw [if_neg (fun q => q.elim hq196_ (fun q => hq248_ q.1))]; exact ff354), (by rw [if_neg (fun q => q.elim hq196_ (fun q => hq248_ q.1))]; exact ff355), (by rw [if_pos (Or.inl hq343_)]; exact ff356), (by rw [if_pos (Or.inl hq343_)]; exact F347)⟩) (by decide) (by decide)
          · skip
            refine og T341 (mkF m 74 #[rv a, .val (.long t), .second, .val (.double d), .second] []) (fun t_ k_ => XS.ifNo X341.here hx rfl (hb hby d_prog_59_22_71) rfl ((if0 _ _).trans (flt (fun z => hq343_ ((own_cgt _ _).mp z))).2.2.1) k_) ?_
            refine og T341 (mkF m 75 #[rv a, .val (.long t), .second, .val (.double d), .second] [(.double d)]) (fun t_ k_ => XS.dloadN X341.here hx rfl (hb hby d_prog_59_22_74) rfl k_) ?_
            refine og T341 (mkF m 76 #[rv a, .val (.long t), .second, .val (.double d), .second] [(.ref a), (.double d)]) (fun t_ k_ => XS.aloadN X341.here hx rfl (hb hby d_prog_59_22_75) rfl rfl k_) ?_
            obtain ⟨T357, X357, e357, st357⟩ := getF X341 hx hZ hown (host := "") (Or.inl (own_w hw 47 rfl)) Via.refl e341 ff342 (g := (mkF m 76 #[rv a, .val (.long t), .second, .val (.double d), .second] [(.ref a), (.double d)])) rfl rfl (hb hby d_prog_59_22_76)
            refine og T357 (mkF m 79 #[rv a, .val (.long t), .second, .val (.double d), .second] [(.double tV), (.double d)]) (fun t_ k_ => st357 _ k_) ?_
            refine og T357 (mkF m 80 #[rv a, .val (.long t), .second, .val (.double d), .second] [(.int (own_cmp rw rt))]) (fun t_ k_ => XS.dcmpS X357.here hx rfl (hb hby d_prog_59_22_79) rfl (own_dc _ D_d D_tV) k_) ?_
            by_cases hq358_ : rw = rt
            · skip
              refine og T357 (mkF m 83 #[rv a, .val (.long t), .second, .val (.double d), .second] []) (fun t_ k_ => XS.ifNo X357.here hx rfl (hb hby d_prog_59_22_80) rfl ((if0 _ _).trans (teq ((own_ceq _ _).mpr hq358_)).2) k_) ?_
              refine og T357 (mkF m 84 #[rv a, .val (.long t), .second, .val (.double d), .second] [(.long t)]) (fun t_ k_ => XS.lloadN X357.here hx rfl (hb hby d_prog_59_22_83) rfl k_) ?_
              refine og T357 (mkF m 85 #[rv a, .val (.long t), .second, .val (.double d), .second] [(.ref a), (.long t)]) (fun t_ k_ => XS.aloadN X357.here hx rfl (hb hby d_prog_59_22_84) rfl rfl k_) ?_
              have ff360 := (F_m_nTopTimestamp_a.other W193 (Or.inr (sn_18 hw)))
              obtain ⟨T359, X359, e359, st359⟩ := getF X357 hx hZ hown (host := "") (Or.inl (own_w hw 45 rfl)) Via.refl e357 ff360 (g := (mkF m 85 #[rv a, .val (.long t), .second, .val (.double d), .second] [(.ref a), (.long t)])) rfl rfl (hb hby d_prog_59_22_85)
              refine og T359 (mkF m 88 #[rv a, .val (.long t), .second, .val (.double d), .second] [(.long tT), (.long t)]) (fun t_ k_ => st359 _ k_) ?_
              refine og T359 (mkF m 89 #[rv a, .val (.long t), .second, .val (.double d), .second] [(.int (lcmpW t tT))]) (fun t_ k_ => XS.lcmp X359.here hx rfl (hb hby d_prog_59_22_88) rfl k_) ?_
              by_cases hq361_ : t < tT
              · skip
                refine og T359 (mkF m 92 #[rv a, .val (.long t), .second, .val (.double d), .second] []) (fun t_ k_ => XS.ifNo X359.here hx rfl (hb hby d_prog_59_22_89) rfl ((if0 _ _).trans (tlt ((lw_lt _ _).mpr hq361_)).2.1) k_) ?_
                refine og T359 (mkF m 93 #[rv a, .val (.long t), .second, .val (.double d), .second] [(.ref a)]) (fun t_ k_ => XS.aloadN X359.here hx rfl (hb hby d_prog_59_22_92) rfl rfl k_) ?_
                refine og T359 (mkF m 94 #[rv a, .val (.long t), .second, .val (.double d), .second] [(.long t), (.ref a)]) (fun t_ k_ => XS.lloadN X359.here hx rfl (hb hby d_prog_59_22_93) rfl k_) ?_
                have ff363 := (E_a.wr W193)
                obtain ⟨T362, h362, X362, e362, W362, st362⟩ := putF X359 hx hZ hown (host := "") (Or.inl (own_w hw 45 rfl)) Via.refl e359 ff360 ff363 (Or.inl (own_w hw 46 rfl)) (own_w hw 14 rfl) (ty := .long) (by decide) rfl rfl (g := (mkF m 94 #[rv a, .val (.long t), .second, .val (.double d), .second] [(.long t), (.ref a)])) rfl rfl (hb hby d_prog_59_22_94)
                have F362 := ff360.same W362
                have z362 := W362.size
                have N362 := Fr.snoc X362 N193 (show n0 ≤ a by omega)
                have K362 := K193.wr W362 (Or.inl (List.mem_of_getElem? (i := 0) rfl))
                refine og T362 (mkF m 97 #[rv a, .val (.long t), .second, .val (.double d), .second] []) (fun t_ k_ => st362 _ k_) ?_
                refine og T362 (mkF m 98 #[rv a, .val (.long t), .second, .val (.double d), .second] [(.ref a)]) (fun t_ k_ => XS.aloadN X362.here hx rfl (hb hby d_prog_59_22_97) rfl rfl k_) ?_
                refine og T362 (mkF m 99 #[rv a, .val (.long t), .second, .val (.double d), .second] [(.double d), (.ref a)]) (fun t_ k_ => XS.dloadN X362.here hx rfl (hb hby d_prog_59_22_98) rfl k_) ?_
                have ff365 := (ff342.other W362 (Or.inr (sn_27 hw)))
                have ff366 := (ff363.wr W362)
                obtain ⟨T364, h364, X364, e364, W364, st364⟩ := putF X362 hx hZ hown (host := "") (Or.inl (own_w hw 47 rfl)) Via.refl e362 ff365 ff366 (Or.inl (own_w hw 48 rfl)) (own_w hw 14 rfl) (ty := .double) (by decide) rfl rfl (g := (mkF m 99 #[rv a, .val (.long t), .second, .val (.double d), .second] [(.double d), (.ref a)])) rfl rfl (hb hby d_prog_59_22_99)
                have F364 := ff365.same W364
                have z364 := W364.size
                have N364 := Fr.snoc X364 N362 (show n0 ≤ a by omega)
                have K364 := K362.wr W364 (Or.inl (List.mem_of_getElem? (i := 0) rfl))
                refine og T364 (mkF m 102 #[rv a, .val (.long t), .second, .val (.double d), .second] []) (fun t_ k_ => st364 _ k_) ?_
                have ff367 := (((F_m_nFirstTimestamp_a.other W193 (Or.inr (sn_30 hw))).other W362 (Or.inr (sn_33 hw))).other W364 (Or.inr (sn_34 hw)))
                have ff368 := (((F_m_dFirstValue_a.other W193 (Or.inr (sn_36 hw))).other W362 (Or.inr (sn_39 hw))).other W364 (Or.inr (sn_40 hw)))
                have ff369 := (((F_m_nLastTimestamp_a.other W193 (Or.inr (sn_41 hw))).other W362 (Or.inr (sn_44 hw))).other W364 (Or.inr (sn_45 hw)))
                have ff370 := ((F193.other W362 (Or.inr (sn_48 hw))).other W364 (Or.inr (sn_49 hw)))
                have ff371 := (((F_m_nBottomTimestamp_a.other W193 (Or.inr (sn_9 hw))).other W362 (Or.inr (sn_51 hw))).other W364 (Or.inr (sn_52 hw)))
                have ff372 := ((ff195.other W362 (Or.inr (sn_53 hw))).other W364 (Or.inr (sn_54 hw)))
                have ff373 := (F362.other W364 (Or.inr (sn_55 hw)))
                exact own_out X364 (v := none) (fun _ => rfl) hlk (fun fs hr => X364.returnOut hx hret (hb hby d_prog_59_22_102) hr) (Q := Q_rm_weigh Z a t d fT fV lT lV bT bV tT tV rw rb rt h0 n0) (by rw [e364]; exact ⟨rfl, N364, K364, ff367, (by rw [if_neg hq2_]; exact ff368), ff369, (by rw [if_pos hq192_]; exact ff370), (by rw [if_neg (fun q => q.elim hq196_ (fun q => hq248_ q.1))]; exact ff371), (by rw [if_neg (fun q => q.elim hq196_ (fun q => hq248_ q.1))]; exact ff372), (by rw [if_pos (Or.inr ⟨hq358_, hq361_⟩)]; exact ff373), (by rw [if_pos (Or.inr ⟨hq358_, hq361_⟩)]; exact F364)⟩) (by decide) (by decide)
              · skip
                refine og T359 (mkF m 102 #[rv a, .val (.long t), .second, .val (.double d), .second] []) (fun t_ k_ => XS.ifYes X359.here hx rfl (pc0 := 89) (pc' := 102) rfl (hb hby d_prog_59_22_89) rfl ((if0 _ _).trans (flt (fun z => hq361_ ((lw_lt _ _).mp z))).2.1) (by decide) (by decide) k_) ?_
                have ff374 := (F_m_nFirstTimestamp_a.other W193 (Or.inr (sn_30 hw)))
                have ff375 := (F_m_dFirstValue_a.other W193 (Or.inr (sn_36 hw)))
                have ff376 := (F_m_nLastTimestamp_a.other W193 (Or.inr (sn_41 hw)))
                have ff377 := (F_m_nBottomTimestamp_a.other W193 (Or.inr (sn_9 hw)))
                exact own_out X359 (v := none) (fun _ => rfl) hlk (fun fs hr => X359.returnOut hx hret (hb hby d_prog_59_22_102) hr) (Q := Q_rm_weigh Z a t d fT fV lT lV bT bV tT tV rw rb rt h0 n0) (by rw [e359]; exact ⟨rfl, N193, K193, ff374, (by rw [if_neg hq2_]; exact ff375), ff376, (by rw [if_pos hq192_]; exact F193), (by rw [if_neg (fun q => q.elim hq196_ (fun q => hq248_ q.1))]; exact ff377), (by rw [if_neg (fun q => q.elim hq196_ (fun q => hq248_ q.1))]; exact ff195), (by rw [if_neg (fun q => q.elim hq343_ (fun q => hq361_ q.2))]; exact ff360), (by rw [if_neg (fun q => q.elim hq343_ (fun q => hq361_ q.2))]; exact ff342)⟩) (by decide) (by decide)
            · skip
              refine og T357 (mkF m 102 #[rv a, .val (.long t), .second, .val (.double d), .second] []) (fun t_ k_ => XS.ifYes X357.here hx rfl (pc0 := 80) (pc' := 102) rfl (hb hby d_prog_59_22_80) rfl ((if0 _ _).trans (feq (fun z => hq358_ ((own_ceq _ _).mp z))).2) (by decide) (by decide) k_) ?_
              have ff378 := (F_m_nFirstTimestamp_a.other W193 (Or.inr (sn_30 hw)))
              have ff379 := (F_m_dFirstValue_a.other W193 (Or.inr (sn_36 hw)))
              have ff380 := (F_m_nLastTimestamp_a.other W193 (Or.inr (sn_41 hw)))
              have ff381 := (F_m_nBottomTimestamp_a.other W193 (Or.inr (sn_9 hw)))
              have ff382 := (F_m_nTopTimestamp_a.other W193 (Or.inr (sn_18 hw)))
              exact own_out X357 (v := none) (fun _ => rfl) hlk (fun fs hr => X357.returnOut hx hret (hb hby d_prog_59_22_102) hr) (Q := Q_rm_weigh Z a t d fT fV lT lV bT bV tT tV rw rb rt h0 n0) (by rw [e357]; exact ⟨rfl, N193, K193, ff378, (by rw [if_neg hq2_]; exact ff379), ff380, (by rw [if_pos hq192_]; exact F193), (by rw [if_neg (fun q => q.elim hq196_ (fun q => hq248_ q.1))]; exact ff381), (by rw [if_neg (fun q => q.elim hq196_ (fun q => hq248_ q.1))]; exact ff195), (by rw [if_neg (fun q => q.elim hq343_ (fun q => hq358_ q.1))]; exact ff382), (by rw [if_neg (fun q => q.elim hq343_ (fun q => hq358_ q.1))]; exact ff342)⟩) (by decide) (by decide)
    · skip
      refine og T191 (mkF m 28 #[rv a, .val (.long t), .second, .val (.double d), .second] []) (fun t_ k_ => XS.ifYes X191.here hx rfl (pc0 := 20) (pc' := 28) rfl (hb hby d_prog_59_22_20) rfl ((if0 _ _).trans (feq (fun z => hq192_ ((lw_eq _ _).mp z))).2) (by decide) (by decide) k_) ?_
      refine og T191 (mkF m 29 #[rv a, .val (.long t), .second, .val (.double d), .second] [(.double d)]) (fun t_ k_ => XS.dloadN X191.here hx rfl (hb hby d_prog_59_22_28) rfl k_) ?_
      refine og T191 (mkF m 30 #[rv a, .val (.long t), .second, .val (.double d), .second] [(.ref a), (.double d)]) (fun t_ k_ => XS.aloadN X191.here hx rfl (hb hby d_prog_59_22_29) rfl rfl k_) ?_
      obtain ⟨T383, X383, e383, st383⟩ := getF X191 hx hZ hown (host := "") (Or.inl (own_w hw 43 rfl)) Via.refl e191 F_m_dBottomValue_a (g := (mkF m 30 #[rv a, .val (.long t), .second, .val (.double d), .second] [(.ref a), (.double d)])) rfl rfl (hb hby d_prog_59_22_30)
      refine og T383 (mkF m 33 #[rv a, .val (.long t), .second, .val (.double d), .second] [(.double bV), (.double d)]) (fun t_ k_ => st383 _ k_) ?_
      refine og T383 (mkF m 34 #[rv a, .val (.long t), .second, .val (.double d), .second] [(.int (own_cmp rw rb))]) (fun t_ k_ => XS.dcmpS X383.here hx rfl (hb hby d_prog_59_22_33) rfl (own_dc _ D_d D_bV) k_) ?_
      by_cases hq384_ : rw < rb
      · skip
        refine og T383 (mkF m 55 #[rv a, .val (.long t), .second, .val (.double d), .second] []) (fun t_ k_ => XS.ifYes X383.here hx rfl (pc0 := 34) (pc' := 55) rfl (hb hby d_prog_59_22_34) rfl ((if0 _ _).trans (tlt ((own_clt _ _).mpr hq384_)).1) (by decide) (by decide) k_) ?_
        refine og T383 (mkF m 56 #[rv a, .val (.long t), .second, .val (.double d), .second] [(.ref a)]) (fun t_ k_ => XS.aloadN X383.here hx rfl (hb hby d_prog_59_22_55) rfl rfl k_) ?_
        refine og T383 (mkF m 57 #[rv a, .val (.long t), .second, .val (.double d), .second] [(.long t), (.ref a)]) (fun t_ k_ => XS.lloadN X383.here hx rfl (hb hby d_prog_59_22_56) rfl k_) ?_
        obtain ⟨T385, h385, X385, e385, W385, st385⟩ := putF X383 hx hZ hown (host := "") (Or.inl (own_w hw 41 rfl)) Via.refl e383 F_m_nBottomTimestamp_a E_a (Or.inl (own_w hw 42 rfl)) (own_w hw 14 rfl) (ty := .long) (by decide) rfl rfl (g := (mkF m 57 #[rv a, .val (.long t), .second, .val (.double d), .second] [(.long t), (.ref a)])) rfl rfl (hb hby d_prog_59_22_57)
        have F385 := F_m_nBottomTimestamp_a.same W385
        have z385 := W385.size
        have N385 := Fr.snoc X385 N0 (show n0 ≤ a by omega)
        have K385 := (Keep.refl h0 [a]).wr W385 (Or.inl (List.mem_of_getElem? (i := 0) rfl))
        refine og T385 (mkF m 60 #[rv a, .val (.long t), .second, .val (.double d), .second] []) (fun t_ k_ => st385 _ k_) ?_
        refine og T385 (mkF m 61 #[rv a, .val (.long t), .second, .val (.double d), .second] [(.ref a)]) (fun t_ k_ => XS.aloadN X385.here hx rfl (hb hby d_prog_59_22_60) rfl rfl k_) ?_
        refine og T385 (mkF m 62 #[rv a, .val (.long t), .second, .val (.double d), .second] [(.double d), (.ref a)]) (fun t_ k_ => XS.dloadN X385.here hx rfl (hb hby d_prog_59_22_61) rfl k_) ?_
        have ff387 := (F_m_dBottomValue_a.other W385 (Or.inr (sn_14 hw)))
        have ff388 := (E_a.wr W385)
        obtain ⟨T386, h386, X386, e386, W386, st386⟩ := putF X385 hx hZ hown (host := "") (Or.inl (own_w hw 43 rfl)) Via.refl e385 ff387 ff388 (Or.inl (own_w hw 44 rfl)) (own_w hw 14 rfl) (ty := .double) (by decide) rfl rfl (g := (mkF m 62 #[rv a, .val (.long t), .second, .val (.double d), .second] [(.double d), (.ref a)])) rfl rfl (hb hby d_prog_59_22_62)
        have F386 := ff387.same W386
        have z386 := W386.size
        have N386 := Fr.snoc X386 N385 (show n0 ≤ a by omega)
        have K386 := K385.wr W386 (Or.inl (List.mem_of_getElem? (i := 0) rfl))
        refine og T386 (mkF m 65 #[rv a, .val (.long t), .second, .val (.double d), .second] []) (fun t_ k_ => st386 _ k_) ?_
        refine og T386 (mkF m 66 #[rv a, .val (.long t), .second, .val (.double d), .second] [(.double d)]) (fun t_ k_ => XS.dloadN X386.here hx rfl (hb hby d_prog_59_22_65) rfl k_) ?_
        refine og T386 (mkF m 67 #[rv a, .val (.long t), .second, .val (.double d), .second] [(.ref a), (.double d)]) (fun t_ k_ => XS.aloadN X386.here hx rfl (hb hby d_prog_59_22_66) rfl rfl k_) ?_
        have ff390 := ((F_m_dTopValue_a.other W385 (Or.inr (sn_25 hw))).other W386 (Or.inr (sn_26 hw)))
        obtain ⟨T389, X389, e389, st389⟩ := getF X386 hx hZ hown (host := "") (Or.inl (own_w hw 47 rfl)) Via.refl e386 ff390 (g := (mkF m 67 #[rv a, .val (.long t), .second, .val (.double d), .second] [(.ref a), (.double d)])) rfl rfl (hb hby d_prog_59_22_67)
        refine og T389 (mkF m 70 #[rv a, .val (.long t), .second, .val (.double d), .second] [(.double tV), (.double d)]) (fun t_ k_ => st389 _ k_) ?_
        refine og T389 (mkF m 71 #[rv a, .val (.long t), .second, .val (.double d), .second] [(.int (own_cmp rw rt))]) (fun t_ k_ => XS.dcmpS X389.here hx rfl (hb hby d_prog_59_22_70) rfl (own_dc _ D_d D_tV) k_) ?_
        by_cases hq391_ : rt < rw
        · skip
          refine og T389 (mkF m 92 #[rv a, .val (.long t), .second, .val (.double d), .second] []) (fun t_ k_ => XS.ifYes X389.here hx rfl (pc0 := 71) (pc' := 92) rfl (hb hby d_prog_59_22_71) rfl ((if0 _ _).trans (tlt ((own_cgt _ _).mpr hq391_)).2.2.1) (by decide) (by decide) k_) ?_
          refine og T389 (mkF m 93 #[rv a, .val (.long t), .second, .val (.double d), .second] [(.ref a)]) (fun t_ k_ => XS.aloadN X389.here hx rfl (hb hby d_prog_59_22_92) rfl rfl k_) ?_
          refine og T389 (mkF m 94 #[rv a, .val (.long t), .second, .val (.double d), .second] [(.long t), (.ref a)]) (fun t_ k_ => XS.lloadN X389.here hx rfl (hb hby d_prog_59_22_93) rfl k_) ?_
          have ff393 := ((F_m_nTopTimestamp_a.other W385 (Or.inr (sn_19 hw))).other W386 (Or.inr (sn_20 hw)))
          have ff394 := (ff388.wr W386)
          obtain ⟨T392, h392, X392, e392, W392, st392⟩ := putF X389 hx hZ hown (host := "") (Or.inl (own_w hw 45 rfl)) Via.refl e389 ff393 ff394 (Or.inl (own_w hw 46 rfl)) (own_w hw 14 rfl) (ty := .long) (by decide) rfl rfl (g := (mkF m 94 #[rv a, .val (.long t), .second, .val (.double d), .second] [(.long t), (.ref a)])) rfl rfl (hb hby d_prog_59_22_94)
          have F392 := ff393.same W392
          have z392 := W392.size
          have N392 := Fr.snoc X392 N386 (show n0 ≤ a by omega)
          have K392 := K386.wr W392 (Or.inl (List.mem_of_getElem? (i := 0) rfl))
          refine og T392 (mkF m 97 #[rv a, .val (.long t), .second, .val (.double d), .second] []) (fun t_ k_ => st392 _ k_) ?_
          refine og T392 (mkF m 98 #[rv a, .val (.long t), .second, .val (.double d), .second] [(.ref a)]) (fun t_ k_ => XS.aloadN X392.here hx rfl (hb hby d_prog_59_22_97) rfl rfl k_) ?_
          refine og T392 (mkF m 99 #[rv a, .val (.long t), .second, .val (.double d), .second] [(.double d), (.ref a)]) (fun t_ k_ => XS.dloadN X392.here hx rfl (hb hby d_prog_59_22_98) rfl k_) ?_
          have ff396 := (ff390.other W392 (Or.inr (sn_27 hw)))
          have ff397 := (ff394.wr W392)
          obtain ⟨T395, h395, X395, e395, W395, st395⟩ := putF X392 hx hZ hown (host := "") (Or.inl (own_w hw 47 rfl)) Via.refl e392 ff396 ff397 (Or.inl (own_w hw 48 rfl)) (own_w hw 14 rfl) (ty := .double) (by decide) rfl rfl (g := (mkF m 99 #[rv a, .val (.long t), .second, .val (.double d), .second] [(.double d), (.ref a)])) rfl rfl (hb hby d_prog_59_22_99)
          have F395 := ff396.same W395
          have z395 := W395.size
          have N395 := Fr.snoc X395 N392 (show n0 ≤ a by omega)
          have K395 := K392.wr W395 (Or.inl (List.mem_of_getElem? (i := 0) rfl))
          refine og T395 (mkF m 102 #[rv a, .val (.long t), .second, .val (.double d), .second] []) (fun t_ k_ => st395 _ k_) ?_
          have ff398 := ((((F_m_nFirstTimestamp_a.other W385 (Or.inr (sn_31 hw))).other W386 (Or.inr (sn_32 hw))).other W392 (Or.inr (sn_33 hw))).other W395 (Or.inr (sn_34 hw)))
          have ff399 := ((((F_m_dFirstValue_a.other W385 (Or.inr (sn_37 hw))).other W386 (Or.inr (sn_38 hw))).other W392 (Or.inr (sn_39 hw))).other W395 (Or.inr (sn_40 hw)))
          have ff400 := ((((F_m_nLastTimestamp_a.other W385 (Or.inr (sn_42 hw))).other W386 (Or.inr (sn_43 hw))).other W392 (Or.inr (sn_44 hw))).other W395 (Or.inr (sn_45 hw)))
          have ff401 := ((((F_m_dLastValue_a.other W385 (Or.inr (sn_46 hw))).other W386 (Or.inr (sn_47 hw))).other W392 (Or.inr (sn_48 hw))).other W395 (Or.inr (sn_49 hw)))
          have ff402 := (((F385.other W386 (Or.inr (sn_50 hw))).other W392 (Or.inr (sn_51 hw))).other W395 (Or.inr (sn_52 hw)))
          have ff403 := ((F386.other W392 (Or.inr (sn_53 hw))).other W395 (Or.inr (sn_54 hw)))
          have ff404 := (F392.other W395 (Or.inr (sn_55 hw)))
          exact own_out X395 (v := none) (fun _ => rfl) hlk (fun fs hr => X395.returnOut hx hret (hb hby d_prog_59_22_102) hr) (Q := Q_rm_weigh Z a t d fT fV lT lV bT bV tT tV rw rb rt h0 n0) (by rw [e395]; exact ⟨rfl, N395, K395, ff398, (by rw [if_neg hq2_]; exact ff399), ff400, (by rw [if_neg hq192_]; exact ff401), (by rw [if_pos (Or.inl hq384_)]; exact ff402), (by rw [if_pos (Or.inl hq384_)]; exact ff403), (by rw [if_pos (Or.inl hq391_)]; exact ff404), (by rw [if_pos (Or.inl hq391_)]; exact F395)⟩) (by decide) (by decide)
        · skip
          refine og T389 (mkF m 74 #[rv a, .val (.long t), .second, .val (.double d), .second] []) (fun t_ k_ => XS.ifNo X389.here hx rfl (hb hby d_prog_59_22_71) rfl ((if0 _ _).trans (flt (fun z => hq391_ ((own_cgt _ _).mp z))).2.2.1) k_) ?_
          refine og T389 (mkF m 75 #[rv a, .val (.long t), .second, .val (.double d), .second] [(.double d)]) (fun t_ k_ => XS.dloadN X389.here hx rfl (hb hby d_prog_59_22_74) rfl k_) ?_
          refine og T389 (mkF m 76 #[rv a, .val (.long t), .second, .val (.double d), .second] [(.ref a), (.double d)]) (fun t_ k_ => XS.aloadN X389.here hx rfl (hb hby d_prog_59_22_75) rfl rfl k_) ?_
          obtain ⟨T405, X405, e405, st405⟩ := getF X389 hx hZ hown (host := "") (Or.inl (own_w hw 47 rfl)) Via.refl e389 ff390 (g := (mkF m 76 #[rv a, .val (.long t), .second, .val (.double d), .second] [(.ref a), (.double d)])) rfl rfl (hb hby d_prog_59_22_76)
          refine og T405 (mkF m 79 #[rv a, .val (.long t), .second, .val (.double d), .second] [(.double tV), (.double d)]) (fun t_ k_ => st405 _ k_) ?_
          refine og T405 (mkF m 80 #[rv a, .val (.long t), .second, .val (.double d), .second] [(.int (own_cmp rw rt))]) (fun t_ k_ => XS.dcmpS X405.here hx rfl (hb hby d_prog_59_22_79) rfl (own_dc _ D_d D_tV) k_) ?_
          by_cases hq406_ : rw = rt
          · skip
            refine og T405 (mkF m 83 #[rv a, .val (.long t), .second, .val (.double d), .second] []) (fun t_ k_ => XS.ifNo X405.here hx rfl (hb hby d_prog_59_22_80) rfl ((if0 _ _).trans (teq ((own_ceq _ _).mpr hq406_)).2) k_) ?_
            refine og T405 (mkF m 84 #[rv a, .val (.long t), .second, .val (.double d), .second] [(.long t)]) (fun t_ k_ => XS.lloadN X405.here hx rfl (hb hby d_prog_59_22_83) rfl k_) ?_
            refine og T405 (mkF m 85 #[rv a, .val (.long t), .second, .val (.double d), .second] [(.ref a), (.long t)]) (fun t_ k_ => XS.aloadN X405.here hx rfl (hb hby d_prog_59_22_84) rfl rfl k_) ?_
            have ff408 := ((F_m_nTopTimestamp_a.other W385 (Or.inr (sn_19 hw))).other W386 (Or.inr (sn_20 hw)))
            obtain ⟨T407, X407, e407, st407⟩ := getF X405 hx hZ hown (host := "") (Or.inl (own_w hw 45 rfl)) Via.refl e405 ff408 (g := (mkF m 85 #[rv a, .val (.long t), .second, .val (.double d), .second] [(.ref a), (.long t)])) rfl rfl (hb hby d_prog_59_22_85)
            refine og T407 (mkF m 88 #[rv a, .val (.long t), .second, .val (.double d), .second] [(.long tT), (.long t)]) (fun t_ k_ => st407 _ k_) ?_
            refine og T407 (mkF m 89 #[rv a, .val (.long t), .second, .val (.double d), .second] [(.int (lcmpW t tT))]) (fun t_ k_ => XS.lcmp X407.here hx rfl (hb hby d_prog_59_22_88) rfl k_) ?_
            by_cases hq409_ : t < tT
            · skip
              refine og T407 (mkF m 92 #[rv a, .val (.long t), .second, .val (.double d), .second] []) (fun t_ k_ => XS.ifNo X407.here hx rfl (hb hby d_prog_59_22_89) rfl ((if0 _ _).trans (tlt ((lw_lt _ _).mpr hq409_)).2.1) k_) ?_
              refine og T407 (mkF m 93 #[rv a, .val (.long t), .second, .val (.double d), .second] [(.ref a)]) (fun t_ k_ => XS.aloadN X407.here hx rfl (hb hby d_prog_59_22_92) rfl rfl k_) ?_
              refine og T407 (mkF m 94 #[rv a, .val (.long t), .second, .val (.double d), .second] [(.long t), (.ref a)]) (fun t_ k_ => XS.lloadN X407.here hx rfl (hb hby d_prog_59_22_93) rfl k_) ?_
              have ff411 := (ff388.wr W386)
              obtain ⟨T410, h410, X410, e410, W410, st410⟩ := putF X407 hx hZ hown (host := "") (Or.inl (own_w hw 45 rfl)) Via.refl e407 ff408 ff411 (Or.inl (own_w hw 46 rfl)) (own_w hw 14 rfl) (ty := .long) (by decide) rfl rfl (g := (mkF m 94 #[rv a, .val (.long t), .second, .val (.double d), .second] [(.long t), (.ref a)])) rfl rfl (hb hby d_prog_59_22_94)
              have F410 := ff408.same W410
              have z410 := W410.size
              have N410 := Fr.snoc X410 N386 (show n0 ≤ a by omega)
              have K410 := K386.wr W410 (Or.inl (List.mem_of_getElem? (i := 0) rfl))
              refine og T410 (mkF m 97 #[rv a, .val (.long t), .second, .val (.double d), .second] []) (fun t_ k_ => st410 _ k_) ?_
              refine og T410 (mkF m 98 #[rv a, .val (.long t), .second, .val (.double d), .second] [(.ref a)]) (fun t_ k_ => XS.aloadN X410.here hx rfl (hb hby d_prog_59_22_97) rfl rfl k_) ?_
              refine og T410 (mkF m 99 #[rv a, .val (.long t), .second, .val (.double d), .second] [(.double d), (.ref a)]) (fun t_ k_ => XS.dloadN X410.here hx rfl (hb hby d_prog_59_22_98) rfl k_) ?_
              have ff413 := (ff390.other W410 (Or.inr (sn_27 hw)))
              have ff414 := (ff411.wr W410)
              obtain ⟨T412, h412, X412, e412, W412, st412⟩ := putF X410 hx hZ hown (host := "") (Or.inl (own_w hw 47 rfl)) Via.refl e410 ff413 ff414 (Or.inl (own_w hw 48 rfl)) (own_w hw 14 rfl) (ty := .double) (by decide) rfl rfl (g := (mkF m 99 #[rv a, .val (.long t), .second, .val (.double d), .second] [(.double d), (.ref a)])) rfl rfl (hb hby d_prog_59_22_99)
              have F412 := ff413.same W412
              have z412 := W412.size
              have N412 := Fr.snoc X412 N410 (show n0 ≤ a by omega)
              have K412 := K410.wr W412 (Or.inl (List.mem_of_getElem? (i := 0) rfl))
              refine og T412 (mkF m 102 #[rv a, .val (.long t), .second, .val (.double d), .second] []) (fun t_ k_ => st412 _ k_) ?_
              have ff415 := ((((F_m_nFirstTimestamp_a.other W385 (Or.inr (sn_31 hw))).other W386 (Or.inr (sn_32 hw))).other W410 (Or.inr (sn_33 hw))).other W412 (Or.inr (sn_34 hw)))
              have ff416 := ((((F_m_dFirstValue_a.other W385 (Or.inr (sn_37 hw))).other W386 (Or.inr (sn_38 hw))).other W410 (Or.inr (sn_39 hw))).other W412 (Or.inr (sn_40 hw)))
              have ff417 := ((((F_m_nLastTimestamp_a.other W385 (Or.inr (sn_42 hw))).other W386 (Or.inr (sn_43 hw))).other W410 (Or.inr (sn_44 hw))).other W412 (Or.inr (sn_45 hw)))
              have ff418 := ((((F_m_dLastValue_a.other W385 (Or.inr (sn_46 hw))).other W386 (Or.inr (sn_47 hw))).other W410 (Or.inr (sn_48 hw))).other W412 (Or.inr (sn_49 hw)))
              have ff419 := (((F385.other W386 (Or.inr (sn_50 hw))).other W410 (Or.inr (sn_51 hw))).other W412 (Or.inr (sn_52 hw)))
              have ff420 := ((F386.other W410 (Or.inr (sn_53 hw))).other W412 (Or.inr (sn_54 hw)))
              have ff421 := (F410.other W412 (Or.inr (sn_55 hw)))
              exact own_out X412 (v := none) (fun _ => rfl) hlk (fun fs hr => X412.returnOut hx hret (hb hby d_prog_59_22_102) hr) (Q := Q_rm_weigh Z a t d fT fV lT lV bT bV tT tV rw rb rt h0 n0) (by rw [e412]; exact ⟨rfl, N412, K412, ff415, (by rw [if_neg hq2_]; exact ff416), ff417, (by rw [if_neg hq192_]; exact ff418), (by rw [if_pos (Or.inl hq384_)]; exact ff419), (by rw [if_pos (Or.inl hq384_)]; exact ff420), (by rw [if_pos (Or.inr ⟨hq406_, hq409_⟩)]; exact ff421), (by rw [if_pos (Or.inr ⟨hq406_, hq409_⟩)]; exact F412)⟩) (by decide) (by decide)
            · skip
              refine og T407 (mkF m 102 #[rv a, .val (.long t), .second, .val (.double d), .second] []) (fun t_ k_ => XS.ifYes X407.here hx rfl (pc0 := 89) (pc' := 102) rfl (hb hby d_prog_59_22_89) rfl ((if0 _ _).trans (flt (fun z => hq409_ ((lw_lt _ _).mp z))).2.1) (by decide) (by decide) k_) ?_
              have ff422 := ((F_m_nFirstTimestamp_a.other W385 (Or.inr (sn_31 hw))).other W386 (Or.inr (sn_32 hw)))
              have ff423 := ((F_m_dFirstValue_a.other W385 (Or.inr (sn_37 hw))).other W386 (Or.inr (sn_38 hw)))
              have ff424 := ((F_m_nLastTimestamp_a.other W385 (Or.inr (sn_42 hw))).other W386 (Or.inr (sn_43 hw)))
              have ff425 := ((F_m_dLastValue_a.other W385 (Or.inr (sn_46 hw))).other W386 (Or.inr (sn_47 hw)))
              have ff426 := (F385.other W386 (Or.inr (sn_50 hw)))
              exact own_out X407 (v := none) (fun _ => rfl) hlk (fun fs hr => X407.returnOut hx hret (hb hby d_prog_59_22_102) hr) (Q := Q_rm_weigh Z a t d fT fV lT lV bT bV tT tV rw rb rt h0 n0) (by rw [e407]; exact ⟨rfl, N386, K386, ff422, (by rw [if_neg hq2_]; exact ff423), ff424, (by rw [if_neg hq192_]; exact ff425), (by rw [if_pos (Or.inl hq384_)]; exact ff426), (by rw [if_pos (Or.inl hq384_)]; exact F386), (by rw [if_neg (fun q => q.elim hq391_ (fun q => hq409_ q.2))]; exact ff408), (by rw [if_neg (fun q => q.elim hq391_ (fun q => hq409_ q.2))]; exact ff390)⟩) (by decide) (by decide)
          · skip
            refine og T405 (mkF m 102 #[rv a, .val (.long t), .second, .val (.double d), .second] []) (fun t_ k_ => XS.ifYes X405.here hx rfl (pc0 := 80) (pc' := 102) rfl (hb hby d_prog_59_22_80) rfl ((if0 _ _).trans (feq (fun z => hq406_ ((own_ceq _ _).mp z))).2) (by decide) (by decide) k_) ?_
            have ff427 := ((F_m_nFirstTimestamp_a.other W385 (Or.inr (sn_31 hw))).other W386 (Or.inr (sn_32 hw)))
            have ff428 := ((F_m_dFirstValue_a.other W385 (Or.inr (sn_37 hw))).other W386 (Or.inr (sn_38 hw)))
            have ff429 := ((F_m_nLastTimestamp_a.other W385 (Or.inr (sn_42 hw))).other W386 (Or.inr (sn_43 hw)))
            have ff430 := ((F_m_dLastValue_a.other W385 (Or.inr (sn_46 hw))).other W386 (Or.inr (sn_47 hw)))
            have ff431 := (F385.other W386 (Or.inr (sn_50 hw)))
            have ff432 := ((F_m_nTopTimestamp_a.other W385 (Or.inr (sn_19 hw))).other W386 (Or.inr (sn_20 hw)))
            exact own_out X405 (v := none) (fun _ => rfl) hlk (fun fs hr => X405.returnOut hx hret (hb hby d_prog_59_22_102) hr) (Q := Q_rm_weigh Z a t d fT fV lT lV bT bV tT tV rw rb rt h0 n0) (by rw [e405]; exact ⟨rfl, N386, K386, ff427, (by rw [if_neg hq2_]; exact ff428), ff429, (by rw [if_neg hq192_]; exact ff430), (by rw [if_pos (Or.inl hq384_)]; exact ff431), (by rw [if_pos (Or.inl hq384_)]; exact F386), (by rw [if_neg (fun q => q.elim hq391_ (fun q => hq406_ q.1))]; exact ff432), (by rw [if_neg (fun q => q.elim hq391_ (fun q => hq406_ q.1))]; exact ff390)⟩) (by decide) (by decide)
      · skip
        refine og T383 (mkF m 37 #[rv a, .val (.long t), .second, .val (.double d), .second] []) (fun t_ k_ => XS.ifNo X383.here hx rfl (hb hby d_prog_59_22_34) rfl ((if0 _ _).trans (flt (fun z => hq384_ ((own_clt _ _).mp z))).1) k_) ?_
        refine og T383 (mkF m 38 #[rv a, .val (.long t), .second, .val (.double d), .second] [(.double d)]) (fun t_ k_ => XS.dloadN X383.here hx rfl (hb hby d_prog_59_22_37) rfl k_) ?_
        refine og T383 (mkF m 39 #[rv a, .val (.long t), .second, .val (.double d), .second] [(.ref a), (.double d)]) (fun t_ k_ => XS.aloadN X383.here hx rfl (hb hby d_prog_59_22_38) rfl rfl k_) ?_
        obtain ⟨T433, X433, e433, st433⟩ := getF X383 hx hZ hown (host := "") (Or.inl (own_w hw 43 rfl)) Via.refl e383 F_m_dBottomValue_a (g := (mkF m 39 #[rv a, .val (.long t), .second, .val (.double d), .second] [(.ref a), (.double d)])) rfl rfl (hb hby d_prog_59_22_39)
        refine og T433 (mkF m 42 #[rv a, .val (.long t), .second, .val (.double d), .second] [(.double bV), (.double d)]) (fun t_ k_ => st433 _ k_) ?_
        refine og T433 (mkF m 43 #[rv a, .val (.long t), .second, .val (.double d), .second] [(.int (own_cmp rw rb))]) (fun t_ k_ => XS.dcmpS X433.here hx rfl (hb hby d_prog_59_22_42) rfl (own_dc _ D_d D_bV) k_) ?_
        by_cases hq434_ : rw = rb
        · skip
          refine og T433 (mkF m 46 #[rv a, .val (.long t), .second, .val (.double d), .second] []) (fun t_ k_ => XS.ifNo X433.here hx rfl (hb hby d_prog_59_22_43) rfl ((if0 _ _).trans (teq ((own_ceq _ _).mpr hq434_)).2) k_) ?_
          refine og T433 (mkF m 47 #[rv a, .val (.long t), .second, .val (.double d), .second] [(.long t)]) (fun t_ k_ => XS.lloadN X433.here hx rfl (hb hby d_prog_59_22_46) rfl k_) ?_
          refine og T433 (mkF m 48 #[rv a, .val (.long t), .second, .val (.double d), .second] [(.ref a), (.long t)]) (fun t_ k_ => XS.aloadN X433.here hx rfl (hb hby d_prog_59_22_47) rfl rfl k_) ?_
          obtain ⟨T435, X435, e435, st435⟩ := getF X433 hx hZ hown (host := "") (Or.inl (own_w hw 41 rfl)) Via.refl e433 F_m_nBottomTimestamp_a (g := (mkF m 48 #[rv a, .val (.long t), .second, .val (.double d), .second] [(.ref a), (.long t)])) rfl rfl (hb hby d_prog_59_22_48)
          refine og T435 (mkF m 51 #[rv a, .val (.long t), .second, .val (.double d), .second] [(.long bT), (.long t)]) (fun t_ k_ => st435 _ k_) ?_
          refine og T435 (mkF m 52 #[rv a, .val (.long t), .second, .val (.double d), .second] [(.int (lcmpW t bT))]) (fun t_ k_ => XS.lcmp X435.here hx rfl (hb hby d_prog_59_22_51) rfl k_) ?_
          by_cases hq436_ : t < bT
          · skip
            refine og T435 (mkF m 55 #[rv a, .val (.long t), .second, .val (.double d), .second] []) (fun t_ k_ => XS.ifNo X435.here hx rfl (hb hby d_prog_59_22_52) rfl ((if0 _ _).trans (tlt ((lw_lt _ _).mpr hq436_)).2.1) k_) ?_
            refine og T435 (mkF m 56 #[rv a, .val (.long t), .second, .val (.double d), .second] [(.ref a)]) (fun t_ k_ => XS.aloadN X435.here hx rfl (hb hby d_prog_59_22_55) rfl rfl k_) ?_
            refine og T435 (mkF m 57 #[rv a, .val (.long t), .second, .val (.double d), .second] [(.long t), (.ref a)]) (fun t_ k_ => XS.lloadN X435.here hx rfl (hb hby d_prog_59_22_56) rfl k_) ?_
            obtain ⟨T437, h437, X437, e437, W437, st437⟩ := putF X435 hx hZ hown (host := "") (Or.inl (own_w hw 41 rfl)) Via.refl e435 F_m_nBottomTimestamp_a E_a (Or.inl (own_w hw 42 rfl)) (own_w hw 14 rfl) (ty := .long) (by decide) rfl rfl (g := (mkF m 57 #[rv a, .val (.long t), .second, .val (.double d), .second] [(.long t), (.ref a)])) rfl rfl (hb hby d_prog_59_22_57)
            have F437 := F_m_nBottomTimestamp_a.same W437
            have z437 := W437.size
            have N437 := Fr.snoc X437 N0 (show n0 ≤ a by omega)
            have K437 := (Keep.refl h0 [a]).wr W437 (Or.inl (List.mem_of_getElem? (i := 0) rfl))
            refine og T437 (mkF m 60 #[rv a, .val (.long t), .second, .val (.double d), .second] []) (fun t_ k_ => st437 _ k_) ?_
            refine og T437 (mkF m 61 #[rv a, .val (.long t), .second, .val (.double d), .second] [(.ref a)]) (fun t_ k_ => XS.aloadN X437.here hx rfl (hb hby d_prog_59_22_60) rfl rfl k_) ?_
            refine og T437 (mkF m 62 #[rv a, .val (.long t), .second, .val (.double d), .second] [(.double d), (.ref a)]) (fun t_ k_ => XS.dloadN X437.here hx rfl (hb hby d_prog_59_22_61) rfl k_) ?_
            have ff439 := (F_m_dBottomValue_a.other W437 (Or.inr (sn_14 hw)))
            have ff440 := (E_a.wr W437)
            obtain ⟨T438, h438, X438, e438, W438, st438⟩ := putF X437 hx hZ hown (host := "") (Or.inl (own_w hw 43 rfl)) Via.refl e437 ff439 ff440 (Or.inl (own_w hw 44 rfl)) (own_w hw 14 rfl) (ty := .double) (by decide) rfl rfl (g := (mkF m 62 #[rv a, .val (.long t), .second, .val (.double d), .second] [(.double d), (.ref a)])) rfl rfl (hb hby d_prog_59_22_62)
            have F438 := ff439.same W438
            have z438 := W438.size
            have N438 := Fr.snoc X438 N437 (show n0 ≤ a by omega)
            have K438 := K437.wr W438 (Or.inl (List.mem_of_getElem? (i := 0) rfl))
            refine og T438 (mkF m 65 #[rv a, .val (.long t), .second, .val (.double d), .second] []) (fun t_ k_ => st438 _ k_) ?_
            refine og T438 (mkF m 66 #[rv a, .val (.long t), .second, .val (.double d), .second] [(.double d)]) (fun t_ k_ => XS.dloadN X438.here hx rfl (hb hby d_prog_59_22_65) rfl k_) ?_
            refine og T438 (mkF m 67 #[rv a, .val (.long t), .second, .val (.double d), .second] [(.ref a), (.double d)]) (fun t_ k_ => XS.aloadN X438.here hx rfl (hb hby d_prog_59_22_66) rfl rfl k_) ?_
            have ff442 := ((F_m_dTopValue_a.other W437 (Or.inr (sn_25 hw))).other W438 (Or.inr (sn_26 hw)))
            obtain ⟨T441, X441, e441, st441⟩ := getF X438 hx hZ hown (host := "") (Or.inl (own_w hw 47 rfl)) Via.refl e438 ff442 (g := (mkF m 67 #[rv a, .val (.long t), .second, .val (.double d), .second] [(.ref a), (.double d)])) rfl rfl (hb hby d_prog_59_22_67)
            refine og T441 (mkF m 70 #[rv a, .val (.long t), .second, .val (.double d), .second] [(.double tV), (.double d)]) (fun t_ k_ => st441 _ k_) ?_
            refine og T441 (mkF m 71 #[rv a, .val (.long t), .second, .val (.double d), .second] [(.int (own_cmp rw rt))]) (fun t_ k_ => XS.dcmpS X441.here hx rfl (hb hby d_prog_59_22_70) rfl (own_dc _ D_d D_tV) k_) ?_
            by_cases hq443_ : rt < rw
            · skip
              refine og T441 (mkF m 92 #[rv a, .val (.long t), .second, .val (.double d), .second] []) (fun t_ k_ => XS.ifYes X441.here hx rfl (pc0 := 71) (pc' := 92) rfl (hb hby d_prog_59_22_71) rfl ((if0 _ _).trans (tlt ((own_cgt _ _).mpr hq443_)).2.2.1) (by decide) (by decide) k_) ?_
              refine og T441 (mkF m 93 #[rv a, .val (.long t), .second, .val (.double d), .second] [(.ref a)]) (fun t_ k_ => XS.aloadN X441.here hx rfl (hb hby d_prog_59_22_92) rfl rfl k_) ?_
              refine og T441 (mkF m 94 #[rv a, .val (.long t), .second, .val (.double d), .second] [(.long t), (.ref a)]) (fun t_ k_ => XS.lloadN X441.here hx rfl (hb hby d_prog_59_22_93) rfl k_) ?_
              have ff445 := ((F_m_nTopTimestamp_a.other W437 (Or.inr (sn_19 hw))).other W438 (Or.inr (sn_20 hw)))
              have ff446 := (ff440.wr W438)
              obtain ⟨T444, h444, X444, e444, W444, st444⟩ := putF X441 hx hZ hown (host := "") (Or.inl (own_w hw 45 rfl)) Via.refl e441 ff445 ff446 (Or.inl (own_w hw 46 rfl)) (own_w hw 14 rfl) (ty := .long) (by decide) rfl rfl (g := (mkF m 94 #[rv a, .val (.long t), .second, .val (.double d), .second] [(.long t), (.ref a)])) rfl rfl (hb hby d_prog_59_22_94)
              have F444 := ff445.same W444
              have z444 := W444.size
              have N444 := Fr.snoc X444 N438 (show n0 ≤ a by omega)
              have K444 := K438.wr W444 (Or.inl (List.mem_of_getElem? (i := 0) rfl))
              refine og T444 (mkF m 97 #[rv a, .val (.long t), .second, .val (.double d), .second] []) (fun t_ k_ => st444 _ k_) ?_
              refine og T444 (mkF m 98 #[rv a, .val (.long t), .second, .val (.double d), .second] [(.ref a)]) (fun t_ k_ => XS.aloadN X444.here hx rfl (hb hby d_prog_59_22_97) rfl rfl k_) ?_
              refine og T444 (mkF m 99 #[rv a, .val (.long t), .second, .val (.double d), .second] [(.double d), (.ref a)]) (fun t_ k_ => XS.dloadN X444.here hx rfl (hb hby d_prog_59_22_98) rfl k_) ?_
              have ff448 := (ff442.other W444 (Or.inr (sn_27 hw)))
              have ff449 := (ff446.wr W444)
              obtain ⟨T447, h447, X447, e447, W447, st447⟩ := putF X444 hx hZ hown (host := "") (Or.inl (own_w hw 47 rfl)) Via.refl e444 ff448 ff449 (Or.inl (own_w hw 48 rfl)) (own_w hw 14 rfl) (ty := .double) (by decide) rfl rfl (g := (mkF m 99 #[rv a, .val (.long t), .second, .val (.double d), .second] [(.double d), (.ref a)])) rfl rfl (hb hby d_prog_59_22_99)
              have F447 := ff448.same W447
              have z447 := W447.size
              have N447 := Fr.snoc X447 N444 (show n0 ≤ a by omega)
              have K447 := K444.wr W447 (Or.inl (List.mem_of_getElem? (i := 0) rfl))
              refine og T447 (mkF m 102 #[rv a, .val (.long t), .second, .val (.double d), .second] []) (fun t_ k_ => st447 _ k_) ?_
              have ff450 := ((((F_m_nFirstTimestamp_a.other W437 (Or.inr (sn_31 hw))).other W438 (Or.inr (sn_32 hw))).other W444 (Or.inr (sn_33 hw))).other W447 (Or.inr (sn_34 hw)))
              have ff451 := ((((F_m_dFirstValue_a.other W437 (Or.inr (sn_37 hw))).other W438 (Or.inr (sn_38 hw))).other W444 (Or.inr (sn_39 hw))).other W447 (Or.inr (sn_40 hw)))
              have ff452 := ((((F_m_nLastTimestamp_a.other W437 (Or.inr (sn_42 hw))).other W438 (Or.inr (sn_43 hw))).other W444 (Or.inr (sn_44 hw))).other W447 (Or.inr (sn_45 hw)))
              have ff453 := ((((F_m_dLastValue_a.other W437 (Or.inr (sn_46 hw))).other W438 (Or.inr (sn_47 hw))).other W444 (Or.inr (sn_48 hw))).other W447 (Or.inr (sn_49 hw)))
              have ff454 := (((F437.other W438 (Or.inr (sn_50 hw))).other W444 (Or.inr (sn_51 hw))).other W447 (Or.inr (sn_52 hw)))
              have ff455 := ((F438.other W444 (Or.inr (sn_53 hw))).other W447 (Or.inr (sn_54 hw)))
              have ff456 := (F444.other W447 (Or.inr (sn_55 hw)))
              exact own_out X447 (v := none) (fun _ => rfl) hlk (fun fs hr => X447.returnOut hx hret (hb hby d_prog_59_22_102) hr) (Q := Q_rm_weigh Z a t d fT fV lT lV bT bV tT tV rw rb rt h0 n0) (by rw [e447]; exact ⟨rfl, N447, K447, ff450, (by rw [if_neg hq2_]; exact ff451), ff452, (by rw [if_neg hq192_]; exact ff453), (by rw [if_pos (Or.inr ⟨hq434_, hq436_⟩)]; exact ff454), (by rw [if_pos (Or.inr ⟨hq434_, hq436_⟩)]; exact ff455), (by rw [if_pos (Or.inl hq443_)]; exact ff456), (by rw [if_pos (Or.inl hq443_)]; exact F447)⟩) (by decide) (by decide)
            · skip
              refine og T441 (mkF m 74 #[rv a, .val (.long t), .second, .val (.double d), .second] []) (fun t_ k_ => XS.ifNo X441.here hx rfl (hb hby d_prog_59_22_71) rfl ((if0 _ _).trans (flt (fun z => hq443_ ((own_cgt _ _).mp z))).2.2.1) k_) ?_
              refine og T441 (mkF m 75 #[rv a, .val (.long t), .second, .val (.double d), .second] [(.double d)]) (fun t_ k_ => XS.dloadN X441.here hx rfl (hb hby d_prog_59_22_74) rfl k_) ?_
              refine og T441 (mkF m 76 #[rv a, .val (.long t), .second, .val (.double d), .second] [(.ref a), (.double d)]) (fun t_ k_ => XS.aloadN X441.here hx rfl (hb hby d_prog_59_22_75) rfl rfl k_) ?_
              obtain ⟨T457, X457, e457, st457⟩ := getF X441 hx hZ hown (host := "") (Or.inl (own_w hw 47 rfl)) Via.refl e441 ff442 (g := (mkF m 76 #[rv a, .val (.long t), .second, .val (.double d), .second] [(.ref a), (.double d)])) rfl rfl (hb hby d_prog_59_22_76)
              refine og T457 (mkF m 79 #[rv a, .val (.long t), .second, .val (.double d), .second] [(.double tV), (.double d)]) (fun t_ k_ => st457 _ k_) ?_
              refine og T457 (mkF m 80 #[rv a, .val (.long t), .second, .val (.double d), .second] [(.int (own_cmp rw rt))]) (fun t_ k_ => XS.dcmpS X457.here hx rfl (hb hby d_prog_59_22_79) rfl (own_dc _ D_d D_tV) k_) ?_
              by_cases hq458_ : rw = rt
              · skip
                refine og T457 (mkF m 83 #[rv a, .val (.long t), .second, .val (.double d), .second] []) (fun t_ k_ => XS.ifNo X457.here hx rfl (hb hby d_prog_59_22_80) rfl ((if0 _ _).trans (teq ((own_ceq _ _).mpr hq458_)).2) k_) ?_
                refine og T457 (mkF m 84 #[rv a, .val (.long t), .second, .val (.double d), .second] [(.long t)]) (fun t_ k_ => XS.lloadN X457.here hx rfl (hb hby d_prog_59_22_83) rfl k_) ?_
                refine og T457 (mkF m 85 #[rv a, .val (.long t), .second, .val (.double d), .second] [(.ref a), (.long t)]) (fun t_ k_ => XS.aloadN X457.here hx rfl (hb hby d_prog_59_22_84) rfl rfl k_) ?_
                have ff460 := ((F_m_nTopTimestamp_a.other W437 (Or.inr (sn_19 hw))).other W438 (Or.inr (sn_20 hw)))
                obtain ⟨T459, X459, e459, st459⟩ := getF X457 hx hZ hown (host := "") (Or.inl (own_w hw 45 rfl)) Via.refl e457 ff460 (g := (mkF m 85 #[rv a, .val (.long t), .second, .val (.double d), .second] [(.ref a), (.long t)])) rfl rfl (hb hby d_prog_59_22_85)
                refine og T459 (mkF m 88 #[rv a, .val (.long t), .second, .val (.double d), .second] [(.long tT), (.long t)]) (fun t_ k_ => st459 _ k_) ?_
                refine og T459 (mkF m 89 #[rv a, .val (.long t), .second, .val (.double d), .second] [(.int (lcmpW t tT))]) (fun t_ k_ => XS.lcmp X459.here hx rfl (hb hby d_prog_59_22_88) rfl k_) ?_
                by_cases hq461_ : t < tT
                · skip
                  refine og T459 (mkF m 92 #[rv a, .val (.long t), .second, .val (.double d), .second] []) (fun t_ k_ => XS.ifNo X459.here hx rfl (hb hby d_prog_59_22_89) rfl ((if0 _ _).trans (tlt ((lw_lt _ _).mpr hq461_)).2.1) k_) ?_
                  refine og T459 (mkF m 93 #[rv a, .val (.long t), .second, .val (.double d), .second] [(.ref a)]) (fun t_ k_ => XS.aloadN X459.here hx rfl (hb hby d_prog_59_22_92) rfl rfl k_) ?_
                  refine og T459 (mkF m 94 #[rv a, .val (.long t), .second, .val (.double d), .second] [(.long t), (.ref a)]) (fun t_ k_ => XS.lloadN X459.here hx rfl (hb hby d_prog_59_22_93) rfl k_) ?_
                  have ff463 := (ff440.wr W438)
                  obtain ⟨T462, h462, X462, e462, W462, st462⟩ := putF X459 hx hZ hown (host := "") (Or.inl (own_w hw 45 rfl)) Via.refl e459 ff460 ff463 (Or.inl (own_w hw 46 rfl)) (own_w hw 14 rfl) (ty := .long) (by decide) rfl rfl (g := (mkF m 94 #[rv a, .val (.long t), .second, .val (.double d), .second] [(.long t), (.ref a)])) rfl rfl (hb hby d_prog_59_22_94)
                  have F462 := ff460.same W462
                  have z462 := W462.size
                  have N462 := Fr.snoc X462 N438 (show n0 ≤ a by omega)
                  have K462 := K438.wr W462 (Or.inl (List.mem_of_getElem? (i := 0) rfl))
                  refine og T462 (mkF m 97 #[rv a, .val (.long t), .second, .val (.double d), .second] []) (fun t_ k_ => st462 _ k_) ?_
                  refine og T462 (mkF m 98 #[rv a, .val (.long t), .second, .val (.double d), .second] [(.ref a)]) (fun t_ k_ => XS.aloadN X462.here hx rfl (hb hby d_prog_59_22_97) rfl rfl k_) ?_
                  refine og T462 (mkF m 99 #[rv a, .val (.long t), .second, .val (.double d), .second] [(.double d), (.ref a)]) (fun t_ k_ => XS.dloadN X462.here hx rfl (hb hby d_prog_59_22_98) rfl k_) ?_
                  have ff465 := (ff442.other W462 (Or.inr (sn_27 hw)))
                  have ff466 := (ff463.wr W462)
                  obtain ⟨T464, h464, X464, e464, W464, st464⟩ := putF X462 hx hZ hown (host := "") (Or.inl (own_w hw 47 rfl)) Via.refl e462 ff465 ff466 (Or.inl (own_w hw 48 rfl)) (own_w hw 14 rfl) (ty := .double) (by decide) rfl rfl (g := (mkF m 99 #[rv a, .val (.long t), .second, .val (.double d), .second] [(.double d), (.ref a)])) rfl rfl (hb hby d_prog_59_22_99)
                  have F464 := ff465.same W464
                  have z464 := W464.size
                  have N464 := Fr.snoc X464 N462 (show n0 ≤ a by omega)
                  have K464 := K462.wr W464 (Or.inl (List.mem_of_getElem? (i := 0) rfl))
                  refine og T464 (mkF m 102 #[rv a, .val (.long t), .second, .val (.double d), .second] []) (fun t_ k_ => st464 _ k_) ?_
                  have ff467 := ((((F_m_nFirstTimestamp_a.other W437 (Or.inr (sn_31 hw))).other W438 (Or.inr (sn_32 hw))).other W462 (Or.inr (sn_33 hw))).other W464 (Or.inr (sn_34 hw)))
                  have ff468 := ((((F_m_dFirstValue_a.other W437 (Or.inr (sn_37 hw))).other W438 (Or.inr (sn_38 hw))).other W462 (Or.inr (sn_39 hw))).other W464 (Or.inr (sn_40 hw)))
                  have ff469 := ((((F_m_nLastTimestamp_a.other W437 (Or.inr (sn_42 hw))).other W438 (Or.inr (sn_43 hw))).other W462 (Or.inr (sn_44 hw))).other W464 (Or.inr (sn_45 hw)))
                  have ff470 := ((((F_m_dLastValue_a.other W437 (Or.inr (sn_46 hw))).other W438 (Or.inr (sn_47 hw))).other W462 (Or.inr (sn_48 hw))).other W464 (Or.inr (sn_49 hw)))
                  have ff471 := (((F437.other W438 (Or.inr (sn_50 hw))).other W462 (Or.inr (sn_51 hw))).other W464 (Or.inr (sn_52 hw)))
                  have ff472 := ((F438.other W462 (Or.inr (sn_53 hw))).other W464 (Or.inr (sn_54 hw)))
                  have ff473 := (F462.other W464 (Or.inr (sn_55 hw)))
                  exact own_out X464 (v := none) (fun _ => rfl) hlk (fun fs hr => X464.returnOut hx hret (hb hby d_prog_59_22_102) hr) (Q := Q_rm_weigh Z a t d fT fV lT lV bT bV tT tV rw rb rt h0 n0) (by rw [e464]; exact ⟨rfl, N464, K464, ff467, (by rw [if_neg hq2_]; exact ff468), ff469, (by rw [if_neg hq192_]; exact ff470), (by rw [if_pos (Or.inr ⟨hq434_, hq436_⟩)]; exact ff471), (by rw [if_pos (Or.inr ⟨hq434_, hq436_⟩)]; exact ff472), (by rw [if_pos (Or.inr ⟨hq458_, hq461_⟩)]; exact ff473), (by rw [if_pos (Or.inr ⟨hq458_, hq461_⟩)]; exact F464)⟩) (by decide) (by decide)
                · skip
                  refine og T459 (mkF m 102 #[rv a, .val (.long t), .second, .val (.double d), .second] []) (fun t_ k_ => XS.ifYes X459.here hx rfl (pc0 := 89) (pc' := 102) rfl (hb hby d_prog_59_22_89) rfl ((if0 _ _).trans (flt (fun z => hq461_ ((lw_lt _ _).mp z))).2.1) (by decide) (by decide) k_) ?_
                  have ff474 := ((F_m_nFirstTimestamp_a.other W437 (Or.inr (sn_31 hw))).other W438 (Or.inr (sn_32 hw)))
                  have ff475 := ((F_m_dFirstValue_a.other W437 (Or.inr (sn_37 hw))).other W438 (Or.inr (sn_38 hw)))
                  have ff476 := ((F_m_nLastTimestamp_a.other W437 (Or.inr (sn_42 hw))).other W438 (Or.inr (sn_43 hw)))
                  have ff477 := ((F_m_dLastValue_a.other W437 (Or.inr (sn_46 hw))).other W438 (Or.inr (sn_47 hw)))
                  have ff478 := (F437.other W438 (Or.inr (sn_50 hw)))
                  exact own_out X459 (v := none) (fun _ => rfl) hlk (fun fs hr => X459.returnOut hx hret (hb hby d_prog_59_22_102) hr) (Q := Q_rm_weigh Z a t d fT fV lT lV bT bV tT tV rw rb rt h0 n0) (by rw [e459]; exact ⟨rfl, N438, K438, ff474, (by rw [if_neg hq2_]; exact ff475), ff476, (by rw [if_neg hq192_]; exact ff477), (by rw [if_pos (Or.inr ⟨hq434_, hq436_⟩)]; exact ff478), (by rw [if_pos (Or.inr ⟨hq434_, hq436_⟩)]; exact F438), (by rw [if_neg (fun q => q.elim hq443_ (fun q => hq461_ q.2))]; exact ff460), (by rw [if_neg (fun q => q.elim hq443_ (fun q => hq461_ q.2))]; exact ff442)⟩) (by decide) (by decide)
              · skip
                refine og T457 (mkF m 102 #[rv a, .val (.long t), .second, .val (.double d), .second] []) (fun t_ k_ => XS.ifYes X457.here hx rfl (pc0 := 80) (pc' := 102) rfl (hb hby d_prog_59_22_80) rfl ((if0 _ _).trans (feq (fun z => hq458_ ((own_ceq _ _).mp z))).2) (by decide) (by decide) k_) ?_
                have ff479 := ((F_m_nFirstTimestamp_a.other W437 (Or.inr (sn_31 hw))).other W438 (Or.inr (sn_32 hw)))
                have ff480 := ((F_m_dFirstValue_a.other W437 (Or.inr (sn_37 hw))).other W438 (Or.inr (sn_38 hw)))
                have ff481 := ((F_m_nLastTimestamp_a.other W437 (Or.inr (sn_42 hw))).other W438 (Or.inr (sn_43 hw)))
                have ff482 := ((F_m_dLastValue_a.other W437 (Or.inr (sn_46 hw))).other W438 (Or.inr (sn_47 hw)))
                have ff483 := (F437.other W438 (Or.inr (sn_50 hw)))
                have ff484 := ((F_m_nTopTimestamp_a.other W437 (Or.inr (sn_19 hw))).other W438 (Or.inr (sn_20 hw)))
                exact own_out X457 (v := none) (fun _ => rfl) hlk (fun fs hr => X457.returnOut hx hret (hb hby d_prog_59_22_102) hr) (Q := Q_rm_weigh Z a t d fT fV lT lV bT bV tT tV rw rb rt h0 n0) (by rw [e457]; exact ⟨rfl, N438, K438, ff479, (by rw [if_neg hq2_]; exact ff480), ff481, (by rw [if_neg hq192_]; exact ff482), (by rw [if_pos (Or.inr ⟨hq434_, hq436_⟩)]; exact ff483), (by rw [if_pos (Or.inr ⟨hq434_, hq436_⟩)]; exact F438), (by rw [if_neg (fun q => q.elim hq443_ (fun q => hq458_ q.1))]; exact ff484), (by rw [if_neg (fun q => q.elim hq443_ (fun q => hq458_ q.1))]; exact ff442)⟩) (by decide) (by decide)
          · skip
            refine og T435 (mkF m 65 #[rv a, .val (.long t), .second, .val (.double d), .second] []) (fun t_ k_ => XS.ifYes X435.here hx rfl (pc0 := 52) (pc' := 65) rfl (hb hby d_prog_59_22_52) rfl ((if0 _ _).trans (flt (fun z => hq436_ ((lw_lt _ _).mp z))).2.1) (by decide) (by decide) k_) ?_
            refine og T435 (mkF m 66 #[rv a, .val (.long t), .second, .val (.double d), .second] [(.double d)]) (fun t_ k_ => XS.dloadN X435.here hx rfl (hb hby d_prog_59_22_65) rfl k_) ?_
            refine og T435 (mkF m 67 #[rv a, .val (.long t), .second, .val (.double d), .second] [(.ref a), (.double d)]) (fun t_ k_ => XS.aloadN X435.here hx rfl (hb hby d_prog_59_22_66) rfl rfl k_) ?_
            obtain ⟨T485, X485, e485, st485⟩ := getF X435 hx hZ hown (host := "") (Or.inl (own_w hw 47 rfl)) Via.refl e435 F_m_dTopValue_a (g := (mkF m 67 #[rv a, .val (.long t), .second, .val (.double d), .second] [(.ref a), (.double d)])) rfl rfl (hb hby d_prog_59_22_67)
            refine og T485 (mkF m 70 #[rv a, .val (.long t), .second, .val (.double d), .second] [(.double tV), (.double d)]) (fun t_ k_ => st485 _ k_) ?_
            refine og T485 (mkF m 71 #[rv a, .val (.long t), .second, .val (.double d), .second] [(.int (own_cmp rw rt))]) (fun t_ k_ => XS.dcmpS X485.here hx rfl (hb hby d_prog_59_22_70) rfl (own_dc _ D_d D_tV) k_) ?_
            by_cases hq486_ : rt < rw
            · skip
              refine og T485 (mkF m 92 #[rv a, .val (.long t), .second, .val (.double d), .second] []) (fun t_ k_ => XS.ifYes X485.here hx rfl (pc0 := 71) (pc' := 92) rfl (hb hby d_prog_59_22_71) rfl ((if0 _ _).trans (tlt ((own_cgt _ _).mpr hq486_)).2.2.1) (by decide) (by decide) k_) ?_
              refine og T485 (mkF m 93 #[rv a, .val (.long t), .second, .val (.double d), .second] [(.ref a)]) (fun t_ k_ => XS.aloadN X485.here hx rfl (hb hby d_prog_59_22_92) rfl rfl k_) ?_
              refine og T485 (mkF m 94 #[rv a, .val (.long t), .second, .val (.double d), .second] [(.long t), (.ref a)]) (fun t_ k_ => XS.lloadN X485.here hx rfl (hb hby d_prog_59_22_93) rfl k_) ?_
              obtain ⟨T487, h487, X487, e487, W487, st487⟩ := putF X485 hx hZ hown (host := "") (Or.inl (own_w hw 45 rfl)) Via.refl e485 F_m_nTopTimestamp_a E_a (Or.inl (own_w hw 46 rfl)) (own_w hw 14 rfl) (ty := .long) (by decide) rfl rfl (g := (mkF m 94 #[rv a, .val (.long t), .second, .val (.double d), .second] [(.long t), (.ref a)])) rfl rfl (hb hby d_prog_59_22_94)
              have F487 := F_m_nTopTimestamp_a.same W487
              have z487 := W487.size
              have N487 := Fr.snoc X487 N0 (show n0 ≤ a by omega)
              have K487 := (Keep.refl h0 [a]).wr W487 (Or.inl (List.mem_of_getElem? (i := 0) rfl))
              refine og T487 (mkF m 97 #[rv a, .val (.long t), .second, .val (.double d), .second] []) (fun t_ k_ => st487 _ k_) ?_
              refine og T487 (mkF m 98 #[rv a, .val (.long t), .second, .val (.double d), .second] [(.ref a)]) (fun t_ k_ => XS.aloadN X487.here hx rfl (hb hby d_prog_59_22_97) rfl rfl k_) ?_
              refine og T487 (mkF m 99 #[rv a, .val (.long t), .second, .val (.double d), .second] [(.double d), (.ref a)]) (fun t_ k_ => XS.dloadN X487.here hx rfl (hb hby d_prog_59_22_98) rfl k_) ?_
              have ff489 := (F_m_dTopValue_a.other W487 (Or.inr (sn_27 hw)))
              have ff490 := (E_a.wr W487)
              obtain ⟨T488, h488, X488, e488, W488, st488⟩ := putF X487 hx hZ hown (host := "") (Or.inl (own_w hw 47 rfl)) Via.refl e487 ff489 ff490 (Or.inl (own_w hw 48 rfl)) (own_w hw 14 rfl) (ty := .double) (by decide) rfl rfl (g := (mkF m 99 #[rv a, .val (.long t), .second, .val (.double d), .second] [(.double d), (.ref a)])) rfl rfl (hb hby d_prog_59_22_99)
              have F488 := ff489.same W488
              have z488 := W488.size
              have N488 := Fr.snoc X488 N487 (show n0 ≤ a by omega)
              have K488 := K487.wr W488 (Or.inl (List.mem_of_getElem? (i := 0) rfl))
              refine og T488 (mkF m 102 #[rv a, .val (.long t), .second, .val (.double d), .second] []) (fun t_ k_ => st488 _ k_) ?_
              have ff491 := ((F_m_nFirstTimestamp_a.other W487 (Or.inr (sn_33 hw))).other W488 (Or.inr (sn_34 hw)))
              have ff492 := ((F_m_dFirstValue_a.other W487 (Or.inr (sn_39 hw))).other W488 (Or.inr (sn_40 hw)))
              have ff493 := ((F_m_nLastTimestamp_a.other W487 (Or.inr (sn_44 hw))).other W488 (Or.inr (sn_45 hw)))
              have ff494 := ((F_m_dLastValue_a.other W487 (Or.inr (sn_48 hw))).other W488 (Or.inr (sn_49 hw)))
              have ff495 := ((F_m_nBottomTimestamp_a.other W487 (Or.inr (sn_51 hw))).other W488 (Or.inr (sn_52 hw)))
              have ff496 := ((F_m_dBottomValue_a.other W487 (Or.inr (sn_53 hw))).other W488 (Or.inr (sn_54 hw)))
              have ff497 := (F487.other W488 (Or.inr (sn_55 hw)))
              exact own_out X488 (v := none) (fun _ => rfl) hlk (fun fs hr => X488.returnOut hx hret (hb hby d_prog_59_22_102) hr) (Q := Q_rm_weigh Z a t d fT fV lT lV bT bV tT tV rw rb rt h0 n0) (by rw [e488]; exact ⟨rfl, N488, K488, ff491, (by rw [if_neg hq2_]; exact ff492), ff493, (by rw [if_neg hq192_]; exact ff494), (by rw [if_neg (fun q => q.elim hq384_ (fun q => hq436_ q.2))]; exact ff495), (by rw [if_neg (fun q => q.elim hq384_ (fun q => hq436_ q.2))]; exact ff496), (by rw [if_pos (Or.inl hq486_)]; exact ff497), (by rw [if_pos (Or.inl hq486_)]; exact F488)⟩) (by decide) (by decide)
            · skip
              refine og T485 (mkF m 74 #[rv a, .val (.long t), .second, .val (.double d), .second] []) (fun t_ k_ => XS.ifNo X485.here hx rfl (hb hby d_prog_59_22_71) rfl ((if0 _ _).trans (flt (fun z => hq486_ ((own_cgt _ _).mp z))).2.2.1) k_) ?_
              refine og T485 (mkF m 75 #[rv a, .val (.long t), .second, .val (.double d), .second] [(.double d)]) (fun t_ k_ => XS.dloadN X485.here hx rfl (hb hby d_prog_59_22_74) rfl k_) ?_
              refine og T485 (mkF m 76 #[rv a, .val (.long t), .second, .val (.double d), .second] [(.ref a), (.double d)]) (fun t_ k_ => XS.aloadN X485.here hx rfl (hb hby d_prog_59_22_75) rfl rfl k_) ?_
              obtain ⟨T498, X498, e498, st498⟩ := getF X485 hx hZ hown (host := "") (Or.inl (own_w hw 47 rfl)) Via.refl e485 F_m_dTopValue_a (g := (mkF m 76 #[rv a, .val (.long t), .second, .val (.double d), .second] [(.ref a), (.double d)])) rfl rfl (hb hby d_prog_59_22_76)
              refine og T498 (mkF m 79 #[rv a, .val (.long t), .second, .val (.double d), .second] [(.double tV), (.double d)]) (fun t_ k_ => st498 _ k_) ?_
              refine og T498 (mkF m 80 #[rv a, .val (.long t), .second, .val (.double d), .second] [(.int (own_cmp rw rt))]) (fun t_ k_ => XS.dcmpS X498.here hx rfl (hb hby d_prog_59_22_79) rfl (own_dc _ D_d D_tV) k_) ?_
              by_cases hq499_ : rw = rt
              · skip
                refine og T498 (mkF m 83 #[rv a, .val (.long t), .second, .val (.double d), .second] []) (fun t_ k_ => XS.ifNo X498.here hx rfl (hb hby d_prog_59_22_80) rfl ((if0 _ _).trans (teq ((own_ceq _ _).mpr hq499_)).2) k_) ?_
                refine og T498 (mkF m 84 #[rv a, .val (.long t), .second, .val (.double d), .second] [(.long t)]) (fun t_ k_ => XS.lloadN X498.here hx rfl (hb hby d_prog_59_22_83) rfl k_) ?_
                refine og T498 (mkF m 85 #[rv a, .val (.long t), .second, .val (.double d), .second] [(.ref a), (.long t)]) (fun t_ k_ => XS.aloadN X498.here hx rfl (hb hby d_prog_59_22_84) rfl rfl k_) ?_
                obtain ⟨T500, X500, e500, st500⟩ := getF X498 hx hZ hown (host := "") (Or.inl (own_w hw 45 rfl)) Via.refl e498 F_m_nTopTimestamp_a (g := (mkF m 85 #[rv a, .val (.long t), .second, .val (.double d), .second] [(.ref a), (.long t)])) rfl rfl (hb hby d_prog_59_22_85)
                refine og T500 (mkF m 88 #[rv a, .val (.long t), .second, .val (.double d), .second] [(.long tT), (.long t)]) (fun t_ k_ => st500 _ k_) ?_
                refine og T500 (mkF m 89 #[rv a, .val (.long t), .second, .val (.double d), .second] [(.int (lcmpW t tT))]) (fun t_ k_ => XS.lcmp X500.here hx rfl (hb hby d_prog_59_22_88) rfl k_) ?_
                by_cases hq501_ : t < tT
                · skip
                  refine og T500 (mkF m 92 #[rv a, .val (.long t), .second, .val (.double d), .second] []) (fun t_ k_ => XS.ifNo X500.here hx rfl (hb hby d_prog_59_22_89) rfl ((if0 _ _).trans (tlt ((lw_lt _ _).mpr hq501_)).2.1) k_) ?_
                  refine og T500 (mkF m 93 #[rv a, .val (.long t), .second, .val (.double d), .second] [(.ref a)]) (fun t_ k_ => XS.aloadN X500.here hx rfl (hb hby d_prog_59_22_92) rfl rfl k_) ?_
                  refine og T500 (mkF m 94 #[rv a, .val (.long t), .second, .val (.double d), .second] [(.long t), (.ref a)]) (fun t_ k_ => XS.lloadN X500.here hx rfl (hb hby d_prog_59_22_93) rfl k_) ?_
                  obtain ⟨T502, h502, X502, e502, W502, st502⟩ := putF X500 hx hZ hown (host := "") (Or.inl (own_w hw 45 rfl)) Via.refl e500 F_m_nTopTimestamp_a E_a (Or.inl (own_w hw 46 rfl)) (own_w hw 14 rfl) (ty := .long) (by decide) rfl rfl (g := (mkF m 94 #[rv a, .val (.long t), .second, .val (.double d), .second] [(.long t), (.ref a)])) rfl rfl (hb hby d_prog_59_22_94)
                  have F502 := F_m_nTopTimestamp_a.same W502
                  have z502 := W502.size
                  have N502 := Fr.snoc X502 N0 (show n0 ≤ a by omega)
                  have K502 := (Keep.refl h0 [a]).wr W502 (Or.inl (List.mem_of_getElem? (i := 0) rfl))
                  refine og T502 (mkF m 97 #[rv a, .val (.long t), .second, .val (.double d), .second] []) (fun t_ k_ => st502 _ k_) ?_
                  refine og T502 (mkF m 98 #[rv a, .val (.long t), .second, .val (.double d), .second] [(.ref a)]) (fun t_ k_ => XS.aloadN X502.here hx rfl (hb hby d_prog_59_22_97) rfl rfl k_) ?_
                  refine og T502 (mkF m 99 #[rv a, .val (.long t), .second, .val (.double d), .second] [(.double d), (.ref a)]) (fun t_ k_ => XS.dloadN X502.here hx rfl (hb hby d_prog_59_22_98) rfl k_) ?_
                  have ff504 := (F_m_dTopValue_a.other W502 (Or.inr (sn_27 hw)))
                  have ff505 := (E_a.wr W502)
                  obtain ⟨T503, h503, X503, e503, W503, st503⟩ := putF X502 hx hZ hown (host := "") (Or.inl (own_w hw 47 rfl)) Via.refl e502 ff504 ff505 (Or.inl (own_w hw 48 rfl)) (own_w hw 14 rfl) (ty := .double) (by decide) rfl rfl (g := (mkF m 99 #[rv a, .val (.long t), .second, .val (.double d), .second] [(.double d), (.ref a)])) rfl rfl (hb hby d_prog_59_22_99)
                  have F503 := ff504.same W503
                  have z503 := W503.size
                  have N503 := Fr.snoc X503 N502 (show n0 ≤ a by omega)
                  have K503 := K502.wr W503 (Or.inl (List.mem_of_getElem? (i := 0) rfl))
                  refine og T503 (mkF m 102 #[rv a, .val (.long t), .second, .val (.double d), .second] []) (fun t_ k_ => st503 _ k_) ?_
                  have ff506 := ((F_m_nFirstTimestamp_a.other W502 (Or.inr (sn_33 hw))).other W503 (Or.inr (sn_34 hw)))
                  have ff507 := ((F_m_dFirstValue_a.other W502 (Or.inr (sn_39 hw))).other W503 (Or.inr (sn_40 hw)))
                  have ff508 := ((F_m_nLastTimestamp_a.other W502 (Or.inr (sn_44 hw))).other W503 (Or.inr (sn_45 hw)))
                  have ff509 := ((F_m_dLastValue_a.other W502 (Or.inr (sn_48 hw))).other W503 (Or.inr (sn_49 hw)))
                  have ff510 := ((F_m_nBottomTimestamp_a.other W502 (Or.inr (sn_51 hw))).other W503 (Or.inr (sn_52 hw)))
                  have ff511 := ((F_m_dBottomValue_a.other W502 (Or.inr (sn_53 hw))).other W503 (Or.inr (sn_54 hw)))
                  have ff512 := (F502.other W503 (Or.inr (sn_55 hw)))
                  exact own_out X503 (v := none) (fun _ => rfl) hlk (fun fs hr => X503.returnOut hx hret (hb hby d_prog_59_22_102) hr) (Q := Q_rm_weigh Z a t d fT fV lT lV bT bV tT tV rw rb rt h0 n0) (by rw [e503]; exact ⟨rfl, N503, K503, ff506, (by rw [if_neg hq2_]; exact ff507), ff508, (by rw [if_neg hq192_]; exact ff509), (by rw [if_neg (fun q => q.elim hq384_ (fun q => hq436_ q.2))]; exact ff510), (by rw [if_neg (fun q => q.elim hq384_ (fun q => hq436_ q.2))]; exact ff511), (by rw [if_pos (Or.inr ⟨hq499_, hq501_⟩)]; exact ff512), (by rw [if_pos (Or.inr ⟨hq499_, hq501_⟩)]; exact F503)⟩) (by decide) (by decide)
                · skip
                  refine og T500 (mkF m 102 #[rv a, .val (.long t), .second, .val (.double d), .second] []) (fun t_ k_ => XS.ifYes X500.here hx rfl (pc0 := 89) (pc' := 102) rfl (hb hby d_prog_59_22_89) rfl ((if0 _ _).trans (flt (fun z => hq501_ ((lw_lt _ _).mp z))).2.1) (by decide) (by decide) k_) ?_
                  exact own_out X500 (v := none) (fun _ => rfl) hlk (fun fs hr => X500.returnOut hx hret (hb hby d_prog_59_22_102) hr) (Q := Q_rm_weigh Z a t d fT fV lT lV bT bV tT tV rw rb rt h0 n0) (by rw [e500]; exact ⟨rfl, N0, (Keep.refl h0 [a]), F_m_nFirstTimestamp_a, (by rw [if_neg hq2_]; exact F_m_dFirstValue_a), F_m_nLastTimestamp_a, (by rw [if_neg hq192_]; exact F_m_dLastValue_a), (by rw [if_neg (fun q => q.elim hq384_ (fun q => hq436_ q.2))]; exact F_m_nBottomTimestamp_a), (by rw [if_neg (fun q => q.elim hq384_ (fun q => hq436_ q.2))]; exact F_m_dBottomValue_a), (by rw [if_neg (fun q => q.elim hq486_ (fun q => hq501_ q.2))]; exact F_m_nTopTimestamp_a), (by rw [if_neg (fun q => q.elim hq486_ (fun q => hq501_ q.2))]; exact F_m_dTopValue_a)⟩) (by decide) (by decide)
              · skip
                refine og T498 (mkF m 102 #[rv a, .val (.long t), .second, .val (.double d), .second] []) (fun t_ k_ => XS.ifYes X498.here hx rfl (pc0 := 80) (pc' := 102) rfl (hb hby d_prog_59_22_80) rfl ((if0 _ _).trans (feq (fun z => hq499_ ((own_ceq _ _).mp z))).2) (by decide) (by decide) k_) ?_
                exact own_out X498 (v := none) (fun _ => rfl) hlk (fun fs hr => X498.returnOut hx hret (hb hby d_prog_59_22_102) hr) (Q := Q_rm_weigh Z a t d fT fV lT lV bT bV tT tV rw rb rt h0 n0) (by rw [e498]; exact ⟨rfl, N0, (Keep.refl h0 [a]), F_m_nFirstTimestamp_a, (by rw [if_neg hq2_]; exact F_m_dFirstValue_a), F_m_nLastTimestamp_a, (by rw [if_neg hq192_]; exact F_m_dLastValue_a), (by rw [if_neg (fun q => q.elim hq384_ (fun q => hq436_ q.2))]; exact F_m_nBottomTimestamp_a), (by rw [if_neg (fun q => q.elim hq384_ (fun q => hq436_ q.2))]; exact F_m_dBottomValue_a), (by rw [if_neg (fun q => q.elim hq486_ (fun q => hq499_ q.1))]; exact F_m_nTopTimestamp_a), (by rw [if_neg (fun q => q.elim hq486_ (fun q => hq499_ q.1))]; exact F_m_dTopValue_a)⟩) (by decide) (by decide)
        · skip
          refine og T433 (mkF m 65 #[rv a, .val (.long t), .second, .val (.double d), .second] []) (fun t_ k_ => XS.ifYes X433.here hx rfl (pc0 := 43) (pc' := 65) rfl (hb hby d_prog_59_22_43) rfl ((if0 _ _).trans (feq (fun z => hq434_ ((own_ceq _ _).mp z))).2) (by decide) (by decide) k_) ?_
          refine og T433 (mkF m 66 #[rv a, .val (.long t), .second, .val (.double d), .second] [(.double d)]) (fun t_ k_ => XS.dloadN X433.here hx rfl (hb hby d_prog_59_22_65) rfl k_) ?_
          refine og T433 (mkF m 67 #[rv a, .val (.long t), .second, .val (.double d), .second] [(.ref a), (.double d)]) (fun t_ k_ => XS.aloadN X433.here hx rfl (hb hby d_prog_59_22_66) rfl rfl k_) ?_
          obtain ⟨T513, X513, e513, st513⟩ := getF X433 hx hZ hown (host := "") (Or.inl (own_w hw 47 rfl)) Via.refl e433 F_m_dTopValue_a (g := (mkF m 67 #[rv a, .val (.long t), .second, .val (.double d), .second] [(.ref a), (.double d)])) rfl rfl (hb hby d_prog_59_22_67)
          refine og T513 (mkF m 70 #[rv a, .val (.long t), .second, .val (.double d), .second] [(.double tV), (.double d)]) (fun t_ k_ => st513 _ k_) ?_
          refine og T513 (mkF m 71 #[rv a, .val (.long t), .second, .val (.double d), .second] [(.int (own_cmp rw rt))]) (fun t_ k_ => XS.dcmpS X513.here hx rfl (hb hby d_prog_59_22_70) rfl (own_dc _ D_d D_tV) k_) ?_
          by_cases hq514_ : rt < rw
          · skip
            refine og T513 (mkF m 92 #[rv a, .val (.long t), .second, .val (.double d), .second] []) (fun t_ k_ => XS.ifYes X513.here hx rfl (pc0 := 71) (pc' := 92) rfl (hb hby d_prog_59_22_71) rfl ((if0 _ _).trans (tlt ((own_cgt _ _).mpr hq514_)).2.2.1) (by decide) (by decide) k_) ?_
            refine og T513 (mkF m 93 #[rv a, .val (.long t), .second, .val (.double d), .second] [(.ref a)]) (fun t_ k_ => XS.aloadN X513.here hx rfl (hb hby d_prog_59_22_92) rfl rfl k_) ?_
            refine og T513 (mkF m 94 #[rv a, .val (.long t), .second, .val (.double d), .second] [(.long t), (.ref a)]) (fun t_ k_ => XS.lloadN X513.here hx rfl (hb hby d_prog_59_22_93) rfl k_) ?_
            obtain ⟨T515, h515, X515, e515, W515, st515⟩ := putF X513 hx hZ hown (host := "") (Or.inl (own_w hw 45 rfl)) Via.refl e513 F_m_nTopTimestamp_a E_a (Or.inl (own_w hw 46 rfl)) (own_w hw 14 rfl) (ty := .long) (by decide) rfl rfl (g := (mkF m 94 #[rv a, .val (.long t), .second, .val (.double d), .second] [(.long t), (.ref a)])) rfl rfl (hb hby d_prog_59_22_94)
            have F515 := F_m_nTopTimestamp_a.same W515
            have z515 := W515.size
            have N515 := Fr.snoc X515 N0 (show n0 ≤ a by omega)
            have K515 := (Keep.refl h0 [a]).wr W515 (Or.inl (List.mem_of_getElem? (i := 0) rfl))
            refine og T515 (mkF m 97 #[rv a, .val (.long t), .second, .val (.double d), .second] []) (fun t_ k_ => st515 _ k_) ?_
            refine og T515 (mkF m 98 #[rv a, .val (.long t), .second, .val (.double d), .second] [(.ref a)]) (fun t_ k_ => XS.aloadN X515.here hx rfl (hb hby d_prog_59_22_97) rfl rfl k_) ?_
            refine og T515 (mkF m 99 #[rv a, .val (.long t), .second, .val (.double d), .second] [(.double d), (.ref a)]) (fun t_ k_ => XS.dloadN X515.here hx rfl (hb hby d_prog_59_22_98) rfl k_) ?_
            have ff517 := (F_m_dTopValue_a.other W515 (Or.inr (sn_27 hw)))
            have ff518 := (E_a.wr W515)
            obtain ⟨T516, h516, X516, e516, W516, st516⟩ := putF X515 hx hZ hown (host := "") (Or.inl (own_w hw 47 rfl)) Via.refl e515 ff517 ff518 (Or.inl (own_w hw 48 rfl)) (own_w hw 14 rfl) (ty := .double) (by decide) rfl rfl (g := (mkF m 99 #[rv a, .val (.long t), .second, .val (.double d), .second] [(.double d), (.ref a)])) rfl rfl (hb hby d_prog_59_22_99)
            have F516 := ff517.same W516
            have z516 := W516.size
            have N516 := Fr.snoc X516 N515 (show n0 ≤ a by omega)
            have K516 := K515.wr W516 (Or.inl (List.mem_of_getElem? (i := 0) rfl))
            refine og T516 (mkF m 102 #[rv a, .val (.long t), .second, .val (.double d), .second] []) (fun t_ k_ => st516 _ k_) ?_
            have ff519 := ((F_m_nFirstTimestamp_a.other W515 (Or.inr (sn_33 hw))).other W516 (Or.inr (sn_34 hw)))
            have ff520 := ((F_m_dFirstValue_a.other W515 (Or.inr (sn_39 hw))).other W516 (Or.inr (sn_40 hw)))
            have ff521 := ((F_m_nLastTimestamp_a.other W515 (Or.inr (sn_44 hw))).other W516 (Or.inr (sn_45 hw)))
            have ff522 := ((F_m_dLastValue_a.other W515 (Or.inr (sn_48 hw))).other W516 (Or.inr (sn_49 hw)))
            have ff523 := ((F_m_nBottomTimestamp_a.other W515 (Or.inr (sn_51 hw))).other W516 (Or.inr (sn_52 hw)))
            have ff524 := ((F_m_dBottomValue_a.other W515 (Or.inr (sn_53 hw))).other W516 (Or.inr (sn_54 hw)))
            have ff525 := (F515.other W516 (Or.inr (sn_55 hw)))
            exact own_out X516 (v := none) (fun _ => rfl) hlk (fun fs hr => X516.returnOut hx hret (hb hby d_prog_59_22_102) hr) (Q := Q_rm_weigh Z a t d fT fV lT lV bT bV tT tV rw rb rt h0 n0) (by rw [e516]; exact ⟨rfl, N516, K516, ff519, (by rw [if_neg hq2_]; exact ff520), ff521, (by rw [if_neg hq192_]; exact ff522), (by rw [if_neg (fun q => q.elim hq384_ (fun q => hq434_ q.1))]; exact ff523), (by rw [if_neg (fun q => q.elim hq384_ (fun q => hq434_ q.1))]; exact ff524), (by rw [if_pos (Or.inl hq514_)]; exact ff525), (by rw [if_pos (Or.inl hq514_)]; exact F516)⟩) (by decide) (by decide)
          · skip
            refine og T513 (mkF m 74 #[rv a, .val (.long t), .second, .val (.double d), .second] []) (fun t_ k_ => XS.ifNo X513.here hx rfl (hb hby d_prog_59_22_71) rfl ((if0 _ _).trans (flt (fun z => hq514_ ((own_cgt _ _).mp z))).2.2.1) k_) ?_
            refine og T513 (mkF m 75 #[rv a, .val (.long t), .second, .val (.double d), .second] [(.double d)]) (fun t_ k_ => XS.dloadN X513.here hx rfl (hb hby d_prog_59_22_74) rfl k_) ?_
            refine og T513 (mkF m 76 #[rv a, .val (.long t), .second, .val (.double d), .second] [(.ref a), (.double d)]) (fun t_ k_ => XS.aloadN X513.here hx rfl (hb hby d_prog_59_22_75) rfl rfl k_) ?_
            obtain ⟨T526, X526, e526, st526⟩ := getF X513 hx hZ hown (host := "") (Or.inl (own_w hw 47 rfl)) Via.refl e513 F_m_dTopValue_a (g := (mkF m 76 #[rv a, .val (.long t), .second, .val (.double d), .second] [(.ref a), (.double d)])) rfl rfl (hb hby d_prog_59_22_76)
            refine og T526 (mkF m 79 #[rv a, .val (.long t), .second, .val (.double d), .second] [(.double tV), (.double d)]) (fun t_ k_ => st526 _ k_) ?_
            refine og T526 (mkF m 80 #[rv a, .val (.long t), .second, .val (.double d), .second] [(.int (own_cmp rw rt))]) (fun t_ k_ => XS.dcmpS X526.here hx rfl (hb hby d_prog_59_22_79) rfl (own_dc _ D_d D_tV) k_) ?_
            by_cases hq527_ : rw = rt
            · skip
              refine og T526 (mkF m 83 #[rv a, .val (.long t), .second, .val (.double d), .second] []) (fun t_ k_ => XS.ifNo X526.here hx rfl (hb hby d_prog_59_22_80) rfl ((if0 _ _).trans (teq ((own_ceq _ _).mpr hq527_)).2) k_) ?_
              refine og T526 (mkF m 84 #[rv a, .val (.long t), .second, .val (.double d), .second] [(.long t)]) (fun t_ k_ => XS.lloadN X526.here hx rfl (hb hby d_prog_59_22_83) rfl k_) ?_
              refine og T526 (mkF m 85 #[rv a, .val (.long t), .second, .val (.double d), .second] [(.ref a), (.long t)]) (fun t_ k_ => XS.aloadN X526.here hx rfl (hb hby d_prog_59_22_84) rfl rfl k_) ?_
              obtain ⟨T528, X528, e528, st528⟩ := getF X526 hx hZ hown (host := "") (Or.inl (own_w hw 45 rfl)) Via.refl e526 F_m_nTopTimestamp_a (g := (mkF m 85 #[rv a, .val (.long t), .second, .val (.double d), .second] [(.ref a), (.long t)])) rfl rfl (hb hby d_prog_59_22_85)
              refine og T528 (mkF m 88 #[rv a, .val (.long t), .second, .val (.double d), .second] [(.long tT), (.long t)]) (fun t_ k_ => st528 _ k_) ?_
              refine og T528 (mkF m 89 #[rv a, .val (.long t), .second, .val (.double d), .second] [(.int (lcmpW t tT))]) (fun t_ k_ => XS.lcmp X528.here hx rfl (hb hby d_prog_59_22_88) rfl k_) ?_
              by_cases hq529_ : t < tT
              · skip
                refine og T528 (mkF m 92 #[rv a, .val (.long t), .second, .val (.double d), .second] []) (fun t_ k_ => XS.ifNo X528.here hx rfl (hb hby d_prog_59_22_89) rfl ((if0 _ _).trans (tlt ((lw_lt _ _).mpr hq529_)).2.1) k_) ?_
                refine og T528 (mkF m 93 #[rv a, .val (.long t), .second, .val (.double d), .second] [(.ref a)]) (fun t_ k_ => XS.aloadN X528.here hx rfl (hb hby d_prog_59_22_92) rfl rfl k_) ?_
                refine og T528 (mkF m 94 #[rv a, .val (.long t), .second, .val (.double d), .second] [(.long t), (.ref a)]) (fun t_ k_ => XS.lloadN X528.here hx rfl (hb hby d_prog_59_22_93) rfl k_) ?_
                obtain ⟨T530, h530, X530, e530, W530, st530⟩ := putF X528 hx hZ hown (host := "") (Or.inl (own_w hw 45 rfl)) Via.refl e528 F_m_nTopTimestamp_a E_a (Or.inl (own_w hw 46 rfl)) (own_w hw 14 rfl) (ty := .long) (by decide) rfl rfl (g := (mkF m 94 #[rv a, .val (.long t), .second, .val (.double d), .second] [(.long t), (.ref a)])) rfl rfl (hb hby d_prog_59_22_94)
                have F530 := F_m_nTopTimestamp_a.same W530
                have z530 := W530.size
                have N530 := Fr.snoc X530 N0 (show n0 ≤ a by omega)
                have K530 := (Keep.refl h0 [a]).wr W530 (Or.inl (List.mem_of_getElem? (i := 0) rfl))
                refine og T530 (mkF m 97 #[rv a, .val (.long t), .second, .val (.double d), .second] []) (fun t_ k_ => st530 _ k_) ?_
                refine og T530 (mkF m 98 #[rv a, .val (.long t), .second, .val (.double d), .second] [(.ref a)]) (fun t_ k_ => XS.aloadN X530.here hx rfl (hb hby d_prog_59_22_97) rfl rfl k_) ?_
                refine og T530 (mkF m 99 #[rv a, .val (.long t), .second, .val (.double d), .second] [(.double d), (.ref a)]) (fun t_ k_ => XS.dloadN X530.here hx rfl (hb hby d_prog_59_22_98) rfl k_) ?_
                have ff532 := (F_m_dTopValue_a.other W530 (Or.inr (sn_27 hw)))
                have ff533 := (E_a.wr W530)
                obtain ⟨T531, h531, X531, e531, W531, st531⟩ := putF X530 hx hZ hown (host := "") (Or.inl (own_w hw 47 rfl)) Via.refl e530 ff532 ff533 (Or.inl (own_w hw 48 rfl)) (own_w hw 14 rfl) (ty := .double) (by decide) rfl rfl (g := (mkF m 99 #[rv a, .val (.long t), .second, .val (.double d), .second] [(.double d), (.ref a)])) rfl rfl (hb hby d_prog_59_22_99)
                have F531 := ff532.same W531
                have z531 := W531.size
                have N531 := Fr.snoc X531 N530 (show n0 ≤ a by omega)
                have K531 := K530.wr W531 (Or.inl (List.mem_of_getElem? (i := 0) rfl))
                refine og T531 (mkF m 102 #[rv a, .val (.long t), .second, .val (.double d), .second] []) (fun t_ k_ => st531 _ k_) ?_
                have ff534 := ((F_m_nFirstTimestamp_a.other W530 (Or.inr (sn_33 hw))).other W531 (Or.inr (sn_34 hw)))
                have ff535 := ((F_m_dFirstValue_a.other W530 (Or.inr (sn_39 hw))).other W531 (Or.inr (sn_40 hw)))
                have ff536 := ((F_m_nLastTimestamp_a.other W530 (Or.inr (sn_44 hw))).other W531 (Or.inr (sn_45 hw)))
                have ff537 := ((F_m_dLastValue_a.other W530 (Or.inr (sn_48 hw))).other W531 (Or.inr (sn_49 hw)))
                have ff538 := ((F_m_nBottomTimestamp_a.other W530 (Or.inr (sn_51 hw))).other W531 (Or.inr (sn_52 hw)))
                have ff539 := ((F_m_dBottomValue_a.other W530 (Or.inr (sn_53 hw))).other W531 (Or.inr (sn_54 hw)))
                have ff540 := (F530.other W531 (Or.inr (sn_55 hw)))
                exact own_out X531 (v := none) (fun _ => rfl) hlk (fun fs hr => X531.returnOut hx hret (hb hby d_prog_59_22_102) hr) (Q := Q_rm_weigh Z a t d fT fV lT lV bT bV tT tV rw rb rt h0 n0) (by rw [e531]; exact ⟨rfl, N531, K531, ff534, (by rw [if_neg hq2_]; exact ff535), ff536, (by rw [if_neg hq192_]; exact ff537), (by rw [if_neg (fun q => q.elim hq384_ (fun q => hq434_ q.1))]; exact ff538), (by rw [if_neg (fun q => q.elim hq384_ (fun q => hq434_ q.1))]; exact ff539), (by rw [if_pos (Or.inr ⟨hq527_, hq529_⟩)]; exact ff540), (by rw [if_pos (Or.inr ⟨hq527_, hq529_⟩)]; exact F531)⟩) (by decide) (by decide)
              · skip
                refine og T528 (mkF m 102 #[rv a, .val (.long t), .second, .val (.double d), .second] []) (fun t_ k_ => XS.ifYes X528.here hx rfl (pc0 := 89) (pc' := 102) rfl (hb hby d_prog_59_22_89) rfl ((if0 _ _).trans (flt (fun z => hq529_ ((lw_lt _ _).mp z))).2.1) (by decide) (by decide) k_) ?_
                exact own_out X528 (v := none) (fun _ => rfl) hlk (fun fs hr => X528.returnOut hx hret (hb hby d_prog_59_22_102) hr) (Q := Q_rm_weigh Z a t d fT fV lT lV bT bV tT tV rw rb rt h0 n0) (by rw [e528]; exact ⟨rfl, N0, (Keep.refl h0 [a]), F_m_nFirstTimestamp_a, (by rw [if_neg hq2_]; exact F_m_dFirstValue_a), F_m_nLastTimestamp_a, (by rw [if_neg hq192_]; exact F_m_dLastValue_a), (by rw [if_neg (fun q => q.elim hq384_ (fun q => hq434_ q.1))]; exact F_m_nBottomTimestamp_a), (by rw [if_neg (fun q => q.elim hq384_ (fun q => hq434_ q.1))]; exact F_m_dBottomValue_a), (by rw [if_neg (fun q => q.elim hq514_ (fun q => hq529_ q.2))]; exact F_m_nTopTimestamp_a), (by rw [if_neg (fun q => q.elim hq514_ (fun q => hq529_ q.2))]; exact F_m_dTopValue_a)⟩) (by decide) (by decide)
            · skip
              refine og T526 (mkF m 102 #[rv a, .val (.long t), .second, .val (.double d), .second] []) (fun t_ k_ => XS.ifYes X526.here hx rfl (pc0 := 80) (pc' := 102) rfl (hb hby d_prog_59_22_80) rfl ((if0 _ _).trans (feq (fun z => hq527_ ((own_ceq _ _).mp z))).2) (by decide) (by decide) k_) ?_
              exact own_out X526 (v := none) (fun _ => rfl) hlk (fun fs hr => X526.returnOut hx hret (hb hby d_prog_59_22_102) hr) (Q := Q_rm_weigh Z a t d fT fV lT lV bT bV tT tV rw rb rt h0 n0) (by rw [e526]; exact ⟨rfl, N0, (Keep.refl h0 [a]), F_m_nFirstTimestamp_a, (by rw [if_neg hq2_]; exact F_m_dFirstValue_a), F_m_nLastTimestamp_a, (by rw [if_neg hq192_]; exact F_m_dLastValue_a), (by rw [if_neg (fun q => q.elim hq384_ (fun q => hq434_ q.1))]; exact F_m_nBottomTimestamp_a), (by rw [if_neg (fun q => q.elim hq384_ (fun q => hq434_ q.1))]; exact F_m_dBottomValue_a), (by rw [if_neg (fun q => q.elim hq514_ (fun q => hq527_ q.1))]; exact F_m_nTopTimestamp_a), (by rw [if_neg (fun q => q.elim hq514_ (fun q => hq527_ q.1))]; exact F_m_dTopValue_a)⟩) (by decide) (by decide)
theorem d_jdk_117_6_0 : decode jdk_117_method_6_code 0 = .ok (.dload_n 0, 1) := by decide +kernel
theorem d_jdk_117_6_1 : decode jdk_117_method_6_code 1 = .ok (.dload_n 0, 1) := by decide +kernel
theorem d_jdk_117_6_2 : decode jdk_117_method_6_code 2 = .ok (.dcmp .l, 1) := by decide +kernel
theorem d_jdk_117_6_3 : decode jdk_117_method_6_code 3 = .ok (.ifCond .eq 7, 3) := by decide +kernel
theorem d_jdk_117_6_10 : decode jdk_117_method_6_code 10 = .ok (.iconst 0, 1) := by decide +kernel
theorem d_jdk_117_6_11 : decode jdk_117_method_6_code 11 = .ok (.ireturn, 1) := by decide +kernel
theorem pn_2 : plainName "java/lang/Double" = true := by first | (simp [plainName, overriddenIn]; done) | decide +kernel
theorem ef_8 (m : MethodId) (d : UInt64) : entryFrame m #[(.double d)] 2 = mkF m 0 #[.val (.double d), .second] [] := by first | (simp [entryFrame, mkF, argsToLocals, Value.category]; done) | rfl
abbrev ym_8 : MethodName := ⟨"java/lang/Double", "isNaN", "(D)Z"⟩
def Q_rm_nan (Z : State) (d : UInt64) (r : Int) (h0 : Heap) (n0 : Nat) (vv : Option Value) (h : Heap) (LL : List Loc) : Prop := vv = some (.int 0) ∧ Fr n0 LL ∧ h = h0
set_option maxRecDepth 65536 in
set_option maxHeartbeats 40000000 in
theorem rm_nan (l : Launch) (Z : State) (a0 : Array Value) (hw : ∀ d ∈ tables_1, d.before a0 Z = true) (ws : List Jvm.Cond) (d : UInt64) (r : Int) (h0 : Heap) (n0 : Nat) (Z0 : n0 ≤ h0.size) (D_d : own_D d r) :
    own_MF l ym_8 jdk_117_method_6_code 2 (some .boolean) ⟨0, 0, 0, 0⟩ ws Z #[(.double d)] h0 (Q_rm_nan Z d r h0 n0) := by
  refine own_begin (plainFor_of_name pn_2) (fun m => ef_8 m d) ?_
  intro p e s m below meth c s₁ hret hx hby hml hown hnm hlk X0 e0 hh hZ
  have N0 := Fr.nil n0
  refine og s₁ (mkF m 1 #[.val (.double d), .second] [(.double d)]) (fun t_ k_ => XS.dloadN X0.here hx rfl (hb hby d_jdk_117_6_0) rfl k_) ?_
  refine og s₁ (mkF m 2 #[.val (.double d), .second] [(.double d), (.double d)]) (fun t_ k_ => XS.dloadN X0.here hx rfl (hb hby d_jdk_117_6_1) rfl k_) ?_
  refine og s₁ (mkF m 3 #[.val (.double d), .second] [(.int (own_cmp r r))]) (fun t_ k_ => XS.dcmpS X0.here hx rfl (hb hby d_jdk_117_6_2) rfl (own_dc _ D_d D_d) k_) ?_
  refine og s₁ (mkF m 10 #[.val (.double d), .second] []) (fun t_ k_ => XS.ifYes X0.here hx rfl (pc0 := 3) (pc' := 10) rfl (hb hby d_jdk_117_6_3) rfl ((if0 _ _).trans (teq ((own_ceq _ _).mpr rfl)).1) (by decide) (by decide) k_) ?_
  refine og s₁ (mkF m 11 #[.val (.double d), .second] [(.int 0)]) (fun t_ k_ => XS.iconst X0.here hx rfl (hb hby d_jdk_117_6_10) k_) ?_
  exact own_out X0 (v := some (.int (nar .boolean (0 : Int32)))) (fun h => by rw [hret] at h; cases h) hlk (fun fs hr => retN X0 hx (t := .boolean) hret (by simp) (hb hby d_jdk_117_6_11) hr) (Q := Q_rm_nan Z d r h0 n0) (by rw [e0]; exact ⟨rfl, N0, rfl⟩) (by decide) (by decide)
theorem d_jdk_117_23_0 : decode jdk_117_method_23_code 0 = .ok (.dload_n 0, 1) := by decide +kernel
theorem d_jdk_117_23_1 : decode jdk_117_method_23_code 1 = .ok (.invokestatic 122, 3) := by decide +kernel
theorem pd_0 : parseMethodDescriptor "(D)Z" = some ⟨[.double], some .boolean⟩ := by decide +kernel
theorem d_jdk_117_23_4 : decode jdk_117_method_23_code 4 = .ok (.ifCond .ne 8, 3) := by decide +kernel
theorem d_jdk_117_23_7 : decode jdk_117_method_23_code 7 = .ok (.dload_n 0, 1) := by decide +kernel
theorem d_jdk_117_23_8 : decode jdk_117_method_23_code 8 = .ok (.invokestatic 134, 3) := by decide +kernel
theorem d_jdk_117_23_11 : decode jdk_117_method_23_code 11 = .ok (.lreturn, 1) := by decide +kernel
theorem ef_9 (m : MethodId) (d : UInt64) : entryFrame m #[(.double d)] 2 = mkF m 0 #[.val (.double d), .second] [] := by first | (simp [entryFrame, mkF, argsToLocals, Value.category]; done) | rfl
abbrev ym_9 : MethodName := ⟨"java/lang/Double", "doubleToLongBits", "(D)J"⟩
def Q_rm_bits (Z : State) (d : UInt64) (r : Int) (h0 : Heap) (n0 : Nat) (vv : Option Value) (h : Heap) (LL : List Loc) : Prop := vv = some (.long d.toInt64) ∧ Fr n0 LL ∧ h = h0
set_option maxRecDepth 65536 in
set_option maxHeartbeats 40000000 in
theorem rm_bits (l : Launch) (Z : State) (a0 : Array Value) (hw : ∀ d ∈ tables_1, d.before a0 Z = true) (ws : List Jvm.Cond) (d : UInt64) (r : Int) (h0 : Heap) (n0 : Nat) (Z0 : n0 ≤ h0.size) (D_d : own_D d r) :
    own_MF l ym_9 jdk_117_method_23_code 2 (some .long) ⟨1, 0, 0, 40⟩ ws Z #[(.double d)] h0 (Q_rm_bits Z d r h0 n0) := by
  refine own_begin (plainFor_of_name pn_2) (fun m => ef_9 m d) ?_
  intro p e s m below meth c s₁ hret hx hby hml hown hnm hlk X0 e0 hh hZ
  have N0 := Fr.nil n0
  refine og s₁ (mkF m 1 #[.val (.double d), .second] [(.double d)]) (fun t_ k_ => XS.dloadN X0.here hx rfl (hb hby d_jdk_117_23_0) rfl k_) ?_
  obtain ⟨_, _, ⟨T1, L1, k1, n1⟩, -, X1, ⟨Lc1, hQ1, l1, y1, z1⟩, st1⟩ := Jvm.LawKit.callS X0 hx (y := ym_8) hown (mvT hZ (own_w hw 68 rfl)) (mvT hZ (own_w hw 69 rfl)) (mvT hZ (own_w hw 63 rfl)) (mvT hZ (own_w hw 70 rfl)) (by decide) (backOf (W := 0) (rm_nan l Z a0 hw [] d r h0 n0 (show n0 ≤ h0.size by omega) D_d) hZ (own_w hw 70 rfl) (own_w hw 63 rfl) (by decide) (by decide)) (g := (mkF m 1 #[.val (.double d), .second] [(.double d)])) rfl (by rw [hml]; rfl) (argsL := [(.double d)]) (rest := []) (lenOf pd_0 rfl) rfl (by show 2 * 0 + _ ≤ _; exact Nat.le_of_eq rfl) (hb hby d_jdk_117_23_1) (fun _ _ => ⟨rfl, e0, (by decide : 0 + 0 ≤ _), (by decide : 0 + 0 ≤ _)⟩)
  dsimp only [Pt.U, Pt.locs, Pt.cells, Pt.slots] at X1 l1 y1 z1 st1 hQ1
  replace l1 := l1.symm; replace y1 := y1.symm; replace z1 := z1.symm; subst l1 y1 z1
  obtain ⟨rfl, M1, e1⟩ := hQ1
  have N1 := Fr.app N0 M1
  refine og T1 (mkF m 4 #[.val (.double d), .second] [(.int 0)]) (fun t_ k_ => st1 _ k_) ?_
  refine og T1 (mkF m 7 #[.val (.double d), .second] []) (fun t_ k_ => XS.ifNo X1.here hx rfl (hb hby d_jdk_117_23_4) rfl ((if0 _ _).trans (teq (by decide)).2) k_) ?_
  refine og T1 (mkF m 8 #[.val (.double d), .second] [(.double d)]) (fun t_ k_ => XS.dloadN X1.here hx rfl (hb hby d_jdk_117_23_7) rfl k_) ?_
  obtain ⟨vm2, X2, st2⟩ := X1.doubleToRawLongBits hx hown (mvT hZ (own_w hw 71 rfl)) (mvT hZ (own_w hw 73 rfl)) (mvT hZ (own_w hw 72 rfl)) (mvT hZ (own_w hw 63 rfl)) (g := (mkF m 8 #[.val (.double d), .second] [(.double d)])) rfl (by rw [hml]; rfl) rfl (hb hby d_jdk_117_23_8) (by decide) (Nat.le_of_ble_eq_true rfl)
  have e2 : (T1.setVm vm2).heap = h0 := e1
  refine og (T1.setVm vm2) (mkF m 11 #[.val (.double d), .second] [(.long d.toInt64)]) (fun t_ k_ => st2 _ k_) ?_
  exact own_out X2 (v := some (.long d.toInt64)) (fun h => by rw [hret] at h; cases h) hlk (fun fs hr => own_retJ X2 hx hret (hb hby d_jdk_117_23_11) hr) (Q := Q_rm_bits Z d r h0 n0) (by rw [e2]; exact ⟨rfl, N1, rfl⟩) (by decide) (by decide)
theorem d_jdk_117_27_0 : decode jdk_117_method_27_code 0 = .ok (.dload_n 0, 1) := by decide +kernel
theorem d_jdk_117_27_1 : decode jdk_117_method_27_code 1 = .ok (.dload_n 2, 1) := by decide +kernel
theorem d_jdk_117_27_2 : decode jdk_117_method_27_code 2 = .ok (.dcmp .g, 1) := by decide +kernel
theorem d_jdk_117_27_3 : decode jdk_117_method_27_code 3 = .ok (.ifCond .ge 5, 3) := by decide +kernel
theorem d_jdk_117_27_8 : decode jdk_117_method_27_code 8 = .ok (.dload_n 0, 1) := by decide +kernel
theorem d_jdk_117_27_9 : decode jdk_117_method_27_code 9 = .ok (.dload_n 2, 1) := by decide +kernel
theorem d_jdk_117_27_10 : decode jdk_117_method_27_code 10 = .ok (.dcmp .l, 1) := by decide +kernel
theorem d_jdk_117_27_11 : decode jdk_117_method_27_code 11 = .ok (.ifCond .le 5, 3) := by decide +kernel
theorem d_jdk_117_27_16 : decode jdk_117_method_27_code 16 = .ok (.dload_n 0, 1) := by decide +kernel
theorem d_jdk_117_27_17 : decode jdk_117_method_27_code 17 = .ok (.invokestatic 46, 3) := by decide +kernel
theorem pd_1 : parseMethodDescriptor "(D)J" = some ⟨[.double], some .long⟩ := by decide +kernel
theorem d_jdk_117_27_20 : decode jdk_117_method_27_code 20 = .ok (.lstore 4, 2) := by decide +kernel
theorem d_jdk_117_27_22 : decode jdk_117_method_27_code 22 = .ok (.dload_n 2, 1) := by decide +kernel
theorem d_jdk_117_27_23 : decode jdk_117_method_27_code 23 = .ok (.invokestatic 46, 3) := by decide +kernel
theorem d_jdk_117_27_26 : decode jdk_117_method_27_code 26 = .ok (.lstore 6, 2) := by decide +kernel
theorem d_jdk_117_27_28 : decode jdk_117_method_27_code 28 = .ok (.lload 4, 2) := by decide +kernel
theorem d_jdk_117_27_30 : decode jdk_117_method_27_code 30 = .ok (.lload 6, 2) := by decide +kernel
theorem d_jdk_117_27_32 : decode jdk_117_method_27_code 32 = .ok (.lcmp, 1) := by decide +kernel
theorem d_jdk_117_27_33 : decode jdk_117_method_27_code 33 = .ok (.ifCond .ne 7, 3) := by decide +kernel
theorem d_jdk_117_27_36 : decode jdk_117_method_27_code 36 = .ok (.iconst 0, 1) := by decide +kernel
theorem d_jdk_117_27_37 : decode jdk_117_method_27_code 37 = .ok (.goto 16, 3) := by decide +kernel
theorem d_jdk_117_27_53 : decode jdk_117_method_27_code 53 = .ok (.ireturn, 1) := by decide +kernel
theorem ef_10 (m : MethodId) (d : UInt64) (d2 : UInt64) : entryFrame m #[(.double d), (.double d2)] 8 = mkF m 0 #[.val (.double d), .second, .val (.double d2), .second, .unset, .unset, .unset, .unset] [] := by first | (simp [entryFrame, mkF, argsToLocals, Value.category]; done) | rfl
abbrev ym_10 : MethodName := ⟨"java/lang/Double", "compare", "(DD)I"⟩
def Q_rm_cmp (Z : State) (d : UInt64) (d2 : UInt64) (r : Int) (h0 : Heap) (n0 : Nat) (vv : Option Value) (h : Heap) (LL : List Loc) : Prop := vv = some (.int 0) ∧ Fr n0 LL ∧ h = h0
set_option maxRecDepth 65536 in
set_option maxHeartbeats 40000000 in
theorem rm_cmp (l : Launch) (Z : State) (a0 : Array Value) (hw : ∀ d ∈ tables_1, d.before a0 Z = true) (ws : List Jvm.Cond) (d : UInt64) (d2 : UInt64) (r : Int) (h0 : Heap) (n0 : Nat) (Z0 : n0 ≤ h0.size) (D_d : own_D d r) (D_d2 : own_D d2 r) (he : d.toInt64 = d2.toInt64) :
    own_MF l ym_10 jdk_117_method_27_code 8 (some .int) ⟨2, 0, 0, 53⟩ ws Z #[(.double d), (.double d2)] h0 (Q_rm_cmp Z d d2 r h0 n0) := by
  refine own_begin (plainFor_of_name pn_2) (fun m => ef_10 m d d2) ?_
  intro p e s m below meth c s₁ hret hx hby hml hown hnm hlk X0 e0 hh hZ
  have N0 := Fr.nil n0
  refine og s₁ (mkF m 1 #[.val (.double d), .second, .val (.double d2), .second, .unset, .unset, .unset, .unset] [(.double d)]) (fun t_ k_ => XS.dloadN X0.here hx rfl (hb hby d_jdk_117_27_0) rfl k_) ?_
  refine og s₁ (mkF m 2 #[.val (.double d), .second, .val (.double d2), .second, .unset, .unset, .unset, .unset] [(.double d2), (.double d)]) (fun t_ k_ => XS.dloadN X0.here hx rfl (hb hby d_jdk_117_27_1) rfl k_) ?_
  refine og s₁ (mkF m 3 #[.val (.double d), .second, .val (.double d2), .second, .unset, .unset, .unset, .unset] [(.int (own_cmp r r))]) (fun t_ k_ => XS.dcmpS X0.here hx rfl (hb hby d_jdk_117_27_2) rfl (own_dc _ D_d D_d2) k_) ?_
  refine og s₁ (mkF m 8 #[.val (.double d), .second, .val (.double d2), .second, .unset, .unset, .unset, .unset] []) (fun t_ k_ => XS.ifYes X0.here hx rfl (pc0 := 3) (pc' := 8) rfl (hb hby d_jdk_117_27_3) rfl ((if0 _ _).trans (flt (fun z => (Int.lt_irrefl r) ((own_clt _ _).mp z))).2.1) (by decide) (by decide) k_) ?_
  refine og s₁ (mkF m 9 #[.val (.double d), .second, .val (.double d2), .second, .unset, .unset, .unset, .unset] [(.double d)]) (fun t_ k_ => XS.dloadN X0.here hx rfl (hb hby d_jdk_117_27_8) rfl k_) ?_
  refine og s₁ (mkF m 10 #[.val (.double d), .second, .val (.double d2), .second, .unset, .unset, .unset, .unset] [(.double d2), (.double d)]) (fun t_ k_ => XS.dloadN X0.here hx rfl (hb hby d_jdk_117_27_9) rfl k_) ?_
  refine og s₁ (mkF m 11 #[.val (.double d), .second, .val (.double d2), .second, .unset, .unset, .unset, .unset] [(.int (own_cmp r r))]) (fun t_ k_ => XS.dcmpS X0.here hx rfl (hb hby d_jdk_117_27_10) rfl (own_dc _ D_d D_d2) k_) ?_
  refine og s₁ (mkF m 16 #[.val (.double d), .second, .val (.double d2), .second, .unset, .unset, .unset, .unset] []) (fun t_ k_ => XS.ifYes X0.here hx rfl (pc0 := 11) (pc' := 16) rfl (hb hby d_jdk_117_27_11) rfl ((if0 _ _).trans (flt (fun z => (Int.lt_irrefl r) ((own_cgt _ _).mp z))).2.2.2) (by decide) (by decide) k_) ?_
  refine og s₁ (mkF m 17 #[.val (.double d), .second, .val (.double d2), .second, .unset, .unset, .unset, .unset] [(.double d)]) (fun t_ k_ => XS.dloadN X0.here hx rfl (hb hby d_jdk_117_27_16) rfl k_) ?_
  obtain ⟨_, _, ⟨T1, L1, k1, n1⟩, -, X1, ⟨Lc1, hQ1, l1, y1, z1⟩, st1⟩ := Jvm.LawKit.callS X0 hx (y := ym_9) hown (mvT hZ (own_w hw 65 rfl)) (mvT hZ (own_w hw 66 rfl)) (mvT hZ (own_w hw 63 rfl)) (mvT hZ (own_w hw 67 rfl)) (by decide) (backOf (W := 0) (rm_bits l Z a0 hw [] d r h0 n0 (show n0 ≤ h0.size by omega) D_d) hZ (own_w hw 67 rfl) (own_w hw 63 rfl) (by decide) (by decide)) (g := (mkF m 17 #[.val (.double d), .second, .val (.double d2), .second, .unset, .unset, .unset, .unset] [(.double d)])) rfl (by rw [hml]; rfl) (argsL := [(.double d)]) (rest := []) (lenOf pd_1 rfl) rfl (by show 2 * 0 + _ ≤ _; exact Nat.le_of_eq rfl) (hb hby d_jdk_117_27_17) (fun _ _ => ⟨rfl, e0, (by decide : 0 + 0 ≤ _), (by decide : 0 + 0 ≤ _)⟩)
  dsimp only [Pt.U, Pt.locs, Pt.cells, Pt.slots] at X1 l1 y1 z1 st1 hQ1
  replace l1 := l1.symm; replace y1 := y1.symm; replace z1 := z1.symm; subst l1 y1 z1
  obtain ⟨rfl, M1, e1⟩ := hQ1
  have N1 := Fr.app N0 M1
  refine og T1 (mkF m 20 #[.val (.double d), .second, .val (.double d2), .second, .unset, .unset, .unset, .unset] [(.long d.toInt64)]) (fun t_ k_ => st1 _ k_) ?_
  refine og T1 (mkF m 22 #[.val (.double d), .second, .val (.double d2), .second, .val (.long d.toInt64), .second, .unset, .unset] []) (fun t_ k_ => XS.lstore X1.here hx rfl (hb hby d_jdk_117_27_20) rfl (l' := #[.val (.double d), .second, .val (.double d2), .second, .val (.long d.toInt64), .second, .unset, .unset]) rfl k_) ?_
  refine og T1 (mkF m 23 #[.val (.double d), .second, .val (.double d2), .second, .val (.long d.toInt64), .second, .unset, .unset] [(.double d2)]) (fun t_ k_ => XS.dloadN X1.here hx rfl (hb hby d_jdk_117_27_22) rfl k_) ?_
  obtain ⟨_, _, ⟨T2, L2, k2, n2⟩, -, X2, ⟨Lc2, hQ2, l2, y2, z2⟩, st2⟩ := Jvm.LawKit.callS X1 hx (y := ym_9) hown (mvT hZ (own_w hw 65 rfl)) (mvT hZ (own_w hw 66 rfl)) (mvT hZ (own_w hw 63 rfl)) (mvT hZ (own_w hw 67 rfl)) (by decide) (backOf (W := 0) (rm_bits l Z a0 hw [] d2 r h0 n0 (show n0 ≤ h0.size by omega) D_d2) hZ (own_w hw 67 rfl) (own_w hw 63 rfl) (by decide) (by decide)) (g := (mkF m 23 #[.val (.double d), .second, .val (.double d2), .second, .val (.long d.toInt64), .second, .unset, .unset] [(.double d2)])) rfl (by rw [hml]; rfl) (argsL := [(.double d2)]) (rest := []) (lenOf pd_1 rfl) rfl (by show 2 * 0 + _ ≤ _; exact Nat.le_of_eq rfl) (hb hby d_jdk_117_27_23) (fun _ _ => ⟨rfl, e1, (by decide : 0 + 0 ≤ _), (by decide : 0 + 0 ≤ _)⟩)
  dsimp only [Pt.U, Pt.locs, Pt.cells, Pt.slots] at X2 l2 y2 z2 st2 hQ2
  replace l2 := l2.symm; replace y2 := y2.symm; replace z2 := z2.symm; subst l2 y2 z2
  obtain ⟨rfl, M2, e2⟩ := hQ2
  have N2 := Fr.app N1 M2
  refine og T2 (mkF m 26 #[.val (.double d), .second, .val (.double d2), .second, .val (.long d.toInt64), .second, .unset, .unset] [(.long d2.toInt64)]) (fun t_ k_ => st2 _ k_) ?_
  refine og T2 (mkF m 28 #[.val (.double d), .second, .val (.double d2), .second, .val (.long d.toInt64), .second, .val (.long d2.toInt64), .second] []) (fun t_ k_ => XS.lstore X2.here hx rfl (hb hby d_jdk_117_27_26) rfl (l' := #[.val (.double d), .second, .val (.double d2), .second, .val (.long d.toInt64), .second, .val (.long d2.toInt64), .second]) rfl k_) ?_
  refine og T2 (mkF m 30 #[.val (.double d), .second, .val (.double d2), .second, .val (.long d.toInt64), .second, .val (.long d2.toInt64), .second] [(.long d.toInt64)]) (fun t_ k_ => XS.lload X2.here hx rfl (hb hby d_jdk_117_27_28) rfl k_) ?_
  refine og T2 (mkF m 32 #[.val (.double d), .second, .val (.double d2), .second, .val (.long d.toInt64), .second, .val (.long d2.toInt64), .second] [(.long d2.toInt64), (.long d.toInt64)]) (fun t_ k_ => XS.lload X2.here hx rfl (hb hby d_jdk_117_27_30) rfl k_) ?_
  refine og T2 (mkF m 33 #[.val (.double d), .second, .val (.double d2), .second, .val (.long d.toInt64), .second, .val (.long d2.toInt64), .second] [(.int (lcmpW d.toInt64 d2.toInt64))]) (fun t_ k_ => XS.lcmp X2.here hx rfl (hb hby d_jdk_117_27_32) rfl k_) ?_
  refine og T2 (mkF m 36 #[.val (.double d), .second, .val (.double d2), .second, .val (.long d.toInt64), .second, .val (.long d2.toInt64), .second] []) (fun t_ k_ => XS.ifNo X2.here hx rfl (hb hby d_jdk_117_27_33) rfl ((if0 _ _).trans (teq ((lw_eq _ _).mpr he)).2) k_) ?_
  refine og T2 (mkF m 37 #[.val (.double d), .second, .val (.double d2), .second, .val (.long d.toInt64), .second, .val (.long d2.toInt64), .second] [(.int 0)]) (fun t_ k_ => XS.iconst X2.here hx rfl (hb hby d_jdk_117_27_36) k_) ?_
  refine og T2 (mkF m 53 #[.val (.double d), .second, .val (.double d2), .second, .val (.long d.toInt64), .second, .val (.long d2.toInt64), .second] [(.int 0)]) (fun t_ k_ => XS.goto X2.here hx rfl (pc0 := 37) (pc' := 53) rfl (hb hby d_jdk_117_27_37) (by decide) (by decide) k_) ?_
  exact own_out X2 (v := some (.int 0)) (fun h => by rw [hret] at h; cases h) hlk (fun fs hr => retI X2 hx hret (hb hby d_jdk_117_27_53) hr) (Q := Q_rm_cmp Z d d2 r h0 n0) (by rw [e2]; exact ⟨rfl, N2, rfl⟩) (by decide) (by decide)
theorem d_prog_59_18_0 : decode prog_59_method_18_code 0 = .ok (.aload_n 1, 1) := by decide +kernel
theorem d_prog_59_18_1 : decode prog_59_method_18_code 1 = .ok (.instanceof 8, 3) := by decide +kernel
theorem d_prog_59_18_4 : decode prog_59_method_18_code 4 = .ok (.ifCond .eq 116, 3) := by decide +kernel
theorem d_prog_59_18_7 : decode prog_59_method_18_code 7 = .ok (.aload_n 1, 1) := by decide +kernel
theorem d_prog_59_18_8 : decode prog_59_method_18_code 8 = .ok (.checkcast 8, 3) := by decide +kernel
theorem d_prog_59_18_11 : decode prog_59_method_18_code 11 = .ok (.astore_n 2, 1) := by decide +kernel
theorem d_prog_59_18_12 : decode prog_59_method_18_code 12 = .ok (.aload_n 0, 1) := by decide +kernel
theorem d_prog_59_18_13 : decode prog_59_method_18_code 13 = .ok (.getfield 13, 3) := by decide +kernel
theorem d_prog_59_18_16 : decode prog_59_method_18_code 16 = .ok (.aload_n 2, 1) := by decide +kernel
theorem d_prog_59_18_17 : decode prog_59_method_18_code 17 = .ok (.getfield 13, 3) := by decide +kernel
theorem d_prog_59_18_20 : decode prog_59_method_18_code 20 = .ok (.lcmp, 1) := by decide +kernel
theorem d_prog_59_18_21 : decode prog_59_method_18_code 21 = .ok (.ifCond .ne 99, 3) := by decide +kernel
theorem d_prog_59_18_24 : decode prog_59_method_18_code 24 = .ok (.aload_n 0, 1) := by decide +kernel
theorem d_prog_59_18_25 : decode prog_59_method_18_code 25 = .ok (.getfield 17, 3) := by decide +kernel
theorem d_prog_59_18_28 : decode prog_59_method_18_code 28 = .ok (.aload_n 2, 1) := by decide +kernel
theorem d_prog_59_18_29 : decode prog_59_method_18_code 29 = .ok (.getfield 17, 3) := by decide +kernel
theorem d_prog_59_18_32 : decode prog_59_method_18_code 32 = .ok (.invokestatic 97, 3) := by decide +kernel
theorem pd_2 : parseMethodDescriptor "(DD)I" = some ⟨[.double, .double], some .int⟩ := by decide +kernel
theorem d_prog_59_18_35 : decode prog_59_method_18_code 35 = .ok (.ifCond .ne 85, 3) := by decide +kernel
theorem d_prog_59_18_38 : decode prog_59_method_18_code 38 = .ok (.aload_n 0, 1) := by decide +kernel
theorem d_prog_59_18_39 : decode prog_59_method_18_code 39 = .ok (.getfield 21, 3) := by decide +kernel
theorem d_prog_59_18_42 : decode prog_59_method_18_code 42 = .ok (.aload_n 2, 1) := by decide +kernel
theorem d_prog_59_18_43 : decode prog_59_method_18_code 43 = .ok (.getfield 21, 3) := by decide +kernel
theorem d_prog_59_18_46 : decode prog_59_method_18_code 46 = .ok (.lcmp, 1) := by decide +kernel
theorem d_prog_59_18_47 : decode prog_59_method_18_code 47 = .ok (.ifCond .ne 73, 3) := by decide +kernel
theorem d_prog_59_18_50 : decode prog_59_method_18_code 50 = .ok (.aload_n 0, 1) := by decide +kernel
theorem d_prog_59_18_51 : decode prog_59_method_18_code 51 = .ok (.getfield 24, 3) := by decide +kernel
theorem d_prog_59_18_54 : decode prog_59_method_18_code 54 = .ok (.aload_n 2, 1) := by decide +kernel
theorem d_prog_59_18_55 : decode prog_59_method_18_code 55 = .ok (.getfield 24, 3) := by decide +kernel
theorem d_prog_59_18_58 : decode prog_59_method_18_code 58 = .ok (.invokestatic 97, 3) := by decide +kernel
theorem d_prog_59_18_61 : decode prog_59_method_18_code 61 = .ok (.ifCond .ne 59, 3) := by decide +kernel
theorem d_prog_59_18_64 : decode prog_59_method_18_code 64 = .ok (.aload_n 0, 1) := by decide +kernel
theorem d_prog_59_18_65 : decode prog_59_method_18_code 65 = .ok (.getfield 27, 3) := by decide +kernel
theorem d_prog_59_18_68 : decode prog_59_method_18_code 68 = .ok (.aload_n 2, 1) := by decide +kernel
theorem d_prog_59_18_69 : decode prog_59_method_18_code 69 = .ok (.getfield 27, 3) := by decide +kernel
theorem d_prog_59_18_72 : decode prog_59_method_18_code 72 = .ok (.lcmp, 1) := by decide +kernel
theorem d_prog_59_18_73 : decode prog_59_method_18_code 73 = .ok (.ifCond .ne 47, 3) := by decide +kernel
theorem d_prog_59_18_76 : decode prog_59_method_18_code 76 = .ok (.aload_n 0, 1) := by decide +kernel
theorem d_prog_59_18_77 : decode prog_59_method_18_code 77 = .ok (.getfield 30, 3) := by decide +kernel
theorem d_prog_59_18_80 : decode prog_59_method_18_code 80 = .ok (.aload_n 2, 1) := by decide +kernel
theorem d_prog_59_18_81 : decode prog_59_method_18_code 81 = .ok (.getfield 30, 3) := by decide +kernel
theorem d_prog_59_18_84 : decode prog_59_method_18_code 84 = .ok (.invokestatic 97, 3) := by decide +kernel
theorem d_prog_59_18_87 : decode prog_59_method_18_code 87 = .ok (.ifCond .ne 33, 3) := by decide +kernel
theorem d_prog_59_18_90 : decode prog_59_method_18_code 90 = .ok (.aload_n 0, 1) := by decide +kernel
theorem d_prog_59_18_91 : decode prog_59_method_18_code 91 = .ok (.getfield 33, 3) := by decide +kernel
theorem d_prog_59_18_94 : decode prog_59_method_18_code 94 = .ok (.aload_n 2, 1) := by decide +kernel
theorem d_prog_59_18_95 : decode prog_59_method_18_code 95 = .ok (.getfield 33, 3) := by decide +kernel
theorem d_prog_59_18_98 : decode prog_59_method_18_code 98 = .ok (.lcmp, 1) := by decide +kernel
theorem d_prog_59_18_99 : decode prog_59_method_18_code 99 = .ok (.ifCond .ne 21, 3) := by decide +kernel
theorem d_prog_59_18_102 : decode prog_59_method_18_code 102 = .ok (.aload_n 0, 1) := by decide +kernel
theorem d_prog_59_18_103 : decode prog_59_method_18_code 103 = .ok (.getfield 36, 3) := by decide +kernel
theorem d_prog_59_18_106 : decode prog_59_method_18_code 106 = .ok (.aload_n 2, 1) := by decide +kernel
theorem d_prog_59_18_107 : decode prog_59_method_18_code 107 = .ok (.getfield 36, 3) := by decide +kernel
theorem d_prog_59_18_110 : decode prog_59_method_18_code 110 = .ok (.invokestatic 97, 3) := by decide +kernel
theorem d_prog_59_18_113 : decode prog_59_method_18_code 113 = .ok (.ifCond .ne 7, 3) := by decide +kernel
theorem d_prog_59_18_116 : decode prog_59_method_18_code 116 = .ok (.iconst 1, 1) := by decide +kernel
theorem d_prog_59_18_117 : decode prog_59_method_18_code 117 = .ok (.goto 4, 3) := by decide +kernel
theorem d_prog_59_18_121 : decode prog_59_method_18_code 121 = .ok (.ireturn, 1) := by decide +kernel
theorem ef_11 (m : MethodId) (a : Nat) (b : Nat) : entryFrame m #[(.ref a), (.ref b)] 3 = mkF m 0 #[rv a, rv b, .unset] [] := by first | (simp [entryFrame, mkF, argsToLocals, Value.category]; done) | rfl
abbrev ym_11 : MethodName := ⟨"com/example/driftline/driftline/storage/Extremes", "equals", "(Ljava/lang/Object;)Z"⟩
def Q_rm_eq (Z : State) (a : Nat) (b : Nat) (fT : Int64) (fV : UInt64) (lT : Int64) (lV : UInt64) (bT : Int64) (bV : UInt64) (tT : Int64) (tV : UInt64) (rfV : Int) (rlV : Int) (rbV : Int) (rtV : Int) (h0 : Heap) (n0 : Nat) (vv : Option Value) (h : Heap) (LL : List Loc) : Prop := vv = some (.int 1) ∧ Fr n0 LL ∧ h = h0
set_option maxRecDepth 65536 in
set_option maxHeartbeats 40000000 in
theorem rm_eq (l : Launch) (Z : State) (a0 : Array Value) (hw : ∀ d ∈ tables_1, d.before a0 Z = true) (ws : List Jvm.Cond) (a : Nat) (b : Nat) (fT : Int64) (fV : UInt64) (lT : Int64) (lV : UInt64) (bT : Int64) (bV : UInt64) (tT : Int64) (tV : UInt64) (rfV : Int) (rlV : Int) (rbV : Int) (rtV : Int) (h0 : Heap) (n0 : Nat) (Z0 : n0 ≤ h0.size) (E_b : Exa Z h0 b "com/example/driftline/driftline/storage/Extremes") (F_m_nFirstTimestamp_a : Fld Z h0 a "com/example/driftline/driftline/storage/Extremes" "m_nFirstTimestamp" "J" (.long fT)) (F_m_dFirstValue_a : Fld Z h0 a "com/example/driftline/driftline/storage/Extremes" "m_dFirstValue" "D" (.double fV)) (F_m_nLastTimestamp_a : Fld Z h0 a "com/example/driftline/driftline/storage/Extremes" "m_nLastTimestamp" "J" (.long lT)) (F_m_dLastValue_a : Fld Z h0 a "com/example/driftline/driftline/storage/Extremes" "m_dLastValue" "D" (.double lV)) (F_m_nBottomTimestamp_a : Fld Z h0 a "com/example/driftline/driftline/storage/Extremes" "m_nBottomTimestamp" "J" (.long bT)) (F_m_dBottomValue_a : Fld Z h0 a "com/example/driftline/driftline/storage/Extremes" "m_dBottomValue" "D" (.double bV)) (F_m_nTopTimestamp_a : Fld Z h0 a "com/example/driftline/driftline/storage/Extremes" "m_nTopTimestamp" "J" (.long tT)) (F_m_dTopValue_a : Fld Z h0 a "com/example/driftline/driftline/storage/Extremes" "m_dTopValue" "D" (.double tV)) (F_m_nFirstTimestamp_b : Fld Z h0 b "com/example/driftline/driftline/storage/Extremes" "m_nFirstTimestamp" "J" (.long fT)) (F_m_dFirstValue_b : Fld Z h0 b "com/example/driftline/driftline/storage/Extremes" "m_dFirstValue" "D" (.double fV)) (F_m_nLastTimestamp_b : Fld Z h0 b "com/example/driftline/driftline/storage/Extremes" "m_nLastTimestamp" "J" (.long lT)) (F_m_dLastValue_b : Fld Z h0 b "com/example/driftline/driftline/storage/Extremes" "m_dLastValue" "D" (.double lV)) (F_m_nBottomTimestamp_b : Fld Z h0 b "com/example/driftline/driftline/storage/Extremes" "m_nBottomTimestamp" "J" (.long bT)) (F_m_dBottomValue_b : Fld Z h0 b "com/example/driftline/driftline/storage/Extremes" "m_dBottomValue" "D" (.double bV)) (F_m_nTopTimestamp_b : Fld Z h0 b "com/example/driftline/driftline/storage/Extremes" "m_nTopTimestamp" "J" (.long tT)) (F_m_dTopValue_b : Fld Z h0 b "com/example/driftline/driftline/storage/Extremes" "m_dTopValue" "D" (.double tV)) (D_fV : own_D fV rfV) (D_lV : own_D lV rlV) (D_bV : own_D bV rbV) (D_tV : own_D tV rtV) :
    own_MF l ym_11 prog_59_method_18_code 3 (some .boolean) ⟨3, 0, 0, 72⟩ ws Z #[(.ref a), (.ref b)] h0 (Q_rm_eq Z a b fT fV lT lV bT bV tT tV rfV rlV rbV rtV h0 n0) := by
  refine own_begin (plainFor_of_name pn_1) (fun m => ef_11 m a b) ?_
  intro p e s m below meth c s₁ hret hx hby hml hown hnm hlk X0 e0 hh hZ
  have N0 := Fr.nil n0
  have lt_E_b := own_ltN E_b.lt
  have lt_F_m_nFirstTimestamp_a := own_ltN F_m_nFirstTimestamp_a.lt
  have lt_F_m_dFirstValue_a := own_ltN F_m_dFirstValue_a.lt
  have lt_F_m_nLastTimestamp_a := own_ltN F_m_nLastTimestamp_a.lt
  have lt_F_m_dLastValue_a := own_ltN F_m_dLastValue_a.lt
  have lt_F_m_nBottomTimestamp_a := own_ltN F_m_nBottomTimestamp_a.lt
  have lt_F_m_dBottomValue_a := own_ltN F_m_dBottomValue_a.lt
  have lt_F_m_nTopTimestamp_a := own_ltN F_m_nTopTimestamp_a.lt
  have lt_F_m_dTopValue_a := own_ltN F_m_dTopValue_a.lt
  have lt_F_m_nFirstTimestamp_b := own_ltN F_m_nFirstTimestamp_b.lt
  have lt_F_m_dFirstValue_b := own_ltN F_m_dFirstValue_b.lt
  have lt_F_m_nLastTimestamp_b := own_ltN F_m_nLastTimestamp_b.lt
  have lt_F_m_dLastValue_b := own_ltN F_m_dLastValue_b.lt
  have lt_F_m_nBottomTimestamp_b := own_ltN F_m_nBottomTimestamp_b.lt
  have lt_F_m_dBottomValue_b := own_ltN F_m_dBottomValue_b.lt
  have lt_F_m_nTopTimestamp_b := own_ltN F_m_nTopTimestamp_b.lt
  have lt_F_m_dTopValue_b := own_ltN F_m_dTopValue_b.lt
  refine og s₁ (mkF m 1 #[rv a, rv b, .unset] [(.ref b)]) (fun t_ k_ => XS.aloadN X0.here hx rfl (hb hby d_prog_59_18_0) rfl rfl k_) ?_
  obtain ⟨T1, X1, e1, st1⟩ := instY X0 hx hZ hown (own_w hw 59 rfl) e0 (Ins.self E_b) (g := (mkF m 1 #[rv a, rv b, .unset] [(.ref b)])) rfl rfl (hb hby d_prog_59_18_1)
  refine og T1 (mkF m 4 #[rv a, rv b, .unset] [(.int 1)]) (fun t_ k_ => st1 _ k_) ?_
  refine og T1 (mkF m 7 #[rv a, rv b, .unset] []) (fun t_ k_ => XS.ifNo X1.here hx rfl (hb hby d_prog_59_18_4) rfl ((if0 _ _).trans (feq (by decide)).1) k_) ?_
  refine og T1 (mkF m 8 #[rv a, rv b, .unset] [(.ref b)]) (fun t_ k_ => XS.aloadN X1.here hx rfl (hb hby d_prog_59_18_7) rfl rfl k_) ?_
  obtain ⟨T2, X2, e2, st2⟩ := castY X1 hx hZ hown (own_w hw 59 rfl) e1 (Ins.self E_b) (g := (mkF m 8 #[rv a, rv b, .unset] [(.ref b)])) rfl rfl (hb hby d_prog_59_18_8)
  refine og T2 (mkF m 11 #[rv a, rv b, .unset] [(.ref b)]) (fun t_ k_ => st2 _ k_) ?_
  refine og T2 (mkF m 12 #[rv a, rv b, rv b] []) (fun t_ k_ => XS.astoreN X2.here hx rfl (hb hby d_prog_59_18_11) rfl rfl (l' := #[rv a, rv b, rv b]) rfl k_) ?_
  refine og T2 (mkF m 13 #[rv a, rv b, rv b] [(.ref a)]) (fun t_ k_ => XS.aloadN X2.here hx rfl (hb hby d_prog_59_18_12) rfl rfl k_) ?_
  obtain ⟨T3, X3, e3, st3⟩ := getF X2 hx hZ hown (host := "") (Or.inl (own_w hw 33 rfl)) Via.refl e2 F_m_nFirstTimestamp_a (g := (mkF m 13 #[rv a, rv b, rv b] [(.ref a)])) rfl rfl (hb hby d_prog_59_18_13)
  refine og T3 (mkF m 16 #[rv a, rv b, rv b] [(.long fT)]) (fun t_ k_ => st3 _ k_) ?_
  refine og T3 (mkF m 17 #[rv a, rv b, rv b] [(.ref b), (.long fT)]) (fun t_ k_ => XS.aloadN X3.here hx rfl (hb hby d_prog_59_18_16) rfl rfl k_) ?_
  obtain ⟨T4, X4, e4, st4⟩ := getF X3 hx hZ hown (host := "") (Or.inl (own_w hw 33 rfl)) Via.refl e3 F_m_nFirstTimestamp_b (g := (mkF m 17 #[rv a, rv b, rv b] [(.ref b), (.long fT)])) rfl rfl (hb hby d_prog_59_18_17)
  refine og T4 (mkF m 20 #[rv a, rv b, rv b] [(.long fT), (.long fT)]) (fun t_ k_ => st4 _ k_) ?_
  refine og T4 (mkF m 21 #[rv a, rv b, rv b] [(.int (lcmpW fT fT))]) (fun t_ k_ => XS.lcmp X4.here hx rfl (hb hby d_prog_59_18_20) rfl k_) ?_
  refine og T4 (mkF m 24 #[rv a, rv b, rv b] []) (fun t_ k_ => XS.ifNo X4.here hx rfl (hb hby d_prog_59_18_21) rfl ((if0 _ _).trans (teq ((lw_eq _ _).mpr rfl)).2) k_) ?_
  refine og T4 (mkF m 25 #[rv a, rv b, rv b] [(.ref a)]) (fun t_ k_ => XS.aloadN X4.here hx rfl (hb hby d_prog_59_18_24) rfl rfl k_) ?_
  obtain ⟨T5, X5, e5, st5⟩ := getF X4 hx hZ hown (host := "") (Or.inl (own_w hw 35 rfl)) Via.refl e4 F_m_dFirstValue_a (g := (mkF m 25 #[rv a, rv b, rv b] [(.ref a)])) rfl rfl (hb hby d_prog_59_18_25)
  refine og T5 (mkF m 28 #[rv a, rv b, rv b] [(.double fV)]) (fun t_ k_ => st5 _ k_) ?_
  refine og T5 (mkF m 29 #[rv a, rv b, rv b] [(.ref b), (.double fV)]) (fun t_ k_ => XS.aloadN X5.here hx rfl (hb hby d_prog_59_18_28) rfl rfl k_) ?_
  obtain ⟨T6, X6, e6, st6⟩ := getF X5 hx hZ hown (host := "") (Or.inl (own_w hw 35 rfl)) Via.refl e5 F_m_dFirstValue_b (g := (mkF m 29 #[rv a, rv b, rv b] [(.ref b), (.double fV)])) rfl rfl (hb hby d_prog_59_18_29)
  refine og T6 (mkF m 32 #[rv a, rv b, rv b] [(.double fV), (.double fV)]) (fun t_ k_ => st6 _ k_) ?_
  obtain ⟨_, _, ⟨T7, L7, k7, n7⟩, -, X7, ⟨Lc7, hQ7, l7, y7, z7⟩, st7⟩ := Jvm.LawKit.callS X6 hx (y := ym_10) hown (mvT hZ (own_w hw 61 rfl)) (mvT hZ (own_w hw 62 rfl)) (mvT hZ (own_w hw 63 rfl)) (mvT hZ (own_w hw 64 rfl)) (by decide) (backOf (W := 0) (rm_cmp l Z a0 hw [] fV fV rfV h0 n0 (show n0 ≤ h0.size by omega) D_fV D_fV rfl) hZ (own_w hw 64 rfl) (own_w hw 63 rfl) (by decide) (by decide)) (g := (mkF m 32 #[rv a, rv b, rv b] [(.double fV), (.double fV)])) rfl (by rw [hml]; rfl) (argsL := [(.double fV), (.double fV)]) (rest := []) (lenOf pd_2 rfl) rfl (by show 2 * 0 + _ ≤ _; exact Nat.le_of_eq rfl) (hb hby d_prog_59_18_32) (fun _ _ => ⟨rfl, e6, (by decide : 0 + 0 ≤ _), (by decide : 0 + 0 ≤ _)⟩)
  dsimp only [Pt.U, Pt.locs, Pt.cells, Pt.slots] at X7 l7 y7 z7 st7 hQ7
  replace l7 := l7.symm; replace y7 := y7.symm; replace z7 := z7.symm; subst l7 y7 z7
  obtain ⟨rfl, M7, e7⟩ := hQ7
  have N7 := Fr.app N0 M7
  refine og T7 (mkF m 35 #[rv a, rv b, rv b] [(.int 0)]) (fun t_ k_ => st7 _ k_) ?_
  refine og T7 (mkF m 38 #[rv a, rv b, rv b] []) (fun t_ k_ => XS.ifNo X7.here hx rfl (hb hby d_prog_59_18_35) rfl ((if0 _ _).trans (teq (by decide)).2) k_) ?_
  refine og T7 (mkF m 39 #[rv a, rv b, rv b] [(.ref a)]) (fun t_ k_ => XS.aloadN X7.here hx rfl (hb hby d_prog_59_18_38) rfl rfl k_) ?_
  obtain ⟨T8, X8, e8, st8⟩ := getF X7 hx hZ hown (host := "") (Or.inl (own_w hw 37 rfl)) Via.refl e7 F_m_nLastTimestamp_a (g := (mkF m 39 #[rv a, rv b, rv b] [(.ref a)])) rfl rfl (hb hby d_prog_59_18_39)
  refine og T8 (mkF m 42 #[rv a, rv b, rv b] [(.long lT)]) (fun t_ k_ => st8 _ k_) ?_
  refine og T8 (mkF m 43 #[rv a, rv b, rv b] [(.ref b), (.long lT)]) (fun t_ k_ => XS.aloadN X8.here hx rfl (hb hby d_prog_59_18_42) rfl rfl k_) ?_
  obtain ⟨T9, X9, e9, st9⟩ := getF X8 hx hZ hown (host := "") (Or.inl (own_w hw 37 rfl)) Via.refl e8 F_m_nLastTimestamp_b (g := (mkF m 43 #[rv a, rv b, rv b] [(.ref b), (.long lT)])) rfl rfl (hb hby d_prog_59_18_43)
  refine og T9 (mkF m 46 #[rv a, rv b, rv b] [(.long lT), (.long lT)]) (fun t_ k_ => st9 _ k_) ?_
  refine og T9 (mkF m 47 #[rv a, rv b, rv b] [(.int (lcmpW lT lT))]) (fun t_ k_ => XS.lcmp X9.here hx rfl (hb hby d_prog_59_18_46) rfl k_) ?_
  refine og T9 (mkF m 50 #[rv a, rv b, rv b] []) (fun t_ k_ => XS.ifNo X9.here hx rfl (hb hby d_prog_59_18_47) rfl ((if0 _ _).trans (teq ((lw_eq _ _).mpr rfl)).2) k_) ?_
  refine og T9 (mkF m 51 #[rv a, rv b, rv b] [(.ref a)]) (fun t_ k_ => XS.aloadN X9.here hx rfl (hb hby d_prog_59_18_50) rfl rfl k_) ?_
  obtain ⟨T10, X10, e10, st10⟩ := getF X9 hx hZ hown (host := "") (Or.inl (own_w hw 39 rfl)) Via.refl e9 F_m_dLastValue_a (g := (mkF m 51 #[rv a, rv b, rv b] [(.ref a)])) rfl rfl (hb hby d_prog_59_18_51)
  refine og T10 (mkF m 54 #[rv a, rv b, rv b] [(.double lV)]) (fun t_ k_ => st10 _ k_) ?_
  refine og T10 (mkF m 55 #[rv a, rv b, rv b] [(.ref b), (.double lV)]) (fun t_ k_ => XS.aloadN X10.here hx rfl (hb hby d_prog_59_18_54) rfl rfl k_) ?_
  obtain ⟨T11, X11, e11, st11⟩ := getF X10 hx hZ hown (host := "") (Or.inl (own_w hw 39 rfl)) Via.refl e10 F_m_dLastValue_b (g := (mkF m 55 #[rv a, rv b, rv b] [(.ref b), (.double lV)])) rfl rfl (hb hby d_prog_59_18_55)
  refine og T11 (mkF m 58 #[rv a, rv b, rv b] [(.double lV), (.double lV)]) (fun t_ k_ => st11 _ k_) ?_
  obtain ⟨_, _, ⟨T12, L12, k12, n12⟩, -, X12, ⟨Lc12, hQ12, l12, y12, z12⟩, st12⟩ := Jvm.LawKit.callS X11 hx (y := ym_10) hown (mvT hZ (own_w hw 61 rfl)) (mvT hZ (own_w hw 62 rfl)) (mvT hZ (own_w hw 63 rfl)) (mvT hZ (own_w hw 64 rfl)) (by decide) (backOf (W := 0) (rm_cmp l Z a0 hw [] lV lV rlV h0 n0 (show n0 ≤ h0.size by omega) D_lV D_lV rfl) hZ (own_w hw 64 rfl) (own_w hw 63 rfl) (by decide) (by decide)) (g := (mkF m 58 #[rv a, rv b, rv b] [(.double lV), (.double lV)])) rfl (by rw [hml]; rfl) (argsL := [(.double lV), (.double lV)]) (rest := []) (lenOf pd_2 rfl) rfl (by show 2 * 0 + _ ≤ _; exact Nat.le_of_eq rfl) (hb hby d_prog_59_18_58) (fun _ _ => ⟨rfl, e11, (by decide : 0 + 0 ≤ _), (by decide : 0 + 0 ≤ _)⟩)
  dsimp only [Pt.U, Pt.locs, Pt.cells, Pt.slots] at X12 l12 y12 z12 st12 hQ12
  replace l12 := l12.symm; replace y12 := y12.symm; replace z12 := z12.symm; subst l12 y12 z12
  obtain ⟨rfl, M12, e12⟩ := hQ12
  have N12 := Fr.app N7 M12
  refine og T12 (mkF m 61 #[rv a, rv b, rv b] [(.int 0)]) (fun t_ k_ => st12 _ k_) ?_
  refine og T12 (mkF m 64 #[rv a, rv b, rv b] []) (fun t_ k_ => XS.ifNo X12.here hx rfl (hb hby d_prog_59_18_61) rfl ((if0 _ _).trans (teq (by decide)).2) k_) ?_
  refine og T12 (mkF m 65 #[rv a, rv b, rv b] [(.ref a)]) (fun t_ k_ => XS.aloadN X12.here hx rfl (hb hby d_prog_59_18_64) rfl rfl k_) ?_
  obtain ⟨T13, X13, e13, st13⟩ := getF X12 hx hZ hown (host := "") (Or.inl (own_w hw 41 rfl)) Via.refl e12 F_m_nBottomTimestamp_a (g := (mkF m 65 #[rv a, rv b, rv b] [(.ref a)])) rfl rfl (hb hby d_prog_59_18_65)
  refine og T13 (mkF m 68 #[rv a, rv b, rv b] [(.long bT)]) (fun t_ k_ => st13 _ k_) ?_
  refine og T13 (mkF m 69 #[rv a, rv b, rv b] [(.ref b), (.long bT)]) (fun t_ k_ => XS.aloadN X13.here hx rfl (hb hby d_prog_59_18_68) rfl rfl k_) ?_
  obtain ⟨T14, X14, e14, st14⟩ := getF X13 hx hZ hown (host := "") (Or.inl (own_w hw 41 rfl)) Via.refl e13 F_m_nBottomTimestamp_b (g := (mkF m 69 #[rv a, rv b, rv b] [(.ref b), (.long bT)])) rfl rfl (hb hby d_prog_59_18_69)
  refine og T14 (mkF m 72 #[rv a, rv b, rv b] [(.long bT), (.long bT)]) (fun t_ k_ => st14 _ k_) ?_
  refine og T14 (mkF m 73 #[rv a, rv b, rv b] [(.int (lcmpW bT bT))]) (fun t_ k_ => XS.lcmp X14.here hx rfl (hb hby d_prog_59_18_72) rfl k_) ?_
  refine og T14 (mkF m 76 #[rv a, rv b, rv b] []) (fun t_ k_ => XS.ifNo X14.here hx rfl (hb hby d_prog_59_18_73) rfl ((if0 _ _).trans (teq ((lw_eq _ _).mpr rfl)).2) k_) ?_
  refine og T14 (mkF m 77 #[rv a, rv b, rv b] [(.ref a)]) (fun t_ k_ => XS.aloadN X14.here hx rfl (hb hby d_prog_59_18_76) rfl rfl k_) ?_
  obtain ⟨T15, X15, e15, st15⟩ := getF X14 hx hZ hown (host := "") (Or.inl (own_w hw 43 rfl)) Via.refl e14 F_m_dBottomValue_a (g := (mkF m 77 #[rv a, rv b, rv b] [(.ref a)])) rfl rfl (hb hby d_prog_59_18_77)
  refine og T15 (mkF m 80 #[rv a, rv b, rv b] [(.double bV)]) (fun t_ k_ => st15 _ k_) ?_
  refine og T15 (mkF m 81 #[rv a, rv b, rv b] [(.ref b), (.double bV)]) (fun t_ k_ => XS.aloadN X15.here hx rfl (hb hby d_prog_59_18_80) rfl rfl k_) ?_
  obtain ⟨T16, X16, e16, st16⟩ := getF X15 hx hZ hown (host := "") (Or.inl (own_w hw 43 rfl)) Via.refl e15 F_m_dBottomValue_b (g := (mkF m 81 #[rv a, rv b, rv b] [(.ref b), (.double bV)])) rfl rfl (hb hby d_prog_59_18_81)
  refine og T16 (mkF m 84 #[rv a, rv b, rv b] [(.double bV), (.double bV)]) (fun t_ k_ => st16 _ k_) ?_
  obtain ⟨_, _, ⟨T17, L17, k17, n17⟩, -, X17, ⟨Lc17, hQ17, l17, y17, z17⟩, st17⟩ := Jvm.LawKit.callS X16 hx (y := ym_10) hown (mvT hZ (own_w hw 61 rfl)) (mvT hZ (own_w hw 62 rfl)) (mvT hZ (own_w hw 63 rfl)) (mvT hZ (own_w hw 64 rfl)) (by decide) (backOf (W := 0) (rm_cmp l Z a0 hw [] bV bV rbV h0 n0 (show n0 ≤ h0.size by omega) D_bV D_bV rfl) hZ (own_w hw 64 rfl) (own_w hw 63 rfl) (by decide) (by decide)) (g := (mkF m 84 #[rv a, rv b, rv b] [(.double bV), (.double bV)])) rfl (by rw [hml]; rfl) (argsL := [(.double bV), (.double bV)]) (rest := []) (lenOf pd_2 rfl) rfl (by show 2 * 0 + _ ≤ _; exact Nat.le_of_eq rfl) (hb hby d_prog_59_18_84) (fun _ _ => ⟨rfl, e16, (by decide : 0 + 0 ≤ _), (by decide : 0 + 0 ≤ _)⟩)
  dsimp only [Pt.U, Pt.locs, Pt.cells, Pt.slots] at X17 l17 y17 z17 st17 hQ17
  replace l17 := l17.symm; replace y17 := y17.symm; replace z17 := z17.symm; subst l17 y17 z17
  obtain ⟨rfl, M17, e17⟩ := hQ17
  have N17 := Fr.app N12 M17
  refine og T17 (mkF m 87 #[rv a, rv b, rv b] [(.int 0)]) (fun t_ k_ => st17 _ k_) ?_
  refine og T17 (mkF m 90 #[rv a, rv b, rv b] []) (fun t_ k_ => XS.ifNo X17.here hx rfl (hb hby d_prog_59_18_87) rfl ((if0 _ _).trans (teq (by decide)).2) k_) ?_
  refine og T17 (mkF m 91 #[rv a, rv b, rv b] [(.ref a)]) (fun t_ k_ => XS.aloadN X17.here hx rfl (hb hby d_prog_59_18_90) rfl rfl k_) ?_
  obtain ⟨T18, X18, e18, st18⟩ := getF X17 hx hZ hown (host := "") (Or.inl (own_w hw 45 rfl)) Via.refl e17 F_m_nTopTimestamp_a (g := (mkF m 91 #[rv a, rv b, rv b] [(.ref a)])) rfl rfl (hb hby d_prog_59_18_91)
  refine og T18 (mkF m 94 #[rv a, rv b, rv b] [(.long tT)]) (fun t_ k_ => st18 _ k_) ?_
  refine og T18 (mkF m 95 #[rv a, rv b, rv b] [(.ref b), (.long tT)]) (fun t_ k_ => XS.aloadN X18.here hx rfl (hb hby d_prog_59_18_94) rfl rfl k_) ?_
  obtain ⟨T19, X19, e19, st19⟩ := getF X18 hx hZ hown (host := "") (Or.inl (own_w hw 45 rfl)) Via.refl e18 F_m_nTopTimestamp_b (g := (mkF m 95 #[rv a, rv b, rv b] [(.ref b), (.long tT)])) rfl rfl (hb hby d_prog_59_18_95)
  refine og T19 (mkF m 98 #[rv a, rv b, rv b] [(.long tT), (.long tT)]) (fun t_ k_ => st19 _ k_) ?_
  refine og T19 (mkF m 99 #[rv a, rv b, rv b] [(.int (lcmpW tT tT))]) (fun t_ k_ => XS.lcmp X19.here hx rfl (hb hby d_prog_59_18_98) rfl k_) ?_
  refine og T19 (mkF m 102 #[rv a, rv b, rv b] []) (fun t_ k_ => XS.ifNo X19.here hx rfl (hb hby d_prog_59_18_99) rfl ((if0 _ _).trans (teq ((lw_eq _ _).mpr rfl)).2) k_) ?_
  refine og T19 (mkF m 103 #[rv a, rv b, rv b] [(.ref a)]) (fun t_ k_ => XS.aloadN X19.here hx rfl (hb hby d_prog_59_18_102) rfl rfl k_) ?_
  obtain ⟨T20, X20, e20, st20⟩ := getF X19 hx hZ hown (host := "") (Or.inl (own_w hw 47 rfl)) Via.refl e19 F_m_dTopValue_a (g := (mkF m 103 #[rv a, rv b, rv b] [(.ref a)])) rfl rfl (hb hby d_prog_59_18_103)
  refine og T20 (mkF m 106 #[rv a, rv b, rv b] [(.double tV)]) (fun t_ k_ => st20 _ k_) ?_
  refine og T20 (mkF m 107 #[rv a, rv b, rv b] [(.ref b), (.double tV)]) (fun t_ k_ => XS.aloadN X20.here hx rfl (hb hby d_prog_59_18_106) rfl rfl k_) ?_
  obtain ⟨T21, X21, e21, st21⟩ := getF X20 hx hZ hown (host := "") (Or.inl (own_w hw 47 rfl)) Via.refl e20 F_m_dTopValue_b (g := (mkF m 107 #[rv a, rv b, rv b] [(.ref b), (.double tV)])) rfl rfl (hb hby d_prog_59_18_107)
  refine og T21 (mkF m 110 #[rv a, rv b, rv b] [(.double tV), (.double tV)]) (fun t_ k_ => st21 _ k_) ?_
  obtain ⟨_, _, ⟨T22, L22, k22, n22⟩, -, X22, ⟨Lc22, hQ22, l22, y22, z22⟩, st22⟩ := Jvm.LawKit.callS X21 hx (y := ym_10) hown (mvT hZ (own_w hw 61 rfl)) (mvT hZ (own_w hw 62 rfl)) (mvT hZ (own_w hw 63 rfl)) (mvT hZ (own_w hw 64 rfl)) (by decide) (backOf (W := 0) (rm_cmp l Z a0 hw [] tV tV rtV h0 n0 (show n0 ≤ h0.size by omega) D_tV D_tV rfl) hZ (own_w hw 64 rfl) (own_w hw 63 rfl) (by decide) (by decide)) (g := (mkF m 110 #[rv a, rv b, rv b] [(.double tV), (.double tV)])) rfl (by rw [hml]; rfl) (argsL := [(.double tV), (.double tV)]) (rest := []) (lenOf pd_2 rfl) rfl (by show 2 * 0 + _ ≤ _; exact Nat.le_of_eq rfl) (hb hby d_prog_59_18_110) (fun _ _ => ⟨rfl, e21, (by decide : 0 + 0 ≤ _), (by decide : 0 + 0 ≤ _)⟩)
  dsimp only [Pt.U, Pt.locs, Pt.cells, Pt.slots] at X22 l22 y22 z22 st22 hQ22
  replace l22 := l22.symm; replace y22 := y22.symm; replace z22 := z22.symm; subst l22 y22 z22
  obtain ⟨rfl, M22, e22⟩ := hQ22
  have N22 := Fr.app N17 M22
  refine og T22 (mkF m 113 #[rv a, rv b, rv b] [(.int 0)]) (fun t_ k_ => st22 _ k_) ?_
  refine og T22 (mkF m 116 #[rv a, rv b, rv b] []) (fun t_ k_ => XS.ifNo X22.here hx rfl (hb hby d_prog_59_18_113) rfl ((if0 _ _).trans (teq (by decide)).2) k_) ?_
  refine og T22 (mkF m 117 #[rv a, rv b, rv b] [(.int 1)]) (fun t_ k_ => XS.iconst X22.here hx rfl (hb hby d_prog_59_18_116) k_) ?_
  refine og T22 (mkF m 121 #[rv a, rv b, rv b] [(.int 1)]) (fun t_ k_ => XS.goto X22.here hx rfl (pc0 := 117) (pc' := 121) rfl (hb hby d_prog_59_18_117) (by decide) (by decide) k_) ?_
  exact own_out X22 (v := some (.int (nar .boolean (1 : Int32)))) (fun h => by rw [hret] at h; cases h) hlk (fun fs hr => retN X22 hx (t := .boolean) hret (by simp) (hb hby d_prog_59_18_121) hr) (Q := Q_rm_eq Z a b fT fV lT lV bT bV tT tV rfV rlV rbV rtV h0 n0) (by rw [e22]; exact ⟨rfl, N22, rfl⟩) (by decide) (by decide)
theorem own_g40 {α : Type} (a b c d : α) : own_g4 0 a b c d = a := rfl
theorem own_g41 {α : Type} (a b c d : α) : own_g4 1 a b c d = b := rfl
theorem own_g42 {α : Type} (a b c d : α) : own_g4 2 a b c d = c := rfl
theorem own_g43 {α : Type} (a b c d : α) : own_g4 3 a b c d = d := rfl
/-- what weigh leaves of bottom and top is what the new row says -/
def own_Fix (lo mid hi tw : Int64) (v0 v1 v2 vw : UInt64) (r0 r1 r2 rw : Int) (t0 t1 t2 t3 : Int64) (w0 w1 w2 w3 : UInt64) (s0 s1 s2 s3 : Int) : Prop :=
  ((if (rw < own_g4 (own_bot r0 r0 r1 r2) r0 r0 r1 r2 ∨ (rw = own_g4 (own_bot r0 r0 r1 r2) r0 r0 r1 r2 ∧ tw < own_g4 (own_bot r0 r0 r1 r2) lo lo mid hi)) then tw else own_g4 (own_bot r0 r0 r1 r2) lo lo mid hi) = own_g4 (own_bot s0 s1 s2 s3) t0 t1 t2 t3 ∧
   (if (rw < own_g4 (own_bot r0 r0 r1 r2) r0 r0 r1 r2 ∨ (rw = own_g4 (own_bot r0 r0 r1 r2) r0 r0 r1 r2 ∧ tw < own_g4 (own_bot r0 r0 r1 r2) lo lo mid hi)) then vw else own_g4 (own_bot r0 r0 r1 r2) v0 v0 v1 v2) = own_g4 (own_bot s0 s1 s2 s3) w0 w1 w2 w3) ∧
  ((if (own_g4 (own_top r0 r0 r1 r2) r0 r0 r1 r2 < rw ∨ (rw = own_g4 (own_top r0 r0 r1 r2) r0 r0 r1 r2 ∧ tw < own_g4 (own_top r0 r0 r1 r2) lo lo mid hi)) then tw else own_g4 (own_top r0 r0 r1 r2) lo lo mid hi) = own_g4 (own_top s0 s1 s2 s3) t0 t1 t2 t3 ∧
   (if (own_g4 (own_top r0 r0 r1 r2) r0 r0 r1 r2 < rw ∨ (rw = own_g4 (own_top r0 r0 r1 r2) r0 r0 r1 r2 ∧ tw < own_g4 (own_top r0 r0 r1 r2) lo lo mid hi)) then vw else own_g4 (own_top r0 r0 r1 r2) v0 v0 v1 v2) = own_g4 (own_top s0 s1 s2 s3) w0 w1 w2 w3)
theorem own_fixA {lo mid hi tw : Int64} {v0 v1 v2 vw : UInt64} {r0 r1 r2 rw : Int} (h1 : lo.toInt < mid.toInt) (h2 : mid.toInt < hi.toInt) (ht : tw = lo) (hnb : ¬ tw = own_g4 (own_bot r0 r0 r1 r2) lo lo mid hi) (hnt : ¬ tw = own_g4 (own_top r0 r0 r1 r2) lo lo mid hi) : own_Fix lo mid hi tw v0 v1 v2 vw r0 r1 r2 rw lo lo mid hi vw vw v1 v2 rw rw r1 r2 := by
  subst ht
  unfold own_Fix
  refine ⟨?_, ?_⟩
  · rcases own_bot_spec r0 r0 r1 r2 with ⟨e1, q1⟩ | ⟨e1, q1⟩ | ⟨e1, q1⟩ | ⟨e1, q1⟩ <;> rcases own_bot_spec rw rw r1 r2 with ⟨e2, q2⟩ | ⟨e2, q2⟩ | ⟨e2, q2⟩ | ⟨e2, q2⟩ <;> rw [e1] at hnb ⊢ <;> rw [e2] <;> simp only [own_g40, own_g41, own_g42, own_g43, Int64.lt_iff_toInt_lt] at hnb ⊢ <;> refine ⟨?_, ?_⟩ <;> split <;> first | rfl | exact absurd rfl hnb | exact absurd trivial hnb | (exfalso; omega)
  · rcases own_top_spec r0 r0 r1 r2 with ⟨e1, q1⟩ | ⟨e1, q1⟩ | ⟨e1, q1⟩ | ⟨e1, q1⟩ <;> rcases own_top_spec rw rw r1 r2 with ⟨e2, q2⟩ | ⟨e2, q2⟩ | ⟨e2, q2⟩ | ⟨e2, q2⟩ <;> rw [e1] at hnt ⊢ <;> rw [e2] <;> simp only [own_g40, own_g41, own_g42, own_g43, Int64.lt_iff_toInt_lt] at hnt ⊢ <;> refine ⟨?_, ?_⟩ <;> split <;> first | rfl | exact absurd rfl hnt | exact absurd trivial hnt | (exfalso; omega)
theorem own_fixB {lo mid hi tw : Int64} {v0 v1 v2 vw : UInt64} {r0 r1 r2 rw : Int} (h1 : lo.toInt < mid.toInt) (h2 : mid.toInt < hi.toInt) (ht : tw = hi) (hnb : ¬ tw = own_g4 (own_bot r0 r0 r1 r2) lo lo mid hi) (hnt : ¬ tw = own_g4 (own_top r0 r0 r1 r2) lo lo mid hi) : own_Fix lo mid hi tw v0 v1 v2 vw r0 r1 r2 rw lo mid hi hi v0 v1 vw vw r0 r1 rw rw := by
  subst ht
  unfold own_Fix
  refine ⟨?_, ?_⟩
  · rcases own_bot_spec r0 r0 r1 r2 with ⟨e1, q1⟩ | ⟨e1, q1⟩ | ⟨e1, q1⟩ | ⟨e1, q1⟩ <;> rcases own_bot_spec r0 r1 rw rw with ⟨e2, q2⟩ | ⟨e2, q2⟩ | ⟨e2, q2⟩ | ⟨e2, q2⟩ <;> rw [e1] at hnb ⊢ <;> rw [e2] <;> simp only [own_g40, own_g41, own_g42, own_g43, Int64.lt_iff_toInt_lt] at hnb ⊢ <;> refine ⟨?_, ?_⟩ <;> split <;> first | rfl | exact absurd rfl hnb | exact absurd trivial hnb | (exfalso; omega)
  · rcases own_top_spec r0 r0 r1 r2 with ⟨e1, q1⟩ | ⟨e1, q1⟩ | ⟨e1, q1⟩ | ⟨e1, q1⟩ <;> rcases own_top_spec r0 r1 rw rw with ⟨e2, q2⟩ | ⟨e2, q2⟩ | ⟨e2, q2⟩ | ⟨e2, q2⟩ <;> rw [e1] at hnt ⊢ <;> rw [e2] <;> simp only [own_g40, own_g41, own_g42, own_g43, Int64.lt_iff_toInt_lt] at hnt ⊢ <;> refine ⟨?_, ?_⟩ <;> split <;> first | rfl | exact absurd rfl hnt | exact absurd trivial hnt | (exfalso; omega)
theorem own_fixC {lo mid hi tw : Int64} {v0 v1 v2 vw : UInt64} {r0 r1 r2 rw : Int} (h1 : lo.toInt < mid.toInt) (h2 : mid.toInt < hi.toInt) (ht : lo.toInt < tw.toInt ∧ tw.toInt < mid.toInt) (hnb : ¬ tw = own_g4 (own_bot r0 r0 r1 r2) lo lo mid hi) (hnt : ¬ tw = own_g4 (own_top r0 r0 r1 r2) lo lo mid hi) : own_Fix lo mid hi tw v0 v1 v2 vw r0 r1 r2 rw lo tw mid hi v0 vw v1 v2 r0 rw r1 r2 := by
  unfold own_Fix
  refine ⟨?_, ?_⟩
  · rcases own_bot_spec r0 r0 r1 r2 with ⟨e1, q1⟩ | ⟨e1, q1⟩ | ⟨e1, q1⟩ | ⟨e1, q1⟩ <;> rcases own_bot_spec r0 rw r1 r2 with ⟨e2, q2⟩ | ⟨e2, q2⟩ | ⟨e2, q2⟩ | ⟨e2, q2⟩ <;> rw [e1] at hnb ⊢ <;> rw [e2] <;> simp only [own_g40, own_g41, own_g42, own_g43, Int64.lt_iff_toInt_lt] at hnb ⊢ <;> refine ⟨?_, ?_⟩ <;> split <;> first | rfl | exact absurd rfl hnb | exact absurd trivial hnb | (exfalso; omega)
  · rcases own_top_spec r0 r0 r1 r2 with ⟨e1, q1⟩ | ⟨e1, q1⟩ | ⟨e1, q1⟩ | ⟨e1, q1⟩ <;> rcases own_top_spec r0 rw r1 r2 with ⟨e2, q2⟩ | ⟨e2, q2⟩ | ⟨e2, q2⟩ | ⟨e2, q2⟩ <;> rw [e1] at hnt ⊢ <;> rw [e2] <;> simp only [own_g40, own_g41, own_g42, own_g43, Int64.lt_iff_toInt_lt] at hnt ⊢ <;> refine ⟨?_, ?_⟩ <;> split <;> first | rfl | exact absurd rfl hnt | exact absurd trivial hnt | (exfalso; omega)
theorem own_fixD {lo mid hi tw : Int64} {v0 v1 v2 vw : UInt64} {r0 r1 r2 rw : Int} (h1 : lo.toInt < mid.toInt) (h2 : mid.toInt < hi.toInt) (ht : mid.toInt < tw.toInt ∧ tw.toInt < hi.toInt) (hnb : ¬ tw = own_g4 (own_bot r0 r0 r1 r2) lo lo mid hi) (hnt : ¬ tw = own_g4 (own_top r0 r0 r1 r2) lo lo mid hi) : own_Fix lo mid hi tw v0 v1 v2 vw r0 r1 r2 rw lo mid tw hi v0 v1 vw v2 r0 r1 rw r2 := by
  unfold own_Fix
  refine ⟨?_, ?_⟩
  · rcases own_bot_spec r0 r0 r1 r2 with ⟨e1, q1⟩ | ⟨e1, q1⟩ | ⟨e1, q1⟩ | ⟨e1, q1⟩ <;> rcases own_bot_spec r0 r1 rw r2 with ⟨e2, q2⟩ | ⟨e2, q2⟩ | ⟨e2, q2⟩ | ⟨e2, q2⟩ <;> rw [e1] at hnb ⊢ <;> rw [e2] <;> simp only [own_g40, own_g41, own_g42, own_g43, Int64.lt_iff_toInt_lt] at hnb ⊢ <;> refine ⟨?_, ?_⟩ <;> split <;> first | rfl | exact absurd rfl hnb | exact absurd trivial hnb | (exfalso; omega)
  · rcases own_top_spec r0 r0 r1 r2 with ⟨e1, q1⟩ | ⟨e1, q1⟩ | ⟨e1, q1⟩ | ⟨e1, q1⟩ <;> rcases own_top_spec r0 r1 rw r2 with ⟨e2, q2⟩ | ⟨e2, q2⟩ | ⟨e2, q2⟩ | ⟨e2, q2⟩ <;> rw [e1] at hnt ⊢ <;> rw [e2] <;> simp only [own_g40, own_g41, own_g42, own_g43, Int64.lt_iff_toInt_lt] at hnt ⊢ <;> refine ⟨?_, ?_⟩ <;> split <;> first | rfl | exact absurd rfl hnt | exact absurd trivial hnt | (exfalso; omega)
theorem own_ltc {a b : Int64} (h : ¬ a < b) (n : ¬ a = b) : b.toInt < a.toInt := by
  rw [Int64.lt_iff_toInt_lt] at h
  have q : a.toInt ≠ b.toInt := fun q => n (Int64.toInt_inj.mp q)
  omega
theorem own_gtc {a b : Int64} (h : ¬ b < a) (n : ¬ a = b) : a.toInt < b.toInt := by
  rw [Int64.lt_iff_toInt_lt] at h
  have q : a.toInt ≠ b.toInt := fun q => n (Int64.toInt_inj.mp q)
  omega
abbrev La_0 (p0 : Int64) (p1 : Int64) (p2 : Int64) (p3 : Int64) (p4 : Int32) (p5 : Int32) : Array Slot := #[.val (.long p0), .second, .val (.long p1), .second, .val (.long p2), .second, .val (.long p3), .second, iv p4, iv p5, .unset, .unset, .unset, .unset, .unset, .unset, .unset, .unset, .unset, .unset, .unset, .unset, .unset, .unset, .unset, .unset, .unset, .unset, .unset, .unset, .unset, .unset, .unset, .unset, .unset, .unset, .unset]
theorem pd_3 : parseMethodDescriptor "(JJ)J" = some ⟨[.long, .long], some .long⟩ := by decide +kernel
abbrev La_1 (p0 : Int64) (p1 : Int64) (p2 : Int64) (p3 : Int64) (p4 : Int32) (p5 : Int32) (p6 : Int64) : Array Slot := #[.val (.long p0), .second, .val (.long p1), .second, .val (.long p2), .second, .val (.long p3), .second, iv p4, iv p5, .val (.long p6), .second, .unset, .unset, .unset, .unset, .unset, .unset, .unset, .unset, .unset, .unset, .unset, .unset, .unset, .unset, .unset, .unset, .unset, .unset, .unset, .unset, .unset, .unset, .unset, .unset, .unset]
abbrev La_2 (p0 : Int64) (p1 : Int64) (p2 : Int64) (p3 : Int64) (p4 : Int32) (p5 : Int32) (p6 : Int64) (p7 : Int64) : Array Slot := #[.val (.long p0), .second, .val (.long p1), .second, .val (.long p2), .second, .val (.long p3), .second, iv p4, iv p5, .val (.long p6), .second, .val (.long p7), .second, .unset, .unset, .unset, .unset, .unset, .unset, .unset, .unset, .unset, .unset, .unset, .unset, .unset, .unset, .unset, .unset, .unset, .unset, .unset, .unset, .unset, .unset, .unset]
abbrev La_3 (p0 : Int64) (p1 : Int64) (p2 : Int64) (p3 : Int64) (p4 : Int32) (p5 : Int32) (p6 : Int64) (p7 : Int64) (p8 : Int64) : Array Slot := #[.val (.long p0), .second, .val (.long p1), .second, .val (.long p2), .second, .val (.long p3), .second, iv p4, iv p5, .val (.long p6), .second, .val (.long p7), .second, .val (.long p8), .second, .unset, .unset, .unset, .unset, .unset, .unset, .unset, .unset, .unset, .unset, .unset, .unset, .unset, .unset, .unset, .unset, .unset, .unset, .unset, .unset, .unset]
theorem pd_4 : parseMethodDescriptor "(I)D" = some ⟨[.int], some .double⟩ := by decide +kernel
abbrev La_4 (p0 : Int64) (p1 : Int64) (p2 : Int64) (p3 : Int64) (p4 : Int32) (p5 : Int32) (p6 : Int64) (p7 : Int64) (p8 : Int64) (p9 : UInt64) : Array Slot := #[.val (.long p0), .second, .val (.long p1), .second, .val (.long p2), .second, .val (.long p3), .second, iv p4, iv p5, .val (.long p6), .second, .val (.long p7), .second, .val (.long p8), .second, .val (.double p9), .second, .unset, .unset, .unset, .unset, .unset, .unset, .unset, .unset, .unset, .unset, .unset, .unset, .unset, .unset, .unset, .unset, .unset, .unset, .unset]
abbrev La_5 (p0 : Int64) (p1 : Int64) (p2 : Int64) (p3 : Int64) (p4 : Int32) (p5 : Int32) (p6 : Int64) (p7 : Int64) (p8 : Int64) (p9 : UInt64) (p10 : UInt64) : Array Slot := #[.val (.long p0), .second, .val (.long p1), .second, .val (.long p2), .second, .val (.long p3), .second, iv p4, iv p5, .val (.long p6), .second, .val (.long p7), .second, .val (.long p8), .second, .val (.double p9), .second, .val (.double p10), .second, .unset, .unset, .unset, .unset, .unset, .unset, .unset, .unset, .unset, .unset, .unset, .unset, .unset, .unset, .unset, .unset, .unset]
abbrev La_6 (p0 : Int64) (p1 : Int64) (p2 : Int64) (p3 : Int64) (p4 : Int32) (p5 : Int32) (p6 : Int64) (p7 : Int64) (p8 : Int64) (p9 : UInt64) (p10 : UInt64) (p11 : UInt64) : Array Slot := #[.val (.long p0), .second, .val (.long p1), .second, .val (.long p2), .second, .val (.long p3), .second, iv p4, iv p5, .val (.long p6), .second, .val (.long p7), .second, .val (.long p8), .second, .val (.double p9), .second, .val (.double p10), .second, .val (.double p11), .second, .unset, .unset, .unset, .unset, .unset, .unset, .unset, .unset, .unset, .unset, .unset, .unset, .unset, .unset, .unset]
abbrev La_7 (p0 : Int64) (p1 : Int64) (p2 : Int64) (p3 : Int64) (p4 : Int32) (p5 : Int32) (p6 : Int64) (p7 : Int64) (p8 : Int64) (p9 : UInt64) (p10 : UInt64) (p11 : UInt64) (p12 : UInt64) : Array Slot := #[.val (.long p0), .second, .val (.long p1), .second, .val (.long p2), .second, .val (.long p3), .second, iv p4, iv p5, .val (.long p6), .second, .val (.long p7), .second, .val (.long p8), .second, .val (.double p9), .second, .val (.double p10), .second, .val (.double p11), .second, .val (.double p12), .second, .unset, .unset, .unset, .unset, .unset, .unset, .unset, .unset, .unset, .unset, .unset, .unset, .unset]
abbrev La_8 (p0 : Int64) (p1 : Int64) (p2 : Int64) (p3 : Int64) (p4 : Int32) (p5 : Int32) (p6 : Int64) (p7 : Int64) (p8 : Int64) (p9 : UInt64) (p10 : UInt64) (p11 : UInt64) (p12 : UInt64) (p13 : Int32) : Array Slot := #[.val (.long p0), .second, .val (.long p1), .second, .val (.long p2), .second, .val (.long p3), .second, iv p4, iv p5, .val (.long p6), .second, .val (.long p7), .second, .val (.long p8), .second, .val (.double p9), .second, .val (.double p10), .second, .val (.double p11), .second, .val (.double p12), .second, iv p13, .unset, .unset, .unset, .unset, .unset, .unset, .unset, .unset, .unset, .unset, .unset, .unset]
abbrev La_9 (p0 : Int64) (p1 : Int64) (p2 : Int64) (p3 : Int64) (p4 : Int32) (p5 : Int32) (p6 : Int64) (p7 : Int64) (p8 : Int64) (p9 : UInt64) (p10 : UInt64) (p11 : UInt64) (p12 : UInt64) (p13 : Int32) (p14 : Int64) : Array Slot := #[.val (.long p0), .second, .val (.long p1), .second, .val (.long p2), .second, .val (.long p3), .second, iv p4, iv p5, .val (.long p6), .second, .val (.long p7), .second, .val (.long p8), .second, .val (.double p9), .second, .val (.double p10), .second, .val (.double p11), .second, .val (.double p12), .second, iv p13, .val (.long p14), .second, .unset, .unset, .unset, .unset, .unset, .unset, .unset, .unset, .unset, .unset]
abbrev La_10 (p0 : Int64) (p1 : Int64) (p2 : Int64) (p3 : Int64) (p4 : Int32) (p5 : Int32) (p6 : Int64) (p7 : Int64) (p8 : Int64) (p9 : UInt64) (p10 : UInt64) (p11 : UInt64) (p12 : UInt64) (p13 : Int32) (p14 : Int64) (p15 : Nat) : Array Slot := #[.val (.long p0), .second, .val (.long p1), .second, .val (.long p2), .second, .val (.long p3), .second, iv p4, iv p5, .val (.long p6), .second, .val (.long p7), .second, .val (.long p8), .second, .val (.double p9), .second, .val (.double p10), .second, .val (.double p11), .second, .val (.double p12), .second, iv p13, .val (.long p14), .second, rv p15, .unset, .unset, .unset, .unset, .unset, .unset, .unset, .unset, .unset]
abbrev La_11 (p0 : Int64) (p1 : Int64) (p2 : Int64) (p3 : Int64) (p4 : Int32) (p5 : Int32) (p6 : Int64) (p7 : Int64) (p8 : Int64) (p9 : UInt64) (p10 : UInt64) (p11 : UInt64) (p12 : UInt64) (p13 : Int32) (p14 : Int64) (p15 : Nat) (p16 : Nat) : Array Slot := #[.val (.long p0), .second, .val (.long p1), .second, .val (.long p2), .second, .val (.long p3), .second, iv p4, iv p5, .val (.long p6), .second, .val (.long p7), .second, .val (.long p8), .second, .val (.double p9), .second, .val (.double p10), .second, .val (.double p11), .second, .val (.double p12), .second, iv p13, .val (.long p14), .second, rv p15, rv p16, .unset, .unset, .unset, .unset, .unset, .unset, .unset, .unset]
abbrev La_12 (p0 : Int64) (p1 : Int64) (p2 : Int64) (p3 : Int64) (p4 : Int32) (p5 : Int32) (p6 : Int64) (p7 : Int64) (p8 : Int64) (p9 : UInt64) (p10 : UInt64) (p11 : UInt64) (p12 : UInt64) (p13 : Int32) (p14 : Int64) (p15 : Nat) (p16 : Nat) (p17 : Nat) : Array Slot := #[.val (.long p0), .second, .val (.long p1), .second, .val (.long p2), .second, .val (.long p3), .second, iv p4, iv p5, .val (.long p6), .second, .val (.long p7), .second, .val (.long p8), .second, .val (.double p9), .second, .val (.double p10), .second, .val (.double p11), .second, .val (.double p12), .second, iv p13, .val (.long p14), .second, rv p15, rv p16, rv p17, .unset, .unset, .unset, .unset, .unset, .unset, .unset]
abbrev La_13 (p0 : Int64) (p1 : Int64) (p2 : Int64) (p3 : Int64) (p4 : Int32) (p5 : Int32) (p6 : Int64) (p7 : Int64) (p8 : Int64) (p9 : UInt64) (p10 : UInt64) (p11 : UInt64) (p12 : UInt64) (p13 : Int32) (p14 : Int64) (p15 : Nat) (p16 : Nat) (p17 : Nat) (p18 : Nat) : Array Slot := #[.val (.long p0), .second, .val (.long p1), .second, .val (.long p2), .second, .val (.long p3), .second, iv p4, iv p5, .val (.long p6), .second, .val (.long p7), .second, .val (.long p8), .second, .val (.double p9), .second, .val (.double p10), .second, .val (.double p11), .second, .val (.double p12), .second, iv p13, .val (.long p14), .second, rv p15, rv p16, rv p17, rv p18, .unset, .unset, .unset, .unset, .unset, .unset]
theorem pd_5 : parseMethodDescriptor "()V" = some ⟨[], none⟩ := by decide +kernel
abbrev La_14 (p0 : Int64) (p1 : Int64) (p2 : Int64) (p3 : Int64) (p4 : Int32) (p5 : Int32) (p6 : Int64) (p7 : Int64) (p8 : Int64) (p9 : UInt64) (p10 : UInt64) (p11 : UInt64) (p12 : UInt64) (p13 : Int32) (p14 : Int64) (p15 : Nat) (p16 : Nat) (p17 : Nat) (p18 : Nat) (p19 : Nat) : Array Slot := #[.val (.long p0), .second, .val (.long p1), .second, .val (.long p2), .second, .val (.long p3), .second, iv p4, iv p5, .val (.long p6), .second, .val (.long p7), .second, .val (.long p8), .second, .val (.double p9), .second, .val (.double p10), .second, .val (.double p11), .second, .val (.double p12), .second, iv p13, .val (.long p14), .second, rv p15, rv p16, rv p17, rv p18, rv p19, .unset, .unset, .unset, .unset, .unset]
abbrev La_15 (p0 : Int64) (p1 : Int64) (p2 : Int64) (p3 : Int64) (p4 : Int32) (p5 : Int32) (p6 : Int64) (p7 : Int64) (p8 : Int64) (p9 : UInt64) (p10 : UInt64) (p11 : UInt64) (p12 : UInt64) (p13 : Int32) (p14 : Int64) (p15 : Nat) (p16 : Nat) (p17 : Nat) (p18 : Nat) (p19 : Nat) (p20 : Nat) : Array Slot := #[.val (.long p0), .second, .val (.long p1), .second, .val (.long p2), .second, .val (.long p3), .second, iv p4, iv p5, .val (.long p6), .second, .val (.long p7), .second, .val (.long p8), .second, .val (.double p9), .second, .val (.double p10), .second, .val (.double p11), .second, .val (.double p12), .second, iv p13, .val (.long p14), .second, rv p15, rv p16, rv p17, rv p18, rv p19, rv p20, .unset, .unset, .unset, .unset]
theorem pd_6 : parseMethodDescriptor "([D)I" = some ⟨[(.array .double)], some .int⟩ := by decide +kernel
abbrev La_16 (p0 : Int64) (p1 : Int64) (p2 : Int64) (p3 : Int64) (p4 : Int32) (p5 : Int32) (p6 : Int64) (p7 : Int64) (p8 : Int64) (p9 : UInt64) (p10 : UInt64) (p11 : UInt64) (p12 : UInt64) (p13 : Int32) (p14 : Int64) (p15 : Nat) (p16 : Nat) (p17 : Nat) (p18 : Nat) (p19 : Nat) (p20 : Nat) (p21 : Int32) : Array Slot := #[.val (.long p0), .second, .val (.long p1), .second, .val (.long p2), .second, .val (.long p3), .second, iv p4, iv p5, .val (.long p6), .second, .val (.long p7), .second, .val (.long p8), .second, .val (.double p9), .second, .val (.double p10), .second, .val (.double p11), .second, .val (.double p12), .second, iv p13, .val (.long p14), .second, rv p15, rv p16, rv p17, rv p18, rv p19, rv p20, iv p21, .unset, .unset, .unset]
abbrev La_17 (p0 : Int64) (p1 : Int64) (p2 : Int64) (p3 : Int64) (p4 : Int32) (p5 : Int32) (p6 : Int64) (p7 : Int64) (p8 : Int64) (p9 : UInt64) (p10 : UInt64) (p11 : UInt64) (p12 : UInt64) (p13 : Int32) (p14 : Int64) (p15 : Nat) (p16 : Nat) (p17 : Nat) (p18 : Nat) (p19 : Nat) (p20 : Nat) (p21 : Int32) (p22 : Int32) : Array Slot := #[.val (.long p0), .second, .val (.long p1), .second, .val (.long p2), .second, .val (.long p3), .second, iv p4, iv p5, .val (.long p6), .second, .val (.long p7), .second, .val (.long p8), .second, .val (.double p9), .second, .val (.double p10), .second, .val (.double p11), .second, .val (.double p12), .second, iv p13, .val (.long p14), .second, rv p15, rv p16, rv p17, rv p18, rv p19, rv p20, iv p21, iv p22, .unset, .unset]
theorem pd_7 : parseMethodDescriptor "(JDJDJDJD)V" = some ⟨[.long, .double, .long, .double, .long, .double, .long, .double], none⟩ := by decide +kernel
theorem pd_8 : parseMethodDescriptor "(JD)V" = some ⟨[.long, .double], none⟩ := by decide +kernel
abbrev La_18 (p0 : Int64) (p1 : Int64) (p2 : Int64) (p3 : Int64) (p4 : Int32) (p5 : Int32) (p6 : Int64) (p7 : Int64) (p8 : Int64) (p9 : UInt64) (p10 : UInt64) (p11 : UInt64) (p12 : UInt64) (p13 : Int32) (p14 : Int64) (p15 : Nat) (p16 : Nat) (p17 : Nat) (p18 : Nat) (p19 : Nat) (p20 : Nat) (p21 : Int32) (p22 : Int32) (p23 : Int32) : Array Slot := #[.val (.long p0), .second, .val (.long p1), .second, .val (.long p2), .second, .val (.long p3), .second, iv p4, iv p5, .val (.long p6), .second, .val (.long p7), .second, .val (.long p8), .second, .val (.double p9), .second, .val (.double p10), .second, .val (.double p11), .second, .val (.double p12), .second, iv p13, .val (.long p14), .second, rv p15, rv p16, rv p17, rv p18, rv p19, rv p20, iv p21, iv p22, iv p23, .unset]
abbrev La_19 (p0 : Int64) (p1 : Int64) (p2 : Int64) (p3 : Int64) (p4 : Int32) (p5 : Int32) (p6 : Int64) (p7 : Int64) (p8 : Int64) (p9 : UInt64) (p10 : UInt64) (p11 : UInt64) (p12 : UInt64) (p13 : Int32) (p14 : Int64) (p15 : Nat) (p16 : Nat) (p17 : Nat) (p18 : Nat) (p19 : Nat) (p20 : Nat) (p21 : Int32) (p22 : Int32) (p23 : Int32) (p24 : Int32) : Array Slot := #[.val (.long p0), .second, .val (.long p1), .second, .val (.long p2), .second, .val (.long p3), .second, iv p4, iv p5, .val (.long p6), .second, .val (.long p7), .second, .val (.long p8), .second, .val (.double p9), .second, .val (.double p10), .second, .val (.double p11), .second, .val (.double p12), .second, iv p13, .val (.long p14), .second, rv p15, rv p16, rv p17, rv p18, rv p19, rv p20, iv p21, iv p22, iv p23, iv p24]
theorem pd_9 : parseMethodDescriptor "(Ljava/lang/Object;)Z" = some ⟨[(.object "java/lang/Object")], some .boolean⟩ := by decide +kernel
theorem ef_12 (m : MethodId) (y0 : Int64) (y1 : Int64) (y2 : Int64) (y3 : Int64) (y4 : Int32) (y5 : Int32) : entryFrame m #[(.long y0), (.long y1), (.long y2), (.long y3), (.int y4), (.int y5)] maxLocals = mkF m 0 #[.val (.long y0), .second, .val (.long y1), .second, .val (.long y2), .second, .val (.long y3), .second, iv y4, iv y5, .unset, .unset, .unset, .unset, .unset, .unset, .unset, .unset, .unset, .unset, .unset, .unset, .unset, .unset, .unset, .unset, .unset, .unset, .unset, .unset, .unset, .unset, .unset, .unset, .unset, .unset, .unset] [] := by first | (simp [entryFrame, mkF, argsToLocals, Value.category, maxLocals]; done) | rfl
def Q_rm_law (Z : State) (y0 : Int64) (y1 : Int64) (y2 : Int64) (y3 : Int64) (y4 : Int32) (y5 : Int32) (h0 : Heap) (n0 : Nat) (vv : Option Value) (h : Heap) (LL : List Loc) : Prop := vv = some (.int 1) ∧ Fr n0 LL
set_option maxRecDepth 65536 in
set_option maxHeartbeats 40000000 in
theorem rm_law (l : Launch) (Z : State) (a0 : Array Value) (hw : ∀ d ∈ tables_1, d.before a0 Z = true) (ws : List Jvm.Cond) (y0 : Int64) (y1 : Int64) (y2 : Int64) (y3 : Int64) (y4 : Int32) (y5 : Int32) (h0 : Heap) (n0 : Nat) (Z0 : n0 ≤ h0.size) :
    MetFree l x (head1 (Jvm.Cond.code x code maxLocals ret :: ws) room_1) (fun aa UU => aa = #[(.long y0), (.long y1), (.long y2), (.long y3), (.int y4), (.int y5)] ∧ Z.Warmed39 UU.vm ∧ UU.heap = h0) (fun _ _ _ _ _ => True) (fun _ UU oo UU' => ∃ vv LL, oo = .returned vv ∧ Q_rm_law Z y0 y1 y2 y3 y4 y5 h0 n0 vv UU'.heap LL ∧ FrameEnd UU oo UU' LL room_1.cells room_1.slots) := by
  refine MetFree.of_bodySF (plainFor_of_name pn_0) hisR ?_
  intro p e s m args below meth c s₁ Bd hml0 hP hK
  obtain ⟨rfl, hZ, hh⟩ := hP
  have hx := Bd.exec
  have hby := Bd.bytes
  have hret := Bd.returns
  have hml : c.maxLocals = 37 := hml0
  have hown : s.vm.findClass "com/example/driftline/driftline/storage/ExtremesWeighPinLaw" = some m.cls := findClass_of_methodNamed Bd.named
  have hnm := (name_of_methodNamed Bd.named Bd.method).1
  have hlk : meth.locks = false := BodyLoose.notSynchronized Bd
  have X0 : Stand p l e room_1 s m #[(.long y0), (.long y1), (.long y2), (.long y3), (.int y4), (.int y5)] below meth c s₁ [] 0 0 := Stand.of_body Bd
  have e0 : s₁.heap = h0 := by rw [← hh, Bd.state]; rfl
  have N0 := Fr.nil n0
  refine own_in (ef_12 m y0 y1 y2 y3 y4 y5) ?_
  refine og s₁ (mkF m 1 (La_0 y0 y1 y2 y3 y4 y5) [(.long y0)]) (fun t_ k_ => XS.lloadN X0.here hx rfl (hb hby at_0) rfl k_) ?_
  refine og s₁ (mkF m 2 (La_0 y0 y1 y2 y3 y4 y5) [(.long y1), (.long y0)]) (fun t_ k_ => XS.lloadN X0.here hx rfl (hb hby at_1) rfl k_) ?_
  obtain ⟨_, _, ⟨T1, L1, k1, n1⟩, -, X1, ⟨Lc1, hQ1, l1, y1, z1⟩, st1⟩ := Jvm.LawKit.callS X0 hx (y := ym_1) hown (mvT hZ (own_w hw 0 rfl)) (mvT hZ (own_w hw 1 rfl)) (mvT hZ (own_w hw 2 rfl)) (mvT hZ (own_w hw 3 rfl)) (by decide) (backOf (W := 0) (rm_min l Z a0 hw [] y0 y1 h0 n0 (show n0 ≤ h0.size by omega)) hZ (own_w hw 3 rfl) (own_w hw 2 rfl) (by decide) (by decide)) (g := (mkF m 2 (La_0 y0 y1 y2 y3 y4 y5) [(.long y1), (.long y0)])) rfl (by rw [hml]; rfl) (argsL := [(.long y0), (.long y1)]) (rest := []) (lenOf pd_3 rfl) rfl (by show 2 * 0 + _ ≤ _; exact Nat.le_of_eq rfl) (hb hby at_2) (fun _ _ => ⟨rfl, e0, (by decide : 0 + 0 ≤ _), (by decide : 0 + 0 ≤ _)⟩)
  dsimp only [Pt.U, Pt.locs, Pt.cells, Pt.slots] at X1 l1 y1 z1 st1 hQ1
  replace l1 := l1.symm; replace y1 := y1.symm; replace z1 := z1.symm; subst l1 y1 z1
  obtain ⟨v1, rfl, M1, e1⟩ := hQ1
  have N1 := Fr.app N0 M1
  refine og T1 (mkF m 5 (La_0 y0 y1 y2 y3 y4 y5) [(.long v1)]) (fun t_ k_ => st1 _ k_) ?_
  refine og T1 (mkF m 7 (La_0 y0 y1 y2 y3 y4 y5) [(.long y2), (.long v1)]) (fun t_ k_ => XS.lload X1.here hx rfl (hb hby at_5) rfl k_) ?_
  obtain ⟨_, _, ⟨T2, L2, k2, n2⟩, -, X2, ⟨Lc2, hQ2, l2, y2, z2⟩, st2⟩ := Jvm.LawKit.callS X1 hx (y := ym_1) hown (mvT hZ (own_w hw 0 rfl)) (mvT hZ (own_w hw 1 rfl)) (mvT hZ (own_w hw 2 rfl)) (mvT hZ (own_w hw 3 rfl)) (by decide) (backOf (W := 0) (rm_min l Z a0 hw [] v1 y2 h0 n0 (show n0 ≤ h0.size by omega)) hZ (own_w hw 3 rfl) (own_w hw 2 rfl) (by decide) (by decide)) (g := (mkF m 7 (La_0 y0 y1 y2 y3 y4 y5) [(.long y2), (.long v1)])) rfl (by rw [hml]; rfl) (argsL := [(.long v1), (.long y2)]) (rest := []) (lenOf pd_3 rfl) rfl (by show 2 * 0 + _ ≤ _; exact Nat.le_of_eq rfl) (hb hby at_7) (fun _ _ => ⟨rfl, e1, (by decide : 0 + 0 ≤ _), (by decide : 0 + 0 ≤ _)⟩)
  dsimp only [Pt.U, Pt.locs, Pt.cells, Pt.slots] at X2 l2 y2 z2 st2 hQ2
  replace l2 := l2.symm; replace y2 := y2.symm; replace z2 := z2.symm; subst l2 y2 z2
  obtain ⟨v2, rfl, M2, e2⟩ := hQ2
  have N2 := Fr.app N1 M2
  refine og T2 (mkF m 10 (La_0 y0 y1 y2 y3 y4 y5) [(.long v2)]) (fun t_ k_ => st2 _ k_) ?_
  generalize g_lo : v2 = lo
  refine og T2 (mkF m 12 (La_1 y0 y1 y2 y3 y4 y5 lo) []) (fun t_ k_ => XS.lstore X2.here hx rfl (hb hby at_10) rfl (l' := (La_1 y0 y1 y2 y3 y4 y5 lo)) rfl k_) ?_
  refine og T2 (mkF m 13 (La_1 y0 y1 y2 y3 y4 y5 lo) [(.long y0)]) (fun t_ k_ => XS.lloadN X2.here hx rfl (hb hby at_12) rfl k_) ?_
  refine og T2 (mkF m 14 (La_1 y0 y1 y2 y3 y4 y5 lo) [(.long y1), (.long y0)]) (fun t_ k_ => XS.lloadN X2.here hx rfl (hb hby at_13) rfl k_) ?_
  obtain ⟨_, _, ⟨T3, L3, k3, n3⟩, -, X3, ⟨Lc3, hQ3, l3, y3, z3⟩, st3⟩ := Jvm.LawKit.callS X2 hx (y := ym_2) hown (mvT hZ (own_w hw 4 rfl)) (mvT hZ (own_w hw 5 rfl)) (mvT hZ (own_w hw 2 rfl)) (mvT hZ (own_w hw 6 rfl)) (by decide) (backOf (W := 0) (rm_max l Z a0 hw [] y0 y1 h0 n0 (show n0 ≤ h0.size by omega)) hZ (own_w hw 6 rfl) (own_w hw 2 rfl) (by decide) (by decide)) (g := (mkF m 14 (La_1 y0 y1 y2 y3 y4 y5 lo) [(.long y1), (.long y0)])) rfl (by rw [hml]; rfl) (argsL := [(.long y0), (.long y1)]) (rest := []) (lenOf pd_3 rfl) rfl (by show 2 * 0 + _ ≤ _; exact Nat.le_of_eq rfl) (hb hby at_14) (fun _ _ => ⟨rfl, e2, (by decide : 0 + 0 ≤ _), (by decide : 0 + 0 ≤ _)⟩)
  dsimp only [Pt.U, Pt.locs, Pt.cells, Pt.slots] at X3 l3 y3 z3 st3 hQ3
  replace l3 := l3.symm; replace y3 := y3.symm; replace z3 := z3.symm; subst l3 y3 z3
  obtain ⟨v3, rfl, M3, e3⟩ := hQ3
  have N3 := Fr.app N2 M3
  refine og T3 (mkF m 17 (La_1 y0 y1 y2 y3 y4 y5 lo) [(.long v3)]) (fun t_ k_ => st3 _ k_) ?_
  refine og T3 (mkF m 19 (La_1 y0 y1 y2 y3 y4 y5 lo) [(.long y2), (.long v3)]) (fun t_ k_ => XS.lload X3.here hx rfl (hb hby at_17) rfl k_) ?_
  obtain ⟨_, _, ⟨T4, L4, k4, n4⟩, -, X4, ⟨Lc4, hQ4, l4, y4, z4⟩, st4⟩ := Jvm.LawKit.callS X3 hx (y := ym_2) hown (mvT hZ (own_w hw 4 rfl)) (mvT hZ (own_w hw 5 rfl)) (mvT hZ (own_w hw 2 rfl)) (mvT hZ (own_w hw 6 rfl)) (by decide) (backOf (W := 0) (rm_max l Z a0 hw [] v3 y2 h0 n0 (show n0 ≤ h0.size by omega)) hZ (own_w hw 6 rfl) (own_w hw 2 rfl) (by decide) (by decide)) (g := (mkF m 19 (La_1 y0 y1 y2 y3 y4 y5 lo) [(.long y2), (.long v3)])) rfl (by rw [hml]; rfl) (argsL := [(.long v3), (.long y2)]) (rest := []) (lenOf pd_3 rfl) rfl (by show 2 * 0 + _ ≤ _; exact Nat.le_of_eq rfl) (hb hby at_19) (fun _ _ => ⟨rfl, e3, (by decide : 0 + 0 ≤ _), (by decide : 0 + 0 ≤ _)⟩)
  dsimp only [Pt.U, Pt.locs, Pt.cells, Pt.slots] at X4 l4 y4 z4 st4 hQ4
  replace l4 := l4.symm; replace y4 := y4.symm; replace z4 := z4.symm; subst l4 y4 z4
  obtain ⟨v4, rfl, M4, e4⟩ := hQ4
  have N4 := Fr.app N3 M4
  refine og T4 (mkF m 22 (La_1 y0 y1 y2 y3 y4 y5 lo) [(.long v4)]) (fun t_ k_ => st4 _ k_) ?_
  generalize g_hi : v4 = hi
  refine og T4 (mkF m 24 (La_2 y0 y1 y2 y3 y4 y5 lo hi) []) (fun t_ k_ => XS.lstore X4.here hx rfl (hb hby at_22) rfl (l' := (La_2 y0 y1 y2 y3 y4 y5 lo hi)) rfl k_) ?_
  refine og T4 (mkF m 25 (La_2 y0 y1 y2 y3 y4 y5 lo hi) [(.long y0)]) (fun t_ k_ => XS.lloadN X4.here hx rfl (hb hby at_24) rfl k_) ?_
  refine og T4 (mkF m 26 (La_2 y0 y1 y2 y3 y4 y5 lo hi) [(.long y1), (.long y0)]) (fun t_ k_ => XS.lloadN X4.here hx rfl (hb hby at_25) rfl k_) ?_
  refine og T4 (mkF m 27 (La_2 y0 y1 y2 y3 y4 y5 lo hi) [(.long (y0 + y1))]) (fun t_ k_ => XS.ladd X4.here hx rfl (hb hby at_26) rfl k_) ?_
  refine og T4 (mkF m 29 (La_2 y0 y1 y2 y3 y4 y5 lo hi) [(.long y2), (.long (y0 + y1))]) (fun t_ k_ => XS.lload X4.here hx rfl (hb hby at_27) rfl k_) ?_
  refine og T4 (mkF m 30 (La_2 y0 y1 y2 y3 y4 y5 lo hi) [(.long ((y0 + y1) + y2))]) (fun t_ k_ => XS.ladd X4.here hx rfl (hb hby at_29) rfl k_) ?_
  refine og T4 (mkF m 32 (La_2 y0 y1 y2 y3 y4 y5 lo hi) [(.long lo), (.long ((y0 + y1) + y2))]) (fun t_ k_ => XS.lload X4.here hx rfl (hb hby at_30) rfl k_) ?_
  refine og T4 (mkF m 33 (La_2 y0 y1 y2 y3 y4 y5 lo hi) [(.long (((y0 + y1) + y2) - lo))]) (fun t_ k_ => XS.lsub X4.here hx rfl (hb hby at_32) rfl k_) ?_
  refine og T4 (mkF m 35 (La_2 y0 y1 y2 y3 y4 y5 lo hi) [(.long hi), (.long (((y0 + y1) + y2) - lo))]) (fun t_ k_ => XS.lload X4.here hx rfl (hb hby at_33) rfl k_) ?_
  refine og T4 (mkF m 36 (La_2 y0 y1 y2 y3 y4 y5 lo hi) [(.long ((((y0 + y1) + y2) - lo) - hi))]) (fun t_ k_ => XS.lsub X4.here hx rfl (hb hby at_35) rfl k_) ?_
  generalize g_mid : ((((y0 + y1) + y2) - lo) - hi) = mid
  refine og T4 (mkF m 38 (La_3 y0 y1 y2 y3 y4 y5 lo hi mid) []) (fun t_ k_ => XS.lstore X4.here hx rfl (hb hby at_36) rfl (l' := (La_3 y0 y1 y2 y3 y4 y5 lo hi mid)) rfl k_) ?_
  refine og T4 (mkF m 40 (La_3 y0 y1 y2 y3 y4 y5 lo hi mid) [(.long lo)]) (fun t_ k_ => XS.lload X4.here hx rfl (hb hby at_38) rfl k_) ?_
  refine og T4 (mkF m 42 (La_3 y0 y1 y2 y3 y4 y5 lo hi mid) [(.long mid), (.long lo)]) (fun t_ k_ => XS.lload X4.here hx rfl (hb hby at_40) rfl k_) ?_
  refine og T4 (mkF m 43 (La_3 y0 y1 y2 y3 y4 y5 lo hi mid) [(.int (lcmpW lo mid))]) (fun t_ k_ => XS.lcmp X4.here hx rfl (hb hby at_42) rfl k_) ?_
  by_cases hq5_ : lo < mid
  · skip
    refine og T4 (mkF m 46 (La_3 y0 y1 y2 y3 y4 y5 lo hi mid) []) (fun t_ k_ => XS.ifNo X4.here hx rfl (hb hby at_43) rfl ((if0 _ _).trans (tlt ((lw_lt _ _).mpr hq5_)).2.1) k_) ?_
    refine og T4 (mkF m 48 (La_3 y0 y1 y2 y3 y4 y5 lo hi mid) [(.long mid)]) (fun t_ k_ => XS.lload X4.here hx rfl (hb hby at_46) rfl k_) ?_
    refine og T4 (mkF m 50 (La_3 y0 y1 y2 y3 y4 y5 lo hi mid) [(.long hi), (.long mid)]) (fun t_ k_ => XS.lload X4.here hx rfl (hb hby at_48) rfl k_) ?_
    refine og T4 (mkF m 51 (La_3 y0 y1 y2 y3 y4 y5 lo hi mid) [(.int (lcmpW mid hi))]) (fun t_ k_ => XS.lcmp X4.here hx rfl (hb hby at_50) rfl k_) ?_
    by_cases hq6_ : mid < hi
    · skip
      refine og T4 (mkF m 56 (La_3 y0 y1 y2 y3 y4 y5 lo hi mid) []) (fun t_ k_ => XS.ifYes X4.here hx rfl (pc0 := 51) (pc' := 56) rfl (hb hby at_51) rfl ((if0 _ _).trans (tlt ((lw_lt _ _).mpr hq6_)).1) (by decide) (by decide) k_) ?_
      refine og T4 (mkF m 58 (La_3 y0 y1 y2 y3 y4 y5 lo hi mid) [(.int y4)]) (fun t_ k_ => XS.iload X4.here hx rfl (hb hby at_56) rfl k_) ?_
      obtain ⟨_, _, ⟨T7, L7, k7, n7⟩, -, X7, ⟨Lc7, hQ7, l7, y7, z7⟩, st7⟩ := Jvm.LawKit.callS X4 hx (y := ym_0) hown (mvT hZ (own_w hw 7 rfl)) (mvT hZ (own_w hw 8 rfl)) (mvT hZ (own_w hw 9 rfl)) (mvT hZ (own_w hw 10 rfl)) (by decide) (backOf (W := 0) (rm_val l Z a0 hw [] y4 h0 n0 (show n0 ≤ h0.size by omega)) hZ (own_w hw 10 rfl) (own_w hw 9 rfl) (by decide) (by decide)) (g := (mkF m 58 (La_3 y0 y1 y2 y3 y4 y5 lo hi mid) [(.int y4)])) rfl (by rw [hml]; rfl) (argsL := [(.int y4)]) (rest := []) (lenOf pd_4 rfl) rfl (by show 2 * 0 + _ ≤ _; exact Nat.le_of_eq rfl) (hb hby at_58) (fun _ _ => ⟨rfl, e4, (by decide : 0 + 0 ≤ _), (by decide : 0 + 0 ≤ _)⟩)
      dsimp only [Pt.U, Pt.locs, Pt.cells, Pt.slots] at X7 l7 y7 z7 st7 hQ7
      replace l7 := l7.symm; replace y7 := y7.symm; replace z7 := z7.symm; subst l7 y7 z7
      obtain ⟨v7, r7, rfl, M7, e7, f7_0⟩ := hQ7
      have N7 := Fr.app N4 M7
      refine og T7 (mkF m 61 (La_3 y0 y1 y2 y3 y4 y5 lo hi mid) [(.double v7)]) (fun t_ k_ => st7 _ k_) ?_
      refine og T7 (mkF m 63 (La_4 y0 y1 y2 y3 y4 y5 lo hi mid v7) []) (fun t_ k_ => XS.dstore X7.here hx rfl (hb hby at_61) rfl (l' := (La_4 y0 y1 y2 y3 y4 y5 lo hi mid v7)) rfl k_) ?_
      refine og T7 (mkF m 65 (La_4 y0 y1 y2 y3 y4 y5 lo hi mid v7) [(.int y4)]) (fun t_ k_ => XS.iload X7.here hx rfl (hb hby at_63) rfl k_) ?_
      refine og T7 (mkF m 66 (La_4 y0 y1 y2 y3 y4 y5 lo hi mid v7) [(.int 3), (.int y4)]) (fun t_ k_ => XS.iconst X7.here hx rfl (hb hby at_65) k_) ?_
      refine og T7 (mkF m 67 (La_4 y0 y1 y2 y3 y4 y5 lo hi mid v7) [(.int ((y4.toUInt32 >>> ((3 : Int32) &&& 31).toUInt32).toInt32))]) (fun t_ k_ => XS.iushr X7.here hx rfl (hb hby at_66) rfl k_) ?_
      obtain ⟨_, _, ⟨T8, L8, k8, n8⟩, -, X8, ⟨Lc8, hQ8, l8, y8, z8⟩, st8⟩ := Jvm.LawKit.callS X7 hx (y := ym_0) hown (mvT hZ (own_w hw 7 rfl)) (mvT hZ (own_w hw 8 rfl)) (mvT hZ (own_w hw 9 rfl)) (mvT hZ (own_w hw 10 rfl)) (by decide) (backOf (W := 0) (rm_val l Z a0 hw [] ((y4.toUInt32 >>> ((3 : Int32) &&& 31).toUInt32).toInt32) h0 n0 (show n0 ≤ h0.size by omega)) hZ (own_w hw 10 rfl) (own_w hw 9 rfl) (by decide) (by decide)) (g := (mkF m 67 (La_4 y0 y1 y2 y3 y4 y5 lo hi mid v7) [(.int ((y4.toUInt32 >>> ((3 : Int32) &&& 31).toUInt32).toInt32))])) rfl (by rw [hml]; rfl) (argsL := [(.int ((y4.toUInt32 >>> ((3 : Int32) &&& 31).toUInt32).toInt32))]) (rest := []) (lenOf pd_4 rfl) rfl (by show 2 * 0 + _ ≤ _; exact Nat.le_of_eq rfl) (hb hby at_67) (fun _ _ => ⟨rfl, e7, (by decide : 0 + 0 ≤ _), (by decide : 0 + 0 ≤ _)⟩)
      dsimp only [Pt.U, Pt.locs, Pt.cells, Pt.slots] at X8 l8 y8 z8 st8 hQ8
      replace l8 := l8.symm; replace y8 := y8.symm; replace z8 := z8.symm; subst l8 y8 z8
      obtain ⟨v8, r8, rfl, M8, e8, f8_0⟩ := hQ8
      have N8 := Fr.app N7 M8
      refine og T8 (mkF m 70 (La_4 y0 y1 y2 y3 y4 y5 lo hi mid v7) [(.double v8)]) (fun t_ k_ => st8 _ k_) ?_
      refine og T8 (mkF m 72 (La_5 y0 y1 y2 y3 y4 y5 lo hi mid v7 v8) []) (fun t_ k_ => XS.dstore X8.here hx rfl (hb hby at_70) rfl (l' := (La_5 y0 y1 y2 y3 y4 y5 lo hi mid v7 v8)) rfl k_) ?_
      refine og T8 (mkF m 74 (La_5 y0 y1 y2 y3 y4 y5 lo hi mid v7 v8) [(.int y4)]) (fun t_ k_ => XS.iload X8.here hx rfl (hb hby at_72) rfl k_) ?_
      refine og T8 (mkF m 76 (La_5 y0 y1 y2 y3 y4 y5 lo hi mid v7 v8) [(.int 6), (.int y4)]) (fun t_ k_ => XS.bipush X8.here hx rfl (hb hby at_74) k_) ?_
      refine og T8 (mkF m 77 (La_5 y0 y1 y2 y3 y4 y5 lo hi mid v7 v8) [(.int ((y4.toUInt32 >>> ((6 : Int32) &&& 31).toUInt32).toInt32))]) (fun t_ k_ => XS.iushr X8.here hx rfl (hb hby at_76) rfl k_) ?_
      obtain ⟨_, _, ⟨T9, L9, k9, n9⟩, -, X9, ⟨Lc9, hQ9, l9, y9, z9⟩, st9⟩ := Jvm.LawKit.callS X8 hx (y := ym_0) hown (mvT hZ (own_w hw 7 rfl)) (mvT hZ (own_w hw 8 rfl)) (mvT hZ (own_w hw 9 rfl)) (mvT hZ (own_w hw 10 rfl)) (by decide) (backOf (W := 0) (rm_val l Z a0 hw [] ((y4.toUInt32 >>> ((6 : Int32) &&& 31).toUInt32).toInt32) h0 n0 (show n0 ≤ h0.size by omega)) hZ (own_w hw 10 rfl) (own_w hw 9 rfl) (by decide) (by decide)) (g := (mkF m 77 (La_5 y0 y1 y2 y3 y4 y5 lo hi mid v7 v8) [(.int ((y4.toUInt32 >>> ((6 : Int32) &&& 31).toUInt32).toInt32))])) rfl (by rw [hml]; rfl) (argsL := [(.int ((y4.toUInt32 >>> ((6 : Int32) &&& 31).toUInt32).toInt32))]) (rest := []) (lenOf pd_4 rfl) rfl (by show 2 * 0 + _ ≤ _; exact Nat.le_of_eq rfl) (hb hby at_77) (fun _ _ => ⟨rfl, e8, (by decide : 0 + 0 ≤ _), (by decide : 0 + 0 ≤ _)⟩)
      dsimp only [Pt.U, Pt.locs, Pt.cells, Pt.slots] at X9 l9 y9 z9 st9 hQ9
      replace l9 := l9.symm; replace y9 := y9.symm; replace z9 := z9.symm; subst l9 y9 z9
      obtain ⟨v9, r9, rfl, M9, e9, f9_0⟩ := hQ9
      have N9 := Fr.app N8 M9
      refine og T9 (mkF m 80 (La_5 y0 y1 y2 y3 y4 y5 lo hi mid v7 v8) [(.double v9)]) (fun t_ k_ => st9 _ k_) ?_
      refine og T9 (mkF m 82 (La_6 y0 y1 y2 y3 y4 y5 lo hi mid v7 v8 v9) []) (fun t_ k_ => XS.dstore X9.here hx rfl (hb hby at_80) rfl (l' := (La_6 y0 y1 y2 y3 y4 y5 lo hi mid v7 v8 v9)) rfl k_) ?_
      refine og T9 (mkF m 84 (La_6 y0 y1 y2 y3 y4 y5 lo hi mid v7 v8 v9) [(.int y4)]) (fun t_ k_ => XS.iload X9.here hx rfl (hb hby at_82) rfl k_) ?_
      refine og T9 (mkF m 86 (La_6 y0 y1 y2 y3 y4 y5 lo hi mid v7 v8 v9) [(.int 9), (.int y4)]) (fun t_ k_ => XS.bipush X9.here hx rfl (hb hby at_84) k_) ?_
      refine og T9 (mkF m 87 (La_6 y0 y1 y2 y3 y4 y5 lo hi mid v7 v8 v9) [(.int ((y4.toUInt32 >>> ((9 : Int32) &&& 31).toUInt32).toInt32))]) (fun t_ k_ => XS.iushr X9.here hx rfl (hb hby at_86) rfl k_) ?_
      obtain ⟨_, _, ⟨T10, L10, k10, n10⟩, -, X10, ⟨Lc10, hQ10, l10, y10, z10⟩, st10⟩ := Jvm.LawKit.callS X9 hx (y := ym_0) hown (mvT hZ (own_w hw 7 rfl)) (mvT hZ (own_w hw 8 rfl)) (mvT hZ (own_w hw 9 rfl)) (mvT hZ (own_w hw 10 rfl)) (by decide) (backOf (W := 0) (rm_val l Z a0 hw [] ((y4.toUInt32 >>> ((9 : Int32) &&& 31).toUInt32).toInt32) h0 n0 (show n0 ≤ h0.size by omega)) hZ (own_w hw 10 rfl) (own_w hw 9 rfl) (by decide) (by decide)) (g := (mkF m 87 (La_6 y0 y1 y2 y3 y4 y5 lo hi mid v7 v8 v9) [(.int ((y4.toUInt32 >>> ((9 : Int32) &&& 31).toUInt32).toInt32))])) rfl (by rw [hml]; rfl) (argsL := [(.int ((y4.toUInt32 >>> ((9 : Int32) &&& 31).toUInt32).toInt32))]) (rest := []) (lenOf pd_4 rfl) rfl (by show 2 * 0 + _ ≤ _; exact Nat.le_of_eq rfl) (hb hby at_87) (fun _ _ => ⟨rfl, e9, (by decide : 0 + 0 ≤ _), (by decide : 0 + 0 ≤ _)⟩)
      dsimp only [Pt.U, Pt.locs, Pt.cells, Pt.slots] at X10 l10 y10 z10 st10 hQ10
      replace l10 := l10.symm; replace y10 := y10.symm; replace z10 := z10.symm; subst l10 y10 z10
      obtain ⟨v10, r10, rfl, M10, e10, f10_0⟩ := hQ10
      have N10 := Fr.app N9 M10
      refine og T10 (mkF m 90 (La_6 y0 y1 y2 y3 y4 y5 lo hi mid v7 v8 v9) [(.double v10)]) (fun t_ k_ => st10 _ k_) ?_
      refine og T10 (mkF m 92 (La_7 y0 y1 y2 y3 y4 y5 lo hi mid v7 v8 v9 v10) []) (fun t_ k_ => XS.dstore X10.here hx rfl (hb hby at_90) rfl (l' := (La_7 y0 y1 y2 y3 y4 y5 lo hi mid v7 v8 v9 v10)) rfl k_) ?_
      refine og T10 (mkF m 94 (La_7 y0 y1 y2 y3 y4 y5 lo hi mid v7 v8 v9 v10) [(.int y5)]) (fun t_ k_ => XS.iload X10.here hx rfl (hb hby at_92) rfl k_) ?_
      refine og T10 (mkF m 95 (La_7 y0 y1 y2 y3 y4 y5 lo hi mid v7 v8 v9 v10) [(.int 3), (.int y5)]) (fun t_ k_ => XS.iconst X10.here hx rfl (hb hby at_94) k_) ?_
      refine og T10 (mkF m 96 (La_7 y0 y1 y2 y3 y4 y5 lo hi mid v7 v8 v9 v10) [(.int (y5 &&& (3 : Int32)))]) (fun t_ k_ => XS.iand X10.here hx rfl (hb hby at_95) rfl k_) ?_
      refine og T10 (mkF m 98 (La_8 y0 y1 y2 y3 y4 y5 lo hi mid v7 v8 v9 v10 (y5 &&& (3 : Int32))) []) (fun t_ k_ => XS.istore X10.here hx rfl (hb hby at_96) rfl (l' := (La_8 y0 y1 y2 y3 y4 y5 lo hi mid v7 v8 v9 v10 (y5 &&& (3 : Int32)))) rfl k_) ?_
      refine og T10 (mkF m 100 (La_8 y0 y1 y2 y3 y4 y5 lo hi mid v7 v8 v9 v10 (y5 &&& (3 : Int32))) [(.int (y5 &&& (3 : Int32)))]) (fun t_ k_ => XS.iload X10.here hx rfl (hb hby at_98) rfl k_) ?_
      refine own_go (T' := T10) (g' := (mkF m 121 (La_8 y0 y1 y2 y3 y4 y5 lo hi mid v7 v8 v9 v10 (y5 &&& (3 : Int32))) [(.long (if (y5 &&& (3 : Int32)) = (0 : Int32) then lo else (if (y5 &&& (3 : Int32)) = (1 : Int32) then hi else y3)))])) (fun t_ k_ => ?_) ?_
      · show Steps p.tables e below (T10.setTop (mkF m 100 (La_8 y0 y1 y2 y3 y4 y5 lo hi mid v7 v8 v9 v10 (y5 &&& (3 : Int32))) [(.int (y5 &&& (3 : Int32)))])) t_
        by_cases hq11_ : (y5 &&& (3 : Int32)) = (0 : Int32)
        · skip
          refine os T10 (mkF m 103 (La_8 y0 y1 y2 y3 y4 y5 lo hi mid v7 v8 v9 v10 (y5 &&& (3 : Int32))) []) (fun k_ => XS.ifNo X10.here hx rfl (hb hby at_100) rfl ((if0 _ _).trans (teq hq11_).2) k_) ?_
          refine os T10 (mkF m 105 (La_8 y0 y1 y2 y3 y4 y5 lo hi mid v7 v8 v9 v10 (y5 &&& (3 : Int32))) [(.long lo)]) (fun k_ => XS.lload X10.here hx rfl (hb hby at_103) rfl k_) ?_
          refine os T10 (mkF m 121 (La_8 y0 y1 y2 y3 y4 y5 lo hi mid v7 v8 v9 v10 (y5 &&& (3 : Int32))) [(.long lo)]) (fun k_ => XS.goto X10.here hx rfl (pc0 := 105) (pc' := 121) rfl (hb hby at_105) (by decide) (by decide) k_) ?_
          rw [show (if (y5 &&& (3 : Int32)) = (0 : Int32) then lo else (if (y5 &&& (3 : Int32)) = (1 : Int32) then hi else y3)) = lo from (if_pos hq11_)] at k_
          exact k_
        · skip
          refine os T10 (mkF m 108 (La_8 y0 y1 y2 y3 y4 y5 lo hi mid v7 v8 v9 v10 (y5 &&& (3 : Int32))) []) (fun k_ => XS.ifYes X10.here hx rfl (pc0 := 100) (pc' := 108) rfl (hb hby at_100) rfl ((if0 _ _).trans (feq hq11_).2) (by decide) (by decide) k_) ?_
          refine os T10 (mkF m 110 (La_8 y0 y1 y2 y3 y4 y5 lo hi mid v7 v8 v9 v10 (y5 &&& (3 : Int32))) [(.int (y5 &&& (3 : Int32)))]) (fun k_ => XS.iload X10.here hx rfl (hb hby at_108) rfl k_) ?_
          refine os T10 (mkF m 111 (La_8 y0 y1 y2 y3 y4 y5 lo hi mid v7 v8 v9 v10 (y5 &&& (3 : Int32))) [(.int 1), (.int (y5 &&& (3 : Int32)))]) (fun k_ => XS.iconst X10.here hx rfl (hb hby at_110) k_) ?_
          by_cases hq12_ : (y5 &&& (3 : Int32)) = (1 : Int32)
          · skip
            refine os T10 (mkF m 114 (La_8 y0 y1 y2 y3 y4 y5 lo hi mid v7 v8 v9 v10 (y5 &&& (3 : Int32))) []) (fun k_ => XS.icmpNo X10.here hx rfl (hb hby at_111) rfl (teq hq12_).2 k_) ?_
            refine os T10 (mkF m 116 (La_8 y0 y1 y2 y3 y4 y5 lo hi mid v7 v8 v9 v10 (y5 &&& (3 : Int32))) [(.long hi)]) (fun k_ => XS.lload X10.here hx rfl (hb hby at_114) rfl k_) ?_
            refine os T10 (mkF m 121 (La_8 y0 y1 y2 y3 y4 y5 lo hi mid v7 v8 v9 v10 (y5 &&& (3 : Int32))) [(.long hi)]) (fun k_ => XS.goto X10.here hx rfl (pc0 := 116) (pc' := 121) rfl (hb hby at_116) (by decide) (by decide) k_) ?_
            rw [show (if (y5 &&& (3 : Int32)) = (0 : Int32) then lo else (if (y5 &&& (3 : Int32)) = (1 : Int32) then hi else y3)) = hi from (if_neg hq11_).trans ((if_pos hq12_))] at k_
            exact k_
          · skip
            refine os T10 (mkF m 119 (La_8 y0 y1 y2 y3 y4 y5 lo hi mid v7 v8 v9 v10 (y5 &&& (3 : Int32))) []) (fun k_ => XS.icmpYes X10.here hx rfl (pc0 := 111) (pc' := 119) rfl (hb hby at_111) rfl (feq hq12_).2 (by decide) (by decide) k_) ?_
            refine os T10 (mkF m 121 (La_8 y0 y1 y2 y3 y4 y5 lo hi mid v7 v8 v9 v10 (y5 &&& (3 : Int32))) [(.long y3)]) (fun k_ => XS.lload X10.here hx rfl (hb hby at_119) rfl k_) ?_
            rw [show (if (y5 &&& (3 : Int32)) = (0 : Int32) then lo else (if (y5 &&& (3 : Int32)) = (1 : Int32) then hi else y3)) = y3 from (if_neg hq11_).trans ((if_neg hq12_))] at k_
            exact k_
      generalize g_tw : (if (y5 &&& (3 : Int32)) = (0 : Int32) then lo else (if (y5 &&& (3 : Int32)) = (1 : Int32) then hi else y3)) = tw
      refine og T10 (mkF m 123 (La_9 y0 y1 y2 y3 y4 y5 lo hi mid v7 v8 v9 v10 (y5 &&& (3 : Int32)) tw) []) (fun t_ k_ => XS.lstore X10.here hx rfl (hb hby at_121) rfl (l' := (La_9 y0 y1 y2 y3 y4 y5 lo hi mid v7 v8 v9 v10 (y5 &&& (3 : Int32)) tw)) rfl k_) ?_
      refine og T10 (mkF m 125 (La_9 y0 y1 y2 y3 y4 y5 lo hi mid v7 v8 v9 v10 (y5 &&& (3 : Int32)) tw) [(.long tw)]) (fun t_ k_ => XS.lload X10.here hx rfl (hb hby at_123) rfl k_) ?_
      refine og T10 (mkF m 127 (La_9 y0 y1 y2 y3 y4 y5 lo hi mid v7 v8 v9 v10 (y5 &&& (3 : Int32)) tw) [(.long lo), (.long tw)]) (fun t_ k_ => XS.lload X10.here hx rfl (hb hby at_125) rfl k_) ?_
      refine og T10 (mkF m 128 (La_9 y0 y1 y2 y3 y4 y5 lo hi mid v7 v8 v9 v10 (y5 &&& (3 : Int32)) tw) [(.int (lcmpW tw lo))]) (fun t_ k_ => XS.lcmp X10.here hx rfl (hb hby at_127) rfl k_) ?_
      by_cases hq13_ : tw < lo
      · skip
        refine og T10 (mkF m 147 (La_9 y0 y1 y2 y3 y4 y5 lo hi mid v7 v8 v9 v10 (y5 &&& (3 : Int32)) tw) []) (fun t_ k_ => XS.ifYes X10.here hx rfl (pc0 := 128) (pc' := 147) rfl (hb hby at_128) rfl ((if0 _ _).trans (tlt ((lw_lt _ _).mpr hq13_)).1) (by decide) (by decide) k_) ?_
        refine og T10 (mkF m 148 (La_9 y0 y1 y2 y3 y4 y5 lo hi mid v7 v8 v9 v10 (y5 &&& (3 : Int32)) tw) [(.int 1)]) (fun t_ k_ => XS.iconst X10.here hx rfl (hb hby at_147) k_) ?_
        exact own_out X10 (v := some (.int (nar .boolean (1 : Int32)))) (fun h => by rw [hret] at h; cases h) hlk (fun fs hr => retN X10 hx (t := .boolean) hret (by simp) (hb hby at_148) hr) (Q := Q_rm_law Z y0 y1 y2 y3 y4 y5 h0 n0) (by rw [e10]; exact ⟨rfl, N10⟩) (by decide) (by decide)
      · skip
        refine og T10 (mkF m 131 (La_9 y0 y1 y2 y3 y4 y5 lo hi mid v7 v8 v9 v10 (y5 &&& (3 : Int32)) tw) []) (fun t_ k_ => XS.ifNo X10.here hx rfl (hb hby at_128) rfl ((if0 _ _).trans (flt (fun z => hq13_ ((lw_lt _ _).mp z))).1) k_) ?_
        refine og T10 (mkF m 133 (La_9 y0 y1 y2 y3 y4 y5 lo hi mid v7 v8 v9 v10 (y5 &&& (3 : Int32)) tw) [(.long tw)]) (fun t_ k_ => XS.lload X10.here hx rfl (hb hby at_131) rfl k_) ?_
        refine og T10 (mkF m 135 (La_9 y0 y1 y2 y3 y4 y5 lo hi mid v7 v8 v9 v10 (y5 &&& (3 : Int32)) tw) [(.long hi), (.long tw)]) (fun t_ k_ => XS.lload X10.here hx rfl (hb hby at_133) rfl k_) ?_
        refine og T10 (mkF m 136 (La_9 y0 y1 y2 y3 y4 y5 lo hi mid v7 v8 v9 v10 (y5 &&& (3 : Int32)) tw) [(.int (lcmpW tw hi))]) (fun t_ k_ => XS.lcmp X10.here hx rfl (hb hby at_135) rfl k_) ?_
        by_cases hq14_ : hi < tw
        · skip
          refine og T10 (mkF m 147 (La_9 y0 y1 y2 y3 y4 y5 lo hi mid v7 v8 v9 v10 (y5 &&& (3 : Int32)) tw) []) (fun t_ k_ => XS.ifYes X10.here hx rfl (pc0 := 136) (pc' := 147) rfl (hb hby at_136) rfl ((if0 _ _).trans (tlt ((lw_gt _ _).mpr hq14_)).2.2.1) (by decide) (by decide) k_) ?_
          refine og T10 (mkF m 148 (La_9 y0 y1 y2 y3 y4 y5 lo hi mid v7 v8 v9 v10 (y5 &&& (3 : Int32)) tw) [(.int 1)]) (fun t_ k_ => XS.iconst X10.here hx rfl (hb hby at_147) k_) ?_
          exact own_out X10 (v := some (.int (nar .boolean (1 : Int32)))) (fun h => by rw [hret] at h; cases h) hlk (fun fs hr => retN X10 hx (t := .boolean) hret (by simp) (hb hby at_148) hr) (Q := Q_rm_law Z y0 y1 y2 y3 y4 y5 h0 n0) (by rw [e10]; exact ⟨rfl, N10⟩) (by decide) (by decide)
        · skip
          refine og T10 (mkF m 139 (La_9 y0 y1 y2 y3 y4 y5 lo hi mid v7 v8 v9 v10 (y5 &&& (3 : Int32)) tw) []) (fun t_ k_ => XS.ifNo X10.here hx rfl (hb hby at_136) rfl ((if0 _ _).trans (flt (fun z => hq14_ ((lw_gt _ _).mp z))).2.2.1) k_) ?_
          refine og T10 (mkF m 141 (La_9 y0 y1 y2 y3 y4 y5 lo hi mid v7 v8 v9 v10 (y5 &&& (3 : Int32)) tw) [(.long tw)]) (fun t_ k_ => XS.lload X10.here hx rfl (hb hby at_139) rfl k_) ?_
          refine og T10 (mkF m 143 (La_9 y0 y1 y2 y3 y4 y5 lo hi mid v7 v8 v9 v10 (y5 &&& (3 : Int32)) tw) [(.long mid), (.long tw)]) (fun t_ k_ => XS.lload X10.here hx rfl (hb hby at_141) rfl k_) ?_
          refine og T10 (mkF m 144 (La_9 y0 y1 y2 y3 y4 y5 lo hi mid v7 v8 v9 v10 (y5 &&& (3 : Int32)) tw) [(.int (lcmpW tw mid))]) (fun t_ k_ => XS.lcmp X10.here hx rfl (hb hby at_143) rfl k_) ?_
          by_cases hq15_ : tw = mid
          · skip
            refine og T10 (mkF m 147 (La_9 y0 y1 y2 y3 y4 y5 lo hi mid v7 v8 v9 v10 (y5 &&& (3 : Int32)) tw) []) (fun t_ k_ => XS.ifNo X10.here hx rfl (hb hby at_144) rfl ((if0 _ _).trans (teq ((lw_eq _ _).mpr hq15_)).2) k_) ?_
            refine og T10 (mkF m 148 (La_9 y0 y1 y2 y3 y4 y5 lo hi mid v7 v8 v9 v10 (y5 &&& (3 : Int32)) tw) [(.int 1)]) (fun t_ k_ => XS.iconst X10.here hx rfl (hb hby at_147) k_) ?_
            exact own_out X10 (v := some (.int (nar .boolean (1 : Int32)))) (fun h => by rw [hret] at h; cases h) hlk (fun fs hr => retN X10 hx (t := .boolean) hret (by simp) (hb hby at_148) hr) (Q := Q_rm_law Z y0 y1 y2 y3 y4 y5 h0 n0) (by rw [e10]; exact ⟨rfl, N10⟩) (by decide) (by decide)
          · skip
            refine og T10 (mkF m 149 (La_9 y0 y1 y2 y3 y4 y5 lo hi mid v7 v8 v9 v10 (y5 &&& (3 : Int32)) tw) []) (fun t_ k_ => XS.ifYes X10.here hx rfl (pc0 := 144) (pc' := 149) rfl (hb hby at_144) rfl ((if0 _ _).trans (feq (fun z => hq15_ ((lw_eq _ _).mp z))).2) (by decide) (by decide) k_) ?_
            have h1 := Int64.lt_iff_toInt_lt.mp hq5_
            have h2 := Int64.lt_iff_toInt_lt.mp hq6_
            have nlohi : ¬ lo = hi := fun q => by rw [q] at h1; omega
            refine og T10 (mkF m 150 (La_9 y0 y1 y2 y3 y4 y5 lo hi mid v7 v8 v9 v10 (y5 &&& (3 : Int32)) tw) [(.int 4)]) (fun t_ k_ => XS.iconst X10.here hx rfl (hb hby at_149) k_) ?_
            obtain ⟨T16, h16, k16, X16, e16, E16, A16, st16⟩ := newP X10 hx hZ (own_w hw 11 rfl) e10 (g := (mkF m 150 (La_9 y0 y1 y2 y3 y4 y5 lo hi mid v7 v8 v9 v10 (y5 &&& (3 : Int32)) tw) [(.int 4)])) rfl (hb hby at_150) rfl (by decide) (cap := 4) (by decide) (by decide) (by decide) (by decide)
            obtain ⟨b16, g16⟩ : ∃ z, z = h0.size := ⟨_, rfl⟩
            rw [← g16] at A16 st16
            have V16 : Arv Z h16 b16 k16 .long (4 : Int32) [(.long 0), (.long 0), (.long 0), (.long 0)] (.long 0) := (Arv.new A16 (by decide)).pad (pad_rep [] (.long 0) 4)
            have l16 := own_ltN V16.lt
            have z16 := E16.1
            refine og T16 (mkF m 152 (La_9 y0 y1 y2 y3 y4 y5 lo hi mid v7 v8 v9 v10 (y5 &&& (3 : Int32)) tw) [(.ref b16)]) (fun t_ k_ => st16 _ k_) ?_
            refine og T16 (mkF m 154 (La_10 y0 y1 y2 y3 y4 y5 lo hi mid v7 v8 v9 v10 (y5 &&& (3 : Int32)) tw b16) []) (fun t_ k_ => XS.astore X16.here hx rfl (hb hby at_152) rfl rfl (l' := (La_10 y0 y1 y2 y3 y4 y5 lo hi mid v7 v8 v9 v10 (y5 &&& (3 : Int32)) tw b16)) rfl k_) ?_
            refine og T16 (mkF m 155 (La_10 y0 y1 y2 y3 y4 y5 lo hi mid v7 v8 v9 v10 (y5 &&& (3 : Int32)) tw b16) [(.int 4)]) (fun t_ k_ => XS.iconst X16.here hx rfl (hb hby at_154) k_) ?_
            obtain ⟨T17, h17, k17, X17, e17, E17, A17, st17⟩ := newP X16 hx hZ (own_w hw 12 rfl) e16 (g := (mkF m 155 (La_10 y0 y1 y2 y3 y4 y5 lo hi mid v7 v8 v9 v10 (y5 &&& (3 : Int32)) tw b16) [(.int 4)])) rfl (hb hby at_155) rfl (by decide) (cap := 4) (by decide) (by decide) (by decide) (by decide)
            obtain ⟨b17, g17⟩ : ∃ z, z = h16.size := ⟨_, rfl⟩
            rw [← g17] at A17 st17
            have V17 : Arv Z h17 b17 k17 .double (4 : Int32) [(.double 0), (.double 0), (.double 0), (.double 0)] (.double 0) := (Arv.new A17 (by decide)).pad (pad_rep [] (.double 0) 4)
            have l17 := own_ltN V17.lt
            have z17 := E17.1
            refine og T17 (mkF m 157 (La_10 y0 y1 y2 y3 y4 y5 lo hi mid v7 v8 v9 v10 (y5 &&& (3 : Int32)) tw b16) [(.ref b17)]) (fun t_ k_ => st17 _ k_) ?_
            refine og T17 (mkF m 159 (La_11 y0 y1 y2 y3 y4 y5 lo hi mid v7 v8 v9 v10 (y5 &&& (3 : Int32)) tw b16 b17) []) (fun t_ k_ => XS.astore X17.here hx rfl (hb hby at_157) rfl rfl (l' := (La_11 y0 y1 y2 y3 y4 y5 lo hi mid v7 v8 v9 v10 (y5 &&& (3 : Int32)) tw b16 b17)) rfl k_) ?_
            refine og T17 (mkF m 160 (La_11 y0 y1 y2 y3 y4 y5 lo hi mid v7 v8 v9 v10 (y5 &&& (3 : Int32)) tw b16 b17) [(.int 4)]) (fun t_ k_ => XS.iconst X17.here hx rfl (hb hby at_159) k_) ?_
            obtain ⟨T18, h18, k18, X18, e18, E18, A18, st18⟩ := newP X17 hx hZ (own_w hw 11 rfl) e17 (g := (mkF m 160 (La_11 y0 y1 y2 y3 y4 y5 lo hi mid v7 v8 v9 v10 (y5 &&& (3 : Int32)) tw b16 b17) [(.int 4)])) rfl (hb hby at_160) rfl (by decide) (cap := 4) (by decide) (by decide) (by decide) (by decide)
            obtain ⟨b18, g18⟩ : ∃ z, z = h17.size := ⟨_, rfl⟩
            rw [← g18] at A18 st18
            have V18 : Arv Z h18 b18 k18 .long (4 : Int32) [(.long 0), (.long 0), (.long 0), (.long 0)] (.long 0) := (Arv.new A18 (by decide)).pad (pad_rep [] (.long 0) 4)
            have l18 := own_ltN V18.lt
            have z18 := E18.1
            refine og T18 (mkF m 162 (La_11 y0 y1 y2 y3 y4 y5 lo hi mid v7 v8 v9 v10 (y5 &&& (3 : Int32)) tw b16 b17) [(.ref b18)]) (fun t_ k_ => st18 _ k_) ?_
            refine og T18 (mkF m 164 (La_12 y0 y1 y2 y3 y4 y5 lo hi mid v7 v8 v9 v10 (y5 &&& (3 : Int32)) tw b16 b17 b18) []) (fun t_ k_ => XS.astore X18.here hx rfl (hb hby at_162) rfl rfl (l' := (La_12 y0 y1 y2 y3 y4 y5 lo hi mid v7 v8 v9 v10 (y5 &&& (3 : Int32)) tw b16 b17 b18)) rfl k_) ?_
            refine og T18 (mkF m 165 (La_12 y0 y1 y2 y3 y4 y5 lo hi mid v7 v8 v9 v10 (y5 &&& (3 : Int32)) tw b16 b17 b18) [(.int 4)]) (fun t_ k_ => XS.iconst X18.here hx rfl (hb hby at_164) k_) ?_
            obtain ⟨T19, h19, k19, X19, e19, E19, A19, st19⟩ := newP X18 hx hZ (own_w hw 12 rfl) e18 (g := (mkF m 165 (La_12 y0 y1 y2 y3 y4 y5 lo hi mid v7 v8 v9 v10 (y5 &&& (3 : Int32)) tw b16 b17 b18) [(.int 4)])) rfl (hb hby at_165) rfl (by decide) (cap := 4) (by decide) (by decide) (by decide) (by decide)
            obtain ⟨b19, g19⟩ : ∃ z, z = h18.size := ⟨_, rfl⟩
            rw [← g19] at A19 st19
            have V19 : Arv Z h19 b19 k19 .double (4 : Int32) [(.double 0), (.double 0), (.double 0), (.double 0)] (.double 0) := (Arv.new A19 (by decide)).pad (pad_rep [] (.double 0) 4)
            have l19 := own_ltN V19.lt
            have z19 := E19.1
            refine og T19 (mkF m 167 (La_12 y0 y1 y2 y3 y4 y5 lo hi mid v7 v8 v9 v10 (y5 &&& (3 : Int32)) tw b16 b17 b18) [(.ref b19)]) (fun t_ k_ => st19 _ k_) ?_
            refine og T19 (mkF m 169 (La_13 y0 y1 y2 y3 y4 y5 lo hi mid v7 v8 v9 v10 (y5 &&& (3 : Int32)) tw b16 b17 b18 b19) []) (fun t_ k_ => XS.astore X19.here hx rfl (hb hby at_167) rfl rfl (l' := (La_13 y0 y1 y2 y3 y4 y5 lo hi mid v7 v8 v9 v10 (y5 &&& (3 : Int32)) tw b16 b17 b18 b19)) rfl k_) ?_
            obtain ⟨T20, h20, X20, e20, E20, A20, D20, -, st20⟩ := newO X19 hx hZ hown (own_w hw 13 rfl) (own_w hw 14 rfl) (own_w hw 15 rfl) e19 (g := (mkF m 169 (La_13 y0 y1 y2 y3 y4 y5 lo hi mid v7 v8 v9 v10 (y5 &&& (3 : Int32)) tw b16 b17 b18 b19) [])) rfl (hb hby at_169) (by decide) (by decide)
            obtain ⟨b20, g20⟩ : ∃ z, z = h19.size := ⟨_, rfl⟩
            rw [← g20] at A20 D20 st20
            have l20 := own_ltN A20.lt
            have z20 := E20.1
            have F20_m_nFirstTimestamp : Fld Z h20 b20 "com/example/driftline/driftline/storage/Extremes" "m_nFirstTimestamp" "J" (.long 0) := D20 (Or.inl (own_w hw 34 rfl)) (ty := .long) (by decide)
            have F20_m_dFirstValue : Fld Z h20 b20 "com/example/driftline/driftline/storage/Extremes" "m_dFirstValue" "D" (.double 0) := D20 (Or.inl (own_w hw 36 rfl)) (ty := .double) (by decide)
            have F20_m_nLastTimestamp : Fld Z h20 b20 "com/example/driftline/driftline/storage/Extremes" "m_nLastTimestamp" "J" (.long 0) := D20 (Or.inl (own_w hw 38 rfl)) (ty := .long) (by decide)
            have F20_m_dLastValue : Fld Z h20 b20 "com/example/driftline/driftline/storage/Extremes" "m_dLastValue" "D" (.double 0) := D20 (Or.inl (own_w hw 40 rfl)) (ty := .double) (by decide)
            have F20_m_nBottomTimestamp : Fld Z h20 b20 "com/example/driftline/driftline/storage/Extremes" "m_nBottomTimestamp" "J" (.long 0) := D20 (Or.inl (own_w hw 42 rfl)) (ty := .long) (by decide)
            have F20_m_dBottomValue : Fld Z h20 b20 "com/example/driftline/driftline/storage/Extremes" "m_dBottomValue" "D" (.double 0) := D20 (Or.inl (own_w hw 44 rfl)) (ty := .double) (by decide)
            have F20_m_nTopTimestamp : Fld Z h20 b20 "com/example/driftline/driftline/storage/Extremes" "m_nTopTimestamp" "J" (.long 0) := D20 (Or.inl (own_w hw 46 rfl)) (ty := .long) (by decide)
            have F20_m_dTopValue : Fld Z h20 b20 "com/example/driftline/driftline/storage/Extremes" "m_dTopValue" "D" (.double 0) := D20 (Or.inl (own_w hw 48 rfl)) (ty := .double) (by decide)
            refine og T20 (mkF m 172 (La_13 y0 y1 y2 y3 y4 y5 lo hi mid v7 v8 v9 v10 (y5 &&& (3 : Int32)) tw b16 b17 b18 b19) [(.ref b20)]) (fun t_ k_ => st20 _ k_) ?_
            refine og T20 (mkF m 173 (La_13 y0 y1 y2 y3 y4 y5 lo hi mid v7 v8 v9 v10 (y5 &&& (3 : Int32)) tw b16 b17 b18 b19) [(.ref b20), (.ref b20)]) (fun t_ k_ => XS.dup X20.here hx rfl (hb hby at_172) rfl rfl k_) ?_
            obtain ⟨_, _, ⟨T21, L21, k21, n21⟩, -, X21, ⟨Lc21, hQ21, l21, y21, z21⟩, st21⟩ := X20.specialBack hx (y := ym_3) rfl hown (mvT hZ (own_w hw 16 rfl)) (mvT hZ (own_w hw 17 rfl)) (mvT hZ (own_w hw 18 rfl)) (by decide) (backOf (W := 1) (rm_init l Z a0 hw [] b20 h20 n0 (show n0 ≤ h20.size by omega)) hZ (own_w hw 18 rfl) (own_w hw 15 rfl) (by decide) (by decide)) (g := (mkF m 173 (La_13 y0 y1 y2 y3 y4 y5 lo hi mid v7 v8 v9 v10 (y5 &&& (3 : Int32)) tw b16 b17 b18 b19) [(.ref b20), (.ref b20)])) rfl (by rw [hml]; rfl) (Steps.refl _) (a := b20) (argsL := []) (rest := [(.ref b20)]) (lenOf pd_5 rfl) rfl (by show 2 * 0 + _ ≤ _; exact Nat.le_of_eq rfl) (hb hby at_173) (fun _ _ => ⟨rfl, e20, (by decide : 5 + 0 ≤ _), (by decide : 24 + 0 ≤ _)⟩)
            dsimp only [Pt.U, Pt.locs, Pt.cells, Pt.slots] at X21 l21 y21 z21 st21 hQ21
            replace l21 := l21.symm; replace y21 := y21.symm; replace z21 := z21.symm; subst l21 y21 z21
            obtain ⟨rfl, M21, e21⟩ := hQ21
            have N21 := Fr.app N10 M21
            refine og T21 (mkF m 176 (La_13 y0 y1 y2 y3 y4 y5 lo hi mid v7 v8 v9 v10 (y5 &&& (3 : Int32)) tw b16 b17 b18 b19) [(.ref b20)]) (fun t_ k_ => st21.trans k_) ?_
            refine og T21 (mkF m 178 (La_14 y0 y1 y2 y3 y4 y5 lo hi mid v7 v8 v9 v10 (y5 &&& (3 : Int32)) tw b16 b17 b18 b19 b20) []) (fun t_ k_ => XS.astore X21.here hx rfl (hb hby at_176) rfl rfl (l' := (La_14 y0 y1 y2 y3 y4 y5 lo hi mid v7 v8 v9 v10 (y5 &&& (3 : Int32)) tw b16 b17 b18 b19 b20)) rfl k_) ?_
            obtain ⟨T22, h22, X22, e22, E22, A22, D22, -, st22⟩ := newO X21 hx hZ hown (own_w hw 13 rfl) (own_w hw 14 rfl) (own_w hw 15 rfl) e21 (g := (mkF m 178 (La_14 y0 y1 y2 y3 y4 y5 lo hi mid v7 v8 v9 v10 (y5 &&& (3 : Int32)) tw b16 b17 b18 b19 b20) [])) rfl (hb hby at_178) (by decide) (by decide)
            obtain ⟨b22, g22⟩ : ∃ z, z = h20.size := ⟨_, rfl⟩
            rw [← g22] at A22 D22 st22
            have l22 := own_ltN A22.lt
            have z22 := E22.1
            have F22_m_nFirstTimestamp : Fld Z h22 b22 "com/example/driftline/driftline/storage/Extremes" "m_nFirstTimestamp" "J" (.long 0) := D22 (Or.inl (own_w hw 34 rfl)) (ty := .long) (by decide)
            have F22_m_dFirstValue : Fld Z h22 b22 "com/example/driftline/driftline/storage/Extremes" "m_dFirstValue" "D" (.double 0) := D22 (Or.inl (own_w hw 36 rfl)) (ty := .double) (by decide)
            have F22_m_nLastTimestamp : Fld Z h22 b22 "com/example/driftline/driftline/storage/Extremes" "m_nLastTimestamp" "J" (.long 0) := D22 (Or.inl (own_w hw 38 rfl)) (ty := .long) (by decide)
            have F22_m_dLastValue : Fld Z h22 b22 "com/example/driftline/driftline/storage/Extremes" "m_dLastValue" "D" (.double 0) := D22 (Or.inl (own_w hw 40 rfl)) (ty := .double) (by decide)
            have F22_m_nBottomTimestamp : Fld Z h22 b22 "com/example/driftline/driftline/storage/Extremes" "m_nBottomTimestamp" "J" (.long 0) := D22 (Or.inl (own_w hw 42 rfl)) (ty := .long) (by decide)
            have F22_m_dBottomValue : Fld Z h22 b22 "com/example/driftline/driftline/storage/Extremes" "m_dBottomValue" "D" (.double 0) := D22 (Or.inl (own_w hw 44 rfl)) (ty := .double) (by decide)
            have F22_m_nTopTimestamp : Fld Z h22 b22 "com/example/driftline/driftline/storage/Extremes" "m_nTopTimestamp" "J" (.long 0) := D22 (Or.inl (own_w hw 46 rfl)) (ty := .long) (by decide)
            have F22_m_dTopValue : Fld Z h22 b22 "com/example/driftline/driftline/storage/Extremes" "m_dTopValue" "D" (.double 0) := D22 (Or.inl (own_w hw 48 rfl)) (ty := .double) (by decide)
            refine og T22 (mkF m 181 (La_14 y0 y1 y2 y3 y4 y5 lo hi mid v7 v8 v9 v10 (y5 &&& (3 : Int32)) tw b16 b17 b18 b19 b20) [(.ref b22)]) (fun t_ k_ => st22 _ k_) ?_
            refine og T22 (mkF m 182 (La_14 y0 y1 y2 y3 y4 y5 lo hi mid v7 v8 v9 v10 (y5 &&& (3 : Int32)) tw b16 b17 b18 b19 b20) [(.ref b22), (.ref b22)]) (fun t_ k_ => XS.dup X22.here hx rfl (hb hby at_181) rfl rfl k_) ?_
            obtain ⟨_, _, ⟨T23, L23, k23, n23⟩, -, X23, ⟨Lc23, hQ23, l23, y23, z23⟩, st23⟩ := X22.specialBack hx (y := ym_3) rfl hown (mvT hZ (own_w hw 16 rfl)) (mvT hZ (own_w hw 17 rfl)) (mvT hZ (own_w hw 18 rfl)) (by decide) (backOf (W := 1) (rm_init l Z a0 hw [] b22 h22 n0 (show n0 ≤ h22.size by omega)) hZ (own_w hw 18 rfl) (own_w hw 15 rfl) (by decide) (by decide)) (g := (mkF m 182 (La_14 y0 y1 y2 y3 y4 y5 lo hi mid v7 v8 v9 v10 (y5 &&& (3 : Int32)) tw b16 b17 b18 b19 b20) [(.ref b22), (.ref b22)])) rfl (by rw [hml]; rfl) (Steps.refl _) (a := b22) (argsL := []) (rest := [(.ref b22)]) (lenOf pd_5 rfl) rfl (by show 2 * 0 + _ ≤ _; exact Nat.le_of_eq rfl) (hb hby at_182) (fun _ _ => ⟨rfl, e22, (by decide : 6 + 0 ≤ _), (by decide : 32 + 0 ≤ _)⟩)
            dsimp only [Pt.U, Pt.locs, Pt.cells, Pt.slots] at X23 l23 y23 z23 st23 hQ23
            replace l23 := l23.symm; replace y23 := y23.symm; replace z23 := z23.symm; subst l23 y23 z23
            obtain ⟨rfl, M23, e23⟩ := hQ23
            have N23 := Fr.app N21 M23
            refine og T23 (mkF m 185 (La_14 y0 y1 y2 y3 y4 y5 lo hi mid v7 v8 v9 v10 (y5 &&& (3 : Int32)) tw b16 b17 b18 b19 b20) [(.ref b22)]) (fun t_ k_ => st23.trans k_) ?_
            refine og T23 (mkF m 187 (La_15 y0 y1 y2 y3 y4 y5 lo hi mid v7 v8 v9 v10 (y5 &&& (3 : Int32)) tw b16 b17 b18 b19 b20 b22) []) (fun t_ k_ => XS.astore X23.here hx rfl (hb hby at_185) rfl rfl (l' := (La_15 y0 y1 y2 y3 y4 y5 lo hi mid v7 v8 v9 v10 (y5 &&& (3 : Int32)) tw b16 b17 b18 b19 b20 b22)) rfl k_) ?_
            refine og T23 (mkF m 189 (La_15 y0 y1 y2 y3 y4 y5 lo hi mid v7 v8 v9 v10 (y5 &&& (3 : Int32)) tw b16 b17 b18 b19 b20 b22) [(.ref b16)]) (fun t_ k_ => XS.aload X23.here hx rfl (hb hby at_187) rfl rfl k_) ?_
            refine og T23 (mkF m 190 (La_15 y0 y1 y2 y3 y4 y5 lo hi mid v7 v8 v9 v10 (y5 &&& (3 : Int32)) tw b16 b17 b18 b19 b20 b22) [(.int 0), (.ref b16)]) (fun t_ k_ => XS.iconst X23.here hx rfl (hb hby at_189) k_) ?_
            refine og T23 (mkF m 192 (La_15 y0 y1 y2 y3 y4 y5 lo hi mid v7 v8 v9 v10 (y5 &&& (3 : Int32)) tw b16 b17 b18 b19 b20 b22) [(.long lo), (.int 0), (.ref b16)]) (fun t_ k_ => XS.lload X23.here hx rfl (hb hby at_190) rfl k_) ?_
            have ff25 := (((((V16.ext E17).ext E18).ext E19).ext E20).ext E22)
            obtain ⟨cl24, Ar24, q24, S24, Nn24, H24, G24⟩ := id ff25
            have hin24 : ¬ ((0 : Int32) < 0 ∨ cl24.slots.size ≤ ((0 : Int32)).toNatClampNeg) := inb_of S24 ⟨by decide, by decide⟩
            obtain ⟨T24, h24, X24, e24, W24, st24⟩ := stJ X23 hx hZ e23 Ar24 (j := (0 : Int32)) hin24 (g := (mkF m 192 (La_15 y0 y1 y2 y3 y4 y5 lo hi mid v7 v8 v9 v10 (y5 &&& (3 : Int32)) tw b16 b17 b18 b19 b20 b22) [(.long lo), (.int 0), (.ref b16)])) rfl rfl (hb hby at_192)
            have V24 : Arv Z h24 b16 k16 .long (4 : Int32) [(.long lo), (.long 0), (.long 0), (.long 0)] (.long 0) := Arv.set Ar24 q24 S24 Nn24 H24 G24 rfl W24 0 rfl (Nat.le_of_ble_eq_true rfl)
            have z24 := W24.size
            have N24 := Fr.snoc X24 N23 (show n0 ≤ b16 by omega)
            refine og T24 (mkF m 193 (La_15 y0 y1 y2 y3 y4 y5 lo hi mid v7 v8 v9 v10 (y5 &&& (3 : Int32)) tw b16 b17 b18 b19 b20 b22) []) (fun t_ k_ => st24 _ k_) ?_
            refine og T24 (mkF m 195 (La_15 y0 y1 y2 y3 y4 y5 lo hi mid v7 v8 v9 v10 (y5 &&& (3 : Int32)) tw b16 b17 b18 b19 b20 b22) [(.ref b16)]) (fun t_ k_ => XS.aload X24.here hx rfl (hb hby at_193) rfl rfl k_) ?_
            refine og T24 (mkF m 196 (La_15 y0 y1 y2 y3 y4 y5 lo hi mid v7 v8 v9 v10 (y5 &&& (3 : Int32)) tw b16 b17 b18 b19 b20 b22) [(.int 1), (.ref b16)]) (fun t_ k_ => XS.iconst X24.here hx rfl (hb hby at_195) k_) ?_
            refine og T24 (mkF m 198 (La_15 y0 y1 y2 y3 y4 y5 lo hi mid v7 v8 v9 v10 (y5 &&& (3 : Int32)) tw b16 b17 b18 b19 b20 b22) [(.long lo), (.int 1), (.ref b16)]) (fun t_ k_ => XS.lload X24.here hx rfl (hb hby at_196) rfl k_) ?_
            obtain ⟨cl26, Ar26, q26, S26, Nn26, H26, G26⟩ := id V24
            have hin26 : ¬ ((1 : Int32) < 0 ∨ cl26.slots.size ≤ ((1 : Int32)).toNatClampNeg) := inb_of S26 ⟨by decide, by decide⟩
            obtain ⟨T26, h26, X26, e26, W26, st26⟩ := stJ X24 hx hZ e24 Ar26 (j := (1 : Int32)) hin26 (g := (mkF m 198 (La_15 y0 y1 y2 y3 y4 y5 lo hi mid v7 v8 v9 v10 (y5 &&& (3 : Int32)) tw b16 b17 b18 b19 b20 b22) [(.long lo), (.int 1), (.ref b16)])) rfl rfl (hb hby at_198)
            have V26 : Arv Z h26 b16 k16 .long (4 : Int32) [(.long lo), (.long lo), (.long 0), (.long 0)] (.long 0) := Arv.set Ar26 q26 S26 Nn26 H26 G26 rfl W26 1 rfl (Nat.le_of_ble_eq_true rfl)
            have z26 := W26.size
            have N26 := Fr.snoc X26 N24 (show n0 ≤ b16 by omega)
            refine og T26 (mkF m 199 (La_15 y0 y1 y2 y3 y4 y5 lo hi mid v7 v8 v9 v10 (y5 &&& (3 : Int32)) tw b16 b17 b18 b19 b20 b22) []) (fun t_ k_ => st26 _ k_) ?_
            refine og T26 (mkF m 201 (La_15 y0 y1 y2 y3 y4 y5 lo hi mid v7 v8 v9 v10 (y5 &&& (3 : Int32)) tw b16 b17 b18 b19 b20 b22) [(.ref b16)]) (fun t_ k_ => XS.aload X26.here hx rfl (hb hby at_199) rfl rfl k_) ?_
            refine og T26 (mkF m 202 (La_15 y0 y1 y2 y3 y4 y5 lo hi mid v7 v8 v9 v10 (y5 &&& (3 : Int32)) tw b16 b17 b18 b19 b20 b22) [(.int 2), (.ref b16)]) (fun t_ k_ => XS.iconst X26.here hx rfl (hb hby at_201) k_) ?_
            refine og T26 (mkF m 204 (La_15 y0 y1 y2 y3 y4 y5 lo hi mid v7 v8 v9 v10 (y5 &&& (3 : Int32)) tw b16 b17 b18 b19 b20 b22) [(.long mid), (.int 2), (.ref b16)]) (fun t_ k_ => XS.lload X26.here hx rfl (hb hby at_202) rfl k_) ?_
            obtain ⟨cl27, Ar27, q27, S27, Nn27, H27, G27⟩ := id V26
            have hin27 : ¬ ((2 : Int32) < 0 ∨ cl27.slots.size ≤ ((2 : Int32)).toNatClampNeg) := inb_of S27 ⟨by decide, by decide⟩
            obtain ⟨T27, h27, X27, e27, W27, st27⟩ := stJ X26 hx hZ e26 Ar27 (j := (2 : Int32)) hin27 (g := (mkF m 204 (La_15 y0 y1 y2 y3 y4 y5 lo hi mid v7 v8 v9 v10 (y5 &&& (3 : Int32)) tw b16 b17 b18 b19 b20 b22) [(.long mid), (.int 2), (.ref b16)])) rfl rfl (hb hby at_204)
            have V27 : Arv Z h27 b16 k16 .long (4 : Int32) [(.long lo), (.long lo), (.long mid), (.long 0)] (.long 0) := Arv.set Ar27 q27 S27 Nn27 H27 G27 rfl W27 2 rfl (Nat.le_of_ble_eq_true rfl)
            have z27 := W27.size
            have N27 := Fr.snoc X27 N26 (show n0 ≤ b16 by omega)
            refine og T27 (mkF m 205 (La_15 y0 y1 y2 y3 y4 y5 lo hi mid v7 v8 v9 v10 (y5 &&& (3 : Int32)) tw b16 b17 b18 b19 b20 b22) []) (fun t_ k_ => st27 _ k_) ?_
            refine og T27 (mkF m 207 (La_15 y0 y1 y2 y3 y4 y5 lo hi mid v7 v8 v9 v10 (y5 &&& (3 : Int32)) tw b16 b17 b18 b19 b20 b22) [(.ref b16)]) (fun t_ k_ => XS.aload X27.here hx rfl (hb hby at_205) rfl rfl k_) ?_
            refine og T27 (mkF m 208 (La_15 y0 y1 y2 y3 y4 y5 lo hi mid v7 v8 v9 v10 (y5 &&& (3 : Int32)) tw b16 b17 b18 b19 b20 b22) [(.int 3), (.ref b16)]) (fun t_ k_ => XS.iconst X27.here hx rfl (hb hby at_207) k_) ?_
            refine og T27 (mkF m 210 (La_15 y0 y1 y2 y3 y4 y5 lo hi mid v7 v8 v9 v10 (y5 &&& (3 : Int32)) tw b16 b17 b18 b19 b20 b22) [(.long hi), (.int 3), (.ref b16)]) (fun t_ k_ => XS.lload X27.here hx rfl (hb hby at_208) rfl k_) ?_
            obtain ⟨cl28, Ar28, q28, S28, Nn28, H28, G28⟩ := id V27
            have hin28 : ¬ ((3 : Int32) < 0 ∨ cl28.slots.size ≤ ((3 : Int32)).toNatClampNeg) := inb_of S28 ⟨by decide, by decide⟩
            obtain ⟨T28, h28, X28, e28, W28, st28⟩ := stJ X27 hx hZ e27 Ar28 (j := (3 : Int32)) hin28 (g := (mkF m 210 (La_15 y0 y1 y2 y3 y4 y5 lo hi mid v7 v8 v9 v10 (y5 &&& (3 : Int32)) tw b16 b17 b18 b19 b20 b22) [(.long hi), (.int 3), (.ref b16)])) rfl rfl (hb hby at_210)
            have V28 : Arv Z h28 b16 k16 .long (4 : Int32) [(.long lo), (.long lo), (.long mid), (.long hi)] (.long 0) := Arv.set Ar28 q28 S28 Nn28 H28 G28 rfl W28 3 rfl (Nat.le_of_ble_eq_true rfl)
            have z28 := W28.size
            have N28 := Fr.snoc X28 N27 (show n0 ≤ b16 by omega)
            refine og T28 (mkF m 211 (La_15 y0 y1 y2 y3 y4 y5 lo hi mid v7 v8 v9 v10 (y5 &&& (3 : Int32)) tw b16 b17 b18 b19 b20 b22) []) (fun t_ k_ => st28 _ k_) ?_
            refine og T28 (mkF m 213 (La_15 y0 y1 y2 y3 y4 y5 lo hi mid v7 v8 v9 v10 (y5 &&& (3 : Int32)) tw b16 b17 b18 b19 b20 b22) [(.ref b17)]) (fun t_ k_ => XS.aload X28.here hx rfl (hb hby at_211) rfl rfl k_) ?_
            refine og T28 (mkF m 214 (La_15 y0 y1 y2 y3 y4 y5 lo hi mid v7 v8 v9 v10 (y5 &&& (3 : Int32)) tw b16 b17 b18 b19 b20 b22) [(.int 0), (.ref b17)]) (fun t_ k_ => XS.iconst X28.here hx rfl (hb hby at_213) k_) ?_
            refine og T28 (mkF m 216 (La_15 y0 y1 y2 y3 y4 y5 lo hi mid v7 v8 v9 v10 (y5 &&& (3 : Int32)) tw b16 b17 b18 b19 b20 b22) [(.double v7), (.int 0), (.ref b17)]) (fun t_ k_ => XS.dload X28.here hx rfl (hb hby at_214) rfl k_) ?_
            have nq30 : b17 ≠ b16 := own_ne (by omega)
            have ff31 := ((((((((V17.ext E18).ext E19).ext E20).ext E22).other W24 nq30).other W26 nq30).other W27 nq30).other W28 nq30)
            obtain ⟨cl29, Ar29, q29, S29, Nn29, H29, G29⟩ := id ff31
            have hin29 : ¬ ((0 : Int32) < 0 ∨ cl29.slots.size ≤ ((0 : Int32)).toNatClampNeg) := inb_of S29 ⟨by decide, by decide⟩
            obtain ⟨T29, h29, X29, e29, W29, st29⟩ := stD X28 hx hZ e28 Ar29 (j := (0 : Int32)) hin29 (g := (mkF m 216 (La_15 y0 y1 y2 y3 y4 y5 lo hi mid v7 v8 v9 v10 (y5 &&& (3 : Int32)) tw b16 b17 b18 b19 b20 b22) [(.double v7), (.int 0), (.ref b17)])) rfl rfl (hb hby at_216)
            have V29 : Arv Z h29 b17 k17 .double (4 : Int32) [(.double v7), (.double 0), (.double 0), (.double 0)] (.double 0) := Arv.set Ar29 q29 S29 Nn29 H29 G29 rfl W29 0 rfl (Nat.le_of_ble_eq_true rfl)
            have z29 := W29.size
            have N29 := Fr.snoc X29 N28 (show n0 ≤ b17 by omega)
            refine og T29 (mkF m 217 (La_15 y0 y1 y2 y3 y4 y5 lo hi mid v7 v8 v9 v10 (y5 &&& (3 : Int32)) tw b16 b17 b18 b19 b20 b22) []) (fun t_ k_ => st29 _ k_) ?_
            refine og T29 (mkF m 219 (La_15 y0 y1 y2 y3 y4 y5 lo hi mid v7 v8 v9 v10 (y5 &&& (3 : Int32)) tw b16 b17 b18 b19 b20 b22) [(.ref b17)]) (fun t_ k_ => XS.aload X29.here hx rfl (hb hby at_217) rfl rfl k_) ?_
            refine og T29 (mkF m 220 (La_15 y0 y1 y2 y3 y4 y5 lo hi mid v7 v8 v9 v10 (y5 &&& (3 : Int32)) tw b16 b17 b18 b19 b20 b22) [(.int 1), (.ref b17)]) (fun t_ k_ => XS.iconst X29.here hx rfl (hb hby at_219) k_) ?_
            refine og T29 (mkF m 222 (La_15 y0 y1 y2 y3 y4 y5 lo hi mid v7 v8 v9 v10 (y5 &&& (3 : Int32)) tw b16 b17 b18 b19 b20 b22) [(.double v7), (.int 1), (.ref b17)]) (fun t_ k_ => XS.dload X29.here hx rfl (hb hby at_220) rfl k_) ?_
            obtain ⟨cl32, Ar32, q32, S32, Nn32, H32, G32⟩ := id V29
            have hin32 : ¬ ((1 : Int32) < 0 ∨ cl32.slots.size ≤ ((1 : Int32)).toNatClampNeg) := inb_of S32 ⟨by decide, by decide⟩
            obtain ⟨T32, h32, X32, e32, W32, st32⟩ := stD X29 hx hZ e29 Ar32 (j := (1 : Int32)) hin32 (g := (mkF m 222 (La_15 y0 y1 y2 y3 y4 y5 lo hi mid v7 v8 v9 v10 (y5 &&& (3 : Int32)) tw b16 b17 b18 b19 b20 b22) [(.double v7), (.int 1), (.ref b17)])) rfl rfl (hb hby at_222)
            have V32 : Arv Z h32 b17 k17 .double (4 : Int32) [(.double v7), (.double v7), (.double 0), (.double 0)] (.double 0) := Arv.set Ar32 q32 S32 Nn32 H32 G32 rfl W32 1 rfl (Nat.le_of_ble_eq_true rfl)
            have z32 := W32.size
            have N32 := Fr.snoc X32 N29 (show n0 ≤ b17 by omega)
            refine og T32 (mkF m 223 (La_15 y0 y1 y2 y3 y4 y5 lo hi mid v7 v8 v9 v10 (y5 &&& (3 : Int32)) tw b16 b17 b18 b19 b20 b22) []) (fun t_ k_ => st32 _ k_) ?_
            refine og T32 (mkF m 225 (La_15 y0 y1 y2 y3 y4 y5 lo hi mid v7 v8 v9 v10 (y5 &&& (3 : Int32)) tw b16 b17 b18 b19 b20 b22) [(.ref b17)]) (fun t_ k_ => XS.aload X32.here hx rfl (hb hby at_223) rfl rfl k_) ?_
            refine og T32 (mkF m 226 (La_15 y0 y1 y2 y3 y4 y5 lo hi mid v7 v8 v9 v10 (y5 &&& (3 : Int32)) tw b16 b17 b18 b19 b20 b22) [(.int 2), (.ref b17)]) (fun t_ k_ => XS.iconst X32.here hx rfl (hb hby at_225) k_) ?_
            refine og T32 (mkF m 228 (La_15 y0 y1 y2 y3 y4 y5 lo hi mid v7 v8 v9 v10 (y5 &&& (3 : Int32)) tw b16 b17 b18 b19 b20 b22) [(.double v8), (.int 2), (.ref b17)]) (fun t_ k_ => XS.dload X32.here hx rfl (hb hby at_226) rfl k_) ?_
            obtain ⟨cl33, Ar33, q33, S33, Nn33, H33, G33⟩ := id V32
            have hin33 : ¬ ((2 : Int32) < 0 ∨ cl33.slots.size ≤ ((2 : Int32)).toNatClampNeg) := inb_of S33 ⟨by decide, by decide⟩
            obtain ⟨T33, h33, X33, e33, W33, st33⟩ := stD X32 hx hZ e32 Ar33 (j := (2 : Int32)) hin33 (g := (mkF m 228 (La_15 y0 y1 y2 y3 y4 y5 lo hi mid v7 v8 v9 v10 (y5 &&& (3 : Int32)) tw b16 b17 b18 b19 b20 b22) [(.double v8), (.int 2), (.ref b17)])) rfl rfl (hb hby at_228)
            have V33 : Arv Z h33 b17 k17 .double (4 : Int32) [(.double v7), (.double v7), (.double v8), (.double 0)] (.double 0) := Arv.set Ar33 q33 S33 Nn33 H33 G33 rfl W33 2 rfl (Nat.le_of_ble_eq_true rfl)
            have z33 := W33.size
            have N33 := Fr.snoc X33 N32 (show n0 ≤ b17 by omega)
            refine og T33 (mkF m 229 (La_15 y0 y1 y2 y3 y4 y5 lo hi mid v7 v8 v9 v10 (y5 &&& (3 : Int32)) tw b16 b17 b18 b19 b20 b22) []) (fun t_ k_ => st33 _ k_) ?_
            refine og T33 (mkF m 231 (La_15 y0 y1 y2 y3 y4 y5 lo hi mid v7 v8 v9 v10 (y5 &&& (3 : Int32)) tw b16 b17 b18 b19 b20 b22) [(.ref b17)]) (fun t_ k_ => XS.aload X33.here hx rfl (hb hby at_229) rfl rfl k_) ?_
            refine og T33 (mkF m 232 (La_15 y0 y1 y2 y3 y4 y5 lo hi mid v7 v8 v9 v10 (y5 &&& (3 : Int32)) tw b16 b17 b18 b19 b20 b22) [(.int 3), (.ref b17)]) (fun t_ k_ => XS.iconst X33.here hx rfl (hb hby at_231) k_) ?_
            refine og T33 (mkF m 234 (La_15 y0 y1 y2 y3 y4 y5 lo hi mid v7 v8 v9 v10 (y5 &&& (3 : Int32)) tw b16 b17 b18 b19 b20 b22) [(.double v9), (.int 3), (.ref b17)]) (fun t_ k_ => XS.dload X33.here hx rfl (hb hby at_232) rfl k_) ?_
            obtain ⟨cl34, Ar34, q34, S34, Nn34, H34, G34⟩ := id V33
            have hin34 : ¬ ((3 : Int32) < 0 ∨ cl34.slots.size ≤ ((3 : Int32)).toNatClampNeg) := inb_of S34 ⟨by decide, by decide⟩
            obtain ⟨T34, h34, X34, e34, W34, st34⟩ := stD X33 hx hZ e33 Ar34 (j := (3 : Int32)) hin34 (g := (mkF m 234 (La_15 y0 y1 y2 y3 y4 y5 lo hi mid v7 v8 v9 v10 (y5 &&& (3 : Int32)) tw b16 b17 b18 b19 b20 b22) [(.double v9), (.int 3), (.ref b17)])) rfl rfl (hb hby at_234)
            have V34 : Arv Z h34 b17 k17 .double (4 : Int32) [(.double v7), (.double v7), (.double v8), (.double v9)] (.double 0) := Arv.set Ar34 q34 S34 Nn34 H34 G34 rfl W34 3 rfl (Nat.le_of_ble_eq_true rfl)
            have z34 := W34.size
            have N34 := Fr.snoc X34 N33 (show n0 ≤ b17 by omega)
            refine og T34 (mkF m 235 (La_15 y0 y1 y2 y3 y4 y5 lo hi mid v7 v8 v9 v10 (y5 &&& (3 : Int32)) tw b16 b17 b18 b19 b20 b22) []) (fun t_ k_ => st34 _ k_) ?_
            refine og T34 (mkF m 237 (La_15 y0 y1 y2 y3 y4 y5 lo hi mid v7 v8 v9 v10 (y5 &&& (3 : Int32)) tw b16 b17 b18 b19 b20 b22) [(.ref b17)]) (fun t_ k_ => XS.aload X34.here hx rfl (hb hby at_235) rfl rfl k_) ?_
            obtain ⟨_, _, ⟨T35, L35, k35, n35⟩, -, X35, ⟨Lc35, hQ35, l35, y35, z35⟩, st35⟩ := Jvm.LawKit.callS X34 hx (y := ym_4) hown (mvT hZ (own_w hw 22 rfl)) (mvT hZ (own_w hw 23 rfl)) (mvT hZ (own_w hw 9 rfl)) (mvT hZ (own_w hw 24 rfl)) (by decide) (backOf (W := 0) (rm_bottomAt l Z a0 hw [] b17 v7 v7 v8 v9 r7 r7 r8 r9 k17 h34 n0 (show n0 ≤ h34.size by omega) f7_0 f7_0 f8_0 f9_0 V34) hZ (own_w hw 24 rfl) (own_w hw 9 rfl) (by decide) (by decide)) (g := (mkF m 237 (La_15 y0 y1 y2 y3 y4 y5 lo hi mid v7 v8 v9 v10 (y5 &&& (3 : Int32)) tw b16 b17 b18 b19 b20 b22) [(.ref b17)])) rfl (by rw [hml]; rfl) (argsL := [(.ref b17)]) (rest := []) (lenOf pd_6 rfl) rfl (by show 2 * 0 + _ ≤ _; exact Nat.le_of_eq rfl) (hb hby at_237) (fun _ _ => ⟨rfl, e34, (by decide : 6 + 0 ≤ _), (by decide : 32 + 0 ≤ _)⟩)
            dsimp only [Pt.U, Pt.locs, Pt.cells, Pt.slots] at X35 l35 y35 z35 st35 hQ35
            replace l35 := l35.symm; replace y35 := y35.symm; replace z35 := z35.symm; subst l35 y35 z35
            obtain ⟨rfl, M35, e35⟩ := hQ35
            have N35 := Fr.app N34 M35
            refine og T35 (mkF m 240 (La_15 y0 y1 y2 y3 y4 y5 lo hi mid v7 v8 v9 v10 (y5 &&& (3 : Int32)) tw b16 b17 b18 b19 b20 b22) [(.int (own_bot r7 r7 r8 r9))]) (fun t_ k_ => st35 _ k_) ?_
            refine og T35 (mkF m 242 (La_16 y0 y1 y2 y3 y4 y5 lo hi mid v7 v8 v9 v10 (y5 &&& (3 : Int32)) tw b16 b17 b18 b19 b20 b22 (own_bot r7 r7 r8 r9)) []) (fun t_ k_ => XS.istore X35.here hx rfl (hb hby at_240) rfl (l' := (La_16 y0 y1 y2 y3 y4 y5 lo hi mid v7 v8 v9 v10 (y5 &&& (3 : Int32)) tw b16 b17 b18 b19 b20 b22 (own_bot r7 r7 r8 r9))) rfl k_) ?_
            refine og T35 (mkF m 244 (La_16 y0 y1 y2 y3 y4 y5 lo hi mid v7 v8 v9 v10 (y5 &&& (3 : Int32)) tw b16 b17 b18 b19 b20 b22 (own_bot r7 r7 r8 r9)) [(.ref b17)]) (fun t_ k_ => XS.aload X35.here hx rfl (hb hby at_242) rfl rfl k_) ?_
            obtain ⟨_, _, ⟨T36, L36, k36, n36⟩, -, X36, ⟨Lc36, hQ36, l36, y36, z36⟩, st36⟩ := Jvm.LawKit.callS X35 hx (y := ym_5) hown (mvT hZ (own_w hw 25 rfl)) (mvT hZ (own_w hw 26 rfl)) (mvT hZ (own_w hw 9 rfl)) (mvT hZ (own_w hw 27 rfl)) (by decide) (backOf (W := 0) (rm_topAt l Z a0 hw [] b17 v7 v7 v8 v9 r7 r7 r8 r9 k17 h34 n0 (show n0 ≤ h34.size by omega) f7_0 f7_0 f8_0 f9_0 V34) hZ (own_w hw 27 rfl) (own_w hw 9 rfl) (by decide) (by decide)) (g := (mkF m 244 (La_16 y0 y1 y2 y3 y4 y5 lo hi mid v7 v8 v9 v10 (y5 &&& (3 : Int32)) tw b16 b17 b18 b19 b20 b22 (own_bot r7 r7 r8 r9)) [(.ref b17)])) rfl (by rw [hml]; rfl) (argsL := [(.ref b17)]) (rest := []) (lenOf pd_6 rfl) rfl (by show 2 * 0 + _ ≤ _; exact Nat.le_of_eq rfl) (hb hby at_244) (fun _ _ => ⟨rfl, e35, (by decide : 6 + 0 ≤ _), (by decide : 32 + 0 ≤ _)⟩)
            dsimp only [Pt.U, Pt.locs, Pt.cells, Pt.slots] at X36 l36 y36 z36 st36 hQ36
            replace l36 := l36.symm; replace y36 := y36.symm; replace z36 := z36.symm; subst l36 y36 z36
            obtain ⟨rfl, M36, e36⟩ := hQ36
            have N36 := Fr.app N35 M36
            refine og T36 (mkF m 247 (La_16 y0 y1 y2 y3 y4 y5 lo hi mid v7 v8 v9 v10 (y5 &&& (3 : Int32)) tw b16 b17 b18 b19 b20 b22 (own_bot r7 r7 r8 r9)) [(.int (own_top r7 r7 r8 r9))]) (fun t_ k_ => st36 _ k_) ?_
            have Ib := own_botI r7 r7 r8 r9
            have It := own_topI r7 r7 r8 r9
            refine og T36 (mkF m 249 (La_17 y0 y1 y2 y3 y4 y5 lo hi mid v7 v8 v9 v10 (y5 &&& (3 : Int32)) tw b16 b17 b18 b19 b20 b22 (own_bot r7 r7 r8 r9) (own_top r7 r7 r8 r9)) []) (fun t_ k_ => XS.istore X36.here hx rfl (hb hby at_247) rfl (l' := (La_17 y0 y1 y2 y3 y4 y5 lo hi mid v7 v8 v9 v10 (y5 &&& (3 : Int32)) tw b16 b17 b18 b19 b20 b22 (own_bot r7 r7 r8 r9) (own_top r7 r7 r8 r9))) rfl k_) ?_
            refine og T36 (mkF m 251 (La_17 y0 y1 y2 y3 y4 y5 lo hi mid v7 v8 v9 v10 (y5 &&& (3 : Int32)) tw b16 b17 b18 b19 b20 b22 (own_bot r7 r7 r8 r9) (own_top r7 r7 r8 r9)) [(.long tw)]) (fun t_ k_ => XS.lload X36.here hx rfl (hb hby at_249) rfl k_) ?_
            refine og T36 (mkF m 253 (La_17 y0 y1 y2 y3 y4 y5 lo hi mid v7 v8 v9 v10 (y5 &&& (3 : Int32)) tw b16 b17 b18 b19 b20 b22 (own_bot r7 r7 r8 r9) (own_top r7 r7 r8 r9)) [(.ref b16), (.long tw)]) (fun t_ k_ => XS.aload X36.here hx rfl (hb hby at_251) rfl rfl k_) ?_
            refine og T36 (mkF m 255 (La_17 y0 y1 y2 y3 y4 y5 lo hi mid v7 v8 v9 v10 (y5 &&& (3 : Int32)) tw b16 b17 b18 b19 b20 b22 (own_bot r7 r7 r8 r9) (own_top r7 r7 r8 r9)) [(.int (own_bot r7 r7 r8 r9)), (.ref b16), (.long tw)]) (fun t_ k_ => XS.iload X36.here hx rfl (hb hby at_253) rfl k_) ?_
            have ff38 := ((((V28.other W29 (Ne.symm nq30)).other W32 (Ne.symm nq30)).other W33 (Ne.symm nq30)).other W34 (Ne.symm nq30))
            obtain ⟨cl37, Ar37, -, S37, Nn37, H37, -⟩ := id ff38
            have hin37 : ¬ ((own_bot r7 r7 r8 r9) < 0 ∨ cl37.slots.size ≤ ((own_bot r7 r7 r8 r9)).toNatClampNeg) := inb_of S37 (own_in4 Ib)
            refine og T36 (mkF m 256 (La_17 y0 y1 y2 y3 y4 y5 lo hi mid v7 v8 v9 v10 (y5 &&& (3 : Int32)) tw b16 b17 b18 b19 b20 b22 (own_bot r7 r7 r8 r9) (own_top r7 r7 r8 r9)) [(.long (own_g4 (own_bot r7 r7 r8 r9) lo lo mid hi)), (.long tw)]) (fun t_ k_ => X36.laload hx (j := (own_bot r7 r7 r8 r9)) (v := (.long (own_g4 (own_bot r7 r7 r8 r9) lo lo mid hi))) (by rw [e36]; exact Ar37.1) (State.isArrayOf_alike hZ.alike Ar37.2.1) Ar37.2.2 hin37 (H37.at hin37 (own_atJ Ib _ _ _ _)) (g := (mkF m 255 (La_17 y0 y1 y2 y3 y4 y5 lo hi mid v7 v8 v9 v10 (y5 &&& (3 : Int32)) tw b16 b17 b18 b19 b20 b22 (own_bot r7 r7 r8 r9) (own_top r7 r7 r8 r9)) [(.int (own_bot r7 r7 r8 r9)), (.ref b16), (.long tw)])) rfl rfl (hb hby at_255) _ k_) ?_
            refine og T36 (mkF m 257 (La_17 y0 y1 y2 y3 y4 y5 lo hi mid v7 v8 v9 v10 (y5 &&& (3 : Int32)) tw b16 b17 b18 b19 b20 b22 (own_bot r7 r7 r8 r9) (own_top r7 r7 r8 r9)) [(.int (lcmpW tw (own_g4 (own_bot r7 r7 r8 r9) lo lo mid hi)))]) (fun t_ k_ => XS.lcmp X36.here hx rfl (hb hby at_256) rfl k_) ?_
            by_cases hq39_ : tw = (own_g4 (own_bot r7 r7 r8 r9) lo lo mid hi)
            · skip
              refine og T36 (mkF m 271 (La_17 y0 y1 y2 y3 y4 y5 lo hi mid v7 v8 v9 v10 (y5 &&& (3 : Int32)) tw b16 b17 b18 b19 b20 b22 (own_bot r7 r7 r8 r9) (own_top r7 r7 r8 r9)) []) (fun t_ k_ => XS.ifYes X36.here hx rfl (pc0 := 257) (pc' := 271) rfl (hb hby at_257) rfl ((if0 _ _).trans (teq ((lw_eq _ _).mpr hq39_)).1) (by decide) (by decide) k_) ?_
              refine og T36 (mkF m 272 (La_17 y0 y1 y2 y3 y4 y5 lo hi mid v7 v8 v9 v10 (y5 &&& (3 : Int32)) tw b16 b17 b18 b19 b20 b22 (own_bot r7 r7 r8 r9) (own_top r7 r7 r8 r9)) [(.int 1)]) (fun t_ k_ => XS.iconst X36.here hx rfl (hb hby at_271) k_) ?_
              exact own_out X36 (v := some (.int (nar .boolean (1 : Int32)))) (fun h => by rw [hret] at h; cases h) hlk (fun fs hr => retN X36 hx (t := .boolean) hret (by simp) (hb hby at_272) hr) (Q := Q_rm_law Z y0 y1 y2 y3 y4 y5 h0 n0) (by rw [e36]; exact ⟨rfl, N36⟩) (by decide) (by decide)
            · skip
              refine og T36 (mkF m 260 (La_17 y0 y1 y2 y3 y4 y5 lo hi mid v7 v8 v9 v10 (y5 &&& (3 : Int32)) tw b16 b17 b18 b19 b20 b22 (own_bot r7 r7 r8 r9) (own_top r7 r7 r8 r9)) []) (fun t_ k_ => XS.ifNo X36.here hx rfl (hb hby at_257) rfl ((if0 _ _).trans (feq (fun z => hq39_ ((lw_eq _ _).mp z))).1) k_) ?_
              refine og T36 (mkF m 262 (La_17 y0 y1 y2 y3 y4 y5 lo hi mid v7 v8 v9 v10 (y5 &&& (3 : Int32)) tw b16 b17 b18 b19 b20 b22 (own_bot r7 r7 r8 r9) (own_top r7 r7 r8 r9)) [(.long tw)]) (fun t_ k_ => XS.lload X36.here hx rfl (hb hby at_260) rfl k_) ?_
              refine og T36 (mkF m 264 (La_17 y0 y1 y2 y3 y4 y5 lo hi mid v7 v8 v9 v10 (y5 &&& (3 : Int32)) tw b16 b17 b18 b19 b20 b22 (own_bot r7 r7 r8 r9) (own_top r7 r7 r8 r9)) [(.ref b16), (.long tw)]) (fun t_ k_ => XS.aload X36.here hx rfl (hb hby at_262) rfl rfl k_) ?_
              refine og T36 (mkF m 266 (La_17 y0 y1 y2 y3 y4 y5 lo hi mid v7 v8 v9 v10 (y5 &&& (3 : Int32)) tw b16 b17 b18 b19 b20 b22 (own_bot r7 r7 r8 r9) (own_top r7 r7 r8 r9)) [(.int (own_top r7 r7 r8 r9)), (.ref b16), (.long tw)]) (fun t_ k_ => XS.iload X36.here hx rfl (hb hby at_264) rfl k_) ?_
              obtain ⟨cl40, Ar40, -, S40, Nn40, H40, -⟩ := id ff38
              have hin40 : ¬ ((own_top r7 r7 r8 r9) < 0 ∨ cl40.slots.size ≤ ((own_top r7 r7 r8 r9)).toNatClampNeg) := inb_of S40 (own_in4 It)
              refine og T36 (mkF m 267 (La_17 y0 y1 y2 y3 y4 y5 lo hi mid v7 v8 v9 v10 (y5 &&& (3 : Int32)) tw b16 b17 b18 b19 b20 b22 (own_bot r7 r7 r8 r9) (own_top r7 r7 r8 r9)) [(.long (own_g4 (own_top r7 r7 r8 r9) lo lo mid hi)), (.long tw)]) (fun t_ k_ => X36.laload hx (j := (own_top r7 r7 r8 r9)) (v := (.long (own_g4 (own_top r7 r7 r8 r9) lo lo mid hi))) (by rw [e36]; exact Ar40.1) (State.isArrayOf_alike hZ.alike Ar40.2.1) Ar40.2.2 hin40 (H40.at hin40 (own_atJ It _ _ _ _)) (g := (mkF m 266 (La_17 y0 y1 y2 y3 y4 y5 lo hi mid v7 v8 v9 v10 (y5 &&& (3 : Int32)) tw b16 b17 b18 b19 b20 b22 (own_bot r7 r7 r8 r9) (own_top r7 r7 r8 r9)) [(.int (own_top r7 r7 r8 r9)), (.ref b16), (.long tw)])) rfl rfl (hb hby at_266) _ k_) ?_
              refine og T36 (mkF m 268 (La_17 y0 y1 y2 y3 y4 y5 lo hi mid v7 v8 v9 v10 (y5 &&& (3 : Int32)) tw b16 b17 b18 b19 b20 b22 (own_bot r7 r7 r8 r9) (own_top r7 r7 r8 r9)) [(.int (lcmpW tw (own_g4 (own_top r7 r7 r8 r9) lo lo mid hi)))]) (fun t_ k_ => XS.lcmp X36.here hx rfl (hb hby at_267) rfl k_) ?_
              by_cases hq41_ : tw = (own_g4 (own_top r7 r7 r8 r9) lo lo mid hi)
              · skip
                refine og T36 (mkF m 271 (La_17 y0 y1 y2 y3 y4 y5 lo hi mid v7 v8 v9 v10 (y5 &&& (3 : Int32)) tw b16 b17 b18 b19 b20 b22 (own_bot r7 r7 r8 r9) (own_top r7 r7 r8 r9)) []) (fun t_ k_ => XS.ifNo X36.here hx rfl (hb hby at_268) rfl ((if0 _ _).trans (teq ((lw_eq _ _).mpr hq41_)).2) k_) ?_
                refine og T36 (mkF m 272 (La_17 y0 y1 y2 y3 y4 y5 lo hi mid v7 v8 v9 v10 (y5 &&& (3 : Int32)) tw b16 b17 b18 b19 b20 b22 (own_bot r7 r7 r8 r9) (own_top r7 r7 r8 r9)) [(.int 1)]) (fun t_ k_ => XS.iconst X36.here hx rfl (hb hby at_271) k_) ?_
                exact own_out X36 (v := some (.int (nar .boolean (1 : Int32)))) (fun h => by rw [hret] at h; cases h) hlk (fun fs hr => retN X36 hx (t := .boolean) hret (by simp) (hb hby at_272) hr) (Q := Q_rm_law Z y0 y1 y2 y3 y4 y5 h0 n0) (by rw [e36]; exact ⟨rfl, N36⟩) (by decide) (by decide)
              · skip
                refine og T36 (mkF m 273 (La_17 y0 y1 y2 y3 y4 y5 lo hi mid v7 v8 v9 v10 (y5 &&& (3 : Int32)) tw b16 b17 b18 b19 b20 b22 (own_bot r7 r7 r8 r9) (own_top r7 r7 r8 r9)) []) (fun t_ k_ => XS.ifYes X36.here hx rfl (pc0 := 268) (pc' := 273) rfl (hb hby at_268) rfl ((if0 _ _).trans (feq (fun z => hq41_ ((lw_eq _ _).mp z))).2) (by decide) (by decide) k_) ?_
                refine og T36 (mkF m 275 (La_17 y0 y1 y2 y3 y4 y5 lo hi mid v7 v8 v9 v10 (y5 &&& (3 : Int32)) tw b16 b17 b18 b19 b20 b22 (own_bot r7 r7 r8 r9) (own_top r7 r7 r8 r9)) [(.long tw)]) (fun t_ k_ => XS.lload X36.here hx rfl (hb hby at_273) rfl k_) ?_
                refine og T36 (mkF m 277 (La_17 y0 y1 y2 y3 y4 y5 lo hi mid v7 v8 v9 v10 (y5 &&& (3 : Int32)) tw b16 b17 b18 b19 b20 b22 (own_bot r7 r7 r8 r9) (own_top r7 r7 r8 r9)) [(.long lo), (.long tw)]) (fun t_ k_ => XS.lload X36.here hx rfl (hb hby at_275) rfl k_) ?_
                refine og T36 (mkF m 278 (La_17 y0 y1 y2 y3 y4 y5 lo hi mid v7 v8 v9 v10 (y5 &&& (3 : Int32)) tw b16 b17 b18 b19 b20 b22 (own_bot r7 r7 r8 r9) (own_top r7 r7 r8 r9)) [(.int (lcmpW tw lo))]) (fun t_ k_ => XS.lcmp X36.here hx rfl (hb hby at_277) rfl k_) ?_
                by_cases hq42_ : tw = lo
                · skip
                  refine og T36 (mkF m 281 (La_17 y0 y1 y2 y3 y4 y5 lo hi mid v7 v8 v9 v10 (y5 &&& (3 : Int32)) tw b16 b17 b18 b19 b20 b22 (own_bot r7 r7 r8 r9) (own_top r7 r7 r8 r9)) []) (fun t_ k_ => XS.ifNo X36.here hx rfl (hb hby at_278) rfl ((if0 _ _).trans (teq ((lw_eq _ _).mpr hq42_)).2) k_) ?_
                  refine og T36 (mkF m 283 (La_17 y0 y1 y2 y3 y4 y5 lo hi mid v7 v8 v9 v10 (y5 &&& (3 : Int32)) tw b16 b17 b18 b19 b20 b22 (own_bot r7 r7 r8 r9) (own_top r7 r7 r8 r9)) [(.ref b18)]) (fun t_ k_ => XS.aload X36.here hx rfl (hb hby at_281) rfl rfl k_) ?_
                  refine og T36 (mkF m 284 (La_17 y0 y1 y2 y3 y4 y5 lo hi mid v7 v8 v9 v10 (y5 &&& (3 : Int32)) tw b16 b17 b18 b19 b20 b22 (own_bot r7 r7 r8 r9) (own_top r7 r7 r8 r9)) [(.int 0), (.ref b18)]) (fun t_ k_ => XS.iconst X36.here hx rfl (hb hby at_283) k_) ?_
                  refine og T36 (mkF m 286 (La_17 y0 y1 y2 y3 y4 y5 lo hi mid v7 v8 v9 v10 (y5 &&& (3 : Int32)) tw b16 b17 b18 b19 b20 b22 (own_bot r7 r7 r8 r9) (own_top r7 r7 r8 r9)) [(.long lo), (.int 0), (.ref b18)]) (fun t_ k_ => XS.lload X36.here hx rfl (hb hby at_284) rfl k_) ?_
                  have nq44 : b18 ≠ b16 := own_ne (by omega)
                  have nq45 : b18 ≠ b17 := own_ne (by omega)
                  have ff46 := (((((((((((V18.ext E19).ext E20).ext E22).other W24 nq44).other W26 nq44).other W27 nq44).other W28 nq44).other W29 nq45).other W32 nq45).other W33 nq45).other W34 nq45)
                  obtain ⟨cl43, Ar43, q43, S43, Nn43, H43, G43⟩ := id ff46
                  have hin43 : ¬ ((0 : Int32) < 0 ∨ cl43.slots.size ≤ ((0 : Int32)).toNatClampNeg) := inb_of S43 ⟨by decide, by decide⟩
                  obtain ⟨T43, h43, X43, e43, W43, st43⟩ := stJ X36 hx hZ e36 Ar43 (j := (0 : Int32)) hin43 (g := (mkF m 286 (La_17 y0 y1 y2 y3 y4 y5 lo hi mid v7 v8 v9 v10 (y5 &&& (3 : Int32)) tw b16 b17 b18 b19 b20 b22 (own_bot r7 r7 r8 r9) (own_top r7 r7 r8 r9)) [(.long lo), (.int 0), (.ref b18)])) rfl rfl (hb hby at_286)
                  have V43 : Arv Z h43 b18 k18 .long (4 : Int32) [(.long lo), (.long 0), (.long 0), (.long 0)] (.long 0) := Arv.set Ar43 q43 S43 Nn43 H43 G43 rfl W43 0 rfl (Nat.le_of_ble_eq_true rfl)
                  have z43 := W43.size
                  have N43 := Fr.snoc X43 N36 (show n0 ≤ b18 by omega)
                  refine og T43 (mkF m 287 (La_17 y0 y1 y2 y3 y4 y5 lo hi mid v7 v8 v9 v10 (y5 &&& (3 : Int32)) tw b16 b17 b18 b19 b20 b22 (own_bot r7 r7 r8 r9) (own_top r7 r7 r8 r9)) []) (fun t_ k_ => st43 _ k_) ?_
                  refine og T43 (mkF m 289 (La_17 y0 y1 y2 y3 y4 y5 lo hi mid v7 v8 v9 v10 (y5 &&& (3 : Int32)) tw b16 b17 b18 b19 b20 b22 (own_bot r7 r7 r8 r9) (own_top r7 r7 r8 r9)) [(.ref b18)]) (fun t_ k_ => XS.aload X43.here hx rfl (hb hby at_287) rfl rfl k_) ?_
                  refine og T43 (mkF m 290 (La_17 y0 y1 y2 y3 y4 y5 lo hi mid v7 v8 v9 v10 (y5 &&& (3 : Int32)) tw b16 b17 b18 b19 b20 b22 (own_bot r7 r7 r8 r9) (own_top r7 r7 r8 r9)) [(.int 1), (.ref b18)]) (fun t_ k_ => XS.iconst X43.here hx rfl (hb hby at_289) k_) ?_
                  refine og T43 (mkF m 292 (La_17 y0 y1 y2 y3 y4 y5 lo hi mid v7 v8 v9 v10 (y5 &&& (3 : Int32)) tw b16 b17 b18 b19 b20 b22 (own_bot r7 r7 r8 r9) (own_top r7 r7 r8 r9)) [(.long lo), (.int 1), (.ref b18)]) (fun t_ k_ => XS.lload X43.here hx rfl (hb hby at_290) rfl k_) ?_
                  obtain ⟨cl47, Ar47, q47, S47, Nn47, H47, G47⟩ := id V43
                  have hin47 : ¬ ((1 : Int32) < 0 ∨ cl47.slots.size ≤ ((1 : Int32)).toNatClampNeg) := inb_of S47 ⟨by decide, by decide⟩
                  obtain ⟨T47, h47, X47, e47, W47, st47⟩ := stJ X43 hx hZ e43 Ar47 (j := (1 : Int32)) hin47 (g := (mkF m 292 (La_17 y0 y1 y2 y3 y4 y5 lo hi mid v7 v8 v9 v10 (y5 &&& (3 : Int32)) tw b16 b17 b18 b19 b20 b22 (own_bot r7 r7 r8 r9) (own_top r7 r7 r8 r9)) [(.long lo), (.int 1), (.ref b18)])) rfl rfl (hb hby at_292)
                  have V47 : Arv Z h47 b18 k18 .long (4 : Int32) [(.long lo), (.long lo), (.long 0), (.long 0)] (.long 0) := Arv.set Ar47 q47 S47 Nn47 H47 G47 rfl W47 1 rfl (Nat.le_of_ble_eq_true rfl)
                  have z47 := W47.size
                  have N47 := Fr.snoc X47 N43 (show n0 ≤ b18 by omega)
                  refine og T47 (mkF m 293 (La_17 y0 y1 y2 y3 y4 y5 lo hi mid v7 v8 v9 v10 (y5 &&& (3 : Int32)) tw b16 b17 b18 b19 b20 b22 (own_bot r7 r7 r8 r9) (own_top r7 r7 r8 r9)) []) (fun t_ k_ => st47 _ k_) ?_
                  refine og T47 (mkF m 295 (La_17 y0 y1 y2 y3 y4 y5 lo hi mid v7 v8 v9 v10 (y5 &&& (3 : Int32)) tw b16 b17 b18 b19 b20 b22 (own_bot r7 r7 r8 r9) (own_top r7 r7 r8 r9)) [(.ref b18)]) (fun t_ k_ => XS.aload X47.here hx rfl (hb hby at_293) rfl rfl k_) ?_
                  refine og T47 (mkF m 296 (La_17 y0 y1 y2 y3 y4 y5 lo hi mid v7 v8 v9 v10 (y5 &&& (3 : Int32)) tw b16 b17 b18 b19 b20 b22 (own_bot r7 r7 r8 r9) (own_top r7 r7 r8 r9)) [(.int 2), (.ref b18)]) (fun t_ k_ => XS.iconst X47.here hx rfl (hb hby at_295) k_) ?_
                  refine og T47 (mkF m 298 (La_17 y0 y1 y2 y3 y4 y5 lo hi mid v7 v8 v9 v10 (y5 &&& (3 : Int32)) tw b16 b17 b18 b19 b20 b22 (own_bot r7 r7 r8 r9) (own_top r7 r7 r8 r9)) [(.long mid), (.int 2), (.ref b18)]) (fun t_ k_ => XS.lload X47.here hx rfl (hb hby at_296) rfl k_) ?_
                  obtain ⟨cl48, Ar48, q48, S48, Nn48, H48, G48⟩ := id V47
                  have hin48 : ¬ ((2 : Int32) < 0 ∨ cl48.slots.size ≤ ((2 : Int32)).toNatClampNeg) := inb_of S48 ⟨by decide, by decide⟩
                  obtain ⟨T48, h48, X48, e48, W48, st48⟩ := stJ X47 hx hZ e47 Ar48 (j := (2 : Int32)) hin48 (g := (mkF m 298 (La_17 y0 y1 y2 y3 y4 y5 lo hi mid v7 v8 v9 v10 (y5 &&& (3 : Int32)) tw b16 b17 b18 b19 b20 b22 (own_bot r7 r7 r8 r9) (own_top r7 r7 r8 r9)) [(.long mid), (.int 2), (.ref b18)])) rfl rfl (hb hby at_298)
                  have V48 : Arv Z h48 b18 k18 .long (4 : Int32) [(.long lo), (.long lo), (.long mid), (.long 0)] (.long 0) := Arv.set Ar48 q48 S48 Nn48 H48 G48 rfl W48 2 rfl (Nat.le_of_ble_eq_true rfl)
                  have z48 := W48.size
                  have N48 := Fr.snoc X48 N47 (show n0 ≤ b18 by omega)
                  refine og T48 (mkF m 299 (La_17 y0 y1 y2 y3 y4 y5 lo hi mid v7 v8 v9 v10 (y5 &&& (3 : Int32)) tw b16 b17 b18 b19 b20 b22 (own_bot r7 r7 r8 r9) (own_top r7 r7 r8 r9)) []) (fun t_ k_ => st48 _ k_) ?_
                  refine og T48 (mkF m 301 (La_17 y0 y1 y2 y3 y4 y5 lo hi mid v7 v8 v9 v10 (y5 &&& (3 : Int32)) tw b16 b17 b18 b19 b20 b22 (own_bot r7 r7 r8 r9) (own_top r7 r7 r8 r9)) [(.ref b18)]) (fun t_ k_ => XS.aload X48.here hx rfl (hb hby at_299) rfl rfl k_) ?_
                  refine og T48 (mkF m 302 (La_17 y0 y1 y2 y3 y4 y5 lo hi mid v7 v8 v9 v10 (y5 &&& (3 : Int32)) tw b16 b17 b18 b19 b20 b22 (own_bot r7 r7 r8 r9) (own_top r7 r7 r8 r9)) [(.int 3), (.ref b18)]) (fun t_ k_ => XS.iconst X48.here hx rfl (hb hby at_301) k_) ?_
                  refine og T48 (mkF m 304 (La_17 y0 y1 y2 y3 y4 y5 lo hi mid v7 v8 v9 v10 (y5 &&& (3 : Int32)) tw b16 b17 b18 b19 b20 b22 (own_bot r7 r7 r8 r9) (own_top r7 r7 r8 r9)) [(.long hi), (.int 3), (.ref b18)]) (fun t_ k_ => XS.lload X48.here hx rfl (hb hby at_302) rfl k_) ?_
                  obtain ⟨cl49, Ar49, q49, S49, Nn49, H49, G49⟩ := id V48
                  have hin49 : ¬ ((3 : Int32) < 0 ∨ cl49.slots.size ≤ ((3 : Int32)).toNatClampNeg) := inb_of S49 ⟨by decide, by decide⟩
                  obtain ⟨T49, h49, X49, e49, W49, st49⟩ := stJ X48 hx hZ e48 Ar49 (j := (3 : Int32)) hin49 (g := (mkF m 304 (La_17 y0 y1 y2 y3 y4 y5 lo hi mid v7 v8 v9 v10 (y5 &&& (3 : Int32)) tw b16 b17 b18 b19 b20 b22 (own_bot r7 r7 r8 r9) (own_top r7 r7 r8 r9)) [(.long hi), (.int 3), (.ref b18)])) rfl rfl (hb hby at_304)
                  have V49 : Arv Z h49 b18 k18 .long (4 : Int32) [(.long lo), (.long lo), (.long mid), (.long hi)] (.long 0) := Arv.set Ar49 q49 S49 Nn49 H49 G49 rfl W49 3 rfl (Nat.le_of_ble_eq_true rfl)
                  have z49 := W49.size
                  have N49 := Fr.snoc X49 N48 (show n0 ≤ b18 by omega)
                  refine og T49 (mkF m 305 (La_17 y0 y1 y2 y3 y4 y5 lo hi mid v7 v8 v9 v10 (y5 &&& (3 : Int32)) tw b16 b17 b18 b19 b20 b22 (own_bot r7 r7 r8 r9) (own_top r7 r7 r8 r9)) []) (fun t_ k_ => st49 _ k_) ?_
                  refine og T49 (mkF m 307 (La_17 y0 y1 y2 y3 y4 y5 lo hi mid v7 v8 v9 v10 (y5 &&& (3 : Int32)) tw b16 b17 b18 b19 b20 b22 (own_bot r7 r7 r8 r9) (own_top r7 r7 r8 r9)) [(.ref b19)]) (fun t_ k_ => XS.aload X49.here hx rfl (hb hby at_305) rfl rfl k_) ?_
                  refine og T49 (mkF m 308 (La_17 y0 y1 y2 y3 y4 y5 lo hi mid v7 v8 v9 v10 (y5 &&& (3 : Int32)) tw b16 b17 b18 b19 b20 b22 (own_bot r7 r7 r8 r9) (own_top r7 r7 r8 r9)) [(.int 0), (.ref b19)]) (fun t_ k_ => XS.iconst X49.here hx rfl (hb hby at_307) k_) ?_
                  refine og T49 (mkF m 310 (La_17 y0 y1 y2 y3 y4 y5 lo hi mid v7 v8 v9 v10 (y5 &&& (3 : Int32)) tw b16 b17 b18 b19 b20 b22 (own_bot r7 r7 r8 r9) (own_top r7 r7 r8 r9)) [(.double v10), (.int 0), (.ref b19)]) (fun t_ k_ => XS.dload X49.here hx rfl (hb hby at_308) rfl k_) ?_
                  have nq51 : b19 ≠ b16 := own_ne (by omega)
                  have nq52 : b19 ≠ b17 := own_ne (by omega)
                  have nq53 : b19 ≠ b18 := own_ne (by omega)
                  have ff54 := ((((((((((((((V19.ext E20).ext E22).other W24 nq51).other W26 nq51).other W27 nq51).other W28 nq51).other W29 nq52).other W32 nq52).other W33 nq52).other W34 nq52).other W43 nq53).other W47 nq53).other W48 nq53).other W49 nq53)
                  obtain ⟨cl50, Ar50, q50, S50, Nn50, H50, G50⟩ := id ff54
                  have hin50 : ¬ ((0 : Int32) < 0 ∨ cl50.slots.size ≤ ((0 : Int32)).toNatClampNeg) := inb_of S50 ⟨by decide, by decide⟩
                  obtain ⟨T50, h50, X50, e50, W50, st50⟩ := stD X49 hx hZ e49 Ar50 (j := (0 : Int32)) hin50 (g := (mkF m 310 (La_17 y0 y1 y2 y3 y4 y5 lo hi mid v7 v8 v9 v10 (y5 &&& (3 : Int32)) tw b16 b17 b18 b19 b20 b22 (own_bot r7 r7 r8 r9) (own_top r7 r7 r8 r9)) [(.double v10), (.int 0), (.ref b19)])) rfl rfl (hb hby at_310)
                  have V50 : Arv Z h50 b19 k19 .double (4 : Int32) [(.double v10), (.double 0), (.double 0), (.double 0)] (.double 0) := Arv.set Ar50 q50 S50 Nn50 H50 G50 rfl W50 0 rfl (Nat.le_of_ble_eq_true rfl)
                  have z50 := W50.size
                  have N50 := Fr.snoc X50 N49 (show n0 ≤ b19 by omega)
                  refine og T50 (mkF m 311 (La_17 y0 y1 y2 y3 y4 y5 lo hi mid v7 v8 v9 v10 (y5 &&& (3 : Int32)) tw b16 b17 b18 b19 b20 b22 (own_bot r7 r7 r8 r9) (own_top r7 r7 r8 r9)) []) (fun t_ k_ => st50 _ k_) ?_
                  refine og T50 (mkF m 313 (La_17 y0 y1 y2 y3 y4 y5 lo hi mid v7 v8 v9 v10 (y5 &&& (3 : Int32)) tw b16 b17 b18 b19 b20 b22 (own_bot r7 r7 r8 r9) (own_top r7 r7 r8 r9)) [(.ref b19)]) (fun t_ k_ => XS.aload X50.here hx rfl (hb hby at_311) rfl rfl k_) ?_
                  refine og T50 (mkF m 314 (La_17 y0 y1 y2 y3 y4 y5 lo hi mid v7 v8 v9 v10 (y5 &&& (3 : Int32)) tw b16 b17 b18 b19 b20 b22 (own_bot r7 r7 r8 r9) (own_top r7 r7 r8 r9)) [(.int 1), (.ref b19)]) (fun t_ k_ => XS.iconst X50.here hx rfl (hb hby at_313) k_) ?_
                  refine og T50 (mkF m 316 (La_17 y0 y1 y2 y3 y4 y5 lo hi mid v7 v8 v9 v10 (y5 &&& (3 : Int32)) tw b16 b17 b18 b19 b20 b22 (own_bot r7 r7 r8 r9) (own_top r7 r7 r8 r9)) [(.double v10), (.int 1), (.ref b19)]) (fun t_ k_ => XS.dload X50.here hx rfl (hb hby at_314) rfl k_) ?_
                  obtain ⟨cl55, Ar55, q55, S55, Nn55, H55, G55⟩ := id V50
                  have hin55 : ¬ ((1 : Int32) < 0 ∨ cl55.slots.size ≤ ((1 : Int32)).toNatClampNeg) := inb_of S55 ⟨by decide, by decide⟩
                  obtain ⟨T55, h55, X55, e55, W55, st55⟩ := stD X50 hx hZ e50 Ar55 (j := (1 : Int32)) hin55 (g := (mkF m 316 (La_17 y0 y1 y2 y3 y4 y5 lo hi mid v7 v8 v9 v10 (y5 &&& (3 : Int32)) tw b16 b17 b18 b19 b20 b22 (own_bot r7 r7 r8 r9) (own_top r7 r7 r8 r9)) [(.double v10), (.int 1), (.ref b19)])) rfl rfl (hb hby at_316)
                  have V55 : Arv Z h55 b19 k19 .double (4 : Int32) [(.double v10), (.double v10), (.double 0), (.double 0)] (.double 0) := Arv.set Ar55 q55 S55 Nn55 H55 G55 rfl W55 1 rfl (Nat.le_of_ble_eq_true rfl)
                  have z55 := W55.size
                  have N55 := Fr.snoc X55 N50 (show n0 ≤ b19 by omega)
                  refine og T55 (mkF m 317 (La_17 y0 y1 y2 y3 y4 y5 lo hi mid v7 v8 v9 v10 (y5 &&& (3 : Int32)) tw b16 b17 b18 b19 b20 b22 (own_bot r7 r7 r8 r9) (own_top r7 r7 r8 r9)) []) (fun t_ k_ => st55 _ k_) ?_
                  refine og T55 (mkF m 319 (La_17 y0 y1 y2 y3 y4 y5 lo hi mid v7 v8 v9 v10 (y5 &&& (3 : Int32)) tw b16 b17 b18 b19 b20 b22 (own_bot r7 r7 r8 r9) (own_top r7 r7 r8 r9)) [(.ref b19)]) (fun t_ k_ => XS.aload X55.here hx rfl (hb hby at_317) rfl rfl k_) ?_
                  refine og T55 (mkF m 320 (La_17 y0 y1 y2 y3 y4 y5 lo hi mid v7 v8 v9 v10 (y5 &&& (3 : Int32)) tw b16 b17 b18 b19 b20 b22 (own_bot r7 r7 r8 r9) (own_top r7 r7 r8 r9)) [(.int 2), (.ref b19)]) (fun t_ k_ => XS.iconst X55.here hx rfl (hb hby at_319) k_) ?_
                  refine og T55 (mkF m 322 (La_17 y0 y1 y2 y3 y4 y5 lo hi mid v7 v8 v9 v10 (y5 &&& (3 : Int32)) tw b16 b17 b18 b19 b20 b22 (own_bot r7 r7 r8 r9) (own_top r7 r7 r8 r9)) [(.double v8), (.int 2), (.ref b19)]) (fun t_ k_ => XS.dload X55.here hx rfl (hb hby at_320) rfl k_) ?_
                  obtain ⟨cl56, Ar56, q56, S56, Nn56, H56, G56⟩ := id V55
                  have hin56 : ¬ ((2 : Int32) < 0 ∨ cl56.slots.size ≤ ((2 : Int32)).toNatClampNeg) := inb_of S56 ⟨by decide, by decide⟩
                  obtain ⟨T56, h56, X56, e56, W56, st56⟩ := stD X55 hx hZ e55 Ar56 (j := (2 : Int32)) hin56 (g := (mkF m 322 (La_17 y0 y1 y2 y3 y4 y5 lo hi mid v7 v8 v9 v10 (y5 &&& (3 : Int32)) tw b16 b17 b18 b19 b20 b22 (own_bot r7 r7 r8 r9) (own_top r7 r7 r8 r9)) [(.double v8), (.int 2), (.ref b19)])) rfl rfl (hb hby at_322)
                  have V56 : Arv Z h56 b19 k19 .double (4 : Int32) [(.double v10), (.double v10), (.double v8), (.double 0)] (.double 0) := Arv.set Ar56 q56 S56 Nn56 H56 G56 rfl W56 2 rfl (Nat.le_of_ble_eq_true rfl)
                  have z56 := W56.size
                  have N56 := Fr.snoc X56 N55 (show n0 ≤ b19 by omega)
                  refine og T56 (mkF m 323 (La_17 y0 y1 y2 y3 y4 y5 lo hi mid v7 v8 v9 v10 (y5 &&& (3 : Int32)) tw b16 b17 b18 b19 b20 b22 (own_bot r7 r7 r8 r9) (own_top r7 r7 r8 r9)) []) (fun t_ k_ => st56 _ k_) ?_
                  refine og T56 (mkF m 325 (La_17 y0 y1 y2 y3 y4 y5 lo hi mid v7 v8 v9 v10 (y5 &&& (3 : Int32)) tw b16 b17 b18 b19 b20 b22 (own_bot r7 r7 r8 r9) (own_top r7 r7 r8 r9)) [(.ref b19)]) (fun t_ k_ => XS.aload X56.here hx rfl (hb hby at_323) rfl rfl k_) ?_
                  refine og T56 (mkF m 326 (La_17 y0 y1 y2 y3 y4 y5 lo hi mid v7 v8 v9 v10 (y5 &&& (3 : Int32)) tw b16 b17 b18 b19 b20 b22 (own_bot r7 r7 r8 r9) (own_top r7 r7 r8 r9)) [(.int 3), (.ref b19)]) (fun t_ k_ => XS.iconst X56.here hx rfl (hb hby at_325) k_) ?_
                  refine og T56 (mkF m 328 (La_17 y0 y1 y2 y3 y4 y5 lo hi mid v7 v8 v9 v10 (y5 &&& (3 : Int32)) tw b16 b17 b18 b19 b20 b22 (own_bot r7 r7 r8 r9) (own_top r7 r7 r8 r9)) [(.double v9), (.int 3), (.ref b19)]) (fun t_ k_ => XS.dload X56.here hx rfl (hb hby at_326) rfl k_) ?_
                  obtain ⟨cl57, Ar57, q57, S57, Nn57, H57, G57⟩ := id V56
                  have hin57 : ¬ ((3 : Int32) < 0 ∨ cl57.slots.size ≤ ((3 : Int32)).toNatClampNeg) := inb_of S57 ⟨by decide, by decide⟩
                  obtain ⟨T57, h57, X57, e57, W57, st57⟩ := stD X56 hx hZ e56 Ar57 (j := (3 : Int32)) hin57 (g := (mkF m 328 (La_17 y0 y1 y2 y3 y4 y5 lo hi mid v7 v8 v9 v10 (y5 &&& (3 : Int32)) tw b16 b17 b18 b19 b20 b22 (own_bot r7 r7 r8 r9) (own_top r7 r7 r8 r9)) [(.double v9), (.int 3), (.ref b19)])) rfl rfl (hb hby at_328)
                  have V57 : Arv Z h57 b19 k19 .double (4 : Int32) [(.double v10), (.double v10), (.double v8), (.double v9)] (.double 0) := Arv.set Ar57 q57 S57 Nn57 H57 G57 rfl W57 3 rfl (Nat.le_of_ble_eq_true rfl)
                  have z57 := W57.size
                  have N57 := Fr.snoc X57 N56 (show n0 ≤ b19 by omega)
                  refine og T57 (mkF m 329 (La_17 y0 y1 y2 y3 y4 y5 lo hi mid v7 v8 v9 v10 (y5 &&& (3 : Int32)) tw b16 b17 b18 b19 b20 b22 (own_bot r7 r7 r8 r9) (own_top r7 r7 r8 r9)) []) (fun t_ k_ => st57 _ k_) ?_
                  refine og T57 (mkF m 498 (La_17 y0 y1 y2 y3 y4 y5 lo hi mid v7 v8 v9 v10 (y5 &&& (3 : Int32)) tw b16 b17 b18 b19 b20 b22 (own_bot r7 r7 r8 r9) (own_top r7 r7 r8 r9)) []) (fun t_ k_ => XS.goto X57.here hx rfl (pc0 := 329) (pc' := 498) rfl (hb hby at_329) (by decide) (by decide) k_) ?_
                  refine og T57 (mkF m 500 (La_17 y0 y1 y2 y3 y4 y5 lo hi mid v7 v8 v9 v10 (y5 &&& (3 : Int32)) tw b16 b17 b18 b19 b20 b22 (own_bot r7 r7 r8 r9) (own_top r7 r7 r8 r9)) [(.ref b20)]) (fun t_ k_ => XS.aload X57.here hx rfl (hb hby at_498) rfl rfl k_) ?_
                  refine og T57 (mkF m 502 (La_17 y0 y1 y2 y3 y4 y5 lo hi mid v7 v8 v9 v10 (y5 &&& (3 : Int32)) tw b16 b17 b18 b19 b20 b22 (own_bot r7 r7 r8 r9) (own_top r7 r7 r8 r9)) [(.long lo), (.ref b20)]) (fun t_ k_ => XS.lload X57.here hx rfl (hb hby at_500) rfl k_) ?_
                  refine og T57 (mkF m 504 (La_17 y0 y1 y2 y3 y4 y5 lo hi mid v7 v8 v9 v10 (y5 &&& (3 : Int32)) tw b16 b17 b18 b19 b20 b22 (own_bot r7 r7 r8 r9) (own_top r7 r7 r8 r9)) [(.double v7), (.long lo), (.ref b20)]) (fun t_ k_ => XS.dload X57.here hx rfl (hb hby at_502) rfl k_) ?_
                  refine og T57 (mkF m 506 (La_17 y0 y1 y2 y3 y4 y5 lo hi mid v7 v8 v9 v10 (y5 &&& (3 : Int32)) tw b16 b17 b18 b19 b20 b22 (own_bot r7 r7 r8 r9) (own_top r7 r7 r8 r9)) [(.long hi), (.double v7), (.long lo), (.ref b20)]) (fun t_ k_ => XS.lload X57.here hx rfl (hb hby at_504) rfl k_) ?_
                  refine og T57 (mkF m 508 (La_17 y0 y1 y2 y3 y4 y5 lo hi mid v7 v8 v9 v10 (y5 &&& (3 : Int32)) tw b16 b17 b18 b19 b20 b22 (own_bot r7 r7 r8 r9) (own_top r7 r7 r8 r9)) [(.double v9), (.long hi), (.double v7), (.long lo), (.ref b20)]) (fun t_ k_ => XS.dload X57.here hx rfl (hb hby at_506) rfl k_) ?_
                  refine og T57 (mkF m 510 (La_17 y0 y1 y2 y3 y4 y5 lo hi mid v7 v8 v9 v10 (y5 &&& (3 : Int32)) tw b16 b17 b18 b19 b20 b22 (own_bot r7 r7 r8 r9) (own_top r7 r7 r8 r9)) [(.ref b16), (.double v9), (.long hi), (.double v7), (.long lo), (.ref b20)]) (fun t_ k_ => XS.aload X57.here hx rfl (hb hby at_508) rfl rfl k_) ?_
                  refine og T57 (mkF m 512 (La_17 y0 y1 y2 y3 y4 y5 lo hi mid v7 v8 v9 v10 (y5 &&& (3 : Int32)) tw b16 b17 b18 b19 b20 b22 (own_bot r7 r7 r8 r9) (own_top r7 r7 r8 r9)) [(.int (own_bot r7 r7 r8 r9)), (.ref b16), (.double v9), (.long hi), (.double v7), (.long lo), (.ref b20)]) (fun t_ k_ => XS.iload X57.here hx rfl (hb hby at_510) rfl k_) ?_
                  have ff59 := ((((((((ff38.other W43 (Ne.symm nq44)).other W47 (Ne.symm nq44)).other W48 (Ne.symm nq44)).other W49 (Ne.symm nq44)).other W50 (Ne.symm nq51)).other W55 (Ne.symm nq51)).other W56 (Ne.symm nq51)).other W57 (Ne.symm nq51))
                  obtain ⟨cl58, Ar58, -, S58, Nn58, H58, -⟩ := id ff59
                  have hin58 : ¬ ((own_bot r7 r7 r8 r9) < 0 ∨ cl58.slots.size ≤ ((own_bot r7 r7 r8 r9)).toNatClampNeg) := inb_of S58 (own_in4 Ib)
                  refine og T57 (mkF m 513 (La_17 y0 y1 y2 y3 y4 y5 lo hi mid v7 v8 v9 v10 (y5 &&& (3 : Int32)) tw b16 b17 b18 b19 b20 b22 (own_bot r7 r7 r8 r9) (own_top r7 r7 r8 r9)) [(.long (own_g4 (own_bot r7 r7 r8 r9) lo lo mid hi)), (.double v9), (.long hi), (.double v7), (.long lo), (.ref b20)]) (fun t_ k_ => X57.laload hx (j := (own_bot r7 r7 r8 r9)) (v := (.long (own_g4 (own_bot r7 r7 r8 r9) lo lo mid hi))) (by rw [e57]; exact Ar58.1) (State.isArrayOf_alike hZ.alike Ar58.2.1) Ar58.2.2 hin58 (H58.at hin58 (own_atJ Ib _ _ _ _)) (g := (mkF m 512 (La_17 y0 y1 y2 y3 y4 y5 lo hi mid v7 v8 v9 v10 (y5 &&& (3 : Int32)) tw b16 b17 b18 b19 b20 b22 (own_bot r7 r7 r8 r9) (own_top r7 r7 r8 r9)) [(.int (own_bot r7 r7 r8 r9)), (.ref b16), (.double v9), (.long hi), (.double v7), (.long lo), (.ref b20)])) rfl rfl (hb hby at_512) _ k_) ?_
                  refine og T57 (mkF m 515 (La_17 y0 y1 y2 y3 y4 y5 lo hi mid v7 v8 v9 v10 (y5 &&& (3 : Int32)) tw b16 b17 b18 b19 b20 b22 (own_bot r7 r7 r8 r9) (own_top r7 r7 r8 r9)) [(.ref b17), (.long (own_g4 (own_bot r7 r7 r8 r9) lo lo mid hi)), (.double v9), (.long hi), (.double v7), (.long lo), (.ref b20)]) (fun t_ k_ => XS.aload X57.here hx rfl (hb hby at_513) rfl rfl k_) ?_
                  refine og T57 (mkF m 517 (La_17 y0 y1 y2 y3 y4 y5 lo hi mid v7 v8 v9 v10 (y5 &&& (3 : Int32)) tw b16 b17 b18 b19 b20 b22 (own_bot r7 r7 r8 r9) (own_top r7 r7 r8 r9)) [(.int (own_bot r7 r7 r8 r9)), (.ref b17), (.long (own_g4 (own_bot r7 r7 r8 r9) lo lo mid hi)), (.double v9), (.long hi), (.double v7), (.long lo), (.ref b20)]) (fun t_ k_ => XS.iload X57.here hx rfl (hb hby at_515) rfl k_) ?_
                  have ff61 := ((((((((V34.other W43 (Ne.symm nq45)).other W47 (Ne.symm nq45)).other W48 (Ne.symm nq45)).other W49 (Ne.symm nq45)).other W50 (Ne.symm nq52)).other W55 (Ne.symm nq52)).other W56 (Ne.symm nq52)).other W57 (Ne.symm nq52))
                  obtain ⟨cl60, Ar60, -, S60, Nn60, H60, -⟩ := id ff61
                  have hin60 : ¬ ((own_bot r7 r7 r8 r9) < 0 ∨ cl60.slots.size ≤ ((own_bot r7 r7 r8 r9)).toNatClampNeg) := inb_of S60 (own_in4 Ib)
                  refine og T57 (mkF m 518 (La_17 y0 y1 y2 y3 y4 y5 lo hi mid v7 v8 v9 v10 (y5 &&& (3 : Int32)) tw b16 b17 b18 b19 b20 b22 (own_bot r7 r7 r8 r9) (own_top r7 r7 r8 r9)) [(.double (own_g4 (own_bot r7 r7 r8 r9) v7 v7 v8 v9)), (.long (own_g4 (own_bot r7 r7 r8 r9) lo lo mid hi)), (.double v9), (.long hi), (.double v7), (.long lo), (.ref b20)]) (fun t_ k_ => X57.daload hx (j := (own_bot r7 r7 r8 r9)) (v := (.double (own_g4 (own_bot r7 r7 r8 r9) v7 v7 v8 v9))) (by rw [e57]; exact Ar60.1) (State.isArrayOf_alike hZ.alike Ar60.2.1) Ar60.2.2 hin60 (H60.at hin60 (own_atD Ib _ _ _ _)) (g := (mkF m 517 (La_17 y0 y1 y2 y3 y4 y5 lo hi mid v7 v8 v9 v10 (y5 &&& (3 : Int32)) tw b16 b17 b18 b19 b20 b22 (own_bot r7 r7 r8 r9) (own_top r7 r7 r8 r9)) [(.int (own_bot r7 r7 r8 r9)), (.ref b17), (.long (own_g4 (own_bot r7 r7 r8 r9) lo lo mid hi)), (.double v9), (.long hi), (.double v7), (.long lo), (.ref b20)])) rfl rfl (hb hby at_517) _ k_) ?_
                  refine og T57 (mkF m 520 (La_17 y0 y1 y2 y3 y4 y5 lo hi mid v7 v8 v9 v10 (y5 &&& (3 : Int32)) tw b16 b17 b18 b19 b20 b22 (own_bot r7 r7 r8 r9) (own_top r7 r7 r8 r9)) [(.ref b16), (.double (own_g4 (own_bot r7 r7 r8 r9) v7 v7 v8 v9)), (.long (own_g4 (own_bot r7 r7 r8 r9) lo lo mid hi)), (.double v9), (.long hi), (.double v7), (.long lo), (.ref b20)]) (fun t_ k_ => XS.aload X57.here hx rfl (hb hby at_518) rfl rfl k_) ?_
                  refine og T57 (mkF m 522 (La_17 y0 y1 y2 y3 y4 y5 lo hi mid v7 v8 v9 v10 (y5 &&& (3 : Int32)) tw b16 b17 b18 b19 b20 b22 (own_bot r7 r7 r8 r9) (own_top r7 r7 r8 r9)) [(.int (own_top r7 r7 r8 r9)), (.ref b16), (.double (own_g4 (own_bot r7 r7 r8 r9) v7 v7 v8 v9)), (.long (own_g4 (own_bot r7 r7 r8 r9) lo lo mid hi)), (.double v9), (.long hi), (.double v7), (.long lo), (.ref b20)]) (fun t_ k_ => XS.iload X57.here hx rfl (hb hby at_520) rfl k_) ?_
                  obtain ⟨cl62, Ar62, -, S62, Nn62, H62, -⟩ := id ff59
                  have hin62 : ¬ ((own_top r7 r7 r8 r9) < 0 ∨ cl62.slots.size ≤ ((own_top r7 r7 r8 r9)).toNatClampNeg) := inb_of S62 (own_in4 It)
                  refine og T57 (mkF m 523 (La_17 y0 y1 y2 y3 y4 y5 lo hi mid v7 v8 v9 v10 (y5 &&& (3 : Int32)) tw b16 b17 b18 b19 b20 b22 (own_bot r7 r7 r8 r9) (own_top r7 r7 r8 r9)) [(.long (own_g4 (own_top r7 r7 r8 r9) lo lo mid hi)), (.double (own_g4 (own_bot r7 r7 r8 r9) v7 v7 v8 v9)), (.long (own_g4 (own_bot r7 r7 r8 r9) lo lo mid hi)), (.double v9), (.long hi), (.double v7), (.long lo), (.ref b20)]) (fun t_ k_ => X57.laload hx (j := (own_top r7 r7 r8 r9)) (v := (.long (own_g4 (own_top r7 r7 r8 r9) lo lo mid hi))) (by rw [e57]; exact Ar62.1) (State.isArrayOf_alike hZ.alike Ar62.2.1) Ar62.2.2 hin62 (H62.at hin62 (own_atJ It _ _ _ _)) (g := (mkF m 522 (La_17 y0 y1 y2 y3 y4 y5 lo hi mid v7 v8 v9 v10 (y5 &&& (3 : Int32)) tw b16 b17 b18 b19 b20 b22 (own_bot r7 r7 r8 r9) (own_top r7 r7 r8 r9)) [(.int (own_top r7 r7 r8 r9)), (.ref b16), (.double (own_g4 (own_bot r7 r7 r8 r9) v7 v7 v8 v9)), (.long (own_g4 (own_bot r7 r7 r8 r9) lo lo mid hi)), (.double v9), (.long hi), (.double v7), (.long lo), (.ref b20)])) rfl rfl (hb hby at_522) _ k_) ?_
                  refine og T57 (mkF m 525 (La_17 y0 y1 y2 y3 y4 y5 lo hi mid v7 v8 v9 v10 (y5 &&& (3 : Int32)) tw b16 b17 b18 b19 b20 b22 (own_bot r7 r7 r8 r9) (own_top r7 r7 r8 r9)) [(.ref b17), (.long (own_g4 (own_top r7 r7 r8 r9) lo lo mid hi)), (.double (own_g4 (own_bot r7 r7 r8 r9) v7 v7 v8 v9)), (.long (own_g4 (own_bot r7 r7 r8 r9) lo lo mid hi)), (.double v9), (.long hi), (.double v7), (.long lo), (.ref b20)]) (fun t_ k_ => XS.aload X57.here hx rfl (hb hby at_523) rfl rfl k_) ?_
                  refine og T57 (mkF m 527 (La_17 y0 y1 y2 y3 y4 y5 lo hi mid v7 v8 v9 v10 (y5 &&& (3 : Int32)) tw b16 b17 b18 b19 b20 b22 (own_bot r7 r7 r8 r9) (own_top r7 r7 r8 r9)) [(.int (own_top r7 r7 r8 r9)), (.ref b17), (.long (own_g4 (own_top r7 r7 r8 r9) lo lo mid hi)), (.double (own_g4 (own_bot r7 r7 r8 r9) v7 v7 v8 v9)), (.long (own_g4 (own_bot r7 r7 r8 r9) lo lo mid hi)), (.double v9), (.long hi), (.double v7), (.long lo), (.ref b20)]) (fun t_ k_ => XS.iload X57.here hx rfl (hb hby at_525) rfl k_) ?_
                  obtain ⟨cl63, Ar63, -, S63, Nn63, H63, -⟩ := id ff61
                  have hin63 : ¬ ((own_top r7 r7 r8 r9) < 0 ∨ cl63.slots.size ≤ ((own_top r7 r7 r8 r9)).toNatClampNeg) := inb_of S63 (own_in4 It)
                  refine og T57 (mkF m 528 (La_17 y0 y1 y2 y3 y4 y5 lo hi mid v7 v8 v9 v10 (y5 &&& (3 : Int32)) tw b16 b17 b18 b19 b20 b22 (own_bot r7 r7 r8 r9) (own_top r7 r7 r8 r9)) [(.double (own_g4 (own_top r7 r7 r8 r9) v7 v7 v8 v9)), (.long (own_g4 (own_top r7 r7 r8 r9) lo lo mid hi)), (.double (own_g4 (own_bot r7 r7 r8 r9) v7 v7 v8 v9)), (.long (own_g4 (own_bot r7 r7 r8 r9) lo lo mid hi)), (.double v9), (.long hi), (.double v7), (.long lo), (.ref b20)]) (fun t_ k_ => X57.daload hx (j := (own_top r7 r7 r8 r9)) (v := (.double (own_g4 (own_top r7 r7 r8 r9) v7 v7 v8 v9))) (by rw [e57]; exact Ar63.1) (State.isArrayOf_alike hZ.alike Ar63.2.1) Ar63.2.2 hin63 (H63.at hin63 (own_atD It _ _ _ _)) (g := (mkF m 527 (La_17 y0 y1 y2 y3 y4 y5 lo hi mid v7 v8 v9 v10 (y5 &&& (3 : Int32)) tw b16 b17 b18 b19 b20 b22 (own_bot r7 r7 r8 r9) (own_top r7 r7 r8 r9)) [(.int (own_top r7 r7 r8 r9)), (.ref b17), (.long (own_g4 (own_top r7 r7 r8 r9) lo lo mid hi)), (.double (own_g4 (own_bot r7 r7 r8 r9) v7 v7 v8 v9)), (.long (own_g4 (own_bot r7 r7 r8 r9) lo lo mid hi)), (.double v9), (.long hi), (.double v7), (.long lo), (.ref b20)])) rfl rfl (hb hby at_527) _ k_) ?_
                  have ff65 := (((((((((((((((((A20.ext E22).wr W24).wr W26).wr W27).wr W28).wr W29).wr W32).wr W33).wr W34).wr W43).wr W47).wr W48).wr W49).wr W50).wr W55).wr W56).wr W57)
                  have nq66 : b20 ≠ b16 := own_ne (by omega)
                  have nq67 : b20 ≠ b17 := own_ne (by omega)
                  have nq68 : b20 ≠ b18 := own_ne (by omega)
                  have nq69 : b20 ≠ b19 := own_ne (by omega)
                  have ff70 := (((((((((((((((((F20_m_nFirstTimestamp.ext E22).other W24 (Or.inl nq66)).other W26 (Or.inl nq66)).other W27 (Or.inl nq66)).other W28 (Or.inl nq66)).other W29 (Or.inl nq67)).other W32 (Or.inl nq67)).other W33 (Or.inl nq67)).other W34 (Or.inl nq67)).other W43 (Or.inl nq68)).other W47 (Or.inl nq68)).other W48 (Or.inl nq68)).other W49 (Or.inl nq68)).other W50 (Or.inl nq69)).other W55 (Or.inl nq69)).other W56 (Or.inl nq69)).other W57 (Or.inl nq69))
                  have ff71 := (((((((((((((((((F20_m_dFirstValue.ext E22).other W24 (Or.inl nq66)).other W26 (Or.inl nq66)).other W27 (Or.inl nq66)).other W28 (Or.inl nq66)).other W29 (Or.inl nq67)).other W32 (Or.inl nq67)).other W33 (Or.inl nq67)).other W34 (Or.inl nq67)).other W43 (Or.inl nq68)).other W47 (Or.inl nq68)).other W48 (Or.inl nq68)).other W49 (Or.inl nq68)).other W50 (Or.inl nq69)).other W55 (Or.inl nq69)).other W56 (Or.inl nq69)).other W57 (Or.inl nq69))
                  have ff72 := (((((((((((((((((F20_m_nLastTimestamp.ext E22).other W24 (Or.inl nq66)).other W26 (Or.inl nq66)).other W27 (Or.inl nq66)).other W28 (Or.inl nq66)).other W29 (Or.inl nq67)).other W32 (Or.inl nq67)).other W33 (Or.inl nq67)).other W34 (Or.inl nq67)).other W43 (Or.inl nq68)).other W47 (Or.inl nq68)).other W48 (Or.inl nq68)).other W49 (Or.inl nq68)).other W50 (Or.inl nq69)).other W55 (Or.inl nq69)).other W56 (Or.inl nq69)).other W57 (Or.inl nq69))
                  have ff73 := (((((((((((((((((F20_m_dLastValue.ext E22).other W24 (Or.inl nq66)).other W26 (Or.inl nq66)).other W27 (Or.inl nq66)).other W28 (Or.inl nq66)).other W29 (Or.inl nq67)).other W32 (Or.inl nq67)).other W33 (Or.inl nq67)).other W34 (Or.inl nq67)).other W43 (Or.inl nq68)).other W47 (Or.inl nq68)).other W48 (Or.inl nq68)).other W49 (Or.inl nq68)).other W50 (Or.inl nq69)).other W55 (Or.inl nq69)).other W56 (Or.inl nq69)).other W57 (Or.inl nq69))
                  have ff74 := (((((((((((((((((F20_m_nBottomTimestamp.ext E22).other W24 (Or.inl nq66)).other W26 (Or.inl nq66)).other W27 (Or.inl nq66)).other W28 (Or.inl nq66)).other W29 (Or.inl nq67)).other W32 (Or.inl nq67)).other W33 (Or.inl nq67)).other W34 (Or.inl nq67)).other W43 (Or.inl nq68)).other W47 (Or.inl nq68)).other W48 (Or.inl nq68)).other W49 (Or.inl nq68)).other W50 (Or.inl nq69)).other W55 (Or.inl nq69)).other W56 (Or.inl nq69)).other W57 (Or.inl nq69))
                  have ff75 := (((((((((((((((((F20_m_dBottomValue.ext E22).other W24 (Or.inl nq66)).other W26 (Or.inl nq66)).other W27 (Or.inl nq66)).other W28 (Or.inl nq66)).other W29 (Or.inl nq67)).other W32 (Or.inl nq67)).other W33 (Or.inl nq67)).other W34 (Or.inl nq67)).other W43 (Or.inl nq68)).other W47 (Or.inl nq68)).other W48 (Or.inl nq68)).other W49 (Or.inl nq68)).other W50 (Or.inl nq69)).other W55 (Or.inl nq69)).other W56 (Or.inl nq69)).other W57 (Or.inl nq69))
                  have ff76 := (((((((((((((((((F20_m_nTopTimestamp.ext E22).other W24 (Or.inl nq66)).other W26 (Or.inl nq66)).other W27 (Or.inl nq66)).other W28 (Or.inl nq66)).other W29 (Or.inl nq67)).other W32 (Or.inl nq67)).other W33 (Or.inl nq67)).other W34 (Or.inl nq67)).other W43 (Or.inl nq68)).other W47 (Or.inl nq68)).other W48 (Or.inl nq68)).other W49 (Or.inl nq68)).other W50 (Or.inl nq69)).other W55 (Or.inl nq69)).other W56 (Or.inl nq69)).other W57 (Or.inl nq69))
                  have ff77 := (((((((((((((((((F20_m_dTopValue.ext E22).other W24 (Or.inl nq66)).other W26 (Or.inl nq66)).other W27 (Or.inl nq66)).other W28 (Or.inl nq66)).other W29 (Or.inl nq67)).other W32 (Or.inl nq67)).other W33 (Or.inl nq67)).other W34 (Or.inl nq67)).other W43 (Or.inl nq68)).other W47 (Or.inl nq68)).other W48 (Or.inl nq68)).other W49 (Or.inl nq68)).other W50 (Or.inl nq69)).other W55 (Or.inl nq69)).other W56 (Or.inl nq69)).other W57 (Or.inl nq69))
                  obtain ⟨cq64, kq64, q64a, q64b, q64c⟩ := isOf hZ e57 ff65
                  obtain ⟨_, _, ⟨T64, L64, k64, n64⟩, -, X64, ⟨Lc64, hQ64, l64, y64, z64⟩, st64⟩ := X57.virtualBack hx (y := ym_6) (z := ym_6) hown (mvT hZ (own_w hw 28 rfl)) (mvT hZ (own_w hw 29 rfl)) (notFace_of_selects (args := #[]) (mvT hZ (own_w hw 31 rfl))) (mvT hZ (own_w hw 31 rfl)) (mvT hZ (own_w hw 30 rfl)) (by decide) (backOf (W := 0) (rm_set l Z a0 hw [] b20 lo v7 hi v9 (own_g4 (own_bot r7 r7 r8 r9) lo lo mid hi) (own_g4 (own_bot r7 r7 r8 r9) v7 v7 v8 v9) (own_g4 (own_top r7 r7 r8 r9) lo lo mid hi) (own_g4 (own_top r7 r7 r8 r9) v7 v7 v8 v9) (0 : Int64) 0 (0 : Int64) 0 (0 : Int64) 0 (0 : Int64) 0 h57 n0 (show n0 ≤ h57.size by omega) ff65 ff70 ff71 ff72 ff73 ff74 ff75 ff76 ff77 (show n0 ≤ b20 by omega)) hZ (own_w hw 32 rfl) (own_w hw 15 rfl) (by decide) (by decide)) q64a q64c (g := (mkF m 528 (La_17 y0 y1 y2 y3 y4 y5 lo hi mid v7 v8 v9 v10 (y5 &&& (3 : Int32)) tw b16 b17 b18 b19 b20 b22 (own_bot r7 r7 r8 r9) (own_top r7 r7 r8 r9)) [(.double (own_g4 (own_top r7 r7 r8 r9) v7 v7 v8 v9)), (.long (own_g4 (own_top r7 r7 r8 r9) lo lo mid hi)), (.double (own_g4 (own_bot r7 r7 r8 r9) v7 v7 v8 v9)), (.long (own_g4 (own_bot r7 r7 r8 r9) lo lo mid hi)), (.double v9), (.long hi), (.double v7), (.long lo), (.ref b20)])) rfl (by rw [hml]; rfl) (Steps.refl _) (argsL := [(.long lo), (.double v7), (.long hi), (.double v9), (.long (own_g4 (own_bot r7 r7 r8 r9) lo lo mid hi)), (.double (own_g4 (own_bot r7 r7 r8 r9) v7 v7 v8 v9)), (.long (own_g4 (own_top r7 r7 r8 r9) lo lo mid hi)), (.double (own_g4 (own_top r7 r7 r8 r9) v7 v7 v8 v9))]) (rest := []) (lenOf pd_7 rfl) rfl (by show 2 * 0 + _ ≤ _; exact Nat.le_of_eq rfl) (hb hby at_528) (fun _ _ => ⟨rfl, e57, (by decide : 6 + 0 ≤ _), (by decide : 32 + 0 ≤ _)⟩)
                  dsimp only [Pt.U, Pt.locs, Pt.cells, Pt.slots] at X64 l64 y64 z64 st64 hQ64
                  replace l64 := l64.symm; replace y64 := y64.symm; replace z64 := z64.symm; subst l64 y64 z64
                  obtain ⟨rfl, M64, K64_, f64_0, f64_1, f64_2, f64_3, f64_4, f64_5, f64_6, f64_7⟩ := hQ64
                  have zz64 := K64_.1
                  have N64 := Fr.app N57 M64
                  refine og T64 (mkF m 531 (La_17 y0 y1 y2 y3 y4 y5 lo hi mid v7 v8 v9 v10 (y5 &&& (3 : Int32)) tw b16 b17 b18 b19 b20 b22 (own_bot r7 r7 r8 r9) (own_top r7 r7 r8 r9)) []) (fun t_ k_ => st64.trans k_) ?_
                  refine og T64 (mkF m 533 (La_17 y0 y1 y2 y3 y4 y5 lo hi mid v7 v8 v9 v10 (y5 &&& (3 : Int32)) tw b16 b17 b18 b19 b20 b22 (own_bot r7 r7 r8 r9) (own_top r7 r7 r8 r9)) [(.ref b20)]) (fun t_ k_ => XS.aload X64.here hx rfl (hb hby at_531) rfl rfl k_) ?_
                  refine og T64 (mkF m 535 (La_17 y0 y1 y2 y3 y4 y5 lo hi mid v7 v8 v9 v10 (y5 &&& (3 : Int32)) tw b16 b17 b18 b19 b20 b22 (own_bot r7 r7 r8 r9) (own_top r7 r7 r8 r9)) [(.long tw), (.ref b20)]) (fun t_ k_ => XS.lload X64.here hx rfl (hb hby at_533) rfl k_) ?_
                  refine og T64 (mkF m 537 (La_17 y0 y1 y2 y3 y4 y5 lo hi mid v7 v8 v9 v10 (y5 &&& (3 : Int32)) tw b16 b17 b18 b19 b20 b22 (own_bot r7 r7 r8 r9) (own_top r7 r7 r8 r9)) [(.double v10), (.long tw), (.ref b20)]) (fun t_ k_ => XS.dload X64.here hx rfl (hb hby at_535) rfl k_) ?_
                  have ff79 := (ff65.keep K64_)
                  obtain ⟨cq78, kq78, q78a, q78b, q78c⟩ := isOf hZ rfl ff79
                  obtain ⟨_, _, ⟨T78, L78, k78, n78⟩, -, X78, ⟨Lc78, hQ78, l78, y78, z78⟩, st78⟩ := X64.virtualBack hx (y := ym_7) (z := ym_7) hown (mvT hZ (own_w hw 49 rfl)) (mvT hZ (own_w hw 50 rfl)) (notFace_of_selects (args := #[]) (mvT hZ (own_w hw 52 rfl))) (mvT hZ (own_w hw 52 rfl)) (mvT hZ (own_w hw 51 rfl)) (by decide) (backOf (W := 0) (rm_weigh l Z a0 hw [] b20 tw v10 lo v7 hi v9 (own_g4 (own_bot r7 r7 r8 r9) lo lo mid hi) (own_g4 (own_bot r7 r7 r8 r9) v7 v7 v8 v9) (own_g4 (own_top r7 r7 r8 r9) lo lo mid hi) (own_g4 (own_top r7 r7 r8 r9) v7 v7 v8 v9) r10 (own_g4 (own_bot r7 r7 r8 r9) r7 r7 r8 r9) (own_g4 (own_top r7 r7 r8 r9) r7 r7 r8 r9) T64.heap n0 (show n0 ≤ T64.heap.size by omega) ff79 f64_0 f64_1 f64_2 f64_3 f64_4 f64_5 f64_6 f64_7 f10_0 (own_gD Ib f7_0 f7_0 f8_0 f9_0) (own_gD It f7_0 f7_0 f8_0 f9_0) (show n0 ≤ b20 by omega) nlohi) hZ (own_w hw 53 rfl) (own_w hw 15 rfl) (by decide) (by decide)) q78a q78c (g := (mkF m 537 (La_17 y0 y1 y2 y3 y4 y5 lo hi mid v7 v8 v9 v10 (y5 &&& (3 : Int32)) tw b16 b17 b18 b19 b20 b22 (own_bot r7 r7 r8 r9) (own_top r7 r7 r8 r9)) [(.double v10), (.long tw), (.ref b20)])) rfl (by rw [hml]; rfl) (Steps.refl _) (argsL := [(.long tw), (.double v10)]) (rest := []) (lenOf pd_8 rfl) rfl (by show 2 * 0 + _ ≤ _; exact Nat.le_of_eq rfl) (hb hby at_537) (fun _ _ => ⟨rfl, rfl, (by decide : 6 + 0 ≤ _), (by decide : 32 + 0 ≤ _)⟩)
                  dsimp only [Pt.U, Pt.locs, Pt.cells, Pt.slots] at X78 l78 y78 z78 st78 hQ78
                  replace l78 := l78.symm; replace y78 := y78.symm; replace z78 := z78.symm; subst l78 y78 z78
                  obtain ⟨rfl, M78, K78_, f78_0, f78_1, f78_2, f78_3, f78_4, f78_5, f78_6, f78_7⟩ := hQ78
                  have zz78 := K78_.1
                  have N78 := Fr.app N64 M78
                  refine og T78 (mkF m 540 (La_17 y0 y1 y2 y3 y4 y5 lo hi mid v7 v8 v9 v10 (y5 &&& (3 : Int32)) tw b16 b17 b18 b19 b20 b22 (own_bot r7 r7 r8 r9) (own_top r7 r7 r8 r9)) []) (fun t_ k_ => st78.trans k_) ?_
                  refine og T78 (mkF m 542 (La_17 y0 y1 y2 y3 y4 y5 lo hi mid v7 v8 v9 v10 (y5 &&& (3 : Int32)) tw b16 b17 b18 b19 b20 b22 (own_bot r7 r7 r8 r9) (own_top r7 r7 r8 r9)) [(.ref b19)]) (fun t_ k_ => XS.aload X78.here hx rfl (hb hby at_540) rfl rfl k_) ?_
                  have ff81 := ((V57.keep K64_ (ninS (Ne.symm nq69) nin0)).keep K78_ (ninS (Ne.symm nq69) nin0))
                  obtain ⟨_, _, ⟨T80, L80, k80, n80⟩, -, X80, ⟨Lc80, hQ80, l80, y80, z80⟩, st80⟩ := Jvm.LawKit.callS X78 hx (y := ym_4) hown (mvT hZ (own_w hw 22 rfl)) (mvT hZ (own_w hw 23 rfl)) (mvT hZ (own_w hw 9 rfl)) (mvT hZ (own_w hw 24 rfl)) (by decide) (backOf (W := 0) (rm_bottomAt l Z a0 hw [] b19 v10 v10 v8 v9 r10 r10 r8 r9 k19 T78.heap n0 (show n0 ≤ T78.heap.size by omega) f10_0 f10_0 f8_0 f9_0 ff81) hZ (own_w hw 24 rfl) (own_w hw 9 rfl) (by decide) (by decide)) (g := (mkF m 542 (La_17 y0 y1 y2 y3 y4 y5 lo hi mid v7 v8 v9 v10 (y5 &&& (3 : Int32)) tw b16 b17 b18 b19 b20 b22 (own_bot r7 r7 r8 r9) (own_top r7 r7 r8 r9)) [(.ref b19)])) rfl (by rw [hml]; rfl) (argsL := [(.ref b19)]) (rest := []) (lenOf pd_6 rfl) rfl (by show 2 * 0 + _ ≤ _; exact Nat.le_of_eq rfl) (hb hby at_542) (fun _ _ => ⟨rfl, rfl, (by decide : 6 + 0 ≤ _), (by decide : 32 + 0 ≤ _)⟩)
                  dsimp only [Pt.U, Pt.locs, Pt.cells, Pt.slots] at X80 l80 y80 z80 st80 hQ80
                  replace l80 := l80.symm; replace y80 := y80.symm; replace z80 := z80.symm; subst l80 y80 z80
                  obtain ⟨rfl, M80, e80⟩ := hQ80
                  have N80 := Fr.app N78 M80
                  refine og T80 (mkF m 545 (La_17 y0 y1 y2 y3 y4 y5 lo hi mid v7 v8 v9 v10 (y5 &&& (3 : Int32)) tw b16 b17 b18 b19 b20 b22 (own_bot r7 r7 r8 r9) (own_top r7 r7 r8 r9)) [(.int (own_bot r10 r10 r8 r9))]) (fun t_ k_ => st80 _ k_) ?_
                  refine og T80 (mkF m 547 (La_18 y0 y1 y2 y3 y4 y5 lo hi mid v7 v8 v9 v10 (y5 &&& (3 : Int32)) tw b16 b17 b18 b19 b20 b22 (own_bot r7 r7 r8 r9) (own_top r7 r7 r8 r9) (own_bot r10 r10 r8 r9)) []) (fun t_ k_ => XS.istore X80.here hx rfl (hb hby at_545) rfl (l' := (La_18 y0 y1 y2 y3 y4 y5 lo hi mid v7 v8 v9 v10 (y5 &&& (3 : Int32)) tw b16 b17 b18 b19 b20 b22 (own_bot r7 r7 r8 r9) (own_top r7 r7 r8 r9) (own_bot r10 r10 r8 r9))) rfl k_) ?_
                  refine og T80 (mkF m 549 (La_18 y0 y1 y2 y3 y4 y5 lo hi mid v7 v8 v9 v10 (y5 &&& (3 : Int32)) tw b16 b17 b18 b19 b20 b22 (own_bot r7 r7 r8 r9) (own_top r7 r7 r8 r9) (own_bot r10 r10 r8 r9)) [(.ref b19)]) (fun t_ k_ => XS.aload X80.here hx rfl (hb hby at_547) rfl rfl k_) ?_
                  obtain ⟨_, _, ⟨T82, L82, k82, n82⟩, -, X82, ⟨Lc82, hQ82, l82, y82, z82⟩, st82⟩ := Jvm.LawKit.callS X80 hx (y := ym_5) hown (mvT hZ (own_w hw 25 rfl)) (mvT hZ (own_w hw 26 rfl)) (mvT hZ (own_w hw 9 rfl)) (mvT hZ (own_w hw 27 rfl)) (by decide) (backOf (W := 0) (rm_topAt l Z a0 hw [] b19 v10 v10 v8 v9 r10 r10 r8 r9 k19 T78.heap n0 (show n0 ≤ T78.heap.size by omega) f10_0 f10_0 f8_0 f9_0 ff81) hZ (own_w hw 27 rfl) (own_w hw 9 rfl) (by decide) (by decide)) (g := (mkF m 549 (La_18 y0 y1 y2 y3 y4 y5 lo hi mid v7 v8 v9 v10 (y5 &&& (3 : Int32)) tw b16 b17 b18 b19 b20 b22 (own_bot r7 r7 r8 r9) (own_top r7 r7 r8 r9) (own_bot r10 r10 r8 r9)) [(.ref b19)])) rfl (by rw [hml]; rfl) (argsL := [(.ref b19)]) (rest := []) (lenOf pd_6 rfl) rfl (by show 2 * 0 + _ ≤ _; exact Nat.le_of_eq rfl) (hb hby at_549) (fun _ _ => ⟨rfl, e80, (by decide : 6 + 0 ≤ _), (by decide : 32 + 0 ≤ _)⟩)
                  dsimp only [Pt.U, Pt.locs, Pt.cells, Pt.slots] at X82 l82 y82 z82 st82 hQ82
                  replace l82 := l82.symm; replace y82 := y82.symm; replace z82 := z82.symm; subst l82 y82 z82
                  obtain ⟨rfl, M82, e82⟩ := hQ82
                  have N82 := Fr.app N80 M82
                  refine og T82 (mkF m 552 (La_18 y0 y1 y2 y3 y4 y5 lo hi mid v7 v8 v9 v10 (y5 &&& (3 : Int32)) tw b16 b17 b18 b19 b20 b22 (own_bot r7 r7 r8 r9) (own_top r7 r7 r8 r9) (own_bot r10 r10 r8 r9)) [(.int (own_top r10 r10 r8 r9))]) (fun t_ k_ => st82 _ k_) ?_
                  have Jb := own_botI r10 r10 r8 r9
                  have Jt := own_topI r10 r10 r8 r9
                  refine og T82 (mkF m 554 (La_19 y0 y1 y2 y3 y4 y5 lo hi mid v7 v8 v9 v10 (y5 &&& (3 : Int32)) tw b16 b17 b18 b19 b20 b22 (own_bot r7 r7 r8 r9) (own_top r7 r7 r8 r9) (own_bot r10 r10 r8 r9) (own_top r10 r10 r8 r9)) []) (fun t_ k_ => XS.istore X82.here hx rfl (hb hby at_552) rfl (l' := (La_19 y0 y1 y2 y3 y4 y5 lo hi mid v7 v8 v9 v10 (y5 &&& (3 : Int32)) tw b16 b17 b18 b19 b20 b22 (own_bot r7 r7 r8 r9) (own_top r7 r7 r8 r9) (own_bot r10 r10 r8 r9) (own_top r10 r10 r8 r9))) rfl k_) ?_
                  refine og T82 (mkF m 556 (La_19 y0 y1 y2 y3 y4 y5 lo hi mid v7 v8 v9 v10 (y5 &&& (3 : Int32)) tw b16 b17 b18 b19 b20 b22 (own_bot r7 r7 r8 r9) (own_top r7 r7 r8 r9) (own_bot r10 r10 r8 r9) (own_top r10 r10 r8 r9)) [(.ref b22)]) (fun t_ k_ => XS.aload X82.here hx rfl (hb hby at_554) rfl rfl k_) ?_
                  refine og T82 (mkF m 558 (La_19 y0 y1 y2 y3 y4 y5 lo hi mid v7 v8 v9 v10 (y5 &&& (3 : Int32)) tw b16 b17 b18 b19 b20 b22 (own_bot r7 r7 r8 r9) (own_top r7 r7 r8 r9) (own_bot r10 r10 r8 r9) (own_top r10 r10 r8 r9)) [(.ref b18), (.ref b22)]) (fun t_ k_ => XS.aload X82.here hx rfl (hb hby at_556) rfl rfl k_) ?_
                  refine og T82 (mkF m 559 (La_19 y0 y1 y2 y3 y4 y5 lo hi mid v7 v8 v9 v10 (y5 &&& (3 : Int32)) tw b16 b17 b18 b19 b20 b22 (own_bot r7 r7 r8 r9) (own_top r7 r7 r8 r9) (own_bot r10 r10 r8 r9) (own_top r10 r10 r8 r9)) [(.int 0), (.ref b18), (.ref b22)]) (fun t_ k_ => XS.iconst X82.here hx rfl (hb hby at_558) k_) ?_
                  have ff84 := ((((((V49.other W50 (Ne.symm nq53)).other W55 (Ne.symm nq53)).other W56 (Ne.symm nq53)).other W57 (Ne.symm nq53)).keep K64_ (ninS (Ne.symm nq68) nin0)).keep K78_ (ninS (Ne.symm nq68) nin0))
                  obtain ⟨cl83, Ar83, -, S83, Nn83, H83, -⟩ := id ff84
                  have hin83 : ¬ ((0 : Int32) < 0 ∨ cl83.slots.size ≤ ((0 : Int32)).toNatClampNeg) := inb_of S83 ⟨by decide, by decide⟩
                  refine og T82 (mkF m 560 (La_19 y0 y1 y2 y3 y4 y5 lo hi mid v7 v8 v9 v10 (y5 &&& (3 : Int32)) tw b16 b17 b18 b19 b20 b22 (own_bot r7 r7 r8 r9) (own_top r7 r7 r8 r9) (own_bot r10 r10 r8 r9) (own_top r10 r10 r8 r9)) [(.long lo), (.ref b22)]) (fun t_ k_ => X82.laload hx (j := (0 : Int32)) (v := (.long lo)) (by rw [e82]; exact Ar83.1) (State.isArrayOf_alike hZ.alike Ar83.2.1) Ar83.2.2 hin83 (H83.at hin83 rfl) (g := (mkF m 559 (La_19 y0 y1 y2 y3 y4 y5 lo hi mid v7 v8 v9 v10 (y5 &&& (3 : Int32)) tw b16 b17 b18 b19 b20 b22 (own_bot r7 r7 r8 r9) (own_top r7 r7 r8 r9) (own_bot r10 r10 r8 r9) (own_top r10 r10 r8 r9)) [(.int 0), (.ref b18), (.ref b22)])) rfl rfl (hb hby at_559) _ k_) ?_
                  refine og T82 (mkF m 562 (La_19 y0 y1 y2 y3 y4 y5 lo hi mid v7 v8 v9 v10 (y5 &&& (3 : Int32)) tw b16 b17 b18 b19 b20 b22 (own_bot r7 r7 r8 r9) (own_top r7 r7 r8 r9) (own_bot r10 r10 r8 r9) (own_top r10 r10 r8 r9)) [(.ref b19), (.long lo), (.ref b22)]) (fun t_ k_ => XS.aload X82.here hx rfl (hb hby at_560) rfl rfl k_) ?_
                  refine og T82 (mkF m 563 (La_19 y0 y1 y2 y3 y4 y5 lo hi mid v7 v8 v9 v10 (y5 &&& (3 : Int32)) tw b16 b17 b18 b19 b20 b22 (own_bot r7 r7 r8 r9) (own_top r7 r7 r8 r9) (own_bot r10 r10 r8 r9) (own_top r10 r10 r8 r9)) [(.int 0), (.ref b19), (.long lo), (.ref b22)]) (fun t_ k_ => XS.iconst X82.here hx rfl (hb hby at_562) k_) ?_
                  obtain ⟨cl85, Ar85, -, S85, Nn85, H85, -⟩ := id ff81
                  have hin85 : ¬ ((0 : Int32) < 0 ∨ cl85.slots.size ≤ ((0 : Int32)).toNatClampNeg) := inb_of S85 ⟨by decide, by decide⟩
                  refine og T82 (mkF m 564 (La_19 y0 y1 y2 y3 y4 y5 lo hi mid v7 v8 v9 v10 (y5 &&& (3 : Int32)) tw b16 b17 b18 b19 b20 b22 (own_bot r7 r7 r8 r9) (own_top r7 r7 r8 r9) (own_bot r10 r10 r8 r9) (own_top r10 r10 r8 r9)) [(.double v10), (.long lo), (.ref b22)]) (fun t_ k_ => X82.daload hx (j := (0 : Int32)) (v := (.double v10)) (by rw [e82]; exact Ar85.1) (State.isArrayOf_alike hZ.alike Ar85.2.1) Ar85.2.2 hin85 (H85.at hin85 rfl) (g := (mkF m 563 (La_19 y0 y1 y2 y3 y4 y5 lo hi mid v7 v8 v9 v10 (y5 &&& (3 : Int32)) tw b16 b17 b18 b19 b20 b22 (own_bot r7 r7 r8 r9) (own_top r7 r7 r8 r9) (own_bot r10 r10 r8 r9) (own_top r10 r10 r8 r9)) [(.int 0), (.ref b19), (.long lo), (.ref b22)])) rfl rfl (hb hby at_563) _ k_) ?_
                  refine og T82 (mkF m 566 (La_19 y0 y1 y2 y3 y4 y5 lo hi mid v7 v8 v9 v10 (y5 &&& (3 : Int32)) tw b16 b17 b18 b19 b20 b22 (own_bot r7 r7 r8 r9) (own_top r7 r7 r8 r9) (own_bot r10 r10 r8 r9) (own_top r10 r10 r8 r9)) [(.ref b18), (.double v10), (.long lo), (.ref b22)]) (fun t_ k_ => XS.aload X82.here hx rfl (hb hby at_564) rfl rfl k_) ?_
                  refine og T82 (mkF m 567 (La_19 y0 y1 y2 y3 y4 y5 lo hi mid v7 v8 v9 v10 (y5 &&& (3 : Int32)) tw b16 b17 b18 b19 b20 b22 (own_bot r7 r7 r8 r9) (own_top r7 r7 r8 r9) (own_bot r10 r10 r8 r9) (own_top r10 r10 r8 r9)) [(.int 3), (.ref b18), (.double v10), (.long lo), (.ref b22)]) (fun t_ k_ => XS.iconst X82.here hx rfl (hb hby at_566) k_) ?_
                  obtain ⟨cl86, Ar86, -, S86, Nn86, H86, -⟩ := id ff84
                  have hin86 : ¬ ((3 : Int32) < 0 ∨ cl86.slots.size ≤ ((3 : Int32)).toNatClampNeg) := inb_of S86 ⟨by decide, by decide⟩
                  refine og T82 (mkF m 568 (La_19 y0 y1 y2 y3 y4 y5 lo hi mid v7 v8 v9 v10 (y5 &&& (3 : Int32)) tw b16 b17 b18 b19 b20 b22 (own_bot r7 r7 r8 r9) (own_top r7 r7 r8 r9) (own_bot r10 r10 r8 r9) (own_top r10 r10 r8 r9)) [(.long hi), (.double v10), (.long lo), (.ref b22)]) (fun t_ k_ => X82.laload hx (j := (3 : Int32)) (v := (.long hi)) (by rw [e82]; exact Ar86.1) (State.isArrayOf_alike hZ.alike Ar86.2.1) Ar86.2.2 hin86 (H86.at hin86 rfl) (g := (mkF m 567 (La_19 y0 y1 y2 y3 y4 y5 lo hi mid v7 v8 v9 v10 (y5 &&& (3 : Int32)) tw b16 b17 b18 b19 b20 b22 (own_bot r7 r7 r8 r9) (own_top r7 r7 r8 r9) (own_bot r10 r10 r8 r9) (own_top r10 r10 r8 r9)) [(.int 3), (.ref b18), (.double v10), (.long lo), (.ref b22)])) rfl rfl (hb hby at_567) _ k_) ?_
                  refine og T82 (mkF m 570 (La_19 y0 y1 y2 y3 y4 y5 lo hi mid v7 v8 v9 v10 (y5 &&& (3 : Int32)) tw b16 b17 b18 b19 b20 b22 (own_bot r7 r7 r8 r9) (own_top r7 r7 r8 r9) (own_bot r10 r10 r8 r9) (own_top r10 r10 r8 r9)) [(.ref b19), (.long hi), (.double v10), (.long lo), (.ref b22)]) (fun t_ k_ => XS.aload X82.here hx rfl (hb hby at_568) rfl rfl k_) ?_
                  refine og T82 (mkF m 571 (La_19 y0 y1 y2 y3 y4 y5 lo hi mid v7 v8 v9 v10 (y5 &&& (3 : Int32)) tw b16 b17 b18 b19 b20 b22 (own_bot r7 r7 r8 r9) (own_top r7 r7 r8 r9) (own_bot r10 r10 r8 r9) (own_top r10 r10 r8 r9)) [(.int 3), (.ref b19), (.long hi), (.double v10), (.long lo), (.ref b22)]) (fun t_ k_ => XS.iconst X82.here hx rfl (hb hby at_570) k_) ?_
                  obtain ⟨cl87, Ar87, -, S87, Nn87, H87, -⟩ := id ff81
                  have hin87 : ¬ ((3 : Int32) < 0 ∨ cl87.slots.size ≤ ((3 : Int32)).toNatClampNeg) := inb_of S87 ⟨by decide, by decide⟩
                  refine og T82 (mkF m 572 (La_19 y0 y1 y2 y3 y4 y5 lo hi mid v7 v8 v9 v10 (y5 &&& (3 : Int32)) tw b16 b17 b18 b19 b20 b22 (own_bot r7 r7 r8 r9) (own_top r7 r7 r8 r9) (own_bot r10 r10 r8 r9) (own_top r10 r10 r8 r9)) [(.double v9), (.long hi), (.double v10), (.long lo), (.ref b22)]) (fun t_ k_ => X82.daload hx (j := (3 : Int32)) (v := (.double v9)) (by rw [e82]; exact Ar87.1) (State.isArrayOf_alike hZ.alike Ar87.2.1) Ar87.2.2 hin87 (H87.at hin87 rfl) (g := (mkF m 571 (La_19 y0 y1 y2 y3 y4 y5 lo hi mid v7 v8 v9 v10 (y5 &&& (3 : Int32)) tw b16 b17 b18 b19 b20 b22 (own_bot r7 r7 r8 r9) (own_top r7 r7 r8 r9) (own_bot r10 r10 r8 r9) (own_top r10 r10 r8 r9)) [(.int 3), (.ref b19), (.long hi), (.double v10), (.long lo), (.ref b22)])) rfl rfl (hb hby at_571) _ k_) ?_
                  refine og T82 (mkF m 574 (La_19 y0 y1 y2 y3 y4 y5 lo hi mid v7 v8 v9 v10 (y5 &&& (3 : Int32)) tw b16 b17 b18 b19 b20 b22 (own_bot r7 r7 r8 r9) (own_top r7 r7 r8 r9) (own_bot r10 r10 r8 r9) (own_top r10 r10 r8 r9)) [(.ref b18), (.double v9), (.long hi), (.double v10), (.long lo), (.ref b22)]) (fun t_ k_ => XS.aload X82.here hx rfl (hb hby at_572) rfl rfl k_) ?_
                  refine og T82 (mkF m 576 (La_19 y0 y1 y2 y3 y4 y5 lo hi mid v7 v8 v9 v10 (y5 &&& (3 : Int32)) tw b16 b17 b18 b19 b20 b22 (own_bot r7 r7 r8 r9) (own_top r7 r7 r8 r9) (own_bot r10 r10 r8 r9) (own_top r10 r10 r8 r9)) [(.int (own_bot r10 r10 r8 r9)), (.ref b18), (.double v9), (.long hi), (.double v10), (.long lo), (.ref b22)]) (fun t_ k_ => XS.iload X82.here hx rfl (hb hby at_574) rfl k_) ?_
                  obtain ⟨cl88, Ar88, -, S88, Nn88, H88, -⟩ := id ff84
                  have hin88 : ¬ ((own_bot r10 r10 r8 r9) < 0 ∨ cl88.slots.size ≤ ((own_bot r10 r10 r8 r9)).toNatClampNeg) := inb_of S88 (own_in4 Jb)
                  refine og T82 (mkF m 577 (La_19 y0 y1 y2 y3 y4 y5 lo hi mid v7 v8 v9 v10 (y5 &&& (3 : Int32)) tw b16 b17 b18 b19 b20 b22 (own_bot r7 r7 r8 r9) (own_top r7 r7 r8 r9) (own_bot r10 r10 r8 r9) (own_top r10 r10 r8 r9)) [(.long (own_g4 (own_bot r10 r10 r8 r9) lo lo mid hi)), (.double v9), (.long hi), (.double v10), (.long lo), (.ref b22)]) (fun t_ k_ => X82.laload hx (j := (own_bot r10 r10 r8 r9)) (v := (.long (own_g4 (own_bot r10 r10 r8 r9) lo lo mid hi))) (by rw [e82]; exact Ar88.1) (State.isArrayOf_alike hZ.alike Ar88.2.1) Ar88.2.2 hin88 (H88.at hin88 (own_atJ Jb _ _ _ _)) (g := (mkF m 576 (La_19 y0 y1 y2 y3 y4 y5 lo hi mid v7 v8 v9 v10 (y5 &&& (3 : Int32)) tw b16 b17 b18 b19 b20 b22 (own_bot r7 r7 r8 r9) (own_top r7 r7 r8 r9) (own_bot r10 r10 r8 r9) (own_top r10 r10 r8 r9)) [(.int (own_bot r10 r10 r8 r9)), (.ref b18), (.double v9), (.long hi), (.double v10), (.long lo), (.ref b22)])) rfl rfl (hb hby at_576) _ k_) ?_
                  refine og T82 (mkF m 579 (La_19 y0 y1 y2 y3 y4 y5 lo hi mid v7 v8 v9 v10 (y5 &&& (3 : Int32)) tw b16 b17 b18 b19 b20 b22 (own_bot r7 r7 r8 r9) (own_top r7 r7 r8 r9) (own_bot r10 r10 r8 r9) (own_top r10 r10 r8 r9)) [(.ref b19), (.long (own_g4 (own_bot r10 r10 r8 r9) lo lo mid hi)), (.double v9), (.long hi), (.double v10), (.long lo), (.ref b22)]) (fun t_ k_ => XS.aload X82.here hx rfl (hb hby at_577) rfl rfl k_) ?_
                  refine og T82 (mkF m 581 (La_19 y0 y1 y2 y3 y4 y5 lo hi mid v7 v8 v9 v10 (y5 &&& (3 : Int32)) tw b16 b17 b18 b19 b20 b22 (own_bot r7 r7 r8 r9) (own_top r7 r7 r8 r9) (own_bot r10 r10 r8 r9) (own_top r10 r10 r8 r9)) [(.int (own_bot r10 r10 r8 r9)), (.ref b19), (.long (own_g4 (own_bot r10 r10 r8 r9) lo lo mid hi)), (.double v9), (.long hi), (.double v10), (.long lo), (.ref b22)]) (fun t_ k_ => XS.iload X82.here hx rfl (hb hby at_579) rfl k_) ?_
                  obtain ⟨cl89, Ar89, -, S89, Nn89, H89, -⟩ := id ff81
                  have hin89 : ¬ ((own_bot r10 r10 r8 r9) < 0 ∨ cl89.slots.size ≤ ((own_bot r10 r10 r8 r9)).toNatClampNeg) := inb_of S89 (own_in4 Jb)
                  refine og T82 (mkF m 582 (La_19 y0 y1 y2 y3 y4 y5 lo hi mid v7 v8 v9 v10 (y5 &&& (3 : Int32)) tw b16 b17 b18 b19 b20 b22 (own_bot r7 r7 r8 r9) (own_top r7 r7 r8 r9) (own_bot r10 r10 r8 r9) (own_top r10 r10 r8 r9)) [(.double (own_g4 (own_bot r10 r10 r8 r9) v10 v10 v8 v9)), (.long (own_g4 (own_bot r10 r10 r8 r9) lo lo mid hi)), (.double v9), (.long hi), (.double v10), (.long lo), (.ref b22)]) (fun t_ k_ => X82.daload hx (j := (own_bot r10 r10 r8 r9)) (v := (.double (own_g4 (own_bot r10 r10 r8 r9) v10 v10 v8 v9))) (by rw [e82]; exact Ar89.1) (State.isArrayOf_alike hZ.alike Ar89.2.1) Ar89.2.2 hin89 (H89.at hin89 (own_atD Jb _ _ _ _)) (g := (mkF m 581 (La_19 y0 y1 y2 y3 y4 y5 lo hi mid v7 v8 v9 v10 (y5 &&& (3 : Int32)) tw b16 b17 b18 b19 b20 b22 (own_bot r7 r7 r8 r9) (own_top r7 r7 r8 r9) (own_bot r10 r10 r8 r9) (own_top r10 r10 r8 r9)) [(.int (own_bot r10 r10 r8 r9)), (.ref b19), (.long (own_g4 (own_bot r10 r10 r8 r9) lo lo mid hi)), (.double v9), (.long hi), (.double v10), (.long lo), (.ref b22)])) rfl rfl (hb hby at_581) _ k_) ?_
                  refine og T82 (mkF m 584 (La_19 y0 y1 y2 y3 y4 y5 lo hi mid v7 v8 v9 v10 (y5 &&& (3 : Int32)) tw b16 b17 b18 b19 b20 b22 (own_bot r7 r7 r8 r9) (own_top r7 r7 r8 r9) (own_bot r10 r10 r8 r9) (own_top r10 r10 r8 r9)) [(.ref b18), (.double (own_g4 (own_bot r10 r10 r8 r9) v10 v10 v8 v9)), (.long (own_g4 (own_bot r10 r10 r8 r9) lo lo mid hi)), (.double v9), (.long hi), (.double v10), (.long lo), (.ref b22)]) (fun t_ k_ => XS.aload X82.here hx rfl (hb hby at_582) rfl rfl k_) ?_
                  refine og T82 (mkF m 586 (La_19 y0 y1 y2 y3 y4 y5 lo hi mid v7 v8 v9 v10 (y5 &&& (3 : Int32)) tw b16 b17 b18 b19 b20 b22 (own_bot r7 r7 r8 r9) (own_top r7 r7 r8 r9) (own_bot r10 r10 r8 r9) (own_top r10 r10 r8 r9)) [(.int (own_top r10 r10 r8 r9)), (.ref b18), (.double (own_g4 (own_bot r10 r10 r8 r9) v10 v10 v8 v9)), (.long (own_g4 (own_bot r10 r10 r8 r9) lo lo mid hi)), (.double v9), (.long hi), (.double v10), (.long lo), (.ref b22)]) (fun t_ k_ => XS.iload X82.here hx rfl (hb hby at_584) rfl k_) ?_
                  obtain ⟨cl90, Ar90, -, S90, Nn90, H90, -⟩ := id ff84
                  have hin90 : ¬ ((own_top r10 r10 r8 r9) < 0 ∨ cl90.slots.size ≤ ((own_top r10 r10 r8 r9)).toNatClampNeg) := inb_of S90 (own_in4 Jt)
                  refine og T82 (mkF m 587 (La_19 y0 y1 y2 y3 y4 y5 lo hi mid v7 v8 v9 v10 (y5 &&& (3 : Int32)) tw b16 b17 b18 b19 b20 b22 (own_bot r7 r7 r8 r9) (own_top r7 r7 r8 r9) (own_bot r10 r10 r8 r9) (own_top r10 r10 r8 r9)) [(.long (own_g4 (own_top r10 r10 r8 r9) lo lo mid hi)), (.double (own_g4 (own_bot r10 r10 r8 r9) v10 v10 v8 v9)), (.long (own_g4 (own_bot r10 r10 r8 r9) lo lo mid hi)), (.double v9), (.long hi), (.double v10), (.long lo), (.ref b22)]) (fun t_ k_ => X82.laload hx (j := (own_top r10 r10 r8 r9)) (v := (.long (own_g4 (own_top r10 r10 r8 r9) lo lo mid hi))) (by rw [e82]; exact Ar90.1) (State.isArrayOf_alike hZ.alike Ar90.2.1) Ar90.2.2 hin90 (H90.at hin90 (own_atJ Jt _ _ _ _)) (g := (mkF m 586 (La_19 y0 y1 y2 y3 y4 y5 lo hi mid v7 v8 v9 v10 (y5 &&& (3 : Int32)) tw b16 b17 b18 b19 b20 b22 (own_bot r7 r7 r8 r9) (own_top r7 r7 r8 r9) (own_bot r10 r10 r8 r9) (own_top r10 r10 r8 r9)) [(.int (own_top r10 r10 r8 r9)), (.ref b18), (.double (own_g4 (own_bot r10 r10 r8 r9) v10 v10 v8 v9)), (.long (own_g4 (own_bot r10 r10 r8 r9) lo lo mid hi)), (.double v9), (.long hi), (.double v10), (.long lo), (.ref b22)])) rfl rfl (hb hby at_586) _ k_) ?_
                  refine og T82 (mkF m 589 (La_19 y0 y1 y2 y3 y4 y5 lo hi mid v7 v8 v9 v10 (y5 &&& (3 : Int32)) tw b16 b17 b18 b19 b20 b22 (own_bot r7 r7 r8 r9) (own_top r7 r7 r8 r9) (own_bot r10 r10 r8 r9) (own_top r10 r10 r8 r9)) [(.ref b19), (.long (own_g4 (own_top r10 r10 r8 r9) lo lo mid hi)), (.double (own_g4 (own_bot r10 r10 r8 r9) v10 v10 v8 v9)), (.long (own_g4 (own_bot r10 r10 r8 r9) lo lo mid hi)), (.double v9), (.long hi), (.double v10), (.long lo), (.ref b22)]) (fun t_ k_ => XS.aload X82.here hx rfl (hb hby at_587) rfl rfl k_) ?_
                  refine og T82 (mkF m 591 (La_19 y0 y1 y2 y3 y4 y5 lo hi mid v7 v8 v9 v10 (y5 &&& (3 : Int32)) tw b16 b17 b18 b19 b20 b22 (own_bot r7 r7 r8 r9) (own_top r7 r7 r8 r9) (own_bot r10 r10 r8 r9) (own_top r10 r10 r8 r9)) [(.int (own_top r10 r10 r8 r9)), (.ref b19), (.long (own_g4 (own_top r10 r10 r8 r9) lo lo mid hi)), (.double (own_g4 (own_bot r10 r10 r8 r9) v10 v10 v8 v9)), (.long (own_g4 (own_bot r10 r10 r8 r9) lo lo mid hi)), (.double v9), (.long hi), (.double v10), (.long lo), (.ref b22)]) (fun t_ k_ => XS.iload X82.here hx rfl (hb hby at_589) rfl k_) ?_
                  obtain ⟨cl91, Ar91, -, S91, Nn91, H91, -⟩ := id ff81
                  have hin91 : ¬ ((own_top r10 r10 r8 r9) < 0 ∨ cl91.slots.size ≤ ((own_top r10 r10 r8 r9)).toNatClampNeg) := inb_of S91 (own_in4 Jt)
                  refine og T82 (mkF m 592 (La_19 y0 y1 y2 y3 y4 y5 lo hi mid v7 v8 v9 v10 (y5 &&& (3 : Int32)) tw b16 b17 b18 b19 b20 b22 (own_bot r7 r7 r8 r9) (own_top r7 r7 r8 r9) (own_bot r10 r10 r8 r9) (own_top r10 r10 r8 r9)) [(.double (own_g4 (own_top r10 r10 r8 r9) v10 v10 v8 v9)), (.long (own_g4 (own_top r10 r10 r8 r9) lo lo mid hi)), (.double (own_g4 (own_bot r10 r10 r8 r9) v10 v10 v8 v9)), (.long (own_g4 (own_bot r10 r10 r8 r9) lo lo mid hi)), (.double v9), (.long hi), (.double v10), (.long lo), (.ref b22)]) (fun t_ k_ => X82.daload hx (j := (own_top r10 r10 r8 r9)) (v := (.double (own_g4 (own_top r10 r10 r8 r9) v10 v10 v8 v9))) (by rw [e82]; exact Ar91.1) (State.isArrayOf_alike hZ.alike Ar91.2.1) Ar91.2.2 hin91 (H91.at hin91 (own_atD Jt _ _ _ _)) (g := (mkF m 591 (La_19 y0 y1 y2 y3 y4 y5 lo hi mid v7 v8 v9 v10 (y5 &&& (3 : Int32)) tw b16 b17 b18 b19 b20 b22 (own_bot r7 r7 r8 r9) (own_top r7 r7 r8 r9) (own_bot r10 r10 r8 r9) (own_top r10 r10 r8 r9)) [(.int (own_top r10 r10 r8 r9)), (.ref b19), (.long (own_g4 (own_top r10 r10 r8 r9) lo lo mid hi)), (.double (own_g4 (own_bot r10 r10 r8 r9) v10 v10 v8 v9)), (.long (own_g4 (own_bot r10 r10 r8 r9) lo lo mid hi)), (.double v9), (.long hi), (.double v10), (.long lo), (.ref b22)])) rfl rfl (hb hby at_591) _ k_) ?_
                  have ff93 := ((((((((((((((((((A22.wr W24).wr W26).wr W27).wr W28).wr W29).wr W32).wr W33).wr W34).wr W43).wr W47).wr W48).wr W49).wr W50).wr W55).wr W56).wr W57).keep K64_).keep K78_)
                  have nq94 : b22 ≠ b16 := own_ne (by omega)
                  have nq95 : b22 ≠ b17 := own_ne (by omega)
                  have nq96 : b22 ≠ b18 := own_ne (by omega)
                  have nq97 : b22 ≠ b19 := own_ne (by omega)
                  have nq98 : b22 ≠ b20 := own_ne (by omega)
                  have ff99 := ((((((((((((((((((F22_m_nFirstTimestamp.other W24 (Or.inl nq94)).other W26 (Or.inl nq94)).other W27 (Or.inl nq94)).other W28 (Or.inl nq94)).other W29 (Or.inl nq95)).other W32 (Or.inl nq95)).other W33 (Or.inl nq95)).other W34 (Or.inl nq95)).other W43 (Or.inl nq96)).other W47 (Or.inl nq96)).other W48 (Or.inl nq96)).other W49 (Or.inl nq96)).other W50 (Or.inl nq97)).other W55 (Or.inl nq97)).other W56 (Or.inl nq97)).other W57 (Or.inl nq97)).keep K64_ (ninS nq98 nin0)).keep K78_ (ninS nq98 nin0))
                  have ff100 := ((((((((((((((((((F22_m_dFirstValue.other W24 (Or.inl nq94)).other W26 (Or.inl nq94)).other W27 (Or.inl nq94)).other W28 (Or.inl nq94)).other W29 (Or.inl nq95)).other W32 (Or.inl nq95)).other W33 (Or.inl nq95)).other W34 (Or.inl nq95)).other W43 (Or.inl nq96)).other W47 (Or.inl nq96)).other W48 (Or.inl nq96)).other W49 (Or.inl nq96)).other W50 (Or.inl nq97)).other W55 (Or.inl nq97)).other W56 (Or.inl nq97)).other W57 (Or.inl nq97)).keep K64_ (ninS nq98 nin0)).keep K78_ (ninS nq98 nin0))
                  have ff101 := ((((((((((((((((((F22_m_nLastTimestamp.other W24 (Or.inl nq94)).other W26 (Or.inl nq94)).other W27 (Or.inl nq94)).other W28 (Or.inl nq94)).other W29 (Or.inl nq95)).other W32 (Or.inl nq95)).other W33 (Or.inl nq95)).other W34 (Or.inl nq95)).other W43 (Or.inl nq96)).other W47 (Or.inl nq96)).other W48 (Or.inl nq96)).other W49 (Or.inl nq96)).other W50 (Or.inl nq97)).other W55 (Or.inl nq97)).other W56 (Or.inl nq97)).other W57 (Or.inl nq97)).keep K64_ (ninS nq98 nin0)).keep K78_ (ninS nq98 nin0))
                  have ff102 := ((((((((((((((((((F22_m_dLastValue.other W24 (Or.inl nq94)).other W26 (Or.inl nq94)).other W27 (Or.inl nq94)).other W28 (Or.inl nq94)).other W29 (Or.inl nq95)).other W32 (Or.inl nq95)).other W33 (Or.inl nq95)).other W34 (Or.inl nq95)).other W43 (Or.inl nq96)).other W47 (Or.inl nq96)).other W48 (Or.inl nq96)).other W49 (Or.inl nq96)).other W50 (Or.inl nq97)).other W55 (Or.inl nq97)).other W56 (Or.inl nq97)).other W57 (Or.inl nq97)).keep K64_ (ninS nq98 nin0)).keep K78_ (ninS nq98 nin0))
                  have ff103 := ((((((((((((((((((F22_m_nBottomTimestamp.other W24 (Or.inl nq94)).other W26 (Or.inl nq94)).other W27 (Or.inl nq94)).other W28 (Or.inl nq94)).other W29 (Or.inl nq95)).other W32 (Or.inl nq95)).other W33 (Or.inl nq95)).other W34 (Or.inl nq95)).other W43 (Or.inl nq96)).other W47 (Or.inl nq96)).other W48 (Or.inl nq96)).other W49 (Or.inl nq96)).other W50 (Or.inl nq97)).other W55 (Or.inl nq97)).other W56 (Or.inl nq97)).other W57 (Or.inl nq97)).keep K64_ (ninS nq98 nin0)).keep K78_ (ninS nq98 nin0))
                  have ff104 := ((((((((((((((((((F22_m_dBottomValue.other W24 (Or.inl nq94)).other W26 (Or.inl nq94)).other W27 (Or.inl nq94)).other W28 (Or.inl nq94)).other W29 (Or.inl nq95)).other W32 (Or.inl nq95)).other W33 (Or.inl nq95)).other W34 (Or.inl nq95)).other W43 (Or.inl nq96)).other W47 (Or.inl nq96)).other W48 (Or.inl nq96)).other W49 (Or.inl nq96)).other W50 (Or.inl nq97)).other W55 (Or.inl nq97)).other W56 (Or.inl nq97)).other W57 (Or.inl nq97)).keep K64_ (ninS nq98 nin0)).keep K78_ (ninS nq98 nin0))
                  have ff105 := ((((((((((((((((((F22_m_nTopTimestamp.other W24 (Or.inl nq94)).other W26 (Or.inl nq94)).other W27 (Or.inl nq94)).other W28 (Or.inl nq94)).other W29 (Or.inl nq95)).other W32 (Or.inl nq95)).other W33 (Or.inl nq95)).other W34 (Or.inl nq95)).other W43 (Or.inl nq96)).other W47 (Or.inl nq96)).other W48 (Or.inl nq96)).other W49 (Or.inl nq96)).other W50 (Or.inl nq97)).other W55 (Or.inl nq97)).other W56 (Or.inl nq97)).other W57 (Or.inl nq97)).keep K64_ (ninS nq98 nin0)).keep K78_ (ninS nq98 nin0))
                  have ff106 := ((((((((((((((((((F22_m_dTopValue.other W24 (Or.inl nq94)).other W26 (Or.inl nq94)).other W27 (Or.inl nq94)).other W28 (Or.inl nq94)).other W29 (Or.inl nq95)).other W32 (Or.inl nq95)).other W33 (Or.inl nq95)).other W34 (Or.inl nq95)).other W43 (Or.inl nq96)).other W47 (Or.inl nq96)).other W48 (Or.inl nq96)).other W49 (Or.inl nq96)).other W50 (Or.inl nq97)).other W55 (Or.inl nq97)).other W56 (Or.inl nq97)).other W57 (Or.inl nq97)).keep K64_ (ninS nq98 nin0)).keep K78_ (ninS nq98 nin0))
                  obtain ⟨cq92, kq92, q92a, q92b, q92c⟩ := isOf hZ e82 ff93
                  obtain ⟨_, _, ⟨T92, L92, k92, n92⟩, -, X92, ⟨Lc92, hQ92, l92, y92, z92⟩, st92⟩ := X82.virtualBack hx (y := ym_6) (z := ym_6) hown (mvT hZ (own_w hw 28 rfl)) (mvT hZ (own_w hw 29 rfl)) (notFace_of_selects (args := #[]) (mvT hZ (own_w hw 31 rfl))) (mvT hZ (own_w hw 31 rfl)) (mvT hZ (own_w hw 30 rfl)) (by decide) (backOf (W := 0) (rm_set l Z a0 hw [] b22 lo v10 hi v9 (own_g4 (own_bot r10 r10 r8 r9) lo lo mid hi) (own_g4 (own_bot r10 r10 r8 r9) v10 v10 v8 v9) (own_g4 (own_top r10 r10 r8 r9) lo lo mid hi) (own_g4 (own_top r10 r10 r8 r9) v10 v10 v8 v9) (0 : Int64) 0 (0 : Int64) 0 (0 : Int64) 0 (0 : Int64) 0 T78.heap n0 (show n0 ≤ T78.heap.size by omega) ff93 ff99 ff100 ff101 ff102 ff103 ff104 ff105 ff106 (show n0 ≤ b22 by omega)) hZ (own_w hw 32 rfl) (own_w hw 15 rfl) (by decide) (by decide)) q92a q92c (g := (mkF m 592 (La_19 y0 y1 y2 y3 y4 y5 lo hi mid v7 v8 v9 v10 (y5 &&& (3 : Int32)) tw b16 b17 b18 b19 b20 b22 (own_bot r7 r7 r8 r9) (own_top r7 r7 r8 r9) (own_bot r10 r10 r8 r9) (own_top r10 r10 r8 r9)) [(.double (own_g4 (own_top r10 r10 r8 r9) v10 v10 v8 v9)), (.long (own_g4 (own_top r10 r10 r8 r9) lo lo mid hi)), (.double (own_g4 (own_bot r10 r10 r8 r9) v10 v10 v8 v9)), (.long (own_g4 (own_bot r10 r10 r8 r9) lo lo mid hi)), (.double v9), (.long hi), (.double v10), (.long lo), (.ref b22)])) rfl (by rw [hml]; rfl) (Steps.refl _) (argsL := [(.long lo), (.double v10), (.long hi), (.double v9), (.long (own_g4 (own_bot r10 r10 r8 r9) lo lo mid hi)), (.double (own_g4 (own_bot r10 r10 r8 r9) v10 v10 v8 v9)), (.long (own_g4 (own_top r10 r10 r8 r9) lo lo mid hi)), (.double (own_g4 (own_top r10 r10 r8 r9) v10 v10 v8 v9))]) (rest := []) (lenOf pd_7 rfl) rfl (by show 2 * 0 + _ ≤ _; exact Nat.le_of_eq rfl) (hb hby at_592) (fun _ _ => ⟨rfl, e82, (by decide : 6 + 0 ≤ _), (by decide : 32 + 0 ≤ _)⟩)
                  dsimp only [Pt.U, Pt.locs, Pt.cells, Pt.slots] at X92 l92 y92 z92 st92 hQ92
                  replace l92 := l92.symm; replace y92 := y92.symm; replace z92 := z92.symm; subst l92 y92 z92
                  obtain ⟨rfl, M92, K92_, f92_0, f92_1, f92_2, f92_3, f92_4, f92_5, f92_6, f92_7⟩ := hQ92
                  have zz92 := K92_.1
                  have N92 := Fr.app N82 M92
                  refine og T92 (mkF m 595 (La_19 y0 y1 y2 y3 y4 y5 lo hi mid v7 v8 v9 v10 (y5 &&& (3 : Int32)) tw b16 b17 b18 b19 b20 b22 (own_bot r7 r7 r8 r9) (own_top r7 r7 r8 r9) (own_bot r10 r10 r8 r9) (own_top r10 r10 r8 r9)) []) (fun t_ k_ => st92.trans k_) ?_
                  refine og T92 (mkF m 597 (La_19 y0 y1 y2 y3 y4 y5 lo hi mid v7 v8 v9 v10 (y5 &&& (3 : Int32)) tw b16 b17 b18 b19 b20 b22 (own_bot r7 r7 r8 r9) (own_top r7 r7 r8 r9) (own_bot r10 r10 r8 r9) (own_top r10 r10 r8 r9)) [(.ref b20)]) (fun t_ k_ => XS.aload X92.here hx rfl (hb hby at_595) rfl rfl k_) ?_
                  refine og T92 (mkF m 599 (La_19 y0 y1 y2 y3 y4 y5 lo hi mid v7 v8 v9 v10 (y5 &&& (3 : Int32)) tw b16 b17 b18 b19 b20 b22 (own_bot r7 r7 r8 r9) (own_top r7 r7 r8 r9) (own_bot r10 r10 r8 r9) (own_top r10 r10 r8 r9)) [(.ref b22), (.ref b20)]) (fun t_ k_ => XS.aload X92.here hx rfl (hb hby at_597) rfl rfl k_) ?_
                  have fix := own_fixA (v0 := v7) (v1 := v8) (v2 := v9) (vw := v10) (r0 := r7) (r1 := r8) (r2 := r9) (rw := r10) h1 h2 hq42_ hq39_ hq41_
                  have ff107 := (f78_1.keep K92_ (ninS (Ne.symm nq98) nin0))
                  have fq108 : Fld Z T92.heap b20 "com/example/driftline/driftline/storage/Extremes" "m_dFirstValue" "D" (.double v10) := (show (if tw = lo then v10 else v7) = v10 from if_pos hq42_) ▸ ff107
                  have ff109 := (f78_3.keep K92_ (ninS (Ne.symm nq98) nin0))
                  have fq110 : Fld Z T92.heap b20 "com/example/driftline/driftline/storage/Extremes" "m_dLastValue" "D" (.double v9) := (show (if tw = hi then v10 else v9) = v9 from if_neg (fun q => nlohi (hq42_.symm.trans q))) ▸ ff109
                  have ff111 := (f78_4.keep K92_ (ninS (Ne.symm nq98) nin0))
                  have fq112 : Fld Z T92.heap b20 "com/example/driftline/driftline/storage/Extremes" "m_nBottomTimestamp" "J" (.long (own_g4 (own_bot r10 r10 r8 r9) lo lo mid hi)) := (show (if (r10 < (own_g4 (own_bot r7 r7 r8 r9) r7 r7 r8 r9) ∨ (r10 = (own_g4 (own_bot r7 r7 r8 r9) r7 r7 r8 r9) ∧ tw < (own_g4 (own_bot r7 r7 r8 r9) lo lo mid hi))) then tw else (own_g4 (own_bot r7 r7 r8 r9) lo lo mid hi)) = (own_g4 (own_bot r10 r10 r8 r9) lo lo mid hi) from fix.1.1) ▸ ff111
                  have ff113 := (f78_5.keep K92_ (ninS (Ne.symm nq98) nin0))
                  have fq114 : Fld Z T92.heap b20 "com/example/driftline/driftline/storage/Extremes" "m_dBottomValue" "D" (.double (own_g4 (own_bot r10 r10 r8 r9) v10 v10 v8 v9)) := (show (if (r10 < (own_g4 (own_bot r7 r7 r8 r9) r7 r7 r8 r9) ∨ (r10 = (own_g4 (own_bot r7 r7 r8 r9) r7 r7 r8 r9) ∧ tw < (own_g4 (own_bot r7 r7 r8 r9) lo lo mid hi))) then v10 else (own_g4 (own_bot r7 r7 r8 r9) v7 v7 v8 v9)) = (own_g4 (own_bot r10 r10 r8 r9) v10 v10 v8 v9) from fix.1.2) ▸ ff113
                  have ff115 := (f78_6.keep K92_ (ninS (Ne.symm nq98) nin0))
                  have fq116 : Fld Z T92.heap b20 "com/example/driftline/driftline/storage/Extremes" "m_nTopTimestamp" "J" (.long (own_g4 (own_top r10 r10 r8 r9) lo lo mid hi)) := (show (if ((own_g4 (own_top r7 r7 r8 r9) r7 r7 r8 r9) < r10 ∨ (r10 = (own_g4 (own_top r7 r7 r8 r9) r7 r7 r8 r9) ∧ tw < (own_g4 (own_top r7 r7 r8 r9) lo lo mid hi))) then tw else (own_g4 (own_top r7 r7 r8 r9) lo lo mid hi)) = (own_g4 (own_top r10 r10 r8 r9) lo lo mid hi) from fix.2.1) ▸ ff115
                  have ff117 := (f78_7.keep K92_ (ninS (Ne.symm nq98) nin0))
                  have fq118 : Fld Z T92.heap b20 "com/example/driftline/driftline/storage/Extremes" "m_dTopValue" "D" (.double (own_g4 (own_top r10 r10 r8 r9) v10 v10 v8 v9)) := (show (if ((own_g4 (own_top r7 r7 r8 r9) r7 r7 r8 r9) < r10 ∨ (r10 = (own_g4 (own_top r7 r7 r8 r9) r7 r7 r8 r9) ∧ tw < (own_g4 (own_top r7 r7 r8 r9) lo lo mid hi))) then v10 else (own_g4 (own_top r7 r7 r8 r9) v7 v7 v8 v9)) = (own_g4 (own_top r10 r10 r8 r9) v10 v10 v8 v9) from fix.2.2) ▸ ff117
                  have ff120 := (ff93.keep K92_)
                  have ff121 := (f78_0.keep K92_ (ninS (Ne.symm nq98) nin0))
                  have ff122 := (f78_2.keep K92_ (ninS (Ne.symm nq98) nin0))
                  have ff123 := ((ff79.keep K78_).keep K92_)
                  obtain ⟨cq119, kq119, q119a, q119b, q119c⟩ := isOf hZ rfl ff123
                  obtain ⟨_, _, ⟨T119, L119, k119, n119⟩, -, X119, ⟨Lc119, hQ119, l119, y119, z119⟩, st119⟩ := X92.virtualBack hx (y := ym_11) (z := ym_11) hown (mvT hZ (own_w hw 54 rfl)) (mvT hZ (own_w hw 55 rfl)) (notFace_of_selects (args := #[]) (mvT hZ (own_w hw 57 rfl))) (mvT hZ (own_w hw 57 rfl)) (mvT hZ (own_w hw 56 rfl)) (by decide) (backOf (W := 0) (rm_eq l Z a0 hw [] b20 b22 lo v10 hi v9 (own_g4 (own_bot r10 r10 r8 r9) lo lo mid hi) (own_g4 (own_bot r10 r10 r8 r9) v10 v10 v8 v9) (own_g4 (own_top r10 r10 r8 r9) lo lo mid hi) (own_g4 (own_top r10 r10 r8 r9) v10 v10 v8 v9) r10 r9 (own_g4 (own_bot r10 r10 r8 r9) r10 r10 r8 r9) (own_g4 (own_top r10 r10 r8 r9) r10 r10 r8 r9) T92.heap n0 (show n0 ≤ T92.heap.size by omega) ff120 ff121 fq108 ff122 fq110 fq112 fq114 fq116 fq118 f92_0 f92_1 f92_2 f92_3 f92_4 f92_5 f92_6 f92_7 f10_0 f9_0 (own_gD Jb f10_0 f10_0 f8_0 f9_0) (own_gD Jt f10_0 f10_0 f8_0 f9_0)) hZ (own_w hw 58 rfl) (own_w hw 15 rfl) (by decide) (by decide)) q119a q119c (g := (mkF m 599 (La_19 y0 y1 y2 y3 y4 y5 lo hi mid v7 v8 v9 v10 (y5 &&& (3 : Int32)) tw b16 b17 b18 b19 b20 b22 (own_bot r7 r7 r8 r9) (own_top r7 r7 r8 r9) (own_bot r10 r10 r8 r9) (own_top r10 r10 r8 r9)) [(.ref b22), (.ref b20)])) rfl (by rw [hml]; rfl) (Steps.refl _) (argsL := [(.ref b22)]) (rest := []) (lenOf pd_9 rfl) rfl (by show 2 * 0 + _ ≤ _; exact Nat.le_of_eq rfl) (hb hby at_599) (fun _ _ => ⟨rfl, rfl, (by decide : 6 + 0 ≤ _), (by decide : 32 + 0 ≤ _)⟩)
                  dsimp only [Pt.U, Pt.locs, Pt.cells, Pt.slots] at X119 l119 y119 z119 st119 hQ119
                  replace l119 := l119.symm; replace y119 := y119.symm; replace z119 := z119.symm; subst l119 y119 z119
                  obtain ⟨rfl, M119, e119⟩ := hQ119
                  have N119 := Fr.app N92 M119
                  refine og T119 (mkF m 602 (La_19 y0 y1 y2 y3 y4 y5 lo hi mid v7 v8 v9 v10 (y5 &&& (3 : Int32)) tw b16 b17 b18 b19 b20 b22 (own_bot r7 r7 r8 r9) (own_top r7 r7 r8 r9) (own_bot r10 r10 r8 r9) (own_top r10 r10 r8 r9)) [(.int 1)]) (fun t_ k_ => st119.trans k_) ?_
                  exact own_out X119 (v := some (.int (nar .boolean (1 : Int32)))) (fun h => by rw [hret] at h; cases h) hlk (fun fs hr => retN X119 hx (t := .boolean) hret (by simp) (hb hby at_602) hr) (Q := Q_rm_law Z y0 y1 y2 y3 y4 y5 h0 n0) (by rw [e119]; exact ⟨rfl, N119⟩) (by decide) (by decide)
                · skip
                  refine og T36 (mkF m 332 (La_17 y0 y1 y2 y3 y4 y5 lo hi mid v7 v8 v9 v10 (y5 &&& (3 : Int32)) tw b16 b17 b18 b19 b20 b22 (own_bot r7 r7 r8 r9) (own_top r7 r7 r8 r9)) []) (fun t_ k_ => XS.ifYes X36.here hx rfl (pc0 := 278) (pc' := 332) rfl (hb hby at_278) rfl ((if0 _ _).trans (feq (fun z => hq42_ ((lw_eq _ _).mp z))).2) (by decide) (by decide) k_) ?_
                  refine og T36 (mkF m 334 (La_17 y0 y1 y2 y3 y4 y5 lo hi mid v7 v8 v9 v10 (y5 &&& (3 : Int32)) tw b16 b17 b18 b19 b20 b22 (own_bot r7 r7 r8 r9) (own_top r7 r7 r8 r9)) [(.long tw)]) (fun t_ k_ => XS.lload X36.here hx rfl (hb hby at_332) rfl k_) ?_
                  refine og T36 (mkF m 336 (La_17 y0 y1 y2 y3 y4 y5 lo hi mid v7 v8 v9 v10 (y5 &&& (3 : Int32)) tw b16 b17 b18 b19 b20 b22 (own_bot r7 r7 r8 r9) (own_top r7 r7 r8 r9)) [(.long hi), (.long tw)]) (fun t_ k_ => XS.lload X36.here hx rfl (hb hby at_334) rfl k_) ?_
                  refine og T36 (mkF m 337 (La_17 y0 y1 y2 y3 y4 y5 lo hi mid v7 v8 v9 v10 (y5 &&& (3 : Int32)) tw b16 b17 b18 b19 b20 b22 (own_bot r7 r7 r8 r9) (own_top r7 r7 r8 r9)) [(.int (lcmpW tw hi))]) (fun t_ k_ => XS.lcmp X36.here hx rfl (hb hby at_336) rfl k_) ?_
                  by_cases hq124_ : tw = hi
                  · skip
                    refine og T36 (mkF m 340 (La_17 y0 y1 y2 y3 y4 y5 lo hi mid v7 v8 v9 v10 (y5 &&& (3 : Int32)) tw b16 b17 b18 b19 b20 b22 (own_bot r7 r7 r8 r9) (own_top r7 r7 r8 r9)) []) (fun t_ k_ => XS.ifNo X36.here hx rfl (hb hby at_337) rfl ((if0 _ _).trans (teq ((lw_eq _ _).mpr hq124_)).2) k_) ?_
                    refine og T36 (mkF m 342 (La_17 y0 y1 y2 y3 y4 y5 lo hi mid v7 v8 v9 v10 (y5 &&& (3 : Int32)) tw b16 b17 b18 b19 b20 b22 (own_bot r7 r7 r8 r9) (own_top r7 r7 r8 r9)) [(.ref b18)]) (fun t_ k_ => XS.aload X36.here hx rfl (hb hby at_340) rfl rfl k_) ?_
                    refine og T36 (mkF m 343 (La_17 y0 y1 y2 y3 y4 y5 lo hi mid v7 v8 v9 v10 (y5 &&& (3 : Int32)) tw b16 b17 b18 b19 b20 b22 (own_bot r7 r7 r8 r9) (own_top r7 r7 r8 r9)) [(.int 0), (.ref b18)]) (fun t_ k_ => XS.iconst X36.here hx rfl (hb hby at_342) k_) ?_
                    refine og T36 (mkF m 345 (La_17 y0 y1 y2 y3 y4 y5 lo hi mid v7 v8 v9 v10 (y5 &&& (3 : Int32)) tw b16 b17 b18 b19 b20 b22 (own_bot r7 r7 r8 r9) (own_top r7 r7 r8 r9)) [(.long lo), (.int 0), (.ref b18)]) (fun t_ k_ => XS.lload X36.here hx rfl (hb hby at_343) rfl k_) ?_
                    have nq126 : b18 ≠ b16 := own_ne (by omega)
                    have nq127 : b18 ≠ b17 := own_ne (by omega)
                    have ff128 := (((((((((((V18.ext E19).ext E20).ext E22).other W24 nq126).other W26 nq126).other W27 nq126).other W28 nq126).other W29 nq127).other W32 nq127).other W33 nq127).other W34 nq127)
                    obtain ⟨cl125, Ar125, q125, S125, Nn125, H125, G125⟩ := id ff128
                    have hin125 : ¬ ((0 : Int32) < 0 ∨ cl125.slots.size ≤ ((0 : Int32)).toNatClampNeg) := inb_of S125 ⟨by decide, by decide⟩
                    obtain ⟨T125, h125, X125, e125, W125, st125⟩ := stJ X36 hx hZ e36 Ar125 (j := (0 : Int32)) hin125 (g := (mkF m 345 (La_17 y0 y1 y2 y3 y4 y5 lo hi mid v7 v8 v9 v10 (y5 &&& (3 : Int32)) tw b16 b17 b18 b19 b20 b22 (own_bot r7 r7 r8 r9) (own_top r7 r7 r8 r9)) [(.long lo), (.int 0), (.ref b18)])) rfl rfl (hb hby at_345)
                    have V125 : Arv Z h125 b18 k18 .long (4 : Int32) [(.long lo), (.long 0), (.long 0), (.long 0)] (.long 0) := Arv.set Ar125 q125 S125 Nn125 H125 G125 rfl W125 0 rfl (Nat.le_of_ble_eq_true rfl)
                    have z125 := W125.size
                    have N125 := Fr.snoc X125 N36 (show n0 ≤ b18 by omega)
                    refine og T125 (mkF m 346 (La_17 y0 y1 y2 y3 y4 y5 lo hi mid v7 v8 v9 v10 (y5 &&& (3 : Int32)) tw b16 b17 b18 b19 b20 b22 (own_bot r7 r7 r8 r9) (own_top r7 r7 r8 r9)) []) (fun t_ k_ => st125 _ k_) ?_
                    refine og T125 (mkF m 348 (La_17 y0 y1 y2 y3 y4 y5 lo hi mid v7 v8 v9 v10 (y5 &&& (3 : Int32)) tw b16 b17 b18 b19 b20 b22 (own_bot r7 r7 r8 r9) (own_top r7 r7 r8 r9)) [(.ref b18)]) (fun t_ k_ => XS.aload X125.here hx rfl (hb hby at_346) rfl rfl k_) ?_
                    refine og T125 (mkF m 349 (La_17 y0 y1 y2 y3 y4 y5 lo hi mid v7 v8 v9 v10 (y5 &&& (3 : Int32)) tw b16 b17 b18 b19 b20 b22 (own_bot r7 r7 r8 r9) (own_top r7 r7 r8 r9)) [(.int 1), (.ref b18)]) (fun t_ k_ => XS.iconst X125.here hx rfl (hb hby at_348) k_) ?_
                    refine og T125 (mkF m 351 (La_17 y0 y1 y2 y3 y4 y5 lo hi mid v7 v8 v9 v10 (y5 &&& (3 : Int32)) tw b16 b17 b18 b19 b20 b22 (own_bot r7 r7 r8 r9) (own_top r7 r7 r8 r9)) [(.long mid), (.int 1), (.ref b18)]) (fun t_ k_ => XS.lload X125.here hx rfl (hb hby at_349) rfl k_) ?_
                    obtain ⟨cl129, Ar129, q129, S129, Nn129, H129, G129⟩ := id V125
                    have hin129 : ¬ ((1 : Int32) < 0 ∨ cl129.slots.size ≤ ((1 : Int32)).toNatClampNeg) := inb_of S129 ⟨by decide, by decide⟩
                    obtain ⟨T129, h129, X129, e129, W129, st129⟩ := stJ X125 hx hZ e125 Ar129 (j := (1 : Int32)) hin129 (g := (mkF m 351 (La_17 y0 y1 y2 y3 y4 y5 lo hi mid v7 v8 v9 v10 (y5 &&& (3 : Int32)) tw b16 b17 b18 b19 b20 b22 (own_bot r7 r7 r8 r9) (own_top r7 r7 r8 r9)) [(.long mid), (.int 1), (.ref b18)])) rfl rfl (hb hby at_351)
                    have V129 : Arv Z h129 b18 k18 .long (4 : Int32) [(.long lo), (.long mid), (.long 0), (.long 0)] (.long 0) := Arv.set Ar129 q129 S129 Nn129 H129 G129 rfl W129 1 rfl (Nat.le_of_ble_eq_true rfl)
                    have z129 := W129.size
                    have N129 := Fr.snoc X129 N125 (show n0 ≤ b18 by omega)
                    refine og T129 (mkF m 352 (La_17 y0 y1 y2 y3 y4 y5 lo hi mid v7 v8 v9 v10 (y5 &&& (3 : Int32)) tw b16 b17 b18 b19 b20 b22 (own_bot r7 r7 r8 r9) (own_top r7 r7 r8 r9)) []) (fun t_ k_ => st129 _ k_) ?_
                    refine og T129 (mkF m 354 (La_17 y0 y1 y2 y3 y4 y5 lo hi mid v7 v8 v9 v10 (y5 &&& (3 : Int32)) tw b16 b17 b18 b19 b20 b22 (own_bot r7 r7 r8 r9) (own_top r7 r7 r8 r9)) [(.ref b18)]) (fun t_ k_ => XS.aload X129.here hx rfl (hb hby at_352) rfl rfl k_) ?_
                    refine og T129 (mkF m 355 (La_17 y0 y1 y2 y3 y4 y5 lo hi mid v7 v8 v9 v10 (y5 &&& (3 : Int32)) tw b16 b17 b18 b19 b20 b22 (own_bot r7 r7 r8 r9) (own_top r7 r7 r8 r9)) [(.int 2), (.ref b18)]) (fun t_ k_ => XS.iconst X129.here hx rfl (hb hby at_354) k_) ?_
                    refine og T129 (mkF m 357 (La_17 y0 y1 y2 y3 y4 y5 lo hi mid v7 v8 v9 v10 (y5 &&& (3 : Int32)) tw b16 b17 b18 b19 b20 b22 (own_bot r7 r7 r8 r9) (own_top r7 r7 r8 r9)) [(.long hi), (.int 2), (.ref b18)]) (fun t_ k_ => XS.lload X129.here hx rfl (hb hby at_355) rfl k_) ?_
                    obtain ⟨cl130, Ar130, q130, S130, Nn130, H130, G130⟩ := id V129
                    have hin130 : ¬ ((2 : Int32) < 0 ∨ cl130.slots.size ≤ ((2 : Int32)).toNatClampNeg) := inb_of S130 ⟨by decide, by decide⟩
                    obtain ⟨T130, h130, X130, e130, W130, st130⟩ := stJ X129 hx hZ e129 Ar130 (j := (2 : Int32)) hin130 (g := (mkF m 357 (La_17 y0 y1 y2 y3 y4 y5 lo hi mid v7 v8 v9 v10 (y5 &&& (3 : Int32)) tw b16 b17 b18 b19 b20 b22 (own_bot r7 r7 r8 r9) (own_top r7 r7 r8 r9)) [(.long hi), (.int 2), (.ref b18)])) rfl rfl (hb hby at_357)
                    have V130 : Arv Z h130 b18 k18 .long (4 : Int32) [(.long lo), (.long mid), (.long hi), (.long 0)] (.long 0) := Arv.set Ar130 q130 S130 Nn130 H130 G130 rfl W130 2 rfl (Nat.le_of_ble_eq_true rfl)
                    have z130 := W130.size
                    have N130 := Fr.snoc X130 N129 (show n0 ≤ b18 by omega)
                    refine og T130 (mkF m 358 (La_17 y0 y1 y2 y3 y4 y5 lo hi mid v7 v8 v9 v10 (y5 &&& (3 : Int32)) tw b16 b17 b18 b19 b20 b22 (own_bot r7 r7 r8 r9) (own_top r7 r7 r8 r9)) []) (fun t_ k_ => st130 _ k_) ?_
                    refine og T130 (mkF m 360 (La_17 y0 y1 y2 y3 y4 y5 lo hi mid v7 v8 v9 v10 (y5 &&& (3 : Int32)) tw b16 b17 b18 b19 b20 b22 (own_bot r7 r7 r8 r9) (own_top r7 r7 r8 r9)) [(.ref b18)]) (fun t_ k_ => XS.aload X130.here hx rfl (hb hby at_358) rfl rfl k_) ?_
                    refine og T130 (mkF m 361 (La_17 y0 y1 y2 y3 y4 y5 lo hi mid v7 v8 v9 v10 (y5 &&& (3 : Int32)) tw b16 b17 b18 b19 b20 b22 (own_bot r7 r7 r8 r9) (own_top r7 r7 r8 r9)) [(.int 3), (.ref b18)]) (fun t_ k_ => XS.iconst X130.here hx rfl (hb hby at_360) k_) ?_
                    refine og T130 (mkF m 363 (La_17 y0 y1 y2 y3 y4 y5 lo hi mid v7 v8 v9 v10 (y5 &&& (3 : Int32)) tw b16 b17 b18 b19 b20 b22 (own_bot r7 r7 r8 r9) (own_top r7 r7 r8 r9)) [(.long hi), (.int 3), (.ref b18)]) (fun t_ k_ => XS.lload X130.here hx rfl (hb hby at_361) rfl k_) ?_
                    obtain ⟨cl131, Ar131, q131, S131, Nn131, H131, G131⟩ := id V130
                    have hin131 : ¬ ((3 : Int32) < 0 ∨ cl131.slots.size ≤ ((3 : Int32)).toNatClampNeg) := inb_of S131 ⟨by decide, by decide⟩
                    obtain ⟨T131, h131, X131, e131, W131, st131⟩ := stJ X130 hx hZ e130 Ar131 (j := (3 : Int32)) hin131 (g := (mkF m 363 (La_17 y0 y1 y2 y3 y4 y5 lo hi mid v7 v8 v9 v10 (y5 &&& (3 : Int32)) tw b16 b17 b18 b19 b20 b22 (own_bot r7 r7 r8 r9) (own_top r7 r7 r8 r9)) [(.long hi), (.int 3), (.ref b18)])) rfl rfl (hb hby at_363)
                    have V131 : Arv Z h131 b18 k18 .long (4 : Int32) [(.long lo), (.long mid), (.long hi), (.long hi)] (.long 0) := Arv.set Ar131 q131 S131 Nn131 H131 G131 rfl W131 3 rfl (Nat.le_of_ble_eq_true rfl)
                    have z131 := W131.size
                    have N131 := Fr.snoc X131 N130 (show n0 ≤ b18 by omega)
                    refine og T131 (mkF m 364 (La_17 y0 y1 y2 y3 y4 y5 lo hi mid v7 v8 v9 v10 (y5 &&& (3 : Int32)) tw b16 b17 b18 b19 b20 b22 (own_bot r7 r7 r8 r9) (own_top r7 r7 r8 r9)) []) (fun t_ k_ => st131 _ k_) ?_
                    refine og T131 (mkF m 366 (La_17 y0 y1 y2 y3 y4 y5 lo hi mid v7 v8 v9 v10 (y5 &&& (3 : Int32)) tw b16 b17 b18 b19 b20 b22 (own_bot r7 r7 r8 r9) (own_top r7 r7 r8 r9)) [(.ref b19)]) (fun t_ k_ => XS.aload X131.here hx rfl (hb hby at_364) rfl rfl k_) ?_
                    refine og T131 (mkF m 367 (La_17 y0 y1 y2 y3 y4 y5 lo hi mid v7 v8 v9 v10 (y5 &&& (3 : Int32)) tw b16 b17 b18 b19 b20 b22 (own_bot r7 r7 r8 r9) (own_top r7 r7 r8 r9)) [(.int 0), (.ref b19)]) (fun t_ k_ => XS.iconst X131.here hx rfl (hb hby at_366) k_) ?_
                    refine og T131 (mkF m 369 (La_17 y0 y1 y2 y3 y4 y5 lo hi mid v7 v8 v9 v10 (y5 &&& (3 : Int32)) tw b16 b17 b18 b19 b20 b22 (own_bot r7 r7 r8 r9) (own_top r7 r7 r8 r9)) [(.double v7), (.int 0), (.ref b19)]) (fun t_ k_ => XS.dload X131.here hx rfl (hb hby at_367) rfl k_) ?_
                    have nq133 : b19 ≠ b16 := own_ne (by omega)
                    have nq134 : b19 ≠ b17 := own_ne (by omega)
                    have nq135 : b19 ≠ b18 := own_ne (by omega)
                    have ff136 := ((((((((((((((V19.ext E20).ext E22).other W24 nq133).other W26 nq133).other W27 nq133).other W28 nq133).other W29 nq134).other W32 nq134).other W33 nq134).other W34 nq134).other W125 nq135).other W129 nq135).other W130 nq135).other W131 nq135)
                    obtain ⟨cl132, Ar132, q132, S132, Nn132, H132, G132⟩ := id ff136
                    have hin132 : ¬ ((0 : Int32) < 0 ∨ cl132.slots.size ≤ ((0 : Int32)).toNatClampNeg) := inb_of S132 ⟨by decide, by decide⟩
                    obtain ⟨T132, h132, X132, e132, W132, st132⟩ := stD X131 hx hZ e131 Ar132 (j := (0 : Int32)) hin132 (g := (mkF m 369 (La_17 y0 y1 y2 y3 y4 y5 lo hi mid v7 v8 v9 v10 (y5 &&& (3 : Int32)) tw b16 b17 b18 b19 b20 b22 (own_bot r7 r7 r8 r9) (own_top r7 r7 r8 r9)) [(.double v7), (.int 0), (.ref b19)])) rfl rfl (hb hby at_369)
                    have V132 : Arv Z h132 b19 k19 .double (4 : Int32) [(.double v7), (.double 0), (.double 0), (.double 0)] (.double 0) := Arv.set Ar132 q132 S132 Nn132 H132 G132 rfl W132 0 rfl (Nat.le_of_ble_eq_true rfl)
                    have z132 := W132.size
                    have N132 := Fr.snoc X132 N131 (show n0 ≤ b19 by omega)
                    refine og T132 (mkF m 370 (La_17 y0 y1 y2 y3 y4 y5 lo hi mid v7 v8 v9 v10 (y5 &&& (3 : Int32)) tw b16 b17 b18 b19 b20 b22 (own_bot r7 r7 r8 r9) (own_top r7 r7 r8 r9)) []) (fun t_ k_ => st132 _ k_) ?_
                    refine og T132 (mkF m 372 (La_17 y0 y1 y2 y3 y4 y5 lo hi mid v7 v8 v9 v10 (y5 &&& (3 : Int32)) tw b16 b17 b18 b19 b20 b22 (own_bot r7 r7 r8 r9) (own_top r7 r7 r8 r9)) [(.ref b19)]) (fun t_ k_ => XS.aload X132.here hx rfl (hb hby at_370) rfl rfl k_) ?_
                    refine og T132 (mkF m 373 (La_17 y0 y1 y2 y3 y4 y5 lo hi mid v7 v8 v9 v10 (y5 &&& (3 : Int32)) tw b16 b17 b18 b19 b20 b22 (own_bot r7 r7 r8 r9) (own_top r7 r7 r8 r9)) [(.int 1), (.ref b19)]) (fun t_ k_ => XS.iconst X132.here hx rfl (hb hby at_372) k_) ?_
                    refine og T132 (mkF m 375 (La_17 y0 y1 y2 y3 y4 y5 lo hi mid v7 v8 v9 v10 (y5 &&& (3 : Int32)) tw b16 b17 b18 b19 b20 b22 (own_bot r7 r7 r8 r9) (own_top r7 r7 r8 r9)) [(.double v8), (.int 1), (.ref b19)]) (fun t_ k_ => XS.dload X132.here hx rfl (hb hby at_373) rfl k_) ?_
                    obtain ⟨cl137, Ar137, q137, S137, Nn137, H137, G137⟩ := id V132
                    have hin137 : ¬ ((1 : Int32) < 0 ∨ cl137.slots.size ≤ ((1 : Int32)).toNatClampNeg) := inb_of S137 ⟨by decide, by decide⟩
                    obtain ⟨T137, h137, X137, e137, W137, st137⟩ := stD X132 hx hZ e132 Ar137 (j := (1 : Int32)) hin137 (g := (mkF m 375 (La_17 y0 y1 y2 y3 y4 y5 lo hi mid v7 v8 v9 v10 (y5 &&& (3 : Int32)) tw b16 b17 b18 b19 b20 b22 (own_bot r7 r7 r8 r9) (own_top r7 r7 r8 r9)) [(.double v8), (.int 1), (.ref b19)])) rfl rfl (hb hby at_375)
                    have V137 : Arv Z h137 b19 k19 .double (4 : Int32) [(.double v7), (.double v8), (.double 0), (.double 0)] (.double 0) := Arv.set Ar137 q137 S137 Nn137 H137 G137 rfl W137 1 rfl (Nat.le_of_ble_eq_true rfl)
                    have z137 := W137.size
                    have N137 := Fr.snoc X137 N132 (show n0 ≤ b19 by omega)
                    refine og T137 (mkF m 376 (La_17 y0 y1 y2 y3 y4 y5 lo hi mid v7 v8 v9 v10 (y5 &&& (3 : Int32)) tw b16 b17 b18 b19 b20 b22 (own_bot r7 r7 r8 r9) (own_top r7 r7 r8 r9)) []) (fun t_ k_ => st137 _ k_) ?_
                    refine og T137 (mkF m 378 (La_17 y0 y1 y2 y3 y4 y5 lo hi mid v7 v8 v9 v10 (y5 &&& (3 : Int32)) tw b16 b17 b18 b19 b20 b22 (own_bot r7 r7 r8 r9) (own_top r7 r7 r8 r9)) [(.ref b19)]) (fun t_ k_ => XS.aload X137.here hx rfl (hb hby at_376) rfl rfl k_) ?_
                    refine og T137 (mkF m 379 (La_17 y0 y1 y2 y3 y4 y5 lo hi mid v7 v8 v9 v10 (y5 &&& (3 : Int32)) tw b16 b17 b18 b19 b20 b22 (own_bot r7 r7 r8 r9) (own_top r7 r7 r8 r9)) [(.int 2), (.ref b19)]) (fun t_ k_ => XS.iconst X137.here hx rfl (hb hby at_378) k_) ?_
                    refine og T137 (mkF m 381 (La_17 y0 y1 y2 y3 y4 y5 lo hi mid v7 v8 v9 v10 (y5 &&& (3 : Int32)) tw b16 b17 b18 b19 b20 b22 (own_bot r7 r7 r8 r9) (own_top r7 r7 r8 r9)) [(.double v10), (.int 2), (.ref b19)]) (fun t_ k_ => XS.dload X137.here hx rfl (hb hby at_379) rfl k_) ?_
                    obtain ⟨cl138, Ar138, q138, S138, Nn138, H138, G138⟩ := id V137
                    have hin138 : ¬ ((2 : Int32) < 0 ∨ cl138.slots.size ≤ ((2 : Int32)).toNatClampNeg) := inb_of S138 ⟨by decide, by decide⟩
                    obtain ⟨T138, h138, X138, e138, W138, st138⟩ := stD X137 hx hZ e137 Ar138 (j := (2 : Int32)) hin138 (g := (mkF m 381 (La_17 y0 y1 y2 y3 y4 y5 lo hi mid v7 v8 v9 v10 (y5 &&& (3 : Int32)) tw b16 b17 b18 b19 b20 b22 (own_bot r7 r7 r8 r9) (own_top r7 r7 r8 r9)) [(.double v10), (.int 2), (.ref b19)])) rfl rfl (hb hby at_381)
                    have V138 : Arv Z h138 b19 k19 .double (4 : Int32) [(.double v7), (.double v8), (.double v10), (.double 0)] (.double 0) := Arv.set Ar138 q138 S138 Nn138 H138 G138 rfl W138 2 rfl (Nat.le_of_ble_eq_true rfl)
                    have z138 := W138.size
                    have N138 := Fr.snoc X138 N137 (show n0 ≤ b19 by omega)
                    refine og T138 (mkF m 382 (La_17 y0 y1 y2 y3 y4 y5 lo hi mid v7 v8 v9 v10 (y5 &&& (3 : Int32)) tw b16 b17 b18 b19 b20 b22 (own_bot r7 r7 r8 r9) (own_top r7 r7 r8 r9)) []) (fun t_ k_ => st138 _ k_) ?_
                    refine og T138 (mkF m 384 (La_17 y0 y1 y2 y3 y4 y5 lo hi mid v7 v8 v9 v10 (y5 &&& (3 : Int32)) tw b16 b17 b18 b19 b20 b22 (own_bot r7 r7 r8 r9) (own_top r7 r7 r8 r9)) [(.ref b19)]) (fun t_ k_ => XS.aload X138.here hx rfl (hb hby at_382) rfl rfl k_) ?_
                    refine og T138 (mkF m 385 (La_17 y0 y1 y2 y3 y4 y5 lo hi mid v7 v8 v9 v10 (y5 &&& (3 : Int32)) tw b16 b17 b18 b19 b20 b22 (own_bot r7 r7 r8 r9) (own_top r7 r7 r8 r9)) [(.int 3), (.ref b19)]) (fun t_ k_ => XS.iconst X138.here hx rfl (hb hby at_384) k_) ?_
                    refine og T138 (mkF m 387 (La_17 y0 y1 y2 y3 y4 y5 lo hi mid v7 v8 v9 v10 (y5 &&& (3 : Int32)) tw b16 b17 b18 b19 b20 b22 (own_bot r7 r7 r8 r9) (own_top r7 r7 r8 r9)) [(.double v10), (.int 3), (.ref b19)]) (fun t_ k_ => XS.dload X138.here hx rfl (hb hby at_385) rfl k_) ?_
                    obtain ⟨cl139, Ar139, q139, S139, Nn139, H139, G139⟩ := id V138
                    have hin139 : ¬ ((3 : Int32) < 0 ∨ cl139.slots.size ≤ ((3 : Int32)).toNatClampNeg) := inb_of S139 ⟨by decide, by decide⟩
                    obtain ⟨T139, h139, X139, e139, W139, st139⟩ := stD X138 hx hZ e138 Ar139 (j := (3 : Int32)) hin139 (g := (mkF m 387 (La_17 y0 y1 y2 y3 y4 y5 lo hi mid v7 v8 v9 v10 (y5 &&& (3 : Int32)) tw b16 b17 b18 b19 b20 b22 (own_bot r7 r7 r8 r9) (own_top r7 r7 r8 r9)) [(.double v10), (.int 3), (.ref b19)])) rfl rfl (hb hby at_387)
                    have V139 : Arv Z h139 b19 k19 .double (4 : Int32) [(.double v7), (.double v8), (.double v10), (.double v10)] (.double 0) := Arv.set Ar139 q139 S139 Nn139 H139 G139 rfl W139 3 rfl (Nat.le_of_ble_eq_true rfl)
                    have z139 := W139.size
                    have N139 := Fr.snoc X139 N138 (show n0 ≤ b19 by omega)
                    refine og T139 (mkF m 388 (La_17 y0 y1 y2 y3 y4 y5 lo hi mid v7 v8 v9 v10 (y5 &&& (3 : Int32)) tw b16 b17 b18 b19 b20 b22 (own_bot r7 r7 r8 r9) (own_top r7 r7 r8 r9)) []) (fun t_ k_ => st139 _ k_) ?_
                    refine og T139 (mkF m 498 (La_17 y0 y1 y2 y3 y4 y5 lo hi mid v7 v8 v9 v10 (y5 &&& (3 : Int32)) tw b16 b17 b18 b19 b20 b22 (own_bot r7 r7 r8 r9) (own_top r7 r7 r8 r9)) []) (fun t_ k_ => XS.goto X139.here hx rfl (pc0 := 388) (pc' := 498) rfl (hb hby at_388) (by decide) (by decide) k_) ?_
                    refine og T139 (mkF m 500 (La_17 y0 y1 y2 y3 y4 y5 lo hi mid v7 v8 v9 v10 (y5 &&& (3 : Int32)) tw b16 b17 b18 b19 b20 b22 (own_bot r7 r7 r8 r9) (own_top r7 r7 r8 r9)) [(.ref b20)]) (fun t_ k_ => XS.aload X139.here hx rfl (hb hby at_498) rfl rfl k_) ?_
                    refine og T139 (mkF m 502 (La_17 y0 y1 y2 y3 y4 y5 lo hi mid v7 v8 v9 v10 (y5 &&& (3 : Int32)) tw b16 b17 b18 b19 b20 b22 (own_bot r7 r7 r8 r9) (own_top r7 r7 r8 r9)) [(.long lo), (.ref b20)]) (fun t_ k_ => XS.lload X139.here hx rfl (hb hby at_500) rfl k_) ?_
                    refine og T139 (mkF m 504 (La_17 y0 y1 y2 y3 y4 y5 lo hi mid v7 v8 v9 v10 (y5 &&& (3 : Int32)) tw b16 b17 b18 b19 b20 b22 (own_bot r7 r7 r8 r9) (own_top r7 r7 r8 r9)) [(.double v7), (.long lo), (.ref b20)]) (fun t_ k_ => XS.dload X139.here hx rfl (hb hby at_502) rfl k_) ?_
                    refine og T139 (mkF m 506 (La_17 y0 y1 y2 y3 y4 y5 lo hi mid v7 v8 v9 v10 (y5 &&& (3 : Int32)) tw b16 b17 b18 b19 b20 b22 (own_bot r7 r7 r8 r9) (own_top r7 r7 r8 r9)) [(.long hi), (.double v7), (.long lo), (.ref b20)]) (fun t_ k_ => XS.lload X139.here hx rfl (hb hby at_504) rfl k_) ?_
                    refine og T139 (mkF m 508 (La_17 y0 y1 y2 y3 y4 y5 lo hi mid v7 v8 v9 v10 (y5 &&& (3 : Int32)) tw b16 b17 b18 b19 b20 b22 (own_bot r7 r7 r8 r9) (own_top r7 r7 r8 r9)) [(.double v9), (.long hi), (.double v7), (.long lo), (.ref b20)]) (fun t_ k_ => XS.dload X139.here hx rfl (hb hby at_506) rfl k_) ?_
                    refine og T139 (mkF m 510 (La_17 y0 y1 y2 y3 y4 y5 lo hi mid v7 v8 v9 v10 (y5 &&& (3 : Int32)) tw b16 b17 b18 b19 b20 b22 (own_bot r7 r7 r8 r9) (own_top r7 r7 r8 r9)) [(.ref b16), (.double v9), (.long hi), (.double v7), (.long lo), (.ref b20)]) (fun t_ k_ => XS.aload X139.here hx rfl (hb hby at_508) rfl rfl k_) ?_
                    refine og T139 (mkF m 512 (La_17 y0 y1 y2 y3 y4 y5 lo hi mid v7 v8 v9 v10 (y5 &&& (3 : Int32)) tw b16 b17 b18 b19 b20 b22 (own_bot r7 r7 r8 r9) (own_top r7 r7 r8 r9)) [(.int (own_bot r7 r7 r8 r9)), (.ref b16), (.double v9), (.long hi), (.double v7), (.long lo), (.ref b20)]) (fun t_ k_ => XS.iload X139.here hx rfl (hb hby at_510) rfl k_) ?_
                    have ff141 := ((((((((ff38.other W125 (Ne.symm nq126)).other W129 (Ne.symm nq126)).other W130 (Ne.symm nq126)).other W131 (Ne.symm nq126)).other W132 (Ne.symm nq133)).other W137 (Ne.symm nq133)).other W138 (Ne.symm nq133)).other W139 (Ne.symm nq133))
                    obtain ⟨cl140, Ar140, -, S140, Nn140, H140, -⟩ := id ff141
                    have hin140 : ¬ ((own_bot r7 r7 r8 r9) < 0 ∨ cl140.slots.size ≤ ((own_bot r7 r7 r8 r9)).toNatClampNeg) := inb_of S140 (own_in4 Ib)
                    refine og T139 (mkF m 513 (La_17 y0 y1 y2 y3 y4 y5 lo hi mid v7 v8 v9 v10 (y5 &&& (3 : Int32)) tw b16 b17 b18 b19 b20 b22 (own_bot r7 r7 r8 r9) (own_top r7 r7 r8 r9)) [(.long (own_g4 (own_bot r7 r7 r8 r9) lo lo mid hi)), (.double v9), (.long hi), (.double v7), (.long lo), (.ref b20)]) (fun t_ k_ => X139.laload hx (j := (own_bot r7 r7 r8 r9)) (v := (.long (own_g4 (own_bot r7 r7 r8 r9) lo lo mid hi))) (by rw [e139]; exact Ar140.1) (State.isArrayOf_alike hZ.alike Ar140.2.1) Ar140.2.2 hin140 (H140.at hin140 (own_atJ Ib _ _ _ _)) (g := (mkF m 512 (La_17 y0 y1 y2 y3 y4 y5 lo hi mid v7 v8 v9 v10 (y5 &&& (3 : Int32)) tw b16 b17 b18 b19 b20 b22 (own_bot r7 r7 r8 r9) (own_top r7 r7 r8 r9)) [(.int (own_bot r7 r7 r8 r9)), (.ref b16), (.double v9), (.long hi), (.double v7), (.long lo), (.ref b20)])) rfl rfl (hb hby at_512) _ k_) ?_
                    refine og T139 (mkF m 515 (La_17 y0 y1 y2 y3 y4 y5 lo hi mid v7 v8 v9 v10 (y5 &&& (3 : Int32)) tw b16 b17 b18 b19 b20 b22 (own_bot r7 r7 r8 r9) (own_top r7 r7 r8 r9)) [(.ref b17), (.long (own_g4 (own_bot r7 r7 r8 r9) lo lo mid hi)), (.double v9), (.long hi), (.double v7), (.long lo), (.ref b20)]) (fun t_ k_ => XS.aload X139.here hx rfl (hb hby at_513) rfl rfl k_) ?_
                    refine og T139 (mkF m 517 (La_17 y0 y1 y2 y3 y4 y5 lo hi mid v7 v8 v9 v10 (y5 &&& (3 : Int32)) tw b16 b17 b18 b19 b20 b22 (own_bot r7 r7 r8 r9) (own_top r7 r7 r8 r9)) [(.int (own_bot r7 r7 r8 r9)), (.ref b17), (.long (own_g4 (own_bot r7 r7 r8 r9) lo lo mid hi)), (.double v9), (.long hi), (.double v7), (.long lo), (.ref b20)]) (fun t_ k_ => XS.iload X139.here hx rfl (hb hby at_515) rfl k_) ?_
                    have ff143 := ((((((((V34.other W125 (Ne.symm nq127)).other W129 (Ne.symm nq127)).other W130 (Ne.symm nq127)).other W131 (Ne.symm nq127)).other W132 (Ne.symm nq134)).other W137 (Ne.symm nq134)).other W138 (Ne.symm nq134)).other W139 (Ne.symm nq134))
                    obtain ⟨cl142, Ar142, -, S142, Nn142, H142, -⟩ := id ff143
                    have hin142 : ¬ ((own_bot r7 r7 r8 r9) < 0 ∨ cl142.slots.size ≤ ((own_bot r7 r7 r8 r9)).toNatClampNeg) := inb_of S142 (own_in4 Ib)
                    refine og T139 (mkF m 518 (La_17 y0 y1 y2 y3 y4 y5 lo hi mid v7 v8 v9 v10 (y5 &&& (3 : Int32)) tw b16 b17 b18 b19 b20 b22 (own_bot r7 r7 r8 r9) (own_top r7 r7 r8 r9)) [(.double (own_g4 (own_bot r7 r7 r8 r9) v7 v7 v8 v9)), (.long (own_g4 (own_bot r7 r7 r8 r9) lo lo mid hi)), (.double v9), (.long hi), (.double v7), (.long lo), (.ref b20)]) (fun t_ k_ => X139.daload hx (j := (own_bot r7 r7 r8 r9)) (v := (.double (own_g4 (own_bot r7 r7 r8 r9) v7 v7 v8 v9))) (by rw [e139]; exact Ar142.1) (State.isArrayOf_alike hZ.alike Ar142.2.1) Ar142.2.2 hin142 (H142.at hin142 (own_atD Ib _ _ _ _)) (g := (mkF m 517 (La_17 y0 y1 y2 y3 y4 y5 lo hi mid v7 v8 v9 v10 (y5 &&& (3 : Int32)) tw b16 b17 b18 b19 b20 b22 (own_bot r7 r7 r8 r9) (own_top r7 r7 r8 r9)) [(.int (own_bot r7 r7 r8 r9)), (.ref b17), (.long (own_g4 (own_bot r7 r7 r8 r9) lo lo mid hi)), (.double v9), (.long hi), (.double v7), (.long lo), (.ref b20)])) rfl rfl (hb hby at_517) _ k_) ?_
                    refine og T139 (mkF m 520 (La_17 y0 y1 y2 y3 y4 y5 lo hi mid v7 v8 v9 v10 (y5 &&& (3 : Int32)) tw b16 b17 b18 b19 b20 b22 (own_bot r7 r7 r8 r9) (own_top r7 r7 r8 r9)) [(.ref b16), (.double (own_g4 (own_bot r7 r7 r8 r9) v7 v7 v8 v9)), (.long (own_g4 (own_bot r7 r7 r8 r9) lo lo mid hi)), (.double v9), (.long hi), (.double v7), (.long lo), (.ref b20)]) (fun t_ k_ => XS.aload X139.here hx rfl (hb hby at_518) rfl rfl k_) ?_
                    refine og T139 (mkF m 522 (La_17 y0 y1 y2 y3 y4 y5 lo hi mid v7 v8 v9 v10 (y5 &&& (3 : Int32)) tw b16 b17 b18 b19 b20 b22 (own_bot r7 r7 r8 r9) (own_top r7 r7 r8 r9)) [(.int (own_top r7 r7 r8 r9)), (.ref b16), (.double (own_g4 (own_bot r7 r7 r8 r9) v7 v7 v8 v9)), (.long (own_g4 (own_bot r7 r7 r8 r9) lo lo mid hi)), (.double v9), (.long hi), (.double v7), (.long lo), (.ref b20)]) (fun t_ k_ => XS.iload X139.here hx rfl (hb hby at_520) rfl k_) ?_
                    obtain ⟨cl144, Ar144, -, S144, Nn144, H144, -⟩ := id ff141
                    have hin144 : ¬ ((own_top r7 r7 r8 r9) < 0 ∨ cl144.slots.size ≤ ((own_top r7 r7 r8 r9)).toNatClampNeg) := inb_of S144 (own_in4 It)
                    refine og T139 (mkF m 523 (La_17 y0 y1 y2 y3 y4 y5 lo hi mid v7 v8 v9 v10 (y5 &&& (3 : Int32)) tw b16 b17 b18 b19 b20 b22 (own_bot r7 r7 r8 r9) (own_top r7 r7 r8 r9)) [(.long (own_g4 (own_top r7 r7 r8 r9) lo lo mid hi)), (.double (own_g4 (own_bot r7 r7 r8 r9) v7 v7 v8 v9)), (.long (own_g4 (own_bot r7 r7 r8 r9) lo lo mid hi)), (.double v9), (.long hi), (.double v7), (.long lo), (.ref b20)]) (fun t_ k_ => X139.laload hx (j := (own_top r7 r7 r8 r9)) (v := (.long (own_g4 (own_top r7 r7 r8 r9) lo lo mid hi))) (by rw [e139]; exact Ar144.1) (State.isArrayOf_alike hZ.alike Ar144.2.1) Ar144.2.2 hin144 (H144.at hin144 (own_atJ It _ _ _ _)) (g := (mkF m 522 (La_17 y0 y1 y2 y3 y4 y5 lo hi mid v7 v8 v9 v10 (y5 &&& (3 : Int32)) tw b16 b17 b18 b19 b20 b22 (own_bot r7 r7 r8 r9) (own_top r7 r7 r8 r9)) [(.int (own_top r7 r7 r8 r9)), (.ref b16), (.double (own_g4 (own_bot r7 r7 r8 r9) v7 v7 v8 v9)), (.long (own_g4 (own_bot r7 r7 r8 r9) lo lo mid hi)), (.double v9), (.long hi), (.double v7), (.long lo), (.ref b20)])) rfl rfl (hb hby at_522) _ k_) ?_
                    refine og T139 (mkF m 525 (La_17 y0 y1 y2 y3 y4 y5 lo hi mid v7 v8 v9 v10 (y5 &&& (3 : Int32)) tw b16 b17 b18 b19 b20 b22 (own_bot r7 r7 r8 r9) (own_top r7 r7 r8 r9)) [(.ref b17), (.long (own_g4 (own_top r7 r7 r8 r9) lo lo mid hi)), (.double (own_g4 (own_bot r7 r7 r8 r9) v7 v7 v8 v9)), (.long (own_g4 (own_bot r7 r7 r8 r9) lo lo mid hi)), (.double v9), (.long hi), (.double v7), (.long lo), (.ref b20)]) (fun t_ k_ => XS.aload X139.here hx rfl (hb hby at_523) rfl rfl k_) ?_
                    refine og T139 (mkF m 527 (La_17 y0 y1 y2 y3 y4 y5 lo hi mid v7 v8 v9 v10 (y5 &&& (3 : Int32)) tw b16 b17 b18 b19 b20 b22 (own_bot r7 r7 r8 r9) (own_top r7 r7 r8 r9)) [(.int (own_top r7 r7 r8 r9)), (.ref b17), (.long (own_g4 (own_top r7 r7 r8 r9) lo lo mid hi)), (.double (own_g4 (own_bot r7 r7 r8 r9) v7 v7 v8 v9)), (.long (own_g4 (own_bot r7 r7 r8 r9) lo lo mid hi)), (.double v9), (.long hi), (.double v7), (.long lo), (.ref b20)]) (fun t_ k_ => XS.iload X139.here hx rfl (hb hby at_525) rfl k_) ?_
                    obtain ⟨cl145, Ar145, -, S145, Nn145, H145, -⟩ := id ff143
                    have hin145 : ¬ ((own_top r7 r7 r8 r9) < 0 ∨ cl145.slots.size ≤ ((own_top r7 r7 r8 r9)).toNatClampNeg) := inb_of S145 (own_in4 It)
                    refine og T139 (mkF m 528 (La_17 y0 y1 y2 y3 y4 y5 lo hi mid v7 v8 v9 v10 (y5 &&& (3 : Int32)) tw b16 b17 b18 b19 b20 b22 (own_bot r7 r7 r8 r9) (own_top r7 r7 r8 r9)) [(.double (own_g4 (own_top r7 r7 r8 r9) v7 v7 v8 v9)), (.long (own_g4 (own_top r7 r7 r8 r9) lo lo mid hi)), (.double (own_g4 (own_bot r7 r7 r8 r9) v7 v7 v8 v9)), (.long (own_g4 (own_bot r7 r7 r8 r9) lo lo mid hi)), (.double v9), (.long hi), (.double v7), (.long lo), (.ref b20)]) (fun t_ k_ => X139.daload hx (j := (own_top r7 r7 r8 r9)) (v := (.double (own_g4 (own_top r7 r7 r8 r9) v7 v7 v8 v9))) (by rw [e139]; exact Ar145.1) (State.isArrayOf_alike hZ.alike Ar145.2.1) Ar145.2.2 hin145 (H145.at hin145 (own_atD It _ _ _ _)) (g := (mkF m 527 (La_17 y0 y1 y2 y3 y4 y5 lo hi mid v7 v8 v9 v10 (y5 &&& (3 : Int32)) tw b16 b17 b18 b19 b20 b22 (own_bot r7 r7 r8 r9) (own_top r7 r7 r8 r9)) [(.int (own_top r7 r7 r8 r9)), (.ref b17), (.long (own_g4 (own_top r7 r7 r8 r9) lo lo mid hi)), (.double (own_g4 (own_bot r7 r7 r8 r9) v7 v7 v8 v9)), (.long (own_g4 (own_bot r7 r7 r8 r9) lo lo mid hi)), (.double v9), (.long hi), (.double v7), (.long lo), (.ref b20)])) rfl rfl (hb hby at_527) _ k_) ?_
                    have ff147 := (((((((((((((((((A20.ext E22).wr W24).wr W26).wr W27).wr W28).wr W29).wr W32).wr W33).wr W34).wr W125).wr W129).wr W130).wr W131).wr W132).wr W137).wr W138).wr W139)
                    have nq148 : b20 ≠ b16 := own_ne (by omega)
                    have nq149 : b20 ≠ b17 := own_ne (by omega)
                    have nq150 : b20 ≠ b18 := own_ne (by omega)
                    have nq151 : b20 ≠ b19 := own_ne (by omega)
                    have ff152 := (((((((((((((((((F20_m_nFirstTimestamp.ext E22).other W24 (Or.inl nq148)).other W26 (Or.inl nq148)).other W27 (Or.inl nq148)).other W28 (Or.inl nq148)).other W29 (Or.inl nq149)).other W32 (Or.inl nq149)).other W33 (Or.inl nq149)).other W34 (Or.inl nq149)).other W125 (Or.inl nq150)).other W129 (Or.inl nq150)).other W130 (Or.inl nq150)).other W131 (Or.inl nq150)).other W132 (Or.inl nq151)).other W137 (Or.inl nq151)).other W138 (Or.inl nq151)).other W139 (Or.inl nq151))
                    have ff153 := (((((((((((((((((F20_m_dFirstValue.ext E22).other W24 (Or.inl nq148)).other W26 (Or.inl nq148)).other W27 (Or.inl nq148)).other W28 (Or.inl nq148)).other W29 (Or.inl nq149)).other W32 (Or.inl nq149)).other W33 (Or.inl nq149)).other W34 (Or.inl nq149)).other W125 (Or.inl nq150)).other W129 (Or.inl nq150)).other W130 (Or.inl nq150)).other W131 (Or.inl nq150)).other W132 (Or.inl nq151)).other W137 (Or.inl nq151)).other W138 (Or.inl nq151)).other W139 (Or.inl nq151))
                    have ff154 := (((((((((((((((((F20_m_nLastTimestamp.ext E22).other W24 (Or.inl nq148)).other W26 (Or.inl nq148)).other W27 (Or.inl nq148)).other W28 (Or.inl nq148)).other W29 (Or.inl nq149)).other W32 (Or.inl nq149)).other W33 (Or.inl nq149)).other W34 (Or.inl nq149)).other W125 (Or.inl nq150)).other W129 (Or.inl nq150)).other W130 (Or.inl nq150)).other W131 (Or.inl nq150)).other W132 (Or.inl nq151)).other W137 (Or.inl nq151)).other W138 (Or.inl nq151)).other W139 (Or.inl nq151))
                    have ff155 := (((((((((((((((((F20_m_dLastValue.ext E22).other W24 (Or.inl nq148)).other W26 (Or.inl nq148)).other W27 (Or.inl nq148)).other W28 (Or.inl nq148)).other W29 (Or.inl nq149)).other W32 (Or.inl nq149)).other W33 (Or.inl nq149)).other W34 (Or.inl nq149)).other W125 (Or.inl nq150)).other W129 (Or.inl nq150)).other W130 (Or.inl nq150)).other W131 (Or.inl nq150)).other W132 (Or.inl nq151)).other W137 (Or.inl nq151)).other W138 (Or.inl nq151)).other W139 (Or.inl nq151))
                    have ff156 := (((((((((((((((((F20_m_nBottomTimestamp.ext E22).other W24 (Or.inl nq148)).other W26 (Or.inl nq148)).other W27 (Or.inl nq148)).other W28 (Or.inl nq148)).other W29 (Or.inl nq149)).other W32 (Or.inl nq149)).other W33 (Or.inl nq149)).other W34 (Or.inl nq149)).other W125 (Or.inl nq150)).other W129 (Or.inl nq150)).other W130 (Or.inl nq150)).other W131 (Or.inl nq150)).other W132 (Or.inl nq151)).other W137 (Or.inl nq151)).other W138 (Or.inl nq151)).other W139 (Or.inl nq151))
                    have ff157 := (((((((((((((((((F20_m_dBottomValue.ext E22).other W24 (Or.inl nq148)).other W26 (Or.inl nq148)).other W27 (Or.inl nq148)).other W28 (Or.inl nq148)).other W29 (Or.inl nq149)).other W32 (Or.inl nq149)).other W33 (Or.inl nq149)).other W34 (Or.inl nq149)).other W125 (Or.inl nq150)).other W129 (Or.inl nq150)).other W130 (Or.inl nq150)).other W131 (Or.inl nq150)).other W132 (Or.inl nq151)).other W137 (Or.inl nq151)).other W138 (Or.inl nq151)).other W139 (Or.inl nq151))
                    have ff158 := (((((((((((((((((F20_m_nTopTimestamp.ext E22).other W24 (Or.inl nq148)).other W26 (Or.inl nq148)).other W27 (Or.inl nq148)).other W28 (Or.inl nq148)).other W29 (Or.inl nq149)).other W32 (Or.inl nq149)).other W33 (Or.inl nq149)).other W34 (Or.inl nq149)).other W125 (Or.inl nq150)).other W129 (Or.inl nq150)).other W130 (Or.inl nq150)).other W131 (Or.inl nq150)).other W132 (Or.inl nq151)).other W137 (Or.inl nq151)).other W138 (Or.inl nq151)).other W139 (Or.inl nq151))
                    have ff159 := (((((((((((((((((F20_m_dTopValue.ext E22).other W24 (Or.inl nq148)).other W26 (Or.inl nq148)).other W27 (Or.inl nq148)).other W28 (Or.inl nq148)).other W29 (Or.inl nq149)).other W32 (Or.inl nq149)).other W33 (Or.inl nq149)).other W34 (Or.inl nq149)).other W125 (Or.inl nq150)).other W129 (Or.inl nq150)).other W130 (Or.inl nq150)).other W131 (Or.inl nq150)).other W132 (Or.inl nq151)).other W137 (Or.inl nq151)).other W138 (Or.inl nq151)).other W139 (Or.inl nq151))
                    obtain ⟨cq146, kq146, q146a, q146b, q146c⟩ := isOf hZ e139 ff147
                    obtain ⟨_, _, ⟨T146, L146, k146, n146⟩, -, X146, ⟨Lc146, hQ146, l146, y146, z146⟩, st146⟩ := X139.virtualBack hx (y := ym_6) (z := ym_6) hown (mvT hZ (own_w hw 28 rfl)) (mvT hZ (own_w hw 29 rfl)) (notFace_of_selects (args := #[]) (mvT hZ (own_w hw 31 rfl))) (mvT hZ (own_w hw 31 rfl)) (mvT hZ (own_w hw 30 rfl)) (by decide) (backOf (W := 0) (rm_set l Z a0 hw [] b20 lo v7 hi v9 (own_g4 (own_bot r7 r7 r8 r9) lo lo mid hi) (own_g4 (own_bot r7 r7 r8 r9) v7 v7 v8 v9) (own_g4 (own_top r7 r7 r8 r9) lo lo mid hi) (own_g4 (own_top r7 r7 r8 r9) v7 v7 v8 v9) (0 : Int64) 0 (0 : Int64) 0 (0 : Int64) 0 (0 : Int64) 0 h139 n0 (show n0 ≤ h139.size by omega) ff147 ff152 ff153 ff154 ff155 ff156 ff157 ff158 ff159 (show n0 ≤ b20 by omega)) hZ (own_w hw 32 rfl) (own_w hw 15 rfl) (by decide) (by decide)) q146a q146c (g := (mkF m 528 (La_17 y0 y1 y2 y3 y4 y5 lo hi mid v7 v8 v9 v10 (y5 &&& (3 : Int32)) tw b16 b17 b18 b19 b20 b22 (own_bot r7 r7 r8 r9) (own_top r7 r7 r8 r9)) [(.double (own_g4 (own_top r7 r7 r8 r9) v7 v7 v8 v9)), (.long (own_g4 (own_top r7 r7 r8 r9) lo lo mid hi)), (.double (own_g4 (own_bot r7 r7 r8 r9) v7 v7 v8 v9)), (.long (own_g4 (own_bot r7 r7 r8 r9) lo lo mid hi)), (.double v9), (.long hi), (.double v7), (.long lo), (.ref b20)])) rfl (by rw [hml]; rfl) (Steps.refl _) (argsL := [(.long lo), (.double v7), (.long hi), (.double v9), (.long (own_g4 (own_bot r7 r7 r8 r9) lo lo mid hi)), (.double (own_g4 (own_bot r7 r7 r8 r9) v7 v7 v8 v9)), (.long (own_g4 (own_top r7 r7 r8 r9) lo lo mid hi)), (.double (own_g4 (own_top r7 r7 r8 r9) v7 v7 v8 v9))]) (rest := []) (lenOf pd_7 rfl) rfl (by show 2 * 0 + _ ≤ _; exact Nat.le_of_eq rfl) (hb hby at_528) (fun _ _ => ⟨rfl, e139, (by decide : 6 + 0 ≤ _), (by decide : 32 + 0 ≤ _)⟩)
                    dsimp only [Pt.U, Pt.locs, Pt.cells, Pt.slots] at X146 l146 y146 z146 st146 hQ146
                    replace l146 := l146.symm; replace y146 := y146.symm; replace z146 := z146.symm; subst l146 y146 z146
                    obtain ⟨rfl, M146, K146_, f146_0, f146_1, f146_2, f146_3, f146_4, f146_5, f146_6, f146_7⟩ := hQ146
                    have zz146 := K146_.1
                    have N146 := Fr.app N139 M146
                    refine og T146 (mkF m 531 (La_17 y0 y1 y2 y3 y4 y5 lo hi mid v7 v8 v9 v10 (y5 &&& (3 : Int32)) tw b16 b17 b18 b19 b20 b22 (own_bot r7 r7 r8 r9) (own_top r7 r7 r8 r9)) []) (fun t_ k_ => st146.trans k_) ?_
                    refine og T146 (mkF m 533 (La_17 y0 y1 y2 y3 y4 y5 lo hi mid v7 v8 v9 v10 (y5 &&& (3 : Int32)) tw b16 b17 b18 b19 b20 b22 (own_bot r7 r7 r8 r9) (own_top r7 r7 r8 r9)) [(.ref b20)]) (fun t_ k_ => XS.aload X146.here hx rfl (hb hby at_531) rfl rfl k_) ?_
                    refine og T146 (mkF m 535 (La_17 y0 y1 y2 y3 y4 y5 lo hi mid v7 v8 v9 v10 (y5 &&& (3 : Int32)) tw b16 b17 b18 b19 b20 b22 (own_bot r7 r7 r8 r9) (own_top r7 r7 r8 r9)) [(.long tw), (.ref b20)]) (fun t_ k_ => XS.lload X146.here hx rfl (hb hby at_533) rfl k_) ?_
                    refine og T146 (mkF m 537 (La_17 y0 y1 y2 y3 y4 y5 lo hi mid v7 v8 v9 v10 (y5 &&& (3 : Int32)) tw b16 b17 b18 b19 b20 b22 (own_bot r7 r7 r8 r9) (own_top r7 r7 r8 r9)) [(.double v10), (.long tw), (.ref b20)]) (fun t_ k_ => XS.dload X146.here hx rfl (hb hby at_535) rfl k_) ?_
                    have ff161 := (ff147.keep K146_)
                    obtain ⟨cq160, kq160, q160a, q160b, q160c⟩ := isOf hZ rfl ff161
                    obtain ⟨_, _, ⟨T160, L160, k160, n160⟩, -, X160, ⟨Lc160, hQ160, l160, y160, z160⟩, st160⟩ := X146.virtualBack hx (y := ym_7) (z := ym_7) hown (mvT hZ (own_w hw 49 rfl)) (mvT hZ (own_w hw 50 rfl)) (notFace_of_selects (args := #[]) (mvT hZ (own_w hw 52 rfl))) (mvT hZ (own_w hw 52 rfl)) (mvT hZ (own_w hw 51 rfl)) (by decide) (backOf (W := 0) (rm_weigh l Z a0 hw [] b20 tw v10 lo v7 hi v9 (own_g4 (own_bot r7 r7 r8 r9) lo lo mid hi) (own_g4 (own_bot r7 r7 r8 r9) v7 v7 v8 v9) (own_g4 (own_top r7 r7 r8 r9) lo lo mid hi) (own_g4 (own_top r7 r7 r8 r9) v7 v7 v8 v9) r10 (own_g4 (own_bot r7 r7 r8 r9) r7 r7 r8 r9) (own_g4 (own_top r7 r7 r8 r9) r7 r7 r8 r9) T146.heap n0 (show n0 ≤ T146.heap.size by omega) ff161 f146_0 f146_1 f146_2 f146_3 f146_4 f146_5 f146_6 f146_7 f10_0 (own_gD Ib f7_0 f7_0 f8_0 f9_0) (own_gD It f7_0 f7_0 f8_0 f9_0) (show n0 ≤ b20 by omega) nlohi) hZ (own_w hw 53 rfl) (own_w hw 15 rfl) (by decide) (by decide)) q160a q160c (g := (mkF m 537 (La_17 y0 y1 y2 y3 y4 y5 lo hi mid v7 v8 v9 v10 (y5 &&& (3 : Int32)) tw b16 b17 b18 b19 b20 b22 (own_bot r7 r7 r8 r9) (own_top r7 r7 r8 r9)) [(.double v10), (.long tw), (.ref b20)])) rfl (by rw [hml]; rfl) (Steps.refl _) (argsL := [(.long tw), (.double v10)]) (rest := []) (lenOf pd_8 rfl) rfl (by show 2 * 0 + _ ≤ _; exact Nat.le_of_eq rfl) (hb hby at_537) (fun _ _ => ⟨rfl, rfl, (by decide : 6 + 0 ≤ _), (by decide : 32 + 0 ≤ _)⟩)
                    dsimp only [Pt.U, Pt.locs, Pt.cells, Pt.slots] at X160 l160 y160 z160 st160 hQ160
                    replace l160 := l160.symm; replace y160 := y160.symm; replace z160 := z160.symm; subst l160 y160 z160
                    obtain ⟨rfl, M160, K160_, f160_0, f160_1, f160_2, f160_3, f160_4, f160_5, f160_6, f160_7⟩ := hQ160
                    have zz160 := K160_.1
                    have N160 := Fr.app N146 M160
                    refine og T160 (mkF m 540 (La_17 y0 y1 y2 y3 y4 y5 lo hi mid v7 v8 v9 v10 (y5 &&& (3 : Int32)) tw b16 b17 b18 b19 b20 b22 (own_bot r7 r7 r8 r9) (own_top r7 r7 r8 r9)) []) (fun t_ k_ => st160.trans k_) ?_
                    refine og T160 (mkF m 542 (La_17 y0 y1 y2 y3 y4 y5 lo hi mid v7 v8 v9 v10 (y5 &&& (3 : Int32)) tw b16 b17 b18 b19 b20 b22 (own_bot r7 r7 r8 r9) (own_top r7 r7 r8 r9)) [(.ref b19)]) (fun t_ k_ => XS.aload X160.here hx rfl (hb hby at_540) rfl rfl k_) ?_
                    have ff163 := ((V139.keep K146_ (ninS (Ne.symm nq151) nin0)).keep K160_ (ninS (Ne.symm nq151) nin0))
                    obtain ⟨_, _, ⟨T162, L162, k162, n162⟩, -, X162, ⟨Lc162, hQ162, l162, y162, z162⟩, st162⟩ := Jvm.LawKit.callS X160 hx (y := ym_4) hown (mvT hZ (own_w hw 22 rfl)) (mvT hZ (own_w hw 23 rfl)) (mvT hZ (own_w hw 9 rfl)) (mvT hZ (own_w hw 24 rfl)) (by decide) (backOf (W := 0) (rm_bottomAt l Z a0 hw [] b19 v7 v8 v10 v10 r7 r8 r10 r10 k19 T160.heap n0 (show n0 ≤ T160.heap.size by omega) f7_0 f8_0 f10_0 f10_0 ff163) hZ (own_w hw 24 rfl) (own_w hw 9 rfl) (by decide) (by decide)) (g := (mkF m 542 (La_17 y0 y1 y2 y3 y4 y5 lo hi mid v7 v8 v9 v10 (y5 &&& (3 : Int32)) tw b16 b17 b18 b19 b20 b22 (own_bot r7 r7 r8 r9) (own_top r7 r7 r8 r9)) [(.ref b19)])) rfl (by rw [hml]; rfl) (argsL := [(.ref b19)]) (rest := []) (lenOf pd_6 rfl) rfl (by show 2 * 0 + _ ≤ _; exact Nat.le_of_eq rfl) (hb hby at_542) (fun _ _ => ⟨rfl, rfl, (by decide : 6 + 0 ≤ _), (by decide : 32 + 0 ≤ _)⟩)
                    dsimp only [Pt.U, Pt.locs, Pt.cells, Pt.slots] at X162 l162 y162 z162 st162 hQ162
                    replace l162 := l162.symm; replace y162 := y162.symm; replace z162 := z162.symm; subst l162 y162 z162
                    obtain ⟨rfl, M162, e162⟩ := hQ162
                    have N162 := Fr.app N160 M162
                    refine og T162 (mkF m 545 (La_17 y0 y1 y2 y3 y4 y5 lo hi mid v7 v8 v9 v10 (y5 &&& (3 : Int32)) tw b16 b17 b18 b19 b20 b22 (own_bot r7 r7 r8 r9) (own_top r7 r7 r8 r9)) [(.int (own_bot r7 r8 r10 r10))]) (fun t_ k_ => st162 _ k_) ?_
                    refine og T162 (mkF m 547 (La_18 y0 y1 y2 y3 y4 y5 lo hi mid v7 v8 v9 v10 (y5 &&& (3 : Int32)) tw b16 b17 b18 b19 b20 b22 (own_bot r7 r7 r8 r9) (own_top r7 r7 r8 r9) (own_bot r7 r8 r10 r10)) []) (fun t_ k_ => XS.istore X162.here hx rfl (hb hby at_545) rfl (l' := (La_18 y0 y1 y2 y3 y4 y5 lo hi mid v7 v8 v9 v10 (y5 &&& (3 : Int32)) tw b16 b17 b18 b19 b20 b22 (own_bot r7 r7 r8 r9) (own_top r7 r7 r8 r9) (own_bot r7 r8 r10 r10))) rfl k_) ?_
                    refine og T162 (mkF m 549 (La_18 y0 y1 y2 y3 y4 y5 lo hi mid v7 v8 v9 v10 (y5 &&& (3 : Int32)) tw b16 b17 b18 b19 b20 b22 (own_bot r7 r7 r8 r9) (own_top r7 r7 r8 r9) (own_bot r7 r8 r10 r10)) [(.ref b19)]) (fun t_ k_ => XS.aload X162.here hx rfl (hb hby at_547) rfl rfl k_) ?_
                    obtain ⟨_, _, ⟨T164, L164, k164, n164⟩, -, X164, ⟨Lc164, hQ164, l164, y164, z164⟩, st164⟩ := Jvm.LawKit.callS X162 hx (y := ym_5) hown (mvT hZ (own_w hw 25 rfl)) (mvT hZ (own_w hw 26 rfl)) (mvT hZ (own_w hw 9 rfl)) (mvT hZ (own_w hw 27 rfl)) (by decide) (backOf (W := 0) (rm_topAt l Z a0 hw [] b19 v7 v8 v10 v10 r7 r8 r10 r10 k19 T160.heap n0 (show n0 ≤ T160.heap.size by omega) f7_0 f8_0 f10_0 f10_0 ff163) hZ (own_w hw 27 rfl) (own_w hw 9 rfl) (by decide) (by decide)) (g := (mkF m 549 (La_18 y0 y1 y2 y3 y4 y5 lo hi mid v7 v8 v9 v10 (y5 &&& (3 : Int32)) tw b16 b17 b18 b19 b20 b22 (own_bot r7 r7 r8 r9) (own_top r7 r7 r8 r9) (own_bot r7 r8 r10 r10)) [(.ref b19)])) rfl (by rw [hml]; rfl) (argsL := [(.ref b19)]) (rest := []) (lenOf pd_6 rfl) rfl (by show 2 * 0 + _ ≤ _; exact Nat.le_of_eq rfl) (hb hby at_549) (fun _ _ => ⟨rfl, e162, (by decide : 6 + 0 ≤ _), (by decide : 32 + 0 ≤ _)⟩)
                    dsimp only [Pt.U, Pt.locs, Pt.cells, Pt.slots] at X164 l164 y164 z164 st164 hQ164
                    replace l164 := l164.symm; replace y164 := y164.symm; replace z164 := z164.symm; subst l164 y164 z164
                    obtain ⟨rfl, M164, e164⟩ := hQ164
                    have N164 := Fr.app N162 M164
                    refine og T164 (mkF m 552 (La_18 y0 y1 y2 y3 y4 y5 lo hi mid v7 v8 v9 v10 (y5 &&& (3 : Int32)) tw b16 b17 b18 b19 b20 b22 (own_bot r7 r7 r8 r9) (own_top r7 r7 r8 r9) (own_bot r7 r8 r10 r10)) [(.int (own_top r7 r8 r10 r10))]) (fun t_ k_ => st164 _ k_) ?_
                    have Jb := own_botI r7 r8 r10 r10
                    have Jt := own_topI r7 r8 r10 r10
                    refine og T164 (mkF m 554 (La_19 y0 y1 y2 y3 y4 y5 lo hi mid v7 v8 v9 v10 (y5 &&& (3 : Int32)) tw b16 b17 b18 b19 b20 b22 (own_bot r7 r7 r8 r9) (own_top r7 r7 r8 r9) (own_bot r7 r8 r10 r10) (own_top r7 r8 r10 r10)) []) (fun t_ k_ => XS.istore X164.here hx rfl (hb hby at_552) rfl (l' := (La_19 y0 y1 y2 y3 y4 y5 lo hi mid v7 v8 v9 v10 (y5 &&& (3 : Int32)) tw b16 b17 b18 b19 b20 b22 (own_bot r7 r7 r8 r9) (own_top r7 r7 r8 r9) (own_bot r7 r8 r10 r10) (own_top r7 r8 r10 r10))) rfl k_) ?_
                    refine og T164 (mkF m 556 (La_19 y0 y1 y2 y3 y4 y5 lo hi mid v7 v8 v9 v10 (y5 &&& (3 : Int32)) tw b16 b17 b18 b19 b20 b22 (own_bot r7 r7 r8 r9) (own_top r7 r7 r8 r9) (own_bot r7 r8 r10 r10) (own_top r7 r8 r10 r10)) [(.ref b22)]) (fun t_ k_ => XS.aload X164.here hx rfl (hb hby at_554) rfl rfl k_) ?_
                    refine og T164 (mkF m 558 (La_19 y0 y1 y2 y3 y4 y5 lo hi mid v7 v8 v9 v10 (y5 &&& (3 : Int32)) tw b16 b17 b18 b19 b20 b22 (own_bot r7 r7 r8 r9) (own_top r7 r7 r8 r9) (own_bot r7 r8 r10 r10) (own_top r7 r8 r10 r10)) [(.ref b18), (.ref b22)]) (fun t_ k_ => XS.aload X164.here hx rfl (hb hby at_556) rfl rfl k_) ?_
                    refine og T164 (mkF m 559 (La_19 y0 y1 y2 y3 y4 y5 lo hi mid v7 v8 v9 v10 (y5 &&& (3 : Int32)) tw b16 b17 b18 b19 b20 b22 (own_bot r7 r7 r8 r9) (own_top r7 r7 r8 r9) (own_bot r7 r8 r10 r10) (own_top r7 r8 r10 r10)) [(.int 0), (.ref b18), (.ref b22)]) (fun t_ k_ => XS.iconst X164.here hx rfl (hb hby at_558) k_) ?_
                    have ff166 := ((((((V131.other W132 (Ne.symm nq135)).other W137 (Ne.symm nq135)).other W138 (Ne.symm nq135)).other W139 (Ne.symm nq135)).keep K146_ (ninS (Ne.symm nq150) nin0)).keep K160_ (ninS (Ne.symm nq150) nin0))
                    obtain ⟨cl165, Ar165, -, S165, Nn165, H165, -⟩ := id ff166
                    have hin165 : ¬ ((0 : Int32) < 0 ∨ cl165.slots.size ≤ ((0 : Int32)).toNatClampNeg) := inb_of S165 ⟨by decide, by decide⟩
                    refine og T164 (mkF m 560 (La_19 y0 y1 y2 y3 y4 y5 lo hi mid v7 v8 v9 v10 (y5 &&& (3 : Int32)) tw b16 b17 b18 b19 b20 b22 (own_bot r7 r7 r8 r9) (own_top r7 r7 r8 r9) (own_bot r7 r8 r10 r10) (own_top r7 r8 r10 r10)) [(.long lo), (.ref b22)]) (fun t_ k_ => X164.laload hx (j := (0 : Int32)) (v := (.long lo)) (by rw [e164]; exact Ar165.1) (State.isArrayOf_alike hZ.alike Ar165.2.1) Ar165.2.2 hin165 (H165.at hin165 rfl) (g := (mkF m 559 (La_19 y0 y1 y2 y3 y4 y5 lo hi mid v7 v8 v9 v10 (y5 &&& (3 : Int32)) tw b16 b17 b18 b19 b20 b22 (own_bot r7 r7 r8 r9) (own_top r7 r7 r8 r9) (own_bot r7 r8 r10 r10) (own_top r7 r8 r10 r10)) [(.int 0), (.ref b18), (.ref b22)])) rfl rfl (hb hby at_559) _ k_) ?_
                    refine og T164 (mkF m 562 (La_19 y0 y1 y2 y3 y4 y5 lo hi mid v7 v8 v9 v10 (y5 &&& (3 : Int32)) tw b16 b17 b18 b19 b20 b22 (own_bot r7 r7 r8 r9) (own_top r7 r7 r8 r9) (own_bot r7 r8 r10 r10) (own_top r7 r8 r10 r10)) [(.ref b19), (.long lo), (.ref b22)]) (fun t_ k_ => XS.aload X164.here hx rfl (hb hby at_560) rfl rfl k_) ?_
                    refine og T164 (mkF m 563 (La_19 y0 y1 y2 y3 y4 y5 lo hi mid v7 v8 v9 v10 (y5 &&& (3 : Int32)) tw b16 b17 b18 b19 b20 b22 (own_bot r7 r7 r8 r9) (own_top r7 r7 r8 r9) (own_bot r7 r8 r10 r10) (own_top r7 r8 r10 r10)) [(.int 0), (.ref b19), (.long lo), (.ref b22)]) (fun t_ k_ => XS.iconst X164.here hx rfl (hb hby at_562) k_) ?_
                    obtain ⟨cl167, Ar167, -, S167, Nn167, H167, -⟩ := id ff163
                    have hin167 : ¬ ((0 : Int32) < 0 ∨ cl167.slots.size ≤ ((0 : Int32)).toNatClampNeg) := inb_of S167 ⟨by decide, by decide⟩
                    refine og T164 (mkF m 564 (La_19 y0 y1 y2 y3 y4 y5 lo hi mid v7 v8 v9 v10 (y5 &&& (3 : Int32)) tw b16 b17 b18 b19 b20 b22 (own_bot r7 r7 r8 r9) (own_top r7 r7 r8 r9) (own_bot r7 r8 r10 r10) (own_top r7 r8 r10 r10)) [(.double v7), (.long lo), (.ref b22)]) (fun t_ k_ => X164.daload hx (j := (0 : Int32)) (v := (.double v7)) (by rw [e164]; exact Ar167.1) (State.isArrayOf_alike hZ.alike Ar167.2.1) Ar167.2.2 hin167 (H167.at hin167 rfl) (g := (mkF m 563 (La_19 y0 y1 y2 y3 y4 y5 lo hi mid v7 v8 v9 v10 (y5 &&& (3 : Int32)) tw b16 b17 b18 b19 b20 b22 (own_bot r7 r7 r8 r9) (own_top r7 r7 r8 r9) (own_bot r7 r8 r10 r10) (own_top r7 r8 r10 r10)) [(.int 0), (.ref b19), (.long lo), (.ref b22)])) rfl rfl (hb hby at_563) _ k_) ?_
                    refine og T164 (mkF m 566 (La_19 y0 y1 y2 y3 y4 y5 lo hi mid v7 v8 v9 v10 (y5 &&& (3 : Int32)) tw b16 b17 b18 b19 b20 b22 (own_bot r7 r7 r8 r9) (own_top r7 r7 r8 r9) (own_bot r7 r8 r10 r10) (own_top r7 r8 r10 r10)) [(.ref b18), (.double v7), (.long lo), (.ref b22)]) (fun t_ k_ => XS.aload X164.here hx rfl (hb hby at_564) rfl rfl k_) ?_
                    refine og T164 (mkF m 567 (La_19 y0 y1 y2 y3 y4 y5 lo hi mid v7 v8 v9 v10 (y5 &&& (3 : Int32)) tw b16 b17 b18 b19 b20 b22 (own_bot r7 r7 r8 r9) (own_top r7 r7 r8 r9) (own_bot r7 r8 r10 r10) (own_top r7 r8 r10 r10)) [(.int 3), (.ref b18), (.double v7), (.long lo), (.ref b22)]) (fun t_ k_ => XS.iconst X164.here hx rfl (hb hby at_566) k_) ?_
                    obtain ⟨cl168, Ar168, -, S168, Nn168, H168, -⟩ := id ff166
                    have hin168 : ¬ ((3 : Int32) < 0 ∨ cl168.slots.size ≤ ((3 : Int32)).toNatClampNeg) := inb_of S168 ⟨by decide, by decide⟩
                    refine og T164 (mkF m 568 (La_19 y0 y1 y2 y3 y4 y5 lo hi mid v7 v8 v9 v10 (y5 &&& (3 : Int32)) tw b16 b17 b18 b19 b20 b22 (own_bot r7 r7 r8 r9) (own_top r7 r7 r8 r9) (own_bot r7 r8 r10 r10) (own_top r7 r8 r10 r10)) [(.long hi), (.double v7), (.long lo), (.ref b22)]) (fun t_ k_ => X164.laload hx (j := (3 : Int32)) (v := (.long hi)) (by rw [e164]; exact Ar168.1) (State.isArrayOf_alike hZ.alike Ar168.2.1) Ar168.2.2 hin168 (H168.at hin168 rfl) (g := (mkF m 567 (La_19 y0 y1 y2 y3 y4 y5 lo hi mid v7 v8 v9 v10 (y5 &&& (3 : Int32)) tw b16 b17 b18 b19 b20 b22 (own_bot r7 r7 r8 r9) (own_top r7 r7 r8 r9) (own_bot r7 r8 r10 r10) (own_top r7 r8 r10 r10)) [(.int 3), (.ref b18), (.double v7), (.long lo), (.ref b22)])) rfl rfl (hb hby at_567) _ k_) ?_
                    refine og T164 (mkF m 570 (La_19 y0 y1 y2 y3 y4 y5 lo hi mid v7 v8 v9 v10 (y5 &&& (3 : Int32)) tw b16 b17 b18 b19 b20 b22 (own_bot r7 r7 r8 r9) (own_top r7 r7 r8 r9) (own_bot r7 r8 r10 r10) (own_top r7 r8 r10 r10)) [(.ref b19), (.long hi), (.double v7), (.long lo), (.ref b22)]) (fun t_ k_ => XS.aload X164.here hx rfl (hb hby at_568) rfl rfl k_) ?_
                    refine og T164 (mkF m 571 (La_19 y0 y1 y2 y3 y4 y5 lo hi mid v7 v8 v9 v10 (y5 &&& (3 : Int32)) tw b16 b17 b18 b19 b20 b22 (own_bot r7 r7 r8 r9) (own_top r7 r7 r8 r9) (own_bot r7 r8 r10 r10) (own_top r7 r8 r10 r10)) [(.int 3), (.ref b19), (.long hi), (.double v7), (.long lo), (.ref b22)]) (fun t_ k_ => XS.iconst X164.here hx rfl (hb hby at_570) k_) ?_
                    obtain ⟨cl169, Ar169, -, S169, Nn169, H169, -⟩ := id ff163
                    have hin169 : ¬ ((3 : Int32) < 0 ∨ cl169.slots.size ≤ ((3 : Int32)).toNatClampNeg) := inb_of S169 ⟨by decide, by decide⟩
                    refine og T164 (mkF m 572 (La_19 y0 y1 y2 y3 y4 y5 lo hi mid v7 v8 v9 v10 (y5 &&& (3 : Int32)) tw b16 b17 b18 b19 b20 b22 (own_bot r7 r7 r8 r9) (own_top r7 r7 r8 r9) (own_bot r7 r8 r10 r10) (own_top r7 r8 r10 r10)) [(.double v10), (.long hi), (.double v7), (.long lo), (.ref b22)]) (fun t_ k_ => X164.daload hx (j := (3 : Int32)) (v := (.double v10)) (by rw [e164]; exact Ar169.1) (State.isArrayOf_alike hZ.alike Ar169.2.1) Ar169.2.2 hin169 (H169.at hin169 rfl) (g := (mkF m 571 (La_19 y0 y1 y2 y3 y4 y5 lo hi mid v7 v8 v9 v10 (y5 &&& (3 : Int32)) tw b16 b17 b18 b19 b20 b22 (own_bot r7 r7 r8 r9) (own_top r7 r7 r8 r9) (own_bot r7 r8 r10 r10) (own_top r7 r8 r10 r10)) [(.int 3), (.ref b19), (.long hi), (.double v7), (.long lo), (.ref b22)])) rfl rfl (hb hby at_571) _ k_) ?_
                    refine og T164 (mkF m 574 (La_19 y0 y1 y2 y3 y4 y5 lo hi mid v7 v8 v9 v10 (y5 &&& (3 : Int32)) tw b16 b17 b18 b19 b20 b22 (own_bot r7 r7 r8 r9) (own_top r7 r7 r8 r9) (own_bot r7 r8 r10 r10) (own_top r7 r8 r10 r10)) [(.ref b18), (.double v10), (.long hi), (.double v7), (.long lo), (.ref b22)]) (fun t_ k_ => XS.aload X164.here hx rfl (hb hby at_572) rfl rfl k_) ?_
                    refine og T164 (mkF m 576 (La_19 y0 y1 y2 y3 y4 y5 lo hi mid v7 v8 v9 v10 (y5 &&& (3 : Int32)) tw b16 b17 b18 b19 b20 b22 (own_bot r7 r7 r8 r9) (own_top r7 r7 r8 r9) (own_bot r7 r8 r10 r10) (own_top r7 r8 r10 r10)) [(.int (own_bot r7 r8 r10 r10)), (.ref b18), (.double v10), (.long hi), (.double v7), (.long lo), (.ref b22)]) (fun t_ k_ => XS.iload X164.here hx rfl (hb hby at_574) rfl k_) ?_
                    obtain ⟨cl170, Ar170, -, S170, Nn170, H170, -⟩ := id ff166
                    have hin170 : ¬ ((own_bot r7 r8 r10 r10) < 0 ∨ cl170.slots.size ≤ ((own_bot r7 r8 r10 r10)).toNatClampNeg) := inb_of S170 (own_in4 Jb)
                    refine og T164 (mkF m 577 (La_19 y0 y1 y2 y3 y4 y5 lo hi mid v7 v8 v9 v10 (y5 &&& (3 : Int32)) tw b16 b17 b18 b19 b20 b22 (own_bot r7 r7 r8 r9) (own_top r7 r7 r8 r9) (own_bot r7 r8 r10 r10) (own_top r7 r8 r10 r10)) [(.long (own_g4 (own_bot r7 r8 r10 r10) lo mid hi hi)), (.double v10), (.long hi), (.double v7), (.long lo), (.ref b22)]) (fun t_ k_ => X164.laload hx (j := (own_bot r7 r8 r10 r10)) (v := (.long (own_g4 (own_bot r7 r8 r10 r10) lo mid hi hi))) (by rw [e164]; exact Ar170.1) (State.isArrayOf_alike hZ.alike Ar170.2.1) Ar170.2.2 hin170 (H170.at hin170 (own_atJ Jb _ _ _ _)) (g := (mkF m 576 (La_19 y0 y1 y2 y3 y4 y5 lo hi mid v7 v8 v9 v10 (y5 &&& (3 : Int32)) tw b16 b17 b18 b19 b20 b22 (own_bot r7 r7 r8 r9) (own_top r7 r7 r8 r9) (own_bot r7 r8 r10 r10) (own_top r7 r8 r10 r10)) [(.int (own_bot r7 r8 r10 r10)), (.ref b18), (.double v10), (.long hi), (.double v7), (.long lo), (.ref b22)])) rfl rfl (hb hby at_576) _ k_) ?_
                    refine og T164 (mkF m 579 (La_19 y0 y1 y2 y3 y4 y5 lo hi mid v7 v8 v9 v10 (y5 &&& (3 : Int32)) tw b16 b17 b18 b19 b20 b22 (own_bot r7 r7 r8 r9) (own_top r7 r7 r8 r9) (own_bot r7 r8 r10 r10) (own_top r7 r8 r10 r10)) [(.ref b19), (.long (own_g4 (own_bot r7 r8 r10 r10) lo mid hi hi)), (.double v10), (.long hi), (.double v7), (.long lo), (.ref b22)]) (fun t_ k_ => XS.aload X164.here hx rfl (hb hby at_577) rfl rfl k_) ?_
                    refine og T164 (mkF m 581 (La_19 y0 y1 y2 y3 y4 y5 lo hi mid v7 v8 v9 v10 (y5 &&& (3 : Int32)) tw b16 b17 b18 b19 b20 b22 (own_bot r7 r7 r8 r9) (own_top r7 r7 r8 r9) (own_bot r7 r8 r10 r10) (own_top r7 r8 r10 r10)) [(.int (own_bot r7 r8 r10 r10)), (.ref b19), (.long (own_g4 (own_bot r7 r8 r10 r10) lo mid hi hi)), (.double v10), (.long hi), (.double v7), (.long lo), (.ref b22)]) (fun t_ k_ => XS.iload X164.here hx rfl (hb hby at_579) rfl k_) ?_
                    obtain ⟨cl171, Ar171, -, S171, Nn171, H171, -⟩ := id ff163
                    have hin171 : ¬ ((own_bot r7 r8 r10 r10) < 0 ∨ cl171.slots.size ≤ ((own_bot r7 r8 r10 r10)).toNatClampNeg) := inb_of S171 (own_in4 Jb)
                    refine og T164 (mkF m 582 (La_19 y0 y1 y2 y3 y4 y5 lo hi mid v7 v8 v9 v10 (y5 &&& (3 : Int32)) tw b16 b17 b18 b19 b20 b22 (own_bot r7 r7 r8 r9) (own_top r7 r7 r8 r9) (own_bot r7 r8 r10 r10) (own_top r7 r8 r10 r10)) [(.double (own_g4 (own_bot r7 r8 r10 r10) v7 v8 v10 v10)), (.long (own_g4 (own_bot r7 r8 r10 r10) lo mid hi hi)), (.double v10), (.long hi), (.double v7), (.long lo), (.ref b22)]) (fun t_ k_ => X164.daload hx (j := (own_bot r7 r8 r10 r10)) (v := (.double (own_g4 (own_bot r7 r8 r10 r10) v7 v8 v10 v10))) (by rw [e164]; exact Ar171.1) (State.isArrayOf_alike hZ.alike Ar171.2.1) Ar171.2.2 hin171 (H171.at hin171 (own_atD Jb _ _ _ _)) (g := (mkF m 581 (La_19 y0 y1 y2 y3 y4 y5 lo hi mid v7 v8 v9 v10 (y5 &&& (3 : Int32)) tw b16 b17 b18 b19 b20 b22 (own_bot r7 r7 r8 r9) (own_top r7 r7 r8 r9) (own_bot r7 r8 r10 r10) (own_top r7 r8 r10 r10)) [(.int (own_bot r7 r8 r10 r10)), (.ref b19), (.long (own_g4 (own_bot r7 r8 r10 r10) lo mid hi hi)), (.double v10), (.long hi), (.double v7), (.long lo), (.ref b22)])) rfl rfl (hb hby at_581) _ k_) ?_
                    refine og T164 (mkF m 584 (La_19 y0 y1 y2 y3 y4 y5 lo hi mid v7 v8 v9 v10 (y5 &&& (3 : Int32)) tw b16 b17 b18 b19 b20 b22 (own_bot r7 r7 r8 r9) (own_top r7 r7 r8 r9) (own_bot r7 r8 r10 r10) (own_top r7 r8 r10 r10)) [(.ref b18), (.double (own_g4 (own_bot r7 r8 r10 r10) v7 v8 v10 v10)), (.long (own_g4 (own_bot r7 r8 r10 r10) lo mid hi hi)), (.double v10), (.long hi), (.double v7), (.long lo), (.ref b22)]) (fun t_ k_ => XS.aload X164.here hx rfl (hb hby at_582) rfl rfl k_) ?_
                    refine og T164 (mkF m 586 (La_19 y0 y1 y2 y3 y4 y5 lo hi mid v7 v8 v9 v10 (y5 &&& (3 : Int32)) tw b16 b17 b18 b19 b20 b22 (own_bot r7 r7 r8 r9) (own_top r7 r7 r8 r9) (own_bot r7 r8 r10 r10) (own_top r7 r8 r10 r10)) [(.int (own_top r7 r8 r10 r10)), (.ref b18), (.double (own_g4 (own_bot r7 r8 r10 r10) v7 v8 v10 v10)), (.long (own_g4 (own_bot r7 r8 r10 r10) lo mid hi hi)), (.double v10), (.long hi), (.double v7), (.long lo), (.ref b22)]) (fun t_ k_ => XS.iload X164.here hx rfl (hb hby at_584) rfl k_) ?_
                    obtain ⟨cl172, Ar172, -, S172, Nn172, H172, -⟩ := id ff166
                    have hin172 : ¬ ((own_top r7 r8 r10 r10) < 0 ∨ cl172.slots.size ≤ ((own_top r7 r8 r10 r10)).toNatClampNeg) := inb_of S172 (own_in4 Jt)
                    refine og T164 (mkF m 587 (La_19 y0 y1 y2 y3 y4 y5 lo hi mid v7 v8 v9 v10 (y5 &&& (3 : Int32)) tw b16 b17 b18 b19 b20 b22 (own_bot r7 r7 r8 r9) (own_top r7 r7 r8 r9) (own_bot r7 r8 r10 r10) (own_top r7 r8 r10 r10)) [(.long (own_g4 (own_top r7 r8 r10 r10) lo mid hi hi)), (.double (own_g4 (own_bot r7 r8 r10 r10) v7 v8 v10 v10)), (.long (own_g4 (own_bot r7 r8 r10 r10) lo mid hi hi)), (.double v10), (.long hi), (.double v7), (.long lo), (.ref b22)]) (fun t_ k_ => X164.laload hx (j := (own_top r7 r8 r10 r10)) (v := (.long (own_g4 (own_top r7 r8 r10 r10) lo mid hi hi))) (by rw [e164]; exact Ar172.1) (State.isArrayOf_alike hZ.alike Ar172.2.1) Ar172.2.2 hin172 (H172.at hin172 (own_atJ Jt _ _ _ _)) (g := (mkF m 586 (La_19 y0 y1 y2 y3 y4 y5 lo hi mid v7 v8 v9 v10 (y5 &&& (3 : Int32)) tw b16 b17 b18 b19 b20 b22 (own_bot r7 r7 r8 r9) (own_top r7 r7 r8 r9) (own_bot r7 r8 r10 r10) (own_top r7 r8 r10 r10)) [(.int (own_top r7 r8 r10 r10)), (.ref b18), (.double (own_g4 (own_bot r7 r8 r10 r10) v7 v8 v10 v10)), (.long (own_g4 (own_bot r7 r8 r10 r10) lo mid hi hi)), (.double v10), (.long hi), (.double v7), (.long lo), (.ref b22)])) rfl rfl (hb hby at_586) _ k_) ?_
                    refine og T164 (mkF m 589 (La_19 y0 y1 y2 y3 y4 y5 lo hi mid v7 v8 v9 v10 (y5 &&& (3 : Int32)) tw b16 b17 b18 b19 b20 b22 (own_bot r7 r7 r8 r9) (own_top r7 r7 r8 r9) (own_bot r7 r8 r10 r10) (own_top r7 r8 r10 r10)) [(.ref b19), (.long (own_g4 (own_top r7 r8 r10 r10) lo mid hi hi)), (.double (own_g4 (own_bot r7 r8 r10 r10) v7 v8 v10 v10)), (.long (own_g4 (own_bot r7 r8 r10 r10) lo mid hi hi)), (.double v10), (.long hi), (.double v7), (.long lo), (.ref b22)]) (fun t_ k_ => XS.aload X164.here hx rfl (hb hby at_587) rfl rfl k_) ?_
                    refine og T164 (mkF m 591 (La_19 y0 y1 y2 y3 y4 y5 lo hi mid v7 v8 v9 v10 (y5 &&& (3 : Int32)) tw b16 b17 b18 b19 b20 b22 (own_bot r7 r7 r8 r9) (own_top r7 r7 r8 r9) (own_bot r7 r8 r10 r10) (own_top r7 r8 r10 r10)) [(.int (own_top r7 r8 r10 r10)), (.ref b19), (.long (own_g4 (own_top r7 r8 r10 r10) lo mid hi hi)), (.double (own_g4 (own_bot r7 r8 r10 r10) v7 v8 v10 v10)), (.long (own_g4 (own_bot r7 r8 r10 r10) lo mid hi hi)), (.double v10), (.long hi), (.double v7), (.long lo), (.ref b22)]) (fun t_ k_ => XS.iload X164.here hx rfl (hb hby at_589) rfl k_) ?_
                    obtain ⟨cl173, Ar173, -, S173, Nn173, H173, -⟩ := id ff163
                    have hin173 : ¬ ((own_top r7 r8 r10 r10) < 0 ∨ cl173.slots.size ≤ ((own_top r7 r8 r10 r10)).toNatClampNeg) := inb_of S173 (own_in4 Jt)
                    refine og T164 (mkF m 592 (La_19 y0 y1 y2 y3 y4 y5 lo hi mid v7 v8 v9 v10 (y5 &&& (3 : Int32)) tw b16 b17 b18 b19 b20 b22 (own_bot r7 r7 r8 r9) (own_top r7 r7 r8 r9) (own_bot r7 r8 r10 r10) (own_top r7 r8 r10 r10)) [(.double (own_g4 (own_top r7 r8 r10 r10) v7 v8 v10 v10)), (.long (own_g4 (own_top r7 r8 r10 r10) lo mid hi hi)), (.double (own_g4 (own_bot r7 r8 r10 r10) v7 v8 v10 v10)), (.long (own_g4 (own_bot r7 r8 r10 r10) lo mid hi hi)), (.double v10), (.long hi), (.double v7), (.long lo), (.ref b22)]) (fun t_ k_ => X164.daload hx (j := (own_top r7 r8 r10 r10)) (v := (.double (own_g4 (own_top r7 r8 r10 r10) v7 v8 v10 v10))) (by rw [e164]; exact Ar173.1) (State.isArrayOf_alike hZ.alike Ar173.2.1) Ar173.2.2 hin173 (H173.at hin173 (own_atD Jt _ _ _ _)) (g := (mkF m 591 (La_19 y0 y1 y2 y3 y4 y5 lo hi mid v7 v8 v9 v10 (y5 &&& (3 : Int32)) tw b16 b17 b18 b19 b20 b22 (own_bot r7 r7 r8 r9) (own_top r7 r7 r8 r9) (own_bot r7 r8 r10 r10) (own_top r7 r8 r10 r10)) [(.int (own_top r7 r8 r10 r10)), (.ref b19), (.long (own_g4 (own_top r7 r8 r10 r10) lo mid hi hi)), (.double (own_g4 (own_bot r7 r8 r10 r10) v7 v8 v10 v10)), (.long (own_g4 (own_bot r7 r8 r10 r10) lo mid hi hi)), (.double v10), (.long hi), (.double v7), (.long lo), (.ref b22)])) rfl rfl (hb hby at_591) _ k_) ?_
                    have ff175 := ((((((((((((((((((A22.wr W24).wr W26).wr W27).wr W28).wr W29).wr W32).wr W33).wr W34).wr W125).wr W129).wr W130).wr W131).wr W132).wr W137).wr W138).wr W139).keep K146_).keep K160_)
                    have nq176 : b22 ≠ b16 := own_ne (by omega)
                    have nq177 : b22 ≠ b17 := own_ne (by omega)
                    have nq178 : b22 ≠ b18 := own_ne (by omega)
                    have nq179 : b22 ≠ b19 := own_ne (by omega)
                    have nq180 : b22 ≠ b20 := own_ne (by omega)
                    have ff181 := ((((((((((((((((((F22_m_nFirstTimestamp.other W24 (Or.inl nq176)).other W26 (Or.inl nq176)).other W27 (Or.inl nq176)).other W28 (Or.inl nq176)).other W29 (Or.inl nq177)).other W32 (Or.inl nq177)).other W33 (Or.inl nq177)).other W34 (Or.inl nq177)).other W125 (Or.inl nq178)).other W129 (Or.inl nq178)).other W130 (Or.inl nq178)).other W131 (Or.inl nq178)).other W132 (Or.inl nq179)).other W137 (Or.inl nq179)).other W138 (Or.inl nq179)).other W139 (Or.inl nq179)).keep K146_ (ninS nq180 nin0)).keep K160_ (ninS nq180 nin0))
                    have ff182 := ((((((((((((((((((F22_m_dFirstValue.other W24 (Or.inl nq176)).other W26 (Or.inl nq176)).other W27 (Or.inl nq176)).other W28 (Or.inl nq176)).other W29 (Or.inl nq177)).other W32 (Or.inl nq177)).other W33 (Or.inl nq177)).other W34 (Or.inl nq177)).other W125 (Or.inl nq178)).other W129 (Or.inl nq178)).other W130 (Or.inl nq178)).other W131 (Or.inl nq178)).other W132 (Or.inl nq179)).other W137 (Or.inl nq179)).other W138 (Or.inl nq179)).other W139 (Or.inl nq179)).keep K146_ (ninS nq180 nin0)).keep K160_ (ninS nq180 nin0))
                    have ff183 := ((((((((((((((((((F22_m_nLastTimestamp.other W24 (Or.inl nq176)).other W26 (Or.inl nq176)).other W27 (Or.inl nq176)).other W28 (Or.inl nq176)).other W29 (Or.inl nq177)).other W32 (Or.inl nq177)).other W33 (Or.inl nq177)).other W34 (Or.inl nq177)).other W125 (Or.inl nq178)).other W129 (Or.inl nq178)).other W130 (Or.inl nq178)).other W131 (Or.inl nq178)).other W132 (Or.inl nq179)).other W137 (Or.inl nq179)).other W138 (Or.inl nq179)).other W139 (Or.inl nq179)).keep K146_ (ninS nq180 nin0)).keep K160_ (ninS nq180 nin0))
                    have ff184 := ((((((((((((((((((F22_m_dLastValue.other W24 (Or.inl nq176)).other W26 (Or.inl nq176)).other W27 (Or.inl nq176)).other W28 (Or.inl nq176)).other W29 (Or.inl nq177)).other W32 (Or.inl nq177)).other W33 (Or.inl nq177)).other W34 (Or.inl nq177)).other W125 (Or.inl nq178)).other W129 (Or.inl nq178)).other W130 (Or.inl nq178)).other W131 (Or.inl nq178)).other W132 (Or.inl nq179)).other W137 (Or.inl nq179)).other W138 (Or.inl nq179)).other W139 (Or.inl nq179)).keep K146_ (ninS nq180 nin0)).keep K160_ (ninS nq180 nin0))
                    have ff185 := ((((((((((((((((((F22_m_nBottomTimestamp.other W24 (Or.inl nq176)).other W26 (Or.inl nq176)).other W27 (Or.inl nq176)).other W28 (Or.inl nq176)).other W29 (Or.inl nq177)).other W32 (Or.inl nq177)).other W33 (Or.inl nq177)).other W34 (Or.inl nq177)).other W125 (Or.inl nq178)).other W129 (Or.inl nq178)).other W130 (Or.inl nq178)).other W131 (Or.inl nq178)).other W132 (Or.inl nq179)).other W137 (Or.inl nq179)).other W138 (Or.inl nq179)).other W139 (Or.inl nq179)).keep K146_ (ninS nq180 nin0)).keep K160_ (ninS nq180 nin0))
                    have ff186 := ((((((((((((((((((F22_m_dBottomValue.other W24 (Or.inl nq176)).other W26 (Or.inl nq176)).other W27 (Or.inl nq176)).other W28 (Or.inl nq176)).other W29 (Or.inl nq177)).other W32 (Or.inl nq177)).other W33 (Or.inl nq177)).other W34 (Or.inl nq177)).other W125 (Or.inl nq178)).other W129 (Or.inl nq178)).other W130 (Or.inl nq178)).other W131 (Or.inl nq178)).other W132 (Or.inl nq179)).other W137 (Or.inl nq179)).other W138 (Or.inl nq179)).other W139 (Or.inl nq179)).keep K146_ (ninS nq180 nin0)).keep K160_ (ninS nq180 nin0))
                    have ff187 := ((((((((((((((((((F22_m_nTopTimestamp.other W24 (Or.inl nq176)).other W26 (Or.inl nq176)).other W27 (Or.inl nq176)).other W28 (Or.inl nq176)).other W29 (Or.inl nq177)).other W32 (Or.inl nq177)).other W33 (Or.inl nq177)).other W34 (Or.inl nq177)).other W125 (Or.inl nq178)).other W129 (Or.inl nq178)).other W130 (Or.inl nq178)).other W131 (Or.inl nq178)).other W132 (Or.inl nq179)).other W137 (Or.inl nq179)).other W138 (Or.inl nq179)).other W139 (Or.inl nq179)).keep K146_ (ninS nq180 nin0)).keep K160_ (ninS nq180 nin0))
                    have ff188 := ((((((((((((((((((F22_m_dTopValue.other W24 (Or.inl nq176)).other W26 (Or.inl nq176)).other W27 (Or.inl nq176)).other W28 (Or.inl nq176)).other W29 (Or.inl nq177)).other W32 (Or.inl nq177)).other W33 (Or.inl nq177)).other W34 (Or.inl nq177)).other W125 (Or.inl nq178)).other W129 (Or.inl nq178)).other W130 (Or.inl nq178)).other W131 (Or.inl nq178)).other W132 (Or.inl nq179)).other W137 (Or.inl nq179)).other W138 (Or.inl nq179)).other W139 (Or.inl nq179)).keep K146_ (ninS nq180 nin0)).keep K160_ (ninS nq180 nin0))
                    obtain ⟨cq174, kq174, q174a, q174b, q174c⟩ := isOf hZ e164 ff175
                    obtain ⟨_, _, ⟨T174, L174, k174, n174⟩, -, X174, ⟨Lc174, hQ174, l174, y174, z174⟩, st174⟩ := X164.virtualBack hx (y := ym_6) (z := ym_6) hown (mvT hZ (own_w hw 28 rfl)) (mvT hZ (own_w hw 29 rfl)) (notFace_of_selects (args := #[]) (mvT hZ (own_w hw 31 rfl))) (mvT hZ (own_w hw 31 rfl)) (mvT hZ (own_w hw 30 rfl)) (by decide) (backOf (W := 0) (rm_set l Z a0 hw [] b22 lo v7 hi v10 (own_g4 (own_bot r7 r8 r10 r10) lo mid hi hi) (own_g4 (own_bot r7 r8 r10 r10) v7 v8 v10 v10) (own_g4 (own_top r7 r8 r10 r10) lo mid hi hi) (own_g4 (own_top r7 r8 r10 r10) v7 v8 v10 v10) (0 : Int64) 0 (0 : Int64) 0 (0 : Int64) 0 (0 : Int64) 0 T160.heap n0 (show n0 ≤ T160.heap.size by omega) ff175 ff181 ff182 ff183 ff184 ff185 ff186 ff187 ff188 (show n0 ≤ b22 by omega)) hZ (own_w hw 32 rfl) (own_w hw 15 rfl) (by decide) (by decide)) q174a q174c (g := (mkF m 592 (La_19 y0 y1 y2 y3 y4 y5 lo hi mid v7 v8 v9 v10 (y5 &&& (3 : Int32)) tw b16 b17 b18 b19 b20 b22 (own_bot r7 r7 r8 r9) (own_top r7 r7 r8 r9) (own_bot r7 r8 r10 r10) (own_top r7 r8 r10 r10)) [(.double (own_g4 (own_top r7 r8 r10 r10) v7 v8 v10 v10)), (.long (own_g4 (own_top r7 r8 r10 r10) lo mid hi hi)), (.double (own_g4 (own_bot r7 r8 r10 r10) v7 v8 v10 v10)), (.long (own_g4 (own_bot r7 r8 r10 r10) lo mid hi hi)), (.double v10), (.long hi), (.double v7), (.long lo), (.ref b22)])) rfl (by rw [hml]; rfl) (Steps.refl _) (argsL := [(.long lo), (.double v7), (.long hi), (.double v10), (.long (own_g4 (own_bot r7 r8 r10 r10) lo mid hi hi)), (.double (own_g4 (own_bot r7 r8 r10 r10) v7 v8 v10 v10)), (.long (own_g4 (own_top r7 r8 r10 r10) lo mid hi hi)), (.double (own_g4 (own_top r7 r8 r10 r10) v7 v8 v10 v10))]) (rest := []) (lenOf pd_7 rfl) rfl (by show 2 * 0 + _ ≤ _; exact Nat.le_of_eq rfl) (hb hby at_592) (fun _ _ => ⟨rfl, e164, (by decide : 6 + 0 ≤ _), (by decide : 32 + 0 ≤ _)⟩)
                    dsimp only [Pt.U, Pt.locs, Pt.cells, Pt.slots] at X174 l174 y174 z174 st174 hQ174
                    replace l174 := l174.symm; replace y174 := y174.symm; replace z174 := z174.symm; subst l174 y174 z174
                    obtain ⟨rfl, M174, K174_, f174_0, f174_1, f174_2, f174_3, f174_4, f174_5, f174_6, f174_7⟩ := hQ174
                    have zz174 := K174_.1
                    have N174 := Fr.app N164 M174
                    refine og T174 (mkF m 595 (La_19 y0 y1 y2 y3 y4 y5 lo hi mid v7 v8 v9 v10 (y5 &&& (3 : Int32)) tw b16 b17 b18 b19 b20 b22 (own_bot r7 r7 r8 r9) (own_top r7 r7 r8 r9) (own_bot r7 r8 r10 r10) (own_top r7 r8 r10 r10)) []) (fun t_ k_ => st174.trans k_) ?_
                    refine og T174 (mkF m 597 (La_19 y0 y1 y2 y3 y4 y5 lo hi mid v7 v8 v9 v10 (y5 &&& (3 : Int32)) tw b16 b17 b18 b19 b20 b22 (own_bot r7 r7 r8 r9) (own_top r7 r7 r8 r9) (own_bot r7 r8 r10 r10) (own_top r7 r8 r10 r10)) [(.ref b20)]) (fun t_ k_ => XS.aload X174.here hx rfl (hb hby at_595) rfl rfl k_) ?_
                    refine og T174 (mkF m 599 (La_19 y0 y1 y2 y3 y4 y5 lo hi mid v7 v8 v9 v10 (y5 &&& (3 : Int32)) tw b16 b17 b18 b19 b20 b22 (own_bot r7 r7 r8 r9) (own_top r7 r7 r8 r9) (own_bot r7 r8 r10 r10) (own_top r7 r8 r10 r10)) [(.ref b22), (.ref b20)]) (fun t_ k_ => XS.aload X174.here hx rfl (hb hby at_597) rfl rfl k_) ?_
                    have fix := own_fixB (v0 := v7) (v1 := v8) (v2 := v9) (vw := v10) (r0 := r7) (r1 := r8) (r2 := r9) (rw := r10) h1 h2 hq124_ hq39_ hq41_
                    have ff189 := (f160_1.keep K174_ (ninS (Ne.symm nq180) nin0))
                    have fq190 : Fld Z T174.heap b20 "com/example/driftline/driftline/storage/Extremes" "m_dFirstValue" "D" (.double v7) := (show (if tw = lo then v10 else v7) = v7 from if_neg hq42_) ▸ ff189
                    have ff191 := (f160_3.keep K174_ (ninS (Ne.symm nq180) nin0))
                    have fq192 : Fld Z T174.heap b20 "com/example/driftline/driftline/storage/Extremes" "m_dLastValue" "D" (.double v10) := (show (if tw = hi then v10 else v9) = v10 from if_pos hq124_) ▸ ff191
                    have ff193 := (f160_4.keep K174_ (ninS (Ne.symm nq180) nin0))
                    have fq194 : Fld Z T174.heap b20 "com/example/driftline/driftline/storage/Extremes" "m_nBottomTimestamp" "J" (.long (own_g4 (own_bot r7 r8 r10 r10) lo mid hi hi)) := (show (if (r10 < (own_g4 (own_bot r7 r7 r8 r9) r7 r7 r8 r9) ∨ (r10 = (own_g4 (own_bot r7 r7 r8 r9) r7 r7 r8 r9) ∧ tw < (own_g4 (own_bot r7 r7 r8 r9) lo lo mid hi))) then tw else (own_g4 (own_bot r7 r7 r8 r9) lo lo mid hi)) = (own_g4 (own_bot r7 r8 r10 r10) lo mid hi hi) from fix.1.1) ▸ ff193
                    have ff195 := (f160_5.keep K174_ (ninS (Ne.symm nq180) nin0))
                    have fq196 : Fld Z T174.heap b20 "com/example/driftline/driftline/storage/Extremes" "m_dBottomValue" "D" (.double (own_g4 (own_bot r7 r8 r10 r10) v7 v8 v10 v10)) := (show (if (r10 < (own_g4 (own_bot r7 r7 r8 r9) r7 r7 r8 r9) ∨ (r10 = (own_g4 (own_bot r7 r7 r8 r9) r7 r7 r8 r9) ∧ tw < (own_g4 (own_bot r7 r7 r8 r9) lo lo mid hi))) then v10 else (own_g4 (own_bot r7 r7 r8 r9) v7 v7 v8 v9)) = (own_g4 (own_bot r7 r8 r10 r10) v7 v8 v10 v10) from fix.1.2) ▸ ff195
                    have ff197 := (f160_6.keep K174_ (ninS (Ne.symm nq180) nin0))
                    have fq198 : Fld Z T174.heap b20 "com/example/driftline/driftline/storage/Extremes" "m_nTopTimestamp" "J" (.long (own_g4 (own_top r7 r8 r10 r10) lo mid hi hi)) := (show (if ((own_g4 (own_top r7 r7 r8 r9) r7 r7 r8 r9) < r10 ∨ (r10 = (own_g4 (own_top r7 r7 r8 r9) r7 r7 r8 r9) ∧ tw < (own_g4 (own_top r7 r7 r8 r9) lo lo mid hi))) then tw else (own_g4 (own_top r7 r7 r8 r9) lo lo mid hi)) = (own_g4 (own_top r7 r8 r10 r10) lo mid hi hi) from fix.2.1) ▸ ff197
                    have ff199 := (f160_7.keep K174_ (ninS (Ne.symm nq180) nin0))
                    have fq200 : Fld Z T174.heap b20 "com/example/driftline/driftline/storage/Extremes" "m_dTopValue" "D" (.double (own_g4 (own_top r7 r8 r10 r10) v7 v8 v10 v10)) := (show (if ((own_g4 (own_top r7 r7 r8 r9) r7 r7 r8 r9) < r10 ∨ (r10 = (own_g4 (own_top r7 r7 r8 r9) r7 r7 r8 r9) ∧ tw < (own_g4 (own_top r7 r7 r8 r9) lo lo mid hi))) then v10 else (own_g4 (own_top r7 r7 r8 r9) v7 v7 v8 v9)) = (own_g4 (own_top r7 r8 r10 r10) v7 v8 v10 v10) from fix.2.2) ▸ ff199
                    have ff202 := (ff175.keep K174_)
                    have ff203 := (f160_0.keep K174_ (ninS (Ne.symm nq180) nin0))
                    have ff204 := (f160_2.keep K174_ (ninS (Ne.symm nq180) nin0))
                    have ff205 := ((ff161.keep K160_).keep K174_)
                    obtain ⟨cq201, kq201, q201a, q201b, q201c⟩ := isOf hZ rfl ff205
                    obtain ⟨_, _, ⟨T201, L201, k201, n201⟩, -, X201, ⟨Lc201, hQ201, l201, y201, z201⟩, st201⟩ := X174.virtualBack hx (y := ym_11) (z := ym_11) hown (mvT hZ (own_w hw 54 rfl)) (mvT hZ (own_w hw 55 rfl)) (notFace_of_selects (args := #[]) (mvT hZ (own_w hw 57 rfl))) (mvT hZ (own_w hw 57 rfl)) (mvT hZ (own_w hw 56 rfl)) (by decide) (backOf (W := 0) (rm_eq l Z a0 hw [] b20 b22 lo v7 hi v10 (own_g4 (own_bot r7 r8 r10 r10) lo mid hi hi) (own_g4 (own_bot r7 r8 r10 r10) v7 v8 v10 v10) (own_g4 (own_top r7 r8 r10 r10) lo mid hi hi) (own_g4 (own_top r7 r8 r10 r10) v7 v8 v10 v10) r7 r10 (own_g4 (own_bot r7 r8 r10 r10) r7 r8 r10 r10) (own_g4 (own_top r7 r8 r10 r10) r7 r8 r10 r10) T174.heap n0 (show n0 ≤ T174.heap.size by omega) ff202 ff203 fq190 ff204 fq192 fq194 fq196 fq198 fq200 f174_0 f174_1 f174_2 f174_3 f174_4 f174_5 f174_6 f174_7 f7_0 f10_0 (own_gD Jb f7_0 f8_0 f10_0 f10_0) (own_gD Jt f7_0 f8_0 f10_0 f10_0)) hZ (own_w hw 58 rfl) (own_w hw 15 rfl) (by decide) (by decide)) q201a q201c (g := (mkF m 599 (La_19 y0 y1 y2 y3 y4 y5 lo hi mid v7 v8 v9 v10 (y5 &&& (3 : Int32)) tw b16 b17 b18 b19 b20 b22 (own_bot r7 r7 r8 r9) (own_top r7 r7 r8 r9) (own_bot r7 r8 r10 r10) (own_top r7 r8 r10 r10)) [(.ref b22), (.ref b20)])) rfl (by rw [hml]; rfl) (Steps.refl _) (argsL := [(.ref b22)]) (rest := []) (lenOf pd_9 rfl) rfl (by show 2 * 0 + _ ≤ _; exact Nat.le_of_eq rfl) (hb hby at_599) (fun _ _ => ⟨rfl, rfl, (by decide : 6 + 0 ≤ _), (by decide : 32 + 0 ≤ _)⟩)
                    dsimp only [Pt.U, Pt.locs, Pt.cells, Pt.slots] at X201 l201 y201 z201 st201 hQ201
                    replace l201 := l201.symm; replace y201 := y201.symm; replace z201 := z201.symm; subst l201 y201 z201
                    obtain ⟨rfl, M201, e201⟩ := hQ201
                    have N201 := Fr.app N174 M201
                    refine og T201 (mkF m 602 (La_19 y0 y1 y2 y3 y4 y5 lo hi mid v7 v8 v9 v10 (y5 &&& (3 : Int32)) tw b16 b17 b18 b19 b20 b22 (own_bot r7 r7 r8 r9) (own_top r7 r7 r8 r9) (own_bot r7 r8 r10 r10) (own_top r7 r8 r10 r10)) [(.int 1)]) (fun t_ k_ => st201.trans k_) ?_
                    exact own_out X201 (v := some (.int (nar .boolean (1 : Int32)))) (fun h => by rw [hret] at h; cases h) hlk (fun fs hr => retN X201 hx (t := .boolean) hret (by simp) (hb hby at_602) hr) (Q := Q_rm_law Z y0 y1 y2 y3 y4 y5 h0 n0) (by rw [e201]; exact ⟨rfl, N201⟩) (by decide) (by decide)
                  · skip
                    refine og T36 (mkF m 391 (La_17 y0 y1 y2 y3 y4 y5 lo hi mid v7 v8 v9 v10 (y5 &&& (3 : Int32)) tw b16 b17 b18 b19 b20 b22 (own_bot r7 r7 r8 r9) (own_top r7 r7 r8 r9)) []) (fun t_ k_ => XS.ifYes X36.here hx rfl (pc0 := 337) (pc' := 391) rfl (hb hby at_337) rfl ((if0 _ _).trans (feq (fun z => hq124_ ((lw_eq _ _).mp z))).2) (by decide) (by decide) k_) ?_
                    refine og T36 (mkF m 393 (La_17 y0 y1 y2 y3 y4 y5 lo hi mid v7 v8 v9 v10 (y5 &&& (3 : Int32)) tw b16 b17 b18 b19 b20 b22 (own_bot r7 r7 r8 r9) (own_top r7 r7 r8 r9)) [(.long tw)]) (fun t_ k_ => XS.lload X36.here hx rfl (hb hby at_391) rfl k_) ?_
                    refine og T36 (mkF m 395 (La_17 y0 y1 y2 y3 y4 y5 lo hi mid v7 v8 v9 v10 (y5 &&& (3 : Int32)) tw b16 b17 b18 b19 b20 b22 (own_bot r7 r7 r8 r9) (own_top r7 r7 r8 r9)) [(.long mid), (.long tw)]) (fun t_ k_ => XS.lload X36.here hx rfl (hb hby at_393) rfl k_) ?_
                    refine og T36 (mkF m 396 (La_17 y0 y1 y2 y3 y4 y5 lo hi mid v7 v8 v9 v10 (y5 &&& (3 : Int32)) tw b16 b17 b18 b19 b20 b22 (own_bot r7 r7 r8 r9) (own_top r7 r7 r8 r9)) [(.int (lcmpW tw mid))]) (fun t_ k_ => XS.lcmp X36.here hx rfl (hb hby at_395) rfl k_) ?_
                    by_cases hq206_ : tw < mid
                    · skip
                      refine og T36 (mkF m 399 (La_17 y0 y1 y2 y3 y4 y5 lo hi mid v7 v8 v9 v10 (y5 &&& (3 : Int32)) tw b16 b17 b18 b19 b20 b22 (own_bot r7 r7 r8 r9) (own_top r7 r7 r8 r9)) []) (fun t_ k_ => XS.ifNo X36.here hx rfl (hb hby at_396) rfl ((if0 _ _).trans (tlt ((lw_lt _ _).mpr hq206_)).2.1) k_) ?_
                      have htC : lo.toInt < tw.toInt ∧ tw.toInt < mid.toInt := ⟨own_ltc hq13_ hq42_, Int64.lt_iff_toInt_lt.mp hq206_⟩
                      refine og T36 (mkF m 401 (La_17 y0 y1 y2 y3 y4 y5 lo hi mid v7 v8 v9 v10 (y5 &&& (3 : Int32)) tw b16 b17 b18 b19 b20 b22 (own_bot r7 r7 r8 r9) (own_top r7 r7 r8 r9)) [(.ref b18)]) (fun t_ k_ => XS.aload X36.here hx rfl (hb hby at_399) rfl rfl k_) ?_
                      refine og T36 (mkF m 402 (La_17 y0 y1 y2 y3 y4 y5 lo hi mid v7 v8 v9 v10 (y5 &&& (3 : Int32)) tw b16 b17 b18 b19 b20 b22 (own_bot r7 r7 r8 r9) (own_top r7 r7 r8 r9)) [(.int 0), (.ref b18)]) (fun t_ k_ => XS.iconst X36.here hx rfl (hb hby at_401) k_) ?_
                      refine og T36 (mkF m 404 (La_17 y0 y1 y2 y3 y4 y5 lo hi mid v7 v8 v9 v10 (y5 &&& (3 : Int32)) tw b16 b17 b18 b19 b20 b22 (own_bot r7 r7 r8 r9) (own_top r7 r7 r8 r9)) [(.long lo), (.int 0), (.ref b18)]) (fun t_ k_ => XS.lload X36.here hx rfl (hb hby at_402) rfl k_) ?_
                      have nq208 : b18 ≠ b16 := own_ne (by omega)
                      have nq209 : b18 ≠ b17 := own_ne (by omega)
                      have ff210 := (((((((((((V18.ext E19).ext E20).ext E22).other W24 nq208).other W26 nq208).other W27 nq208).other W28 nq208).other W29 nq209).other W32 nq209).other W33 nq209).other W34 nq209)
                      obtain ⟨cl207, Ar207, q207, S207, Nn207, H207, G207⟩ := id ff210
                      have hin207 : ¬ ((0 : Int32) < 0 ∨ cl207.slots.size ≤ ((0 : Int32)).toNatClampNeg) := inb_of S207 ⟨by decide, by decide⟩
                      obtain ⟨T207, h207, X207, e207, W207, st207⟩ := stJ X36 hx hZ e36 Ar207 (j := (0 : Int32)) hin207 (g := (mkF m 404 (La_17 y0 y1 y2 y3 y4 y5 lo hi mid v7 v8 v9 v10 (y5 &&& (3 : Int32)) tw b16 b17 b18 b19 b20 b22 (own_bot r7 r7 r8 r9) (own_top r7 r7 r8 r9)) [(.long lo), (.int 0), (.ref b18)])) rfl rfl (hb hby at_404)
                      have V207 : Arv Z h207 b18 k18 .long (4 : Int32) [(.long lo), (.long 0), (.long 0), (.long 0)] (.long 0) := Arv.set Ar207 q207 S207 Nn207 H207 G207 rfl W207 0 rfl (Nat.le_of_ble_eq_true rfl)
                      have z207 := W207.size
                      have N207 := Fr.snoc X207 N36 (show n0 ≤ b18 by omega)
                      refine og T207 (mkF m 405 (La_17 y0 y1 y2 y3 y4 y5 lo hi mid v7 v8 v9 v10 (y5 &&& (3 : Int32)) tw b16 b17 b18 b19 b20 b22 (own_bot r7 r7 r8 r9) (own_top r7 r7 r8 r9)) []) (fun t_ k_ => st207 _ k_) ?_
                      refine og T207 (mkF m 407 (La_17 y0 y1 y2 y3 y4 y5 lo hi mid v7 v8 v9 v10 (y5 &&& (3 : Int32)) tw b16 b17 b18 b19 b20 b22 (own_bot r7 r7 r8 r9) (own_top r7 r7 r8 r9)) [(.ref b18)]) (fun t_ k_ => XS.aload X207.here hx rfl (hb hby at_405) rfl rfl k_) ?_
                      refine og T207 (mkF m 408 (La_17 y0 y1 y2 y3 y4 y5 lo hi mid v7 v8 v9 v10 (y5 &&& (3 : Int32)) tw b16 b17 b18 b19 b20 b22 (own_bot r7 r7 r8 r9) (own_top r7 r7 r8 r9)) [(.int 1), (.ref b18)]) (fun t_ k_ => XS.iconst X207.here hx rfl (hb hby at_407) k_) ?_
                      refine og T207 (mkF m 410 (La_17 y0 y1 y2 y3 y4 y5 lo hi mid v7 v8 v9 v10 (y5 &&& (3 : Int32)) tw b16 b17 b18 b19 b20 b22 (own_bot r7 r7 r8 r9) (own_top r7 r7 r8 r9)) [(.long tw), (.int 1), (.ref b18)]) (fun t_ k_ => XS.lload X207.here hx rfl (hb hby at_408) rfl k_) ?_
                      obtain ⟨cl211, Ar211, q211, S211, Nn211, H211, G211⟩ := id V207
                      have hin211 : ¬ ((1 : Int32) < 0 ∨ cl211.slots.size ≤ ((1 : Int32)).toNatClampNeg) := inb_of S211 ⟨by decide, by decide⟩
                      obtain ⟨T211, h211, X211, e211, W211, st211⟩ := stJ X207 hx hZ e207 Ar211 (j := (1 : Int32)) hin211 (g := (mkF m 410 (La_17 y0 y1 y2 y3 y4 y5 lo hi mid v7 v8 v9 v10 (y5 &&& (3 : Int32)) tw b16 b17 b18 b19 b20 b22 (own_bot r7 r7 r8 r9) (own_top r7 r7 r8 r9)) [(.long tw), (.int 1), (.ref b18)])) rfl rfl (hb hby at_410)
                      have V211 : Arv Z h211 b18 k18 .long (4 : Int32) [(.long lo), (.long tw), (.long 0), (.long 0)] (.long 0) := Arv.set Ar211 q211 S211 Nn211 H211 G211 rfl W211 1 rfl (Nat.le_of_ble_eq_true rfl)
                      have z211 := W211.size
                      have N211 := Fr.snoc X211 N207 (show n0 ≤ b18 by omega)
                      refine og T211 (mkF m 411 (La_17 y0 y1 y2 y3 y4 y5 lo hi mid v7 v8 v9 v10 (y5 &&& (3 : Int32)) tw b16 b17 b18 b19 b20 b22 (own_bot r7 r7 r8 r9) (own_top r7 r7 r8 r9)) []) (fun t_ k_ => st211 _ k_) ?_
                      refine og T211 (mkF m 413 (La_17 y0 y1 y2 y3 y4 y5 lo hi mid v7 v8 v9 v10 (y5 &&& (3 : Int32)) tw b16 b17 b18 b19 b20 b22 (own_bot r7 r7 r8 r9) (own_top r7 r7 r8 r9)) [(.ref b18)]) (fun t_ k_ => XS.aload X211.here hx rfl (hb hby at_411) rfl rfl k_) ?_
                      refine og T211 (mkF m 414 (La_17 y0 y1 y2 y3 y4 y5 lo hi mid v7 v8 v9 v10 (y5 &&& (3 : Int32)) tw b16 b17 b18 b19 b20 b22 (own_bot r7 r7 r8 r9) (own_top r7 r7 r8 r9)) [(.int 2), (.ref b18)]) (fun t_ k_ => XS.iconst X211.here hx rfl (hb hby at_413) k_) ?_
                      refine og T211 (mkF m 416 (La_17 y0 y1 y2 y3 y4 y5 lo hi mid v7 v8 v9 v10 (y5 &&& (3 : Int32)) tw b16 b17 b18 b19 b20 b22 (own_bot r7 r7 r8 r9) (own_top r7 r7 r8 r9)) [(.long mid), (.int 2), (.ref b18)]) (fun t_ k_ => XS.lload X211.here hx rfl (hb hby at_414) rfl k_) ?_
                      obtain ⟨cl212, Ar212, q212, S212, Nn212, H212, G212⟩ := id V211
                      have hin212 : ¬ ((2 : Int32) < 0 ∨ cl212.slots.size ≤ ((2 : Int32)).toNatClampNeg) := inb_of S212 ⟨by decide, by decide⟩
                      obtain ⟨T212, h212, X212, e212, W212, st212⟩ := stJ X211 hx hZ e211 Ar212 (j := (2 : Int32)) hin212 (g := (mkF m 416 (La_17 y0 y1 y2 y3 y4 y5 lo hi mid v7 v8 v9 v10 (y5 &&& (3 : Int32)) tw b16 b17 b18 b19 b20 b22 (own_bot r7 r7 r8 r9) (own_top r7 r7 r8 r9)) [(.long mid), (.int 2), (.ref b18)])) rfl rfl (hb hby at_416)
                      have V212 : Arv Z h212 b18 k18 .long (4 : Int32) [(.long lo), (.long tw), (.long mid), (.long 0)] (.long 0) := Arv.set Ar212 q212 S212 Nn212 H212 G212 rfl W212 2 rfl (Nat.le_of_ble_eq_true rfl)
                      have z212 := W212.size
                      have N212 := Fr.snoc X212 N211 (show n0 ≤ b18 by omega)
                      refine og T212 (mkF m 417 (La_17 y0 y1 y2 y3 y4 y5 lo hi mid v7 v8 v9 v10 (y5 &&& (3 : Int32)) tw b16 b17 b18 b19 b20 b22 (own_bot r7 r7 r8 r9) (own_top r7 r7 r8 r9)) []) (fun t_ k_ => st212 _ k_) ?_
                      refine og T212 (mkF m 419 (La_17 y0 y1 y2 y3 y4 y5 lo hi mid v7 v8 v9 v10 (y5 &&& (3 : Int32)) tw b16 b17 b18 b19 b20 b22 (own_bot r7 r7 r8 r9) (own_top r7 r7 r8 r9)) [(.ref b18)]) (fun t_ k_ => XS.aload X212.here hx rfl (hb hby at_417) rfl rfl k_) ?_
                      refine og T212 (mkF m 420 (La_17 y0 y1 y2 y3 y4 y5 lo hi mid v7 v8 v9 v10 (y5 &&& (3 : Int32)) tw b16 b17 b18 b19 b20 b22 (own_bot r7 r7 r8 r9) (own_top r7 r7 r8 r9)) [(.int 3), (.ref b18)]) (fun t_ k_ => XS.iconst X212.here hx rfl (hb hby at_419) k_) ?_
                      refine og T212 (mkF m 422 (La_17 y0 y1 y2 y3 y4 y5 lo hi mid v7 v8 v9 v10 (y5 &&& (3 : Int32)) tw b16 b17 b18 b19 b20 b22 (own_bot r7 r7 r8 r9) (own_top r7 r7 r8 r9)) [(.long hi), (.int 3), (.ref b18)]) (fun t_ k_ => XS.lload X212.here hx rfl (hb hby at_420) rfl k_) ?_
                      obtain ⟨cl213, Ar213, q213, S213, Nn213, H213, G213⟩ := id V212
                      have hin213 : ¬ ((3 : Int32) < 0 ∨ cl213.slots.size ≤ ((3 : Int32)).toNatClampNeg) := inb_of S213 ⟨by decide, by decide⟩
                      obtain ⟨T213, h213, X213, e213, W213, st213⟩ := stJ X212 hx hZ e212 Ar213 (j := (3 : Int32)) hin213 (g := (mkF m 422 (La_17 y0 y1 y2 y3 y4 y5 lo hi mid v7 v8 v9 v10 (y5 &&& (3 : Int32)) tw b16 b17 b18 b19 b20 b22 (own_bot r7 r7 r8 r9) (own_top r7 r7 r8 r9)) [(.long hi), (.int 3), (.ref b18)])) rfl rfl (hb hby at_422)
                      have V213 : Arv Z h213 b18 k18 .long (4 : Int32) [(.long lo), (.long tw), (.long mid), (.long hi)] (.long 0) := Arv.set Ar213 q213 S213 Nn213 H213 G213 rfl W213 3 rfl (Nat.le_of_ble_eq_true rfl)
                      have z213 := W213.size
                      have N213 := Fr.snoc X213 N212 (show n0 ≤ b18 by omega)
                      refine og T213 (mkF m 423 (La_17 y0 y1 y2 y3 y4 y5 lo hi mid v7 v8 v9 v10 (y5 &&& (3 : Int32)) tw b16 b17 b18 b19 b20 b22 (own_bot r7 r7 r8 r9) (own_top r7 r7 r8 r9)) []) (fun t_ k_ => st213 _ k_) ?_
                      refine og T213 (mkF m 425 (La_17 y0 y1 y2 y3 y4 y5 lo hi mid v7 v8 v9 v10 (y5 &&& (3 : Int32)) tw b16 b17 b18 b19 b20 b22 (own_bot r7 r7 r8 r9) (own_top r7 r7 r8 r9)) [(.ref b19)]) (fun t_ k_ => XS.aload X213.here hx rfl (hb hby at_423) rfl rfl k_) ?_
                      refine og T213 (mkF m 426 (La_17 y0 y1 y2 y3 y4 y5 lo hi mid v7 v8 v9 v10 (y5 &&& (3 : Int32)) tw b16 b17 b18 b19 b20 b22 (own_bot r7 r7 r8 r9) (own_top r7 r7 r8 r9)) [(.int 0), (.ref b19)]) (fun t_ k_ => XS.iconst X213.here hx rfl (hb hby at_425) k_) ?_
                      refine og T213 (mkF m 428 (La_17 y0 y1 y2 y3 y4 y5 lo hi mid v7 v8 v9 v10 (y5 &&& (3 : Int32)) tw b16 b17 b18 b19 b20 b22 (own_bot r7 r7 r8 r9) (own_top r7 r7 r8 r9)) [(.double v7), (.int 0), (.ref b19)]) (fun t_ k_ => XS.dload X213.here hx rfl (hb hby at_426) rfl k_) ?_
                      have nq215 : b19 ≠ b16 := own_ne (by omega)
                      have nq216 : b19 ≠ b17 := own_ne (by omega)
                      have nq217 : b19 ≠ b18 := own_ne (by omega)
                      have ff218 := ((((((((((((((V19.ext E20).ext E22).other W24 nq215).other W26 nq215).other W27 nq215).other W28 nq215).other W29 nq216).other W32 nq216).other W33 nq216).other W34 nq216).other W207 nq217).other W211 nq217).other W212 nq217).other W213 nq217)
                      obtain ⟨cl214, Ar214, q214, S214, Nn214, H214, G214⟩ := id ff218
                      have hin214 : ¬ ((0 : Int32) < 0 ∨ cl214.slots.size ≤ ((0 : Int32)).toNatClampNeg) := inb_of S214 ⟨by decide, by decide⟩
                      obtain ⟨T214, h214, X214, e214, W214, st214⟩ := stD X213 hx hZ e213 Ar214 (j := (0 : Int32)) hin214 (g := (mkF m 428 (La_17 y0 y1 y2 y3 y4 y5 lo hi mid v7 v8 v9 v10 (y5 &&& (3 : Int32)) tw b16 b17 b18 b19 b20 b22 (own_bot r7 r7 r8 r9) (own_top r7 r7 r8 r9)) [(.double v7), (.int 0), (.ref b19)])) rfl rfl (hb hby at_428)
                      have V214 : Arv Z h214 b19 k19 .double (4 : Int32) [(.double v7), (.double 0), (.double 0), (.double 0)] (.double 0) := Arv.set Ar214 q214 S214 Nn214 H214 G214 rfl W214 0 rfl (Nat.le_of_ble_eq_true rfl)
                      have z214 := W214.size
                      have N214 := Fr.snoc X214 N213 (show n0 ≤ b19 by omega)
                      refine og T214 (mkF m 429 (La_17 y0 y1 y2 y3 y4 y5 lo hi mid v7 v8 v9 v10 (y5 &&& (3 : Int32)) tw b16 b17 b18 b19 b20 b22 (own_bot r7 r7 r8 r9) (own_top r7 r7 r8 r9)) []) (fun t_ k_ => st214 _ k_) ?_
                      refine og T214 (mkF m 431 (La_17 y0 y1 y2 y3 y4 y5 lo hi mid v7 v8 v9 v10 (y5 &&& (3 : Int32)) tw b16 b17 b18 b19 b20 b22 (own_bot r7 r7 r8 r9) (own_top r7 r7 r8 r9)) [(.ref b19)]) (fun t_ k_ => XS.aload X214.here hx rfl (hb hby at_429) rfl rfl k_) ?_
                      refine og T214 (mkF m 432 (La_17 y0 y1 y2 y3 y4 y5 lo hi mid v7 v8 v9 v10 (y5 &&& (3 : Int32)) tw b16 b17 b18 b19 b20 b22 (own_bot r7 r7 r8 r9) (own_top r7 r7 r8 r9)) [(.int 1), (.ref b19)]) (fun t_ k_ => XS.iconst X214.here hx rfl (hb hby at_431) k_) ?_
                      refine og T214 (mkF m 434 (La_17 y0 y1 y2 y3 y4 y5 lo hi mid v7 v8 v9 v10 (y5 &&& (3 : Int32)) tw b16 b17 b18 b19 b20 b22 (own_bot r7 r7 r8 r9) (own_top r7 r7 r8 r9)) [(.double v10), (.int 1), (.ref b19)]) (fun t_ k_ => XS.dload X214.here hx rfl (hb hby at_432) rfl k_) ?_
                      obtain ⟨cl219, Ar219, q219, S219, Nn219, H219, G219⟩ := id V214
                      have hin219 : ¬ ((1 : Int32) < 0 ∨ cl219.slots.size ≤ ((1 : Int32)).toNatClampNeg) := inb_of S219 ⟨by decide, by decide⟩
                      obtain ⟨T219, h219, X219, e219, W219, st219⟩ := stD X214 hx hZ e214 Ar219 (j := (1 : Int32)) hin219 (g := (mkF m 434 (La_17 y0 y1 y2 y3 y4 y5 lo hi mid v7 v8 v9 v10 (y5 &&& (3 : Int32)) tw b16 b17 b18 b19 b20 b22 (own_bot r7 r7 r8 r9) (own_top r7 r7 r8 r9)) [(.double v10), (.int 1), (.ref b19)])) rfl rfl (hb hby at_434)
                      have V219 : Arv Z h219 b19 k19 .double (4 : Int32) [(.double v7), (.double v10), (.double 0), (.double 0)] (.double 0) := Arv.set Ar219 q219 S219 Nn219 H219 G219 rfl W219 1 rfl (Nat.le_of_ble_eq_true rfl)
                      have z219 := W219.size
                      have N219 := Fr.snoc X219 N214 (show n0 ≤ b19 by omega)
                      refine og T219 (mkF m 435 (La_17 y0 y1 y2 y3 y4 y5 lo hi mid v7 v8 v9 v10 (y5 &&& (3 : Int32)) tw b16 b17 b18 b19 b20 b22 (own_bot r7 r7 r8 r9) (own_top r7 r7 r8 r9)) []) (fun t_ k_ => st219 _ k_) ?_
                      refine og T219 (mkF m 437 (La_17 y0 y1 y2 y3 y4 y5 lo hi mid v7 v8 v9 v10 (y5 &&& (3 : Int32)) tw b16 b17 b18 b19 b20 b22 (own_bot r7 r7 r8 r9) (own_top r7 r7 r8 r9)) [(.ref b19)]) (fun t_ k_ => XS.aload X219.here hx rfl (hb hby at_435) rfl rfl k_) ?_
                      refine og T219 (mkF m 438 (La_17 y0 y1 y2 y3 y4 y5 lo hi mid v7 v8 v9 v10 (y5 &&& (3 : Int32)) tw b16 b17 b18 b19 b20 b22 (own_bot r7 r7 r8 r9) (own_top r7 r7 r8 r9)) [(.int 2), (.ref b19)]) (fun t_ k_ => XS.iconst X219.here hx rfl (hb hby at_437) k_) ?_
                      refine og T219 (mkF m 440 (La_17 y0 y1 y2 y3 y4 y5 lo hi mid v7 v8 v9 v10 (y5 &&& (3 : Int32)) tw b16 b17 b18 b19 b20 b22 (own_bot r7 r7 r8 r9) (own_top r7 r7 r8 r9)) [(.double v8), (.int 2), (.ref b19)]) (fun t_ k_ => XS.dload X219.here hx rfl (hb hby at_438) rfl k_) ?_
                      obtain ⟨cl220, Ar220, q220, S220, Nn220, H220, G220⟩ := id V219
                      have hin220 : ¬ ((2 : Int32) < 0 ∨ cl220.slots.size ≤ ((2 : Int32)).toNatClampNeg) := inb_of S220 ⟨by decide, by decide⟩
                      obtain ⟨T220, h220, X220, e220, W220, st220⟩ := stD X219 hx hZ e219 Ar220 (j := (2 : Int32)) hin220 (g := (mkF m 440 (La_17 y0 y1 y2 y3 y4 y5 lo hi mid v7 v8 v9 v10 (y5 &&& (3 : Int32)) tw b16 b17 b18 b19 b20 b22 (own_bot r7 r7 r8 r9) (own_top r7 r7 r8 r9)) [(.double v8), (.int 2), (.ref b19)])) rfl rfl (hb hby at_440)
                      have V220 : Arv Z h220 b19 k19 .double (4 : Int32) [(.double v7), (.double v10), (.double v8), (.double 0)] (.double 0) := Arv.set Ar220 q220 S220 Nn220 H220 G220 rfl W220 2 rfl (Nat.le_of_ble_eq_true rfl)
                      have z220 := W220.size
                      have N220 := Fr.snoc X220 N219 (show n0 ≤ b19 by omega)
                      refine og T220 (mkF m 441 (La_17 y0 y1 y2 y3 y4 y5 lo hi mid v7 v8 v9 v10 (y5 &&& (3 : Int32)) tw b16 b17 b18 b19 b20 b22 (own_bot r7 r7 r8 r9) (own_top r7 r7 r8 r9)) []) (fun t_ k_ => st220 _ k_) ?_
                      refine og T220 (mkF m 443 (La_17 y0 y1 y2 y3 y4 y5 lo hi mid v7 v8 v9 v10 (y5 &&& (3 : Int32)) tw b16 b17 b18 b19 b20 b22 (own_bot r7 r7 r8 r9) (own_top r7 r7 r8 r9)) [(.ref b19)]) (fun t_ k_ => XS.aload X220.here hx rfl (hb hby at_441) rfl rfl k_) ?_
                      refine og T220 (mkF m 444 (La_17 y0 y1 y2 y3 y4 y5 lo hi mid v7 v8 v9 v10 (y5 &&& (3 : Int32)) tw b16 b17 b18 b19 b20 b22 (own_bot r7 r7 r8 r9) (own_top r7 r7 r8 r9)) [(.int 3), (.ref b19)]) (fun t_ k_ => XS.iconst X220.here hx rfl (hb hby at_443) k_) ?_
                      refine og T220 (mkF m 446 (La_17 y0 y1 y2 y3 y4 y5 lo hi mid v7 v8 v9 v10 (y5 &&& (3 : Int32)) tw b16 b17 b18 b19 b20 b22 (own_bot r7 r7 r8 r9) (own_top r7 r7 r8 r9)) [(.double v9), (.int 3), (.ref b19)]) (fun t_ k_ => XS.dload X220.here hx rfl (hb hby at_444) rfl k_) ?_
                      obtain ⟨cl221, Ar221, q221, S221, Nn221, H221, G221⟩ := id V220
                      have hin221 : ¬ ((3 : Int32) < 0 ∨ cl221.slots.size ≤ ((3 : Int32)).toNatClampNeg) := inb_of S221 ⟨by decide, by decide⟩
                      obtain ⟨T221, h221, X221, e221, W221, st221⟩ := stD X220 hx hZ e220 Ar221 (j := (3 : Int32)) hin221 (g := (mkF m 446 (La_17 y0 y1 y2 y3 y4 y5 lo hi mid v7 v8 v9 v10 (y5 &&& (3 : Int32)) tw b16 b17 b18 b19 b20 b22 (own_bot r7 r7 r8 r9) (own_top r7 r7 r8 r9)) [(.double v9), (.int 3), (.ref b19)])) rfl rfl (hb hby at_446)
                      have V221 : Arv Z h221 b19 k19 .double (4 : Int32) [(.double v7), (.double v10), (.double v8), (.double v9)] (.double 0) := Arv.set Ar221 q221 S221 Nn221 H221 G221 rfl W221 3 rfl (Nat.le_of_ble_eq_true rfl)
                      have z221 := W221.size
                      have N221 := Fr.snoc X221 N220 (show n0 ≤ b19 by omega)
                      refine og T221 (mkF m 447 (La_17 y0 y1 y2 y3 y4 y5 lo hi mid v7 v8 v9 v10 (y5 &&& (3 : Int32)) tw b16 b17 b18 b19 b20 b22 (own_bot r7 r7 r8 r9) (own_top r7 r7 r8 r9)) []) (fun t_ k_ => st221 _ k_) ?_
                      refine og T221 (mkF m 498 (La_17 y0 y1 y2 y3 y4 y5 lo hi mid v7 v8 v9 v10 (y5 &&& (3 : Int32)) tw b16 b17 b18 b19 b20 b22 (own_bot r7 r7 r8 r9) (own_top r7 r7 r8 r9)) []) (fun t_ k_ => XS.goto X221.here hx rfl (pc0 := 447) (pc' := 498) rfl (hb hby at_447) (by decide) (by decide) k_) ?_
                      refine og T221 (mkF m 500 (La_17 y0 y1 y2 y3 y4 y5 lo hi mid v7 v8 v9 v10 (y5 &&& (3 : Int32)) tw b16 b17 b18 b19 b20 b22 (own_bot r7 r7 r8 r9) (own_top r7 r7 r8 r9)) [(.ref b20)]) (fun t_ k_ => XS.aload X221.here hx rfl (hb hby at_498) rfl rfl k_) ?_
                      refine og T221 (mkF m 502 (La_17 y0 y1 y2 y3 y4 y5 lo hi mid v7 v8 v9 v10 (y5 &&& (3 : Int32)) tw b16 b17 b18 b19 b20 b22 (own_bot r7 r7 r8 r9) (own_top r7 r7 r8 r9)) [(.long lo), (.ref b20)]) (fun t_ k_ => XS.lload X221.here hx rfl (hb hby at_500) rfl k_) ?_
                      refine og T221 (mkF m 504 (La_17 y0 y1 y2 y3 y4 y5 lo hi mid v7 v8 v9 v10 (y5 &&& (3 : Int32)) tw b16 b17 b18 b19 b20 b22 (own_bot r7 r7 r8 r9) (own_top r7 r7 r8 r9)) [(.double v7), (.long lo), (.ref b20)]) (fun t_ k_ => XS.dload X221.here hx rfl (hb hby at_502) rfl k_) ?_
                      refine og T221 (mkF m 506 (La_17 y0 y1 y2 y3 y4 y5 lo hi mid v7 v8 v9 v10 (y5 &&& (3 : Int32)) tw b16 b17 b18 b19 b20 b22 (own_bot r7 r7 r8 r9) (own_top r7 r7 r8 r9)) [(.long hi), (.double v7), (.long lo), (.ref b20)]) (fun t_ k_ => XS.lload X221.here hx rfl (hb hby at_504) rfl k_) ?_
                      refine og T221 (mkF m 508 (La_17 y0 y1 y2 y3 y4 y5 lo hi mid v7 v8 v9 v10 (y5 &&& (3 : Int32)) tw b16 b17 b18 b19 b20 b22 (own_bot r7 r7 r8 r9) (own_top r7 r7 r8 r9)) [(.double v9), (.long hi), (.double v7), (.long lo), (.ref b20)]) (fun t_ k_ => XS.dload X221.here hx rfl (hb hby at_506) rfl k_) ?_
                      refine og T221 (mkF m 510 (La_17 y0 y1 y2 y3 y4 y5 lo hi mid v7 v8 v9 v10 (y5 &&& (3 : Int32)) tw b16 b17 b18 b19 b20 b22 (own_bot r7 r7 r8 r9) (own_top r7 r7 r8 r9)) [(.ref b16), (.double v9), (.long hi), (.double v7), (.long lo), (.ref b20)]) (fun t_ k_ => XS.aload X221.here hx rfl (hb hby at_508) rfl rfl k_) ?_
                      refine og T221 (mkF m 512 (La_17 y0 y1 y2 y3 y4 y5 lo hi mid v7 v8 v9 v10 (y5 &&& (3 : Int32)) tw b16 b17 b18 b19 b20 b22 (own_bot r7 r7 r8 r9) (own_top r7 r7 r8 r9)) [(.int (own_bot r7 r7 r8 r9)), (.ref b16), (.double v9), (.long hi), (.double v7), (.long lo), (.ref b20)]) (fun t_ k_ => XS.iload X221.here hx rfl (hb hby at_510) rfl k_) ?_
                      have ff223 := ((((((((ff38.other W207 (Ne.symm nq208)).other W211 (Ne.symm nq208)).other W212 (Ne.symm nq208)).other W213 (Ne.symm nq208)).other W214 (Ne.symm nq215)).other W219 (Ne.symm nq215)).other W220 (Ne.symm nq215)).other W221 (Ne.symm nq215))
                      obtain ⟨cl222, Ar222, -, S222, Nn222, H222, -⟩ := id ff223
                      have hin222 : ¬ ((own_bot r7 r7 r8 r9) < 0 ∨ cl222.slots.size ≤ ((own_bot r7 r7 r8 r9)).toNatClampNeg) := inb_of S222 (own_in4 Ib)
                      refine og T221 (mkF m 513 (La_17 y0 y1 y2 y3 y4 y5 lo hi mid v7 v8 v9 v10 (y5 &&& (3 : Int32)) tw b16 b17 b18 b19 b20 b22 (own_bot r7 r7 r8 r9) (own_top r7 r7 r8 r9)) [(.long (own_g4 (own_bot r7 r7 r8 r9) lo lo mid hi)), (.double v9), (.long hi), (.double v7), (.long lo), (.ref b20)]) (fun t_ k_ => X221.laload hx (j := (own_bot r7 r7 r8 r9)) (v := (.long (own_g4 (own_bot r7 r7 r8 r9) lo lo mid hi))) (by rw [e221]; exact Ar222.1) (State.isArrayOf_alike hZ.alike Ar222.2.1) Ar222.2.2 hin222 (H222.at hin222 (own_atJ Ib _ _ _ _)) (g := (mkF m 512 (La_17 y0 y1 y2 y3 y4 y5 lo hi mid v7 v8 v9 v10 (y5 &&& (3 : Int32)) tw b16 b17 b18 b19 b20 b22 (own_bot r7 r7 r8 r9) (own_top r7 r7 r8 r9)) [(.int (own_bot r7 r7 r8 r9)), (.ref b16), (.double v9), (.long hi), (.double v7), (.long lo), (.ref b20)])) rfl rfl (hb hby at_512) _ k_) ?_
                      refine og T221 (mkF m 515 (La_17 y0 y1 y2 y3 y4 y5 lo hi mid v7 v8 v9 v10 (y5 &&& (3 : Int32)) tw b16 b17 b18 b19 b20 b22 (own_bot r7 r7 r8 r9) (own_top r7 r7 r8 r9)) [(.ref b17), (.long (own_g4 (own_bot r7 r7 r8 r9) lo lo mid hi)), (.double v9), (.long hi), (.double v7), (.long lo), (.ref b20)]) (fun t_ k_ => XS.aload X221.here hx rfl (hb hby at_513) rfl rfl k_) ?_
                      refine og T221 (mkF m 517 (La_17 y0 y1 y2 y3 y4 y5 lo hi mid v7 v8 v9 v10 (y5 &&& (3 : Int32)) tw b16 b17 b18 b19 b20 b22 (own_bot r7 r7 r8 r9) (own_top r7 r7 r8 r9)) [(.int (own_bot r7 r7 r8 r9)), (.ref b17), (.long (own_g4 (own_bot r7 r7 r8 r9) lo lo mid hi)), (.double v9), (.long hi), (.double v7), (.long lo), (.ref b20)]) (fun t_ k_ => XS.iload X221.here hx rfl (hb hby at_515) rfl k_) ?_
                      have ff225 := ((((((((V34.other W207 (Ne.symm nq209)).other W211 (Ne.symm nq209)).other W212 (Ne.symm nq209)).other W213 (Ne.symm nq209)).other W214 (Ne.symm nq216)).other W219 (Ne.symm nq216)).other W220 (Ne.symm nq216)).other W221 (Ne.symm nq216))
                      obtain ⟨cl224, Ar224, -, S224, Nn224, H224, -⟩ := id ff225
                      have hin224 : ¬ ((own_bot r7 r7 r8 r9) < 0 ∨ cl224.slots.size ≤ ((own_bot r7 r7 r8 r9)).toNatClampNeg) := inb_of S224 (own_in4 Ib)
                      refine og T221 (mkF m 518 (La_17 y0 y1 y2 y3 y4 y5 lo hi mid v7 v8 v9 v10 (y5 &&& (3 : Int32)) tw b16 b17 b18 b19 b20 b22 (own_bot r7 r7 r8 r9) (own_top r7 r7 r8 r9)) [(.double (own_g4 (own_bot r7 r7 r8 r9) v7 v7 v8 v9)), (.long (own_g4 (own_bot r7 r7 r8 r9) lo lo mid hi)), (.double v9), (.long hi), (.double v7), (.long lo), (.ref b20)]) (fun t_ k_ => X221.daload hx (j := (own_bot r7 r7 r8 r9)) (v := (.double (own_g4 (own_bot r7 r7 r8 r9) v7 v7 v8 v9))) (by rw [e221]; exact Ar224.1) (State.isArrayOf_alike hZ.alike Ar224.2.1) Ar224.2.2 hin224 (H224.at hin224 (own_atD Ib _ _ _ _)) (g := (mkF m 517 (La_17 y0 y1 y2 y3 y4 y5 lo hi mid v7 v8 v9 v10 (y5 &&& (3 : Int32)) tw b16 b17 b18 b19 b20 b22 (own_bot r7 r7 r8 r9) (own_top r7 r7 r8 r9)) [(.int (own_bot r7 r7 r8 r9)), (.ref b17), (.long (own_g4 (own_bot r7 r7 r8 r9) lo lo mid hi)), (.double v9), (.long hi), (.double v7), (.long lo), (.ref b20)])) rfl rfl (hb hby at_517) _ k_) ?_
                      refine og T221 (mkF m 520 (La_17 y0 y1 y2 y3 y4 y5 lo hi mid v7 v8 v9 v10 (y5 &&& (3 : Int32)) tw b16 b17 b18 b19 b20 b22 (own_bot r7 r7 r8 r9) (own_top r7 r7 r8 r9)) [(.ref b16), (.double (own_g4 (own_bot r7 r7 r8 r9) v7 v7 v8 v9)), (.long (own_g4 (own_bot r7 r7 r8 r9) lo lo mid hi)), (.double v9), (.long hi), (.double v7), (.long lo), (.ref b20)]) (fun t_ k_ => XS.aload X221.here hx rfl (hb hby at_518) rfl rfl k_) ?_
                      refine og T221 (mkF m 522 (La_17 y0 y1 y2 y3 y4 y5 lo hi mid v7 v8 v9 v10 (y5 &&& (3 : Int32)) tw b16 b17 b18 b19 b20 b22 (own_bot r7 r7 r8 r9) (own_top r7 r7 r8 r9)) [(.int (own_top r7 r7 r8 r9)), (.ref b16), (.double (own_g4 (own_bot r7 r7 r8 r9) v7 v7 v8 v9)), (.long (own_g4 (own_bot r7 r7 r8 r9) lo lo mid hi)), (.double v9), (.long hi), (.double v7), (.long lo), (.ref b20)]) (fun t_ k_ => XS.iload X221.here hx rfl (hb hby at_520) rfl k_) ?_
                      obtain ⟨cl226, Ar226, -, S226, Nn226, H226, -⟩ := id ff223
                      have hin226 : ¬ ((own_top r7 r7 r8 r9) < 0 ∨ cl226.slots.size ≤ ((own_top r7 r7 r8 r9)).toNatClampNeg) := inb_of S226 (own_in4 It)
                      refine og T221 (mkF m 523 (La_17 y0 y1 y2 y3 y4 y5 lo hi mid v7 v8 v9 v10 (y5 &&& (3 : Int32)) tw b16 b17 b18 b19 b20 b22 (own_bot r7 r7 r8 r9) (own_top r7 r7 r8 r9)) [(.long (own_g4 (own_top r7 r7 r8 r9) lo lo mid hi)), (.double (own_g4 (own_bot r7 r7 r8 r9) v7 v7 v8 v9)), (.long (own_g4 (own_bot r7 r7 r8 r9) lo lo mid hi)), (.double v9), (.long hi), (.double v7), (.long lo), (.ref b20)]) (fun t_ k_ => X221.laload hx (j := (own_top r7 r7 r8 r9)) (v := (.long (own_g4 (own_top r7 r7 r8 r9) lo lo mid hi))) (by rw [e221]; exact Ar226.1) (State.isArrayOf_alike hZ.alike Ar226.2.1) Ar226.2.2 hin226 (H226.at hin226 (own_atJ It _ _ _ _)) (g := (mkF m 522 (La_17 y0 y1 y2 y3 y4 y5 lo hi mid v7 v8 v9 v10 (y5 &&& (3 : Int32)) tw b16 b17 b18 b19 b20 b22 (own_bot r7 r7 r8 r9) (own_top r7 r7 r8 r9)) [(.int (own_top r7 r7 r8 r9)), (.ref b16), (.double (own_g4 (own_bot r7 r7 r8 r9) v7 v7 v8 v9)), (.long (own_g4 (own_bot r7 r7 r8 r9) lo lo mid hi)), (.double v9), (.long hi), (.double v7), (.long lo), (.ref b20)])) rfl rfl (hb hby at_522) _ k_) ?_
                      refine og T221 (mkF m 525 (La_17 y0 y1 y2 y3 y4 y5 lo hi mid v7 v8 v9 v10 (y5 &&& (3 : Int32)) tw b16 b17 b18 b19 b20 b22 (own_bot r7 r7 r8 r9) (own_top r7 r7 r8 r9)) [(.ref b17), (.long (own_g4 (own_top r7 r7 r8 r9) lo lo mid hi)), (.double (own_g4 (own_bot r7 r7 r8 r9) v7 v7 v8 v9)), (.long (own_g4 (own_bot r7 r7 r8 r9) lo lo mid hi)), (.double v9), (.long hi), (.double v7), (.long lo), (.ref b20)]) (fun t_ k_ => XS.aload X221.here hx rfl (hb hby at_523) rfl rfl k_) ?_
                      refine og T221 (mkF m 527 (La_17 y0 y1 y2 y3 y4 y5 lo hi mid v7 v8 v9 v10 (y5 &&& (3 : Int32)) tw b16 b17 b18 b19 b20 b22 (own_bot r7 r7 r8 r9) (own_top r7 r7 r8 r9)) [(.int (own_top r7 r7 r8 r9)), (.ref b17), (.long (own_g4 (own_top r7 r7 r8 r9) lo lo mid hi)), (.double (own_g4 (own_bot r7 r7 r8 r9) v7 v7 v8 v9)), (.long (own_g4 (own_bot r7 r7 r8 r9) lo lo mid hi)), (.double v9), (.long hi), (.double v7), (.long lo), (.ref b20)]) (fun t_ k_ => XS.iload X221.here hx rfl (hb hby at_525) rfl k_) ?_
                      obtain ⟨cl227, Ar227, -, S227, Nn227, H227, -⟩ := id ff225
                      have hin227 : ¬ ((own_top r7 r7 r8 r9) < 0 ∨ cl227.slots.size ≤ ((own_top r7 r7 r8 r9)).toNatClampNeg) := inb_of S227 (own_in4 It)
                      refine og T221 (mkF m 528 (La_17 y0 y1 y2 y3 y4 y5 lo hi mid v7 v8 v9 v10 (y5 &&& (3 : Int32)) tw b16 b17 b18 b19 b20 b22 (own_bot r7 r7 r8 r9) (own_top r7 r7 r8 r9)) [(.double (own_g4 (own_top r7 r7 r8 r9) v7 v7 v8 v9)), (.long (own_g4 (own_top r7 r7 r8 r9) lo lo mid hi)), (.double (own_g4 (own_bot r7 r7 r8 r9) v7 v7 v8 v9)), (.long (own_g4 (own_bot r7 r7 r8 r9) lo lo mid hi)), (.double v9), (.long hi), (.double v7), (.long lo), (.ref b20)]) (fun t_ k_ => X221.daload hx (j := (own_top r7 r7 r8 r9)) (v := (.double (own_g4 (own_top r7 r7 r8 r9) v7 v7 v8 v9))) (by rw [e221]; exact Ar227.1) (State.isArrayOf_alike hZ.alike Ar227.2.1) Ar227.2.2 hin227 (H227.at hin227 (own_atD It _ _ _ _)) (g := (mkF m 527 (La_17 y0 y1 y2 y3 y4 y5 lo hi mid v7 v8 v9 v10 (y5 &&& (3 : Int32)) tw b16 b17 b18 b19 b20 b22 (own_bot r7 r7 r8 r9) (own_top r7 r7 r8 r9)) [(.int (own_top r7 r7 r8 r9)), (.ref b17), (.long (own_g4 (own_top r7 r7 r8 r9) lo lo mid hi)), (.double (own_g4 (own_bot r7 r7 r8 r9) v7 v7 v8 v9)), (.long (own_g4 (own_bot r7 r7 r8 r9) lo lo mid hi)), (.double v9), (.long hi), (.double v7), (.long lo), (.ref b20)])) rfl rfl (hb hby at_527) _ k_) ?_
                      have ff229 := (((((((((((((((((A20.ext E22).wr W24).wr W26).wr W27).wr W28).wr W29).wr W32).wr W33).wr W34).wr W207).wr W211).wr W212).wr W213).wr W214).wr W219).wr W220).wr W221)
                      have nq230 : b20 ≠ b16 := own_ne (by omega)
                      have nq231 : b20 ≠ b17 := own_ne (by omega)
                      have nq232 : b20 ≠ b18 := own_ne (by omega)
                      have nq233 : b20 ≠ b19 := own_ne (by omega)
                      have ff234 := (((((((((((((((((F20_m_nFirstTimestamp.ext E22).other W24 (Or.inl nq230)).other W26 (Or.inl nq230)).other W27 (Or.inl nq230)).other W28 (Or.inl nq230)).other W29 (Or.inl nq231)).other W32 (Or.inl nq231)).other W33 (Or.inl nq231)).other W34 (Or.inl nq231)).other W207 (Or.inl nq232)).other W211 (Or.inl nq232)).other W212 (Or.inl nq232)).other W213 (Or.inl nq232)).other W214 (Or.inl nq233)).other W219 (Or.inl nq233)).other W220 (Or.inl nq233)).other W221 (Or.inl nq233))
                      have ff235 := (((((((((((((((((F20_m_dFirstValue.ext E22).other W24 (Or.inl nq230)).other W26 (Or.inl nq230)).other W27 (Or.inl nq230)).other W28 (Or.inl nq230)).other W29 (Or.inl nq231)).other W32 (Or.inl nq231)).other W33 (Or.inl nq231)).other W34 (Or.inl nq231)).other W207 (Or.inl nq232)).other W211 (Or.inl nq232)).other W212 (Or.inl nq232)).other W213 (Or.inl nq232)).other W214 (Or.inl nq233)).other W219 (Or.inl nq233)).other W220 (Or.inl nq233)).other W221 (Or.inl nq233))
                      have ff236 := (((((((((((((((((F20_m_nLastTimestamp.ext E22).other W24 (Or.inl nq230)).other W26 (Or.inl nq230)).other W27 (Or.inl nq230)).other W28 (Or.inl nq230)).other W29 (Or.inl nq231)).other W32 (Or.inl nq231)).other W33 (Or.inl nq231)).other W34 (Or.inl nq231)).other W207 (Or.inl nq232)).other W211 (Or.inl nq232)).other W212 (Or.inl nq232)).other W213 (Or.inl nq232)).other W214 (Or.inl nq233)).other W219 (Or.inl nq233)).other W220 (Or.inl nq233)).other W221 (Or.inl nq233))
                      have ff237 := (((((((((((((((((F20_m_dLastValue.ext E22).other W24 (Or.inl nq230)).other W26 (Or.inl nq230)).other W27 (Or.inl nq230)).other W28 (Or.inl nq230)).other W29 (Or.inl nq231)).other W32 (Or.inl nq231)).other W33 (Or.inl nq231)).other W34 (Or.inl nq231)).other W207 (Or.inl nq232)).other W211 (Or.inl nq232)).other W212 (Or.inl nq232)).other W213 (Or.inl nq232)).other W214 (Or.inl nq233)).other W219 (Or.inl nq233)).other W220 (Or.inl nq233)).other W221 (Or.inl nq233))
                      have ff238 := (((((((((((((((((F20_m_nBottomTimestamp.ext E22).other W24 (Or.inl nq230)).other W26 (Or.inl nq230)).other W27 (Or.inl nq230)).other W28 (Or.inl nq230)).other W29 (Or.inl nq231)).other W32 (Or.inl nq231)).other W33 (Or.inl nq231)).other W34 (Or.inl nq231)).other W207 (Or.inl nq232)).other W211 (Or.inl nq232)).other W212 (Or.inl nq232)).other W213 (Or.inl nq232)).other W214 (Or.inl nq233)).other W219 (Or.inl nq233)).other W220 (Or.inl nq233)).other W221 (Or.inl nq233))
                      have ff239 := (((((((((((((((((F20_m_dBottomValue.ext E22).other W24 (Or.inl nq230)).other W26 (Or.inl nq230)).other W27 (Or.inl nq230)).other W28 (Or.inl nq230)).other W29 (Or.inl nq231)).other W32 (Or.inl nq231)).other W33 (Or.inl nq231)).other W34 (Or.inl nq231)).other W207 (Or.inl nq232)).other W211 (Or.inl nq232)).other W212 (Or.inl nq232)).other W213 (Or.inl nq232)).other W214 (Or.inl nq233)).other W219 (Or.inl nq233)).other W220 (Or.inl nq233)).other W221 (Or.inl nq233))
                      have ff240 := (((((((((((((((((F20_m_nTopTimestamp.ext E22).other W24 (Or.inl nq230)).other W26 (Or.inl nq230)).other W27 (Or.inl nq230)).other W28 (Or.inl nq230)).other W29 (Or.inl nq231)).other W32 (Or.inl nq231)).other W33 (Or.inl nq231)).other W34 (Or.inl nq231)).other W207 (Or.inl nq232)).other W211 (Or.inl nq232)).other W212 (Or.inl nq232)).other W213 (Or.inl nq232)).other W214 (Or.inl nq233)).other W219 (Or.inl nq233)).other W220 (Or.inl nq233)).other W221 (Or.inl nq233))
                      have ff241 := (((((((((((((((((F20_m_dTopValue.ext E22).other W24 (Or.inl nq230)).other W26 (Or.inl nq230)).other W27 (Or.inl nq230)).other W28 (Or.inl nq230)).other W29 (Or.inl nq231)).other W32 (Or.inl nq231)).other W33 (Or.inl nq231)).other W34 (Or.inl nq231)).other W207 (Or.inl nq232)).other W211 (Or.inl nq232)).other W212 (Or.inl nq232)).other W213 (Or.inl nq232)).other W214 (Or.inl nq233)).other W219 (Or.inl nq233)).other W220 (Or.inl nq233)).other W221 (Or.inl nq233))
                      obtain ⟨cq228, kq228, q228a, q228b, q228c⟩ := isOf hZ e221 ff229
                      obtain ⟨_, _, ⟨T228, L228, k228, n228⟩, -, X228, ⟨Lc228, hQ228, l228, y228, z228⟩, st228⟩ := X221.virtualBack hx (y := ym_6) (z := ym_6) hown (mvT hZ (own_w hw 28 rfl)) (mvT hZ (own_w hw 29 rfl)) (notFace_of_selects (args := #[]) (mvT hZ (own_w hw 31 rfl))) (mvT hZ (own_w hw 31 rfl)) (mvT hZ (own_w hw 30 rfl)) (by decide) (backOf (W := 0) (rm_set l Z a0 hw [] b20 lo v7 hi v9 (own_g4 (own_bot r7 r7 r8 r9) lo lo mid hi) (own_g4 (own_bot r7 r7 r8 r9) v7 v7 v8 v9) (own_g4 (own_top r7 r7 r8 r9) lo lo mid hi) (own_g4 (own_top r7 r7 r8 r9) v7 v7 v8 v9) (0 : Int64) 0 (0 : Int64) 0 (0 : Int64) 0 (0 : Int64) 0 h221 n0 (show n0 ≤ h221.size by omega) ff229 ff234 ff235 ff236 ff237 ff238 ff239 ff240 ff241 (show n0 ≤ b20 by omega)) hZ (own_w hw 32 rfl) (own_w hw 15 rfl) (by decide) (by decide)) q228a q228c (g := (mkF m 528 (La_17 y0 y1 y2 y3 y4 y5 lo hi mid v7 v8 v9 v10 (y5 &&& (3 : Int32)) tw b16 b17 b18 b19 b20 b22 (own_bot r7 r7 r8 r9) (own_top r7 r7 r8 r9)) [(.double (own_g4 (own_top r7 r7 r8 r9) v7 v7 v8 v9)), (.long (own_g4 (own_top r7 r7 r8 r9) lo lo mid hi)), (.double (own_g4 (own_bot r7 r7 r8 r9) v7 v7 v8 v9)), (.long (own_g4 (own_bot r7 r7 r8 r9) lo lo mid hi)), (.double v9), (.long hi), (.double v7), (.long lo), (.ref b20)])) rfl (by rw [hml]; rfl) (Steps.refl _) (argsL := [(.long lo), (.double v7), (.long hi), (.double v9), (.long (own_g4 (own_bot r7 r7 r8 r9) lo lo mid hi)), (.double (own_g4 (own_bot r7 r7 r8 r9) v7 v7 v8 v9)), (.long (own_g4 (own_top r7 r7 r8 r9) lo lo mid hi)), (.double (own_g4 (own_top r7 r7 r8 r9) v7 v7 v8 v9))]) (rest := []) (lenOf pd_7 rfl) rfl (by show 2 * 0 + _ ≤ _; exact Nat.le_of_eq rfl) (hb hby at_528) (fun _ _ => ⟨rfl, e221, (by decide : 6 + 0 ≤ _), (by decide : 32 + 0 ≤ _)⟩)
                      dsimp only [Pt.U, Pt.locs, Pt.cells, Pt.slots] at X228 l228 y228 z228 st228 hQ228
                      replace l228 := l228.symm; replace y228 := y228.symm; replace z228 := z228.symm; subst l228 y228 z228
                      obtain ⟨rfl, M228, K228_, f228_0, f228_1, f228_2, f228_3, f228_4, f228_5, f228_6, f228_7⟩ := hQ228
                      have zz228 := K228_.1
                      have N228 := Fr.app N221 M228
                      refine og T228 (mkF m 531 (La_17 y0 y1 y2 y3 y4 y5 lo hi mid v7 v8 v9 v10 (y5 &&& (3 : Int32)) tw b16 b17 b18 b19 b20 b22 (own_bot r7 r7 r8 r9) (own_top r7 r7 r8 r9)) []) (fun t_ k_ => st228.trans k_) ?_
                      refine og T228 (mkF m 533 (La_17 y0 y1 y2 y3 y4 y5 lo hi mid v7 v8 v9 v10 (y5 &&& (3 : Int32)) tw b16 b17 b18 b19 b20 b22 (own_bot r7 r7 r8 r9) (own_top r7 r7 r8 r9)) [(.ref b20)]) (fun t_ k_ => XS.aload X228.here hx rfl (hb hby at_531) rfl rfl k_) ?_
                      refine og T228 (mkF m 535 (La_17 y0 y1 y2 y3 y4 y5 lo hi mid v7 v8 v9 v10 (y5 &&& (3 : Int32)) tw b16 b17 b18 b19 b20 b22 (own_bot r7 r7 r8 r9) (own_top r7 r7 r8 r9)) [(.long tw), (.ref b20)]) (fun t_ k_ => XS.lload X228.here hx rfl (hb hby at_533) rfl k_) ?_
                      refine og T228 (mkF m 537 (La_17 y0 y1 y2 y3 y4 y5 lo hi mid v7 v8 v9 v10 (y5 &&& (3 : Int32)) tw b16 b17 b18 b19 b20 b22 (own_bot r7 r7 r8 r9) (own_top r7 r7 r8 r9)) [(.double v10), (.long tw), (.ref b20)]) (fun t_ k_ => XS.dload X228.here hx rfl (hb hby at_535) rfl k_) ?_
                      have ff243 := (ff229.keep K228_)
                      obtain ⟨cq242, kq242, q242a, q242b, q242c⟩ := isOf hZ rfl ff243
                      obtain ⟨_, _, ⟨T242, L242, k242, n242⟩, -, X242, ⟨Lc242, hQ242, l242, y242, z242⟩, st242⟩ := X228.virtualBack hx (y := ym_7) (z := ym_7) hown (mvT hZ (own_w hw 49 rfl)) (mvT hZ (own_w hw 50 rfl)) (notFace_of_selects (args := #[]) (mvT hZ (own_w hw 52 rfl))) (mvT hZ (own_w hw 52 rfl)) (mvT hZ (own_w hw 51 rfl)) (by decide) (backOf (W := 0) (rm_weigh l Z a0 hw [] b20 tw v10 lo v7 hi v9 (own_g4 (own_bot r7 r7 r8 r9) lo lo mid hi) (own_g4 (own_bot r7 r7 r8 r9) v7 v7 v8 v9) (own_g4 (own_top r7 r7 r8 r9) lo lo mid hi) (own_g4 (own_top r7 r7 r8 r9) v7 v7 v8 v9) r10 (own_g4 (own_bot r7 r7 r8 r9) r7 r7 r8 r9) (own_g4 (own_top r7 r7 r8 r9) r7 r7 r8 r9) T228.heap n0 (show n0 ≤ T228.heap.size by omega) ff243 f228_0 f228_1 f228_2 f228_3 f228_4 f228_5 f228_6 f228_7 f10_0 (own_gD Ib f7_0 f7_0 f8_0 f9_0) (own_gD It f7_0 f7_0 f8_0 f9_0) (show n0 ≤ b20 by omega) nlohi) hZ (own_w hw 53 rfl) (own_w hw 15 rfl) (by decide) (by decide)) q242a q242c (g := (mkF m 537 (La_17 y0 y1 y2 y3 y4 y5 lo hi mid v7 v8 v9 v10 (y5 &&& (3 : Int32)) tw b16 b17 b18 b19 b20 b22 (own_bot r7 r7 r8 r9) (own_top r7 r7 r8 r9)) [(.double v10), (.long tw), (.ref b20)])) rfl (by rw [hml]; rfl) (Steps.refl _) (argsL := [(.long tw), (.double v10)]) (rest := []) (lenOf pd_8 rfl) rfl (by show 2 * 0 + _ ≤ _; exact Nat.le_of_eq rfl) (hb hby at_537) (fun _ _ => ⟨rfl, rfl, (by decide : 6 + 0 ≤ _), (by decide : 32 + 0 ≤ _)⟩)
                      dsimp only [Pt.U, Pt.locs, Pt.cells, Pt.slots] at X242 l242 y242 z242 st242 hQ242
                      replace l242 := l242.symm; replace y242 := y242.symm; replace z242 := z242.symm; subst l242 y242 z242
                      obtain ⟨rfl, M242, K242_, f242_0, f242_1, f242_2, f242_3, f242_4, f242_5, f242_6, f242_7⟩ := hQ242
                      have zz242 := K242_.1
                      have N242 := Fr.app N228 M242
                      refine og T242 (mkF m 540 (La_17 y0 y1 y2 y3 y4 y5 lo hi mid v7 v8 v9 v10 (y5 &&& (3 : Int32)) tw b16 b17 b18 b19 b20 b22 (own_bot r7 r7 r8 r9) (own_top r7 r7 r8 r9)) []) (fun t_ k_ => st242.trans k_) ?_
                      refine og T242 (mkF m 542 (La_17 y0 y1 y2 y3 y4 y5 lo hi mid v7 v8 v9 v10 (y5 &&& (3 : Int32)) tw b16 b17 b18 b19 b20 b22 (own_bot r7 r7 r8 r9) (own_top r7 r7 r8 r9)) [(.ref b19)]) (fun t_ k_ => XS.aload X242.here hx rfl (hb hby at_540) rfl rfl k_) ?_
                      have ff245 := ((V221.keep K228_ (ninS (Ne.symm nq233) nin0)).keep K242_ (ninS (Ne.symm nq233) nin0))
                      obtain ⟨_, _, ⟨T244, L244, k244, n244⟩, -, X244, ⟨Lc244, hQ244, l244, y244, z244⟩, st244⟩ := Jvm.LawKit.callS X242 hx (y := ym_4) hown (mvT hZ (own_w hw 22 rfl)) (mvT hZ (own_w hw 23 rfl)) (mvT hZ (own_w hw 9 rfl)) (mvT hZ (own_w hw 24 rfl)) (by decide) (backOf (W := 0) (rm_bottomAt l Z a0 hw [] b19 v7 v10 v8 v9 r7 r10 r8 r9 k19 T242.heap n0 (show n0 ≤ T242.heap.size by omega) f7_0 f10_0 f8_0 f9_0 ff245) hZ (own_w hw 24 rfl) (own_w hw 9 rfl) (by decide) (by decide)) (g := (mkF m 542 (La_17 y0 y1 y2 y3 y4 y5 lo hi mid v7 v8 v9 v10 (y5 &&& (3 : Int32)) tw b16 b17 b18 b19 b20 b22 (own_bot r7 r7 r8 r9) (own_top r7 r7 r8 r9)) [(.ref b19)])) rfl (by rw [hml]; rfl) (argsL := [(.ref b19)]) (rest := []) (lenOf pd_6 rfl) rfl (by show 2 * 0 + _ ≤ _; exact Nat.le_of_eq rfl) (hb hby at_542) (fun _ _ => ⟨rfl, rfl, (by decide : 6 + 0 ≤ _), (by decide : 32 + 0 ≤ _)⟩)
                      dsimp only [Pt.U, Pt.locs, Pt.cells, Pt.slots] at X244 l244 y244 z244 st244 hQ244
                      replace l244 := l244.symm; replace y244 := y244.symm; replace z244 := z244.symm; subst l244 y244 z244
                      obtain ⟨rfl, M244, e244⟩ := hQ244
                      have N244 := Fr.app N242 M244
                      refine og T244 (mkF m 545 (La_17 y0 y1 y2 y3 y4 y5 lo hi mid v7 v8 v9 v10 (y5 &&& (3 : Int32)) tw b16 b17 b18 b19 b20 b22 (own_bot r7 r7 r8 r9) (own_top r7 r7 r8 r9)) [(.int (own_bot r7 r10 r8 r9))]) (fun t_ k_ => st244 _ k_) ?_
                      refine og T244 (mkF m 547 (La_18 y0 y1 y2 y3 y4 y5 lo hi mid v7 v8 v9 v10 (y5 &&& (3 : Int32)) tw b16 b17 b18 b19 b20 b22 (own_bot r7 r7 r8 r9) (own_top r7 r7 r8 r9) (own_bot r7 r10 r8 r9)) []) (fun t_ k_ => XS.istore X244.here hx rfl (hb hby at_545) rfl (l' := (La_18 y0 y1 y2 y3 y4 y5 lo hi mid v7 v8 v9 v10 (y5 &&& (3 : Int32)) tw b16 b17 b18 b19 b20 b22 (own_bot r7 r7 r8 r9) (own_top r7 r7 r8 r9) (own_bot r7 r10 r8 r9))) rfl k_) ?_
                      refine og T244 (mkF m 549 (La_18 y0 y1 y2 y3 y4 y5 lo hi mid v7 v8 v9 v10 (y5 &&& (3 : Int32)) tw b16 b17 b18 b19 b20 b22 (own_bot r7 r7 r8 r9) (own_top r7 r7 r8 r9) (own_bot r7 r10 r8 r9)) [(.ref b19)]) (fun t_ k_ => XS.aload X244.here hx rfl (hb hby at_547) rfl rfl k_) ?_
                      obtain ⟨_, _, ⟨T246, L246, k246, n246⟩, -, X246, ⟨Lc246, hQ246, l246, y246, z246⟩, st246⟩ := Jvm.LawKit.callS X244 hx (y := ym_5) hown (mvT hZ (own_w hw 25 rfl)) (mvT hZ (own_w hw 26 rfl)) (mvT hZ (own_w hw 9 rfl)) (mvT hZ (own_w hw 27 rfl)) (by decide) (backOf (W := 0) (rm_topAt l Z a0 hw [] b19 v7 v10 v8 v9 r7 r10 r8 r9 k19 T242.heap n0 (show n0 ≤ T242.heap.size by omega) f7_0 f10_0 f8_0 f9_0 ff245) hZ (own_w hw 27 rfl) (own_w hw 9 rfl) (by decide) (by decide)) (g := (mkF m 549 (La_18 y0 y1 y2 y3 y4 y5 lo hi mid v7 v8 v9 v10 (y5 &&& (3 : Int32)) tw b16 b17 b18 b19 b20 b22 (own_bot r7 r7 r8 r9) (own_top r7 r7 r8 r9) (own_bot r7 r10 r8 r9)) [(.ref b19)])) rfl (by rw [hml]; rfl) (argsL := [(.ref b19)]) (rest := []) (lenOf pd_6 rfl) rfl (by show 2 * 0 + _ ≤ _; exact Nat.le_of_eq rfl) (hb hby at_549) (fun _ _ => ⟨rfl, e244, (by decide : 6 + 0 ≤ _), (by decide : 32 + 0 ≤ _)⟩)
                      dsimp only [Pt.U, Pt.locs, Pt.cells, Pt.slots] at X246 l246 y246 z246 st246 hQ246
                      replace l246 := l246.symm; replace y246 := y246.symm; replace z246 := z246.symm; subst l246 y246 z246
                      obtain ⟨rfl, M246, e246⟩ := hQ246
                      have N246 := Fr.app N244 M246
                      refine og T246 (mkF m 552 (La_18 y0 y1 y2 y3 y4 y5 lo hi mid v7 v8 v9 v10 (y5 &&& (3 : Int32)) tw b16 b17 b18 b19 b20 b22 (own_bot r7 r7 r8 r9) (own_top r7 r7 r8 r9) (own_bot r7 r10 r8 r9)) [(.int (own_top r7 r10 r8 r9))]) (fun t_ k_ => st246 _ k_) ?_
                      have Jb := own_botI r7 r10 r8 r9
                      have Jt := own_topI r7 r10 r8 r9
                      refine og T246 (mkF m 554 (La_19 y0 y1 y2 y3 y4 y5 lo hi mid v7 v8 v9 v10 (y5 &&& (3 : Int32)) tw b16 b17 b18 b19 b20 b22 (own_bot r7 r7 r8 r9) (own_top r7 r7 r8 r9) (own_bot r7 r10 r8 r9) (own_top r7 r10 r8 r9)) []) (fun t_ k_ => XS.istore X246.here hx rfl (hb hby at_552) rfl (l' := (La_19 y0 y1 y2 y3 y4 y5 lo hi mid v7 v8 v9 v10 (y5 &&& (3 : Int32)) tw b16 b17 b18 b19 b20 b22 (own_bot r7 r7 r8 r9) (own_top r7 r7 r8 r9) (own_bot r7 r10 r8 r9) (own_top r7 r10 r8 r9))) rfl k_) ?_
                      refine og T246 (mkF m 556 (La_19 y0 y1 y2 y3 y4 y5 lo hi mid v7 v8 v9 v10 (y5 &&& (3 : Int32)) tw b16 b17 b18 b19 b20 b22 (own_bot r7 r7 r8 r9) (own_top r7 r7 r8 r9) (own_bot r7 r10 r8 r9) (own_top r7 r10 r8 r9)) [(.ref b22)]) (fun t_ k_ => XS.aload X246.here hx rfl (hb hby at_554) rfl rfl k_) ?_
                      refine og T246 (mkF m 558 (La_19 y0 y1 y2 y3 y4 y5 lo hi mid v7 v8 v9 v10 (y5 &&& (3 : Int32)) tw b16 b17 b18 b19 b20 b22 (own_bot r7 r7 r8 r9) (own_top r7 r7 r8 r9) (own_bot r7 r10 r8 r9) (own_top r7 r10 r8 r9)) [(.ref b18), (.ref b22)]) (fun t_ k_ => XS.aload X246.here hx rfl (hb hby at_556) rfl rfl k_) ?_
                      refine og T246 (mkF m 559 (La_19 y0 y1 y2 y3 y4 y5 lo hi mid v7 v8 v9 v10 (y5 &&& (3 : Int32)) tw b16 b17 b18 b19 b20 b22 (own_bot r7 r7 r8 r9) (own_top r7 r7 r8 r9) (own_bot r7 r10 r8 r9) (own_top r7 r10 r8 r9)) [(.int 0), (.ref b18), (.ref b22)]) (fun t_ k_ => XS.iconst X246.here hx rfl (hb hby at_558) k_) ?_
                      have ff248 := ((((((V213.other W214 (Ne.symm nq217)).other W219 (Ne.symm nq217)).other W220 (Ne.symm nq217)).other W221 (Ne.symm nq217)).keep K228_ (ninS (Ne.symm nq232) nin0)).keep K242_ (ninS (Ne.symm nq232) nin0))
                      obtain ⟨cl247, Ar247, -, S247, Nn247, H247, -⟩ := id ff248
                      have hin247 : ¬ ((0 : Int32) < 0 ∨ cl247.slots.size ≤ ((0 : Int32)).toNatClampNeg) := inb_of S247 ⟨by decide, by decide⟩
                      refine og T246 (mkF m 560 (La_19 y0 y1 y2 y3 y4 y5 lo hi mid v7 v8 v9 v10 (y5 &&& (3 : Int32)) tw b16 b17 b18 b19 b20 b22 (own_bot r7 r7 r8 r9) (own_top r7 r7 r8 r9) (own_bot r7 r10 r8 r9) (own_top r7 r10 r8 r9)) [(.long lo), (.ref b22)]) (fun t_ k_ => X246.laload hx (j := (0 : Int32)) (v := (.long lo)) (by rw [e246]; exact Ar247.1) (State.isArrayOf_alike hZ.alike Ar247.2.1) Ar247.2.2 hin247 (H247.at hin247 rfl) (g := (mkF m 559 (La_19 y0 y1 y2 y3 y4 y5 lo hi mid v7 v8 v9 v10 (y5 &&& (3 : Int32)) tw b16 b17 b18 b19 b20 b22 (own_bot r7 r7 r8 r9) (own_top r7 r7 r8 r9) (own_bot r7 r10 r8 r9) (own_top r7 r10 r8 r9)) [(.int 0), (.ref b18), (.ref b22)])) rfl rfl (hb hby at_559) _ k_) ?_
                      refine og T246 (mkF m 562 (La_19 y0 y1 y2 y3 y4 y5 lo hi mid v7 v8 v9 v10 (y5 &&& (3 : Int32)) tw b16 b17 b18 b19 b20 b22 (own_bot r7 r7 r8 r9) (own_top r7 r7 r8 r9) (own_bot r7 r10 r8 r9) (own_top r7 r10 r8 r9)) [(.ref b19), (.long lo), (.ref b22)]) (fun t_ k_ => XS.aload X246.here hx rfl (hb hby at_560) rfl rfl k_) ?_
                      refine og T246 (mkF m 563 (La_19 y0 y1 y2 y3 y4 y5 lo hi mid v7 v8 v9 v10 (y5 &&& (3 : Int32)) tw b16 b17 b18 b19 b20 b22 (own_bot r7 r7 r8 r9) (own_top r7 r7 r8 r9) (own_bot r7 r10 r8 r9) (own_top r7 r10 r8 r9)) [(.int 0), (.ref b19), (.long lo), (.ref b22)]) (fun t_ k_ => XS.iconst X246.here hx rfl (hb hby at_562) k_) ?_
                      obtain ⟨cl249, Ar249, -, S249, Nn249, H249, -⟩ := id ff245
                      have hin249 : ¬ ((0 : Int32) < 0 ∨ cl249.slots.size ≤ ((0 : Int32)).toNatClampNeg) := inb_of S249 ⟨by decide, by decide⟩
                      refine og T246 (mkF m 564 (La_19 y0 y1 y2 y3 y4 y5 lo hi mid v7 v8 v9 v10 (y5 &&& (3 : Int32)) tw b16 b17 b18 b19 b20 b22 (own_bot r7 r7 r8 r9) (own_top r7 r7 r8 r9) (own_bot r7 r10 r8 r9) (own_top r7 r10 r8 r9)) [(.double v7), (.long lo), (.ref b22)]) (fun t_ k_ => X246.daload hx (j := (0 : Int32)) (v := (.double v7)) (by rw [e246]; exact Ar249.1) (State.isArrayOf_alike hZ.alike Ar249.2.1) Ar249.2.2 hin249 (H249.at hin249 rfl) (g := (mkF m 563 (La_19 y0 y1 y2 y3 y4 y5 lo hi mid v7 v8 v9 v10 (y5 &&& (3 : Int32)) tw b16 b17 b18 b19 b20 b22 (own_bot r7 r7 r8 r9) (own_top r7 r7 r8 r9) (own_bot r7 r10 r8 r9) (own_top r7 r10 r8 r9)) [(.int 0), (.ref b19), (.long lo), (.ref b22)])) rfl rfl (hb hby at_563) _ k_) ?_
                      refine og T246 (mkF m 566 (La_19 y0 y1 y2 y3 y4 y5 lo hi mid v7 v8 v9 v10 (y5 &&& (3 : Int32)) tw b16 b17 b18 b19 b20 b22 (own_bot r7 r7 r8 r9) (own_top r7 r7 r8 r9) (own_bot r7 r10 r8 r9) (own_top r7 r10 r8 r9)) [(.ref b18), (.double v7), (.long lo), (.ref b22)]) (fun t_ k_ => XS.aload X246.here hx rfl (hb hby at_564) rfl rfl k_) ?_
                      refine og T246 (mkF m 567 (La_19 y0 y1 y2 y3 y4 y5 lo hi mid v7 v8 v9 v10 (y5 &&& (3 : Int32)) tw b16 b17 b18 b19 b20 b22 (own_bot r7 r7 r8 r9) (own_top r7 r7 r8 r9) (own_bot r7 r10 r8 r9) (own_top r7 r10 r8 r9)) [(.int 3), (.ref b18), (.double v7), (.long lo), (.ref b22)]) (fun t_ k_ => XS.iconst X246.here hx rfl (hb hby at_566) k_) ?_
                      obtain ⟨cl250, Ar250, -, S250, Nn250, H250, -⟩ := id ff248
                      have hin250 : ¬ ((3 : Int32) < 0 ∨ cl250.slots.size ≤ ((3 : Int32)).toNatClampNeg) := inb_of S250 ⟨by decide, by decide⟩
                      refine og T246 (mkF m 568 (La_19 y0 y1 y2 y3 y4 y5 lo hi mid v7 v8 v9 v10 (y5 &&& (3 : Int32)) tw b16 b17 b18 b19 b20 b22 (own_bot r7 r7 r8 r9) (own_top r7 r7 r8 r9) (own_bot r7 r10 r8 r9) (own_top r7 r10 r8 r9)) [(.long hi), (.double v7), (.long lo), (.ref b22)]) (fun t_ k_ => X246.laload hx (j := (3 : Int32)) (v := (.long hi)) (by rw [e246]; exact Ar250.1) (State.isArrayOf_alike hZ.alike Ar250.2.1) Ar250.2.2 hin250 (H250.at hin250 rfl) (g := (mkF m 567 (La_19 y0 y1 y2 y3 y4 y5 lo hi mid v7 v8 v9 v10 (y5 &&& (3 : Int32)) tw b16 b17 b18 b19 b20 b22 (own_bot r7 r7 r8 r9) (own_top r7 r7 r8 r9) (own_bot r7 r10 r8 r9) (own_top r7 r10 r8 r9)) [(.int 3), (.ref b18), (.double v7), (.long lo), (.ref b22)])) rfl rfl (hb hby at_567) _ k_) ?_
                      refine og T246 (mkF m 570 (La_19 y0 y1 y2 y3 y4 y5 lo hi mid v7 v8 v9 v10 (y5 &&& (3 : Int32)) tw b16 b17 b18 b19 b20 b22 (own_bot r7 r7 r8 r9) (own_top r7 r7 r8 r9) (own_bot r7 r10 r8 r9) (own_top r7 r10 r8 r9)) [(.ref b19), (.long hi), (.double v7), (.long lo), (.ref b22)]) (fun t_ k_ => XS.aload X246.here hx rfl (hb hby at_568) rfl rfl k_) ?_
                      refine og T246 (mkF m 571 (La_19 y0 y1 y2 y3 y4 y5 lo hi mid v7 v8 v9 v10 (y5 &&& (3 : Int32)) tw b16 b17 b18 b19 b20 b22 (own_bot r7 r7 r8 r9) (own_top r7 r7 r8 r9) (own_bot r7 r10 r8 r9) (own_top r7 r10 r8 r9)) [(.int 3), (.ref b19), (.long hi), (.double v7), (.long lo), (.ref b22)]) (fun t_ k_ => XS.iconst X246.here hx rfl (hb hby at_570) k_) ?_
                      obtain ⟨cl251, Ar251, -, S251, Nn251, H251, -⟩ := id ff245
                      have hin251 : ¬ ((3 : Int32) < 0 ∨ cl251.slots.size ≤ ((3 : Int32)).toNatClampNeg) := inb_of S251 ⟨by decide, by decide⟩
                      refine og T246 (mkF m 572 (La_19 y0 y1 y2 y3 y4 y5 lo hi mid v7 v8 v9 v10 (y5 &&& (3 : Int32)) tw b16 b17 b18 b19 b20 b22 (own_bot r7 r7 r8 r9) (own_top r7 r7 r8 r9) (own_bot r7 r10 r8 r9) (own_top r7 r10 r8 r9)) [(.double v9), (.long hi), (.double v7), (.long lo), (.ref b22)]) (fun t_ k_ => X246.daload hx (j := (3 : Int32)) (v := (.double v9)) (by rw [e246]; exact Ar251.1) (State.isArrayOf_alike hZ.alike Ar251.2.1) Ar251.2.2 hin251 (H251.at hin251 rfl) (g := (mkF m 571 (La_19 y0 y1 y2 y3 y4 y5 lo hi mid v7 v8 v9 v10 (y5 &&& (3 : Int32)) tw b16 b17 b18 b19 b20 b22 (own_bot r7 r7 r8 r9) (own_top r7 r7 r8 r9) (own_bot r7 r10 r8 r9) (own_top r7 r10 r8 r9)) [(.int 3), (.ref b19), (.long hi), (.double v7), (.long lo), (.ref b22)])) rfl rfl (hb hby at_571) _ k_) ?_
                      refine og T246 (mkF m 574 (La_19 y0 y1 y2 y3 y4 y5 lo hi mid v7 v8 v9 v10 (y5 &&& (3 : Int32)) tw b16 b17 b18 b19 b20 b22 (own_bot r7 r7 r8 r9) (own_top r7 r7 r8 r9) (own_bot r7 r10 r8 r9) (own_top r7 r10 r8 r9)) [(.ref b18), (.double v9), (.long hi), (.double v7), (.long lo), (.ref b22)]) (fun t_ k_ => XS.aload X246.here hx rfl (hb hby at_572) rfl rfl k_) ?_
                      refine og T246 (mkF m 576 (La_19 y0 y1 y2 y3 y4 y5 lo hi mid v7 v8 v9 v10 (y5 &&& (3 : Int32)) tw b16 b17 b18 b19 b20 b22 (own_bot r7 r7 r8 r9) (own_top r7 r7 r8 r9) (own_bot r7 r10 r8 r9) (own_top r7 r10 r8 r9)) [(.int (own_bot r7 r10 r8 r9)), (.ref b18), (.double v9), (.long hi), (.double v7), (.long lo), (.ref b22)]) (fun t_ k_ => XS.iload X246.here hx rfl (hb hby at_574) rfl k_) ?_
                      obtain ⟨cl252, Ar252, -, S252, Nn252, H252, -⟩ := id ff248
                      have hin252 : ¬ ((own_bot r7 r10 r8 r9) < 0 ∨ cl252.slots.size ≤ ((own_bot r7 r10 r8 r9)).toNatClampNeg) := inb_of S252 (own_in4 Jb)
                      refine og T246 (mkF m 577 (La_19 y0 y1 y2 y3 y4 y5 lo hi mid v7 v8 v9 v10 (y5 &&& (3 : Int32)) tw b16 b17 b18 b19 b20 b22 (own_bot r7 r7 r8 r9) (own_top r7 r7 r8 r9) (own_bot r7 r10 r8 r9) (own_top r7 r10 r8 r9)) [(.long (own_g4 (own_bot r7 r10 r8 r9) lo tw mid hi)), (.double v9), (.long hi), (.double v7), (.long lo), (.ref b22)]) (fun t_ k_ => X246.laload hx (j := (own_bot r7 r10 r8 r9)) (v := (.long (own_g4 (own_bot r7 r10 r8 r9) lo tw mid hi))) (by rw [e246]; exact Ar252.1) (State.isArrayOf_alike hZ.alike Ar252.2.1) Ar252.2.2 hin252 (H252.at hin252 (own_atJ Jb _ _ _ _)) (g := (mkF m 576 (La_19 y0 y1 y2 y3 y4 y5 lo hi mid v7 v8 v9 v10 (y5 &&& (3 : Int32)) tw b16 b17 b18 b19 b20 b22 (own_bot r7 r7 r8 r9) (own_top r7 r7 r8 r9) (own_bot r7 r10 r8 r9) (own_top r7 r10 r8 r9)) [(.int (own_bot r7 r10 r8 r9)), (.ref b18), (.double v9), (.long hi), (.double v7), (.long lo), (.ref b22)])) rfl rfl (hb hby at_576) _ k_) ?_
                      refine og T246 (mkF m 579 (La_19 y0 y1 y2 y3 y4 y5 lo hi mid v7 v8 v9 v10 (y5 &&& (3 : Int32)) tw b16 b17 b18 b19 b20 b22 (own_bot r7 r7 r8 r9) (own_top r7 r7 r8 r9) (own_bot r7 r10 r8 r9) (own_top r7 r10 r8 r9)) [(.ref b19), (.long (own_g4 (own_bot r7 r10 r8 r9) lo tw mid hi)), (.double v9), (.long hi), (.double v7), (.long lo), (.ref b22)]) (fun t_ k_ => XS.aload X246.here hx rfl (hb hby at_577) rfl rfl k_) ?_
                      refine og T246 (mkF m 581 (La_19 y0 y1 y2 y3 y4 y5 lo hi mid v7 v8 v9 v10 (y5 &&& (3 : Int32)) tw b16 b17 b18 b19 b20 b22 (own_bot r7 r7 r8 r9) (own_top r7 r7 r8 r9) (own_bot r7 r10 r8 r9) (own_top r7 r10 r8 r9)) [(.int (own_bot r7 r10 r8 r9)), (.ref b19), (.long (own_g4 (own_bot r7 r10 r8 r9) lo tw mid hi)), (.double v9), (.long hi), (.double v7), (.long lo), (.ref b22)]) (fun t_ k_ => XS.iload X246.here hx rfl (hb hby at_579) rfl k_) ?_
                      obtain ⟨cl253, Ar253, -, S253, Nn253, H253, -⟩ := id ff245
                      have hin253 : ¬ ((own_bot r7 r10 r8 r9) < 0 ∨ cl253.slots.size ≤ ((own_bot r7 r10 r8 r9)).toNatClampNeg) := inb_of S253 (own_in4 Jb)
                      refine og T246 (mkF m 582 (La_19 y0 y1 y2 y3 y4 y5 lo hi mid v7 v8 v9 v10 (y5 &&& (3 : Int32)) tw b16 b17 b18 b19 b20 b22 (own_bot r7 r7 r8 r9) (own_top r7 r7 r8 r9) (own_bot r7 r10 r8 r9) (own_top r7 r10 r8 r9)) [(.double (own_g4 (own_bot r7 r10 r8 r9) v7 v10 v8 v9)), (.long (own_g4 (own_bot r7 r10 r8 r9) lo tw mid hi)), (.double v9), (.long hi), (.double v7), (.long lo), (.ref b22)]) (fun t_ k_ => X246.daload hx (j := (own_bot r7 r10 r8 r9)) (v := (.double (own_g4 (own_bot r7 r10 r8 r9) v7 v10 v8 v9))) (by rw [e246]; exact Ar253.1) (State.isArrayOf_alike hZ.alike Ar253.2.1) Ar253.2.2 hin253 (H253.at hin253 (own_atD Jb _ _ _ _)) (g := (mkF m 581 (La_19 y0 y1 y2 y3 y4 y5 lo hi mid v7 v8 v9 v10 (y5 &&& (3 : Int32)) tw b16 b17 b18 b19 b20 b22 (own_bot r7 r7 r8 r9) (own_top r7 r7 r8 r9) (own_bot r7 r10 r8 r9) (own_top r7 r10 r8 r9)) [(.int (own_bot r7 r10 r8 r9)), (.ref b19), (.long (own_g4 (own_bot r7 r10 r8 r9) lo tw mid hi)), (.double v9), (.long hi), (.double v7), (.long lo), (.ref b22)])) rfl rfl (hb hby at_581) _ k_) ?_
                      refine og T246 (mkF m 584 (La_19 y0 y1 y2 y3 y4 y5 lo hi mid v7 v8 v9 v10 (y5 &&& (3 : Int32)) tw b16 b17 b18 b19 b20 b22 (own_bot r7 r7 r8 r9) (own_top r7 r7 r8 r9) (own_bot r7 r10 r8 r9) (own_top r7 r10 r8 r9)) [(.ref b18), (.double (own_g4 (own_bot r7 r10 r8 r9) v7 v10 v8 v9)), (.long (own_g4 (own_bot r7 r10 r8 r9) lo tw mid hi)), (.double v9), (.long hi), (.double v7), (.long lo), (.ref b22)]) (fun t_ k_ => XS.aload X246.here hx rfl (hb hby at_582) rfl rfl k_) ?_
                      refine og T246 (mkF m 586 (La_19 y0 y1 y2 y3 y4 y5 lo hi mid v7 v8 v9 v10 (y5 &&& (3 : Int32)) tw b16 b17 b18 b19 b20 b22 (own_bot r7 r7 r8 r9) (own_top r7 r7 r8 r9) (own_bot r7 r10 r8 r9) (own_top r7 r10 r8 r9)) [(.int (own_top r7 r10 r8 r9)), (.ref b18), (.double (own_g4 (own_bot r7 r10 r8 r9) v7 v10 v8 v9)), (.long (own_g4 (own_bot r7 r10 r8 r9) lo tw mid hi)), (.double v9), (.long hi), (.double v7), (.long lo), (.ref b22)]) (fun t_ k_ => XS.iload X246.here hx rfl (hb hby at_584) rfl k_) ?_
                      obtain ⟨cl254, Ar254, -, S254, Nn254, H254, -⟩ := id ff248
                      have hin254 : ¬ ((own_top r7 r10 r8 r9) < 0 ∨ cl254.slots.size ≤ ((own_top r7 r10 r8 r9)).toNatClampNeg) := inb_of S254 (own_in4 Jt)
                      refine og T246 (mkF m 587 (La_19 y0 y1 y2 y3 y4 y5 lo hi mid v7 v8 v9 v10 (y5 &&& (3 : Int32)) tw b16 b17 b18 b19 b20 b22 (own_bot r7 r7 r8 r9) (own_top r7 r7 r8 r9) (own_bot r7 r10 r8 r9) (own_top r7 r10 r8 r9)) [(.long (own_g4 (own_top r7 r10 r8 r9) lo tw mid hi)), (.double (own_g4 (own_bot r7 r10 r8 r9) v7 v10 v8 v9)), (.long (own_g4 (own_bot r7 r10 r8 r9) lo tw mid hi)), (.double v9), (.long hi), (.double v7), (.long lo), (.ref b22)]) (fun t_ k_ => X246.laload hx (j := (own_top r7 r10 r8 r9)) (v := (.long (own_g4 (own_top r7 r10 r8 r9) lo tw mid hi))) (by rw [e246]; exact Ar254.1) (State.isArrayOf_alike hZ.alike Ar254.2.1) Ar254.2.2 hin254 (H254.at hin254 (own_atJ Jt _ _ _ _)) (g := (mkF m 586 (La_19 y0 y1 y2 y3 y4 y5 lo hi mid v7 v8 v9 v10 (y5 &&& (3 : Int32)) tw b16 b17 b18 b19 b20 b22 (own_bot r7 r7 r8 r9) (own_top r7 r7 r8 r9) (own_bot r7 r10 r8 r9) (own_top r7 r10 r8 r9)) [(.int (own_top r7 r10 r8 r9)), (.ref b18), (.double (own_g4 (own_bot r7 r10 r8 r9) v7 v10 v8 v9)), (.long (own_g4 (own_bot r7 r10 r8 r9) lo tw mid hi)), (.double v9), (.long hi), (.double v7), (.long lo), (.ref b22)])) rfl rfl (hb hby at_586) _ k_) ?_
                      refine og T246 (mkF m 589 (La_19 y0 y1 y2 y3 y4 y5 lo hi mid v7 v8 v9 v10 (y5 &&& (3 : Int32)) tw b16 b17 b18 b19 b20 b22 (own_bot r7 r7 r8 r9) (own_top r7 r7 r8 r9) (own_bot r7 r10 r8 r9) (own_top r7 r10 r8 r9)) [(.ref b19), (.long (own_g4 (own_top r7 r10 r8 r9) lo tw mid hi)), (.double (own_g4 (own_bot r7 r10 r8 r9) v7 v10 v8 v9)), (.long (own_g4 (own_bot r7 r10 r8 r9) lo tw mid hi)), (.double v9), (.long hi), (.double v7), (.long lo), (.ref b22)]) (fun t_ k_ => XS.aload X246.here hx rfl (hb hby at_587) rfl rfl k_) ?_
                      refine og T246 (mkF m 591 (La_19 y0 y1 y2 y3 y4 y5 lo hi mid v7 v8 v9 v10 (y5 &&& (3 : Int32)) tw b16 b17 b18 b19 b20 b22 (own_bot r7 r7 r8 r9) (own_top r7 r7 r8 r9) (own_bot r7 r10 r8 r9) (own_top r7 r10 r8 r9)) [(.int (own_top r7 r10 r8 r9)), (.ref b19), (.long (own_g4 (own_top r7 r10 r8 r9) lo tw mid hi)), (.double (own_g4 (own_bot r7 r10 r8 r9) v7 v10 v8 v9)), (.long (own_g4 (own_bot r7 r10 r8 r9) lo tw mid hi)), (.double v9), (.long hi), (.double v7), (.long lo), (.ref b22)]) (fun t_ k_ => XS.iload X246.here hx rfl (hb hby at_589) rfl k_) ?_
                      obtain ⟨cl255, Ar255, -, S255, Nn255, H255, -⟩ := id ff245
                      have hin255 : ¬ ((own_top r7 r10 r8 r9) < 0 ∨ cl255.slots.size ≤ ((own_top r7 r10 r8 r9)).toNatClampNeg) := inb_of S255 (own_in4 Jt)
                      refine og T246 (mkF m 592 (La_19 y0 y1 y2 y3 y4 y5 lo hi mid v7 v8 v9 v10 (y5 &&& (3 : Int32)) tw b16 b17 b18 b19 b20 b22 (own_bot r7 r7 r8 r9) (own_top r7 r7 r8 r9) (own_bot r7 r10 r8 r9) (own_top r7 r10 r8 r9)) [(.double (own_g4 (own_top r7 r10 r8 r9) v7 v10 v8 v9)), (.long (own_g4 (own_top r7 r10 r8 r9) lo tw mid hi)), (.double (own_g4 (own_bot r7 r10 r8 r9) v7 v10 v8 v9)), (.long (own_g4 (own_bot r7 r10 r8 r9) lo tw mid hi)), (.double v9), (.long hi), (.double v7), (.long lo), (.ref b22)]) (fun t_ k_ => X246.daload hx (j := (own_top r7 r10 r8 r9)) (v := (.double (own_g4 (own_top r7 r10 r8 r9) v7 v10 v8 v9))) (by rw [e246]; exact Ar255.1) (State.isArrayOf_alike hZ.alike Ar255.2.1) Ar255.2.2 hin255 (H255.at hin255 (own_atD Jt _ _ _ _)) (g := (mkF m 591 (La_19 y0 y1 y2 y3 y4 y5 lo hi mid v7 v8 v9 v10 (y5 &&& (3 : Int32)) tw b16 b17 b18 b19 b20 b22 (own_bot r7 r7 r8 r9) (own_top r7 r7 r8 r9) (own_bot r7 r10 r8 r9) (own_top r7 r10 r8 r9)) [(.int (own_top r7 r10 r8 r9)), (.ref b19), (.long (own_g4 (own_top r7 r10 r8 r9) lo tw mid hi)), (.double (own_g4 (own_bot r7 r10 r8 r9) v7 v10 v8 v9)), (.long (own_g4 (own_bot r7 r10 r8 r9) lo tw mid hi)), (.double v9), (.long hi), (.double v7), (.long lo), (.ref b22)])) rfl rfl (hb hby at_591) _ k_) ?_
                      have ff257 := ((((((((((((((((((A22.wr W24).wr W26).wr W27).wr W28).wr W29).wr W32).wr W33).wr W34).wr W207).wr W211).wr W212).wr W213).wr W214).wr W219).wr W220).wr W221).keep K228_).keep K242_)
                      have nq258 : b22 ≠ b16 := own_ne (by omega)
                      have nq259 : b22 ≠ b17 := own_ne (by omega)
                      have nq260 : b22 ≠ b18 := own_ne (by omega)
                      have nq261 : b22 ≠ b19 := own_ne (by omega)
                      have nq262 : b22 ≠ b20 := own_ne (by omega)
                      have ff263 := ((((((((((((((((((F22_m_nFirstTimestamp.other W24 (Or.inl nq258)).other W26 (Or.inl nq258)).other W27 (Or.inl nq258)).other W28 (Or.inl nq258)).other W29 (Or.inl nq259)).other W32 (Or.inl nq259)).other W33 (Or.inl nq259)).other W34 (Or.inl nq259)).other W207 (Or.inl nq260)).other W211 (Or.inl nq260)).other W212 (Or.inl nq260)).other W213 (Or.inl nq260)).other W214 (Or.inl nq261)).other W219 (Or.inl nq261)).other W220 (Or.inl nq261)).other W221 (Or.inl nq261)).keep K228_ (ninS nq262 nin0)).keep K242_ (ninS nq262 nin0))
                      have ff264 := ((((((((((((((((((F22_m_dFirstValue.other W24 (Or.inl nq258)).other W26 (Or.inl nq258)).other W27 (Or.inl nq258)).other W28 (Or.inl nq258)).other W29 (Or.inl nq259)).other W32 (Or.inl nq259)).other W33 (Or.inl nq259)).other W34 (Or.inl nq259)).other W207 (Or.inl nq260)).other W211 (Or.inl nq260)).other W212 (Or.inl nq260)).other W213 (Or.inl nq260)).other W214 (Or.inl nq261)).other W219 (Or.inl nq261)).other W220 (Or.inl nq261)).other W221 (Or.inl nq261)).keep K228_ (ninS nq262 nin0)).keep K242_ (ninS nq262 nin0))
                      have ff265 := ((((((((((((((((((F22_m_nLastTimestamp.other W24 (Or.inl nq258)).other W26 (Or.inl nq258)).other W27 (Or.inl nq258)).other W28 (Or.inl nq258)).other W29 (Or.inl nq259)).other W32 (Or.inl nq259)).other W33 (Or.inl nq259)).other W34 (Or.inl nq259)).other W207 (Or.inl nq260)).other W211 (Or.inl nq260)).other W212 (Or.inl nq260)).other W213 (Or.inl nq260)).other W214 (Or.inl nq261)).other W219 (Or.inl nq261)).other W220 (Or.inl nq261)).other W221 (Or.inl nq261)).keep K228_ (ninS nq262 nin0)).keep K242_ (ninS nq262 nin0))
                      have ff266 := ((((((((((((((((((F22_m_dLastValue.other W24 (Or.inl nq258)).other W26 (Or.inl nq258)).other W27 (Or.inl nq258)).other W28 (Or.inl nq258)).other W29 (Or.inl nq259)).other W32 (Or.inl nq259)).other W33 (Or.inl nq259)).other W34 (Or.inl nq259)).other W207 (Or.inl nq260)).other W211 (Or.inl nq260)).other W212 (Or.inl nq260)).other W213 (Or.inl nq260)).other W214 (Or.inl nq261)).other W219 (Or.inl nq261)).other W220 (Or.inl nq261)).other W221 (Or.inl nq261)).keep K228_ (ninS nq262 nin0)).keep K242_ (ninS nq262 nin0))
                      have ff267 := ((((((((((((((((((F22_m_nBottomTimestamp.other W24 (Or.inl nq258)).other W26 (Or.inl nq258)).other W27 (Or.inl nq258)).other W28 (Or.inl nq258)).other W29 (Or.inl nq259)).other W32 (Or.inl nq259)).other W33 (Or.inl nq259)).other W34 (Or.inl nq259)).other W207 (Or.inl nq260)).other W211 (Or.inl nq260)).other W212 (Or.inl nq260)).other W213 (Or.inl nq260)).other W214 (Or.inl nq261)).other W219 (Or.inl nq261)).other W220 (Or.inl nq261)).other W221 (Or.inl nq261)).keep K228_ (ninS nq262 nin0)).keep K242_ (ninS nq262 nin0))
                      have ff268 := ((((((((((((((((((F22_m_dBottomValue.other W24 (Or.inl nq258)).other W26 (Or.inl nq258)).other W27 (Or.inl nq258)).other W28 (Or.inl nq258)).other W29 (Or.inl nq259)).other W32 (Or.inl nq259)).other W33 (Or.inl nq259)).other W34 (Or.inl nq259)).other W207 (Or.inl nq260)).other W211 (Or.inl nq260)).other W212 (Or.inl nq260)).other W213 (Or.inl nq260)).other W214 (Or.inl nq261)).other W219 (Or.inl nq261)).other W220 (Or.inl nq261)).other W221 (Or.inl nq261)).keep K228_ (ninS nq262 nin0)).keep K242_ (ninS nq262 nin0))
                      have ff269 := ((((((((((((((((((F22_m_nTopTimestamp.other W24 (Or.inl nq258)).other W26 (Or.inl nq258)).other W27 (Or.inl nq258)).other W28 (Or.inl nq258)).other W29 (Or.inl nq259)).other W32 (Or.inl nq259)).other W33 (Or.inl nq259)).other W34 (Or.inl nq259)).other W207 (Or.inl nq260)).other W211 (Or.inl nq260)).other W212 (Or.inl nq260)).other W213 (Or.inl nq260)).other W214 (Or.inl nq261)).other W219 (Or.inl nq261)).other W220 (Or.inl nq261)).other W221 (Or.inl nq261)).keep K228_ (ninS nq262 nin0)).keep K242_ (ninS nq262 nin0))
                      have ff270 := ((((((((((((((((((F22_m_dTopValue.other W24 (Or.inl nq258)).other W26 (Or.inl nq258)).other W27 (Or.inl nq258)).other W28 (Or.inl nq258)).other W29 (Or.inl nq259)).other W32 (Or.inl nq259)).other W33 (Or.inl nq259)).other W34 (Or.inl nq259)).other W207 (Or.inl nq260)).other W211 (Or.inl nq260)).other W212 (Or.inl nq260)).other W213 (Or.inl nq260)).other W214 (Or.inl nq261)).other W219 (Or.inl nq261)).other W220 (Or.inl nq261)).other W221 (Or.inl nq261)).keep K228_ (ninS nq262 nin0)).keep K242_ (ninS nq262 nin0))
                      obtain ⟨cq256, kq256, q256a, q256b, q256c⟩ := isOf hZ e246 ff257
                      obtain ⟨_, _, ⟨T256, L256, k256, n256⟩, -, X256, ⟨Lc256, hQ256, l256, y256, z256⟩, st256⟩ := X246.virtualBack hx (y := ym_6) (z := ym_6) hown (mvT hZ (own_w hw 28 rfl)) (mvT hZ (own_w hw 29 rfl)) (notFace_of_selects (args := #[]) (mvT hZ (own_w hw 31 rfl))) (mvT hZ (own_w hw 31 rfl)) (mvT hZ (own_w hw 30 rfl)) (by decide) (backOf (W := 0) (rm_set l Z a0 hw [] b22 lo v7 hi v9 (own_g4 (own_bot r7 r10 r8 r9) lo tw mid hi) (own_g4 (own_bot r7 r10 r8 r9) v7 v10 v8 v9) (own_g4 (own_top r7 r10 r8 r9) lo tw mid hi) (own_g4 (own_top r7 r10 r8 r9) v7 v10 v8 v9) (0 : Int64) 0 (0 : Int64) 0 (0 : Int64) 0 (0 : Int64) 0 T242.heap n0 (show n0 ≤ T242.heap.size by omega) ff257 ff263 ff264 ff265 ff266 ff267 ff268 ff269 ff270 (show n0 ≤ b22 by omega)) hZ (own_w hw 32 rfl) (own_w hw 15 rfl) (by decide) (by decide)) q256a q256c (g := (mkF m 592 (La_19 y0 y1 y2 y3 y4 y5 lo hi mid v7 v8 v9 v10 (y5 &&& (3 : Int32)) tw b16 b17 b18 b19 b20 b22 (own_bot r7 r7 r8 r9) (own_top r7 r7 r8 r9) (own_bot r7 r10 r8 r9) (own_top r7 r10 r8 r9)) [(.double (own_g4 (own_top r7 r10 r8 r9) v7 v10 v8 v9)), (.long (own_g4 (own_top r7 r10 r8 r9) lo tw mid hi)), (.double (own_g4 (own_bot r7 r10 r8 r9) v7 v10 v8 v9)), (.long (own_g4 (own_bot r7 r10 r8 r9) lo tw mid hi)), (.double v9), (.long hi), (.double v7), (.long lo), (.ref b22)])) rfl (by rw [hml]; rfl) (Steps.refl _) (argsL := [(.long lo), (.double v7), (.long hi), (.double v9), (.long (own_g4 (own_bot r7 r10 r8 r9) lo tw mid hi)), (.double (own_g4 (own_bot r7 r10 r8 r9) v7 v10 v8 v9)), (.long (own_g4 (own_top r7 r10 r8 r9) lo tw mid hi)), (.double (own_g4 (own_top r7 r10 r8 r9) v7 v10 v8 v9))]) (rest := []) (lenOf pd_7 rfl) rfl (by show 2 * 0 + _ ≤ _; exact Nat.le_of_eq rfl) (hb hby at_592) (fun _ _ => ⟨rfl, e246, (by decide : 6 + 0 ≤ _), (by decide : 32 + 0 ≤ _)⟩)
                      dsimp only [Pt.U, Pt.locs, Pt.cells, Pt.slots] at X256 l256 y256 z256 st256 hQ256
                      replace l256 := l256.symm; replace y256 := y256.symm; replace z256 := z256.symm; subst l256 y256 z256
                      obtain ⟨rfl, M256, K256_, f256_0, f256_1, f256_2, f256_3, f256_4, f256_5, f256_6, f256_7⟩ := hQ256
                      have zz256 := K256_.1
                      have N256 := Fr.app N246 M256
                      refine og T256 (mkF m 595 (La_19 y0 y1 y2 y3 y4 y5 lo hi mid v7 v8 v9 v10 (y5 &&& (3 : Int32)) tw b16 b17 b18 b19 b20 b22 (own_bot r7 r7 r8 r9) (own_top r7 r7 r8 r9) (own_bot r7 r10 r8 r9) (own_top r7 r10 r8 r9)) []) (fun t_ k_ => st256.trans k_) ?_
                      refine og T256 (mkF m 597 (La_19 y0 y1 y2 y3 y4 y5 lo hi mid v7 v8 v9 v10 (y5 &&& (3 : Int32)) tw b16 b17 b18 b19 b20 b22 (own_bot r7 r7 r8 r9) (own_top r7 r7 r8 r9) (own_bot r7 r10 r8 r9) (own_top r7 r10 r8 r9)) [(.ref b20)]) (fun t_ k_ => XS.aload X256.here hx rfl (hb hby at_595) rfl rfl k_) ?_
                      refine og T256 (mkF m 599 (La_19 y0 y1 y2 y3 y4 y5 lo hi mid v7 v8 v9 v10 (y5 &&& (3 : Int32)) tw b16 b17 b18 b19 b20 b22 (own_bot r7 r7 r8 r9) (own_top r7 r7 r8 r9) (own_bot r7 r10 r8 r9) (own_top r7 r10 r8 r9)) [(.ref b22), (.ref b20)]) (fun t_ k_ => XS.aload X256.here hx rfl (hb hby at_597) rfl rfl k_) ?_
                      have fix := own_fixC (v0 := v7) (v1 := v8) (v2 := v9) (vw := v10) (r0 := r7) (r1 := r8) (r2 := r9) (rw := r10) h1 h2 htC hq39_ hq41_
                      have ff271 := (f242_1.keep K256_ (ninS (Ne.symm nq262) nin0))
                      have fq272 : Fld Z T256.heap b20 "com/example/driftline/driftline/storage/Extremes" "m_dFirstValue" "D" (.double v7) := (show (if tw = lo then v10 else v7) = v7 from if_neg hq42_) ▸ ff271
                      have ff273 := (f242_3.keep K256_ (ninS (Ne.symm nq262) nin0))
                      have fq274 : Fld Z T256.heap b20 "com/example/driftline/driftline/storage/Extremes" "m_dLastValue" "D" (.double v9) := (show (if tw = hi then v10 else v9) = v9 from if_neg hq124_) ▸ ff273
                      have ff275 := (f242_4.keep K256_ (ninS (Ne.symm nq262) nin0))
                      have fq276 : Fld Z T256.heap b20 "com/example/driftline/driftline/storage/Extremes" "m_nBottomTimestamp" "J" (.long (own_g4 (own_bot r7 r10 r8 r9) lo tw mid hi)) := (show (if (r10 < (own_g4 (own_bot r7 r7 r8 r9) r7 r7 r8 r9) ∨ (r10 = (own_g4 (own_bot r7 r7 r8 r9) r7 r7 r8 r9) ∧ tw < (own_g4 (own_bot r7 r7 r8 r9) lo lo mid hi))) then tw else (own_g4 (own_bot r7 r7 r8 r9) lo lo mid hi)) = (own_g4 (own_bot r7 r10 r8 r9) lo tw mid hi) from fix.1.1) ▸ ff275
                      have ff277 := (f242_5.keep K256_ (ninS (Ne.symm nq262) nin0))
                      have fq278 : Fld Z T256.heap b20 "com/example/driftline/driftline/storage/Extremes" "m_dBottomValue" "D" (.double (own_g4 (own_bot r7 r10 r8 r9) v7 v10 v8 v9)) := (show (if (r10 < (own_g4 (own_bot r7 r7 r8 r9) r7 r7 r8 r9) ∨ (r10 = (own_g4 (own_bot r7 r7 r8 r9) r7 r7 r8 r9) ∧ tw < (own_g4 (own_bot r7 r7 r8 r9) lo lo mid hi))) then v10 else (own_g4 (own_bot r7 r7 r8 r9) v7 v7 v8 v9)) = (own_g4 (own_bot r7 r10 r8 r9) v7 v10 v8 v9) from fix.1.2) ▸ ff277
                      have ff279 := (f242_6.keep K256_ (ninS (Ne.symm nq262) nin0))
                      have fq280 : Fld Z T256.heap b20 "com/example/driftline/driftline/storage/Extremes" "m_nTopTimestamp" "J" (.long (own_g4 (own_top r7 r10 r8 r9) lo tw mid hi)) := (show (if ((own_g4 (own_top r7 r7 r8 r9) r7 r7 r8 r9) < r10 ∨ (r10 = (own_g4 (own_top r7 r7 r8 r9) r7 r7 r8 r9) ∧ tw < (own_g4 (own_top r7 r7 r8 r9) lo lo mid hi))) then tw else (own_g4 (own_top r7 r7 r8 r9) lo lo mid hi)) = (own_g4 (own_top r7 r10 r8 r9) lo tw mid hi) from fix.2.1) ▸ ff279
                      have ff281 := (f242_7.keep K256_ (ninS (Ne.symm nq262) nin0))
                      have fq282 : Fld Z T256.heap b20 "com/example/driftline/driftline/storage/Extremes" "m_dTopValue" "D" (.double (own_g4 (own_top r7 r10 r8 r9) v7 v10 v8 v9)) := (show (if ((own_g4 (own_top r7 r7 r8 r9) r7 r7 r8 r9) < r10 ∨ (r10 = (own_g4 (own_top r7 r7 r8 r9) r7 r7 r8 r9) ∧ tw < (own_g4 (own_top r7 r7 r8 r9) lo lo mid hi))) then v10 else (own_g4 (own_top r7 r7 r8 r9) v7 v7 v8 v9)) = (own_g4 (own_top r7 r10 r8 r9) v7 v10 v8 v9) from fix.2.2) ▸ ff281
                      have ff284 := (ff257.keep K256_)
                      have ff285 := (f242_0.keep K256_ (ninS (Ne.symm nq262) nin0))
                      have ff286 := (f242_2.keep K256_ (ninS (Ne.symm nq262) nin0))
                      have ff287 := ((ff243.keep K242_).keep K256_)
                      obtain ⟨cq283, kq283, q283a, q283b, q283c⟩ := isOf hZ rfl ff287
                      obtain ⟨_, _, ⟨T283, L283, k283, n283⟩, -, X283, ⟨Lc283, hQ283, l283, y283, z283⟩, st283⟩ := X256.virtualBack hx (y := ym_11) (z := ym_11) hown (mvT hZ (own_w hw 54 rfl)) (mvT hZ (own_w hw 55 rfl)) (notFace_of_selects (args := #[]) (mvT hZ (own_w hw 57 rfl))) (mvT hZ (own_w hw 57 rfl)) (mvT hZ (own_w hw 56 rfl)) (by decide) (backOf (W := 0) (rm_eq l Z a0 hw [] b20 b22 lo v7 hi v9 (own_g4 (own_bot r7 r10 r8 r9) lo tw mid hi) (own_g4 (own_bot r7 r10 r8 r9) v7 v10 v8 v9) (own_g4 (own_top r7 r10 r8 r9) lo tw mid hi) (own_g4 (own_top r7 r10 r8 r9) v7 v10 v8 v9) r7 r9 (own_g4 (own_bot r7 r10 r8 r9) r7 r10 r8 r9) (own_g4 (own_top r7 r10 r8 r9) r7 r10 r8 r9) T256.heap n0 (show n0 ≤ T256.heap.size by omega) ff284 ff285 fq272 ff286 fq274 fq276 fq278 fq280 fq282 f256_0 f256_1 f256_2 f256_3 f256_4 f256_5 f256_6 f256_7 f7_0 f9_0 (own_gD Jb f7_0 f10_0 f8_0 f9_0) (own_gD Jt f7_0 f10_0 f8_0 f9_0)) hZ (own_w hw 58 rfl) (own_w hw 15 rfl) (by decide) (by decide)) q283a q283c (g := (mkF m 599 (La_19 y0 y1 y2 y3 y4 y5 lo hi mid v7 v8 v9 v10 (y5 &&& (3 : Int32)) tw b16 b17 b18 b19 b20 b22 (own_bot r7 r7 r8 r9) (own_top r7 r7 r8 r9) (own_bot r7 r10 r8 r9) (own_top r7 r10 r8 r9)) [(.ref b22), (.ref b20)])) rfl (by rw [hml]; rfl) (Steps.refl _) (argsL := [(.ref b22)]) (rest := []) (lenOf pd_9 rfl) rfl (by show 2 * 0 + _ ≤ _; exact Nat.le_of_eq rfl) (hb hby at_599) (fun _ _ => ⟨rfl, rfl, (by decide : 6 + 0 ≤ _), (by decide : 32 + 0 ≤ _)⟩)
                      dsimp only [Pt.U, Pt.locs, Pt.cells, Pt.slots] at X283 l283 y283 z283 st283 hQ283
                      replace l283 := l283.symm; replace y283 := y283.symm; replace z283 := z283.symm; subst l283 y283 z283
                      obtain ⟨rfl, M283, e283⟩ := hQ283
                      have N283 := Fr.app N256 M283
                      refine og T283 (mkF m 602 (La_19 y0 y1 y2 y3 y4 y5 lo hi mid v7 v8 v9 v10 (y5 &&& (3 : Int32)) tw b16 b17 b18 b19 b20 b22 (own_bot r7 r7 r8 r9) (own_top r7 r7 r8 r9) (own_bot r7 r10 r8 r9) (own_top r7 r10 r8 r9)) [(.int 1)]) (fun t_ k_ => st283.trans k_) ?_
                      exact own_out X283 (v := some (.int (nar .boolean (1 : Int32)))) (fun h => by rw [hret] at h; cases h) hlk (fun fs hr => retN X283 hx (t := .boolean) hret (by simp) (hb hby at_602) hr) (Q := Q_rm_law Z y0 y1 y2 y3 y4 y5 h0 n0) (by rw [e283]; exact ⟨rfl, N283⟩) (by decide) (by decide)
                    · skip
                      refine og T36 (mkF m 450 (La_17 y0 y1 y2 y3 y4 y5 lo hi mid v7 v8 v9 v10 (y5 &&& (3 : Int32)) tw b16 b17 b18 b19 b20 b22 (own_bot r7 r7 r8 r9) (own_top r7 r7 r8 r9)) []) (fun t_ k_ => XS.ifYes X36.here hx rfl (pc0 := 396) (pc' := 450) rfl (hb hby at_396) rfl ((if0 _ _).trans (flt (fun z => hq206_ ((lw_lt _ _).mp z))).2.1) (by decide) (by decide) k_) ?_
                      have htD : mid.toInt < tw.toInt ∧ tw.toInt < hi.toInt := ⟨own_ltc hq206_ hq15_, own_gtc hq14_ hq124_⟩
                      refine og T36 (mkF m 452 (La_17 y0 y1 y2 y3 y4 y5 lo hi mid v7 v8 v9 v10 (y5 &&& (3 : Int32)) tw b16 b17 b18 b19 b20 b22 (own_bot r7 r7 r8 r9) (own_top r7 r7 r8 r9)) [(.ref b18)]) (fun t_ k_ => XS.aload X36.here hx rfl (hb hby at_450) rfl rfl k_) ?_
                      refine og T36 (mkF m 453 (La_17 y0 y1 y2 y3 y4 y5 lo hi mid v7 v8 v9 v10 (y5 &&& (3 : Int32)) tw b16 b17 b18 b19 b20 b22 (own_bot r7 r7 r8 r9) (own_top r7 r7 r8 r9)) [(.int 0), (.ref b18)]) (fun t_ k_ => XS.iconst X36.here hx rfl (hb hby at_452) k_) ?_
                      refine og T36 (mkF m 455 (La_17 y0 y1 y2 y3 y4 y5 lo hi mid v7 v8 v9 v10 (y5 &&& (3 : Int32)) tw b16 b17 b18 b19 b20 b22 (own_bot r7 r7 r8 r9) (own_top r7 r7 r8 r9)) [(.long lo), (.int 0), (.ref b18)]) (fun t_ k_ => XS.lload X36.here hx rfl (hb hby at_453) rfl k_) ?_
                      have nq289 : b18 ≠ b16 := own_ne (by omega)
                      have nq290 : b18 ≠ b17 := own_ne (by omega)
                      have ff291 := (((((((((((V18.ext E19).ext E20).ext E22).other W24 nq289).other W26 nq289).other W27 nq289).other W28 nq289).other W29 nq290).other W32 nq290).other W33 nq290).other W34 nq290)
                      obtain ⟨cl288, Ar288, q288, S288, Nn288, H288, G288⟩ := id ff291
                      have hin288 : ¬ ((0 : Int32) < 0 ∨ cl288.slots.size ≤ ((0 : Int32)).toNatClampNeg) := inb_of S288 ⟨by decide, by decide⟩
                      obtain ⟨T288, h288, X288, e288, W288, st288⟩ := stJ X36 hx hZ e36 Ar288 (j := (0 : Int32)) hin288 (g := (mkF m 455 (La_17 y0 y1 y2 y3 y4 y5 lo hi mid v7 v8 v9 v10 (y5 &&& (3 : Int32)) tw b16 b17 b18 b19 b20 b22 (own_bot r7 r7 r8 r9) (own_top r7 r7 r8 r9)) [(.long lo), (.int 0), (.ref b18)])) rfl rfl (hb hby at_455)
                      have V288 : Arv Z h288 b18 k18 .long (4 : Int32) [(.long lo), (.long 0), (.long 0), (.long 0)] (.long 0) := Arv.set Ar288 q288 S288 Nn288 H288 G288 rfl W288 0 rfl (Nat.le_of_ble_eq_true rfl)
                      have z288 := W288.size
                      have N288 := Fr.snoc X288 N36 (show n0 ≤ b18 by omega)
                      refine og T288 (mkF m 456 (La_17 y0 y1 y2 y3 y4 y5 lo hi mid v7 v8 v9 v10 (y5 &&& (3 : Int32)) tw b16 b17 b18 b19 b20 b22 (own_bot r7 r7 r8 r9) (own_top r7 r7 r8 r9)) []) (fun t_ k_ => st288 _ k_) ?_
                      refine og T288 (mkF m 458 (La_17 y0 y1 y2 y3 y4 y5 lo hi mid v7 v8 v9 v10 (y5 &&& (3 : Int32)) tw b16 b17 b18 b19 b20 b22 (own_bot r7 r7 r8 r9) (own_top r7 r7 r8 r9)) [(.ref b18)]) (fun t_ k_ => XS.aload X288.here hx rfl (hb hby at_456) rfl rfl k_) ?_
                      refine og T288 (mkF m 459 (La_17 y0 y1 y2 y3 y4 y5 lo hi mid v7 v8 v9 v10 (y5 &&& (3 : Int32)) tw b16 b17 b18 b19 b20 b22 (own_bot r7 r7 r8 r9) (own_top r7 r7 r8 r9)) [(.int 1), (.ref b18)]) (fun t_ k_ => XS.iconst X288.here hx rfl (hb hby at_458) k_) ?_
                      refine og T288 (mkF m 461 (La_17 y0 y1 y2 y3 y4 y5 lo hi mid v7 v8 v9 v10 (y5 &&& (3 : Int32)) tw b16 b17 b18 b19 b20 b22 (own_bot r7 r7 r8 r9) (own_top r7 r7 r8 r9)) [(.long mid), (.int 1), (.ref b18)]) (fun t_ k_ => XS.lload X288.here hx rfl (hb hby at_459) rfl k_) ?_
                      obtain ⟨cl292, Ar292, q292, S292, Nn292, H292, G292⟩ := id V288
                      have hin292 : ¬ ((1 : Int32) < 0 ∨ cl292.slots.size ≤ ((1 : Int32)).toNatClampNeg) := inb_of S292 ⟨by decide, by decide⟩
                      obtain ⟨T292, h292, X292, e292, W292, st292⟩ := stJ X288 hx hZ e288 Ar292 (j := (1 : Int32)) hin292 (g := (mkF m 461 (La_17 y0 y1 y2 y3 y4 y5 lo hi mid v7 v8 v9 v10 (y5 &&& (3 : Int32)) tw b16 b17 b18 b19 b20 b22 (own_bot r7 r7 r8 r9) (own_top r7 r7 r8 r9)) [(.long mid), (.int 1), (.ref b18)])) rfl rfl (hb hby at_461)
                      have V292 : Arv Z h292 b18 k18 .long (4 : Int32) [(.long lo), (.long mid), (.long 0), (.long 0)] (.long 0) := Arv.set Ar292 q292 S292 Nn292 H292 G292 rfl W292 1 rfl (Nat.le_of_ble_eq_true rfl)
                      have z292 := W292.size
                      have N292 := Fr.snoc X292 N288 (show n0 ≤ b18 by omega)
                      refine og T292 (mkF m 462 (La_17 y0 y1 y2 y3 y4 y5 lo hi mid v7 v8 v9 v10 (y5 &&& (3 : Int32)) tw b16 b17 b18 b19 b20 b22 (own_bot r7 r7 r8 r9) (own_top r7 r7 r8 r9)) []) (fun t_ k_ => st292 _ k_) ?_
                      refine og T292 (mkF m 464 (La_17 y0 y1 y2 y3 y4 y5 lo hi mid v7 v8 v9 v10 (y5 &&& (3 : Int32)) tw b16 b17 b18 b19 b20 b22 (own_bot r7 r7 r8 r9) (own_top r7 r7 r8 r9)) [(.ref b18)]) (fun t_ k_ => XS.aload X292.here hx rfl (hb hby at_462) rfl rfl k_) ?_
                      refine og T292 (mkF m 465 (La_17 y0 y1 y2 y3 y4 y5 lo hi mid v7 v8 v9 v10 (y5 &&& (3 : Int32)) tw b16 b17 b18 b19 b20 b22 (own_bot r7 r7 r8 r9) (own_top r7 r7 r8 r9)) [(.int 2), (.ref b18)]) (fun t_ k_ => XS.iconst X292.here hx rfl (hb hby at_464) k_) ?_
                      refine og T292 (mkF m 467 (La_17 y0 y1 y2 y3 y4 y5 lo hi mid v7 v8 v9 v10 (y5 &&& (3 : Int32)) tw b16 b17 b18 b19 b20 b22 (own_bot r7 r7 r8 r9) (own_top r7 r7 r8 r9)) [(.long tw), (.int 2), (.ref b18)]) (fun t_ k_ => XS.lload X292.here hx rfl (hb hby at_465) rfl k_) ?_
                      obtain ⟨cl293, Ar293, q293, S293, Nn293, H293, G293⟩ := id V292
                      have hin293 : ¬ ((2 : Int32) < 0 ∨ cl293.slots.size ≤ ((2 : Int32)).toNatClampNeg) := inb_of S293 ⟨by decide, by decide⟩
                      obtain ⟨T293, h293, X293, e293, W293, st293⟩ := stJ X292 hx hZ e292 Ar293 (j := (2 : Int32)) hin293 (g := (mkF m 467 (La_17 y0 y1 y2 y3 y4 y5 lo hi mid v7 v8 v9 v10 (y5 &&& (3 : Int32)) tw b16 b17 b18 b19 b20 b22 (own_bot r7 r7 r8 r9) (own_top r7 r7 r8 r9)) [(.long tw), (.int 2), (.ref b18)])) rfl rfl (hb hby at_467)
                      have V293 : Arv Z h293 b18 k18 .long (4 : Int32) [(.long lo), (.long mid), (.long tw), (.long 0)] (.long 0) := Arv.set Ar293 q293 S293 Nn293 H293 G293 rfl W293 2 rfl (Nat.le_of_ble_eq_true rfl)
                      have z293 := W293.size
                      have N293 := Fr.snoc X293 N292 (show n0 ≤ b18 by omega)
                      refine og T293 (mkF m 468 (La_17 y0 y1 y2 y3 y4 y5 lo hi mid v7 v8 v9 v10 (y5 &&& (3 : Int32)) tw b16 b17 b18 b19 b20 b22 (own_bot r7 r7 r8 r9) (own_top r7 r7 r8 r9)) []) (fun t_ k_ => st293 _ k_) ?_
                      refine og T293 (mkF m 470 (La_17 y0 y1 y2 y3 y4 y5 lo hi mid v7 v8 v9 v10 (y5 &&& (3 : Int32)) tw b16 b17 b18 b19 b20 b22 (own_bot r7 r7 r8 r9) (own_top r7 r7 r8 r9)) [(.ref b18)]) (fun t_ k_ => XS.aload X293.here hx rfl (hb hby at_468) rfl rfl k_) ?_
                      refine og T293 (mkF m 471 (La_17 y0 y1 y2 y3 y4 y5 lo hi mid v7 v8 v9 v10 (y5 &&& (3 : Int32)) tw b16 b17 b18 b19 b20 b22 (own_bot r7 r7 r8 r9) (own_top r7 r7 r8 r9)) [(.int 3), (.ref b18)]) (fun t_ k_ => XS.iconst X293.here hx rfl (hb hby at_470) k_) ?_
                      refine og T293 (mkF m 473 (La_17 y0 y1 y2 y3 y4 y5 lo hi mid v7 v8 v9 v10 (y5 &&& (3 : Int32)) tw b16 b17 b18 b19 b20 b22 (own_bot r7 r7 r8 r9) (own_top r7 r7 r8 r9)) [(.long hi), (.int 3), (.ref b18)]) (fun t_ k_ => XS.lload X293.here hx rfl (hb hby at_471) rfl k_) ?_
                      obtain ⟨cl294, Ar294, q294, S294, Nn294, H294, G294⟩ := id V293
                      have hin294 : ¬ ((3 : Int32) < 0 ∨ cl294.slots.size ≤ ((3 : Int32)).toNatClampNeg) := inb_of S294 ⟨by decide, by decide⟩
                      obtain ⟨T294, h294, X294, e294, W294, st294⟩ := stJ X293 hx hZ e293 Ar294 (j := (3 : Int32)) hin294 (g := (mkF m 473 (La_17 y0 y1 y2 y3 y4 y5 lo hi mid v7 v8 v9 v10 (y5 &&& (3 : Int32)) tw b16 b17 b18 b19 b20 b22 (own_bot r7 r7 r8 r9) (own_top r7 r7 r8 r9)) [(.long hi), (.int 3), (.ref b18)])) rfl rfl (hb hby at_473)
                      have V294 : Arv Z h294 b18 k18 .long (4 : Int32) [(.long lo), (.long mid), (.long tw), (.long hi)] (.long 0) := Arv.set Ar294 q294 S294 Nn294 H294 G294 rfl W294 3 rfl (Nat.le_of_ble_eq_true rfl)
                      have z294 := W294.size
                      have N294 := Fr.snoc X294 N293 (show n0 ≤ b18 by omega)
                      refine og T294 (mkF m 474 (La_17 y0 y1 y2 y3 y4 y5 lo hi mid v7 v8 v9 v10 (y5 &&& (3 : Int32)) tw b16 b17 b18 b19 b20 b22 (own_bot r7 r7 r8 r9) (own_top r7 r7 r8 r9)) []) (fun t_ k_ => st294 _ k_) ?_
                      refine og T294 (mkF m 476 (La_17 y0 y1 y2 y3 y4 y5 lo hi mid v7 v8 v9 v10 (y5 &&& (3 : Int32)) tw b16 b17 b18 b19 b20 b22 (own_bot r7 r7 r8 r9) (own_top r7 r7 r8 r9)) [(.ref b19)]) (fun t_ k_ => XS.aload X294.here hx rfl (hb hby at_474) rfl rfl k_) ?_
                      refine og T294 (mkF m 477 (La_17 y0 y1 y2 y3 y4 y5 lo hi mid v7 v8 v9 v10 (y5 &&& (3 : Int32)) tw b16 b17 b18 b19 b20 b22 (own_bot r7 r7 r8 r9) (own_top r7 r7 r8 r9)) [(.int 0), (.ref b19)]) (fun t_ k_ => XS.iconst X294.here hx rfl (hb hby at_476) k_) ?_
                      refine og T294 (mkF m 479 (La_17 y0 y1 y2 y3 y4 y5 lo hi mid v7 v8 v9 v10 (y5 &&& (3 : Int32)) tw b16 b17 b18 b19 b20 b22 (own_bot r7 r7 r8 r9) (own_top r7 r7 r8 r9)) [(.double v7), (.int 0), (.ref b19)]) (fun t_ k_ => XS.dload X294.here hx rfl (hb hby at_477) rfl k_) ?_
                      have nq296 : b19 ≠ b16 := own_ne (by omega)
                      have nq297 : b19 ≠ b17 := own_ne (by omega)
                      have nq298 : b19 ≠ b18 := own_ne (by omega)
                      have ff299 := ((((((((((((((V19.ext E20).ext E22).other W24 nq296).other W26 nq296).other W27 nq296).other W28 nq296).other W29 nq297).other W32 nq297).other W33 nq297).other W34 nq297).other W288 nq298).other W292 nq298).other W293 nq298).other W294 nq298)
                      obtain ⟨cl295, Ar295, q295, S295, Nn295, H295, G295⟩ := id ff299
                      have hin295 : ¬ ((0 : Int32) < 0 ∨ cl295.slots.size ≤ ((0 : Int32)).toNatClampNeg) := inb_of S295 ⟨by decide, by decide⟩
                      obtain ⟨T295, h295, X295, e295, W295, st295⟩ := stD X294 hx hZ e294 Ar295 (j := (0 : Int32)) hin295 (g := (mkF m 479 (La_17 y0 y1 y2 y3 y4 y5 lo hi mid v7 v8 v9 v10 (y5 &&& (3 : Int32)) tw b16 b17 b18 b19 b20 b22 (own_bot r7 r7 r8 r9) (own_top r7 r7 r8 r9)) [(.double v7), (.int 0), (.ref b19)])) rfl rfl (hb hby at_479)
                      have V295 : Arv Z h295 b19 k19 .double (4 : Int32) [(.double v7), (.double 0), (.double 0), (.double 0)] (.double 0) := Arv.set Ar295 q295 S295 Nn295 H295 G295 rfl W295 0 rfl (Nat.le_of_ble_eq_true rfl)
                      have z295 := W295.size
                      have N295 := Fr.snoc X295 N294 (show n0 ≤ b19 by omega)
                      refine og T295 (mkF m 480 (La_17 y0 y1 y2 y3 y4 y5 lo hi mid v7 v8 v9 v10 (y5 &&& (3 : Int32)) tw b16 b17 b18 b19 b20 b22 (own_bot r7 r7 r8 r9) (own_top r7 r7 r8 r9)) []) (fun t_ k_ => st295 _ k_) ?_
                      refine og T295 (mkF m 482 (La_17 y0 y1 y2 y3 y4 y5 lo hi mid v7 v8 v9 v10 (y5 &&& (3 : Int32)) tw b16 b17 b18 b19 b20 b22 (own_bot r7 r7 r8 r9) (own_top r7 r7 r8 r9)) [(.ref b19)]) (fun t_ k_ => XS.aload X295.here hx rfl (hb hby at_480) rfl rfl k_) ?_
                      refine og T295 (mkF m 483 (La_17 y0 y1 y2 y3 y4 y5 lo hi mid v7 v8 v9 v10 (y5 &&& (3 : Int32)) tw b16 b17 b18 b19 b20 b22 (own_bot r7 r7 r8 r9) (own_top r7 r7 r8 r9)) [(.int 1), (.ref b19)]) (fun t_ k_ => XS.iconst X295.here hx rfl (hb hby at_482) k_) ?_
                      refine og T295 (mkF m 485 (La_17 y0 y1 y2 y3 y4 y5 lo hi mid v7 v8 v9 v10 (y5 &&& (3 : Int32)) tw b16 b17 b18 b19 b20 b22 (own_bot r7 r7 r8 r9) (own_top r7 r7 r8 r9)) [(.double v8), (.int 1), (.ref b19)]) (fun t_ k_ => XS.dload X295.here hx rfl (hb hby at_483) rfl k_) ?_
                      obtain ⟨cl300, Ar300, q300, S300, Nn300, H300, G300⟩ := id V295
                      have hin300 : ¬ ((1 : Int32) < 0 ∨ cl300.slots.size ≤ ((1 : Int32)).toNatClampNeg) := inb_of S300 ⟨by decide, by decide⟩
                      obtain ⟨T300, h300, X300, e300, W300, st300⟩ := stD X295 hx hZ e295 Ar300 (j := (1 : Int32)) hin300 (g := (mkF m 485 (La_17 y0 y1 y2 y3 y4 y5 lo hi mid v7 v8 v9 v10 (y5 &&& (3 : Int32)) tw b16 b17 b18 b19 b20 b22 (own_bot r7 r7 r8 r9) (own_top r7 r7 r8 r9)) [(.double v8), (.int 1), (.ref b19)])) rfl rfl (hb hby at_485)
                      have V300 : Arv Z h300 b19 k19 .double (4 : Int32) [(.double v7), (.double v8), (.double 0), (.double 0)] (.double 0) := Arv.set Ar300 q300 S300 Nn300 H300 G300 rfl W300 1 rfl (Nat.le_of_ble_eq_true rfl)
                      have z300 := W300.size
                      have N300 := Fr.snoc X300 N295 (show n0 ≤ b19 by omega)
                      refine og T300 (mkF m 486 (La_17 y0 y1 y2 y3 y4 y5 lo hi mid v7 v8 v9 v10 (y5 &&& (3 : Int32)) tw b16 b17 b18 b19 b20 b22 (own_bot r7 r7 r8 r9) (own_top r7 r7 r8 r9)) []) (fun t_ k_ => st300 _ k_) ?_
                      refine og T300 (mkF m 488 (La_17 y0 y1 y2 y3 y4 y5 lo hi mid v7 v8 v9 v10 (y5 &&& (3 : Int32)) tw b16 b17 b18 b19 b20 b22 (own_bot r7 r7 r8 r9) (own_top r7 r7 r8 r9)) [(.ref b19)]) (fun t_ k_ => XS.aload X300.here hx rfl (hb hby at_486) rfl rfl k_) ?_
                      refine og T300 (mkF m 489 (La_17 y0 y1 y2 y3 y4 y5 lo hi mid v7 v8 v9 v10 (y5 &&& (3 : Int32)) tw b16 b17 b18 b19 b20 b22 (own_bot r7 r7 r8 r9) (own_top r7 r7 r8 r9)) [(.int 2), (.ref b19)]) (fun t_ k_ => XS.iconst X300.here hx rfl (hb hby at_488) k_) ?_
                      refine og T300 (mkF m 491 (La_17 y0 y1 y2 y3 y4 y5 lo hi mid v7 v8 v9 v10 (y5 &&& (3 : Int32)) tw b16 b17 b18 b19 b20 b22 (own_bot r7 r7 r8 r9) (own_top r7 r7 r8 r9)) [(.double v10), (.int 2), (.ref b19)]) (fun t_ k_ => XS.dload X300.here hx rfl (hb hby at_489) rfl k_) ?_
                      obtain ⟨cl301, Ar301, q301, S301, Nn301, H301, G301⟩ := id V300
                      have hin301 : ¬ ((2 : Int32) < 0 ∨ cl301.slots.size ≤ ((2 : Int32)).toNatClampNeg) := inb_of S301 ⟨by decide, by decide⟩
                      obtain ⟨T301, h301, X301, e301, W301, st301⟩ := stD X300 hx hZ e300 Ar301 (j := (2 : Int32)) hin301 (g := (mkF m 491 (La_17 y0 y1 y2 y3 y4 y5 lo hi mid v7 v8 v9 v10 (y5 &&& (3 : Int32)) tw b16 b17 b18 b19 b20 b22 (own_bot r7 r7 r8 r9) (own_top r7 r7 r8 r9)) [(.double v10), (.int 2), (.ref b19)])) rfl rfl (hb hby at_491)
                      have V301 : Arv Z h301 b19 k19 .double (4 : Int32) [(.double v7), (.double v8), (.double v10), (.double 0)] (.double 0) := Arv.set Ar301 q301 S301 Nn301 H301 G301 rfl W301 2 rfl (Nat.le_of_ble_eq_true rfl)
                      have z301 := W301.size
                      have N301 := Fr.snoc X301 N300 (show n0 ≤ b19 by omega)
                      refine og T301 (mkF m 492 (La_17 y0 y1 y2 y3 y4 y5 lo hi mid v7 v8 v9 v10 (y5 &&& (3 : Int32)) tw b16 b17 b18 b19 b20 b22 (own_bot r7 r7 r8 r9) (own_top r7 r7 r8 r9)) []) (fun t_ k_ => st301 _ k_) ?_
                      refine og T301 (mkF m 494 (La_17 y0 y1 y2 y3 y4 y5 lo hi mid v7 v8 v9 v10 (y5 &&& (3 : Int32)) tw b16 b17 b18 b19 b20 b22 (own_bot r7 r7 r8 r9) (own_top r7 r7 r8 r9)) [(.ref b19)]) (fun t_ k_ => XS.aload X301.here hx rfl (hb hby at_492) rfl rfl k_) ?_
                      refine og T301 (mkF m 495 (La_17 y0 y1 y2 y3 y4 y5 lo hi mid v7 v8 v9 v10 (y5 &&& (3 : Int32)) tw b16 b17 b18 b19 b20 b22 (own_bot r7 r7 r8 r9) (own_top r7 r7 r8 r9)) [(.int 3), (.ref b19)]) (fun t_ k_ => XS.iconst X301.here hx rfl (hb hby at_494) k_) ?_
                      refine og T301 (mkF m 497 (La_17 y0 y1 y2 y3 y4 y5 lo hi mid v7 v8 v9 v10 (y5 &&& (3 : Int32)) tw b16 b17 b18 b19 b20 b22 (own_bot r7 r7 r8 r9) (own_top r7 r7 r8 r9)) [(.double v9), (.int 3), (.ref b19)]) (fun t_ k_ => XS.dload X301.here hx rfl (hb hby at_495) rfl k_) ?_
                      obtain ⟨cl302, Ar302, q302, S302, Nn302, H302, G302⟩ := id V301
                      have hin302 : ¬ ((3 : Int32) < 0 ∨ cl302.slots.size ≤ ((3 : Int32)).toNatClampNeg) := inb_of S302 ⟨by decide, by decide⟩
                      obtain ⟨T302, h302, X302, e302, W302, st302⟩ := stD X301 hx hZ e301 Ar302 (j := (3 : Int32)) hin302 (g := (mkF m 497 (La_17 y0 y1 y2 y3 y4 y5 lo hi mid v7 v8 v9 v10 (y5 &&& (3 : Int32)) tw b16 b17 b18 b19 b20 b22 (own_bot r7 r7 r8 r9) (own_top r7 r7 r8 r9)) [(.double v9), (.int 3), (.ref b19)])) rfl rfl (hb hby at_497)
                      have V302 : Arv Z h302 b19 k19 .double (4 : Int32) [(.double v7), (.double v8), (.double v10), (.double v9)] (.double 0) := Arv.set Ar302 q302 S302 Nn302 H302 G302 rfl W302 3 rfl (Nat.le_of_ble_eq_true rfl)
                      have z302 := W302.size
                      have N302 := Fr.snoc X302 N301 (show n0 ≤ b19 by omega)
                      refine og T302 (mkF m 498 (La_17 y0 y1 y2 y3 y4 y5 lo hi mid v7 v8 v9 v10 (y5 &&& (3 : Int32)) tw b16 b17 b18 b19 b20 b22 (own_bot r7 r7 r8 r9) (own_top r7 r7 r8 r9)) []) (fun t_ k_ => st302 _ k_) ?_
                      refine og T302 (mkF m 500 (La_17 y0 y1 y2 y3 y4 y5 lo hi mid v7 v8 v9 v10 (y5 &&& (3 : Int32)) tw b16 b17 b18 b19 b20 b22 (own_bot r7 r7 r8 r9) (own_top r7 r7 r8 r9)) [(.ref b20)]) (fun t_ k_ => XS.aload X302.here hx rfl (hb hby at_498) rfl rfl k_) ?_
                      refine og T302 (mkF m 502 (La_17 y0 y1 y2 y3 y4 y5 lo hi mid v7 v8 v9 v10 (y5 &&& (3 : Int32)) tw b16 b17 b18 b19 b20 b22 (own_bot r7 r7 r8 r9) (own_top r7 r7 r8 r9)) [(.long lo), (.ref b20)]) (fun t_ k_ => XS.lload X302.here hx rfl (hb hby at_500) rfl k_) ?_
                      refine og T302 (mkF m 504 (La_17 y0 y1 y2 y3 y4 y5 lo hi mid v7 v8 v9 v10 (y5 &&& (3 : Int32)) tw b16 b17 b18 b19 b20 b22 (own_bot r7 r7 r8 r9) (own_top r7 r7 r8 r9)) [(.double v7), (.long lo), (.ref b20)]) (fun t_ k_ => XS.dload X302.here hx rfl (hb hby at_502) rfl k_) ?_
                      refine og T302 (mkF m 506 (La_17 y0 y1 y2 y3 y4 y5 lo hi mid v7 v8 v9 v10 (y5 &&& (3 : Int32)) tw b16 b17 b18 b19 b20 b22 (own_bot r7 r7 r8 r9) (own_top r7 r7 r8 r9)) [(.long hi), (.double v7), (.long lo), (.ref b20)]) (fun t_ k_ => XS.lload X302.here hx rfl (hb hby at_504) rfl k_) ?_
                      refine og T302 (mkF m 508 (La_17 y0 y1 y2 y3 y4 y5 lo hi mid v7 v8 v9 v10 (y5 &&& (3 : Int32)) tw b16 b17 b18 b19 b20 b22 (own_bot r7 r7 r8 r9) (own_top r7 r7 r8 r9)) [(.double v9), (.long hi), (.double v7), (.long lo), (.ref b20)]) (fun t_ k_ => XS.dload X302.here hx rfl (hb hby at_506) rfl k_) ?_
                      refine og T302 (mkF m 510 (La_17 y0 y1 y2 y3 y4 y5 lo hi mid v7 v8 v9 v10 (y5 &&& (3 : Int32)) tw b16 b17 b18 b19 b20 b22 (own_bot r7 r7 r8 r9) (own_top r7 r7 r8 r9)) [(.ref b16), (.double v9), (.long hi), (.double v7), (.long lo), (.ref b20)]) (fun t_ k_ => XS.aload X302.here hx rfl (hb hby at_508) rfl rfl k_) ?_
                      refine og T302 (mkF m 512 (La_17 y0 y1 y2 y3 y4 y5 lo hi mid v7 v8 v9 v10 (y5 &&& (3 : Int32)) tw b16 b17 b18 b19 b20 b22 (own_bot r7 r7 r8 r9) (own_top r7 r7 r8 r9)) [(.int (own_bot r7 r7 r8 r9)), (.ref b16), (.double v9), (.long hi), (.double v7), (.long lo), (.ref b20)]) (fun t_ k_ => XS.iload X302.here hx rfl (hb hby at_510) rfl k_) ?_
                      have ff304 := ((((((((ff38.other W288 (Ne.symm nq289)).other W292 (Ne.symm nq289)).other W293 (Ne.symm nq289)).other W294 (Ne.symm nq289)).other W295 (Ne.symm nq296)).other W300 (Ne.symm nq296)).other W301 (Ne.symm nq296)).other W302 (Ne.symm nq296))
                      obtain ⟨cl303, Ar303, -, S303, Nn303, H303, -⟩ := id ff304
                      have hin303 : ¬ ((own_bot r7 r7 r8 r9) < 0 ∨ cl303.slots.size ≤ ((own_bot r7 r7 r8 r9)).toNatClampNeg) := inb_of S303 (own_in4 Ib)
                      refine og T302 (mkF m 513 (La_17 y0 y1 y2 y3 y4 y5 lo hi mid v7 v8 v9 v10 (y5 &&& (3 : Int32)) tw b16 b17 b18 b19 b20 b22 (own_bot r7 r7 r8 r9) (own_top r7 r7 r8 r9)) [(.long (own_g4 (own_bot r7 r7 r8 r9) lo lo mid hi)), (.double v9), (.long hi), (.double v7), (.long lo), (.ref b20)]) (fun t_ k_ => X302.laload hx (j := (own_bot r7 r7 r8 r9)) (v := (.long (own_g4 (own_bot r7 r7 r8 r9) lo lo mid hi))) (by rw [e302]; exact Ar303.1) (State.isArrayOf_alike hZ.alike Ar303.2.1) Ar303.2.2 hin303 (H303.at hin303 (own_atJ Ib _ _ _ _)) (g := (mkF m 512 (La_17 y0 y1 y2 y3 y4 y5 lo hi mid v7 v8 v9 v10 (y5 &&& (3 : Int32)) tw b16 b17 b18 b19 b20 b22 (own_bot r7 r7 r8 r9) (own_top r7 r7 r8 r9)) [(.int (own_bot r7 r7 r8 r9)), (.ref b16), (.double v9), (.long hi), (.double v7), (.long lo), (.ref b20)])) rfl rfl (hb hby at_512) _ k_) ?_
                      refine og T302 (mkF m 515 (La_17 y0 y1 y2 y3 y4 y5 lo hi mid v7 v8 v9 v10 (y5 &&& (3 : Int32)) tw b16 b17 b18 b19 b20 b22 (own_bot r7 r7 r8 r9) (own_top r7 r7 r8 r9)) [(.ref b17), (.long (own_g4 (own_bot r7 r7 r8 r9) lo lo mid hi)), (.double v9), (.long hi), (.double v7), (.long lo), (.ref b20)]) (fun t_ k_ => XS.aload X302.here hx rfl (hb hby at_513) rfl rfl k_) ?_
                      refine og T302 (mkF m 517 (La_17 y0 y1 y2 y3 y4 y5 lo hi mid v7 v8 v9 v10 (y5 &&& (3 : Int32)) tw b16 b17 b18 b19 b20 b22 (own_bot r7 r7 r8 r9) (own_top r7 r7 r8 r9)) [(.int (own_bot r7 r7 r8 r9)), (.ref b17), (.long (own_g4 (own_bot r7 r7 r8 r9) lo lo mid hi)), (.double v9), (.long hi), (.double v7), (.long lo), (.ref b20)]) (fun t_ k_ => XS.iload X302.here hx rfl (hb hby at_515) rfl k_) ?_
                      have ff306 := ((((((((V34.other W288 (Ne.symm nq290)).other W292 (Ne.symm nq290)).other W293 (Ne.symm nq290)).other W294 (Ne.symm nq290)).other W295 (Ne.symm nq297)).other W300 (Ne.symm nq297)).other W301 (Ne.symm nq297)).other W302 (Ne.symm nq297))
                      obtain ⟨cl305, Ar305, -, S305, Nn305, H305, -⟩ := id ff306
                      have hin305 : ¬ ((own_bot r7 r7 r8 r9) < 0 ∨ cl305.slots.size ≤ ((own_bot r7 r7 r8 r9)).toNatClampNeg) := inb_of S305 (own_in4 Ib)
                      refine og T302 (mkF m 518 (La_17 y0 y1 y2 y3 y4 y5 lo hi mid v7 v8 v9 v10 (y5 &&& (3 : Int32)) tw b16 b17 b18 b19 b20 b22 (own_bot r7 r7 r8 r9) (own_top r7 r7 r8 r9)) [(.double (own_g4 (own_bot r7 r7 r8 r9) v7 v7 v8 v9)), (.long (own_g4 (own_bot r7 r7 r8 r9) lo lo mid hi)), (.double v9), (.long hi), (.double v7), (.long lo), (.ref b20)]) (fun t_ k_ => X302.daload hx (j := (own_bot r7 r7 r8 r9)) (v := (.double (own_g4 (own_bot r7 r7 r8 r9) v7 v7 v8 v9))) (by rw [e302]; exact Ar305.1) (State.isArrayOf_alike hZ.alike Ar305.2.1) Ar305.2.2 hin305 (H305.at hin305 (own_atD Ib _ _ _ _)) (g := (mkF m 517 (La_17 y0 y1 y2 y3 y4 y5 lo hi mid v7 v8 v9 v10 (y5 &&& (3 : Int32)) tw b16 b17 b18 b19 b20 b22 (own_bot r7 r7 r8 r9) (own_top r7 r7 r8 r9)) [(.int (own_bot r7 r7 r8 r9)), (.ref b17), (.long (own_g4 (own_bot r7 r7 r8 r9) lo lo mid hi)), (.double v9), (.long hi), (.double v7), (.long lo), (.ref b20)])) rfl rfl (hb hby at_517) _ k_) ?_
                      refine og T302 (mkF m 520 (La_17 y0 y1 y2 y3 y4 y5 lo hi mid v7 v8 v9 v10 (y5 &&& (3 : Int32)) tw b16 b17 b18 b19 b20 b22 (own_bot r7 r7 r8 r9) (own_top r7 r7 r8 r9)) [(.ref b16), (.double (own_g4 (own_bot r7 r7 r8 r9) v7 v7 v8 v9)), (.long (own_g4 (own_bot r7 r7 r8 r9) lo lo mid hi)), (.double v9), (.long hi), (.double v7), (.long lo), (.ref b20)]) (fun t_ k_ => XS.aload X302.here hx rfl (hb hby at_518) rfl rfl k_) ?_
                      refine og T302 (mkF m 522 (La_17 y0 y1 y2 y3 y4 y5 lo hi mid v7 v8 v9 v10 (y5 &&& (3 : Int32)) tw b16 b17 b18 b19 b20 b22 (own_bot r7 r7 r8 r9) (own_top r7 r7 r8 r9)) [(.int (own_top r7 r7 r8 r9)), (.ref b16), (.double (own_g4 (own_bot r7 r7 r8 r9) v7 v7 v8 v9)), (.long (own_g4 (own_bot r7 r7 r8 r9) lo lo mid hi)), (.double v9), (.long hi), (.double v7), (.long lo), (.ref b20)]) (fun t_ k_ => XS.iload X302.here hx rfl (hb hby at_520) rfl k_) ?_
                      obtain ⟨cl307, Ar307, -, S307, Nn307, H307, -⟩ := id ff304
                      have hin307 : ¬ ((own_top r7 r7 r8 r9) < 0 ∨ cl307.slots.size ≤ ((own_top r7 r7 r8 r9)).toNatClampNeg) := inb_of S307 (own_in4 It)
                      refine og T302 (mkF m 523 (La_17 y0 y1 y2 y3 y4 y5 lo hi mid v7 v8 v9 v10 (y5 &&& (3 : Int32)) tw b16 b17 b18 b19 b20 b22 (own_bot r7 r7 r8 r9) (own_top r7 r7 r8 r9)) [(.long (own_g4 (own_top r7 r7 r8 r9) lo lo mid hi)), (.double (own_g4 (own_bot r7 r7 r8 r9) v7 v7 v8 v9)), (.long (own_g4 (own_bot r7 r7 r8 r9) lo lo mid hi)), (.double v9), (.long hi), (.double v7), (.long lo), (.ref b20)]) (fun t_ k_ => X302.laload hx (j := (own_top r7 r7 r8 r9)) (v := (.long (own_g4 (own_top r7 r7 r8 r9) lo lo mid hi))) (by rw [e302]; exact Ar307.1) (State.isArrayOf_alike hZ.alike Ar307.2.1) Ar307.2.2 hin307 (H307.at hin307 (own_atJ It _ _ _ _)) (g := (mkF m 522 (La_17 y0 y1 y2 y3 y4 y5 lo hi mid v7 v8 v9 v10 (y5 &&& (3 : Int32)) tw b16 b17 b18 b19 b20 b22 (own_bot r7 r7 r8 r9) (own_top r7 r7 r8 r9)) [(.int (own_top r7 r7 r8 r9)), (.ref b16), (.double (own_g4 (own_bot r7 r7 r8 r9) v7 v7 v8 v9)), (.long (own_g4 (own_bot r7 r7 r8 r9) lo lo mid hi)), (.double v9), (.long hi), (.double v7), (.long lo), (.ref b20)])) rfl rfl (hb hby at_522) _ k_) ?_
                      refine og T302 (mkF m 525 (La_17 y0 y1 y2 y3 y4 y5 lo hi mid v7 v8 v9 v10 (y5 &&& (3 : Int32)) tw b16 b17 b18 b19 b20 b22 (own_bot r7 r7 r8 r9) (own_top r7 r7 r8 r9)) [(.ref b17), (.long (own_g4 (own_top r7 r7 r8 r9) lo lo mid hi)), (.double (own_g4 (own_bot r7 r7 r8 r9) v7 v7 v8 v9)), (.long (own_g4 (own_bot r7 r7 r8 r9) lo lo mid hi)), (.double v9), (.long hi), (.double v7), (.long lo), (.ref b20)]) (fun t_ k_ => XS.aload X302.here hx rfl (hb hby at_523) rfl rfl k_) ?_
                      refine og T302 (mkF m 527 (La_17 y0 y1 y2 y3 y4 y5 lo hi mid v7 v8 v9 v10 (y5 &&& (3 : Int32)) tw b16 b17 b18 b19 b20 b22 (own_bot r7 r7 r8 r9) (own_top r7 r7 r8 r9)) [(.int (own_top r7 r7 r8 r9)), (.ref b17), (.long (own_g4 (own_top r7 r7 r8 r9) lo lo mid hi)), (.double (own_g4 (own_bot r7 r7 r8 r9) v7 v7 v8 v9)), (.long (own_g4 (own_bot r7 r7 r8 r9) lo lo mid hi)), (.double v9), (.long hi), (.double v7), (.long lo), (.ref b20)]) (fun t_ k_ => XS.iload X302.here hx rfl (hb hby at_525) rfl k_) ?_
                      obtain ⟨cl308, Ar308, -, S308, Nn308, H308, -⟩ := id ff306
                      have hin308 : ¬ ((own_top r7 r7 r8 r9) < 0 ∨ cl308.slots.size ≤ ((own_top r7 r7 r8 r9)).toNatClampNeg) := inb_of S308 (own_in4 It)
                      refine og T302 (mkF m 528 (La_17 y0 y1 y2 y3 y4 y5 lo hi mid v7 v8 v9 v10 (y5 &&& (3 : Int32)) tw b16 b17 b18 b19 b20 b22 (own_bot r7 r7 r8 r9) (own_top r7 r7 r8 r9)) [(.double (own_g4 (own_top r7 r7 r8 r9) v7 v7 v8 v9)), (.long (own_g4 (own_top r7 r7 r8 r9) lo lo mid hi)), (.double (own_g4 (own_bot r7 r7 r8 r9) v7 v7 v8 v9)), (.long (own_g4 (own_bot r7 r7 r8 r9) lo lo mid hi)), (.double v9), (.long hi), (.double v7), (.long lo), (.ref b20)]) (fun t_ k_ => X302.daload hx (j := (own_top r7 r7 r8 r9)) (v := (.double (own_g4 (own_top r7 r7 r8 r9) v7 v7 v8 v9))) (by rw [e302]; exact Ar308.1) (State.isArrayOf_alike hZ.alike Ar308.2.1) Ar308.2.2 hin308 (H308.at hin308 (own_atD It _ _ _ _)) (g := (mkF m 527 (La_17 y0 y1 y2 y3 y4 y5 lo hi mid v7 v8 v9 v10 (y5 &&& (3 : Int32)) tw b16 b17 b18 b19 b20 b22 (own_bot r7 r7 r8 r9) (own_top r7 r7 r8 r9)) [(.int (own_top r7 r7 r8 r9)), (.ref b17), (.long (own_g4 (own_top r7 r7 r8 r9) lo lo mid hi)), (.double (own_g4 (own_bot r7 r7 r8 r9) v7 v7 v8 v9)), (.long (own_g4 (own_bot r7 r7 r8 r9) lo lo mid hi)), (.double v9), (.long hi), (.double v7), (.long lo), (.ref b20)])) rfl rfl (hb hby at_527) _ k_) ?_
                      have ff310 := (((((((((((((((((A20.ext E22).wr W24).wr W26).wr W27).wr W28).wr W29).wr W32).wr W33).wr W34).wr W288).wr W292).wr W293).wr W294).wr W295).wr W300).wr W301).wr W302)
                      have nq311 : b20 ≠ b16 := own_ne (by omega)
                      have nq312 : b20 ≠ b17 := own_ne (by omega)
                      have nq313 : b20 ≠ b18 := own_ne (by omega)
                      have nq314 : b20 ≠ b19 := own_ne (by omega)
                      have ff315 := (((((((((((((((((F20_m_nFirstTimestamp.ext E22).other W24 (Or.inl nq311)).other W26 (Or.inl nq311)).other W27 (Or.inl nq311)).other W28 (Or.inl nq311)).other W29 (Or.inl nq312)).other W32 (Or.inl nq312)).other W33 (Or.inl nq312)).other W34 (Or.inl nq312)).other W288 (Or.inl nq313)).other W292 (Or.inl nq313)).other W293 (Or.inl nq313)).other W294 (Or.inl nq313)).other W295 (Or.inl nq314)).other W300 (Or.inl nq314)).other W301 (Or.inl nq314)).other W302 (Or.inl nq314))
                      have ff316 := (((((((((((((((((F20_m_dFirstValue.ext E22).other W24 (Or.inl nq311)).other W26 (Or.inl nq311)).other W27 (Or.inl nq311)).other W28 (Or.inl nq311)).other W29 (Or.inl nq312)).other W32 (Or.inl nq312)).other W33 (Or.inl nq312)).other W34 (Or.inl nq312)).other W288 (Or.inl nq313)).other W292 (Or.inl nq313)).other W293 (Or.inl nq313)).other W294 (Or.inl nq313)).other W295 (Or.inl nq314)).other W300 (Or.inl nq314)).other W301 (Or.inl nq314)).other W302 (Or.inl nq314))
                      have ff317 := (((((((((((((((((F20_m_nLastTimestamp.ext E22).other W24 (Or.inl nq311)).other W26 (Or.inl nq311)).other W27 (Or.inl nq311)).other W28 (Or.inl nq311)).other W29 (Or.inl nq312)).other W32 (Or.inl nq312)).other W33 (Or.inl nq312)).other W34 (Or.inl nq312)).other W288 (Or.inl nq313)).other W292 (Or.inl nq313)).other W293 (Or.inl nq313)).other W294 (Or.inl nq313)).other W295 (Or.inl nq314)).other W300 (Or.inl nq314)).other W301 (Or.inl nq314)).other W302 (Or.inl nq314))
                      have ff318 := (((((((((((((((((F20_m_dLastValue.ext E22).other W24 (Or.inl nq311)).other W26 (Or.inl nq311)).other W27 (Or.inl nq311)).other W28 (Or.inl nq311)).other W29 (Or.inl nq312)).other W32 (Or.inl nq312)).other W33 (Or.inl nq312)).other W34 (Or.inl nq312)).other W288 (Or.inl nq313)).other W292 (Or.inl nq313)).other W293 (Or.inl nq313)).other W294 (Or.inl nq313)).other W295 (Or.inl nq314)).other W300 (Or.inl nq314)).other W301 (Or.inl nq314)).other W302 (Or.inl nq314))
                      have ff319 := (((((((((((((((((F20_m_nBottomTimestamp.ext E22).other W24 (Or.inl nq311)).other W26 (Or.inl nq311)).other W27 (Or.inl nq311)).other W28 (Or.inl nq311)).other W29 (Or.inl nq312)).other W32 (Or.inl nq312)).other W33 (Or.inl nq312)).other W34 (Or.inl nq312)).other W288 (Or.inl nq313)).other W292 (Or.inl nq313)).other W293 (Or.inl nq313)).other W294 (Or.inl nq313)).other W295 (Or.inl nq314)).other W300 (Or.inl nq314)).other W301 (Or.inl nq314)).other W302 (Or.inl nq314))
                      have ff320 := (((((((((((((((((F20_m_dBottomValue.ext E22).other W24 (Or.inl nq311)).other W26 (Or.inl nq311)).other W27 (Or.inl nq311)).other W28 (Or.inl nq311)).other W29 (Or.inl nq312)).other W32 (Or.inl nq312)).other W33 (Or.inl nq312)).other W34 (Or.inl nq312)).other W288 (Or.inl nq313)).other W292 (Or.inl nq313)).other W293 (Or.inl nq313)).other W294 (Or.inl nq313)).other W295 (Or.inl nq314)).other W300 (Or.inl nq314)).other W301 (Or.inl nq314)).other W302 (Or.inl nq314))
                      have ff321 := (((((((((((((((((F20_m_nTopTimestamp.ext E22).other W24 (Or.inl nq311)).other W26 (Or.inl nq311)).other W27 (Or.inl nq311)).other W28 (Or.inl nq311)).other W29 (Or.inl nq312)).other W32 (Or.inl nq312)).other W33 (Or.inl nq312)).other W34 (Or.inl nq312)).other W288 (Or.inl nq313)).other W292 (Or.inl nq313)).other W293 (Or.inl nq313)).other W294 (Or.inl nq313)).other W295 (Or.inl nq314)).other W300 (Or.inl nq314)).other W301 (Or.inl nq314)).other W302 (Or.inl nq314))
                      have ff322 := (((((((((((((((((F20_m_dTopValue.ext E22).other W24 (Or.inl nq311)).other W26 (Or.inl nq311)).other W27 (Or.inl nq311)).other W28 (Or.inl nq311)).other W29 (Or.inl nq312)).other W32 (Or.inl nq312)).other W33 (Or.inl nq312)).other W34 (Or.inl nq312)).other W288 (Or.inl nq313)).other W292 (Or.inl nq313)).other W293 (Or.inl nq313)).other W294 (Or.inl nq313)).other W295 (Or.inl nq314)).other W300 (Or.inl nq314)).other W301 (Or.inl nq314)).other W302 (Or.inl nq314))
                      obtain ⟨cq309, kq309, q309a, q309b, q309c⟩ := isOf hZ e302 ff310
                      obtain ⟨_, _, ⟨T309, L309, k309, n309⟩, -, X309, ⟨Lc309, hQ309, l309, y309, z309⟩, st309⟩ := X302.virtualBack hx (y := ym_6) (z := ym_6) hown (mvT hZ (own_w hw 28 rfl)) (mvT hZ (own_w hw 29 rfl)) (notFace_of_selects (args := #[]) (mvT hZ (own_w hw 31 rfl))) (mvT hZ (own_w hw 31 rfl)) (mvT hZ (own_w hw 30 rfl)) (by decide) (backOf (W := 0) (rm_set l Z a0 hw [] b20 lo v7 hi v9 (own_g4 (own_bot r7 r7 r8 r9) lo lo mid hi) (own_g4 (own_bot r7 r7 r8 r9) v7 v7 v8 v9) (own_g4 (own_top r7 r7 r8 r9) lo lo mid hi) (own_g4 (own_top r7 r7 r8 r9) v7 v7 v8 v9) (0 : Int64) 0 (0 : Int64) 0 (0 : Int64) 0 (0 : Int64) 0 h302 n0 (show n0 ≤ h302.size by omega) ff310 ff315 ff316 ff317 ff318 ff319 ff320 ff321 ff322 (show n0 ≤ b20 by omega)) hZ (own_w hw 32 rfl) (own_w hw 15 rfl) (by decide) (by decide)) q309a q309c (g := (mkF m 528 (La_17 y0 y1 y2 y3 y4 y5 lo hi mid v7 v8 v9 v10 (y5 &&& (3 : Int32)) tw b16 b17 b18 b19 b20 b22 (own_bot r7 r7 r8 r9) (own_top r7 r7 r8 r9)) [(.double (own_g4 (own_top r7 r7 r8 r9) v7 v7 v8 v9)), (.long (own_g4 (own_top r7 r7 r8 r9) lo lo mid hi)), (.double (own_g4 (own_bot r7 r7 r8 r9) v7 v7 v8 v9)), (.long (own_g4 (own_bot r7 r7 r8 r9) lo lo mid hi)), (.double v9), (.long hi), (.double v7), (.long lo), (.ref b20)])) rfl (by rw [hml]; rfl) (Steps.refl _) (argsL := [(.long lo), (.double v7), (.long hi), (.double v9), (.long (own_g4 (own_bot r7 r7 r8 r9) lo lo mid hi)), (.double (own_g4 (own_bot r7 r7 r8 r9) v7 v7 v8 v9)), (.long (own_g4 (own_top r7 r7 r8 r9) lo lo mid hi)), (.double (own_g4 (own_top r7 r7 r8 r9) v7 v7 v8 v9))]) (rest := []) (lenOf pd_7 rfl) rfl (by show 2 * 0 + _ ≤ _; exact Nat.le_of_eq rfl) (hb hby at_528) (fun _ _ => ⟨rfl, e302, (by decide : 6 + 0 ≤ _), (by decide : 32 + 0 ≤ _)⟩)
                      dsimp only [Pt.U, Pt.locs, Pt.cells, Pt.slots] at X309 l309 y309 z309 st309 hQ309
                      replace l309 := l309.symm; replace y309 := y309.symm; replace z309 := z309.symm; subst l309 y309 z309
                      obtain ⟨rfl, M309, K309_, f309_0, f309_1, f309_2, f309_3, f309_4, f309_5, f309_6, f309_7⟩ := hQ309
                      have zz309 := K309_.1
                      have N309 := Fr.app N302 M309
                      refine og T309 (mkF m 531 (La_17 y0 y1 y2 y3 y4 y5 lo hi mid v7 v8 v9 v10 (y5 &&& (3 : Int32)) tw b16 b17 b18 b19 b20 b22 (own_bot r7 r7 r8 r9) (own_top r7 r7 r8 r9)) []) (fun t_ k_ => st309.trans k_) ?_
                      refine og T309 (mkF m 533 (La_17 y0 y1 y2 y3 y4 y5 lo hi mid v7 v8 v9 v10 (y5 &&& (3 : Int32)) tw b16 b17 b18 b19 b20 b22 (own_bot r7 r7 r8 r9) (own_top r7 r7 r8 r9)) [(.ref b20)]) (fun t_ k_ => XS.aload X309.here hx rfl (hb hby at_531) rfl rfl k_) ?_
                      refine og T309 (mkF m 535 (La_17 y0 y1 y2 y3 y4 y5 lo hi mid v7 v8 v9 v10 (y5 &&& (3 : Int32)) tw b16 b17 b18 b19 b20 b22 (own_bot r7 r7 r8 r9) (own_top r7 r7 r8 r9)) [(.long tw), (.ref b20)]) (fun t_ k_ => XS.lload X309.here hx rfl (hb hby at_533) rfl k_) ?_
                      refine og T309 (mkF m 537 (La_17 y0 y1 y2 y3 y4 y5 lo hi mid v7 v8 v9 v10 (y5 &&& (3 : Int32)) tw b16 b17 b18 b19 b20 b22 (own_bot r7 r7 r8 r9) (own_top r7 r7 r8 r9)) [(.double v10), (.long tw), (.ref b20)]) (fun t_ k_ => XS.dload X309.here hx rfl (hb hby at_535) rfl k_) ?_
                      have ff324 := (ff310.keep K309_)
                      obtain ⟨cq323, kq323, q323a, q323b, q323c⟩ := isOf hZ rfl ff324
                      obtain ⟨_, _, ⟨T323, L323, k323, n323⟩, -, X323, ⟨Lc323, hQ323, l323, y323, z323⟩, st323⟩ := X309.virtualBack hx (y := ym_7) (z := ym_7) hown (mvT hZ (own_w hw 49 rfl)) (mvT hZ (own_w hw 50 rfl)) (notFace_of_selects (args := #[]) (mvT hZ (own_w hw 52 rfl))) (mvT hZ (own_w hw 52 rfl)) (mvT hZ (own_w hw 51 rfl)) (by decide) (backOf (W := 0) (rm_weigh l Z a0 hw [] b20 tw v10 lo v7 hi v9 (own_g4 (own_bot r7 r7 r8 r9) lo lo mid hi) (own_g4 (own_bot r7 r7 r8 r9) v7 v7 v8 v9) (own_g4 (own_top r7 r7 r8 r9) lo lo mid hi) (own_g4 (own_top r7 r7 r8 r9) v7 v7 v8 v9) r10 (own_g4 (own_bot r7 r7 r8 r9) r7 r7 r8 r9) (own_g4 (own_top r7 r7 r8 r9) r7 r7 r8 r9) T309.heap n0 (show n0 ≤ T309.heap.size by omega) ff324 f309_0 f309_1 f309_2 f309_3 f309_4 f309_5 f309_6 f309_7 f10_0 (own_gD Ib f7_0 f7_0 f8_0 f9_0) (own_gD It f7_0 f7_0 f8_0 f9_0) (show n0 ≤ b20 by omega) nlohi) hZ (own_w hw 53 rfl) (own_w hw 15 rfl) (by decide) (by decide)) q323a q323c (g := (mkF m 537 (La_17 y0 y1 y2 y3 y4 y5 lo hi mid v7 v8 v9 v10 (y5 &&& (3 : Int32)) tw b16 b17 b18 b19 b20 b22 (own_bot r7 r7 r8 r9) (own_top r7 r7 r8 r9)) [(.double v10), (.long tw), (.ref b20)])) rfl (by rw [hml]; rfl) (Steps.refl _) (argsL := [(.long tw), (.double v10)]) (rest := []) (lenOf pd_8 rfl) rfl (by show 2 * 0 + _ ≤ _; exact Nat.le_of_eq rfl) (hb hby at_537) (fun _ _ => ⟨rfl, rfl, (by decide : 6 + 0 ≤ _), (by decide : 32 + 0 ≤ _)⟩)
                      dsimp only [Pt.U, Pt.locs, Pt.cells, Pt.slots] at X323 l323 y323 z323 st323 hQ323
                      replace l323 := l323.symm; replace y323 := y323.symm; replace z323 := z323.symm; subst l323 y323 z323
                      obtain ⟨rfl, M323, K323_, f323_0, f323_1, f323_2, f323_3, f323_4, f323_5, f323_6, f323_7⟩ := hQ323
                      have zz323 := K323_.1
                      have N323 := Fr.app N309 M323
                      refine og T323 (mkF m 540 (La_17 y0 y1 y2 y3 y4 y5 lo hi mid v7 v8 v9 v10 (y5 &&& (3 : Int32)) tw b16 b17 b18 b19 b20 b22 (own_bot r7 r7 r8 r9) (own_top r7 r7 r8 r9)) []) (fun t_ k_ => st323.trans k_) ?_
                      refine og T323 (mkF m 542 (La_17 y0 y1 y2 y3 y4 y5 lo hi mid v7 v8 v9 v10 (y5 &&& (3 : Int32)) tw b16 b17 b18 b19 b20 b22 (own_bot r7 r7 r8 r9) (own_top r7 r7 r8 r9)) [(.ref b19)]) (fun t_ k_ => XS.aload X323.here hx rfl (hb hby at_540) rfl rfl k_) ?_
                      have ff326 := ((V302.keep K309_ (ninS (Ne.symm nq314) nin0)).keep K323_ (ninS (Ne.symm nq314) nin0))
                      obtain ⟨_, _, ⟨T325, L325, k325, n325⟩, -, X325, ⟨Lc325, hQ325, l325, y325, z325⟩, st325⟩ := Jvm.LawKit.callS X323 hx (y := ym_4) hown (mvT hZ (own_w hw 22 rfl)) (mvT hZ (own_w hw 23 rfl)) (mvT hZ (own_w hw 9 rfl)) (mvT hZ (own_w hw 24 rfl)) (by decide) (backOf (W := 0) (rm_bottomAt l Z a0 hw [] b19 v7 v8 v10 v9 r7 r8 r10 r9 k19 T323.heap n0 (show n0 ≤ T323.heap.size by omega) f7_0 f8_0 f10_0 f9_0 ff326) hZ (own_w hw 24 rfl) (own_w hw 9 rfl) (by decide) (by decide)) (g := (mkF m 542 (La_17 y0 y1 y2 y3 y4 y5 lo hi mid v7 v8 v9 v10 (y5 &&& (3 : Int32)) tw b16 b17 b18 b19 b20 b22 (own_bot r7 r7 r8 r9) (own_top r7 r7 r8 r9)) [(.ref b19)])) rfl (by rw [hml]; rfl) (argsL := [(.ref b19)]) (rest := []) (lenOf pd_6 rfl) rfl (by show 2 * 0 + _ ≤ _; exact Nat.le_of_eq rfl) (hb hby at_542) (fun _ _ => ⟨rfl, rfl, (by decide : 6 + 0 ≤ _), (by decide : 32 + 0 ≤ _)⟩)
                      dsimp only [Pt.U, Pt.locs, Pt.cells, Pt.slots] at X325 l325 y325 z325 st325 hQ325
                      replace l325 := l325.symm; replace y325 := y325.symm; replace z325 := z325.symm; subst l325 y325 z325
                      obtain ⟨rfl, M325, e325⟩ := hQ325
                      have N325 := Fr.app N323 M325
                      refine og T325 (mkF m 545 (La_17 y0 y1 y2 y3 y4 y5 lo hi mid v7 v8 v9 v10 (y5 &&& (3 : Int32)) tw b16 b17 b18 b19 b20 b22 (own_bot r7 r7 r8 r9) (own_top r7 r7 r8 r9)) [(.int (own_bot r7 r8 r10 r9))]) (fun t_ k_ => st325 _ k_) ?_
                      refine og T325 (mkF m 547 (La_18 y0 y1 y2 y3 y4 y5 lo hi mid v7 v8 v9 v10 (y5 &&& (3 : Int32)) tw b16 b17 b18 b19 b20 b22 (own_bot r7 r7 r8 r9) (own_top r7 r7 r8 r9) (own_bot r7 r8 r10 r9)) []) (fun t_ k_ => XS.istore X325.here hx rfl (hb hby at_545) rfl (l' := (La_18 y0 y1 y2 y3 y4 y5 lo hi mid v7 v8 v9 v10 (y5 &&& (3 : Int32)) tw b16 b17 b18 b19 b20 b22 (own_bot r7 r7 r8 r9) (own_top r7 r7 r8 r9) (own_bot r7 r8 r10 r9))) rfl k_) ?_
                      refine og T325 (mkF m 549 (La_18 y0 y1 y2 y3 y4 y5 lo hi mid v7 v8 v9 v10 (y5 &&& (3 : Int32)) tw b16 b17 b18 b19 b20 b22 (own_bot r7 r7 r8 r9) (own_top r7 r7 r8 r9) (own_bot r7 r8 r10 r9)) [(.ref b19)]) (fun t_ k_ => XS.aload X325.here hx rfl (hb hby at_547) rfl rfl k_) ?_
                      obtain ⟨_, _, ⟨T327, L327, k327, n327⟩, -, X327, ⟨Lc327, hQ327, l327, y327, z327⟩, st327⟩ := Jvm.LawKit.callS X325 hx (y := ym_5) hown (mvT hZ (own_w hw 25 rfl)) (mvT hZ (own_w hw 26 rfl)) (mvT hZ (own_w hw 9 rfl)) (mvT hZ (own_w hw 27 rfl)) (by decide) (backOf (W := 0) (rm_topAt l Z a0 hw [] b19 v7 v8 v10 v9 r7 r8 r10 r9 k19 T323.heap n0 (show n0 ≤ T323.heap.size by omega) f7_0 f8_0 f10_0 f9_0 ff326) hZ (own_w hw 27 rfl) (own_w hw 9 rfl) (by decide) (by decide)) (g := (mkF m 549 (La_18 y0 y1 y2 y3 y4 y5 lo hi mid v7 v8 v9 v10 (y5 &&& (3 : Int32)) tw b16 b17 b18 b19 b20 b22 (own_bot r7 r7 r8 r9) (own_top r7 r7 r8 r9) (own_bot r7 r8 r10 r9)) [(.ref b19)])) rfl (by rw [hml]; rfl) (argsL := [(.ref b19)]) (rest := []) (lenOf pd_6 rfl) rfl (by show 2 * 0 + _ ≤ _; exact Nat.le_of_eq rfl) (hb hby at_549) (fun _ _ => ⟨rfl, e325, (by decide : 6 + 0 ≤ _), (by decide : 32 + 0 ≤ _)⟩)
                      dsimp only [Pt.U, Pt.locs, Pt.cells, Pt.slots] at X327 l327 y327 z327 st327 hQ327
                      replace l327 := l327.symm; replace y327 := y327.symm; replace z327 := z327.symm; subst l327 y327 z327
                      obtain ⟨rfl, M327, e327⟩ := hQ327
                      have N327 := Fr.app N325 M327
                      refine og T327 (mkF m 552 (La_18 y0 y1 y2 y3 y4 y5 lo hi mid v7 v8 v9 v10 (y5 &&& (3 : Int32)) tw b16 b17 b18 b19 b20 b22 (own_bot r7 r7 r8 r9) (own_top r7 r7 r8 r9) (own_bot r7 r8 r10 r9)) [(.int (own_top r7 r8 r10 r9))]) (fun t_ k_ => st327 _ k_) ?_
                      have Jb := own_botI r7 r8 r10 r9
                      have Jt := own_topI r7 r8 r10 r9
                      refine og T327 (mkF m 554 (La_19 y0 y1 y2 y3 y4 y5 lo hi mid v7 v8 v9 v10 (y5 &&& (3 : Int32)) tw b16 b17 b18 b19 b20 b22 (own_bot r7 r7 r8 r9) (own_top r7 r7 r8 r9) (own_bot r7 r8 r10 r9) (own_top r7 r8 r10 r9)) []) (fun t_ k_ => XS.istore X327.here hx rfl (hb hby at_552) rfl (l' := (La_19 y0 y1 y2 y3 y4 y5 lo hi mid v7 v8 v9 v10 (y5 &&& (3 : Int32)) tw b16 b17 b18 b19 b20 b22 (own_bot r7 r7 r8 r9) (own_top r7 r7 r8 r9) (own_bot r7 r8 r10 r9) (own_top r7 r8 r10 r9))) rfl k_) ?_
                      refine og T327 (mkF m 556 (La_19 y0 y1 y2 y3 y4 y5 lo hi mid v7 v8 v9 v10 (y5 &&& (3 : Int32)) tw b16 b17 b18 b19 b20 b22 (own_bot r7 r7 r8 r9) (own_top r7 r7 r8 r9) (own_bot r7 r8 r10 r9) (own_top r7 r8 r10 r9)) [(.ref b22)]) (fun t_ k_ => XS.aload X327.here hx rfl (hb hby at_554) rfl rfl k_) ?_
                      refine og T327 (mkF m 558 (La_19 y0 y1 y2 y3 y4 y5 lo hi mid v7 v8 v9 v10 (y5 &&& (3 : Int32)) tw b16 b17 b18 b19 b20 b22 (own_bot r7 r7 r8 r9) (own_top r7 r7 r8 r9) (own_bot r7 r8 r10 r9) (own_top r7 r8 r10 r9)) [(.ref b18), (.ref b22)]) (fun t_ k_ => XS.aload X327.here hx rfl (hb hby at_556) rfl rfl k_) ?_
                      refine og T327 (mkF m 559 (La_19 y0 y1 y2 y3 y4 y5 lo hi mid v7 v8 v9 v10 (y5 &&& (3 : Int32)) tw b16 b17 b18 b19 b20 b22 (own_bot r7 r7 r8 r9) (own_top r7 r7 r8 r9) (own_bot r7 r8 r10 r9) (own_top r7 r8 r10 r9)) [(.int 0), (.ref b18), (.ref b22)]) (fun t_ k_ => XS.iconst X327.here hx rfl (hb hby at_558) k_) ?_
                      have ff329 := ((((((V294.other W295 (Ne.symm nq298)).other W300 (Ne.symm nq298)).other W301 (Ne.symm nq298)).other W302 (Ne.symm nq298)).keep K309_ (ninS (Ne.symm nq313) nin0)).keep K323_ (ninS (Ne.symm nq313) nin0))
                      obtain ⟨cl328, Ar328, -, S328, Nn328, H328, -⟩ := id ff329
                      have hin328 : ¬ ((0 : Int32) < 0 ∨ cl328.slots.size ≤ ((0 : Int32)).toNatClampNeg) := inb_of S328 ⟨by decide, by decide⟩
                      refine og T327 (mkF m 560 (La_19 y0 y1 y2 y3 y4 y5 lo hi mid v7 v8 v9 v10 (y5 &&& (3 : Int32)) tw b16 b17 b18 b19 b20 b22 (own_bot r7 r7 r8 r9) (own_top r7 r7 r8 r9) (own_bot r7 r8 r10 r9) (own_top r7 r8 r10 r9)) [(.long lo), (.ref b22)]) (fun t_ k_ => X327.laload hx (j := (0 : Int32)) (v := (.long lo)) (by rw [e327]; exact Ar328.1) (State.isArrayOf_alike hZ.alike Ar328.2.1) Ar328.2.2 hin328 (H328.at hin328 rfl) (g := (mkF m 559 (La_19 y0 y1 y2 y3 y4 y5 lo hi mid v7 v8 v9 v10 (y5 &&& (3 : Int32)) tw b16 b17 b18 b19 b20 b22 (own_bot r7 r7 r8 r9) (own_top r7 r7 r8 r9) (own_bot r7 r8 r10 r9) (own_top r7 r8 r10 r9)) [(.int 0), (.ref b18), (.ref b22)])) rfl rfl (hb hby at_559) _ k_) ?_
                      refine og T327 (mkF m 562 (La_19 y0 y1 y2 y3 y4 y5 lo hi mid v7 v8 v9 v10 (y5 &&& (3 : Int32)) tw b16 b17 b18 b19 b20 b22 (own_bot r7 r7 r8 r9) (own_top r7 r7 r8 r9) (own_bot r7 r8 r10 r9) (own_top r7 r8 r10 r9)) [(.ref b19), (.long lo), (.ref b22)]) (fun t_ k_ => XS.aload X327.here hx rfl (hb hby at_560) rfl rfl k_) ?_
                      refine og T327 (mkF m 563 (La_19 y0 y1 y2 y3 y4 y5 lo hi mid v7 v8 v9 v10 (y5 &&& (3 : Int32)) tw b16 b17 b18 b19 b20 b22 (own_bot r7 r7 r8 r9) (own_top r7 r7 r8 r9) (own_bot r7 r8 r10 r9) (own_top r7 r8 r10 r9)) [(.int 0), (.ref b19), (.long lo), (.ref b22)]) (fun t_ k_ => XS.iconst X327.here hx rfl (hb hby at_562) k_) ?_
                      obtain ⟨cl330, Ar330, -, S330, Nn330, H330, -⟩ := id ff326
                      have hin330 : ¬ ((0 : Int32) < 0 ∨ cl330.slots.size ≤ ((0 : Int32)).toNatClampNeg) := inb_of S330 ⟨by decide, by decide⟩
                      refine og T327 (mkF m 564 (La_19 y0 y1 y2 y3 y4 y5 lo hi mid v7 v8 v9 v10 (y5 &&& (3 : Int32)) tw b16 b17 b18 b19 b20 b22 (own_bot r7 r7 r8 r9) (own_top r7 r7 r8 r9) (own_bot r7 r8 r10 r9) (own_top r7 r8 r10 r9)) [(.double v7), (.long lo), (.ref b22)]) (fun t_ k_ => X327.daload hx (j := (0 : Int32)) (v := (.double v7)) (by rw [e327]; exact Ar330.1) (State.isArrayOf_alike hZ.alike Ar330.2.1) Ar330.2.2 hin330 (H330.at hin330 rfl) (g := (mkF m 563 (La_19 y0 y1 y2 y3 y4 y5 lo hi mid v7 v8 v9 v10 (y5 &&& (3 : Int32)) tw b16 b17 b18 b19 b20 b22 (own_bot r7 r7 r8 r9) (own_top r7 r7 r8 r9) (own_bot r7 r8 r10 r9) (own_top r7 r8 r10 r9)) [(.int 0), (.ref b19), (.long lo), (.ref b22)])) rfl rfl (hb hby at_563) _ k_) ?_
                      refine og T327 (mkF m 566 (La_19 y0 y1 y2 y3 y4 y5 lo hi mid v7 v8 v9 v10 (y5 &&& (3 : Int32)) tw b16 b17 b18 b19 b20 b22 (own_bot r7 r7 r8 r9) (own_top r7 r7 r8 r9) (own_bot r7 r8 r10 r9) (own_top r7 r8 r10 r9)) [(.ref b18), (.double v7), (.long lo), (.ref b22)]) (fun t_ k_ => XS.aload X327.here hx rfl (hb hby at_564) rfl rfl k_) ?_
                      refine og T327 (mkF m 567 (La_19 y0 y1 y2 y3 y4 y5 lo hi mid v7 v8 v9 v10 (y5 &&& (3 : Int32)) tw b16 b17 b18 b19 b20 b22 (own_bot r7 r7 r8 r9) (own_top r7 r7 r8 r9) (own_bot r7 r8 r10 r9) (own_top r7 r8 r10 r9)) [(.int 3), (.ref b18), (.double v7), (.long lo), (.ref b22)]) (fun t_ k_ => XS.iconst X327.here hx rfl (hb hby at_566) k_) ?_
                      obtain ⟨cl331, Ar331, -, S331, Nn331, H331, -⟩ := id ff329
                      have hin331 : ¬ ((3 : Int32) < 0 ∨ cl331.slots.size ≤ ((3 : Int32)).toNatClampNeg) := inb_of S331 ⟨by decide, by decide⟩
                      refine og T327 (mkF m 568 (La_19 y0 y1 y2 y3 y4 y5 lo hi mid v7 v8 v9 v10 (y5 &&& (3 : Int32)) tw b16 b17 b18 b19 b20 b22 (own_bot r7 r7 r8 r9) (own_top r7 r7 r8 r9) (own_bot r7 r8 r10 r9) (own_top r7 r8 r10 r9)) [(.long hi), (.double v7), (.long lo), (.ref b22)]) (fun t_ k_ => X327.laload hx (j := (3 : Int32)) (v := (.long hi)) (by rw [e327]; exact Ar331.1) (State.isArrayOf_alike hZ.alike Ar331.2.1) Ar331.2.2 hin331 (H331.at hin331 rfl) (g := (mkF m 567 (La_19 y0 y1 y2 y3 y4 y5 lo hi mid v7 v8 v9 v10 (y5 &&& (3 : Int32)) tw b16 b17 b18 b19 b20 b22 (own_bot r7 r7 r8 r9) (own_top r7 r7 r8 r9) (own_bot r7 r8 r10 r9) (own_top r7 r8 r10 r9)) [(.int 3), (.ref b18), (.double v7), (.long lo), (.ref b22)])) rfl rfl (hb hby at_567) _ k_) ?_
                      refine og T327 (mkF m 570 (La_19 y0 y1 y2 y3 y4 y5 lo hi mid v7 v8 v9 v10 (y5 &&& (3 : Int32)) tw b16 b17 b18 b19 b20 b22 (own_bot r7 r7 r8 r9) (own_top r7 r7 r8 r9) (own_bot r7 r8 r10 r9) (own_top r7 r8 r10 r9)) [(.ref b19), (.long hi), (.double v7), (.long lo), (.ref b22)]) (fun t_ k_ => XS.aload X327.here hx rfl (hb hby at_568) rfl rfl k_) ?_
                      refine og T327 (mkF m 571 (La_19 y0 y1 y2 y3 y4 y5 lo hi mid v7 v8 v9 v10 (y5 &&& (3 : Int32)) tw b16 b17 b18 b19 b20 b22 (own_bot r7 r7 r8 r9) (own_top r7 r7 r8 r9) (own_bot r7 r8 r10 r9) (own_top r7 r8 r10 r9)) [(.int 3), (.ref b19), (.long hi), (.double v7), (.long lo), (.ref b22)]) (fun t_ k_ => XS.iconst X327.here hx rfl (hb hby at_570) k_) ?_
                      obtain ⟨cl332, Ar332, -, S332, Nn332, H332, -⟩ := id ff326
                      have hin332 : ¬ ((3 : Int32) < 0 ∨ cl332.slots.size ≤ ((3 : Int32)).toNatClampNeg) := inb_of S332 ⟨by decide, by decide⟩
                      refine og T327 (mkF m 572 (La_19 y0 y1 y2 y3 y4 y5 lo hi mid v7 v8 v9 v10 (y5 &&& (3 : Int32)) tw b16 b17 b18 b19 b20 b22 (own_bot r7 r7 r8 r9) (own_top r7 r7 r8 r9) (own_bot r7 r8 r10 r9) (own_top r7 r8 r10 r9)) [(.double v9), (.long hi), (.double v7), (.long lo), (.ref b22)]) (fun t_ k_ => X327.daload hx (j := (3 : Int32)) (v := (.double v9)) (by rw [e327]; exact Ar332.1) (State.isArrayOf_alike hZ.alike Ar332.2.1) Ar332.2.2 hin332 (H332.at hin332 rfl) (g := (mkF m 571 (La_19 y0 y1 y2 y3 y4 y5 lo hi mid v7 v8 v9 v10 (y5 &&& (3 : Int32)) tw b16 b17 b18 b19 b20 b22 (own_bot r7 r7 r8 r9) (own_top r7 r7 r8 r9) (own_bot r7 r8 r10 r9) (own_top r7 r8 r10 r9)) [(.int 3), (.ref b19), (.long hi), (.double v7), (.long lo), (.ref b22)])) rfl rfl (hb hby at_571) _ k_) ?_
                      refine og T327 (mkF m 574 (La_19 y0 y1 y2 y3 y4 y5 lo hi mid v7 v8 v9 v10 (y5 &&& (3 : Int32)) tw b16 b17 b18 b19 b20 b22 (own_bot r7 r7 r8 r9) (own_top r7 r7 r8 r9) (own_bot r7 r8 r10 r9) (own_top r7 r8 r10 r9)) [(.ref b18), (.double v9), (.long hi), (.double v7), (.long lo), (.ref b22)]) (fun t_ k_ => XS.aload X327.here hx rfl (hb hby at_572) rfl rfl k_) ?_
                      refine og T327 (mkF m 576 (La_19 y0 y1 y2 y3 y4 y5 lo hi mid v7 v8 v9 v10 (y5 &&& (3 : Int32)) tw b16 b17 b18 b19 b20 b22 (own_bot r7 r7 r8 r9) (own_top r7 r7 r8 r9) (own_bot r7 r8 r10 r9) (own_top r7 r8 r10 r9)) [(.int (own_bot r7 r8 r10 r9)), (.ref b18), (.double v9), (.long hi), (.double v7), (.long lo), (.ref b22)]) (fun t_ k_ => XS.iload X327.here hx rfl (hb hby at_574) rfl k_) ?_
                      obtain ⟨cl333, Ar333, -, S333, Nn333, H333, -⟩ := id ff329
                      have hin333 : ¬ ((own_bot r7 r8 r10 r9) < 0 ∨ cl333.slots.size ≤ ((own_bot r7 r8 r10 r9)).toNatClampNeg) := inb_of S333 (own_in4 Jb)
                      refine og T327 (mkF m 577 (La_19 y0 y1 y2 y3 y4 y5 lo hi mid v7 v8 v9 v10 (y5 &&& (3 : Int32)) tw b16 b17 b18 b19 b20 b22 (own_bot r7 r7 r8 r9) (own_top r7 r7 r8 r9) (own_bot r7 r8 r10 r9) (own_top r7 r8 r10 r9)) [(.long (own_g4 (own_bot r7 r8 r10 r9) lo mid tw hi)), (.double v9), (.long hi), (.double v7), (.long lo), (.ref b22)]) (fun t_ k_ => X327.laload hx (j := (own_bot r7 r8 r10 r9)) (v := (.long (own_g4 (own_bot r7 r8 r10 r9) lo mid tw hi))) (by rw [e327]; exact Ar333.1) (State.isArrayOf_alike hZ.alike Ar333.2.1) Ar333.2.2 hin333 (H333.at hin333 (own_atJ Jb _ _ _ _)) (g := (mkF m 576 (La_19 y0 y1 y2 y3 y4 y5 lo hi mid v7 v8 v9 v10 (y5 &&& (3 : Int32)) tw b16 b17 b18 b19 b20 b22 (own_bot r7 r7 r8 r9) (own_top r7 r7 r8 r9) (own_bot r7 r8 r10 r9) (own_top r7 r8 r10 r9)) [(.int (own_bot r7 r8 r10 r9)), (.ref b18), (.double v9), (.long hi), (.double v7), (.long lo), (.ref b22)])) rfl rfl (hb hby at_576) _ k_) ?_
                      refine og T327 (mkF m 579 (La_19 y0 y1 y2 y3 y4 y5 lo hi mid v7 v8 v9 v10 (y5 &&& (3 : Int32)) tw b16 b17 b18 b19 b20 b22 (own_bot r7 r7 r8 r9) (own_top r7 r7 r8 r9) (own_bot r7 r8 r10 r9) (own_top r7 r8 r10 r9)) [(.ref b19), (.long (own_g4 (own_bot r7 r8 r10 r9) lo mid tw hi)), (.double v9), (.long hi), (.double v7), (.long lo), (.ref b22)]) (fun t_ k_ => XS.aload X327.here hx rfl (hb hby at_577) rfl rfl k_) ?_
                      refine og T327 (mkF m 581 (La_19 y0 y1 y2 y3 y4 y5 lo hi mid v7 v8 v9 v10 (y5 &&& (3 : Int32)) tw b16 b17 b18 b19 b20 b22 (own_bot r7 r7 r8 r9) (own_top r7 r7 r8 r9) (own_bot r7 r8 r10 r9) (own_top r7 r8 r10 r9)) [(.int (own_bot r7 r8 r10 r9)), (.ref b19), (.long (own_g4 (own_bot r7 r8 r10 r9) lo mid tw hi)), (.double v9), (.long hi), (.double v7), (.long lo), (.ref b22)]) (fun t_ k_ => XS.iload X327.here hx rfl (hb hby at_579) rfl k_) ?_
                      obtain ⟨cl334, Ar334, -, S334, Nn334, H334, -⟩ := id ff326
                      have hin334 : ¬ ((own_bot r7 r8 r10 r9) < 0 ∨ cl334.slots.size ≤ ((own_bot r7 r8 r10 r9)).toNatClampNeg) := inb_of S334 (own_in4 Jb)
                      refine og T327 (mkF m 582 (La_19 y0 y1 y2 y3 y4 y5 lo hi mid v7 v8 v9 v10 (y5 &&& (3 : Int32)) tw b16 b17 b18 b19 b20 b22 (own_bot r7 r7 r8 r9) (own_top r7 r7 r8 r9) (own_bot r7 r8 r10 r9) (own_top r7 r8 r10 r9)) [(.double (own_g4 (own_bot r7 r8 r10 r9) v7 v8 v10 v9)), (.long (own_g4 (own_bot r7 r8 r10 r9) lo mid tw hi)), (.double v9), (.long hi), (.double v7), (.long lo), (.ref b22)]) (fun t_ k_ => X327.daload hx (j := (own_bot r7 r8 r10 r9)) (v := (.double (own_g4 (own_bot r7 r8 r10 r9) v7 v8 v10 v9))) (by rw [e327]; exact Ar334.1) (State.isArrayOf_alike hZ.alike Ar334.2.1) Ar334.2.2 hin334 (H334.at hin334 (own_atD Jb _ _ _ _)) (g := (mkF m 581 (La_19 y0 y1 y2 y3 y4 y5 lo hi mid v7 v8 v9 v10 (y5 &&& (3 : Int32)) tw b16 b17 b18 b19 b20 b22 (own_bot r7 r7 r8 r9) (own_top r7 r7 r8 r9) (own_bot r7 r8 r10 r9) (own_top r7 r8 r10 r9)) [(.int (own_bot r7 r8 r10 r9)), (.ref b19), (.long (own_g4 (own_bot r7 r8 r10 r9) lo mid tw hi)), (.double v9), (.long hi), (.double v7), (.long lo), (.ref b22)])) rfl rfl (hb hby at_581) _ k_) ?_
                      refine og T327 (mkF m 584 (La_19 y0 y1 y2 y3 y4 y5 lo hi mid v7 v8 v9 v10 (y5 &&& (3 : Int32)) tw b16 b17 b18 b19 b20 b22 (own_bot r7 r7 r8 r9) (own_top r7 r7 r8 r9) (own_bot r7 r8 r10 r9) (own_top r7 r8 r10 r9)) [(.ref b18), (.double (own_g4 (own_bot r7 r8 r10 r9) v7 v8 v10 v9)), (.long (own_g4 (own_bot r7 r8 r10 r9) lo mid tw hi)), (.double v9), (.long hi), (.double v7), (.long lo), (.ref b22)]) (fun t_ k_ => XS.aload X327.here hx rfl (hb hby at_582) rfl rfl k_) ?_
                      refine og T327 (mkF m 586 (La_19 y0 y1 y2 y3 y4 y5 lo hi mid v7 v8 v9 v10 (y5 &&& (3 : Int32)) tw b16 b17 b18 b19 b20 b22 (own_bot r7 r7 r8 r9) (own_top r7 r7 r8 r9) (own_bot r7 r8 r10 r9) (own_top r7 r8 r10 r9)) [(.int (own_top r7 r8 r10 r9)), (.ref b18), (.double (own_g4 (own_bot r7 r8 r10 r9) v7 v8 v10 v9)), (.long (own_g4 (own_bot r7 r8 r10 r9) lo mid tw hi)), (.double v9), (.long hi), (.double v7), (.long lo), (.ref b22)]) (fun t_ k_ => XS.iload X327.here hx rfl (hb hby at_584) rfl k_) ?_
                      obtain ⟨cl335, Ar335, -, S335, Nn335, H335, -⟩ := id ff329
                      have hin335 : ¬ ((own_top r7 r8 r10 r9) < 0 ∨ cl335.slots.size ≤ ((own_top r7 r8 r10 r9)).toNatClampNeg) := inb_of S335 (own_in4 Jt)
                      refine og T327 (mkF m 587 (La_19 y0 y1 y2 y3 y4 y5 lo hi mid v7 v8 v9 v10 (y5 &&& (3 : Int32)) tw b16 b17 b18 b19 b20 b22 (own_bot r7 r7 r8 r9) (own_top r7 r7 r8 r9) (own_bot r7 r8 r10 r9) (own_top r7 r8 r10 r9)) [(.long (own_g4 (own_top r7 r8 r10 r9) lo mid tw hi)), (.double (own_g4 (own_bot r7 r8 r10 r9) v7 v8 v10 v9)), (.long (own_g4 (own_bot r7 r8 r10 r9) lo mid tw hi)), (.double v9), (.long hi), (.double v7), (.long lo), (.ref b22)]) (fun t_ k_ => X327.laload hx (j := (own_top r7 r8 r10 r9)) (v := (.long (own_g4 (own_top r7 r8 r10 r9) lo mid tw hi))) (by rw [e327]; exact Ar335.1) (State.isArrayOf_alike hZ.alike Ar335.2.1) Ar335.2.2 hin335 (H335.at hin335 (own_atJ Jt _ _ _ _)) (g := (mkF m 586 (La_19 y0 y1 y2 y3 y4 y5 lo hi mid v7 v8 v9 v10 (y5 &&& (3 : Int32)) tw b16 b17 b18 b19 b20 b22 (own_bot r7 r7 r8 r9) (own_top r7 r7 r8 r9) (own_bot r7 r8 r10 r9) (own_top r7 r8 r10 r9)) [(.int (own_top r7 r8 r10 r9)), (.ref b18), (.double (own_g4 (own_bot r7 r8 r10 r9) v7 v8 v10 v9)), (.long (own_g4 (own_bot r7 r8 r10 r9) lo mid tw hi)), (.double v9), (.long hi), (.double v7), (.long lo), (.ref b22)])) rfl rfl (hb hby at_586) _ k_) ?_
                      refine og T327 (mkF m 589 (La_19 y0 y1 y2 y3 y4 y5 lo hi mid v7 v8 v9 v10 (y5 &&& (3 : Int32)) tw b16 b17 b18 b19 b20 b22 (own_bot r7 r7 r8 r9) (own_top r7 r7 r8 r9) (own_bot r7 r8 r10 r9) (own_top r7 r8 r10 r9)) [(.ref b19), (.long (own_g4 (own_top r7 r8 r10 r9) lo mid tw hi)), (.double (own_g4 (own_bot r7 r8 r10 r9) v7 v8 v10 v9)), (.long (own_g4 (own_bot r7 r8 r10 r9) lo mid tw hi)), (.double v9), (.long hi), (.double v7), (.long lo), (.ref b22)]) (fun t_ k_ => XS.aload X327.here hx rfl (hb hby at_587) rfl rfl k_) ?_
                      refine og T327 (mkF m 591 (La_19 y0 y1 y2 y3 y4 y5 lo hi mid v7 v8 v9 v10 (y5 &&& (3 : Int32)) tw b16 b17 b18 b19 b20 b22 (own_bot r7 r7 r8 r9) (own_top r7 r7 r8 r9) (own_bot r7 r8 r10 r9) (own_top r7 r8 r10 r9)) [(.int (own_top r7 r8 r10 r9)), (.ref b19), (.long (own_g4 (own_top r7 r8 r10 r9) lo mid tw hi)), (.double (own_g4 (own_bot r7 r8 r10 r9) v7 v8 v10 v9)), (.long (own_g4 (own_bot r7 r8 r10 r9) lo mid tw hi)), (.double v9), (.long hi), (.double v7), (.long lo), (.ref b22)]) (fun t_ k_ => XS.iload X327.here hx rfl (hb hby at_589) rfl k_) ?_
                      obtain ⟨cl336, Ar336, -, S336, Nn336, H336, -⟩ := id ff326
                      have hin336 : ¬ ((own_top r7 r8 r10 r9) < 0 ∨ cl336.slots.size ≤ ((own_top r7 r8 r10 r9)).toNatClampNeg) := inb_of S336 (own_in4 Jt)
                      refine og T327 (mkF m 592 (La_19 y0 y1 y2 y3 y4 y5 lo hi mid v7 v8 v9 v10 (y5 &&& (3 : Int32)) tw b16 b17 b18 b19 b20 b22 (own_bot r7 r7 r8 r9) (own_top r7 r7 r8 r9) (own_bot r7 r8 r10 r9) (own_top r7 r8 r10 r9)) [(.double (own_g4 (own_top r7 r8 r10 r9) v7 v8 v10 v9)), (.long (own_g4 (own_top r7 r8 r10 r9) lo mid tw hi)), (.double (own_g4 (own_bot r7 r8 r10 r9) v7 v8 v10 v9)), (.long (own_g4 (own_bot r7 r8 r10 r9) lo mid tw hi)), (.double v9), (.long hi), (.double v7), (.long lo), (.ref b22)]) (fun t_ k_ => X327.daload hx (j := (own_top r7 r8 r10 r9)) (v := (.double (own_g4 (own_top r7 r8 r10 r9) v7 v8 v10 v9))) (by rw [e327]; exact Ar336.1) (State.isArrayOf_alike hZ.alike Ar336.2.1) Ar336.2.2 hin336 (H336.at hin336 (own_atD Jt _ _ _ _)) (g := (mkF m 591 (La_19 y0 y1 y2 y3 y4 y5 lo hi mid v7 v8 v9 v10 (y5 &&& (3 : Int32)) tw b16 b17 b18 b19 b20 b22 (own_bot r7 r7 r8 r9) (own_top r7 r7 r8 r9) (own_bot r7 r8 r10 r9) (own_top r7 r8 r10 r9)) [(.int (own_top r7 r8 r10 r9)), (.ref b19), (.long (own_g4 (own_top r7 r8 r10 r9) lo mid tw hi)), (.double (own_g4 (own_bot r7 r8 r10 r9) v7 v8 v10 v9)), (.long (own_g4 (own_bot r7 r8 r10 r9) lo mid tw hi)), (.double v9), (.long hi), (.double v7), (.long lo), (.ref b22)])) rfl rfl (hb hby at_591) _ k_) ?_
                      have ff338 := ((((((((((((((((((A22.wr W24).wr W26).wr W27).wr W28).wr W29).wr W32).wr W33).wr W34).wr W288).wr W292).wr W293).wr W294).wr W295).wr W300).wr W301).wr W302).keep K309_).keep K323_)
                      have nq339 : b22 ≠ b16 := own_ne (by omega)
                      have nq340 : b22 ≠ b17 := own_ne (by omega)
                      have nq341 : b22 ≠ b18 := own_ne (by omega)
                      have nq342 : b22 ≠ b19 := own_ne (by omega)
                      have nq343 : b22 ≠ b20 := own_ne (by omega)
                      have ff344 := ((((((((((((((((((F22_m_nFirstTimestamp.other W24 (Or.inl nq339)).other W26 (Or.inl nq339)).other W27 (Or.inl nq339)).other W28 (Or.inl nq339)).other W29 (Or.inl nq340)).other W32 (Or.inl nq340)).other W33 (Or.inl nq340)).other W34 (Or.inl nq340)).other W288 (Or.inl nq341)).other W292 (Or.inl nq341)).other W293 (Or.inl nq341)).other W294 (Or.inl nq341)).other W295 (Or.inl nq342)).other W300 (Or.inl nq342)).other W301 (Or.inl nq342)).other W302 (Or.inl nq342)).keep K309_ (ninS nq343 nin0)).keep K323_ (ninS nq343 nin0))
                      have ff345 := ((((((((((((((((((F22_m_dFirstValue.other W24 (Or.inl nq339)).other W26 (Or.inl nq339)).other W27 (Or.inl nq339)).other W28 (Or.inl nq339)).other W29 (Or.inl nq340)).other W32 (Or.inl nq340)).other W33 (Or.inl nq340)).other W34 (Or.inl nq340)).other W288 (Or.inl nq341)).other W292 (Or.inl nq341)).other W293 (Or.inl nq341)).other W294 (Or.inl nq341)).other W295 (Or.inl nq342)).other W300 (Or.inl nq342)).other W301 (Or.inl nq342)).other W302 (Or.inl nq342)).keep K309_ (ninS nq343 nin0)).keep K323_ (ninS nq343 nin0))
                      have ff346 := ((((((((((((((((((F22_m_nLastTimestamp.other W24 (Or.inl nq339)).other W26 (Or.inl nq339)).other W27 (Or.inl nq339)).other W28 (Or.inl nq339)).other W29 (Or.inl nq340)).other W32 (Or.inl nq340)).other W33 (Or.inl nq340)).other W34 (Or.inl nq340)).other W288 (Or.inl nq341)).other W292 (Or.inl nq341)).other W293 (Or.inl nq341)).other W294 (Or.inl nq341)).other W295 (Or.inl nq342)).other W300 (Or.inl nq342)).other W301 (Or.inl nq342)).other W302 (Or.inl nq342)).keep K309_ (ninS nq343 nin0)).keep K323_ (ninS nq343 nin0))
                      have ff347 := ((((((((((((((((((F22_m_dLastValue.other W24 (Or.inl nq339)).other W26 (Or.inl nq339)).other W27 (Or.inl nq339)).other W28 (Or.inl nq339)).other W29 (Or.inl nq340)).other W32 (Or.inl nq340)).other W33 (Or.inl nq340)).other W34 (Or.inl nq340)).other W288 (Or.inl nq341)).other W292 (Or.inl nq341)).other W293 (Or.inl nq341)).other W294 (Or.inl nq341)).other W295 (Or.inl nq342)).other W300 (Or.inl nq342)).other W301 (Or.inl nq342)).other W302 (Or.inl nq342)).keep K309_ (ninS nq343 nin0)).keep K323_ (ninS nq343 nin0))
                      have ff348 := ((((((((((((((((((F22_m_nBottomTimestamp.other W24 (Or.inl nq339)).other W26 (Or.inl nq339)).other W27 (Or.inl nq339)).other W28 (Or.inl nq339)).other W29 (Or.inl nq340)).other W32 (Or.inl nq340)).other W33 (Or.inl nq340)).other W34 (Or.inl nq340)).other W288 (Or.inl nq341)).other W292 (Or.inl nq341)).other W293 (Or.inl nq341)).other W294 (Or.inl nq341)).other W295 (Or.inl nq342)).other W300 (Or.inl nq342)).other W301 (Or.inl nq342)).other W302 (Or.inl nq342)).keep K309_ (ninS nq343 nin0)).keep K323_ (ninS nq343 nin0))
                      have ff349 := ((((((((((((((((((F22_m_dBottomValue.other W24 (Or.inl nq339)).other W26 (Or.inl nq339)).other W27 (Or.inl nq339)).other W28 (Or.inl nq339)).other W29 (Or.inl nq340)).other W32 (Or.inl nq340)).other W33 (Or.inl nq340)).other W34 (Or.inl nq340)).other W288 (Or.inl nq341)).other W292 (Or.inl nq341)).other W293 (Or.inl nq341)).other W294 (Or.inl nq341)).other W295 (Or.inl nq342)).other W300 (Or.inl nq342)).other W301 (Or.inl nq342)).other W302 (Or.inl nq342)).keep K309_ (ninS nq343 nin0)).keep K323_ (ninS nq343 nin0))
                      have ff350 := ((((((((((((((((((F22_m_nTopTimestamp.other W24 (Or.inl nq339)).other W26 (Or.inl nq339)).other W27 (Or.inl nq339)).other W28 (Or.inl nq339)).other W29 (Or.inl nq340)).other W32 (Or.inl nq340)).other W33 (Or.inl nq340)).other W34 (Or.inl nq340)).other W288 (Or.inl nq341)).other W292 (Or.inl nq341)).other W293 (Or.inl nq341)).other W294 (Or.inl nq341)).other W295 (Or.inl nq342)).other W300 (Or.inl nq342)).other W301 (Or.inl nq342)).other W302 (Or.inl nq342)).keep K309_ (ninS nq343 nin0)).keep K323_ (ninS nq343 nin0))
                      have ff351 := ((((((((((((((((((F22_m_dTopValue.other W24 (Or.inl nq339)).other W26 (Or.inl nq339)).other W27 (Or.inl nq339)).other W28 (Or.inl nq339)).other W29 (Or.inl nq340)).other W32 (Or.inl nq340)).other W33 (Or.inl nq340)).other W34 (Or.inl nq340)).other W288 (Or.inl nq341)).other W292 (Or.inl nq341)).other W293 (Or.inl nq341)).other W294 (Or.inl nq341)).other W295 (Or.inl nq342)).other W300 (Or.inl nq342)).other W301 (Or.inl nq342)).other W302 (Or.inl nq342)).keep K309_ (ninS nq343 nin0)).keep K323_ (ninS nq343 nin0))
                      obtain ⟨cq337, kq337, q337a, q337b, q337c⟩ := isOf hZ e327 ff338
                      obtain ⟨_, _, ⟨T337, L337, k337, n337⟩, -, X337, ⟨Lc337, hQ337, l337, y337, z337⟩, st337⟩ := X327.virtualBack hx (y := ym_6) (z := ym_6) hown (mvT hZ (own_w hw 28 rfl)) (mvT hZ (own_w hw 29 rfl)) (notFace_of_selects (args := #[]) (mvT hZ (own_w hw 31 rfl))) (mvT hZ (own_w hw 31 rfl)) (mvT hZ (own_w hw 30 rfl)) (by decide) (backOf (W := 0) (rm_set l Z a0 hw [] b22 lo v7 hi v9 (own_g4 (own_bot r7 r8 r10 r9) lo mid tw hi) (own_g4 (own_bot r7 r8 r10 r9) v7 v8 v10 v9) (own_g4 (own_top r7 r8 r10 r9) lo mid tw hi) (own_g4 (own_top r7 r8 r10 r9) v7 v8 v10 v9) (0 : Int64) 0 (0 : Int64) 0 (0 : Int64) 0 (0 : Int64) 0 T323.heap n0 (show n0 ≤ T323.heap.size by omega) ff338 ff344 ff345 ff346 ff347 ff348 ff349 ff350 ff351 (show n0 ≤ b22 by omega)) hZ (own_w hw 32 rfl) (own_w hw 15 rfl) (by decide) (by decide)) q337a q337c (g := (mkF m 592 (La_19 y0 y1 y2 y3 y4 y5 lo hi mid v7 v8 v9 v10 (y5 &&& (3 : Int32)) tw b16 b17 b18 b19 b20 b22 (own_bot r7 r7 r8 r9) (own_top r7 r7 r8 r9) (own_bot r7 r8 r10 r9) (own_top r7 r8 r10 r9)) [(.double (own_g4 (own_top r7 r8 r10 r9) v7 v8 v10 v9)), (.long (own_g4 (own_top r7 r8 r10 r9) lo mid tw hi)), (.double (own_g4 (own_bot r7 r8 r10 r9) v7 v8 v10 v9)), (.long (own_g4 (own_bot r7 r8 r10 r9) lo mid tw hi)), (.double v9), (.long hi), (.double v7), (.long lo), (.ref b22)])) rfl (by rw [hml]; rfl) (Steps.refl _) (argsL := [(.long lo), (.double v7), (.long hi), (.double v9), (.long (own_g4 (own_bot r7 r8 r10 r9) lo mid tw hi)), (.double (own_g4 (own_bot r7 r8 r10 r9) v7 v8 v10 v9)), (.long (own_g4 (own_top r7 r8 r10 r9) lo mid tw hi)), (.double (own_g4 (own_top r7 r8 r10 r9) v7 v8 v10 v9))]) (rest := []) (lenOf pd_7 rfl) rfl (by show 2 * 0 + _ ≤ _; exact Nat.le_of_eq rfl) (hb hby at_592) (fun _ _ => ⟨rfl, e327, (by decide : 6 + 0 ≤ _), (by decide : 32 + 0 ≤ _)⟩)
                      dsimp only [Pt.U, Pt.locs, Pt.cells, Pt.slots] at X337 l337 y337 z337 st337 hQ337
                      replace l337 := l337.symm; replace y337 := y337.symm; replace z337 := z337.symm; subst l337 y337 z337
                      obtain ⟨rfl, M337, K337_, f337_0, f337_1, f337_2, f337_3, f337_4, f337_5, f337_6, f337_7⟩ := hQ337
                      have zz337 := K337_.1
                      have N337 := Fr.app N327 M337
                      refine og T337 (mkF m 595 (La_19 y0 y1 y2 y3 y4 y5 lo hi mid v7 v8 v9 v10 (y5 &&& (3 : Int32)) tw b16 b17 b18 b19 b20 b22 (own_bot r7 r7 r8 r9) (own_top r7 r7 r8 r9) (own_bot r7 r8 r10 r9) (own_top r7 r8 r10 r9)) []) (fun t_ k_ => st337.trans k_) ?_
                      refine og T337 (mkF m 597 (La_19 y0 y1 y2 y3 y4 y5 lo hi mid v7 v8 v9 v10 (y5 &&& (3 : Int32)) tw b16 b17 b18 b19 b20 b22 (own_bot r7 r7 r8 r9) (own_top r7 r7 r8 r9) (own_bot r7 r8 r10 r9) (own_top r7 r8 r10 r9)) [(.ref b20)]) (fun t_ k_ => XS.aload X337.here hx rfl (hb hby at_595) rfl rfl k_) ?_
                      refine og T337 (mkF m 599 (La_19 y0 y1 y2 y3 y4 y5 lo hi mid v7 v8 v9 v10 (y5 &&& (3 : Int32)) tw b16 b17 b18 b19 b20 b22 (own_bot r7 r7 r8 r9) (own_top r7 r7 r8 r9) (own_bot r7 r8 r10 r9) (own_top r7 r8 r10 r9)) [(.ref b22), (.ref b20)]) (fun t_ k_ => XS.aload X337.here hx rfl (hb hby at_597) rfl rfl k_) ?_
                      have fix := own_fixD (v0 := v7) (v1 := v8) (v2 := v9) (vw := v10) (r0 := r7) (r1 := r8) (r2 := r9) (rw := r10) h1 h2 htD hq39_ hq41_
                      have ff352 := (f323_1.keep K337_ (ninS (Ne.symm nq343) nin0))
                      have fq353 : Fld Z T337.heap b20 "com/example/driftline/driftline/storage/Extremes" "m_dFirstValue" "D" (.double v7) := (show (if tw = lo then v10 else v7) = v7 from if_neg hq42_) ▸ ff352
                      have ff354 := (f323_3.keep K337_ (ninS (Ne.symm nq343) nin0))
                      have fq355 : Fld Z T337.heap b20 "com/example/driftline/driftline/storage/Extremes" "m_dLastValue" "D" (.double v9) := (show (if tw = hi then v10 else v9) = v9 from if_neg hq124_) ▸ ff354
                      have ff356 := (f323_4.keep K337_ (ninS (Ne.symm nq343) nin0))
                      have fq357 : Fld Z T337.heap b20 "com/example/driftline/driftline/storage/Extremes" "m_nBottomTimestamp" "J" (.long (own_g4 (own_bot r7 r8 r10 r9) lo mid tw hi)) := (show (if (r10 < (own_g4 (own_bot r7 r7 r8 r9) r7 r7 r8 r9) ∨ (r10 = (own_g4 (own_bot r7 r7 r8 r9) r7 r7 r8 r9) ∧ tw < (own_g4 (own_bot r7 r7 r8 r9) lo lo mid hi))) then tw else (own_g4 (own_bot r7 r7 r8 r9) lo lo mid hi)) = (own_g4 (own_bot r7 r8 r10 r9) lo mid tw hi) from fix.1.1) ▸ ff356
                      have ff358 := (f323_5.keep K337_ (ninS (Ne.symm nq343) nin0))
                      have fq359 : Fld Z T337.heap b20 "com/example/driftline/driftline/storage/Extremes" "m_dBottomValue" "D" (.double (own_g4 (own_bot r7 r8 r10 r9) v7 v8 v10 v9)) := (show (if (r10 < (own_g4 (own_bot r7 r7 r8 r9) r7 r7 r8 r9) ∨ (r10 = (own_g4 (own_bot r7 r7 r8 r9) r7 r7 r8 r9) ∧ tw < (own_g4 (own_bot r7 r7 r8 r9) lo lo mid hi))) then v10 else (own_g4 (own_bot r7 r7 r8 r9) v7 v7 v8 v9)) = (own_g4 (own_bot r7 r8 r10 r9) v7 v8 v10 v9) from fix.1.2) ▸ ff358
                      have ff360 := (f323_6.keep K337_ (ninS (Ne.symm nq343) nin0))
                      have fq361 : Fld Z T337.heap b20 "com/example/driftline/driftline/storage/Extremes" "m_nTopTimestamp" "J" (.long (own_g4 (own_top r7 r8 r10 r9) lo mid tw hi)) := (show (if ((own_g4 (own_top r7 r7 r8 r9) r7 r7 r8 r9) < r10 ∨ (r10 = (own_g4 (own_top r7 r7 r8 r9) r7 r7 r8 r9) ∧ tw < (own_g4 (own_top r7 r7 r8 r9) lo lo mid hi))) then tw else (own_g4 (own_top r7 r7 r8 r9) lo lo mid hi)) = (own_g4 (own_top r7 r8 r10 r9) lo mid tw hi) from fix.2.1) ▸ ff360
                      have ff362 := (f323_7.keep K337_ (ninS (Ne.symm nq343) nin0))
                      have fq363 : Fld Z T337.heap b20 "com/example/driftline/driftline/storage/Extremes" "m_dTopValue" "D" (.double (own_g4 (own_top r7 r8 r10 r9) v7 v8 v10 v9)) := (show (if ((own_g4 (own_top r7 r7 r8 r9) r7 r7 r8 r9) < r10 ∨ (r10 = (own_g4 (own_top r7 r7 r8 r9) r7 r7 r8 r9) ∧ tw < (own_g4 (own_top r7 r7 r8 r9) lo lo mid hi))) then v10 else (own_g4 (own_top r7 r7 r8 r9) v7 v7 v8 v9)) = (own_g4 (own_top r7 r8 r10 r9) v7 v8 v10 v9) from fix.2.2) ▸ ff362
                      have ff365 := (ff338.keep K337_)
                      have ff366 := (f323_0.keep K337_ (ninS (Ne.symm nq343) nin0))
                      have ff367 := (f323_2.keep K337_ (ninS (Ne.symm nq343) nin0))
                      have ff368 := ((ff324.keep K323_).keep K337_)
                      obtain ⟨cq364, kq364, q364a, q364b, q364c⟩ := isOf hZ rfl ff368
                      obtain ⟨_, _, ⟨T364, L364, k364, n364⟩, -, X364, ⟨Lc364, hQ364, l364, y364, z364⟩, st364⟩ := X337.virtualBack hx (y := ym_11) (z := ym_11) hown (mvT hZ (own_w hw 54 rfl)) (mvT hZ (own_w hw 55 rfl)) (notFace_of_selects (args := #[]) (mvT hZ (own_w hw 57 rfl))) (mvT hZ (own_w hw 57 rfl)) (mvT hZ (own_w hw 56 rfl)) (by decide) (backOf (W := 0) (rm_eq l Z a0 hw [] b20 b22 lo v7 hi v9 (own_g4 (own_bot r7 r8 r10 r9) lo mid tw hi) (own_g4 (own_bot r7 r8 r10 r9) v7 v8 v10 v9) (own_g4 (own_top r7 r8 r10 r9) lo mid tw hi) (own_g4 (own_top r7 r8 r10 r9) v7 v8 v10 v9) r7 r9 (own_g4 (own_bot r7 r8 r10 r9) r7 r8 r10 r9) (own_g4 (own_top r7 r8 r10 r9) r7 r8 r10 r9) T337.heap n0 (show n0 ≤ T337.heap.size by omega) ff365 ff366 fq353 ff367 fq355 fq357 fq359 fq361 fq363 f337_0 f337_1 f337_2 f337_3 f337_4 f337_5 f337_6 f337_7 f7_0 f9_0 (own_gD Jb f7_0 f8_0 f10_0 f9_0) (own_gD Jt f7_0 f8_0 f10_0 f9_0)) hZ (own_w hw 58 rfl) (own_w hw 15 rfl) (by decide) (by decide)) q364a q364c (g := (mkF m 599 (La_19 y0 y1 y2 y3 y4 y5 lo hi mid v7 v8 v9 v10 (y5 &&& (3 : Int32)) tw b16 b17 b18 b19 b20 b22 (own_bot r7 r7 r8 r9) (own_top r7 r7 r8 r9) (own_bot r7 r8 r10 r9) (own_top r7 r8 r10 r9)) [(.ref b22), (.ref b20)])) rfl (by rw [hml]; rfl) (Steps.refl _) (argsL := [(.ref b22)]) (rest := []) (lenOf pd_9 rfl) rfl (by show 2 * 0 + _ ≤ _; exact Nat.le_of_eq rfl) (hb hby at_599) (fun _ _ => ⟨rfl, rfl, (by decide : 6 + 0 ≤ _), (by decide : 32 + 0 ≤ _)⟩)
                      dsimp only [Pt.U, Pt.locs, Pt.cells, Pt.slots] at X364 l364 y364 z364 st364 hQ364
                      replace l364 := l364.symm; replace y364 := y364.symm; replace z364 := z364.symm; subst l364 y364 z364
                      obtain ⟨rfl, M364, e364⟩ := hQ364
                      have N364 := Fr.app N337 M364
                      refine og T364 (mkF m 602 (La_19 y0 y1 y2 y3 y4 y5 lo hi mid v7 v8 v9 v10 (y5 &&& (3 : Int32)) tw b16 b17 b18 b19 b20 b22 (own_bot r7 r7 r8 r9) (own_top r7 r7 r8 r9) (own_bot r7 r8 r10 r9) (own_top r7 r8 r10 r9)) [(.int 1)]) (fun t_ k_ => st364.trans k_) ?_
                      exact own_out X364 (v := some (.int (nar .boolean (1 : Int32)))) (fun h => by rw [hret] at h; cases h) hlk (fun fs hr => retN X364 hx (t := .boolean) hret (by simp) (hb hby at_602) hr) (Q := Q_rm_law Z y0 y1 y2 y3 y4 y5 h0 n0) (by rw [e364]; exact ⟨rfl, N364⟩) (by decide) (by decide)
    · skip
      refine og T4 (mkF m 54 (La_3 y0 y1 y2 y3 y4 y5 lo hi mid) []) (fun t_ k_ => XS.ifNo X4.here hx rfl (hb hby at_51) rfl ((if0 _ _).trans (flt (fun z => hq6_ ((lw_lt _ _).mp z))).1) k_) ?_
      refine og T4 (mkF m 55 (La_3 y0 y1 y2 y3 y4 y5 lo hi mid) [(.int 1)]) (fun t_ k_ => XS.iconst X4.here hx rfl (hb hby at_54) k_) ?_
      exact own_out X4 (v := some (.int (nar .boolean (1 : Int32)))) (fun h => by rw [hret] at h; cases h) hlk (fun fs hr => retN X4 hx (t := .boolean) hret (by simp) (hb hby at_55) hr) (Q := Q_rm_law Z y0 y1 y2 y3 y4 y5 h0 n0) (by rw [e4]; exact ⟨rfl, N4⟩) (by decide) (by decide)
  · skip
    refine og T4 (mkF m 54 (La_3 y0 y1 y2 y3 y4 y5 lo hi mid) []) (fun t_ k_ => XS.ifYes X4.here hx rfl (pc0 := 43) (pc' := 54) rfl (hb hby at_43) rfl ((if0 _ _).trans (flt (fun z => hq5_ ((lw_lt _ _).mp z))).2.1) (by decide) (by decide) k_) ?_
    refine og T4 (mkF m 55 (La_3 y0 y1 y2 y3 y4 y5 lo hi mid) [(.int 1)]) (fun t_ k_ => XS.iconst X4.here hx rfl (hb hby at_54) k_) ?_
    exact own_out X4 (v := some (.int (nar .boolean (1 : Int32)))) (fun h => by rw [hret] at h; cases h) hlk (fun fs hr => retN X4 hx (t := .boolean) hret (by simp) (hb hby at_55) hr) (Q := Q_rm_law Z y0 y1 y2 y3 y4 y5 h0 n0) (by rw [e4]; exact ⟨rfl, N4⟩) (by decide) (by decide)
set_option maxRecDepth 65536 in
set_option maxHeartbeats 40000000 in
theorem comes_1 {Post : Tables → Env → Array Value → State → Outcome → State → Prop} (hpost : ∀ tb e args s v u, (limb_1_1.after args s (.returned v) u = true ∧ limb_1_2.after args s (.returned v) u = true ∧ True) → FrameEnd s (.returned v) u (Jvm.fieldLocs frame_1_writes args s ++ Jvm.arrayLocs frame_1_arrays args s ++ Jvm.staticLocs frame_1_statics s) 24 128 → Post tb e args s (.returned v) u) :
    ArmFor flags0 classFile x code maxLocals ret World_1 tables_1 room_1 Calls_1 rest_1 Pre_1 Post := by
  intro l hfl _ _ p e ha hc hk s m args below hf hA hF happ hP
  obtain ⟨hcalls, hrest, hpre⟩ := hP
  obtain ⟨-, -, -, hnamed, -, -, -, hat⟩ := (Spec.applies_iff hf).mp happ
  obtain ⟨hg, hn⟩ := and_e (Cond.before_iff.mp (show (Jvm.Cond.and given_1 narrow_1).before args s = true from hpre))
  obtain ⟨gc, gr⟩ := and_e hg
  obtain ⟨ga0, gr0⟩ := and_e gr
  obtain ⟨ga1, gr1⟩ := and_e gr0
  obtain ⟨ga2, gr2⟩ := and_e gr1
  obtain ⟨ga3, gr3⟩ := and_e gr2
  obtain ⟨ga4, gr4⟩ := and_e gr3
  have ga5 := gr4
  obtain ⟨w0, w1, w2, w3, w4, w5, rfl⟩ : ∃ w0 w1 w2 w3 w4 w5 : Value, args = #[w0, w1, w2, w3, w4, w5] := by
    have hs : args.size = 6 := by simpa [Cond.value, given_1] using gc
    obtain ⟨L⟩ := args
    match L, hs with
    | [w0, w1, w2, w3, w4, w5], _ => exact ⟨w0, w1, w2, w3, w4, w5, rfl⟩
  have hw := fun d (hd : d ∈ tables_1) => atoms_spec (ws := Jvm.Cond.code x code maxLocals ret :: tables_1) hat d (List.mem_cons_of_mem _ hd)
  have hfit : Fit s := fun {y c} hc i hi => by
    obtain ⟨ha, rfl⟩ := Array.getElem?_eq_some_iff.mp hc
    have q := List.all_eq_true.mp ((Array.all_eq_true_iff_forall_mem.mp hF) _ (Array.getElem_mem ha)) i (List.mem_range.mpr hi)
    simpa [Array.getElem?_eq_getElem hi] using q
  obtain ⟨i0, ei0⟩ := isL_v ga0
  obtain rfl : w0 = (.long i0) := Option.some.inj ei0
  obtain ⟨i1, ei1⟩ := isL_v ga1
  obtain rfl : w1 = (.long i1) := Option.some.inj ei1
  obtain ⟨i2, ei2⟩ := isL_v ga2
  obtain rfl : w2 = (.long i2) := Option.some.inj ei2
  obtain ⟨i3, ei3⟩ := isL_v ga3
  obtain rfl : w3 = (.long i3) := Option.some.inj ei3
  obtain ⟨i4, ei4⟩ := is_v ga4
  obtain rfl : w4 = (.int i4) := Option.some.inj ei4
  obtain ⟨i5, ei5⟩ := is_v ga5
  obtain rfl : w5 = (.int i5) := Option.some.inj ei5
  obtain ⟨n, o, h1, h2, h3, _, L, rfl, ⟨rfl, N⟩, hq⟩ := rm_law l s _ hw tables_1 i0 i1 i2 i3 i4 i5 s.heap s.heap.size (Nat.le_refl _) p e ha hc hk s m _ below hf ((Spec.applies_iff_loose hf).mp happ).1 ⟨rfl, State.Warmed39.refl s, rfl⟩ trivial
  refine ⟨n, _, h1, h2, h3, hpost _ _ _ _ _ _ ⟨Cond.after_iff.mpr rfl, Cond.after_iff.mpr (eq_i res_at (Term.int_eval (1)) rfl), trivial⟩ ⟨hq.1, hq.2.1, (hq.2.2.sift fun y hy => Or.inr (N y hy)).mono (by decide) (by decide)⟩⟩
theorem main_1_1 : Claimed_1_1 := comes_1 fun _ _ _ _ _ _ h hF => ⟨h.1, hF⟩
theorem main_1_2 : Claimed_1_2 := comes_1 fun _ _ _ _ _ _ h hF => ⟨h.2.1, hF⟩
end Jvm.Pilot.@@N@@
namespace Jvm.Pilot.@@N@@
open Jvm Jvm.ClassFile Sem Op Lib Jvm.Free Jvm.Stand Jvm.Pilot.@@N@@.Jvm.D
/-! MADE BY PROGRAM (witnessworld.py) out of the Statement's table words and the real class files: 19 classes; the members and pool entries that the words name. The judged class is class 1, her method 1. -/
namespace start1
open Jvm.ClassFile
def u (s : String) : CpInfo := .utf8 (stringToUtf16 s)
/-- a pool by its gaps: so many unusable entries, then the entry; so many at the end -/
def gap : Nat → List CpInfo → List CpInfo
  | 0, r => r
  | n + 1, r => .unusable :: gap n r
def poolList (es : List (Nat × CpInfo)) (last : Nat) : List CpInfo := es.foldr (fun e r => gap e.1 (e.2 :: r)) (gap last [])
def pool (es : List (Nat × CpInfo)) (last : Nat) : Array CpInfo := ⟨poolList es last⟩
def fileOf (pool : Array CpInfo) (this : Nat) (attrs : Array Attribute := #[]) (ms : Array MethodInfo := #[]) (fl : Nat := 33) (sup : Nat := 0) (ifs : Array Nat := #[]) (fds : Array FieldInfo := #[]) : ClassFile where
  minorVersion := 0
  majorVersion := 65
  constantPool := pool
  accessFlags := fl
  thisClass := this
  superClass := sup
  interfaces := ifs
  fields := fds
  methods := ms
  attributes := attrs
def plain (name : String) (sup : Option ClassId) : Class where
  name := name
  kind := .ordinary
  loader := none
  accessFlags := 33
  super := sup
  interfaces := #[]
  cf := none
  fields := #[]
  methods := #[]
  instanceTypes := #[]
  staticTypes := #[]
  resolved := #[]
  callSites := []
  init := .initialized
  statics := none
  mirror := none

def pool0 : Array CpInfo := pool [(5, u "<init>"), (0, u "()V"), (1, .class_ 10), (1, u "java/lang/Object")] 113

def k0c0 : Code := { maxStack := 0, maxLocals := 1, code := object_method_1_code, exceptionTable := #[], attributes := #[] }
def k0m0 : Method := { name := "<init>", desc := "()V", sig := { parameters := [], returnType := none }, accessFlags := 1, code := some k0c0 }
/-- java/lang/Object -/
def k0 : Class := { plain "java/lang/Object" none with
  accessFlags := 33
  interfaces := #[]
  cf := some (fileOf pool0 8 #[] #[{ accessFlags := 1, nameIndex := 5, descriptorIndex := 6, attributes := #[] }] 33 0 #[] #[])
  fields := #[]
  methods := #[k0m0]
  instanceTypes := #[]
  staticTypes := #[]
  resolved := Array.replicate 124 none
  statics := none }

def pool1 : Array CpInfo := pool [(2, .class_ 4), (0, .nameAndType 5 6), (0, u "java/lang/Object"), (0, u "<init>"), (0, u "()V"), (0, .methodref 8 9), (0, .class_ 10), (0, .nameAndType 11 12), (0, u "java/lang/Math"), (0, u "min"), (0, u "(JJ)J"), (0, .methodref 8 14), (0, .nameAndType 15 12), (0, u "max"), (0, .methodref 17 18), (0, .class_ 19), (0, .nameAndType 20 21), (0, u "com/example/driftline/driftline/storage/ExtremesWeighPinLaw"), (0, u "val"), (0, u "(I)D"), (0, .class_ 23), (0, u "com/example/driftline/driftline/storage/Extremes"), (0, .methodref 22 3), (0, .methodref 17 26), (0, .nameAndType 27 28), (0, u "bottomAt"), (0, u "([D)I"), (0, .methodref 17 30), (0, .nameAndType 31 28), (0, u "topAt"), (0, .methodref 22 33), (0, .nameAndType 34 35), (0, u "set"), (0, u "(JDJDJDJD)V"), (0, .methodref 22 37), (0, .nameAndType 38 39), (0, u "weigh"), (0, u "(JD)V"), (0, .methodref 22 41), (0, .nameAndType 42 43), (0, u "equals"), (0, u "(Ljava/lang/Object;)Z"), (0, .double 9223372036854775808), (3, u "law"), (0, u "(JJJJII)Z")] 7

def k1m0 : Method := { name := "<init>", desc := "()V", sig := { parameters := [], returnType := none }, accessFlags := 1, code := none }
def k1c1 : Code := { maxStack := 17, maxLocals := 37, code := code, exceptionTable := #[], attributes := #[] }
def k1m1 : Method := { name := "law", desc := "(JJJJII)Z", sig := { parameters := [.long, .long, .long, .long, .int, .int], returnType := some .boolean }, accessFlags := 9, code := some k1c1 }
def k1c2 : Code := { maxStack := 2, maxLocals := 2, code := method_3_code, exceptionTable := #[], attributes := #[] }
def k1m2 : Method := { name := "val", desc := "(I)D", sig := { parameters := [.int], returnType := some .double }, accessFlags := 10, code := some k1c2 }
def k1c3 : Code := { maxStack := 4, maxLocals := 1, code := method_4_code, exceptionTable := #[], attributes := #[] }
def k1m3 : Method := { name := "bottomAt", desc := "([D)I", sig := { parameters := [(.array .double)], returnType := some .int }, accessFlags := 10, code := some k1c3 }
def k1c4 : Code := { maxStack := 4, maxLocals := 1, code := method_5_code, exceptionTable := #[], attributes := #[] }
def k1m4 : Method := { name := "topAt", desc := "([D)I", sig := { parameters := [(.array .double)], returnType := some .int }, accessFlags := 10, code := some k1c4 }
/-- com/example/driftline/driftline/storage/ExtremesWeighPinLaw -/
def k1 : Class := { plain "com/example/driftline/driftline/storage/ExtremesWeighPinLaw" (some 0) with
  accessFlags := 49
  interfaces := #[]
  cf := some (fileOf pool1 17 #[] #[{ accessFlags := 1, nameIndex := 5, descriptorIndex := 6, attributes := #[] }, { accessFlags := 9, nameIndex := 48, descriptorIndex := 49, attributes := #[] }, { accessFlags := 10, nameIndex := 20, descriptorIndex := 21, attributes := #[] }, { accessFlags := 10, nameIndex := 27, descriptorIndex := 28, attributes := #[] }, { accessFlags := 10, nameIndex := 31, descriptorIndex := 28, attributes := #[] }] 49 2 #[] #[])
  fields := #[]
  methods := #[k1m0, k1m1, k1m2, k1m3, k1m4]
  instanceTypes := #[]
  staticTypes := #[]
  resolved := Array.replicate 57 none
  statics := none }

def pool2 : Array CpInfo := pool [(1, .class_ 2), (0, u "java/lang/Math"), (1, .class_ 6), (1, u "java/lang/Object"), (0, u "<init>"), (0, u "()V"), (89, .class_ 100), (1, u "java/lang/Math$RandomNumberGeneratorHolder"), (20, u "(JJ)J"), (50, u "negativeZeroFloatBits"), (0, u "J"), (2, u "negativeZeroDoubleBits"), (21, u "max"), (2, u "min"), (43, u "$assertionsDisabled"), (0, u "Z"), (91, u "twoToTheDoubleScaleDown"), (0, u "D"), (4, u "twoToTheDoubleScaleUp"), (9, u "E"), (3, u "PI"), (2, u "TAU"), (2, u "DEGREES_TO_RADIANS"), (0, u "RADIANS_TO_DEGREES")] 94

def k2m0 : Method := { name := "<init>", desc := "()V", sig := { parameters := [], returnType := none }, accessFlags := 2, code := none }
def k2c1 : Code := { maxStack := 4, maxLocals := 4, code := jdk_29_method_66_code, exceptionTable := #[], attributes := #[] }
def k2m1 : Method := { name := "max", desc := "(JJ)J", sig := { parameters := [.long, .long], returnType := some .long }, accessFlags := 9, code := some k2c1 }
def k2c2 : Code := { maxStack := 4, maxLocals := 4, code := jdk_29_method_70_code, exceptionTable := #[], attributes := #[] }
def k2m2 : Method := { name := "min", desc := "(JJ)J", sig := { parameters := [.long, .long], returnType := some .long }, accessFlags := 9, code := some k2c2 }
/-- java/lang/Math -/
def k2 : Class := { plain "java/lang/Math" (some 0) with
  accessFlags := 49
  interfaces := #[]
  cf := some (fileOf pool2 1 #[.nestMembers #[98]] #[{ accessFlags := 2, nameIndex := 7, descriptorIndex := 8, attributes := #[] }, { accessFlags := 9, nameIndex := 198, descriptorIndex := 121, attributes := #[] }, { accessFlags := 9, nameIndex := 201, descriptorIndex := 121, attributes := #[] }] 49 4 #[] #[{ accessFlags := 25, nameIndex := 354, descriptorIndex := 339, attributes := #[] }, { accessFlags := 25, nameIndex := 358, descriptorIndex := 339, attributes := #[] }, { accessFlags := 25, nameIndex := 361, descriptorIndex := 339, attributes := #[] }, { accessFlags := 26, nameIndex := 364, descriptorIndex := 339, attributes := #[] }, { accessFlags := 26, nameIndex := 365, descriptorIndex := 339, attributes := #[] }, { accessFlags := 26, nameIndex := 172, descriptorIndex := 173, attributes := #[] }, { accessFlags := 26, nameIndex := 176, descriptorIndex := 173, attributes := #[] }, { accessFlags := 8, nameIndex := 344, descriptorIndex := 339, attributes := #[] }, { accessFlags := 8, nameIndex := 338, descriptorIndex := 339, attributes := #[] }, { accessFlags := 4120, nameIndex := 245, descriptorIndex := 246, attributes := #[] }])
  fields := #[{ name := "E", type := .double, accessFlags := 25, slot := 0, constantValue := 0 }, { name := "PI", type := .double, accessFlags := 25, slot := 1, constantValue := 0 }, { name := "TAU", type := .double, accessFlags := 25, slot := 2, constantValue := 0 }, { name := "DEGREES_TO_RADIANS", type := .double, accessFlags := 26, slot := 3, constantValue := 0 }, { name := "RADIANS_TO_DEGREES", type := .double, accessFlags := 26, slot := 4, constantValue := 0 }, { name := "negativeZeroFloatBits", type := .long, accessFlags := 26, slot := 5, constantValue := 0 }, { name := "negativeZeroDoubleBits", type := .long, accessFlags := 26, slot := 6, constantValue := 0 }, { name := "twoToTheDoubleScaleUp", type := .double, accessFlags := 8, slot := 7, constantValue := 0 }, { name := "twoToTheDoubleScaleDown", type := .double, accessFlags := 8, slot := 8, constantValue := 0 }, { name := "$assertionsDisabled", type := .boolean, accessFlags := 4120, slot := 9, constantValue := 0 }]
  methods := #[k2m0, k2m1, k2m2]
  instanceTypes := #[]
  staticTypes := #[.double, .double, .double, .double, .double, .long, .long, .double, .double, .boolean]
  resolved := Array.replicate 460 none
  statics := none }

def pool3 : Array CpInfo := pool [(1, .methodref 2 3), (0, .class_ 4), (0, .nameAndType 5 6), (0, u "java/lang/Object"), (0, u "<init>"), (0, u "()V"), (1, .class_ 10), (1, u "com/example/driftline/driftline/storage/Extremes"), (0, u "set"), (0, u "(JDJDJDJD)V"), (0, .fieldref 8 14), (0, .nameAndType 15 16), (0, u "m_nFirstTimestamp"), (0, u "J"), (0, .fieldref 8 18), (0, .nameAndType 19 20), (0, u "m_dFirstValue"), (0, u "D"), (0, .fieldref 8 22), (0, .nameAndType 23 16), (0, u "m_nLastTimestamp"), (0, .fieldref 8 25), (0, .nameAndType 26 20), (0, u "m_dLastValue"), (0, .fieldref 8 28), (0, .nameAndType 29 16), (0, u "m_nBottomTimestamp"), (0, .fieldref 8 31), (0, .nameAndType 32 20), (0, u "m_dBottomValue"), (0, .fieldref 8 34), (0, .nameAndType 35 16), (0, u "m_nTopTimestamp"), (0, .fieldref 8 37), (0, .nameAndType 38 20), (0, u "m_dTopValue"), (49, .class_ 90), (1, u "java/lang/Double"), (6, .methodref 88 98), (0, .nameAndType 99 100), (0, u "compare"), (0, u "(DD)I"), (21, u "(JD)V"), (16, u "equals"), (0, u "(Ljava/lang/Object;)Z"), (3, u "weigh")] 17

def k3c0 : Code := { maxStack := 1, maxLocals := 1, code := prog_59_method_1_code, exceptionTable := #[], attributes := #[] }
def k3m0 : Method := { name := "<init>", desc := "()V", sig := { parameters := [], returnType := none }, accessFlags := 1, code := some k3c0 }
def k3c1 : Code := { maxStack := 4, maxLocals := 3, code := prog_59_method_18_code, exceptionTable := #[], attributes := #[] }
def k3m1 : Method := { name := "equals", desc := "(Ljava/lang/Object;)Z", sig := { parameters := [(.object "java/lang/Object")], returnType := some .boolean }, accessFlags := 1, code := some k3c1 }
def k3c2 : Code := { maxStack := 3, maxLocals := 17, code := prog_59_method_21_code, exceptionTable := #[], attributes := #[] }
def k3m2 : Method := { name := "set", desc := "(JDJDJDJD)V", sig := { parameters := [.long, .double, .long, .double, .long, .double, .long, .double], returnType := none }, accessFlags := 0, code := some k3c2 }
def k3c3 : Code := { maxStack := 4, maxLocals := 5, code := prog_59_method_22_code, exceptionTable := #[], attributes := #[] }
def k3m3 : Method := { name := "weigh", desc := "(JD)V", sig := { parameters := [.long, .double], returnType := none }, accessFlags := 0, code := some k3c3 }
/-- com/example/driftline/driftline/storage/Extremes -/
def k3 : Class := { plain "com/example/driftline/driftline/storage/Extremes" (some 0) with
  accessFlags := 49
  interfaces := #[]
  cf := some (fileOf pool3 8 #[] #[{ accessFlags := 1, nameIndex := 5, descriptorIndex := 6, attributes := #[] }, { accessFlags := 1, nameIndex := 139, descriptorIndex := 140, attributes := #[] }, { accessFlags := 0, nameIndex := 11, descriptorIndex := 12, attributes := #[] }, { accessFlags := 0, nameIndex := 144, descriptorIndex := 122, attributes := #[] }] 49 2 #[] #[{ accessFlags := 2, nameIndex := 15, descriptorIndex := 16, attributes := #[] }, { accessFlags := 2, nameIndex := 19, descriptorIndex := 20, attributes := #[] }, { accessFlags := 2, nameIndex := 23, descriptorIndex := 16, attributes := #[] }, { accessFlags := 2, nameIndex := 26, descriptorIndex := 20, attributes := #[] }, { accessFlags := 2, nameIndex := 29, descriptorIndex := 16, attributes := #[] }, { accessFlags := 2, nameIndex := 32, descriptorIndex := 20, attributes := #[] }, { accessFlags := 2, nameIndex := 35, descriptorIndex := 16, attributes := #[] }, { accessFlags := 2, nameIndex := 38, descriptorIndex := 20, attributes := #[] }])
  fields := #[{ name := "m_nFirstTimestamp", type := .long, accessFlags := 2, slot := 0, constantValue := 0 }, { name := "m_dFirstValue", type := .double, accessFlags := 2, slot := 1, constantValue := 0 }, { name := "m_nLastTimestamp", type := .long, accessFlags := 2, slot := 2, constantValue := 0 }, { name := "m_dLastValue", type := .double, accessFlags := 2, slot := 3, constantValue := 0 }, { name := "m_nBottomTimestamp", type := .long, accessFlags := 2, slot := 4, constantValue := 0 }, { name := "m_dBottomValue", type := .double, accessFlags := 2, slot := 5, constantValue := 0 }, { name := "m_nTopTimestamp", type := .long, accessFlags := 2, slot := 6, constantValue := 0 }, { name := "m_dTopValue", type := .double, accessFlags := 2, slot := 7, constantValue := 0 }]
  methods := #[k3m0, k3m1, k3m2, k3m3]
  instanceTypes := #[.long, .double, .long, .double, .long, .double, .long, .double]
  staticTypes := #[]
  resolved := Array.replicate 162 none
  statics := none }

def pool4 : Array CpInfo := pool [(1, .class_ 2), (0, u "java/io/Serializable"), (0, .class_ 4), (0, u "java/lang/Object")] 2

/-- java/io/Serializable -/
def k4 : Class := { plain "java/io/Serializable" (some 0) with
  accessFlags := 1537
  interfaces := #[]
  cf := some (fileOf pool4 1 #[] #[] 1537 3 #[] #[])
  fields := #[]
  methods := #[]
  instanceTypes := #[]
  staticTypes := #[]
  resolved := Array.replicate 7 none
  statics := none }

def pool5 : Array CpInfo := pool [(2, .class_ 4), (1, u "java/lang/Object"), (0, u "<init>"), (0, u "()V"), (1, .class_ 10), (1, u "java/lang/Number"), (2, .class_ 14), (0, u "java/io/Serializable"), (0, u "serialVersionUID"), (0, u "J")] 20

def k5m0 : Method := { name := "<init>", desc := "()V", sig := { parameters := [], returnType := none }, accessFlags := 1, code := none }
/-- java/lang/Number -/
def k5 : Class := { plain "java/lang/Number" (some 0) with
  accessFlags := 1057
  interfaces := #[4]
  cf := some (fileOf pool5 8 #[] #[{ accessFlags := 1, nameIndex := 5, descriptorIndex := 6, attributes := #[] }] 1057 2 #[13] #[{ accessFlags := 26, nameIndex := 15, descriptorIndex := 16, attributes := #[] }])
  fields := #[{ name := "serialVersionUID", type := .long, accessFlags := 26, slot := 0, constantValue := 0 }]
  methods := #[k5m0]
  instanceTypes := #[]
  staticTypes := #[.long]
  resolved := Array.replicate 37 none
  statics := none }

def pool6 : Array CpInfo := pool [(1, .class_ 2), (0, u "java/lang/Comparable"), (0, .class_ 4), (0, u "java/lang/Object")] 7

/-- java/lang/Comparable -/
def k6 : Class := { plain "java/lang/Comparable" (some 0) with
  accessFlags := 1537
  interfaces := #[]
  cf := some (fileOf pool6 1 #[] #[] 1537 3 #[] #[])
  fields := #[]
  methods := #[]
  instanceTypes := #[]
  staticTypes := #[]
  resolved := Array.replicate 12 none
  statics := none }

def pool7 : Array CpInfo := pool [(1, .class_ 2), (0, u "java/lang/constant/Constable"), (0, .class_ 4), (0, u "java/lang/Object")] 6

/-- java/lang/constant/Constable -/
def k7 : Class := { plain "java/lang/constant/Constable" (some 0) with
  accessFlags := 1537
  interfaces := #[]
  cf := some (fileOf pool7 1 #[] #[] 1537 3 #[] #[])
  fields := #[]
  methods := #[]
  instanceTypes := #[]
  staticTypes := #[]
  resolved := Array.replicate 11 none
  statics := none }

def pool8 : Array CpInfo := pool [(1, .class_ 2), (0, u "java/lang/constant/ConstantDesc"), (0, .class_ 4), (0, u "java/lang/Object")] 32

/-- java/lang/constant/ConstantDesc -/
def k8 : Class := { plain "java/lang/constant/ConstantDesc" (some 0) with
  accessFlags := 1537
  interfaces := #[]
  cf := some (fileOf pool8 1 #[] #[] 1537 3 #[] #[])
  fields := #[]
  methods := #[]
  instanceTypes := #[]
  staticTypes := #[]
  resolved := Array.replicate 37 none
  statics := none }

def pool9 : Array CpInfo := pool [(1, .class_ 2), (0, u "java/lang/Double"), (11, u "(D)Z"), (31, .methodref 1 47), (0, .nameAndType 48 49), (0, u "doubleToLongBits"), (0, u "(D)J"), (64, .class_ 116), (1, u "java/lang/Number"), (3, u "value"), (0, u "D"), (0, .methodref 1 123), (0, .nameAndType 124 14), (0, u "isNaN"), (9, .methodref 1 135), (0, .nameAndType 136 49), (0, u "doubleToRawLongBits"), (4, u "compare"), (0, u "(DD)I"), (30, u "TYPE"), (0, u "Ljava/lang/Class;"), (0, .class_ 176), (0, u "java/lang/Comparable"), (0, .class_ 178), (0, u "java/lang/constant/Constable"), (0, .class_ 180), (0, u "java/lang/constant/ConstantDesc"), (0, u "POSITIVE_INFINITY"), (3, u "NEGATIVE_INFINITY"), (2, u "NaN"), (2, u "MAX_VALUE"), (0, u "MIN_NORMAL"), (0, u "MIN_VALUE"), (2, u "SIZE"), (0, u "I"), (1, u "PRECISION"), (1, u "MAX_EXPONENT"), (1, u "MIN_EXPONENT"), (1, u "BYTES"), (3, u "serialVersionUID"), (0, u "J")] 79

def k9c0 : Code := { maxStack := 4, maxLocals := 2, code := jdk_117_method_6_code, exceptionTable := #[], attributes := #[] }
def k9m0 : Method := { name := "isNaN", desc := "(D)Z", sig := { parameters := [.double], returnType := some .boolean }, accessFlags := 9, code := some k9c0 }
def k9c1 : Code := { maxStack := 2, maxLocals := 2, code := jdk_117_method_23_code, exceptionTable := #[], attributes := #[] }
def k9m1 : Method := { name := "doubleToLongBits", desc := "(D)J", sig := { parameters := [.double], returnType := some .long }, accessFlags := 9, code := some k9c1 }
def k9m2 : Method := { name := "doubleToRawLongBits", desc := "(D)J", sig := { parameters := [.double], returnType := some .long }, accessFlags := 265, code := none }
def k9c3 : Code := { maxStack := 4, maxLocals := 8, code := jdk_117_method_27_code, exceptionTable := #[], attributes := #[] }
def k9m3 : Method := { name := "compare", desc := "(DD)I", sig := { parameters := [.double, .double], returnType := some .int }, accessFlags := 9, code := some k9c3 }
/-- java/lang/Double -/
def k9 : Class := { plain "java/lang/Double" (some 5) with
  accessFlags := 49
  interfaces := #[6, 7, 8]
  cf := some (fileOf pool9 1 #[] #[{ accessFlags := 9, nameIndex := 124, descriptorIndex := 14, attributes := #[] }, { accessFlags := 9, nameIndex := 48, descriptorIndex := 49, attributes := #[] }, { accessFlags := 265, nameIndex := 136, descriptorIndex := 49, attributes := #[] }, { accessFlags := 9, nameIndex := 141, descriptorIndex := 142, attributes := #[] }] 49 114 #[175, 177, 179] #[{ accessFlags := 25, nameIndex := 181, descriptorIndex := 121, attributes := #[] }, { accessFlags := 25, nameIndex := 185, descriptorIndex := 121, attributes := #[] }, { accessFlags := 25, nameIndex := 188, descriptorIndex := 121, attributes := #[] }, { accessFlags := 25, nameIndex := 191, descriptorIndex := 121, attributes := #[] }, { accessFlags := 25, nameIndex := 192, descriptorIndex := 121, attributes := #[] }, { accessFlags := 25, nameIndex := 193, descriptorIndex := 121, attributes := #[] }, { accessFlags := 25, nameIndex := 196, descriptorIndex := 197, attributes := #[] }, { accessFlags := 25, nameIndex := 199, descriptorIndex := 197, attributes := #[] }, { accessFlags := 25, nameIndex := 201, descriptorIndex := 197, attributes := #[] }, { accessFlags := 25, nameIndex := 203, descriptorIndex := 197, attributes := #[] }, { accessFlags := 25, nameIndex := 205, descriptorIndex := 197, attributes := #[] }, { accessFlags := 25, nameIndex := 173, descriptorIndex := 174, attributes := #[] }, { accessFlags := 18, nameIndex := 120, descriptorIndex := 121, attributes := #[] }, { accessFlags := 26, nameIndex := 209, descriptorIndex := 210, attributes := #[] }])
  fields := #[{ name := "POSITIVE_INFINITY", type := .double, accessFlags := 25, slot := 0, constantValue := 0 }, { name := "NEGATIVE_INFINITY", type := .double, accessFlags := 25, slot := 1, constantValue := 0 }, { name := "NaN", type := .double, accessFlags := 25, slot := 2, constantValue := 0 }, { name := "MAX_VALUE", type := .double, accessFlags := 25, slot := 3, constantValue := 0 }, { name := "MIN_NORMAL", type := .double, accessFlags := 25, slot := 4, constantValue := 0 }, { name := "MIN_VALUE", type := .double, accessFlags := 25, slot := 5, constantValue := 0 }, { name := "SIZE", type := .int, accessFlags := 25, slot := 6, constantValue := 0 }, { name := "PRECISION", type := .int, accessFlags := 25, slot := 7, constantValue := 0 }, { name := "MAX_EXPONENT", type := .int, accessFlags := 25, slot := 8, constantValue := 0 }, { name := "MIN_EXPONENT", type := .int, accessFlags := 25, slot := 9, constantValue := 0 }, { name := "BYTES", type := .int, accessFlags := 25, slot := 10, constantValue := 0 }, { name := "TYPE", type := (.object "java/lang/Class"), accessFlags := 25, slot := 11, constantValue := 0 }, { name := "value", type := .double, accessFlags := 18, slot := 0, constantValue := 0 }, { name := "serialVersionUID", type := .long, accessFlags := 26, slot := 12, constantValue := 0 }]
  methods := #[k9m0, k9m1, k9m2, k9m3]
  instanceTypes := #[.double]
  staticTypes := #[.double, .double, .double, .double, .double, .double, .int, .int, .int, .int, .int, (.object "java/lang/Class"), .long]
  resolved := Array.replicate 290 none
  statics := none }

def pool10 : Array CpInfo := pool [(1, u "java/lang/Cloneable"), (0, .class_ 1), (0, u "java/lang/Object"), (0, .class_ 3)] 3

/-- java/lang/Cloneable -/
def k10 : Class := { plain "java/lang/Cloneable" (some 0) with
  accessFlags := 1537
  interfaces := #[]
  cf := some (fileOf pool10 2 #[] #[] 1537 4 #[] #[])
  fields := #[]
  methods := #[]
  instanceTypes := #[]
  staticTypes := #[]
  resolved := Array.replicate 8 none
  statics := none }

/-- the primitive byte -/
def k11 : Class := { plain "byte" none with kind := .primitive 'B', accessFlags := 0x411 }
/-- [B -/
def k12 : Class := { plain "[B" (some 0) with kind := .array 11 .byte, interfaces := #[10, 4], accessFlags := 1041 }

/-- the primitive double -/
def k13 : Class := { plain "double" none with kind := .primitive 'D', accessFlags := 0x411 }
/-- [D -/
def k14 : Class := { plain "[D" (some 0) with kind := .array 13 .double, interfaces := #[10, 4], accessFlags := 1041 }

/-- the primitive int -/
def k15 : Class := { plain "int" none with kind := .primitive 'I', accessFlags := 0x411 }
/-- [I -/
def k16 : Class := { plain "[I" (some 0) with kind := .array 15 .int, interfaces := #[10, 4], accessFlags := 1041 }

/-- the primitive long -/
def k17 : Class := { plain "long" none with kind := .primitive 'J', accessFlags := 0x411 }
/-- [J -/
def k18 : Class := { plain "[J" (some 0) with kind := .array 17 .long, interfaces := #[10, 4], accessFlags := 1041 }

def heap : Heap := #[]
def classes : Array Class := #[k0, k1, k2, k3, k4, k5, k6, k7, k8, k9, k10, k11, k12, k13, k14, k15, k16, k17, k18]
def interned : List (Array UInt16 × Addr) := []
def slotsUsed : Nat := 0
def theMethod : MethodId := ⟨1, 1⟩
def args0 : Array Value := #[.long 1, .long 2, .long 3, .long 2, .int 5, .int 2]
def aboutOver (below : List Frame) : State where
  vm := { classes := classes, interned := interned.toArray }
  heap := heap
  slotsUsed := slotsUsed
  threads := #[{ frames := .invoking theMethod args0 :: below }]
def below0 : List Frame := [.native { method := ⟨0, 0⟩, args := #[] }]
def about1 : State := aboutOver below0
def p0 : Program := .bare "" "" ""
def e0 : Env := launch0.env 0 0 0
theorem w_frames : about1.frames = Frame.invoking theMethod args0 :: below0 := rfl
set_option maxRecDepth 65536 in
theorem w_args : argsFit about1.vm theMethod args0 = true := by decide +kernel
set_option maxRecDepth 65536 in
theorem w_heap : heapFits about1 = true := by decide +kernel
set_option maxRecDepth 65536 in
theorem w_runnable : about1.curStatus? = some .runnable := by decide +kernel
set_option maxRecDepth 65536 in
theorem w_alone : about1.alone = true := by decide +kernel
set_option maxRecDepth 65536 in
theorem w_named : about1.methodNamed? x = some theMethod := by decide +kernel
set_option maxRecDepth 65536 in
theorem w_hears : about1.hears theMethod below0 = true := by decide +kernel
set_option maxRecDepth 65536 in
theorem w_ripe : about1.ripe theMethod args0 below0 = true := by decide +kernel
theorem w_running : about1.status = .running := rfl
set_option maxRecDepth 65536 in
theorem w_room : about1.hasRoom e0.platform room_1 = true :=
  launch0.hasRoom_least _ room_1 (by decide +kernel) (by decide +kernel) (by decide +kernel) (by decide +kernel) (by decide +kernel) (by decide +kernel)
theorem allAtoms_all (ts : List Jvm.Cond) (a : Array Jvm.Value) (st : Jvm.State) : (allAtoms ts).before a st = ts.all (fun c => c.before a st) := by
  induction ts with
  | nil => rfl
  | cons c t ih =>
    show (Jvm.Cond.and c (allAtoms t)).before a st = _
    rw [Jvm.Cond.before_and, ih, List.all_cons]
def words1 : List Jvm.Cond := Jvm.Cond.code x code maxLocals ret :: tables_1
/-- a 'code' word, met by the world's own term for the bytes: nothing is compared byte by byte -/
theorem code_word {y : MethodName} {bytes : ByteArray} {mx : Nat} {rt : Option FieldType} {a : Array Value} {s : State} {m : MethodId} {meth : Method} {c : Code} (h1 : s.methodNamed? y = some m) (h2 : s.vm.method? m = some meth) (h3 : meth.code = some c) (h4 : c.code = bytes)
    (h5 : (c.maxLocals == mx && c.exceptionTable.isEmpty && decide (c.maxStack ≤ mostOperands) && decide (meth.sig.returnType = rt) && !meth.locks && decide (parseMethodDescriptor y.desc = some meth.sig)) = true) : (Jvm.Cond.code y bytes mx rt).before a s = true := by
  simp only [Bool.and_eq_true, beq_iff_eq, Bool.not_eq_true', decide_eq_true_eq] at h5
  obtain ⟨⟨⟨⟨⟨g1, g2⟩, g3⟩, g4⟩, g5⟩, g6⟩ := h5
  simp [Cond.before, Cond.holds, Cond.value, h1, h2, h3, h4, g1, g2, g3, g4, g5, g6]
def isCode : Jvm.Cond → Bool
  | .code _ _ _ _ => true
  | _ => false
theorem all_split {L : List Jvm.Cond} {P : Jvm.Cond → Bool} (h1 : L.all (fun c => isCode c || P c) = true) (h2 : ∀ c ∈ L.filter isCode, P c = true) : L.all P = true := by
  refine List.all_eq_true.mpr fun c hc => ?_
  have h := List.all_eq_true.mp h1 c hc
  rcases Bool.eq_false_or_eq_true (isCode c) with hi | hi
  · exact h2 c (List.mem_filter.mpr ⟨hc, hi⟩)
  · simpa [hi] using h
set_option maxRecDepth 65536 in
theorem w_c0 : (Jvm.Cond.code x code maxLocals ret).before args0 about1 = true := code_word (m := ⟨1, 1⟩) (meth := k1m1) (c := k1c1) (by decide +kernel) rfl rfl rfl (by decide +kernel)
set_option maxRecDepth 65536 in
theorem w_c1 : (Jvm.Cond.code ({ cls := "java/lang/Math", name := "min", desc := "(JJ)J" } : Jvm.MethodName) jdk_29_method_70_code (4 : Nat) (Option.some Jvm.ClassFile.FieldType.long)).before args0 about1 = true := code_word (m := ⟨2, 2⟩) (meth := k2m2) (c := k2c2) (by decide +kernel) rfl rfl rfl (by decide +kernel)
set_option maxRecDepth 65536 in
theorem w_c2 : (Jvm.Cond.code ({ cls := "java/lang/Math", name := "max", desc := "(JJ)J" } : Jvm.MethodName) jdk_29_method_66_code (4 : Nat) (Option.some Jvm.ClassFile.FieldType.long)).before args0 about1 = true := code_word (m := ⟨2, 1⟩) (meth := k2m1) (c := k2c1) (by decide +kernel) rfl rfl rfl (by decide +kernel)
set_option maxRecDepth 65536 in
theorem w_c3 : (Jvm.Cond.code ({ cls := "com/example/driftline/driftline/storage/ExtremesWeighPinLaw", name := "val", desc := "(I)D" } : Jvm.MethodName) method_3_code (2 : Nat) (Option.some Jvm.ClassFile.FieldType.double)).before args0 about1 = true := code_word (m := ⟨1, 2⟩) (meth := k1m2) (c := k1c2) (by decide +kernel) rfl rfl rfl (by decide +kernel)
set_option maxRecDepth 65536 in
theorem w_c4 : (Jvm.Cond.code ({ cls := "com/example/driftline/driftline/storage/Extremes", name := "<init>", desc := "()V" } : Jvm.MethodName) prog_59_method_1_code (1 : Nat) (Option.none : Option Jvm.ClassFile.FieldType)).before args0 about1 = true := code_word (m := ⟨3, 0⟩) (meth := k3m0) (c := k3c0) (by decide +kernel) rfl rfl rfl (by decide +kernel)
set_option maxRecDepth 65536 in
theorem w_c5 : (Jvm.Cond.code ({ cls := "java/lang/Object", name := "<init>", desc := "()V" } : Jvm.MethodName) object_method_1_code (1 : Nat) (Option.none : Option Jvm.ClassFile.FieldType)).before args0 about1 = true := code_word (m := ⟨0, 0⟩) (meth := k0m0) (c := k0c0) (by decide +kernel) rfl rfl rfl (by decide +kernel)
set_option maxRecDepth 65536 in
theorem w_c6 : (Jvm.Cond.code ({ cls := "com/example/driftline/driftline/storage/ExtremesWeighPinLaw", name := "bottomAt", desc := "([D)I" } : Jvm.MethodName) method_4_code (1 : Nat) (Option.some Jvm.ClassFile.FieldType.int)).before args0 about1 = true := code_word (m := ⟨1, 3⟩) (meth := k1m3) (c := k1c3) (by decide +kernel) rfl rfl rfl (by decide +kernel)
set_option maxRecDepth 65536 in
theorem w_c7 : (Jvm.Cond.code ({ cls := "com/example/driftline/driftline/storage/ExtremesWeighPinLaw", name := "topAt", desc := "([D)I" } : Jvm.MethodName) method_5_code (1 : Nat) (Option.some Jvm.ClassFile.FieldType.int)).before args0 about1 = true := code_word (m := ⟨1, 4⟩) (meth := k1m4) (c := k1c4) (by decide +kernel) rfl rfl rfl (by decide +kernel)
set_option maxRecDepth 65536 in
theorem w_c8 : (Jvm.Cond.code ({ cls := "com/example/driftline/driftline/storage/Extremes", name := "set", desc := "(JDJDJDJD)V" } : Jvm.MethodName) prog_59_method_21_code (17 : Nat) (Option.none : Option Jvm.ClassFile.FieldType)).before args0 about1 = true := code_word (m := ⟨3, 2⟩) (meth := k3m2) (c := k3c2) (by decide +kernel) rfl rfl rfl (by decide +kernel)
set_option maxRecDepth 65536 in
theorem w_c9 : (Jvm.Cond.code ({ cls := "com/example/driftline/driftline/storage/Extremes", name := "weigh", desc := "(JD)V" } : Jvm.MethodName) prog_59_method_22_code (5 : Nat) (Option.none : Option Jvm.ClassFile.FieldType)).before args0 about1 = true := code_word (m := ⟨3, 3⟩) (meth := k3m3) (c := k3c3) (by decide +kernel) rfl rfl rfl (by decide +kernel)
set_option maxRecDepth 65536 in
theorem w_c10 : (Jvm.Cond.code ({ cls := "com/example/driftline/driftline/storage/Extremes", name := "equals", desc := "(Ljava/lang/Object;)Z" } : Jvm.MethodName) prog_59_method_18_code (3 : Nat) (Option.some Jvm.ClassFile.FieldType.boolean)).before args0 about1 = true := code_word (m := ⟨3, 1⟩) (meth := k3m1) (c := k3c1) (by decide +kernel) rfl rfl rfl (by decide +kernel)
set_option maxRecDepth 65536 in
theorem w_c11 : (Jvm.Cond.code ({ cls := "java/lang/Double", name := "compare", desc := "(DD)I" } : Jvm.MethodName) jdk_117_method_27_code (8 : Nat) (Option.some Jvm.ClassFile.FieldType.int)).before args0 about1 = true := code_word (m := ⟨9, 3⟩) (meth := k9m3) (c := k9c3) (by decide +kernel) rfl rfl rfl (by decide +kernel)
set_option maxRecDepth 65536 in
theorem w_c12 : (Jvm.Cond.code ({ cls := "java/lang/Double", name := "doubleToLongBits", desc := "(D)J" } : Jvm.MethodName) jdk_117_method_23_code (2 : Nat) (Option.some Jvm.ClassFile.FieldType.long)).before args0 about1 = true := code_word (m := ⟨9, 1⟩) (meth := k9m1) (c := k9c1) (by decide +kernel) rfl rfl rfl (by decide +kernel)
set_option maxRecDepth 65536 in
theorem w_c13 : (Jvm.Cond.code ({ cls := "java/lang/Double", name := "isNaN", desc := "(D)Z" } : Jvm.MethodName) jdk_117_method_6_code (2 : Nat) (Option.some Jvm.ClassFile.FieldType.boolean)).before args0 about1 = true := code_word (m := ⟨9, 0⟩) (meth := k9m0) (c := k9c0) (by decide +kernel) rfl rfl rfl (by decide +kernel)
def codes1 : List Jvm.Cond := [Jvm.Cond.code x code maxLocals ret, Jvm.Cond.code ({ cls := "java/lang/Math", name := "min", desc := "(JJ)J" } : Jvm.MethodName) jdk_29_method_70_code (4 : Nat) (Option.some Jvm.ClassFile.FieldType.long), Jvm.Cond.code ({ cls := "java/lang/Math", name := "max", desc := "(JJ)J" } : Jvm.MethodName) jdk_29_method_66_code (4 : Nat) (Option.some Jvm.ClassFile.FieldType.long), Jvm.Cond.code ({ cls := "com/example/driftline/driftline/storage/ExtremesWeighPinLaw", name := "val", desc := "(I)D" } : Jvm.MethodName) method_3_code (2 : Nat) (Option.some Jvm.ClassFile.FieldType.double), Jvm.Cond.code ({ cls := "com/example/driftline/driftline/storage/Extremes", name := "<init>", desc := "()V" } : Jvm.MethodName) prog_59_method_1_code (1 : Nat) (Option.none : Option Jvm.ClassFile.FieldType), Jvm.Cond.code ({ cls := "java/lang/Object", name := "<init>", desc := "()V" } : Jvm.MethodName) object_method_1_code (1 : Nat) (Option.none : Option Jvm.ClassFile.FieldType), Jvm.Cond.code ({ cls := "com/example/driftline/driftline/storage/ExtremesWeighPinLaw", name := "bottomAt", desc := "([D)I" } : Jvm.MethodName) method_4_code (1 : Nat) (Option.some Jvm.ClassFile.FieldType.int), Jvm.Cond.code ({ cls := "com/example/driftline/driftline/storage/ExtremesWeighPinLaw", name := "topAt", desc := "([D)I" } : Jvm.MethodName) method_5_code (1 : Nat) (Option.some Jvm.ClassFile.FieldType.int), Jvm.Cond.code ({ cls := "com/example/driftline/driftline/storage/Extremes", name := "set", desc := "(JDJDJDJD)V" } : Jvm.MethodName) prog_59_method_21_code (17 : Nat) (Option.none : Option Jvm.ClassFile.FieldType), Jvm.Cond.code ({ cls := "com/example/driftline/driftline/storage/Extremes", name := "weigh", desc := "(JD)V" } : Jvm.MethodName) prog_59_method_22_code (5 : Nat) (Option.none : Option Jvm.ClassFile.FieldType), Jvm.Cond.code ({ cls := "com/example/driftline/driftline/storage/Extremes", name := "equals", desc := "(Ljava/lang/Object;)Z" } : Jvm.MethodName) prog_59_method_18_code (3 : Nat) (Option.some Jvm.ClassFile.FieldType.boolean), Jvm.Cond.code ({ cls := "java/lang/Double", name := "compare", desc := "(DD)I" } : Jvm.MethodName) jdk_117_method_27_code (8 : Nat) (Option.some Jvm.ClassFile.FieldType.int), Jvm.Cond.code ({ cls := "java/lang/Double", name := "doubleToLongBits", desc := "(D)J" } : Jvm.MethodName) jdk_117_method_23_code (2 : Nat) (Option.some Jvm.ClassFile.FieldType.long), Jvm.Cond.code ({ cls := "java/lang/Double", name := "isNaN", desc := "(D)Z" } : Jvm.MethodName) jdk_117_method_6_code (2 : Nat) (Option.some Jvm.ClassFile.FieldType.boolean)]
set_option maxRecDepth 65536 in
theorem codes_eq : words1.filter isCode = codes1 := rfl
theorem w_codes : ∀ c ∈ words1.filter isCode, c.before args0 about1 = true := by
  rw [codes_eq]
  intro c hc
  simp only [codes1, List.mem_cons, List.not_mem_nil, or_false] at hc
  rcases hc with rfl | rfl | rfl | rfl | rfl | rfl | rfl | rfl | rfl | rfl | rfl | rfl | rfl | rfl
  · exact w_c0
  · exact w_c1
  · exact w_c2
  · exact w_c3
  · exact w_c4
  · exact w_c5
  · exact w_c6
  · exact w_c7
  · exact w_c8
  · exact w_c9
  · exact w_c10
  · exact w_c11
  · exact w_c12
  · exact w_c13
set_option maxRecDepth 65536 in
theorem w_t1 : (words1.take 24).all (fun c => isCode c || c.before args0 about1) = true := by decide +kernel
set_option maxRecDepth 65536 in
theorem w_t2 : ((words1.drop 24).take 24).all (fun c => isCode c || c.before args0 about1) = true := by decide +kernel
set_option maxRecDepth 65536 in
theorem w_t3 : (((words1.drop 24).drop 24).take 24).all (fun c => isCode c || c.before args0 about1) = true := by decide +kernel
set_option maxRecDepth 65536 in
theorem w_t4 : (((words1.drop 24).drop 24).drop 24).all (fun c => isCode c || c.before args0 about1) = true := by decide +kernel
theorem w_tables : (allAtoms (Jvm.Cond.code x code maxLocals ret :: tables_1)).before args0 about1 = true := by
  rw [allAtoms_all]
  show words1.all (fun c => c.before args0 about1) = true
  refine all_split ?_ w_codes
  rw [← List.take_append_drop 24 words1, List.all_append, w_t1, ← List.take_append_drop 24 (words1.drop 24), List.all_append, w_t2, ← List.take_append_drop 24 ((words1.drop 24).drop 24), List.all_append, w_t3, w_t4]
  rfl
set_option maxRecDepth 65536 in
theorem w_case : (Jvm.Cond.and given_1 narrow_1).before args0 about1 = true := by decide +kernel
theorem w_applies : (headSpec (Jvm.Cond.code x code maxLocals ret :: tables_1) room_1).applies x e0.platform about1 = true :=
  (Spec.applies_iff w_frames).mpr ⟨w_running, w_runnable, w_alone, w_named, w_hears, w_ripe, w_room, w_tables⟩
theorem atStart : AtStart classFile x code maxLocals ret World_1 tables_1 room_1 Calls_1 rest_1 Pre_1 launch0 p0 e0 about1 theMethod args0 below0 :=
  ⟨lists_1, trivial, launch0.admits_env _ _ _, launch0.least_env, fairChoices_fair.cas, fairChoices_fair.clock, w_frames, w_args, w_heap, w_applies, trivial, trivial, w_case⟩
end start1
theorem witness_1 : WitnessClaimed_1 := ⟨start1.p0, start1.e0, start1.about1, start1.theMethod, start1.args0, start1.below0, start1.atStart⟩
end Jvm.Pilot.@@N@@
