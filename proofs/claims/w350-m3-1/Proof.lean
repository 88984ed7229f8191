import JvmDerived
import JvmDerived.Pilot.@@N@@Statement
import JvmDerived.Pilot.@@N@@Code
set_option linter.unusedVariables false
set_option linter.unusedSimpArgs false
namespace Jvm.RoadKit
open Sem ClassFile Op Lib Jvm.Stand Jvm.Free Jvm.LawKit
section New
variable {p : Program} {l : Launch} {e : Env} {R : Room} {s : State} {m : MethodId} {args : Array Value} {below : List Frame} {meth : Method} {c : Code} {T : State} {locs : List Loc} {cells slots : Nat}
theorem retI (X : Stand p l e R s m args below meth c T locs cells slots) (hx : p.tables.exec = Jvm.exec) {pc : Nat} {Ls : Array Slot} {z : Int32} {rest : List Value} (hret : meth.sig.returnType = some .int) (hd : decode c.code pc = .ok (.ireturn, 1)) {fs : List Frame}
    (hl : ∀ (f : JFrame) (acts : List Action), f.method = m → f.locked = none → f.entered = [] → (doReturn e (T.setTop f) acts (some (.int z))).1 = T.setFrames fs) : Steps p.tables e below (T.setTop (mkF m pc Ls (.int z :: rest))) (T.setFrames fs) :=
  retOut X hx hret rfl (Or.inl ⟨rfl, Or.inl rfl, _, rfl⟩) hd hl
theorem own_retA (X : Stand p l e R s m args below meth c T locs cells slots) (hx : p.tables.exec = Jvm.exec) {pc : Nat} {Ls : Array Slot} {w : Value} {t : FieldType} {rest : List Value} (hret : meth.sig.returnType = some t) (ht : t.isReference = true) (hw : w.isRef = true) (hd : decode c.code pc = .ok (.areturn, 1)) {fs : List Frame}
    (hl : ∀ (f : JFrame) (acts : List Action), f.method = m → f.locked = none → f.entered = [] → (doReturn e (T.setTop f) acts (some w)).1 = T.setFrames fs) : Steps p.tables e below (T.setTop (mkF m pc Ls (w :: rest))) (T.setFrames fs) :=
  retOut X hx hret (by cases w <;> first | (simp [Value.isRef] at hw; done) | (cases t <;> rfl)) (Or.inr (Or.inr (Or.inr (Or.inr ⟨rfl, ht, hw⟩)))) hd hl
theorem own_retJ (X : Stand p l e R s m args below meth c T locs cells slots) (hx : p.tables.exec = Jvm.exec) {pc : Nat} {Ls : Array Slot} {z : Int64} {rest : List Value} (hret : meth.sig.returnType = some .long) (hd : decode c.code pc = .ok (.lreturn, 1)) {fs : List Frame}
    (hl : ∀ (f : JFrame) (acts : List Action), f.method = m → f.locked = none → f.entered = [] → (doReturn e (T.setTop f) acts (some (.long z))).1 = T.setFrames fs) : Steps p.tables e below (T.setTop (mkF m pc Ls (.long z :: rest))) (T.setFrames fs) :=
  retOut X hx hret rfl (Or.inr (Or.inl ⟨rfl, rfl, _, rfl⟩)) hd hl
/-- the walk goes on from here and ends as Q says -/
def own_Go (p : Program) (e : Env) (below : List Frame) (T : State) (g : JFrame) (Q : Outcome → State → Prop) : Prop :=
  ∃ s₂ o, Steps p.tables e below (T.setTop g) s₂ ∧ s₂.status = .running ∧ Ended s₂ below o ∧ Q o s₂
theorem own_go {T T' : State} {g g' : JFrame} {Q : Outcome → State → Prop} (h : ∀ t, Steps p.tables e below (T'.setTop g') t → Steps p.tables e below (T.setTop g) t) (k : own_Go p e below T' g' Q) : own_Go p e below T g Q := by
  obtain ⟨s₂, o, a, b⟩ := k
  exact ⟨s₂, o, h _ a, b⟩
theorem own_st {T T' t : State} {g g' : JFrame} (h : Steps p.tables e below (T'.setTop g') t → Steps p.tables e below (T.setTop g) t) (k : Steps p.tables e below (T'.setTop g') t) : Steps p.tables e below (T.setTop g) t := h k
theorem own_cast {g g' : JFrame} {Q : Outcome → State → Prop} (q : g = g') (k : own_Go p e below T g' Q) : own_Go p e below T g Q := by
  subst q; exact k
theorem og {T : State} {g : JFrame} {Q : Outcome → State → Prop} (T' : State) (g' : JFrame) (h : ∀ t, Steps p.tables e below (T'.setTop g') t → Steps p.tables e below (T.setTop g) t) (k : own_Go p e below T' g' Q) : own_Go p e below T g Q := own_go h k
theorem os {T t : State} {g : JFrame} (T' : State) (g' : JFrame) (h : Steps p.tables e below (T'.setTop g') t → Steps p.tables e below (T.setTop g) t) (k : Steps p.tables e below (T'.setTop g') t) : Steps p.tables e below (T.setTop g) t := h k
theorem own_in {g g' : JFrame} {Q : Outcome → State → Prop} (q : g = g') (k : own_Go p e below T g' Q) : ∃ s₂ o, Steps p.tables e below (T.setTop g) s₂ ∧ s₂.status = .running ∧ Ended s₂ below o ∧ Q o s₂ := by
  subst q; exact k
theorem own_out (X : Stand p l e R s m args below meth c T locs cells slots) {g : JFrame} {v : Option Value} (hv : meth.sig.returnType = none → v = none) (hlk : meth.locks = false)
    (h : ∀ fs, (∀ (f : JFrame) (acts : List Action), f.method = m → f.locked = none → f.entered = [] → (doReturn e (T.setTop f) acts v).1 = T.setFrames fs) → Steps p.tables e below (T.setTop g) (T.setFrames fs))
    {Q : Option Value → Heap → List Loc → Prop} (hQ : Q v T.heap locs) {k n : Nat} (hc : cells ≤ k) (hn : slots ≤ n) :
    own_Go p e below T g (fun o U' => ∃ v L, o = .returned v ∧ Q v U'.heap L ∧ FrameEnd s o U' L k n) := by
  obtain ⟨fs, hr, hrun, hended, hW, hsame⟩ := X.leave hv hlk
  exact ⟨_, _, h fs hr, hrun, hended, _, _, rfl, hQ, ⟨_, rfl⟩, hW, hsame.mono hc hn⟩
theorem own_since (s : State) : s.Since s.vm 0 := ⟨State.Warmed39.refl s, fun j p hj hp => by
  rw [Array.getElem?_eq_none hj] at hp; cases hp⟩
theorem own_outW {vm₁ : Vm} (X : Stand p l e R (s.setVm vm₁) m args below meth c T locs cells slots) {n0 : Nat} (hS : s.Since vm₁ n0) (hn0 : n0 ≤ T.heap.size) {g : JFrame} {v : Option Value} (hv : meth.sig.returnType = none → v = none) (hlk : meth.locks = false)
    (h : ∀ fs, (∀ (f : JFrame) (acts : List Action), f.method = m → f.locked = none → f.entered = [] → (doReturn e (T.setTop f) acts v).1 = T.setFrames fs) → Steps p.tables e below (T.setTop g) (T.setFrames fs))
    {Q : Option Value → Heap → List Loc → Prop} (hQ : Q v T.heap locs) {k n : Nat} (hc : cells ≤ k) (hn : slots ≤ n) :
    own_Go p e below T g (fun o U' => ∃ v L, o = .returned v ∧ Q v U'.heap L ∧ ReturnedEndW s o U' L k n) := by
  obtain ⟨fs, hr, hrun, hended, h1, h2, h3, h4⟩ := X.leaveW hS hn0 hv hlk
  exact ⟨_, _, h fs hr, hrun, hended, _, _, rfl, hQ, h1, h2, h3, h4.mono hc hn⟩
theorem own_outV {vm₁ : Vm} (X : Stand p l e R (s.setVm vm₁) m args below meth c T locs cells slots) {n0 : Nat} (hS : s.Since vm₁ n0) (hn0 : n0 ≤ T.heap.size) {g : JFrame} {v : Option Value} (hv : meth.sig.returnType = none → v = none) (hlk : meth.locks = false)
    (h : ∀ fs, (∀ (f : JFrame) (acts : List Action), f.method = m → f.locked = none → f.entered = [] → (doReturn e (T.setTop f) acts v).1 = T.setFrames fs) → Steps p.tables e below (T.setTop g) (T.setFrames fs))
    {Q : Option Value → Heap → Vm → List Loc → Prop} (hQ : Q v T.heap T.vm locs) {k n : Nat} (hc : cells ≤ k) (hn : slots ≤ n) :
    own_Go p e below T g (fun o U' => ∃ v L, o = .returned v ∧ Q v U'.heap U'.vm L ∧ ReturnedEndW s o U' L k n) := by
  obtain ⟨fs, hr, hrun, hended, h1, h2, h3, h4⟩ := X.leaveW hS hn0 hv hlk
  exact ⟨_, _, h fs hr, hrun, hended, _, _, rfl, hQ, h1, h2, h3, h4.mono hc hn⟩
/-- a callee that may intern, whose contract also reads and tells the tables -/
theorem own_backV {Z : State} {h : Heap} {a0 : Array Value} {y : MethodName} {bytes : ByteArray} {maxL : Nat} {ret : Option FieldType} {rm : Room} {len W : Nat} {as' : Array Value} {Q : Option Value → Heap → Vm → List Loc → Prop} {I : Vm → Prop} (hI : ∀ vm, s.WarmedH vm → I vm)
    (hM : MetFree l y (head1 [Cond.code y bytes maxL ret] rm) (fun a U => a = as' ∧ Z.Warmed39 U.vm ∧ U.heap = h ∧ I U.vm) (fun _ _ _ _ _ => True) (fun _ U o U' => ∃ v L, o = .returned v ∧ Q v U'.heap U'.vm L ∧ ReturnedEndW U o U' L rm.cells rm.slots))
    (hZ : Z.Warmed39 s.vm) (wc : (Cond.code y bytes maxL ret).before a0 Z = true) (wz : (Cond.initialized y.cls).before a0 Z = true) (hf : rm.frames + 1 ≤ R.frames) (hl : W + (maxL + 11) + rm.locals ≤ R.locals) :
    BackS l R p e below s args y len W (fun A a => a = as' ∧ A.U.heap = h ∧ A.cells + rm.cells ≤ R.cells ∧ A.slots + rm.slots ≤ R.slots)
      (fun A _ v B => ∃ L, Q v B.U.heap B.U.vm L ∧ B.locs = A.locs ++ L ∧ B.cells = A.cells + rm.cells ∧ B.slots = A.slots + rm.slots) :=
  BackS.of_freeW (bytes := bytes) (maxL := maxL) (ret := ret) (E := fun _ _ o t L k n => k = rm.cells ∧ n = rm.slots ∧ ∃ v, o = .returned v ∧ Q v t.heap t.vm L) hM hf hl
    (fun m meth c A a Y hp => have hU : Z.Warmed39 A.U.vm := wtrans hZ Y.warmed
      ⟨by show (Cond.and _ .tt).before a A.U = true; rw [Cond.before_and, mv hU wc]; rfl, mv hU wc, mv hU wz, hp.2.2.1, hp.2.2.2⟩)
    (fun m meth c A a g mk Y hp => ⟨hp.1, wtrans hZ Y.warmed, hp.2.1, hI _ Y.warmed⟩) (fun _ _ _ _ _ _ _ _ _ => trivial)
    (fun _ _ _ _ ⟨v, L, h1, h2, h3⟩ => ⟨L, _, _, h3, rfl, rfl, v, h1, h2⟩)
    (fun m meth c A a g mk v t L k n Y hp _ _ ⟨e1, e2, v', e3, e4⟩ => by cases e3; subst e1 e2; exact ⟨L, e4, rfl, rfl, rfl⟩)
theorem own_ltN {a n : Nat} (h : a < n) : a < n := h
theorem own_leN {a n : Nat} (h : a ≤ n) : a ≤ n := h
theorem own_ne {a b : Nat} (h : a ≠ b) : a ≠ b := h
abbrev own_MF (l : Launch) (y : MethodName) (code : ByteArray) (ml : Nat) (ret : Option FieldType) (R : Room) (ws : List Jvm.Cond) (Z : State) (as' : Array Value) (h0 : Heap) (Q : Option Value → Heap → List Loc → Prop) : Prop :=
  MetFree l y (head1 (Jvm.Cond.code y code ml ret :: ws) R) (fun a U => a = as' ∧ Z.Warmed39 U.vm ∧ U.heap = h0) (fun _ _ _ _ _ => True) (fun _ U o U' => ∃ v L, o = .returned v ∧ Q v U'.heap L ∧ FrameEnd U o U' L R.cells R.slots)
theorem own_begin {l : Launch} {y : MethodName} {code : ByteArray} {ml : Nat} {ret : Option FieldType} {R : Room} {ws : List Jvm.Cond} {Z : State} {as' : Array Value} {h0 : Heap} {Q : Option Value → Heap → List Loc → Prop} (hpl : plainFor y = true) {fr : MethodId → JFrame} (hef : ∀ m, entryFrame m as' ml = fr m)
    (body : ∀ (p : Program) (e : Env) (s : State) (m : MethodId) (below : List Frame) (meth : Method) (c : Code) (s₁ : State), meth.sig.returnType = ret → p.tables.exec = Jvm.exec → c.code = code → c.maxLocals = ml → s.vm.findClass y.cls = some m.cls → meth.name = y.name → meth.locks = false → Stand p l e R s m as' below meth c s₁ [] 0 0 → s₁.heap = h0 → s.heap = h0 → Z.Warmed39 s.vm →
      own_Go p e below s₁ (fr m) (fun o U' => ∃ v L, o = .returned v ∧ Q v U'.heap L ∧ FrameEnd s o U' L R.cells R.slots)) : own_MF l y code ml ret R ws Z as' h0 Q := by
  refine MetFree.of_bodySF hpl hisR ?_
  intro p e s m args below meth c s₁ Bd hml0 hP hK
  obtain ⟨rfl, hZ, hh⟩ := hP
  exact own_in (hef m) (body p e s m below meth c s₁ Bd.returns Bd.exec Bd.bytes hml0 (findClass_of_methodNamed Bd.named) (name_of_methodNamed Bd.named Bd.method).1 (BodyLoose.notSynchronized Bd) (Stand.of_body Bd) (by rw [← hh, Bd.state]; rfl) hh hZ)
theorem own_t0 {P : Prop} [Decidable P] (h : P) : (if P then (0 : Int32) else (1 : Int32)) = 0 := if_pos h
theorem own_f0 {P : Prop} [Decidable P] (h : ¬ P) : ¬ (if P then (0 : Int32) else (1 : Int32)) = 0 := by rw [if_neg h]; decide
theorem own_t1 {P : Prop} [Decidable P] (h : P) : ¬ (if P then (1 : Int32) else (0 : Int32)) = 0 := by rw [if_pos h]; decide
theorem own_f1 {P : Prop} [Decidable P] (h : ¬ P) : (if P then (1 : Int32) else (0 : Int32)) = 0 := if_neg h
end New
end Jvm.RoadKit
namespace Jvm.Pilot.@@N@@
open Jvm Jvm.ClassFile Sem Op Lib Jvm.Free Jvm.Stand Jvm.LawKit Jvm.RoadKit Bundle Jvm.Pilot.@@N@@.Jvm.D
theorem own_w {Z : State} {a0 : Array Value} {d : Jvm.Cond} (hw : ∀ d ∈ tables_1, d.before a0 Z = true) (i : Nat) (h : tables_1[i]? = some d) : d.before a0 Z = true := hw d (List.mem_of_getElem? h)

abbrev own_W (c : Int32) : Prop := c = (32 : Int32) ∨ c = (10 : Int32) ∨ c = (9 : Int32) ∨ c = (13 : Int32)
theorem own_i8 (x : Int32) : x.toInt8.toInt32.toInt8.toInt32 = x.toInt8.toInt32 := by
  simp
theorem own_narb (x : Int32) : nar .byte x.toInt8.toInt32 = x.toInt8.toInt32 := by
  simp [nar]
theorem own_narc16 {x : Int32} (h : ¬ x < (0 : Int32) ∧ ¬ (65535 : Int32) < x) : nar .char x = x := by
  obtain ⟨h1, h2⟩ := h
  rw [Int32.lt_iff_toInt_lt] at h1 h2
  have e0 : (0 : Int32).toInt = 0 := rfl
  have e1 : (65535 : Int32).toInt = 65535 := rfl
  have q := c_i2c x
  apply Int32.toInt_inj.mp
  show (x.toUInt32.toUInt16.toUInt32.toInt32).toInt = x.toInt
  omega
theorem own_i2cr (x : Int32) : ¬ (x.toUInt32.toUInt16.toUInt32.toInt32) < (0 : Int32) ∧ ¬ (65535 : Int32) < (x.toUInt32.toUInt16.toUInt32.toInt32) := by
  have q := c_i2c x
  have e0 : (0 : Int32).toInt = 0 := rfl
  have e1 : (65535 : Int32).toInt = 65535 := rfl
  rw [Int32.lt_iff_toInt_lt, Int32.lt_iff_toInt_lt]
  omega
theorem own_wsb {ch : Int32} (h0 : ¬ ch < (0 : Int32)) (h1 : ¬ (32 : Int32) < ch) : (((1 : Int64) <<< (ch &&& 0x3f).toInt64) &&& (4294977024 : Int64)) = (0 : Int64) ↔ ¬ own_W ch := by
  have t : ∀ k : Fin 33, ((((1 : Int64) <<< ((Int32.ofNat k.val) &&& 0x3f).toInt64) &&& (4294977024 : Int64)) = (0 : Int64) ↔ ¬ own_W (Int32.ofNat k.val)) := by decide +kernel
  rw [Int32.lt_iff_toInt_lt] at h0 h1
  have e0 : (0 : Int32).toInt = 0 := rfl
  have e1 : (32 : Int32).toInt = 32 := rfl
  obtain ⟨k, hk⟩ : ∃ k : Nat, ch.toInt = k := ⟨ch.toInt.toNat, by omega⟩
  have e : ch = Int32.ofNat k := by
    apply Int32.toInt_inj.mp
    rw [hk, Int32.toInt_ofNat_of_lt (by omega)]
  rw [e]
  exact t ⟨k, by omega⟩
theorem own_wbig {ch : Int32} (h : (32 : Int32) < ch) : ¬ own_W ch := by
  rintro (rfl | rfl | rfl | rfl) <;> exact absurd h (by decide)
theorem own_lat {x : Int32} (h : ¬ x < (0 : Int32)) (h' : ¬ (255 : Int32) < x) : ((((x.toInt8.toInt32) &&& (255 : Int32)).toUInt32.toUInt16.toUInt32.toInt32)) = x := by
  rw [i2c_mask]
  rw [Int32.lt_iff_toInt_lt] at h h'
  have e0 : (0 : Int32).toInt = 0 := rfl
  have e1 : (255 : Int32).toInt = 255 := rfl
  apply Int32.toInt_inj.mp
  rw [c_mask _ (255 : Int32) 8 (by decide) (by decide)]
  have q := c_i2b x
  omega
theorem own_join {x : Int32} (h : ¬ x < (0 : Int32) ∧ ¬ (65535 : Int32) < x) : ((((((((x >>> ((0 : Int32) &&& 31)).toInt8.toInt32) &&& (255 : Int32)) <<< ((0 : Int32) &&& 31)) ||| ((((x >>> ((8 : Int32) &&& 31)).toInt8.toInt32) &&& (255 : Int32)) <<< ((8 : Int32) &&& 31)))).toUInt32.toUInt16.toUInt32.toInt32)) = x := by
  obtain ⟨h1, h2⟩ := h
  rw [Int32.lt_iff_toInt_lt] at h1 h2
  have e0 : (0 : Int32).toInt = 0 := rfl
  have e1 : (65535 : Int32).toInt = 65535 := rfl
  have s0 := c_ishr x 0 0 (by decide)
  have s8 := c_ishr x 8 8 (by decide)
  have b0 := c_i2b (x >>> ((0 : Int32) &&& 31))
  have b8 := c_i2b (x >>> ((8 : Int32) &&& 31))
  have m0 := c_mask ((x >>> ((0 : Int32) &&& 31)).toInt8.toInt32) (255 : Int32) 8 (by decide) (by decide)
  have m8 := c_mask ((x >>> ((8 : Int32) &&& 31)).toInt8.toInt32) (255 : Int32) 8 (by decide) (by decide)
  have t0 := c_ishl (((x >>> ((0 : Int32) &&& 31)).toInt8.toInt32) &&& (255 : Int32)) 0 0 (by decide)
  have t8 := c_ishl (((x >>> ((8 : Int32) &&& 31)).toInt8.toInt32) &&& (255 : Int32)) 8 8 (by decide)
  have r0 := rng32 ((((x >>> ((0 : Int32) &&& 31)).toInt8.toInt32) &&& (255 : Int32)) <<< ((0 : Int32) &&& 31))
  have r8 := rng32 ((((x >>> ((8 : Int32) &&& 31)).toInt8.toInt32) &&& (255 : Int32)) <<< ((8 : Int32) &&& 31))
  have o := c_or' ((((x >>> ((0 : Int32) &&& 31)).toInt8.toInt32) &&& (255 : Int32)) <<< ((0 : Int32) &&& 31)) ((((x >>> ((8 : Int32) &&& 31)).toInt8.toInt32) &&& (255 : Int32)) <<< ((8 : Int32) &&& 31)) 8 (by decide) 256 rfl (by omega) (by omega) (by omega)
  have ro := rng32 (((((x >>> ((0 : Int32) &&& 31)).toInt8.toInt32) &&& (255 : Int32)) <<< ((0 : Int32) &&& 31)) ||| ((((x >>> ((8 : Int32) &&& 31)).toInt8.toInt32) &&& (255 : Int32)) <<< ((8 : Int32) &&& 31)))
  have q := c_i2c (((((x >>> ((0 : Int32) &&& 31)).toInt8.toInt32) &&& (255 : Int32)) <<< ((0 : Int32) &&& 31)) ||| ((((x >>> ((8 : Int32) &&& 31)).toInt8.toInt32) &&& (255 : Int32)) <<< ((8 : Int32) &&& 31)))
  apply Int32.toInt_inj.mp
  omega
/-- a String that spells cs, in one byte a char or in two; itself and its bytes lie below n -/
def own_Sw (Z : State) (h : Heap) (n a : Nat) (cs : List Int32) : Prop :=
  Exa Z h a "java/lang/String" ∧ a < n ∧ ∃ (t : Nat) (kb : ClassId), t < n ∧ Fld Z h a "java/lang/String" "value" "[B" (.ref t) ∧
    ((Fld Z h a "java/lang/String" "coder" "B" (.int (0 : Int32)) ∧ (∀ c ∈ cs, ¬ c < (0 : Int32) ∧ ¬ (255 : Int32) < c) ∧ Arv Z h t kb .byte (Int32.ofNat cs.length) (cs.map fun c => Value.int c.toInt8.toInt32) (.int (0 : Int32))) ∨
     (Fld Z h a "java/lang/String" "coder" "B" (.int (1 : Int32)) ∧ Arv Z h t kb .byte (Int32.ofNat (2 * cs.length)) (cs.flatMap fun c => [Value.int ((c >>> ((0 : Int32) &&& 31)).toInt8.toInt32), Value.int ((c >>> ((8 : Int32) &&& 31)).toInt8.toInt32)]) (.int (0 : Int32))))
theorem own_Sw.ext {Z : State} {h h' : Heap} {n a : Nat} {cs : List Int32} (F : own_Sw Z h n a cs) (E : Ext h h') : own_Sw Z h' n a cs := by
  obtain ⟨h1, h2, t, kb, h5, h6, h7⟩ := F
  refine ⟨h1.ext E, h2, t, kb, h5, h6.ext E, ?_⟩
  rcases h7 with ⟨a1, a2, a3⟩ | ⟨a1, a3⟩
  · exact Or.inl ⟨a1.ext E, a2, a3.ext E⟩
  · exact Or.inr ⟨a1.ext E, a3.ext E⟩
theorem own_Sw.keep {Z : State} {h h' : Heap} {n a : Nat} {cs : List Int32} {ws : List Addr} (F : own_Sw Z h n a cs) (K : Keep h h' ws) (q : ∀ x ∈ ws, n ≤ x) : own_Sw Z h' n a cs := by
  obtain ⟨h1, h2, t, kb, h5, h6, h7⟩ := F
  have na : a ∉ ws := fun hm => absurd (q a hm) (Nat.not_le_of_lt h2)
  have nt : t ∉ ws := fun hm => absurd (q t hm) (Nat.not_le_of_lt h5)
  refine ⟨h1.keep K, h2, t, kb, h5, h6.keep K na, ?_⟩
  rcases h7 with ⟨a1, a2, a3⟩ | ⟨a1, a3⟩
  · exact Or.inl ⟨a1.keep K na, a2, a3.keep K nt⟩
  · exact Or.inr ⟨a1.keep K na, a3.keep K nt⟩
theorem own_Sw.wr {Z : State} {h h' : Heap} {n a : Nat} {cs : List Int32} {x : Addr} {sl : Nat} {v : Value} (F : own_Sw Z h n a cs) (W : Wr h h' x sl v) (q : n ≤ x) : own_Sw Z h' n a cs :=
  F.keep (Keep.of_wr W) (allS q all0)
theorem own_Sw.mono {Z : State} {h : Heap} {n n' a : Nat} {cs : List Int32} (F : own_Sw Z h n a cs) (q : n ≤ n') : own_Sw Z h n' a cs := by
  obtain ⟨h1, h2, t, kb, h5, h6, h7⟩ := F
  exact ⟨h1, Nat.lt_of_lt_of_le h2 q, t, kb, Nat.lt_of_lt_of_le h5 q, h6, h7⟩
theorem own_Sw.lt {Z : State} {h : Heap} {n a : Nat} {cs : List Int32} (F : own_Sw Z h n a cs) : a < n := F.2.1
/-- the same, in one byte a char -/
def own_Sl (Z : State) (h : Heap) (n a : Nat) (cs : List Int32) : Prop :=
  Exa Z h a "java/lang/String" ∧ a < n ∧ ∃ (t : Nat) (kb : ClassId), t < n ∧ Fld Z h a "java/lang/String" "value" "[B" (.ref t) ∧ Fld Z h a "java/lang/String" "coder" "B" (.int (0 : Int32)) ∧ Arv Z h t kb .byte (Int32.ofNat cs.length) (cs.map fun c => Value.int c.toInt8.toInt32) (.int (0 : Int32))
theorem own_Sl.mono {Z : State} {h : Heap} {n n' a : Nat} {cs : List Int32} (F : own_Sl Z h n a cs) (q : n ≤ n') : own_Sl Z h n' a cs := by
  obtain ⟨h1, h2, t, kb, h5, h6, h7⟩ := F
  exact ⟨h1, Nat.lt_of_lt_of_le h2 q, t, kb, Nat.lt_of_lt_of_le h5 q, h6, h7⟩
theorem own_four (x : Int32) : (x &&& (3 : Int32)) = (0 : Int32) ∨ (x &&& (3 : Int32)) = (1 : Int32) ∨ (x &&& (3 : Int32)) = (2 : Int32) ∨ (x &&& (3 : Int32)) = (3 : Int32) := by
  have h := c_mask x (3 : Int32) 2 (by decide) (by decide)
  have q : (x &&& (3 : Int32)).toInt = 0 ∨ (x &&& (3 : Int32)).toInt = 1 ∨ (x &&& (3 : Int32)).toInt = 2 ∨ (x &&& (3 : Int32)).toInt = 3 := by omega
  rcases q with q | q | q | q
  · exact Or.inl (Int32.toInt_inj.mp q)
  · exact Or.inr (Or.inl (Int32.toInt_inj.mp q))
  · exact Or.inr (Or.inr (Or.inl (Int32.toInt_inj.mp q)))
  · exact Or.inr (Or.inr (Or.inr (Int32.toInt_inj.mp q)))
theorem own_steq {args : Array Value} {s : State} {C f d : String} {k : Int32} (h : (Jvm.Cond.eq (Term.static C f d) (Term.int k)).value args s none s [] = some true) : (Term.static C f d).eval args s none [] s = some (.int k) := by
  obtain ⟨x, y, h1, h2, k1, k2⟩ := cmp_v (Or.inl h)
  have hk : (Term.int k).eval args s none [] s = some (.int k) := Term.int_eval k
  cases h2.symm.trans hk
  obtain ⟨z, rfl⟩ := k2
  have e := gotT (Cond.eq_ints h1 hk) h
  subst e
  exact h1
/-- the state of the law's own String constant: nothing interned since the start, or resolved to a String that spells cs -/
def own_LitSt (Z : State) (N : Nat) (own : String) (i : Nat) (text : String) (cs : List Int32) (vm : Vm) (h : Heap) : Prop :=
  IB Z vm [] ∨ ∃ a, IB Z vm [text] ∧ Lit (Z.setVm vm) own i a ∧ own_Sl Z h N a cs
theorem own_ib {Z s : State} {vm : Vm} {Ts : List String} (hW : s.WarmedH vm) (I : IB Z s.vm Ts) : IB Z vm Ts := by
  obtain ⟨more, h1, h2⟩ := I
  exact ⟨more, by rw [hW.1]; exact h1, h2⟩
theorem own_lit {Z s : State} {vm : Vm} {own : String} {i : Nat} {a : Addr} (hW : s.Warmed39 vm) (L : Lit (Z.setVm s.vm) own i a) : Lit (Z.setVm vm) own i a :=
  State.resolvedAt?_warmed39 (s := s) hW L
theorem own_LitSt.warm {Z s : State} {N : Nat} {own : String} {i : Nat} {text : String} {cs : List Int32} {vm : Vm} {h : Heap} (F : own_LitSt Z N own i text cs s.vm h) (hW : s.WarmedH vm) : own_LitSt Z N own i text cs vm h := by
  rcases F with I | ⟨a, I, L, S⟩
  · exact Or.inl (own_ib hW I)
  · exact Or.inr ⟨a, own_ib hW I, own_lit hW.wide L, S⟩
theorem own_LitSt.monoN {Z : State} {N N' : Nat} {own : String} {i : Nat} {text : String} {cs : List Int32} {vm : Vm} {h : Heap} (F : own_LitSt Z N own i text cs vm h) (q : N ≤ N') : own_LitSt Z N' own i text cs vm h := by
  rcases F with I | ⟨a, I, L, S⟩
  · exact Or.inl I
  · exact Or.inr ⟨a, I, L, S.mono q⟩
theorem own_LitSt.ib {Z : State} {N : Nat} {own : String} {i : Nat} {text : String} {cs : List Int32} {vm : Vm} {h : Heap} (F : own_LitSt Z N own i text cs vm h) (hn : text ≠ "") : ∃ Ts, IB Z vm Ts ∧ "" ∉ Ts := by
  rcases F with I | ⟨a, I, L, S⟩
  · exact ⟨_, I, List.not_mem_nil⟩
  · exact ⟨_, I, fun hm => hn (List.mem_singleton.mp hm).symm⟩
theorem d_jdk_41_11_0 : decode jdk_41_method_11_code 0 = .ok (.iload_n 0, 1) := by decide +kernel
theorem d_jdk_41_11_1 : decode jdk_41_method_11_code 1 = .ok (.ifCond .lt 8, 3) := by decide +kernel
theorem d_jdk_41_11_4 : decode jdk_41_method_11_code 4 = .ok (.iload_n 0, 1) := by decide +kernel
theorem d_jdk_41_11_5 : decode jdk_41_method_11_code 5 = .ok (.iload_n 1, 1) := by decide +kernel
theorem d_jdk_41_11_6 : decode jdk_41_method_11_code 6 = .ok (.if_icmp .lt 10, 3) := by decide +kernel
theorem d_jdk_41_11_16 : decode jdk_41_method_11_code 16 = .ok (.iload_n 0, 1) := by decide +kernel
theorem d_jdk_41_11_17 : decode jdk_41_method_11_code 17 = .ok (.ireturn, 1) := by decide +kernel
theorem pn_0 : plainName "jdk/internal/util/Preconditions" = true := by first | (simp [plainName, overriddenIn]; done) | decide +kernel
theorem ef_0 (m : MethodId) (i : Int32) (n : Int32) : entryFrame m #[(.int i), (.int n), .null] 3 = mkF m 0 #[iv i, iv n, .val .null] [] := by first | (simp [entryFrame, mkF, argsToLocals, Value.category]; done) | rfl
def Q_rm_pcin (Z : State) (i : Int32) (n : Int32) (h0 : Heap) (n0 : Nat) (vv : Option Value) (h : Heap) (LL : List Loc) : Prop := vv = some (.int i) ∧ Fr n0 LL ∧ h = h0
set_option maxRecDepth 65536 in
set_option maxHeartbeats 40000000 in
abbrev ym_0 : MethodName := ⟨"jdk/internal/util/Preconditions", "checkIndex", "(IILjava/util/function/BiFunction;)I"⟩
theorem rm_pcin (l : Launch) (Z : State) (a0 : Array Value) (hw : ∀ d ∈ tables_1, d.before a0 Z = true) (ws : List Jvm.Cond) (i : Int32) (n : Int32) (h0 : Heap) (n0 : Nat) (Z0 : n0 ≤ h0.size) (h1 : ¬ (i < (0 : Int32))) (h2 : i < n) :
    own_MF l ym_0 jdk_41_method_11_code 3 (some .int) ⟨0, 0, 0, 0⟩ ws Z #[(.int i), (.int n), .null] h0 (Q_rm_pcin Z i n h0 n0) := by
  refine own_begin (plainFor_of_name pn_0) (fun m => ef_0 m i n) ?_
  intro p e s m below meth c s₁ hret hx hby hml hown hnm hlk X0 e0 hh hZ
  have N0 := Fr.nil n0
  refine og s₁ (mkF m 1 #[iv i, iv n, .val .null] [(.int i)]) (fun t_ k_ => XS.iloadN X0.here hx rfl (hb hby d_jdk_41_11_0) rfl k_) ?_
  refine og s₁ (mkF m 4 #[iv i, iv n, .val .null] []) (fun t_ k_ => XS.ifNo X0.here hx rfl (hb hby d_jdk_41_11_1) rfl ((if0 _ _).trans (flt h1).1) k_) ?_
  refine og s₁ (mkF m 5 #[iv i, iv n, .val .null] [(.int i)]) (fun t_ k_ => XS.iloadN X0.here hx rfl (hb hby d_jdk_41_11_4) rfl k_) ?_
  refine og s₁ (mkF m 6 #[iv i, iv n, .val .null] [(.int n), (.int i)]) (fun t_ k_ => XS.iloadN X0.here hx rfl (hb hby d_jdk_41_11_5) rfl k_) ?_
  refine og s₁ (mkF m 16 #[iv i, iv n, .val .null] []) (fun t_ k_ => XS.icmpYes X0.here hx rfl (pc0 := 6) (pc' := 16) rfl (hb hby d_jdk_41_11_6) rfl (tlt h2).1 (by decide) (by decide) k_) ?_
  refine og s₁ (mkF m 17 #[iv i, iv n, .val .null] [(.int i)]) (fun t_ k_ => XS.iloadN X0.here hx rfl (hb hby d_jdk_41_11_16) rfl k_) ?_
  exact own_out X0 (v := some (.int i)) (fun h => by rw [hret] at h; cases h) hlk (fun fs hr => retI X0 hx hret (hb hby d_jdk_41_11_17) hr) (Q := Q_rm_pcin Z i n h0 n0) (by rw [e0]; exact ⟨rfl, N0, rfl⟩) (by decide) (by decide)
theorem ef_1 (m : MethodId) (i : Int32) (n : Int32) (f : Nat) : entryFrame m #[(.int i), (.int n), (.ref f)] 3 = mkF m 0 #[iv i, iv n, rv f] [] := by first | (simp [entryFrame, mkF, argsToLocals, Value.category]; done) | rfl
def Q_rm_pcir (Z : State) (i : Int32) (n : Int32) (f : Nat) (h0 : Heap) (n0 : Nat) (vv : Option Value) (h : Heap) (LL : List Loc) : Prop := vv = some (.int i) ∧ Fr n0 LL ∧ h = h0
set_option maxRecDepth 65536 in
set_option maxHeartbeats 40000000 in
theorem rm_pcir (l : Launch) (Z : State) (a0 : Array Value) (hw : ∀ d ∈ tables_1, d.before a0 Z = true) (ws : List Jvm.Cond) (i : Int32) (n : Int32) (f : Nat) (h0 : Heap) (n0 : Nat) (Z0 : n0 ≤ h0.size) (h1 : ¬ (i < (0 : Int32))) (h2 : i < n) :
    own_MF l ym_0 jdk_41_method_11_code 3 (some .int) ⟨0, 0, 0, 0⟩ ws Z #[(.int i), (.int n), (.ref f)] h0 (Q_rm_pcir Z i n f h0 n0) := by
  refine own_begin (plainFor_of_name pn_0) (fun m => ef_1 m i n f) ?_
  intro p e s m below meth c s₁ hret hx hby hml hown hnm hlk X0 e0 hh hZ
  have N0 := Fr.nil n0
  refine og s₁ (mkF m 1 #[iv i, iv n, rv f] [(.int i)]) (fun t_ k_ => XS.iloadN X0.here hx rfl (hb hby d_jdk_41_11_0) rfl k_) ?_
  refine og s₁ (mkF m 4 #[iv i, iv n, rv f] []) (fun t_ k_ => XS.ifNo X0.here hx rfl (hb hby d_jdk_41_11_1) rfl ((if0 _ _).trans (flt h1).1) k_) ?_
  refine og s₁ (mkF m 5 #[iv i, iv n, rv f] [(.int i)]) (fun t_ k_ => XS.iloadN X0.here hx rfl (hb hby d_jdk_41_11_4) rfl k_) ?_
  refine og s₁ (mkF m 6 #[iv i, iv n, rv f] [(.int n), (.int i)]) (fun t_ k_ => XS.iloadN X0.here hx rfl (hb hby d_jdk_41_11_5) rfl k_) ?_
  refine og s₁ (mkF m 16 #[iv i, iv n, rv f] []) (fun t_ k_ => XS.icmpYes X0.here hx rfl (pc0 := 6) (pc' := 16) rfl (hb hby d_jdk_41_11_6) rfl (tlt h2).1 (by decide) (by decide) k_) ?_
  refine og s₁ (mkF m 17 #[iv i, iv n, rv f] [(.int i)]) (fun t_ k_ => XS.iloadN X0.here hx rfl (hb hby d_jdk_41_11_16) rfl k_) ?_
  exact own_out X0 (v := some (.int i)) (fun h => by rw [hret] at h; cases h) hlk (fun fs hr => retI X0 hx hret (hb hby d_jdk_41_11_17) hr) (Q := Q_rm_pcir Z i n f h0 n0) (by rw [e0]; exact ⟨rfl, N0, rfl⟩) (by decide) (by decide)
theorem d_jdk_42_155_0 : decode jdk_42_method_155_code 0 = .ok (.iload_n 0, 1) := by decide +kernel
theorem d_jdk_42_155_1 : decode jdk_42_method_155_code 1 = .ok (.iload_n 1, 1) := by decide +kernel
theorem d_jdk_42_155_2 : decode jdk_42_method_155_code 2 = .ok (.getstatic 1053, 3) := by decide +kernel
theorem d_jdk_42_155_5 : decode jdk_42_method_155_code 5 = .ok (.invokestatic 1059, 3) := by decide +kernel
theorem pd_0 : parseMethodDescriptor "(IILjava/util/function/BiFunction;)I" = some ⟨[.int, .int, (.object "java/util/function/BiFunction")], some .int⟩ := by decide +kernel
theorem d_jdk_42_155_8 : decode jdk_42_method_155_code 8 = .ok (.pop, 1) := by decide +kernel
theorem d_jdk_42_155_9 : decode jdk_42_method_155_code 9 = .ok (.return_, 1) := by decide +kernel
theorem pn_1 : plainName "java/lang/String" = true := by first | (simp [plainName, overriddenIn]; done) | decide +kernel
theorem ef_2 (m : MethodId) (i : Int32) (n : Int32) : entryFrame m #[(.int i), (.int n)] 2 = mkF m 0 #[iv i, iv n] [] := by first | (simp [entryFrame, mkF, argsToLocals, Value.category]; done) | rfl
def Q_rm_ci (Z : State) (i : Int32) (n : Int32) (fm : Value) (h0 : Heap) (n0 : Nat) (vv : Option Value) (h : Heap) (LL : List Loc) : Prop := vv = none ∧ Fr n0 LL ∧ h = h0
set_option maxRecDepth 65536 in
set_option maxHeartbeats 40000000 in
abbrev ym_1 : MethodName := ⟨"java/lang/String", "checkIndex", "(II)V"⟩
theorem rm_ci (l : Launch) (Z : State) (a0 : Array Value) (hw : ∀ d ∈ tables_1, d.before a0 Z = true) (ws : List Jvm.Cond) (i : Int32) (n : Int32) (fm : Value) (h0 : Heap) (n0 : Nat) (Z0 : n0 ≤ h0.size) (h1 : ¬ (i < (0 : Int32))) (h2 : i < n) (rf : fm.isRef = true) (O0 : Old Z n0 h0) (S_SIOOBE_FORMATTER : Sta Z Z.heap "jdk/internal/util/Preconditions" "SIOOBE_FORMATTER" "Ljava/util/function/BiFunction;" fm) :
    own_MF l ym_1 jdk_42_method_155_code 2 none ⟨1, 0, 0, 14⟩ ws Z #[(.int i), (.int n)] h0 (Q_rm_ci Z i n fm h0 n0) := by
  refine own_begin (plainFor_of_name pn_1) (fun m => ef_2 m i n) ?_
  intro p e s m below meth c s₁ hret hx hby hml hown hnm hlk X0 e0 hh hZ
  have N0 := Fr.nil n0
  rcases ref_cases rf with hfm | ⟨af, hfm⟩
  · rw [hfm] at S_SIOOBE_FORMATTER
    refine og s₁ (mkF m 1 #[iv i, iv n] [(.int i)]) (fun t_ k_ => XS.iloadN X0.here hx rfl (hb hby d_jdk_42_155_0) rfl k_) ?_
    refine og s₁ (mkF m 2 #[iv i, iv n] [(.int n), (.int i)]) (fun t_ k_ => XS.iloadN X0.here hx rfl (hb hby d_jdk_42_155_1) rfl k_) ?_
    obtain ⟨T1, X1, e1, st1⟩ := getS2 X0 hx hZ hown (host := "") (Or.inl (own_w hw 32 rfl)) Via.refl e0 (S_SIOOBE_FORMATTER.ext O0.2) (g := (mkF m 2 #[iv i, iv n] [(.int n), (.int i)])) rfl (hb hby d_jdk_42_155_2)
    refine og T1 (mkF m 5 #[iv i, iv n] [.null, (.int n), (.int i)]) (fun t_ k_ => st1 _ k_) ?_
    obtain ⟨_, _, ⟨T2, L2, k2, n2⟩, -, X2, ⟨Lc2, hQ2, l2, y2, z2⟩, st2⟩ := Jvm.LawKit.callS X1 hx (y := ym_0) hown (mvT hZ (own_w hw 34 rfl)) (mvT hZ (own_w hw 35 rfl)) (mvT hZ (own_w hw 33 rfl)) (mvT hZ (own_w hw 36 rfl)) (by decide) (backOf (W := 0) (rm_pcin l Z a0 hw [] i n h0 n0 (show n0 ≤ h0.size by omega) h1 h2) hZ (own_w hw 36 rfl) (own_w hw 33 rfl) (by decide) (by decide)) (g := (mkF m 5 #[iv i, iv n] [.null, (.int n), (.int i)])) rfl (by rw [hml]; rfl) (argsL := [(.int i), (.int n), .null]) (rest := []) (lenOf pd_0 rfl) rfl (by show 2 * 0 + _ ≤ _; exact Nat.le_of_eq rfl) (hb hby d_jdk_42_155_5) (fun _ _ => ⟨rfl, e1, (by decide : 0 + 0 ≤ _), (by decide : 0 + 0 ≤ _)⟩)
    dsimp only [Pt.U, Pt.locs, Pt.cells, Pt.slots] at X2 l2 y2 z2 st2 hQ2
    subst l2 y2 z2
    obtain ⟨rfl, M2, e2⟩ := hQ2
    have N2 := Fr.app N0 M2
    refine og T2 (mkF m 8 #[iv i, iv n] [(.int i)]) (fun t_ k_ => st2 _ k_) ?_
    refine og T2 (mkF m 9 #[iv i, iv n] []) (fun t_ k_ => XS.pop X2.here hx rfl (hb hby d_jdk_42_155_8) rfl rfl k_) ?_
    exact own_out X2 (v := none) (fun _ => rfl) hlk (fun fs hr => X2.returnOut hx hret (hb hby d_jdk_42_155_9) hr) (Q := Q_rm_ci Z i n fm h0 n0) (by rw [e2]; exact ⟨rfl, N2, rfl⟩) (by decide) (by decide)
  · rw [hfm] at S_SIOOBE_FORMATTER
    refine og s₁ (mkF m 1 #[iv i, iv n] [(.int i)]) (fun t_ k_ => XS.iloadN X0.here hx rfl (hb hby d_jdk_42_155_0) rfl k_) ?_
    refine og s₁ (mkF m 2 #[iv i, iv n] [(.int n), (.int i)]) (fun t_ k_ => XS.iloadN X0.here hx rfl (hb hby d_jdk_42_155_1) rfl k_) ?_
    obtain ⟨T3, X3, e3, st3⟩ := getS2 X0 hx hZ hown (host := "") (Or.inl (own_w hw 32 rfl)) Via.refl e0 (S_SIOOBE_FORMATTER.ext O0.2) (g := (mkF m 2 #[iv i, iv n] [(.int n), (.int i)])) rfl (hb hby d_jdk_42_155_2)
    refine og T3 (mkF m 5 #[iv i, iv n] [(.ref af), (.int n), (.int i)]) (fun t_ k_ => st3 _ k_) ?_
    obtain ⟨_, _, ⟨T4, L4, k4, n4⟩, -, X4, ⟨Lc4, hQ4, l4, y4, z4⟩, st4⟩ := Jvm.LawKit.callS X3 hx (y := ym_0) hown (mvT hZ (own_w hw 34 rfl)) (mvT hZ (own_w hw 35 rfl)) (mvT hZ (own_w hw 33 rfl)) (mvT hZ (own_w hw 36 rfl)) (by decide) (backOf (W := 0) (rm_pcir l Z a0 hw [] i n af h0 n0 (show n0 ≤ h0.size by omega) h1 h2) hZ (own_w hw 36 rfl) (own_w hw 33 rfl) (by decide) (by decide)) (g := (mkF m 5 #[iv i, iv n] [(.ref af), (.int n), (.int i)])) rfl (by rw [hml]; rfl) (argsL := [(.int i), (.int n), (.ref af)]) (rest := []) (lenOf pd_0 rfl) rfl (by show 2 * 0 + _ ≤ _; exact Nat.le_of_eq rfl) (hb hby d_jdk_42_155_5) (fun _ _ => ⟨rfl, e3, (by decide : 0 + 0 ≤ _), (by decide : 0 + 0 ≤ _)⟩)
    dsimp only [Pt.U, Pt.locs, Pt.cells, Pt.slots] at X4 l4 y4 z4 st4 hQ4
    subst l4 y4 z4
    obtain ⟨rfl, M4, e4⟩ := hQ4
    have N4 := Fr.app N0 M4
    refine og T4 (mkF m 8 #[iv i, iv n] [(.int i)]) (fun t_ k_ => st4 _ k_) ?_
    refine og T4 (mkF m 9 #[iv i, iv n] []) (fun t_ k_ => XS.pop X4.here hx rfl (hb hby d_jdk_42_155_8) rfl rfl k_) ?_
    exact own_out X4 (v := none) (fun _ => rfl) hlk (fun fs hr => X4.returnOut hx hret (hb hby d_jdk_42_155_9) hr) (Q := Q_rm_ci Z i n fm h0 n0) (by rw [e4]; exact ⟨rfl, N4, rfl⟩) (by decide) (by decide)
theorem d_jdk_42_154_0 : decode jdk_42_method_154_code 0 = .ok (.getstatic 38, 3) := by decide +kernel
theorem d_jdk_42_154_3 : decode jdk_42_method_154_code 3 = .ok (.ifCond .eq 14, 3) := by decide +kernel
theorem d_jdk_42_154_6 : decode jdk_42_method_154_code 6 = .ok (.aload_n 0, 1) := by decide +kernel
theorem d_jdk_42_154_7 : decode jdk_42_method_154_code 7 = .ok (.getfield 15, 3) := by decide +kernel
theorem d_jdk_42_154_10 : decode jdk_42_method_154_code 10 = .ok (.ifCond .ne 7, 3) := by decide +kernel
theorem d_jdk_42_154_13 : decode jdk_42_method_154_code 13 = .ok (.iconst 1, 1) := by decide +kernel
theorem d_jdk_42_154_14 : decode jdk_42_method_154_code 14 = .ok (.goto 4, 3) := by decide +kernel
theorem d_jdk_42_154_18 : decode jdk_42_method_154_code 18 = .ok (.ireturn, 1) := by decide +kernel
theorem ef_3 (m : MethodId) (a : Nat) : entryFrame m #[(.ref a)] 1 = mkF m 0 #[rv a] [] := by first | (simp [entryFrame, mkF, argsToLocals, Value.category]; done) | rfl
def Q_rm_isl0 (Z : State) (a : Nat) (cz : Int32) (h0 : Heap) (n0 : Nat) (vv : Option Value) (h : Heap) (LL : List Loc) : Prop := vv = some (.int 1) ∧ Fr n0 LL ∧ h = h0
set_option maxRecDepth 65536 in
set_option maxHeartbeats 40000000 in
abbrev ym_2 : MethodName := ⟨"java/lang/String", "isLatin1", "()Z"⟩
theorem rm_isl0 (l : Launch) (Z : State) (a0 : Array Value) (hw : ∀ d ∈ tables_1, d.before a0 Z = true) (ws : List Jvm.Cond) (a : Nat) (cz : Int32) (h0 : Heap) (n0 : Nat) (Z0 : n0 ≤ h0.size) (F_coder_a : Fld Z h0 a "java/lang/String" "coder" "B" (.int 0)) (O0 : Old Z n0 h0) (S_COMPACT_STRINGS : Sta Z Z.heap "java/lang/String" "COMPACT_STRINGS" "Z" (.int cz)) (hcz : ¬ cz = (0 : Int32)) (E_a : Exa Z h0 a "java/lang/String") :
    own_MF l ym_2 jdk_42_method_154_code 1 (some .boolean) ⟨0, 0, 0, 0⟩ ws Z #[(.ref a)] h0 (Q_rm_isl0 Z a cz h0 n0) := by
  refine own_begin (plainFor_of_name pn_1) (fun m => ef_3 m a) ?_
  intro p e s m below meth c s₁ hret hx hby hml hown hnm hlk X0 e0 hh hZ
  have N0 := Fr.nil n0
  have lt_F_coder_a := own_ltN F_coder_a.lt
  have lt_E_a := own_ltN E_a.lt
  obtain ⟨T1, X1, e1, st1⟩ := getS2 X0 hx hZ hown (host := "") (Or.inl (own_w hw 22 rfl)) Via.refl e0 (S_COMPACT_STRINGS.ext O0.2) (g := (mkF m 0 #[rv a] [])) rfl (hb hby d_jdk_42_154_0)
  refine og T1 (mkF m 3 #[rv a] [(.int cz)]) (fun t_ k_ => st1 _ k_) ?_
  refine og T1 (mkF m 6 #[rv a] []) (fun t_ k_ => XS.ifNo X1.here hx rfl (hb hby d_jdk_42_154_3) rfl ((if0 _ _).trans (feq hcz).1) k_) ?_
  refine og T1 (mkF m 7 #[rv a] [(.ref a)]) (fun t_ k_ => XS.aloadN X1.here hx rfl (hb hby d_jdk_42_154_6) rfl rfl k_) ?_
  obtain ⟨T2, X2, e2, st2⟩ := getF X1 hx hZ hown (host := "") (Or.inl (own_w hw 23 rfl)) Via.refl e1 F_coder_a (g := (mkF m 7 #[rv a] [(.ref a)])) rfl rfl (hb hby d_jdk_42_154_7)
  refine og T2 (mkF m 10 #[rv a] [(.int 0)]) (fun t_ k_ => st2 _ k_) ?_
  refine og T2 (mkF m 13 #[rv a] []) (fun t_ k_ => XS.ifNo X2.here hx rfl (hb hby d_jdk_42_154_10) rfl ((if0 _ _).trans (teq (by decide)).2) k_) ?_
  refine og T2 (mkF m 14 #[rv a] [(.int 1)]) (fun t_ k_ => XS.iconst X2.here hx rfl (hb hby d_jdk_42_154_13) k_) ?_
  refine og T2 (mkF m 18 #[rv a] [(.int 1)]) (fun t_ k_ => XS.goto X2.here hx rfl (pc0 := 14) (pc' := 18) rfl (hb hby d_jdk_42_154_14) (by decide) (by decide) k_) ?_
  exact own_out X2 (v := some (.int (nar .boolean (1 : Int32)))) (fun h => by rw [hret] at h; cases h) hlk (fun fs hr => retN X2 hx (t := .boolean) hret (by simp) (hb hby d_jdk_42_154_18) hr) (Q := Q_rm_isl0 Z a cz h0 n0) (by rw [e2]; exact ⟨rfl, N0, rfl⟩) (by decide) (by decide)
theorem d_jdk_42_152_0 : decode jdk_42_method_152_code 0 = .ok (.getstatic 38, 3) := by decide +kernel
theorem d_jdk_42_152_3 : decode jdk_42_method_152_code 3 = .ok (.ifCond .eq 10, 3) := by decide +kernel
theorem d_jdk_42_152_6 : decode jdk_42_method_152_code 6 = .ok (.aload_n 0, 1) := by decide +kernel
theorem d_jdk_42_152_7 : decode jdk_42_method_152_code 7 = .ok (.getfield 15, 3) := by decide +kernel
theorem d_jdk_42_152_10 : decode jdk_42_method_152_code 10 = .ok (.goto 4, 3) := by decide +kernel
theorem d_jdk_42_152_14 : decode jdk_42_method_152_code 14 = .ok (.ireturn, 1) := by decide +kernel
theorem ef_4 (m : MethodId) (a : Nat) : entryFrame m #[(.ref a)] 1 = mkF m 0 #[rv a] [] := by first | (simp [entryFrame, mkF, argsToLocals, Value.category]; done) | rfl
def Q_rm_cod0 (Z : State) (a : Nat) (cz : Int32) (h0 : Heap) (n0 : Nat) (vv : Option Value) (h : Heap) (LL : List Loc) : Prop := vv = some (.int 0) ∧ Fr n0 LL ∧ h = h0
set_option maxRecDepth 65536 in
set_option maxHeartbeats 40000000 in
abbrev ym_3 : MethodName := ⟨"java/lang/String", "coder", "()B"⟩
theorem rm_cod0 (l : Launch) (Z : State) (a0 : Array Value) (hw : ∀ d ∈ tables_1, d.before a0 Z = true) (ws : List Jvm.Cond) (a : Nat) (cz : Int32) (h0 : Heap) (n0 : Nat) (Z0 : n0 ≤ h0.size) (F_coder_a : Fld Z h0 a "java/lang/String" "coder" "B" (.int 0)) (O0 : Old Z n0 h0) (S_COMPACT_STRINGS : Sta Z Z.heap "java/lang/String" "COMPACT_STRINGS" "Z" (.int cz)) (hcz : ¬ cz = (0 : Int32)) :
    own_MF l ym_3 jdk_42_method_152_code 1 (some .byte) ⟨0, 0, 0, 0⟩ ws Z #[(.ref a)] h0 (Q_rm_cod0 Z a cz h0 n0) := by
  refine own_begin (plainFor_of_name pn_1) (fun m => ef_4 m a) ?_
  intro p e s m below meth c s₁ hret hx hby hml hown hnm hlk X0 e0 hh hZ
  have N0 := Fr.nil n0
  have lt_F_coder_a := own_ltN F_coder_a.lt
  obtain ⟨T1, X1, e1, st1⟩ := getS2 X0 hx hZ hown (host := "") (Or.inl (own_w hw 22 rfl)) Via.refl e0 (S_COMPACT_STRINGS.ext O0.2) (g := (mkF m 0 #[rv a] [])) rfl (hb hby d_jdk_42_152_0)
  refine og T1 (mkF m 3 #[rv a] [(.int cz)]) (fun t_ k_ => st1 _ k_) ?_
  refine og T1 (mkF m 6 #[rv a] []) (fun t_ k_ => XS.ifNo X1.here hx rfl (hb hby d_jdk_42_152_3) rfl ((if0 _ _).trans (feq hcz).1) k_) ?_
  refine og T1 (mkF m 7 #[rv a] [(.ref a)]) (fun t_ k_ => XS.aloadN X1.here hx rfl (hb hby d_jdk_42_152_6) rfl rfl k_) ?_
  obtain ⟨T2, X2, e2, st2⟩ := getF X1 hx hZ hown (host := "") (Or.inl (own_w hw 23 rfl)) Via.refl e1 F_coder_a (g := (mkF m 7 #[rv a] [(.ref a)])) rfl rfl (hb hby d_jdk_42_152_7)
  refine og T2 (mkF m 10 #[rv a] [(.int 0)]) (fun t_ k_ => st2 _ k_) ?_
  refine og T2 (mkF m 14 #[rv a] [(.int 0)]) (fun t_ k_ => XS.goto X2.here hx rfl (pc0 := 10) (pc' := 14) rfl (hb hby d_jdk_42_152_10) (by decide) (by decide) k_) ?_
  exact own_out X2 (v := some (.int (nar .byte (0 : Int32)))) (fun h => by rw [hret] at h; cases h) hlk (fun fs hr => retN X2 hx (t := .byte) hret (by simp) (hb hby d_jdk_42_152_14) hr) (Q := Q_rm_cod0 Z a cz h0 n0) (by rw [e2]; exact ⟨rfl, N0, rfl⟩) (by decide) (by decide)
theorem d_jdk_42_154_17 : decode jdk_42_method_154_code 17 = .ok (.iconst 0, 1) := by decide +kernel
def Q_rm_isl1 (Z : State) (a : Nat) (cz : Int32) (h0 : Heap) (n0 : Nat) (vv : Option Value) (h : Heap) (LL : List Loc) : Prop := vv = some (.int 0) ∧ Fr n0 LL ∧ h = h0
set_option maxRecDepth 65536 in
set_option maxHeartbeats 40000000 in
theorem rm_isl1 (l : Launch) (Z : State) (a0 : Array Value) (hw : ∀ d ∈ tables_1, d.before a0 Z = true) (ws : List Jvm.Cond) (a : Nat) (cz : Int32) (h0 : Heap) (n0 : Nat) (Z0 : n0 ≤ h0.size) (F_coder_a : Fld Z h0 a "java/lang/String" "coder" "B" (.int 1)) (O0 : Old Z n0 h0) (S_COMPACT_STRINGS : Sta Z Z.heap "java/lang/String" "COMPACT_STRINGS" "Z" (.int cz)) (hcz : ¬ cz = (0 : Int32)) (E_a : Exa Z h0 a "java/lang/String") :
    own_MF l ym_2 jdk_42_method_154_code 1 (some .boolean) ⟨0, 0, 0, 0⟩ ws Z #[(.ref a)] h0 (Q_rm_isl1 Z a cz h0 n0) := by
  refine own_begin (plainFor_of_name pn_1) (fun m => ef_3 m a) ?_
  intro p e s m below meth c s₁ hret hx hby hml hown hnm hlk X0 e0 hh hZ
  have N0 := Fr.nil n0
  have lt_F_coder_a := own_ltN F_coder_a.lt
  have lt_E_a := own_ltN E_a.lt
  obtain ⟨T1, X1, e1, st1⟩ := getS2 X0 hx hZ hown (host := "") (Or.inl (own_w hw 22 rfl)) Via.refl e0 (S_COMPACT_STRINGS.ext O0.2) (g := (mkF m 0 #[rv a] [])) rfl (hb hby d_jdk_42_154_0)
  refine og T1 (mkF m 3 #[rv a] [(.int cz)]) (fun t_ k_ => st1 _ k_) ?_
  refine og T1 (mkF m 6 #[rv a] []) (fun t_ k_ => XS.ifNo X1.here hx rfl (hb hby d_jdk_42_154_3) rfl ((if0 _ _).trans (feq hcz).1) k_) ?_
  refine og T1 (mkF m 7 #[rv a] [(.ref a)]) (fun t_ k_ => XS.aloadN X1.here hx rfl (hb hby d_jdk_42_154_6) rfl rfl k_) ?_
  obtain ⟨T2, X2, e2, st2⟩ := getF X1 hx hZ hown (host := "") (Or.inl (own_w hw 23 rfl)) Via.refl e1 F_coder_a (g := (mkF m 7 #[rv a] [(.ref a)])) rfl rfl (hb hby d_jdk_42_154_7)
  refine og T2 (mkF m 10 #[rv a] [(.int 1)]) (fun t_ k_ => st2 _ k_) ?_
  refine og T2 (mkF m 17 #[rv a] []) (fun t_ k_ => XS.ifYes X2.here hx rfl (pc0 := 10) (pc' := 17) rfl (hb hby d_jdk_42_154_10) rfl ((if0 _ _).trans (feq (by decide)).2) (by decide) (by decide) k_) ?_
  refine og T2 (mkF m 18 #[rv a] [(.int 0)]) (fun t_ k_ => XS.iconst X2.here hx rfl (hb hby d_jdk_42_154_17) k_) ?_
  exact own_out X2 (v := some (.int (nar .boolean (0 : Int32)))) (fun h => by rw [hret] at h; cases h) hlk (fun fs hr => retN X2 hx (t := .boolean) hret (by simp) (hb hby d_jdk_42_154_18) hr) (Q := Q_rm_isl1 Z a cz h0 n0) (by rw [e2]; exact ⟨rfl, N0, rfl⟩) (by decide) (by decide)
def Q_rm_cod1 (Z : State) (a : Nat) (cz : Int32) (h0 : Heap) (n0 : Nat) (vv : Option Value) (h : Heap) (LL : List Loc) : Prop := vv = some (.int 1) ∧ Fr n0 LL ∧ h = h0
set_option maxRecDepth 65536 in
set_option maxHeartbeats 40000000 in
theorem rm_cod1 (l : Launch) (Z : State) (a0 : Array Value) (hw : ∀ d ∈ tables_1, d.before a0 Z = true) (ws : List Jvm.Cond) (a : Nat) (cz : Int32) (h0 : Heap) (n0 : Nat) (Z0 : n0 ≤ h0.size) (F_coder_a : Fld Z h0 a "java/lang/String" "coder" "B" (.int 1)) (O0 : Old Z n0 h0) (S_COMPACT_STRINGS : Sta Z Z.heap "java/lang/String" "COMPACT_STRINGS" "Z" (.int cz)) (hcz : ¬ cz = (0 : Int32)) :
    own_MF l ym_3 jdk_42_method_152_code 1 (some .byte) ⟨0, 0, 0, 0⟩ ws Z #[(.ref a)] h0 (Q_rm_cod1 Z a cz h0 n0) := by
  refine own_begin (plainFor_of_name pn_1) (fun m => ef_4 m a) ?_
  intro p e s m below meth c s₁ hret hx hby hml hown hnm hlk X0 e0 hh hZ
  have N0 := Fr.nil n0
  have lt_F_coder_a := own_ltN F_coder_a.lt
  obtain ⟨T1, X1, e1, st1⟩ := getS2 X0 hx hZ hown (host := "") (Or.inl (own_w hw 22 rfl)) Via.refl e0 (S_COMPACT_STRINGS.ext O0.2) (g := (mkF m 0 #[rv a] [])) rfl (hb hby d_jdk_42_152_0)
  refine og T1 (mkF m 3 #[rv a] [(.int cz)]) (fun t_ k_ => st1 _ k_) ?_
  refine og T1 (mkF m 6 #[rv a] []) (fun t_ k_ => XS.ifNo X1.here hx rfl (hb hby d_jdk_42_152_3) rfl ((if0 _ _).trans (feq hcz).1) k_) ?_
  refine og T1 (mkF m 7 #[rv a] [(.ref a)]) (fun t_ k_ => XS.aloadN X1.here hx rfl (hb hby d_jdk_42_152_6) rfl rfl k_) ?_
  obtain ⟨T2, X2, e2, st2⟩ := getF X1 hx hZ hown (host := "") (Or.inl (own_w hw 23 rfl)) Via.refl e1 F_coder_a (g := (mkF m 7 #[rv a] [(.ref a)])) rfl rfl (hb hby d_jdk_42_152_7)
  refine og T2 (mkF m 10 #[rv a] [(.int 1)]) (fun t_ k_ => st2 _ k_) ?_
  refine og T2 (mkF m 14 #[rv a] [(.int 1)]) (fun t_ k_ => XS.goto X2.here hx rfl (pc0 := 10) (pc' := 14) rfl (hb hby d_jdk_42_152_10) (by decide) (by decide) k_) ?_
  exact own_out X2 (v := some (.int (nar .byte (1 : Int32)))) (fun h => by rw [hret] at h; cases h) hlk (fun fs hr => retN X2 hx (t := .byte) hret (by simp) (hb hby d_jdk_42_152_14) hr) (Q := Q_rm_cod1 Z a cz h0 n0) (by rw [e2]; exact ⟨rfl, N0, rfl⟩) (by decide) (by decide)
theorem d_jdk_52_3_0 : decode jdk_52_method_3_code 0 = .ok (.iload_n 0, 1) := by decide +kernel
theorem d_jdk_52_3_1 : decode jdk_52_method_3_code 1 = .ok (.ifCond .ge 11, 3) := by decide +kernel
theorem d_jdk_52_3_12 : decode jdk_52_method_3_code 12 = .ok (.iload_n 0, 1) := by decide +kernel
theorem d_jdk_52_3_13 : decode jdk_52_method_3_code 13 = .ok (.ldc 20, 2) := by decide +kernel
theorem d_jdk_52_3_15 : decode jdk_52_method_3_code 15 = .ok (.if_icmp .lt 40, 3) := by decide +kernel
theorem d_jdk_52_3_55 : decode jdk_52_method_3_code 55 = .ok (.iload_n 0, 1) := by decide +kernel
theorem d_jdk_52_3_56 : decode jdk_52_method_3_code 56 = .ok (.iconst 1, 1) := by decide +kernel
theorem d_jdk_52_3_57 : decode jdk_52_method_3_code 57 = .ok (.ishl, 1) := by decide +kernel
theorem d_jdk_52_3_58 : decode jdk_52_method_3_code 58 = .ok (.ireturn, 1) := by decide +kernel
theorem pn_2 : plainName "java/lang/StringUTF16" = true := by first | (simp [plainName, overriddenIn]; done) | decide +kernel
theorem ef_5 (m : MethodId)  : entryFrame m #[(.int 1)] 1 = mkF m 0 #[iv 1] [] := by first | (simp [entryFrame, mkF, argsToLocals, Value.category]; done) | rfl
def Q_rm_nbl1 (Z : State)  (h0 : Heap) (n0 : Nat) (vv : Option Value) (h : Heap) (LL : List Loc) : Prop := vv = some (.int 2) ∧ Fr n0 LL ∧ h = h0
set_option maxRecDepth 65536 in
set_option maxHeartbeats 40000000 in
abbrev ym_4 : MethodName := ⟨"java/lang/StringUTF16", "newBytesLength", "(I)I"⟩
theorem rm_nbl1 (l : Launch) (Z : State) (a0 : Array Value) (hw : ∀ d ∈ tables_1, d.before a0 Z = true) (ws : List Jvm.Cond)  (h0 : Heap) (n0 : Nat) (Z0 : n0 ≤ h0.size) :
    own_MF l ym_4 jdk_52_method_3_code 1 (some .int) ⟨0, 0, 0, 0⟩ ws Z #[(.int 1)] h0 (Q_rm_nbl1 Z  h0 n0) := by
  refine own_begin (plainFor_of_name pn_2) (fun m => ef_5 m) ?_
  intro p e s m below meth c s₁ hret hx hby hml hown hnm hlk X0 e0 hh hZ
  have N0 := Fr.nil n0
  refine og s₁ (mkF m 1 #[iv 1] [(.int 1)]) (fun t_ k_ => XS.iloadN X0.here hx rfl (hb hby d_jdk_52_3_0) rfl k_) ?_
  refine og s₁ (mkF m 12 #[iv 1] []) (fun t_ k_ => XS.ifYes X0.here hx rfl (pc0 := 1) (pc' := 12) rfl (hb hby d_jdk_52_3_1) rfl ((if0 _ _).trans (flt (by decide)).2.1) (by decide) (by decide) k_) ?_
  refine og s₁ (mkF m 13 #[iv 1] [(.int 1)]) (fun t_ k_ => XS.iloadN X0.here hx rfl (hb hby d_jdk_52_3_12) rfl k_) ?_
  refine og s₁ (mkF m 15 #[iv 1] [(.int 1073741823), (.int 1)]) (fun t_ k_ => X0.ldcInt hx hown (mvT hZ (own_w hw 88 rfl)) (g := (mkF m 13 #[iv 1] [(.int 1)])) rfl (hb hby d_jdk_52_3_13) _ k_) ?_
  refine og s₁ (mkF m 55 #[iv 1] []) (fun t_ k_ => XS.icmpYes X0.here hx rfl (pc0 := 15) (pc' := 55) rfl (hb hby d_jdk_52_3_15) rfl (tlt (by decide)).1 (by decide) (by decide) k_) ?_
  refine og s₁ (mkF m 56 #[iv 1] [(.int 1)]) (fun t_ k_ => XS.iloadN X0.here hx rfl (hb hby d_jdk_52_3_55) rfl k_) ?_
  refine og s₁ (mkF m 57 #[iv 1] [(.int 1), (.int 1)]) (fun t_ k_ => XS.iconst X0.here hx rfl (hb hby d_jdk_52_3_56) k_) ?_
  refine og s₁ (mkF m 58 #[iv 1] [(.int 2)]) (fun t_ k_ => XS.ishl X0.here hx rfl (hb hby d_jdk_52_3_57) rfl k_) ?_
  exact own_out X0 (v := some (.int 2)) (fun h => by rw [hret] at h; cases h) hlk (fun fs hr => retI X0 hx hret (hb hby d_jdk_52_3_58) hr) (Q := Q_rm_nbl1 Z  h0 n0) (by rw [e0]; exact ⟨rfl, N0, rfl⟩) (by decide) (by decide)
theorem d_jdk_52_2_0 : decode jdk_52_method_2_code 0 = .ok (.iload_n 0, 1) := by decide +kernel
theorem d_jdk_52_2_1 : decode jdk_52_method_2_code 1 = .ok (.invokestatic 11, 3) := by decide +kernel
theorem pd_1 : parseMethodDescriptor "(I)I" = some ⟨[.int], some .int⟩ := by decide +kernel
theorem d_jdk_52_2_4 : decode jdk_52_method_2_code 4 = .ok (.newarray .byte, 2) := by decide +kernel
theorem d_jdk_52_2_6 : decode jdk_52_method_2_code 6 = .ok (.areturn, 1) := by decide +kernel
theorem ef_6 (m : MethodId)  : entryFrame m #[(.int 1)] 1 = mkF m 0 #[iv 1] [] := by first | (simp [entryFrame, mkF, argsToLocals, Value.category]; done) | rfl
def Q_rm_nbf1 (Z : State)  (h0 : Heap) (n0 : Nat) (vv : Option Value) (h : Heap) (LL : List Loc) : Prop := ∃ b : Nat, ∃ kb : ClassId, vv = some (.ref b) ∧ Fr n0 LL ∧ Keep h0 h [] ∧ (h0.size ≤ b ∧ b < h.size) ∧ Arv Z h b kb .byte (2 : Int32) [(.int (0 : Int32)), (.int (0 : Int32))] (.int (0 : Int32))
set_option maxRecDepth 65536 in
set_option maxHeartbeats 40000000 in
abbrev ym_5 : MethodName := ⟨"java/lang/StringUTF16", "newBytesFor", "(I)[B"⟩
theorem rm_nbf1 (l : Launch) (Z : State) (a0 : Array Value) (hw : ∀ d ∈ tables_1, d.before a0 Z = true) (ws : List Jvm.Cond)  (h0 : Heap) (n0 : Nat) (Z0 : n0 ≤ h0.size) :
    own_MF l ym_5 jdk_52_method_2_code 1 (some (.array .byte)) ⟨1, 1, 2, 12⟩ ws Z #[(.int 1)] h0 (Q_rm_nbf1 Z  h0 n0) := by
  refine own_begin (plainFor_of_name pn_2) (fun m => ef_6 m) ?_
  intro p e s m below meth c s₁ hret hx hby hml hown hnm hlk X0 e0 hh hZ
  have N0 := Fr.nil n0
  refine og s₁ (mkF m 1 #[iv 1] [(.int 1)]) (fun t_ k_ => XS.iloadN X0.here hx rfl (hb hby d_jdk_52_2_0) rfl k_) ?_
  obtain ⟨_, _, ⟨T1, L1, k1, n1⟩, -, X1, ⟨Lc1, hQ1, l1, y1, z1⟩, st1⟩ := Jvm.LawKit.callS X0 hx (y := ym_4) hown (mvT hZ (own_w hw 85 rfl)) (mvT hZ (own_w hw 86 rfl)) (mvT hZ (own_w hw 66 rfl)) (mvT hZ (own_w hw 87 rfl)) (by decide) (backOf (W := 0) (rm_nbl1 l Z a0 hw []  h0 n0 (show n0 ≤ h0.size by omega)) hZ (own_w hw 87 rfl) (own_w hw 66 rfl) (by decide) (by decide)) (g := (mkF m 1 #[iv 1] [(.int 1)])) rfl (by rw [hml]; rfl) (argsL := [(.int 1)]) (rest := []) (lenOf pd_1 rfl) rfl (by show 2 * 0 + _ ≤ _; exact Nat.le_of_eq rfl) (hb hby d_jdk_52_2_1) (fun _ _ => ⟨rfl, e0, (by decide : 0 + 0 ≤ _), (by decide : 0 + 0 ≤ _)⟩)
  dsimp only [Pt.U, Pt.locs, Pt.cells, Pt.slots] at X1 l1 y1 z1 st1 hQ1
  subst l1 y1 z1
  obtain ⟨rfl, M1, e1⟩ := hQ1
  have N1 := Fr.app N0 M1
  refine og T1 (mkF m 4 #[iv 1] [(.int 2)]) (fun t_ k_ => st1 _ k_) ?_
  obtain ⟨T2, h2, k2, X2, e2, E2, A2, st2⟩ := newP X1 hx hZ (own_w hw 7 rfl) e1 (g := (mkF m 4 #[iv 1] [(.int 2)])) rfl (hb hby d_jdk_52_2_4) rfl (by decide) (cap := 2) (by decide) (by decide) (by decide) (by decide)
  obtain ⟨b2, g2⟩ : ∃ z, z = h0.size := ⟨_, rfl⟩
  rw [← g2] at A2 st2
  have V2 : Arv Z h2 b2 k2 .byte (2 : Int32) [(.int (0 : Int32)), (.int (0 : Int32))] (.int (0 : Int32)) := (Arv.new A2 (by decide)).pad (pad_rep [] (.int (0 : Int32)) 2)
  have l2 := own_ltN V2.lt
  have z2 := E2.1
  have K2 := (Keep.refl h0 []).ext E2
  refine og T2 (mkF m 6 #[iv 1] [(.ref b2)]) (fun t_ k_ => st2 _ k_) ?_
  exact own_out X2 (v := some (.ref b2)) (fun h => by rw [hret] at h; cases h) hlk (fun fs hr => own_retA X2 hx hret rfl rfl (hb hby d_jdk_52_2_6) hr) (Q := Q_rm_nbf1 Z  h0 n0) (by rw [e2]; exact ⟨b2, k2, rfl, N1, K2, ⟨by omega, by omega⟩, V2⟩) (by decide) (by decide)
theorem d_jdk_52_4_0 : decode jdk_52_method_4_code 0 = .ok (.getstatic 44, 3) := by decide +kernel
theorem d_jdk_52_4_3 : decode jdk_52_method_4_code 3 = .ok (.ifCond .ne 25, 3) := by decide +kernel
theorem d_jdk_52_4_28 : decode jdk_52_method_4_code 28 = .ok (.iload_n 1, 1) := by decide +kernel
theorem d_jdk_52_4_29 : decode jdk_52_method_4_code 29 = .ok (.iconst 1, 1) := by decide +kernel
theorem d_jdk_52_4_30 : decode jdk_52_method_4_code 30 = .ok (.ishl, 1) := by decide +kernel
theorem d_jdk_52_4_31 : decode jdk_52_method_4_code 31 = .ok (.istore_n 1, 1) := by decide +kernel
theorem d_jdk_52_4_32 : decode jdk_52_method_4_code 32 = .ok (.aload_n 0, 1) := by decide +kernel
theorem d_jdk_52_4_33 : decode jdk_52_method_4_code 33 = .ok (.iload_n 1, 1) := by decide +kernel
theorem d_jdk_52_4_34 : decode jdk_52_method_4_code 34 = .ok (.iinc 1 1, 3) := by decide +kernel
theorem d_jdk_52_4_37 : decode jdk_52_method_4_code 37 = .ok (.iload_n 2, 1) := by decide +kernel
theorem d_jdk_52_4_38 : decode jdk_52_method_4_code 38 = .ok (.getstatic 59, 3) := by decide +kernel
theorem d_jdk_52_4_41 : decode jdk_52_method_4_code 41 = .ok (.ishr, 1) := by decide +kernel
theorem d_jdk_52_4_42 : decode jdk_52_method_4_code 42 = .ok (.i2b, 1) := by decide +kernel
theorem d_jdk_52_4_43 : decode jdk_52_method_4_code 43 = .ok (.bastore, 1) := by decide +kernel
theorem d_jdk_52_4_44 : decode jdk_52_method_4_code 44 = .ok (.aload_n 0, 1) := by decide +kernel
theorem d_jdk_52_4_45 : decode jdk_52_method_4_code 45 = .ok (.iload_n 1, 1) := by decide +kernel
theorem d_jdk_52_4_46 : decode jdk_52_method_4_code 46 = .ok (.iload_n 2, 1) := by decide +kernel
theorem d_jdk_52_4_47 : decode jdk_52_method_4_code 47 = .ok (.getstatic 63, 3) := by decide +kernel
theorem d_jdk_52_4_50 : decode jdk_52_method_4_code 50 = .ok (.ishr, 1) := by decide +kernel
theorem d_jdk_52_4_51 : decode jdk_52_method_4_code 51 = .ok (.i2b, 1) := by decide +kernel
theorem d_jdk_52_4_52 : decode jdk_52_method_4_code 52 = .ok (.bastore, 1) := by decide +kernel
theorem d_jdk_52_4_53 : decode jdk_52_method_4_code 53 = .ok (.return_, 1) := by decide +kernel
theorem ef_7 (m : MethodId) (a : Nat) (ch : Int32) : entryFrame m #[(.ref a), (.int 0), (.int ch)] 3 = mkF m 0 #[rv a, iv 0, iv ch] [] := by first | (simp [entryFrame, mkF, argsToLocals, Value.category]; done) | rfl
def Q_rm_put1_0 (Z : State) (a : Nat) (ch : Int32) (y0 : Int32) (y1 : Int32) (k_a : ClassId) (h0 : Heap) (n0 : Nat) (vv : Option Value) (h : Heap) (LL : List Loc) : Prop := vv = none ∧ Fr n0 LL ∧ Keep h0 h [a] ∧ Arv Z h a k_a .byte (2 : Int32) [(.int ((ch >>> ((0 : Int32) &&& 31)).toInt8.toInt32)), (.int ((ch >>> ((8 : Int32) &&& 31)).toInt8.toInt32))] (.int (0 : Int32))
set_option maxRecDepth 65536 in
set_option maxHeartbeats 40000000 in
abbrev ym_6 : MethodName := ⟨"java/lang/StringUTF16", "putChar", "([BII)V"⟩
theorem rm_put1_0 (l : Launch) (Z : State) (a0 : Array Value) (hw : ∀ d ∈ tables_1, d.before a0 Z = true) (ws : List Jvm.Cond) (a : Nat) (ch : Int32) (y0 : Int32) (y1 : Int32) (k_a : ClassId) (h0 : Heap) (n0 : Nat) (Z0 : n0 ≤ h0.size) (O0 : Old Z n0 h0) (S__assertionsDisabled : Sta Z Z.heap "java/lang/StringUTF16" "$assertionsDisabled" "Z" (.int 1)) (S_HI_BYTE_SHIFT : Sta Z Z.heap "java/lang/StringUTF16" "HI_BYTE_SHIFT" "I" (.int 0)) (S_LO_BYTE_SHIFT : Sta Z Z.heap "java/lang/StringUTF16" "LO_BYTE_SHIFT" "I" (.int 8)) (V_a : Arv Z h0 a k_a .byte (2 : Int32) [(.int y0), (.int y1)] (.int (0 : Int32))) (g_a : n0 ≤ a) :
    own_MF l ym_6 jdk_52_method_4_code 3 none ⟨0, 0, 0, 0⟩ ws Z #[(.ref a), (.int 0), (.int ch)] h0 (Q_rm_put1_0 Z a ch y0 y1 k_a h0 n0) := by
  refine own_begin (plainFor_of_name pn_2) (fun m => ef_7 m a ch) ?_
  intro p e s m below meth c s₁ hret hx hby hml hown hnm hlk X0 e0 hh hZ
  have N0 := Fr.nil n0
  have lt_V_a := own_ltN V_a.lt
  obtain ⟨T1, X1, e1, st1⟩ := getS2 X0 hx hZ hown (host := "") (Or.inl (own_w hw 92 rfl)) Via.refl e0 (S__assertionsDisabled.ext O0.2) (g := (mkF m 0 #[rv a, iv 0, iv ch] [])) rfl (hb hby d_jdk_52_4_0)
  refine og T1 (mkF m 3 #[rv a, iv 0, iv ch] [(.int 1)]) (fun t_ k_ => st1 _ k_) ?_
  refine og T1 (mkF m 28 #[rv a, iv 0, iv ch] []) (fun t_ k_ => XS.ifYes X1.here hx rfl (pc0 := 3) (pc' := 28) rfl (hb hby d_jdk_52_4_3) rfl ((if0 _ _).trans (feq (by decide)).2) (by decide) (by decide) k_) ?_
  refine og T1 (mkF m 29 #[rv a, iv 0, iv ch] [(.int 0)]) (fun t_ k_ => XS.iloadN X1.here hx rfl (hb hby d_jdk_52_4_28) rfl k_) ?_
  refine og T1 (mkF m 30 #[rv a, iv 0, iv ch] [(.int 1), (.int 0)]) (fun t_ k_ => XS.iconst X1.here hx rfl (hb hby d_jdk_52_4_29) k_) ?_
  refine og T1 (mkF m 31 #[rv a, iv 0, iv ch] [(.int 0)]) (fun t_ k_ => XS.ishl X1.here hx rfl (hb hby d_jdk_52_4_30) rfl k_) ?_
  refine og T1 (mkF m 32 #[rv a, iv 0, iv ch] []) (fun t_ k_ => XS.istoreN X1.here hx rfl (hb hby d_jdk_52_4_31) rfl (l' := #[rv a, iv 0, iv ch]) rfl k_) ?_
  refine og T1 (mkF m 33 #[rv a, iv 0, iv ch] [(.ref a)]) (fun t_ k_ => XS.aloadN X1.here hx rfl (hb hby d_jdk_52_4_32) rfl rfl k_) ?_
  refine og T1 (mkF m 34 #[rv a, iv 0, iv ch] [(.int 0), (.ref a)]) (fun t_ k_ => XS.iloadN X1.here hx rfl (hb hby d_jdk_52_4_33) rfl k_) ?_
  refine og T1 (mkF m 37 #[rv a, iv 1, iv ch] [(.int 0), (.ref a)]) (fun t_ k_ => XS.iinc X1.here hx rfl (hb hby d_jdk_52_4_34) rfl (l' := #[rv a, iv 1, iv ch]) rfl k_) ?_
  refine og T1 (mkF m 38 #[rv a, iv 1, iv ch] [(.int ch), (.int 0), (.ref a)]) (fun t_ k_ => XS.iloadN X1.here hx rfl (hb hby d_jdk_52_4_37) rfl k_) ?_
  obtain ⟨T2, X2, e2, st2⟩ := getS2 X1 hx hZ hown (host := "") (Or.inl (own_w hw 93 rfl)) Via.refl e1 (S_HI_BYTE_SHIFT.ext O0.2) (g := (mkF m 38 #[rv a, iv 1, iv ch] [(.int ch), (.int 0), (.ref a)])) rfl (hb hby d_jdk_52_4_38)
  refine og T2 (mkF m 41 #[rv a, iv 1, iv ch] [(.int 0), (.int ch), (.int 0), (.ref a)]) (fun t_ k_ => st2 _ k_) ?_
  refine og T2 (mkF m 42 #[rv a, iv 1, iv ch] [(.int (ch >>> ((0 : Int32) &&& 31))), (.int 0), (.ref a)]) (fun t_ k_ => XS.ishr X2.here hx rfl (hb hby d_jdk_52_4_41) rfl k_) ?_
  refine og T2 (mkF m 43 #[rv a, iv 1, iv ch] [(.int ((ch >>> ((0 : Int32) &&& 31)).toInt8.toInt32)), (.int 0), (.ref a)]) (fun t_ k_ => XS.i2b X2.here hx rfl (hb hby d_jdk_52_4_42) rfl k_) ?_
  obtain ⟨cl3, Ar3, q3, S3, Nn3, H3, G3⟩ := id V_a
  have hin3 : ¬ ((0 : Int32) < 0 ∨ cl3.slots.size ≤ ((0 : Int32)).toNatClampNeg) := inb_of S3 ⟨by decide, by decide⟩
  obtain ⟨T3, h3, X3, e3, W3, st3⟩ := stB X2 hx hZ e2 Ar3 (j := (0 : Int32)) hin3 (g := (mkF m 43 #[rv a, iv 1, iv ch] [(.int ((ch >>> ((0 : Int32) &&& 31)).toInt8.toInt32)), (.int 0), (.ref a)])) rfl rfl (hb hby d_jdk_52_4_43)
  have V3 : Arv Z h3 a k_a .byte (2 : Int32) [(.int ((ch >>> ((0 : Int32) &&& 31)).toInt8.toInt32)), (.int y1)] (.int (0 : Int32)) := by
    have q0 := Arv.set Ar3 q3 S3 Nn3 H3 G3 (fits_nar_byte _) W3 0 rfl (Nat.le_of_ble_eq_true rfl)
    first | rw [own_i8] at q0 | skip
    exact q0
  have z3 := W3.size
  have N3 := Fr.snoc X3 N0 (show n0 ≤ a by omega)
  have O3 := O0.wr W3 (show n0 ≤ a by omega)
  have K3 := (Keep.refl h0 [a]).wr W3 (Or.inl (List.mem_of_getElem? (i := 0) rfl))
  refine og T3 (mkF m 44 #[rv a, iv 1, iv ch] []) (fun t_ k_ => st3 _ k_) ?_
  refine og T3 (mkF m 45 #[rv a, iv 1, iv ch] [(.ref a)]) (fun t_ k_ => XS.aloadN X3.here hx rfl (hb hby d_jdk_52_4_44) rfl rfl k_) ?_
  refine og T3 (mkF m 46 #[rv a, iv 1, iv ch] [(.int 1), (.ref a)]) (fun t_ k_ => XS.iloadN X3.here hx rfl (hb hby d_jdk_52_4_45) rfl k_) ?_
  refine og T3 (mkF m 47 #[rv a, iv 1, iv ch] [(.int ch), (.int 1), (.ref a)]) (fun t_ k_ => XS.iloadN X3.here hx rfl (hb hby d_jdk_52_4_46) rfl k_) ?_
  obtain ⟨T4, X4, e4, st4⟩ := getS2 X3 hx hZ hown (host := "") (Or.inl (own_w hw 94 rfl)) Via.refl e3 (S_LO_BYTE_SHIFT.ext O3.2) (g := (mkF m 47 #[rv a, iv 1, iv ch] [(.int ch), (.int 1), (.ref a)])) rfl (hb hby d_jdk_52_4_47)
  refine og T4 (mkF m 50 #[rv a, iv 1, iv ch] [(.int 8), (.int ch), (.int 1), (.ref a)]) (fun t_ k_ => st4 _ k_) ?_
  refine og T4 (mkF m 51 #[rv a, iv 1, iv ch] [(.int (ch >>> ((8 : Int32) &&& 31))), (.int 1), (.ref a)]) (fun t_ k_ => XS.ishr X4.here hx rfl (hb hby d_jdk_52_4_50) rfl k_) ?_
  refine og T4 (mkF m 52 #[rv a, iv 1, iv ch] [(.int ((ch >>> ((8 : Int32) &&& 31)).toInt8.toInt32)), (.int 1), (.ref a)]) (fun t_ k_ => XS.i2b X4.here hx rfl (hb hby d_jdk_52_4_51) rfl k_) ?_
  obtain ⟨cl5, Ar5, q5, S5, Nn5, H5, G5⟩ := id V3
  have hin5 : ¬ ((1 : Int32) < 0 ∨ cl5.slots.size ≤ ((1 : Int32)).toNatClampNeg) := inb_of S5 ⟨by decide, by decide⟩
  obtain ⟨T5, h5, X5, e5, W5, st5⟩ := stB X4 hx hZ e4 Ar5 (j := (1 : Int32)) hin5 (g := (mkF m 52 #[rv a, iv 1, iv ch] [(.int ((ch >>> ((8 : Int32) &&& 31)).toInt8.toInt32)), (.int 1), (.ref a)])) rfl rfl (hb hby d_jdk_52_4_52)
  have V5 : Arv Z h5 a k_a .byte (2 : Int32) [(.int ((ch >>> ((0 : Int32) &&& 31)).toInt8.toInt32)), (.int ((ch >>> ((8 : Int32) &&& 31)).toInt8.toInt32))] (.int (0 : Int32)) := by
    have q0 := Arv.set Ar5 q5 S5 Nn5 H5 G5 (fits_nar_byte _) W5 1 rfl (Nat.le_of_ble_eq_true rfl)
    first | rw [own_i8] at q0 | skip
    exact q0
  have z5 := W5.size
  have N5 := Fr.snoc X5 N3 (show n0 ≤ a by omega)
  have O5 := O3.wr W5 (show n0 ≤ a by omega)
  have K5 := K3.wr W5 (Or.inl (List.mem_of_getElem? (i := 0) rfl))
  refine og T5 (mkF m 53 #[rv a, iv 1, iv ch] []) (fun t_ k_ => st5 _ k_) ?_
  exact own_out X5 (v := none) (fun _ => rfl) hlk (fun fs hr => X5.returnOut hx hret (hb hby d_jdk_52_4_53) hr) (Q := Q_rm_put1_0 Z a ch y0 y1 k_a h0 n0) (by rw [e5]; exact ⟨rfl, N5, K5, V5⟩) (by decide) (by decide)
theorem d_jdk_52_5_0 : decode jdk_52_method_5_code 0 = .ok (.getstatic 44, 3) := by decide +kernel
theorem d_jdk_52_5_3 : decode jdk_52_method_5_code 3 = .ok (.ifCond .ne 25, 3) := by decide +kernel
theorem d_jdk_52_5_28 : decode jdk_52_method_5_code 28 = .ok (.iload_n 1, 1) := by decide +kernel
theorem d_jdk_52_5_29 : decode jdk_52_method_5_code 29 = .ok (.iconst 1, 1) := by decide +kernel
theorem d_jdk_52_5_30 : decode jdk_52_method_5_code 30 = .ok (.ishl, 1) := by decide +kernel
theorem d_jdk_52_5_31 : decode jdk_52_method_5_code 31 = .ok (.istore_n 1, 1) := by decide +kernel
theorem d_jdk_52_5_32 : decode jdk_52_method_5_code 32 = .ok (.aload_n 0, 1) := by decide +kernel
theorem d_jdk_52_5_33 : decode jdk_52_method_5_code 33 = .ok (.iload_n 1, 1) := by decide +kernel
theorem d_jdk_52_5_34 : decode jdk_52_method_5_code 34 = .ok (.iinc 1 1, 3) := by decide +kernel
theorem d_jdk_52_5_37 : decode jdk_52_method_5_code 37 = .ok (.baload, 1) := by decide +kernel
theorem d_jdk_52_5_38 : decode jdk_52_method_5_code 38 = .ok (.sipush 255, 3) := by decide +kernel
theorem d_jdk_52_5_41 : decode jdk_52_method_5_code 41 = .ok (.iand, 1) := by decide +kernel
theorem d_jdk_52_5_42 : decode jdk_52_method_5_code 42 = .ok (.getstatic 59, 3) := by decide +kernel
theorem d_jdk_52_5_45 : decode jdk_52_method_5_code 45 = .ok (.ishl, 1) := by decide +kernel
theorem d_jdk_52_5_46 : decode jdk_52_method_5_code 46 = .ok (.aload_n 0, 1) := by decide +kernel
theorem d_jdk_52_5_47 : decode jdk_52_method_5_code 47 = .ok (.iload_n 1, 1) := by decide +kernel
theorem d_jdk_52_5_48 : decode jdk_52_method_5_code 48 = .ok (.baload, 1) := by decide +kernel
theorem d_jdk_52_5_49 : decode jdk_52_method_5_code 49 = .ok (.sipush 255, 3) := by decide +kernel
theorem d_jdk_52_5_52 : decode jdk_52_method_5_code 52 = .ok (.iand, 1) := by decide +kernel
theorem d_jdk_52_5_53 : decode jdk_52_method_5_code 53 = .ok (.getstatic 63, 3) := by decide +kernel
theorem d_jdk_52_5_56 : decode jdk_52_method_5_code 56 = .ok (.ishl, 1) := by decide +kernel
theorem d_jdk_52_5_57 : decode jdk_52_method_5_code 57 = .ok (.ior, 1) := by decide +kernel
theorem d_jdk_52_5_58 : decode jdk_52_method_5_code 58 = .ok (.i2c, 1) := by decide +kernel
theorem d_jdk_52_5_59 : decode jdk_52_method_5_code 59 = .ok (.ireturn, 1) := by decide +kernel
theorem ef_8 (m : MethodId) (a : Nat) : entryFrame m #[(.ref a), (.int 0)] 2 = mkF m 0 #[rv a, iv 0] [] := by first | (simp [entryFrame, mkF, argsToLocals, Value.category]; done) | rfl
def Q_rm_get1_0 (Z : State) (a : Nat) (c0 : Int32) (k_a : ClassId) (h0 : Heap) (n0 : Nat) (vv : Option Value) (h : Heap) (LL : List Loc) : Prop := vv = some (.int c0) ∧ Fr n0 LL ∧ h = h0
set_option maxRecDepth 65536 in
set_option maxHeartbeats 40000000 in
abbrev ym_7 : MethodName := ⟨"java/lang/StringUTF16", "getChar", "([BI)C"⟩
theorem rm_get1_0 (l : Launch) (Z : State) (a0 : Array Value) (hw : ∀ d ∈ tables_1, d.before a0 Z = true) (ws : List Jvm.Cond) (a : Nat) (c0 : Int32) (k_a : ClassId) (h0 : Heap) (n0 : Nat) (Z0 : n0 ≤ h0.size) (hrc0 : ¬ (c0 < (0 : Int32)) ∧ ¬ ((65535 : Int32) < c0)) (V_a : Arv Z h0 a k_a .byte (2 : Int32) [(.int ((c0 >>> ((0 : Int32) &&& 31)).toInt8.toInt32)), (.int ((c0 >>> ((8 : Int32) &&& 31)).toInt8.toInt32))] (.int (0 : Int32))) (O0 : Old Z n0 h0) (S__assertionsDisabled : Sta Z Z.heap "java/lang/StringUTF16" "$assertionsDisabled" "Z" (.int 1)) (S_HI_BYTE_SHIFT : Sta Z Z.heap "java/lang/StringUTF16" "HI_BYTE_SHIFT" "I" (.int 0)) (S_LO_BYTE_SHIFT : Sta Z Z.heap "java/lang/StringUTF16" "LO_BYTE_SHIFT" "I" (.int 8)) :
    own_MF l ym_7 jdk_52_method_5_code 2 (some .char) ⟨0, 0, 0, 0⟩ ws Z #[(.ref a), (.int 0)] h0 (Q_rm_get1_0 Z a c0 k_a h0 n0) := by
  refine own_begin (plainFor_of_name pn_2) (fun m => ef_8 m a) ?_
  intro p e s m below meth c s₁ hret hx hby hml hown hnm hlk X0 e0 hh hZ
  have N0 := Fr.nil n0
  have lt_V_a := own_ltN V_a.lt
  obtain ⟨T1, X1, e1, st1⟩ := getS2 X0 hx hZ hown (host := "") (Or.inl (own_w hw 92 rfl)) Via.refl e0 (S__assertionsDisabled.ext O0.2) (g := (mkF m 0 #[rv a, iv 0] [])) rfl (hb hby d_jdk_52_5_0)
  refine og T1 (mkF m 3 #[rv a, iv 0] [(.int 1)]) (fun t_ k_ => st1 _ k_) ?_
  refine og T1 (mkF m 28 #[rv a, iv 0] []) (fun t_ k_ => XS.ifYes X1.here hx rfl (pc0 := 3) (pc' := 28) rfl (hb hby d_jdk_52_5_3) rfl ((if0 _ _).trans (feq (by decide)).2) (by decide) (by decide) k_) ?_
  refine og T1 (mkF m 29 #[rv a, iv 0] [(.int 0)]) (fun t_ k_ => XS.iloadN X1.here hx rfl (hb hby d_jdk_52_5_28) rfl k_) ?_
  refine og T1 (mkF m 30 #[rv a, iv 0] [(.int 1), (.int 0)]) (fun t_ k_ => XS.iconst X1.here hx rfl (hb hby d_jdk_52_5_29) k_) ?_
  refine og T1 (mkF m 31 #[rv a, iv 0] [(.int 0)]) (fun t_ k_ => XS.ishl X1.here hx rfl (hb hby d_jdk_52_5_30) rfl k_) ?_
  refine og T1 (mkF m 32 #[rv a, iv 0] []) (fun t_ k_ => XS.istoreN X1.here hx rfl (hb hby d_jdk_52_5_31) rfl (l' := #[rv a, iv 0]) rfl k_) ?_
  refine og T1 (mkF m 33 #[rv a, iv 0] [(.ref a)]) (fun t_ k_ => XS.aloadN X1.here hx rfl (hb hby d_jdk_52_5_32) rfl rfl k_) ?_
  refine og T1 (mkF m 34 #[rv a, iv 0] [(.int 0), (.ref a)]) (fun t_ k_ => XS.iloadN X1.here hx rfl (hb hby d_jdk_52_5_33) rfl k_) ?_
  refine og T1 (mkF m 37 #[rv a, iv 1] [(.int 0), (.ref a)]) (fun t_ k_ => XS.iinc X1.here hx rfl (hb hby d_jdk_52_5_34) rfl (l' := #[rv a, iv 1]) rfl k_) ?_
  obtain ⟨cl2, Ar2, -, S2, Nn2, H2, -⟩ := id V_a
  have hin2 : ¬ ((0 : Int32) < 0 ∨ cl2.slots.size ≤ ((0 : Int32)).toNatClampNeg) := inb_of S2 ⟨by decide, by decide⟩
  refine og T1 (mkF m 38 #[rv a, iv 1] [(.int ((c0 >>> ((0 : Int32) &&& 31)).toInt8.toInt32))]) (fun t_ k_ => X1.baloadBytes hx (j := (0 : Int32)) (v := (.int ((c0 >>> ((0 : Int32) &&& 31)).toInt8.toInt32))) (by rw [e1]; exact Ar2.1) (State.isArrayOf_alike hZ.alike Ar2.2.1) Ar2.2.2 hin2 (H2.at hin2 rfl) (g := (mkF m 37 #[rv a, iv 1] [(.int 0), (.ref a)])) rfl rfl (hb hby d_jdk_52_5_37) _ k_) ?_
  refine og T1 (mkF m 41 #[rv a, iv 1] [(.int 255), (.int ((c0 >>> ((0 : Int32) &&& 31)).toInt8.toInt32))]) (fun t_ k_ => XS.sipush X1.here hx rfl (hb hby d_jdk_52_5_38) k_) ?_
  refine og T1 (mkF m 42 #[rv a, iv 1] [(.int (((c0 >>> ((0 : Int32) &&& 31)).toInt8.toInt32) &&& (255 : Int32)))]) (fun t_ k_ => XS.iand X1.here hx rfl (hb hby d_jdk_52_5_41) rfl k_) ?_
  obtain ⟨T3, X3, e3, st3⟩ := getS2 X1 hx hZ hown (host := "") (Or.inl (own_w hw 93 rfl)) Via.refl e1 (S_HI_BYTE_SHIFT.ext O0.2) (g := (mkF m 42 #[rv a, iv 1] [(.int (((c0 >>> ((0 : Int32) &&& 31)).toInt8.toInt32) &&& (255 : Int32)))])) rfl (hb hby d_jdk_52_5_42)
  refine og T3 (mkF m 45 #[rv a, iv 1] [(.int 0), (.int (((c0 >>> ((0 : Int32) &&& 31)).toInt8.toInt32) &&& (255 : Int32)))]) (fun t_ k_ => st3 _ k_) ?_
  refine og T3 (mkF m 46 #[rv a, iv 1] [(.int ((((c0 >>> ((0 : Int32) &&& 31)).toInt8.toInt32) &&& (255 : Int32)) <<< ((0 : Int32) &&& 31)))]) (fun t_ k_ => XS.ishl X3.here hx rfl (hb hby d_jdk_52_5_45) rfl k_) ?_
  refine og T3 (mkF m 47 #[rv a, iv 1] [(.ref a), (.int ((((c0 >>> ((0 : Int32) &&& 31)).toInt8.toInt32) &&& (255 : Int32)) <<< ((0 : Int32) &&& 31)))]) (fun t_ k_ => XS.aloadN X3.here hx rfl (hb hby d_jdk_52_5_46) rfl rfl k_) ?_
  refine og T3 (mkF m 48 #[rv a, iv 1] [(.int 1), (.ref a), (.int ((((c0 >>> ((0 : Int32) &&& 31)).toInt8.toInt32) &&& (255 : Int32)) <<< ((0 : Int32) &&& 31)))]) (fun t_ k_ => XS.iloadN X3.here hx rfl (hb hby d_jdk_52_5_47) rfl k_) ?_
  obtain ⟨cl4, Ar4, -, S4, Nn4, H4, -⟩ := id V_a
  have hin4 : ¬ ((1 : Int32) < 0 ∨ cl4.slots.size ≤ ((1 : Int32)).toNatClampNeg) := inb_of S4 ⟨by decide, by decide⟩
  refine og T3 (mkF m 49 #[rv a, iv 1] [(.int ((c0 >>> ((8 : Int32) &&& 31)).toInt8.toInt32)), (.int ((((c0 >>> ((0 : Int32) &&& 31)).toInt8.toInt32) &&& (255 : Int32)) <<< ((0 : Int32) &&& 31)))]) (fun t_ k_ => X3.baloadBytes hx (j := (1 : Int32)) (v := (.int ((c0 >>> ((8 : Int32) &&& 31)).toInt8.toInt32))) (by rw [e3]; exact Ar4.1) (State.isArrayOf_alike hZ.alike Ar4.2.1) Ar4.2.2 hin4 (H4.at hin4 rfl) (g := (mkF m 48 #[rv a, iv 1] [(.int 1), (.ref a), (.int ((((c0 >>> ((0 : Int32) &&& 31)).toInt8.toInt32) &&& (255 : Int32)) <<< ((0 : Int32) &&& 31)))])) rfl rfl (hb hby d_jdk_52_5_48) _ k_) ?_
  refine og T3 (mkF m 52 #[rv a, iv 1] [(.int 255), (.int ((c0 >>> ((8 : Int32) &&& 31)).toInt8.toInt32)), (.int ((((c0 >>> ((0 : Int32) &&& 31)).toInt8.toInt32) &&& (255 : Int32)) <<< ((0 : Int32) &&& 31)))]) (fun t_ k_ => XS.sipush X3.here hx rfl (hb hby d_jdk_52_5_49) k_) ?_
  refine og T3 (mkF m 53 #[rv a, iv 1] [(.int (((c0 >>> ((8 : Int32) &&& 31)).toInt8.toInt32) &&& (255 : Int32))), (.int ((((c0 >>> ((0 : Int32) &&& 31)).toInt8.toInt32) &&& (255 : Int32)) <<< ((0 : Int32) &&& 31)))]) (fun t_ k_ => XS.iand X3.here hx rfl (hb hby d_jdk_52_5_52) rfl k_) ?_
  obtain ⟨T5, X5, e5, st5⟩ := getS2 X3 hx hZ hown (host := "") (Or.inl (own_w hw 94 rfl)) Via.refl e3 (S_LO_BYTE_SHIFT.ext O0.2) (g := (mkF m 53 #[rv a, iv 1] [(.int (((c0 >>> ((8 : Int32) &&& 31)).toInt8.toInt32) &&& (255 : Int32))), (.int ((((c0 >>> ((0 : Int32) &&& 31)).toInt8.toInt32) &&& (255 : Int32)) <<< ((0 : Int32) &&& 31)))])) rfl (hb hby d_jdk_52_5_53)
  refine og T5 (mkF m 56 #[rv a, iv 1] [(.int 8), (.int (((c0 >>> ((8 : Int32) &&& 31)).toInt8.toInt32) &&& (255 : Int32))), (.int ((((c0 >>> ((0 : Int32) &&& 31)).toInt8.toInt32) &&& (255 : Int32)) <<< ((0 : Int32) &&& 31)))]) (fun t_ k_ => st5 _ k_) ?_
  refine og T5 (mkF m 57 #[rv a, iv 1] [(.int ((((c0 >>> ((8 : Int32) &&& 31)).toInt8.toInt32) &&& (255 : Int32)) <<< ((8 : Int32) &&& 31))), (.int ((((c0 >>> ((0 : Int32) &&& 31)).toInt8.toInt32) &&& (255 : Int32)) <<< ((0 : Int32) &&& 31)))]) (fun t_ k_ => XS.ishl X5.here hx rfl (hb hby d_jdk_52_5_56) rfl k_) ?_
  refine og T5 (mkF m 58 #[rv a, iv 1] [(.int (((((c0 >>> ((0 : Int32) &&& 31)).toInt8.toInt32) &&& (255 : Int32)) <<< ((0 : Int32) &&& 31)) ||| ((((c0 >>> ((8 : Int32) &&& 31)).toInt8.toInt32) &&& (255 : Int32)) <<< ((8 : Int32) &&& 31))))]) (fun t_ k_ => XS.ior X5.here hx rfl (hb hby d_jdk_52_5_57) rfl k_) ?_
  refine og T5 (mkF m 59 #[rv a, iv 1] [(.int ((((((c0 >>> ((0 : Int32) &&& 31)).toInt8.toInt32) &&& (255 : Int32)) <<< ((0 : Int32) &&& 31)) ||| ((((c0 >>> ((8 : Int32) &&& 31)).toInt8.toInt32) &&& (255 : Int32)) <<< ((8 : Int32) &&& 31))).toUInt32.toUInt16.toUInt32.toInt32))]) (fun t_ k_ => XS.i2c X5.here hx rfl (hb hby d_jdk_52_5_58) rfl k_) ?_
  exact own_out X5 (v := some (.int (nar .char ((((((c0 >>> ((0 : Int32) &&& 31)).toInt8.toInt32) &&& (255 : Int32)) <<< ((0 : Int32) &&& 31)) ||| ((((c0 >>> ((8 : Int32) &&& 31)).toInt8.toInt32) &&& (255 : Int32)) <<< ((8 : Int32) &&& 31))).toUInt32.toUInt16.toUInt32.toInt32)))) (fun h => by rw [hret] at h; cases h) hlk (fun fs hr => retN X5 hx (t := .char) hret (by simp) (hb hby d_jdk_52_5_59) hr) (Q := Q_rm_get1_0 Z a c0 k_a h0 n0) (by rw [e5]; exact ⟨(congrArg (fun z => some (Value.int z)) ((own_narc16 (own_i2cr _)).trans (own_join hrc0))), N0, rfl⟩) (by decide) (by decide)
theorem d_jdk_52_14_0 : decode jdk_52_method_14_code 0 = .ok (.iload_n 2, 1) := by decide +kernel
theorem d_jdk_52_14_1 : decode jdk_52_method_14_code 1 = .ok (.invokestatic 107, 3) := by decide +kernel
theorem pd_2 : parseMethodDescriptor "(I)[B" = some ⟨[.int], some (.array .byte)⟩ := by decide +kernel
theorem d_jdk_52_14_4 : decode jdk_52_method_14_code 4 = .ok (.astore_n 3, 1) := by decide +kernel
theorem d_jdk_52_14_5 : decode jdk_52_method_14_code 5 = .ok (.iconst 0, 1) := by decide +kernel
theorem d_jdk_52_14_6 : decode jdk_52_method_14_code 6 = .ok (.istore 4, 2) := by decide +kernel
theorem d_jdk_52_14_8 : decode jdk_52_method_14_code 8 = .ok (.iload 4, 2) := by decide +kernel
theorem d_jdk_52_14_10 : decode jdk_52_method_14_code 10 = .ok (.iload_n 2, 1) := by decide +kernel
theorem d_jdk_52_14_11 : decode jdk_52_method_14_code 11 = .ok (.if_icmp .ge 21, 3) := by decide +kernel
theorem d_jdk_52_14_14 : decode jdk_52_method_14_code 14 = .ok (.aload_n 3, 1) := by decide +kernel
theorem d_jdk_52_14_15 : decode jdk_52_method_14_code 15 = .ok (.iload 4, 2) := by decide +kernel
theorem d_jdk_52_14_17 : decode jdk_52_method_14_code 17 = .ok (.aload_n 0, 1) := by decide +kernel
theorem d_jdk_52_14_18 : decode jdk_52_method_14_code 18 = .ok (.iload_n 1, 1) := by decide +kernel
theorem d_jdk_52_14_19 : decode jdk_52_method_14_code 19 = .ok (.caload, 1) := by decide +kernel
theorem d_jdk_52_14_20 : decode jdk_52_method_14_code 20 = .ok (.invokestatic 111, 3) := by decide +kernel
theorem pd_3 : parseMethodDescriptor "([BII)V" = some ⟨[(.array .byte), .int, .int], none⟩ := by decide +kernel
theorem d_jdk_52_14_23 : decode jdk_52_method_14_code 23 = .ok (.iinc 1 1, 3) := by decide +kernel
theorem d_jdk_52_14_26 : decode jdk_52_method_14_code 26 = .ok (.iinc 4 1, 3) := by decide +kernel
theorem d_jdk_52_14_29 : decode jdk_52_method_14_code 29 = .ok (.goto (-21), 3) := by decide +kernel
theorem d_jdk_52_14_32 : decode jdk_52_method_14_code 32 = .ok (.aload_n 3, 1) := by decide +kernel
theorem d_jdk_52_14_33 : decode jdk_52_method_14_code 33 = .ok (.areturn, 1) := by decide +kernel
theorem ef_9 (m : MethodId) (a : Nat) : entryFrame m #[(.ref a), (.int 0), (.int 1)] 5 = mkF m 0 #[rv a, iv 0, iv 1, .unset, .unset] [] := by first | (simp [entryFrame, mkF, argsToLocals, Value.category]; done) | rfl
def Q_rm_tob1 (Z : State) (a : Nat) (c0 : Int32) (k_a : ClassId) (h0 : Heap) (n0 : Nat) (vv : Option Value) (h : Heap) (LL : List Loc) : Prop := ∃ b : Nat, ∃ kb : ClassId, vv = some (.ref b) ∧ Fr n0 LL ∧ Keep h0 h [] ∧ (h0.size ≤ b ∧ b < h.size) ∧ Arv Z h b kb .byte (2 : Int32) [(.int ((c0 >>> ((0 : Int32) &&& 31)).toInt8.toInt32)), (.int ((c0 >>> ((8 : Int32) &&& 31)).toInt8.toInt32))] (.int (0 : Int32))
set_option maxRecDepth 65536 in
set_option maxHeartbeats 40000000 in
abbrev ym_8 : MethodName := ⟨"java/lang/StringUTF16", "toBytes", "([CII)[B"⟩
theorem rm_tob1 (l : Launch) (Z : State) (a0 : Array Value) (hw : ∀ d ∈ tables_1, d.before a0 Z = true) (ws : List Jvm.Cond) (a : Nat) (c0 : Int32) (k_a : ClassId) (h0 : Heap) (n0 : Nat) (Z0 : n0 ≤ h0.size) (hrc0 : ¬ (c0 < (0 : Int32)) ∧ ¬ ((65535 : Int32) < c0)) (V_a : Arv Z h0 a k_a .char (1 : Int32) [(.int c0)] (.int (0 : Int32))) (O0 : Old Z n0 h0) (S__assertionsDisabled : Sta Z Z.heap "java/lang/StringUTF16" "$assertionsDisabled" "Z" (.int 1)) (S_HI_BYTE_SHIFT : Sta Z Z.heap "java/lang/StringUTF16" "HI_BYTE_SHIFT" "I" (.int 0)) (S_LO_BYTE_SHIFT : Sta Z Z.heap "java/lang/StringUTF16" "LO_BYTE_SHIFT" "I" (.int 8)) :
    own_MF l ym_8 jdk_52_method_14_code 5 (some (.array .byte)) ⟨2, 1, 2, 24⟩ ws Z #[(.ref a), (.int 0), (.int 1)] h0 (Q_rm_tob1 Z a c0 k_a h0 n0) := by
  refine own_begin (plainFor_of_name pn_2) (fun m => ef_9 m a) ?_
  intro p e s m below meth c s₁ hret hx hby hml hown hnm hlk X0 e0 hh hZ
  have N0 := Fr.nil n0
  have lt_V_a := own_ltN V_a.lt
  refine og s₁ (mkF m 1 #[rv a, iv 0, iv 1, .unset, .unset] [(.int 1)]) (fun t_ k_ => XS.iloadN X0.here hx rfl (hb hby d_jdk_52_14_0) rfl k_) ?_
  obtain ⟨_, _, ⟨T1, L1, k1, n1⟩, -, X1, ⟨Lc1, hQ1, l1, y1, z1⟩, st1⟩ := Jvm.LawKit.callS X0 hx (y := ym_5) hown (mvT hZ (own_w hw 82 rfl)) (mvT hZ (own_w hw 83 rfl)) (mvT hZ (own_w hw 66 rfl)) (mvT hZ (own_w hw 84 rfl)) (by decide) (backOf (W := 0) (rm_nbf1 l Z a0 hw []  h0 n0 (show n0 ≤ h0.size by omega)) hZ (own_w hw 84 rfl) (own_w hw 66 rfl) (by decide) (by decide)) (g := (mkF m 1 #[rv a, iv 0, iv 1, .unset, .unset] [(.int 1)])) rfl (by rw [hml]; rfl) (argsL := [(.int 1)]) (rest := []) (lenOf pd_2 rfl) rfl (by show 2 * 0 + _ ≤ _; exact Nat.le_of_eq rfl) (hb hby d_jdk_52_14_1) (fun _ _ => ⟨rfl, e0, (by decide : 0 + 1 ≤ _), (by decide : 0 + 2 ≤ _)⟩)
  dsimp only [Pt.U, Pt.locs, Pt.cells, Pt.slots] at X1 l1 y1 z1 st1 hQ1
  subst l1 y1 z1
  obtain ⟨b1, kb1, rfl, M1, K1_, ⟨lob1, hib1⟩, f1_0⟩ := hQ1
  have zz1 := K1_.1
  have O1 := O0.keep K1_ all0
  have K1 := (Keep.refl h0 []).trans K1_ all0
  have N1 := Fr.app N0 M1
  refine og T1 (mkF m 4 #[rv a, iv 0, iv 1, .unset, .unset] [(.ref b1)]) (fun t_ k_ => st1 _ k_) ?_
  refine og T1 (mkF m 5 #[rv a, iv 0, iv 1, rv b1, .unset] []) (fun t_ k_ => XS.astoreN X1.here hx rfl (hb hby d_jdk_52_14_4) rfl rfl (l' := #[rv a, iv 0, iv 1, rv b1, .unset]) rfl k_) ?_
  refine og T1 (mkF m 6 #[rv a, iv 0, iv 1, rv b1, .unset] [(.int 0)]) (fun t_ k_ => XS.iconst X1.here hx rfl (hb hby d_jdk_52_14_5) k_) ?_
  refine og T1 (mkF m 8 #[rv a, iv 0, iv 1, rv b1, iv 0] []) (fun t_ k_ => XS.istore X1.here hx rfl (hb hby d_jdk_52_14_6) rfl (l' := #[rv a, iv 0, iv 1, rv b1, iv 0]) rfl k_) ?_
  refine og T1 (mkF m 10 #[rv a, iv 0, iv 1, rv b1, iv 0] [(.int 0)]) (fun t_ k_ => XS.iload X1.here hx rfl (hb hby d_jdk_52_14_8) rfl k_) ?_
  refine og T1 (mkF m 11 #[rv a, iv 0, iv 1, rv b1, iv 0] [(.int 1), (.int 0)]) (fun t_ k_ => XS.iloadN X1.here hx rfl (hb hby d_jdk_52_14_10) rfl k_) ?_
  refine og T1 (mkF m 14 #[rv a, iv 0, iv 1, rv b1, iv 0] []) (fun t_ k_ => XS.icmpNo X1.here hx rfl (hb hby d_jdk_52_14_11) rfl (tlt (by decide)).2.1 k_) ?_
  refine og T1 (mkF m 15 #[rv a, iv 0, iv 1, rv b1, iv 0] [(.ref b1)]) (fun t_ k_ => XS.aloadN X1.here hx rfl (hb hby d_jdk_52_14_14) rfl rfl k_) ?_
  refine og T1 (mkF m 17 #[rv a, iv 0, iv 1, rv b1, iv 0] [(.int 0), (.ref b1)]) (fun t_ k_ => XS.iload X1.here hx rfl (hb hby d_jdk_52_14_15) rfl k_) ?_
  refine og T1 (mkF m 18 #[rv a, iv 0, iv 1, rv b1, iv 0] [(.ref a), (.int 0), (.ref b1)]) (fun t_ k_ => XS.aloadN X1.here hx rfl (hb hby d_jdk_52_14_17) rfl rfl k_) ?_
  refine og T1 (mkF m 19 #[rv a, iv 0, iv 1, rv b1, iv 0] [(.int 0), (.ref a), (.int 0), (.ref b1)]) (fun t_ k_ => XS.iloadN X1.here hx rfl (hb hby d_jdk_52_14_18) rfl k_) ?_
  have ff3 := (V_a.keep K1_ nin0)
  obtain ⟨cl2, Ar2, -, S2, Nn2, H2, -⟩ := id ff3
  have hin2 : ¬ ((0 : Int32) < 0 ∨ cl2.slots.size ≤ ((0 : Int32)).toNatClampNeg) := inb_of S2 ⟨by decide, by decide⟩
  refine og T1 (mkF m 20 #[rv a, iv 0, iv 1, rv b1, iv 0] [(.int c0), (.int 0), (.ref b1)]) (fun t_ k_ => X1.caload hx (j := (0 : Int32)) (v := (.int c0)) (by exact Ar2.1) (State.isArrayOf_alike hZ.alike Ar2.2.1) Ar2.2.2 hin2 (H2.at hin2 rfl) (g := (mkF m 19 #[rv a, iv 0, iv 1, rv b1, iv 0] [(.int 0), (.ref a), (.int 0), (.ref b1)])) rfl rfl (hb hby d_jdk_52_14_19) _ k_) ?_
  obtain ⟨_, _, ⟨T4, L4, k4, n4⟩, -, X4, ⟨Lc4, hQ4, l4, y4, z4⟩, st4⟩ := Jvm.LawKit.callS X1 hx (y := ym_6) hown (mvT hZ (own_w hw 89 rfl)) (mvT hZ (own_w hw 90 rfl)) (mvT hZ (own_w hw 66 rfl)) (mvT hZ (own_w hw 91 rfl)) (by decide) (backOf (W := 0) (rm_put1_0 l Z a0 hw [] b1 c0 (0 : Int32) (0 : Int32) kb1 T1.heap n0 (show n0 ≤ T1.heap.size by omega) O1 S__assertionsDisabled S_HI_BYTE_SHIFT S_LO_BYTE_SHIFT f1_0 (show n0 ≤ b1 by omega)) hZ (own_w hw 91 rfl) (own_w hw 66 rfl) (by decide) (by decide)) (g := (mkF m 20 #[rv a, iv 0, iv 1, rv b1, iv 0] [(.int c0), (.int 0), (.ref b1)])) rfl (by rw [hml]; rfl) (argsL := [(.ref b1), (.int 0), (.int c0)]) (rest := []) (lenOf pd_3 rfl) rfl (by show 2 * 0 + _ ≤ _; exact Nat.le_of_eq rfl) (hb hby d_jdk_52_14_20) (fun _ _ => ⟨rfl, rfl, (by decide : 1 + 0 ≤ _), (by decide : 2 + 0 ≤ _)⟩)
  dsimp only [Pt.U, Pt.locs, Pt.cells, Pt.slots] at X4 l4 y4 z4 st4 hQ4
  subst l4 y4 z4
  obtain ⟨rfl, M4, K4_, f4_0⟩ := hQ4
  have zz4 := K4_.1
  have O4 := O1.keep K4_ (allS (show n0 ≤ b1 by omega) all0)
  have K4 := K1.trans K4_ (allS (Or.inr (show h0.size ≤ b1 by omega)) all0)
  have N4 := Fr.app N1 M4
  refine og T4 (mkF m 23 #[rv a, iv 0, iv 1, rv b1, iv 0] []) (fun t_ k_ => st4 _ k_) ?_
  refine og T4 (mkF m 26 #[rv a, iv 1, iv 1, rv b1, iv 0] []) (fun t_ k_ => XS.iinc X4.here hx rfl (hb hby d_jdk_52_14_23) rfl (l' := #[rv a, iv 1, iv 1, rv b1, iv 0]) rfl k_) ?_
  refine og T4 (mkF m 29 #[rv a, iv 1, iv 1, rv b1, iv 1] []) (fun t_ k_ => XS.iinc X4.here hx rfl (hb hby d_jdk_52_14_26) rfl (l' := #[rv a, iv 1, iv 1, rv b1, iv 1]) rfl k_) ?_
  refine og T4 (mkF m 8 #[rv a, iv 1, iv 1, rv b1, iv 1] []) (fun t_ k_ => XS.goto X4.here hx rfl (pc0 := 29) (pc' := 8) rfl (hb hby d_jdk_52_14_29) (by decide) (by decide) k_) ?_
  refine og T4 (mkF m 10 #[rv a, iv 1, iv 1, rv b1, iv 1] [(.int 1)]) (fun t_ k_ => XS.iload X4.here hx rfl (hb hby d_jdk_52_14_8) rfl k_) ?_
  refine og T4 (mkF m 11 #[rv a, iv 1, iv 1, rv b1, iv 1] [(.int 1), (.int 1)]) (fun t_ k_ => XS.iloadN X4.here hx rfl (hb hby d_jdk_52_14_10) rfl k_) ?_
  refine og T4 (mkF m 32 #[rv a, iv 1, iv 1, rv b1, iv 1] []) (fun t_ k_ => XS.icmpYes X4.here hx rfl (pc0 := 11) (pc' := 32) rfl (hb hby d_jdk_52_14_11) rfl (flt (by decide)).2.1 (by decide) (by decide) k_) ?_
  refine og T4 (mkF m 33 #[rv a, iv 1, iv 1, rv b1, iv 1] [(.ref b1)]) (fun t_ k_ => XS.aloadN X4.here hx rfl (hb hby d_jdk_52_14_32) rfl rfl k_) ?_
  exact own_out X4 (v := some (.ref b1)) (fun h => by rw [hret] at h; cases h) hlk (fun fs hr => own_retA X4 hx hret rfl rfl (hb hby d_jdk_52_14_33) hr) (Q := Q_rm_tob1 Z a c0 k_a h0 n0) (by exact ⟨b1, kb1, rfl, N4, K4, ⟨by omega, by omega⟩, f4_0⟩) (by decide) (by decide)
theorem d_jdk_52_21_0 : decode jdk_52_method_21_code 0 = .ok (.iconst 0, 1) := by decide +kernel
theorem d_jdk_52_21_1 : decode jdk_52_method_21_code 1 = .ok (.istore 5, 2) := by decide +kernel
theorem d_jdk_52_21_3 : decode jdk_52_method_21_code 3 = .ok (.iload 5, 2) := by decide +kernel
theorem d_jdk_52_21_5 : decode jdk_52_method_21_code 5 = .ok (.iload 4, 2) := by decide +kernel
theorem d_jdk_52_21_7 : decode jdk_52_method_21_code 7 = .ok (.if_icmp .ge 37, 3) := by decide +kernel
theorem d_jdk_52_21_10 : decode jdk_52_method_21_code 10 = .ok (.aload_n 0, 1) := by decide +kernel
theorem d_jdk_52_21_11 : decode jdk_52_method_21_code 11 = .ok (.iload_n 1, 1) := by decide +kernel
theorem d_jdk_52_21_12 : decode jdk_52_method_21_code 12 = .ok (.caload, 1) := by decide +kernel
theorem d_jdk_52_21_13 : decode jdk_52_method_21_code 13 = .ok (.istore 6, 2) := by decide +kernel
theorem d_jdk_52_21_15 : decode jdk_52_method_21_code 15 = .ok (.iload 6, 2) := by decide +kernel
theorem d_jdk_52_21_17 : decode jdk_52_method_21_code 17 = .ok (.sipush 255, 3) := by decide +kernel
theorem d_jdk_52_21_20 : decode jdk_52_method_21_code 20 = .ok (.if_icmp .le 6, 3) := by decide +kernel
theorem d_jdk_52_21_23 : decode jdk_52_method_21_code 23 = .ok (.iload 5, 2) := by decide +kernel
theorem d_jdk_52_21_25 : decode jdk_52_method_21_code 25 = .ok (.ireturn, 1) := by decide +kernel
theorem d_jdk_52_21_26 : decode jdk_52_method_21_code 26 = .ok (.aload_n 2, 1) := by decide +kernel
theorem d_jdk_52_21_27 : decode jdk_52_method_21_code 27 = .ok (.iload_n 3, 1) := by decide +kernel
theorem d_jdk_52_21_28 : decode jdk_52_method_21_code 28 = .ok (.iload 6, 2) := by decide +kernel
theorem d_jdk_52_21_30 : decode jdk_52_method_21_code 30 = .ok (.i2b, 1) := by decide +kernel
theorem d_jdk_52_21_31 : decode jdk_52_method_21_code 31 = .ok (.bastore, 1) := by decide +kernel
theorem d_jdk_52_21_32 : decode jdk_52_method_21_code 32 = .ok (.iinc 1 1, 3) := by decide +kernel
theorem d_jdk_52_21_35 : decode jdk_52_method_21_code 35 = .ok (.iinc 3 1, 3) := by decide +kernel
theorem d_jdk_52_21_38 : decode jdk_52_method_21_code 38 = .ok (.iinc 5 1, 3) := by decide +kernel
theorem d_jdk_52_21_41 : decode jdk_52_method_21_code 41 = .ok (.goto (-38), 3) := by decide +kernel
theorem d_jdk_52_21_44 : decode jdk_52_method_21_code 44 = .ok (.iload 4, 2) := by decide +kernel
theorem d_jdk_52_21_46 : decode jdk_52_method_21_code 46 = .ok (.ireturn, 1) := by decide +kernel
theorem ef_10 (m : MethodId) (a : Nat) (d : Nat) : entryFrame m #[(.ref a), (.int 0), (.ref d), (.int 0), (.int 1)] 7 = mkF m 0 #[rv a, iv 0, rv d, iv 0, iv 1, .unset, .unset] [] := by first | (simp [entryFrame, mkF, argsToLocals, Value.category]; done) | rfl
def Q_rm_cma1 (Z : State) (a : Nat) (d : Nat) (c0 : Int32) (k_a : ClassId) (k_d : ClassId) (h0 : Heap) (n0 : Nat) (vv : Option Value) (h : Heap) (LL : List Loc) : Prop := ∃ r : Int32, vv = some (.int r) ∧ Fr n0 LL ∧ Keep h0 h [d] ∧ ((r = (1 : Int32) ∧ (¬ (255 : Int32) < c0) ∧ Arv Z h d k_d .byte (1 : Int32) [(.int c0.toInt8.toInt32)] (.int (0 : Int32))) ∨ (r = (0 : Int32) ∧ (255 : Int32) < c0))
set_option maxRecDepth 65536 in
set_option maxHeartbeats 40000000 in
abbrev ym_9 : MethodName := ⟨"java/lang/StringUTF16", "compress", "([CI[BII)I"⟩
theorem rm_cma1 (l : Launch) (Z : State) (a0 : Array Value) (hw : ∀ d ∈ tables_1, d.before a0 Z = true) (ws : List Jvm.Cond) (a : Nat) (d : Nat) (c0 : Int32) (k_a : ClassId) (k_d : ClassId) (h0 : Heap) (n0 : Nat) (Z0 : n0 ≤ h0.size) (V_a : Arv Z h0 a k_a .char (1 : Int32) [(.int c0)] (.int (0 : Int32))) (V_d : Arv Z h0 d k_d .byte (1 : Int32) [(.int (0 : Int32))] (.int (0 : Int32))) (g_d : n0 ≤ d) (hne : a ≠ d) :
    own_MF l ym_9 jdk_52_method_21_code 7 (some .int) ⟨0, 0, 0, 0⟩ ws Z #[(.ref a), (.int 0), (.ref d), (.int 0), (.int 1)] h0 (Q_rm_cma1 Z a d c0 k_a k_d h0 n0) := by
  refine own_begin (plainFor_of_name pn_2) (fun m => ef_10 m a d) ?_
  intro p e s m below meth c s₁ hret hx hby hml hown hnm hlk X0 e0 hh hZ
  have N0 := Fr.nil n0
  have lt_V_a := own_ltN V_a.lt
  have lt_V_d := own_ltN V_d.lt
  refine og s₁ (mkF m 1 #[rv a, iv 0, rv d, iv 0, iv 1, .unset, .unset] [(.int 0)]) (fun t_ k_ => XS.iconst X0.here hx rfl (hb hby d_jdk_52_21_0) k_) ?_
  refine og s₁ (mkF m 3 #[rv a, iv 0, rv d, iv 0, iv 1, iv 0, .unset] []) (fun t_ k_ => XS.istore X0.here hx rfl (hb hby d_jdk_52_21_1) rfl (l' := #[rv a, iv 0, rv d, iv 0, iv 1, iv 0, .unset]) rfl k_) ?_
  refine og s₁ (mkF m 5 #[rv a, iv 0, rv d, iv 0, iv 1, iv 0, .unset] [(.int 0)]) (fun t_ k_ => XS.iload X0.here hx rfl (hb hby d_jdk_52_21_3) rfl k_) ?_
  refine og s₁ (mkF m 7 #[rv a, iv 0, rv d, iv 0, iv 1, iv 0, .unset] [(.int 1), (.int 0)]) (fun t_ k_ => XS.iload X0.here hx rfl (hb hby d_jdk_52_21_5) rfl k_) ?_
  refine og s₁ (mkF m 10 #[rv a, iv 0, rv d, iv 0, iv 1, iv 0, .unset] []) (fun t_ k_ => XS.icmpNo X0.here hx rfl (hb hby d_jdk_52_21_7) rfl (tlt (by decide)).2.1 k_) ?_
  refine og s₁ (mkF m 11 #[rv a, iv 0, rv d, iv 0, iv 1, iv 0, .unset] [(.ref a)]) (fun t_ k_ => XS.aloadN X0.here hx rfl (hb hby d_jdk_52_21_10) rfl rfl k_) ?_
  refine og s₁ (mkF m 12 #[rv a, iv 0, rv d, iv 0, iv 1, iv 0, .unset] [(.int 0), (.ref a)]) (fun t_ k_ => XS.iloadN X0.here hx rfl (hb hby d_jdk_52_21_11) rfl k_) ?_
  obtain ⟨cl1, Ar1, -, S1, Nn1, H1, -⟩ := id V_a
  have hin1 : ¬ ((0 : Int32) < 0 ∨ cl1.slots.size ≤ ((0 : Int32)).toNatClampNeg) := inb_of S1 ⟨by decide, by decide⟩
  refine og s₁ (mkF m 13 #[rv a, iv 0, rv d, iv 0, iv 1, iv 0, .unset] [(.int c0)]) (fun t_ k_ => X0.caload hx (j := (0 : Int32)) (v := (.int c0)) (by rw [e0]; exact Ar1.1) (State.isArrayOf_alike hZ.alike Ar1.2.1) Ar1.2.2 hin1 (H1.at hin1 rfl) (g := (mkF m 12 #[rv a, iv 0, rv d, iv 0, iv 1, iv 0, .unset] [(.int 0), (.ref a)])) rfl rfl (hb hby d_jdk_52_21_12) _ k_) ?_
  refine og s₁ (mkF m 15 #[rv a, iv 0, rv d, iv 0, iv 1, iv 0, iv c0] []) (fun t_ k_ => XS.istore X0.here hx rfl (hb hby d_jdk_52_21_13) rfl (l' := #[rv a, iv 0, rv d, iv 0, iv 1, iv 0, iv c0]) rfl k_) ?_
  refine og s₁ (mkF m 17 #[rv a, iv 0, rv d, iv 0, iv 1, iv 0, iv c0] [(.int c0)]) (fun t_ k_ => XS.iload X0.here hx rfl (hb hby d_jdk_52_21_15) rfl k_) ?_
  refine og s₁ (mkF m 20 #[rv a, iv 0, rv d, iv 0, iv 1, iv 0, iv c0] [(.int 255), (.int c0)]) (fun t_ k_ => XS.sipush X0.here hx rfl (hb hby d_jdk_52_21_17) k_) ?_
  by_cases hq2_ : (255 : Int32) < c0
  · skip
    refine og s₁ (mkF m 23 #[rv a, iv 0, rv d, iv 0, iv 1, iv 0, iv c0] []) (fun t_ k_ => XS.icmpNo X0.here hx rfl (hb hby d_jdk_52_21_20) rfl (tlt hq2_).2.2.2 k_) ?_
    refine og s₁ (mkF m 25 #[rv a, iv 0, rv d, iv 0, iv 1, iv 0, iv c0] [(.int 0)]) (fun t_ k_ => XS.iload X0.here hx rfl (hb hby d_jdk_52_21_23) rfl k_) ?_
    exact own_out X0 (v := some (.int 0)) (fun h => by rw [hret] at h; cases h) hlk (fun fs hr => retI X0 hx hret (hb hby d_jdk_52_21_25) hr) (Q := Q_rm_cma1 Z a d c0 k_a k_d h0 n0) (by rw [e0]; exact ⟨(0 : Int32), rfl, N0, (Keep.refl h0 [d]), (Or.inr (⟨rfl, hq2_⟩))⟩) (by decide) (by decide)
  · skip
    refine og s₁ (mkF m 26 #[rv a, iv 0, rv d, iv 0, iv 1, iv 0, iv c0] []) (fun t_ k_ => XS.icmpYes X0.here hx rfl (pc0 := 20) (pc' := 26) rfl (hb hby d_jdk_52_21_20) rfl (flt hq2_).2.2.2 (by decide) (by decide) k_) ?_
    refine og s₁ (mkF m 27 #[rv a, iv 0, rv d, iv 0, iv 1, iv 0, iv c0] [(.ref d)]) (fun t_ k_ => XS.aloadN X0.here hx rfl (hb hby d_jdk_52_21_26) rfl rfl k_) ?_
    refine og s₁ (mkF m 28 #[rv a, iv 0, rv d, iv 0, iv 1, iv 0, iv c0] [(.int 0), (.ref d)]) (fun t_ k_ => XS.iloadN X0.here hx rfl (hb hby d_jdk_52_21_27) rfl k_) ?_
    refine og s₁ (mkF m 30 #[rv a, iv 0, rv d, iv 0, iv 1, iv 0, iv c0] [(.int c0), (.int 0), (.ref d)]) (fun t_ k_ => XS.iload X0.here hx rfl (hb hby d_jdk_52_21_28) rfl k_) ?_
    refine og s₁ (mkF m 31 #[rv a, iv 0, rv d, iv 0, iv 1, iv 0, iv c0] [(.int (c0.toInt8.toInt32)), (.int 0), (.ref d)]) (fun t_ k_ => XS.i2b X0.here hx rfl (hb hby d_jdk_52_21_30) rfl k_) ?_
    obtain ⟨cl3, Ar3, q3, S3, Nn3, H3, G3⟩ := id V_d
    have hin3 : ¬ ((0 : Int32) < 0 ∨ cl3.slots.size ≤ ((0 : Int32)).toNatClampNeg) := inb_of S3 ⟨by decide, by decide⟩
    obtain ⟨T3, h3, X3, e3, W3, st3⟩ := stB X0 hx hZ e0 Ar3 (j := (0 : Int32)) hin3 (g := (mkF m 31 #[rv a, iv 0, rv d, iv 0, iv 1, iv 0, iv c0] [(.int (c0.toInt8.toInt32)), (.int 0), (.ref d)])) rfl rfl (hb hby d_jdk_52_21_31)
    have V3 : Arv Z h3 d k_d .byte (1 : Int32) [(.int (c0.toInt8.toInt32))] (.int (0 : Int32)) := by
      have q0 := Arv.set Ar3 q3 S3 Nn3 H3 G3 (fits_nar_byte _) W3 0 rfl (Nat.le_of_ble_eq_true rfl)
      first | rw [own_i8] at q0 | skip
      exact q0
    have z3 := W3.size
    have N3 := Fr.snoc X3 N0 (show n0 ≤ d by omega)
    have K3 := (Keep.refl h0 [d]).wr W3 (Or.inl (List.mem_of_getElem? (i := 0) rfl))
    refine og T3 (mkF m 32 #[rv a, iv 0, rv d, iv 0, iv 1, iv 0, iv c0] []) (fun t_ k_ => st3 _ k_) ?_
    refine og T3 (mkF m 35 #[rv a, iv 1, rv d, iv 0, iv 1, iv 0, iv c0] []) (fun t_ k_ => XS.iinc X3.here hx rfl (hb hby d_jdk_52_21_32) rfl (l' := #[rv a, iv 1, rv d, iv 0, iv 1, iv 0, iv c0]) rfl k_) ?_
    refine og T3 (mkF m 38 #[rv a, iv 1, rv d, iv 1, iv 1, iv 0, iv c0] []) (fun t_ k_ => XS.iinc X3.here hx rfl (hb hby d_jdk_52_21_35) rfl (l' := #[rv a, iv 1, rv d, iv 1, iv 1, iv 0, iv c0]) rfl k_) ?_
    refine og T3 (mkF m 41 #[rv a, iv 1, rv d, iv 1, iv 1, iv 1, iv c0] []) (fun t_ k_ => XS.iinc X3.here hx rfl (hb hby d_jdk_52_21_38) rfl (l' := #[rv a, iv 1, rv d, iv 1, iv 1, iv 1, iv c0]) rfl k_) ?_
    refine og T3 (mkF m 3 #[rv a, iv 1, rv d, iv 1, iv 1, iv 1, iv c0] []) (fun t_ k_ => XS.goto X3.here hx rfl (pc0 := 41) (pc' := 3) rfl (hb hby d_jdk_52_21_41) (by decide) (by decide) k_) ?_
    refine og T3 (mkF m 5 #[rv a, iv 1, rv d, iv 1, iv 1, iv 1, iv c0] [(.int 1)]) (fun t_ k_ => XS.iload X3.here hx rfl (hb hby d_jdk_52_21_3) rfl k_) ?_
    refine og T3 (mkF m 7 #[rv a, iv 1, rv d, iv 1, iv 1, iv 1, iv c0] [(.int 1), (.int 1)]) (fun t_ k_ => XS.iload X3.here hx rfl (hb hby d_jdk_52_21_5) rfl k_) ?_
    refine og T3 (mkF m 44 #[rv a, iv 1, rv d, iv 1, iv 1, iv 1, iv c0] []) (fun t_ k_ => XS.icmpYes X3.here hx rfl (pc0 := 7) (pc' := 44) rfl (hb hby d_jdk_52_21_7) rfl (flt (by decide)).2.1 (by decide) (by decide) k_) ?_
    refine og T3 (mkF m 46 #[rv a, iv 1, rv d, iv 1, iv 1, iv 1, iv c0] [(.int 1)]) (fun t_ k_ => XS.iload X3.here hx rfl (hb hby d_jdk_52_21_44) rfl k_) ?_
    exact own_out X3 (v := some (.int 1)) (fun h => by rw [hret] at h; cases h) hlk (fun fs hr => retI X3 hx hret (hb hby d_jdk_52_21_46) hr) (Q := Q_rm_cma1 Z a d c0 k_a k_d h0 n0) (by rw [e3]; exact ⟨(1 : Int32), rfl, N3, K3, (Or.inl ⟨rfl, hq2_, V3⟩)⟩) (by decide) (by decide)
theorem d_jdk_52_16_0 : decode jdk_52_method_16_code 0 = .ok (.iload_n 2, 1) := by decide +kernel
theorem d_jdk_52_16_1 : decode jdk_52_method_16_code 1 = .ok (.newarray .byte, 2) := by decide +kernel
theorem d_jdk_52_16_3 : decode jdk_52_method_16_code 3 = .ok (.astore_n 3, 1) := by decide +kernel
theorem d_jdk_52_16_4 : decode jdk_52_method_16_code 4 = .ok (.aload_n 0, 1) := by decide +kernel
theorem d_jdk_52_16_5 : decode jdk_52_method_16_code 5 = .ok (.iload_n 1, 1) := by decide +kernel
theorem d_jdk_52_16_6 : decode jdk_52_method_16_code 6 = .ok (.aload_n 3, 1) := by decide +kernel
theorem d_jdk_52_16_7 : decode jdk_52_method_16_code 7 = .ok (.iconst 0, 1) := by decide +kernel
theorem d_jdk_52_16_8 : decode jdk_52_method_16_code 8 = .ok (.iload_n 2, 1) := by decide +kernel
theorem d_jdk_52_16_9 : decode jdk_52_method_16_code 9 = .ok (.invokestatic 115, 3) := by decide +kernel
theorem pd_4 : parseMethodDescriptor "([CI[BII)I" = some ⟨[(.array .char), .int, (.array .byte), .int, .int], some .int⟩ := by decide +kernel
theorem d_jdk_52_16_12 : decode jdk_52_method_16_code 12 = .ok (.istore 4, 2) := by decide +kernel
theorem d_jdk_52_16_14 : decode jdk_52_method_16_code 14 = .ok (.iload 4, 2) := by decide +kernel
theorem d_jdk_52_16_16 : decode jdk_52_method_16_code 16 = .ok (.iload_n 2, 1) := by decide +kernel
theorem d_jdk_52_16_17 : decode jdk_52_method_16_code 17 = .ok (.if_icmp .eq 40, 3) := by decide +kernel
theorem d_jdk_52_16_57 : decode jdk_52_method_16_code 57 = .ok (.aload_n 3, 1) := by decide +kernel
theorem d_jdk_52_16_58 : decode jdk_52_method_16_code 58 = .ok (.areturn, 1) := by decide +kernel
theorem d_jdk_52_16_20 : decode jdk_52_method_16_code 20 = .ok (.aload_n 0, 1) := by decide +kernel
theorem d_jdk_52_16_21 : decode jdk_52_method_16_code 21 = .ok (.iload_n 1, 1) := by decide +kernel
theorem d_jdk_52_16_22 : decode jdk_52_method_16_code 22 = .ok (.iload_n 2, 1) := by decide +kernel
theorem d_jdk_52_16_23 : decode jdk_52_method_16_code 23 = .ok (.invokestatic 119, 3) := by decide +kernel
theorem pd_5 : parseMethodDescriptor "([CII)[B" = some ⟨[(.array .char), .int, .int], some (.array .byte)⟩ := by decide +kernel
theorem d_jdk_52_16_26 : decode jdk_52_method_16_code 26 = .ok (.astore 5, 2) := by decide +kernel
theorem d_jdk_52_16_28 : decode jdk_52_method_16_code 28 = .ok (.aload 5, 2) := by decide +kernel
theorem d_jdk_52_16_30 : decode jdk_52_method_16_code 30 = .ok (.iload 4, 2) := by decide +kernel
theorem d_jdk_52_16_32 : decode jdk_52_method_16_code 32 = .ok (.invokestatic 71, 3) := by decide +kernel
theorem pd_6 : parseMethodDescriptor "([BI)C" = some ⟨[(.array .byte), .int], some .char⟩ := by decide +kernel
theorem d_jdk_52_16_35 : decode jdk_52_method_16_code 35 = .ok (.sipush 255, 3) := by decide +kernel
theorem d_jdk_52_16_38 : decode jdk_52_method_16_code 38 = .ok (.if_icmp .gt 16, 3) := by decide +kernel
theorem d_jdk_52_16_54 : decode jdk_52_method_16_code 54 = .ok (.aload 5, 2) := by decide +kernel
theorem d_jdk_52_16_56 : decode jdk_52_method_16_code 56 = .ok (.areturn, 1) := by decide +kernel
theorem ef_11 (m : MethodId) (a : Nat) : entryFrame m #[(.ref a), (.int 0), (.int 1)] 6 = mkF m 0 #[rv a, iv 0, iv 1, .unset, .unset, .unset] [] := by first | (simp [entryFrame, mkF, argsToLocals, Value.category]; done) | rfl
def Q_rm_cmb1 (Z : State) (a : Nat) (c0 : Int32) (k_a : ClassId) (h0 : Heap) (n0 : Nat) (vv : Option Value) (h : Heap) (LL : List Loc) : Prop := ∃ b : Nat, ∃ kb : ClassId, vv = some (.ref b) ∧ Fr n0 LL ∧ Keep h0 h [] ∧ (h0.size ≤ b ∧ b < h.size) ∧ (((¬ (255 : Int32) < c0) ∧ Arv Z h b kb .byte (1 : Int32) [(.int c0.toInt8.toInt32)] (.int (0 : Int32))) ∨ Arv Z h b kb .byte (2 : Int32) [(.int ((c0 >>> ((0 : Int32) &&& 31)).toInt8.toInt32)), (.int ((c0 >>> ((8 : Int32) &&& 31)).toInt8.toInt32))] (.int (0 : Int32)))
set_option maxRecDepth 65536 in
set_option maxHeartbeats 40000000 in
abbrev ym_10 : MethodName := ⟨"java/lang/StringUTF16", "compress", "([CII)[B"⟩
theorem rm_cmb1 (l : Launch) (Z : State) (a0 : Array Value) (hw : ∀ d ∈ tables_1, d.before a0 Z = true) (ws : List Jvm.Cond) (a : Nat) (c0 : Int32) (k_a : ClassId) (h0 : Heap) (n0 : Nat) (Z0 : n0 ≤ h0.size) (hrc0 : ¬ (c0 < (0 : Int32)) ∧ ¬ ((65535 : Int32) < c0)) (V_a : Arv Z h0 a k_a .char (1 : Int32) [(.int c0)] (.int (0 : Int32))) (O0 : Old Z n0 h0) (S__assertionsDisabled : Sta Z Z.heap "java/lang/StringUTF16" "$assertionsDisabled" "Z" (.int 1)) (S_HI_BYTE_SHIFT : Sta Z Z.heap "java/lang/StringUTF16" "HI_BYTE_SHIFT" "I" (.int 0)) (S_LO_BYTE_SHIFT : Sta Z Z.heap "java/lang/StringUTF16" "LO_BYTE_SHIFT" "I" (.int 8)) :
    own_MF l ym_10 jdk_52_method_16_code 6 (some (.array .byte)) ⟨3, 2, 3, 40⟩ ws Z #[(.ref a), (.int 0), (.int 1)] h0 (Q_rm_cmb1 Z a c0 k_a h0 n0) := by
  refine own_begin (plainFor_of_name pn_2) (fun m => ef_11 m a) ?_
  intro p e s m below meth c s₁ hret hx hby hml hown hnm hlk X0 e0 hh hZ
  have N0 := Fr.nil n0
  have lt_V_a := own_ltN V_a.lt
  refine og s₁ (mkF m 1 #[rv a, iv 0, iv 1, .unset, .unset, .unset] [(.int 1)]) (fun t_ k_ => XS.iloadN X0.here hx rfl (hb hby d_jdk_52_16_0) rfl k_) ?_
  obtain ⟨T1, h1, k1, X1, e1, E1, A1, st1⟩ := newP X0 hx hZ (own_w hw 7 rfl) e0 (g := (mkF m 1 #[rv a, iv 0, iv 1, .unset, .unset, .unset] [(.int 1)])) rfl (hb hby d_jdk_52_16_1) rfl (by decide) (cap := 1) (by decide) (by decide) (by decide) (by decide)
  obtain ⟨b1, g1⟩ : ∃ z, z = h0.size := ⟨_, rfl⟩
  rw [← g1] at A1 st1
  have V1 : Arv Z h1 b1 k1 .byte (1 : Int32) [(.int (0 : Int32))] (.int (0 : Int32)) := (Arv.new A1 (by decide)).pad (pad_rep [] (.int (0 : Int32)) 1)
  have l1 := own_ltN V1.lt
  have z1 := E1.1
  have O1 := O0.ext E1
  have K1 := (Keep.refl h0 []).ext E1
  refine og T1 (mkF m 3 #[rv a, iv 0, iv 1, .unset, .unset, .unset] [(.ref b1)]) (fun t_ k_ => st1 _ k_) ?_
  refine og T1 (mkF m 4 #[rv a, iv 0, iv 1, rv b1, .unset, .unset] []) (fun t_ k_ => XS.astoreN X1.here hx rfl (hb hby d_jdk_52_16_3) rfl rfl (l' := #[rv a, iv 0, iv 1, rv b1, .unset, .unset]) rfl k_) ?_
  refine og T1 (mkF m 5 #[rv a, iv 0, iv 1, rv b1, .unset, .unset] [(.ref a)]) (fun t_ k_ => XS.aloadN X1.here hx rfl (hb hby d_jdk_52_16_4) rfl rfl k_) ?_
  refine og T1 (mkF m 6 #[rv a, iv 0, iv 1, rv b1, .unset, .unset] [(.int 0), (.ref a)]) (fun t_ k_ => XS.iloadN X1.here hx rfl (hb hby d_jdk_52_16_5) rfl k_) ?_
  refine og T1 (mkF m 7 #[rv a, iv 0, iv 1, rv b1, .unset, .unset] [(.ref b1), (.int 0), (.ref a)]) (fun t_ k_ => XS.aloadN X1.here hx rfl (hb hby d_jdk_52_16_6) rfl rfl k_) ?_
  refine og T1 (mkF m 8 #[rv a, iv 0, iv 1, rv b1, .unset, .unset] [(.int 0), (.ref b1), (.int 0), (.ref a)]) (fun t_ k_ => XS.iconst X1.here hx rfl (hb hby d_jdk_52_16_7) k_) ?_
  refine og T1 (mkF m 9 #[rv a, iv 0, iv 1, rv b1, .unset, .unset] [(.int 1), (.int 0), (.ref b1), (.int 0), (.ref a)]) (fun t_ k_ => XS.iloadN X1.here hx rfl (hb hby d_jdk_52_16_8) rfl k_) ?_
  have ff3 := (V_a.ext E1)
  obtain ⟨_, _, ⟨T2, L2, k2, n2⟩, -, X2, ⟨Lc2, hQ2, l2, y2, z2⟩, st2⟩ := Jvm.LawKit.callS X1 hx (y := ym_9) hown (mvT hZ (own_w hw 68 rfl)) (mvT hZ (own_w hw 69 rfl)) (mvT hZ (own_w hw 66 rfl)) (mvT hZ (own_w hw 70 rfl)) (by decide) (backOf (W := 0) (rm_cma1 l Z a0 hw [] a b1 c0 k_a k1 h1 n0 (show n0 ≤ h1.size by omega) ff3 V1 (show n0 ≤ b1 by omega) (show a ≠ b1 by omega)) hZ (own_w hw 70 rfl) (own_w hw 66 rfl) (by decide) (by decide)) (g := (mkF m 9 #[rv a, iv 0, iv 1, rv b1, .unset, .unset] [(.int 1), (.int 0), (.ref b1), (.int 0), (.ref a)])) rfl (by rw [hml]; rfl) (argsL := [(.ref a), (.int 0), (.ref b1), (.int 0), (.int 1)]) (rest := []) (lenOf pd_4 rfl) rfl (by show 2 * 0 + _ ≤ _; exact Nat.le_of_eq rfl) (hb hby d_jdk_52_16_9) (fun _ _ => ⟨rfl, e1, (by decide : 1 + 0 ≤ _), (by decide : 1 + 0 ≤ _)⟩)
  dsimp only [Pt.U, Pt.locs, Pt.cells, Pt.slots] at X2 l2 y2 z2 st2 hQ2
  subst l2 y2 z2
  obtain ⟨r2, rfl, M2, K2_, f2_0⟩ := hQ2
  have zz2 := K2_.1
  have O2 := O1.keep K2_ (allS (show n0 ≤ b1 by omega) all0)
  have K2 := K1.trans K2_ (allS (Or.inr (show h0.size ≤ b1 by omega)) all0)
  have N2 := Fr.app N0 M2
  refine og T2 (mkF m 12 #[rv a, iv 0, iv 1, rv b1, .unset, .unset] [(.int r2)]) (fun t_ k_ => st2 _ k_) ?_
  rcases f2_0 with ⟨rq, hle, hV⟩ | ⟨rq, hgt⟩
  · subst rq
    refine og T2 (mkF m 14 #[rv a, iv 0, iv 1, rv b1, iv 1, .unset] []) (fun t_ k_ => XS.istore X2.here hx rfl (hb hby d_jdk_52_16_12) rfl (l' := #[rv a, iv 0, iv 1, rv b1, iv 1, .unset]) rfl k_) ?_
    refine og T2 (mkF m 16 #[rv a, iv 0, iv 1, rv b1, iv 1, .unset] [(.int 1)]) (fun t_ k_ => XS.iload X2.here hx rfl (hb hby d_jdk_52_16_14) rfl k_) ?_
    refine og T2 (mkF m 17 #[rv a, iv 0, iv 1, rv b1, iv 1, .unset] [(.int 1), (.int 1)]) (fun t_ k_ => XS.iloadN X2.here hx rfl (hb hby d_jdk_52_16_16) rfl k_) ?_
    refine og T2 (mkF m 57 #[rv a, iv 0, iv 1, rv b1, iv 1, .unset] []) (fun t_ k_ => XS.icmpYes X2.here hx rfl (pc0 := 17) (pc' := 57) rfl (hb hby d_jdk_52_16_17) rfl (teq (by decide)).1 (by decide) (by decide) k_) ?_
    refine og T2 (mkF m 58 #[rv a, iv 0, iv 1, rv b1, iv 1, .unset] [(.ref b1)]) (fun t_ k_ => XS.aloadN X2.here hx rfl (hb hby d_jdk_52_16_57) rfl rfl k_) ?_
    exact own_out X2 (v := some (.ref b1)) (fun h => by rw [hret] at h; cases h) hlk (fun fs hr => own_retA X2 hx hret rfl rfl (hb hby d_jdk_52_16_58) hr) (Q := Q_rm_cmb1 Z a c0 k_a h0 n0) (by exact ⟨b1, k1, rfl, N2, K2, ⟨by omega, by omega⟩, (Or.inl ⟨hle, hV⟩)⟩) (by decide) (by decide)
  · subst rq
    refine og T2 (mkF m 14 #[rv a, iv 0, iv 1, rv b1, iv 0, .unset] []) (fun t_ k_ => XS.istore X2.here hx rfl (hb hby d_jdk_52_16_12) rfl (l' := #[rv a, iv 0, iv 1, rv b1, iv 0, .unset]) rfl k_) ?_
    refine og T2 (mkF m 16 #[rv a, iv 0, iv 1, rv b1, iv 0, .unset] [(.int 0)]) (fun t_ k_ => XS.iload X2.here hx rfl (hb hby d_jdk_52_16_14) rfl k_) ?_
    refine og T2 (mkF m 17 #[rv a, iv 0, iv 1, rv b1, iv 0, .unset] [(.int 1), (.int 0)]) (fun t_ k_ => XS.iloadN X2.here hx rfl (hb hby d_jdk_52_16_16) rfl k_) ?_
    refine og T2 (mkF m 20 #[rv a, iv 0, iv 1, rv b1, iv 0, .unset] []) (fun t_ k_ => XS.icmpNo X2.here hx rfl (hb hby d_jdk_52_16_17) rfl (feq (by decide)).1 k_) ?_
    refine og T2 (mkF m 21 #[rv a, iv 0, iv 1, rv b1, iv 0, .unset] [(.ref a)]) (fun t_ k_ => XS.aloadN X2.here hx rfl (hb hby d_jdk_52_16_20) rfl rfl k_) ?_
    refine og T2 (mkF m 22 #[rv a, iv 0, iv 1, rv b1, iv 0, .unset] [(.int 0), (.ref a)]) (fun t_ k_ => XS.iloadN X2.here hx rfl (hb hby d_jdk_52_16_21) rfl k_) ?_
    refine og T2 (mkF m 23 #[rv a, iv 0, iv 1, rv b1, iv 0, .unset] [(.int 1), (.int 0), (.ref a)]) (fun t_ k_ => XS.iloadN X2.here hx rfl (hb hby d_jdk_52_16_22) rfl k_) ?_
    have ff5 := (ff3.keep K2_ (ninS (own_ne (by omega)) nin0))
    obtain ⟨_, _, ⟨T4, L4, k4, n4⟩, -, X4, ⟨Lc4, hQ4, l4, y4, z4⟩, st4⟩ := Jvm.LawKit.callS X2 hx (y := ym_8) hown (mvT hZ (own_w hw 79 rfl)) (mvT hZ (own_w hw 80 rfl)) (mvT hZ (own_w hw 66 rfl)) (mvT hZ (own_w hw 81 rfl)) (by decide) (backOf (W := 0) (rm_tob1 l Z a0 hw [] a c0 k_a T2.heap n0 (show n0 ≤ T2.heap.size by omega) hrc0 ff5 O2 S__assertionsDisabled S_HI_BYTE_SHIFT S_LO_BYTE_SHIFT) hZ (own_w hw 81 rfl) (own_w hw 66 rfl) (by decide) (by decide)) (g := (mkF m 23 #[rv a, iv 0, iv 1, rv b1, iv 0, .unset] [(.int 1), (.int 0), (.ref a)])) rfl (by rw [hml]; rfl) (argsL := [(.ref a), (.int 0), (.int 1)]) (rest := []) (lenOf pd_5 rfl) rfl (by show 2 * 0 + _ ≤ _; exact Nat.le_of_eq rfl) (hb hby d_jdk_52_16_23) (fun _ _ => ⟨rfl, rfl, (by decide : 1 + 1 ≤ _), (by decide : 1 + 2 ≤ _)⟩)
    dsimp only [Pt.U, Pt.locs, Pt.cells, Pt.slots] at X4 l4 y4 z4 st4 hQ4
    subst l4 y4 z4
    obtain ⟨b4, kb4, rfl, M4, K4_, ⟨lob4, hib4⟩, f4_0⟩ := hQ4
    have zz4 := K4_.1
    have O4 := O2.keep K4_ all0
    have K4 := K2.trans K4_ all0
    have N4 := Fr.app N2 M4
    refine og T4 (mkF m 26 #[rv a, iv 0, iv 1, rv b1, iv 0, .unset] [(.ref b4)]) (fun t_ k_ => st4 _ k_) ?_
    refine og T4 (mkF m 28 #[rv a, iv 0, iv 1, rv b1, iv 0, rv b4] []) (fun t_ k_ => XS.astore X4.here hx rfl (hb hby d_jdk_52_16_26) rfl rfl (l' := #[rv a, iv 0, iv 1, rv b1, iv 0, rv b4]) rfl k_) ?_
    refine og T4 (mkF m 30 #[rv a, iv 0, iv 1, rv b1, iv 0, rv b4] [(.ref b4)]) (fun t_ k_ => XS.aload X4.here hx rfl (hb hby d_jdk_52_16_28) rfl rfl k_) ?_
    refine og T4 (mkF m 32 #[rv a, iv 0, iv 1, rv b1, iv 0, rv b4] [(.int 0), (.ref b4)]) (fun t_ k_ => XS.iload X4.here hx rfl (hb hby d_jdk_52_16_30) rfl k_) ?_
    obtain ⟨_, _, ⟨T6, L6, k6, n6⟩, -, X6, ⟨Lc6, hQ6, l6, y6, z6⟩, st6⟩ := Jvm.LawKit.callS X4 hx (y := ym_7) hown (mvT hZ (own_w hw 95 rfl)) (mvT hZ (own_w hw 96 rfl)) (mvT hZ (own_w hw 66 rfl)) (mvT hZ (own_w hw 97 rfl)) (by decide) (backOf (W := 0) (rm_get1_0 l Z a0 hw [] b4 c0 kb4 T4.heap n0 (show n0 ≤ T4.heap.size by omega) hrc0 f4_0 O4 S__assertionsDisabled S_HI_BYTE_SHIFT S_LO_BYTE_SHIFT) hZ (own_w hw 97 rfl) (own_w hw 66 rfl) (by decide) (by decide)) (g := (mkF m 32 #[rv a, iv 0, iv 1, rv b1, iv 0, rv b4] [(.int 0), (.ref b4)])) rfl (by rw [hml]; rfl) (argsL := [(.ref b4), (.int 0)]) (rest := []) (lenOf pd_6 rfl) rfl (by show 2 * 0 + _ ≤ _; exact Nat.le_of_eq rfl) (hb hby d_jdk_52_16_32) (fun _ _ => ⟨rfl, rfl, (by decide : 2 + 0 ≤ _), (by decide : 3 + 0 ≤ _)⟩)
    dsimp only [Pt.U, Pt.locs, Pt.cells, Pt.slots] at X6 l6 y6 z6 st6 hQ6
    subst l6 y6 z6
    obtain ⟨rfl, M6, e6⟩ := hQ6
    have N6 := Fr.app N4 M6
    refine og T6 (mkF m 35 #[rv a, iv 0, iv 1, rv b1, iv 0, rv b4] [(.int c0)]) (fun t_ k_ => st6 _ k_) ?_
    refine og T6 (mkF m 38 #[rv a, iv 0, iv 1, rv b1, iv 0, rv b4] [(.int 255), (.int c0)]) (fun t_ k_ => XS.sipush X6.here hx rfl (hb hby d_jdk_52_16_35) k_) ?_
    refine og T6 (mkF m 54 #[rv a, iv 0, iv 1, rv b1, iv 0, rv b4] []) (fun t_ k_ => XS.icmpYes X6.here hx rfl (pc0 := 38) (pc' := 54) rfl (hb hby d_jdk_52_16_38) rfl (tlt hgt).2.2.1 (by decide) (by decide) k_) ?_
    refine og T6 (mkF m 56 #[rv a, iv 0, iv 1, rv b1, iv 0, rv b4] [(.ref b4)]) (fun t_ k_ => XS.aload X6.here hx rfl (hb hby d_jdk_52_16_54) rfl rfl k_) ?_
    exact own_out X6 (v := some (.ref b4)) (fun h => by rw [hret] at h; cases h) hlk (fun fs hr => own_retA X6 hx hret rfl rfl (hb hby d_jdk_52_16_56) hr) (Q := Q_rm_cmb1 Z a c0 k_a h0 n0) (by rw [e6]; exact ⟨b4, kb4, rfl, N6, K4, ⟨by omega, by omega⟩, (Or.inr f4_0)⟩) (by decide) (by decide)
theorem d_jdk_52_15_0 : decode jdk_52_method_15_code 0 = .ok (.iload_n 1, 1) := by decide +kernel
theorem d_jdk_52_15_1 : decode jdk_52_method_15_code 1 = .ok (.aload_n 0, 1) := by decide +kernel
theorem d_jdk_52_15_2 : decode jdk_52_method_15_code 2 = .ok (.arraylength, 1) := by decide +kernel
theorem d_jdk_52_15_3 : decode jdk_52_method_15_code 3 = .ok (.isub, 1) := by decide +kernel
theorem d_jdk_52_15_4 : decode jdk_52_method_15_code 4 = .ok (.bipush 31, 2) := by decide +kernel
theorem d_jdk_52_15_6 : decode jdk_52_method_15_code 6 = .ok (.iushr, 1) := by decide +kernel
theorem d_jdk_52_15_7 : decode jdk_52_method_15_code 7 = .ok (.i2b, 1) := by decide +kernel
theorem d_jdk_52_15_8 : decode jdk_52_method_15_code 8 = .ok (.ireturn, 1) := by decide +kernel
theorem ef_12 (m : MethodId) (a : Nat) : entryFrame m #[(.ref a), (.int 1)] 2 = mkF m 0 #[rv a, iv 1] [] := by first | (simp [entryFrame, mkF, argsToLocals, Value.category]; done) | rfl
def Q_rm_cfa1_1 (Z : State) (a : Nat) (y0 : Int32) (k_a : ClassId) (h0 : Heap) (n0 : Nat) (vv : Option Value) (h : Heap) (LL : List Loc) : Prop := vv = some (.int 0) ∧ Fr n0 LL ∧ h = h0
set_option maxRecDepth 65536 in
set_option maxHeartbeats 40000000 in
abbrev ym_11 : MethodName := ⟨"java/lang/StringUTF16", "coderFromArrayLen", "([BI)B"⟩
theorem rm_cfa1_1 (l : Launch) (Z : State) (a0 : Array Value) (hw : ∀ d ∈ tables_1, d.before a0 Z = true) (ws : List Jvm.Cond) (a : Nat) (y0 : Int32) (k_a : ClassId) (h0 : Heap) (n0 : Nat) (Z0 : n0 ≤ h0.size) (V_a : Arv Z h0 a k_a .byte (1 : Int32) [(.int y0)] (.int (0 : Int32))) :
    own_MF l ym_11 jdk_52_method_15_code 2 (some .byte) ⟨0, 0, 0, 0⟩ ws Z #[(.ref a), (.int 1)] h0 (Q_rm_cfa1_1 Z a y0 k_a h0 n0) := by
  refine own_begin (plainFor_of_name pn_2) (fun m => ef_12 m a) ?_
  intro p e s m below meth c s₁ hret hx hby hml hown hnm hlk X0 e0 hh hZ
  have N0 := Fr.nil n0
  have lt_V_a := own_ltN V_a.lt
  refine og s₁ (mkF m 1 #[rv a, iv 1] [(.int 1)]) (fun t_ k_ => XS.iloadN X0.here hx rfl (hb hby d_jdk_52_15_0) rfl k_) ?_
  refine og s₁ (mkF m 2 #[rv a, iv 1] [(.ref a), (.int 1)]) (fun t_ k_ => XS.aloadN X0.here hx rfl (hb hby d_jdk_52_15_1) rfl rfl k_) ?_
  obtain ⟨cl1, Ar1, -, S1, Nn1, -, -⟩ := id V_a
  refine og s₁ (mkF m 3 #[rv a, iv 1] [(.int 1), (.int 1)]) (fun t_ k_ => X0.arraylength hx (by rw [e0]; exact Ar1.1) (State.isArrayOf_alike hZ.alike Ar1.2.1) (g := (mkF m 2 #[rv a, iv 1] [(.ref a), (.int 1)])) rfl rfl (hb hby d_jdk_52_15_2) _ (by rw [len_of S1 Nn1]; exact k_)) ?_
  refine og s₁ (mkF m 4 #[rv a, iv 1] [(.int 0)]) (fun t_ k_ => XS.isub X0.here hx rfl (hb hby d_jdk_52_15_3) rfl k_) ?_
  refine og s₁ (mkF m 6 #[rv a, iv 1] [(.int 31), (.int 0)]) (fun t_ k_ => XS.bipush X0.here hx rfl (hb hby d_jdk_52_15_4) k_) ?_
  refine og s₁ (mkF m 7 #[rv a, iv 1] [(.int 0)]) (fun t_ k_ => XS.iushr X0.here hx rfl (hb hby d_jdk_52_15_6) rfl k_) ?_
  refine og s₁ (mkF m 8 #[rv a, iv 1] [(.int 0)]) (fun t_ k_ => XS.i2b X0.here hx rfl (hb hby d_jdk_52_15_7) rfl k_) ?_
  exact own_out X0 (v := some (.int (nar .byte (0 : Int32)))) (fun h => by rw [hret] at h; cases h) hlk (fun fs hr => retN X0 hx (t := .byte) hret (by simp) (hb hby d_jdk_52_15_8) hr) (Q := Q_rm_cfa1_1 Z a y0 k_a h0 n0) (by rw [e0]; exact ⟨rfl, N0, rfl⟩) (by decide) (by decide)
def Q_rm_cfa1_2 (Z : State) (a : Nat) (y0 : Int32) (y1 : Int32) (k_a : ClassId) (h0 : Heap) (n0 : Nat) (vv : Option Value) (h : Heap) (LL : List Loc) : Prop := vv = some (.int 1) ∧ Fr n0 LL ∧ h = h0
set_option maxRecDepth 65536 in
set_option maxHeartbeats 40000000 in
theorem rm_cfa1_2 (l : Launch) (Z : State) (a0 : Array Value) (hw : ∀ d ∈ tables_1, d.before a0 Z = true) (ws : List Jvm.Cond) (a : Nat) (y0 : Int32) (y1 : Int32) (k_a : ClassId) (h0 : Heap) (n0 : Nat) (Z0 : n0 ≤ h0.size) (V_a : Arv Z h0 a k_a .byte (2 : Int32) [(.int y0), (.int y1)] (.int (0 : Int32))) :
    own_MF l ym_11 jdk_52_method_15_code 2 (some .byte) ⟨0, 0, 0, 0⟩ ws Z #[(.ref a), (.int 1)] h0 (Q_rm_cfa1_2 Z a y0 y1 k_a h0 n0) := by
  refine own_begin (plainFor_of_name pn_2) (fun m => ef_12 m a) ?_
  intro p e s m below meth c s₁ hret hx hby hml hown hnm hlk X0 e0 hh hZ
  have N0 := Fr.nil n0
  have lt_V_a := own_ltN V_a.lt
  refine og s₁ (mkF m 1 #[rv a, iv 1] [(.int 1)]) (fun t_ k_ => XS.iloadN X0.here hx rfl (hb hby d_jdk_52_15_0) rfl k_) ?_
  refine og s₁ (mkF m 2 #[rv a, iv 1] [(.ref a), (.int 1)]) (fun t_ k_ => XS.aloadN X0.here hx rfl (hb hby d_jdk_52_15_1) rfl rfl k_) ?_
  obtain ⟨cl1, Ar1, -, S1, Nn1, -, -⟩ := id V_a
  refine og s₁ (mkF m 3 #[rv a, iv 1] [(.int 2), (.int 1)]) (fun t_ k_ => X0.arraylength hx (by rw [e0]; exact Ar1.1) (State.isArrayOf_alike hZ.alike Ar1.2.1) (g := (mkF m 2 #[rv a, iv 1] [(.ref a), (.int 1)])) rfl rfl (hb hby d_jdk_52_15_2) _ (by rw [len_of S1 Nn1]; exact k_)) ?_
  refine og s₁ (mkF m 4 #[rv a, iv 1] [(.int (-1))]) (fun t_ k_ => XS.isub X0.here hx rfl (hb hby d_jdk_52_15_3) rfl k_) ?_
  refine og s₁ (mkF m 6 #[rv a, iv 1] [(.int 31), (.int (-1))]) (fun t_ k_ => XS.bipush X0.here hx rfl (hb hby d_jdk_52_15_4) k_) ?_
  refine og s₁ (mkF m 7 #[rv a, iv 1] [(.int 1)]) (fun t_ k_ => XS.iushr X0.here hx rfl (hb hby d_jdk_52_15_6) rfl k_) ?_
  refine og s₁ (mkF m 8 #[rv a, iv 1] [(.int 1)]) (fun t_ k_ => XS.i2b X0.here hx rfl (hb hby d_jdk_52_15_7) rfl k_) ?_
  exact own_out X0 (v := some (.int (nar .byte (1 : Int32)))) (fun h => by rw [hret] at h; cases h) hlk (fun fs hr => retN X0 hx (t := .byte) hret (by simp) (hb hby d_jdk_52_15_8) hr) (Q := Q_rm_cfa1_2 Z a y0 y1 k_a h0 n0) (by rw [e0]; exact ⟨rfl, N0, rfl⟩) (by decide) (by decide)
theorem d_jdk_42_149_0 : decode jdk_42_method_149_code 0 = .ok (.aload_n 0, 1) := by decide +kernel
theorem d_jdk_42_149_1 : decode jdk_42_method_149_code 1 = .ok (.invokespecial 1, 3) := by decide +kernel
theorem d_jdk_42_149_4 : decode jdk_42_method_149_code 4 = .ok (.iload_n 3, 1) := by decide +kernel
theorem d_jdk_42_149_5 : decode jdk_42_method_149_code 5 = .ok (.ifCond .ne 22, 3) := by decide +kernel
theorem d_jdk_42_149_27 : decode jdk_42_method_149_code 27 = .ok (.getstatic 38, 3) := by decide +kernel
theorem d_jdk_42_149_30 : decode jdk_42_method_149_code 30 = .ok (.ifCond .eq 28, 3) := by decide +kernel
theorem d_jdk_42_149_33 : decode jdk_42_method_149_code 33 = .ok (.aload_n 1, 1) := by decide +kernel
theorem d_jdk_42_149_34 : decode jdk_42_method_149_code 34 = .ok (.iload_n 2, 1) := by decide +kernel
theorem d_jdk_42_149_35 : decode jdk_42_method_149_code 35 = .ok (.iload_n 3, 1) := by decide +kernel
theorem d_jdk_42_149_36 : decode jdk_42_method_149_code 36 = .ok (.invokestatic 177, 3) := by decide +kernel
theorem d_jdk_42_149_39 : decode jdk_42_method_149_code 39 = .ok (.astore 5, 2) := by decide +kernel
theorem d_jdk_42_149_41 : decode jdk_42_method_149_code 41 = .ok (.aload_n 0, 1) := by decide +kernel
theorem d_jdk_42_149_42 : decode jdk_42_method_149_code 42 = .ok (.aload 5, 2) := by decide +kernel
theorem d_jdk_42_149_44 : decode jdk_42_method_149_code 44 = .ok (.iload_n 3, 1) := by decide +kernel
theorem d_jdk_42_149_45 : decode jdk_42_method_149_code 45 = .ok (.invokestatic 47, 3) := by decide +kernel
theorem pd_7 : parseMethodDescriptor "([BI)B" = some ⟨[(.array .byte), .int], some .byte⟩ := by decide +kernel
theorem d_jdk_42_149_48 : decode jdk_42_method_149_code 48 = .ok (.putfield 15, 3) := by decide +kernel
theorem d_jdk_42_149_51 : decode jdk_42_method_149_code 51 = .ok (.aload_n 0, 1) := by decide +kernel
theorem d_jdk_42_149_52 : decode jdk_42_method_149_code 52 = .ok (.aload 5, 2) := by decide +kernel
theorem d_jdk_42_149_54 : decode jdk_42_method_149_code 54 = .ok (.putfield 9, 3) := by decide +kernel
theorem d_jdk_42_149_57 : decode jdk_42_method_149_code 57 = .ok (.return_, 1) := by decide +kernel
theorem ef_13 (m : MethodId) (a : Nat) (ca : Nat) : entryFrame m #[(.ref a), (.ref ca), (.int 0), (.int 1), .null] 6 = mkF m 0 #[rv a, rv ca, iv 0, iv 1, .val .null, .unset] [] := by first | (simp [entryFrame, mkF, argsToLocals, Value.category]; done) | rfl
def Q_rm_inb1 (Z : State) (a : Nat) (ca : Nat) (c0 : Int32) (k_ca : ClassId) (cz : Int32) (h0 : Heap) (n0 : Nat) (vv : Option Value) (h : Heap) (LL : List Loc) : Prop := vv = none ∧ Fr n0 LL ∧ Keep h0 h [a] ∧ own_Sw Z h h.size a [c0]
set_option maxRecDepth 65536 in
set_option maxHeartbeats 40000000 in
abbrev ym_12 : MethodName := ⟨"java/lang/String", "<init>", "([CIILjava/lang/Void;)V"⟩
theorem rm_inb1 (l : Launch) (Z : State) (a0 : Array Value) (hw : ∀ d ∈ tables_1, d.before a0 Z = true) (ws : List Jvm.Cond) (a : Nat) (ca : Nat) (c0 : Int32) (k_ca : ClassId) (cz : Int32) (h0 : Heap) (n0 : Nat) (Z0 : n0 ≤ h0.size) (hrc0 : ¬ (c0 < (0 : Int32)) ∧ ¬ ((65535 : Int32) < c0)) (V_ca : Arv Z h0 ca k_ca .char (1 : Int32) [(.int c0)] (.int (0 : Int32))) (O0 : Old Z n0 h0) (S__assertionsDisabled : Sta Z Z.heap "java/lang/StringUTF16" "$assertionsDisabled" "Z" (.int 1)) (S_HI_BYTE_SHIFT : Sta Z Z.heap "java/lang/StringUTF16" "HI_BYTE_SHIFT" "I" (.int 0)) (S_LO_BYTE_SHIFT : Sta Z Z.heap "java/lang/StringUTF16" "LO_BYTE_SHIFT" "I" (.int 8)) (S_COMPACT_STRINGS : Sta Z Z.heap "java/lang/String" "COMPACT_STRINGS" "Z" (.int cz)) (hcz : ¬ cz = (0 : Int32)) (E_a : Exa Z h0 a "java/lang/String") (F_value_a : Fld Z h0 a "java/lang/String" "value" "[B" .null) (F_coder_a : Fld Z h0 a "java/lang/String" "coder" "B" (.int 0)) (g_a : n0 ≤ a) (hne : ca ≠ a) :
    own_MF l ym_12 jdk_42_method_149_code 6 none ⟨4, 2, 3, 57⟩ ws Z #[(.ref a), (.ref ca), (.int 0), (.int 1), .null] h0 (Q_rm_inb1 Z a ca c0 k_ca cz h0 n0) := by
  refine own_begin (plainFor_of_name pn_1) (fun m => ef_13 m a ca) ?_
  intro p e s m below meth c s₁ hret hx hby hml hown hnm hlk X0 e0 hh hZ
  have N0 := Fr.nil n0
  have lt_V_ca := own_ltN V_ca.lt
  have lt_E_a := own_ltN E_a.lt
  have lt_F_value_a := own_ltN F_value_a.lt
  have lt_F_coder_a := own_ltN F_coder_a.lt
  refine og s₁ (mkF m 1 #[rv a, rv ca, iv 0, iv 1, .val .null, .unset] [(.ref a)]) (fun t_ k_ => XS.aloadN X0.here hx rfl (hb hby d_jdk_42_149_0) rfl rfl k_) ?_
  obtain ⟨T1, X1, e1, st1⟩ := initO X0 hx hZ hown (own_w hw 46 rfl) (own_w hw 47 rfl) (own_w hw 48 rfl) e0 (g := (mkF m 1 #[rv a, rv ca, iv 0, iv 1, .val .null, .unset] [(.ref a)])) rfl (by rw [hml]; rfl) rfl (hb hby d_jdk_42_149_1) (by decide) (W := 0) (by show 2 * 0 + _ ≤ _; exact Nat.le_of_eq rfl) (by decide)
  refine og T1 (mkF m 4 #[rv a, rv ca, iv 0, iv 1, .val .null, .unset] []) (fun t_ k_ => st1 _ k_) ?_
  refine og T1 (mkF m 5 #[rv a, rv ca, iv 0, iv 1, .val .null, .unset] [(.int 1)]) (fun t_ k_ => XS.iloadN X1.here hx rfl (hb hby d_jdk_42_149_4) rfl k_) ?_
  refine og T1 (mkF m 27 #[rv a, rv ca, iv 0, iv 1, .val .null, .unset] []) (fun t_ k_ => XS.ifYes X1.here hx rfl (pc0 := 5) (pc' := 27) rfl (hb hby d_jdk_42_149_5) rfl ((if0 _ _).trans (feq (by decide)).2) (by decide) (by decide) k_) ?_
  obtain ⟨T2, X2, e2, st2⟩ := getS2 X1 hx hZ hown (host := "") (Or.inl (own_w hw 22 rfl)) Via.refl e1 (S_COMPACT_STRINGS.ext O0.2) (g := (mkF m 27 #[rv a, rv ca, iv 0, iv 1, .val .null, .unset] [])) rfl (hb hby d_jdk_42_149_27)
  refine og T2 (mkF m 30 #[rv a, rv ca, iv 0, iv 1, .val .null, .unset] [(.int cz)]) (fun t_ k_ => st2 _ k_) ?_
  refine og T2 (mkF m 33 #[rv a, rv ca, iv 0, iv 1, .val .null, .unset] []) (fun t_ k_ => XS.ifNo X2.here hx rfl (hb hby d_jdk_42_149_30) rfl ((if0 _ _).trans (feq hcz).1) k_) ?_
  refine og T2 (mkF m 34 #[rv a, rv ca, iv 0, iv 1, .val .null, .unset] [(.ref ca)]) (fun t_ k_ => XS.aloadN X2.here hx rfl (hb hby d_jdk_42_149_33) rfl rfl k_) ?_
  refine og T2 (mkF m 35 #[rv a, rv ca, iv 0, iv 1, .val .null, .unset] [(.int 0), (.ref ca)]) (fun t_ k_ => XS.iloadN X2.here hx rfl (hb hby d_jdk_42_149_34) rfl k_) ?_
  refine og T2 (mkF m 36 #[rv a, rv ca, iv 0, iv 1, .val .null, .unset] [(.int 1), (.int 0), (.ref ca)]) (fun t_ k_ => XS.iloadN X2.here hx rfl (hb hby d_jdk_42_149_35) rfl k_) ?_
  obtain ⟨_, _, ⟨T3, L3, k3, n3⟩, -, X3, ⟨Lc3, hQ3, l3, y3, z3⟩, st3⟩ := Jvm.LawKit.callS X2 hx (y := ym_10) hown (mvT hZ (own_w hw 64 rfl)) (mvT hZ (own_w hw 65 rfl)) (mvT hZ (own_w hw 66 rfl)) (mvT hZ (own_w hw 67 rfl)) (by decide) (backOf (W := 0) (rm_cmb1 l Z a0 hw [] ca c0 k_ca h0 n0 (show n0 ≤ h0.size by omega) hrc0 V_ca O0 S__assertionsDisabled S_HI_BYTE_SHIFT S_LO_BYTE_SHIFT) hZ (own_w hw 67 rfl) (own_w hw 66 rfl) (by decide) (by decide)) (g := (mkF m 36 #[rv a, rv ca, iv 0, iv 1, .val .null, .unset] [(.int 1), (.int 0), (.ref ca)])) rfl (by rw [hml]; rfl) (argsL := [(.ref ca), (.int 0), (.int 1)]) (rest := []) (lenOf pd_5 rfl) rfl (by show 2 * 0 + _ ≤ _; exact Nat.le_of_eq rfl) (hb hby d_jdk_42_149_36) (fun _ _ => ⟨rfl, e2, (by decide : 0 + 2 ≤ _), (by decide : 0 + 3 ≤ _)⟩)
  dsimp only [Pt.U, Pt.locs, Pt.cells, Pt.slots] at X3 l3 y3 z3 st3 hQ3
  subst l3 y3 z3
  obtain ⟨b3, kb3, rfl, M3, K3_, ⟨lob3, hib3⟩, f3_0⟩ := hQ3
  have zz3 := K3_.1
  have O3 := O0.keep K3_ all0
  have K3 := (Keep.refl h0 [a]).trans K3_ all0
  have N3 := Fr.app N0 M3
  refine og T3 (mkF m 39 #[rv a, rv ca, iv 0, iv 1, .val .null, .unset] [(.ref b3)]) (fun t_ k_ => st3 _ k_) ?_
  rcases f3_0 with ⟨hle, hV⟩ | hV
  · skip
    refine og T3 (mkF m 41 #[rv a, rv ca, iv 0, iv 1, .val .null, rv b3] []) (fun t_ k_ => XS.astore X3.here hx rfl (hb hby d_jdk_42_149_39) rfl rfl (l' := #[rv a, rv ca, iv 0, iv 1, .val .null, rv b3]) rfl k_) ?_
    refine og T3 (mkF m 42 #[rv a, rv ca, iv 0, iv 1, .val .null, rv b3] [(.ref a)]) (fun t_ k_ => XS.aloadN X3.here hx rfl (hb hby d_jdk_42_149_41) rfl rfl k_) ?_
    refine og T3 (mkF m 44 #[rv a, rv ca, iv 0, iv 1, .val .null, rv b3] [(.ref b3), (.ref a)]) (fun t_ k_ => XS.aload X3.here hx rfl (hb hby d_jdk_42_149_42) rfl rfl k_) ?_
    refine og T3 (mkF m 45 #[rv a, rv ca, iv 0, iv 1, .val .null, rv b3] [(.int 1), (.ref b3), (.ref a)]) (fun t_ k_ => XS.iloadN X3.here hx rfl (hb hby d_jdk_42_149_44) rfl k_) ?_
    obtain ⟨_, _, ⟨T4, L4, k4, n4⟩, -, X4, ⟨Lc4, hQ4, l4, y4, z4⟩, st4⟩ := Jvm.LawKit.callS X3 hx (y := ym_11) hown (mvT hZ (own_w hw 71 rfl)) (mvT hZ (own_w hw 72 rfl)) (mvT hZ (own_w hw 66 rfl)) (mvT hZ (own_w hw 73 rfl)) (by decide) (backOf (W := 1) (rm_cfa1_1 l Z a0 hw [] b3 c0.toInt8.toInt32 kb3 T3.heap n0 (show n0 ≤ T3.heap.size by omega) hV) hZ (own_w hw 73 rfl) (own_w hw 66 rfl) (by decide) (by decide)) (g := (mkF m 45 #[rv a, rv ca, iv 0, iv 1, .val .null, rv b3] [(.int 1), (.ref b3), (.ref a)])) rfl (by rw [hml]; rfl) (argsL := [(.ref b3), (.int 1)]) (rest := [(.ref a)]) (lenOf pd_7 rfl) rfl (by show 2 * 0 + _ ≤ _; exact Nat.le_of_eq rfl) (hb hby d_jdk_42_149_45) (fun _ _ => ⟨rfl, rfl, (by decide : 2 + 0 ≤ _), (by decide : 3 + 0 ≤ _)⟩)
    dsimp only [Pt.U, Pt.locs, Pt.cells, Pt.slots] at X4 l4 y4 z4 st4 hQ4
    subst l4 y4 z4
    obtain ⟨rfl, M4, e4⟩ := hQ4
    have N4 := Fr.app N3 M4
    refine og T4 (mkF m 48 #[rv a, rv ca, iv 0, iv 1, .val .null, rv b3] [(.int 0), (.ref a)]) (fun t_ k_ => st4 _ k_) ?_
    have ff6 := (F_coder_a.keep K3_ nin0)
    have ff7 := (E_a.keep K3_)
    obtain ⟨T5, h5, X5, e5, W5, st5⟩ := putFN X4 hx hZ hown (own_w hw 23 rfl) Via.refl e4 ff6 ff7 (Or.inr ⟨(own_w hw 9 rfl), rfl, hnm⟩) (own_w hw 6 rfl) (ty := .byte) (v' := .int (nar .byte (0 : Int32))) (by decide) rfl (fits_nar_byte _) (g := (mkF m 48 #[rv a, rv ca, iv 0, iv 1, .val .null, rv b3] [(.int 0), (.ref a)])) rfl rfl (hb hby d_jdk_42_149_48)
    have F5 := ff6.same W5
    have z5 := W5.size
    have N5 := Fr.snoc X5 N4 (show n0 ≤ a by omega)
    have O5 := O3.wr W5 (show n0 ≤ a by omega)
    have K5 := K3.wr W5 (Or.inl (List.mem_of_getElem? (i := 0) rfl))
    refine og T5 (mkF m 51 #[rv a, rv ca, iv 0, iv 1, .val .null, rv b3] []) (fun t_ k_ => st5 _ k_) ?_
    refine og T5 (mkF m 52 #[rv a, rv ca, iv 0, iv 1, .val .null, rv b3] [(.ref a)]) (fun t_ k_ => XS.aloadN X5.here hx rfl (hb hby d_jdk_42_149_51) rfl rfl k_) ?_
    refine og T5 (mkF m 54 #[rv a, rv ca, iv 0, iv 1, .val .null, rv b3] [(.ref b3), (.ref a)]) (fun t_ k_ => XS.aload X5.here hx rfl (hb hby d_jdk_42_149_52) rfl rfl k_) ?_
    have ff9 := ((F_value_a.keep K3_ nin0).other W5 (Or.inr (slot_ne (Or.inr (own_w hw 8 rfl)) (Or.inr (own_w hw 9 rfl)) (by decide) (t := (.array .byte)) (t' := .byte) (by decide) (by decide))))
    have ff10 := (ff7.wr W5)
    obtain ⟨T8, h8, X8, e8, W8, st8⟩ := putF X5 hx hZ hown (host := "") (Or.inl (own_w hw 24 rfl)) Via.refl e5 ff9 ff10 (Or.inr ⟨(own_w hw 8 rfl), rfl, hnm⟩) (own_w hw 6 rfl) (ty := (.array .byte)) (by decide) rfl rfl (g := (mkF m 54 #[rv a, rv ca, iv 0, iv 1, .val .null, rv b3] [(.ref b3), (.ref a)])) rfl rfl (hb hby d_jdk_42_149_54)
    have F8 := ff9.same W8
    have z8 := W8.size
    have N8 := Fr.snoc X8 N5 (show n0 ≤ a by omega)
    have O8 := O5.wr W8 (show n0 ≤ a by omega)
    have K8 := K5.wr W8 (Or.inl (List.mem_of_getElem? (i := 0) rfl))
    refine og T8 (mkF m 57 #[rv a, rv ca, iv 0, iv 1, .val .null, rv b3] []) (fun t_ k_ => st8 _ k_) ?_
    have ff11 := (ff10.wr W8)
    have ff12 := (F5.other W8 (Or.inr (slot_ne (Or.inr (own_w hw 9 rfl)) (Or.inr (own_w hw 8 rfl)) (by decide) (t := .byte) (t' := (.array .byte)) (by decide) (by decide))))
    have ff13 := ((hV.other W5 (own_ne (by omega))).other W8 (own_ne (by omega)))
    have hall : ∀ c ∈ [c0], ¬ c < (0 : Int32) ∧ ¬ (255 : Int32) < c := by
      intro c hc
      simp only [List.mem_cons, List.not_mem_nil, or_false] at hc
      rcases hc with rfl
      · exact ⟨hrc0.1, hle⟩
    exact own_out X8 (v := none) (fun _ => rfl) hlk (fun fs hr => X8.returnOut hx hret (hb hby d_jdk_42_149_57) hr) (Q := Q_rm_inb1 Z a ca c0 k_ca cz h0 n0) (by rw [e8]; exact ⟨rfl, N8, K8, ⟨ff11, by omega, b3, kb3, by omega, F8, Or.inl ⟨ff12, hall, ff13⟩⟩⟩) (by decide) (by decide)
  · skip
    refine og T3 (mkF m 41 #[rv a, rv ca, iv 0, iv 1, .val .null, rv b3] []) (fun t_ k_ => XS.astore X3.here hx rfl (hb hby d_jdk_42_149_39) rfl rfl (l' := #[rv a, rv ca, iv 0, iv 1, .val .null, rv b3]) rfl k_) ?_
    refine og T3 (mkF m 42 #[rv a, rv ca, iv 0, iv 1, .val .null, rv b3] [(.ref a)]) (fun t_ k_ => XS.aloadN X3.here hx rfl (hb hby d_jdk_42_149_41) rfl rfl k_) ?_
    refine og T3 (mkF m 44 #[rv a, rv ca, iv 0, iv 1, .val .null, rv b3] [(.ref b3), (.ref a)]) (fun t_ k_ => XS.aload X3.here hx rfl (hb hby d_jdk_42_149_42) rfl rfl k_) ?_
    refine og T3 (mkF m 45 #[rv a, rv ca, iv 0, iv 1, .val .null, rv b3] [(.int 1), (.ref b3), (.ref a)]) (fun t_ k_ => XS.iloadN X3.here hx rfl (hb hby d_jdk_42_149_44) rfl k_) ?_
    obtain ⟨_, _, ⟨T14, L14, k14, n14⟩, -, X14, ⟨Lc14, hQ14, l14, y14, z14⟩, st14⟩ := Jvm.LawKit.callS X3 hx (y := ym_11) hown (mvT hZ (own_w hw 71 rfl)) (mvT hZ (own_w hw 72 rfl)) (mvT hZ (own_w hw 66 rfl)) (mvT hZ (own_w hw 73 rfl)) (by decide) (backOf (W := 1) (rm_cfa1_2 l Z a0 hw [] b3 ((c0 >>> ((0 : Int32) &&& 31)).toInt8.toInt32) ((c0 >>> ((8 : Int32) &&& 31)).toInt8.toInt32) kb3 T3.heap n0 (show n0 ≤ T3.heap.size by omega) hV) hZ (own_w hw 73 rfl) (own_w hw 66 rfl) (by decide) (by decide)) (g := (mkF m 45 #[rv a, rv ca, iv 0, iv 1, .val .null, rv b3] [(.int 1), (.ref b3), (.ref a)])) rfl (by rw [hml]; rfl) (argsL := [(.ref b3), (.int 1)]) (rest := [(.ref a)]) (lenOf pd_7 rfl) rfl (by show 2 * 0 + _ ≤ _; exact Nat.le_of_eq rfl) (hb hby d_jdk_42_149_45) (fun _ _ => ⟨rfl, rfl, (by decide : 2 + 0 ≤ _), (by decide : 3 + 0 ≤ _)⟩)
    dsimp only [Pt.U, Pt.locs, Pt.cells, Pt.slots] at X14 l14 y14 z14 st14 hQ14
    subst l14 y14 z14
    obtain ⟨rfl, M14, e14⟩ := hQ14
    have N14 := Fr.app N3 M14
    refine og T14 (mkF m 48 #[rv a, rv ca, iv 0, iv 1, .val .null, rv b3] [(.int 1), (.ref a)]) (fun t_ k_ => st14 _ k_) ?_
    have ff16 := (F_coder_a.keep K3_ nin0)
    have ff17 := (E_a.keep K3_)
    obtain ⟨T15, h15, X15, e15, W15, st15⟩ := putFN X14 hx hZ hown (own_w hw 23 rfl) Via.refl e14 ff16 ff17 (Or.inr ⟨(own_w hw 9 rfl), rfl, hnm⟩) (own_w hw 6 rfl) (ty := .byte) (v' := .int (nar .byte (1 : Int32))) (by decide) rfl (fits_nar_byte _) (g := (mkF m 48 #[rv a, rv ca, iv 0, iv 1, .val .null, rv b3] [(.int 1), (.ref a)])) rfl rfl (hb hby d_jdk_42_149_48)
    have F15 := ff16.same W15
    have z15 := W15.size
    have N15 := Fr.snoc X15 N14 (show n0 ≤ a by omega)
    have O15 := O3.wr W15 (show n0 ≤ a by omega)
    have K15 := K3.wr W15 (Or.inl (List.mem_of_getElem? (i := 0) rfl))
    refine og T15 (mkF m 51 #[rv a, rv ca, iv 0, iv 1, .val .null, rv b3] []) (fun t_ k_ => st15 _ k_) ?_
    refine og T15 (mkF m 52 #[rv a, rv ca, iv 0, iv 1, .val .null, rv b3] [(.ref a)]) (fun t_ k_ => XS.aloadN X15.here hx rfl (hb hby d_jdk_42_149_51) rfl rfl k_) ?_
    refine og T15 (mkF m 54 #[rv a, rv ca, iv 0, iv 1, .val .null, rv b3] [(.ref b3), (.ref a)]) (fun t_ k_ => XS.aload X15.here hx rfl (hb hby d_jdk_42_149_52) rfl rfl k_) ?_
    have ff19 := ((F_value_a.keep K3_ nin0).other W15 (Or.inr (slot_ne (Or.inr (own_w hw 8 rfl)) (Or.inr (own_w hw 9 rfl)) (by decide) (t := (.array .byte)) (t' := .byte) (by decide) (by decide))))
    have ff20 := (ff17.wr W15)
    obtain ⟨T18, h18, X18, e18, W18, st18⟩ := putF X15 hx hZ hown (host := "") (Or.inl (own_w hw 24 rfl)) Via.refl e15 ff19 ff20 (Or.inr ⟨(own_w hw 8 rfl), rfl, hnm⟩) (own_w hw 6 rfl) (ty := (.array .byte)) (by decide) rfl rfl (g := (mkF m 54 #[rv a, rv ca, iv 0, iv 1, .val .null, rv b3] [(.ref b3), (.ref a)])) rfl rfl (hb hby d_jdk_42_149_54)
    have F18 := ff19.same W18
    have z18 := W18.size
    have N18 := Fr.snoc X18 N15 (show n0 ≤ a by omega)
    have O18 := O15.wr W18 (show n0 ≤ a by omega)
    have K18 := K15.wr W18 (Or.inl (List.mem_of_getElem? (i := 0) rfl))
    refine og T18 (mkF m 57 #[rv a, rv ca, iv 0, iv 1, .val .null, rv b3] []) (fun t_ k_ => st18 _ k_) ?_
    have ff21 := (ff20.wr W18)
    have ff22 := (F15.other W18 (Or.inr (slot_ne (Or.inr (own_w hw 9 rfl)) (Or.inr (own_w hw 8 rfl)) (by decide) (t := .byte) (t' := (.array .byte)) (by decide) (by decide))))
    have ff23 := ((hV.other W15 (own_ne (by omega))).other W18 (own_ne (by omega)))
    exact own_out X18 (v := none) (fun _ => rfl) hlk (fun fs hr => X18.returnOut hx hret (hb hby d_jdk_42_149_57) hr) (Q := Q_rm_inb1 Z a ca c0 k_ca cz h0 n0) (by rw [e18]; exact ⟨rfl, N18, K18, ⟨ff21, by omega, b3, kb3, by omega, F18, Or.inr ⟨ff22, ff23⟩⟩⟩) (by decide) (by decide)
theorem d_jdk_42_3_0 : decode jdk_42_method_3_code 0 = .ok (.aload_n 0, 1) := by decide +kernel
theorem d_jdk_42_3_1 : decode jdk_42_method_3_code 1 = .ok (.aload_n 1, 1) := by decide +kernel
theorem d_jdk_42_3_2 : decode jdk_42_method_3_code 2 = .ok (.iconst 0, 1) := by decide +kernel
theorem d_jdk_42_3_3 : decode jdk_42_method_3_code 3 = .ok (.aload_n 1, 1) := by decide +kernel
theorem d_jdk_42_3_4 : decode jdk_42_method_3_code 4 = .ok (.arraylength, 1) := by decide +kernel
theorem d_jdk_42_3_5 : decode jdk_42_method_3_code 5 = .ok (.aconst_null, 1) := by decide +kernel
theorem d_jdk_42_3_6 : decode jdk_42_method_3_code 6 = .ok (.invokespecial 27, 3) := by decide +kernel
theorem pd_8 : parseMethodDescriptor "([CIILjava/lang/Void;)V" = some ⟨[(.array .char), .int, .int, (.object "java/lang/Void")], none⟩ := by decide +kernel
theorem d_jdk_42_3_9 : decode jdk_42_method_3_code 9 = .ok (.return_, 1) := by decide +kernel
theorem ef_14 (m : MethodId) (a : Nat) (ca : Nat) : entryFrame m #[(.ref a), (.ref ca)] 2 = mkF m 0 #[rv a, rv ca] [] := by first | (simp [entryFrame, mkF, argsToLocals, Value.category]; done) | rfl
def Q_rm_ina1 (Z : State) (a : Nat) (ca : Nat) (c0 : Int32) (k_ca : ClassId) (cz : Int32) (h0 : Heap) (n0 : Nat) (vv : Option Value) (h : Heap) (LL : List Loc) : Prop := vv = none ∧ Fr n0 LL ∧ Keep h0 h [a] ∧ own_Sw Z h h.size a [c0]
set_option maxRecDepth 65536 in
set_option maxHeartbeats 40000000 in
abbrev ym_13 : MethodName := ⟨"java/lang/String", "<init>", "([C)V"⟩
theorem rm_ina1 (l : Launch) (Z : State) (a0 : Array Value) (hw : ∀ d ∈ tables_1, d.before a0 Z = true) (ws : List Jvm.Cond) (a : Nat) (ca : Nat) (c0 : Int32) (k_ca : ClassId) (cz : Int32) (h0 : Heap) (n0 : Nat) (Z0 : n0 ≤ h0.size) (hrc0 : ¬ (c0 < (0 : Int32)) ∧ ¬ ((65535 : Int32) < c0)) (V_ca : Arv Z h0 ca k_ca .char (1 : Int32) [(.int c0)] (.int (0 : Int32))) (O0 : Old Z n0 h0) (S__assertionsDisabled : Sta Z Z.heap "java/lang/StringUTF16" "$assertionsDisabled" "Z" (.int 1)) (S_HI_BYTE_SHIFT : Sta Z Z.heap "java/lang/StringUTF16" "HI_BYTE_SHIFT" "I" (.int 0)) (S_LO_BYTE_SHIFT : Sta Z Z.heap "java/lang/StringUTF16" "LO_BYTE_SHIFT" "I" (.int 8)) (S_COMPACT_STRINGS : Sta Z Z.heap "java/lang/String" "COMPACT_STRINGS" "Z" (.int cz)) (hcz : ¬ cz = (0 : Int32)) (E_a : Exa Z h0 a "java/lang/String") (F_value_a : Fld Z h0 a "java/lang/String" "value" "[B" .null) (F_coder_a : Fld Z h0 a "java/lang/String" "coder" "B" (.int 0)) (g_a : n0 ≤ a) (hne : ca ≠ a) :
    own_MF l ym_13 jdk_42_method_3_code 2 none ⟨5, 2, 3, 74⟩ ws Z #[(.ref a), (.ref ca)] h0 (Q_rm_ina1 Z a ca c0 k_ca cz h0 n0) := by
  refine own_begin (plainFor_of_name pn_1) (fun m => ef_14 m a ca) ?_
  intro p e s m below meth c s₁ hret hx hby hml hown hnm hlk X0 e0 hh hZ
  have N0 := Fr.nil n0
  have lt_V_ca := own_ltN V_ca.lt
  have lt_E_a := own_ltN E_a.lt
  have lt_F_value_a := own_ltN F_value_a.lt
  have lt_F_coder_a := own_ltN F_coder_a.lt
  refine og s₁ (mkF m 1 #[rv a, rv ca] [(.ref a)]) (fun t_ k_ => XS.aloadN X0.here hx rfl (hb hby d_jdk_42_3_0) rfl rfl k_) ?_
  refine og s₁ (mkF m 2 #[rv a, rv ca] [(.ref ca), (.ref a)]) (fun t_ k_ => XS.aloadN X0.here hx rfl (hb hby d_jdk_42_3_1) rfl rfl k_) ?_
  refine og s₁ (mkF m 3 #[rv a, rv ca] [(.int 0), (.ref ca), (.ref a)]) (fun t_ k_ => XS.iconst X0.here hx rfl (hb hby d_jdk_42_3_2) k_) ?_
  refine og s₁ (mkF m 4 #[rv a, rv ca] [(.ref ca), (.int 0), (.ref ca), (.ref a)]) (fun t_ k_ => XS.aloadN X0.here hx rfl (hb hby d_jdk_42_3_3) rfl rfl k_) ?_
  obtain ⟨cl1, Ar1, -, S1, Nn1, -, -⟩ := id V_ca
  refine og s₁ (mkF m 5 #[rv a, rv ca] [(.int 1), (.int 0), (.ref ca), (.ref a)]) (fun t_ k_ => X0.arraylength hx (by rw [e0]; exact Ar1.1) (State.isArrayOf_alike hZ.alike Ar1.2.1) (g := (mkF m 4 #[rv a, rv ca] [(.ref ca), (.int 0), (.ref ca), (.ref a)])) rfl rfl (hb hby d_jdk_42_3_4) _ (by rw [len_of S1 Nn1]; exact k_)) ?_
  refine og s₁ (mkF m 6 #[rv a, rv ca] [.null, (.int 1), (.int 0), (.ref ca), (.ref a)]) (fun t_ k_ => XS.aconstNull X0.here hx rfl (hb hby d_jdk_42_3_5) k_) ?_
  obtain ⟨_, _, ⟨T2, L2, k2, n2⟩, -, X2, ⟨Lc2, hQ2, l2, y2, z2⟩, st2⟩ := X0.specialBack hx (y := ym_12) rfl hown (mvT hZ (own_w hw 42 rfl)) (mvT hZ (own_w hw 43 rfl)) (mvT hZ (own_w hw 45 rfl)) (by decide) (backOf (W := 0) (rm_inb1 l Z a0 hw [] a ca c0 k_ca cz h0 n0 (show n0 ≤ h0.size by omega) hrc0 V_ca O0 S__assertionsDisabled S_HI_BYTE_SHIFT S_LO_BYTE_SHIFT S_COMPACT_STRINGS hcz E_a F_value_a F_coder_a (show n0 ≤ a by omega) hne) hZ (own_w hw 45 rfl) (own_w hw 5 rfl) (by decide) (by decide)) (g := (mkF m 6 #[rv a, rv ca] [.null, (.int 1), (.int 0), (.ref ca), (.ref a)])) rfl (by rw [hml]; rfl) (Steps.refl _) (a := a) (argsL := [(.ref ca), (.int 0), (.int 1), .null]) (rest := []) (lenOf pd_8 rfl) rfl (by show 2 * 0 + _ ≤ _; exact Nat.le_of_eq rfl) (hb hby d_jdk_42_3_6) (fun _ _ => ⟨rfl, e0, (by decide : 0 + 2 ≤ _), (by decide : 0 + 3 ≤ _)⟩)
  dsimp only [Pt.U, Pt.locs, Pt.cells, Pt.slots] at X2 l2 y2 z2 st2 hQ2
  subst l2 y2 z2
  obtain ⟨rfl, M2, K2_, f2_0⟩ := hQ2
  have zz2 := K2_.1
  have O2 := O0.keep K2_ (allS (show n0 ≤ a by omega) all0)
  have K2 := (Keep.refl h0 [a]).trans K2_ (allS (Or.inl (List.mem_of_getElem? (i := 0) rfl)) all0)
  have N2 := Fr.app N0 M2
  have ltsf2_0 := own_ltN f2_0.lt
  refine og T2 (mkF m 9 #[rv a, rv ca] []) (fun t_ k_ => st2.trans k_) ?_
  exact own_out X2 (v := none) (fun _ => rfl) hlk (fun fs hr => X2.returnOut hx hret (hb hby d_jdk_42_3_9) hr) (Q := Q_rm_ina1 Z a ca c0 k_ca cz h0 n0) (by exact ⟨rfl, N2, K2, (f2_0.mono (by omega))⟩) (by decide) (by decide)
theorem ef_15 (m : MethodId)  : entryFrame m #[(.int 2)] 1 = mkF m 0 #[iv 2] [] := by first | (simp [entryFrame, mkF, argsToLocals, Value.category]; done) | rfl
def Q_rm_nbl2 (Z : State)  (h0 : Heap) (n0 : Nat) (vv : Option Value) (h : Heap) (LL : List Loc) : Prop := vv = some (.int 4) ∧ Fr n0 LL ∧ h = h0
set_option maxRecDepth 65536 in
set_option maxHeartbeats 40000000 in
theorem rm_nbl2 (l : Launch) (Z : State) (a0 : Array Value) (hw : ∀ d ∈ tables_1, d.before a0 Z = true) (ws : List Jvm.Cond)  (h0 : Heap) (n0 : Nat) (Z0 : n0 ≤ h0.size) :
    own_MF l ym_4 jdk_52_method_3_code 1 (some .int) ⟨0, 0, 0, 0⟩ ws Z #[(.int 2)] h0 (Q_rm_nbl2 Z  h0 n0) := by
  refine own_begin (plainFor_of_name pn_2) (fun m => ef_15 m) ?_
  intro p e s m below meth c s₁ hret hx hby hml hown hnm hlk X0 e0 hh hZ
  have N0 := Fr.nil n0
  refine og s₁ (mkF m 1 #[iv 2] [(.int 2)]) (fun t_ k_ => XS.iloadN X0.here hx rfl (hb hby d_jdk_52_3_0) rfl k_) ?_
  refine og s₁ (mkF m 12 #[iv 2] []) (fun t_ k_ => XS.ifYes X0.here hx rfl (pc0 := 1) (pc' := 12) rfl (hb hby d_jdk_52_3_1) rfl ((if0 _ _).trans (flt (by decide)).2.1) (by decide) (by decide) k_) ?_
  refine og s₁ (mkF m 13 #[iv 2] [(.int 2)]) (fun t_ k_ => XS.iloadN X0.here hx rfl (hb hby d_jdk_52_3_12) rfl k_) ?_
  refine og s₁ (mkF m 15 #[iv 2] [(.int 1073741823), (.int 2)]) (fun t_ k_ => X0.ldcInt hx hown (mvT hZ (own_w hw 88 rfl)) (g := (mkF m 13 #[iv 2] [(.int 2)])) rfl (hb hby d_jdk_52_3_13) _ k_) ?_
  refine og s₁ (mkF m 55 #[iv 2] []) (fun t_ k_ => XS.icmpYes X0.here hx rfl (pc0 := 15) (pc' := 55) rfl (hb hby d_jdk_52_3_15) rfl (tlt (by decide)).1 (by decide) (by decide) k_) ?_
  refine og s₁ (mkF m 56 #[iv 2] [(.int 2)]) (fun t_ k_ => XS.iloadN X0.here hx rfl (hb hby d_jdk_52_3_55) rfl k_) ?_
  refine og s₁ (mkF m 57 #[iv 2] [(.int 1), (.int 2)]) (fun t_ k_ => XS.iconst X0.here hx rfl (hb hby d_jdk_52_3_56) k_) ?_
  refine og s₁ (mkF m 58 #[iv 2] [(.int 4)]) (fun t_ k_ => XS.ishl X0.here hx rfl (hb hby d_jdk_52_3_57) rfl k_) ?_
  exact own_out X0 (v := some (.int 4)) (fun h => by rw [hret] at h; cases h) hlk (fun fs hr => retI X0 hx hret (hb hby d_jdk_52_3_58) hr) (Q := Q_rm_nbl2 Z  h0 n0) (by rw [e0]; exact ⟨rfl, N0, rfl⟩) (by decide) (by decide)
theorem ef_16 (m : MethodId)  : entryFrame m #[(.int 2)] 1 = mkF m 0 #[iv 2] [] := by first | (simp [entryFrame, mkF, argsToLocals, Value.category]; done) | rfl
def Q_rm_nbf2 (Z : State)  (h0 : Heap) (n0 : Nat) (vv : Option Value) (h : Heap) (LL : List Loc) : Prop := ∃ b : Nat, ∃ kb : ClassId, vv = some (.ref b) ∧ Fr n0 LL ∧ Keep h0 h [] ∧ (h0.size ≤ b ∧ b < h.size) ∧ Arv Z h b kb .byte (4 : Int32) [(.int (0 : Int32)), (.int (0 : Int32)), (.int (0 : Int32)), (.int (0 : Int32))] (.int (0 : Int32))
set_option maxRecDepth 65536 in
set_option maxHeartbeats 40000000 in
theorem rm_nbf2 (l : Launch) (Z : State) (a0 : Array Value) (hw : ∀ d ∈ tables_1, d.before a0 Z = true) (ws : List Jvm.Cond)  (h0 : Heap) (n0 : Nat) (Z0 : n0 ≤ h0.size) :
    own_MF l ym_5 jdk_52_method_2_code 1 (some (.array .byte)) ⟨1, 1, 4, 12⟩ ws Z #[(.int 2)] h0 (Q_rm_nbf2 Z  h0 n0) := by
  refine own_begin (plainFor_of_name pn_2) (fun m => ef_16 m) ?_
  intro p e s m below meth c s₁ hret hx hby hml hown hnm hlk X0 e0 hh hZ
  have N0 := Fr.nil n0
  refine og s₁ (mkF m 1 #[iv 2] [(.int 2)]) (fun t_ k_ => XS.iloadN X0.here hx rfl (hb hby d_jdk_52_2_0) rfl k_) ?_
  obtain ⟨_, _, ⟨T1, L1, k1, n1⟩, -, X1, ⟨Lc1, hQ1, l1, y1, z1⟩, st1⟩ := Jvm.LawKit.callS X0 hx (y := ym_4) hown (mvT hZ (own_w hw 85 rfl)) (mvT hZ (own_w hw 86 rfl)) (mvT hZ (own_w hw 66 rfl)) (mvT hZ (own_w hw 87 rfl)) (by decide) (backOf (W := 0) (rm_nbl2 l Z a0 hw []  h0 n0 (show n0 ≤ h0.size by omega)) hZ (own_w hw 87 rfl) (own_w hw 66 rfl) (by decide) (by decide)) (g := (mkF m 1 #[iv 2] [(.int 2)])) rfl (by rw [hml]; rfl) (argsL := [(.int 2)]) (rest := []) (lenOf pd_1 rfl) rfl (by show 2 * 0 + _ ≤ _; exact Nat.le_of_eq rfl) (hb hby d_jdk_52_2_1) (fun _ _ => ⟨rfl, e0, (by decide : 0 + 0 ≤ _), (by decide : 0 + 0 ≤ _)⟩)
  dsimp only [Pt.U, Pt.locs, Pt.cells, Pt.slots] at X1 l1 y1 z1 st1 hQ1
  subst l1 y1 z1
  obtain ⟨rfl, M1, e1⟩ := hQ1
  have N1 := Fr.app N0 M1
  refine og T1 (mkF m 4 #[iv 2] [(.int 4)]) (fun t_ k_ => st1 _ k_) ?_
  obtain ⟨T2, h2, k2, X2, e2, E2, A2, st2⟩ := newP X1 hx hZ (own_w hw 7 rfl) e1 (g := (mkF m 4 #[iv 2] [(.int 4)])) rfl (hb hby d_jdk_52_2_4) rfl (by decide) (cap := 4) (by decide) (by decide) (by decide) (by decide)
  obtain ⟨b2, g2⟩ : ∃ z, z = h0.size := ⟨_, rfl⟩
  rw [← g2] at A2 st2
  have V2 : Arv Z h2 b2 k2 .byte (4 : Int32) [(.int (0 : Int32)), (.int (0 : Int32)), (.int (0 : Int32)), (.int (0 : Int32))] (.int (0 : Int32)) := (Arv.new A2 (by decide)).pad (pad_rep [] (.int (0 : Int32)) 4)
  have l2 := own_ltN V2.lt
  have z2 := E2.1
  have K2 := (Keep.refl h0 []).ext E2
  refine og T2 (mkF m 6 #[iv 2] [(.ref b2)]) (fun t_ k_ => st2 _ k_) ?_
  exact own_out X2 (v := some (.ref b2)) (fun h => by rw [hret] at h; cases h) hlk (fun fs hr => own_retA X2 hx hret rfl rfl (hb hby d_jdk_52_2_6) hr) (Q := Q_rm_nbf2 Z  h0 n0) (by rw [e2]; exact ⟨b2, k2, rfl, N1, K2, ⟨by omega, by omega⟩, V2⟩) (by decide) (by decide)
def Q_rm_put2_0 (Z : State) (a : Nat) (ch : Int32) (y0 : Int32) (y1 : Int32) (y2 : Int32) (y3 : Int32) (k_a : ClassId) (h0 : Heap) (n0 : Nat) (vv : Option Value) (h : Heap) (LL : List Loc) : Prop := vv = none ∧ Fr n0 LL ∧ Keep h0 h [a] ∧ Arv Z h a k_a .byte (4 : Int32) [(.int ((ch >>> ((0 : Int32) &&& 31)).toInt8.toInt32)), (.int ((ch >>> ((8 : Int32) &&& 31)).toInt8.toInt32)), (.int y2), (.int y3)] (.int (0 : Int32))
set_option maxRecDepth 65536 in
set_option maxHeartbeats 40000000 in
theorem rm_put2_0 (l : Launch) (Z : State) (a0 : Array Value) (hw : ∀ d ∈ tables_1, d.before a0 Z = true) (ws : List Jvm.Cond) (a : Nat) (ch : Int32) (y0 : Int32) (y1 : Int32) (y2 : Int32) (y3 : Int32) (k_a : ClassId) (h0 : Heap) (n0 : Nat) (Z0 : n0 ≤ h0.size) (O0 : Old Z n0 h0) (S__assertionsDisabled : Sta Z Z.heap "java/lang/StringUTF16" "$assertionsDisabled" "Z" (.int 1)) (S_HI_BYTE_SHIFT : Sta Z Z.heap "java/lang/StringUTF16" "HI_BYTE_SHIFT" "I" (.int 0)) (S_LO_BYTE_SHIFT : Sta Z Z.heap "java/lang/StringUTF16" "LO_BYTE_SHIFT" "I" (.int 8)) (V_a : Arv Z h0 a k_a .byte (4 : Int32) [(.int y0), (.int y1), (.int y2), (.int y3)] (.int (0 : Int32))) (g_a : n0 ≤ a) :
    own_MF l ym_6 jdk_52_method_4_code 3 none ⟨0, 0, 0, 0⟩ ws Z #[(.ref a), (.int 0), (.int ch)] h0 (Q_rm_put2_0 Z a ch y0 y1 y2 y3 k_a h0 n0) := by
  refine own_begin (plainFor_of_name pn_2) (fun m => ef_7 m a ch) ?_
  intro p e s m below meth c s₁ hret hx hby hml hown hnm hlk X0 e0 hh hZ
  have N0 := Fr.nil n0
  have lt_V_a := own_ltN V_a.lt
  obtain ⟨T1, X1, e1, st1⟩ := getS2 X0 hx hZ hown (host := "") (Or.inl (own_w hw 92 rfl)) Via.refl e0 (S__assertionsDisabled.ext O0.2) (g := (mkF m 0 #[rv a, iv 0, iv ch] [])) rfl (hb hby d_jdk_52_4_0)
  refine og T1 (mkF m 3 #[rv a, iv 0, iv ch] [(.int 1)]) (fun t_ k_ => st1 _ k_) ?_
  refine og T1 (mkF m 28 #[rv a, iv 0, iv ch] []) (fun t_ k_ => XS.ifYes X1.here hx rfl (pc0 := 3) (pc' := 28) rfl (hb hby d_jdk_52_4_3) rfl ((if0 _ _).trans (feq (by decide)).2) (by decide) (by decide) k_) ?_
  refine og T1 (mkF m 29 #[rv a, iv 0, iv ch] [(.int 0)]) (fun t_ k_ => XS.iloadN X1.here hx rfl (hb hby d_jdk_52_4_28) rfl k_) ?_
  refine og T1 (mkF m 30 #[rv a, iv 0, iv ch] [(.int 1), (.int 0)]) (fun t_ k_ => XS.iconst X1.here hx rfl (hb hby d_jdk_52_4_29) k_) ?_
  refine og T1 (mkF m 31 #[rv a, iv 0, iv ch] [(.int 0)]) (fun t_ k_ => XS.ishl X1.here hx rfl (hb hby d_jdk_52_4_30) rfl k_) ?_
  refine og T1 (mkF m 32 #[rv a, iv 0, iv ch] []) (fun t_ k_ => XS.istoreN X1.here hx rfl (hb hby d_jdk_52_4_31) rfl (l' := #[rv a, iv 0, iv ch]) rfl k_) ?_
  refine og T1 (mkF m 33 #[rv a, iv 0, iv ch] [(.ref a)]) (fun t_ k_ => XS.aloadN X1.here hx rfl (hb hby d_jdk_52_4_32) rfl rfl k_) ?_
  refine og T1 (mkF m 34 #[rv a, iv 0, iv ch] [(.int 0), (.ref a)]) (fun t_ k_ => XS.iloadN X1.here hx rfl (hb hby d_jdk_52_4_33) rfl k_) ?_
  refine og T1 (mkF m 37 #[rv a, iv 1, iv ch] [(.int 0), (.ref a)]) (fun t_ k_ => XS.iinc X1.here hx rfl (hb hby d_jdk_52_4_34) rfl (l' := #[rv a, iv 1, iv ch]) rfl k_) ?_
  refine og T1 (mkF m 38 #[rv a, iv 1, iv ch] [(.int ch), (.int 0), (.ref a)]) (fun t_ k_ => XS.iloadN X1.here hx rfl (hb hby d_jdk_52_4_37) rfl k_) ?_
  obtain ⟨T2, X2, e2, st2⟩ := getS2 X1 hx hZ hown (host := "") (Or.inl (own_w hw 93 rfl)) Via.refl e1 (S_HI_BYTE_SHIFT.ext O0.2) (g := (mkF m 38 #[rv a, iv 1, iv ch] [(.int ch), (.int 0), (.ref a)])) rfl (hb hby d_jdk_52_4_38)
  refine og T2 (mkF m 41 #[rv a, iv 1, iv ch] [(.int 0), (.int ch), (.int 0), (.ref a)]) (fun t_ k_ => st2 _ k_) ?_
  refine og T2 (mkF m 42 #[rv a, iv 1, iv ch] [(.int (ch >>> ((0 : Int32) &&& 31))), (.int 0), (.ref a)]) (fun t_ k_ => XS.ishr X2.here hx rfl (hb hby d_jdk_52_4_41) rfl k_) ?_
  refine og T2 (mkF m 43 #[rv a, iv 1, iv ch] [(.int ((ch >>> ((0 : Int32) &&& 31)).toInt8.toInt32)), (.int 0), (.ref a)]) (fun t_ k_ => XS.i2b X2.here hx rfl (hb hby d_jdk_52_4_42) rfl k_) ?_
  obtain ⟨cl3, Ar3, q3, S3, Nn3, H3, G3⟩ := id V_a
  have hin3 : ¬ ((0 : Int32) < 0 ∨ cl3.slots.size ≤ ((0 : Int32)).toNatClampNeg) := inb_of S3 ⟨by decide, by decide⟩
  obtain ⟨T3, h3, X3, e3, W3, st3⟩ := stB X2 hx hZ e2 Ar3 (j := (0 : Int32)) hin3 (g := (mkF m 43 #[rv a, iv 1, iv ch] [(.int ((ch >>> ((0 : Int32) &&& 31)).toInt8.toInt32)), (.int 0), (.ref a)])) rfl rfl (hb hby d_jdk_52_4_43)
  have V3 : Arv Z h3 a k_a .byte (4 : Int32) [(.int ((ch >>> ((0 : Int32) &&& 31)).toInt8.toInt32)), (.int y1), (.int y2), (.int y3)] (.int (0 : Int32)) := by
    have q0 := Arv.set Ar3 q3 S3 Nn3 H3 G3 (fits_nar_byte _) W3 0 rfl (Nat.le_of_ble_eq_true rfl)
    first | rw [own_i8] at q0 | skip
    exact q0
  have z3 := W3.size
  have N3 := Fr.snoc X3 N0 (show n0 ≤ a by omega)
  have O3 := O0.wr W3 (show n0 ≤ a by omega)
  have K3 := (Keep.refl h0 [a]).wr W3 (Or.inl (List.mem_of_getElem? (i := 0) rfl))
  refine og T3 (mkF m 44 #[rv a, iv 1, iv ch] []) (fun t_ k_ => st3 _ k_) ?_
  refine og T3 (mkF m 45 #[rv a, iv 1, iv ch] [(.ref a)]) (fun t_ k_ => XS.aloadN X3.here hx rfl (hb hby d_jdk_52_4_44) rfl rfl k_) ?_
  refine og T3 (mkF m 46 #[rv a, iv 1, iv ch] [(.int 1), (.ref a)]) (fun t_ k_ => XS.iloadN X3.here hx rfl (hb hby d_jdk_52_4_45) rfl k_) ?_
  refine og T3 (mkF m 47 #[rv a, iv 1, iv ch] [(.int ch), (.int 1), (.ref a)]) (fun t_ k_ => XS.iloadN X3.here hx rfl (hb hby d_jdk_52_4_46) rfl k_) ?_
  obtain ⟨T4, X4, e4, st4⟩ := getS2 X3 hx hZ hown (host := "") (Or.inl (own_w hw 94 rfl)) Via.refl e3 (S_LO_BYTE_SHIFT.ext O3.2) (g := (mkF m 47 #[rv a, iv 1, iv ch] [(.int ch), (.int 1), (.ref a)])) rfl (hb hby d_jdk_52_4_47)
  refine og T4 (mkF m 50 #[rv a, iv 1, iv ch] [(.int 8), (.int ch), (.int 1), (.ref a)]) (fun t_ k_ => st4 _ k_) ?_
  refine og T4 (mkF m 51 #[rv a, iv 1, iv ch] [(.int (ch >>> ((8 : Int32) &&& 31))), (.int 1), (.ref a)]) (fun t_ k_ => XS.ishr X4.here hx rfl (hb hby d_jdk_52_4_50) rfl k_) ?_
  refine og T4 (mkF m 52 #[rv a, iv 1, iv ch] [(.int ((ch >>> ((8 : Int32) &&& 31)).toInt8.toInt32)), (.int 1), (.ref a)]) (fun t_ k_ => XS.i2b X4.here hx rfl (hb hby d_jdk_52_4_51) rfl k_) ?_
  obtain ⟨cl5, Ar5, q5, S5, Nn5, H5, G5⟩ := id V3
  have hin5 : ¬ ((1 : Int32) < 0 ∨ cl5.slots.size ≤ ((1 : Int32)).toNatClampNeg) := inb_of S5 ⟨by decide, by decide⟩
  obtain ⟨T5, h5, X5, e5, W5, st5⟩ := stB X4 hx hZ e4 Ar5 (j := (1 : Int32)) hin5 (g := (mkF m 52 #[rv a, iv 1, iv ch] [(.int ((ch >>> ((8 : Int32) &&& 31)).toInt8.toInt32)), (.int 1), (.ref a)])) rfl rfl (hb hby d_jdk_52_4_52)
  have V5 : Arv Z h5 a k_a .byte (4 : Int32) [(.int ((ch >>> ((0 : Int32) &&& 31)).toInt8.toInt32)), (.int ((ch >>> ((8 : Int32) &&& 31)).toInt8.toInt32)), (.int y2), (.int y3)] (.int (0 : Int32)) := by
    have q0 := Arv.set Ar5 q5 S5 Nn5 H5 G5 (fits_nar_byte _) W5 1 rfl (Nat.le_of_ble_eq_true rfl)
    first | rw [own_i8] at q0 | skip
    exact q0
  have z5 := W5.size
  have N5 := Fr.snoc X5 N3 (show n0 ≤ a by omega)
  have O5 := O3.wr W5 (show n0 ≤ a by omega)
  have K5 := K3.wr W5 (Or.inl (List.mem_of_getElem? (i := 0) rfl))
  refine og T5 (mkF m 53 #[rv a, iv 1, iv ch] []) (fun t_ k_ => st5 _ k_) ?_
  exact own_out X5 (v := none) (fun _ => rfl) hlk (fun fs hr => X5.returnOut hx hret (hb hby d_jdk_52_4_53) hr) (Q := Q_rm_put2_0 Z a ch y0 y1 y2 y3 k_a h0 n0) (by rw [e5]; exact ⟨rfl, N5, K5, V5⟩) (by decide) (by decide)
def Q_rm_get2_0 (Z : State) (a : Nat) (c0 : Int32) (c1 : Int32) (k_a : ClassId) (h0 : Heap) (n0 : Nat) (vv : Option Value) (h : Heap) (LL : List Loc) : Prop := vv = some (.int c0) ∧ Fr n0 LL ∧ h = h0
set_option maxRecDepth 65536 in
set_option maxHeartbeats 40000000 in
theorem rm_get2_0 (l : Launch) (Z : State) (a0 : Array Value) (hw : ∀ d ∈ tables_1, d.before a0 Z = true) (ws : List Jvm.Cond) (a : Nat) (c0 : Int32) (c1 : Int32) (k_a : ClassId) (h0 : Heap) (n0 : Nat) (Z0 : n0 ≤ h0.size) (hrc0 : ¬ (c0 < (0 : Int32)) ∧ ¬ ((65535 : Int32) < c0)) (hrc1 : ¬ (c1 < (0 : Int32)) ∧ ¬ ((65535 : Int32) < c1)) (V_a : Arv Z h0 a k_a .byte (4 : Int32) [(.int ((c0 >>> ((0 : Int32) &&& 31)).toInt8.toInt32)), (.int ((c0 >>> ((8 : Int32) &&& 31)).toInt8.toInt32)), (.int ((c1 >>> ((0 : Int32) &&& 31)).toInt8.toInt32)), (.int ((c1 >>> ((8 : Int32) &&& 31)).toInt8.toInt32))] (.int (0 : Int32))) (O0 : Old Z n0 h0) (S__assertionsDisabled : Sta Z Z.heap "java/lang/StringUTF16" "$assertionsDisabled" "Z" (.int 1)) (S_HI_BYTE_SHIFT : Sta Z Z.heap "java/lang/StringUTF16" "HI_BYTE_SHIFT" "I" (.int 0)) (S_LO_BYTE_SHIFT : Sta Z Z.heap "java/lang/StringUTF16" "LO_BYTE_SHIFT" "I" (.int 8)) :
    own_MF l ym_7 jdk_52_method_5_code 2 (some .char) ⟨0, 0, 0, 0⟩ ws Z #[(.ref a), (.int 0)] h0 (Q_rm_get2_0 Z a c0 c1 k_a h0 n0) := by
  refine own_begin (plainFor_of_name pn_2) (fun m => ef_8 m a) ?_
  intro p e s m below meth c s₁ hret hx hby hml hown hnm hlk X0 e0 hh hZ
  have N0 := Fr.nil n0
  have lt_V_a := own_ltN V_a.lt
  obtain ⟨T1, X1, e1, st1⟩ := getS2 X0 hx hZ hown (host := "") (Or.inl (own_w hw 92 rfl)) Via.refl e0 (S__assertionsDisabled.ext O0.2) (g := (mkF m 0 #[rv a, iv 0] [])) rfl (hb hby d_jdk_52_5_0)
  refine og T1 (mkF m 3 #[rv a, iv 0] [(.int 1)]) (fun t_ k_ => st1 _ k_) ?_
  refine og T1 (mkF m 28 #[rv a, iv 0] []) (fun t_ k_ => XS.ifYes X1.here hx rfl (pc0 := 3) (pc' := 28) rfl (hb hby d_jdk_52_5_3) rfl ((if0 _ _).trans (feq (by decide)).2) (by decide) (by decide) k_) ?_
  refine og T1 (mkF m 29 #[rv a, iv 0] [(.int 0)]) (fun t_ k_ => XS.iloadN X1.here hx rfl (hb hby d_jdk_52_5_28) rfl k_) ?_
  refine og T1 (mkF m 30 #[rv a, iv 0] [(.int 1), (.int 0)]) (fun t_ k_ => XS.iconst X1.here hx rfl (hb hby d_jdk_52_5_29) k_) ?_
  refine og T1 (mkF m 31 #[rv a, iv 0] [(.int 0)]) (fun t_ k_ => XS.ishl X1.here hx rfl (hb hby d_jdk_52_5_30) rfl k_) ?_
  refine og T1 (mkF m 32 #[rv a, iv 0] []) (fun t_ k_ => XS.istoreN X1.here hx rfl (hb hby d_jdk_52_5_31) rfl (l' := #[rv a, iv 0]) rfl k_) ?_
  refine og T1 (mkF m 33 #[rv a, iv 0] [(.ref a)]) (fun t_ k_ => XS.aloadN X1.here hx rfl (hb hby d_jdk_52_5_32) rfl rfl k_) ?_
  refine og T1 (mkF m 34 #[rv a, iv 0] [(.int 0), (.ref a)]) (fun t_ k_ => XS.iloadN X1.here hx rfl (hb hby d_jdk_52_5_33) rfl k_) ?_
  refine og T1 (mkF m 37 #[rv a, iv 1] [(.int 0), (.ref a)]) (fun t_ k_ => XS.iinc X1.here hx rfl (hb hby d_jdk_52_5_34) rfl (l' := #[rv a, iv 1]) rfl k_) ?_
  obtain ⟨cl2, Ar2, -, S2, Nn2, H2, -⟩ := id V_a
  have hin2 : ¬ ((0 : Int32) < 0 ∨ cl2.slots.size ≤ ((0 : Int32)).toNatClampNeg) := inb_of S2 ⟨by decide, by decide⟩
  refine og T1 (mkF m 38 #[rv a, iv 1] [(.int ((c0 >>> ((0 : Int32) &&& 31)).toInt8.toInt32))]) (fun t_ k_ => X1.baloadBytes hx (j := (0 : Int32)) (v := (.int ((c0 >>> ((0 : Int32) &&& 31)).toInt8.toInt32))) (by rw [e1]; exact Ar2.1) (State.isArrayOf_alike hZ.alike Ar2.2.1) Ar2.2.2 hin2 (H2.at hin2 rfl) (g := (mkF m 37 #[rv a, iv 1] [(.int 0), (.ref a)])) rfl rfl (hb hby d_jdk_52_5_37) _ k_) ?_
  refine og T1 (mkF m 41 #[rv a, iv 1] [(.int 255), (.int ((c0 >>> ((0 : Int32) &&& 31)).toInt8.toInt32))]) (fun t_ k_ => XS.sipush X1.here hx rfl (hb hby d_jdk_52_5_38) k_) ?_
  refine og T1 (mkF m 42 #[rv a, iv 1] [(.int (((c0 >>> ((0 : Int32) &&& 31)).toInt8.toInt32) &&& (255 : Int32)))]) (fun t_ k_ => XS.iand X1.here hx rfl (hb hby d_jdk_52_5_41) rfl k_) ?_
  obtain ⟨T3, X3, e3, st3⟩ := getS2 X1 hx hZ hown (host := "") (Or.inl (own_w hw 93 rfl)) Via.refl e1 (S_HI_BYTE_SHIFT.ext O0.2) (g := (mkF m 42 #[rv a, iv 1] [(.int (((c0 >>> ((0 : Int32) &&& 31)).toInt8.toInt32) &&& (255 : Int32)))])) rfl (hb hby d_jdk_52_5_42)
  refine og T3 (mkF m 45 #[rv a, iv 1] [(.int 0), (.int (((c0 >>> ((0 : Int32) &&& 31)).toInt8.toInt32) &&& (255 : Int32)))]) (fun t_ k_ => st3 _ k_) ?_
  refine og T3 (mkF m 46 #[rv a, iv 1] [(.int ((((c0 >>> ((0 : Int32) &&& 31)).toInt8.toInt32) &&& (255 : Int32)) <<< ((0 : Int32) &&& 31)))]) (fun t_ k_ => XS.ishl X3.here hx rfl (hb hby d_jdk_52_5_45) rfl k_) ?_
  refine og T3 (mkF m 47 #[rv a, iv 1] [(.ref a), (.int ((((c0 >>> ((0 : Int32) &&& 31)).toInt8.toInt32) &&& (255 : Int32)) <<< ((0 : Int32) &&& 31)))]) (fun t_ k_ => XS.aloadN X3.here hx rfl (hb hby d_jdk_52_5_46) rfl rfl k_) ?_
  refine og T3 (mkF m 48 #[rv a, iv 1] [(.int 1), (.ref a), (.int ((((c0 >>> ((0 : Int32) &&& 31)).toInt8.toInt32) &&& (255 : Int32)) <<< ((0 : Int32) &&& 31)))]) (fun t_ k_ => XS.iloadN X3.here hx rfl (hb hby d_jdk_52_5_47) rfl k_) ?_
  obtain ⟨cl4, Ar4, -, S4, Nn4, H4, -⟩ := id V_a
  have hin4 : ¬ ((1 : Int32) < 0 ∨ cl4.slots.size ≤ ((1 : Int32)).toNatClampNeg) := inb_of S4 ⟨by decide, by decide⟩
  refine og T3 (mkF m 49 #[rv a, iv 1] [(.int ((c0 >>> ((8 : Int32) &&& 31)).toInt8.toInt32)), (.int ((((c0 >>> ((0 : Int32) &&& 31)).toInt8.toInt32) &&& (255 : Int32)) <<< ((0 : Int32) &&& 31)))]) (fun t_ k_ => X3.baloadBytes hx (j := (1 : Int32)) (v := (.int ((c0 >>> ((8 : Int32) &&& 31)).toInt8.toInt32))) (by rw [e3]; exact Ar4.1) (State.isArrayOf_alike hZ.alike Ar4.2.1) Ar4.2.2 hin4 (H4.at hin4 rfl) (g := (mkF m 48 #[rv a, iv 1] [(.int 1), (.ref a), (.int ((((c0 >>> ((0 : Int32) &&& 31)).toInt8.toInt32) &&& (255 : Int32)) <<< ((0 : Int32) &&& 31)))])) rfl rfl (hb hby d_jdk_52_5_48) _ k_) ?_
  refine og T3 (mkF m 52 #[rv a, iv 1] [(.int 255), (.int ((c0 >>> ((8 : Int32) &&& 31)).toInt8.toInt32)), (.int ((((c0 >>> ((0 : Int32) &&& 31)).toInt8.toInt32) &&& (255 : Int32)) <<< ((0 : Int32) &&& 31)))]) (fun t_ k_ => XS.sipush X3.here hx rfl (hb hby d_jdk_52_5_49) k_) ?_
  refine og T3 (mkF m 53 #[rv a, iv 1] [(.int (((c0 >>> ((8 : Int32) &&& 31)).toInt8.toInt32) &&& (255 : Int32))), (.int ((((c0 >>> ((0 : Int32) &&& 31)).toInt8.toInt32) &&& (255 : Int32)) <<< ((0 : Int32) &&& 31)))]) (fun t_ k_ => XS.iand X3.here hx rfl (hb hby d_jdk_52_5_52) rfl k_) ?_
  obtain ⟨T5, X5, e5, st5⟩ := getS2 X3 hx hZ hown (host := "") (Or.inl (own_w hw 94 rfl)) Via.refl e3 (S_LO_BYTE_SHIFT.ext O0.2) (g := (mkF m 53 #[rv a, iv 1] [(.int (((c0 >>> ((8 : Int32) &&& 31)).toInt8.toInt32) &&& (255 : Int32))), (.int ((((c0 >>> ((0 : Int32) &&& 31)).toInt8.toInt32) &&& (255 : Int32)) <<< ((0 : Int32) &&& 31)))])) rfl (hb hby d_jdk_52_5_53)
  refine og T5 (mkF m 56 #[rv a, iv 1] [(.int 8), (.int (((c0 >>> ((8 : Int32) &&& 31)).toInt8.toInt32) &&& (255 : Int32))), (.int ((((c0 >>> ((0 : Int32) &&& 31)).toInt8.toInt32) &&& (255 : Int32)) <<< ((0 : Int32) &&& 31)))]) (fun t_ k_ => st5 _ k_) ?_
  refine og T5 (mkF m 57 #[rv a, iv 1] [(.int ((((c0 >>> ((8 : Int32) &&& 31)).toInt8.toInt32) &&& (255 : Int32)) <<< ((8 : Int32) &&& 31))), (.int ((((c0 >>> ((0 : Int32) &&& 31)).toInt8.toInt32) &&& (255 : Int32)) <<< ((0 : Int32) &&& 31)))]) (fun t_ k_ => XS.ishl X5.here hx rfl (hb hby d_jdk_52_5_56) rfl k_) ?_
  refine og T5 (mkF m 58 #[rv a, iv 1] [(.int (((((c0 >>> ((0 : Int32) &&& 31)).toInt8.toInt32) &&& (255 : Int32)) <<< ((0 : Int32) &&& 31)) ||| ((((c0 >>> ((8 : Int32) &&& 31)).toInt8.toInt32) &&& (255 : Int32)) <<< ((8 : Int32) &&& 31))))]) (fun t_ k_ => XS.ior X5.here hx rfl (hb hby d_jdk_52_5_57) rfl k_) ?_
  refine og T5 (mkF m 59 #[rv a, iv 1] [(.int ((((((c0 >>> ((0 : Int32) &&& 31)).toInt8.toInt32) &&& (255 : Int32)) <<< ((0 : Int32) &&& 31)) ||| ((((c0 >>> ((8 : Int32) &&& 31)).toInt8.toInt32) &&& (255 : Int32)) <<< ((8 : Int32) &&& 31))).toUInt32.toUInt16.toUInt32.toInt32))]) (fun t_ k_ => XS.i2c X5.here hx rfl (hb hby d_jdk_52_5_58) rfl k_) ?_
  exact own_out X5 (v := some (.int (nar .char ((((((c0 >>> ((0 : Int32) &&& 31)).toInt8.toInt32) &&& (255 : Int32)) <<< ((0 : Int32) &&& 31)) ||| ((((c0 >>> ((8 : Int32) &&& 31)).toInt8.toInt32) &&& (255 : Int32)) <<< ((8 : Int32) &&& 31))).toUInt32.toUInt16.toUInt32.toInt32)))) (fun h => by rw [hret] at h; cases h) hlk (fun fs hr => retN X5 hx (t := .char) hret (by simp) (hb hby d_jdk_52_5_59) hr) (Q := Q_rm_get2_0 Z a c0 c1 k_a h0 n0) (by rw [e5]; exact ⟨(congrArg (fun z => some (Value.int z)) ((own_narc16 (own_i2cr _)).trans (own_join hrc0))), N0, rfl⟩) (by decide) (by decide)
theorem ef_17 (m : MethodId) (a : Nat) (ch : Int32) : entryFrame m #[(.ref a), (.int 1), (.int ch)] 3 = mkF m 0 #[rv a, iv 1, iv ch] [] := by first | (simp [entryFrame, mkF, argsToLocals, Value.category]; done) | rfl
def Q_rm_put2_1 (Z : State) (a : Nat) (ch : Int32) (y0 : Int32) (y1 : Int32) (y2 : Int32) (y3 : Int32) (k_a : ClassId) (h0 : Heap) (n0 : Nat) (vv : Option Value) (h : Heap) (LL : List Loc) : Prop := vv = none ∧ Fr n0 LL ∧ Keep h0 h [a] ∧ Arv Z h a k_a .byte (4 : Int32) [(.int y0), (.int y1), (.int ((ch >>> ((0 : Int32) &&& 31)).toInt8.toInt32)), (.int ((ch >>> ((8 : Int32) &&& 31)).toInt8.toInt32))] (.int (0 : Int32))
set_option maxRecDepth 65536 in
set_option maxHeartbeats 40000000 in
theorem rm_put2_1 (l : Launch) (Z : State) (a0 : Array Value) (hw : ∀ d ∈ tables_1, d.before a0 Z = true) (ws : List Jvm.Cond) (a : Nat) (ch : Int32) (y0 : Int32) (y1 : Int32) (y2 : Int32) (y3 : Int32) (k_a : ClassId) (h0 : Heap) (n0 : Nat) (Z0 : n0 ≤ h0.size) (O0 : Old Z n0 h0) (S__assertionsDisabled : Sta Z Z.heap "java/lang/StringUTF16" "$assertionsDisabled" "Z" (.int 1)) (S_HI_BYTE_SHIFT : Sta Z Z.heap "java/lang/StringUTF16" "HI_BYTE_SHIFT" "I" (.int 0)) (S_LO_BYTE_SHIFT : Sta Z Z.heap "java/lang/StringUTF16" "LO_BYTE_SHIFT" "I" (.int 8)) (V_a : Arv Z h0 a k_a .byte (4 : Int32) [(.int y0), (.int y1), (.int y2), (.int y3)] (.int (0 : Int32))) (g_a : n0 ≤ a) :
    own_MF l ym_6 jdk_52_method_4_code 3 none ⟨0, 0, 0, 0⟩ ws Z #[(.ref a), (.int 1), (.int ch)] h0 (Q_rm_put2_1 Z a ch y0 y1 y2 y3 k_a h0 n0) := by
  refine own_begin (plainFor_of_name pn_2) (fun m => ef_17 m a ch) ?_
  intro p e s m below meth c s₁ hret hx hby hml hown hnm hlk X0 e0 hh hZ
  have N0 := Fr.nil n0
  have lt_V_a := own_ltN V_a.lt
  obtain ⟨T1, X1, e1, st1⟩ := getS2 X0 hx hZ hown (host := "") (Or.inl (own_w hw 92 rfl)) Via.refl e0 (S__assertionsDisabled.ext O0.2) (g := (mkF m 0 #[rv a, iv 1, iv ch] [])) rfl (hb hby d_jdk_52_4_0)
  refine og T1 (mkF m 3 #[rv a, iv 1, iv ch] [(.int 1)]) (fun t_ k_ => st1 _ k_) ?_
  refine og T1 (mkF m 28 #[rv a, iv 1, iv ch] []) (fun t_ k_ => XS.ifYes X1.here hx rfl (pc0 := 3) (pc' := 28) rfl (hb hby d_jdk_52_4_3) rfl ((if0 _ _).trans (feq (by decide)).2) (by decide) (by decide) k_) ?_
  refine og T1 (mkF m 29 #[rv a, iv 1, iv ch] [(.int 1)]) (fun t_ k_ => XS.iloadN X1.here hx rfl (hb hby d_jdk_52_4_28) rfl k_) ?_
  refine og T1 (mkF m 30 #[rv a, iv 1, iv ch] [(.int 1), (.int 1)]) (fun t_ k_ => XS.iconst X1.here hx rfl (hb hby d_jdk_52_4_29) k_) ?_
  refine og T1 (mkF m 31 #[rv a, iv 1, iv ch] [(.int 2)]) (fun t_ k_ => XS.ishl X1.here hx rfl (hb hby d_jdk_52_4_30) rfl k_) ?_
  refine og T1 (mkF m 32 #[rv a, iv 2, iv ch] []) (fun t_ k_ => XS.istoreN X1.here hx rfl (hb hby d_jdk_52_4_31) rfl (l' := #[rv a, iv 2, iv ch]) rfl k_) ?_
  refine og T1 (mkF m 33 #[rv a, iv 2, iv ch] [(.ref a)]) (fun t_ k_ => XS.aloadN X1.here hx rfl (hb hby d_jdk_52_4_32) rfl rfl k_) ?_
  refine og T1 (mkF m 34 #[rv a, iv 2, iv ch] [(.int 2), (.ref a)]) (fun t_ k_ => XS.iloadN X1.here hx rfl (hb hby d_jdk_52_4_33) rfl k_) ?_
  refine og T1 (mkF m 37 #[rv a, iv 3, iv ch] [(.int 2), (.ref a)]) (fun t_ k_ => XS.iinc X1.here hx rfl (hb hby d_jdk_52_4_34) rfl (l' := #[rv a, iv 3, iv ch]) rfl k_) ?_
  refine og T1 (mkF m 38 #[rv a, iv 3, iv ch] [(.int ch), (.int 2), (.ref a)]) (fun t_ k_ => XS.iloadN X1.here hx rfl (hb hby d_jdk_52_4_37) rfl k_) ?_
  obtain ⟨T2, X2, e2, st2⟩ := getS2 X1 hx hZ hown (host := "") (Or.inl (own_w hw 93 rfl)) Via.refl e1 (S_HI_BYTE_SHIFT.ext O0.2) (g := (mkF m 38 #[rv a, iv 3, iv ch] [(.int ch), (.int 2), (.ref a)])) rfl (hb hby d_jdk_52_4_38)
  refine og T2 (mkF m 41 #[rv a, iv 3, iv ch] [(.int 0), (.int ch), (.int 2), (.ref a)]) (fun t_ k_ => st2 _ k_) ?_
  refine og T2 (mkF m 42 #[rv a, iv 3, iv ch] [(.int (ch >>> ((0 : Int32) &&& 31))), (.int 2), (.ref a)]) (fun t_ k_ => XS.ishr X2.here hx rfl (hb hby d_jdk_52_4_41) rfl k_) ?_
  refine og T2 (mkF m 43 #[rv a, iv 3, iv ch] [(.int ((ch >>> ((0 : Int32) &&& 31)).toInt8.toInt32)), (.int 2), (.ref a)]) (fun t_ k_ => XS.i2b X2.here hx rfl (hb hby d_jdk_52_4_42) rfl k_) ?_
  obtain ⟨cl3, Ar3, q3, S3, Nn3, H3, G3⟩ := id V_a
  have hin3 : ¬ ((2 : Int32) < 0 ∨ cl3.slots.size ≤ ((2 : Int32)).toNatClampNeg) := inb_of S3 ⟨by decide, by decide⟩
  obtain ⟨T3, h3, X3, e3, W3, st3⟩ := stB X2 hx hZ e2 Ar3 (j := (2 : Int32)) hin3 (g := (mkF m 43 #[rv a, iv 3, iv ch] [(.int ((ch >>> ((0 : Int32) &&& 31)).toInt8.toInt32)), (.int 2), (.ref a)])) rfl rfl (hb hby d_jdk_52_4_43)
  have V3 : Arv Z h3 a k_a .byte (4 : Int32) [(.int y0), (.int y1), (.int ((ch >>> ((0 : Int32) &&& 31)).toInt8.toInt32)), (.int y3)] (.int (0 : Int32)) := by
    have q0 := Arv.set Ar3 q3 S3 Nn3 H3 G3 (fits_nar_byte _) W3 2 rfl (Nat.le_of_ble_eq_true rfl)
    first | rw [own_i8] at q0 | skip
    exact q0
  have z3 := W3.size
  have N3 := Fr.snoc X3 N0 (show n0 ≤ a by omega)
  have O3 := O0.wr W3 (show n0 ≤ a by omega)
  have K3 := (Keep.refl h0 [a]).wr W3 (Or.inl (List.mem_of_getElem? (i := 0) rfl))
  refine og T3 (mkF m 44 #[rv a, iv 3, iv ch] []) (fun t_ k_ => st3 _ k_) ?_
  refine og T3 (mkF m 45 #[rv a, iv 3, iv ch] [(.ref a)]) (fun t_ k_ => XS.aloadN X3.here hx rfl (hb hby d_jdk_52_4_44) rfl rfl k_) ?_
  refine og T3 (mkF m 46 #[rv a, iv 3, iv ch] [(.int 3), (.ref a)]) (fun t_ k_ => XS.iloadN X3.here hx rfl (hb hby d_jdk_52_4_45) rfl k_) ?_
  refine og T3 (mkF m 47 #[rv a, iv 3, iv ch] [(.int ch), (.int 3), (.ref a)]) (fun t_ k_ => XS.iloadN X3.here hx rfl (hb hby d_jdk_52_4_46) rfl k_) ?_
  obtain ⟨T4, X4, e4, st4⟩ := getS2 X3 hx hZ hown (host := "") (Or.inl (own_w hw 94 rfl)) Via.refl e3 (S_LO_BYTE_SHIFT.ext O3.2) (g := (mkF m 47 #[rv a, iv 3, iv ch] [(.int ch), (.int 3), (.ref a)])) rfl (hb hby d_jdk_52_4_47)
  refine og T4 (mkF m 50 #[rv a, iv 3, iv ch] [(.int 8), (.int ch), (.int 3), (.ref a)]) (fun t_ k_ => st4 _ k_) ?_
  refine og T4 (mkF m 51 #[rv a, iv 3, iv ch] [(.int (ch >>> ((8 : Int32) &&& 31))), (.int 3), (.ref a)]) (fun t_ k_ => XS.ishr X4.here hx rfl (hb hby d_jdk_52_4_50) rfl k_) ?_
  refine og T4 (mkF m 52 #[rv a, iv 3, iv ch] [(.int ((ch >>> ((8 : Int32) &&& 31)).toInt8.toInt32)), (.int 3), (.ref a)]) (fun t_ k_ => XS.i2b X4.here hx rfl (hb hby d_jdk_52_4_51) rfl k_) ?_
  obtain ⟨cl5, Ar5, q5, S5, Nn5, H5, G5⟩ := id V3
  have hin5 : ¬ ((3 : Int32) < 0 ∨ cl5.slots.size ≤ ((3 : Int32)).toNatClampNeg) := inb_of S5 ⟨by decide, by decide⟩
  obtain ⟨T5, h5, X5, e5, W5, st5⟩ := stB X4 hx hZ e4 Ar5 (j := (3 : Int32)) hin5 (g := (mkF m 52 #[rv a, iv 3, iv ch] [(.int ((ch >>> ((8 : Int32) &&& 31)).toInt8.toInt32)), (.int 3), (.ref a)])) rfl rfl (hb hby d_jdk_52_4_52)
  have V5 : Arv Z h5 a k_a .byte (4 : Int32) [(.int y0), (.int y1), (.int ((ch >>> ((0 : Int32) &&& 31)).toInt8.toInt32)), (.int ((ch >>> ((8 : Int32) &&& 31)).toInt8.toInt32))] (.int (0 : Int32)) := by
    have q0 := Arv.set Ar5 q5 S5 Nn5 H5 G5 (fits_nar_byte _) W5 3 rfl (Nat.le_of_ble_eq_true rfl)
    first | rw [own_i8] at q0 | skip
    exact q0
  have z5 := W5.size
  have N5 := Fr.snoc X5 N3 (show n0 ≤ a by omega)
  have O5 := O3.wr W5 (show n0 ≤ a by omega)
  have K5 := K3.wr W5 (Or.inl (List.mem_of_getElem? (i := 0) rfl))
  refine og T5 (mkF m 53 #[rv a, iv 3, iv ch] []) (fun t_ k_ => st5 _ k_) ?_
  exact own_out X5 (v := none) (fun _ => rfl) hlk (fun fs hr => X5.returnOut hx hret (hb hby d_jdk_52_4_53) hr) (Q := Q_rm_put2_1 Z a ch y0 y1 y2 y3 k_a h0 n0) (by rw [e5]; exact ⟨rfl, N5, K5, V5⟩) (by decide) (by decide)
theorem ef_18 (m : MethodId) (a : Nat) : entryFrame m #[(.ref a), (.int 1)] 2 = mkF m 0 #[rv a, iv 1] [] := by first | (simp [entryFrame, mkF, argsToLocals, Value.category]; done) | rfl
def Q_rm_get2_1 (Z : State) (a : Nat) (c0 : Int32) (c1 : Int32) (k_a : ClassId) (h0 : Heap) (n0 : Nat) (vv : Option Value) (h : Heap) (LL : List Loc) : Prop := vv = some (.int c1) ∧ Fr n0 LL ∧ h = h0
set_option maxRecDepth 65536 in
set_option maxHeartbeats 40000000 in
theorem rm_get2_1 (l : Launch) (Z : State) (a0 : Array Value) (hw : ∀ d ∈ tables_1, d.before a0 Z = true) (ws : List Jvm.Cond) (a : Nat) (c0 : Int32) (c1 : Int32) (k_a : ClassId) (h0 : Heap) (n0 : Nat) (Z0 : n0 ≤ h0.size) (hrc0 : ¬ (c0 < (0 : Int32)) ∧ ¬ ((65535 : Int32) < c0)) (hrc1 : ¬ (c1 < (0 : Int32)) ∧ ¬ ((65535 : Int32) < c1)) (V_a : Arv Z h0 a k_a .byte (4 : Int32) [(.int ((c0 >>> ((0 : Int32) &&& 31)).toInt8.toInt32)), (.int ((c0 >>> ((8 : Int32) &&& 31)).toInt8.toInt32)), (.int ((c1 >>> ((0 : Int32) &&& 31)).toInt8.toInt32)), (.int ((c1 >>> ((8 : Int32) &&& 31)).toInt8.toInt32))] (.int (0 : Int32))) (O0 : Old Z n0 h0) (S__assertionsDisabled : Sta Z Z.heap "java/lang/StringUTF16" "$assertionsDisabled" "Z" (.int 1)) (S_HI_BYTE_SHIFT : Sta Z Z.heap "java/lang/StringUTF16" "HI_BYTE_SHIFT" "I" (.int 0)) (S_LO_BYTE_SHIFT : Sta Z Z.heap "java/lang/StringUTF16" "LO_BYTE_SHIFT" "I" (.int 8)) :
    own_MF l ym_7 jdk_52_method_5_code 2 (some .char) ⟨0, 0, 0, 0⟩ ws Z #[(.ref a), (.int 1)] h0 (Q_rm_get2_1 Z a c0 c1 k_a h0 n0) := by
  refine own_begin (plainFor_of_name pn_2) (fun m => ef_18 m a) ?_
  intro p e s m below meth c s₁ hret hx hby hml hown hnm hlk X0 e0 hh hZ
  have N0 := Fr.nil n0
  have lt_V_a := own_ltN V_a.lt
  obtain ⟨T1, X1, e1, st1⟩ := getS2 X0 hx hZ hown (host := "") (Or.inl (own_w hw 92 rfl)) Via.refl e0 (S__assertionsDisabled.ext O0.2) (g := (mkF m 0 #[rv a, iv 1] [])) rfl (hb hby d_jdk_52_5_0)
  refine og T1 (mkF m 3 #[rv a, iv 1] [(.int 1)]) (fun t_ k_ => st1 _ k_) ?_
  refine og T1 (mkF m 28 #[rv a, iv 1] []) (fun t_ k_ => XS.ifYes X1.here hx rfl (pc0 := 3) (pc' := 28) rfl (hb hby d_jdk_52_5_3) rfl ((if0 _ _).trans (feq (by decide)).2) (by decide) (by decide) k_) ?_
  refine og T1 (mkF m 29 #[rv a, iv 1] [(.int 1)]) (fun t_ k_ => XS.iloadN X1.here hx rfl (hb hby d_jdk_52_5_28) rfl k_) ?_
  refine og T1 (mkF m 30 #[rv a, iv 1] [(.int 1), (.int 1)]) (fun t_ k_ => XS.iconst X1.here hx rfl (hb hby d_jdk_52_5_29) k_) ?_
  refine og T1 (mkF m 31 #[rv a, iv 1] [(.int 2)]) (fun t_ k_ => XS.ishl X1.here hx rfl (hb hby d_jdk_52_5_30) rfl k_) ?_
  refine og T1 (mkF m 32 #[rv a, iv 2] []) (fun t_ k_ => XS.istoreN X1.here hx rfl (hb hby d_jdk_52_5_31) rfl (l' := #[rv a, iv 2]) rfl k_) ?_
  refine og T1 (mkF m 33 #[rv a, iv 2] [(.ref a)]) (fun t_ k_ => XS.aloadN X1.here hx rfl (hb hby d_jdk_52_5_32) rfl rfl k_) ?_
  refine og T1 (mkF m 34 #[rv a, iv 2] [(.int 2), (.ref a)]) (fun t_ k_ => XS.iloadN X1.here hx rfl (hb hby d_jdk_52_5_33) rfl k_) ?_
  refine og T1 (mkF m 37 #[rv a, iv 3] [(.int 2), (.ref a)]) (fun t_ k_ => XS.iinc X1.here hx rfl (hb hby d_jdk_52_5_34) rfl (l' := #[rv a, iv 3]) rfl k_) ?_
  obtain ⟨cl2, Ar2, -, S2, Nn2, H2, -⟩ := id V_a
  have hin2 : ¬ ((2 : Int32) < 0 ∨ cl2.slots.size ≤ ((2 : Int32)).toNatClampNeg) := inb_of S2 ⟨by decide, by decide⟩
  refine og T1 (mkF m 38 #[rv a, iv 3] [(.int ((c1 >>> ((0 : Int32) &&& 31)).toInt8.toInt32))]) (fun t_ k_ => X1.baloadBytes hx (j := (2 : Int32)) (v := (.int ((c1 >>> ((0 : Int32) &&& 31)).toInt8.toInt32))) (by rw [e1]; exact Ar2.1) (State.isArrayOf_alike hZ.alike Ar2.2.1) Ar2.2.2 hin2 (H2.at hin2 rfl) (g := (mkF m 37 #[rv a, iv 3] [(.int 2), (.ref a)])) rfl rfl (hb hby d_jdk_52_5_37) _ k_) ?_
  refine og T1 (mkF m 41 #[rv a, iv 3] [(.int 255), (.int ((c1 >>> ((0 : Int32) &&& 31)).toInt8.toInt32))]) (fun t_ k_ => XS.sipush X1.here hx rfl (hb hby d_jdk_52_5_38) k_) ?_
  refine og T1 (mkF m 42 #[rv a, iv 3] [(.int (((c1 >>> ((0 : Int32) &&& 31)).toInt8.toInt32) &&& (255 : Int32)))]) (fun t_ k_ => XS.iand X1.here hx rfl (hb hby d_jdk_52_5_41) rfl k_) ?_
  obtain ⟨T3, X3, e3, st3⟩ := getS2 X1 hx hZ hown (host := "") (Or.inl (own_w hw 93 rfl)) Via.refl e1 (S_HI_BYTE_SHIFT.ext O0.2) (g := (mkF m 42 #[rv a, iv 3] [(.int (((c1 >>> ((0 : Int32) &&& 31)).toInt8.toInt32) &&& (255 : Int32)))])) rfl (hb hby d_jdk_52_5_42)
  refine og T3 (mkF m 45 #[rv a, iv 3] [(.int 0), (.int (((c1 >>> ((0 : Int32) &&& 31)).toInt8.toInt32) &&& (255 : Int32)))]) (fun t_ k_ => st3 _ k_) ?_
  refine og T3 (mkF m 46 #[rv a, iv 3] [(.int ((((c1 >>> ((0 : Int32) &&& 31)).toInt8.toInt32) &&& (255 : Int32)) <<< ((0 : Int32) &&& 31)))]) (fun t_ k_ => XS.ishl X3.here hx rfl (hb hby d_jdk_52_5_45) rfl k_) ?_
  refine og T3 (mkF m 47 #[rv a, iv 3] [(.ref a), (.int ((((c1 >>> ((0 : Int32) &&& 31)).toInt8.toInt32) &&& (255 : Int32)) <<< ((0 : Int32) &&& 31)))]) (fun t_ k_ => XS.aloadN X3.here hx rfl (hb hby d_jdk_52_5_46) rfl rfl k_) ?_
  refine og T3 (mkF m 48 #[rv a, iv 3] [(.int 3), (.ref a), (.int ((((c1 >>> ((0 : Int32) &&& 31)).toInt8.toInt32) &&& (255 : Int32)) <<< ((0 : Int32) &&& 31)))]) (fun t_ k_ => XS.iloadN X3.here hx rfl (hb hby d_jdk_52_5_47) rfl k_) ?_
  obtain ⟨cl4, Ar4, -, S4, Nn4, H4, -⟩ := id V_a
  have hin4 : ¬ ((3 : Int32) < 0 ∨ cl4.slots.size ≤ ((3 : Int32)).toNatClampNeg) := inb_of S4 ⟨by decide, by decide⟩
  refine og T3 (mkF m 49 #[rv a, iv 3] [(.int ((c1 >>> ((8 : Int32) &&& 31)).toInt8.toInt32)), (.int ((((c1 >>> ((0 : Int32) &&& 31)).toInt8.toInt32) &&& (255 : Int32)) <<< ((0 : Int32) &&& 31)))]) (fun t_ k_ => X3.baloadBytes hx (j := (3 : Int32)) (v := (.int ((c1 >>> ((8 : Int32) &&& 31)).toInt8.toInt32))) (by rw [e3]; exact Ar4.1) (State.isArrayOf_alike hZ.alike Ar4.2.1) Ar4.2.2 hin4 (H4.at hin4 rfl) (g := (mkF m 48 #[rv a, iv 3] [(.int 3), (.ref a), (.int ((((c1 >>> ((0 : Int32) &&& 31)).toInt8.toInt32) &&& (255 : Int32)) <<< ((0 : Int32) &&& 31)))])) rfl rfl (hb hby d_jdk_52_5_48) _ k_) ?_
  refine og T3 (mkF m 52 #[rv a, iv 3] [(.int 255), (.int ((c1 >>> ((8 : Int32) &&& 31)).toInt8.toInt32)), (.int ((((c1 >>> ((0 : Int32) &&& 31)).toInt8.toInt32) &&& (255 : Int32)) <<< ((0 : Int32) &&& 31)))]) (fun t_ k_ => XS.sipush X3.here hx rfl (hb hby d_jdk_52_5_49) k_) ?_
  refine og T3 (mkF m 53 #[rv a, iv 3] [(.int (((c1 >>> ((8 : Int32) &&& 31)).toInt8.toInt32) &&& (255 : Int32))), (.int ((((c1 >>> ((0 : Int32) &&& 31)).toInt8.toInt32) &&& (255 : Int32)) <<< ((0 : Int32) &&& 31)))]) (fun t_ k_ => XS.iand X3.here hx rfl (hb hby d_jdk_52_5_52) rfl k_) ?_
  obtain ⟨T5, X5, e5, st5⟩ := getS2 X3 hx hZ hown (host := "") (Or.inl (own_w hw 94 rfl)) Via.refl e3 (S_LO_BYTE_SHIFT.ext O0.2) (g := (mkF m 53 #[rv a, iv 3] [(.int (((c1 >>> ((8 : Int32) &&& 31)).toInt8.toInt32) &&& (255 : Int32))), (.int ((((c1 >>> ((0 : Int32) &&& 31)).toInt8.toInt32) &&& (255 : Int32)) <<< ((0 : Int32) &&& 31)))])) rfl (hb hby d_jdk_52_5_53)
  refine og T5 (mkF m 56 #[rv a, iv 3] [(.int 8), (.int (((c1 >>> ((8 : Int32) &&& 31)).toInt8.toInt32) &&& (255 : Int32))), (.int ((((c1 >>> ((0 : Int32) &&& 31)).toInt8.toInt32) &&& (255 : Int32)) <<< ((0 : Int32) &&& 31)))]) (fun t_ k_ => st5 _ k_) ?_
  refine og T5 (mkF m 57 #[rv a, iv 3] [(.int ((((c1 >>> ((8 : Int32) &&& 31)).toInt8.toInt32) &&& (255 : Int32)) <<< ((8 : Int32) &&& 31))), (.int ((((c1 >>> ((0 : Int32) &&& 31)).toInt8.toInt32) &&& (255 : Int32)) <<< ((0 : Int32) &&& 31)))]) (fun t_ k_ => XS.ishl X5.here hx rfl (hb hby d_jdk_52_5_56) rfl k_) ?_
  refine og T5 (mkF m 58 #[rv a, iv 3] [(.int (((((c1 >>> ((0 : Int32) &&& 31)).toInt8.toInt32) &&& (255 : Int32)) <<< ((0 : Int32) &&& 31)) ||| ((((c1 >>> ((8 : Int32) &&& 31)).toInt8.toInt32) &&& (255 : Int32)) <<< ((8 : Int32) &&& 31))))]) (fun t_ k_ => XS.ior X5.here hx rfl (hb hby d_jdk_52_5_57) rfl k_) ?_
  refine og T5 (mkF m 59 #[rv a, iv 3] [(.int ((((((c1 >>> ((0 : Int32) &&& 31)).toInt8.toInt32) &&& (255 : Int32)) <<< ((0 : Int32) &&& 31)) ||| ((((c1 >>> ((8 : Int32) &&& 31)).toInt8.toInt32) &&& (255 : Int32)) <<< ((8 : Int32) &&& 31))).toUInt32.toUInt16.toUInt32.toInt32))]) (fun t_ k_ => XS.i2c X5.here hx rfl (hb hby d_jdk_52_5_58) rfl k_) ?_
  exact own_out X5 (v := some (.int (nar .char ((((((c1 >>> ((0 : Int32) &&& 31)).toInt8.toInt32) &&& (255 : Int32)) <<< ((0 : Int32) &&& 31)) ||| ((((c1 >>> ((8 : Int32) &&& 31)).toInt8.toInt32) &&& (255 : Int32)) <<< ((8 : Int32) &&& 31))).toUInt32.toUInt16.toUInt32.toInt32)))) (fun h => by rw [hret] at h; cases h) hlk (fun fs hr => retN X5 hx (t := .char) hret (by simp) (hb hby d_jdk_52_5_59) hr) (Q := Q_rm_get2_1 Z a c0 c1 k_a h0 n0) (by rw [e5]; exact ⟨(congrArg (fun z => some (Value.int z)) ((own_narc16 (own_i2cr _)).trans (own_join hrc1))), N0, rfl⟩) (by decide) (by decide)
theorem ef_19 (m : MethodId) (a : Nat) : entryFrame m #[(.ref a), (.int 0), (.int 2)] 5 = mkF m 0 #[rv a, iv 0, iv 2, .unset, .unset] [] := by first | (simp [entryFrame, mkF, argsToLocals, Value.category]; done) | rfl
def Q_rm_tob2 (Z : State) (a : Nat) (c0 : Int32) (c1 : Int32) (k_a : ClassId) (h0 : Heap) (n0 : Nat) (vv : Option Value) (h : Heap) (LL : List Loc) : Prop := ∃ b : Nat, ∃ kb : ClassId, vv = some (.ref b) ∧ Fr n0 LL ∧ Keep h0 h [] ∧ (h0.size ≤ b ∧ b < h.size) ∧ Arv Z h b kb .byte (4 : Int32) [(.int ((c0 >>> ((0 : Int32) &&& 31)).toInt8.toInt32)), (.int ((c0 >>> ((8 : Int32) &&& 31)).toInt8.toInt32)), (.int ((c1 >>> ((0 : Int32) &&& 31)).toInt8.toInt32)), (.int ((c1 >>> ((8 : Int32) &&& 31)).toInt8.toInt32))] (.int (0 : Int32))
set_option maxRecDepth 65536 in
set_option maxHeartbeats 40000000 in
theorem rm_tob2 (l : Launch) (Z : State) (a0 : Array Value) (hw : ∀ d ∈ tables_1, d.before a0 Z = true) (ws : List Jvm.Cond) (a : Nat) (c0 : Int32) (c1 : Int32) (k_a : ClassId) (h0 : Heap) (n0 : Nat) (Z0 : n0 ≤ h0.size) (hrc0 : ¬ (c0 < (0 : Int32)) ∧ ¬ ((65535 : Int32) < c0)) (hrc1 : ¬ (c1 < (0 : Int32)) ∧ ¬ ((65535 : Int32) < c1)) (V_a : Arv Z h0 a k_a .char (2 : Int32) [(.int c0), (.int c1)] (.int (0 : Int32))) (O0 : Old Z n0 h0) (S__assertionsDisabled : Sta Z Z.heap "java/lang/StringUTF16" "$assertionsDisabled" "Z" (.int 1)) (S_HI_BYTE_SHIFT : Sta Z Z.heap "java/lang/StringUTF16" "HI_BYTE_SHIFT" "I" (.int 0)) (S_LO_BYTE_SHIFT : Sta Z Z.heap "java/lang/StringUTF16" "LO_BYTE_SHIFT" "I" (.int 8)) :
    own_MF l ym_8 jdk_52_method_14_code 5 (some (.array .byte)) ⟨2, 1, 4, 24⟩ ws Z #[(.ref a), (.int 0), (.int 2)] h0 (Q_rm_tob2 Z a c0 c1 k_a h0 n0) := by
  refine own_begin (plainFor_of_name pn_2) (fun m => ef_19 m a) ?_
  intro p e s m below meth c s₁ hret hx hby hml hown hnm hlk X0 e0 hh hZ
  have N0 := Fr.nil n0
  have lt_V_a := own_ltN V_a.lt
  refine og s₁ (mkF m 1 #[rv a, iv 0, iv 2, .unset, .unset] [(.int 2)]) (fun t_ k_ => XS.iloadN X0.here hx rfl (hb hby d_jdk_52_14_0) rfl k_) ?_
  obtain ⟨_, _, ⟨T1, L1, k1, n1⟩, -, X1, ⟨Lc1, hQ1, l1, y1, z1⟩, st1⟩ := Jvm.LawKit.callS X0 hx (y := ym_5) hown (mvT hZ (own_w hw 82 rfl)) (mvT hZ (own_w hw 83 rfl)) (mvT hZ (own_w hw 66 rfl)) (mvT hZ (own_w hw 84 rfl)) (by decide) (backOf (W := 0) (rm_nbf2 l Z a0 hw []  h0 n0 (show n0 ≤ h0.size by omega)) hZ (own_w hw 84 rfl) (own_w hw 66 rfl) (by decide) (by decide)) (g := (mkF m 1 #[rv a, iv 0, iv 2, .unset, .unset] [(.int 2)])) rfl (by rw [hml]; rfl) (argsL := [(.int 2)]) (rest := []) (lenOf pd_2 rfl) rfl (by show 2 * 0 + _ ≤ _; exact Nat.le_of_eq rfl) (hb hby d_jdk_52_14_1) (fun _ _ => ⟨rfl, e0, (by decide : 0 + 1 ≤ _), (by decide : 0 + 4 ≤ _)⟩)
  dsimp only [Pt.U, Pt.locs, Pt.cells, Pt.slots] at X1 l1 y1 z1 st1 hQ1
  subst l1 y1 z1
  obtain ⟨b1, kb1, rfl, M1, K1_, ⟨lob1, hib1⟩, f1_0⟩ := hQ1
  have zz1 := K1_.1
  have O1 := O0.keep K1_ all0
  have K1 := (Keep.refl h0 []).trans K1_ all0
  have N1 := Fr.app N0 M1
  refine og T1 (mkF m 4 #[rv a, iv 0, iv 2, .unset, .unset] [(.ref b1)]) (fun t_ k_ => st1 _ k_) ?_
  refine og T1 (mkF m 5 #[rv a, iv 0, iv 2, rv b1, .unset] []) (fun t_ k_ => XS.astoreN X1.here hx rfl (hb hby d_jdk_52_14_4) rfl rfl (l' := #[rv a, iv 0, iv 2, rv b1, .unset]) rfl k_) ?_
  refine og T1 (mkF m 6 #[rv a, iv 0, iv 2, rv b1, .unset] [(.int 0)]) (fun t_ k_ => XS.iconst X1.here hx rfl (hb hby d_jdk_52_14_5) k_) ?_
  refine og T1 (mkF m 8 #[rv a, iv 0, iv 2, rv b1, iv 0] []) (fun t_ k_ => XS.istore X1.here hx rfl (hb hby d_jdk_52_14_6) rfl (l' := #[rv a, iv 0, iv 2, rv b1, iv 0]) rfl k_) ?_
  refine og T1 (mkF m 10 #[rv a, iv 0, iv 2, rv b1, iv 0] [(.int 0)]) (fun t_ k_ => XS.iload X1.here hx rfl (hb hby d_jdk_52_14_8) rfl k_) ?_
  refine og T1 (mkF m 11 #[rv a, iv 0, iv 2, rv b1, iv 0] [(.int 2), (.int 0)]) (fun t_ k_ => XS.iloadN X1.here hx rfl (hb hby d_jdk_52_14_10) rfl k_) ?_
  refine og T1 (mkF m 14 #[rv a, iv 0, iv 2, rv b1, iv 0] []) (fun t_ k_ => XS.icmpNo X1.here hx rfl (hb hby d_jdk_52_14_11) rfl (tlt (by decide)).2.1 k_) ?_
  refine og T1 (mkF m 15 #[rv a, iv 0, iv 2, rv b1, iv 0] [(.ref b1)]) (fun t_ k_ => XS.aloadN X1.here hx rfl (hb hby d_jdk_52_14_14) rfl rfl k_) ?_
  refine og T1 (mkF m 17 #[rv a, iv 0, iv 2, rv b1, iv 0] [(.int 0), (.ref b1)]) (fun t_ k_ => XS.iload X1.here hx rfl (hb hby d_jdk_52_14_15) rfl k_) ?_
  refine og T1 (mkF m 18 #[rv a, iv 0, iv 2, rv b1, iv 0] [(.ref a), (.int 0), (.ref b1)]) (fun t_ k_ => XS.aloadN X1.here hx rfl (hb hby d_jdk_52_14_17) rfl rfl k_) ?_
  refine og T1 (mkF m 19 #[rv a, iv 0, iv 2, rv b1, iv 0] [(.int 0), (.ref a), (.int 0), (.ref b1)]) (fun t_ k_ => XS.iloadN X1.here hx rfl (hb hby d_jdk_52_14_18) rfl k_) ?_
  have ff3 := (V_a.keep K1_ nin0)
  obtain ⟨cl2, Ar2, -, S2, Nn2, H2, -⟩ := id ff3
  have hin2 : ¬ ((0 : Int32) < 0 ∨ cl2.slots.size ≤ ((0 : Int32)).toNatClampNeg) := inb_of S2 ⟨by decide, by decide⟩
  refine og T1 (mkF m 20 #[rv a, iv 0, iv 2, rv b1, iv 0] [(.int c0), (.int 0), (.ref b1)]) (fun t_ k_ => X1.caload hx (j := (0 : Int32)) (v := (.int c0)) (by exact Ar2.1) (State.isArrayOf_alike hZ.alike Ar2.2.1) Ar2.2.2 hin2 (H2.at hin2 rfl) (g := (mkF m 19 #[rv a, iv 0, iv 2, rv b1, iv 0] [(.int 0), (.ref a), (.int 0), (.ref b1)])) rfl rfl (hb hby d_jdk_52_14_19) _ k_) ?_
  obtain ⟨_, _, ⟨T4, L4, k4, n4⟩, -, X4, ⟨Lc4, hQ4, l4, y4, z4⟩, st4⟩ := Jvm.LawKit.callS X1 hx (y := ym_6) hown (mvT hZ (own_w hw 89 rfl)) (mvT hZ (own_w hw 90 rfl)) (mvT hZ (own_w hw 66 rfl)) (mvT hZ (own_w hw 91 rfl)) (by decide) (backOf (W := 0) (rm_put2_0 l Z a0 hw [] b1 c0 (0 : Int32) (0 : Int32) (0 : Int32) (0 : Int32) kb1 T1.heap n0 (show n0 ≤ T1.heap.size by omega) O1 S__assertionsDisabled S_HI_BYTE_SHIFT S_LO_BYTE_SHIFT f1_0 (show n0 ≤ b1 by omega)) hZ (own_w hw 91 rfl) (own_w hw 66 rfl) (by decide) (by decide)) (g := (mkF m 20 #[rv a, iv 0, iv 2, rv b1, iv 0] [(.int c0), (.int 0), (.ref b1)])) rfl (by rw [hml]; rfl) (argsL := [(.ref b1), (.int 0), (.int c0)]) (rest := []) (lenOf pd_3 rfl) rfl (by show 2 * 0 + _ ≤ _; exact Nat.le_of_eq rfl) (hb hby d_jdk_52_14_20) (fun _ _ => ⟨rfl, rfl, (by decide : 1 + 0 ≤ _), (by decide : 4 + 0 ≤ _)⟩)
  dsimp only [Pt.U, Pt.locs, Pt.cells, Pt.slots] at X4 l4 y4 z4 st4 hQ4
  subst l4 y4 z4
  obtain ⟨rfl, M4, K4_, f4_0⟩ := hQ4
  have zz4 := K4_.1
  have O4 := O1.keep K4_ (allS (show n0 ≤ b1 by omega) all0)
  have K4 := K1.trans K4_ (allS (Or.inr (show h0.size ≤ b1 by omega)) all0)
  have N4 := Fr.app N1 M4
  refine og T4 (mkF m 23 #[rv a, iv 0, iv 2, rv b1, iv 0] []) (fun t_ k_ => st4 _ k_) ?_
  refine og T4 (mkF m 26 #[rv a, iv 1, iv 2, rv b1, iv 0] []) (fun t_ k_ => XS.iinc X4.here hx rfl (hb hby d_jdk_52_14_23) rfl (l' := #[rv a, iv 1, iv 2, rv b1, iv 0]) rfl k_) ?_
  refine og T4 (mkF m 29 #[rv a, iv 1, iv 2, rv b1, iv 1] []) (fun t_ k_ => XS.iinc X4.here hx rfl (hb hby d_jdk_52_14_26) rfl (l' := #[rv a, iv 1, iv 2, rv b1, iv 1]) rfl k_) ?_
  refine og T4 (mkF m 8 #[rv a, iv 1, iv 2, rv b1, iv 1] []) (fun t_ k_ => XS.goto X4.here hx rfl (pc0 := 29) (pc' := 8) rfl (hb hby d_jdk_52_14_29) (by decide) (by decide) k_) ?_
  refine og T4 (mkF m 10 #[rv a, iv 1, iv 2, rv b1, iv 1] [(.int 1)]) (fun t_ k_ => XS.iload X4.here hx rfl (hb hby d_jdk_52_14_8) rfl k_) ?_
  refine og T4 (mkF m 11 #[rv a, iv 1, iv 2, rv b1, iv 1] [(.int 2), (.int 1)]) (fun t_ k_ => XS.iloadN X4.here hx rfl (hb hby d_jdk_52_14_10) rfl k_) ?_
  refine og T4 (mkF m 14 #[rv a, iv 1, iv 2, rv b1, iv 1] []) (fun t_ k_ => XS.icmpNo X4.here hx rfl (hb hby d_jdk_52_14_11) rfl (tlt (by decide)).2.1 k_) ?_
  refine og T4 (mkF m 15 #[rv a, iv 1, iv 2, rv b1, iv 1] [(.ref b1)]) (fun t_ k_ => XS.aloadN X4.here hx rfl (hb hby d_jdk_52_14_14) rfl rfl k_) ?_
  refine og T4 (mkF m 17 #[rv a, iv 1, iv 2, rv b1, iv 1] [(.int 1), (.ref b1)]) (fun t_ k_ => XS.iload X4.here hx rfl (hb hby d_jdk_52_14_15) rfl k_) ?_
  refine og T4 (mkF m 18 #[rv a, iv 1, iv 2, rv b1, iv 1] [(.ref a), (.int 1), (.ref b1)]) (fun t_ k_ => XS.aloadN X4.here hx rfl (hb hby d_jdk_52_14_17) rfl rfl k_) ?_
  refine og T4 (mkF m 19 #[rv a, iv 1, iv 2, rv b1, iv 1] [(.int 1), (.ref a), (.int 1), (.ref b1)]) (fun t_ k_ => XS.iloadN X4.here hx rfl (hb hby d_jdk_52_14_18) rfl k_) ?_
  have ff6 := (ff3.keep K4_ (ninS (own_ne (by omega)) nin0))
  obtain ⟨cl5, Ar5, -, S5, Nn5, H5, -⟩ := id ff6
  have hin5 : ¬ ((1 : Int32) < 0 ∨ cl5.slots.size ≤ ((1 : Int32)).toNatClampNeg) := inb_of S5 ⟨by decide, by decide⟩
  refine og T4 (mkF m 20 #[rv a, iv 1, iv 2, rv b1, iv 1] [(.int c1), (.int 1), (.ref b1)]) (fun t_ k_ => X4.caload hx (j := (1 : Int32)) (v := (.int c1)) (by exact Ar5.1) (State.isArrayOf_alike hZ.alike Ar5.2.1) Ar5.2.2 hin5 (H5.at hin5 rfl) (g := (mkF m 19 #[rv a, iv 1, iv 2, rv b1, iv 1] [(.int 1), (.ref a), (.int 1), (.ref b1)])) rfl rfl (hb hby d_jdk_52_14_19) _ k_) ?_
  obtain ⟨_, _, ⟨T7, L7, k7, n7⟩, -, X7, ⟨Lc7, hQ7, l7, y7, z7⟩, st7⟩ := Jvm.LawKit.callS X4 hx (y := ym_6) hown (mvT hZ (own_w hw 89 rfl)) (mvT hZ (own_w hw 90 rfl)) (mvT hZ (own_w hw 66 rfl)) (mvT hZ (own_w hw 91 rfl)) (by decide) (backOf (W := 0) (rm_put2_1 l Z a0 hw [] b1 c1 ((c0 >>> ((0 : Int32) &&& 31)).toInt8.toInt32) ((c0 >>> ((8 : Int32) &&& 31)).toInt8.toInt32) (0 : Int32) (0 : Int32) kb1 T4.heap n0 (show n0 ≤ T4.heap.size by omega) O4 S__assertionsDisabled S_HI_BYTE_SHIFT S_LO_BYTE_SHIFT f4_0 (show n0 ≤ b1 by omega)) hZ (own_w hw 91 rfl) (own_w hw 66 rfl) (by decide) (by decide)) (g := (mkF m 20 #[rv a, iv 1, iv 2, rv b1, iv 1] [(.int c1), (.int 1), (.ref b1)])) rfl (by rw [hml]; rfl) (argsL := [(.ref b1), (.int 1), (.int c1)]) (rest := []) (lenOf pd_3 rfl) rfl (by show 2 * 0 + _ ≤ _; exact Nat.le_of_eq rfl) (hb hby d_jdk_52_14_20) (fun _ _ => ⟨rfl, rfl, (by decide : 1 + 0 ≤ _), (by decide : 4 + 0 ≤ _)⟩)
  dsimp only [Pt.U, Pt.locs, Pt.cells, Pt.slots] at X7 l7 y7 z7 st7 hQ7
  subst l7 y7 z7
  obtain ⟨rfl, M7, K7_, f7_0⟩ := hQ7
  have zz7 := K7_.1
  have O7 := O4.keep K7_ (allS (show n0 ≤ b1 by omega) all0)
  have K7 := K4.trans K7_ (allS (Or.inr (show h0.size ≤ b1 by omega)) all0)
  have N7 := Fr.app N4 M7
  refine og T7 (mkF m 23 #[rv a, iv 1, iv 2, rv b1, iv 1] []) (fun t_ k_ => st7 _ k_) ?_
  refine og T7 (mkF m 26 #[rv a, iv 2, iv 2, rv b1, iv 1] []) (fun t_ k_ => XS.iinc X7.here hx rfl (hb hby d_jdk_52_14_23) rfl (l' := #[rv a, iv 2, iv 2, rv b1, iv 1]) rfl k_) ?_
  refine og T7 (mkF m 29 #[rv a, iv 2, iv 2, rv b1, iv 2] []) (fun t_ k_ => XS.iinc X7.here hx rfl (hb hby d_jdk_52_14_26) rfl (l' := #[rv a, iv 2, iv 2, rv b1, iv 2]) rfl k_) ?_
  refine og T7 (mkF m 8 #[rv a, iv 2, iv 2, rv b1, iv 2] []) (fun t_ k_ => XS.goto X7.here hx rfl (pc0 := 29) (pc' := 8) rfl (hb hby d_jdk_52_14_29) (by decide) (by decide) k_) ?_
  refine og T7 (mkF m 10 #[rv a, iv 2, iv 2, rv b1, iv 2] [(.int 2)]) (fun t_ k_ => XS.iload X7.here hx rfl (hb hby d_jdk_52_14_8) rfl k_) ?_
  refine og T7 (mkF m 11 #[rv a, iv 2, iv 2, rv b1, iv 2] [(.int 2), (.int 2)]) (fun t_ k_ => XS.iloadN X7.here hx rfl (hb hby d_jdk_52_14_10) rfl k_) ?_
  refine og T7 (mkF m 32 #[rv a, iv 2, iv 2, rv b1, iv 2] []) (fun t_ k_ => XS.icmpYes X7.here hx rfl (pc0 := 11) (pc' := 32) rfl (hb hby d_jdk_52_14_11) rfl (flt (by decide)).2.1 (by decide) (by decide) k_) ?_
  refine og T7 (mkF m 33 #[rv a, iv 2, iv 2, rv b1, iv 2] [(.ref b1)]) (fun t_ k_ => XS.aloadN X7.here hx rfl (hb hby d_jdk_52_14_32) rfl rfl k_) ?_
  exact own_out X7 (v := some (.ref b1)) (fun h => by rw [hret] at h; cases h) hlk (fun fs hr => own_retA X7 hx hret rfl rfl (hb hby d_jdk_52_14_33) hr) (Q := Q_rm_tob2 Z a c0 c1 k_a h0 n0) (by exact ⟨b1, kb1, rfl, N7, K7, ⟨by omega, by omega⟩, f7_0⟩) (by decide) (by decide)
theorem ef_20 (m : MethodId) (a : Nat) (d : Nat) : entryFrame m #[(.ref a), (.int 0), (.ref d), (.int 0), (.int 2)] 7 = mkF m 0 #[rv a, iv 0, rv d, iv 0, iv 2, .unset, .unset] [] := by first | (simp [entryFrame, mkF, argsToLocals, Value.category]; done) | rfl
def Q_rm_cma2 (Z : State) (a : Nat) (d : Nat) (c0 : Int32) (c1 : Int32) (k_a : ClassId) (k_d : ClassId) (h0 : Heap) (n0 : Nat) (vv : Option Value) (h : Heap) (LL : List Loc) : Prop := ∃ r : Int32, vv = some (.int r) ∧ Fr n0 LL ∧ Keep h0 h [d] ∧ ((r = (2 : Int32) ∧ (¬ (255 : Int32) < c0 ∧ ¬ (255 : Int32) < c1) ∧ Arv Z h d k_d .byte (2 : Int32) [(.int c0.toInt8.toInt32), (.int c1.toInt8.toInt32)] (.int (0 : Int32))) ∨ (r = (0 : Int32) ∧ (255 : Int32) < c0) ∨ (r = (1 : Int32) ∧ (255 : Int32) < c1))
set_option maxRecDepth 65536 in
set_option maxHeartbeats 40000000 in
theorem rm_cma2 (l : Launch) (Z : State) (a0 : Array Value) (hw : ∀ d ∈ tables_1, d.before a0 Z = true) (ws : List Jvm.Cond) (a : Nat) (d : Nat) (c0 : Int32) (c1 : Int32) (k_a : ClassId) (k_d : ClassId) (h0 : Heap) (n0 : Nat) (Z0 : n0 ≤ h0.size) (V_a : Arv Z h0 a k_a .char (2 : Int32) [(.int c0), (.int c1)] (.int (0 : Int32))) (V_d : Arv Z h0 d k_d .byte (2 : Int32) [(.int (0 : Int32)), (.int (0 : Int32))] (.int (0 : Int32))) (g_d : n0 ≤ d) (hne : a ≠ d) :
    own_MF l ym_9 jdk_52_method_21_code 7 (some .int) ⟨0, 0, 0, 0⟩ ws Z #[(.ref a), (.int 0), (.ref d), (.int 0), (.int 2)] h0 (Q_rm_cma2 Z a d c0 c1 k_a k_d h0 n0) := by
  refine own_begin (plainFor_of_name pn_2) (fun m => ef_20 m a d) ?_
  intro p e s m below meth c s₁ hret hx hby hml hown hnm hlk X0 e0 hh hZ
  have N0 := Fr.nil n0
  have lt_V_a := own_ltN V_a.lt
  have lt_V_d := own_ltN V_d.lt
  refine og s₁ (mkF m 1 #[rv a, iv 0, rv d, iv 0, iv 2, .unset, .unset] [(.int 0)]) (fun t_ k_ => XS.iconst X0.here hx rfl (hb hby d_jdk_52_21_0) k_) ?_
  refine og s₁ (mkF m 3 #[rv a, iv 0, rv d, iv 0, iv 2, iv 0, .unset] []) (fun t_ k_ => XS.istore X0.here hx rfl (hb hby d_jdk_52_21_1) rfl (l' := #[rv a, iv 0, rv d, iv 0, iv 2, iv 0, .unset]) rfl k_) ?_
  refine og s₁ (mkF m 5 #[rv a, iv 0, rv d, iv 0, iv 2, iv 0, .unset] [(.int 0)]) (fun t_ k_ => XS.iload X0.here hx rfl (hb hby d_jdk_52_21_3) rfl k_) ?_
  refine og s₁ (mkF m 7 #[rv a, iv 0, rv d, iv 0, iv 2, iv 0, .unset] [(.int 2), (.int 0)]) (fun t_ k_ => XS.iload X0.here hx rfl (hb hby d_jdk_52_21_5) rfl k_) ?_
  refine og s₁ (mkF m 10 #[rv a, iv 0, rv d, iv 0, iv 2, iv 0, .unset] []) (fun t_ k_ => XS.icmpNo X0.here hx rfl (hb hby d_jdk_52_21_7) rfl (tlt (by decide)).2.1 k_) ?_
  refine og s₁ (mkF m 11 #[rv a, iv 0, rv d, iv 0, iv 2, iv 0, .unset] [(.ref a)]) (fun t_ k_ => XS.aloadN X0.here hx rfl (hb hby d_jdk_52_21_10) rfl rfl k_) ?_
  refine og s₁ (mkF m 12 #[rv a, iv 0, rv d, iv 0, iv 2, iv 0, .unset] [(.int 0), (.ref a)]) (fun t_ k_ => XS.iloadN X0.here hx rfl (hb hby d_jdk_52_21_11) rfl k_) ?_
  obtain ⟨cl1, Ar1, -, S1, Nn1, H1, -⟩ := id V_a
  have hin1 : ¬ ((0 : Int32) < 0 ∨ cl1.slots.size ≤ ((0 : Int32)).toNatClampNeg) := inb_of S1 ⟨by decide, by decide⟩
  refine og s₁ (mkF m 13 #[rv a, iv 0, rv d, iv 0, iv 2, iv 0, .unset] [(.int c0)]) (fun t_ k_ => X0.caload hx (j := (0 : Int32)) (v := (.int c0)) (by rw [e0]; exact Ar1.1) (State.isArrayOf_alike hZ.alike Ar1.2.1) Ar1.2.2 hin1 (H1.at hin1 rfl) (g := (mkF m 12 #[rv a, iv 0, rv d, iv 0, iv 2, iv 0, .unset] [(.int 0), (.ref a)])) rfl rfl (hb hby d_jdk_52_21_12) _ k_) ?_
  refine og s₁ (mkF m 15 #[rv a, iv 0, rv d, iv 0, iv 2, iv 0, iv c0] []) (fun t_ k_ => XS.istore X0.here hx rfl (hb hby d_jdk_52_21_13) rfl (l' := #[rv a, iv 0, rv d, iv 0, iv 2, iv 0, iv c0]) rfl k_) ?_
  refine og s₁ (mkF m 17 #[rv a, iv 0, rv d, iv 0, iv 2, iv 0, iv c0] [(.int c0)]) (fun t_ k_ => XS.iload X0.here hx rfl (hb hby d_jdk_52_21_15) rfl k_) ?_
  refine og s₁ (mkF m 20 #[rv a, iv 0, rv d, iv 0, iv 2, iv 0, iv c0] [(.int 255), (.int c0)]) (fun t_ k_ => XS.sipush X0.here hx rfl (hb hby d_jdk_52_21_17) k_) ?_
  by_cases hq2_ : (255 : Int32) < c0
  · skip
    refine og s₁ (mkF m 23 #[rv a, iv 0, rv d, iv 0, iv 2, iv 0, iv c0] []) (fun t_ k_ => XS.icmpNo X0.here hx rfl (hb hby d_jdk_52_21_20) rfl (tlt hq2_).2.2.2 k_) ?_
    refine og s₁ (mkF m 25 #[rv a, iv 0, rv d, iv 0, iv 2, iv 0, iv c0] [(.int 0)]) (fun t_ k_ => XS.iload X0.here hx rfl (hb hby d_jdk_52_21_23) rfl k_) ?_
    exact own_out X0 (v := some (.int 0)) (fun h => by rw [hret] at h; cases h) hlk (fun fs hr => retI X0 hx hret (hb hby d_jdk_52_21_25) hr) (Q := Q_rm_cma2 Z a d c0 c1 k_a k_d h0 n0) (by rw [e0]; exact ⟨(0 : Int32), rfl, N0, (Keep.refl h0 [d]), (Or.inr (Or.inl ⟨rfl, hq2_⟩))⟩) (by decide) (by decide)
  · skip
    refine og s₁ (mkF m 26 #[rv a, iv 0, rv d, iv 0, iv 2, iv 0, iv c0] []) (fun t_ k_ => XS.icmpYes X0.here hx rfl (pc0 := 20) (pc' := 26) rfl (hb hby d_jdk_52_21_20) rfl (flt hq2_).2.2.2 (by decide) (by decide) k_) ?_
    refine og s₁ (mkF m 27 #[rv a, iv 0, rv d, iv 0, iv 2, iv 0, iv c0] [(.ref d)]) (fun t_ k_ => XS.aloadN X0.here hx rfl (hb hby d_jdk_52_21_26) rfl rfl k_) ?_
    refine og s₁ (mkF m 28 #[rv a, iv 0, rv d, iv 0, iv 2, iv 0, iv c0] [(.int 0), (.ref d)]) (fun t_ k_ => XS.iloadN X0.here hx rfl (hb hby d_jdk_52_21_27) rfl k_) ?_
    refine og s₁ (mkF m 30 #[rv a, iv 0, rv d, iv 0, iv 2, iv 0, iv c0] [(.int c0), (.int 0), (.ref d)]) (fun t_ k_ => XS.iload X0.here hx rfl (hb hby d_jdk_52_21_28) rfl k_) ?_
    refine og s₁ (mkF m 31 #[rv a, iv 0, rv d, iv 0, iv 2, iv 0, iv c0] [(.int (c0.toInt8.toInt32)), (.int 0), (.ref d)]) (fun t_ k_ => XS.i2b X0.here hx rfl (hb hby d_jdk_52_21_30) rfl k_) ?_
    obtain ⟨cl3, Ar3, q3, S3, Nn3, H3, G3⟩ := id V_d
    have hin3 : ¬ ((0 : Int32) < 0 ∨ cl3.slots.size ≤ ((0 : Int32)).toNatClampNeg) := inb_of S3 ⟨by decide, by decide⟩
    obtain ⟨T3, h3, X3, e3, W3, st3⟩ := stB X0 hx hZ e0 Ar3 (j := (0 : Int32)) hin3 (g := (mkF m 31 #[rv a, iv 0, rv d, iv 0, iv 2, iv 0, iv c0] [(.int (c0.toInt8.toInt32)), (.int 0), (.ref d)])) rfl rfl (hb hby d_jdk_52_21_31)
    have V3 : Arv Z h3 d k_d .byte (2 : Int32) [(.int (c0.toInt8.toInt32)), (.int (0 : Int32))] (.int (0 : Int32)) := by
      have q0 := Arv.set Ar3 q3 S3 Nn3 H3 G3 (fits_nar_byte _) W3 0 rfl (Nat.le_of_ble_eq_true rfl)
      first | rw [own_i8] at q0 | skip
      exact q0
    have z3 := W3.size
    have N3 := Fr.snoc X3 N0 (show n0 ≤ d by omega)
    have K3 := (Keep.refl h0 [d]).wr W3 (Or.inl (List.mem_of_getElem? (i := 0) rfl))
    refine og T3 (mkF m 32 #[rv a, iv 0, rv d, iv 0, iv 2, iv 0, iv c0] []) (fun t_ k_ => st3 _ k_) ?_
    refine og T3 (mkF m 35 #[rv a, iv 1, rv d, iv 0, iv 2, iv 0, iv c0] []) (fun t_ k_ => XS.iinc X3.here hx rfl (hb hby d_jdk_52_21_32) rfl (l' := #[rv a, iv 1, rv d, iv 0, iv 2, iv 0, iv c0]) rfl k_) ?_
    refine og T3 (mkF m 38 #[rv a, iv 1, rv d, iv 1, iv 2, iv 0, iv c0] []) (fun t_ k_ => XS.iinc X3.here hx rfl (hb hby d_jdk_52_21_35) rfl (l' := #[rv a, iv 1, rv d, iv 1, iv 2, iv 0, iv c0]) rfl k_) ?_
    refine og T3 (mkF m 41 #[rv a, iv 1, rv d, iv 1, iv 2, iv 1, iv c0] []) (fun t_ k_ => XS.iinc X3.here hx rfl (hb hby d_jdk_52_21_38) rfl (l' := #[rv a, iv 1, rv d, iv 1, iv 2, iv 1, iv c0]) rfl k_) ?_
    refine og T3 (mkF m 3 #[rv a, iv 1, rv d, iv 1, iv 2, iv 1, iv c0] []) (fun t_ k_ => XS.goto X3.here hx rfl (pc0 := 41) (pc' := 3) rfl (hb hby d_jdk_52_21_41) (by decide) (by decide) k_) ?_
    refine og T3 (mkF m 5 #[rv a, iv 1, rv d, iv 1, iv 2, iv 1, iv c0] [(.int 1)]) (fun t_ k_ => XS.iload X3.here hx rfl (hb hby d_jdk_52_21_3) rfl k_) ?_
    refine og T3 (mkF m 7 #[rv a, iv 1, rv d, iv 1, iv 2, iv 1, iv c0] [(.int 2), (.int 1)]) (fun t_ k_ => XS.iload X3.here hx rfl (hb hby d_jdk_52_21_5) rfl k_) ?_
    refine og T3 (mkF m 10 #[rv a, iv 1, rv d, iv 1, iv 2, iv 1, iv c0] []) (fun t_ k_ => XS.icmpNo X3.here hx rfl (hb hby d_jdk_52_21_7) rfl (tlt (by decide)).2.1 k_) ?_
    refine og T3 (mkF m 11 #[rv a, iv 1, rv d, iv 1, iv 2, iv 1, iv c0] [(.ref a)]) (fun t_ k_ => XS.aloadN X3.here hx rfl (hb hby d_jdk_52_21_10) rfl rfl k_) ?_
    refine og T3 (mkF m 12 #[rv a, iv 1, rv d, iv 1, iv 2, iv 1, iv c0] [(.int 1), (.ref a)]) (fun t_ k_ => XS.iloadN X3.here hx rfl (hb hby d_jdk_52_21_11) rfl k_) ?_
    have ff5 := (V_a.other W3 hne)
    obtain ⟨cl4, Ar4, -, S4, Nn4, H4, -⟩ := id ff5
    have hin4 : ¬ ((1 : Int32) < 0 ∨ cl4.slots.size ≤ ((1 : Int32)).toNatClampNeg) := inb_of S4 ⟨by decide, by decide⟩
    refine og T3 (mkF m 13 #[rv a, iv 1, rv d, iv 1, iv 2, iv 1, iv c0] [(.int c1)]) (fun t_ k_ => X3.caload hx (j := (1 : Int32)) (v := (.int c1)) (by rw [e3]; exact Ar4.1) (State.isArrayOf_alike hZ.alike Ar4.2.1) Ar4.2.2 hin4 (H4.at hin4 rfl) (g := (mkF m 12 #[rv a, iv 1, rv d, iv 1, iv 2, iv 1, iv c0] [(.int 1), (.ref a)])) rfl rfl (hb hby d_jdk_52_21_12) _ k_) ?_
    refine og T3 (mkF m 15 #[rv a, iv 1, rv d, iv 1, iv 2, iv 1, iv c1] []) (fun t_ k_ => XS.istore X3.here hx rfl (hb hby d_jdk_52_21_13) rfl (l' := #[rv a, iv 1, rv d, iv 1, iv 2, iv 1, iv c1]) rfl k_) ?_
    refine og T3 (mkF m 17 #[rv a, iv 1, rv d, iv 1, iv 2, iv 1, iv c1] [(.int c1)]) (fun t_ k_ => XS.iload X3.here hx rfl (hb hby d_jdk_52_21_15) rfl k_) ?_
    refine og T3 (mkF m 20 #[rv a, iv 1, rv d, iv 1, iv 2, iv 1, iv c1] [(.int 255), (.int c1)]) (fun t_ k_ => XS.sipush X3.here hx rfl (hb hby d_jdk_52_21_17) k_) ?_
    by_cases hq6_ : (255 : Int32) < c1
    · skip
      refine og T3 (mkF m 23 #[rv a, iv 1, rv d, iv 1, iv 2, iv 1, iv c1] []) (fun t_ k_ => XS.icmpNo X3.here hx rfl (hb hby d_jdk_52_21_20) rfl (tlt hq6_).2.2.2 k_) ?_
      refine og T3 (mkF m 25 #[rv a, iv 1, rv d, iv 1, iv 2, iv 1, iv c1] [(.int 1)]) (fun t_ k_ => XS.iload X3.here hx rfl (hb hby d_jdk_52_21_23) rfl k_) ?_
      exact own_out X3 (v := some (.int 1)) (fun h => by rw [hret] at h; cases h) hlk (fun fs hr => retI X3 hx hret (hb hby d_jdk_52_21_25) hr) (Q := Q_rm_cma2 Z a d c0 c1 k_a k_d h0 n0) (by rw [e3]; exact ⟨(1 : Int32), rfl, N3, K3, (Or.inr (Or.inr (⟨rfl, hq6_⟩)))⟩) (by decide) (by decide)
    · skip
      refine og T3 (mkF m 26 #[rv a, iv 1, rv d, iv 1, iv 2, iv 1, iv c1] []) (fun t_ k_ => XS.icmpYes X3.here hx rfl (pc0 := 20) (pc' := 26) rfl (hb hby d_jdk_52_21_20) rfl (flt hq6_).2.2.2 (by decide) (by decide) k_) ?_
      refine og T3 (mkF m 27 #[rv a, iv 1, rv d, iv 1, iv 2, iv 1, iv c1] [(.ref d)]) (fun t_ k_ => XS.aloadN X3.here hx rfl (hb hby d_jdk_52_21_26) rfl rfl k_) ?_
      refine og T3 (mkF m 28 #[rv a, iv 1, rv d, iv 1, iv 2, iv 1, iv c1] [(.int 1), (.ref d)]) (fun t_ k_ => XS.iloadN X3.here hx rfl (hb hby d_jdk_52_21_27) rfl k_) ?_
      refine og T3 (mkF m 30 #[rv a, iv 1, rv d, iv 1, iv 2, iv 1, iv c1] [(.int c1), (.int 1), (.ref d)]) (fun t_ k_ => XS.iload X3.here hx rfl (hb hby d_jdk_52_21_28) rfl k_) ?_
      refine og T3 (mkF m 31 #[rv a, iv 1, rv d, iv 1, iv 2, iv 1, iv c1] [(.int (c1.toInt8.toInt32)), (.int 1), (.ref d)]) (fun t_ k_ => XS.i2b X3.here hx rfl (hb hby d_jdk_52_21_30) rfl k_) ?_
      obtain ⟨cl7, Ar7, q7, S7, Nn7, H7, G7⟩ := id V3
      have hin7 : ¬ ((1 : Int32) < 0 ∨ cl7.slots.size ≤ ((1 : Int32)).toNatClampNeg) := inb_of S7 ⟨by decide, by decide⟩
      obtain ⟨T7, h7, X7, e7, W7, st7⟩ := stB X3 hx hZ e3 Ar7 (j := (1 : Int32)) hin7 (g := (mkF m 31 #[rv a, iv 1, rv d, iv 1, iv 2, iv 1, iv c1] [(.int (c1.toInt8.toInt32)), (.int 1), (.ref d)])) rfl rfl (hb hby d_jdk_52_21_31)
      have V7 : Arv Z h7 d k_d .byte (2 : Int32) [(.int (c0.toInt8.toInt32)), (.int (c1.toInt8.toInt32))] (.int (0 : Int32)) := by
        have q0 := Arv.set Ar7 q7 S7 Nn7 H7 G7 (fits_nar_byte _) W7 1 rfl (Nat.le_of_ble_eq_true rfl)
        first | rw [own_i8] at q0 | skip
        exact q0
      have z7 := W7.size
      have N7 := Fr.snoc X7 N3 (show n0 ≤ d by omega)
      have K7 := K3.wr W7 (Or.inl (List.mem_of_getElem? (i := 0) rfl))
      refine og T7 (mkF m 32 #[rv a, iv 1, rv d, iv 1, iv 2, iv 1, iv c1] []) (fun t_ k_ => st7 _ k_) ?_
      refine og T7 (mkF m 35 #[rv a, iv 2, rv d, iv 1, iv 2, iv 1, iv c1] []) (fun t_ k_ => XS.iinc X7.here hx rfl (hb hby d_jdk_52_21_32) rfl (l' := #[rv a, iv 2, rv d, iv 1, iv 2, iv 1, iv c1]) rfl k_) ?_
      refine og T7 (mkF m 38 #[rv a, iv 2, rv d, iv 2, iv 2, iv 1, iv c1] []) (fun t_ k_ => XS.iinc X7.here hx rfl (hb hby d_jdk_52_21_35) rfl (l' := #[rv a, iv 2, rv d, iv 2, iv 2, iv 1, iv c1]) rfl k_) ?_
      refine og T7 (mkF m 41 #[rv a, iv 2, rv d, iv 2, iv 2, iv 2, iv c1] []) (fun t_ k_ => XS.iinc X7.here hx rfl (hb hby d_jdk_52_21_38) rfl (l' := #[rv a, iv 2, rv d, iv 2, iv 2, iv 2, iv c1]) rfl k_) ?_
      refine og T7 (mkF m 3 #[rv a, iv 2, rv d, iv 2, iv 2, iv 2, iv c1] []) (fun t_ k_ => XS.goto X7.here hx rfl (pc0 := 41) (pc' := 3) rfl (hb hby d_jdk_52_21_41) (by decide) (by decide) k_) ?_
      refine og T7 (mkF m 5 #[rv a, iv 2, rv d, iv 2, iv 2, iv 2, iv c1] [(.int 2)]) (fun t_ k_ => XS.iload X7.here hx rfl (hb hby d_jdk_52_21_3) rfl k_) ?_
      refine og T7 (mkF m 7 #[rv a, iv 2, rv d, iv 2, iv 2, iv 2, iv c1] [(.int 2), (.int 2)]) (fun t_ k_ => XS.iload X7.here hx rfl (hb hby d_jdk_52_21_5) rfl k_) ?_
      refine og T7 (mkF m 44 #[rv a, iv 2, rv d, iv 2, iv 2, iv 2, iv c1] []) (fun t_ k_ => XS.icmpYes X7.here hx rfl (pc0 := 7) (pc' := 44) rfl (hb hby d_jdk_52_21_7) rfl (flt (by decide)).2.1 (by decide) (by decide) k_) ?_
      refine og T7 (mkF m 46 #[rv a, iv 2, rv d, iv 2, iv 2, iv 2, iv c1] [(.int 2)]) (fun t_ k_ => XS.iload X7.here hx rfl (hb hby d_jdk_52_21_44) rfl k_) ?_
      exact own_out X7 (v := some (.int 2)) (fun h => by rw [hret] at h; cases h) hlk (fun fs hr => retI X7 hx hret (hb hby d_jdk_52_21_46) hr) (Q := Q_rm_cma2 Z a d c0 c1 k_a k_d h0 n0) (by rw [e7]; exact ⟨(2 : Int32), rfl, N7, K7, (Or.inl ⟨rfl, ⟨hq2_, hq6_⟩, V7⟩)⟩) (by decide) (by decide)
theorem ef_21 (m : MethodId) (a : Nat) : entryFrame m #[(.ref a), (.int 0), (.int 2)] 6 = mkF m 0 #[rv a, iv 0, iv 2, .unset, .unset, .unset] [] := by first | (simp [entryFrame, mkF, argsToLocals, Value.category]; done) | rfl
def Q_rm_cmb2 (Z : State) (a : Nat) (c0 : Int32) (c1 : Int32) (k_a : ClassId) (h0 : Heap) (n0 : Nat) (vv : Option Value) (h : Heap) (LL : List Loc) : Prop := ∃ b : Nat, ∃ kb : ClassId, vv = some (.ref b) ∧ Fr n0 LL ∧ Keep h0 h [] ∧ (h0.size ≤ b ∧ b < h.size) ∧ (((¬ (255 : Int32) < c0 ∧ ¬ (255 : Int32) < c1) ∧ Arv Z h b kb .byte (2 : Int32) [(.int c0.toInt8.toInt32), (.int c1.toInt8.toInt32)] (.int (0 : Int32))) ∨ Arv Z h b kb .byte (4 : Int32) [(.int ((c0 >>> ((0 : Int32) &&& 31)).toInt8.toInt32)), (.int ((c0 >>> ((8 : Int32) &&& 31)).toInt8.toInt32)), (.int ((c1 >>> ((0 : Int32) &&& 31)).toInt8.toInt32)), (.int ((c1 >>> ((8 : Int32) &&& 31)).toInt8.toInt32))] (.int (0 : Int32)))
set_option maxRecDepth 65536 in
set_option maxHeartbeats 40000000 in
theorem rm_cmb2 (l : Launch) (Z : State) (a0 : Array Value) (hw : ∀ d ∈ tables_1, d.before a0 Z = true) (ws : List Jvm.Cond) (a : Nat) (c0 : Int32) (c1 : Int32) (k_a : ClassId) (h0 : Heap) (n0 : Nat) (Z0 : n0 ≤ h0.size) (hrc0 : ¬ (c0 < (0 : Int32)) ∧ ¬ ((65535 : Int32) < c0)) (hrc1 : ¬ (c1 < (0 : Int32)) ∧ ¬ ((65535 : Int32) < c1)) (V_a : Arv Z h0 a k_a .char (2 : Int32) [(.int c0), (.int c1)] (.int (0 : Int32))) (O0 : Old Z n0 h0) (S__assertionsDisabled : Sta Z Z.heap "java/lang/StringUTF16" "$assertionsDisabled" "Z" (.int 1)) (S_HI_BYTE_SHIFT : Sta Z Z.heap "java/lang/StringUTF16" "HI_BYTE_SHIFT" "I" (.int 0)) (S_LO_BYTE_SHIFT : Sta Z Z.heap "java/lang/StringUTF16" "LO_BYTE_SHIFT" "I" (.int 8)) :
    own_MF l ym_10 jdk_52_method_16_code 6 (some (.array .byte)) ⟨3, 2, 6, 40⟩ ws Z #[(.ref a), (.int 0), (.int 2)] h0 (Q_rm_cmb2 Z a c0 c1 k_a h0 n0) := by
  refine own_begin (plainFor_of_name pn_2) (fun m => ef_21 m a) ?_
  intro p e s m below meth c s₁ hret hx hby hml hown hnm hlk X0 e0 hh hZ
  have N0 := Fr.nil n0
  have lt_V_a := own_ltN V_a.lt
  refine og s₁ (mkF m 1 #[rv a, iv 0, iv 2, .unset, .unset, .unset] [(.int 2)]) (fun t_ k_ => XS.iloadN X0.here hx rfl (hb hby d_jdk_52_16_0) rfl k_) ?_
  obtain ⟨T1, h1, k1, X1, e1, E1, A1, st1⟩ := newP X0 hx hZ (own_w hw 7 rfl) e0 (g := (mkF m 1 #[rv a, iv 0, iv 2, .unset, .unset, .unset] [(.int 2)])) rfl (hb hby d_jdk_52_16_1) rfl (by decide) (cap := 2) (by decide) (by decide) (by decide) (by decide)
  obtain ⟨b1, g1⟩ : ∃ z, z = h0.size := ⟨_, rfl⟩
  rw [← g1] at A1 st1
  have V1 : Arv Z h1 b1 k1 .byte (2 : Int32) [(.int (0 : Int32)), (.int (0 : Int32))] (.int (0 : Int32)) := (Arv.new A1 (by decide)).pad (pad_rep [] (.int (0 : Int32)) 2)
  have l1 := own_ltN V1.lt
  have z1 := E1.1
  have O1 := O0.ext E1
  have K1 := (Keep.refl h0 []).ext E1
  refine og T1 (mkF m 3 #[rv a, iv 0, iv 2, .unset, .unset, .unset] [(.ref b1)]) (fun t_ k_ => st1 _ k_) ?_
  refine og T1 (mkF m 4 #[rv a, iv 0, iv 2, rv b1, .unset, .unset] []) (fun t_ k_ => XS.astoreN X1.here hx rfl (hb hby d_jdk_52_16_3) rfl rfl (l' := #[rv a, iv 0, iv 2, rv b1, .unset, .unset]) rfl k_) ?_
  refine og T1 (mkF m 5 #[rv a, iv 0, iv 2, rv b1, .unset, .unset] [(.ref a)]) (fun t_ k_ => XS.aloadN X1.here hx rfl (hb hby d_jdk_52_16_4) rfl rfl k_) ?_
  refine og T1 (mkF m 6 #[rv a, iv 0, iv 2, rv b1, .unset, .unset] [(.int 0), (.ref a)]) (fun t_ k_ => XS.iloadN X1.here hx rfl (hb hby d_jdk_52_16_5) rfl k_) ?_
  refine og T1 (mkF m 7 #[rv a, iv 0, iv 2, rv b1, .unset, .unset] [(.ref b1), (.int 0), (.ref a)]) (fun t_ k_ => XS.aloadN X1.here hx rfl (hb hby d_jdk_52_16_6) rfl rfl k_) ?_
  refine og T1 (mkF m 8 #[rv a, iv 0, iv 2, rv b1, .unset, .unset] [(.int 0), (.ref b1), (.int 0), (.ref a)]) (fun t_ k_ => XS.iconst X1.here hx rfl (hb hby d_jdk_52_16_7) k_) ?_
  refine og T1 (mkF m 9 #[rv a, iv 0, iv 2, rv b1, .unset, .unset] [(.int 2), (.int 0), (.ref b1), (.int 0), (.ref a)]) (fun t_ k_ => XS.iloadN X1.here hx rfl (hb hby d_jdk_52_16_8) rfl k_) ?_
  have ff3 := (V_a.ext E1)
  obtain ⟨_, _, ⟨T2, L2, k2, n2⟩, -, X2, ⟨Lc2, hQ2, l2, y2, z2⟩, st2⟩ := Jvm.LawKit.callS X1 hx (y := ym_9) hown (mvT hZ (own_w hw 68 rfl)) (mvT hZ (own_w hw 69 rfl)) (mvT hZ (own_w hw 66 rfl)) (mvT hZ (own_w hw 70 rfl)) (by decide) (backOf (W := 0) (rm_cma2 l Z a0 hw [] a b1 c0 c1 k_a k1 h1 n0 (show n0 ≤ h1.size by omega) ff3 V1 (show n0 ≤ b1 by omega) (show a ≠ b1 by omega)) hZ (own_w hw 70 rfl) (own_w hw 66 rfl) (by decide) (by decide)) (g := (mkF m 9 #[rv a, iv 0, iv 2, rv b1, .unset, .unset] [(.int 2), (.int 0), (.ref b1), (.int 0), (.ref a)])) rfl (by rw [hml]; rfl) (argsL := [(.ref a), (.int 0), (.ref b1), (.int 0), (.int 2)]) (rest := []) (lenOf pd_4 rfl) rfl (by show 2 * 0 + _ ≤ _; exact Nat.le_of_eq rfl) (hb hby d_jdk_52_16_9) (fun _ _ => ⟨rfl, e1, (by decide : 1 + 0 ≤ _), (by decide : 2 + 0 ≤ _)⟩)
  dsimp only [Pt.U, Pt.locs, Pt.cells, Pt.slots] at X2 l2 y2 z2 st2 hQ2
  subst l2 y2 z2
  obtain ⟨r2, rfl, M2, K2_, f2_0⟩ := hQ2
  have zz2 := K2_.1
  have O2 := O1.keep K2_ (allS (show n0 ≤ b1 by omega) all0)
  have K2 := K1.trans K2_ (allS (Or.inr (show h0.size ≤ b1 by omega)) all0)
  have N2 := Fr.app N0 M2
  refine og T2 (mkF m 12 #[rv a, iv 0, iv 2, rv b1, .unset, .unset] [(.int r2)]) (fun t_ k_ => st2 _ k_) ?_
  rcases f2_0 with ⟨rq, hle, hV⟩ | ⟨rq, hgt⟩ | ⟨rq, hgt⟩
  · subst rq
    refine og T2 (mkF m 14 #[rv a, iv 0, iv 2, rv b1, iv 2, .unset] []) (fun t_ k_ => XS.istore X2.here hx rfl (hb hby d_jdk_52_16_12) rfl (l' := #[rv a, iv 0, iv 2, rv b1, iv 2, .unset]) rfl k_) ?_
    refine og T2 (mkF m 16 #[rv a, iv 0, iv 2, rv b1, iv 2, .unset] [(.int 2)]) (fun t_ k_ => XS.iload X2.here hx rfl (hb hby d_jdk_52_16_14) rfl k_) ?_
    refine og T2 (mkF m 17 #[rv a, iv 0, iv 2, rv b1, iv 2, .unset] [(.int 2), (.int 2)]) (fun t_ k_ => XS.iloadN X2.here hx rfl (hb hby d_jdk_52_16_16) rfl k_) ?_
    refine og T2 (mkF m 57 #[rv a, iv 0, iv 2, rv b1, iv 2, .unset] []) (fun t_ k_ => XS.icmpYes X2.here hx rfl (pc0 := 17) (pc' := 57) rfl (hb hby d_jdk_52_16_17) rfl (teq (by decide)).1 (by decide) (by decide) k_) ?_
    refine og T2 (mkF m 58 #[rv a, iv 0, iv 2, rv b1, iv 2, .unset] [(.ref b1)]) (fun t_ k_ => XS.aloadN X2.here hx rfl (hb hby d_jdk_52_16_57) rfl rfl k_) ?_
    exact own_out X2 (v := some (.ref b1)) (fun h => by rw [hret] at h; cases h) hlk (fun fs hr => own_retA X2 hx hret rfl rfl (hb hby d_jdk_52_16_58) hr) (Q := Q_rm_cmb2 Z a c0 c1 k_a h0 n0) (by exact ⟨b1, k1, rfl, N2, K2, ⟨by omega, by omega⟩, (Or.inl ⟨hle, hV⟩)⟩) (by decide) (by decide)
  · subst rq
    refine og T2 (mkF m 14 #[rv a, iv 0, iv 2, rv b1, iv 0, .unset] []) (fun t_ k_ => XS.istore X2.here hx rfl (hb hby d_jdk_52_16_12) rfl (l' := #[rv a, iv 0, iv 2, rv b1, iv 0, .unset]) rfl k_) ?_
    refine og T2 (mkF m 16 #[rv a, iv 0, iv 2, rv b1, iv 0, .unset] [(.int 0)]) (fun t_ k_ => XS.iload X2.here hx rfl (hb hby d_jdk_52_16_14) rfl k_) ?_
    refine og T2 (mkF m 17 #[rv a, iv 0, iv 2, rv b1, iv 0, .unset] [(.int 2), (.int 0)]) (fun t_ k_ => XS.iloadN X2.here hx rfl (hb hby d_jdk_52_16_16) rfl k_) ?_
    refine og T2 (mkF m 20 #[rv a, iv 0, iv 2, rv b1, iv 0, .unset] []) (fun t_ k_ => XS.icmpNo X2.here hx rfl (hb hby d_jdk_52_16_17) rfl (feq (by decide)).1 k_) ?_
    refine og T2 (mkF m 21 #[rv a, iv 0, iv 2, rv b1, iv 0, .unset] [(.ref a)]) (fun t_ k_ => XS.aloadN X2.here hx rfl (hb hby d_jdk_52_16_20) rfl rfl k_) ?_
    refine og T2 (mkF m 22 #[rv a, iv 0, iv 2, rv b1, iv 0, .unset] [(.int 0), (.ref a)]) (fun t_ k_ => XS.iloadN X2.here hx rfl (hb hby d_jdk_52_16_21) rfl k_) ?_
    refine og T2 (mkF m 23 #[rv a, iv 0, iv 2, rv b1, iv 0, .unset] [(.int 2), (.int 0), (.ref a)]) (fun t_ k_ => XS.iloadN X2.here hx rfl (hb hby d_jdk_52_16_22) rfl k_) ?_
    have ff5 := (ff3.keep K2_ (ninS (own_ne (by omega)) nin0))
    obtain ⟨_, _, ⟨T4, L4, k4, n4⟩, -, X4, ⟨Lc4, hQ4, l4, y4, z4⟩, st4⟩ := Jvm.LawKit.callS X2 hx (y := ym_8) hown (mvT hZ (own_w hw 79 rfl)) (mvT hZ (own_w hw 80 rfl)) (mvT hZ (own_w hw 66 rfl)) (mvT hZ (own_w hw 81 rfl)) (by decide) (backOf (W := 0) (rm_tob2 l Z a0 hw [] a c0 c1 k_a T2.heap n0 (show n0 ≤ T2.heap.size by omega) hrc0 hrc1 ff5 O2 S__assertionsDisabled S_HI_BYTE_SHIFT S_LO_BYTE_SHIFT) hZ (own_w hw 81 rfl) (own_w hw 66 rfl) (by decide) (by decide)) (g := (mkF m 23 #[rv a, iv 0, iv 2, rv b1, iv 0, .unset] [(.int 2), (.int 0), (.ref a)])) rfl (by rw [hml]; rfl) (argsL := [(.ref a), (.int 0), (.int 2)]) (rest := []) (lenOf pd_5 rfl) rfl (by show 2 * 0 + _ ≤ _; exact Nat.le_of_eq rfl) (hb hby d_jdk_52_16_23) (fun _ _ => ⟨rfl, rfl, (by decide : 1 + 1 ≤ _), (by decide : 2 + 4 ≤ _)⟩)
    dsimp only [Pt.U, Pt.locs, Pt.cells, Pt.slots] at X4 l4 y4 z4 st4 hQ4
    subst l4 y4 z4
    obtain ⟨b4, kb4, rfl, M4, K4_, ⟨lob4, hib4⟩, f4_0⟩ := hQ4
    have zz4 := K4_.1
    have O4 := O2.keep K4_ all0
    have K4 := K2.trans K4_ all0
    have N4 := Fr.app N2 M4
    refine og T4 (mkF m 26 #[rv a, iv 0, iv 2, rv b1, iv 0, .unset] [(.ref b4)]) (fun t_ k_ => st4 _ k_) ?_
    refine og T4 (mkF m 28 #[rv a, iv 0, iv 2, rv b1, iv 0, rv b4] []) (fun t_ k_ => XS.astore X4.here hx rfl (hb hby d_jdk_52_16_26) rfl rfl (l' := #[rv a, iv 0, iv 2, rv b1, iv 0, rv b4]) rfl k_) ?_
    refine og T4 (mkF m 30 #[rv a, iv 0, iv 2, rv b1, iv 0, rv b4] [(.ref b4)]) (fun t_ k_ => XS.aload X4.here hx rfl (hb hby d_jdk_52_16_28) rfl rfl k_) ?_
    refine og T4 (mkF m 32 #[rv a, iv 0, iv 2, rv b1, iv 0, rv b4] [(.int 0), (.ref b4)]) (fun t_ k_ => XS.iload X4.here hx rfl (hb hby d_jdk_52_16_30) rfl k_) ?_
    obtain ⟨_, _, ⟨T6, L6, k6, n6⟩, -, X6, ⟨Lc6, hQ6, l6, y6, z6⟩, st6⟩ := Jvm.LawKit.callS X4 hx (y := ym_7) hown (mvT hZ (own_w hw 95 rfl)) (mvT hZ (own_w hw 96 rfl)) (mvT hZ (own_w hw 66 rfl)) (mvT hZ (own_w hw 97 rfl)) (by decide) (backOf (W := 0) (rm_get2_0 l Z a0 hw [] b4 c0 c1 kb4 T4.heap n0 (show n0 ≤ T4.heap.size by omega) hrc0 hrc1 f4_0 O4 S__assertionsDisabled S_HI_BYTE_SHIFT S_LO_BYTE_SHIFT) hZ (own_w hw 97 rfl) (own_w hw 66 rfl) (by decide) (by decide)) (g := (mkF m 32 #[rv a, iv 0, iv 2, rv b1, iv 0, rv b4] [(.int 0), (.ref b4)])) rfl (by rw [hml]; rfl) (argsL := [(.ref b4), (.int 0)]) (rest := []) (lenOf pd_6 rfl) rfl (by show 2 * 0 + _ ≤ _; exact Nat.le_of_eq rfl) (hb hby d_jdk_52_16_32) (fun _ _ => ⟨rfl, rfl, (by decide : 2 + 0 ≤ _), (by decide : 6 + 0 ≤ _)⟩)
    dsimp only [Pt.U, Pt.locs, Pt.cells, Pt.slots] at X6 l6 y6 z6 st6 hQ6
    subst l6 y6 z6
    obtain ⟨rfl, M6, e6⟩ := hQ6
    have N6 := Fr.app N4 M6
    refine og T6 (mkF m 35 #[rv a, iv 0, iv 2, rv b1, iv 0, rv b4] [(.int c0)]) (fun t_ k_ => st6 _ k_) ?_
    refine og T6 (mkF m 38 #[rv a, iv 0, iv 2, rv b1, iv 0, rv b4] [(.int 255), (.int c0)]) (fun t_ k_ => XS.sipush X6.here hx rfl (hb hby d_jdk_52_16_35) k_) ?_
    refine og T6 (mkF m 54 #[rv a, iv 0, iv 2, rv b1, iv 0, rv b4] []) (fun t_ k_ => XS.icmpYes X6.here hx rfl (pc0 := 38) (pc' := 54) rfl (hb hby d_jdk_52_16_38) rfl (tlt hgt).2.2.1 (by decide) (by decide) k_) ?_
    refine og T6 (mkF m 56 #[rv a, iv 0, iv 2, rv b1, iv 0, rv b4] [(.ref b4)]) (fun t_ k_ => XS.aload X6.here hx rfl (hb hby d_jdk_52_16_54) rfl rfl k_) ?_
    exact own_out X6 (v := some (.ref b4)) (fun h => by rw [hret] at h; cases h) hlk (fun fs hr => own_retA X6 hx hret rfl rfl (hb hby d_jdk_52_16_56) hr) (Q := Q_rm_cmb2 Z a c0 c1 k_a h0 n0) (by rw [e6]; exact ⟨b4, kb4, rfl, N6, K4, ⟨by omega, by omega⟩, (Or.inr f4_0)⟩) (by decide) (by decide)
  · subst rq
    refine og T2 (mkF m 14 #[rv a, iv 0, iv 2, rv b1, iv 1, .unset] []) (fun t_ k_ => XS.istore X2.here hx rfl (hb hby d_jdk_52_16_12) rfl (l' := #[rv a, iv 0, iv 2, rv b1, iv 1, .unset]) rfl k_) ?_
    refine og T2 (mkF m 16 #[rv a, iv 0, iv 2, rv b1, iv 1, .unset] [(.int 1)]) (fun t_ k_ => XS.iload X2.here hx rfl (hb hby d_jdk_52_16_14) rfl k_) ?_
    refine og T2 (mkF m 17 #[rv a, iv 0, iv 2, rv b1, iv 1, .unset] [(.int 2), (.int 1)]) (fun t_ k_ => XS.iloadN X2.here hx rfl (hb hby d_jdk_52_16_16) rfl k_) ?_
    refine og T2 (mkF m 20 #[rv a, iv 0, iv 2, rv b1, iv 1, .unset] []) (fun t_ k_ => XS.icmpNo X2.here hx rfl (hb hby d_jdk_52_16_17) rfl (feq (by decide)).1 k_) ?_
    refine og T2 (mkF m 21 #[rv a, iv 0, iv 2, rv b1, iv 1, .unset] [(.ref a)]) (fun t_ k_ => XS.aloadN X2.here hx rfl (hb hby d_jdk_52_16_20) rfl rfl k_) ?_
    refine og T2 (mkF m 22 #[rv a, iv 0, iv 2, rv b1, iv 1, .unset] [(.int 0), (.ref a)]) (fun t_ k_ => XS.iloadN X2.here hx rfl (hb hby d_jdk_52_16_21) rfl k_) ?_
    refine og T2 (mkF m 23 #[rv a, iv 0, iv 2, rv b1, iv 1, .unset] [(.int 2), (.int 0), (.ref a)]) (fun t_ k_ => XS.iloadN X2.here hx rfl (hb hby d_jdk_52_16_22) rfl k_) ?_
    have ff8 := (ff3.keep K2_ (ninS (own_ne (by omega)) nin0))
    obtain ⟨_, _, ⟨T7, L7, k7, n7⟩, -, X7, ⟨Lc7, hQ7, l7, y7, z7⟩, st7⟩ := Jvm.LawKit.callS X2 hx (y := ym_8) hown (mvT hZ (own_w hw 79 rfl)) (mvT hZ (own_w hw 80 rfl)) (mvT hZ (own_w hw 66 rfl)) (mvT hZ (own_w hw 81 rfl)) (by decide) (backOf (W := 0) (rm_tob2 l Z a0 hw [] a c0 c1 k_a T2.heap n0 (show n0 ≤ T2.heap.size by omega) hrc0 hrc1 ff8 O2 S__assertionsDisabled S_HI_BYTE_SHIFT S_LO_BYTE_SHIFT) hZ (own_w hw 81 rfl) (own_w hw 66 rfl) (by decide) (by decide)) (g := (mkF m 23 #[rv a, iv 0, iv 2, rv b1, iv 1, .unset] [(.int 2), (.int 0), (.ref a)])) rfl (by rw [hml]; rfl) (argsL := [(.ref a), (.int 0), (.int 2)]) (rest := []) (lenOf pd_5 rfl) rfl (by show 2 * 0 + _ ≤ _; exact Nat.le_of_eq rfl) (hb hby d_jdk_52_16_23) (fun _ _ => ⟨rfl, rfl, (by decide : 1 + 1 ≤ _), (by decide : 2 + 4 ≤ _)⟩)
    dsimp only [Pt.U, Pt.locs, Pt.cells, Pt.slots] at X7 l7 y7 z7 st7 hQ7
    subst l7 y7 z7
    obtain ⟨b7, kb7, rfl, M7, K7_, ⟨lob7, hib7⟩, f7_0⟩ := hQ7
    have zz7 := K7_.1
    have O7 := O2.keep K7_ all0
    have K7 := K2.trans K7_ all0
    have N7 := Fr.app N2 M7
    refine og T7 (mkF m 26 #[rv a, iv 0, iv 2, rv b1, iv 1, .unset] [(.ref b7)]) (fun t_ k_ => st7 _ k_) ?_
    refine og T7 (mkF m 28 #[rv a, iv 0, iv 2, rv b1, iv 1, rv b7] []) (fun t_ k_ => XS.astore X7.here hx rfl (hb hby d_jdk_52_16_26) rfl rfl (l' := #[rv a, iv 0, iv 2, rv b1, iv 1, rv b7]) rfl k_) ?_
    refine og T7 (mkF m 30 #[rv a, iv 0, iv 2, rv b1, iv 1, rv b7] [(.ref b7)]) (fun t_ k_ => XS.aload X7.here hx rfl (hb hby d_jdk_52_16_28) rfl rfl k_) ?_
    refine og T7 (mkF m 32 #[rv a, iv 0, iv 2, rv b1, iv 1, rv b7] [(.int 1), (.ref b7)]) (fun t_ k_ => XS.iload X7.here hx rfl (hb hby d_jdk_52_16_30) rfl k_) ?_
    obtain ⟨_, _, ⟨T9, L9, k9, n9⟩, -, X9, ⟨Lc9, hQ9, l9, y9, z9⟩, st9⟩ := Jvm.LawKit.callS X7 hx (y := ym_7) hown (mvT hZ (own_w hw 95 rfl)) (mvT hZ (own_w hw 96 rfl)) (mvT hZ (own_w hw 66 rfl)) (mvT hZ (own_w hw 97 rfl)) (by decide) (backOf (W := 0) (rm_get2_1 l Z a0 hw [] b7 c0 c1 kb7 T7.heap n0 (show n0 ≤ T7.heap.size by omega) hrc0 hrc1 f7_0 O7 S__assertionsDisabled S_HI_BYTE_SHIFT S_LO_BYTE_SHIFT) hZ (own_w hw 97 rfl) (own_w hw 66 rfl) (by decide) (by decide)) (g := (mkF m 32 #[rv a, iv 0, iv 2, rv b1, iv 1, rv b7] [(.int 1), (.ref b7)])) rfl (by rw [hml]; rfl) (argsL := [(.ref b7), (.int 1)]) (rest := []) (lenOf pd_6 rfl) rfl (by show 2 * 0 + _ ≤ _; exact Nat.le_of_eq rfl) (hb hby d_jdk_52_16_32) (fun _ _ => ⟨rfl, rfl, (by decide : 2 + 0 ≤ _), (by decide : 6 + 0 ≤ _)⟩)
    dsimp only [Pt.U, Pt.locs, Pt.cells, Pt.slots] at X9 l9 y9 z9 st9 hQ9
    subst l9 y9 z9
    obtain ⟨rfl, M9, e9⟩ := hQ9
    have N9 := Fr.app N7 M9
    refine og T9 (mkF m 35 #[rv a, iv 0, iv 2, rv b1, iv 1, rv b7] [(.int c1)]) (fun t_ k_ => st9 _ k_) ?_
    refine og T9 (mkF m 38 #[rv a, iv 0, iv 2, rv b1, iv 1, rv b7] [(.int 255), (.int c1)]) (fun t_ k_ => XS.sipush X9.here hx rfl (hb hby d_jdk_52_16_35) k_) ?_
    refine og T9 (mkF m 54 #[rv a, iv 0, iv 2, rv b1, iv 1, rv b7] []) (fun t_ k_ => XS.icmpYes X9.here hx rfl (pc0 := 38) (pc' := 54) rfl (hb hby d_jdk_52_16_38) rfl (tlt hgt).2.2.1 (by decide) (by decide) k_) ?_
    refine og T9 (mkF m 56 #[rv a, iv 0, iv 2, rv b1, iv 1, rv b7] [(.ref b7)]) (fun t_ k_ => XS.aload X9.here hx rfl (hb hby d_jdk_52_16_54) rfl rfl k_) ?_
    exact own_out X9 (v := some (.ref b7)) (fun h => by rw [hret] at h; cases h) hlk (fun fs hr => own_retA X9 hx hret rfl rfl (hb hby d_jdk_52_16_56) hr) (Q := Q_rm_cmb2 Z a c0 c1 k_a h0 n0) (by rw [e9]; exact ⟨b7, kb7, rfl, N9, K7, ⟨by omega, by omega⟩, (Or.inr f7_0)⟩) (by decide) (by decide)
theorem ef_22 (m : MethodId) (a : Nat) : entryFrame m #[(.ref a), (.int 2)] 2 = mkF m 0 #[rv a, iv 2] [] := by first | (simp [entryFrame, mkF, argsToLocals, Value.category]; done) | rfl
def Q_rm_cfa2_2 (Z : State) (a : Nat) (y0 : Int32) (y1 : Int32) (k_a : ClassId) (h0 : Heap) (n0 : Nat) (vv : Option Value) (h : Heap) (LL : List Loc) : Prop := vv = some (.int 0) ∧ Fr n0 LL ∧ h = h0
set_option maxRecDepth 65536 in
set_option maxHeartbeats 40000000 in
theorem rm_cfa2_2 (l : Launch) (Z : State) (a0 : Array Value) (hw : ∀ d ∈ tables_1, d.before a0 Z = true) (ws : List Jvm.Cond) (a : Nat) (y0 : Int32) (y1 : Int32) (k_a : ClassId) (h0 : Heap) (n0 : Nat) (Z0 : n0 ≤ h0.size) (V_a : Arv Z h0 a k_a .byte (2 : Int32) [(.int y0), (.int y1)] (.int (0 : Int32))) :
    own_MF l ym_11 jdk_52_method_15_code 2 (some .byte) ⟨0, 0, 0, 0⟩ ws Z #[(.ref a), (.int 2)] h0 (Q_rm_cfa2_2 Z a y0 y1 k_a h0 n0) := by
  refine own_begin (plainFor_of_name pn_2) (fun m => ef_22 m a) ?_
  intro p e s m below meth c s₁ hret hx hby hml hown hnm hlk X0 e0 hh hZ
  have N0 := Fr.nil n0
  have lt_V_a := own_ltN V_a.lt
  refine og s₁ (mkF m 1 #[rv a, iv 2] [(.int 2)]) (fun t_ k_ => XS.iloadN X0.here hx rfl (hb hby d_jdk_52_15_0) rfl k_) ?_
  refine og s₁ (mkF m 2 #[rv a, iv 2] [(.ref a), (.int 2)]) (fun t_ k_ => XS.aloadN X0.here hx rfl (hb hby d_jdk_52_15_1) rfl rfl k_) ?_
  obtain ⟨cl1, Ar1, -, S1, Nn1, -, -⟩ := id V_a
  refine og s₁ (mkF m 3 #[rv a, iv 2] [(.int 2), (.int 2)]) (fun t_ k_ => X0.arraylength hx (by rw [e0]; exact Ar1.1) (State.isArrayOf_alike hZ.alike Ar1.2.1) (g := (mkF m 2 #[rv a, iv 2] [(.ref a), (.int 2)])) rfl rfl (hb hby d_jdk_52_15_2) _ (by rw [len_of S1 Nn1]; exact k_)) ?_
  refine og s₁ (mkF m 4 #[rv a, iv 2] [(.int 0)]) (fun t_ k_ => XS.isub X0.here hx rfl (hb hby d_jdk_52_15_3) rfl k_) ?_
  refine og s₁ (mkF m 6 #[rv a, iv 2] [(.int 31), (.int 0)]) (fun t_ k_ => XS.bipush X0.here hx rfl (hb hby d_jdk_52_15_4) k_) ?_
  refine og s₁ (mkF m 7 #[rv a, iv 2] [(.int 0)]) (fun t_ k_ => XS.iushr X0.here hx rfl (hb hby d_jdk_52_15_6) rfl k_) ?_
  refine og s₁ (mkF m 8 #[rv a, iv 2] [(.int 0)]) (fun t_ k_ => XS.i2b X0.here hx rfl (hb hby d_jdk_52_15_7) rfl k_) ?_
  exact own_out X0 (v := some (.int (nar .byte (0 : Int32)))) (fun h => by rw [hret] at h; cases h) hlk (fun fs hr => retN X0 hx (t := .byte) hret (by simp) (hb hby d_jdk_52_15_8) hr) (Q := Q_rm_cfa2_2 Z a y0 y1 k_a h0 n0) (by rw [e0]; exact ⟨rfl, N0, rfl⟩) (by decide) (by decide)
def Q_rm_cfa2_4 (Z : State) (a : Nat) (y0 : Int32) (y1 : Int32) (y2 : Int32) (y3 : Int32) (k_a : ClassId) (h0 : Heap) (n0 : Nat) (vv : Option Value) (h : Heap) (LL : List Loc) : Prop := vv = some (.int 1) ∧ Fr n0 LL ∧ h = h0
set_option maxRecDepth 65536 in
set_option maxHeartbeats 40000000 in
theorem rm_cfa2_4 (l : Launch) (Z : State) (a0 : Array Value) (hw : ∀ d ∈ tables_1, d.before a0 Z = true) (ws : List Jvm.Cond) (a : Nat) (y0 : Int32) (y1 : Int32) (y2 : Int32) (y3 : Int32) (k_a : ClassId) (h0 : Heap) (n0 : Nat) (Z0 : n0 ≤ h0.size) (V_a : Arv Z h0 a k_a .byte (4 : Int32) [(.int y0), (.int y1), (.int y2), (.int y3)] (.int (0 : Int32))) :
    own_MF l ym_11 jdk_52_method_15_code 2 (some .byte) ⟨0, 0, 0, 0⟩ ws Z #[(.ref a), (.int 2)] h0 (Q_rm_cfa2_4 Z a y0 y1 y2 y3 k_a h0 n0) := by
  refine own_begin (plainFor_of_name pn_2) (fun m => ef_22 m a) ?_
  intro p e s m below meth c s₁ hret hx hby hml hown hnm hlk X0 e0 hh hZ
  have N0 := Fr.nil n0
  have lt_V_a := own_ltN V_a.lt
  refine og s₁ (mkF m 1 #[rv a, iv 2] [(.int 2)]) (fun t_ k_ => XS.iloadN X0.here hx rfl (hb hby d_jdk_52_15_0) rfl k_) ?_
  refine og s₁ (mkF m 2 #[rv a, iv 2] [(.ref a), (.int 2)]) (fun t_ k_ => XS.aloadN X0.here hx rfl (hb hby d_jdk_52_15_1) rfl rfl k_) ?_
  obtain ⟨cl1, Ar1, -, S1, Nn1, -, -⟩ := id V_a
  refine og s₁ (mkF m 3 #[rv a, iv 2] [(.int 4), (.int 2)]) (fun t_ k_ => X0.arraylength hx (by rw [e0]; exact Ar1.1) (State.isArrayOf_alike hZ.alike Ar1.2.1) (g := (mkF m 2 #[rv a, iv 2] [(.ref a), (.int 2)])) rfl rfl (hb hby d_jdk_52_15_2) _ (by rw [len_of S1 Nn1]; exact k_)) ?_
  refine og s₁ (mkF m 4 #[rv a, iv 2] [(.int (-2))]) (fun t_ k_ => XS.isub X0.here hx rfl (hb hby d_jdk_52_15_3) rfl k_) ?_
  refine og s₁ (mkF m 6 #[rv a, iv 2] [(.int 31), (.int (-2))]) (fun t_ k_ => XS.bipush X0.here hx rfl (hb hby d_jdk_52_15_4) k_) ?_
  refine og s₁ (mkF m 7 #[rv a, iv 2] [(.int 1)]) (fun t_ k_ => XS.iushr X0.here hx rfl (hb hby d_jdk_52_15_6) rfl k_) ?_
  refine og s₁ (mkF m 8 #[rv a, iv 2] [(.int 1)]) (fun t_ k_ => XS.i2b X0.here hx rfl (hb hby d_jdk_52_15_7) rfl k_) ?_
  exact own_out X0 (v := some (.int (nar .byte (1 : Int32)))) (fun h => by rw [hret] at h; cases h) hlk (fun fs hr => retN X0 hx (t := .byte) hret (by simp) (hb hby d_jdk_52_15_8) hr) (Q := Q_rm_cfa2_4 Z a y0 y1 y2 y3 k_a h0 n0) (by rw [e0]; exact ⟨rfl, N0, rfl⟩) (by decide) (by decide)
theorem ef_23 (m : MethodId) (a : Nat) (ca : Nat) : entryFrame m #[(.ref a), (.ref ca), (.int 0), (.int 2), .null] 6 = mkF m 0 #[rv a, rv ca, iv 0, iv 2, .val .null, .unset] [] := by first | (simp [entryFrame, mkF, argsToLocals, Value.category]; done) | rfl
def Q_rm_inb2 (Z : State) (a : Nat) (ca : Nat) (c0 : Int32) (c1 : Int32) (k_ca : ClassId) (cz : Int32) (h0 : Heap) (n0 : Nat) (vv : Option Value) (h : Heap) (LL : List Loc) : Prop := vv = none ∧ Fr n0 LL ∧ Keep h0 h [a] ∧ own_Sw Z h h.size a [c0, c1]
set_option maxRecDepth 65536 in
set_option maxHeartbeats 40000000 in
theorem rm_inb2 (l : Launch) (Z : State) (a0 : Array Value) (hw : ∀ d ∈ tables_1, d.before a0 Z = true) (ws : List Jvm.Cond) (a : Nat) (ca : Nat) (c0 : Int32) (c1 : Int32) (k_ca : ClassId) (cz : Int32) (h0 : Heap) (n0 : Nat) (Z0 : n0 ≤ h0.size) (hrc0 : ¬ (c0 < (0 : Int32)) ∧ ¬ ((65535 : Int32) < c0)) (hrc1 : ¬ (c1 < (0 : Int32)) ∧ ¬ ((65535 : Int32) < c1)) (V_ca : Arv Z h0 ca k_ca .char (2 : Int32) [(.int c0), (.int c1)] (.int (0 : Int32))) (O0 : Old Z n0 h0) (S__assertionsDisabled : Sta Z Z.heap "java/lang/StringUTF16" "$assertionsDisabled" "Z" (.int 1)) (S_HI_BYTE_SHIFT : Sta Z Z.heap "java/lang/StringUTF16" "HI_BYTE_SHIFT" "I" (.int 0)) (S_LO_BYTE_SHIFT : Sta Z Z.heap "java/lang/StringUTF16" "LO_BYTE_SHIFT" "I" (.int 8)) (S_COMPACT_STRINGS : Sta Z Z.heap "java/lang/String" "COMPACT_STRINGS" "Z" (.int cz)) (hcz : ¬ cz = (0 : Int32)) (E_a : Exa Z h0 a "java/lang/String") (F_value_a : Fld Z h0 a "java/lang/String" "value" "[B" .null) (F_coder_a : Fld Z h0 a "java/lang/String" "coder" "B" (.int 0)) (g_a : n0 ≤ a) (hne : ca ≠ a) :
    own_MF l ym_12 jdk_42_method_149_code 6 none ⟨4, 2, 6, 57⟩ ws Z #[(.ref a), (.ref ca), (.int 0), (.int 2), .null] h0 (Q_rm_inb2 Z a ca c0 c1 k_ca cz h0 n0) := by
  refine own_begin (plainFor_of_name pn_1) (fun m => ef_23 m a ca) ?_
  intro p e s m below meth c s₁ hret hx hby hml hown hnm hlk X0 e0 hh hZ
  have N0 := Fr.nil n0
  have lt_V_ca := own_ltN V_ca.lt
  have lt_E_a := own_ltN E_a.lt
  have lt_F_value_a := own_ltN F_value_a.lt
  have lt_F_coder_a := own_ltN F_coder_a.lt
  refine og s₁ (mkF m 1 #[rv a, rv ca, iv 0, iv 2, .val .null, .unset] [(.ref a)]) (fun t_ k_ => XS.aloadN X0.here hx rfl (hb hby d_jdk_42_149_0) rfl rfl k_) ?_
  obtain ⟨T1, X1, e1, st1⟩ := initO X0 hx hZ hown (own_w hw 46 rfl) (own_w hw 47 rfl) (own_w hw 48 rfl) e0 (g := (mkF m 1 #[rv a, rv ca, iv 0, iv 2, .val .null, .unset] [(.ref a)])) rfl (by rw [hml]; rfl) rfl (hb hby d_jdk_42_149_1) (by decide) (W := 0) (by show 2 * 0 + _ ≤ _; exact Nat.le_of_eq rfl) (by decide)
  refine og T1 (mkF m 4 #[rv a, rv ca, iv 0, iv 2, .val .null, .unset] []) (fun t_ k_ => st1 _ k_) ?_
  refine og T1 (mkF m 5 #[rv a, rv ca, iv 0, iv 2, .val .null, .unset] [(.int 2)]) (fun t_ k_ => XS.iloadN X1.here hx rfl (hb hby d_jdk_42_149_4) rfl k_) ?_
  refine og T1 (mkF m 27 #[rv a, rv ca, iv 0, iv 2, .val .null, .unset] []) (fun t_ k_ => XS.ifYes X1.here hx rfl (pc0 := 5) (pc' := 27) rfl (hb hby d_jdk_42_149_5) rfl ((if0 _ _).trans (feq (by decide)).2) (by decide) (by decide) k_) ?_
  obtain ⟨T2, X2, e2, st2⟩ := getS2 X1 hx hZ hown (host := "") (Or.inl (own_w hw 22 rfl)) Via.refl e1 (S_COMPACT_STRINGS.ext O0.2) (g := (mkF m 27 #[rv a, rv ca, iv 0, iv 2, .val .null, .unset] [])) rfl (hb hby d_jdk_42_149_27)
  refine og T2 (mkF m 30 #[rv a, rv ca, iv 0, iv 2, .val .null, .unset] [(.int cz)]) (fun t_ k_ => st2 _ k_) ?_
  refine og T2 (mkF m 33 #[rv a, rv ca, iv 0, iv 2, .val .null, .unset] []) (fun t_ k_ => XS.ifNo X2.here hx rfl (hb hby d_jdk_42_149_30) rfl ((if0 _ _).trans (feq hcz).1) k_) ?_
  refine og T2 (mkF m 34 #[rv a, rv ca, iv 0, iv 2, .val .null, .unset] [(.ref ca)]) (fun t_ k_ => XS.aloadN X2.here hx rfl (hb hby d_jdk_42_149_33) rfl rfl k_) ?_
  refine og T2 (mkF m 35 #[rv a, rv ca, iv 0, iv 2, .val .null, .unset] [(.int 0), (.ref ca)]) (fun t_ k_ => XS.iloadN X2.here hx rfl (hb hby d_jdk_42_149_34) rfl k_) ?_
  refine og T2 (mkF m 36 #[rv a, rv ca, iv 0, iv 2, .val .null, .unset] [(.int 2), (.int 0), (.ref ca)]) (fun t_ k_ => XS.iloadN X2.here hx rfl (hb hby d_jdk_42_149_35) rfl k_) ?_
  obtain ⟨_, _, ⟨T3, L3, k3, n3⟩, -, X3, ⟨Lc3, hQ3, l3, y3, z3⟩, st3⟩ := Jvm.LawKit.callS X2 hx (y := ym_10) hown (mvT hZ (own_w hw 64 rfl)) (mvT hZ (own_w hw 65 rfl)) (mvT hZ (own_w hw 66 rfl)) (mvT hZ (own_w hw 67 rfl)) (by decide) (backOf (W := 0) (rm_cmb2 l Z a0 hw [] ca c0 c1 k_ca h0 n0 (show n0 ≤ h0.size by omega) hrc0 hrc1 V_ca O0 S__assertionsDisabled S_HI_BYTE_SHIFT S_LO_BYTE_SHIFT) hZ (own_w hw 67 rfl) (own_w hw 66 rfl) (by decide) (by decide)) (g := (mkF m 36 #[rv a, rv ca, iv 0, iv 2, .val .null, .unset] [(.int 2), (.int 0), (.ref ca)])) rfl (by rw [hml]; rfl) (argsL := [(.ref ca), (.int 0), (.int 2)]) (rest := []) (lenOf pd_5 rfl) rfl (by show 2 * 0 + _ ≤ _; exact Nat.le_of_eq rfl) (hb hby d_jdk_42_149_36) (fun _ _ => ⟨rfl, e2, (by decide : 0 + 2 ≤ _), (by decide : 0 + 6 ≤ _)⟩)
  dsimp only [Pt.U, Pt.locs, Pt.cells, Pt.slots] at X3 l3 y3 z3 st3 hQ3
  subst l3 y3 z3
  obtain ⟨b3, kb3, rfl, M3, K3_, ⟨lob3, hib3⟩, f3_0⟩ := hQ3
  have zz3 := K3_.1
  have O3 := O0.keep K3_ all0
  have K3 := (Keep.refl h0 [a]).trans K3_ all0
  have N3 := Fr.app N0 M3
  refine og T3 (mkF m 39 #[rv a, rv ca, iv 0, iv 2, .val .null, .unset] [(.ref b3)]) (fun t_ k_ => st3 _ k_) ?_
  rcases f3_0 with ⟨hle, hV⟩ | hV
  · skip
    refine og T3 (mkF m 41 #[rv a, rv ca, iv 0, iv 2, .val .null, rv b3] []) (fun t_ k_ => XS.astore X3.here hx rfl (hb hby d_jdk_42_149_39) rfl rfl (l' := #[rv a, rv ca, iv 0, iv 2, .val .null, rv b3]) rfl k_) ?_
    refine og T3 (mkF m 42 #[rv a, rv ca, iv 0, iv 2, .val .null, rv b3] [(.ref a)]) (fun t_ k_ => XS.aloadN X3.here hx rfl (hb hby d_jdk_42_149_41) rfl rfl k_) ?_
    refine og T3 (mkF m 44 #[rv a, rv ca, iv 0, iv 2, .val .null, rv b3] [(.ref b3), (.ref a)]) (fun t_ k_ => XS.aload X3.here hx rfl (hb hby d_jdk_42_149_42) rfl rfl k_) ?_
    refine og T3 (mkF m 45 #[rv a, rv ca, iv 0, iv 2, .val .null, rv b3] [(.int 2), (.ref b3), (.ref a)]) (fun t_ k_ => XS.iloadN X3.here hx rfl (hb hby d_jdk_42_149_44) rfl k_) ?_
    obtain ⟨_, _, ⟨T4, L4, k4, n4⟩, -, X4, ⟨Lc4, hQ4, l4, y4, z4⟩, st4⟩ := Jvm.LawKit.callS X3 hx (y := ym_11) hown (mvT hZ (own_w hw 71 rfl)) (mvT hZ (own_w hw 72 rfl)) (mvT hZ (own_w hw 66 rfl)) (mvT hZ (own_w hw 73 rfl)) (by decide) (backOf (W := 1) (rm_cfa2_2 l Z a0 hw [] b3 c0.toInt8.toInt32 c1.toInt8.toInt32 kb3 T3.heap n0 (show n0 ≤ T3.heap.size by omega) hV) hZ (own_w hw 73 rfl) (own_w hw 66 rfl) (by decide) (by decide)) (g := (mkF m 45 #[rv a, rv ca, iv 0, iv 2, .val .null, rv b3] [(.int 2), (.ref b3), (.ref a)])) rfl (by rw [hml]; rfl) (argsL := [(.ref b3), (.int 2)]) (rest := [(.ref a)]) (lenOf pd_7 rfl) rfl (by show 2 * 0 + _ ≤ _; exact Nat.le_of_eq rfl) (hb hby d_jdk_42_149_45) (fun _ _ => ⟨rfl, rfl, (by decide : 2 + 0 ≤ _), (by decide : 6 + 0 ≤ _)⟩)
    dsimp only [Pt.U, Pt.locs, Pt.cells, Pt.slots] at X4 l4 y4 z4 st4 hQ4
    subst l4 y4 z4
    obtain ⟨rfl, M4, e4⟩ := hQ4
    have N4 := Fr.app N3 M4
    refine og T4 (mkF m 48 #[rv a, rv ca, iv 0, iv 2, .val .null, rv b3] [(.int 0), (.ref a)]) (fun t_ k_ => st4 _ k_) ?_
    have ff6 := (F_coder_a.keep K3_ nin0)
    have ff7 := (E_a.keep K3_)
    obtain ⟨T5, h5, X5, e5, W5, st5⟩ := putFN X4 hx hZ hown (own_w hw 23 rfl) Via.refl e4 ff6 ff7 (Or.inr ⟨(own_w hw 9 rfl), rfl, hnm⟩) (own_w hw 6 rfl) (ty := .byte) (v' := .int (nar .byte (0 : Int32))) (by decide) rfl (fits_nar_byte _) (g := (mkF m 48 #[rv a, rv ca, iv 0, iv 2, .val .null, rv b3] [(.int 0), (.ref a)])) rfl rfl (hb hby d_jdk_42_149_48)
    have F5 := ff6.same W5
    have z5 := W5.size
    have N5 := Fr.snoc X5 N4 (show n0 ≤ a by omega)
    have O5 := O3.wr W5 (show n0 ≤ a by omega)
    have K5 := K3.wr W5 (Or.inl (List.mem_of_getElem? (i := 0) rfl))
    refine og T5 (mkF m 51 #[rv a, rv ca, iv 0, iv 2, .val .null, rv b3] []) (fun t_ k_ => st5 _ k_) ?_
    refine og T5 (mkF m 52 #[rv a, rv ca, iv 0, iv 2, .val .null, rv b3] [(.ref a)]) (fun t_ k_ => XS.aloadN X5.here hx rfl (hb hby d_jdk_42_149_51) rfl rfl k_) ?_
    refine og T5 (mkF m 54 #[rv a, rv ca, iv 0, iv 2, .val .null, rv b3] [(.ref b3), (.ref a)]) (fun t_ k_ => XS.aload X5.here hx rfl (hb hby d_jdk_42_149_52) rfl rfl k_) ?_
    have ff9 := ((F_value_a.keep K3_ nin0).other W5 (Or.inr (slot_ne (Or.inr (own_w hw 8 rfl)) (Or.inr (own_w hw 9 rfl)) (by decide) (t := (.array .byte)) (t' := .byte) (by decide) (by decide))))
    have ff10 := (ff7.wr W5)
    obtain ⟨T8, h8, X8, e8, W8, st8⟩ := putF X5 hx hZ hown (host := "") (Or.inl (own_w hw 24 rfl)) Via.refl e5 ff9 ff10 (Or.inr ⟨(own_w hw 8 rfl), rfl, hnm⟩) (own_w hw 6 rfl) (ty := (.array .byte)) (by decide) rfl rfl (g := (mkF m 54 #[rv a, rv ca, iv 0, iv 2, .val .null, rv b3] [(.ref b3), (.ref a)])) rfl rfl (hb hby d_jdk_42_149_54)
    have F8 := ff9.same W8
    have z8 := W8.size
    have N8 := Fr.snoc X8 N5 (show n0 ≤ a by omega)
    have O8 := O5.wr W8 (show n0 ≤ a by omega)
    have K8 := K5.wr W8 (Or.inl (List.mem_of_getElem? (i := 0) rfl))
    refine og T8 (mkF m 57 #[rv a, rv ca, iv 0, iv 2, .val .null, rv b3] []) (fun t_ k_ => st8 _ k_) ?_
    have ff11 := (ff10.wr W8)
    have ff12 := (F5.other W8 (Or.inr (slot_ne (Or.inr (own_w hw 9 rfl)) (Or.inr (own_w hw 8 rfl)) (by decide) (t := .byte) (t' := (.array .byte)) (by decide) (by decide))))
    have ff13 := ((hV.other W5 (own_ne (by omega))).other W8 (own_ne (by omega)))
    have hall : ∀ c ∈ [c0, c1], ¬ c < (0 : Int32) ∧ ¬ (255 : Int32) < c := by
      intro c hc
      simp only [List.mem_cons, List.not_mem_nil, or_false] at hc
      rcases hc with rfl | rfl
      · exact ⟨hrc0.1, hle.1⟩
      · exact ⟨hrc1.1, hle.2⟩
    exact own_out X8 (v := none) (fun _ => rfl) hlk (fun fs hr => X8.returnOut hx hret (hb hby d_jdk_42_149_57) hr) (Q := Q_rm_inb2 Z a ca c0 c1 k_ca cz h0 n0) (by rw [e8]; exact ⟨rfl, N8, K8, ⟨ff11, by omega, b3, kb3, by omega, F8, Or.inl ⟨ff12, hall, ff13⟩⟩⟩) (by decide) (by decide)
  · skip
    refine og T3 (mkF m 41 #[rv a, rv ca, iv 0, iv 2, .val .null, rv b3] []) (fun t_ k_ => XS.astore X3.here hx rfl (hb hby d_jdk_42_149_39) rfl rfl (l' := #[rv a, rv ca, iv 0, iv 2, .val .null, rv b3]) rfl k_) ?_
    refine og T3 (mkF m 42 #[rv a, rv ca, iv 0, iv 2, .val .null, rv b3] [(.ref a)]) (fun t_ k_ => XS.aloadN X3.here hx rfl (hb hby d_jdk_42_149_41) rfl rfl k_) ?_
    refine og T3 (mkF m 44 #[rv a, rv ca, iv 0, iv 2, .val .null, rv b3] [(.ref b3), (.ref a)]) (fun t_ k_ => XS.aload X3.here hx rfl (hb hby d_jdk_42_149_42) rfl rfl k_) ?_
    refine og T3 (mkF m 45 #[rv a, rv ca, iv 0, iv 2, .val .null, rv b3] [(.int 2), (.ref b3), (.ref a)]) (fun t_ k_ => XS.iloadN X3.here hx rfl (hb hby d_jdk_42_149_44) rfl k_) ?_
    obtain ⟨_, _, ⟨T14, L14, k14, n14⟩, -, X14, ⟨Lc14, hQ14, l14, y14, z14⟩, st14⟩ := Jvm.LawKit.callS X3 hx (y := ym_11) hown (mvT hZ (own_w hw 71 rfl)) (mvT hZ (own_w hw 72 rfl)) (mvT hZ (own_w hw 66 rfl)) (mvT hZ (own_w hw 73 rfl)) (by decide) (backOf (W := 1) (rm_cfa2_4 l Z a0 hw [] b3 ((c0 >>> ((0 : Int32) &&& 31)).toInt8.toInt32) ((c0 >>> ((8 : Int32) &&& 31)).toInt8.toInt32) ((c1 >>> ((0 : Int32) &&& 31)).toInt8.toInt32) ((c1 >>> ((8 : Int32) &&& 31)).toInt8.toInt32) kb3 T3.heap n0 (show n0 ≤ T3.heap.size by omega) hV) hZ (own_w hw 73 rfl) (own_w hw 66 rfl) (by decide) (by decide)) (g := (mkF m 45 #[rv a, rv ca, iv 0, iv 2, .val .null, rv b3] [(.int 2), (.ref b3), (.ref a)])) rfl (by rw [hml]; rfl) (argsL := [(.ref b3), (.int 2)]) (rest := [(.ref a)]) (lenOf pd_7 rfl) rfl (by show 2 * 0 + _ ≤ _; exact Nat.le_of_eq rfl) (hb hby d_jdk_42_149_45) (fun _ _ => ⟨rfl, rfl, (by decide : 2 + 0 ≤ _), (by decide : 6 + 0 ≤ _)⟩)
    dsimp only [Pt.U, Pt.locs, Pt.cells, Pt.slots] at X14 l14 y14 z14 st14 hQ14
    subst l14 y14 z14
    obtain ⟨rfl, M14, e14⟩ := hQ14
    have N14 := Fr.app N3 M14
    refine og T14 (mkF m 48 #[rv a, rv ca, iv 0, iv 2, .val .null, rv b3] [(.int 1), (.ref a)]) (fun t_ k_ => st14 _ k_) ?_
    have ff16 := (F_coder_a.keep K3_ nin0)
    have ff17 := (E_a.keep K3_)
    obtain ⟨T15, h15, X15, e15, W15, st15⟩ := putFN X14 hx hZ hown (own_w hw 23 rfl) Via.refl e14 ff16 ff17 (Or.inr ⟨(own_w hw 9 rfl), rfl, hnm⟩) (own_w hw 6 rfl) (ty := .byte) (v' := .int (nar .byte (1 : Int32))) (by decide) rfl (fits_nar_byte _) (g := (mkF m 48 #[rv a, rv ca, iv 0, iv 2, .val .null, rv b3] [(.int 1), (.ref a)])) rfl rfl (hb hby d_jdk_42_149_48)
    have F15 := ff16.same W15
    have z15 := W15.size
    have N15 := Fr.snoc X15 N14 (show n0 ≤ a by omega)
    have O15 := O3.wr W15 (show n0 ≤ a by omega)
    have K15 := K3.wr W15 (Or.inl (List.mem_of_getElem? (i := 0) rfl))
    refine og T15 (mkF m 51 #[rv a, rv ca, iv 0, iv 2, .val .null, rv b3] []) (fun t_ k_ => st15 _ k_) ?_
    refine og T15 (mkF m 52 #[rv a, rv ca, iv 0, iv 2, .val .null, rv b3] [(.ref a)]) (fun t_ k_ => XS.aloadN X15.here hx rfl (hb hby d_jdk_42_149_51) rfl rfl k_) ?_
    refine og T15 (mkF m 54 #[rv a, rv ca, iv 0, iv 2, .val .null, rv b3] [(.ref b3), (.ref a)]) (fun t_ k_ => XS.aload X15.here hx rfl (hb hby d_jdk_42_149_52) rfl rfl k_) ?_
    have ff19 := ((F_value_a.keep K3_ nin0).other W15 (Or.inr (slot_ne (Or.inr (own_w hw 8 rfl)) (Or.inr (own_w hw 9 rfl)) (by decide) (t := (.array .byte)) (t' := .byte) (by decide) (by decide))))
    have ff20 := (ff17.wr W15)
    obtain ⟨T18, h18, X18, e18, W18, st18⟩ := putF X15 hx hZ hown (host := "") (Or.inl (own_w hw 24 rfl)) Via.refl e15 ff19 ff20 (Or.inr ⟨(own_w hw 8 rfl), rfl, hnm⟩) (own_w hw 6 rfl) (ty := (.array .byte)) (by decide) rfl rfl (g := (mkF m 54 #[rv a, rv ca, iv 0, iv 2, .val .null, rv b3] [(.ref b3), (.ref a)])) rfl rfl (hb hby d_jdk_42_149_54)
    have F18 := ff19.same W18
    have z18 := W18.size
    have N18 := Fr.snoc X18 N15 (show n0 ≤ a by omega)
    have O18 := O15.wr W18 (show n0 ≤ a by omega)
    have K18 := K15.wr W18 (Or.inl (List.mem_of_getElem? (i := 0) rfl))
    refine og T18 (mkF m 57 #[rv a, rv ca, iv 0, iv 2, .val .null, rv b3] []) (fun t_ k_ => st18 _ k_) ?_
    have ff21 := (ff20.wr W18)
    have ff22 := (F15.other W18 (Or.inr (slot_ne (Or.inr (own_w hw 9 rfl)) (Or.inr (own_w hw 8 rfl)) (by decide) (t := .byte) (t' := (.array .byte)) (by decide) (by decide))))
    have ff23 := ((hV.other W15 (own_ne (by omega))).other W18 (own_ne (by omega)))
    exact own_out X18 (v := none) (fun _ => rfl) hlk (fun fs hr => X18.returnOut hx hret (hb hby d_jdk_42_149_57) hr) (Q := Q_rm_inb2 Z a ca c0 c1 k_ca cz h0 n0) (by rw [e18]; exact ⟨rfl, N18, K18, ⟨ff21, by omega, b3, kb3, by omega, F18, Or.inr ⟨ff22, ff23⟩⟩⟩) (by decide) (by decide)
def Q_rm_ina2 (Z : State) (a : Nat) (ca : Nat) (c0 : Int32) (c1 : Int32) (k_ca : ClassId) (cz : Int32) (h0 : Heap) (n0 : Nat) (vv : Option Value) (h : Heap) (LL : List Loc) : Prop := vv = none ∧ Fr n0 LL ∧ Keep h0 h [a] ∧ own_Sw Z h h.size a [c0, c1]
set_option maxRecDepth 65536 in
set_option maxHeartbeats 40000000 in
theorem rm_ina2 (l : Launch) (Z : State) (a0 : Array Value) (hw : ∀ d ∈ tables_1, d.before a0 Z = true) (ws : List Jvm.Cond) (a : Nat) (ca : Nat) (c0 : Int32) (c1 : Int32) (k_ca : ClassId) (cz : Int32) (h0 : Heap) (n0 : Nat) (Z0 : n0 ≤ h0.size) (hrc0 : ¬ (c0 < (0 : Int32)) ∧ ¬ ((65535 : Int32) < c0)) (hrc1 : ¬ (c1 < (0 : Int32)) ∧ ¬ ((65535 : Int32) < c1)) (V_ca : Arv Z h0 ca k_ca .char (2 : Int32) [(.int c0), (.int c1)] (.int (0 : Int32))) (O0 : Old Z n0 h0) (S__assertionsDisabled : Sta Z Z.heap "java/lang/StringUTF16" "$assertionsDisabled" "Z" (.int 1)) (S_HI_BYTE_SHIFT : Sta Z Z.heap "java/lang/StringUTF16" "HI_BYTE_SHIFT" "I" (.int 0)) (S_LO_BYTE_SHIFT : Sta Z Z.heap "java/lang/StringUTF16" "LO_BYTE_SHIFT" "I" (.int 8)) (S_COMPACT_STRINGS : Sta Z Z.heap "java/lang/String" "COMPACT_STRINGS" "Z" (.int cz)) (hcz : ¬ cz = (0 : Int32)) (E_a : Exa Z h0 a "java/lang/String") (F_value_a : Fld Z h0 a "java/lang/String" "value" "[B" .null) (F_coder_a : Fld Z h0 a "java/lang/String" "coder" "B" (.int 0)) (g_a : n0 ≤ a) (hne : ca ≠ a) :
    own_MF l ym_13 jdk_42_method_3_code 2 none ⟨5, 2, 6, 74⟩ ws Z #[(.ref a), (.ref ca)] h0 (Q_rm_ina2 Z a ca c0 c1 k_ca cz h0 n0) := by
  refine own_begin (plainFor_of_name pn_1) (fun m => ef_14 m a ca) ?_
  intro p e s m below meth c s₁ hret hx hby hml hown hnm hlk X0 e0 hh hZ
  have N0 := Fr.nil n0
  have lt_V_ca := own_ltN V_ca.lt
  have lt_E_a := own_ltN E_a.lt
  have lt_F_value_a := own_ltN F_value_a.lt
  have lt_F_coder_a := own_ltN F_coder_a.lt
  refine og s₁ (mkF m 1 #[rv a, rv ca] [(.ref a)]) (fun t_ k_ => XS.aloadN X0.here hx rfl (hb hby d_jdk_42_3_0) rfl rfl k_) ?_
  refine og s₁ (mkF m 2 #[rv a, rv ca] [(.ref ca), (.ref a)]) (fun t_ k_ => XS.aloadN X0.here hx rfl (hb hby d_jdk_42_3_1) rfl rfl k_) ?_
  refine og s₁ (mkF m 3 #[rv a, rv ca] [(.int 0), (.ref ca), (.ref a)]) (fun t_ k_ => XS.iconst X0.here hx rfl (hb hby d_jdk_42_3_2) k_) ?_
  refine og s₁ (mkF m 4 #[rv a, rv ca] [(.ref ca), (.int 0), (.ref ca), (.ref a)]) (fun t_ k_ => XS.aloadN X0.here hx rfl (hb hby d_jdk_42_3_3) rfl rfl k_) ?_
  obtain ⟨cl1, Ar1, -, S1, Nn1, -, -⟩ := id V_ca
  refine og s₁ (mkF m 5 #[rv a, rv ca] [(.int 2), (.int 0), (.ref ca), (.ref a)]) (fun t_ k_ => X0.arraylength hx (by rw [e0]; exact Ar1.1) (State.isArrayOf_alike hZ.alike Ar1.2.1) (g := (mkF m 4 #[rv a, rv ca] [(.ref ca), (.int 0), (.ref ca), (.ref a)])) rfl rfl (hb hby d_jdk_42_3_4) _ (by rw [len_of S1 Nn1]; exact k_)) ?_
  refine og s₁ (mkF m 6 #[rv a, rv ca] [.null, (.int 2), (.int 0), (.ref ca), (.ref a)]) (fun t_ k_ => XS.aconstNull X0.here hx rfl (hb hby d_jdk_42_3_5) k_) ?_
  obtain ⟨_, _, ⟨T2, L2, k2, n2⟩, -, X2, ⟨Lc2, hQ2, l2, y2, z2⟩, st2⟩ := X0.specialBack hx (y := ym_12) rfl hown (mvT hZ (own_w hw 42 rfl)) (mvT hZ (own_w hw 43 rfl)) (mvT hZ (own_w hw 45 rfl)) (by decide) (backOf (W := 0) (rm_inb2 l Z a0 hw [] a ca c0 c1 k_ca cz h0 n0 (show n0 ≤ h0.size by omega) hrc0 hrc1 V_ca O0 S__assertionsDisabled S_HI_BYTE_SHIFT S_LO_BYTE_SHIFT S_COMPACT_STRINGS hcz E_a F_value_a F_coder_a (show n0 ≤ a by omega) hne) hZ (own_w hw 45 rfl) (own_w hw 5 rfl) (by decide) (by decide)) (g := (mkF m 6 #[rv a, rv ca] [.null, (.int 2), (.int 0), (.ref ca), (.ref a)])) rfl (by rw [hml]; rfl) (Steps.refl _) (a := a) (argsL := [(.ref ca), (.int 0), (.int 2), .null]) (rest := []) (lenOf pd_8 rfl) rfl (by show 2 * 0 + _ ≤ _; exact Nat.le_of_eq rfl) (hb hby d_jdk_42_3_6) (fun _ _ => ⟨rfl, e0, (by decide : 0 + 2 ≤ _), (by decide : 0 + 6 ≤ _)⟩)
  dsimp only [Pt.U, Pt.locs, Pt.cells, Pt.slots] at X2 l2 y2 z2 st2 hQ2
  subst l2 y2 z2
  obtain ⟨rfl, M2, K2_, f2_0⟩ := hQ2
  have zz2 := K2_.1
  have O2 := O0.keep K2_ (allS (show n0 ≤ a by omega) all0)
  have K2 := (Keep.refl h0 [a]).trans K2_ (allS (Or.inl (List.mem_of_getElem? (i := 0) rfl)) all0)
  have N2 := Fr.app N0 M2
  have ltsf2_0 := own_ltN f2_0.lt
  refine og T2 (mkF m 9 #[rv a, rv ca] []) (fun t_ k_ => st2.trans k_) ?_
  exact own_out X2 (v := none) (fun _ => rfl) hlk (fun fs hr => X2.returnOut hx hret (hb hby d_jdk_42_3_9) hr) (Q := Q_rm_ina2 Z a ca c0 c1 k_ca cz h0 n0) (by exact ⟨rfl, N2, K2, (f2_0.mono (by omega))⟩) (by decide) (by decide)
theorem ef_24 (m : MethodId)  : entryFrame m #[(.int 3)] 1 = mkF m 0 #[iv 3] [] := by first | (simp [entryFrame, mkF, argsToLocals, Value.category]; done) | rfl
def Q_rm_nbl3 (Z : State)  (h0 : Heap) (n0 : Nat) (vv : Option Value) (h : Heap) (LL : List Loc) : Prop := vv = some (.int 6) ∧ Fr n0 LL ∧ h = h0
set_option maxRecDepth 65536 in
set_option maxHeartbeats 40000000 in
theorem rm_nbl3 (l : Launch) (Z : State) (a0 : Array Value) (hw : ∀ d ∈ tables_1, d.before a0 Z = true) (ws : List Jvm.Cond)  (h0 : Heap) (n0 : Nat) (Z0 : n0 ≤ h0.size) :
    own_MF l ym_4 jdk_52_method_3_code 1 (some .int) ⟨0, 0, 0, 0⟩ ws Z #[(.int 3)] h0 (Q_rm_nbl3 Z  h0 n0) := by
  refine own_begin (plainFor_of_name pn_2) (fun m => ef_24 m) ?_
  intro p e s m below meth c s₁ hret hx hby hml hown hnm hlk X0 e0 hh hZ
  have N0 := Fr.nil n0
  refine og s₁ (mkF m 1 #[iv 3] [(.int 3)]) (fun t_ k_ => XS.iloadN X0.here hx rfl (hb hby d_jdk_52_3_0) rfl k_) ?_
  refine og s₁ (mkF m 12 #[iv 3] []) (fun t_ k_ => XS.ifYes X0.here hx rfl (pc0 := 1) (pc' := 12) rfl (hb hby d_jdk_52_3_1) rfl ((if0 _ _).trans (flt (by decide)).2.1) (by decide) (by decide) k_) ?_
  refine og s₁ (mkF m 13 #[iv 3] [(.int 3)]) (fun t_ k_ => XS.iloadN X0.here hx rfl (hb hby d_jdk_52_3_12) rfl k_) ?_
  refine og s₁ (mkF m 15 #[iv 3] [(.int 1073741823), (.int 3)]) (fun t_ k_ => X0.ldcInt hx hown (mvT hZ (own_w hw 88 rfl)) (g := (mkF m 13 #[iv 3] [(.int 3)])) rfl (hb hby d_jdk_52_3_13) _ k_) ?_
  refine og s₁ (mkF m 55 #[iv 3] []) (fun t_ k_ => XS.icmpYes X0.here hx rfl (pc0 := 15) (pc' := 55) rfl (hb hby d_jdk_52_3_15) rfl (tlt (by decide)).1 (by decide) (by decide) k_) ?_
  refine og s₁ (mkF m 56 #[iv 3] [(.int 3)]) (fun t_ k_ => XS.iloadN X0.here hx rfl (hb hby d_jdk_52_3_55) rfl k_) ?_
  refine og s₁ (mkF m 57 #[iv 3] [(.int 1), (.int 3)]) (fun t_ k_ => XS.iconst X0.here hx rfl (hb hby d_jdk_52_3_56) k_) ?_
  refine og s₁ (mkF m 58 #[iv 3] [(.int 6)]) (fun t_ k_ => XS.ishl X0.here hx rfl (hb hby d_jdk_52_3_57) rfl k_) ?_
  exact own_out X0 (v := some (.int 6)) (fun h => by rw [hret] at h; cases h) hlk (fun fs hr => retI X0 hx hret (hb hby d_jdk_52_3_58) hr) (Q := Q_rm_nbl3 Z  h0 n0) (by rw [e0]; exact ⟨rfl, N0, rfl⟩) (by decide) (by decide)
theorem ef_25 (m : MethodId)  : entryFrame m #[(.int 3)] 1 = mkF m 0 #[iv 3] [] := by first | (simp [entryFrame, mkF, argsToLocals, Value.category]; done) | rfl
def Q_rm_nbf3 (Z : State)  (h0 : Heap) (n0 : Nat) (vv : Option Value) (h : Heap) (LL : List Loc) : Prop := ∃ b : Nat, ∃ kb : ClassId, vv = some (.ref b) ∧ Fr n0 LL ∧ Keep h0 h [] ∧ (h0.size ≤ b ∧ b < h.size) ∧ Arv Z h b kb .byte (6 : Int32) [(.int (0 : Int32)), (.int (0 : Int32)), (.int (0 : Int32)), (.int (0 : Int32)), (.int (0 : Int32)), (.int (0 : Int32))] (.int (0 : Int32))
set_option maxRecDepth 65536 in
set_option maxHeartbeats 40000000 in
theorem rm_nbf3 (l : Launch) (Z : State) (a0 : Array Value) (hw : ∀ d ∈ tables_1, d.before a0 Z = true) (ws : List Jvm.Cond)  (h0 : Heap) (n0 : Nat) (Z0 : n0 ≤ h0.size) :
    own_MF l ym_5 jdk_52_method_2_code 1 (some (.array .byte)) ⟨1, 1, 6, 12⟩ ws Z #[(.int 3)] h0 (Q_rm_nbf3 Z  h0 n0) := by
  refine own_begin (plainFor_of_name pn_2) (fun m => ef_25 m) ?_
  intro p e s m below meth c s₁ hret hx hby hml hown hnm hlk X0 e0 hh hZ
  have N0 := Fr.nil n0
  refine og s₁ (mkF m 1 #[iv 3] [(.int 3)]) (fun t_ k_ => XS.iloadN X0.here hx rfl (hb hby d_jdk_52_2_0) rfl k_) ?_
  obtain ⟨_, _, ⟨T1, L1, k1, n1⟩, -, X1, ⟨Lc1, hQ1, l1, y1, z1⟩, st1⟩ := Jvm.LawKit.callS X0 hx (y := ym_4) hown (mvT hZ (own_w hw 85 rfl)) (mvT hZ (own_w hw 86 rfl)) (mvT hZ (own_w hw 66 rfl)) (mvT hZ (own_w hw 87 rfl)) (by decide) (backOf (W := 0) (rm_nbl3 l Z a0 hw []  h0 n0 (show n0 ≤ h0.size by omega)) hZ (own_w hw 87 rfl) (own_w hw 66 rfl) (by decide) (by decide)) (g := (mkF m 1 #[iv 3] [(.int 3)])) rfl (by rw [hml]; rfl) (argsL := [(.int 3)]) (rest := []) (lenOf pd_1 rfl) rfl (by show 2 * 0 + _ ≤ _; exact Nat.le_of_eq rfl) (hb hby d_jdk_52_2_1) (fun _ _ => ⟨rfl, e0, (by decide : 0 + 0 ≤ _), (by decide : 0 + 0 ≤ _)⟩)
  dsimp only [Pt.U, Pt.locs, Pt.cells, Pt.slots] at X1 l1 y1 z1 st1 hQ1
  subst l1 y1 z1
  obtain ⟨rfl, M1, e1⟩ := hQ1
  have N1 := Fr.app N0 M1
  refine og T1 (mkF m 4 #[iv 3] [(.int 6)]) (fun t_ k_ => st1 _ k_) ?_
  obtain ⟨T2, h2, k2, X2, e2, E2, A2, st2⟩ := newP X1 hx hZ (own_w hw 7 rfl) e1 (g := (mkF m 4 #[iv 3] [(.int 6)])) rfl (hb hby d_jdk_52_2_4) rfl (by decide) (cap := 6) (by decide) (by decide) (by decide) (by decide)
  obtain ⟨b2, g2⟩ : ∃ z, z = h0.size := ⟨_, rfl⟩
  rw [← g2] at A2 st2
  have V2 : Arv Z h2 b2 k2 .byte (6 : Int32) [(.int (0 : Int32)), (.int (0 : Int32)), (.int (0 : Int32)), (.int (0 : Int32)), (.int (0 : Int32)), (.int (0 : Int32))] (.int (0 : Int32)) := (Arv.new A2 (by decide)).pad (pad_rep [] (.int (0 : Int32)) 6)
  have l2 := own_ltN V2.lt
  have z2 := E2.1
  have K2 := (Keep.refl h0 []).ext E2
  refine og T2 (mkF m 6 #[iv 3] [(.ref b2)]) (fun t_ k_ => st2 _ k_) ?_
  exact own_out X2 (v := some (.ref b2)) (fun h => by rw [hret] at h; cases h) hlk (fun fs hr => own_retA X2 hx hret rfl rfl (hb hby d_jdk_52_2_6) hr) (Q := Q_rm_nbf3 Z  h0 n0) (by rw [e2]; exact ⟨b2, k2, rfl, N1, K2, ⟨by omega, by omega⟩, V2⟩) (by decide) (by decide)
def Q_rm_put3_0 (Z : State) (a : Nat) (ch : Int32) (y0 : Int32) (y1 : Int32) (y2 : Int32) (y3 : Int32) (y4 : Int32) (y5 : Int32) (k_a : ClassId) (h0 : Heap) (n0 : Nat) (vv : Option Value) (h : Heap) (LL : List Loc) : Prop := vv = none ∧ Fr n0 LL ∧ Keep h0 h [a] ∧ Arv Z h a k_a .byte (6 : Int32) [(.int ((ch >>> ((0 : Int32) &&& 31)).toInt8.toInt32)), (.int ((ch >>> ((8 : Int32) &&& 31)).toInt8.toInt32)), (.int y2), (.int y3), (.int y4), (.int y5)] (.int (0 : Int32))
set_option maxRecDepth 65536 in
set_option maxHeartbeats 40000000 in
theorem rm_put3_0 (l : Launch) (Z : State) (a0 : Array Value) (hw : ∀ d ∈ tables_1, d.before a0 Z = true) (ws : List Jvm.Cond) (a : Nat) (ch : Int32) (y0 : Int32) (y1 : Int32) (y2 : Int32) (y3 : Int32) (y4 : Int32) (y5 : Int32) (k_a : ClassId) (h0 : Heap) (n0 : Nat) (Z0 : n0 ≤ h0.size) (O0 : Old Z n0 h0) (S__assertionsDisabled : Sta Z Z.heap "java/lang/StringUTF16" "$assertionsDisabled" "Z" (.int 1)) (S_HI_BYTE_SHIFT : Sta Z Z.heap "java/lang/StringUTF16" "HI_BYTE_SHIFT" "I" (.int 0)) (S_LO_BYTE_SHIFT : Sta Z Z.heap "java/lang/StringUTF16" "LO_BYTE_SHIFT" "I" (.int 8)) (V_a : Arv Z h0 a k_a .byte (6 : Int32) [(.int y0), (.int y1), (.int y2), (.int y3), (.int y4), (.int y5)] (.int (0 : Int32))) (g_a : n0 ≤ a) :
    own_MF l ym_6 jdk_52_method_4_code 3 none ⟨0, 0, 0, 0⟩ ws Z #[(.ref a), (.int 0), (.int ch)] h0 (Q_rm_put3_0 Z a ch y0 y1 y2 y3 y4 y5 k_a h0 n0) := by
  refine own_begin (plainFor_of_name pn_2) (fun m => ef_7 m a ch) ?_
  intro p e s m below meth c s₁ hret hx hby hml hown hnm hlk X0 e0 hh hZ
  have N0 := Fr.nil n0
  have lt_V_a := own_ltN V_a.lt
  obtain ⟨T1, X1, e1, st1⟩ := getS2 X0 hx hZ hown (host := "") (Or.inl (own_w hw 92 rfl)) Via.refl e0 (S__assertionsDisabled.ext O0.2) (g := (mkF m 0 #[rv a, iv 0, iv ch] [])) rfl (hb hby d_jdk_52_4_0)
  refine og T1 (mkF m 3 #[rv a, iv 0, iv ch] [(.int 1)]) (fun t_ k_ => st1 _ k_) ?_
  refine og T1 (mkF m 28 #[rv a, iv 0, iv ch] []) (fun t_ k_ => XS.ifYes X1.here hx rfl (pc0 := 3) (pc' := 28) rfl (hb hby d_jdk_52_4_3) rfl ((if0 _ _).trans (feq (by decide)).2) (by decide) (by decide) k_) ?_
  refine og T1 (mkF m 29 #[rv a, iv 0, iv ch] [(.int 0)]) (fun t_ k_ => XS.iloadN X1.here hx rfl (hb hby d_jdk_52_4_28) rfl k_) ?_
  refine og T1 (mkF m 30 #[rv a, iv 0, iv ch] [(.int 1), (.int 0)]) (fun t_ k_ => XS.iconst X1.here hx rfl (hb hby d_jdk_52_4_29) k_) ?_
  refine og T1 (mkF m 31 #[rv a, iv 0, iv ch] [(.int 0)]) (fun t_ k_ => XS.ishl X1.here hx rfl (hb hby d_jdk_52_4_30) rfl k_) ?_
  refine og T1 (mkF m 32 #[rv a, iv 0, iv ch] []) (fun t_ k_ => XS.istoreN X1.here hx rfl (hb hby d_jdk_52_4_31) rfl (l' := #[rv a, iv 0, iv ch]) rfl k_) ?_
  refine og T1 (mkF m 33 #[rv a, iv 0, iv ch] [(.ref a)]) (fun t_ k_ => XS.aloadN X1.here hx rfl (hb hby d_jdk_52_4_32) rfl rfl k_) ?_
  refine og T1 (mkF m 34 #[rv a, iv 0, iv ch] [(.int 0), (.ref a)]) (fun t_ k_ => XS.iloadN X1.here hx rfl (hb hby d_jdk_52_4_33) rfl k_) ?_
  refine og T1 (mkF m 37 #[rv a, iv 1, iv ch] [(.int 0), (.ref a)]) (fun t_ k_ => XS.iinc X1.here hx rfl (hb hby d_jdk_52_4_34) rfl (l' := #[rv a, iv 1, iv ch]) rfl k_) ?_
  refine og T1 (mkF m 38 #[rv a, iv 1, iv ch] [(.int ch), (.int 0), (.ref a)]) (fun t_ k_ => XS.iloadN X1.here hx rfl (hb hby d_jdk_52_4_37) rfl k_) ?_
  obtain ⟨T2, X2, e2, st2⟩ := getS2 X1 hx hZ hown (host := "") (Or.inl (own_w hw 93 rfl)) Via.refl e1 (S_HI_BYTE_SHIFT.ext O0.2) (g := (mkF m 38 #[rv a, iv 1, iv ch] [(.int ch), (.int 0), (.ref a)])) rfl (hb hby d_jdk_52_4_38)
  refine og T2 (mkF m 41 #[rv a, iv 1, iv ch] [(.int 0), (.int ch), (.int 0), (.ref a)]) (fun t_ k_ => st2 _ k_) ?_
  refine og T2 (mkF m 42 #[rv a, iv 1, iv ch] [(.int (ch >>> ((0 : Int32) &&& 31))), (.int 0), (.ref a)]) (fun t_ k_ => XS.ishr X2.here hx rfl (hb hby d_jdk_52_4_41) rfl k_) ?_
  refine og T2 (mkF m 43 #[rv a, iv 1, iv ch] [(.int ((ch >>> ((0 : Int32) &&& 31)).toInt8.toInt32)), (.int 0), (.ref a)]) (fun t_ k_ => XS.i2b X2.here hx rfl (hb hby d_jdk_52_4_42) rfl k_) ?_
  obtain ⟨cl3, Ar3, q3, S3, Nn3, H3, G3⟩ := id V_a
  have hin3 : ¬ ((0 : Int32) < 0 ∨ cl3.slots.size ≤ ((0 : Int32)).toNatClampNeg) := inb_of S3 ⟨by decide, by decide⟩
  obtain ⟨T3, h3, X3, e3, W3, st3⟩ := stB X2 hx hZ e2 Ar3 (j := (0 : Int32)) hin3 (g := (mkF m 43 #[rv a, iv 1, iv ch] [(.int ((ch >>> ((0 : Int32) &&& 31)).toInt8.toInt32)), (.int 0), (.ref a)])) rfl rfl (hb hby d_jdk_52_4_43)
  have V3 : Arv Z h3 a k_a .byte (6 : Int32) [(.int ((ch >>> ((0 : Int32) &&& 31)).toInt8.toInt32)), (.int y1), (.int y2), (.int y3), (.int y4), (.int y5)] (.int (0 : Int32)) := by
    have q0 := Arv.set Ar3 q3 S3 Nn3 H3 G3 (fits_nar_byte _) W3 0 rfl (Nat.le_of_ble_eq_true rfl)
    first | rw [own_i8] at q0 | skip
    exact q0
  have z3 := W3.size
  have N3 := Fr.snoc X3 N0 (show n0 ≤ a by omega)
  have O3 := O0.wr W3 (show n0 ≤ a by omega)
  have K3 := (Keep.refl h0 [a]).wr W3 (Or.inl (List.mem_of_getElem? (i := 0) rfl))
  refine og T3 (mkF m 44 #[rv a, iv 1, iv ch] []) (fun t_ k_ => st3 _ k_) ?_
  refine og T3 (mkF m 45 #[rv a, iv 1, iv ch] [(.ref a)]) (fun t_ k_ => XS.aloadN X3.here hx rfl (hb hby d_jdk_52_4_44) rfl rfl k_) ?_
  refine og T3 (mkF m 46 #[rv a, iv 1, iv ch] [(.int 1), (.ref a)]) (fun t_ k_ => XS.iloadN X3.here hx rfl (hb hby d_jdk_52_4_45) rfl k_) ?_
  refine og T3 (mkF m 47 #[rv a, iv 1, iv ch] [(.int ch), (.int 1), (.ref a)]) (fun t_ k_ => XS.iloadN X3.here hx rfl (hb hby d_jdk_52_4_46) rfl k_) ?_
  obtain ⟨T4, X4, e4, st4⟩ := getS2 X3 hx hZ hown (host := "") (Or.inl (own_w hw 94 rfl)) Via.refl e3 (S_LO_BYTE_SHIFT.ext O3.2) (g := (mkF m 47 #[rv a, iv 1, iv ch] [(.int ch), (.int 1), (.ref a)])) rfl (hb hby d_jdk_52_4_47)
  refine og T4 (mkF m 50 #[rv a, iv 1, iv ch] [(.int 8), (.int ch), (.int 1), (.ref a)]) (fun t_ k_ => st4 _ k_) ?_
  refine og T4 (mkF m 51 #[rv a, iv 1, iv ch] [(.int (ch >>> ((8 : Int32) &&& 31))), (.int 1), (.ref a)]) (fun t_ k_ => XS.ishr X4.here hx rfl (hb hby d_jdk_52_4_50) rfl k_) ?_
  refine og T4 (mkF m 52 #[rv a, iv 1, iv ch] [(.int ((ch >>> ((8 : Int32) &&& 31)).toInt8.toInt32)), (.int 1), (.ref a)]) (fun t_ k_ => XS.i2b X4.here hx rfl (hb hby d_jdk_52_4_51) rfl k_) ?_
  obtain ⟨cl5, Ar5, q5, S5, Nn5, H5, G5⟩ := id V3
  have hin5 : ¬ ((1 : Int32) < 0 ∨ cl5.slots.size ≤ ((1 : Int32)).toNatClampNeg) := inb_of S5 ⟨by decide, by decide⟩
  obtain ⟨T5, h5, X5, e5, W5, st5⟩ := stB X4 hx hZ e4 Ar5 (j := (1 : Int32)) hin5 (g := (mkF m 52 #[rv a, iv 1, iv ch] [(.int ((ch >>> ((8 : Int32) &&& 31)).toInt8.toInt32)), (.int 1), (.ref a)])) rfl rfl (hb hby d_jdk_52_4_52)
  have V5 : Arv Z h5 a k_a .byte (6 : Int32) [(.int ((ch >>> ((0 : Int32) &&& 31)).toInt8.toInt32)), (.int ((ch >>> ((8 : Int32) &&& 31)).toInt8.toInt32)), (.int y2), (.int y3), (.int y4), (.int y5)] (.int (0 : Int32)) := by
    have q0 := Arv.set Ar5 q5 S5 Nn5 H5 G5 (fits_nar_byte _) W5 1 rfl (Nat.le_of_ble_eq_true rfl)
    first | rw [own_i8] at q0 | skip
    exact q0
  have z5 := W5.size
  have N5 := Fr.snoc X5 N3 (show n0 ≤ a by omega)
  have O5 := O3.wr W5 (show n0 ≤ a by omega)
  have K5 := K3.wr W5 (Or.inl (List.mem_of_getElem? (i := 0) rfl))
  refine og T5 (mkF m 53 #[rv a, iv 1, iv ch] []) (fun t_ k_ => st5 _ k_) ?_
  exact own_out X5 (v := none) (fun _ => rfl) hlk (fun fs hr => X5.returnOut hx hret (hb hby d_jdk_52_4_53) hr) (Q := Q_rm_put3_0 Z a ch y0 y1 y2 y3 y4 y5 k_a h0 n0) (by rw [e5]; exact ⟨rfl, N5, K5, V5⟩) (by decide) (by decide)
def Q_rm_get3_0 (Z : State) (a : Nat) (c0 : Int32) (c1 : Int32) (c2 : Int32) (k_a : ClassId) (h0 : Heap) (n0 : Nat) (vv : Option Value) (h : Heap) (LL : List Loc) : Prop := vv = some (.int c0) ∧ Fr n0 LL ∧ h = h0
set_option maxRecDepth 65536 in
set_option maxHeartbeats 40000000 in
theorem rm_get3_0 (l : Launch) (Z : State) (a0 : Array Value) (hw : ∀ d ∈ tables_1, d.before a0 Z = true) (ws : List Jvm.Cond) (a : Nat) (c0 : Int32) (c1 : Int32) (c2 : Int32) (k_a : ClassId) (h0 : Heap) (n0 : Nat) (Z0 : n0 ≤ h0.size) (hrc0 : ¬ (c0 < (0 : Int32)) ∧ ¬ ((65535 : Int32) < c0)) (hrc1 : ¬ (c1 < (0 : Int32)) ∧ ¬ ((65535 : Int32) < c1)) (hrc2 : ¬ (c2 < (0 : Int32)) ∧ ¬ ((65535 : Int32) < c2)) (V_a : Arv Z h0 a k_a .byte (6 : Int32) [(.int ((c0 >>> ((0 : Int32) &&& 31)).toInt8.toInt32)), (.int ((c0 >>> ((8 : Int32) &&& 31)).toInt8.toInt32)), (.int ((c1 >>> ((0 : Int32) &&& 31)).toInt8.toInt32)), (.int ((c1 >>> ((8 : Int32) &&& 31)).toInt8.toInt32)), (.int ((c2 >>> ((0 : Int32) &&& 31)).toInt8.toInt32)), (.int ((c2 >>> ((8 : Int32) &&& 31)).toInt8.toInt32))] (.int (0 : Int32))) (O0 : Old Z n0 h0) (S__assertionsDisabled : Sta Z Z.heap "java/lang/StringUTF16" "$assertionsDisabled" "Z" (.int 1)) (S_HI_BYTE_SHIFT : Sta Z Z.heap "java/lang/StringUTF16" "HI_BYTE_SHIFT" "I" (.int 0)) (S_LO_BYTE_SHIFT : Sta Z Z.heap "java/lang/StringUTF16" "LO_BYTE_SHIFT" "I" (.int 8)) :
    own_MF l ym_7 jdk_52_method_5_code 2 (some .char) ⟨0, 0, 0, 0⟩ ws Z #[(.ref a), (.int 0)] h0 (Q_rm_get3_0 Z a c0 c1 c2 k_a h0 n0) := by
  refine own_begin (plainFor_of_name pn_2) (fun m => ef_8 m a) ?_
  intro p e s m below meth c s₁ hret hx hby hml hown hnm hlk X0 e0 hh hZ
  have N0 := Fr.nil n0
  have lt_V_a := own_ltN V_a.lt
  obtain ⟨T1, X1, e1, st1⟩ := getS2 X0 hx hZ hown (host := "") (Or.inl (own_w hw 92 rfl)) Via.refl e0 (S__assertionsDisabled.ext O0.2) (g := (mkF m 0 #[rv a, iv 0] [])) rfl (hb hby d_jdk_52_5_0)
  refine og T1 (mkF m 3 #[rv a, iv 0] [(.int 1)]) (fun t_ k_ => st1 _ k_) ?_
  refine og T1 (mkF m 28 #[rv a, iv 0] []) (fun t_ k_ => XS.ifYes X1.here hx rfl (pc0 := 3) (pc' := 28) rfl (hb hby d_jdk_52_5_3) rfl ((if0 _ _).trans (feq (by decide)).2) (by decide) (by decide) k_) ?_
  refine og T1 (mkF m 29 #[rv a, iv 0] [(.int 0)]) (fun t_ k_ => XS.iloadN X1.here hx rfl (hb hby d_jdk_52_5_28) rfl k_) ?_
  refine og T1 (mkF m 30 #[rv a, iv 0] [(.int 1), (.int 0)]) (fun t_ k_ => XS.iconst X1.here hx rfl (hb hby d_jdk_52_5_29) k_) ?_
  refine og T1 (mkF m 31 #[rv a, iv 0] [(.int 0)]) (fun t_ k_ => XS.ishl X1.here hx rfl (hb hby d_jdk_52_5_30) rfl k_) ?_
  refine og T1 (mkF m 32 #[rv a, iv 0] []) (fun t_ k_ => XS.istoreN X1.here hx rfl (hb hby d_jdk_52_5_31) rfl (l' := #[rv a, iv 0]) rfl k_) ?_
  refine og T1 (mkF m 33 #[rv a, iv 0] [(.ref a)]) (fun t_ k_ => XS.aloadN X1.here hx rfl (hb hby d_jdk_52_5_32) rfl rfl k_) ?_
  refine og T1 (mkF m 34 #[rv a, iv 0] [(.int 0), (.ref a)]) (fun t_ k_ => XS.iloadN X1.here hx rfl (hb hby d_jdk_52_5_33) rfl k_) ?_
  refine og T1 (mkF m 37 #[rv a, iv 1] [(.int 0), (.ref a)]) (fun t_ k_ => XS.iinc X1.here hx rfl (hb hby d_jdk_52_5_34) rfl (l' := #[rv a, iv 1]) rfl k_) ?_
  obtain ⟨cl2, Ar2, -, S2, Nn2, H2, -⟩ := id V_a
  have hin2 : ¬ ((0 : Int32) < 0 ∨ cl2.slots.size ≤ ((0 : Int32)).toNatClampNeg) := inb_of S2 ⟨by decide, by decide⟩
  refine og T1 (mkF m 38 #[rv a, iv 1] [(.int ((c0 >>> ((0 : Int32) &&& 31)).toInt8.toInt32))]) (fun t_ k_ => X1.baloadBytes hx (j := (0 : Int32)) (v := (.int ((c0 >>> ((0 : Int32) &&& 31)).toInt8.toInt32))) (by rw [e1]; exact Ar2.1) (State.isArrayOf_alike hZ.alike Ar2.2.1) Ar2.2.2 hin2 (H2.at hin2 rfl) (g := (mkF m 37 #[rv a, iv 1] [(.int 0), (.ref a)])) rfl rfl (hb hby d_jdk_52_5_37) _ k_) ?_
  refine og T1 (mkF m 41 #[rv a, iv 1] [(.int 255), (.int ((c0 >>> ((0 : Int32) &&& 31)).toInt8.toInt32))]) (fun t_ k_ => XS.sipush X1.here hx rfl (hb hby d_jdk_52_5_38) k_) ?_
  refine og T1 (mkF m 42 #[rv a, iv 1] [(.int (((c0 >>> ((0 : Int32) &&& 31)).toInt8.toInt32) &&& (255 : Int32)))]) (fun t_ k_ => XS.iand X1.here hx rfl (hb hby d_jdk_52_5_41) rfl k_) ?_
  obtain ⟨T3, X3, e3, st3⟩ := getS2 X1 hx hZ hown (host := "") (Or.inl (own_w hw 93 rfl)) Via.refl e1 (S_HI_BYTE_SHIFT.ext O0.2) (g := (mkF m 42 #[rv a, iv 1] [(.int (((c0 >>> ((0 : Int32) &&& 31)).toInt8.toInt32) &&& (255 : Int32)))])) rfl (hb hby d_jdk_52_5_42)
  refine og T3 (mkF m 45 #[rv a, iv 1] [(.int 0), (.int (((c0 >>> ((0 : Int32) &&& 31)).toInt8.toInt32) &&& (255 : Int32)))]) (fun t_ k_ => st3 _ k_) ?_
  refine og T3 (mkF m 46 #[rv a, iv 1] [(.int ((((c0 >>> ((0 : Int32) &&& 31)).toInt8.toInt32) &&& (255 : Int32)) <<< ((0 : Int32) &&& 31)))]) (fun t_ k_ => XS.ishl X3.here hx rfl (hb hby d_jdk_52_5_45) rfl k_) ?_
  refine og T3 (mkF m 47 #[rv a, iv 1] [(.ref a), (.int ((((c0 >>> ((0 : Int32) &&& 31)).toInt8.toInt32) &&& (255 : Int32)) <<< ((0 : Int32) &&& 31)))]) (fun t_ k_ => XS.aloadN X3.here hx rfl (hb hby d_jdk_52_5_46) rfl rfl k_) ?_
  refine og T3 (mkF m 48 #[rv a, iv 1] [(.int 1), (.ref a), (.int ((((c0 >>> ((0 : Int32) &&& 31)).toInt8.toInt32) &&& (255 : Int32)) <<< ((0 : Int32) &&& 31)))]) (fun t_ k_ => XS.iloadN X3.here hx rfl (hb hby d_jdk_52_5_47) rfl k_) ?_
  obtain ⟨cl4, Ar4, -, S4, Nn4, H4, -⟩ := id V_a
  have hin4 : ¬ ((1 : Int32) < 0 ∨ cl4.slots.size ≤ ((1 : Int32)).toNatClampNeg) := inb_of S4 ⟨by decide, by decide⟩
  refine og T3 (mkF m 49 #[rv a, iv 1] [(.int ((c0 >>> ((8 : Int32) &&& 31)).toInt8.toInt32)), (.int ((((c0 >>> ((0 : Int32) &&& 31)).toInt8.toInt32) &&& (255 : Int32)) <<< ((0 : Int32) &&& 31)))]) (fun t_ k_ => X3.baloadBytes hx (j := (1 : Int32)) (v := (.int ((c0 >>> ((8 : Int32) &&& 31)).toInt8.toInt32))) (by rw [e3]; exact Ar4.1) (State.isArrayOf_alike hZ.alike Ar4.2.1) Ar4.2.2 hin4 (H4.at hin4 rfl) (g := (mkF m 48 #[rv a, iv 1] [(.int 1), (.ref a), (.int ((((c0 >>> ((0 : Int32) &&& 31)).toInt8.toInt32) &&& (255 : Int32)) <<< ((0 : Int32) &&& 31)))])) rfl rfl (hb hby d_jdk_52_5_48) _ k_) ?_
  refine og T3 (mkF m 52 #[rv a, iv 1] [(.int 255), (.int ((c0 >>> ((8 : Int32) &&& 31)).toInt8.toInt32)), (.int ((((c0 >>> ((0 : Int32) &&& 31)).toInt8.toInt32) &&& (255 : Int32)) <<< ((0 : Int32) &&& 31)))]) (fun t_ k_ => XS.sipush X3.here hx rfl (hb hby d_jdk_52_5_49) k_) ?_
  refine og T3 (mkF m 53 #[rv a, iv 1] [(.int (((c0 >>> ((8 : Int32) &&& 31)).toInt8.toInt32) &&& (255 : Int32))), (.int ((((c0 >>> ((0 : Int32) &&& 31)).toInt8.toInt32) &&& (255 : Int32)) <<< ((0 : Int32) &&& 31)))]) (fun t_ k_ => XS.iand X3.here hx rfl (hb hby d_jdk_52_5_52) rfl k_) ?_
  obtain ⟨T5, X5, e5, st5⟩ := getS2 X3 hx hZ hown (host := "") (Or.inl (own_w hw 94 rfl)) Via.refl e3 (S_LO_BYTE_SHIFT.ext O0.2) (g := (mkF m 53 #[rv a, iv 1] [(.int (((c0 >>> ((8 : Int32) &&& 31)).toInt8.toInt32) &&& (255 : Int32))), (.int ((((c0 >>> ((0 : Int32) &&& 31)).toInt8.toInt32) &&& (255 : Int32)) <<< ((0 : Int32) &&& 31)))])) rfl (hb hby d_jdk_52_5_53)
  refine og T5 (mkF m 56 #[rv a, iv 1] [(.int 8), (.int (((c0 >>> ((8 : Int32) &&& 31)).toInt8.toInt32) &&& (255 : Int32))), (.int ((((c0 >>> ((0 : Int32) &&& 31)).toInt8.toInt32) &&& (255 : Int32)) <<< ((0 : Int32) &&& 31)))]) (fun t_ k_ => st5 _ k_) ?_
  refine og T5 (mkF m 57 #[rv a, iv 1] [(.int ((((c0 >>> ((8 : Int32) &&& 31)).toInt8.toInt32) &&& (255 : Int32)) <<< ((8 : Int32) &&& 31))), (.int ((((c0 >>> ((0 : Int32) &&& 31)).toInt8.toInt32) &&& (255 : Int32)) <<< ((0 : Int32) &&& 31)))]) (fun t_ k_ => XS.ishl X5.here hx rfl (hb hby d_jdk_52_5_56) rfl k_) ?_
  refine og T5 (mkF m 58 #[rv a, iv 1] [(.int (((((c0 >>> ((0 : Int32) &&& 31)).toInt8.toInt32) &&& (255 : Int32)) <<< ((0 : Int32) &&& 31)) ||| ((((c0 >>> ((8 : Int32) &&& 31)).toInt8.toInt32) &&& (255 : Int32)) <<< ((8 : Int32) &&& 31))))]) (fun t_ k_ => XS.ior X5.here hx rfl (hb hby d_jdk_52_5_57) rfl k_) ?_
  refine og T5 (mkF m 59 #[rv a, iv 1] [(.int ((((((c0 >>> ((0 : Int32) &&& 31)).toInt8.toInt32) &&& (255 : Int32)) <<< ((0 : Int32) &&& 31)) ||| ((((c0 >>> ((8 : Int32) &&& 31)).toInt8.toInt32) &&& (255 : Int32)) <<< ((8 : Int32) &&& 31))).toUInt32.toUInt16.toUInt32.toInt32))]) (fun t_ k_ => XS.i2c X5.here hx rfl (hb hby d_jdk_52_5_58) rfl k_) ?_
  exact own_out X5 (v := some (.int (nar .char ((((((c0 >>> ((0 : Int32) &&& 31)).toInt8.toInt32) &&& (255 : Int32)) <<< ((0 : Int32) &&& 31)) ||| ((((c0 >>> ((8 : Int32) &&& 31)).toInt8.toInt32) &&& (255 : Int32)) <<< ((8 : Int32) &&& 31))).toUInt32.toUInt16.toUInt32.toInt32)))) (fun h => by rw [hret] at h; cases h) hlk (fun fs hr => retN X5 hx (t := .char) hret (by simp) (hb hby d_jdk_52_5_59) hr) (Q := Q_rm_get3_0 Z a c0 c1 c2 k_a h0 n0) (by rw [e5]; exact ⟨(congrArg (fun z => some (Value.int z)) ((own_narc16 (own_i2cr _)).trans (own_join hrc0))), N0, rfl⟩) (by decide) (by decide)
def Q_rm_put3_1 (Z : State) (a : Nat) (ch : Int32) (y0 : Int32) (y1 : Int32) (y2 : Int32) (y3 : Int32) (y4 : Int32) (y5 : Int32) (k_a : ClassId) (h0 : Heap) (n0 : Nat) (vv : Option Value) (h : Heap) (LL : List Loc) : Prop := vv = none ∧ Fr n0 LL ∧ Keep h0 h [a] ∧ Arv Z h a k_a .byte (6 : Int32) [(.int y0), (.int y1), (.int ((ch >>> ((0 : Int32) &&& 31)).toInt8.toInt32)), (.int ((ch >>> ((8 : Int32) &&& 31)).toInt8.toInt32)), (.int y4), (.int y5)] (.int (0 : Int32))
set_option maxRecDepth 65536 in
set_option maxHeartbeats 40000000 in
theorem rm_put3_1 (l : Launch) (Z : State) (a0 : Array Value) (hw : ∀ d ∈ tables_1, d.before a0 Z = true) (ws : List Jvm.Cond) (a : Nat) (ch : Int32) (y0 : Int32) (y1 : Int32) (y2 : Int32) (y3 : Int32) (y4 : Int32) (y5 : Int32) (k_a : ClassId) (h0 : Heap) (n0 : Nat) (Z0 : n0 ≤ h0.size) (O0 : Old Z n0 h0) (S__assertionsDisabled : Sta Z Z.heap "java/lang/StringUTF16" "$assertionsDisabled" "Z" (.int 1)) (S_HI_BYTE_SHIFT : Sta Z Z.heap "java/lang/StringUTF16" "HI_BYTE_SHIFT" "I" (.int 0)) (S_LO_BYTE_SHIFT : Sta Z Z.heap "java/lang/StringUTF16" "LO_BYTE_SHIFT" "I" (.int 8)) (V_a : Arv Z h0 a k_a .byte (6 : Int32) [(.int y0), (.int y1), (.int y2), (.int y3), (.int y4), (.int y5)] (.int (0 : Int32))) (g_a : n0 ≤ a) :
    own_MF l ym_6 jdk_52_method_4_code 3 none ⟨0, 0, 0, 0⟩ ws Z #[(.ref a), (.int 1), (.int ch)] h0 (Q_rm_put3_1 Z a ch y0 y1 y2 y3 y4 y5 k_a h0 n0) := by
  refine own_begin (plainFor_of_name pn_2) (fun m => ef_17 m a ch) ?_
  intro p e s m below meth c s₁ hret hx hby hml hown hnm hlk X0 e0 hh hZ
  have N0 := Fr.nil n0
  have lt_V_a := own_ltN V_a.lt
  obtain ⟨T1, X1, e1, st1⟩ := getS2 X0 hx hZ hown (host := "") (Or.inl (own_w hw 92 rfl)) Via.refl e0 (S__assertionsDisabled.ext O0.2) (g := (mkF m 0 #[rv a, iv 1, iv ch] [])) rfl (hb hby d_jdk_52_4_0)
  refine og T1 (mkF m 3 #[rv a, iv 1, iv ch] [(.int 1)]) (fun t_ k_ => st1 _ k_) ?_
  refine og T1 (mkF m 28 #[rv a, iv 1, iv ch] []) (fun t_ k_ => XS.ifYes X1.here hx rfl (pc0 := 3) (pc' := 28) rfl (hb hby d_jdk_52_4_3) rfl ((if0 _ _).trans (feq (by decide)).2) (by decide) (by decide) k_) ?_
  refine og T1 (mkF m 29 #[rv a, iv 1, iv ch] [(.int 1)]) (fun t_ k_ => XS.iloadN X1.here hx rfl (hb hby d_jdk_52_4_28) rfl k_) ?_
  refine og T1 (mkF m 30 #[rv a, iv 1, iv ch] [(.int 1), (.int 1)]) (fun t_ k_ => XS.iconst X1.here hx rfl (hb hby d_jdk_52_4_29) k_) ?_
  refine og T1 (mkF m 31 #[rv a, iv 1, iv ch] [(.int 2)]) (fun t_ k_ => XS.ishl X1.here hx rfl (hb hby d_jdk_52_4_30) rfl k_) ?_
  refine og T1 (mkF m 32 #[rv a, iv 2, iv ch] []) (fun t_ k_ => XS.istoreN X1.here hx rfl (hb hby d_jdk_52_4_31) rfl (l' := #[rv a, iv 2, iv ch]) rfl k_) ?_
  refine og T1 (mkF m 33 #[rv a, iv 2, iv ch] [(.ref a)]) (fun t_ k_ => XS.aloadN X1.here hx rfl (hb hby d_jdk_52_4_32) rfl rfl k_) ?_
  refine og T1 (mkF m 34 #[rv a, iv 2, iv ch] [(.int 2), (.ref a)]) (fun t_ k_ => XS.iloadN X1.here hx rfl (hb hby d_jdk_52_4_33) rfl k_) ?_
  refine og T1 (mkF m 37 #[rv a, iv 3, iv ch] [(.int 2), (.ref a)]) (fun t_ k_ => XS.iinc X1.here hx rfl (hb hby d_jdk_52_4_34) rfl (l' := #[rv a, iv 3, iv ch]) rfl k_) ?_
  refine og T1 (mkF m 38 #[rv a, iv 3, iv ch] [(.int ch), (.int 2), (.ref a)]) (fun t_ k_ => XS.iloadN X1.here hx rfl (hb hby d_jdk_52_4_37) rfl k_) ?_
  obtain ⟨T2, X2, e2, st2⟩ := getS2 X1 hx hZ hown (host := "") (Or.inl (own_w hw 93 rfl)) Via.refl e1 (S_HI_BYTE_SHIFT.ext O0.2) (g := (mkF m 38 #[rv a, iv 3, iv ch] [(.int ch), (.int 2), (.ref a)])) rfl (hb hby d_jdk_52_4_38)
  refine og T2 (mkF m 41 #[rv a, iv 3, iv ch] [(.int 0), (.int ch), (.int 2), (.ref a)]) (fun t_ k_ => st2 _ k_) ?_
  refine og T2 (mkF m 42 #[rv a, iv 3, iv ch] [(.int (ch >>> ((0 : Int32) &&& 31))), (.int 2), (.ref a)]) (fun t_ k_ => XS.ishr X2.here hx rfl (hb hby d_jdk_52_4_41) rfl k_) ?_
  refine og T2 (mkF m 43 #[rv a, iv 3, iv ch] [(.int ((ch >>> ((0 : Int32) &&& 31)).toInt8.toInt32)), (.int 2), (.ref a)]) (fun t_ k_ => XS.i2b X2.here hx rfl (hb hby d_jdk_52_4_42) rfl k_) ?_
  obtain ⟨cl3, Ar3, q3, S3, Nn3, H3, G3⟩ := id V_a
  have hin3 : ¬ ((2 : Int32) < 0 ∨ cl3.slots.size ≤ ((2 : Int32)).toNatClampNeg) := inb_of S3 ⟨by decide, by decide⟩
  obtain ⟨T3, h3, X3, e3, W3, st3⟩ := stB X2 hx hZ e2 Ar3 (j := (2 : Int32)) hin3 (g := (mkF m 43 #[rv a, iv 3, iv ch] [(.int ((ch >>> ((0 : Int32) &&& 31)).toInt8.toInt32)), (.int 2), (.ref a)])) rfl rfl (hb hby d_jdk_52_4_43)
  have V3 : Arv Z h3 a k_a .byte (6 : Int32) [(.int y0), (.int y1), (.int ((ch >>> ((0 : Int32) &&& 31)).toInt8.toInt32)), (.int y3), (.int y4), (.int y5)] (.int (0 : Int32)) := by
    have q0 := Arv.set Ar3 q3 S3 Nn3 H3 G3 (fits_nar_byte _) W3 2 rfl (Nat.le_of_ble_eq_true rfl)
    first | rw [own_i8] at q0 | skip
    exact q0
  have z3 := W3.size
  have N3 := Fr.snoc X3 N0 (show n0 ≤ a by omega)
  have O3 := O0.wr W3 (show n0 ≤ a by omega)
  have K3 := (Keep.refl h0 [a]).wr W3 (Or.inl (List.mem_of_getElem? (i := 0) rfl))
  refine og T3 (mkF m 44 #[rv a, iv 3, iv ch] []) (fun t_ k_ => st3 _ k_) ?_
  refine og T3 (mkF m 45 #[rv a, iv 3, iv ch] [(.ref a)]) (fun t_ k_ => XS.aloadN X3.here hx rfl (hb hby d_jdk_52_4_44) rfl rfl k_) ?_
  refine og T3 (mkF m 46 #[rv a, iv 3, iv ch] [(.int 3), (.ref a)]) (fun t_ k_ => XS.iloadN X3.here hx rfl (hb hby d_jdk_52_4_45) rfl k_) ?_
  refine og T3 (mkF m 47 #[rv a, iv 3, iv ch] [(.int ch), (.int 3), (.ref a)]) (fun t_ k_ => XS.iloadN X3.here hx rfl (hb hby d_jdk_52_4_46) rfl k_) ?_
  obtain ⟨T4, X4, e4, st4⟩ := getS2 X3 hx hZ hown (host := "") (Or.inl (own_w hw 94 rfl)) Via.refl e3 (S_LO_BYTE_SHIFT.ext O3.2) (g := (mkF m 47 #[rv a, iv 3, iv ch] [(.int ch), (.int 3), (.ref a)])) rfl (hb hby d_jdk_52_4_47)
  refine og T4 (mkF m 50 #[rv a, iv 3, iv ch] [(.int 8), (.int ch), (.int 3), (.ref a)]) (fun t_ k_ => st4 _ k_) ?_
  refine og T4 (mkF m 51 #[rv a, iv 3, iv ch] [(.int (ch >>> ((8 : Int32) &&& 31))), (.int 3), (.ref a)]) (fun t_ k_ => XS.ishr X4.here hx rfl (hb hby d_jdk_52_4_50) rfl k_) ?_
  refine og T4 (mkF m 52 #[rv a, iv 3, iv ch] [(.int ((ch >>> ((8 : Int32) &&& 31)).toInt8.toInt32)), (.int 3), (.ref a)]) (fun t_ k_ => XS.i2b X4.here hx rfl (hb hby d_jdk_52_4_51) rfl k_) ?_
  obtain ⟨cl5, Ar5, q5, S5, Nn5, H5, G5⟩ := id V3
  have hin5 : ¬ ((3 : Int32) < 0 ∨ cl5.slots.size ≤ ((3 : Int32)).toNatClampNeg) := inb_of S5 ⟨by decide, by decide⟩
  obtain ⟨T5, h5, X5, e5, W5, st5⟩ := stB X4 hx hZ e4 Ar5 (j := (3 : Int32)) hin5 (g := (mkF m 52 #[rv a, iv 3, iv ch] [(.int ((ch >>> ((8 : Int32) &&& 31)).toInt8.toInt32)), (.int 3), (.ref a)])) rfl rfl (hb hby d_jdk_52_4_52)
  have V5 : Arv Z h5 a k_a .byte (6 : Int32) [(.int y0), (.int y1), (.int ((ch >>> ((0 : Int32) &&& 31)).toInt8.toInt32)), (.int ((ch >>> ((8 : Int32) &&& 31)).toInt8.toInt32)), (.int y4), (.int y5)] (.int (0 : Int32)) := by
    have q0 := Arv.set Ar5 q5 S5 Nn5 H5 G5 (fits_nar_byte _) W5 3 rfl (Nat.le_of_ble_eq_true rfl)
    first | rw [own_i8] at q0 | skip
    exact q0
  have z5 := W5.size
  have N5 := Fr.snoc X5 N3 (show n0 ≤ a by omega)
  have O5 := O3.wr W5 (show n0 ≤ a by omega)
  have K5 := K3.wr W5 (Or.inl (List.mem_of_getElem? (i := 0) rfl))
  refine og T5 (mkF m 53 #[rv a, iv 3, iv ch] []) (fun t_ k_ => st5 _ k_) ?_
  exact own_out X5 (v := none) (fun _ => rfl) hlk (fun fs hr => X5.returnOut hx hret (hb hby d_jdk_52_4_53) hr) (Q := Q_rm_put3_1 Z a ch y0 y1 y2 y3 y4 y5 k_a h0 n0) (by rw [e5]; exact ⟨rfl, N5, K5, V5⟩) (by decide) (by decide)
def Q_rm_get3_1 (Z : State) (a : Nat) (c0 : Int32) (c1 : Int32) (c2 : Int32) (k_a : ClassId) (h0 : Heap) (n0 : Nat) (vv : Option Value) (h : Heap) (LL : List Loc) : Prop := vv = some (.int c1) ∧ Fr n0 LL ∧ h = h0
set_option maxRecDepth 65536 in
set_option maxHeartbeats 40000000 in
theorem rm_get3_1 (l : Launch) (Z : State) (a0 : Array Value) (hw : ∀ d ∈ tables_1, d.before a0 Z = true) (ws : List Jvm.Cond) (a : Nat) (c0 : Int32) (c1 : Int32) (c2 : Int32) (k_a : ClassId) (h0 : Heap) (n0 : Nat) (Z0 : n0 ≤ h0.size) (hrc0 : ¬ (c0 < (0 : Int32)) ∧ ¬ ((65535 : Int32) < c0)) (hrc1 : ¬ (c1 < (0 : Int32)) ∧ ¬ ((65535 : Int32) < c1)) (hrc2 : ¬ (c2 < (0 : Int32)) ∧ ¬ ((65535 : Int32) < c2)) (V_a : Arv Z h0 a k_a .byte (6 : Int32) [(.int ((c0 >>> ((0 : Int32) &&& 31)).toInt8.toInt32)), (.int ((c0 >>> ((8 : Int32) &&& 31)).toInt8.toInt32)), (.int ((c1 >>> ((0 : Int32) &&& 31)).toInt8.toInt32)), (.int ((c1 >>> ((8 : Int32) &&& 31)).toInt8.toInt32)), (.int ((c2 >>> ((0 : Int32) &&& 31)).toInt8.toInt32)), (.int ((c2 >>> ((8 : Int32) &&& 31)).toInt8.toInt32))] (.int (0 : Int32))) (O0 : Old Z n0 h0) (S__assertionsDisabled : Sta Z Z.heap "java/lang/StringUTF16" "$assertionsDisabled" "Z" (.int 1)) (S_HI_BYTE_SHIFT : Sta Z Z.heap "java/lang/StringUTF16" "HI_BYTE_SHIFT" "I" (.int 0)) (S_LO_BYTE_SHIFT : Sta Z Z.heap "java/lang/StringUTF16" "LO_BYTE_SHIFT" "I" (.int 8)) :
    own_MF l ym_7 jdk_52_method_5_code 2 (some .char) ⟨0, 0, 0, 0⟩ ws Z #[(.ref a), (.int 1)] h0 (Q_rm_get3_1 Z a c0 c1 c2 k_a h0 n0) := by
  refine own_begin (plainFor_of_name pn_2) (fun m => ef_18 m a) ?_
  intro p e s m below meth c s₁ hret hx hby hml hown hnm hlk X0 e0 hh hZ
  have N0 := Fr.nil n0
  have lt_V_a := own_ltN V_a.lt
  obtain ⟨T1, X1, e1, st1⟩ := getS2 X0 hx hZ hown (host := "") (Or.inl (own_w hw 92 rfl)) Via.refl e0 (S__assertionsDisabled.ext O0.2) (g := (mkF m 0 #[rv a, iv 1] [])) rfl (hb hby d_jdk_52_5_0)
  refine og T1 (mkF m 3 #[rv a, iv 1] [(.int 1)]) (fun t_ k_ => st1 _ k_) ?_
  refine og T1 (mkF m 28 #[rv a, iv 1] []) (fun t_ k_ => XS.ifYes X1.here hx rfl (pc0 := 3) (pc' := 28) rfl (hb hby d_jdk_52_5_3) rfl ((if0 _ _).trans (feq (by decide)).2) (by decide) (by decide) k_) ?_
  refine og T1 (mkF m 29 #[rv a, iv 1] [(.int 1)]) (fun t_ k_ => XS.iloadN X1.here hx rfl (hb hby d_jdk_52_5_28) rfl k_) ?_
  refine og T1 (mkF m 30 #[rv a, iv 1] [(.int 1), (.int 1)]) (fun t_ k_ => XS.iconst X1.here hx rfl (hb hby d_jdk_52_5_29) k_) ?_
  refine og T1 (mkF m 31 #[rv a, iv 1] [(.int 2)]) (fun t_ k_ => XS.ishl X1.here hx rfl (hb hby d_jdk_52_5_30) rfl k_) ?_
  refine og T1 (mkF m 32 #[rv a, iv 2] []) (fun t_ k_ => XS.istoreN X1.here hx rfl (hb hby d_jdk_52_5_31) rfl (l' := #[rv a, iv 2]) rfl k_) ?_
  refine og T1 (mkF m 33 #[rv a, iv 2] [(.ref a)]) (fun t_ k_ => XS.aloadN X1.here hx rfl (hb hby d_jdk_52_5_32) rfl rfl k_) ?_
  refine og T1 (mkF m 34 #[rv a, iv 2] [(.int 2), (.ref a)]) (fun t_ k_ => XS.iloadN X1.here hx rfl (hb hby d_jdk_52_5_33) rfl k_) ?_
  refine og T1 (mkF m 37 #[rv a, iv 3] [(.int 2), (.ref a)]) (fun t_ k_ => XS.iinc X1.here hx rfl (hb hby d_jdk_52_5_34) rfl (l' := #[rv a, iv 3]) rfl k_) ?_
  obtain ⟨cl2, Ar2, -, S2, Nn2, H2, -⟩ := id V_a
  have hin2 : ¬ ((2 : Int32) < 0 ∨ cl2.slots.size ≤ ((2 : Int32)).toNatClampNeg) := inb_of S2 ⟨by decide, by decide⟩
  refine og T1 (mkF m 38 #[rv a, iv 3] [(.int ((c1 >>> ((0 : Int32) &&& 31)).toInt8.toInt32))]) (fun t_ k_ => X1.baloadBytes hx (j := (2 : Int32)) (v := (.int ((c1 >>> ((0 : Int32) &&& 31)).toInt8.toInt32))) (by rw [e1]; exact Ar2.1) (State.isArrayOf_alike hZ.alike Ar2.2.1) Ar2.2.2 hin2 (H2.at hin2 rfl) (g := (mkF m 37 #[rv a, iv 3] [(.int 2), (.ref a)])) rfl rfl (hb hby d_jdk_52_5_37) _ k_) ?_
  refine og T1 (mkF m 41 #[rv a, iv 3] [(.int 255), (.int ((c1 >>> ((0 : Int32) &&& 31)).toInt8.toInt32))]) (fun t_ k_ => XS.sipush X1.here hx rfl (hb hby d_jdk_52_5_38) k_) ?_
  refine og T1 (mkF m 42 #[rv a, iv 3] [(.int (((c1 >>> ((0 : Int32) &&& 31)).toInt8.toInt32) &&& (255 : Int32)))]) (fun t_ k_ => XS.iand X1.here hx rfl (hb hby d_jdk_52_5_41) rfl k_) ?_
  obtain ⟨T3, X3, e3, st3⟩ := getS2 X1 hx hZ hown (host := "") (Or.inl (own_w hw 93 rfl)) Via.refl e1 (S_HI_BYTE_SHIFT.ext O0.2) (g := (mkF m 42 #[rv a, iv 3] [(.int (((c1 >>> ((0 : Int32) &&& 31)).toInt8.toInt32) &&& (255 : Int32)))])) rfl (hb hby d_jdk_52_5_42)
  refine og T3 (mkF m 45 #[rv a, iv 3] [(.int 0), (.int (((c1 >>> ((0 : Int32) &&& 31)).toInt8.toInt32) &&& (255 : Int32)))]) (fun t_ k_ => st3 _ k_) ?_
  refine og T3 (mkF m 46 #[rv a, iv 3] [(.int ((((c1 >>> ((0 : Int32) &&& 31)).toInt8.toInt32) &&& (255 : Int32)) <<< ((0 : Int32) &&& 31)))]) (fun t_ k_ => XS.ishl X3.here hx rfl (hb hby d_jdk_52_5_45) rfl k_) ?_
  refine og T3 (mkF m 47 #[rv a, iv 3] [(.ref a), (.int ((((c1 >>> ((0 : Int32) &&& 31)).toInt8.toInt32) &&& (255 : Int32)) <<< ((0 : Int32) &&& 31)))]) (fun t_ k_ => XS.aloadN X3.here hx rfl (hb hby d_jdk_52_5_46) rfl rfl k_) ?_
  refine og T3 (mkF m 48 #[rv a, iv 3] [(.int 3), (.ref a), (.int ((((c1 >>> ((0 : Int32) &&& 31)).toInt8.toInt32) &&& (255 : Int32)) <<< ((0 : Int32) &&& 31)))]) (fun t_ k_ => XS.iloadN X3.here hx rfl (hb hby d_jdk_52_5_47) rfl k_) ?_
  obtain ⟨cl4, Ar4, -, S4, Nn4, H4, -⟩ := id V_a
  have hin4 : ¬ ((3 : Int32) < 0 ∨ cl4.slots.size ≤ ((3 : Int32)).toNatClampNeg) := inb_of S4 ⟨by decide, by decide⟩
  refine og T3 (mkF m 49 #[rv a, iv 3] [(.int ((c1 >>> ((8 : Int32) &&& 31)).toInt8.toInt32)), (.int ((((c1 >>> ((0 : Int32) &&& 31)).toInt8.toInt32) &&& (255 : Int32)) <<< ((0 : Int32) &&& 31)))]) (fun t_ k_ => X3.baloadBytes hx (j := (3 : Int32)) (v := (.int ((c1 >>> ((8 : Int32) &&& 31)).toInt8.toInt32))) (by rw [e3]; exact Ar4.1) (State.isArrayOf_alike hZ.alike Ar4.2.1) Ar4.2.2 hin4 (H4.at hin4 rfl) (g := (mkF m 48 #[rv a, iv 3] [(.int 3), (.ref a), (.int ((((c1 >>> ((0 : Int32) &&& 31)).toInt8.toInt32) &&& (255 : Int32)) <<< ((0 : Int32) &&& 31)))])) rfl rfl (hb hby d_jdk_52_5_48) _ k_) ?_
  refine og T3 (mkF m 52 #[rv a, iv 3] [(.int 255), (.int ((c1 >>> ((8 : Int32) &&& 31)).toInt8.toInt32)), (.int ((((c1 >>> ((0 : Int32) &&& 31)).toInt8.toInt32) &&& (255 : Int32)) <<< ((0 : Int32) &&& 31)))]) (fun t_ k_ => XS.sipush X3.here hx rfl (hb hby d_jdk_52_5_49) k_) ?_
  refine og T3 (mkF m 53 #[rv a, iv 3] [(.int (((c1 >>> ((8 : Int32) &&& 31)).toInt8.toInt32) &&& (255 : Int32))), (.int ((((c1 >>> ((0 : Int32) &&& 31)).toInt8.toInt32) &&& (255 : Int32)) <<< ((0 : Int32) &&& 31)))]) (fun t_ k_ => XS.iand X3.here hx rfl (hb hby d_jdk_52_5_52) rfl k_) ?_
  obtain ⟨T5, X5, e5, st5⟩ := getS2 X3 hx hZ hown (host := "") (Or.inl (own_w hw 94 rfl)) Via.refl e3 (S_LO_BYTE_SHIFT.ext O0.2) (g := (mkF m 53 #[rv a, iv 3] [(.int (((c1 >>> ((8 : Int32) &&& 31)).toInt8.toInt32) &&& (255 : Int32))), (.int ((((c1 >>> ((0 : Int32) &&& 31)).toInt8.toInt32) &&& (255 : Int32)) <<< ((0 : Int32) &&& 31)))])) rfl (hb hby d_jdk_52_5_53)
  refine og T5 (mkF m 56 #[rv a, iv 3] [(.int 8), (.int (((c1 >>> ((8 : Int32) &&& 31)).toInt8.toInt32) &&& (255 : Int32))), (.int ((((c1 >>> ((0 : Int32) &&& 31)).toInt8.toInt32) &&& (255 : Int32)) <<< ((0 : Int32) &&& 31)))]) (fun t_ k_ => st5 _ k_) ?_
  refine og T5 (mkF m 57 #[rv a, iv 3] [(.int ((((c1 >>> ((8 : Int32) &&& 31)).toInt8.toInt32) &&& (255 : Int32)) <<< ((8 : Int32) &&& 31))), (.int ((((c1 >>> ((0 : Int32) &&& 31)).toInt8.toInt32) &&& (255 : Int32)) <<< ((0 : Int32) &&& 31)))]) (fun t_ k_ => XS.ishl X5.here hx rfl (hb hby d_jdk_52_5_56) rfl k_) ?_
  refine og T5 (mkF m 58 #[rv a, iv 3] [(.int (((((c1 >>> ((0 : Int32) &&& 31)).toInt8.toInt32) &&& (255 : Int32)) <<< ((0 : Int32) &&& 31)) ||| ((((c1 >>> ((8 : Int32) &&& 31)).toInt8.toInt32) &&& (255 : Int32)) <<< ((8 : Int32) &&& 31))))]) (fun t_ k_ => XS.ior X5.here hx rfl (hb hby d_jdk_52_5_57) rfl k_) ?_
  refine og T5 (mkF m 59 #[rv a, iv 3] [(.int ((((((c1 >>> ((0 : Int32) &&& 31)).toInt8.toInt32) &&& (255 : Int32)) <<< ((0 : Int32) &&& 31)) ||| ((((c1 >>> ((8 : Int32) &&& 31)).toInt8.toInt32) &&& (255 : Int32)) <<< ((8 : Int32) &&& 31))).toUInt32.toUInt16.toUInt32.toInt32))]) (fun t_ k_ => XS.i2c X5.here hx rfl (hb hby d_jdk_52_5_58) rfl k_) ?_
  exact own_out X5 (v := some (.int (nar .char ((((((c1 >>> ((0 : Int32) &&& 31)).toInt8.toInt32) &&& (255 : Int32)) <<< ((0 : Int32) &&& 31)) ||| ((((c1 >>> ((8 : Int32) &&& 31)).toInt8.toInt32) &&& (255 : Int32)) <<< ((8 : Int32) &&& 31))).toUInt32.toUInt16.toUInt32.toInt32)))) (fun h => by rw [hret] at h; cases h) hlk (fun fs hr => retN X5 hx (t := .char) hret (by simp) (hb hby d_jdk_52_5_59) hr) (Q := Q_rm_get3_1 Z a c0 c1 c2 k_a h0 n0) (by rw [e5]; exact ⟨(congrArg (fun z => some (Value.int z)) ((own_narc16 (own_i2cr _)).trans (own_join hrc1))), N0, rfl⟩) (by decide) (by decide)
theorem ef_26 (m : MethodId) (a : Nat) (ch : Int32) : entryFrame m #[(.ref a), (.int 2), (.int ch)] 3 = mkF m 0 #[rv a, iv 2, iv ch] [] := by first | (simp [entryFrame, mkF, argsToLocals, Value.category]; done) | rfl
def Q_rm_put3_2 (Z : State) (a : Nat) (ch : Int32) (y0 : Int32) (y1 : Int32) (y2 : Int32) (y3 : Int32) (y4 : Int32) (y5 : Int32) (k_a : ClassId) (h0 : Heap) (n0 : Nat) (vv : Option Value) (h : Heap) (LL : List Loc) : Prop := vv = none ∧ Fr n0 LL ∧ Keep h0 h [a] ∧ Arv Z h a k_a .byte (6 : Int32) [(.int y0), (.int y1), (.int y2), (.int y3), (.int ((ch >>> ((0 : Int32) &&& 31)).toInt8.toInt32)), (.int ((ch >>> ((8 : Int32) &&& 31)).toInt8.toInt32))] (.int (0 : Int32))
set_option maxRecDepth 65536 in
set_option maxHeartbeats 40000000 in
theorem rm_put3_2 (l : Launch) (Z : State) (a0 : Array Value) (hw : ∀ d ∈ tables_1, d.before a0 Z = true) (ws : List Jvm.Cond) (a : Nat) (ch : Int32) (y0 : Int32) (y1 : Int32) (y2 : Int32) (y3 : Int32) (y4 : Int32) (y5 : Int32) (k_a : ClassId) (h0 : Heap) (n0 : Nat) (Z0 : n0 ≤ h0.size) (O0 : Old Z n0 h0) (S__assertionsDisabled : Sta Z Z.heap "java/lang/StringUTF16" "$assertionsDisabled" "Z" (.int 1)) (S_HI_BYTE_SHIFT : Sta Z Z.heap "java/lang/StringUTF16" "HI_BYTE_SHIFT" "I" (.int 0)) (S_LO_BYTE_SHIFT : Sta Z Z.heap "java/lang/StringUTF16" "LO_BYTE_SHIFT" "I" (.int 8)) (V_a : Arv Z h0 a k_a .byte (6 : Int32) [(.int y0), (.int y1), (.int y2), (.int y3), (.int y4), (.int y5)] (.int (0 : Int32))) (g_a : n0 ≤ a) :
    own_MF l ym_6 jdk_52_method_4_code 3 none ⟨0, 0, 0, 0⟩ ws Z #[(.ref a), (.int 2), (.int ch)] h0 (Q_rm_put3_2 Z a ch y0 y1 y2 y3 y4 y5 k_a h0 n0) := by
  refine own_begin (plainFor_of_name pn_2) (fun m => ef_26 m a ch) ?_
  intro p e s m below meth c s₁ hret hx hby hml hown hnm hlk X0 e0 hh hZ
  have N0 := Fr.nil n0
  have lt_V_a := own_ltN V_a.lt
  obtain ⟨T1, X1, e1, st1⟩ := getS2 X0 hx hZ hown (host := "") (Or.inl (own_w hw 92 rfl)) Via.refl e0 (S__assertionsDisabled.ext O0.2) (g := (mkF m 0 #[rv a, iv 2, iv ch] [])) rfl (hb hby d_jdk_52_4_0)
  refine og T1 (mkF m 3 #[rv a, iv 2, iv ch] [(.int 1)]) (fun t_ k_ => st1 _ k_) ?_
  refine og T1 (mkF m 28 #[rv a, iv 2, iv ch] []) (fun t_ k_ => XS.ifYes X1.here hx rfl (pc0 := 3) (pc' := 28) rfl (hb hby d_jdk_52_4_3) rfl ((if0 _ _).trans (feq (by decide)).2) (by decide) (by decide) k_) ?_
  refine og T1 (mkF m 29 #[rv a, iv 2, iv ch] [(.int 2)]) (fun t_ k_ => XS.iloadN X1.here hx rfl (hb hby d_jdk_52_4_28) rfl k_) ?_
  refine og T1 (mkF m 30 #[rv a, iv 2, iv ch] [(.int 1), (.int 2)]) (fun t_ k_ => XS.iconst X1.here hx rfl (hb hby d_jdk_52_4_29) k_) ?_
  refine og T1 (mkF m 31 #[rv a, iv 2, iv ch] [(.int 4)]) (fun t_ k_ => XS.ishl X1.here hx rfl (hb hby d_jdk_52_4_30) rfl k_) ?_
  refine og T1 (mkF m 32 #[rv a, iv 4, iv ch] []) (fun t_ k_ => XS.istoreN X1.here hx rfl (hb hby d_jdk_52_4_31) rfl (l' := #[rv a, iv 4, iv ch]) rfl k_) ?_
  refine og T1 (mkF m 33 #[rv a, iv 4, iv ch] [(.ref a)]) (fun t_ k_ => XS.aloadN X1.here hx rfl (hb hby d_jdk_52_4_32) rfl rfl k_) ?_
  refine og T1 (mkF m 34 #[rv a, iv 4, iv ch] [(.int 4), (.ref a)]) (fun t_ k_ => XS.iloadN X1.here hx rfl (hb hby d_jdk_52_4_33) rfl k_) ?_
  refine og T1 (mkF m 37 #[rv a, iv 5, iv ch] [(.int 4), (.ref a)]) (fun t_ k_ => XS.iinc X1.here hx rfl (hb hby d_jdk_52_4_34) rfl (l' := #[rv a, iv 5, iv ch]) rfl k_) ?_
  refine og T1 (mkF m 38 #[rv a, iv 5, iv ch] [(.int ch), (.int 4), (.ref a)]) (fun t_ k_ => XS.iloadN X1.here hx rfl (hb hby d_jdk_52_4_37) rfl k_) ?_
  obtain ⟨T2, X2, e2, st2⟩ := getS2 X1 hx hZ hown (host := "") (Or.inl (own_w hw 93 rfl)) Via.refl e1 (S_HI_BYTE_SHIFT.ext O0.2) (g := (mkF m 38 #[rv a, iv 5, iv ch] [(.int ch), (.int 4), (.ref a)])) rfl (hb hby d_jdk_52_4_38)
  refine og T2 (mkF m 41 #[rv a, iv 5, iv ch] [(.int 0), (.int ch), (.int 4), (.ref a)]) (fun t_ k_ => st2 _ k_) ?_
  refine og T2 (mkF m 42 #[rv a, iv 5, iv ch] [(.int (ch >>> ((0 : Int32) &&& 31))), (.int 4), (.ref a)]) (fun t_ k_ => XS.ishr X2.here hx rfl (hb hby d_jdk_52_4_41) rfl k_) ?_
  refine og T2 (mkF m 43 #[rv a, iv 5, iv ch] [(.int ((ch >>> ((0 : Int32) &&& 31)).toInt8.toInt32)), (.int 4), (.ref a)]) (fun t_ k_ => XS.i2b X2.here hx rfl (hb hby d_jdk_52_4_42) rfl k_) ?_
  obtain ⟨cl3, Ar3, q3, S3, Nn3, H3, G3⟩ := id V_a
  have hin3 : ¬ ((4 : Int32) < 0 ∨ cl3.slots.size ≤ ((4 : Int32)).toNatClampNeg) := inb_of S3 ⟨by decide, by decide⟩
  obtain ⟨T3, h3, X3, e3, W3, st3⟩ := stB X2 hx hZ e2 Ar3 (j := (4 : Int32)) hin3 (g := (mkF m 43 #[rv a, iv 5, iv ch] [(.int ((ch >>> ((0 : Int32) &&& 31)).toInt8.toInt32)), (.int 4), (.ref a)])) rfl rfl (hb hby d_jdk_52_4_43)
  have V3 : Arv Z h3 a k_a .byte (6 : Int32) [(.int y0), (.int y1), (.int y2), (.int y3), (.int ((ch >>> ((0 : Int32) &&& 31)).toInt8.toInt32)), (.int y5)] (.int (0 : Int32)) := by
    have q0 := Arv.set Ar3 q3 S3 Nn3 H3 G3 (fits_nar_byte _) W3 4 rfl (Nat.le_of_ble_eq_true rfl)
    first | rw [own_i8] at q0 | skip
    exact q0
  have z3 := W3.size
  have N3 := Fr.snoc X3 N0 (show n0 ≤ a by omega)
  have O3 := O0.wr W3 (show n0 ≤ a by omega)
  have K3 := (Keep.refl h0 [a]).wr W3 (Or.inl (List.mem_of_getElem? (i := 0) rfl))
  refine og T3 (mkF m 44 #[rv a, iv 5, iv ch] []) (fun t_ k_ => st3 _ k_) ?_
  refine og T3 (mkF m 45 #[rv a, iv 5, iv ch] [(.ref a)]) (fun t_ k_ => XS.aloadN X3.here hx rfl (hb hby d_jdk_52_4_44) rfl rfl k_) ?_
  refine og T3 (mkF m 46 #[rv a, iv 5, iv ch] [(.int 5), (.ref a)]) (fun t_ k_ => XS.iloadN X3.here hx rfl (hb hby d_jdk_52_4_45) rfl k_) ?_
  refine og T3 (mkF m 47 #[rv a, iv 5, iv ch] [(.int ch), (.int 5), (.ref a)]) (fun t_ k_ => XS.iloadN X3.here hx rfl (hb hby d_jdk_52_4_46) rfl k_) ?_
  obtain ⟨T4, X4, e4, st4⟩ := getS2 X3 hx hZ hown (host := "") (Or.inl (own_w hw 94 rfl)) Via.refl e3 (S_LO_BYTE_SHIFT.ext O3.2) (g := (mkF m 47 #[rv a, iv 5, iv ch] [(.int ch), (.int 5), (.ref a)])) rfl (hb hby d_jdk_52_4_47)
  refine og T4 (mkF m 50 #[rv a, iv 5, iv ch] [(.int 8), (.int ch), (.int 5), (.ref a)]) (fun t_ k_ => st4 _ k_) ?_
  refine og T4 (mkF m 51 #[rv a, iv 5, iv ch] [(.int (ch >>> ((8 : Int32) &&& 31))), (.int 5), (.ref a)]) (fun t_ k_ => XS.ishr X4.here hx rfl (hb hby d_jdk_52_4_50) rfl k_) ?_
  refine og T4 (mkF m 52 #[rv a, iv 5, iv ch] [(.int ((ch >>> ((8 : Int32) &&& 31)).toInt8.toInt32)), (.int 5), (.ref a)]) (fun t_ k_ => XS.i2b X4.here hx rfl (hb hby d_jdk_52_4_51) rfl k_) ?_
  obtain ⟨cl5, Ar5, q5, S5, Nn5, H5, G5⟩ := id V3
  have hin5 : ¬ ((5 : Int32) < 0 ∨ cl5.slots.size ≤ ((5 : Int32)).toNatClampNeg) := inb_of S5 ⟨by decide, by decide⟩
  obtain ⟨T5, h5, X5, e5, W5, st5⟩ := stB X4 hx hZ e4 Ar5 (j := (5 : Int32)) hin5 (g := (mkF m 52 #[rv a, iv 5, iv ch] [(.int ((ch >>> ((8 : Int32) &&& 31)).toInt8.toInt32)), (.int 5), (.ref a)])) rfl rfl (hb hby d_jdk_52_4_52)
  have V5 : Arv Z h5 a k_a .byte (6 : Int32) [(.int y0), (.int y1), (.int y2), (.int y3), (.int ((ch >>> ((0 : Int32) &&& 31)).toInt8.toInt32)), (.int ((ch >>> ((8 : Int32) &&& 31)).toInt8.toInt32))] (.int (0 : Int32)) := by
    have q0 := Arv.set Ar5 q5 S5 Nn5 H5 G5 (fits_nar_byte _) W5 5 rfl (Nat.le_of_ble_eq_true rfl)
    first | rw [own_i8] at q0 | skip
    exact q0
  have z5 := W5.size
  have N5 := Fr.snoc X5 N3 (show n0 ≤ a by omega)
  have O5 := O3.wr W5 (show n0 ≤ a by omega)
  have K5 := K3.wr W5 (Or.inl (List.mem_of_getElem? (i := 0) rfl))
  refine og T5 (mkF m 53 #[rv a, iv 5, iv ch] []) (fun t_ k_ => st5 _ k_) ?_
  exact own_out X5 (v := none) (fun _ => rfl) hlk (fun fs hr => X5.returnOut hx hret (hb hby d_jdk_52_4_53) hr) (Q := Q_rm_put3_2 Z a ch y0 y1 y2 y3 y4 y5 k_a h0 n0) (by rw [e5]; exact ⟨rfl, N5, K5, V5⟩) (by decide) (by decide)
theorem ef_27 (m : MethodId) (a : Nat) : entryFrame m #[(.ref a), (.int 2)] 2 = mkF m 0 #[rv a, iv 2] [] := by first | (simp [entryFrame, mkF, argsToLocals, Value.category]; done) | rfl
def Q_rm_get3_2 (Z : State) (a : Nat) (c0 : Int32) (c1 : Int32) (c2 : Int32) (k_a : ClassId) (h0 : Heap) (n0 : Nat) (vv : Option Value) (h : Heap) (LL : List Loc) : Prop := vv = some (.int c2) ∧ Fr n0 LL ∧ h = h0
set_option maxRecDepth 65536 in
set_option maxHeartbeats 40000000 in
theorem rm_get3_2 (l : Launch) (Z : State) (a0 : Array Value) (hw : ∀ d ∈ tables_1, d.before a0 Z = true) (ws : List Jvm.Cond) (a : Nat) (c0 : Int32) (c1 : Int32) (c2 : Int32) (k_a : ClassId) (h0 : Heap) (n0 : Nat) (Z0 : n0 ≤ h0.size) (hrc0 : ¬ (c0 < (0 : Int32)) ∧ ¬ ((65535 : Int32) < c0)) (hrc1 : ¬ (c1 < (0 : Int32)) ∧ ¬ ((65535 : Int32) < c1)) (hrc2 : ¬ (c2 < (0 : Int32)) ∧ ¬ ((65535 : Int32) < c2)) (V_a : Arv Z h0 a k_a .byte (6 : Int32) [(.int ((c0 >>> ((0 : Int32) &&& 31)).toInt8.toInt32)), (.int ((c0 >>> ((8 : Int32) &&& 31)).toInt8.toInt32)), (.int ((c1 >>> ((0 : Int32) &&& 31)).toInt8.toInt32)), (.int ((c1 >>> ((8 : Int32) &&& 31)).toInt8.toInt32)), (.int ((c2 >>> ((0 : Int32) &&& 31)).toInt8.toInt32)), (.int ((c2 >>> ((8 : Int32) &&& 31)).toInt8.toInt32))] (.int (0 : Int32))) (O0 : Old Z n0 h0) (S__assertionsDisabled : Sta Z Z.heap "java/lang/StringUTF16" "$assertionsDisabled" "Z" (.int 1)) (S_HI_BYTE_SHIFT : Sta Z Z.heap "java/lang/StringUTF16" "HI_BYTE_SHIFT" "I" (.int 0)) (S_LO_BYTE_SHIFT : Sta Z Z.heap "java/lang/StringUTF16" "LO_BYTE_SHIFT" "I" (.int 8)) :
    own_MF l ym_7 jdk_52_method_5_code 2 (some .char) ⟨0, 0, 0, 0⟩ ws Z #[(.ref a), (.int 2)] h0 (Q_rm_get3_2 Z a c0 c1 c2 k_a h0 n0) := by
  refine own_begin (plainFor_of_name pn_2) (fun m => ef_27 m a) ?_
  intro p e s m below meth c s₁ hret hx hby hml hown hnm hlk X0 e0 hh hZ
  have N0 := Fr.nil n0
  have lt_V_a := own_ltN V_a.lt
  obtain ⟨T1, X1, e1, st1⟩ := getS2 X0 hx hZ hown (host := "") (Or.inl (own_w hw 92 rfl)) Via.refl e0 (S__assertionsDisabled.ext O0.2) (g := (mkF m 0 #[rv a, iv 2] [])) rfl (hb hby d_jdk_52_5_0)
  refine og T1 (mkF m 3 #[rv a, iv 2] [(.int 1)]) (fun t_ k_ => st1 _ k_) ?_
  refine og T1 (mkF m 28 #[rv a, iv 2] []) (fun t_ k_ => XS.ifYes X1.here hx rfl (pc0 := 3) (pc' := 28) rfl (hb hby d_jdk_52_5_3) rfl ((if0 _ _).trans (feq (by decide)).2) (by decide) (by decide) k_) ?_
  refine og T1 (mkF m 29 #[rv a, iv 2] [(.int 2)]) (fun t_ k_ => XS.iloadN X1.here hx rfl (hb hby d_jdk_52_5_28) rfl k_) ?_
  refine og T1 (mkF m 30 #[rv a, iv 2] [(.int 1), (.int 2)]) (fun t_ k_ => XS.iconst X1.here hx rfl (hb hby d_jdk_52_5_29) k_) ?_
  refine og T1 (mkF m 31 #[rv a, iv 2] [(.int 4)]) (fun t_ k_ => XS.ishl X1.here hx rfl (hb hby d_jdk_52_5_30) rfl k_) ?_
  refine og T1 (mkF m 32 #[rv a, iv 4] []) (fun t_ k_ => XS.istoreN X1.here hx rfl (hb hby d_jdk_52_5_31) rfl (l' := #[rv a, iv 4]) rfl k_) ?_
  refine og T1 (mkF m 33 #[rv a, iv 4] [(.ref a)]) (fun t_ k_ => XS.aloadN X1.here hx rfl (hb hby d_jdk_52_5_32) rfl rfl k_) ?_
  refine og T1 (mkF m 34 #[rv a, iv 4] [(.int 4), (.ref a)]) (fun t_ k_ => XS.iloadN X1.here hx rfl (hb hby d_jdk_52_5_33) rfl k_) ?_
  refine og T1 (mkF m 37 #[rv a, iv 5] [(.int 4), (.ref a)]) (fun t_ k_ => XS.iinc X1.here hx rfl (hb hby d_jdk_52_5_34) rfl (l' := #[rv a, iv 5]) rfl k_) ?_
  obtain ⟨cl2, Ar2, -, S2, Nn2, H2, -⟩ := id V_a
  have hin2 : ¬ ((4 : Int32) < 0 ∨ cl2.slots.size ≤ ((4 : Int32)).toNatClampNeg) := inb_of S2 ⟨by decide, by decide⟩
  refine og T1 (mkF m 38 #[rv a, iv 5] [(.int ((c2 >>> ((0 : Int32) &&& 31)).toInt8.toInt32))]) (fun t_ k_ => X1.baloadBytes hx (j := (4 : Int32)) (v := (.int ((c2 >>> ((0 : Int32) &&& 31)).toInt8.toInt32))) (by rw [e1]; exact Ar2.1) (State.isArrayOf_alike hZ.alike Ar2.2.1) Ar2.2.2 hin2 (H2.at hin2 rfl) (g := (mkF m 37 #[rv a, iv 5] [(.int 4), (.ref a)])) rfl rfl (hb hby d_jdk_52_5_37) _ k_) ?_
  refine og T1 (mkF m 41 #[rv a, iv 5] [(.int 255), (.int ((c2 >>> ((0 : Int32) &&& 31)).toInt8.toInt32))]) (fun t_ k_ => XS.sipush X1.here hx rfl (hb hby d_jdk_52_5_38) k_) ?_
  refine og T1 (mkF m 42 #[rv a, iv 5] [(.int (((c2 >>> ((0 : Int32) &&& 31)).toInt8.toInt32) &&& (255 : Int32)))]) (fun t_ k_ => XS.iand X1.here hx rfl (hb hby d_jdk_52_5_41) rfl k_) ?_
  obtain ⟨T3, X3, e3, st3⟩ := getS2 X1 hx hZ hown (host := "") (Or.inl (own_w hw 93 rfl)) Via.refl e1 (S_HI_BYTE_SHIFT.ext O0.2) (g := (mkF m 42 #[rv a, iv 5] [(.int (((c2 >>> ((0 : Int32) &&& 31)).toInt8.toInt32) &&& (255 : Int32)))])) rfl (hb hby d_jdk_52_5_42)
  refine og T3 (mkF m 45 #[rv a, iv 5] [(.int 0), (.int (((c2 >>> ((0 : Int32) &&& 31)).toInt8.toInt32) &&& (255 : Int32)))]) (fun t_ k_ => st3 _ k_) ?_
  refine og T3 (mkF m 46 #[rv a, iv 5] [(.int ((((c2 >>> ((0 : Int32) &&& 31)).toInt8.toInt32) &&& (255 : Int32)) <<< ((0 : Int32) &&& 31)))]) (fun t_ k_ => XS.ishl X3.here hx rfl (hb hby d_jdk_52_5_45) rfl k_) ?_
  refine og T3 (mkF m 47 #[rv a, iv 5] [(.ref a), (.int ((((c2 >>> ((0 : Int32) &&& 31)).toInt8.toInt32) &&& (255 : Int32)) <<< ((0 : Int32) &&& 31)))]) (fun t_ k_ => XS.aloadN X3.here hx rfl (hb hby d_jdk_52_5_46) rfl rfl k_) ?_
  refine og T3 (mkF m 48 #[rv a, iv 5] [(.int 5), (.ref a), (.int ((((c2 >>> ((0 : Int32) &&& 31)).toInt8.toInt32) &&& (255 : Int32)) <<< ((0 : Int32) &&& 31)))]) (fun t_ k_ => XS.iloadN X3.here hx rfl (hb hby d_jdk_52_5_47) rfl k_) ?_
  obtain ⟨cl4, Ar4, -, S4, Nn4, H4, -⟩ := id V_a
  have hin4 : ¬ ((5 : Int32) < 0 ∨ cl4.slots.size ≤ ((5 : Int32)).toNatClampNeg) := inb_of S4 ⟨by decide, by decide⟩
  refine og T3 (mkF m 49 #[rv a, iv 5] [(.int ((c2 >>> ((8 : Int32) &&& 31)).toInt8.toInt32)), (.int ((((c2 >>> ((0 : Int32) &&& 31)).toInt8.toInt32) &&& (255 : Int32)) <<< ((0 : Int32) &&& 31)))]) (fun t_ k_ => X3.baloadBytes hx (j := (5 : Int32)) (v := (.int ((c2 >>> ((8 : Int32) &&& 31)).toInt8.toInt32))) (by rw [e3]; exact Ar4.1) (State.isArrayOf_alike hZ.alike Ar4.2.1) Ar4.2.2 hin4 (H4.at hin4 rfl) (g := (mkF m 48 #[rv a, iv 5] [(.int 5), (.ref a), (.int ((((c2 >>> ((0 : Int32) &&& 31)).toInt8.toInt32) &&& (255 : Int32)) <<< ((0 : Int32) &&& 31)))])) rfl rfl (hb hby d_jdk_52_5_48) _ k_) ?_
  refine og T3 (mkF m 52 #[rv a, iv 5] [(.int 255), (.int ((c2 >>> ((8 : Int32) &&& 31)).toInt8.toInt32)), (.int ((((c2 >>> ((0 : Int32) &&& 31)).toInt8.toInt32) &&& (255 : Int32)) <<< ((0 : Int32) &&& 31)))]) (fun t_ k_ => XS.sipush X3.here hx rfl (hb hby d_jdk_52_5_49) k_) ?_
  refine og T3 (mkF m 53 #[rv a, iv 5] [(.int (((c2 >>> ((8 : Int32) &&& 31)).toInt8.toInt32) &&& (255 : Int32))), (.int ((((c2 >>> ((0 : Int32) &&& 31)).toInt8.toInt32) &&& (255 : Int32)) <<< ((0 : Int32) &&& 31)))]) (fun t_ k_ => XS.iand X3.here hx rfl (hb hby d_jdk_52_5_52) rfl k_) ?_
  obtain ⟨T5, X5, e5, st5⟩ := getS2 X3 hx hZ hown (host := "") (Or.inl (own_w hw 94 rfl)) Via.refl e3 (S_LO_BYTE_SHIFT.ext O0.2) (g := (mkF m 53 #[rv a, iv 5] [(.int (((c2 >>> ((8 : Int32) &&& 31)).toInt8.toInt32) &&& (255 : Int32))), (.int ((((c2 >>> ((0 : Int32) &&& 31)).toInt8.toInt32) &&& (255 : Int32)) <<< ((0 : Int32) &&& 31)))])) rfl (hb hby d_jdk_52_5_53)
  refine og T5 (mkF m 56 #[rv a, iv 5] [(.int 8), (.int (((c2 >>> ((8 : Int32) &&& 31)).toInt8.toInt32) &&& (255 : Int32))), (.int ((((c2 >>> ((0 : Int32) &&& 31)).toInt8.toInt32) &&& (255 : Int32)) <<< ((0 : Int32) &&& 31)))]) (fun t_ k_ => st5 _ k_) ?_
  refine og T5 (mkF m 57 #[rv a, iv 5] [(.int ((((c2 >>> ((8 : Int32) &&& 31)).toInt8.toInt32) &&& (255 : Int32)) <<< ((8 : Int32) &&& 31))), (.int ((((c2 >>> ((0 : Int32) &&& 31)).toInt8.toInt32) &&& (255 : Int32)) <<< ((0 : Int32) &&& 31)))]) (fun t_ k_ => XS.ishl X5.here hx rfl (hb hby d_jdk_52_5_56) rfl k_) ?_
  refine og T5 (mkF m 58 #[rv a, iv 5] [(.int (((((c2 >>> ((0 : Int32) &&& 31)).toInt8.toInt32) &&& (255 : Int32)) <<< ((0 : Int32) &&& 31)) ||| ((((c2 >>> ((8 : Int32) &&& 31)).toInt8.toInt32) &&& (255 : Int32)) <<< ((8 : Int32) &&& 31))))]) (fun t_ k_ => XS.ior X5.here hx rfl (hb hby d_jdk_52_5_57) rfl k_) ?_
  refine og T5 (mkF m 59 #[rv a, iv 5] [(.int ((((((c2 >>> ((0 : Int32) &&& 31)).toInt8.toInt32) &&& (255 : Int32)) <<< ((0 : Int32) &&& 31)) ||| ((((c2 >>> ((8 : Int32) &&& 31)).toInt8.toInt32) &&& (255 : Int32)) <<< ((8 : Int32) &&& 31))).toUInt32.toUInt16.toUInt32.toInt32))]) (fun t_ k_ => XS.i2c X5.here hx rfl (hb hby d_jdk_52_5_58) rfl k_) ?_
  exact own_out X5 (v := some (.int (nar .char ((((((c2 >>> ((0 : Int32) &&& 31)).toInt8.toInt32) &&& (255 : Int32)) <<< ((0 : Int32) &&& 31)) ||| ((((c2 >>> ((8 : Int32) &&& 31)).toInt8.toInt32) &&& (255 : Int32)) <<< ((8 : Int32) &&& 31))).toUInt32.toUInt16.toUInt32.toInt32)))) (fun h => by rw [hret] at h; cases h) hlk (fun fs hr => retN X5 hx (t := .char) hret (by simp) (hb hby d_jdk_52_5_59) hr) (Q := Q_rm_get3_2 Z a c0 c1 c2 k_a h0 n0) (by rw [e5]; exact ⟨(congrArg (fun z => some (Value.int z)) ((own_narc16 (own_i2cr _)).trans (own_join hrc2))), N0, rfl⟩) (by decide) (by decide)
theorem ef_28 (m : MethodId) (a : Nat) : entryFrame m #[(.ref a), (.int 0), (.int 3)] 5 = mkF m 0 #[rv a, iv 0, iv 3, .unset, .unset] [] := by first | (simp [entryFrame, mkF, argsToLocals, Value.category]; done) | rfl
def Q_rm_tob3 (Z : State) (a : Nat) (c0 : Int32) (c1 : Int32) (c2 : Int32) (k_a : ClassId) (h0 : Heap) (n0 : Nat) (vv : Option Value) (h : Heap) (LL : List Loc) : Prop := ∃ b : Nat, ∃ kb : ClassId, vv = some (.ref b) ∧ Fr n0 LL ∧ Keep h0 h [] ∧ (h0.size ≤ b ∧ b < h.size) ∧ Arv Z h b kb .byte (6 : Int32) [(.int ((c0 >>> ((0 : Int32) &&& 31)).toInt8.toInt32)), (.int ((c0 >>> ((8 : Int32) &&& 31)).toInt8.toInt32)), (.int ((c1 >>> ((0 : Int32) &&& 31)).toInt8.toInt32)), (.int ((c1 >>> ((8 : Int32) &&& 31)).toInt8.toInt32)), (.int ((c2 >>> ((0 : Int32) &&& 31)).toInt8.toInt32)), (.int ((c2 >>> ((8 : Int32) &&& 31)).toInt8.toInt32))] (.int (0 : Int32))
set_option maxRecDepth 65536 in
set_option maxHeartbeats 40000000 in
theorem rm_tob3 (l : Launch) (Z : State) (a0 : Array Value) (hw : ∀ d ∈ tables_1, d.before a0 Z = true) (ws : List Jvm.Cond) (a : Nat) (c0 : Int32) (c1 : Int32) (c2 : Int32) (k_a : ClassId) (h0 : Heap) (n0 : Nat) (Z0 : n0 ≤ h0.size) (hrc0 : ¬ (c0 < (0 : Int32)) ∧ ¬ ((65535 : Int32) < c0)) (hrc1 : ¬ (c1 < (0 : Int32)) ∧ ¬ ((65535 : Int32) < c1)) (hrc2 : ¬ (c2 < (0 : Int32)) ∧ ¬ ((65535 : Int32) < c2)) (V_a : Arv Z h0 a k_a .char (3 : Int32) [(.int c0), (.int c1), (.int c2)] (.int (0 : Int32))) (O0 : Old Z n0 h0) (S__assertionsDisabled : Sta Z Z.heap "java/lang/StringUTF16" "$assertionsDisabled" "Z" (.int 1)) (S_HI_BYTE_SHIFT : Sta Z Z.heap "java/lang/StringUTF16" "HI_BYTE_SHIFT" "I" (.int 0)) (S_LO_BYTE_SHIFT : Sta Z Z.heap "java/lang/StringUTF16" "LO_BYTE_SHIFT" "I" (.int 8)) :
    own_MF l ym_8 jdk_52_method_14_code 5 (some (.array .byte)) ⟨2, 1, 6, 24⟩ ws Z #[(.ref a), (.int 0), (.int 3)] h0 (Q_rm_tob3 Z a c0 c1 c2 k_a h0 n0) := by
  refine own_begin (plainFor_of_name pn_2) (fun m => ef_28 m a) ?_
  intro p e s m below meth c s₁ hret hx hby hml hown hnm hlk X0 e0 hh hZ
  have N0 := Fr.nil n0
  have lt_V_a := own_ltN V_a.lt
  refine og s₁ (mkF m 1 #[rv a, iv 0, iv 3, .unset, .unset] [(.int 3)]) (fun t_ k_ => XS.iloadN X0.here hx rfl (hb hby d_jdk_52_14_0) rfl k_) ?_
  obtain ⟨_, _, ⟨T1, L1, k1, n1⟩, -, X1, ⟨Lc1, hQ1, l1, y1, z1⟩, st1⟩ := Jvm.LawKit.callS X0 hx (y := ym_5) hown (mvT hZ (own_w hw 82 rfl)) (mvT hZ (own_w hw 83 rfl)) (mvT hZ (own_w hw 66 rfl)) (mvT hZ (own_w hw 84 rfl)) (by decide) (backOf (W := 0) (rm_nbf3 l Z a0 hw []  h0 n0 (show n0 ≤ h0.size by omega)) hZ (own_w hw 84 rfl) (own_w hw 66 rfl) (by decide) (by decide)) (g := (mkF m 1 #[rv a, iv 0, iv 3, .unset, .unset] [(.int 3)])) rfl (by rw [hml]; rfl) (argsL := [(.int 3)]) (rest := []) (lenOf pd_2 rfl) rfl (by show 2 * 0 + _ ≤ _; exact Nat.le_of_eq rfl) (hb hby d_jdk_52_14_1) (fun _ _ => ⟨rfl, e0, (by decide : 0 + 1 ≤ _), (by decide : 0 + 6 ≤ _)⟩)
  dsimp only [Pt.U, Pt.locs, Pt.cells, Pt.slots] at X1 l1 y1 z1 st1 hQ1
  subst l1 y1 z1
  obtain ⟨b1, kb1, rfl, M1, K1_, ⟨lob1, hib1⟩, f1_0⟩ := hQ1
  have zz1 := K1_.1
  have O1 := O0.keep K1_ all0
  have K1 := (Keep.refl h0 []).trans K1_ all0
  have N1 := Fr.app N0 M1
  refine og T1 (mkF m 4 #[rv a, iv 0, iv 3, .unset, .unset] [(.ref b1)]) (fun t_ k_ => st1 _ k_) ?_
  refine og T1 (mkF m 5 #[rv a, iv 0, iv 3, rv b1, .unset] []) (fun t_ k_ => XS.astoreN X1.here hx rfl (hb hby d_jdk_52_14_4) rfl rfl (l' := #[rv a, iv 0, iv 3, rv b1, .unset]) rfl k_) ?_
  refine og T1 (mkF m 6 #[rv a, iv 0, iv 3, rv b1, .unset] [(.int 0)]) (fun t_ k_ => XS.iconst X1.here hx rfl (hb hby d_jdk_52_14_5) k_) ?_
  refine og T1 (mkF m 8 #[rv a, iv 0, iv 3, rv b1, iv 0] []) (fun t_ k_ => XS.istore X1.here hx rfl (hb hby d_jdk_52_14_6) rfl (l' := #[rv a, iv 0, iv 3, rv b1, iv 0]) rfl k_) ?_
  refine og T1 (mkF m 10 #[rv a, iv 0, iv 3, rv b1, iv 0] [(.int 0)]) (fun t_ k_ => XS.iload X1.here hx rfl (hb hby d_jdk_52_14_8) rfl k_) ?_
  refine og T1 (mkF m 11 #[rv a, iv 0, iv 3, rv b1, iv 0] [(.int 3), (.int 0)]) (fun t_ k_ => XS.iloadN X1.here hx rfl (hb hby d_jdk_52_14_10) rfl k_) ?_
  refine og T1 (mkF m 14 #[rv a, iv 0, iv 3, rv b1, iv 0] []) (fun t_ k_ => XS.icmpNo X1.here hx rfl (hb hby d_jdk_52_14_11) rfl (tlt (by decide)).2.1 k_) ?_
  refine og T1 (mkF m 15 #[rv a, iv 0, iv 3, rv b1, iv 0] [(.ref b1)]) (fun t_ k_ => XS.aloadN X1.here hx rfl (hb hby d_jdk_52_14_14) rfl rfl k_) ?_
  refine og T1 (mkF m 17 #[rv a, iv 0, iv 3, rv b1, iv 0] [(.int 0), (.ref b1)]) (fun t_ k_ => XS.iload X1.here hx rfl (hb hby d_jdk_52_14_15) rfl k_) ?_
  refine og T1 (mkF m 18 #[rv a, iv 0, iv 3, rv b1, iv 0] [(.ref a), (.int 0), (.ref b1)]) (fun t_ k_ => XS.aloadN X1.here hx rfl (hb hby d_jdk_52_14_17) rfl rfl k_) ?_
  refine og T1 (mkF m 19 #[rv a, iv 0, iv 3, rv b1, iv 0] [(.int 0), (.ref a), (.int 0), (.ref b1)]) (fun t_ k_ => XS.iloadN X1.here hx rfl (hb hby d_jdk_52_14_18) rfl k_) ?_
  have ff3 := (V_a.keep K1_ nin0)
  obtain ⟨cl2, Ar2, -, S2, Nn2, H2, -⟩ := id ff3
  have hin2 : ¬ ((0 : Int32) < 0 ∨ cl2.slots.size ≤ ((0 : Int32)).toNatClampNeg) := inb_of S2 ⟨by decide, by decide⟩
  refine og T1 (mkF m 20 #[rv a, iv 0, iv 3, rv b1, iv 0] [(.int c0), (.int 0), (.ref b1)]) (fun t_ k_ => X1.caload hx (j := (0 : Int32)) (v := (.int c0)) (by exact Ar2.1) (State.isArrayOf_alike hZ.alike Ar2.2.1) Ar2.2.2 hin2 (H2.at hin2 rfl) (g := (mkF m 19 #[rv a, iv 0, iv 3, rv b1, iv 0] [(.int 0), (.ref a), (.int 0), (.ref b1)])) rfl rfl (hb hby d_jdk_52_14_19) _ k_) ?_
  obtain ⟨_, _, ⟨T4, L4, k4, n4⟩, -, X4, ⟨Lc4, hQ4, l4, y4, z4⟩, st4⟩ := Jvm.LawKit.callS X1 hx (y := ym_6) hown (mvT hZ (own_w hw 89 rfl)) (mvT hZ (own_w hw 90 rfl)) (mvT hZ (own_w hw 66 rfl)) (mvT hZ (own_w hw 91 rfl)) (by decide) (backOf (W := 0) (rm_put3_0 l Z a0 hw [] b1 c0 (0 : Int32) (0 : Int32) (0 : Int32) (0 : Int32) (0 : Int32) (0 : Int32) kb1 T1.heap n0 (show n0 ≤ T1.heap.size by omega) O1 S__assertionsDisabled S_HI_BYTE_SHIFT S_LO_BYTE_SHIFT f1_0 (show n0 ≤ b1 by omega)) hZ (own_w hw 91 rfl) (own_w hw 66 rfl) (by decide) (by decide)) (g := (mkF m 20 #[rv a, iv 0, iv 3, rv b1, iv 0] [(.int c0), (.int 0), (.ref b1)])) rfl (by rw [hml]; rfl) (argsL := [(.ref b1), (.int 0), (.int c0)]) (rest := []) (lenOf pd_3 rfl) rfl (by show 2 * 0 + _ ≤ _; exact Nat.le_of_eq rfl) (hb hby d_jdk_52_14_20) (fun _ _ => ⟨rfl, rfl, (by decide : 1 + 0 ≤ _), (by decide : 6 + 0 ≤ _)⟩)
  dsimp only [Pt.U, Pt.locs, Pt.cells, Pt.slots] at X4 l4 y4 z4 st4 hQ4
  subst l4 y4 z4
  obtain ⟨rfl, M4, K4_, f4_0⟩ := hQ4
  have zz4 := K4_.1
  have O4 := O1.keep K4_ (allS (show n0 ≤ b1 by omega) all0)
  have K4 := K1.trans K4_ (allS (Or.inr (show h0.size ≤ b1 by omega)) all0)
  have N4 := Fr.app N1 M4
  refine og T4 (mkF m 23 #[rv a, iv 0, iv 3, rv b1, iv 0] []) (fun t_ k_ => st4 _ k_) ?_
  refine og T4 (mkF m 26 #[rv a, iv 1, iv 3, rv b1, iv 0] []) (fun t_ k_ => XS.iinc X4.here hx rfl (hb hby d_jdk_52_14_23) rfl (l' := #[rv a, iv 1, iv 3, rv b1, iv 0]) rfl k_) ?_
  refine og T4 (mkF m 29 #[rv a, iv 1, iv 3, rv b1, iv 1] []) (fun t_ k_ => XS.iinc X4.here hx rfl (hb hby d_jdk_52_14_26) rfl (l' := #[rv a, iv 1, iv 3, rv b1, iv 1]) rfl k_) ?_
  refine og T4 (mkF m 8 #[rv a, iv 1, iv 3, rv b1, iv 1] []) (fun t_ k_ => XS.goto X4.here hx rfl (pc0 := 29) (pc' := 8) rfl (hb hby d_jdk_52_14_29) (by decide) (by decide) k_) ?_
  refine og T4 (mkF m 10 #[rv a, iv 1, iv 3, rv b1, iv 1] [(.int 1)]) (fun t_ k_ => XS.iload X4.here hx rfl (hb hby d_jdk_52_14_8) rfl k_) ?_
  refine og T4 (mkF m 11 #[rv a, iv 1, iv 3, rv b1, iv 1] [(.int 3), (.int 1)]) (fun t_ k_ => XS.iloadN X4.here hx rfl (hb hby d_jdk_52_14_10) rfl k_) ?_
  refine og T4 (mkF m 14 #[rv a, iv 1, iv 3, rv b1, iv 1] []) (fun t_ k_ => XS.icmpNo X4.here hx rfl (hb hby d_jdk_52_14_11) rfl (tlt (by decide)).2.1 k_) ?_
  refine og T4 (mkF m 15 #[rv a, iv 1, iv 3, rv b1, iv 1] [(.ref b1)]) (fun t_ k_ => XS.aloadN X4.here hx rfl (hb hby d_jdk_52_14_14) rfl rfl k_) ?_
  refine og T4 (mkF m 17 #[rv a, iv 1, iv 3, rv b1, iv 1] [(.int 1), (.ref b1)]) (fun t_ k_ => XS.iload X4.here hx rfl (hb hby d_jdk_52_14_15) rfl k_) ?_
  refine og T4 (mkF m 18 #[rv a, iv 1, iv 3, rv b1, iv 1] [(.ref a), (.int 1), (.ref b1)]) (fun t_ k_ => XS.aloadN X4.here hx rfl (hb hby d_jdk_52_14_17) rfl rfl k_) ?_
  refine og T4 (mkF m 19 #[rv a, iv 1, iv 3, rv b1, iv 1] [(.int 1), (.ref a), (.int 1), (.ref b1)]) (fun t_ k_ => XS.iloadN X4.here hx rfl (hb hby d_jdk_52_14_18) rfl k_) ?_
  have ff6 := (ff3.keep K4_ (ninS (own_ne (by omega)) nin0))
  obtain ⟨cl5, Ar5, -, S5, Nn5, H5, -⟩ := id ff6
  have hin5 : ¬ ((1 : Int32) < 0 ∨ cl5.slots.size ≤ ((1 : Int32)).toNatClampNeg) := inb_of S5 ⟨by decide, by decide⟩
  refine og T4 (mkF m 20 #[rv a, iv 1, iv 3, rv b1, iv 1] [(.int c1), (.int 1), (.ref b1)]) (fun t_ k_ => X4.caload hx (j := (1 : Int32)) (v := (.int c1)) (by exact Ar5.1) (State.isArrayOf_alike hZ.alike Ar5.2.1) Ar5.2.2 hin5 (H5.at hin5 rfl) (g := (mkF m 19 #[rv a, iv 1, iv 3, rv b1, iv 1] [(.int 1), (.ref a), (.int 1), (.ref b1)])) rfl rfl (hb hby d_jdk_52_14_19) _ k_) ?_
  obtain ⟨_, _, ⟨T7, L7, k7, n7⟩, -, X7, ⟨Lc7, hQ7, l7, y7, z7⟩, st7⟩ := Jvm.LawKit.callS X4 hx (y := ym_6) hown (mvT hZ (own_w hw 89 rfl)) (mvT hZ (own_w hw 90 rfl)) (mvT hZ (own_w hw 66 rfl)) (mvT hZ (own_w hw 91 rfl)) (by decide) (backOf (W := 0) (rm_put3_1 l Z a0 hw [] b1 c1 ((c0 >>> ((0 : Int32) &&& 31)).toInt8.toInt32) ((c0 >>> ((8 : Int32) &&& 31)).toInt8.toInt32) (0 : Int32) (0 : Int32) (0 : Int32) (0 : Int32) kb1 T4.heap n0 (show n0 ≤ T4.heap.size by omega) O4 S__assertionsDisabled S_HI_BYTE_SHIFT S_LO_BYTE_SHIFT f4_0 (show n0 ≤ b1 by omega)) hZ (own_w hw 91 rfl) (own_w hw 66 rfl) (by decide) (by decide)) (g := (mkF m 20 #[rv a, iv 1, iv 3, rv b1, iv 1] [(.int c1), (.int 1), (.ref b1)])) rfl (by rw [hml]; rfl) (argsL := [(.ref b1), (.int 1), (.int c1)]) (rest := []) (lenOf pd_3 rfl) rfl (by show 2 * 0 + _ ≤ _; exact Nat.le_of_eq rfl) (hb hby d_jdk_52_14_20) (fun _ _ => ⟨rfl, rfl, (by decide : 1 + 0 ≤ _), (by decide : 6 + 0 ≤ _)⟩)
  dsimp only [Pt.U, Pt.locs, Pt.cells, Pt.slots] at X7 l7 y7 z7 st7 hQ7
  subst l7 y7 z7
  obtain ⟨rfl, M7, K7_, f7_0⟩ := hQ7
  have zz7 := K7_.1
  have O7 := O4.keep K7_ (allS (show n0 ≤ b1 by omega) all0)
  have K7 := K4.trans K7_ (allS (Or.inr (show h0.size ≤ b1 by omega)) all0)
  have N7 := Fr.app N4 M7
  refine og T7 (mkF m 23 #[rv a, iv 1, iv 3, rv b1, iv 1] []) (fun t_ k_ => st7 _ k_) ?_
  refine og T7 (mkF m 26 #[rv a, iv 2, iv 3, rv b1, iv 1] []) (fun t_ k_ => XS.iinc X7.here hx rfl (hb hby d_jdk_52_14_23) rfl (l' := #[rv a, iv 2, iv 3, rv b1, iv 1]) rfl k_) ?_
  refine og T7 (mkF m 29 #[rv a, iv 2, iv 3, rv b1, iv 2] []) (fun t_ k_ => XS.iinc X7.here hx rfl (hb hby d_jdk_52_14_26) rfl (l' := #[rv a, iv 2, iv 3, rv b1, iv 2]) rfl k_) ?_
  refine og T7 (mkF m 8 #[rv a, iv 2, iv 3, rv b1, iv 2] []) (fun t_ k_ => XS.goto X7.here hx rfl (pc0 := 29) (pc' := 8) rfl (hb hby d_jdk_52_14_29) (by decide) (by decide) k_) ?_
  refine og T7 (mkF m 10 #[rv a, iv 2, iv 3, rv b1, iv 2] [(.int 2)]) (fun t_ k_ => XS.iload X7.here hx rfl (hb hby d_jdk_52_14_8) rfl k_) ?_
  refine og T7 (mkF m 11 #[rv a, iv 2, iv 3, rv b1, iv 2] [(.int 3), (.int 2)]) (fun t_ k_ => XS.iloadN X7.here hx rfl (hb hby d_jdk_52_14_10) rfl k_) ?_
  refine og T7 (mkF m 14 #[rv a, iv 2, iv 3, rv b1, iv 2] []) (fun t_ k_ => XS.icmpNo X7.here hx rfl (hb hby d_jdk_52_14_11) rfl (tlt (by decide)).2.1 k_) ?_
  refine og T7 (mkF m 15 #[rv a, iv 2, iv 3, rv b1, iv 2] [(.ref b1)]) (fun t_ k_ => XS.aloadN X7.here hx rfl (hb hby d_jdk_52_14_14) rfl rfl k_) ?_
  refine og T7 (mkF m 17 #[rv a, iv 2, iv 3, rv b1, iv 2] [(.int 2), (.ref b1)]) (fun t_ k_ => XS.iload X7.here hx rfl (hb hby d_jdk_52_14_15) rfl k_) ?_
  refine og T7 (mkF m 18 #[rv a, iv 2, iv 3, rv b1, iv 2] [(.ref a), (.int 2), (.ref b1)]) (fun t_ k_ => XS.aloadN X7.here hx rfl (hb hby d_jdk_52_14_17) rfl rfl k_) ?_
  refine og T7 (mkF m 19 #[rv a, iv 2, iv 3, rv b1, iv 2] [(.int 2), (.ref a), (.int 2), (.ref b1)]) (fun t_ k_ => XS.iloadN X7.here hx rfl (hb hby d_jdk_52_14_18) rfl k_) ?_
  have ff9 := (ff6.keep K7_ (ninS (own_ne (by omega)) nin0))
  obtain ⟨cl8, Ar8, -, S8, Nn8, H8, -⟩ := id ff9
  have hin8 : ¬ ((2 : Int32) < 0 ∨ cl8.slots.size ≤ ((2 : Int32)).toNatClampNeg) := inb_of S8 ⟨by decide, by decide⟩
  refine og T7 (mkF m 20 #[rv a, iv 2, iv 3, rv b1, iv 2] [(.int c2), (.int 2), (.ref b1)]) (fun t_ k_ => X7.caload hx (j := (2 : Int32)) (v := (.int c2)) (by exact Ar8.1) (State.isArrayOf_alike hZ.alike Ar8.2.1) Ar8.2.2 hin8 (H8.at hin8 rfl) (g := (mkF m 19 #[rv a, iv 2, iv 3, rv b1, iv 2] [(.int 2), (.ref a), (.int 2), (.ref b1)])) rfl rfl (hb hby d_jdk_52_14_19) _ k_) ?_
  obtain ⟨_, _, ⟨T10, L10, k10, n10⟩, -, X10, ⟨Lc10, hQ10, l10, y10, z10⟩, st10⟩ := Jvm.LawKit.callS X7 hx (y := ym_6) hown (mvT hZ (own_w hw 89 rfl)) (mvT hZ (own_w hw 90 rfl)) (mvT hZ (own_w hw 66 rfl)) (mvT hZ (own_w hw 91 rfl)) (by decide) (backOf (W := 0) (rm_put3_2 l Z a0 hw [] b1 c2 ((c0 >>> ((0 : Int32) &&& 31)).toInt8.toInt32) ((c0 >>> ((8 : Int32) &&& 31)).toInt8.toInt32) ((c1 >>> ((0 : Int32) &&& 31)).toInt8.toInt32) ((c1 >>> ((8 : Int32) &&& 31)).toInt8.toInt32) (0 : Int32) (0 : Int32) kb1 T7.heap n0 (show n0 ≤ T7.heap.size by omega) O7 S__assertionsDisabled S_HI_BYTE_SHIFT S_LO_BYTE_SHIFT f7_0 (show n0 ≤ b1 by omega)) hZ (own_w hw 91 rfl) (own_w hw 66 rfl) (by decide) (by decide)) (g := (mkF m 20 #[rv a, iv 2, iv 3, rv b1, iv 2] [(.int c2), (.int 2), (.ref b1)])) rfl (by rw [hml]; rfl) (argsL := [(.ref b1), (.int 2), (.int c2)]) (rest := []) (lenOf pd_3 rfl) rfl (by show 2 * 0 + _ ≤ _; exact Nat.le_of_eq rfl) (hb hby d_jdk_52_14_20) (fun _ _ => ⟨rfl, rfl, (by decide : 1 + 0 ≤ _), (by decide : 6 + 0 ≤ _)⟩)
  dsimp only [Pt.U, Pt.locs, Pt.cells, Pt.slots] at X10 l10 y10 z10 st10 hQ10
  subst l10 y10 z10
  obtain ⟨rfl, M10, K10_, f10_0⟩ := hQ10
  have zz10 := K10_.1
  have O10 := O7.keep K10_ (allS (show n0 ≤ b1 by omega) all0)
  have K10 := K7.trans K10_ (allS (Or.inr (show h0.size ≤ b1 by omega)) all0)
  have N10 := Fr.app N7 M10
  refine og T10 (mkF m 23 #[rv a, iv 2, iv 3, rv b1, iv 2] []) (fun t_ k_ => st10 _ k_) ?_
  refine og T10 (mkF m 26 #[rv a, iv 3, iv 3, rv b1, iv 2] []) (fun t_ k_ => XS.iinc X10.here hx rfl (hb hby d_jdk_52_14_23) rfl (l' := #[rv a, iv 3, iv 3, rv b1, iv 2]) rfl k_) ?_
  refine og T10 (mkF m 29 #[rv a, iv 3, iv 3, rv b1, iv 3] []) (fun t_ k_ => XS.iinc X10.here hx rfl (hb hby d_jdk_52_14_26) rfl (l' := #[rv a, iv 3, iv 3, rv b1, iv 3]) rfl k_) ?_
  refine og T10 (mkF m 8 #[rv a, iv 3, iv 3, rv b1, iv 3] []) (fun t_ k_ => XS.goto X10.here hx rfl (pc0 := 29) (pc' := 8) rfl (hb hby d_jdk_52_14_29) (by decide) (by decide) k_) ?_
  refine og T10 (mkF m 10 #[rv a, iv 3, iv 3, rv b1, iv 3] [(.int 3)]) (fun t_ k_ => XS.iload X10.here hx rfl (hb hby d_jdk_52_14_8) rfl k_) ?_
  refine og T10 (mkF m 11 #[rv a, iv 3, iv 3, rv b1, iv 3] [(.int 3), (.int 3)]) (fun t_ k_ => XS.iloadN X10.here hx rfl (hb hby d_jdk_52_14_10) rfl k_) ?_
  refine og T10 (mkF m 32 #[rv a, iv 3, iv 3, rv b1, iv 3] []) (fun t_ k_ => XS.icmpYes X10.here hx rfl (pc0 := 11) (pc' := 32) rfl (hb hby d_jdk_52_14_11) rfl (flt (by decide)).2.1 (by decide) (by decide) k_) ?_
  refine og T10 (mkF m 33 #[rv a, iv 3, iv 3, rv b1, iv 3] [(.ref b1)]) (fun t_ k_ => XS.aloadN X10.here hx rfl (hb hby d_jdk_52_14_32) rfl rfl k_) ?_
  exact own_out X10 (v := some (.ref b1)) (fun h => by rw [hret] at h; cases h) hlk (fun fs hr => own_retA X10 hx hret rfl rfl (hb hby d_jdk_52_14_33) hr) (Q := Q_rm_tob3 Z a c0 c1 c2 k_a h0 n0) (by exact ⟨b1, kb1, rfl, N10, K10, ⟨by omega, by omega⟩, f10_0⟩) (by decide) (by decide)
theorem ef_29 (m : MethodId) (a : Nat) (d : Nat) : entryFrame m #[(.ref a), (.int 0), (.ref d), (.int 0), (.int 3)] 7 = mkF m 0 #[rv a, iv 0, rv d, iv 0, iv 3, .unset, .unset] [] := by first | (simp [entryFrame, mkF, argsToLocals, Value.category]; done) | rfl
def Q_rm_cma3 (Z : State) (a : Nat) (d : Nat) (c0 : Int32) (c1 : Int32) (c2 : Int32) (k_a : ClassId) (k_d : ClassId) (h0 : Heap) (n0 : Nat) (vv : Option Value) (h : Heap) (LL : List Loc) : Prop := ∃ r : Int32, vv = some (.int r) ∧ Fr n0 LL ∧ Keep h0 h [d] ∧ ((r = (3 : Int32) ∧ (¬ (255 : Int32) < c0 ∧ ¬ (255 : Int32) < c1 ∧ ¬ (255 : Int32) < c2) ∧ Arv Z h d k_d .byte (3 : Int32) [(.int c0.toInt8.toInt32), (.int c1.toInt8.toInt32), (.int c2.toInt8.toInt32)] (.int (0 : Int32))) ∨ (r = (0 : Int32) ∧ (255 : Int32) < c0) ∨ (r = (1 : Int32) ∧ (255 : Int32) < c1) ∨ (r = (2 : Int32) ∧ (255 : Int32) < c2))
set_option maxRecDepth 65536 in
set_option maxHeartbeats 40000000 in
theorem rm_cma3 (l : Launch) (Z : State) (a0 : Array Value) (hw : ∀ d ∈ tables_1, d.before a0 Z = true) (ws : List Jvm.Cond) (a : Nat) (d : Nat) (c0 : Int32) (c1 : Int32) (c2 : Int32) (k_a : ClassId) (k_d : ClassId) (h0 : Heap) (n0 : Nat) (Z0 : n0 ≤ h0.size) (V_a : Arv Z h0 a k_a .char (3 : Int32) [(.int c0), (.int c1), (.int c2)] (.int (0 : Int32))) (V_d : Arv Z h0 d k_d .byte (3 : Int32) [(.int (0 : Int32)), (.int (0 : Int32)), (.int (0 : Int32))] (.int (0 : Int32))) (g_d : n0 ≤ d) (hne : a ≠ d) :
    own_MF l ym_9 jdk_52_method_21_code 7 (some .int) ⟨0, 0, 0, 0⟩ ws Z #[(.ref a), (.int 0), (.ref d), (.int 0), (.int 3)] h0 (Q_rm_cma3 Z a d c0 c1 c2 k_a k_d h0 n0) := by
  refine own_begin (plainFor_of_name pn_2) (fun m => ef_29 m a d) ?_
  intro p e s m below meth c s₁ hret hx hby hml hown hnm hlk X0 e0 hh hZ
  have N0 := Fr.nil n0
  have lt_V_a := own_ltN V_a.lt
  have lt_V_d := own_ltN V_d.lt
  refine og s₁ (mkF m 1 #[rv a, iv 0, rv d, iv 0, iv 3, .unset, .unset] [(.int 0)]) (fun t_ k_ => XS.iconst X0.here hx rfl (hb hby d_jdk_52_21_0) k_) ?_
  refine og s₁ (mkF m 3 #[rv a, iv 0, rv d, iv 0, iv 3, iv 0, .unset] []) (fun t_ k_ => XS.istore X0.here hx rfl (hb hby d_jdk_52_21_1) rfl (l' := #[rv a, iv 0, rv d, iv 0, iv 3, iv 0, .unset]) rfl k_) ?_
  refine og s₁ (mkF m 5 #[rv a, iv 0, rv d, iv 0, iv 3, iv 0, .unset] [(.int 0)]) (fun t_ k_ => XS.iload X0.here hx rfl (hb hby d_jdk_52_21_3) rfl k_) ?_
  refine og s₁ (mkF m 7 #[rv a, iv 0, rv d, iv 0, iv 3, iv 0, .unset] [(.int 3), (.int 0)]) (fun t_ k_ => XS.iload X0.here hx rfl (hb hby d_jdk_52_21_5) rfl k_) ?_
  refine og s₁ (mkF m 10 #[rv a, iv 0, rv d, iv 0, iv 3, iv 0, .unset] []) (fun t_ k_ => XS.icmpNo X0.here hx rfl (hb hby d_jdk_52_21_7) rfl (tlt (by decide)).2.1 k_) ?_
  refine og s₁ (mkF m 11 #[rv a, iv 0, rv d, iv 0, iv 3, iv 0, .unset] [(.ref a)]) (fun t_ k_ => XS.aloadN X0.here hx rfl (hb hby d_jdk_52_21_10) rfl rfl k_) ?_
  refine og s₁ (mkF m 12 #[rv a, iv 0, rv d, iv 0, iv 3, iv 0, .unset] [(.int 0), (.ref a)]) (fun t_ k_ => XS.iloadN X0.here hx rfl (hb hby d_jdk_52_21_11) rfl k_) ?_
  obtain ⟨cl1, Ar1, -, S1, Nn1, H1, -⟩ := id V_a
  have hin1 : ¬ ((0 : Int32) < 0 ∨ cl1.slots.size ≤ ((0 : Int32)).toNatClampNeg) := inb_of S1 ⟨by decide, by decide⟩
  refine og s₁ (mkF m 13 #[rv a, iv 0, rv d, iv 0, iv 3, iv 0, .unset] [(.int c0)]) (fun t_ k_ => X0.caload hx (j := (0 : Int32)) (v := (.int c0)) (by rw [e0]; exact Ar1.1) (State.isArrayOf_alike hZ.alike Ar1.2.1) Ar1.2.2 hin1 (H1.at hin1 rfl) (g := (mkF m 12 #[rv a, iv 0, rv d, iv 0, iv 3, iv 0, .unset] [(.int 0), (.ref a)])) rfl rfl (hb hby d_jdk_52_21_12) _ k_) ?_
  refine og s₁ (mkF m 15 #[rv a, iv 0, rv d, iv 0, iv 3, iv 0, iv c0] []) (fun t_ k_ => XS.istore X0.here hx rfl (hb hby d_jdk_52_21_13) rfl (l' := #[rv a, iv 0, rv d, iv 0, iv 3, iv 0, iv c0]) rfl k_) ?_
  refine og s₁ (mkF m 17 #[rv a, iv 0, rv d, iv 0, iv 3, iv 0, iv c0] [(.int c0)]) (fun t_ k_ => XS.iload X0.here hx rfl (hb hby d_jdk_52_21_15) rfl k_) ?_
  refine og s₁ (mkF m 20 #[rv a, iv 0, rv d, iv 0, iv 3, iv 0, iv c0] [(.int 255), (.int c0)]) (fun t_ k_ => XS.sipush X0.here hx rfl (hb hby d_jdk_52_21_17) k_) ?_
  by_cases hq2_ : (255 : Int32) < c0
  · skip
    refine og s₁ (mkF m 23 #[rv a, iv 0, rv d, iv 0, iv 3, iv 0, iv c0] []) (fun t_ k_ => XS.icmpNo X0.here hx rfl (hb hby d_jdk_52_21_20) rfl (tlt hq2_).2.2.2 k_) ?_
    refine og s₁ (mkF m 25 #[rv a, iv 0, rv d, iv 0, iv 3, iv 0, iv c0] [(.int 0)]) (fun t_ k_ => XS.iload X0.here hx rfl (hb hby d_jdk_52_21_23) rfl k_) ?_
    exact own_out X0 (v := some (.int 0)) (fun h => by rw [hret] at h; cases h) hlk (fun fs hr => retI X0 hx hret (hb hby d_jdk_52_21_25) hr) (Q := Q_rm_cma3 Z a d c0 c1 c2 k_a k_d h0 n0) (by rw [e0]; exact ⟨(0 : Int32), rfl, N0, (Keep.refl h0 [d]), (Or.inr (Or.inl ⟨rfl, hq2_⟩))⟩) (by decide) (by decide)
  · skip
    refine og s₁ (mkF m 26 #[rv a, iv 0, rv d, iv 0, iv 3, iv 0, iv c0] []) (fun t_ k_ => XS.icmpYes X0.here hx rfl (pc0 := 20) (pc' := 26) rfl (hb hby d_jdk_52_21_20) rfl (flt hq2_).2.2.2 (by decide) (by decide) k_) ?_
    refine og s₁ (mkF m 27 #[rv a, iv 0, rv d, iv 0, iv 3, iv 0, iv c0] [(.ref d)]) (fun t_ k_ => XS.aloadN X0.here hx rfl (hb hby d_jdk_52_21_26) rfl rfl k_) ?_
    refine og s₁ (mkF m 28 #[rv a, iv 0, rv d, iv 0, iv 3, iv 0, iv c0] [(.int 0), (.ref d)]) (fun t_ k_ => XS.iloadN X0.here hx rfl (hb hby d_jdk_52_21_27) rfl k_) ?_
    refine og s₁ (mkF m 30 #[rv a, iv 0, rv d, iv 0, iv 3, iv 0, iv c0] [(.int c0), (.int 0), (.ref d)]) (fun t_ k_ => XS.iload X0.here hx rfl (hb hby d_jdk_52_21_28) rfl k_) ?_
    refine og s₁ (mkF m 31 #[rv a, iv 0, rv d, iv 0, iv 3, iv 0, iv c0] [(.int (c0.toInt8.toInt32)), (.int 0), (.ref d)]) (fun t_ k_ => XS.i2b X0.here hx rfl (hb hby d_jdk_52_21_30) rfl k_) ?_
    obtain ⟨cl3, Ar3, q3, S3, Nn3, H3, G3⟩ := id V_d
    have hin3 : ¬ ((0 : Int32) < 0 ∨ cl3.slots.size ≤ ((0 : Int32)).toNatClampNeg) := inb_of S3 ⟨by decide, by decide⟩
    obtain ⟨T3, h3, X3, e3, W3, st3⟩ := stB X0 hx hZ e0 Ar3 (j := (0 : Int32)) hin3 (g := (mkF m 31 #[rv a, iv 0, rv d, iv 0, iv 3, iv 0, iv c0] [(.int (c0.toInt8.toInt32)), (.int 0), (.ref d)])) rfl rfl (hb hby d_jdk_52_21_31)
    have V3 : Arv Z h3 d k_d .byte (3 : Int32) [(.int (c0.toInt8.toInt32)), (.int (0 : Int32)), (.int (0 : Int32))] (.int (0 : Int32)) := by
      have q0 := Arv.set Ar3 q3 S3 Nn3 H3 G3 (fits_nar_byte _) W3 0 rfl (Nat.le_of_ble_eq_true rfl)
      first | rw [own_i8] at q0 | skip
      exact q0
    have z3 := W3.size
    have N3 := Fr.snoc X3 N0 (show n0 ≤ d by omega)
    have K3 := (Keep.refl h0 [d]).wr W3 (Or.inl (List.mem_of_getElem? (i := 0) rfl))
    refine og T3 (mkF m 32 #[rv a, iv 0, rv d, iv 0, iv 3, iv 0, iv c0] []) (fun t_ k_ => st3 _ k_) ?_
    refine og T3 (mkF m 35 #[rv a, iv 1, rv d, iv 0, iv 3, iv 0, iv c0] []) (fun t_ k_ => XS.iinc X3.here hx rfl (hb hby d_jdk_52_21_32) rfl (l' := #[rv a, iv 1, rv d, iv 0, iv 3, iv 0, iv c0]) rfl k_) ?_
    refine og T3 (mkF m 38 #[rv a, iv 1, rv d, iv 1, iv 3, iv 0, iv c0] []) (fun t_ k_ => XS.iinc X3.here hx rfl (hb hby d_jdk_52_21_35) rfl (l' := #[rv a, iv 1, rv d, iv 1, iv 3, iv 0, iv c0]) rfl k_) ?_
    refine og T3 (mkF m 41 #[rv a, iv 1, rv d, iv 1, iv 3, iv 1, iv c0] []) (fun t_ k_ => XS.iinc X3.here hx rfl (hb hby d_jdk_52_21_38) rfl (l' := #[rv a, iv 1, rv d, iv 1, iv 3, iv 1, iv c0]) rfl k_) ?_
    refine og T3 (mkF m 3 #[rv a, iv 1, rv d, iv 1, iv 3, iv 1, iv c0] []) (fun t_ k_ => XS.goto X3.here hx rfl (pc0 := 41) (pc' := 3) rfl (hb hby d_jdk_52_21_41) (by decide) (by decide) k_) ?_
    refine og T3 (mkF m 5 #[rv a, iv 1, rv d, iv 1, iv 3, iv 1, iv c0] [(.int 1)]) (fun t_ k_ => XS.iload X3.here hx rfl (hb hby d_jdk_52_21_3) rfl k_) ?_
    refine og T3 (mkF m 7 #[rv a, iv 1, rv d, iv 1, iv 3, iv 1, iv c0] [(.int 3), (.int 1)]) (fun t_ k_ => XS.iload X3.here hx rfl (hb hby d_jdk_52_21_5) rfl k_) ?_
    refine og T3 (mkF m 10 #[rv a, iv 1, rv d, iv 1, iv 3, iv 1, iv c0] []) (fun t_ k_ => XS.icmpNo X3.here hx rfl (hb hby d_jdk_52_21_7) rfl (tlt (by decide)).2.1 k_) ?_
    refine og T3 (mkF m 11 #[rv a, iv 1, rv d, iv 1, iv 3, iv 1, iv c0] [(.ref a)]) (fun t_ k_ => XS.aloadN X3.here hx rfl (hb hby d_jdk_52_21_10) rfl rfl k_) ?_
    refine og T3 (mkF m 12 #[rv a, iv 1, rv d, iv 1, iv 3, iv 1, iv c0] [(.int 1), (.ref a)]) (fun t_ k_ => XS.iloadN X3.here hx rfl (hb hby d_jdk_52_21_11) rfl k_) ?_
    have ff5 := (V_a.other W3 hne)
    obtain ⟨cl4, Ar4, -, S4, Nn4, H4, -⟩ := id ff5
    have hin4 : ¬ ((1 : Int32) < 0 ∨ cl4.slots.size ≤ ((1 : Int32)).toNatClampNeg) := inb_of S4 ⟨by decide, by decide⟩
    refine og T3 (mkF m 13 #[rv a, iv 1, rv d, iv 1, iv 3, iv 1, iv c0] [(.int c1)]) (fun t_ k_ => X3.caload hx (j := (1 : Int32)) (v := (.int c1)) (by rw [e3]; exact Ar4.1) (State.isArrayOf_alike hZ.alike Ar4.2.1) Ar4.2.2 hin4 (H4.at hin4 rfl) (g := (mkF m 12 #[rv a, iv 1, rv d, iv 1, iv 3, iv 1, iv c0] [(.int 1), (.ref a)])) rfl rfl (hb hby d_jdk_52_21_12) _ k_) ?_
    refine og T3 (mkF m 15 #[rv a, iv 1, rv d, iv 1, iv 3, iv 1, iv c1] []) (fun t_ k_ => XS.istore X3.here hx rfl (hb hby d_jdk_52_21_13) rfl (l' := #[rv a, iv 1, rv d, iv 1, iv 3, iv 1, iv c1]) rfl k_) ?_
    refine og T3 (mkF m 17 #[rv a, iv 1, rv d, iv 1, iv 3, iv 1, iv c1] [(.int c1)]) (fun t_ k_ => XS.iload X3.here hx rfl (hb hby d_jdk_52_21_15) rfl k_) ?_
    refine og T3 (mkF m 20 #[rv a, iv 1, rv d, iv 1, iv 3, iv 1, iv c1] [(.int 255), (.int c1)]) (fun t_ k_ => XS.sipush X3.here hx rfl (hb hby d_jdk_52_21_17) k_) ?_
    by_cases hq6_ : (255 : Int32) < c1
    · skip
      refine og T3 (mkF m 23 #[rv a, iv 1, rv d, iv 1, iv 3, iv 1, iv c1] []) (fun t_ k_ => XS.icmpNo X3.here hx rfl (hb hby d_jdk_52_21_20) rfl (tlt hq6_).2.2.2 k_) ?_
      refine og T3 (mkF m 25 #[rv a, iv 1, rv d, iv 1, iv 3, iv 1, iv c1] [(.int 1)]) (fun t_ k_ => XS.iload X3.here hx rfl (hb hby d_jdk_52_21_23) rfl k_) ?_
      exact own_out X3 (v := some (.int 1)) (fun h => by rw [hret] at h; cases h) hlk (fun fs hr => retI X3 hx hret (hb hby d_jdk_52_21_25) hr) (Q := Q_rm_cma3 Z a d c0 c1 c2 k_a k_d h0 n0) (by rw [e3]; exact ⟨(1 : Int32), rfl, N3, K3, (Or.inr (Or.inr (Or.inl ⟨rfl, hq6_⟩)))⟩) (by decide) (by decide)
    · skip
      refine og T3 (mkF m 26 #[rv a, iv 1, rv d, iv 1, iv 3, iv 1, iv c1] []) (fun t_ k_ => XS.icmpYes X3.here hx rfl (pc0 := 20) (pc' := 26) rfl (hb hby d_jdk_52_21_20) rfl (flt hq6_).2.2.2 (by decide) (by decide) k_) ?_
      refine og T3 (mkF m 27 #[rv a, iv 1, rv d, iv 1, iv 3, iv 1, iv c1] [(.ref d)]) (fun t_ k_ => XS.aloadN X3.here hx rfl (hb hby d_jdk_52_21_26) rfl rfl k_) ?_
      refine og T3 (mkF m 28 #[rv a, iv 1, rv d, iv 1, iv 3, iv 1, iv c1] [(.int 1), (.ref d)]) (fun t_ k_ => XS.iloadN X3.here hx rfl (hb hby d_jdk_52_21_27) rfl k_) ?_
      refine og T3 (mkF m 30 #[rv a, iv 1, rv d, iv 1, iv 3, iv 1, iv c1] [(.int c1), (.int 1), (.ref d)]) (fun t_ k_ => XS.iload X3.here hx rfl (hb hby d_jdk_52_21_28) rfl k_) ?_
      refine og T3 (mkF m 31 #[rv a, iv 1, rv d, iv 1, iv 3, iv 1, iv c1] [(.int (c1.toInt8.toInt32)), (.int 1), (.ref d)]) (fun t_ k_ => XS.i2b X3.here hx rfl (hb hby d_jdk_52_21_30) rfl k_) ?_
      obtain ⟨cl7, Ar7, q7, S7, Nn7, H7, G7⟩ := id V3
      have hin7 : ¬ ((1 : Int32) < 0 ∨ cl7.slots.size ≤ ((1 : Int32)).toNatClampNeg) := inb_of S7 ⟨by decide, by decide⟩
      obtain ⟨T7, h7, X7, e7, W7, st7⟩ := stB X3 hx hZ e3 Ar7 (j := (1 : Int32)) hin7 (g := (mkF m 31 #[rv a, iv 1, rv d, iv 1, iv 3, iv 1, iv c1] [(.int (c1.toInt8.toInt32)), (.int 1), (.ref d)])) rfl rfl (hb hby d_jdk_52_21_31)
      have V7 : Arv Z h7 d k_d .byte (3 : Int32) [(.int (c0.toInt8.toInt32)), (.int (c1.toInt8.toInt32)), (.int (0 : Int32))] (.int (0 : Int32)) := by
        have q0 := Arv.set Ar7 q7 S7 Nn7 H7 G7 (fits_nar_byte _) W7 1 rfl (Nat.le_of_ble_eq_true rfl)
        first | rw [own_i8] at q0 | skip
        exact q0
      have z7 := W7.size
      have N7 := Fr.snoc X7 N3 (show n0 ≤ d by omega)
      have K7 := K3.wr W7 (Or.inl (List.mem_of_getElem? (i := 0) rfl))
      refine og T7 (mkF m 32 #[rv a, iv 1, rv d, iv 1, iv 3, iv 1, iv c1] []) (fun t_ k_ => st7 _ k_) ?_
      refine og T7 (mkF m 35 #[rv a, iv 2, rv d, iv 1, iv 3, iv 1, iv c1] []) (fun t_ k_ => XS.iinc X7.here hx rfl (hb hby d_jdk_52_21_32) rfl (l' := #[rv a, iv 2, rv d, iv 1, iv 3, iv 1, iv c1]) rfl k_) ?_
      refine og T7 (mkF m 38 #[rv a, iv 2, rv d, iv 2, iv 3, iv 1, iv c1] []) (fun t_ k_ => XS.iinc X7.here hx rfl (hb hby d_jdk_52_21_35) rfl (l' := #[rv a, iv 2, rv d, iv 2, iv 3, iv 1, iv c1]) rfl k_) ?_
      refine og T7 (mkF m 41 #[rv a, iv 2, rv d, iv 2, iv 3, iv 2, iv c1] []) (fun t_ k_ => XS.iinc X7.here hx rfl (hb hby d_jdk_52_21_38) rfl (l' := #[rv a, iv 2, rv d, iv 2, iv 3, iv 2, iv c1]) rfl k_) ?_
      refine og T7 (mkF m 3 #[rv a, iv 2, rv d, iv 2, iv 3, iv 2, iv c1] []) (fun t_ k_ => XS.goto X7.here hx rfl (pc0 := 41) (pc' := 3) rfl (hb hby d_jdk_52_21_41) (by decide) (by decide) k_) ?_
      refine og T7 (mkF m 5 #[rv a, iv 2, rv d, iv 2, iv 3, iv 2, iv c1] [(.int 2)]) (fun t_ k_ => XS.iload X7.here hx rfl (hb hby d_jdk_52_21_3) rfl k_) ?_
      refine og T7 (mkF m 7 #[rv a, iv 2, rv d, iv 2, iv 3, iv 2, iv c1] [(.int 3), (.int 2)]) (fun t_ k_ => XS.iload X7.here hx rfl (hb hby d_jdk_52_21_5) rfl k_) ?_
      refine og T7 (mkF m 10 #[rv a, iv 2, rv d, iv 2, iv 3, iv 2, iv c1] []) (fun t_ k_ => XS.icmpNo X7.here hx rfl (hb hby d_jdk_52_21_7) rfl (tlt (by decide)).2.1 k_) ?_
      refine og T7 (mkF m 11 #[rv a, iv 2, rv d, iv 2, iv 3, iv 2, iv c1] [(.ref a)]) (fun t_ k_ => XS.aloadN X7.here hx rfl (hb hby d_jdk_52_21_10) rfl rfl k_) ?_
      refine og T7 (mkF m 12 #[rv a, iv 2, rv d, iv 2, iv 3, iv 2, iv c1] [(.int 2), (.ref a)]) (fun t_ k_ => XS.iloadN X7.here hx rfl (hb hby d_jdk_52_21_11) rfl k_) ?_
      have ff9 := (ff5.other W7 hne)
      obtain ⟨cl8, Ar8, -, S8, Nn8, H8, -⟩ := id ff9
      have hin8 : ¬ ((2 : Int32) < 0 ∨ cl8.slots.size ≤ ((2 : Int32)).toNatClampNeg) := inb_of S8 ⟨by decide, by decide⟩
      refine og T7 (mkF m 13 #[rv a, iv 2, rv d, iv 2, iv 3, iv 2, iv c1] [(.int c2)]) (fun t_ k_ => X7.caload hx (j := (2 : Int32)) (v := (.int c2)) (by rw [e7]; exact Ar8.1) (State.isArrayOf_alike hZ.alike Ar8.2.1) Ar8.2.2 hin8 (H8.at hin8 rfl) (g := (mkF m 12 #[rv a, iv 2, rv d, iv 2, iv 3, iv 2, iv c1] [(.int 2), (.ref a)])) rfl rfl (hb hby d_jdk_52_21_12) _ k_) ?_
      refine og T7 (mkF m 15 #[rv a, iv 2, rv d, iv 2, iv 3, iv 2, iv c2] []) (fun t_ k_ => XS.istore X7.here hx rfl (hb hby d_jdk_52_21_13) rfl (l' := #[rv a, iv 2, rv d, iv 2, iv 3, iv 2, iv c2]) rfl k_) ?_
      refine og T7 (mkF m 17 #[rv a, iv 2, rv d, iv 2, iv 3, iv 2, iv c2] [(.int c2)]) (fun t_ k_ => XS.iload X7.here hx rfl (hb hby d_jdk_52_21_15) rfl k_) ?_
      refine og T7 (mkF m 20 #[rv a, iv 2, rv d, iv 2, iv 3, iv 2, iv c2] [(.int 255), (.int c2)]) (fun t_ k_ => XS.sipush X7.here hx rfl (hb hby d_jdk_52_21_17) k_) ?_
      by_cases hq10_ : (255 : Int32) < c2
      · skip
        refine og T7 (mkF m 23 #[rv a, iv 2, rv d, iv 2, iv 3, iv 2, iv c2] []) (fun t_ k_ => XS.icmpNo X7.here hx rfl (hb hby d_jdk_52_21_20) rfl (tlt hq10_).2.2.2 k_) ?_
        refine og T7 (mkF m 25 #[rv a, iv 2, rv d, iv 2, iv 3, iv 2, iv c2] [(.int 2)]) (fun t_ k_ => XS.iload X7.here hx rfl (hb hby d_jdk_52_21_23) rfl k_) ?_
        exact own_out X7 (v := some (.int 2)) (fun h => by rw [hret] at h; cases h) hlk (fun fs hr => retI X7 hx hret (hb hby d_jdk_52_21_25) hr) (Q := Q_rm_cma3 Z a d c0 c1 c2 k_a k_d h0 n0) (by rw [e7]; exact ⟨(2 : Int32), rfl, N7, K7, (Or.inr (Or.inr (Or.inr (⟨rfl, hq10_⟩))))⟩) (by decide) (by decide)
      · skip
        refine og T7 (mkF m 26 #[rv a, iv 2, rv d, iv 2, iv 3, iv 2, iv c2] []) (fun t_ k_ => XS.icmpYes X7.here hx rfl (pc0 := 20) (pc' := 26) rfl (hb hby d_jdk_52_21_20) rfl (flt hq10_).2.2.2 (by decide) (by decide) k_) ?_
        refine og T7 (mkF m 27 #[rv a, iv 2, rv d, iv 2, iv 3, iv 2, iv c2] [(.ref d)]) (fun t_ k_ => XS.aloadN X7.here hx rfl (hb hby d_jdk_52_21_26) rfl rfl k_) ?_
        refine og T7 (mkF m 28 #[rv a, iv 2, rv d, iv 2, iv 3, iv 2, iv c2] [(.int 2), (.ref d)]) (fun t_ k_ => XS.iloadN X7.here hx rfl (hb hby d_jdk_52_21_27) rfl k_) ?_
        refine og T7 (mkF m 30 #[rv a, iv 2, rv d, iv 2, iv 3, iv 2, iv c2] [(.int c2), (.int 2), (.ref d)]) (fun t_ k_ => XS.iload X7.here hx rfl (hb hby d_jdk_52_21_28) rfl k_) ?_
        refine og T7 (mkF m 31 #[rv a, iv 2, rv d, iv 2, iv 3, iv 2, iv c2] [(.int (c2.toInt8.toInt32)), (.int 2), (.ref d)]) (fun t_ k_ => XS.i2b X7.here hx rfl (hb hby d_jdk_52_21_30) rfl k_) ?_
        obtain ⟨cl11, Ar11, q11, S11, Nn11, H11, G11⟩ := id V7
        have hin11 : ¬ ((2 : Int32) < 0 ∨ cl11.slots.size ≤ ((2 : Int32)).toNatClampNeg) := inb_of S11 ⟨by decide, by decide⟩
        obtain ⟨T11, h11, X11, e11, W11, st11⟩ := stB X7 hx hZ e7 Ar11 (j := (2 : Int32)) hin11 (g := (mkF m 31 #[rv a, iv 2, rv d, iv 2, iv 3, iv 2, iv c2] [(.int (c2.toInt8.toInt32)), (.int 2), (.ref d)])) rfl rfl (hb hby d_jdk_52_21_31)
        have V11 : Arv Z h11 d k_d .byte (3 : Int32) [(.int (c0.toInt8.toInt32)), (.int (c1.toInt8.toInt32)), (.int (c2.toInt8.toInt32))] (.int (0 : Int32)) := by
          have q0 := Arv.set Ar11 q11 S11 Nn11 H11 G11 (fits_nar_byte _) W11 2 rfl (Nat.le_of_ble_eq_true rfl)
          first | rw [own_i8] at q0 | skip
          exact q0
        have z11 := W11.size
        have N11 := Fr.snoc X11 N7 (show n0 ≤ d by omega)
        have K11 := K7.wr W11 (Or.inl (List.mem_of_getElem? (i := 0) rfl))
        refine og T11 (mkF m 32 #[rv a, iv 2, rv d, iv 2, iv 3, iv 2, iv c2] []) (fun t_ k_ => st11 _ k_) ?_
        refine og T11 (mkF m 35 #[rv a, iv 3, rv d, iv 2, iv 3, iv 2, iv c2] []) (fun t_ k_ => XS.iinc X11.here hx rfl (hb hby d_jdk_52_21_32) rfl (l' := #[rv a, iv 3, rv d, iv 2, iv 3, iv 2, iv c2]) rfl k_) ?_
        refine og T11 (mkF m 38 #[rv a, iv 3, rv d, iv 3, iv 3, iv 2, iv c2] []) (fun t_ k_ => XS.iinc X11.here hx rfl (hb hby d_jdk_52_21_35) rfl (l' := #[rv a, iv 3, rv d, iv 3, iv 3, iv 2, iv c2]) rfl k_) ?_
        refine og T11 (mkF m 41 #[rv a, iv 3, rv d, iv 3, iv 3, iv 3, iv c2] []) (fun t_ k_ => XS.iinc X11.here hx rfl (hb hby d_jdk_52_21_38) rfl (l' := #[rv a, iv 3, rv d, iv 3, iv 3, iv 3, iv c2]) rfl k_) ?_
        refine og T11 (mkF m 3 #[rv a, iv 3, rv d, iv 3, iv 3, iv 3, iv c2] []) (fun t_ k_ => XS.goto X11.here hx rfl (pc0 := 41) (pc' := 3) rfl (hb hby d_jdk_52_21_41) (by decide) (by decide) k_) ?_
        refine og T11 (mkF m 5 #[rv a, iv 3, rv d, iv 3, iv 3, iv 3, iv c2] [(.int 3)]) (fun t_ k_ => XS.iload X11.here hx rfl (hb hby d_jdk_52_21_3) rfl k_) ?_
        refine og T11 (mkF m 7 #[rv a, iv 3, rv d, iv 3, iv 3, iv 3, iv c2] [(.int 3), (.int 3)]) (fun t_ k_ => XS.iload X11.here hx rfl (hb hby d_jdk_52_21_5) rfl k_) ?_
        refine og T11 (mkF m 44 #[rv a, iv 3, rv d, iv 3, iv 3, iv 3, iv c2] []) (fun t_ k_ => XS.icmpYes X11.here hx rfl (pc0 := 7) (pc' := 44) rfl (hb hby d_jdk_52_21_7) rfl (flt (by decide)).2.1 (by decide) (by decide) k_) ?_
        refine og T11 (mkF m 46 #[rv a, iv 3, rv d, iv 3, iv 3, iv 3, iv c2] [(.int 3)]) (fun t_ k_ => XS.iload X11.here hx rfl (hb hby d_jdk_52_21_44) rfl k_) ?_
        exact own_out X11 (v := some (.int 3)) (fun h => by rw [hret] at h; cases h) hlk (fun fs hr => retI X11 hx hret (hb hby d_jdk_52_21_46) hr) (Q := Q_rm_cma3 Z a d c0 c1 c2 k_a k_d h0 n0) (by rw [e11]; exact ⟨(3 : Int32), rfl, N11, K11, (Or.inl ⟨rfl, ⟨hq2_, hq6_, hq10_⟩, V11⟩)⟩) (by decide) (by decide)
theorem ef_30 (m : MethodId) (a : Nat) : entryFrame m #[(.ref a), (.int 0), (.int 3)] 6 = mkF m 0 #[rv a, iv 0, iv 3, .unset, .unset, .unset] [] := by first | (simp [entryFrame, mkF, argsToLocals, Value.category]; done) | rfl
def Q_rm_cmb3 (Z : State) (a : Nat) (c0 : Int32) (c1 : Int32) (c2 : Int32) (k_a : ClassId) (h0 : Heap) (n0 : Nat) (vv : Option Value) (h : Heap) (LL : List Loc) : Prop := ∃ b : Nat, ∃ kb : ClassId, vv = some (.ref b) ∧ Fr n0 LL ∧ Keep h0 h [] ∧ (h0.size ≤ b ∧ b < h.size) ∧ (((¬ (255 : Int32) < c0 ∧ ¬ (255 : Int32) < c1 ∧ ¬ (255 : Int32) < c2) ∧ Arv Z h b kb .byte (3 : Int32) [(.int c0.toInt8.toInt32), (.int c1.toInt8.toInt32), (.int c2.toInt8.toInt32)] (.int (0 : Int32))) ∨ Arv Z h b kb .byte (6 : Int32) [(.int ((c0 >>> ((0 : Int32) &&& 31)).toInt8.toInt32)), (.int ((c0 >>> ((8 : Int32) &&& 31)).toInt8.toInt32)), (.int ((c1 >>> ((0 : Int32) &&& 31)).toInt8.toInt32)), (.int ((c1 >>> ((8 : Int32) &&& 31)).toInt8.toInt32)), (.int ((c2 >>> ((0 : Int32) &&& 31)).toInt8.toInt32)), (.int ((c2 >>> ((8 : Int32) &&& 31)).toInt8.toInt32))] (.int (0 : Int32)))
set_option maxRecDepth 65536 in
set_option maxHeartbeats 40000000 in
theorem rm_cmb3 (l : Launch) (Z : State) (a0 : Array Value) (hw : ∀ d ∈ tables_1, d.before a0 Z = true) (ws : List Jvm.Cond) (a : Nat) (c0 : Int32) (c1 : Int32) (c2 : Int32) (k_a : ClassId) (h0 : Heap) (n0 : Nat) (Z0 : n0 ≤ h0.size) (hrc0 : ¬ (c0 < (0 : Int32)) ∧ ¬ ((65535 : Int32) < c0)) (hrc1 : ¬ (c1 < (0 : Int32)) ∧ ¬ ((65535 : Int32) < c1)) (hrc2 : ¬ (c2 < (0 : Int32)) ∧ ¬ ((65535 : Int32) < c2)) (V_a : Arv Z h0 a k_a .char (3 : Int32) [(.int c0), (.int c1), (.int c2)] (.int (0 : Int32))) (O0 : Old Z n0 h0) (S__assertionsDisabled : Sta Z Z.heap "java/lang/StringUTF16" "$assertionsDisabled" "Z" (.int 1)) (S_HI_BYTE_SHIFT : Sta Z Z.heap "java/lang/StringUTF16" "HI_BYTE_SHIFT" "I" (.int 0)) (S_LO_BYTE_SHIFT : Sta Z Z.heap "java/lang/StringUTF16" "LO_BYTE_SHIFT" "I" (.int 8)) :
    own_MF l ym_10 jdk_52_method_16_code 6 (some (.array .byte)) ⟨3, 2, 9, 40⟩ ws Z #[(.ref a), (.int 0), (.int 3)] h0 (Q_rm_cmb3 Z a c0 c1 c2 k_a h0 n0) := by
  refine own_begin (plainFor_of_name pn_2) (fun m => ef_30 m a) ?_
  intro p e s m below meth c s₁ hret hx hby hml hown hnm hlk X0 e0 hh hZ
  have N0 := Fr.nil n0
  have lt_V_a := own_ltN V_a.lt
  refine og s₁ (mkF m 1 #[rv a, iv 0, iv 3, .unset, .unset, .unset] [(.int 3)]) (fun t_ k_ => XS.iloadN X0.here hx rfl (hb hby d_jdk_52_16_0) rfl k_) ?_
  obtain ⟨T1, h1, k1, X1, e1, E1, A1, st1⟩ := newP X0 hx hZ (own_w hw 7 rfl) e0 (g := (mkF m 1 #[rv a, iv 0, iv 3, .unset, .unset, .unset] [(.int 3)])) rfl (hb hby d_jdk_52_16_1) rfl (by decide) (cap := 3) (by decide) (by decide) (by decide) (by decide)
  obtain ⟨b1, g1⟩ : ∃ z, z = h0.size := ⟨_, rfl⟩
  rw [← g1] at A1 st1
  have V1 : Arv Z h1 b1 k1 .byte (3 : Int32) [(.int (0 : Int32)), (.int (0 : Int32)), (.int (0 : Int32))] (.int (0 : Int32)) := (Arv.new A1 (by decide)).pad (pad_rep [] (.int (0 : Int32)) 3)
  have l1 := own_ltN V1.lt
  have z1 := E1.1
  have O1 := O0.ext E1
  have K1 := (Keep.refl h0 []).ext E1
  refine og T1 (mkF m 3 #[rv a, iv 0, iv 3, .unset, .unset, .unset] [(.ref b1)]) (fun t_ k_ => st1 _ k_) ?_
  refine og T1 (mkF m 4 #[rv a, iv 0, iv 3, rv b1, .unset, .unset] []) (fun t_ k_ => XS.astoreN X1.here hx rfl (hb hby d_jdk_52_16_3) rfl rfl (l' := #[rv a, iv 0, iv 3, rv b1, .unset, .unset]) rfl k_) ?_
  refine og T1 (mkF m 5 #[rv a, iv 0, iv 3, rv b1, .unset, .unset] [(.ref a)]) (fun t_ k_ => XS.aloadN X1.here hx rfl (hb hby d_jdk_52_16_4) rfl rfl k_) ?_
  refine og T1 (mkF m 6 #[rv a, iv 0, iv 3, rv b1, .unset, .unset] [(.int 0), (.ref a)]) (fun t_ k_ => XS.iloadN X1.here hx rfl (hb hby d_jdk_52_16_5) rfl k_) ?_
  refine og T1 (mkF m 7 #[rv a, iv 0, iv 3, rv b1, .unset, .unset] [(.ref b1), (.int 0), (.ref a)]) (fun t_ k_ => XS.aloadN X1.here hx rfl (hb hby d_jdk_52_16_6) rfl rfl k_) ?_
  refine og T1 (mkF m 8 #[rv a, iv 0, iv 3, rv b1, .unset, .unset] [(.int 0), (.ref b1), (.int 0), (.ref a)]) (fun t_ k_ => XS.iconst X1.here hx rfl (hb hby d_jdk_52_16_7) k_) ?_
  refine og T1 (mkF m 9 #[rv a, iv 0, iv 3, rv b1, .unset, .unset] [(.int 3), (.int 0), (.ref b1), (.int 0), (.ref a)]) (fun t_ k_ => XS.iloadN X1.here hx rfl (hb hby d_jdk_52_16_8) rfl k_) ?_
  have ff3 := (V_a.ext E1)
  obtain ⟨_, _, ⟨T2, L2, k2, n2⟩, -, X2, ⟨Lc2, hQ2, l2, y2, z2⟩, st2⟩ := Jvm.LawKit.callS X1 hx (y := ym_9) hown (mvT hZ (own_w hw 68 rfl)) (mvT hZ (own_w hw 69 rfl)) (mvT hZ (own_w hw 66 rfl)) (mvT hZ (own_w hw 70 rfl)) (by decide) (backOf (W := 0) (rm_cma3 l Z a0 hw [] a b1 c0 c1 c2 k_a k1 h1 n0 (show n0 ≤ h1.size by omega) ff3 V1 (show n0 ≤ b1 by omega) (show a ≠ b1 by omega)) hZ (own_w hw 70 rfl) (own_w hw 66 rfl) (by decide) (by decide)) (g := (mkF m 9 #[rv a, iv 0, iv 3, rv b1, .unset, .unset] [(.int 3), (.int 0), (.ref b1), (.int 0), (.ref a)])) rfl (by rw [hml]; rfl) (argsL := [(.ref a), (.int 0), (.ref b1), (.int 0), (.int 3)]) (rest := []) (lenOf pd_4 rfl) rfl (by show 2 * 0 + _ ≤ _; exact Nat.le_of_eq rfl) (hb hby d_jdk_52_16_9) (fun _ _ => ⟨rfl, e1, (by decide : 1 + 0 ≤ _), (by decide : 3 + 0 ≤ _)⟩)
  dsimp only [Pt.U, Pt.locs, Pt.cells, Pt.slots] at X2 l2 y2 z2 st2 hQ2
  subst l2 y2 z2
  obtain ⟨r2, rfl, M2, K2_, f2_0⟩ := hQ2
  have zz2 := K2_.1
  have O2 := O1.keep K2_ (allS (show n0 ≤ b1 by omega) all0)
  have K2 := K1.trans K2_ (allS (Or.inr (show h0.size ≤ b1 by omega)) all0)
  have N2 := Fr.app N0 M2
  refine og T2 (mkF m 12 #[rv a, iv 0, iv 3, rv b1, .unset, .unset] [(.int r2)]) (fun t_ k_ => st2 _ k_) ?_
  rcases f2_0 with ⟨rq, hle, hV⟩ | ⟨rq, hgt⟩ | ⟨rq, hgt⟩ | ⟨rq, hgt⟩
  · subst rq
    refine og T2 (mkF m 14 #[rv a, iv 0, iv 3, rv b1, iv 3, .unset] []) (fun t_ k_ => XS.istore X2.here hx rfl (hb hby d_jdk_52_16_12) rfl (l' := #[rv a, iv 0, iv 3, rv b1, iv 3, .unset]) rfl k_) ?_
    refine og T2 (mkF m 16 #[rv a, iv 0, iv 3, rv b1, iv 3, .unset] [(.int 3)]) (fun t_ k_ => XS.iload X2.here hx rfl (hb hby d_jdk_52_16_14) rfl k_) ?_
    refine og T2 (mkF m 17 #[rv a, iv 0, iv 3, rv b1, iv 3, .unset] [(.int 3), (.int 3)]) (fun t_ k_ => XS.iloadN X2.here hx rfl (hb hby d_jdk_52_16_16) rfl k_) ?_
    refine og T2 (mkF m 57 #[rv a, iv 0, iv 3, rv b1, iv 3, .unset] []) (fun t_ k_ => XS.icmpYes X2.here hx rfl (pc0 := 17) (pc' := 57) rfl (hb hby d_jdk_52_16_17) rfl (teq (by decide)).1 (by decide) (by decide) k_) ?_
    refine og T2 (mkF m 58 #[rv a, iv 0, iv 3, rv b1, iv 3, .unset] [(.ref b1)]) (fun t_ k_ => XS.aloadN X2.here hx rfl (hb hby d_jdk_52_16_57) rfl rfl k_) ?_
    exact own_out X2 (v := some (.ref b1)) (fun h => by rw [hret] at h; cases h) hlk (fun fs hr => own_retA X2 hx hret rfl rfl (hb hby d_jdk_52_16_58) hr) (Q := Q_rm_cmb3 Z a c0 c1 c2 k_a h0 n0) (by exact ⟨b1, k1, rfl, N2, K2, ⟨by omega, by omega⟩, (Or.inl ⟨hle, hV⟩)⟩) (by decide) (by decide)
  · subst rq
    refine og T2 (mkF m 14 #[rv a, iv 0, iv 3, rv b1, iv 0, .unset] []) (fun t_ k_ => XS.istore X2.here hx rfl (hb hby d_jdk_52_16_12) rfl (l' := #[rv a, iv 0, iv 3, rv b1, iv 0, .unset]) rfl k_) ?_
    refine og T2 (mkF m 16 #[rv a, iv 0, iv 3, rv b1, iv 0, .unset] [(.int 0)]) (fun t_ k_ => XS.iload X2.here hx rfl (hb hby d_jdk_52_16_14) rfl k_) ?_
    refine og T2 (mkF m 17 #[rv a, iv 0, iv 3, rv b1, iv 0, .unset] [(.int 3), (.int 0)]) (fun t_ k_ => XS.iloadN X2.here hx rfl (hb hby d_jdk_52_16_16) rfl k_) ?_
    refine og T2 (mkF m 20 #[rv a, iv 0, iv 3, rv b1, iv 0, .unset] []) (fun t_ k_ => XS.icmpNo X2.here hx rfl (hb hby d_jdk_52_16_17) rfl (feq (by decide)).1 k_) ?_
    refine og T2 (mkF m 21 #[rv a, iv 0, iv 3, rv b1, iv 0, .unset] [(.ref a)]) (fun t_ k_ => XS.aloadN X2.here hx rfl (hb hby d_jdk_52_16_20) rfl rfl k_) ?_
    refine og T2 (mkF m 22 #[rv a, iv 0, iv 3, rv b1, iv 0, .unset] [(.int 0), (.ref a)]) (fun t_ k_ => XS.iloadN X2.here hx rfl (hb hby d_jdk_52_16_21) rfl k_) ?_
    refine og T2 (mkF m 23 #[rv a, iv 0, iv 3, rv b1, iv 0, .unset] [(.int 3), (.int 0), (.ref a)]) (fun t_ k_ => XS.iloadN X2.here hx rfl (hb hby d_jdk_52_16_22) rfl k_) ?_
    have ff5 := (ff3.keep K2_ (ninS (own_ne (by omega)) nin0))
    obtain ⟨_, _, ⟨T4, L4, k4, n4⟩, -, X4, ⟨Lc4, hQ4, l4, y4, z4⟩, st4⟩ := Jvm.LawKit.callS X2 hx (y := ym_8) hown (mvT hZ (own_w hw 79 rfl)) (mvT hZ (own_w hw 80 rfl)) (mvT hZ (own_w hw 66 rfl)) (mvT hZ (own_w hw 81 rfl)) (by decide) (backOf (W := 0) (rm_tob3 l Z a0 hw [] a c0 c1 c2 k_a T2.heap n0 (show n0 ≤ T2.heap.size by omega) hrc0 hrc1 hrc2 ff5 O2 S__assertionsDisabled S_HI_BYTE_SHIFT S_LO_BYTE_SHIFT) hZ (own_w hw 81 rfl) (own_w hw 66 rfl) (by decide) (by decide)) (g := (mkF m 23 #[rv a, iv 0, iv 3, rv b1, iv 0, .unset] [(.int 3), (.int 0), (.ref a)])) rfl (by rw [hml]; rfl) (argsL := [(.ref a), (.int 0), (.int 3)]) (rest := []) (lenOf pd_5 rfl) rfl (by show 2 * 0 + _ ≤ _; exact Nat.le_of_eq rfl) (hb hby d_jdk_52_16_23) (fun _ _ => ⟨rfl, rfl, (by decide : 1 + 1 ≤ _), (by decide : 3 + 6 ≤ _)⟩)
    dsimp only [Pt.U, Pt.locs, Pt.cells, Pt.slots] at X4 l4 y4 z4 st4 hQ4
    subst l4 y4 z4
    obtain ⟨b4, kb4, rfl, M4, K4_, ⟨lob4, hib4⟩, f4_0⟩ := hQ4
    have zz4 := K4_.1
    have O4 := O2.keep K4_ all0
    have K4 := K2.trans K4_ all0
    have N4 := Fr.app N2 M4
    refine og T4 (mkF m 26 #[rv a, iv 0, iv 3, rv b1, iv 0, .unset] [(.ref b4)]) (fun t_ k_ => st4 _ k_) ?_
    refine og T4 (mkF m 28 #[rv a, iv 0, iv 3, rv b1, iv 0, rv b4] []) (fun t_ k_ => XS.astore X4.here hx rfl (hb hby d_jdk_52_16_26) rfl rfl (l' := #[rv a, iv 0, iv 3, rv b1, iv 0, rv b4]) rfl k_) ?_
    refine og T4 (mkF m 30 #[rv a, iv 0, iv 3, rv b1, iv 0, rv b4] [(.ref b4)]) (fun t_ k_ => XS.aload X4.here hx rfl (hb hby d_jdk_52_16_28) rfl rfl k_) ?_
    refine og T4 (mkF m 32 #[rv a, iv 0, iv 3, rv b1, iv 0, rv b4] [(.int 0), (.ref b4)]) (fun t_ k_ => XS.iload X4.here hx rfl (hb hby d_jdk_52_16_30) rfl k_) ?_
    obtain ⟨_, _, ⟨T6, L6, k6, n6⟩, -, X6, ⟨Lc6, hQ6, l6, y6, z6⟩, st6⟩ := Jvm.LawKit.callS X4 hx (y := ym_7) hown (mvT hZ (own_w hw 95 rfl)) (mvT hZ (own_w hw 96 rfl)) (mvT hZ (own_w hw 66 rfl)) (mvT hZ (own_w hw 97 rfl)) (by decide) (backOf (W := 0) (rm_get3_0 l Z a0 hw [] b4 c0 c1 c2 kb4 T4.heap n0 (show n0 ≤ T4.heap.size by omega) hrc0 hrc1 hrc2 f4_0 O4 S__assertionsDisabled S_HI_BYTE_SHIFT S_LO_BYTE_SHIFT) hZ (own_w hw 97 rfl) (own_w hw 66 rfl) (by decide) (by decide)) (g := (mkF m 32 #[rv a, iv 0, iv 3, rv b1, iv 0, rv b4] [(.int 0), (.ref b4)])) rfl (by rw [hml]; rfl) (argsL := [(.ref b4), (.int 0)]) (rest := []) (lenOf pd_6 rfl) rfl (by show 2 * 0 + _ ≤ _; exact Nat.le_of_eq rfl) (hb hby d_jdk_52_16_32) (fun _ _ => ⟨rfl, rfl, (by decide : 2 + 0 ≤ _), (by decide : 9 + 0 ≤ _)⟩)
    dsimp only [Pt.U, Pt.locs, Pt.cells, Pt.slots] at X6 l6 y6 z6 st6 hQ6
    subst l6 y6 z6
    obtain ⟨rfl, M6, e6⟩ := hQ6
    have N6 := Fr.app N4 M6
    refine og T6 (mkF m 35 #[rv a, iv 0, iv 3, rv b1, iv 0, rv b4] [(.int c0)]) (fun t_ k_ => st6 _ k_) ?_
    refine og T6 (mkF m 38 #[rv a, iv 0, iv 3, rv b1, iv 0, rv b4] [(.int 255), (.int c0)]) (fun t_ k_ => XS.sipush X6.here hx rfl (hb hby d_jdk_52_16_35) k_) ?_
    refine og T6 (mkF m 54 #[rv a, iv 0, iv 3, rv b1, iv 0, rv b4] []) (fun t_ k_ => XS.icmpYes X6.here hx rfl (pc0 := 38) (pc' := 54) rfl (hb hby d_jdk_52_16_38) rfl (tlt hgt).2.2.1 (by decide) (by decide) k_) ?_
    refine og T6 (mkF m 56 #[rv a, iv 0, iv 3, rv b1, iv 0, rv b4] [(.ref b4)]) (fun t_ k_ => XS.aload X6.here hx rfl (hb hby d_jdk_52_16_54) rfl rfl k_) ?_
    exact own_out X6 (v := some (.ref b4)) (fun h => by rw [hret] at h; cases h) hlk (fun fs hr => own_retA X6 hx hret rfl rfl (hb hby d_jdk_52_16_56) hr) (Q := Q_rm_cmb3 Z a c0 c1 c2 k_a h0 n0) (by rw [e6]; exact ⟨b4, kb4, rfl, N6, K4, ⟨by omega, by omega⟩, (Or.inr f4_0)⟩) (by decide) (by decide)
  · subst rq
    refine og T2 (mkF m 14 #[rv a, iv 0, iv 3, rv b1, iv 1, .unset] []) (fun t_ k_ => XS.istore X2.here hx rfl (hb hby d_jdk_52_16_12) rfl (l' := #[rv a, iv 0, iv 3, rv b1, iv 1, .unset]) rfl k_) ?_
    refine og T2 (mkF m 16 #[rv a, iv 0, iv 3, rv b1, iv 1, .unset] [(.int 1)]) (fun t_ k_ => XS.iload X2.here hx rfl (hb hby d_jdk_52_16_14) rfl k_) ?_
    refine og T2 (mkF m 17 #[rv a, iv 0, iv 3, rv b1, iv 1, .unset] [(.int 3), (.int 1)]) (fun t_ k_ => XS.iloadN X2.here hx rfl (hb hby d_jdk_52_16_16) rfl k_) ?_
    refine og T2 (mkF m 20 #[rv a, iv 0, iv 3, rv b1, iv 1, .unset] []) (fun t_ k_ => XS.icmpNo X2.here hx rfl (hb hby d_jdk_52_16_17) rfl (feq (by decide)).1 k_) ?_
    refine og T2 (mkF m 21 #[rv a, iv 0, iv 3, rv b1, iv 1, .unset] [(.ref a)]) (fun t_ k_ => XS.aloadN X2.here hx rfl (hb hby d_jdk_52_16_20) rfl rfl k_) ?_
    refine og T2 (mkF m 22 #[rv a, iv 0, iv 3, rv b1, iv 1, .unset] [(.int 0), (.ref a)]) (fun t_ k_ => XS.iloadN X2.here hx rfl (hb hby d_jdk_52_16_21) rfl k_) ?_
    refine og T2 (mkF m 23 #[rv a, iv 0, iv 3, rv b1, iv 1, .unset] [(.int 3), (.int 0), (.ref a)]) (fun t_ k_ => XS.iloadN X2.here hx rfl (hb hby d_jdk_52_16_22) rfl k_) ?_
    have ff8 := (ff3.keep K2_ (ninS (own_ne (by omega)) nin0))
    obtain ⟨_, _, ⟨T7, L7, k7, n7⟩, -, X7, ⟨Lc7, hQ7, l7, y7, z7⟩, st7⟩ := Jvm.LawKit.callS X2 hx (y := ym_8) hown (mvT hZ (own_w hw 79 rfl)) (mvT hZ (own_w hw 80 rfl)) (mvT hZ (own_w hw 66 rfl)) (mvT hZ (own_w hw 81 rfl)) (by decide) (backOf (W := 0) (rm_tob3 l Z a0 hw [] a c0 c1 c2 k_a T2.heap n0 (show n0 ≤ T2.heap.size by omega) hrc0 hrc1 hrc2 ff8 O2 S__assertionsDisabled S_HI_BYTE_SHIFT S_LO_BYTE_SHIFT) hZ (own_w hw 81 rfl) (own_w hw 66 rfl) (by decide) (by decide)) (g := (mkF m 23 #[rv a, iv 0, iv 3, rv b1, iv 1, .unset] [(.int 3), (.int 0), (.ref a)])) rfl (by rw [hml]; rfl) (argsL := [(.ref a), (.int 0), (.int 3)]) (rest := []) (lenOf pd_5 rfl) rfl (by show 2 * 0 + _ ≤ _; exact Nat.le_of_eq rfl) (hb hby d_jdk_52_16_23) (fun _ _ => ⟨rfl, rfl, (by decide : 1 + 1 ≤ _), (by decide : 3 + 6 ≤ _)⟩)
    dsimp only [Pt.U, Pt.locs, Pt.cells, Pt.slots] at X7 l7 y7 z7 st7 hQ7
    subst l7 y7 z7
    obtain ⟨b7, kb7, rfl, M7, K7_, ⟨lob7, hib7⟩, f7_0⟩ := hQ7
    have zz7 := K7_.1
    have O7 := O2.keep K7_ all0
    have K7 := K2.trans K7_ all0
    have N7 := Fr.app N2 M7
    refine og T7 (mkF m 26 #[rv a, iv 0, iv 3, rv b1, iv 1, .unset] [(.ref b7)]) (fun t_ k_ => st7 _ k_) ?_
    refine og T7 (mkF m 28 #[rv a, iv 0, iv 3, rv b1, iv 1, rv b7] []) (fun t_ k_ => XS.astore X7.here hx rfl (hb hby d_jdk_52_16_26) rfl rfl (l' := #[rv a, iv 0, iv 3, rv b1, iv 1, rv b7]) rfl k_) ?_
    refine og T7 (mkF m 30 #[rv a, iv 0, iv 3, rv b1, iv 1, rv b7] [(.ref b7)]) (fun t_ k_ => XS.aload X7.here hx rfl (hb hby d_jdk_52_16_28) rfl rfl k_) ?_
    refine og T7 (mkF m 32 #[rv a, iv 0, iv 3, rv b1, iv 1, rv b7] [(.int 1), (.ref b7)]) (fun t_ k_ => XS.iload X7.here hx rfl (hb hby d_jdk_52_16_30) rfl k_) ?_
    obtain ⟨_, _, ⟨T9, L9, k9, n9⟩, -, X9, ⟨Lc9, hQ9, l9, y9, z9⟩, st9⟩ := Jvm.LawKit.callS X7 hx (y := ym_7) hown (mvT hZ (own_w hw 95 rfl)) (mvT hZ (own_w hw 96 rfl)) (mvT hZ (own_w hw 66 rfl)) (mvT hZ (own_w hw 97 rfl)) (by decide) (backOf (W := 0) (rm_get3_1 l Z a0 hw [] b7 c0 c1 c2 kb7 T7.heap n0 (show n0 ≤ T7.heap.size by omega) hrc0 hrc1 hrc2 f7_0 O7 S__assertionsDisabled S_HI_BYTE_SHIFT S_LO_BYTE_SHIFT) hZ (own_w hw 97 rfl) (own_w hw 66 rfl) (by decide) (by decide)) (g := (mkF m 32 #[rv a, iv 0, iv 3, rv b1, iv 1, rv b7] [(.int 1), (.ref b7)])) rfl (by rw [hml]; rfl) (argsL := [(.ref b7), (.int 1)]) (rest := []) (lenOf pd_6 rfl) rfl (by show 2 * 0 + _ ≤ _; exact Nat.le_of_eq rfl) (hb hby d_jdk_52_16_32) (fun _ _ => ⟨rfl, rfl, (by decide : 2 + 0 ≤ _), (by decide : 9 + 0 ≤ _)⟩)
    dsimp only [Pt.U, Pt.locs, Pt.cells, Pt.slots] at X9 l9 y9 z9 st9 hQ9
    subst l9 y9 z9
    obtain ⟨rfl, M9, e9⟩ := hQ9
    have N9 := Fr.app N7 M9
    refine og T9 (mkF m 35 #[rv a, iv 0, iv 3, rv b1, iv 1, rv b7] [(.int c1)]) (fun t_ k_ => st9 _ k_) ?_
    refine og T9 (mkF m 38 #[rv a, iv 0, iv 3, rv b1, iv 1, rv b7] [(.int 255), (.int c1)]) (fun t_ k_ => XS.sipush X9.here hx rfl (hb hby d_jdk_52_16_35) k_) ?_
    refine og T9 (mkF m 54 #[rv a, iv 0, iv 3, rv b1, iv 1, rv b7] []) (fun t_ k_ => XS.icmpYes X9.here hx rfl (pc0 := 38) (pc' := 54) rfl (hb hby d_jdk_52_16_38) rfl (tlt hgt).2.2.1 (by decide) (by decide) k_) ?_
    refine og T9 (mkF m 56 #[rv a, iv 0, iv 3, rv b1, iv 1, rv b7] [(.ref b7)]) (fun t_ k_ => XS.aload X9.here hx rfl (hb hby d_jdk_52_16_54) rfl rfl k_) ?_
    exact own_out X9 (v := some (.ref b7)) (fun h => by rw [hret] at h; cases h) hlk (fun fs hr => own_retA X9 hx hret rfl rfl (hb hby d_jdk_52_16_56) hr) (Q := Q_rm_cmb3 Z a c0 c1 c2 k_a h0 n0) (by rw [e9]; exact ⟨b7, kb7, rfl, N9, K7, ⟨by omega, by omega⟩, (Or.inr f7_0)⟩) (by decide) (by decide)
  · subst rq
    refine og T2 (mkF m 14 #[rv a, iv 0, iv 3, rv b1, iv 2, .unset] []) (fun t_ k_ => XS.istore X2.here hx rfl (hb hby d_jdk_52_16_12) rfl (l' := #[rv a, iv 0, iv 3, rv b1, iv 2, .unset]) rfl k_) ?_
    refine og T2 (mkF m 16 #[rv a, iv 0, iv 3, rv b1, iv 2, .unset] [(.int 2)]) (fun t_ k_ => XS.iload X2.here hx rfl (hb hby d_jdk_52_16_14) rfl k_) ?_
    refine og T2 (mkF m 17 #[rv a, iv 0, iv 3, rv b1, iv 2, .unset] [(.int 3), (.int 2)]) (fun t_ k_ => XS.iloadN X2.here hx rfl (hb hby d_jdk_52_16_16) rfl k_) ?_
    refine og T2 (mkF m 20 #[rv a, iv 0, iv 3, rv b1, iv 2, .unset] []) (fun t_ k_ => XS.icmpNo X2.here hx rfl (hb hby d_jdk_52_16_17) rfl (feq (by decide)).1 k_) ?_
    refine og T2 (mkF m 21 #[rv a, iv 0, iv 3, rv b1, iv 2, .unset] [(.ref a)]) (fun t_ k_ => XS.aloadN X2.here hx rfl (hb hby d_jdk_52_16_20) rfl rfl k_) ?_
    refine og T2 (mkF m 22 #[rv a, iv 0, iv 3, rv b1, iv 2, .unset] [(.int 0), (.ref a)]) (fun t_ k_ => XS.iloadN X2.here hx rfl (hb hby d_jdk_52_16_21) rfl k_) ?_
    refine og T2 (mkF m 23 #[rv a, iv 0, iv 3, rv b1, iv 2, .unset] [(.int 3), (.int 0), (.ref a)]) (fun t_ k_ => XS.iloadN X2.here hx rfl (hb hby d_jdk_52_16_22) rfl k_) ?_
    have ff11 := (ff3.keep K2_ (ninS (own_ne (by omega)) nin0))
    obtain ⟨_, _, ⟨T10, L10, k10, n10⟩, -, X10, ⟨Lc10, hQ10, l10, y10, z10⟩, st10⟩ := Jvm.LawKit.callS X2 hx (y := ym_8) hown (mvT hZ (own_w hw 79 rfl)) (mvT hZ (own_w hw 80 rfl)) (mvT hZ (own_w hw 66 rfl)) (mvT hZ (own_w hw 81 rfl)) (by decide) (backOf (W := 0) (rm_tob3 l Z a0 hw [] a c0 c1 c2 k_a T2.heap n0 (show n0 ≤ T2.heap.size by omega) hrc0 hrc1 hrc2 ff11 O2 S__assertionsDisabled S_HI_BYTE_SHIFT S_LO_BYTE_SHIFT) hZ (own_w hw 81 rfl) (own_w hw 66 rfl) (by decide) (by decide)) (g := (mkF m 23 #[rv a, iv 0, iv 3, rv b1, iv 2, .unset] [(.int 3), (.int 0), (.ref a)])) rfl (by rw [hml]; rfl) (argsL := [(.ref a), (.int 0), (.int 3)]) (rest := []) (lenOf pd_5 rfl) rfl (by show 2 * 0 + _ ≤ _; exact Nat.le_of_eq rfl) (hb hby d_jdk_52_16_23) (fun _ _ => ⟨rfl, rfl, (by decide : 1 + 1 ≤ _), (by decide : 3 + 6 ≤ _)⟩)
    dsimp only [Pt.U, Pt.locs, Pt.cells, Pt.slots] at X10 l10 y10 z10 st10 hQ10
    subst l10 y10 z10
    obtain ⟨b10, kb10, rfl, M10, K10_, ⟨lob10, hib10⟩, f10_0⟩ := hQ10
    have zz10 := K10_.1
    have O10 := O2.keep K10_ all0
    have K10 := K2.trans K10_ all0
    have N10 := Fr.app N2 M10
    refine og T10 (mkF m 26 #[rv a, iv 0, iv 3, rv b1, iv 2, .unset] [(.ref b10)]) (fun t_ k_ => st10 _ k_) ?_
    refine og T10 (mkF m 28 #[rv a, iv 0, iv 3, rv b1, iv 2, rv b10] []) (fun t_ k_ => XS.astore X10.here hx rfl (hb hby d_jdk_52_16_26) rfl rfl (l' := #[rv a, iv 0, iv 3, rv b1, iv 2, rv b10]) rfl k_) ?_
    refine og T10 (mkF m 30 #[rv a, iv 0, iv 3, rv b1, iv 2, rv b10] [(.ref b10)]) (fun t_ k_ => XS.aload X10.here hx rfl (hb hby d_jdk_52_16_28) rfl rfl k_) ?_
    refine og T10 (mkF m 32 #[rv a, iv 0, iv 3, rv b1, iv 2, rv b10] [(.int 2), (.ref b10)]) (fun t_ k_ => XS.iload X10.here hx rfl (hb hby d_jdk_52_16_30) rfl k_) ?_
    obtain ⟨_, _, ⟨T12, L12, k12, n12⟩, -, X12, ⟨Lc12, hQ12, l12, y12, z12⟩, st12⟩ := Jvm.LawKit.callS X10 hx (y := ym_7) hown (mvT hZ (own_w hw 95 rfl)) (mvT hZ (own_w hw 96 rfl)) (mvT hZ (own_w hw 66 rfl)) (mvT hZ (own_w hw 97 rfl)) (by decide) (backOf (W := 0) (rm_get3_2 l Z a0 hw [] b10 c0 c1 c2 kb10 T10.heap n0 (show n0 ≤ T10.heap.size by omega) hrc0 hrc1 hrc2 f10_0 O10 S__assertionsDisabled S_HI_BYTE_SHIFT S_LO_BYTE_SHIFT) hZ (own_w hw 97 rfl) (own_w hw 66 rfl) (by decide) (by decide)) (g := (mkF m 32 #[rv a, iv 0, iv 3, rv b1, iv 2, rv b10] [(.int 2), (.ref b10)])) rfl (by rw [hml]; rfl) (argsL := [(.ref b10), (.int 2)]) (rest := []) (lenOf pd_6 rfl) rfl (by show 2 * 0 + _ ≤ _; exact Nat.le_of_eq rfl) (hb hby d_jdk_52_16_32) (fun _ _ => ⟨rfl, rfl, (by decide : 2 + 0 ≤ _), (by decide : 9 + 0 ≤ _)⟩)
    dsimp only [Pt.U, Pt.locs, Pt.cells, Pt.slots] at X12 l12 y12 z12 st12 hQ12
    subst l12 y12 z12
    obtain ⟨rfl, M12, e12⟩ := hQ12
    have N12 := Fr.app N10 M12
    refine og T12 (mkF m 35 #[rv a, iv 0, iv 3, rv b1, iv 2, rv b10] [(.int c2)]) (fun t_ k_ => st12 _ k_) ?_
    refine og T12 (mkF m 38 #[rv a, iv 0, iv 3, rv b1, iv 2, rv b10] [(.int 255), (.int c2)]) (fun t_ k_ => XS.sipush X12.here hx rfl (hb hby d_jdk_52_16_35) k_) ?_
    refine og T12 (mkF m 54 #[rv a, iv 0, iv 3, rv b1, iv 2, rv b10] []) (fun t_ k_ => XS.icmpYes X12.here hx rfl (pc0 := 38) (pc' := 54) rfl (hb hby d_jdk_52_16_38) rfl (tlt hgt).2.2.1 (by decide) (by decide) k_) ?_
    refine og T12 (mkF m 56 #[rv a, iv 0, iv 3, rv b1, iv 2, rv b10] [(.ref b10)]) (fun t_ k_ => XS.aload X12.here hx rfl (hb hby d_jdk_52_16_54) rfl rfl k_) ?_
    exact own_out X12 (v := some (.ref b10)) (fun h => by rw [hret] at h; cases h) hlk (fun fs hr => own_retA X12 hx hret rfl rfl (hb hby d_jdk_52_16_56) hr) (Q := Q_rm_cmb3 Z a c0 c1 c2 k_a h0 n0) (by rw [e12]; exact ⟨b10, kb10, rfl, N12, K10, ⟨by omega, by omega⟩, (Or.inr f10_0)⟩) (by decide) (by decide)
theorem ef_31 (m : MethodId) (a : Nat) : entryFrame m #[(.ref a), (.int 3)] 2 = mkF m 0 #[rv a, iv 3] [] := by first | (simp [entryFrame, mkF, argsToLocals, Value.category]; done) | rfl
def Q_rm_cfa3_3 (Z : State) (a : Nat) (y0 : Int32) (y1 : Int32) (y2 : Int32) (k_a : ClassId) (h0 : Heap) (n0 : Nat) (vv : Option Value) (h : Heap) (LL : List Loc) : Prop := vv = some (.int 0) ∧ Fr n0 LL ∧ h = h0
set_option maxRecDepth 65536 in
set_option maxHeartbeats 40000000 in
theorem rm_cfa3_3 (l : Launch) (Z : State) (a0 : Array Value) (hw : ∀ d ∈ tables_1, d.before a0 Z = true) (ws : List Jvm.Cond) (a : Nat) (y0 : Int32) (y1 : Int32) (y2 : Int32) (k_a : ClassId) (h0 : Heap) (n0 : Nat) (Z0 : n0 ≤ h0.size) (V_a : Arv Z h0 a k_a .byte (3 : Int32) [(.int y0), (.int y1), (.int y2)] (.int (0 : Int32))) :
    own_MF l ym_11 jdk_52_method_15_code 2 (some .byte) ⟨0, 0, 0, 0⟩ ws Z #[(.ref a), (.int 3)] h0 (Q_rm_cfa3_3 Z a y0 y1 y2 k_a h0 n0) := by
  refine own_begin (plainFor_of_name pn_2) (fun m => ef_31 m a) ?_
  intro p e s m below meth c s₁ hret hx hby hml hown hnm hlk X0 e0 hh hZ
  have N0 := Fr.nil n0
  have lt_V_a := own_ltN V_a.lt
  refine og s₁ (mkF m 1 #[rv a, iv 3] [(.int 3)]) (fun t_ k_ => XS.iloadN X0.here hx rfl (hb hby d_jdk_52_15_0) rfl k_) ?_
  refine og s₁ (mkF m 2 #[rv a, iv 3] [(.ref a), (.int 3)]) (fun t_ k_ => XS.aloadN X0.here hx rfl (hb hby d_jdk_52_15_1) rfl rfl k_) ?_
  obtain ⟨cl1, Ar1, -, S1, Nn1, -, -⟩ := id V_a
  refine og s₁ (mkF m 3 #[rv a, iv 3] [(.int 3), (.int 3)]) (fun t_ k_ => X0.arraylength hx (by rw [e0]; exact Ar1.1) (State.isArrayOf_alike hZ.alike Ar1.2.1) (g := (mkF m 2 #[rv a, iv 3] [(.ref a), (.int 3)])) rfl rfl (hb hby d_jdk_52_15_2) _ (by rw [len_of S1 Nn1]; exact k_)) ?_
  refine og s₁ (mkF m 4 #[rv a, iv 3] [(.int 0)]) (fun t_ k_ => XS.isub X0.here hx rfl (hb hby d_jdk_52_15_3) rfl k_) ?_
  refine og s₁ (mkF m 6 #[rv a, iv 3] [(.int 31), (.int 0)]) (fun t_ k_ => XS.bipush X0.here hx rfl (hb hby d_jdk_52_15_4) k_) ?_
  refine og s₁ (mkF m 7 #[rv a, iv 3] [(.int 0)]) (fun t_ k_ => XS.iushr X0.here hx rfl (hb hby d_jdk_52_15_6) rfl k_) ?_
  refine og s₁ (mkF m 8 #[rv a, iv 3] [(.int 0)]) (fun t_ k_ => XS.i2b X0.here hx rfl (hb hby d_jdk_52_15_7) rfl k_) ?_
  exact own_out X0 (v := some (.int (nar .byte (0 : Int32)))) (fun h => by rw [hret] at h; cases h) hlk (fun fs hr => retN X0 hx (t := .byte) hret (by simp) (hb hby d_jdk_52_15_8) hr) (Q := Q_rm_cfa3_3 Z a y0 y1 y2 k_a h0 n0) (by rw [e0]; exact ⟨rfl, N0, rfl⟩) (by decide) (by decide)
def Q_rm_cfa3_6 (Z : State) (a : Nat) (y0 : Int32) (y1 : Int32) (y2 : Int32) (y3 : Int32) (y4 : Int32) (y5 : Int32) (k_a : ClassId) (h0 : Heap) (n0 : Nat) (vv : Option Value) (h : Heap) (LL : List Loc) : Prop := vv = some (.int 1) ∧ Fr n0 LL ∧ h = h0
set_option maxRecDepth 65536 in
set_option maxHeartbeats 40000000 in
theorem rm_cfa3_6 (l : Launch) (Z : State) (a0 : Array Value) (hw : ∀ d ∈ tables_1, d.before a0 Z = true) (ws : List Jvm.Cond) (a : Nat) (y0 : Int32) (y1 : Int32) (y2 : Int32) (y3 : Int32) (y4 : Int32) (y5 : Int32) (k_a : ClassId) (h0 : Heap) (n0 : Nat) (Z0 : n0 ≤ h0.size) (V_a : Arv Z h0 a k_a .byte (6 : Int32) [(.int y0), (.int y1), (.int y2), (.int y3), (.int y4), (.int y5)] (.int (0 : Int32))) :
    own_MF l ym_11 jdk_52_method_15_code 2 (some .byte) ⟨0, 0, 0, 0⟩ ws Z #[(.ref a), (.int 3)] h0 (Q_rm_cfa3_6 Z a y0 y1 y2 y3 y4 y5 k_a h0 n0) := by
  refine own_begin (plainFor_of_name pn_2) (fun m => ef_31 m a) ?_
  intro p e s m below meth c s₁ hret hx hby hml hown hnm hlk X0 e0 hh hZ
  have N0 := Fr.nil n0
  have lt_V_a := own_ltN V_a.lt
  refine og s₁ (mkF m 1 #[rv a, iv 3] [(.int 3)]) (fun t_ k_ => XS.iloadN X0.here hx rfl (hb hby d_jdk_52_15_0) rfl k_) ?_
  refine og s₁ (mkF m 2 #[rv a, iv 3] [(.ref a), (.int 3)]) (fun t_ k_ => XS.aloadN X0.here hx rfl (hb hby d_jdk_52_15_1) rfl rfl k_) ?_
  obtain ⟨cl1, Ar1, -, S1, Nn1, -, -⟩ := id V_a
  refine og s₁ (mkF m 3 #[rv a, iv 3] [(.int 6), (.int 3)]) (fun t_ k_ => X0.arraylength hx (by rw [e0]; exact Ar1.1) (State.isArrayOf_alike hZ.alike Ar1.2.1) (g := (mkF m 2 #[rv a, iv 3] [(.ref a), (.int 3)])) rfl rfl (hb hby d_jdk_52_15_2) _ (by rw [len_of S1 Nn1]; exact k_)) ?_
  refine og s₁ (mkF m 4 #[rv a, iv 3] [(.int (-3))]) (fun t_ k_ => XS.isub X0.here hx rfl (hb hby d_jdk_52_15_3) rfl k_) ?_
  refine og s₁ (mkF m 6 #[rv a, iv 3] [(.int 31), (.int (-3))]) (fun t_ k_ => XS.bipush X0.here hx rfl (hb hby d_jdk_52_15_4) k_) ?_
  refine og s₁ (mkF m 7 #[rv a, iv 3] [(.int 1)]) (fun t_ k_ => XS.iushr X0.here hx rfl (hb hby d_jdk_52_15_6) rfl k_) ?_
  refine og s₁ (mkF m 8 #[rv a, iv 3] [(.int 1)]) (fun t_ k_ => XS.i2b X0.here hx rfl (hb hby d_jdk_52_15_7) rfl k_) ?_
  exact own_out X0 (v := some (.int (nar .byte (1 : Int32)))) (fun h => by rw [hret] at h; cases h) hlk (fun fs hr => retN X0 hx (t := .byte) hret (by simp) (hb hby d_jdk_52_15_8) hr) (Q := Q_rm_cfa3_6 Z a y0 y1 y2 y3 y4 y5 k_a h0 n0) (by rw [e0]; exact ⟨rfl, N0, rfl⟩) (by decide) (by decide)
theorem ef_32 (m : MethodId) (a : Nat) (ca : Nat) : entryFrame m #[(.ref a), (.ref ca), (.int 0), (.int 3), .null] 6 = mkF m 0 #[rv a, rv ca, iv 0, iv 3, .val .null, .unset] [] := by first | (simp [entryFrame, mkF, argsToLocals, Value.category]; done) | rfl
def Q_rm_inb3 (Z : State) (a : Nat) (ca : Nat) (c0 : Int32) (c1 : Int32) (c2 : Int32) (k_ca : ClassId) (cz : Int32) (h0 : Heap) (n0 : Nat) (vv : Option Value) (h : Heap) (LL : List Loc) : Prop := vv = none ∧ Fr n0 LL ∧ Keep h0 h [a] ∧ own_Sw Z h h.size a [c0, c1, c2]
set_option maxRecDepth 65536 in
set_option maxHeartbeats 40000000 in
theorem rm_inb3 (l : Launch) (Z : State) (a0 : Array Value) (hw : ∀ d ∈ tables_1, d.before a0 Z = true) (ws : List Jvm.Cond) (a : Nat) (ca : Nat) (c0 : Int32) (c1 : Int32) (c2 : Int32) (k_ca : ClassId) (cz : Int32) (h0 : Heap) (n0 : Nat) (Z0 : n0 ≤ h0.size) (hrc0 : ¬ (c0 < (0 : Int32)) ∧ ¬ ((65535 : Int32) < c0)) (hrc1 : ¬ (c1 < (0 : Int32)) ∧ ¬ ((65535 : Int32) < c1)) (hrc2 : ¬ (c2 < (0 : Int32)) ∧ ¬ ((65535 : Int32) < c2)) (V_ca : Arv Z h0 ca k_ca .char (3 : Int32) [(.int c0), (.int c1), (.int c2)] (.int (0 : Int32))) (O0 : Old Z n0 h0) (S__assertionsDisabled : Sta Z Z.heap "java/lang/StringUTF16" "$assertionsDisabled" "Z" (.int 1)) (S_HI_BYTE_SHIFT : Sta Z Z.heap "java/lang/StringUTF16" "HI_BYTE_SHIFT" "I" (.int 0)) (S_LO_BYTE_SHIFT : Sta Z Z.heap "java/lang/StringUTF16" "LO_BYTE_SHIFT" "I" (.int 8)) (S_COMPACT_STRINGS : Sta Z Z.heap "java/lang/String" "COMPACT_STRINGS" "Z" (.int cz)) (hcz : ¬ cz = (0 : Int32)) (E_a : Exa Z h0 a "java/lang/String") (F_value_a : Fld Z h0 a "java/lang/String" "value" "[B" .null) (F_coder_a : Fld Z h0 a "java/lang/String" "coder" "B" (.int 0)) (g_a : n0 ≤ a) (hne : ca ≠ a) :
    own_MF l ym_12 jdk_42_method_149_code 6 none ⟨4, 2, 9, 57⟩ ws Z #[(.ref a), (.ref ca), (.int 0), (.int 3), .null] h0 (Q_rm_inb3 Z a ca c0 c1 c2 k_ca cz h0 n0) := by
  refine own_begin (plainFor_of_name pn_1) (fun m => ef_32 m a ca) ?_
  intro p e s m below meth c s₁ hret hx hby hml hown hnm hlk X0 e0 hh hZ
  have N0 := Fr.nil n0
  have lt_V_ca := own_ltN V_ca.lt
  have lt_E_a := own_ltN E_a.lt
  have lt_F_value_a := own_ltN F_value_a.lt
  have lt_F_coder_a := own_ltN F_coder_a.lt
  refine og s₁ (mkF m 1 #[rv a, rv ca, iv 0, iv 3, .val .null, .unset] [(.ref a)]) (fun t_ k_ => XS.aloadN X0.here hx rfl (hb hby d_jdk_42_149_0) rfl rfl k_) ?_
  obtain ⟨T1, X1, e1, st1⟩ := initO X0 hx hZ hown (own_w hw 46 rfl) (own_w hw 47 rfl) (own_w hw 48 rfl) e0 (g := (mkF m 1 #[rv a, rv ca, iv 0, iv 3, .val .null, .unset] [(.ref a)])) rfl (by rw [hml]; rfl) rfl (hb hby d_jdk_42_149_1) (by decide) (W := 0) (by show 2 * 0 + _ ≤ _; exact Nat.le_of_eq rfl) (by decide)
  refine og T1 (mkF m 4 #[rv a, rv ca, iv 0, iv 3, .val .null, .unset] []) (fun t_ k_ => st1 _ k_) ?_
  refine og T1 (mkF m 5 #[rv a, rv ca, iv 0, iv 3, .val .null, .unset] [(.int 3)]) (fun t_ k_ => XS.iloadN X1.here hx rfl (hb hby d_jdk_42_149_4) rfl k_) ?_
  refine og T1 (mkF m 27 #[rv a, rv ca, iv 0, iv 3, .val .null, .unset] []) (fun t_ k_ => XS.ifYes X1.here hx rfl (pc0 := 5) (pc' := 27) rfl (hb hby d_jdk_42_149_5) rfl ((if0 _ _).trans (feq (by decide)).2) (by decide) (by decide) k_) ?_
  obtain ⟨T2, X2, e2, st2⟩ := getS2 X1 hx hZ hown (host := "") (Or.inl (own_w hw 22 rfl)) Via.refl e1 (S_COMPACT_STRINGS.ext O0.2) (g := (mkF m 27 #[rv a, rv ca, iv 0, iv 3, .val .null, .unset] [])) rfl (hb hby d_jdk_42_149_27)
  refine og T2 (mkF m 30 #[rv a, rv ca, iv 0, iv 3, .val .null, .unset] [(.int cz)]) (fun t_ k_ => st2 _ k_) ?_
  refine og T2 (mkF m 33 #[rv a, rv ca, iv 0, iv 3, .val .null, .unset] []) (fun t_ k_ => XS.ifNo X2.here hx rfl (hb hby d_jdk_42_149_30) rfl ((if0 _ _).trans (feq hcz).1) k_) ?_
  refine og T2 (mkF m 34 #[rv a, rv ca, iv 0, iv 3, .val .null, .unset] [(.ref ca)]) (fun t_ k_ => XS.aloadN X2.here hx rfl (hb hby d_jdk_42_149_33) rfl rfl k_) ?_
  refine og T2 (mkF m 35 #[rv a, rv ca, iv 0, iv 3, .val .null, .unset] [(.int 0), (.ref ca)]) (fun t_ k_ => XS.iloadN X2.here hx rfl (hb hby d_jdk_42_149_34) rfl k_) ?_
  refine og T2 (mkF m 36 #[rv a, rv ca, iv 0, iv 3, .val .null, .unset] [(.int 3), (.int 0), (.ref ca)]) (fun t_ k_ => XS.iloadN X2.here hx rfl (hb hby d_jdk_42_149_35) rfl k_) ?_
  obtain ⟨_, _, ⟨T3, L3, k3, n3⟩, -, X3, ⟨Lc3, hQ3, l3, y3, z3⟩, st3⟩ := Jvm.LawKit.callS X2 hx (y := ym_10) hown (mvT hZ (own_w hw 64 rfl)) (mvT hZ (own_w hw 65 rfl)) (mvT hZ (own_w hw 66 rfl)) (mvT hZ (own_w hw 67 rfl)) (by decide) (backOf (W := 0) (rm_cmb3 l Z a0 hw [] ca c0 c1 c2 k_ca h0 n0 (show n0 ≤ h0.size by omega) hrc0 hrc1 hrc2 V_ca O0 S__assertionsDisabled S_HI_BYTE_SHIFT S_LO_BYTE_SHIFT) hZ (own_w hw 67 rfl) (own_w hw 66 rfl) (by decide) (by decide)) (g := (mkF m 36 #[rv a, rv ca, iv 0, iv 3, .val .null, .unset] [(.int 3), (.int 0), (.ref ca)])) rfl (by rw [hml]; rfl) (argsL := [(.ref ca), (.int 0), (.int 3)]) (rest := []) (lenOf pd_5 rfl) rfl (by show 2 * 0 + _ ≤ _; exact Nat.le_of_eq rfl) (hb hby d_jdk_42_149_36) (fun _ _ => ⟨rfl, e2, (by decide : 0 + 2 ≤ _), (by decide : 0 + 9 ≤ _)⟩)
  dsimp only [Pt.U, Pt.locs, Pt.cells, Pt.slots] at X3 l3 y3 z3 st3 hQ3
  subst l3 y3 z3
  obtain ⟨b3, kb3, rfl, M3, K3_, ⟨lob3, hib3⟩, f3_0⟩ := hQ3
  have zz3 := K3_.1
  have O3 := O0.keep K3_ all0
  have K3 := (Keep.refl h0 [a]).trans K3_ all0
  have N3 := Fr.app N0 M3
  refine og T3 (mkF m 39 #[rv a, rv ca, iv 0, iv 3, .val .null, .unset] [(.ref b3)]) (fun t_ k_ => st3 _ k_) ?_
  rcases f3_0 with ⟨hle, hV⟩ | hV
  · skip
    refine og T3 (mkF m 41 #[rv a, rv ca, iv 0, iv 3, .val .null, rv b3] []) (fun t_ k_ => XS.astore X3.here hx rfl (hb hby d_jdk_42_149_39) rfl rfl (l' := #[rv a, rv ca, iv 0, iv 3, .val .null, rv b3]) rfl k_) ?_
    refine og T3 (mkF m 42 #[rv a, rv ca, iv 0, iv 3, .val .null, rv b3] [(.ref a)]) (fun t_ k_ => XS.aloadN X3.here hx rfl (hb hby d_jdk_42_149_41) rfl rfl k_) ?_
    refine og T3 (mkF m 44 #[rv a, rv ca, iv 0, iv 3, .val .null, rv b3] [(.ref b3), (.ref a)]) (fun t_ k_ => XS.aload X3.here hx rfl (hb hby d_jdk_42_149_42) rfl rfl k_) ?_
    refine og T3 (mkF m 45 #[rv a, rv ca, iv 0, iv 3, .val .null, rv b3] [(.int 3), (.ref b3), (.ref a)]) (fun t_ k_ => XS.iloadN X3.here hx rfl (hb hby d_jdk_42_149_44) rfl k_) ?_
    obtain ⟨_, _, ⟨T4, L4, k4, n4⟩, -, X4, ⟨Lc4, hQ4, l4, y4, z4⟩, st4⟩ := Jvm.LawKit.callS X3 hx (y := ym_11) hown (mvT hZ (own_w hw 71 rfl)) (mvT hZ (own_w hw 72 rfl)) (mvT hZ (own_w hw 66 rfl)) (mvT hZ (own_w hw 73 rfl)) (by decide) (backOf (W := 1) (rm_cfa3_3 l Z a0 hw [] b3 c0.toInt8.toInt32 c1.toInt8.toInt32 c2.toInt8.toInt32 kb3 T3.heap n0 (show n0 ≤ T3.heap.size by omega) hV) hZ (own_w hw 73 rfl) (own_w hw 66 rfl) (by decide) (by decide)) (g := (mkF m 45 #[rv a, rv ca, iv 0, iv 3, .val .null, rv b3] [(.int 3), (.ref b3), (.ref a)])) rfl (by rw [hml]; rfl) (argsL := [(.ref b3), (.int 3)]) (rest := [(.ref a)]) (lenOf pd_7 rfl) rfl (by show 2 * 0 + _ ≤ _; exact Nat.le_of_eq rfl) (hb hby d_jdk_42_149_45) (fun _ _ => ⟨rfl, rfl, (by decide : 2 + 0 ≤ _), (by decide : 9 + 0 ≤ _)⟩)
    dsimp only [Pt.U, Pt.locs, Pt.cells, Pt.slots] at X4 l4 y4 z4 st4 hQ4
    subst l4 y4 z4
    obtain ⟨rfl, M4, e4⟩ := hQ4
    have N4 := Fr.app N3 M4
    refine og T4 (mkF m 48 #[rv a, rv ca, iv 0, iv 3, .val .null, rv b3] [(.int 0), (.ref a)]) (fun t_ k_ => st4 _ k_) ?_
    have ff6 := (F_coder_a.keep K3_ nin0)
    have ff7 := (E_a.keep K3_)
    obtain ⟨T5, h5, X5, e5, W5, st5⟩ := putFN X4 hx hZ hown (own_w hw 23 rfl) Via.refl e4 ff6 ff7 (Or.inr ⟨(own_w hw 9 rfl), rfl, hnm⟩) (own_w hw 6 rfl) (ty := .byte) (v' := .int (nar .byte (0 : Int32))) (by decide) rfl (fits_nar_byte _) (g := (mkF m 48 #[rv a, rv ca, iv 0, iv 3, .val .null, rv b3] [(.int 0), (.ref a)])) rfl rfl (hb hby d_jdk_42_149_48)
    have F5 := ff6.same W5
    have z5 := W5.size
    have N5 := Fr.snoc X5 N4 (show n0 ≤ a by omega)
    have O5 := O3.wr W5 (show n0 ≤ a by omega)
    have K5 := K3.wr W5 (Or.inl (List.mem_of_getElem? (i := 0) rfl))
    refine og T5 (mkF m 51 #[rv a, rv ca, iv 0, iv 3, .val .null, rv b3] []) (fun t_ k_ => st5 _ k_) ?_
    refine og T5 (mkF m 52 #[rv a, rv ca, iv 0, iv 3, .val .null, rv b3] [(.ref a)]) (fun t_ k_ => XS.aloadN X5.here hx rfl (hb hby d_jdk_42_149_51) rfl rfl k_) ?_
    refine og T5 (mkF m 54 #[rv a, rv ca, iv 0, iv 3, .val .null, rv b3] [(.ref b3), (.ref a)]) (fun t_ k_ => XS.aload X5.here hx rfl (hb hby d_jdk_42_149_52) rfl rfl k_) ?_
    have ff9 := ((F_value_a.keep K3_ nin0).other W5 (Or.inr (slot_ne (Or.inr (own_w hw 8 rfl)) (Or.inr (own_w hw 9 rfl)) (by decide) (t := (.array .byte)) (t' := .byte) (by decide) (by decide))))
    have ff10 := (ff7.wr W5)
    obtain ⟨T8, h8, X8, e8, W8, st8⟩ := putF X5 hx hZ hown (host := "") (Or.inl (own_w hw 24 rfl)) Via.refl e5 ff9 ff10 (Or.inr ⟨(own_w hw 8 rfl), rfl, hnm⟩) (own_w hw 6 rfl) (ty := (.array .byte)) (by decide) rfl rfl (g := (mkF m 54 #[rv a, rv ca, iv 0, iv 3, .val .null, rv b3] [(.ref b3), (.ref a)])) rfl rfl (hb hby d_jdk_42_149_54)
    have F8 := ff9.same W8
    have z8 := W8.size
    have N8 := Fr.snoc X8 N5 (show n0 ≤ a by omega)
    have O8 := O5.wr W8 (show n0 ≤ a by omega)
    have K8 := K5.wr W8 (Or.inl (List.mem_of_getElem? (i := 0) rfl))
    refine og T8 (mkF m 57 #[rv a, rv ca, iv 0, iv 3, .val .null, rv b3] []) (fun t_ k_ => st8 _ k_) ?_
    have ff11 := (ff10.wr W8)
    have ff12 := (F5.other W8 (Or.inr (slot_ne (Or.inr (own_w hw 9 rfl)) (Or.inr (own_w hw 8 rfl)) (by decide) (t := .byte) (t' := (.array .byte)) (by decide) (by decide))))
    have ff13 := ((hV.other W5 (own_ne (by omega))).other W8 (own_ne (by omega)))
    have hall : ∀ c ∈ [c0, c1, c2], ¬ c < (0 : Int32) ∧ ¬ (255 : Int32) < c := by
      intro c hc
      simp only [List.mem_cons, List.not_mem_nil, or_false] at hc
      rcases hc with rfl | rfl | rfl
      · exact ⟨hrc0.1, hle.1⟩
      · exact ⟨hrc1.1, hle.2.1⟩
      · exact ⟨hrc2.1, hle.2.2⟩
    exact own_out X8 (v := none) (fun _ => rfl) hlk (fun fs hr => X8.returnOut hx hret (hb hby d_jdk_42_149_57) hr) (Q := Q_rm_inb3 Z a ca c0 c1 c2 k_ca cz h0 n0) (by rw [e8]; exact ⟨rfl, N8, K8, ⟨ff11, by omega, b3, kb3, by omega, F8, Or.inl ⟨ff12, hall, ff13⟩⟩⟩) (by decide) (by decide)
  · skip
    refine og T3 (mkF m 41 #[rv a, rv ca, iv 0, iv 3, .val .null, rv b3] []) (fun t_ k_ => XS.astore X3.here hx rfl (hb hby d_jdk_42_149_39) rfl rfl (l' := #[rv a, rv ca, iv 0, iv 3, .val .null, rv b3]) rfl k_) ?_
    refine og T3 (mkF m 42 #[rv a, rv ca, iv 0, iv 3, .val .null, rv b3] [(.ref a)]) (fun t_ k_ => XS.aloadN X3.here hx rfl (hb hby d_jdk_42_149_41) rfl rfl k_) ?_
    refine og T3 (mkF m 44 #[rv a, rv ca, iv 0, iv 3, .val .null, rv b3] [(.ref b3), (.ref a)]) (fun t_ k_ => XS.aload X3.here hx rfl (hb hby d_jdk_42_149_42) rfl rfl k_) ?_
    refine og T3 (mkF m 45 #[rv a, rv ca, iv 0, iv 3, .val .null, rv b3] [(.int 3), (.ref b3), (.ref a)]) (fun t_ k_ => XS.iloadN X3.here hx rfl (hb hby d_jdk_42_149_44) rfl k_) ?_
    obtain ⟨_, _, ⟨T14, L14, k14, n14⟩, -, X14, ⟨Lc14, hQ14, l14, y14, z14⟩, st14⟩ := Jvm.LawKit.callS X3 hx (y := ym_11) hown (mvT hZ (own_w hw 71 rfl)) (mvT hZ (own_w hw 72 rfl)) (mvT hZ (own_w hw 66 rfl)) (mvT hZ (own_w hw 73 rfl)) (by decide) (backOf (W := 1) (rm_cfa3_6 l Z a0 hw [] b3 ((c0 >>> ((0 : Int32) &&& 31)).toInt8.toInt32) ((c0 >>> ((8 : Int32) &&& 31)).toInt8.toInt32) ((c1 >>> ((0 : Int32) &&& 31)).toInt8.toInt32) ((c1 >>> ((8 : Int32) &&& 31)).toInt8.toInt32) ((c2 >>> ((0 : Int32) &&& 31)).toInt8.toInt32) ((c2 >>> ((8 : Int32) &&& 31)).toInt8.toInt32) kb3 T3.heap n0 (show n0 ≤ T3.heap.size by omega) hV) hZ (own_w hw 73 rfl) (own_w hw 66 rfl) (by decide) (by decide)) (g := (mkF m 45 #[rv a, rv ca, iv 0, iv 3, .val .null, rv b3] [(.int 3), (.ref b3), (.ref a)])) rfl (by rw [hml]; rfl) (argsL := [(.ref b3), (.int 3)]) (rest := [(.ref a)]) (lenOf pd_7 rfl) rfl (by show 2 * 0 + _ ≤ _; exact Nat.le_of_eq rfl) (hb hby d_jdk_42_149_45) (fun _ _ => ⟨rfl, rfl, (by decide : 2 + 0 ≤ _), (by decide : 9 + 0 ≤ _)⟩)
    dsimp only [Pt.U, Pt.locs, Pt.cells, Pt.slots] at X14 l14 y14 z14 st14 hQ14
    subst l14 y14 z14
    obtain ⟨rfl, M14, e14⟩ := hQ14
    have N14 := Fr.app N3 M14
    refine og T14 (mkF m 48 #[rv a, rv ca, iv 0, iv 3, .val .null, rv b3] [(.int 1), (.ref a)]) (fun t_ k_ => st14 _ k_) ?_
    have ff16 := (F_coder_a.keep K3_ nin0)
    have ff17 := (E_a.keep K3_)
    obtain ⟨T15, h15, X15, e15, W15, st15⟩ := putFN X14 hx hZ hown (own_w hw 23 rfl) Via.refl e14 ff16 ff17 (Or.inr ⟨(own_w hw 9 rfl), rfl, hnm⟩) (own_w hw 6 rfl) (ty := .byte) (v' := .int (nar .byte (1 : Int32))) (by decide) rfl (fits_nar_byte _) (g := (mkF m 48 #[rv a, rv ca, iv 0, iv 3, .val .null, rv b3] [(.int 1), (.ref a)])) rfl rfl (hb hby d_jdk_42_149_48)
    have F15 := ff16.same W15
    have z15 := W15.size
    have N15 := Fr.snoc X15 N14 (show n0 ≤ a by omega)
    have O15 := O3.wr W15 (show n0 ≤ a by omega)
    have K15 := K3.wr W15 (Or.inl (List.mem_of_getElem? (i := 0) rfl))
    refine og T15 (mkF m 51 #[rv a, rv ca, iv 0, iv 3, .val .null, rv b3] []) (fun t_ k_ => st15 _ k_) ?_
    refine og T15 (mkF m 52 #[rv a, rv ca, iv 0, iv 3, .val .null, rv b3] [(.ref a)]) (fun t_ k_ => XS.aloadN X15.here hx rfl (hb hby d_jdk_42_149_51) rfl rfl k_) ?_
    refine og T15 (mkF m 54 #[rv a, rv ca, iv 0, iv 3, .val .null, rv b3] [(.ref b3), (.ref a)]) (fun t_ k_ => XS.aload X15.here hx rfl (hb hby d_jdk_42_149_52) rfl rfl k_) ?_
    have ff19 := ((F_value_a.keep K3_ nin0).other W15 (Or.inr (slot_ne (Or.inr (own_w hw 8 rfl)) (Or.inr (own_w hw 9 rfl)) (by decide) (t := (.array .byte)) (t' := .byte) (by decide) (by decide))))
    have ff20 := (ff17.wr W15)
    obtain ⟨T18, h18, X18, e18, W18, st18⟩ := putF X15 hx hZ hown (host := "") (Or.inl (own_w hw 24 rfl)) Via.refl e15 ff19 ff20 (Or.inr ⟨(own_w hw 8 rfl), rfl, hnm⟩) (own_w hw 6 rfl) (ty := (.array .byte)) (by decide) rfl rfl (g := (mkF m 54 #[rv a, rv ca, iv 0, iv 3, .val .null, rv b3] [(.ref b3), (.ref a)])) rfl rfl (hb hby d_jdk_42_149_54)
    have F18 := ff19.same W18
    have z18 := W18.size
    have N18 := Fr.snoc X18 N15 (show n0 ≤ a by omega)
    have O18 := O15.wr W18 (show n0 ≤ a by omega)
    have K18 := K15.wr W18 (Or.inl (List.mem_of_getElem? (i := 0) rfl))
    refine og T18 (mkF m 57 #[rv a, rv ca, iv 0, iv 3, .val .null, rv b3] []) (fun t_ k_ => st18 _ k_) ?_
    have ff21 := (ff20.wr W18)
    have ff22 := (F15.other W18 (Or.inr (slot_ne (Or.inr (own_w hw 9 rfl)) (Or.inr (own_w hw 8 rfl)) (by decide) (t := .byte) (t' := (.array .byte)) (by decide) (by decide))))
    have ff23 := ((hV.other W15 (own_ne (by omega))).other W18 (own_ne (by omega)))
    exact own_out X18 (v := none) (fun _ => rfl) hlk (fun fs hr => X18.returnOut hx hret (hb hby d_jdk_42_149_57) hr) (Q := Q_rm_inb3 Z a ca c0 c1 c2 k_ca cz h0 n0) (by rw [e18]; exact ⟨rfl, N18, K18, ⟨ff21, by omega, b3, kb3, by omega, F18, Or.inr ⟨ff22, ff23⟩⟩⟩) (by decide) (by decide)
def Q_rm_ina3 (Z : State) (a : Nat) (ca : Nat) (c0 : Int32) (c1 : Int32) (c2 : Int32) (k_ca : ClassId) (cz : Int32) (h0 : Heap) (n0 : Nat) (vv : Option Value) (h : Heap) (LL : List Loc) : Prop := vv = none ∧ Fr n0 LL ∧ Keep h0 h [a] ∧ own_Sw Z h h.size a [c0, c1, c2]
set_option maxRecDepth 65536 in
set_option maxHeartbeats 40000000 in
theorem rm_ina3 (l : Launch) (Z : State) (a0 : Array Value) (hw : ∀ d ∈ tables_1, d.before a0 Z = true) (ws : List Jvm.Cond) (a : Nat) (ca : Nat) (c0 : Int32) (c1 : Int32) (c2 : Int32) (k_ca : ClassId) (cz : Int32) (h0 : Heap) (n0 : Nat) (Z0 : n0 ≤ h0.size) (hrc0 : ¬ (c0 < (0 : Int32)) ∧ ¬ ((65535 : Int32) < c0)) (hrc1 : ¬ (c1 < (0 : Int32)) ∧ ¬ ((65535 : Int32) < c1)) (hrc2 : ¬ (c2 < (0 : Int32)) ∧ ¬ ((65535 : Int32) < c2)) (V_ca : Arv Z h0 ca k_ca .char (3 : Int32) [(.int c0), (.int c1), (.int c2)] (.int (0 : Int32))) (O0 : Old Z n0 h0) (S__assertionsDisabled : Sta Z Z.heap "java/lang/StringUTF16" "$assertionsDisabled" "Z" (.int 1)) (S_HI_BYTE_SHIFT : Sta Z Z.heap "java/lang/StringUTF16" "HI_BYTE_SHIFT" "I" (.int 0)) (S_LO_BYTE_SHIFT : Sta Z Z.heap "java/lang/StringUTF16" "LO_BYTE_SHIFT" "I" (.int 8)) (S_COMPACT_STRINGS : Sta Z Z.heap "java/lang/String" "COMPACT_STRINGS" "Z" (.int cz)) (hcz : ¬ cz = (0 : Int32)) (E_a : Exa Z h0 a "java/lang/String") (F_value_a : Fld Z h0 a "java/lang/String" "value" "[B" .null) (F_coder_a : Fld Z h0 a "java/lang/String" "coder" "B" (.int 0)) (g_a : n0 ≤ a) (hne : ca ≠ a) :
    own_MF l ym_13 jdk_42_method_3_code 2 none ⟨5, 2, 9, 74⟩ ws Z #[(.ref a), (.ref ca)] h0 (Q_rm_ina3 Z a ca c0 c1 c2 k_ca cz h0 n0) := by
  refine own_begin (plainFor_of_name pn_1) (fun m => ef_14 m a ca) ?_
  intro p e s m below meth c s₁ hret hx hby hml hown hnm hlk X0 e0 hh hZ
  have N0 := Fr.nil n0
  have lt_V_ca := own_ltN V_ca.lt
  have lt_E_a := own_ltN E_a.lt
  have lt_F_value_a := own_ltN F_value_a.lt
  have lt_F_coder_a := own_ltN F_coder_a.lt
  refine og s₁ (mkF m 1 #[rv a, rv ca] [(.ref a)]) (fun t_ k_ => XS.aloadN X0.here hx rfl (hb hby d_jdk_42_3_0) rfl rfl k_) ?_
  refine og s₁ (mkF m 2 #[rv a, rv ca] [(.ref ca), (.ref a)]) (fun t_ k_ => XS.aloadN X0.here hx rfl (hb hby d_jdk_42_3_1) rfl rfl k_) ?_
  refine og s₁ (mkF m 3 #[rv a, rv ca] [(.int 0), (.ref ca), (.ref a)]) (fun t_ k_ => XS.iconst X0.here hx rfl (hb hby d_jdk_42_3_2) k_) ?_
  refine og s₁ (mkF m 4 #[rv a, rv ca] [(.ref ca), (.int 0), (.ref ca), (.ref a)]) (fun t_ k_ => XS.aloadN X0.here hx rfl (hb hby d_jdk_42_3_3) rfl rfl k_) ?_
  obtain ⟨cl1, Ar1, -, S1, Nn1, -, -⟩ := id V_ca
  refine og s₁ (mkF m 5 #[rv a, rv ca] [(.int 3), (.int 0), (.ref ca), (.ref a)]) (fun t_ k_ => X0.arraylength hx (by rw [e0]; exact Ar1.1) (State.isArrayOf_alike hZ.alike Ar1.2.1) (g := (mkF m 4 #[rv a, rv ca] [(.ref ca), (.int 0), (.ref ca), (.ref a)])) rfl rfl (hb hby d_jdk_42_3_4) _ (by rw [len_of S1 Nn1]; exact k_)) ?_
  refine og s₁ (mkF m 6 #[rv a, rv ca] [.null, (.int 3), (.int 0), (.ref ca), (.ref a)]) (fun t_ k_ => XS.aconstNull X0.here hx rfl (hb hby d_jdk_42_3_5) k_) ?_
  obtain ⟨_, _, ⟨T2, L2, k2, n2⟩, -, X2, ⟨Lc2, hQ2, l2, y2, z2⟩, st2⟩ := X0.specialBack hx (y := ym_12) rfl hown (mvT hZ (own_w hw 42 rfl)) (mvT hZ (own_w hw 43 rfl)) (mvT hZ (own_w hw 45 rfl)) (by decide) (backOf (W := 0) (rm_inb3 l Z a0 hw [] a ca c0 c1 c2 k_ca cz h0 n0 (show n0 ≤ h0.size by omega) hrc0 hrc1 hrc2 V_ca O0 S__assertionsDisabled S_HI_BYTE_SHIFT S_LO_BYTE_SHIFT S_COMPACT_STRINGS hcz E_a F_value_a F_coder_a (show n0 ≤ a by omega) hne) hZ (own_w hw 45 rfl) (own_w hw 5 rfl) (by decide) (by decide)) (g := (mkF m 6 #[rv a, rv ca] [.null, (.int 3), (.int 0), (.ref ca), (.ref a)])) rfl (by rw [hml]; rfl) (Steps.refl _) (a := a) (argsL := [(.ref ca), (.int 0), (.int 3), .null]) (rest := []) (lenOf pd_8 rfl) rfl (by show 2 * 0 + _ ≤ _; exact Nat.le_of_eq rfl) (hb hby d_jdk_42_3_6) (fun _ _ => ⟨rfl, e0, (by decide : 0 + 2 ≤ _), (by decide : 0 + 9 ≤ _)⟩)
  dsimp only [Pt.U, Pt.locs, Pt.cells, Pt.slots] at X2 l2 y2 z2 st2 hQ2
  subst l2 y2 z2
  obtain ⟨rfl, M2, K2_, f2_0⟩ := hQ2
  have zz2 := K2_.1
  have O2 := O0.keep K2_ (allS (show n0 ≤ a by omega) all0)
  have K2 := (Keep.refl h0 [a]).trans K2_ (allS (Or.inl (List.mem_of_getElem? (i := 0) rfl)) all0)
  have N2 := Fr.app N0 M2
  have ltsf2_0 := own_ltN f2_0.lt
  refine og T2 (mkF m 9 #[rv a, rv ca] []) (fun t_ k_ => st2.trans k_) ?_
  exact own_out X2 (v := none) (fun _ => rfl) hlk (fun fs hr => X2.returnOut hx hret (hb hby d_jdk_42_3_9) hr) (Q := Q_rm_ina3 Z a ca c0 c1 c2 k_ca cz h0 n0) (by exact ⟨rfl, N2, K2, (f2_0.mono (by omega))⟩) (by decide) (by decide)
theorem d_jdk_42_54_0 : decode jdk_42_method_54_code 0 = .ok (.aload_n 0, 1) := by decide +kernel
theorem d_jdk_42_54_1 : decode jdk_42_method_54_code 1 = .ok (.getfield 9, 3) := by decide +kernel
theorem d_jdk_42_54_4 : decode jdk_42_method_54_code 4 = .ok (.arraylength, 1) := by decide +kernel
theorem d_jdk_42_54_5 : decode jdk_42_method_54_code 5 = .ok (.aload_n 0, 1) := by decide +kernel
theorem d_jdk_42_54_6 : decode jdk_42_method_54_code 6 = .ok (.invokevirtual 335, 3) := by decide +kernel
theorem pd_9 : parseMethodDescriptor "()B" = some ⟨[], some .byte⟩ := by decide +kernel
theorem d_jdk_42_54_9 : decode jdk_42_method_54_code 9 = .ok (.ishr, 1) := by decide +kernel
theorem d_jdk_42_54_10 : decode jdk_42_method_54_code 10 = .ok (.ireturn, 1) := by decide +kernel
theorem ef_33 (m : MethodId) (a : Nat) : entryFrame m #[(.ref a)] 1 = mkF m 0 #[rv a] [] := by first | (simp [entryFrame, mkF, argsToLocals, Value.category]; done) | rfl
def Q_rm_len0 (Z : State) (a : Nat) (n_a : Nat) (cz : Int32) (h0 : Heap) (n0 : Nat) (vv : Option Value) (h : Heap) (LL : List Loc) : Prop := vv = some (.int 0) ∧ Fr n0 LL ∧ h = h0
set_option maxRecDepth 65536 in
set_option maxHeartbeats 40000000 in
abbrev ym_14 : MethodName := ⟨"java/lang/String", "length", "()I"⟩
theorem rm_len0 (l : Launch) (Z : State) (a0 : Array Value) (hw : ∀ d ∈ tables_1, d.before a0 Z = true) (ws : List Jvm.Cond) (a : Nat) (n_a : Nat) (cz : Int32) (h0 : Heap) (n0 : Nat) (Z0 : n0 ≤ h0.size) (S_a : own_Sw Z h0 n_a a []) (O0 : Old Z n0 h0) (S_COMPACT_STRINGS : Sta Z Z.heap "java/lang/String" "COMPACT_STRINGS" "Z" (.int cz)) (hcz : ¬ cz = (0 : Int32)) :
    own_MF l ym_14 jdk_42_method_54_code 1 (some .int) ⟨1, 0, 0, 13⟩ ws Z #[(.ref a)] h0 (Q_rm_len0 Z a n_a cz h0 n0) := by
  refine own_begin (plainFor_of_name pn_1) (fun m => ef_33 m a) ?_
  intro p e s m below meth c s₁ hret hx hby hml hown hnm hlk X0 e0 hh hZ
  have N0 := Fr.nil n0
  have lt_S_a := own_ltN S_a.lt
  obtain ⟨sE, sa, tt0, kk0, stt, sV, sCA⟩ := id S_a
  rcases sCA with ⟨sC, sP, sA⟩ | ⟨sC, sA⟩
  · skip
    have sA' : Arv Z h0 tt0 kk0 .byte (0 : Int32) [] (.int (0 : Int32)) := sA
    refine og s₁ (mkF m 1 #[rv a] [(.ref a)]) (fun t_ k_ => XS.aloadN X0.here hx rfl (hb hby d_jdk_42_54_0) rfl rfl k_) ?_
    obtain ⟨T1, X1, e1, st1⟩ := getF X0 hx hZ hown (host := "") (Or.inl (own_w hw 24 rfl)) Via.refl e0 sV (g := (mkF m 1 #[rv a] [(.ref a)])) rfl rfl (hb hby d_jdk_42_54_1)
    refine og T1 (mkF m 4 #[rv a] [(.ref tt0)]) (fun t_ k_ => st1 _ k_) ?_
    obtain ⟨cl2, Ar2, -, S2, Nn2, -, -⟩ := id sA'
    refine og T1 (mkF m 5 #[rv a] [(.int 0)]) (fun t_ k_ => X1.arraylength hx (by rw [e1]; exact Ar2.1) (State.isArrayOf_alike hZ.alike Ar2.2.1) (g := (mkF m 4 #[rv a] [(.ref tt0)])) rfl rfl (hb hby d_jdk_42_54_4) _ (by rw [len_of S2 Nn2]; exact k_)) ?_
    refine og T1 (mkF m 6 #[rv a] [(.ref a), (.int 0)]) (fun t_ k_ => XS.aloadN X1.here hx rfl (hb hby d_jdk_42_54_5) rfl rfl k_) ?_
    obtain ⟨cq3, kq3, q3a, q3b, q3c⟩ := isOf hZ e1 sE
    obtain ⟨_, _, ⟨T3, L3, k3, n3⟩, -, X3, ⟨Lc3, hQ3, l3, y3, z3⟩, st3⟩ := X1.virtualBack hx (y := ym_3) (z := ym_3) hown (mvT hZ (own_w hw 59 rfl)) (mvT hZ (own_w hw 60 rfl)) (notFace_of_selects (args := #[]) (mvT hZ (own_w hw 62 rfl))) (mvT hZ (own_w hw 62 rfl)) (mvT hZ (own_w hw 61 rfl)) (by decide) (backOf (W := 1) (rm_cod0 l Z a0 hw [] a cz h0 n0 (show n0 ≤ h0.size by omega) sC O0 S_COMPACT_STRINGS hcz) hZ (own_w hw 63 rfl) (own_w hw 5 rfl) (by decide) (by decide)) q3a q3c (g := (mkF m 6 #[rv a] [(.ref a), (.int 0)])) rfl (by rw [hml]; rfl) (Steps.refl _) (argsL := []) (rest := [(.int 0)]) (lenOf pd_9 rfl) rfl (by show 2 * 0 + _ ≤ _; exact Nat.le_of_eq rfl) (hb hby d_jdk_42_54_6) (fun _ _ => ⟨rfl, e1, (by decide : 0 + 0 ≤ _), (by decide : 0 + 0 ≤ _)⟩)
    dsimp only [Pt.U, Pt.locs, Pt.cells, Pt.slots] at X3 l3 y3 z3 st3 hQ3
    subst l3 y3 z3
    obtain ⟨rfl, M3, e3⟩ := hQ3
    have N3 := Fr.app N0 M3
    refine og T3 (mkF m 9 #[rv a] [(.int 0), (.int 0)]) (fun t_ k_ => st3.trans k_) ?_
    refine og T3 (mkF m 10 #[rv a] [(.int 0)]) (fun t_ k_ => XS.ishr X3.here hx rfl (hb hby d_jdk_42_54_9) rfl k_) ?_
    exact own_out X3 (v := some (.int 0)) (fun h => by rw [hret] at h; cases h) hlk (fun fs hr => retI X3 hx hret (hb hby d_jdk_42_54_10) hr) (Q := Q_rm_len0 Z a n_a cz h0 n0) (by rw [e3]; exact ⟨rfl, N3, rfl⟩) (by decide) (by decide)
  · skip
    have sA' : Arv Z h0 tt0 kk0 .byte (0 : Int32) [] (.int (0 : Int32)) := sA
    refine og s₁ (mkF m 1 #[rv a] [(.ref a)]) (fun t_ k_ => XS.aloadN X0.here hx rfl (hb hby d_jdk_42_54_0) rfl rfl k_) ?_
    obtain ⟨T4, X4, e4, st4⟩ := getF X0 hx hZ hown (host := "") (Or.inl (own_w hw 24 rfl)) Via.refl e0 sV (g := (mkF m 1 #[rv a] [(.ref a)])) rfl rfl (hb hby d_jdk_42_54_1)
    refine og T4 (mkF m 4 #[rv a] [(.ref tt0)]) (fun t_ k_ => st4 _ k_) ?_
    obtain ⟨cl5, Ar5, -, S5, Nn5, -, -⟩ := id sA'
    refine og T4 (mkF m 5 #[rv a] [(.int 0)]) (fun t_ k_ => X4.arraylength hx (by rw [e4]; exact Ar5.1) (State.isArrayOf_alike hZ.alike Ar5.2.1) (g := (mkF m 4 #[rv a] [(.ref tt0)])) rfl rfl (hb hby d_jdk_42_54_4) _ (by rw [len_of S5 Nn5]; exact k_)) ?_
    refine og T4 (mkF m 6 #[rv a] [(.ref a), (.int 0)]) (fun t_ k_ => XS.aloadN X4.here hx rfl (hb hby d_jdk_42_54_5) rfl rfl k_) ?_
    obtain ⟨cq6, kq6, q6a, q6b, q6c⟩ := isOf hZ e4 sE
    obtain ⟨_, _, ⟨T6, L6, k6, n6⟩, -, X6, ⟨Lc6, hQ6, l6, y6, z6⟩, st6⟩ := X4.virtualBack hx (y := ym_3) (z := ym_3) hown (mvT hZ (own_w hw 59 rfl)) (mvT hZ (own_w hw 60 rfl)) (notFace_of_selects (args := #[]) (mvT hZ (own_w hw 62 rfl))) (mvT hZ (own_w hw 62 rfl)) (mvT hZ (own_w hw 61 rfl)) (by decide) (backOf (W := 1) (rm_cod1 l Z a0 hw [] a cz h0 n0 (show n0 ≤ h0.size by omega) sC O0 S_COMPACT_STRINGS hcz) hZ (own_w hw 63 rfl) (own_w hw 5 rfl) (by decide) (by decide)) q6a q6c (g := (mkF m 6 #[rv a] [(.ref a), (.int 0)])) rfl (by rw [hml]; rfl) (Steps.refl _) (argsL := []) (rest := [(.int 0)]) (lenOf pd_9 rfl) rfl (by show 2 * 0 + _ ≤ _; exact Nat.le_of_eq rfl) (hb hby d_jdk_42_54_6) (fun _ _ => ⟨rfl, e4, (by decide : 0 + 0 ≤ _), (by decide : 0 + 0 ≤ _)⟩)
    dsimp only [Pt.U, Pt.locs, Pt.cells, Pt.slots] at X6 l6 y6 z6 st6 hQ6
    subst l6 y6 z6
    obtain ⟨rfl, M6, e6⟩ := hQ6
    have N6 := Fr.app N0 M6
    refine og T6 (mkF m 9 #[rv a] [(.int 1), (.int 0)]) (fun t_ k_ => st6.trans k_) ?_
    refine og T6 (mkF m 10 #[rv a] [(.int 0)]) (fun t_ k_ => XS.ishr X6.here hx rfl (hb hby d_jdk_42_54_9) rfl k_) ?_
    exact own_out X6 (v := some (.int 0)) (fun h => by rw [hret] at h; cases h) hlk (fun fs hr => retI X6 hx hret (hb hby d_jdk_42_54_10) hr) (Q := Q_rm_len0 Z a n_a cz h0 n0) (by rw [e6]; exact ⟨rfl, N6, rfl⟩) (by decide) (by decide)
theorem d_prog_80_13_0 : decode prog_80_method_13_code 0 = .ok (.iconst 0, 1) := by decide +kernel
theorem d_prog_80_13_1 : decode prog_80_method_13_code 1 = .ok (.istore_n 1, 1) := by decide +kernel
theorem d_prog_80_13_2 : decode prog_80_method_13_code 2 = .ok (.iload_n 1, 1) := by decide +kernel
theorem d_prog_80_13_3 : decode prog_80_method_13_code 3 = .ok (.aload_n 0, 1) := by decide +kernel
theorem d_prog_80_13_4 : decode prog_80_method_13_code 4 = .ok (.invokevirtual 265, 3) := by decide +kernel
theorem pd_10 : parseMethodDescriptor "()I" = some ⟨[], some .int⟩ := by decide +kernel
theorem d_prog_80_13_7 : decode prog_80_method_13_code 7 = .ok (.if_icmp .ge 41, 3) := by decide +kernel
theorem d_prog_80_13_48 : decode prog_80_method_13_code 48 = .ok (.iconst 1, 1) := by decide +kernel
theorem d_prog_80_13_49 : decode prog_80_method_13_code 49 = .ok (.ireturn, 1) := by decide +kernel
theorem pn_3 : plainName "com/example/labmeld/labmeld/xsd/XsdSchema" = true := by first | (simp [plainName, overriddenIn]; done) | decide +kernel
theorem ef_34 (m : MethodId) (a : Nat) : entryFrame m #[(.ref a)] 3 = mkF m 0 #[rv a, .unset, .unset] [] := by first | (simp [entryFrame, mkF, argsToLocals, Value.category]; done) | rfl
def Q_rm_isw0 (Z : State) (a : Nat) (n_a : Nat) (cz : Int32) (fm : Value) (h0 : Heap) (n0 : Nat) (vv : Option Value) (h : Heap) (LL : List Loc) : Prop := vv = some (.int 1) ∧ Fr n0 LL ∧ h = h0
set_option maxRecDepth 65536 in
set_option maxHeartbeats 40000000 in
abbrev ym_15 : MethodName := ⟨"com/example/labmeld/labmeld/xsd/XsdSchema", "isWhiteSpace", "(Ljava/lang/String;)Z"⟩
theorem rm_isw0 (l : Launch) (Z : State) (a0 : Array Value) (hw : ∀ d ∈ tables_1, d.before a0 Z = true) (ws : List Jvm.Cond) (a : Nat) (n_a : Nat) (cz : Int32) (fm : Value) (h0 : Heap) (n0 : Nat) (Z0 : n0 ≤ h0.size) (S_a : own_Sw Z h0 n_a a []) (O0 : Old Z n0 h0) (S_COMPACT_STRINGS : Sta Z Z.heap "java/lang/String" "COMPACT_STRINGS" "Z" (.int cz)) (hcz : ¬ cz = (0 : Int32)) (S__assertionsDisabled : Sta Z Z.heap "java/lang/StringUTF16" "$assertionsDisabled" "Z" (.int 1)) (S_HI_BYTE_SHIFT : Sta Z Z.heap "java/lang/StringUTF16" "HI_BYTE_SHIFT" "I" (.int 0)) (S_LO_BYTE_SHIFT : Sta Z Z.heap "java/lang/StringUTF16" "LO_BYTE_SHIFT" "I" (.int 8)) (rf : fm.isRef = true) (S_SIOOBE_FORMATTER : Sta Z Z.heap "jdk/internal/util/Preconditions" "SIOOBE_FORMATTER" "Ljava/util/function/BiFunction;" fm) :
    own_MF l ym_15 prog_80_method_13_code 3 (some .boolean) ⟨2, 0, 0, 26⟩ ws Z #[(.ref a)] h0 (Q_rm_isw0 Z a n_a cz fm h0 n0) := by
  refine own_begin (plainFor_of_name pn_3) (fun m => ef_34 m a) ?_
  intro p e s m below meth c s₁ hret hx hby hml hown hnm hlk X0 e0 hh hZ
  have N0 := Fr.nil n0
  have lt_S_a := own_ltN S_a.lt
  refine og s₁ (mkF m 1 #[rv a, .unset, .unset] [(.int 0)]) (fun t_ k_ => XS.iconst X0.here hx rfl (hb hby d_prog_80_13_0) k_) ?_
  refine og s₁ (mkF m 2 #[rv a, iv 0, .unset] []) (fun t_ k_ => XS.istoreN X0.here hx rfl (hb hby d_prog_80_13_1) rfl (l' := #[rv a, iv 0, .unset]) rfl k_) ?_
  refine og s₁ (mkF m 3 #[rv a, iv 0, .unset] [(.int 0)]) (fun t_ k_ => XS.iloadN X0.here hx rfl (hb hby d_prog_80_13_2) rfl k_) ?_
  refine og s₁ (mkF m 4 #[rv a, iv 0, .unset] [(.ref a), (.int 0)]) (fun t_ k_ => XS.aloadN X0.here hx rfl (hb hby d_prog_80_13_3) rfl rfl k_) ?_
  obtain ⟨cq1, kq1, q1a, q1b, q1c⟩ := isOf hZ e0 S_a.1
  obtain ⟨_, _, ⟨T1, L1, k1, n1⟩, -, X1, ⟨Lc1, hQ1, l1, y1, z1⟩, st1⟩ := X0.virtualBack hx (y := ym_14) (z := ym_14) hown (mvT hZ (own_w hw 54 rfl)) (mvT hZ (own_w hw 55 rfl)) (notFace_of_selects (args := #[]) (mvT hZ (own_w hw 57 rfl))) (mvT hZ (own_w hw 57 rfl)) (mvT hZ (own_w hw 56 rfl)) (by decide) (backOf (W := 1) (rm_len0 l Z a0 hw [] a n_a cz h0 n0 (show n0 ≤ h0.size by omega) S_a O0 S_COMPACT_STRINGS hcz) hZ (own_w hw 58 rfl) (own_w hw 5 rfl) (by decide) (by decide)) q1a q1c (g := (mkF m 4 #[rv a, iv 0, .unset] [(.ref a), (.int 0)])) rfl (by rw [hml]; rfl) (Steps.refl _) (argsL := []) (rest := [(.int 0)]) (lenOf pd_10 rfl) rfl (by show 2 * 0 + _ ≤ _; exact Nat.le_of_eq rfl) (hb hby d_prog_80_13_4) (fun _ _ => ⟨rfl, e0, (by decide : 0 + 0 ≤ _), (by decide : 0 + 0 ≤ _)⟩)
  dsimp only [Pt.U, Pt.locs, Pt.cells, Pt.slots] at X1 l1 y1 z1 st1 hQ1
  subst l1 y1 z1
  obtain ⟨rfl, M1, e1⟩ := hQ1
  have N1 := Fr.app N0 M1
  refine og T1 (mkF m 7 #[rv a, iv 0, .unset] [(.int 0), (.int 0)]) (fun t_ k_ => st1.trans k_) ?_
  refine og T1 (mkF m 48 #[rv a, iv 0, .unset] []) (fun t_ k_ => XS.icmpYes X1.here hx rfl (pc0 := 7) (pc' := 48) rfl (hb hby d_prog_80_13_7) rfl (flt (by decide)).2.1 (by decide) (by decide) k_) ?_
  refine og T1 (mkF m 49 #[rv a, iv 0, .unset] [(.int 1)]) (fun t_ k_ => XS.iconst X1.here hx rfl (hb hby d_prog_80_13_48) k_) ?_
  exact own_out X1 (v := some (.int (nar .boolean (1 : Int32)))) (fun h => by rw [hret] at h; cases h) hlk (fun fs hr => retN X1 hx (t := .boolean) hret (by simp) (hb hby d_prog_80_13_49) hr) (Q := Q_rm_isw0 Z a n_a cz fm h0 n0) (by rw [e1]; exact ⟨rfl, N1, rfl⟩) (by decide) (by decide)
def Q_rm_len1 (Z : State) (a : Nat) (n_a : Nat) (c0 : Int32) (cz : Int32) (h0 : Heap) (n0 : Nat) (vv : Option Value) (h : Heap) (LL : List Loc) : Prop := vv = some (.int 1) ∧ Fr n0 LL ∧ h = h0
set_option maxRecDepth 65536 in
set_option maxHeartbeats 40000000 in
theorem rm_len1 (l : Launch) (Z : State) (a0 : Array Value) (hw : ∀ d ∈ tables_1, d.before a0 Z = true) (ws : List Jvm.Cond) (a : Nat) (n_a : Nat) (c0 : Int32) (cz : Int32) (h0 : Heap) (n0 : Nat) (Z0 : n0 ≤ h0.size) (S_a : own_Sw Z h0 n_a a [c0]) (hrc0 : ¬ (c0 < (0 : Int32)) ∧ ¬ ((65535 : Int32) < c0)) (O0 : Old Z n0 h0) (S_COMPACT_STRINGS : Sta Z Z.heap "java/lang/String" "COMPACT_STRINGS" "Z" (.int cz)) (hcz : ¬ cz = (0 : Int32)) :
    own_MF l ym_14 jdk_42_method_54_code 1 (some .int) ⟨1, 0, 0, 13⟩ ws Z #[(.ref a)] h0 (Q_rm_len1 Z a n_a c0 cz h0 n0) := by
  refine own_begin (plainFor_of_name pn_1) (fun m => ef_33 m a) ?_
  intro p e s m below meth c s₁ hret hx hby hml hown hnm hlk X0 e0 hh hZ
  have N0 := Fr.nil n0
  have lt_S_a := own_ltN S_a.lt
  obtain ⟨sE, sa, tt0, kk0, stt, sV, sCA⟩ := id S_a
  rcases sCA with ⟨sC, sP, sA⟩ | ⟨sC, sA⟩
  · skip
    have sA' : Arv Z h0 tt0 kk0 .byte (1 : Int32) [(.int c0.toInt8.toInt32)] (.int (0 : Int32)) := sA
    refine og s₁ (mkF m 1 #[rv a] [(.ref a)]) (fun t_ k_ => XS.aloadN X0.here hx rfl (hb hby d_jdk_42_54_0) rfl rfl k_) ?_
    obtain ⟨T1, X1, e1, st1⟩ := getF X0 hx hZ hown (host := "") (Or.inl (own_w hw 24 rfl)) Via.refl e0 sV (g := (mkF m 1 #[rv a] [(.ref a)])) rfl rfl (hb hby d_jdk_42_54_1)
    refine og T1 (mkF m 4 #[rv a] [(.ref tt0)]) (fun t_ k_ => st1 _ k_) ?_
    obtain ⟨cl2, Ar2, -, S2, Nn2, -, -⟩ := id sA'
    refine og T1 (mkF m 5 #[rv a] [(.int 1)]) (fun t_ k_ => X1.arraylength hx (by rw [e1]; exact Ar2.1) (State.isArrayOf_alike hZ.alike Ar2.2.1) (g := (mkF m 4 #[rv a] [(.ref tt0)])) rfl rfl (hb hby d_jdk_42_54_4) _ (by rw [len_of S2 Nn2]; exact k_)) ?_
    refine og T1 (mkF m 6 #[rv a] [(.ref a), (.int 1)]) (fun t_ k_ => XS.aloadN X1.here hx rfl (hb hby d_jdk_42_54_5) rfl rfl k_) ?_
    obtain ⟨cq3, kq3, q3a, q3b, q3c⟩ := isOf hZ e1 sE
    obtain ⟨_, _, ⟨T3, L3, k3, n3⟩, -, X3, ⟨Lc3, hQ3, l3, y3, z3⟩, st3⟩ := X1.virtualBack hx (y := ym_3) (z := ym_3) hown (mvT hZ (own_w hw 59 rfl)) (mvT hZ (own_w hw 60 rfl)) (notFace_of_selects (args := #[]) (mvT hZ (own_w hw 62 rfl))) (mvT hZ (own_w hw 62 rfl)) (mvT hZ (own_w hw 61 rfl)) (by decide) (backOf (W := 1) (rm_cod0 l Z a0 hw [] a cz h0 n0 (show n0 ≤ h0.size by omega) sC O0 S_COMPACT_STRINGS hcz) hZ (own_w hw 63 rfl) (own_w hw 5 rfl) (by decide) (by decide)) q3a q3c (g := (mkF m 6 #[rv a] [(.ref a), (.int 1)])) rfl (by rw [hml]; rfl) (Steps.refl _) (argsL := []) (rest := [(.int 1)]) (lenOf pd_9 rfl) rfl (by show 2 * 0 + _ ≤ _; exact Nat.le_of_eq rfl) (hb hby d_jdk_42_54_6) (fun _ _ => ⟨rfl, e1, (by decide : 0 + 0 ≤ _), (by decide : 0 + 0 ≤ _)⟩)
    dsimp only [Pt.U, Pt.locs, Pt.cells, Pt.slots] at X3 l3 y3 z3 st3 hQ3
    subst l3 y3 z3
    obtain ⟨rfl, M3, e3⟩ := hQ3
    have N3 := Fr.app N0 M3
    refine og T3 (mkF m 9 #[rv a] [(.int 0), (.int 1)]) (fun t_ k_ => st3.trans k_) ?_
    refine og T3 (mkF m 10 #[rv a] [(.int 1)]) (fun t_ k_ => XS.ishr X3.here hx rfl (hb hby d_jdk_42_54_9) rfl k_) ?_
    exact own_out X3 (v := some (.int 1)) (fun h => by rw [hret] at h; cases h) hlk (fun fs hr => retI X3 hx hret (hb hby d_jdk_42_54_10) hr) (Q := Q_rm_len1 Z a n_a c0 cz h0 n0) (by rw [e3]; exact ⟨rfl, N3, rfl⟩) (by decide) (by decide)
  · skip
    have sA' : Arv Z h0 tt0 kk0 .byte (2 : Int32) [(.int ((c0 >>> ((0 : Int32) &&& 31)).toInt8.toInt32)), (.int ((c0 >>> ((8 : Int32) &&& 31)).toInt8.toInt32))] (.int (0 : Int32)) := sA
    refine og s₁ (mkF m 1 #[rv a] [(.ref a)]) (fun t_ k_ => XS.aloadN X0.here hx rfl (hb hby d_jdk_42_54_0) rfl rfl k_) ?_
    obtain ⟨T4, X4, e4, st4⟩ := getF X0 hx hZ hown (host := "") (Or.inl (own_w hw 24 rfl)) Via.refl e0 sV (g := (mkF m 1 #[rv a] [(.ref a)])) rfl rfl (hb hby d_jdk_42_54_1)
    refine og T4 (mkF m 4 #[rv a] [(.ref tt0)]) (fun t_ k_ => st4 _ k_) ?_
    obtain ⟨cl5, Ar5, -, S5, Nn5, -, -⟩ := id sA'
    refine og T4 (mkF m 5 #[rv a] [(.int 2)]) (fun t_ k_ => X4.arraylength hx (by rw [e4]; exact Ar5.1) (State.isArrayOf_alike hZ.alike Ar5.2.1) (g := (mkF m 4 #[rv a] [(.ref tt0)])) rfl rfl (hb hby d_jdk_42_54_4) _ (by rw [len_of S5 Nn5]; exact k_)) ?_
    refine og T4 (mkF m 6 #[rv a] [(.ref a), (.int 2)]) (fun t_ k_ => XS.aloadN X4.here hx rfl (hb hby d_jdk_42_54_5) rfl rfl k_) ?_
    obtain ⟨cq6, kq6, q6a, q6b, q6c⟩ := isOf hZ e4 sE
    obtain ⟨_, _, ⟨T6, L6, k6, n6⟩, -, X6, ⟨Lc6, hQ6, l6, y6, z6⟩, st6⟩ := X4.virtualBack hx (y := ym_3) (z := ym_3) hown (mvT hZ (own_w hw 59 rfl)) (mvT hZ (own_w hw 60 rfl)) (notFace_of_selects (args := #[]) (mvT hZ (own_w hw 62 rfl))) (mvT hZ (own_w hw 62 rfl)) (mvT hZ (own_w hw 61 rfl)) (by decide) (backOf (W := 1) (rm_cod1 l Z a0 hw [] a cz h0 n0 (show n0 ≤ h0.size by omega) sC O0 S_COMPACT_STRINGS hcz) hZ (own_w hw 63 rfl) (own_w hw 5 rfl) (by decide) (by decide)) q6a q6c (g := (mkF m 6 #[rv a] [(.ref a), (.int 2)])) rfl (by rw [hml]; rfl) (Steps.refl _) (argsL := []) (rest := [(.int 2)]) (lenOf pd_9 rfl) rfl (by show 2 * 0 + _ ≤ _; exact Nat.le_of_eq rfl) (hb hby d_jdk_42_54_6) (fun _ _ => ⟨rfl, e4, (by decide : 0 + 0 ≤ _), (by decide : 0 + 0 ≤ _)⟩)
    dsimp only [Pt.U, Pt.locs, Pt.cells, Pt.slots] at X6 l6 y6 z6 st6 hQ6
    subst l6 y6 z6
    obtain ⟨rfl, M6, e6⟩ := hQ6
    have N6 := Fr.app N0 M6
    refine og T6 (mkF m 9 #[rv a] [(.int 1), (.int 2)]) (fun t_ k_ => st6.trans k_) ?_
    refine og T6 (mkF m 10 #[rv a] [(.int 1)]) (fun t_ k_ => XS.ishr X6.here hx rfl (hb hby d_jdk_42_54_9) rfl k_) ?_
    exact own_out X6 (v := some (.int 1)) (fun h => by rw [hret] at h; cases h) hlk (fun fs hr => retI X6 hx hret (hb hby d_jdk_42_54_10) hr) (Q := Q_rm_len1 Z a n_a c0 cz h0 n0) (by rw [e6]; exact ⟨rfl, N6, rfl⟩) (by decide) (by decide)
theorem d_jdk_43_2_0 : decode jdk_43_method_2_code 0 = .ok (.iload_n 1, 1) := by decide +kernel
theorem d_jdk_43_2_1 : decode jdk_43_method_2_code 1 = .ok (.aload_n 0, 1) := by decide +kernel
theorem d_jdk_43_2_2 : decode jdk_43_method_2_code 2 = .ok (.arraylength, 1) := by decide +kernel
theorem d_jdk_43_2_3 : decode jdk_43_method_2_code 3 = .ok (.invokestatic 9, 3) := by decide +kernel
theorem pd_11 : parseMethodDescriptor "(II)V" = some ⟨[.int, .int], none⟩ := by decide +kernel
theorem d_jdk_43_2_6 : decode jdk_43_method_2_code 6 = .ok (.aload_n 0, 1) := by decide +kernel
theorem d_jdk_43_2_7 : decode jdk_43_method_2_code 7 = .ok (.iload_n 1, 1) := by decide +kernel
theorem d_jdk_43_2_8 : decode jdk_43_method_2_code 8 = .ok (.baload, 1) := by decide +kernel
theorem d_jdk_43_2_9 : decode jdk_43_method_2_code 9 = .ok (.sipush 255, 3) := by decide +kernel
theorem d_jdk_43_2_12 : decode jdk_43_method_2_code 12 = .ok (.iand, 1) := by decide +kernel
theorem d_jdk_43_2_13 : decode jdk_43_method_2_code 13 = .ok (.i2c, 1) := by decide +kernel
theorem d_jdk_43_2_14 : decode jdk_43_method_2_code 14 = .ok (.ireturn, 1) := by decide +kernel
theorem pn_4 : plainName "java/lang/StringLatin1" = true := by first | (simp [plainName, overriddenIn]; done) | decide +kernel
theorem ef_35 (m : MethodId) (a : Nat) : entryFrame m #[(.ref a), (.int 0)] 2 = mkF m 0 #[rv a, iv 0] [] := by first | (simp [entryFrame, mkF, argsToLocals, Value.category]; done) | rfl
def Q_rm_lch1_0 (Z : State) (a : Nat) (fm : Value) (c0 : Int32) (k_a : ClassId) (h0 : Heap) (n0 : Nat) (vv : Option Value) (h : Heap) (LL : List Loc) : Prop := vv = some (.int c0) ∧ Fr n0 LL ∧ h = h0
set_option maxRecDepth 65536 in
set_option maxHeartbeats 40000000 in
abbrev ym_16 : MethodName := ⟨"java/lang/StringLatin1", "charAt", "([BI)C"⟩
theorem rm_lch1_0 (l : Launch) (Z : State) (a0 : Array Value) (hw : ∀ d ∈ tables_1, d.before a0 Z = true) (ws : List Jvm.Cond) (a : Nat) (fm : Value) (c0 : Int32) (k_a : ClassId) (h0 : Heap) (n0 : Nat) (Z0 : n0 ≤ h0.size) (rf : fm.isRef = true) (O0 : Old Z n0 h0) (S_SIOOBE_FORMATTER : Sta Z Z.heap "jdk/internal/util/Preconditions" "SIOOBE_FORMATTER" "Ljava/util/function/BiFunction;" fm) (hb0 : ¬ (c0 < (0 : Int32)) ∧ ¬ ((255 : Int32) < c0)) (V_a : Arv Z h0 a k_a .byte (1 : Int32) [(.int c0.toInt8.toInt32)] (.int (0 : Int32))) :
    own_MF l ym_16 jdk_43_method_2_code 2 (some .char) ⟨2, 0, 0, 27⟩ ws Z #[(.ref a), (.int 0)] h0 (Q_rm_lch1_0 Z a fm c0 k_a h0 n0) := by
  refine own_begin (plainFor_of_name pn_4) (fun m => ef_35 m a) ?_
  intro p e s m below meth c s₁ hret hx hby hml hown hnm hlk X0 e0 hh hZ
  have N0 := Fr.nil n0
  have lt_V_a := own_ltN V_a.lt
  refine og s₁ (mkF m 1 #[rv a, iv 0] [(.int 0)]) (fun t_ k_ => XS.iloadN X0.here hx rfl (hb hby d_jdk_43_2_0) rfl k_) ?_
  refine og s₁ (mkF m 2 #[rv a, iv 0] [(.ref a), (.int 0)]) (fun t_ k_ => XS.aloadN X0.here hx rfl (hb hby d_jdk_43_2_1) rfl rfl k_) ?_
  obtain ⟨cl1, Ar1, -, S1, Nn1, -, -⟩ := id V_a
  refine og s₁ (mkF m 3 #[rv a, iv 0] [(.int 1), (.int 0)]) (fun t_ k_ => X0.arraylength hx (by rw [e0]; exact Ar1.1) (State.isArrayOf_alike hZ.alike Ar1.2.1) (g := (mkF m 2 #[rv a, iv 0] [(.ref a), (.int 0)])) rfl rfl (hb hby d_jdk_43_2_2) _ (by rw [len_of S1 Nn1]; exact k_)) ?_
  obtain ⟨_, _, ⟨T2, L2, k2, n2⟩, -, X2, ⟨Lc2, hQ2, l2, y2, z2⟩, st2⟩ := Jvm.LawKit.callS X0 hx (y := ym_1) hown (mvT hZ (own_w hw 29 rfl)) (mvT hZ (own_w hw 30 rfl)) (mvT hZ (own_w hw 5 rfl)) (mvT hZ (own_w hw 31 rfl)) (by decide) (backOf (W := 0) (rm_ci l Z a0 hw [] (0 : Int32) (1 : Int32) fm h0 n0 (show n0 ≤ h0.size by omega) (by decide) (by decide) rf O0 S_SIOOBE_FORMATTER) hZ (own_w hw 31 rfl) (own_w hw 5 rfl) (by decide) (by decide)) (g := (mkF m 3 #[rv a, iv 0] [(.int 1), (.int 0)])) rfl (by rw [hml]; rfl) (argsL := [(.int 0), (.int 1)]) (rest := []) (lenOf pd_11 rfl) rfl (by show 2 * 0 + _ ≤ _; exact Nat.le_of_eq rfl) (hb hby d_jdk_43_2_3) (fun _ _ => ⟨rfl, e0, (by decide : 0 + 0 ≤ _), (by decide : 0 + 0 ≤ _)⟩)
  dsimp only [Pt.U, Pt.locs, Pt.cells, Pt.slots] at X2 l2 y2 z2 st2 hQ2
  subst l2 y2 z2
  obtain ⟨rfl, M2, e2⟩ := hQ2
  have N2 := Fr.app N0 M2
  refine og T2 (mkF m 6 #[rv a, iv 0] []) (fun t_ k_ => st2 _ k_) ?_
  refine og T2 (mkF m 7 #[rv a, iv 0] [(.ref a)]) (fun t_ k_ => XS.aloadN X2.here hx rfl (hb hby d_jdk_43_2_6) rfl rfl k_) ?_
  refine og T2 (mkF m 8 #[rv a, iv 0] [(.int 0), (.ref a)]) (fun t_ k_ => XS.iloadN X2.here hx rfl (hb hby d_jdk_43_2_7) rfl k_) ?_
  obtain ⟨cl3, Ar3, -, S3, Nn3, H3, -⟩ := id V_a
  have hin3 : ¬ ((0 : Int32) < 0 ∨ cl3.slots.size ≤ ((0 : Int32)).toNatClampNeg) := inb_of S3 ⟨by decide, by decide⟩
  refine og T2 (mkF m 9 #[rv a, iv 0] [(.int c0.toInt8.toInt32)]) (fun t_ k_ => X2.baloadBytes hx (j := (0 : Int32)) (v := (.int c0.toInt8.toInt32)) (by rw [e2]; exact Ar3.1) (State.isArrayOf_alike hZ.alike Ar3.2.1) Ar3.2.2 hin3 (H3.at hin3 rfl) (g := (mkF m 8 #[rv a, iv 0] [(.int 0), (.ref a)])) rfl rfl (hb hby d_jdk_43_2_8) _ k_) ?_
  refine og T2 (mkF m 12 #[rv a, iv 0] [(.int 255), (.int c0.toInt8.toInt32)]) (fun t_ k_ => XS.sipush X2.here hx rfl (hb hby d_jdk_43_2_9) k_) ?_
  refine og T2 (mkF m 13 #[rv a, iv 0] [(.int (c0.toInt8.toInt32 &&& (255 : Int32)))]) (fun t_ k_ => XS.iand X2.here hx rfl (hb hby d_jdk_43_2_12) rfl k_) ?_
  refine og T2 (mkF m 14 #[rv a, iv 0] [(.int ((c0.toInt8.toInt32 &&& (255 : Int32)).toUInt32.toUInt16.toUInt32.toInt32))]) (fun t_ k_ => XS.i2c X2.here hx rfl (hb hby d_jdk_43_2_13) rfl k_) ?_
  exact own_out X2 (v := some (.int (nar .char ((c0.toInt8.toInt32 &&& (255 : Int32)).toUInt32.toUInt16.toUInt32.toInt32)))) (fun h => by rw [hret] at h; cases h) hlk (fun fs hr => retN X2 hx (t := .char) hret (by simp) (hb hby d_jdk_43_2_14) hr) (Q := Q_rm_lch1_0 Z a fm c0 k_a h0 n0) (by rw [e2]; exact ⟨(congrArg (fun z => some (Value.int z)) ((own_narc16 (own_i2cr _)).trans (own_lat hb0.1 hb0.2))), N2, rfl⟩) (by decide) (by decide)
theorem d_jdk_52_6_0 : decode jdk_52_method_6_code 0 = .ok (.aload_n 0, 1) := by decide +kernel
theorem d_jdk_52_6_1 : decode jdk_52_method_6_code 1 = .ok (.arraylength, 1) := by decide +kernel
theorem d_jdk_52_6_2 : decode jdk_52_method_6_code 2 = .ok (.iconst 1, 1) := by decide +kernel
theorem d_jdk_52_6_3 : decode jdk_52_method_6_code 3 = .ok (.ishr, 1) := by decide +kernel
theorem d_jdk_52_6_4 : decode jdk_52_method_6_code 4 = .ok (.ireturn, 1) := by decide +kernel
theorem ef_36 (m : MethodId) (a : Nat) : entryFrame m #[(.ref a)] 1 = mkF m 0 #[rv a] [] := by first | (simp [entryFrame, mkF, argsToLocals, Value.category]; done) | rfl
def Q_rm_ul1 (Z : State) (a : Nat) (y0 : Int32) (y1 : Int32) (k_a : ClassId) (h0 : Heap) (n0 : Nat) (vv : Option Value) (h : Heap) (LL : List Loc) : Prop := vv = some (.int 1) ∧ Fr n0 LL ∧ h = h0
set_option maxRecDepth 65536 in
set_option maxHeartbeats 40000000 in
abbrev ym_17 : MethodName := ⟨"java/lang/StringUTF16", "length", "([B)I"⟩
theorem rm_ul1 (l : Launch) (Z : State) (a0 : Array Value) (hw : ∀ d ∈ tables_1, d.before a0 Z = true) (ws : List Jvm.Cond) (a : Nat) (y0 : Int32) (y1 : Int32) (k_a : ClassId) (h0 : Heap) (n0 : Nat) (Z0 : n0 ≤ h0.size) (V_a : Arv Z h0 a k_a .byte (2 : Int32) [(.int y0), (.int y1)] (.int (0 : Int32))) :
    own_MF l ym_17 jdk_52_method_6_code 1 (some .int) ⟨0, 0, 0, 0⟩ ws Z #[(.ref a)] h0 (Q_rm_ul1 Z a y0 y1 k_a h0 n0) := by
  refine own_begin (plainFor_of_name pn_2) (fun m => ef_36 m a) ?_
  intro p e s m below meth c s₁ hret hx hby hml hown hnm hlk X0 e0 hh hZ
  have N0 := Fr.nil n0
  have lt_V_a := own_ltN V_a.lt
  refine og s₁ (mkF m 1 #[rv a] [(.ref a)]) (fun t_ k_ => XS.aloadN X0.here hx rfl (hb hby d_jdk_52_6_0) rfl rfl k_) ?_
  obtain ⟨cl1, Ar1, -, S1, Nn1, -, -⟩ := id V_a
  refine og s₁ (mkF m 2 #[rv a] [(.int 2)]) (fun t_ k_ => X0.arraylength hx (by rw [e0]; exact Ar1.1) (State.isArrayOf_alike hZ.alike Ar1.2.1) (g := (mkF m 1 #[rv a] [(.ref a)])) rfl rfl (hb hby d_jdk_52_6_1) _ (by rw [len_of S1 Nn1]; exact k_)) ?_
  refine og s₁ (mkF m 3 #[rv a] [(.int 1), (.int 2)]) (fun t_ k_ => XS.iconst X0.here hx rfl (hb hby d_jdk_52_6_2) k_) ?_
  refine og s₁ (mkF m 4 #[rv a] [(.int 1)]) (fun t_ k_ => XS.ishr X0.here hx rfl (hb hby d_jdk_52_6_3) rfl k_) ?_
  exact own_out X0 (v := some (.int 1)) (fun h => by rw [hret] at h; cases h) hlk (fun fs hr => retI X0 hx hret (hb hby d_jdk_52_6_4) hr) (Q := Q_rm_ul1 Z a y0 y1 k_a h0 n0) (by rw [e0]; exact ⟨rfl, N0, rfl⟩) (by decide) (by decide)
theorem d_jdk_52_91_0 : decode jdk_52_method_91_code 0 = .ok (.iload_n 0, 1) := by decide +kernel
theorem d_jdk_52_91_1 : decode jdk_52_method_91_code 1 = .ok (.aload_n 1, 1) := by decide +kernel
theorem d_jdk_52_91_2 : decode jdk_52_method_91_code 2 = .ok (.invokestatic 48, 3) := by decide +kernel
theorem pd_12 : parseMethodDescriptor "([B)I" = some ⟨[(.array .byte)], some .int⟩ := by decide +kernel
theorem d_jdk_52_91_5 : decode jdk_52_method_91_code 5 = .ok (.invokestatic 414, 3) := by decide +kernel
theorem d_jdk_52_91_8 : decode jdk_52_method_91_code 8 = .ok (.return_, 1) := by decide +kernel
theorem ef_37 (m : MethodId) (a : Nat) : entryFrame m #[(.int 0), (.ref a)] 2 = mkF m 0 #[iv 0, rv a] [] := by first | (simp [entryFrame, mkF, argsToLocals, Value.category]; done) | rfl
def Q_rm_uci1_0 (Z : State) (a : Nat) (fm : Value) (y0 : Int32) (y1 : Int32) (k_a : ClassId) (h0 : Heap) (n0 : Nat) (vv : Option Value) (h : Heap) (LL : List Loc) : Prop := vv = none ∧ Fr n0 LL ∧ h = h0
set_option maxRecDepth 65536 in
set_option maxHeartbeats 40000000 in
abbrev ym_18 : MethodName := ⟨"java/lang/StringUTF16", "checkIndex", "(I[B)V"⟩
theorem rm_uci1_0 (l : Launch) (Z : State) (a0 : Array Value) (hw : ∀ d ∈ tables_1, d.before a0 Z = true) (ws : List Jvm.Cond) (a : Nat) (fm : Value) (y0 : Int32) (y1 : Int32) (k_a : ClassId) (h0 : Heap) (n0 : Nat) (Z0 : n0 ≤ h0.size) (rf : fm.isRef = true) (O0 : Old Z n0 h0) (S_SIOOBE_FORMATTER : Sta Z Z.heap "jdk/internal/util/Preconditions" "SIOOBE_FORMATTER" "Ljava/util/function/BiFunction;" fm) (V_a : Arv Z h0 a k_a .byte (2 : Int32) [(.int y0), (.int y1)] (.int (0 : Int32))) :
    own_MF l ym_18 jdk_52_method_91_code 2 none ⟨2, 0, 0, 27⟩ ws Z #[(.int 0), (.ref a)] h0 (Q_rm_uci1_0 Z a fm y0 y1 k_a h0 n0) := by
  refine own_begin (plainFor_of_name pn_2) (fun m => ef_37 m a) ?_
  intro p e s m below meth c s₁ hret hx hby hml hown hnm hlk X0 e0 hh hZ
  have N0 := Fr.nil n0
  have lt_V_a := own_ltN V_a.lt
  refine og s₁ (mkF m 1 #[iv 0, rv a] [(.int 0)]) (fun t_ k_ => XS.iloadN X0.here hx rfl (hb hby d_jdk_52_91_0) rfl k_) ?_
  refine og s₁ (mkF m 2 #[iv 0, rv a] [(.ref a), (.int 0)]) (fun t_ k_ => XS.aloadN X0.here hx rfl (hb hby d_jdk_52_91_1) rfl rfl k_) ?_
  obtain ⟨_, _, ⟨T1, L1, k1, n1⟩, -, X1, ⟨Lc1, hQ1, l1, y1, z1⟩, st1⟩ := Jvm.LawKit.callS X0 hx (y := ym_17) hown (mvT hZ (own_w hw 104 rfl)) (mvT hZ (own_w hw 105 rfl)) (mvT hZ (own_w hw 66 rfl)) (mvT hZ (own_w hw 106 rfl)) (by decide) (backOf (W := 1) (rm_ul1 l Z a0 hw [] a y0 y1 k_a h0 n0 (show n0 ≤ h0.size by omega) V_a) hZ (own_w hw 106 rfl) (own_w hw 66 rfl) (by decide) (by decide)) (g := (mkF m 2 #[iv 0, rv a] [(.ref a), (.int 0)])) rfl (by rw [hml]; rfl) (argsL := [(.ref a)]) (rest := [(.int 0)]) (lenOf pd_12 rfl) rfl (by show 2 * 0 + _ ≤ _; exact Nat.le_of_eq rfl) (hb hby d_jdk_52_91_2) (fun _ _ => ⟨rfl, e0, (by decide : 0 + 0 ≤ _), (by decide : 0 + 0 ≤ _)⟩)
  dsimp only [Pt.U, Pt.locs, Pt.cells, Pt.slots] at X1 l1 y1 z1 st1 hQ1
  subst l1 y1 z1
  obtain ⟨rfl, M1, e1⟩ := hQ1
  have N1 := Fr.app N0 M1
  refine og T1 (mkF m 5 #[iv 0, rv a] [(.int 1), (.int 0)]) (fun t_ k_ => st1 _ k_) ?_
  obtain ⟨_, _, ⟨T2, L2, k2, n2⟩, -, X2, ⟨Lc2, hQ2, l2, y2, z2⟩, st2⟩ := Jvm.LawKit.callS X1 hx (y := ym_1) hown (mvT hZ (own_w hw 107 rfl)) (mvT hZ (own_w hw 30 rfl)) (mvT hZ (own_w hw 5 rfl)) (mvT hZ (own_w hw 31 rfl)) (by decide) (backOf (W := 0) (rm_ci l Z a0 hw [] (0 : Int32) (1 : Int32) fm h0 n0 (show n0 ≤ h0.size by omega) (by decide) (by decide) rf O0 S_SIOOBE_FORMATTER) hZ (own_w hw 31 rfl) (own_w hw 5 rfl) (by decide) (by decide)) (g := (mkF m 5 #[iv 0, rv a] [(.int 1), (.int 0)])) rfl (by rw [hml]; rfl) (argsL := [(.int 0), (.int 1)]) (rest := []) (lenOf pd_11 rfl) rfl (by show 2 * 0 + _ ≤ _; exact Nat.le_of_eq rfl) (hb hby d_jdk_52_91_5) (fun _ _ => ⟨rfl, e1, (by decide : 0 + 0 ≤ _), (by decide : 0 + 0 ≤ _)⟩)
  dsimp only [Pt.U, Pt.locs, Pt.cells, Pt.slots] at X2 l2 y2 z2 st2 hQ2
  subst l2 y2 z2
  obtain ⟨rfl, M2, e2⟩ := hQ2
  have N2 := Fr.app N1 M2
  refine og T2 (mkF m 8 #[iv 0, rv a] []) (fun t_ k_ => st2 _ k_) ?_
  exact own_out X2 (v := none) (fun _ => rfl) hlk (fun fs hr => X2.returnOut hx hret (hb hby d_jdk_52_91_8) hr) (Q := Q_rm_uci1_0 Z a fm y0 y1 k_a h0 n0) (by rw [e2]; exact ⟨rfl, N2, rfl⟩) (by decide) (by decide)
theorem d_jdk_52_83_0 : decode jdk_52_method_83_code 0 = .ok (.iload_n 1, 1) := by decide +kernel
theorem d_jdk_52_83_1 : decode jdk_52_method_83_code 1 = .ok (.aload_n 0, 1) := by decide +kernel
theorem d_jdk_52_83_2 : decode jdk_52_method_83_code 2 = .ok (.invokestatic 67, 3) := by decide +kernel
theorem pd_13 : parseMethodDescriptor "(I[B)V" = some ⟨[.int, (.array .byte)], none⟩ := by decide +kernel
theorem d_jdk_52_83_5 : decode jdk_52_method_83_code 5 = .ok (.aload_n 0, 1) := by decide +kernel
theorem d_jdk_52_83_6 : decode jdk_52_method_83_code 6 = .ok (.iload_n 1, 1) := by decide +kernel
theorem d_jdk_52_83_7 : decode jdk_52_method_83_code 7 = .ok (.invokestatic 71, 3) := by decide +kernel
theorem d_jdk_52_83_10 : decode jdk_52_method_83_code 10 = .ok (.ireturn, 1) := by decide +kernel
theorem ef_38 (m : MethodId) (a : Nat) : entryFrame m #[(.ref a), (.int 0)] 2 = mkF m 0 #[rv a, iv 0] [] := by first | (simp [entryFrame, mkF, argsToLocals, Value.category]; done) | rfl
def Q_rm_uch1_0 (Z : State) (a : Nat) (c0 : Int32) (k_a : ClassId) (fm : Value) (h0 : Heap) (n0 : Nat) (vv : Option Value) (h : Heap) (LL : List Loc) : Prop := vv = some (.int c0) ∧ Fr n0 LL ∧ h = h0
set_option maxRecDepth 65536 in
set_option maxHeartbeats 40000000 in
abbrev ym_19 : MethodName := ⟨"java/lang/StringUTF16", "charAt", "([BI)C"⟩
theorem rm_uch1_0 (l : Launch) (Z : State) (a0 : Array Value) (hw : ∀ d ∈ tables_1, d.before a0 Z = true) (ws : List Jvm.Cond) (a : Nat) (c0 : Int32) (k_a : ClassId) (fm : Value) (h0 : Heap) (n0 : Nat) (Z0 : n0 ≤ h0.size) (hrc0 : ¬ (c0 < (0 : Int32)) ∧ ¬ ((65535 : Int32) < c0)) (V_a : Arv Z h0 a k_a .byte (2 : Int32) [(.int ((c0 >>> ((0 : Int32) &&& 31)).toInt8.toInt32)), (.int ((c0 >>> ((8 : Int32) &&& 31)).toInt8.toInt32))] (.int (0 : Int32))) (O0 : Old Z n0 h0) (S__assertionsDisabled : Sta Z Z.heap "java/lang/StringUTF16" "$assertionsDisabled" "Z" (.int 1)) (S_HI_BYTE_SHIFT : Sta Z Z.heap "java/lang/StringUTF16" "HI_BYTE_SHIFT" "I" (.int 0)) (S_LO_BYTE_SHIFT : Sta Z Z.heap "java/lang/StringUTF16" "LO_BYTE_SHIFT" "I" (.int 8)) (rf : fm.isRef = true) (S_SIOOBE_FORMATTER : Sta Z Z.heap "jdk/internal/util/Preconditions" "SIOOBE_FORMATTER" "Ljava/util/function/BiFunction;" fm) :
    own_MF l ym_19 jdk_52_method_83_code 2 (some .char) ⟨3, 0, 0, 40⟩ ws Z #[(.ref a), (.int 0)] h0 (Q_rm_uch1_0 Z a c0 k_a fm h0 n0) := by
  refine own_begin (plainFor_of_name pn_2) (fun m => ef_38 m a) ?_
  intro p e s m below meth c s₁ hret hx hby hml hown hnm hlk X0 e0 hh hZ
  have N0 := Fr.nil n0
  have lt_V_a := own_ltN V_a.lt
  refine og s₁ (mkF m 1 #[rv a, iv 0] [(.int 0)]) (fun t_ k_ => XS.iloadN X0.here hx rfl (hb hby d_jdk_52_83_0) rfl k_) ?_
  refine og s₁ (mkF m 2 #[rv a, iv 0] [(.ref a), (.int 0)]) (fun t_ k_ => XS.aloadN X0.here hx rfl (hb hby d_jdk_52_83_1) rfl rfl k_) ?_
  obtain ⟨_, _, ⟨T1, L1, k1, n1⟩, -, X1, ⟨Lc1, hQ1, l1, y1, z1⟩, st1⟩ := Jvm.LawKit.callS X0 hx (y := ym_18) hown (mvT hZ (own_w hw 101 rfl)) (mvT hZ (own_w hw 102 rfl)) (mvT hZ (own_w hw 66 rfl)) (mvT hZ (own_w hw 103 rfl)) (by decide) (backOf (W := 0) (rm_uci1_0 l Z a0 hw [] a fm ((c0 >>> ((0 : Int32) &&& 31)).toInt8.toInt32) ((c0 >>> ((8 : Int32) &&& 31)).toInt8.toInt32) k_a h0 n0 (show n0 ≤ h0.size by omega) rf O0 S_SIOOBE_FORMATTER V_a) hZ (own_w hw 103 rfl) (own_w hw 66 rfl) (by decide) (by decide)) (g := (mkF m 2 #[rv a, iv 0] [(.ref a), (.int 0)])) rfl (by rw [hml]; rfl) (argsL := [(.int 0), (.ref a)]) (rest := []) (lenOf pd_13 rfl) rfl (by show 2 * 0 + _ ≤ _; exact Nat.le_of_eq rfl) (hb hby d_jdk_52_83_2) (fun _ _ => ⟨rfl, e0, (by decide : 0 + 0 ≤ _), (by decide : 0 + 0 ≤ _)⟩)
  dsimp only [Pt.U, Pt.locs, Pt.cells, Pt.slots] at X1 l1 y1 z1 st1 hQ1
  subst l1 y1 z1
  obtain ⟨rfl, M1, e1⟩ := hQ1
  have N1 := Fr.app N0 M1
  refine og T1 (mkF m 5 #[rv a, iv 0] []) (fun t_ k_ => st1 _ k_) ?_
  refine og T1 (mkF m 6 #[rv a, iv 0] [(.ref a)]) (fun t_ k_ => XS.aloadN X1.here hx rfl (hb hby d_jdk_52_83_5) rfl rfl k_) ?_
  refine og T1 (mkF m 7 #[rv a, iv 0] [(.int 0), (.ref a)]) (fun t_ k_ => XS.iloadN X1.here hx rfl (hb hby d_jdk_52_83_6) rfl k_) ?_
  obtain ⟨_, _, ⟨T2, L2, k2, n2⟩, -, X2, ⟨Lc2, hQ2, l2, y2, z2⟩, st2⟩ := Jvm.LawKit.callS X1 hx (y := ym_7) hown (mvT hZ (own_w hw 95 rfl)) (mvT hZ (own_w hw 96 rfl)) (mvT hZ (own_w hw 66 rfl)) (mvT hZ (own_w hw 97 rfl)) (by decide) (backOf (W := 0) (rm_get1_0 l Z a0 hw [] a c0 k_a h0 n0 (show n0 ≤ h0.size by omega) hrc0 V_a O0 S__assertionsDisabled S_HI_BYTE_SHIFT S_LO_BYTE_SHIFT) hZ (own_w hw 97 rfl) (own_w hw 66 rfl) (by decide) (by decide)) (g := (mkF m 7 #[rv a, iv 0] [(.int 0), (.ref a)])) rfl (by rw [hml]; rfl) (argsL := [(.ref a), (.int 0)]) (rest := []) (lenOf pd_6 rfl) rfl (by show 2 * 0 + _ ≤ _; exact Nat.le_of_eq rfl) (hb hby d_jdk_52_83_7) (fun _ _ => ⟨rfl, e1, (by decide : 0 + 0 ≤ _), (by decide : 0 + 0 ≤ _)⟩)
  dsimp only [Pt.U, Pt.locs, Pt.cells, Pt.slots] at X2 l2 y2 z2 st2 hQ2
  subst l2 y2 z2
  obtain ⟨rfl, M2, e2⟩ := hQ2
  have N2 := Fr.app N1 M2
  refine og T2 (mkF m 10 #[rv a, iv 0] [(.int c0)]) (fun t_ k_ => st2 _ k_) ?_
  exact own_out X2 (v := some (.int (nar .char c0))) (fun h => by rw [hret] at h; cases h) hlk (fun fs hr => retN X2 hx (t := .char) hret (by simp) (hb hby d_jdk_52_83_10) hr) (Q := Q_rm_uch1_0 Z a c0 k_a fm h0 n0) (by rw [e2]; exact ⟨(congrArg (fun z => some (Value.int z)) (own_narc16 hrc0)), N2, rfl⟩) (by decide) (by decide)
theorem d_jdk_42_56_0 : decode jdk_42_method_56_code 0 = .ok (.aload_n 0, 1) := by decide +kernel
theorem d_jdk_42_56_1 : decode jdk_42_method_56_code 1 = .ok (.invokevirtual 492, 3) := by decide +kernel
theorem pd_14 : parseMethodDescriptor "()Z" = some ⟨[], some .boolean⟩ := by decide +kernel
theorem d_jdk_42_56_4 : decode jdk_42_method_56_code 4 = .ok (.ifCond .eq 12, 3) := by decide +kernel
theorem d_jdk_42_56_7 : decode jdk_42_method_56_code 7 = .ok (.aload_n 0, 1) := by decide +kernel
theorem d_jdk_42_56_8 : decode jdk_42_method_56_code 8 = .ok (.getfield 9, 3) := by decide +kernel
theorem d_jdk_42_56_11 : decode jdk_42_method_56_code 11 = .ok (.iload_n 1, 1) := by decide +kernel
theorem d_jdk_42_56_12 : decode jdk_42_method_56_code 12 = .ok (.invokestatic 495, 3) := by decide +kernel
theorem d_jdk_42_56_15 : decode jdk_42_method_56_code 15 = .ok (.ireturn, 1) := by decide +kernel
theorem d_jdk_42_56_16 : decode jdk_42_method_56_code 16 = .ok (.aload_n 0, 1) := by decide +kernel
theorem d_jdk_42_56_17 : decode jdk_42_method_56_code 17 = .ok (.getfield 9, 3) := by decide +kernel
theorem d_jdk_42_56_20 : decode jdk_42_method_56_code 20 = .ok (.iload_n 1, 1) := by decide +kernel
theorem d_jdk_42_56_21 : decode jdk_42_method_56_code 21 = .ok (.invokestatic 498, 3) := by decide +kernel
theorem d_jdk_42_56_24 : decode jdk_42_method_56_code 24 = .ok (.ireturn, 1) := by decide +kernel
theorem ef_39 (m : MethodId) (a : Nat) : entryFrame m #[(.ref a), (.int 0)] 2 = mkF m 0 #[rv a, iv 0] [] := by first | (simp [entryFrame, mkF, argsToLocals, Value.category]; done) | rfl
def Q_rm_cha1_0 (Z : State) (a : Nat) (n_a : Nat) (c0 : Int32) (cz : Int32) (fm : Value) (h0 : Heap) (n0 : Nat) (vv : Option Value) (h : Heap) (LL : List Loc) : Prop := vv = some (.int c0) ∧ Fr n0 LL ∧ h = h0
set_option maxRecDepth 65536 in
set_option maxHeartbeats 40000000 in
abbrev ym_20 : MethodName := ⟨"java/lang/String", "charAt", "(I)C"⟩
theorem rm_cha1_0 (l : Launch) (Z : State) (a0 : Array Value) (hw : ∀ d ∈ tables_1, d.before a0 Z = true) (ws : List Jvm.Cond) (a : Nat) (n_a : Nat) (c0 : Int32) (cz : Int32) (fm : Value) (h0 : Heap) (n0 : Nat) (Z0 : n0 ≤ h0.size) (S_a : own_Sw Z h0 n_a a [c0]) (hrc0 : ¬ (c0 < (0 : Int32)) ∧ ¬ ((65535 : Int32) < c0)) (O0 : Old Z n0 h0) (S_COMPACT_STRINGS : Sta Z Z.heap "java/lang/String" "COMPACT_STRINGS" "Z" (.int cz)) (hcz : ¬ cz = (0 : Int32)) (S__assertionsDisabled : Sta Z Z.heap "java/lang/StringUTF16" "$assertionsDisabled" "Z" (.int 1)) (S_HI_BYTE_SHIFT : Sta Z Z.heap "java/lang/StringUTF16" "HI_BYTE_SHIFT" "I" (.int 0)) (S_LO_BYTE_SHIFT : Sta Z Z.heap "java/lang/StringUTF16" "LO_BYTE_SHIFT" "I" (.int 8)) (rf : fm.isRef = true) (S_SIOOBE_FORMATTER : Sta Z Z.heap "jdk/internal/util/Preconditions" "SIOOBE_FORMATTER" "Ljava/util/function/BiFunction;" fm) :
    own_MF l ym_20 jdk_42_method_56_code 2 (some .char) ⟨4, 0, 0, 53⟩ ws Z #[(.ref a), (.int 0)] h0 (Q_rm_cha1_0 Z a n_a c0 cz fm h0 n0) := by
  refine own_begin (plainFor_of_name pn_1) (fun m => ef_39 m a) ?_
  intro p e s m below meth c s₁ hret hx hby hml hown hnm hlk X0 e0 hh hZ
  have N0 := Fr.nil n0
  have lt_S_a := own_ltN S_a.lt
  obtain ⟨sE, sa, tt0, kk0, stt, sV, sCA⟩ := id S_a
  rcases sCA with ⟨sC, sP, sA⟩ | ⟨sC, sA⟩
  · skip
    have sA' : Arv Z h0 tt0 kk0 .byte (1 : Int32) [(.int c0.toInt8.toInt32)] (.int (0 : Int32)) := sA
    refine og s₁ (mkF m 1 #[rv a, iv 0] [(.ref a)]) (fun t_ k_ => XS.aloadN X0.here hx rfl (hb hby d_jdk_42_56_0) rfl rfl k_) ?_
    obtain ⟨cq1, kq1, q1a, q1b, q1c⟩ := isOf hZ e0 sE
    obtain ⟨_, _, ⟨T1, L1, k1, n1⟩, -, X1, ⟨Lc1, hQ1, l1, y1, z1⟩, st1⟩ := X0.virtualBack hx (y := ym_2) (z := ym_2) hown (mvT hZ (own_w hw 17 rfl)) (mvT hZ (own_w hw 18 rfl)) (notFace_of_selects (args := #[]) (mvT hZ (own_w hw 20 rfl))) (mvT hZ (own_w hw 20 rfl)) (mvT hZ (own_w hw 19 rfl)) (by decide) (backOf (W := 0) (rm_isl0 l Z a0 hw [] a cz h0 n0 (show n0 ≤ h0.size by omega) sC O0 S_COMPACT_STRINGS hcz sE) hZ (own_w hw 21 rfl) (own_w hw 5 rfl) (by decide) (by decide)) q1a q1c (g := (mkF m 1 #[rv a, iv 0] [(.ref a)])) rfl (by rw [hml]; rfl) (Steps.refl _) (argsL := []) (rest := []) (lenOf pd_14 rfl) rfl (by show 2 * 0 + _ ≤ _; exact Nat.le_of_eq rfl) (hb hby d_jdk_42_56_1) (fun _ _ => ⟨rfl, e0, (by decide : 0 + 0 ≤ _), (by decide : 0 + 0 ≤ _)⟩)
    dsimp only [Pt.U, Pt.locs, Pt.cells, Pt.slots] at X1 l1 y1 z1 st1 hQ1
    subst l1 y1 z1
    obtain ⟨rfl, M1, e1⟩ := hQ1
    have N1 := Fr.app N0 M1
    refine og T1 (mkF m 4 #[rv a, iv 0] [(.int 1)]) (fun t_ k_ => st1.trans k_) ?_
    refine og T1 (mkF m 7 #[rv a, iv 0] []) (fun t_ k_ => XS.ifNo X1.here hx rfl (hb hby d_jdk_42_56_4) rfl ((if0 _ _).trans (feq (by decide)).1) k_) ?_
    refine og T1 (mkF m 8 #[rv a, iv 0] [(.ref a)]) (fun t_ k_ => XS.aloadN X1.here hx rfl (hb hby d_jdk_42_56_7) rfl rfl k_) ?_
    obtain ⟨T2, X2, e2, st2⟩ := getF X1 hx hZ hown (host := "") (Or.inl (own_w hw 24 rfl)) Via.refl e1 sV (g := (mkF m 8 #[rv a, iv 0] [(.ref a)])) rfl rfl (hb hby d_jdk_42_56_8)
    refine og T2 (mkF m 11 #[rv a, iv 0] [(.ref tt0)]) (fun t_ k_ => st2 _ k_) ?_
    refine og T2 (mkF m 12 #[rv a, iv 0] [(.int 0), (.ref tt0)]) (fun t_ k_ => XS.iloadN X2.here hx rfl (hb hby d_jdk_42_56_11) rfl k_) ?_
    obtain ⟨_, _, ⟨T3, L3, k3, n3⟩, -, X3, ⟨Lc3, hQ3, l3, y3, z3⟩, st3⟩ := Jvm.LawKit.callS X2 hx (y := ym_16) hown (mvT hZ (own_w hw 25 rfl)) (mvT hZ (own_w hw 26 rfl)) (mvT hZ (own_w hw 27 rfl)) (mvT hZ (own_w hw 28 rfl)) (by decide) (backOf (W := 0) (rm_lch1_0 l Z a0 hw [] tt0 fm c0 kk0 h0 n0 (show n0 ≤ h0.size by omega) rf O0 S_SIOOBE_FORMATTER (sP _ (List.mem_of_getElem? (i := 0) rfl)) sA') hZ (own_w hw 28 rfl) (own_w hw 27 rfl) (by decide) (by decide)) (g := (mkF m 12 #[rv a, iv 0] [(.int 0), (.ref tt0)])) rfl (by rw [hml]; rfl) (argsL := [(.ref tt0), (.int 0)]) (rest := []) (lenOf pd_6 rfl) rfl (by show 2 * 0 + _ ≤ _; exact Nat.le_of_eq rfl) (hb hby d_jdk_42_56_12) (fun _ _ => ⟨rfl, e2, (by decide : 0 + 0 ≤ _), (by decide : 0 + 0 ≤ _)⟩)
    dsimp only [Pt.U, Pt.locs, Pt.cells, Pt.slots] at X3 l3 y3 z3 st3 hQ3
    subst l3 y3 z3
    obtain ⟨rfl, M3, e3⟩ := hQ3
    have N3 := Fr.app N1 M3
    refine og T3 (mkF m 15 #[rv a, iv 0] [(.int c0)]) (fun t_ k_ => st3 _ k_) ?_
    exact own_out X3 (v := some (.int (nar .char c0))) (fun h => by rw [hret] at h; cases h) hlk (fun fs hr => retN X3 hx (t := .char) hret (by simp) (hb hby d_jdk_42_56_15) hr) (Q := Q_rm_cha1_0 Z a n_a c0 cz fm h0 n0) (by rw [e3]; exact ⟨(congrArg (fun z => some (Value.int z)) (own_narc16 hrc0)), N3, rfl⟩) (by decide) (by decide)
  · skip
    have sA' : Arv Z h0 tt0 kk0 .byte (2 : Int32) [(.int ((c0 >>> ((0 : Int32) &&& 31)).toInt8.toInt32)), (.int ((c0 >>> ((8 : Int32) &&& 31)).toInt8.toInt32))] (.int (0 : Int32)) := sA
    refine og s₁ (mkF m 1 #[rv a, iv 0] [(.ref a)]) (fun t_ k_ => XS.aloadN X0.here hx rfl (hb hby d_jdk_42_56_0) rfl rfl k_) ?_
    obtain ⟨cq4, kq4, q4a, q4b, q4c⟩ := isOf hZ e0 sE
    obtain ⟨_, _, ⟨T4, L4, k4, n4⟩, -, X4, ⟨Lc4, hQ4, l4, y4, z4⟩, st4⟩ := X0.virtualBack hx (y := ym_2) (z := ym_2) hown (mvT hZ (own_w hw 17 rfl)) (mvT hZ (own_w hw 18 rfl)) (notFace_of_selects (args := #[]) (mvT hZ (own_w hw 20 rfl))) (mvT hZ (own_w hw 20 rfl)) (mvT hZ (own_w hw 19 rfl)) (by decide) (backOf (W := 0) (rm_isl1 l Z a0 hw [] a cz h0 n0 (show n0 ≤ h0.size by omega) sC O0 S_COMPACT_STRINGS hcz sE) hZ (own_w hw 21 rfl) (own_w hw 5 rfl) (by decide) (by decide)) q4a q4c (g := (mkF m 1 #[rv a, iv 0] [(.ref a)])) rfl (by rw [hml]; rfl) (Steps.refl _) (argsL := []) (rest := []) (lenOf pd_14 rfl) rfl (by show 2 * 0 + _ ≤ _; exact Nat.le_of_eq rfl) (hb hby d_jdk_42_56_1) (fun _ _ => ⟨rfl, e0, (by decide : 0 + 0 ≤ _), (by decide : 0 + 0 ≤ _)⟩)
    dsimp only [Pt.U, Pt.locs, Pt.cells, Pt.slots] at X4 l4 y4 z4 st4 hQ4
    subst l4 y4 z4
    obtain ⟨rfl, M4, e4⟩ := hQ4
    have N4 := Fr.app N0 M4
    refine og T4 (mkF m 4 #[rv a, iv 0] [(.int 0)]) (fun t_ k_ => st4.trans k_) ?_
    refine og T4 (mkF m 16 #[rv a, iv 0] []) (fun t_ k_ => XS.ifYes X4.here hx rfl (pc0 := 4) (pc' := 16) rfl (hb hby d_jdk_42_56_4) rfl ((if0 _ _).trans (teq (by decide)).1) (by decide) (by decide) k_) ?_
    refine og T4 (mkF m 17 #[rv a, iv 0] [(.ref a)]) (fun t_ k_ => XS.aloadN X4.here hx rfl (hb hby d_jdk_42_56_16) rfl rfl k_) ?_
    obtain ⟨T5, X5, e5, st5⟩ := getF X4 hx hZ hown (host := "") (Or.inl (own_w hw 24 rfl)) Via.refl e4 sV (g := (mkF m 17 #[rv a, iv 0] [(.ref a)])) rfl rfl (hb hby d_jdk_42_56_17)
    refine og T5 (mkF m 20 #[rv a, iv 0] [(.ref tt0)]) (fun t_ k_ => st5 _ k_) ?_
    refine og T5 (mkF m 21 #[rv a, iv 0] [(.int 0), (.ref tt0)]) (fun t_ k_ => XS.iloadN X5.here hx rfl (hb hby d_jdk_42_56_20) rfl k_) ?_
    obtain ⟨_, _, ⟨T6, L6, k6, n6⟩, -, X6, ⟨Lc6, hQ6, l6, y6, z6⟩, st6⟩ := Jvm.LawKit.callS X5 hx (y := ym_19) hown (mvT hZ (own_w hw 98 rfl)) (mvT hZ (own_w hw 99 rfl)) (mvT hZ (own_w hw 66 rfl)) (mvT hZ (own_w hw 100 rfl)) (by decide) (backOf (W := 0) (rm_uch1_0 l Z a0 hw [] tt0 c0 kk0 fm h0 n0 (show n0 ≤ h0.size by omega) hrc0 sA' O0 S__assertionsDisabled S_HI_BYTE_SHIFT S_LO_BYTE_SHIFT rf S_SIOOBE_FORMATTER) hZ (own_w hw 100 rfl) (own_w hw 66 rfl) (by decide) (by decide)) (g := (mkF m 21 #[rv a, iv 0] [(.int 0), (.ref tt0)])) rfl (by rw [hml]; rfl) (argsL := [(.ref tt0), (.int 0)]) (rest := []) (lenOf pd_6 rfl) rfl (by show 2 * 0 + _ ≤ _; exact Nat.le_of_eq rfl) (hb hby d_jdk_42_56_21) (fun _ _ => ⟨rfl, e5, (by decide : 0 + 0 ≤ _), (by decide : 0 + 0 ≤ _)⟩)
    dsimp only [Pt.U, Pt.locs, Pt.cells, Pt.slots] at X6 l6 y6 z6 st6 hQ6
    subst l6 y6 z6
    obtain ⟨rfl, M6, e6⟩ := hQ6
    have N6 := Fr.app N4 M6
    refine og T6 (mkF m 24 #[rv a, iv 0] [(.int c0)]) (fun t_ k_ => st6 _ k_) ?_
    exact own_out X6 (v := some (.int (nar .char c0))) (fun h => by rw [hret] at h; cases h) hlk (fun fs hr => retN X6 hx (t := .char) hret (by simp) (hb hby d_jdk_42_56_24) hr) (Q := Q_rm_cha1_0 Z a n_a c0 cz fm h0 n0) (by rw [e6]; exact ⟨(congrArg (fun z => some (Value.int z)) (own_narc16 hrc0)), N6, rfl⟩) (by decide) (by decide)
theorem d_prog_80_13_10 : decode prog_80_method_13_code 10 = .ok (.aload_n 0, 1) := by decide +kernel
theorem d_prog_80_13_11 : decode prog_80_method_13_code 11 = .ok (.iload_n 1, 1) := by decide +kernel
theorem d_prog_80_13_12 : decode prog_80_method_13_code 12 = .ok (.invokevirtual 268, 3) := by decide +kernel
theorem pd_15 : parseMethodDescriptor "(I)C" = some ⟨[.int], some .char⟩ := by decide +kernel
theorem d_prog_80_13_15 : decode prog_80_method_13_code 15 = .ok (.istore_n 2, 1) := by decide +kernel
theorem d_prog_80_13_16 : decode prog_80_method_13_code 16 = .ok (.iload_n 2, 1) := by decide +kernel
theorem d_prog_80_13_17 : decode prog_80_method_13_code 17 = .ok (.bipush 32, 2) := by decide +kernel
theorem d_prog_80_13_19 : decode prog_80_method_13_code 19 = .ok (.if_icmp .eq 23, 3) := by decide +kernel
theorem d_prog_80_13_22 : decode prog_80_method_13_code 22 = .ok (.iload_n 2, 1) := by decide +kernel
theorem d_prog_80_13_23 : decode prog_80_method_13_code 23 = .ok (.bipush 10, 2) := by decide +kernel
theorem d_prog_80_13_25 : decode prog_80_method_13_code 25 = .ok (.if_icmp .eq 17, 3) := by decide +kernel
theorem d_prog_80_13_28 : decode prog_80_method_13_code 28 = .ok (.iload_n 2, 1) := by decide +kernel
theorem d_prog_80_13_29 : decode prog_80_method_13_code 29 = .ok (.bipush 9, 2) := by decide +kernel
theorem d_prog_80_13_31 : decode prog_80_method_13_code 31 = .ok (.if_icmp .eq 11, 3) := by decide +kernel
theorem d_prog_80_13_34 : decode prog_80_method_13_code 34 = .ok (.iload_n 2, 1) := by decide +kernel
theorem d_prog_80_13_35 : decode prog_80_method_13_code 35 = .ok (.bipush 13, 2) := by decide +kernel
theorem d_prog_80_13_37 : decode prog_80_method_13_code 37 = .ok (.if_icmp .eq 5, 3) := by decide +kernel
theorem d_prog_80_13_42 : decode prog_80_method_13_code 42 = .ok (.iinc 1 1, 3) := by decide +kernel
theorem d_prog_80_13_45 : decode prog_80_method_13_code 45 = .ok (.goto (-43), 3) := by decide +kernel
theorem d_prog_80_13_40 : decode prog_80_method_13_code 40 = .ok (.iconst 0, 1) := by decide +kernel
theorem d_prog_80_13_41 : decode prog_80_method_13_code 41 = .ok (.ireturn, 1) := by decide +kernel
def Q_rm_isw1 (Z : State) (a : Nat) (n_a : Nat) (c0 : Int32) (cz : Int32) (fm : Value) (h0 : Heap) (n0 : Nat) (vv : Option Value) (h : Heap) (LL : List Loc) : Prop := vv = some (.int (if own_W c0 then (1 : Int32) else (0 : Int32))) ∧ Fr n0 LL ∧ h = h0
set_option maxRecDepth 65536 in
set_option maxHeartbeats 40000000 in
theorem rm_isw1 (l : Launch) (Z : State) (a0 : Array Value) (hw : ∀ d ∈ tables_1, d.before a0 Z = true) (ws : List Jvm.Cond) (a : Nat) (n_a : Nat) (c0 : Int32) (cz : Int32) (fm : Value) (h0 : Heap) (n0 : Nat) (Z0 : n0 ≤ h0.size) (S_a : own_Sw Z h0 n_a a [c0]) (hrc0 : ¬ (c0 < (0 : Int32)) ∧ ¬ ((65535 : Int32) < c0)) (O0 : Old Z n0 h0) (S_COMPACT_STRINGS : Sta Z Z.heap "java/lang/String" "COMPACT_STRINGS" "Z" (.int cz)) (hcz : ¬ cz = (0 : Int32)) (S__assertionsDisabled : Sta Z Z.heap "java/lang/StringUTF16" "$assertionsDisabled" "Z" (.int 1)) (S_HI_BYTE_SHIFT : Sta Z Z.heap "java/lang/StringUTF16" "HI_BYTE_SHIFT" "I" (.int 0)) (S_LO_BYTE_SHIFT : Sta Z Z.heap "java/lang/StringUTF16" "LO_BYTE_SHIFT" "I" (.int 8)) (rf : fm.isRef = true) (S_SIOOBE_FORMATTER : Sta Z Z.heap "jdk/internal/util/Preconditions" "SIOOBE_FORMATTER" "Ljava/util/function/BiFunction;" fm) :
    own_MF l ym_15 prog_80_method_13_code 3 (some .boolean) ⟨5, 0, 0, 66⟩ ws Z #[(.ref a)] h0 (Q_rm_isw1 Z a n_a c0 cz fm h0 n0) := by
  refine own_begin (plainFor_of_name pn_3) (fun m => ef_34 m a) ?_
  intro p e s m below meth c s₁ hret hx hby hml hown hnm hlk X0 e0 hh hZ
  have N0 := Fr.nil n0
  have lt_S_a := own_ltN S_a.lt
  refine og s₁ (mkF m 1 #[rv a, .unset, .unset] [(.int 0)]) (fun t_ k_ => XS.iconst X0.here hx rfl (hb hby d_prog_80_13_0) k_) ?_
  refine og s₁ (mkF m 2 #[rv a, iv 0, .unset] []) (fun t_ k_ => XS.istoreN X0.here hx rfl (hb hby d_prog_80_13_1) rfl (l' := #[rv a, iv 0, .unset]) rfl k_) ?_
  refine og s₁ (mkF m 3 #[rv a, iv 0, .unset] [(.int 0)]) (fun t_ k_ => XS.iloadN X0.here hx rfl (hb hby d_prog_80_13_2) rfl k_) ?_
  refine og s₁ (mkF m 4 #[rv a, iv 0, .unset] [(.ref a), (.int 0)]) (fun t_ k_ => XS.aloadN X0.here hx rfl (hb hby d_prog_80_13_3) rfl rfl k_) ?_
  obtain ⟨cq1, kq1, q1a, q1b, q1c⟩ := isOf hZ e0 S_a.1
  obtain ⟨_, _, ⟨T1, L1, k1, n1⟩, -, X1, ⟨Lc1, hQ1, l1, y1, z1⟩, st1⟩ := X0.virtualBack hx (y := ym_14) (z := ym_14) hown (mvT hZ (own_w hw 54 rfl)) (mvT hZ (own_w hw 55 rfl)) (notFace_of_selects (args := #[]) (mvT hZ (own_w hw 57 rfl))) (mvT hZ (own_w hw 57 rfl)) (mvT hZ (own_w hw 56 rfl)) (by decide) (backOf (W := 1) (rm_len1 l Z a0 hw [] a n_a c0 cz h0 n0 (show n0 ≤ h0.size by omega) S_a hrc0 O0 S_COMPACT_STRINGS hcz) hZ (own_w hw 58 rfl) (own_w hw 5 rfl) (by decide) (by decide)) q1a q1c (g := (mkF m 4 #[rv a, iv 0, .unset] [(.ref a), (.int 0)])) rfl (by rw [hml]; rfl) (Steps.refl _) (argsL := []) (rest := [(.int 0)]) (lenOf pd_10 rfl) rfl (by show 2 * 0 + _ ≤ _; exact Nat.le_of_eq rfl) (hb hby d_prog_80_13_4) (fun _ _ => ⟨rfl, e0, (by decide : 0 + 0 ≤ _), (by decide : 0 + 0 ≤ _)⟩)
  dsimp only [Pt.U, Pt.locs, Pt.cells, Pt.slots] at X1 l1 y1 z1 st1 hQ1
  subst l1 y1 z1
  obtain ⟨rfl, M1, e1⟩ := hQ1
  have N1 := Fr.app N0 M1
  refine og T1 (mkF m 7 #[rv a, iv 0, .unset] [(.int 1), (.int 0)]) (fun t_ k_ => st1.trans k_) ?_
  refine og T1 (mkF m 10 #[rv a, iv 0, .unset] []) (fun t_ k_ => XS.icmpNo X1.here hx rfl (hb hby d_prog_80_13_7) rfl (tlt (by decide)).2.1 k_) ?_
  refine og T1 (mkF m 11 #[rv a, iv 0, .unset] [(.ref a)]) (fun t_ k_ => XS.aloadN X1.here hx rfl (hb hby d_prog_80_13_10) rfl rfl k_) ?_
  refine og T1 (mkF m 12 #[rv a, iv 0, .unset] [(.int 0), (.ref a)]) (fun t_ k_ => XS.iloadN X1.here hx rfl (hb hby d_prog_80_13_11) rfl k_) ?_
  obtain ⟨cq2, kq2, q2a, q2b, q2c⟩ := isOf hZ e1 S_a.1
  obtain ⟨_, _, ⟨T2, L2, k2, n2⟩, -, X2, ⟨Lc2, hQ2, l2, y2, z2⟩, st2⟩ := X1.virtualBack hx (y := ym_20) (z := ym_20) hown (mvT hZ (own_w hw 78 rfl)) (mvT hZ (own_w hw 13 rfl)) (notFace_of_selects (args := #[]) (mvT hZ (own_w hw 15 rfl))) (mvT hZ (own_w hw 15 rfl)) (mvT hZ (own_w hw 14 rfl)) (by decide) (backOf (W := 0) (rm_cha1_0 l Z a0 hw [] a n_a c0 cz fm h0 n0 (show n0 ≤ h0.size by omega) S_a hrc0 O0 S_COMPACT_STRINGS hcz S__assertionsDisabled S_HI_BYTE_SHIFT S_LO_BYTE_SHIFT rf S_SIOOBE_FORMATTER) hZ (own_w hw 16 rfl) (own_w hw 5 rfl) (by decide) (by decide)) q2a q2c (g := (mkF m 12 #[rv a, iv 0, .unset] [(.int 0), (.ref a)])) rfl (by rw [hml]; rfl) (Steps.refl _) (argsL := [(.int 0)]) (rest := []) (lenOf pd_15 rfl) rfl (by show 2 * 0 + _ ≤ _; exact Nat.le_of_eq rfl) (hb hby d_prog_80_13_12) (fun _ _ => ⟨rfl, e1, (by decide : 0 + 0 ≤ _), (by decide : 0 + 0 ≤ _)⟩)
  dsimp only [Pt.U, Pt.locs, Pt.cells, Pt.slots] at X2 l2 y2 z2 st2 hQ2
  subst l2 y2 z2
  obtain ⟨rfl, M2, e2⟩ := hQ2
  have N2 := Fr.app N1 M2
  refine og T2 (mkF m 15 #[rv a, iv 0, .unset] [(.int c0)]) (fun t_ k_ => st2.trans k_) ?_
  refine og T2 (mkF m 16 #[rv a, iv 0, iv c0] []) (fun t_ k_ => XS.istoreN X2.here hx rfl (hb hby d_prog_80_13_15) rfl (l' := #[rv a, iv 0, iv c0]) rfl k_) ?_
  by_cases hw0 : own_W c0
  · skip
    refine own_go (T' := T2) (g' := (mkF m 42 #[rv a, iv 0, iv c0] [])) (fun t_ k_ => ?_) ?_
    · show Steps p.tables e below (T2.setTop (mkF m 16 #[rv a, iv 0, iv c0] [])) t_
      rcases hw0 with hx0 | hx0 | hx0 | hx0
      · skip
        refine os T2 (mkF m 17 #[rv a, iv 0, iv c0] [(.int c0)]) (fun k_ => XS.iloadN X2.here hx rfl (hb hby d_prog_80_13_16) rfl k_) ?_
        refine os T2 (mkF m 19 #[rv a, iv 0, iv c0] [(.int 32), (.int c0)]) (fun k_ => XS.bipush X2.here hx rfl (hb hby d_prog_80_13_17) k_) ?_
        refine os T2 (mkF m 42 #[rv a, iv 0, iv c0] []) (fun k_ => XS.icmpYes X2.here hx rfl (pc0 := 19) (pc' := 42) rfl (hb hby d_prog_80_13_19) rfl (teq hx0).1 (by decide) (by decide) k_) ?_
        exact k_
      · skip
        refine os T2 (mkF m 17 #[rv a, iv 0, iv c0] [(.int c0)]) (fun k_ => XS.iloadN X2.here hx rfl (hb hby d_prog_80_13_16) rfl k_) ?_
        refine os T2 (mkF m 19 #[rv a, iv 0, iv c0] [(.int 32), (.int c0)]) (fun k_ => XS.bipush X2.here hx rfl (hb hby d_prog_80_13_17) k_) ?_
        refine os T2 (mkF m 22 #[rv a, iv 0, iv c0] []) (fun k_ => XS.icmpNo X2.here hx rfl (hb hby d_prog_80_13_19) rfl (feq (show ¬ c0 = (32 : Int32) by rw [hx0]; decide)).1 k_) ?_
        refine os T2 (mkF m 23 #[rv a, iv 0, iv c0] [(.int c0)]) (fun k_ => XS.iloadN X2.here hx rfl (hb hby d_prog_80_13_22) rfl k_) ?_
        refine os T2 (mkF m 25 #[rv a, iv 0, iv c0] [(.int 10), (.int c0)]) (fun k_ => XS.bipush X2.here hx rfl (hb hby d_prog_80_13_23) k_) ?_
        refine os T2 (mkF m 42 #[rv a, iv 0, iv c0] []) (fun k_ => XS.icmpYes X2.here hx rfl (pc0 := 25) (pc' := 42) rfl (hb hby d_prog_80_13_25) rfl (teq hx0).1 (by decide) (by decide) k_) ?_
        exact k_
      · skip
        refine os T2 (mkF m 17 #[rv a, iv 0, iv c0] [(.int c0)]) (fun k_ => XS.iloadN X2.here hx rfl (hb hby d_prog_80_13_16) rfl k_) ?_
        refine os T2 (mkF m 19 #[rv a, iv 0, iv c0] [(.int 32), (.int c0)]) (fun k_ => XS.bipush X2.here hx rfl (hb hby d_prog_80_13_17) k_) ?_
        refine os T2 (mkF m 22 #[rv a, iv 0, iv c0] []) (fun k_ => XS.icmpNo X2.here hx rfl (hb hby d_prog_80_13_19) rfl (feq (show ¬ c0 = (32 : Int32) by rw [hx0]; decide)).1 k_) ?_
        refine os T2 (mkF m 23 #[rv a, iv 0, iv c0] [(.int c0)]) (fun k_ => XS.iloadN X2.here hx rfl (hb hby d_prog_80_13_22) rfl k_) ?_
        refine os T2 (mkF m 25 #[rv a, iv 0, iv c0] [(.int 10), (.int c0)]) (fun k_ => XS.bipush X2.here hx rfl (hb hby d_prog_80_13_23) k_) ?_
        refine os T2 (mkF m 28 #[rv a, iv 0, iv c0] []) (fun k_ => XS.icmpNo X2.here hx rfl (hb hby d_prog_80_13_25) rfl (feq (show ¬ c0 = (10 : Int32) by rw [hx0]; decide)).1 k_) ?_
        refine os T2 (mkF m 29 #[rv a, iv 0, iv c0] [(.int c0)]) (fun k_ => XS.iloadN X2.here hx rfl (hb hby d_prog_80_13_28) rfl k_) ?_
        refine os T2 (mkF m 31 #[rv a, iv 0, iv c0] [(.int 9), (.int c0)]) (fun k_ => XS.bipush X2.here hx rfl (hb hby d_prog_80_13_29) k_) ?_
        refine os T2 (mkF m 42 #[rv a, iv 0, iv c0] []) (fun k_ => XS.icmpYes X2.here hx rfl (pc0 := 31) (pc' := 42) rfl (hb hby d_prog_80_13_31) rfl (teq hx0).1 (by decide) (by decide) k_) ?_
        exact k_
      · skip
        refine os T2 (mkF m 17 #[rv a, iv 0, iv c0] [(.int c0)]) (fun k_ => XS.iloadN X2.here hx rfl (hb hby d_prog_80_13_16) rfl k_) ?_
        refine os T2 (mkF m 19 #[rv a, iv 0, iv c0] [(.int 32), (.int c0)]) (fun k_ => XS.bipush X2.here hx rfl (hb hby d_prog_80_13_17) k_) ?_
        refine os T2 (mkF m 22 #[rv a, iv 0, iv c0] []) (fun k_ => XS.icmpNo X2.here hx rfl (hb hby d_prog_80_13_19) rfl (feq (show ¬ c0 = (32 : Int32) by rw [hx0]; decide)).1 k_) ?_
        refine os T2 (mkF m 23 #[rv a, iv 0, iv c0] [(.int c0)]) (fun k_ => XS.iloadN X2.here hx rfl (hb hby d_prog_80_13_22) rfl k_) ?_
        refine os T2 (mkF m 25 #[rv a, iv 0, iv c0] [(.int 10), (.int c0)]) (fun k_ => XS.bipush X2.here hx rfl (hb hby d_prog_80_13_23) k_) ?_
        refine os T2 (mkF m 28 #[rv a, iv 0, iv c0] []) (fun k_ => XS.icmpNo X2.here hx rfl (hb hby d_prog_80_13_25) rfl (feq (show ¬ c0 = (10 : Int32) by rw [hx0]; decide)).1 k_) ?_
        refine os T2 (mkF m 29 #[rv a, iv 0, iv c0] [(.int c0)]) (fun k_ => XS.iloadN X2.here hx rfl (hb hby d_prog_80_13_28) rfl k_) ?_
        refine os T2 (mkF m 31 #[rv a, iv 0, iv c0] [(.int 9), (.int c0)]) (fun k_ => XS.bipush X2.here hx rfl (hb hby d_prog_80_13_29) k_) ?_
        refine os T2 (mkF m 34 #[rv a, iv 0, iv c0] []) (fun k_ => XS.icmpNo X2.here hx rfl (hb hby d_prog_80_13_31) rfl (feq (show ¬ c0 = (9 : Int32) by rw [hx0]; decide)).1 k_) ?_
        refine os T2 (mkF m 35 #[rv a, iv 0, iv c0] [(.int c0)]) (fun k_ => XS.iloadN X2.here hx rfl (hb hby d_prog_80_13_34) rfl k_) ?_
        refine os T2 (mkF m 37 #[rv a, iv 0, iv c0] [(.int 13), (.int c0)]) (fun k_ => XS.bipush X2.here hx rfl (hb hby d_prog_80_13_35) k_) ?_
        refine os T2 (mkF m 42 #[rv a, iv 0, iv c0] []) (fun k_ => XS.icmpYes X2.here hx rfl (pc0 := 37) (pc' := 42) rfl (hb hby d_prog_80_13_37) rfl (teq hx0).1 (by decide) (by decide) k_) ?_
        exact k_
    refine og T2 (mkF m 45 #[rv a, iv 1, iv c0] []) (fun t_ k_ => XS.iinc X2.here hx rfl (hb hby d_prog_80_13_42) rfl (l' := #[rv a, iv 1, iv c0]) rfl k_) ?_
    refine og T2 (mkF m 2 #[rv a, iv 1, iv c0] []) (fun t_ k_ => XS.goto X2.here hx rfl (pc0 := 45) (pc' := 2) rfl (hb hby d_prog_80_13_45) (by decide) (by decide) k_) ?_
    refine og T2 (mkF m 3 #[rv a, iv 1, iv c0] [(.int 1)]) (fun t_ k_ => XS.iloadN X2.here hx rfl (hb hby d_prog_80_13_2) rfl k_) ?_
    refine og T2 (mkF m 4 #[rv a, iv 1, iv c0] [(.ref a), (.int 1)]) (fun t_ k_ => XS.aloadN X2.here hx rfl (hb hby d_prog_80_13_3) rfl rfl k_) ?_
    obtain ⟨cq3, kq3, q3a, q3b, q3c⟩ := isOf hZ e2 S_a.1
    obtain ⟨_, _, ⟨T3, L3, k3, n3⟩, -, X3, ⟨Lc3, hQ3, l3, y3, z3⟩, st3⟩ := X2.virtualBack hx (y := ym_14) (z := ym_14) hown (mvT hZ (own_w hw 54 rfl)) (mvT hZ (own_w hw 55 rfl)) (notFace_of_selects (args := #[]) (mvT hZ (own_w hw 57 rfl))) (mvT hZ (own_w hw 57 rfl)) (mvT hZ (own_w hw 56 rfl)) (by decide) (backOf (W := 1) (rm_len1 l Z a0 hw [] a n_a c0 cz h0 n0 (show n0 ≤ h0.size by omega) S_a hrc0 O0 S_COMPACT_STRINGS hcz) hZ (own_w hw 58 rfl) (own_w hw 5 rfl) (by decide) (by decide)) q3a q3c (g := (mkF m 4 #[rv a, iv 1, iv c0] [(.ref a), (.int 1)])) rfl (by rw [hml]; rfl) (Steps.refl _) (argsL := []) (rest := [(.int 1)]) (lenOf pd_10 rfl) rfl (by show 2 * 0 + _ ≤ _; exact Nat.le_of_eq rfl) (hb hby d_prog_80_13_4) (fun _ _ => ⟨rfl, e2, (by decide : 0 + 0 ≤ _), (by decide : 0 + 0 ≤ _)⟩)
    dsimp only [Pt.U, Pt.locs, Pt.cells, Pt.slots] at X3 l3 y3 z3 st3 hQ3
    subst l3 y3 z3
    obtain ⟨rfl, M3, e3⟩ := hQ3
    have N3 := Fr.app N2 M3
    refine og T3 (mkF m 7 #[rv a, iv 1, iv c0] [(.int 1), (.int 1)]) (fun t_ k_ => st3.trans k_) ?_
    refine og T3 (mkF m 48 #[rv a, iv 1, iv c0] []) (fun t_ k_ => XS.icmpYes X3.here hx rfl (pc0 := 7) (pc' := 48) rfl (hb hby d_prog_80_13_7) rfl (flt (by decide)).2.1 (by decide) (by decide) k_) ?_
    refine og T3 (mkF m 49 #[rv a, iv 1, iv c0] [(.int 1)]) (fun t_ k_ => XS.iconst X3.here hx rfl (hb hby d_prog_80_13_48) k_) ?_
    exact own_out X3 (v := some (.int (nar .boolean (1 : Int32)))) (fun h => by rw [hret] at h; cases h) hlk (fun fs hr => retN X3 hx (t := .boolean) hret (by simp) (hb hby d_prog_80_13_49) hr) (Q := Q_rm_isw1 Z a n_a c0 cz fm h0 n0) (by rw [e3]; exact ⟨(congrArg (fun z => some (Value.int z)) ((if_pos hw0))).symm, N3, rfl⟩) (by decide) (by decide)
  · skip
    refine og T2 (mkF m 17 #[rv a, iv 0, iv c0] [(.int c0)]) (fun t_ k_ => XS.iloadN X2.here hx rfl (hb hby d_prog_80_13_16) rfl k_) ?_
    refine og T2 (mkF m 19 #[rv a, iv 0, iv c0] [(.int 32), (.int c0)]) (fun t_ k_ => XS.bipush X2.here hx rfl (hb hby d_prog_80_13_17) k_) ?_
    refine og T2 (mkF m 22 #[rv a, iv 0, iv c0] []) (fun t_ k_ => XS.icmpNo X2.here hx rfl (hb hby d_prog_80_13_19) rfl (feq (fun q => hw0 (Or.inl q))).1 k_) ?_
    refine og T2 (mkF m 23 #[rv a, iv 0, iv c0] [(.int c0)]) (fun t_ k_ => XS.iloadN X2.here hx rfl (hb hby d_prog_80_13_22) rfl k_) ?_
    refine og T2 (mkF m 25 #[rv a, iv 0, iv c0] [(.int 10), (.int c0)]) (fun t_ k_ => XS.bipush X2.here hx rfl (hb hby d_prog_80_13_23) k_) ?_
    refine og T2 (mkF m 28 #[rv a, iv 0, iv c0] []) (fun t_ k_ => XS.icmpNo X2.here hx rfl (hb hby d_prog_80_13_25) rfl (feq (fun q => hw0 (Or.inr (Or.inl q)))).1 k_) ?_
    refine og T2 (mkF m 29 #[rv a, iv 0, iv c0] [(.int c0)]) (fun t_ k_ => XS.iloadN X2.here hx rfl (hb hby d_prog_80_13_28) rfl k_) ?_
    refine og T2 (mkF m 31 #[rv a, iv 0, iv c0] [(.int 9), (.int c0)]) (fun t_ k_ => XS.bipush X2.here hx rfl (hb hby d_prog_80_13_29) k_) ?_
    refine og T2 (mkF m 34 #[rv a, iv 0, iv c0] []) (fun t_ k_ => XS.icmpNo X2.here hx rfl (hb hby d_prog_80_13_31) rfl (feq (fun q => hw0 (Or.inr (Or.inr (Or.inl q))))).1 k_) ?_
    refine og T2 (mkF m 35 #[rv a, iv 0, iv c0] [(.int c0)]) (fun t_ k_ => XS.iloadN X2.here hx rfl (hb hby d_prog_80_13_34) rfl k_) ?_
    refine og T2 (mkF m 37 #[rv a, iv 0, iv c0] [(.int 13), (.int c0)]) (fun t_ k_ => XS.bipush X2.here hx rfl (hb hby d_prog_80_13_35) k_) ?_
    refine og T2 (mkF m 40 #[rv a, iv 0, iv c0] []) (fun t_ k_ => XS.icmpNo X2.here hx rfl (hb hby d_prog_80_13_37) rfl (feq (fun q => hw0 (Or.inr (Or.inr (Or.inr q))))).1 k_) ?_
    refine og T2 (mkF m 41 #[rv a, iv 0, iv c0] [(.int 0)]) (fun t_ k_ => XS.iconst X2.here hx rfl (hb hby d_prog_80_13_40) k_) ?_
    exact own_out X2 (v := some (.int (nar .boolean (0 : Int32)))) (fun h => by rw [hret] at h; cases h) hlk (fun fs hr => retN X2 hx (t := .boolean) hret (by simp) (hb hby d_prog_80_13_41) hr) (Q := Q_rm_isw1 Z a n_a c0 cz fm h0 n0) (by rw [e2]; exact ⟨(congrArg (fun z => some (Value.int z)) ((if_neg hw0))).symm, N2, rfl⟩) (by decide) (by decide)
def Q_rm_len2 (Z : State) (a : Nat) (n_a : Nat) (c0 : Int32) (c1 : Int32) (cz : Int32) (h0 : Heap) (n0 : Nat) (vv : Option Value) (h : Heap) (LL : List Loc) : Prop := vv = some (.int 2) ∧ Fr n0 LL ∧ h = h0
set_option maxRecDepth 65536 in
set_option maxHeartbeats 40000000 in
theorem rm_len2 (l : Launch) (Z : State) (a0 : Array Value) (hw : ∀ d ∈ tables_1, d.before a0 Z = true) (ws : List Jvm.Cond) (a : Nat) (n_a : Nat) (c0 : Int32) (c1 : Int32) (cz : Int32) (h0 : Heap) (n0 : Nat) (Z0 : n0 ≤ h0.size) (S_a : own_Sw Z h0 n_a a [c0, c1]) (hrc0 : ¬ (c0 < (0 : Int32)) ∧ ¬ ((65535 : Int32) < c0)) (hrc1 : ¬ (c1 < (0 : Int32)) ∧ ¬ ((65535 : Int32) < c1)) (O0 : Old Z n0 h0) (S_COMPACT_STRINGS : Sta Z Z.heap "java/lang/String" "COMPACT_STRINGS" "Z" (.int cz)) (hcz : ¬ cz = (0 : Int32)) :
    own_MF l ym_14 jdk_42_method_54_code 1 (some .int) ⟨1, 0, 0, 13⟩ ws Z #[(.ref a)] h0 (Q_rm_len2 Z a n_a c0 c1 cz h0 n0) := by
  refine own_begin (plainFor_of_name pn_1) (fun m => ef_33 m a) ?_
  intro p e s m below meth c s₁ hret hx hby hml hown hnm hlk X0 e0 hh hZ
  have N0 := Fr.nil n0
  have lt_S_a := own_ltN S_a.lt
  obtain ⟨sE, sa, tt0, kk0, stt, sV, sCA⟩ := id S_a
  rcases sCA with ⟨sC, sP, sA⟩ | ⟨sC, sA⟩
  · skip
    have sA' : Arv Z h0 tt0 kk0 .byte (2 : Int32) [(.int c0.toInt8.toInt32), (.int c1.toInt8.toInt32)] (.int (0 : Int32)) := sA
    refine og s₁ (mkF m 1 #[rv a] [(.ref a)]) (fun t_ k_ => XS.aloadN X0.here hx rfl (hb hby d_jdk_42_54_0) rfl rfl k_) ?_
    obtain ⟨T1, X1, e1, st1⟩ := getF X0 hx hZ hown (host := "") (Or.inl (own_w hw 24 rfl)) Via.refl e0 sV (g := (mkF m 1 #[rv a] [(.ref a)])) rfl rfl (hb hby d_jdk_42_54_1)
    refine og T1 (mkF m 4 #[rv a] [(.ref tt0)]) (fun t_ k_ => st1 _ k_) ?_
    obtain ⟨cl2, Ar2, -, S2, Nn2, -, -⟩ := id sA'
    refine og T1 (mkF m 5 #[rv a] [(.int 2)]) (fun t_ k_ => X1.arraylength hx (by rw [e1]; exact Ar2.1) (State.isArrayOf_alike hZ.alike Ar2.2.1) (g := (mkF m 4 #[rv a] [(.ref tt0)])) rfl rfl (hb hby d_jdk_42_54_4) _ (by rw [len_of S2 Nn2]; exact k_)) ?_
    refine og T1 (mkF m 6 #[rv a] [(.ref a), (.int 2)]) (fun t_ k_ => XS.aloadN X1.here hx rfl (hb hby d_jdk_42_54_5) rfl rfl k_) ?_
    obtain ⟨cq3, kq3, q3a, q3b, q3c⟩ := isOf hZ e1 sE
    obtain ⟨_, _, ⟨T3, L3, k3, n3⟩, -, X3, ⟨Lc3, hQ3, l3, y3, z3⟩, st3⟩ := X1.virtualBack hx (y := ym_3) (z := ym_3) hown (mvT hZ (own_w hw 59 rfl)) (mvT hZ (own_w hw 60 rfl)) (notFace_of_selects (args := #[]) (mvT hZ (own_w hw 62 rfl))) (mvT hZ (own_w hw 62 rfl)) (mvT hZ (own_w hw 61 rfl)) (by decide) (backOf (W := 1) (rm_cod0 l Z a0 hw [] a cz h0 n0 (show n0 ≤ h0.size by omega) sC O0 S_COMPACT_STRINGS hcz) hZ (own_w hw 63 rfl) (own_w hw 5 rfl) (by decide) (by decide)) q3a q3c (g := (mkF m 6 #[rv a] [(.ref a), (.int 2)])) rfl (by rw [hml]; rfl) (Steps.refl _) (argsL := []) (rest := [(.int 2)]) (lenOf pd_9 rfl) rfl (by show 2 * 0 + _ ≤ _; exact Nat.le_of_eq rfl) (hb hby d_jdk_42_54_6) (fun _ _ => ⟨rfl, e1, (by decide : 0 + 0 ≤ _), (by decide : 0 + 0 ≤ _)⟩)
    dsimp only [Pt.U, Pt.locs, Pt.cells, Pt.slots] at X3 l3 y3 z3 st3 hQ3
    subst l3 y3 z3
    obtain ⟨rfl, M3, e3⟩ := hQ3
    have N3 := Fr.app N0 M3
    refine og T3 (mkF m 9 #[rv a] [(.int 0), (.int 2)]) (fun t_ k_ => st3.trans k_) ?_
    refine og T3 (mkF m 10 #[rv a] [(.int 2)]) (fun t_ k_ => XS.ishr X3.here hx rfl (hb hby d_jdk_42_54_9) rfl k_) ?_
    exact own_out X3 (v := some (.int 2)) (fun h => by rw [hret] at h; cases h) hlk (fun fs hr => retI X3 hx hret (hb hby d_jdk_42_54_10) hr) (Q := Q_rm_len2 Z a n_a c0 c1 cz h0 n0) (by rw [e3]; exact ⟨rfl, N3, rfl⟩) (by decide) (by decide)
  · skip
    have sA' : Arv Z h0 tt0 kk0 .byte (4 : Int32) [(.int ((c0 >>> ((0 : Int32) &&& 31)).toInt8.toInt32)), (.int ((c0 >>> ((8 : Int32) &&& 31)).toInt8.toInt32)), (.int ((c1 >>> ((0 : Int32) &&& 31)).toInt8.toInt32)), (.int ((c1 >>> ((8 : Int32) &&& 31)).toInt8.toInt32))] (.int (0 : Int32)) := sA
    refine og s₁ (mkF m 1 #[rv a] [(.ref a)]) (fun t_ k_ => XS.aloadN X0.here hx rfl (hb hby d_jdk_42_54_0) rfl rfl k_) ?_
    obtain ⟨T4, X4, e4, st4⟩ := getF X0 hx hZ hown (host := "") (Or.inl (own_w hw 24 rfl)) Via.refl e0 sV (g := (mkF m 1 #[rv a] [(.ref a)])) rfl rfl (hb hby d_jdk_42_54_1)
    refine og T4 (mkF m 4 #[rv a] [(.ref tt0)]) (fun t_ k_ => st4 _ k_) ?_
    obtain ⟨cl5, Ar5, -, S5, Nn5, -, -⟩ := id sA'
    refine og T4 (mkF m 5 #[rv a] [(.int 4)]) (fun t_ k_ => X4.arraylength hx (by rw [e4]; exact Ar5.1) (State.isArrayOf_alike hZ.alike Ar5.2.1) (g := (mkF m 4 #[rv a] [(.ref tt0)])) rfl rfl (hb hby d_jdk_42_54_4) _ (by rw [len_of S5 Nn5]; exact k_)) ?_
    refine og T4 (mkF m 6 #[rv a] [(.ref a), (.int 4)]) (fun t_ k_ => XS.aloadN X4.here hx rfl (hb hby d_jdk_42_54_5) rfl rfl k_) ?_
    obtain ⟨cq6, kq6, q6a, q6b, q6c⟩ := isOf hZ e4 sE
    obtain ⟨_, _, ⟨T6, L6, k6, n6⟩, -, X6, ⟨Lc6, hQ6, l6, y6, z6⟩, st6⟩ := X4.virtualBack hx (y := ym_3) (z := ym_3) hown (mvT hZ (own_w hw 59 rfl)) (mvT hZ (own_w hw 60 rfl)) (notFace_of_selects (args := #[]) (mvT hZ (own_w hw 62 rfl))) (mvT hZ (own_w hw 62 rfl)) (mvT hZ (own_w hw 61 rfl)) (by decide) (backOf (W := 1) (rm_cod1 l Z a0 hw [] a cz h0 n0 (show n0 ≤ h0.size by omega) sC O0 S_COMPACT_STRINGS hcz) hZ (own_w hw 63 rfl) (own_w hw 5 rfl) (by decide) (by decide)) q6a q6c (g := (mkF m 6 #[rv a] [(.ref a), (.int 4)])) rfl (by rw [hml]; rfl) (Steps.refl _) (argsL := []) (rest := [(.int 4)]) (lenOf pd_9 rfl) rfl (by show 2 * 0 + _ ≤ _; exact Nat.le_of_eq rfl) (hb hby d_jdk_42_54_6) (fun _ _ => ⟨rfl, e4, (by decide : 0 + 0 ≤ _), (by decide : 0 + 0 ≤ _)⟩)
    dsimp only [Pt.U, Pt.locs, Pt.cells, Pt.slots] at X6 l6 y6 z6 st6 hQ6
    subst l6 y6 z6
    obtain ⟨rfl, M6, e6⟩ := hQ6
    have N6 := Fr.app N0 M6
    refine og T6 (mkF m 9 #[rv a] [(.int 1), (.int 4)]) (fun t_ k_ => st6.trans k_) ?_
    refine og T6 (mkF m 10 #[rv a] [(.int 2)]) (fun t_ k_ => XS.ishr X6.here hx rfl (hb hby d_jdk_42_54_9) rfl k_) ?_
    exact own_out X6 (v := some (.int 2)) (fun h => by rw [hret] at h; cases h) hlk (fun fs hr => retI X6 hx hret (hb hby d_jdk_42_54_10) hr) (Q := Q_rm_len2 Z a n_a c0 c1 cz h0 n0) (by rw [e6]; exact ⟨rfl, N6, rfl⟩) (by decide) (by decide)
def Q_rm_lch2_0 (Z : State) (a : Nat) (fm : Value) (c0 : Int32) (c1 : Int32) (k_a : ClassId) (h0 : Heap) (n0 : Nat) (vv : Option Value) (h : Heap) (LL : List Loc) : Prop := vv = some (.int c0) ∧ Fr n0 LL ∧ h = h0
set_option maxRecDepth 65536 in
set_option maxHeartbeats 40000000 in
theorem rm_lch2_0 (l : Launch) (Z : State) (a0 : Array Value) (hw : ∀ d ∈ tables_1, d.before a0 Z = true) (ws : List Jvm.Cond) (a : Nat) (fm : Value) (c0 : Int32) (c1 : Int32) (k_a : ClassId) (h0 : Heap) (n0 : Nat) (Z0 : n0 ≤ h0.size) (rf : fm.isRef = true) (O0 : Old Z n0 h0) (S_SIOOBE_FORMATTER : Sta Z Z.heap "jdk/internal/util/Preconditions" "SIOOBE_FORMATTER" "Ljava/util/function/BiFunction;" fm) (hb0 : ¬ (c0 < (0 : Int32)) ∧ ¬ ((255 : Int32) < c0)) (V_a : Arv Z h0 a k_a .byte (2 : Int32) [(.int c0.toInt8.toInt32), (.int c1.toInt8.toInt32)] (.int (0 : Int32))) :
    own_MF l ym_16 jdk_43_method_2_code 2 (some .char) ⟨2, 0, 0, 27⟩ ws Z #[(.ref a), (.int 0)] h0 (Q_rm_lch2_0 Z a fm c0 c1 k_a h0 n0) := by
  refine own_begin (plainFor_of_name pn_4) (fun m => ef_35 m a) ?_
  intro p e s m below meth c s₁ hret hx hby hml hown hnm hlk X0 e0 hh hZ
  have N0 := Fr.nil n0
  have lt_V_a := own_ltN V_a.lt
  refine og s₁ (mkF m 1 #[rv a, iv 0] [(.int 0)]) (fun t_ k_ => XS.iloadN X0.here hx rfl (hb hby d_jdk_43_2_0) rfl k_) ?_
  refine og s₁ (mkF m 2 #[rv a, iv 0] [(.ref a), (.int 0)]) (fun t_ k_ => XS.aloadN X0.here hx rfl (hb hby d_jdk_43_2_1) rfl rfl k_) ?_
  obtain ⟨cl1, Ar1, -, S1, Nn1, -, -⟩ := id V_a
  refine og s₁ (mkF m 3 #[rv a, iv 0] [(.int 2), (.int 0)]) (fun t_ k_ => X0.arraylength hx (by rw [e0]; exact Ar1.1) (State.isArrayOf_alike hZ.alike Ar1.2.1) (g := (mkF m 2 #[rv a, iv 0] [(.ref a), (.int 0)])) rfl rfl (hb hby d_jdk_43_2_2) _ (by rw [len_of S1 Nn1]; exact k_)) ?_
  obtain ⟨_, _, ⟨T2, L2, k2, n2⟩, -, X2, ⟨Lc2, hQ2, l2, y2, z2⟩, st2⟩ := Jvm.LawKit.callS X0 hx (y := ym_1) hown (mvT hZ (own_w hw 29 rfl)) (mvT hZ (own_w hw 30 rfl)) (mvT hZ (own_w hw 5 rfl)) (mvT hZ (own_w hw 31 rfl)) (by decide) (backOf (W := 0) (rm_ci l Z a0 hw [] (0 : Int32) (2 : Int32) fm h0 n0 (show n0 ≤ h0.size by omega) (by decide) (by decide) rf O0 S_SIOOBE_FORMATTER) hZ (own_w hw 31 rfl) (own_w hw 5 rfl) (by decide) (by decide)) (g := (mkF m 3 #[rv a, iv 0] [(.int 2), (.int 0)])) rfl (by rw [hml]; rfl) (argsL := [(.int 0), (.int 2)]) (rest := []) (lenOf pd_11 rfl) rfl (by show 2 * 0 + _ ≤ _; exact Nat.le_of_eq rfl) (hb hby d_jdk_43_2_3) (fun _ _ => ⟨rfl, e0, (by decide : 0 + 0 ≤ _), (by decide : 0 + 0 ≤ _)⟩)
  dsimp only [Pt.U, Pt.locs, Pt.cells, Pt.slots] at X2 l2 y2 z2 st2 hQ2
  subst l2 y2 z2
  obtain ⟨rfl, M2, e2⟩ := hQ2
  have N2 := Fr.app N0 M2
  refine og T2 (mkF m 6 #[rv a, iv 0] []) (fun t_ k_ => st2 _ k_) ?_
  refine og T2 (mkF m 7 #[rv a, iv 0] [(.ref a)]) (fun t_ k_ => XS.aloadN X2.here hx rfl (hb hby d_jdk_43_2_6) rfl rfl k_) ?_
  refine og T2 (mkF m 8 #[rv a, iv 0] [(.int 0), (.ref a)]) (fun t_ k_ => XS.iloadN X2.here hx rfl (hb hby d_jdk_43_2_7) rfl k_) ?_
  obtain ⟨cl3, Ar3, -, S3, Nn3, H3, -⟩ := id V_a
  have hin3 : ¬ ((0 : Int32) < 0 ∨ cl3.slots.size ≤ ((0 : Int32)).toNatClampNeg) := inb_of S3 ⟨by decide, by decide⟩
  refine og T2 (mkF m 9 #[rv a, iv 0] [(.int c0.toInt8.toInt32)]) (fun t_ k_ => X2.baloadBytes hx (j := (0 : Int32)) (v := (.int c0.toInt8.toInt32)) (by rw [e2]; exact Ar3.1) (State.isArrayOf_alike hZ.alike Ar3.2.1) Ar3.2.2 hin3 (H3.at hin3 rfl) (g := (mkF m 8 #[rv a, iv 0] [(.int 0), (.ref a)])) rfl rfl (hb hby d_jdk_43_2_8) _ k_) ?_
  refine og T2 (mkF m 12 #[rv a, iv 0] [(.int 255), (.int c0.toInt8.toInt32)]) (fun t_ k_ => XS.sipush X2.here hx rfl (hb hby d_jdk_43_2_9) k_) ?_
  refine og T2 (mkF m 13 #[rv a, iv 0] [(.int (c0.toInt8.toInt32 &&& (255 : Int32)))]) (fun t_ k_ => XS.iand X2.here hx rfl (hb hby d_jdk_43_2_12) rfl k_) ?_
  refine og T2 (mkF m 14 #[rv a, iv 0] [(.int ((c0.toInt8.toInt32 &&& (255 : Int32)).toUInt32.toUInt16.toUInt32.toInt32))]) (fun t_ k_ => XS.i2c X2.here hx rfl (hb hby d_jdk_43_2_13) rfl k_) ?_
  exact own_out X2 (v := some (.int (nar .char ((c0.toInt8.toInt32 &&& (255 : Int32)).toUInt32.toUInt16.toUInt32.toInt32)))) (fun h => by rw [hret] at h; cases h) hlk (fun fs hr => retN X2 hx (t := .char) hret (by simp) (hb hby d_jdk_43_2_14) hr) (Q := Q_rm_lch2_0 Z a fm c0 c1 k_a h0 n0) (by rw [e2]; exact ⟨(congrArg (fun z => some (Value.int z)) ((own_narc16 (own_i2cr _)).trans (own_lat hb0.1 hb0.2))), N2, rfl⟩) (by decide) (by decide)
def Q_rm_ul2 (Z : State) (a : Nat) (y0 : Int32) (y1 : Int32) (y2 : Int32) (y3 : Int32) (k_a : ClassId) (h0 : Heap) (n0 : Nat) (vv : Option Value) (h : Heap) (LL : List Loc) : Prop := vv = some (.int 2) ∧ Fr n0 LL ∧ h = h0
set_option maxRecDepth 65536 in
set_option maxHeartbeats 40000000 in
theorem rm_ul2 (l : Launch) (Z : State) (a0 : Array Value) (hw : ∀ d ∈ tables_1, d.before a0 Z = true) (ws : List Jvm.Cond) (a : Nat) (y0 : Int32) (y1 : Int32) (y2 : Int32) (y3 : Int32) (k_a : ClassId) (h0 : Heap) (n0 : Nat) (Z0 : n0 ≤ h0.size) (V_a : Arv Z h0 a k_a .byte (4 : Int32) [(.int y0), (.int y1), (.int y2), (.int y3)] (.int (0 : Int32))) :
    own_MF l ym_17 jdk_52_method_6_code 1 (some .int) ⟨0, 0, 0, 0⟩ ws Z #[(.ref a)] h0 (Q_rm_ul2 Z a y0 y1 y2 y3 k_a h0 n0) := by
  refine own_begin (plainFor_of_name pn_2) (fun m => ef_36 m a) ?_
  intro p e s m below meth c s₁ hret hx hby hml hown hnm hlk X0 e0 hh hZ
  have N0 := Fr.nil n0
  have lt_V_a := own_ltN V_a.lt
  refine og s₁ (mkF m 1 #[rv a] [(.ref a)]) (fun t_ k_ => XS.aloadN X0.here hx rfl (hb hby d_jdk_52_6_0) rfl rfl k_) ?_
  obtain ⟨cl1, Ar1, -, S1, Nn1, -, -⟩ := id V_a
  refine og s₁ (mkF m 2 #[rv a] [(.int 4)]) (fun t_ k_ => X0.arraylength hx (by rw [e0]; exact Ar1.1) (State.isArrayOf_alike hZ.alike Ar1.2.1) (g := (mkF m 1 #[rv a] [(.ref a)])) rfl rfl (hb hby d_jdk_52_6_1) _ (by rw [len_of S1 Nn1]; exact k_)) ?_
  refine og s₁ (mkF m 3 #[rv a] [(.int 1), (.int 4)]) (fun t_ k_ => XS.iconst X0.here hx rfl (hb hby d_jdk_52_6_2) k_) ?_
  refine og s₁ (mkF m 4 #[rv a] [(.int 2)]) (fun t_ k_ => XS.ishr X0.here hx rfl (hb hby d_jdk_52_6_3) rfl k_) ?_
  exact own_out X0 (v := some (.int 2)) (fun h => by rw [hret] at h; cases h) hlk (fun fs hr => retI X0 hx hret (hb hby d_jdk_52_6_4) hr) (Q := Q_rm_ul2 Z a y0 y1 y2 y3 k_a h0 n0) (by rw [e0]; exact ⟨rfl, N0, rfl⟩) (by decide) (by decide)
def Q_rm_uci2_0 (Z : State) (a : Nat) (fm : Value) (y0 : Int32) (y1 : Int32) (y2 : Int32) (y3 : Int32) (k_a : ClassId) (h0 : Heap) (n0 : Nat) (vv : Option Value) (h : Heap) (LL : List Loc) : Prop := vv = none ∧ Fr n0 LL ∧ h = h0
set_option maxRecDepth 65536 in
set_option maxHeartbeats 40000000 in
theorem rm_uci2_0 (l : Launch) (Z : State) (a0 : Array Value) (hw : ∀ d ∈ tables_1, d.before a0 Z = true) (ws : List Jvm.Cond) (a : Nat) (fm : Value) (y0 : Int32) (y1 : Int32) (y2 : Int32) (y3 : Int32) (k_a : ClassId) (h0 : Heap) (n0 : Nat) (Z0 : n0 ≤ h0.size) (rf : fm.isRef = true) (O0 : Old Z n0 h0) (S_SIOOBE_FORMATTER : Sta Z Z.heap "jdk/internal/util/Preconditions" "SIOOBE_FORMATTER" "Ljava/util/function/BiFunction;" fm) (V_a : Arv Z h0 a k_a .byte (4 : Int32) [(.int y0), (.int y1), (.int y2), (.int y3)] (.int (0 : Int32))) :
    own_MF l ym_18 jdk_52_method_91_code 2 none ⟨2, 0, 0, 27⟩ ws Z #[(.int 0), (.ref a)] h0 (Q_rm_uci2_0 Z a fm y0 y1 y2 y3 k_a h0 n0) := by
  refine own_begin (plainFor_of_name pn_2) (fun m => ef_37 m a) ?_
  intro p e s m below meth c s₁ hret hx hby hml hown hnm hlk X0 e0 hh hZ
  have N0 := Fr.nil n0
  have lt_V_a := own_ltN V_a.lt
  refine og s₁ (mkF m 1 #[iv 0, rv a] [(.int 0)]) (fun t_ k_ => XS.iloadN X0.here hx rfl (hb hby d_jdk_52_91_0) rfl k_) ?_
  refine og s₁ (mkF m 2 #[iv 0, rv a] [(.ref a), (.int 0)]) (fun t_ k_ => XS.aloadN X0.here hx rfl (hb hby d_jdk_52_91_1) rfl rfl k_) ?_
  obtain ⟨_, _, ⟨T1, L1, k1, n1⟩, -, X1, ⟨Lc1, hQ1, l1, y1, z1⟩, st1⟩ := Jvm.LawKit.callS X0 hx (y := ym_17) hown (mvT hZ (own_w hw 104 rfl)) (mvT hZ (own_w hw 105 rfl)) (mvT hZ (own_w hw 66 rfl)) (mvT hZ (own_w hw 106 rfl)) (by decide) (backOf (W := 1) (rm_ul2 l Z a0 hw [] a y0 y1 y2 y3 k_a h0 n0 (show n0 ≤ h0.size by omega) V_a) hZ (own_w hw 106 rfl) (own_w hw 66 rfl) (by decide) (by decide)) (g := (mkF m 2 #[iv 0, rv a] [(.ref a), (.int 0)])) rfl (by rw [hml]; rfl) (argsL := [(.ref a)]) (rest := [(.int 0)]) (lenOf pd_12 rfl) rfl (by show 2 * 0 + _ ≤ _; exact Nat.le_of_eq rfl) (hb hby d_jdk_52_91_2) (fun _ _ => ⟨rfl, e0, (by decide : 0 + 0 ≤ _), (by decide : 0 + 0 ≤ _)⟩)
  dsimp only [Pt.U, Pt.locs, Pt.cells, Pt.slots] at X1 l1 y1 z1 st1 hQ1
  subst l1 y1 z1
  obtain ⟨rfl, M1, e1⟩ := hQ1
  have N1 := Fr.app N0 M1
  refine og T1 (mkF m 5 #[iv 0, rv a] [(.int 2), (.int 0)]) (fun t_ k_ => st1 _ k_) ?_
  obtain ⟨_, _, ⟨T2, L2, k2, n2⟩, -, X2, ⟨Lc2, hQ2, l2, y2, z2⟩, st2⟩ := Jvm.LawKit.callS X1 hx (y := ym_1) hown (mvT hZ (own_w hw 107 rfl)) (mvT hZ (own_w hw 30 rfl)) (mvT hZ (own_w hw 5 rfl)) (mvT hZ (own_w hw 31 rfl)) (by decide) (backOf (W := 0) (rm_ci l Z a0 hw [] (0 : Int32) (2 : Int32) fm h0 n0 (show n0 ≤ h0.size by omega) (by decide) (by decide) rf O0 S_SIOOBE_FORMATTER) hZ (own_w hw 31 rfl) (own_w hw 5 rfl) (by decide) (by decide)) (g := (mkF m 5 #[iv 0, rv a] [(.int 2), (.int 0)])) rfl (by rw [hml]; rfl) (argsL := [(.int 0), (.int 2)]) (rest := []) (lenOf pd_11 rfl) rfl (by show 2 * 0 + _ ≤ _; exact Nat.le_of_eq rfl) (hb hby d_jdk_52_91_5) (fun _ _ => ⟨rfl, e1, (by decide : 0 + 0 ≤ _), (by decide : 0 + 0 ≤ _)⟩)
  dsimp only [Pt.U, Pt.locs, Pt.cells, Pt.slots] at X2 l2 y2 z2 st2 hQ2
  subst l2 y2 z2
  obtain ⟨rfl, M2, e2⟩ := hQ2
  have N2 := Fr.app N1 M2
  refine og T2 (mkF m 8 #[iv 0, rv a] []) (fun t_ k_ => st2 _ k_) ?_
  exact own_out X2 (v := none) (fun _ => rfl) hlk (fun fs hr => X2.returnOut hx hret (hb hby d_jdk_52_91_8) hr) (Q := Q_rm_uci2_0 Z a fm y0 y1 y2 y3 k_a h0 n0) (by rw [e2]; exact ⟨rfl, N2, rfl⟩) (by decide) (by decide)
def Q_rm_uch2_0 (Z : State) (a : Nat) (c0 : Int32) (c1 : Int32) (k_a : ClassId) (fm : Value) (h0 : Heap) (n0 : Nat) (vv : Option Value) (h : Heap) (LL : List Loc) : Prop := vv = some (.int c0) ∧ Fr n0 LL ∧ h = h0
set_option maxRecDepth 65536 in
set_option maxHeartbeats 40000000 in
theorem rm_uch2_0 (l : Launch) (Z : State) (a0 : Array Value) (hw : ∀ d ∈ tables_1, d.before a0 Z = true) (ws : List Jvm.Cond) (a : Nat) (c0 : Int32) (c1 : Int32) (k_a : ClassId) (fm : Value) (h0 : Heap) (n0 : Nat) (Z0 : n0 ≤ h0.size) (hrc0 : ¬ (c0 < (0 : Int32)) ∧ ¬ ((65535 : Int32) < c0)) (hrc1 : ¬ (c1 < (0 : Int32)) ∧ ¬ ((65535 : Int32) < c1)) (V_a : Arv Z h0 a k_a .byte (4 : Int32) [(.int ((c0 >>> ((0 : Int32) &&& 31)).toInt8.toInt32)), (.int ((c0 >>> ((8 : Int32) &&& 31)).toInt8.toInt32)), (.int ((c1 >>> ((0 : Int32) &&& 31)).toInt8.toInt32)), (.int ((c1 >>> ((8 : Int32) &&& 31)).toInt8.toInt32))] (.int (0 : Int32))) (O0 : Old Z n0 h0) (S__assertionsDisabled : Sta Z Z.heap "java/lang/StringUTF16" "$assertionsDisabled" "Z" (.int 1)) (S_HI_BYTE_SHIFT : Sta Z Z.heap "java/lang/StringUTF16" "HI_BYTE_SHIFT" "I" (.int 0)) (S_LO_BYTE_SHIFT : Sta Z Z.heap "java/lang/StringUTF16" "LO_BYTE_SHIFT" "I" (.int 8)) (rf : fm.isRef = true) (S_SIOOBE_FORMATTER : Sta Z Z.heap "jdk/internal/util/Preconditions" "SIOOBE_FORMATTER" "Ljava/util/function/BiFunction;" fm) :
    own_MF l ym_19 jdk_52_method_83_code 2 (some .char) ⟨3, 0, 0, 40⟩ ws Z #[(.ref a), (.int 0)] h0 (Q_rm_uch2_0 Z a c0 c1 k_a fm h0 n0) := by
  refine own_begin (plainFor_of_name pn_2) (fun m => ef_38 m a) ?_
  intro p e s m below meth c s₁ hret hx hby hml hown hnm hlk X0 e0 hh hZ
  have N0 := Fr.nil n0
  have lt_V_a := own_ltN V_a.lt
  refine og s₁ (mkF m 1 #[rv a, iv 0] [(.int 0)]) (fun t_ k_ => XS.iloadN X0.here hx rfl (hb hby d_jdk_52_83_0) rfl k_) ?_
  refine og s₁ (mkF m 2 #[rv a, iv 0] [(.ref a), (.int 0)]) (fun t_ k_ => XS.aloadN X0.here hx rfl (hb hby d_jdk_52_83_1) rfl rfl k_) ?_
  obtain ⟨_, _, ⟨T1, L1, k1, n1⟩, -, X1, ⟨Lc1, hQ1, l1, y1, z1⟩, st1⟩ := Jvm.LawKit.callS X0 hx (y := ym_18) hown (mvT hZ (own_w hw 101 rfl)) (mvT hZ (own_w hw 102 rfl)) (mvT hZ (own_w hw 66 rfl)) (mvT hZ (own_w hw 103 rfl)) (by decide) (backOf (W := 0) (rm_uci2_0 l Z a0 hw [] a fm ((c0 >>> ((0 : Int32) &&& 31)).toInt8.toInt32) ((c0 >>> ((8 : Int32) &&& 31)).toInt8.toInt32) ((c1 >>> ((0 : Int32) &&& 31)).toInt8.toInt32) ((c1 >>> ((8 : Int32) &&& 31)).toInt8.toInt32) k_a h0 n0 (show n0 ≤ h0.size by omega) rf O0 S_SIOOBE_FORMATTER V_a) hZ (own_w hw 103 rfl) (own_w hw 66 rfl) (by decide) (by decide)) (g := (mkF m 2 #[rv a, iv 0] [(.ref a), (.int 0)])) rfl (by rw [hml]; rfl) (argsL := [(.int 0), (.ref a)]) (rest := []) (lenOf pd_13 rfl) rfl (by show 2 * 0 + _ ≤ _; exact Nat.le_of_eq rfl) (hb hby d_jdk_52_83_2) (fun _ _ => ⟨rfl, e0, (by decide : 0 + 0 ≤ _), (by decide : 0 + 0 ≤ _)⟩)
  dsimp only [Pt.U, Pt.locs, Pt.cells, Pt.slots] at X1 l1 y1 z1 st1 hQ1
  subst l1 y1 z1
  obtain ⟨rfl, M1, e1⟩ := hQ1
  have N1 := Fr.app N0 M1
  refine og T1 (mkF m 5 #[rv a, iv 0] []) (fun t_ k_ => st1 _ k_) ?_
  refine og T1 (mkF m 6 #[rv a, iv 0] [(.ref a)]) (fun t_ k_ => XS.aloadN X1.here hx rfl (hb hby d_jdk_52_83_5) rfl rfl k_) ?_
  refine og T1 (mkF m 7 #[rv a, iv 0] [(.int 0), (.ref a)]) (fun t_ k_ => XS.iloadN X1.here hx rfl (hb hby d_jdk_52_83_6) rfl k_) ?_
  obtain ⟨_, _, ⟨T2, L2, k2, n2⟩, -, X2, ⟨Lc2, hQ2, l2, y2, z2⟩, st2⟩ := Jvm.LawKit.callS X1 hx (y := ym_7) hown (mvT hZ (own_w hw 95 rfl)) (mvT hZ (own_w hw 96 rfl)) (mvT hZ (own_w hw 66 rfl)) (mvT hZ (own_w hw 97 rfl)) (by decide) (backOf (W := 0) (rm_get2_0 l Z a0 hw [] a c0 c1 k_a h0 n0 (show n0 ≤ h0.size by omega) hrc0 hrc1 V_a O0 S__assertionsDisabled S_HI_BYTE_SHIFT S_LO_BYTE_SHIFT) hZ (own_w hw 97 rfl) (own_w hw 66 rfl) (by decide) (by decide)) (g := (mkF m 7 #[rv a, iv 0] [(.int 0), (.ref a)])) rfl (by rw [hml]; rfl) (argsL := [(.ref a), (.int 0)]) (rest := []) (lenOf pd_6 rfl) rfl (by show 2 * 0 + _ ≤ _; exact Nat.le_of_eq rfl) (hb hby d_jdk_52_83_7) (fun _ _ => ⟨rfl, e1, (by decide : 0 + 0 ≤ _), (by decide : 0 + 0 ≤ _)⟩)
  dsimp only [Pt.U, Pt.locs, Pt.cells, Pt.slots] at X2 l2 y2 z2 st2 hQ2
  subst l2 y2 z2
  obtain ⟨rfl, M2, e2⟩ := hQ2
  have N2 := Fr.app N1 M2
  refine og T2 (mkF m 10 #[rv a, iv 0] [(.int c0)]) (fun t_ k_ => st2 _ k_) ?_
  exact own_out X2 (v := some (.int (nar .char c0))) (fun h => by rw [hret] at h; cases h) hlk (fun fs hr => retN X2 hx (t := .char) hret (by simp) (hb hby d_jdk_52_83_10) hr) (Q := Q_rm_uch2_0 Z a c0 c1 k_a fm h0 n0) (by rw [e2]; exact ⟨(congrArg (fun z => some (Value.int z)) (own_narc16 hrc0)), N2, rfl⟩) (by decide) (by decide)
def Q_rm_cha2_0 (Z : State) (a : Nat) (n_a : Nat) (c0 : Int32) (c1 : Int32) (cz : Int32) (fm : Value) (h0 : Heap) (n0 : Nat) (vv : Option Value) (h : Heap) (LL : List Loc) : Prop := vv = some (.int c0) ∧ Fr n0 LL ∧ h = h0
set_option maxRecDepth 65536 in
set_option maxHeartbeats 40000000 in
theorem rm_cha2_0 (l : Launch) (Z : State) (a0 : Array Value) (hw : ∀ d ∈ tables_1, d.before a0 Z = true) (ws : List Jvm.Cond) (a : Nat) (n_a : Nat) (c0 : Int32) (c1 : Int32) (cz : Int32) (fm : Value) (h0 : Heap) (n0 : Nat) (Z0 : n0 ≤ h0.size) (S_a : own_Sw Z h0 n_a a [c0, c1]) (hrc0 : ¬ (c0 < (0 : Int32)) ∧ ¬ ((65535 : Int32) < c0)) (hrc1 : ¬ (c1 < (0 : Int32)) ∧ ¬ ((65535 : Int32) < c1)) (O0 : Old Z n0 h0) (S_COMPACT_STRINGS : Sta Z Z.heap "java/lang/String" "COMPACT_STRINGS" "Z" (.int cz)) (hcz : ¬ cz = (0 : Int32)) (S__assertionsDisabled : Sta Z Z.heap "java/lang/StringUTF16" "$assertionsDisabled" "Z" (.int 1)) (S_HI_BYTE_SHIFT : Sta Z Z.heap "java/lang/StringUTF16" "HI_BYTE_SHIFT" "I" (.int 0)) (S_LO_BYTE_SHIFT : Sta Z Z.heap "java/lang/StringUTF16" "LO_BYTE_SHIFT" "I" (.int 8)) (rf : fm.isRef = true) (S_SIOOBE_FORMATTER : Sta Z Z.heap "jdk/internal/util/Preconditions" "SIOOBE_FORMATTER" "Ljava/util/function/BiFunction;" fm) :
    own_MF l ym_20 jdk_42_method_56_code 2 (some .char) ⟨4, 0, 0, 53⟩ ws Z #[(.ref a), (.int 0)] h0 (Q_rm_cha2_0 Z a n_a c0 c1 cz fm h0 n0) := by
  refine own_begin (plainFor_of_name pn_1) (fun m => ef_39 m a) ?_
  intro p e s m below meth c s₁ hret hx hby hml hown hnm hlk X0 e0 hh hZ
  have N0 := Fr.nil n0
  have lt_S_a := own_ltN S_a.lt
  obtain ⟨sE, sa, tt0, kk0, stt, sV, sCA⟩ := id S_a
  rcases sCA with ⟨sC, sP, sA⟩ | ⟨sC, sA⟩
  · skip
    have sA' : Arv Z h0 tt0 kk0 .byte (2 : Int32) [(.int c0.toInt8.toInt32), (.int c1.toInt8.toInt32)] (.int (0 : Int32)) := sA
    refine og s₁ (mkF m 1 #[rv a, iv 0] [(.ref a)]) (fun t_ k_ => XS.aloadN X0.here hx rfl (hb hby d_jdk_42_56_0) rfl rfl k_) ?_
    obtain ⟨cq1, kq1, q1a, q1b, q1c⟩ := isOf hZ e0 sE
    obtain ⟨_, _, ⟨T1, L1, k1, n1⟩, -, X1, ⟨Lc1, hQ1, l1, y1, z1⟩, st1⟩ := X0.virtualBack hx (y := ym_2) (z := ym_2) hown (mvT hZ (own_w hw 17 rfl)) (mvT hZ (own_w hw 18 rfl)) (notFace_of_selects (args := #[]) (mvT hZ (own_w hw 20 rfl))) (mvT hZ (own_w hw 20 rfl)) (mvT hZ (own_w hw 19 rfl)) (by decide) (backOf (W := 0) (rm_isl0 l Z a0 hw [] a cz h0 n0 (show n0 ≤ h0.size by omega) sC O0 S_COMPACT_STRINGS hcz sE) hZ (own_w hw 21 rfl) (own_w hw 5 rfl) (by decide) (by decide)) q1a q1c (g := (mkF m 1 #[rv a, iv 0] [(.ref a)])) rfl (by rw [hml]; rfl) (Steps.refl _) (argsL := []) (rest := []) (lenOf pd_14 rfl) rfl (by show 2 * 0 + _ ≤ _; exact Nat.le_of_eq rfl) (hb hby d_jdk_42_56_1) (fun _ _ => ⟨rfl, e0, (by decide : 0 + 0 ≤ _), (by decide : 0 + 0 ≤ _)⟩)
    dsimp only [Pt.U, Pt.locs, Pt.cells, Pt.slots] at X1 l1 y1 z1 st1 hQ1
    subst l1 y1 z1
    obtain ⟨rfl, M1, e1⟩ := hQ1
    have N1 := Fr.app N0 M1
    refine og T1 (mkF m 4 #[rv a, iv 0] [(.int 1)]) (fun t_ k_ => st1.trans k_) ?_
    refine og T1 (mkF m 7 #[rv a, iv 0] []) (fun t_ k_ => XS.ifNo X1.here hx rfl (hb hby d_jdk_42_56_4) rfl ((if0 _ _).trans (feq (by decide)).1) k_) ?_
    refine og T1 (mkF m 8 #[rv a, iv 0] [(.ref a)]) (fun t_ k_ => XS.aloadN X1.here hx rfl (hb hby d_jdk_42_56_7) rfl rfl k_) ?_
    obtain ⟨T2, X2, e2, st2⟩ := getF X1 hx hZ hown (host := "") (Or.inl (own_w hw 24 rfl)) Via.refl e1 sV (g := (mkF m 8 #[rv a, iv 0] [(.ref a)])) rfl rfl (hb hby d_jdk_42_56_8)
    refine og T2 (mkF m 11 #[rv a, iv 0] [(.ref tt0)]) (fun t_ k_ => st2 _ k_) ?_
    refine og T2 (mkF m 12 #[rv a, iv 0] [(.int 0), (.ref tt0)]) (fun t_ k_ => XS.iloadN X2.here hx rfl (hb hby d_jdk_42_56_11) rfl k_) ?_
    obtain ⟨_, _, ⟨T3, L3, k3, n3⟩, -, X3, ⟨Lc3, hQ3, l3, y3, z3⟩, st3⟩ := Jvm.LawKit.callS X2 hx (y := ym_16) hown (mvT hZ (own_w hw 25 rfl)) (mvT hZ (own_w hw 26 rfl)) (mvT hZ (own_w hw 27 rfl)) (mvT hZ (own_w hw 28 rfl)) (by decide) (backOf (W := 0) (rm_lch2_0 l Z a0 hw [] tt0 fm c0 c1 kk0 h0 n0 (show n0 ≤ h0.size by omega) rf O0 S_SIOOBE_FORMATTER (sP _ (List.mem_of_getElem? (i := 0) rfl)) sA') hZ (own_w hw 28 rfl) (own_w hw 27 rfl) (by decide) (by decide)) (g := (mkF m 12 #[rv a, iv 0] [(.int 0), (.ref tt0)])) rfl (by rw [hml]; rfl) (argsL := [(.ref tt0), (.int 0)]) (rest := []) (lenOf pd_6 rfl) rfl (by show 2 * 0 + _ ≤ _; exact Nat.le_of_eq rfl) (hb hby d_jdk_42_56_12) (fun _ _ => ⟨rfl, e2, (by decide : 0 + 0 ≤ _), (by decide : 0 + 0 ≤ _)⟩)
    dsimp only [Pt.U, Pt.locs, Pt.cells, Pt.slots] at X3 l3 y3 z3 st3 hQ3
    subst l3 y3 z3
    obtain ⟨rfl, M3, e3⟩ := hQ3
    have N3 := Fr.app N1 M3
    refine og T3 (mkF m 15 #[rv a, iv 0] [(.int c0)]) (fun t_ k_ => st3 _ k_) ?_
    exact own_out X3 (v := some (.int (nar .char c0))) (fun h => by rw [hret] at h; cases h) hlk (fun fs hr => retN X3 hx (t := .char) hret (by simp) (hb hby d_jdk_42_56_15) hr) (Q := Q_rm_cha2_0 Z a n_a c0 c1 cz fm h0 n0) (by rw [e3]; exact ⟨(congrArg (fun z => some (Value.int z)) (own_narc16 hrc0)), N3, rfl⟩) (by decide) (by decide)
  · skip
    have sA' : Arv Z h0 tt0 kk0 .byte (4 : Int32) [(.int ((c0 >>> ((0 : Int32) &&& 31)).toInt8.toInt32)), (.int ((c0 >>> ((8 : Int32) &&& 31)).toInt8.toInt32)), (.int ((c1 >>> ((0 : Int32) &&& 31)).toInt8.toInt32)), (.int ((c1 >>> ((8 : Int32) &&& 31)).toInt8.toInt32))] (.int (0 : Int32)) := sA
    refine og s₁ (mkF m 1 #[rv a, iv 0] [(.ref a)]) (fun t_ k_ => XS.aloadN X0.here hx rfl (hb hby d_jdk_42_56_0) rfl rfl k_) ?_
    obtain ⟨cq4, kq4, q4a, q4b, q4c⟩ := isOf hZ e0 sE
    obtain ⟨_, _, ⟨T4, L4, k4, n4⟩, -, X4, ⟨Lc4, hQ4, l4, y4, z4⟩, st4⟩ := X0.virtualBack hx (y := ym_2) (z := ym_2) hown (mvT hZ (own_w hw 17 rfl)) (mvT hZ (own_w hw 18 rfl)) (notFace_of_selects (args := #[]) (mvT hZ (own_w hw 20 rfl))) (mvT hZ (own_w hw 20 rfl)) (mvT hZ (own_w hw 19 rfl)) (by decide) (backOf (W := 0) (rm_isl1 l Z a0 hw [] a cz h0 n0 (show n0 ≤ h0.size by omega) sC O0 S_COMPACT_STRINGS hcz sE) hZ (own_w hw 21 rfl) (own_w hw 5 rfl) (by decide) (by decide)) q4a q4c (g := (mkF m 1 #[rv a, iv 0] [(.ref a)])) rfl (by rw [hml]; rfl) (Steps.refl _) (argsL := []) (rest := []) (lenOf pd_14 rfl) rfl (by show 2 * 0 + _ ≤ _; exact Nat.le_of_eq rfl) (hb hby d_jdk_42_56_1) (fun _ _ => ⟨rfl, e0, (by decide : 0 + 0 ≤ _), (by decide : 0 + 0 ≤ _)⟩)
    dsimp only [Pt.U, Pt.locs, Pt.cells, Pt.slots] at X4 l4 y4 z4 st4 hQ4
    subst l4 y4 z4
    obtain ⟨rfl, M4, e4⟩ := hQ4
    have N4 := Fr.app N0 M4
    refine og T4 (mkF m 4 #[rv a, iv 0] [(.int 0)]) (fun t_ k_ => st4.trans k_) ?_
    refine og T4 (mkF m 16 #[rv a, iv 0] []) (fun t_ k_ => XS.ifYes X4.here hx rfl (pc0 := 4) (pc' := 16) rfl (hb hby d_jdk_42_56_4) rfl ((if0 _ _).trans (teq (by decide)).1) (by decide) (by decide) k_) ?_
    refine og T4 (mkF m 17 #[rv a, iv 0] [(.ref a)]) (fun t_ k_ => XS.aloadN X4.here hx rfl (hb hby d_jdk_42_56_16) rfl rfl k_) ?_
    obtain ⟨T5, X5, e5, st5⟩ := getF X4 hx hZ hown (host := "") (Or.inl (own_w hw 24 rfl)) Via.refl e4 sV (g := (mkF m 17 #[rv a, iv 0] [(.ref a)])) rfl rfl (hb hby d_jdk_42_56_17)
    refine og T5 (mkF m 20 #[rv a, iv 0] [(.ref tt0)]) (fun t_ k_ => st5 _ k_) ?_
    refine og T5 (mkF m 21 #[rv a, iv 0] [(.int 0), (.ref tt0)]) (fun t_ k_ => XS.iloadN X5.here hx rfl (hb hby d_jdk_42_56_20) rfl k_) ?_
    obtain ⟨_, _, ⟨T6, L6, k6, n6⟩, -, X6, ⟨Lc6, hQ6, l6, y6, z6⟩, st6⟩ := Jvm.LawKit.callS X5 hx (y := ym_19) hown (mvT hZ (own_w hw 98 rfl)) (mvT hZ (own_w hw 99 rfl)) (mvT hZ (own_w hw 66 rfl)) (mvT hZ (own_w hw 100 rfl)) (by decide) (backOf (W := 0) (rm_uch2_0 l Z a0 hw [] tt0 c0 c1 kk0 fm h0 n0 (show n0 ≤ h0.size by omega) hrc0 hrc1 sA' O0 S__assertionsDisabled S_HI_BYTE_SHIFT S_LO_BYTE_SHIFT rf S_SIOOBE_FORMATTER) hZ (own_w hw 100 rfl) (own_w hw 66 rfl) (by decide) (by decide)) (g := (mkF m 21 #[rv a, iv 0] [(.int 0), (.ref tt0)])) rfl (by rw [hml]; rfl) (argsL := [(.ref tt0), (.int 0)]) (rest := []) (lenOf pd_6 rfl) rfl (by show 2 * 0 + _ ≤ _; exact Nat.le_of_eq rfl) (hb hby d_jdk_42_56_21) (fun _ _ => ⟨rfl, e5, (by decide : 0 + 0 ≤ _), (by decide : 0 + 0 ≤ _)⟩)
    dsimp only [Pt.U, Pt.locs, Pt.cells, Pt.slots] at X6 l6 y6 z6 st6 hQ6
    subst l6 y6 z6
    obtain ⟨rfl, M6, e6⟩ := hQ6
    have N6 := Fr.app N4 M6
    refine og T6 (mkF m 24 #[rv a, iv 0] [(.int c0)]) (fun t_ k_ => st6 _ k_) ?_
    exact own_out X6 (v := some (.int (nar .char c0))) (fun h => by rw [hret] at h; cases h) hlk (fun fs hr => retN X6 hx (t := .char) hret (by simp) (hb hby d_jdk_42_56_24) hr) (Q := Q_rm_cha2_0 Z a n_a c0 c1 cz fm h0 n0) (by rw [e6]; exact ⟨(congrArg (fun z => some (Value.int z)) (own_narc16 hrc0)), N6, rfl⟩) (by decide) (by decide)
theorem ef_40 (m : MethodId) (a : Nat) : entryFrame m #[(.ref a), (.int 1)] 2 = mkF m 0 #[rv a, iv 1] [] := by first | (simp [entryFrame, mkF, argsToLocals, Value.category]; done) | rfl
def Q_rm_lch2_1 (Z : State) (a : Nat) (fm : Value) (c0 : Int32) (c1 : Int32) (k_a : ClassId) (h0 : Heap) (n0 : Nat) (vv : Option Value) (h : Heap) (LL : List Loc) : Prop := vv = some (.int c1) ∧ Fr n0 LL ∧ h = h0
set_option maxRecDepth 65536 in
set_option maxHeartbeats 40000000 in
theorem rm_lch2_1 (l : Launch) (Z : State) (a0 : Array Value) (hw : ∀ d ∈ tables_1, d.before a0 Z = true) (ws : List Jvm.Cond) (a : Nat) (fm : Value) (c0 : Int32) (c1 : Int32) (k_a : ClassId) (h0 : Heap) (n0 : Nat) (Z0 : n0 ≤ h0.size) (rf : fm.isRef = true) (O0 : Old Z n0 h0) (S_SIOOBE_FORMATTER : Sta Z Z.heap "jdk/internal/util/Preconditions" "SIOOBE_FORMATTER" "Ljava/util/function/BiFunction;" fm) (hb0 : ¬ (c1 < (0 : Int32)) ∧ ¬ ((255 : Int32) < c1)) (V_a : Arv Z h0 a k_a .byte (2 : Int32) [(.int c0.toInt8.toInt32), (.int c1.toInt8.toInt32)] (.int (0 : Int32))) :
    own_MF l ym_16 jdk_43_method_2_code 2 (some .char) ⟨2, 0, 0, 27⟩ ws Z #[(.ref a), (.int 1)] h0 (Q_rm_lch2_1 Z a fm c0 c1 k_a h0 n0) := by
  refine own_begin (plainFor_of_name pn_4) (fun m => ef_40 m a) ?_
  intro p e s m below meth c s₁ hret hx hby hml hown hnm hlk X0 e0 hh hZ
  have N0 := Fr.nil n0
  have lt_V_a := own_ltN V_a.lt
  refine og s₁ (mkF m 1 #[rv a, iv 1] [(.int 1)]) (fun t_ k_ => XS.iloadN X0.here hx rfl (hb hby d_jdk_43_2_0) rfl k_) ?_
  refine og s₁ (mkF m 2 #[rv a, iv 1] [(.ref a), (.int 1)]) (fun t_ k_ => XS.aloadN X0.here hx rfl (hb hby d_jdk_43_2_1) rfl rfl k_) ?_
  obtain ⟨cl1, Ar1, -, S1, Nn1, -, -⟩ := id V_a
  refine og s₁ (mkF m 3 #[rv a, iv 1] [(.int 2), (.int 1)]) (fun t_ k_ => X0.arraylength hx (by rw [e0]; exact Ar1.1) (State.isArrayOf_alike hZ.alike Ar1.2.1) (g := (mkF m 2 #[rv a, iv 1] [(.ref a), (.int 1)])) rfl rfl (hb hby d_jdk_43_2_2) _ (by rw [len_of S1 Nn1]; exact k_)) ?_
  obtain ⟨_, _, ⟨T2, L2, k2, n2⟩, -, X2, ⟨Lc2, hQ2, l2, y2, z2⟩, st2⟩ := Jvm.LawKit.callS X0 hx (y := ym_1) hown (mvT hZ (own_w hw 29 rfl)) (mvT hZ (own_w hw 30 rfl)) (mvT hZ (own_w hw 5 rfl)) (mvT hZ (own_w hw 31 rfl)) (by decide) (backOf (W := 0) (rm_ci l Z a0 hw [] (1 : Int32) (2 : Int32) fm h0 n0 (show n0 ≤ h0.size by omega) (by decide) (by decide) rf O0 S_SIOOBE_FORMATTER) hZ (own_w hw 31 rfl) (own_w hw 5 rfl) (by decide) (by decide)) (g := (mkF m 3 #[rv a, iv 1] [(.int 2), (.int 1)])) rfl (by rw [hml]; rfl) (argsL := [(.int 1), (.int 2)]) (rest := []) (lenOf pd_11 rfl) rfl (by show 2 * 0 + _ ≤ _; exact Nat.le_of_eq rfl) (hb hby d_jdk_43_2_3) (fun _ _ => ⟨rfl, e0, (by decide : 0 + 0 ≤ _), (by decide : 0 + 0 ≤ _)⟩)
  dsimp only [Pt.U, Pt.locs, Pt.cells, Pt.slots] at X2 l2 y2 z2 st2 hQ2
  subst l2 y2 z2
  obtain ⟨rfl, M2, e2⟩ := hQ2
  have N2 := Fr.app N0 M2
  refine og T2 (mkF m 6 #[rv a, iv 1] []) (fun t_ k_ => st2 _ k_) ?_
  refine og T2 (mkF m 7 #[rv a, iv 1] [(.ref a)]) (fun t_ k_ => XS.aloadN X2.here hx rfl (hb hby d_jdk_43_2_6) rfl rfl k_) ?_
  refine og T2 (mkF m 8 #[rv a, iv 1] [(.int 1), (.ref a)]) (fun t_ k_ => XS.iloadN X2.here hx rfl (hb hby d_jdk_43_2_7) rfl k_) ?_
  obtain ⟨cl3, Ar3, -, S3, Nn3, H3, -⟩ := id V_a
  have hin3 : ¬ ((1 : Int32) < 0 ∨ cl3.slots.size ≤ ((1 : Int32)).toNatClampNeg) := inb_of S3 ⟨by decide, by decide⟩
  refine og T2 (mkF m 9 #[rv a, iv 1] [(.int c1.toInt8.toInt32)]) (fun t_ k_ => X2.baloadBytes hx (j := (1 : Int32)) (v := (.int c1.toInt8.toInt32)) (by rw [e2]; exact Ar3.1) (State.isArrayOf_alike hZ.alike Ar3.2.1) Ar3.2.2 hin3 (H3.at hin3 rfl) (g := (mkF m 8 #[rv a, iv 1] [(.int 1), (.ref a)])) rfl rfl (hb hby d_jdk_43_2_8) _ k_) ?_
  refine og T2 (mkF m 12 #[rv a, iv 1] [(.int 255), (.int c1.toInt8.toInt32)]) (fun t_ k_ => XS.sipush X2.here hx rfl (hb hby d_jdk_43_2_9) k_) ?_
  refine og T2 (mkF m 13 #[rv a, iv 1] [(.int (c1.toInt8.toInt32 &&& (255 : Int32)))]) (fun t_ k_ => XS.iand X2.here hx rfl (hb hby d_jdk_43_2_12) rfl k_) ?_
  refine og T2 (mkF m 14 #[rv a, iv 1] [(.int ((c1.toInt8.toInt32 &&& (255 : Int32)).toUInt32.toUInt16.toUInt32.toInt32))]) (fun t_ k_ => XS.i2c X2.here hx rfl (hb hby d_jdk_43_2_13) rfl k_) ?_
  exact own_out X2 (v := some (.int (nar .char ((c1.toInt8.toInt32 &&& (255 : Int32)).toUInt32.toUInt16.toUInt32.toInt32)))) (fun h => by rw [hret] at h; cases h) hlk (fun fs hr => retN X2 hx (t := .char) hret (by simp) (hb hby d_jdk_43_2_14) hr) (Q := Q_rm_lch2_1 Z a fm c0 c1 k_a h0 n0) (by rw [e2]; exact ⟨(congrArg (fun z => some (Value.int z)) ((own_narc16 (own_i2cr _)).trans (own_lat hb0.1 hb0.2))), N2, rfl⟩) (by decide) (by decide)
theorem ef_41 (m : MethodId) (a : Nat) : entryFrame m #[(.int 1), (.ref a)] 2 = mkF m 0 #[iv 1, rv a] [] := by first | (simp [entryFrame, mkF, argsToLocals, Value.category]; done) | rfl
def Q_rm_uci2_1 (Z : State) (a : Nat) (fm : Value) (y0 : Int32) (y1 : Int32) (y2 : Int32) (y3 : Int32) (k_a : ClassId) (h0 : Heap) (n0 : Nat) (vv : Option Value) (h : Heap) (LL : List Loc) : Prop := vv = none ∧ Fr n0 LL ∧ h = h0
set_option maxRecDepth 65536 in
set_option maxHeartbeats 40000000 in
theorem rm_uci2_1 (l : Launch) (Z : State) (a0 : Array Value) (hw : ∀ d ∈ tables_1, d.before a0 Z = true) (ws : List Jvm.Cond) (a : Nat) (fm : Value) (y0 : Int32) (y1 : Int32) (y2 : Int32) (y3 : Int32) (k_a : ClassId) (h0 : Heap) (n0 : Nat) (Z0 : n0 ≤ h0.size) (rf : fm.isRef = true) (O0 : Old Z n0 h0) (S_SIOOBE_FORMATTER : Sta Z Z.heap "jdk/internal/util/Preconditions" "SIOOBE_FORMATTER" "Ljava/util/function/BiFunction;" fm) (V_a : Arv Z h0 a k_a .byte (4 : Int32) [(.int y0), (.int y1), (.int y2), (.int y3)] (.int (0 : Int32))) :
    own_MF l ym_18 jdk_52_method_91_code 2 none ⟨2, 0, 0, 27⟩ ws Z #[(.int 1), (.ref a)] h0 (Q_rm_uci2_1 Z a fm y0 y1 y2 y3 k_a h0 n0) := by
  refine own_begin (plainFor_of_name pn_2) (fun m => ef_41 m a) ?_
  intro p e s m below meth c s₁ hret hx hby hml hown hnm hlk X0 e0 hh hZ
  have N0 := Fr.nil n0
  have lt_V_a := own_ltN V_a.lt
  refine og s₁ (mkF m 1 #[iv 1, rv a] [(.int 1)]) (fun t_ k_ => XS.iloadN X0.here hx rfl (hb hby d_jdk_52_91_0) rfl k_) ?_
  refine og s₁ (mkF m 2 #[iv 1, rv a] [(.ref a), (.int 1)]) (fun t_ k_ => XS.aloadN X0.here hx rfl (hb hby d_jdk_52_91_1) rfl rfl k_) ?_
  obtain ⟨_, _, ⟨T1, L1, k1, n1⟩, -, X1, ⟨Lc1, hQ1, l1, y1, z1⟩, st1⟩ := Jvm.LawKit.callS X0 hx (y := ym_17) hown (mvT hZ (own_w hw 104 rfl)) (mvT hZ (own_w hw 105 rfl)) (mvT hZ (own_w hw 66 rfl)) (mvT hZ (own_w hw 106 rfl)) (by decide) (backOf (W := 1) (rm_ul2 l Z a0 hw [] a y0 y1 y2 y3 k_a h0 n0 (show n0 ≤ h0.size by omega) V_a) hZ (own_w hw 106 rfl) (own_w hw 66 rfl) (by decide) (by decide)) (g := (mkF m 2 #[iv 1, rv a] [(.ref a), (.int 1)])) rfl (by rw [hml]; rfl) (argsL := [(.ref a)]) (rest := [(.int 1)]) (lenOf pd_12 rfl) rfl (by show 2 * 0 + _ ≤ _; exact Nat.le_of_eq rfl) (hb hby d_jdk_52_91_2) (fun _ _ => ⟨rfl, e0, (by decide : 0 + 0 ≤ _), (by decide : 0 + 0 ≤ _)⟩)
  dsimp only [Pt.U, Pt.locs, Pt.cells, Pt.slots] at X1 l1 y1 z1 st1 hQ1
  subst l1 y1 z1
  obtain ⟨rfl, M1, e1⟩ := hQ1
  have N1 := Fr.app N0 M1
  refine og T1 (mkF m 5 #[iv 1, rv a] [(.int 2), (.int 1)]) (fun t_ k_ => st1 _ k_) ?_
  obtain ⟨_, _, ⟨T2, L2, k2, n2⟩, -, X2, ⟨Lc2, hQ2, l2, y2, z2⟩, st2⟩ := Jvm.LawKit.callS X1 hx (y := ym_1) hown (mvT hZ (own_w hw 107 rfl)) (mvT hZ (own_w hw 30 rfl)) (mvT hZ (own_w hw 5 rfl)) (mvT hZ (own_w hw 31 rfl)) (by decide) (backOf (W := 0) (rm_ci l Z a0 hw [] (1 : Int32) (2 : Int32) fm h0 n0 (show n0 ≤ h0.size by omega) (by decide) (by decide) rf O0 S_SIOOBE_FORMATTER) hZ (own_w hw 31 rfl) (own_w hw 5 rfl) (by decide) (by decide)) (g := (mkF m 5 #[iv 1, rv a] [(.int 2), (.int 1)])) rfl (by rw [hml]; rfl) (argsL := [(.int 1), (.int 2)]) (rest := []) (lenOf pd_11 rfl) rfl (by show 2 * 0 + _ ≤ _; exact Nat.le_of_eq rfl) (hb hby d_jdk_52_91_5) (fun _ _ => ⟨rfl, e1, (by decide : 0 + 0 ≤ _), (by decide : 0 + 0 ≤ _)⟩)
  dsimp only [Pt.U, Pt.locs, Pt.cells, Pt.slots] at X2 l2 y2 z2 st2 hQ2
  subst l2 y2 z2
  obtain ⟨rfl, M2, e2⟩ := hQ2
  have N2 := Fr.app N1 M2
  refine og T2 (mkF m 8 #[iv 1, rv a] []) (fun t_ k_ => st2 _ k_) ?_
  exact own_out X2 (v := none) (fun _ => rfl) hlk (fun fs hr => X2.returnOut hx hret (hb hby d_jdk_52_91_8) hr) (Q := Q_rm_uci2_1 Z a fm y0 y1 y2 y3 k_a h0 n0) (by rw [e2]; exact ⟨rfl, N2, rfl⟩) (by decide) (by decide)
theorem ef_42 (m : MethodId) (a : Nat) : entryFrame m #[(.ref a), (.int 1)] 2 = mkF m 0 #[rv a, iv 1] [] := by first | (simp [entryFrame, mkF, argsToLocals, Value.category]; done) | rfl
def Q_rm_uch2_1 (Z : State) (a : Nat) (c0 : Int32) (c1 : Int32) (k_a : ClassId) (fm : Value) (h0 : Heap) (n0 : Nat) (vv : Option Value) (h : Heap) (LL : List Loc) : Prop := vv = some (.int c1) ∧ Fr n0 LL ∧ h = h0
set_option maxRecDepth 65536 in
set_option maxHeartbeats 40000000 in
theorem rm_uch2_1 (l : Launch) (Z : State) (a0 : Array Value) (hw : ∀ d ∈ tables_1, d.before a0 Z = true) (ws : List Jvm.Cond) (a : Nat) (c0 : Int32) (c1 : Int32) (k_a : ClassId) (fm : Value) (h0 : Heap) (n0 : Nat) (Z0 : n0 ≤ h0.size) (hrc0 : ¬ (c0 < (0 : Int32)) ∧ ¬ ((65535 : Int32) < c0)) (hrc1 : ¬ (c1 < (0 : Int32)) ∧ ¬ ((65535 : Int32) < c1)) (V_a : Arv Z h0 a k_a .byte (4 : Int32) [(.int ((c0 >>> ((0 : Int32) &&& 31)).toInt8.toInt32)), (.int ((c0 >>> ((8 : Int32) &&& 31)).toInt8.toInt32)), (.int ((c1 >>> ((0 : Int32) &&& 31)).toInt8.toInt32)), (.int ((c1 >>> ((8 : Int32) &&& 31)).toInt8.toInt32))] (.int (0 : Int32))) (O0 : Old Z n0 h0) (S__assertionsDisabled : Sta Z Z.heap "java/lang/StringUTF16" "$assertionsDisabled" "Z" (.int 1)) (S_HI_BYTE_SHIFT : Sta Z Z.heap "java/lang/StringUTF16" "HI_BYTE_SHIFT" "I" (.int 0)) (S_LO_BYTE_SHIFT : Sta Z Z.heap "java/lang/StringUTF16" "LO_BYTE_SHIFT" "I" (.int 8)) (rf : fm.isRef = true) (S_SIOOBE_FORMATTER : Sta Z Z.heap "jdk/internal/util/Preconditions" "SIOOBE_FORMATTER" "Ljava/util/function/BiFunction;" fm) :
    own_MF l ym_19 jdk_52_method_83_code 2 (some .char) ⟨3, 0, 0, 40⟩ ws Z #[(.ref a), (.int 1)] h0 (Q_rm_uch2_1 Z a c0 c1 k_a fm h0 n0) := by
  refine own_begin (plainFor_of_name pn_2) (fun m => ef_42 m a) ?_
  intro p e s m below meth c s₁ hret hx hby hml hown hnm hlk X0 e0 hh hZ
  have N0 := Fr.nil n0
  have lt_V_a := own_ltN V_a.lt
  refine og s₁ (mkF m 1 #[rv a, iv 1] [(.int 1)]) (fun t_ k_ => XS.iloadN X0.here hx rfl (hb hby d_jdk_52_83_0) rfl k_) ?_
  refine og s₁ (mkF m 2 #[rv a, iv 1] [(.ref a), (.int 1)]) (fun t_ k_ => XS.aloadN X0.here hx rfl (hb hby d_jdk_52_83_1) rfl rfl k_) ?_
  obtain ⟨_, _, ⟨T1, L1, k1, n1⟩, -, X1, ⟨Lc1, hQ1, l1, y1, z1⟩, st1⟩ := Jvm.LawKit.callS X0 hx (y := ym_18) hown (mvT hZ (own_w hw 101 rfl)) (mvT hZ (own_w hw 102 rfl)) (mvT hZ (own_w hw 66 rfl)) (mvT hZ (own_w hw 103 rfl)) (by decide) (backOf (W := 0) (rm_uci2_1 l Z a0 hw [] a fm ((c0 >>> ((0 : Int32) &&& 31)).toInt8.toInt32) ((c0 >>> ((8 : Int32) &&& 31)).toInt8.toInt32) ((c1 >>> ((0 : Int32) &&& 31)).toInt8.toInt32) ((c1 >>> ((8 : Int32) &&& 31)).toInt8.toInt32) k_a h0 n0 (show n0 ≤ h0.size by omega) rf O0 S_SIOOBE_FORMATTER V_a) hZ (own_w hw 103 rfl) (own_w hw 66 rfl) (by decide) (by decide)) (g := (mkF m 2 #[rv a, iv 1] [(.ref a), (.int 1)])) rfl (by rw [hml]; rfl) (argsL := [(.int 1), (.ref a)]) (rest := []) (lenOf pd_13 rfl) rfl (by show 2 * 0 + _ ≤ _; exact Nat.le_of_eq rfl) (hb hby d_jdk_52_83_2) (fun _ _ => ⟨rfl, e0, (by decide : 0 + 0 ≤ _), (by decide : 0 + 0 ≤ _)⟩)
  dsimp only [Pt.U, Pt.locs, Pt.cells, Pt.slots] at X1 l1 y1 z1 st1 hQ1
  subst l1 y1 z1
  obtain ⟨rfl, M1, e1⟩ := hQ1
  have N1 := Fr.app N0 M1
  refine og T1 (mkF m 5 #[rv a, iv 1] []) (fun t_ k_ => st1 _ k_) ?_
  refine og T1 (mkF m 6 #[rv a, iv 1] [(.ref a)]) (fun t_ k_ => XS.aloadN X1.here hx rfl (hb hby d_jdk_52_83_5) rfl rfl k_) ?_
  refine og T1 (mkF m 7 #[rv a, iv 1] [(.int 1), (.ref a)]) (fun t_ k_ => XS.iloadN X1.here hx rfl (hb hby d_jdk_52_83_6) rfl k_) ?_
  obtain ⟨_, _, ⟨T2, L2, k2, n2⟩, -, X2, ⟨Lc2, hQ2, l2, y2, z2⟩, st2⟩ := Jvm.LawKit.callS X1 hx (y := ym_7) hown (mvT hZ (own_w hw 95 rfl)) (mvT hZ (own_w hw 96 rfl)) (mvT hZ (own_w hw 66 rfl)) (mvT hZ (own_w hw 97 rfl)) (by decide) (backOf (W := 0) (rm_get2_1 l Z a0 hw [] a c0 c1 k_a h0 n0 (show n0 ≤ h0.size by omega) hrc0 hrc1 V_a O0 S__assertionsDisabled S_HI_BYTE_SHIFT S_LO_BYTE_SHIFT) hZ (own_w hw 97 rfl) (own_w hw 66 rfl) (by decide) (by decide)) (g := (mkF m 7 #[rv a, iv 1] [(.int 1), (.ref a)])) rfl (by rw [hml]; rfl) (argsL := [(.ref a), (.int 1)]) (rest := []) (lenOf pd_6 rfl) rfl (by show 2 * 0 + _ ≤ _; exact Nat.le_of_eq rfl) (hb hby d_jdk_52_83_7) (fun _ _ => ⟨rfl, e1, (by decide : 0 + 0 ≤ _), (by decide : 0 + 0 ≤ _)⟩)
  dsimp only [Pt.U, Pt.locs, Pt.cells, Pt.slots] at X2 l2 y2 z2 st2 hQ2
  subst l2 y2 z2
  obtain ⟨rfl, M2, e2⟩ := hQ2
  have N2 := Fr.app N1 M2
  refine og T2 (mkF m 10 #[rv a, iv 1] [(.int c1)]) (fun t_ k_ => st2 _ k_) ?_
  exact own_out X2 (v := some (.int (nar .char c1))) (fun h => by rw [hret] at h; cases h) hlk (fun fs hr => retN X2 hx (t := .char) hret (by simp) (hb hby d_jdk_52_83_10) hr) (Q := Q_rm_uch2_1 Z a c0 c1 k_a fm h0 n0) (by rw [e2]; exact ⟨(congrArg (fun z => some (Value.int z)) (own_narc16 hrc1)), N2, rfl⟩) (by decide) (by decide)
theorem ef_43 (m : MethodId) (a : Nat) : entryFrame m #[(.ref a), (.int 1)] 2 = mkF m 0 #[rv a, iv 1] [] := by first | (simp [entryFrame, mkF, argsToLocals, Value.category]; done) | rfl
def Q_rm_cha2_1 (Z : State) (a : Nat) (n_a : Nat) (c0 : Int32) (c1 : Int32) (cz : Int32) (fm : Value) (h0 : Heap) (n0 : Nat) (vv : Option Value) (h : Heap) (LL : List Loc) : Prop := vv = some (.int c1) ∧ Fr n0 LL ∧ h = h0
set_option maxRecDepth 65536 in
set_option maxHeartbeats 40000000 in
theorem rm_cha2_1 (l : Launch) (Z : State) (a0 : Array Value) (hw : ∀ d ∈ tables_1, d.before a0 Z = true) (ws : List Jvm.Cond) (a : Nat) (n_a : Nat) (c0 : Int32) (c1 : Int32) (cz : Int32) (fm : Value) (h0 : Heap) (n0 : Nat) (Z0 : n0 ≤ h0.size) (S_a : own_Sw Z h0 n_a a [c0, c1]) (hrc0 : ¬ (c0 < (0 : Int32)) ∧ ¬ ((65535 : Int32) < c0)) (hrc1 : ¬ (c1 < (0 : Int32)) ∧ ¬ ((65535 : Int32) < c1)) (O0 : Old Z n0 h0) (S_COMPACT_STRINGS : Sta Z Z.heap "java/lang/String" "COMPACT_STRINGS" "Z" (.int cz)) (hcz : ¬ cz = (0 : Int32)) (S__assertionsDisabled : Sta Z Z.heap "java/lang/StringUTF16" "$assertionsDisabled" "Z" (.int 1)) (S_HI_BYTE_SHIFT : Sta Z Z.heap "java/lang/StringUTF16" "HI_BYTE_SHIFT" "I" (.int 0)) (S_LO_BYTE_SHIFT : Sta Z Z.heap "java/lang/StringUTF16" "LO_BYTE_SHIFT" "I" (.int 8)) (rf : fm.isRef = true) (S_SIOOBE_FORMATTER : Sta Z Z.heap "jdk/internal/util/Preconditions" "SIOOBE_FORMATTER" "Ljava/util/function/BiFunction;" fm) :
    own_MF l ym_20 jdk_42_method_56_code 2 (some .char) ⟨4, 0, 0, 53⟩ ws Z #[(.ref a), (.int 1)] h0 (Q_rm_cha2_1 Z a n_a c0 c1 cz fm h0 n0) := by
  refine own_begin (plainFor_of_name pn_1) (fun m => ef_43 m a) ?_
  intro p e s m below meth c s₁ hret hx hby hml hown hnm hlk X0 e0 hh hZ
  have N0 := Fr.nil n0
  have lt_S_a := own_ltN S_a.lt
  obtain ⟨sE, sa, tt0, kk0, stt, sV, sCA⟩ := id S_a
  rcases sCA with ⟨sC, sP, sA⟩ | ⟨sC, sA⟩
  · skip
    have sA' : Arv Z h0 tt0 kk0 .byte (2 : Int32) [(.int c0.toInt8.toInt32), (.int c1.toInt8.toInt32)] (.int (0 : Int32)) := sA
    refine og s₁ (mkF m 1 #[rv a, iv 1] [(.ref a)]) (fun t_ k_ => XS.aloadN X0.here hx rfl (hb hby d_jdk_42_56_0) rfl rfl k_) ?_
    obtain ⟨cq1, kq1, q1a, q1b, q1c⟩ := isOf hZ e0 sE
    obtain ⟨_, _, ⟨T1, L1, k1, n1⟩, -, X1, ⟨Lc1, hQ1, l1, y1, z1⟩, st1⟩ := X0.virtualBack hx (y := ym_2) (z := ym_2) hown (mvT hZ (own_w hw 17 rfl)) (mvT hZ (own_w hw 18 rfl)) (notFace_of_selects (args := #[]) (mvT hZ (own_w hw 20 rfl))) (mvT hZ (own_w hw 20 rfl)) (mvT hZ (own_w hw 19 rfl)) (by decide) (backOf (W := 0) (rm_isl0 l Z a0 hw [] a cz h0 n0 (show n0 ≤ h0.size by omega) sC O0 S_COMPACT_STRINGS hcz sE) hZ (own_w hw 21 rfl) (own_w hw 5 rfl) (by decide) (by decide)) q1a q1c (g := (mkF m 1 #[rv a, iv 1] [(.ref a)])) rfl (by rw [hml]; rfl) (Steps.refl _) (argsL := []) (rest := []) (lenOf pd_14 rfl) rfl (by show 2 * 0 + _ ≤ _; exact Nat.le_of_eq rfl) (hb hby d_jdk_42_56_1) (fun _ _ => ⟨rfl, e0, (by decide : 0 + 0 ≤ _), (by decide : 0 + 0 ≤ _)⟩)
    dsimp only [Pt.U, Pt.locs, Pt.cells, Pt.slots] at X1 l1 y1 z1 st1 hQ1
    subst l1 y1 z1
    obtain ⟨rfl, M1, e1⟩ := hQ1
    have N1 := Fr.app N0 M1
    refine og T1 (mkF m 4 #[rv a, iv 1] [(.int 1)]) (fun t_ k_ => st1.trans k_) ?_
    refine og T1 (mkF m 7 #[rv a, iv 1] []) (fun t_ k_ => XS.ifNo X1.here hx rfl (hb hby d_jdk_42_56_4) rfl ((if0 _ _).trans (feq (by decide)).1) k_) ?_
    refine og T1 (mkF m 8 #[rv a, iv 1] [(.ref a)]) (fun t_ k_ => XS.aloadN X1.here hx rfl (hb hby d_jdk_42_56_7) rfl rfl k_) ?_
    obtain ⟨T2, X2, e2, st2⟩ := getF X1 hx hZ hown (host := "") (Or.inl (own_w hw 24 rfl)) Via.refl e1 sV (g := (mkF m 8 #[rv a, iv 1] [(.ref a)])) rfl rfl (hb hby d_jdk_42_56_8)
    refine og T2 (mkF m 11 #[rv a, iv 1] [(.ref tt0)]) (fun t_ k_ => st2 _ k_) ?_
    refine og T2 (mkF m 12 #[rv a, iv 1] [(.int 1), (.ref tt0)]) (fun t_ k_ => XS.iloadN X2.here hx rfl (hb hby d_jdk_42_56_11) rfl k_) ?_
    obtain ⟨_, _, ⟨T3, L3, k3, n3⟩, -, X3, ⟨Lc3, hQ3, l3, y3, z3⟩, st3⟩ := Jvm.LawKit.callS X2 hx (y := ym_16) hown (mvT hZ (own_w hw 25 rfl)) (mvT hZ (own_w hw 26 rfl)) (mvT hZ (own_w hw 27 rfl)) (mvT hZ (own_w hw 28 rfl)) (by decide) (backOf (W := 0) (rm_lch2_1 l Z a0 hw [] tt0 fm c0 c1 kk0 h0 n0 (show n0 ≤ h0.size by omega) rf O0 S_SIOOBE_FORMATTER (sP _ (List.mem_of_getElem? (i := 1) rfl)) sA') hZ (own_w hw 28 rfl) (own_w hw 27 rfl) (by decide) (by decide)) (g := (mkF m 12 #[rv a, iv 1] [(.int 1), (.ref tt0)])) rfl (by rw [hml]; rfl) (argsL := [(.ref tt0), (.int 1)]) (rest := []) (lenOf pd_6 rfl) rfl (by show 2 * 0 + _ ≤ _; exact Nat.le_of_eq rfl) (hb hby d_jdk_42_56_12) (fun _ _ => ⟨rfl, e2, (by decide : 0 + 0 ≤ _), (by decide : 0 + 0 ≤ _)⟩)
    dsimp only [Pt.U, Pt.locs, Pt.cells, Pt.slots] at X3 l3 y3 z3 st3 hQ3
    subst l3 y3 z3
    obtain ⟨rfl, M3, e3⟩ := hQ3
    have N3 := Fr.app N1 M3
    refine og T3 (mkF m 15 #[rv a, iv 1] [(.int c1)]) (fun t_ k_ => st3 _ k_) ?_
    exact own_out X3 (v := some (.int (nar .char c1))) (fun h => by rw [hret] at h; cases h) hlk (fun fs hr => retN X3 hx (t := .char) hret (by simp) (hb hby d_jdk_42_56_15) hr) (Q := Q_rm_cha2_1 Z a n_a c0 c1 cz fm h0 n0) (by rw [e3]; exact ⟨(congrArg (fun z => some (Value.int z)) (own_narc16 hrc1)), N3, rfl⟩) (by decide) (by decide)
  · skip
    have sA' : Arv Z h0 tt0 kk0 .byte (4 : Int32) [(.int ((c0 >>> ((0 : Int32) &&& 31)).toInt8.toInt32)), (.int ((c0 >>> ((8 : Int32) &&& 31)).toInt8.toInt32)), (.int ((c1 >>> ((0 : Int32) &&& 31)).toInt8.toInt32)), (.int ((c1 >>> ((8 : Int32) &&& 31)).toInt8.toInt32))] (.int (0 : Int32)) := sA
    refine og s₁ (mkF m 1 #[rv a, iv 1] [(.ref a)]) (fun t_ k_ => XS.aloadN X0.here hx rfl (hb hby d_jdk_42_56_0) rfl rfl k_) ?_
    obtain ⟨cq4, kq4, q4a, q4b, q4c⟩ := isOf hZ e0 sE
    obtain ⟨_, _, ⟨T4, L4, k4, n4⟩, -, X4, ⟨Lc4, hQ4, l4, y4, z4⟩, st4⟩ := X0.virtualBack hx (y := ym_2) (z := ym_2) hown (mvT hZ (own_w hw 17 rfl)) (mvT hZ (own_w hw 18 rfl)) (notFace_of_selects (args := #[]) (mvT hZ (own_w hw 20 rfl))) (mvT hZ (own_w hw 20 rfl)) (mvT hZ (own_w hw 19 rfl)) (by decide) (backOf (W := 0) (rm_isl1 l Z a0 hw [] a cz h0 n0 (show n0 ≤ h0.size by omega) sC O0 S_COMPACT_STRINGS hcz sE) hZ (own_w hw 21 rfl) (own_w hw 5 rfl) (by decide) (by decide)) q4a q4c (g := (mkF m 1 #[rv a, iv 1] [(.ref a)])) rfl (by rw [hml]; rfl) (Steps.refl _) (argsL := []) (rest := []) (lenOf pd_14 rfl) rfl (by show 2 * 0 + _ ≤ _; exact Nat.le_of_eq rfl) (hb hby d_jdk_42_56_1) (fun _ _ => ⟨rfl, e0, (by decide : 0 + 0 ≤ _), (by decide : 0 + 0 ≤ _)⟩)
    dsimp only [Pt.U, Pt.locs, Pt.cells, Pt.slots] at X4 l4 y4 z4 st4 hQ4
    subst l4 y4 z4
    obtain ⟨rfl, M4, e4⟩ := hQ4
    have N4 := Fr.app N0 M4
    refine og T4 (mkF m 4 #[rv a, iv 1] [(.int 0)]) (fun t_ k_ => st4.trans k_) ?_
    refine og T4 (mkF m 16 #[rv a, iv 1] []) (fun t_ k_ => XS.ifYes X4.here hx rfl (pc0 := 4) (pc' := 16) rfl (hb hby d_jdk_42_56_4) rfl ((if0 _ _).trans (teq (by decide)).1) (by decide) (by decide) k_) ?_
    refine og T4 (mkF m 17 #[rv a, iv 1] [(.ref a)]) (fun t_ k_ => XS.aloadN X4.here hx rfl (hb hby d_jdk_42_56_16) rfl rfl k_) ?_
    obtain ⟨T5, X5, e5, st5⟩ := getF X4 hx hZ hown (host := "") (Or.inl (own_w hw 24 rfl)) Via.refl e4 sV (g := (mkF m 17 #[rv a, iv 1] [(.ref a)])) rfl rfl (hb hby d_jdk_42_56_17)
    refine og T5 (mkF m 20 #[rv a, iv 1] [(.ref tt0)]) (fun t_ k_ => st5 _ k_) ?_
    refine og T5 (mkF m 21 #[rv a, iv 1] [(.int 1), (.ref tt0)]) (fun t_ k_ => XS.iloadN X5.here hx rfl (hb hby d_jdk_42_56_20) rfl k_) ?_
    obtain ⟨_, _, ⟨T6, L6, k6, n6⟩, -, X6, ⟨Lc6, hQ6, l6, y6, z6⟩, st6⟩ := Jvm.LawKit.callS X5 hx (y := ym_19) hown (mvT hZ (own_w hw 98 rfl)) (mvT hZ (own_w hw 99 rfl)) (mvT hZ (own_w hw 66 rfl)) (mvT hZ (own_w hw 100 rfl)) (by decide) (backOf (W := 0) (rm_uch2_1 l Z a0 hw [] tt0 c0 c1 kk0 fm h0 n0 (show n0 ≤ h0.size by omega) hrc0 hrc1 sA' O0 S__assertionsDisabled S_HI_BYTE_SHIFT S_LO_BYTE_SHIFT rf S_SIOOBE_FORMATTER) hZ (own_w hw 100 rfl) (own_w hw 66 rfl) (by decide) (by decide)) (g := (mkF m 21 #[rv a, iv 1] [(.int 1), (.ref tt0)])) rfl (by rw [hml]; rfl) (argsL := [(.ref tt0), (.int 1)]) (rest := []) (lenOf pd_6 rfl) rfl (by show 2 * 0 + _ ≤ _; exact Nat.le_of_eq rfl) (hb hby d_jdk_42_56_21) (fun _ _ => ⟨rfl, e5, (by decide : 0 + 0 ≤ _), (by decide : 0 + 0 ≤ _)⟩)
    dsimp only [Pt.U, Pt.locs, Pt.cells, Pt.slots] at X6 l6 y6 z6 st6 hQ6
    subst l6 y6 z6
    obtain ⟨rfl, M6, e6⟩ := hQ6
    have N6 := Fr.app N4 M6
    refine og T6 (mkF m 24 #[rv a, iv 1] [(.int c1)]) (fun t_ k_ => st6 _ k_) ?_
    exact own_out X6 (v := some (.int (nar .char c1))) (fun h => by rw [hret] at h; cases h) hlk (fun fs hr => retN X6 hx (t := .char) hret (by simp) (hb hby d_jdk_42_56_24) hr) (Q := Q_rm_cha2_1 Z a n_a c0 c1 cz fm h0 n0) (by rw [e6]; exact ⟨(congrArg (fun z => some (Value.int z)) (own_narc16 hrc1)), N6, rfl⟩) (by decide) (by decide)
def Q_rm_isw2 (Z : State) (a : Nat) (n_a : Nat) (c0 : Int32) (c1 : Int32) (cz : Int32) (fm : Value) (h0 : Heap) (n0 : Nat) (vv : Option Value) (h : Heap) (LL : List Loc) : Prop := vv = some (.int (if own_W c0 then (if own_W c1 then (1 : Int32) else (0 : Int32)) else (0 : Int32))) ∧ Fr n0 LL ∧ h = h0
set_option maxRecDepth 65536 in
set_option maxHeartbeats 40000000 in
theorem rm_isw2 (l : Launch) (Z : State) (a0 : Array Value) (hw : ∀ d ∈ tables_1, d.before a0 Z = true) (ws : List Jvm.Cond) (a : Nat) (n_a : Nat) (c0 : Int32) (c1 : Int32) (cz : Int32) (fm : Value) (h0 : Heap) (n0 : Nat) (Z0 : n0 ≤ h0.size) (S_a : own_Sw Z h0 n_a a [c0, c1]) (hrc0 : ¬ (c0 < (0 : Int32)) ∧ ¬ ((65535 : Int32) < c0)) (hrc1 : ¬ (c1 < (0 : Int32)) ∧ ¬ ((65535 : Int32) < c1)) (O0 : Old Z n0 h0) (S_COMPACT_STRINGS : Sta Z Z.heap "java/lang/String" "COMPACT_STRINGS" "Z" (.int cz)) (hcz : ¬ cz = (0 : Int32)) (S__assertionsDisabled : Sta Z Z.heap "java/lang/StringUTF16" "$assertionsDisabled" "Z" (.int 1)) (S_HI_BYTE_SHIFT : Sta Z Z.heap "java/lang/StringUTF16" "HI_BYTE_SHIFT" "I" (.int 0)) (S_LO_BYTE_SHIFT : Sta Z Z.heap "java/lang/StringUTF16" "LO_BYTE_SHIFT" "I" (.int 8)) (rf : fm.isRef = true) (S_SIOOBE_FORMATTER : Sta Z Z.heap "jdk/internal/util/Preconditions" "SIOOBE_FORMATTER" "Ljava/util/function/BiFunction;" fm) :
    own_MF l ym_15 prog_80_method_13_code 3 (some .boolean) ⟨5, 0, 0, 66⟩ ws Z #[(.ref a)] h0 (Q_rm_isw2 Z a n_a c0 c1 cz fm h0 n0) := by
  refine own_begin (plainFor_of_name pn_3) (fun m => ef_34 m a) ?_
  intro p e s m below meth c s₁ hret hx hby hml hown hnm hlk X0 e0 hh hZ
  have N0 := Fr.nil n0
  have lt_S_a := own_ltN S_a.lt
  refine og s₁ (mkF m 1 #[rv a, .unset, .unset] [(.int 0)]) (fun t_ k_ => XS.iconst X0.here hx rfl (hb hby d_prog_80_13_0) k_) ?_
  refine og s₁ (mkF m 2 #[rv a, iv 0, .unset] []) (fun t_ k_ => XS.istoreN X0.here hx rfl (hb hby d_prog_80_13_1) rfl (l' := #[rv a, iv 0, .unset]) rfl k_) ?_
  refine og s₁ (mkF m 3 #[rv a, iv 0, .unset] [(.int 0)]) (fun t_ k_ => XS.iloadN X0.here hx rfl (hb hby d_prog_80_13_2) rfl k_) ?_
  refine og s₁ (mkF m 4 #[rv a, iv 0, .unset] [(.ref a), (.int 0)]) (fun t_ k_ => XS.aloadN X0.here hx rfl (hb hby d_prog_80_13_3) rfl rfl k_) ?_
  obtain ⟨cq1, kq1, q1a, q1b, q1c⟩ := isOf hZ e0 S_a.1
  obtain ⟨_, _, ⟨T1, L1, k1, n1⟩, -, X1, ⟨Lc1, hQ1, l1, y1, z1⟩, st1⟩ := X0.virtualBack hx (y := ym_14) (z := ym_14) hown (mvT hZ (own_w hw 54 rfl)) (mvT hZ (own_w hw 55 rfl)) (notFace_of_selects (args := #[]) (mvT hZ (own_w hw 57 rfl))) (mvT hZ (own_w hw 57 rfl)) (mvT hZ (own_w hw 56 rfl)) (by decide) (backOf (W := 1) (rm_len2 l Z a0 hw [] a n_a c0 c1 cz h0 n0 (show n0 ≤ h0.size by omega) S_a hrc0 hrc1 O0 S_COMPACT_STRINGS hcz) hZ (own_w hw 58 rfl) (own_w hw 5 rfl) (by decide) (by decide)) q1a q1c (g := (mkF m 4 #[rv a, iv 0, .unset] [(.ref a), (.int 0)])) rfl (by rw [hml]; rfl) (Steps.refl _) (argsL := []) (rest := [(.int 0)]) (lenOf pd_10 rfl) rfl (by show 2 * 0 + _ ≤ _; exact Nat.le_of_eq rfl) (hb hby d_prog_80_13_4) (fun _ _ => ⟨rfl, e0, (by decide : 0 + 0 ≤ _), (by decide : 0 + 0 ≤ _)⟩)
  dsimp only [Pt.U, Pt.locs, Pt.cells, Pt.slots] at X1 l1 y1 z1 st1 hQ1
  subst l1 y1 z1
  obtain ⟨rfl, M1, e1⟩ := hQ1
  have N1 := Fr.app N0 M1
  refine og T1 (mkF m 7 #[rv a, iv 0, .unset] [(.int 2), (.int 0)]) (fun t_ k_ => st1.trans k_) ?_
  refine og T1 (mkF m 10 #[rv a, iv 0, .unset] []) (fun t_ k_ => XS.icmpNo X1.here hx rfl (hb hby d_prog_80_13_7) rfl (tlt (by decide)).2.1 k_) ?_
  refine og T1 (mkF m 11 #[rv a, iv 0, .unset] [(.ref a)]) (fun t_ k_ => XS.aloadN X1.here hx rfl (hb hby d_prog_80_13_10) rfl rfl k_) ?_
  refine og T1 (mkF m 12 #[rv a, iv 0, .unset] [(.int 0), (.ref a)]) (fun t_ k_ => XS.iloadN X1.here hx rfl (hb hby d_prog_80_13_11) rfl k_) ?_
  obtain ⟨cq2, kq2, q2a, q2b, q2c⟩ := isOf hZ e1 S_a.1
  obtain ⟨_, _, ⟨T2, L2, k2, n2⟩, -, X2, ⟨Lc2, hQ2, l2, y2, z2⟩, st2⟩ := X1.virtualBack hx (y := ym_20) (z := ym_20) hown (mvT hZ (own_w hw 78 rfl)) (mvT hZ (own_w hw 13 rfl)) (notFace_of_selects (args := #[]) (mvT hZ (own_w hw 15 rfl))) (mvT hZ (own_w hw 15 rfl)) (mvT hZ (own_w hw 14 rfl)) (by decide) (backOf (W := 0) (rm_cha2_0 l Z a0 hw [] a n_a c0 c1 cz fm h0 n0 (show n0 ≤ h0.size by omega) S_a hrc0 hrc1 O0 S_COMPACT_STRINGS hcz S__assertionsDisabled S_HI_BYTE_SHIFT S_LO_BYTE_SHIFT rf S_SIOOBE_FORMATTER) hZ (own_w hw 16 rfl) (own_w hw 5 rfl) (by decide) (by decide)) q2a q2c (g := (mkF m 12 #[rv a, iv 0, .unset] [(.int 0), (.ref a)])) rfl (by rw [hml]; rfl) (Steps.refl _) (argsL := [(.int 0)]) (rest := []) (lenOf pd_15 rfl) rfl (by show 2 * 0 + _ ≤ _; exact Nat.le_of_eq rfl) (hb hby d_prog_80_13_12) (fun _ _ => ⟨rfl, e1, (by decide : 0 + 0 ≤ _), (by decide : 0 + 0 ≤ _)⟩)
  dsimp only [Pt.U, Pt.locs, Pt.cells, Pt.slots] at X2 l2 y2 z2 st2 hQ2
  subst l2 y2 z2
  obtain ⟨rfl, M2, e2⟩ := hQ2
  have N2 := Fr.app N1 M2
  refine og T2 (mkF m 15 #[rv a, iv 0, .unset] [(.int c0)]) (fun t_ k_ => st2.trans k_) ?_
  refine og T2 (mkF m 16 #[rv a, iv 0, iv c0] []) (fun t_ k_ => XS.istoreN X2.here hx rfl (hb hby d_prog_80_13_15) rfl (l' := #[rv a, iv 0, iv c0]) rfl k_) ?_
  by_cases hw0 : own_W c0
  · skip
    refine own_go (T' := T2) (g' := (mkF m 42 #[rv a, iv 0, iv c0] [])) (fun t_ k_ => ?_) ?_
    · show Steps p.tables e below (T2.setTop (mkF m 16 #[rv a, iv 0, iv c0] [])) t_
      rcases hw0 with hx0 | hx0 | hx0 | hx0
      · skip
        refine os T2 (mkF m 17 #[rv a, iv 0, iv c0] [(.int c0)]) (fun k_ => XS.iloadN X2.here hx rfl (hb hby d_prog_80_13_16) rfl k_) ?_
        refine os T2 (mkF m 19 #[rv a, iv 0, iv c0] [(.int 32), (.int c0)]) (fun k_ => XS.bipush X2.here hx rfl (hb hby d_prog_80_13_17) k_) ?_
        refine os T2 (mkF m 42 #[rv a, iv 0, iv c0] []) (fun k_ => XS.icmpYes X2.here hx rfl (pc0 := 19) (pc' := 42) rfl (hb hby d_prog_80_13_19) rfl (teq hx0).1 (by decide) (by decide) k_) ?_
        exact k_
      · skip
        refine os T2 (mkF m 17 #[rv a, iv 0, iv c0] [(.int c0)]) (fun k_ => XS.iloadN X2.here hx rfl (hb hby d_prog_80_13_16) rfl k_) ?_
        refine os T2 (mkF m 19 #[rv a, iv 0, iv c0] [(.int 32), (.int c0)]) (fun k_ => XS.bipush X2.here hx rfl (hb hby d_prog_80_13_17) k_) ?_
        refine os T2 (mkF m 22 #[rv a, iv 0, iv c0] []) (fun k_ => XS.icmpNo X2.here hx rfl (hb hby d_prog_80_13_19) rfl (feq (show ¬ c0 = (32 : Int32) by rw [hx0]; decide)).1 k_) ?_
        refine os T2 (mkF m 23 #[rv a, iv 0, iv c0] [(.int c0)]) (fun k_ => XS.iloadN X2.here hx rfl (hb hby d_prog_80_13_22) rfl k_) ?_
        refine os T2 (mkF m 25 #[rv a, iv 0, iv c0] [(.int 10), (.int c0)]) (fun k_ => XS.bipush X2.here hx rfl (hb hby d_prog_80_13_23) k_) ?_
        refine os T2 (mkF m 42 #[rv a, iv 0, iv c0] []) (fun k_ => XS.icmpYes X2.here hx rfl (pc0 := 25) (pc' := 42) rfl (hb hby d_prog_80_13_25) rfl (teq hx0).1 (by decide) (by decide) k_) ?_
        exact k_
      · skip
        refine os T2 (mkF m 17 #[rv a, iv 0, iv c0] [(.int c0)]) (fun k_ => XS.iloadN X2.here hx rfl (hb hby d_prog_80_13_16) rfl k_) ?_
        refine os T2 (mkF m 19 #[rv a, iv 0, iv c0] [(.int 32), (.int c0)]) (fun k_ => XS.bipush X2.here hx rfl (hb hby d_prog_80_13_17) k_) ?_
        refine os T2 (mkF m 22 #[rv a, iv 0, iv c0] []) (fun k_ => XS.icmpNo X2.here hx rfl (hb hby d_prog_80_13_19) rfl (feq (show ¬ c0 = (32 : Int32) by rw [hx0]; decide)).1 k_) ?_
        refine os T2 (mkF m 23 #[rv a, iv 0, iv c0] [(.int c0)]) (fun k_ => XS.iloadN X2.here hx rfl (hb hby d_prog_80_13_22) rfl k_) ?_
        refine os T2 (mkF m 25 #[rv a, iv 0, iv c0] [(.int 10), (.int c0)]) (fun k_ => XS.bipush X2.here hx rfl (hb hby d_prog_80_13_23) k_) ?_
        refine os T2 (mkF m 28 #[rv a, iv 0, iv c0] []) (fun k_ => XS.icmpNo X2.here hx rfl (hb hby d_prog_80_13_25) rfl (feq (show ¬ c0 = (10 : Int32) by rw [hx0]; decide)).1 k_) ?_
        refine os T2 (mkF m 29 #[rv a, iv 0, iv c0] [(.int c0)]) (fun k_ => XS.iloadN X2.here hx rfl (hb hby d_prog_80_13_28) rfl k_) ?_
        refine os T2 (mkF m 31 #[rv a, iv 0, iv c0] [(.int 9), (.int c0)]) (fun k_ => XS.bipush X2.here hx rfl (hb hby d_prog_80_13_29) k_) ?_
        refine os T2 (mkF m 42 #[rv a, iv 0, iv c0] []) (fun k_ => XS.icmpYes X2.here hx rfl (pc0 := 31) (pc' := 42) rfl (hb hby d_prog_80_13_31) rfl (teq hx0).1 (by decide) (by decide) k_) ?_
        exact k_
      · skip
        refine os T2 (mkF m 17 #[rv a, iv 0, iv c0] [(.int c0)]) (fun k_ => XS.iloadN X2.here hx rfl (hb hby d_prog_80_13_16) rfl k_) ?_
        refine os T2 (mkF m 19 #[rv a, iv 0, iv c0] [(.int 32), (.int c0)]) (fun k_ => XS.bipush X2.here hx rfl (hb hby d_prog_80_13_17) k_) ?_
        refine os T2 (mkF m 22 #[rv a, iv 0, iv c0] []) (fun k_ => XS.icmpNo X2.here hx rfl (hb hby d_prog_80_13_19) rfl (feq (show ¬ c0 = (32 : Int32) by rw [hx0]; decide)).1 k_) ?_
        refine os T2 (mkF m 23 #[rv a, iv 0, iv c0] [(.int c0)]) (fun k_ => XS.iloadN X2.here hx rfl (hb hby d_prog_80_13_22) rfl k_) ?_
        refine os T2 (mkF m 25 #[rv a, iv 0, iv c0] [(.int 10), (.int c0)]) (fun k_ => XS.bipush X2.here hx rfl (hb hby d_prog_80_13_23) k_) ?_
        refine os T2 (mkF m 28 #[rv a, iv 0, iv c0] []) (fun k_ => XS.icmpNo X2.here hx rfl (hb hby d_prog_80_13_25) rfl (feq (show ¬ c0 = (10 : Int32) by rw [hx0]; decide)).1 k_) ?_
        refine os T2 (mkF m 29 #[rv a, iv 0, iv c0] [(.int c0)]) (fun k_ => XS.iloadN X2.here hx rfl (hb hby d_prog_80_13_28) rfl k_) ?_
        refine os T2 (mkF m 31 #[rv a, iv 0, iv c0] [(.int 9), (.int c0)]) (fun k_ => XS.bipush X2.here hx rfl (hb hby d_prog_80_13_29) k_) ?_
        refine os T2 (mkF m 34 #[rv a, iv 0, iv c0] []) (fun k_ => XS.icmpNo X2.here hx rfl (hb hby d_prog_80_13_31) rfl (feq (show ¬ c0 = (9 : Int32) by rw [hx0]; decide)).1 k_) ?_
        refine os T2 (mkF m 35 #[rv a, iv 0, iv c0] [(.int c0)]) (fun k_ => XS.iloadN X2.here hx rfl (hb hby d_prog_80_13_34) rfl k_) ?_
        refine os T2 (mkF m 37 #[rv a, iv 0, iv c0] [(.int 13), (.int c0)]) (fun k_ => XS.bipush X2.here hx rfl (hb hby d_prog_80_13_35) k_) ?_
        refine os T2 (mkF m 42 #[rv a, iv 0, iv c0] []) (fun k_ => XS.icmpYes X2.here hx rfl (pc0 := 37) (pc' := 42) rfl (hb hby d_prog_80_13_37) rfl (teq hx0).1 (by decide) (by decide) k_) ?_
        exact k_
    refine og T2 (mkF m 45 #[rv a, iv 1, iv c0] []) (fun t_ k_ => XS.iinc X2.here hx rfl (hb hby d_prog_80_13_42) rfl (l' := #[rv a, iv 1, iv c0]) rfl k_) ?_
    refine og T2 (mkF m 2 #[rv a, iv 1, iv c0] []) (fun t_ k_ => XS.goto X2.here hx rfl (pc0 := 45) (pc' := 2) rfl (hb hby d_prog_80_13_45) (by decide) (by decide) k_) ?_
    refine og T2 (mkF m 3 #[rv a, iv 1, iv c0] [(.int 1)]) (fun t_ k_ => XS.iloadN X2.here hx rfl (hb hby d_prog_80_13_2) rfl k_) ?_
    refine og T2 (mkF m 4 #[rv a, iv 1, iv c0] [(.ref a), (.int 1)]) (fun t_ k_ => XS.aloadN X2.here hx rfl (hb hby d_prog_80_13_3) rfl rfl k_) ?_
    obtain ⟨cq3, kq3, q3a, q3b, q3c⟩ := isOf hZ e2 S_a.1
    obtain ⟨_, _, ⟨T3, L3, k3, n3⟩, -, X3, ⟨Lc3, hQ3, l3, y3, z3⟩, st3⟩ := X2.virtualBack hx (y := ym_14) (z := ym_14) hown (mvT hZ (own_w hw 54 rfl)) (mvT hZ (own_w hw 55 rfl)) (notFace_of_selects (args := #[]) (mvT hZ (own_w hw 57 rfl))) (mvT hZ (own_w hw 57 rfl)) (mvT hZ (own_w hw 56 rfl)) (by decide) (backOf (W := 1) (rm_len2 l Z a0 hw [] a n_a c0 c1 cz h0 n0 (show n0 ≤ h0.size by omega) S_a hrc0 hrc1 O0 S_COMPACT_STRINGS hcz) hZ (own_w hw 58 rfl) (own_w hw 5 rfl) (by decide) (by decide)) q3a q3c (g := (mkF m 4 #[rv a, iv 1, iv c0] [(.ref a), (.int 1)])) rfl (by rw [hml]; rfl) (Steps.refl _) (argsL := []) (rest := [(.int 1)]) (lenOf pd_10 rfl) rfl (by show 2 * 0 + _ ≤ _; exact Nat.le_of_eq rfl) (hb hby d_prog_80_13_4) (fun _ _ => ⟨rfl, e2, (by decide : 0 + 0 ≤ _), (by decide : 0 + 0 ≤ _)⟩)
    dsimp only [Pt.U, Pt.locs, Pt.cells, Pt.slots] at X3 l3 y3 z3 st3 hQ3
    subst l3 y3 z3
    obtain ⟨rfl, M3, e3⟩ := hQ3
    have N3 := Fr.app N2 M3
    refine og T3 (mkF m 7 #[rv a, iv 1, iv c0] [(.int 2), (.int 1)]) (fun t_ k_ => st3.trans k_) ?_
    refine og T3 (mkF m 10 #[rv a, iv 1, iv c0] []) (fun t_ k_ => XS.icmpNo X3.here hx rfl (hb hby d_prog_80_13_7) rfl (tlt (by decide)).2.1 k_) ?_
    refine og T3 (mkF m 11 #[rv a, iv 1, iv c0] [(.ref a)]) (fun t_ k_ => XS.aloadN X3.here hx rfl (hb hby d_prog_80_13_10) rfl rfl k_) ?_
    refine og T3 (mkF m 12 #[rv a, iv 1, iv c0] [(.int 1), (.ref a)]) (fun t_ k_ => XS.iloadN X3.here hx rfl (hb hby d_prog_80_13_11) rfl k_) ?_
    obtain ⟨cq4, kq4, q4a, q4b, q4c⟩ := isOf hZ e3 S_a.1
    obtain ⟨_, _, ⟨T4, L4, k4, n4⟩, -, X4, ⟨Lc4, hQ4, l4, y4, z4⟩, st4⟩ := X3.virtualBack hx (y := ym_20) (z := ym_20) hown (mvT hZ (own_w hw 78 rfl)) (mvT hZ (own_w hw 13 rfl)) (notFace_of_selects (args := #[]) (mvT hZ (own_w hw 15 rfl))) (mvT hZ (own_w hw 15 rfl)) (mvT hZ (own_w hw 14 rfl)) (by decide) (backOf (W := 0) (rm_cha2_1 l Z a0 hw [] a n_a c0 c1 cz fm h0 n0 (show n0 ≤ h0.size by omega) S_a hrc0 hrc1 O0 S_COMPACT_STRINGS hcz S__assertionsDisabled S_HI_BYTE_SHIFT S_LO_BYTE_SHIFT rf S_SIOOBE_FORMATTER) hZ (own_w hw 16 rfl) (own_w hw 5 rfl) (by decide) (by decide)) q4a q4c (g := (mkF m 12 #[rv a, iv 1, iv c0] [(.int 1), (.ref a)])) rfl (by rw [hml]; rfl) (Steps.refl _) (argsL := [(.int 1)]) (rest := []) (lenOf pd_15 rfl) rfl (by show 2 * 0 + _ ≤ _; exact Nat.le_of_eq rfl) (hb hby d_prog_80_13_12) (fun _ _ => ⟨rfl, e3, (by decide : 0 + 0 ≤ _), (by decide : 0 + 0 ≤ _)⟩)
    dsimp only [Pt.U, Pt.locs, Pt.cells, Pt.slots] at X4 l4 y4 z4 st4 hQ4
    subst l4 y4 z4
    obtain ⟨rfl, M4, e4⟩ := hQ4
    have N4 := Fr.app N3 M4
    refine og T4 (mkF m 15 #[rv a, iv 1, iv c0] [(.int c1)]) (fun t_ k_ => st4.trans k_) ?_
    refine og T4 (mkF m 16 #[rv a, iv 1, iv c1] []) (fun t_ k_ => XS.istoreN X4.here hx rfl (hb hby d_prog_80_13_15) rfl (l' := #[rv a, iv 1, iv c1]) rfl k_) ?_
    by_cases hw1 : own_W c1
    · skip
      refine own_go (T' := T4) (g' := (mkF m 42 #[rv a, iv 1, iv c1] [])) (fun t_ k_ => ?_) ?_
      · show Steps p.tables e below (T4.setTop (mkF m 16 #[rv a, iv 1, iv c1] [])) t_
        rcases hw1 with hx0 | hx0 | hx0 | hx0
        · skip
          refine os T4 (mkF m 17 #[rv a, iv 1, iv c1] [(.int c1)]) (fun k_ => XS.iloadN X4.here hx rfl (hb hby d_prog_80_13_16) rfl k_) ?_
          refine os T4 (mkF m 19 #[rv a, iv 1, iv c1] [(.int 32), (.int c1)]) (fun k_ => XS.bipush X4.here hx rfl (hb hby d_prog_80_13_17) k_) ?_
          refine os T4 (mkF m 42 #[rv a, iv 1, iv c1] []) (fun k_ => XS.icmpYes X4.here hx rfl (pc0 := 19) (pc' := 42) rfl (hb hby d_prog_80_13_19) rfl (teq hx0).1 (by decide) (by decide) k_) ?_
          exact k_
        · skip
          refine os T4 (mkF m 17 #[rv a, iv 1, iv c1] [(.int c1)]) (fun k_ => XS.iloadN X4.here hx rfl (hb hby d_prog_80_13_16) rfl k_) ?_
          refine os T4 (mkF m 19 #[rv a, iv 1, iv c1] [(.int 32), (.int c1)]) (fun k_ => XS.bipush X4.here hx rfl (hb hby d_prog_80_13_17) k_) ?_
          refine os T4 (mkF m 22 #[rv a, iv 1, iv c1] []) (fun k_ => XS.icmpNo X4.here hx rfl (hb hby d_prog_80_13_19) rfl (feq (show ¬ c1 = (32 : Int32) by rw [hx0]; decide)).1 k_) ?_
          refine os T4 (mkF m 23 #[rv a, iv 1, iv c1] [(.int c1)]) (fun k_ => XS.iloadN X4.here hx rfl (hb hby d_prog_80_13_22) rfl k_) ?_
          refine os T4 (mkF m 25 #[rv a, iv 1, iv c1] [(.int 10), (.int c1)]) (fun k_ => XS.bipush X4.here hx rfl (hb hby d_prog_80_13_23) k_) ?_
          refine os T4 (mkF m 42 #[rv a, iv 1, iv c1] []) (fun k_ => XS.icmpYes X4.here hx rfl (pc0 := 25) (pc' := 42) rfl (hb hby d_prog_80_13_25) rfl (teq hx0).1 (by decide) (by decide) k_) ?_
          exact k_
        · skip
          refine os T4 (mkF m 17 #[rv a, iv 1, iv c1] [(.int c1)]) (fun k_ => XS.iloadN X4.here hx rfl (hb hby d_prog_80_13_16) rfl k_) ?_
          refine os T4 (mkF m 19 #[rv a, iv 1, iv c1] [(.int 32), (.int c1)]) (fun k_ => XS.bipush X4.here hx rfl (hb hby d_prog_80_13_17) k_) ?_
          refine os T4 (mkF m 22 #[rv a, iv 1, iv c1] []) (fun k_ => XS.icmpNo X4.here hx rfl (hb hby d_prog_80_13_19) rfl (feq (show ¬ c1 = (32 : Int32) by rw [hx0]; decide)).1 k_) ?_
          refine os T4 (mkF m 23 #[rv a, iv 1, iv c1] [(.int c1)]) (fun k_ => XS.iloadN X4.here hx rfl (hb hby d_prog_80_13_22) rfl k_) ?_
          refine os T4 (mkF m 25 #[rv a, iv 1, iv c1] [(.int 10), (.int c1)]) (fun k_ => XS.bipush X4.here hx rfl (hb hby d_prog_80_13_23) k_) ?_
          refine os T4 (mkF m 28 #[rv a, iv 1, iv c1] []) (fun k_ => XS.icmpNo X4.here hx rfl (hb hby d_prog_80_13_25) rfl (feq (show ¬ c1 = (10 : Int32) by rw [hx0]; decide)).1 k_) ?_
          refine os T4 (mkF m 29 #[rv a, iv 1, iv c1] [(.int c1)]) (fun k_ => XS.iloadN X4.here hx rfl (hb hby d_prog_80_13_28) rfl k_) ?_
          refine os T4 (mkF m 31 #[rv a, iv 1, iv c1] [(.int 9), (.int c1)]) (fun k_ => XS.bipush X4.here hx rfl (hb hby d_prog_80_13_29) k_) ?_
          refine os T4 (mkF m 42 #[rv a, iv 1, iv c1] []) (fun k_ => XS.icmpYes X4.here hx rfl (pc0 := 31) (pc' := 42) rfl (hb hby d_prog_80_13_31) rfl (teq hx0).1 (by decide) (by decide) k_) ?_
          exact k_
        · skip
          refine os T4 (mkF m 17 #[rv a, iv 1, iv c1] [(.int c1)]) (fun k_ => XS.iloadN X4.here hx rfl (hb hby d_prog_80_13_16) rfl k_) ?_
          refine os T4 (mkF m 19 #[rv a, iv 1, iv c1] [(.int 32), (.int c1)]) (fun k_ => XS.bipush X4.here hx rfl (hb hby d_prog_80_13_17) k_) ?_
          refine os T4 (mkF m 22 #[rv a, iv 1, iv c1] []) (fun k_ => XS.icmpNo X4.here hx rfl (hb hby d_prog_80_13_19) rfl (feq (show ¬ c1 = (32 : Int32) by rw [hx0]; decide)).1 k_) ?_
          refine os T4 (mkF m 23 #[rv a, iv 1, iv c1] [(.int c1)]) (fun k_ => XS.iloadN X4.here hx rfl (hb hby d_prog_80_13_22) rfl k_) ?_
          refine os T4 (mkF m 25 #[rv a, iv 1, iv c1] [(.int 10), (.int c1)]) (fun k_ => XS.bipush X4.here hx rfl (hb hby d_prog_80_13_23) k_) ?_
          refine os T4 (mkF m 28 #[rv a, iv 1, iv c1] []) (fun k_ => XS.icmpNo X4.here hx rfl (hb hby d_prog_80_13_25) rfl (feq (show ¬ c1 = (10 : Int32) by rw [hx0]; decide)).1 k_) ?_
          refine os T4 (mkF m 29 #[rv a, iv 1, iv c1] [(.int c1)]) (fun k_ => XS.iloadN X4.here hx rfl (hb hby d_prog_80_13_28) rfl k_) ?_
          refine os T4 (mkF m 31 #[rv a, iv 1, iv c1] [(.int 9), (.int c1)]) (fun k_ => XS.bipush X4.here hx rfl (hb hby d_prog_80_13_29) k_) ?_
          refine os T4 (mkF m 34 #[rv a, iv 1, iv c1] []) (fun k_ => XS.icmpNo X4.here hx rfl (hb hby d_prog_80_13_31) rfl (feq (show ¬ c1 = (9 : Int32) by rw [hx0]; decide)).1 k_) ?_
          refine os T4 (mkF m 35 #[rv a, iv 1, iv c1] [(.int c1)]) (fun k_ => XS.iloadN X4.here hx rfl (hb hby d_prog_80_13_34) rfl k_) ?_
          refine os T4 (mkF m 37 #[rv a, iv 1, iv c1] [(.int 13), (.int c1)]) (fun k_ => XS.bipush X4.here hx rfl (hb hby d_prog_80_13_35) k_) ?_
          refine os T4 (mkF m 42 #[rv a, iv 1, iv c1] []) (fun k_ => XS.icmpYes X4.here hx rfl (pc0 := 37) (pc' := 42) rfl (hb hby d_prog_80_13_37) rfl (teq hx0).1 (by decide) (by decide) k_) ?_
          exact k_
      refine og T4 (mkF m 45 #[rv a, iv 2, iv c1] []) (fun t_ k_ => XS.iinc X4.here hx rfl (hb hby d_prog_80_13_42) rfl (l' := #[rv a, iv 2, iv c1]) rfl k_) ?_
      refine og T4 (mkF m 2 #[rv a, iv 2, iv c1] []) (fun t_ k_ => XS.goto X4.here hx rfl (pc0 := 45) (pc' := 2) rfl (hb hby d_prog_80_13_45) (by decide) (by decide) k_) ?_
      refine og T4 (mkF m 3 #[rv a, iv 2, iv c1] [(.int 2)]) (fun t_ k_ => XS.iloadN X4.here hx rfl (hb hby d_prog_80_13_2) rfl k_) ?_
      refine og T4 (mkF m 4 #[rv a, iv 2, iv c1] [(.ref a), (.int 2)]) (fun t_ k_ => XS.aloadN X4.here hx rfl (hb hby d_prog_80_13_3) rfl rfl k_) ?_
      obtain ⟨cq5, kq5, q5a, q5b, q5c⟩ := isOf hZ e4 S_a.1
      obtain ⟨_, _, ⟨T5, L5, k5, n5⟩, -, X5, ⟨Lc5, hQ5, l5, y5, z5⟩, st5⟩ := X4.virtualBack hx (y := ym_14) (z := ym_14) hown (mvT hZ (own_w hw 54 rfl)) (mvT hZ (own_w hw 55 rfl)) (notFace_of_selects (args := #[]) (mvT hZ (own_w hw 57 rfl))) (mvT hZ (own_w hw 57 rfl)) (mvT hZ (own_w hw 56 rfl)) (by decide) (backOf (W := 1) (rm_len2 l Z a0 hw [] a n_a c0 c1 cz h0 n0 (show n0 ≤ h0.size by omega) S_a hrc0 hrc1 O0 S_COMPACT_STRINGS hcz) hZ (own_w hw 58 rfl) (own_w hw 5 rfl) (by decide) (by decide)) q5a q5c (g := (mkF m 4 #[rv a, iv 2, iv c1] [(.ref a), (.int 2)])) rfl (by rw [hml]; rfl) (Steps.refl _) (argsL := []) (rest := [(.int 2)]) (lenOf pd_10 rfl) rfl (by show 2 * 0 + _ ≤ _; exact Nat.le_of_eq rfl) (hb hby d_prog_80_13_4) (fun _ _ => ⟨rfl, e4, (by decide : 0 + 0 ≤ _), (by decide : 0 + 0 ≤ _)⟩)
      dsimp only [Pt.U, Pt.locs, Pt.cells, Pt.slots] at X5 l5 y5 z5 st5 hQ5
      subst l5 y5 z5
      obtain ⟨rfl, M5, e5⟩ := hQ5
      have N5 := Fr.app N4 M5
      refine og T5 (mkF m 7 #[rv a, iv 2, iv c1] [(.int 2), (.int 2)]) (fun t_ k_ => st5.trans k_) ?_
      refine og T5 (mkF m 48 #[rv a, iv 2, iv c1] []) (fun t_ k_ => XS.icmpYes X5.here hx rfl (pc0 := 7) (pc' := 48) rfl (hb hby d_prog_80_13_7) rfl (flt (by decide)).2.1 (by decide) (by decide) k_) ?_
      refine og T5 (mkF m 49 #[rv a, iv 2, iv c1] [(.int 1)]) (fun t_ k_ => XS.iconst X5.here hx rfl (hb hby d_prog_80_13_48) k_) ?_
      exact own_out X5 (v := some (.int (nar .boolean (1 : Int32)))) (fun h => by rw [hret] at h; cases h) hlk (fun fs hr => retN X5 hx (t := .boolean) hret (by simp) (hb hby d_prog_80_13_49) hr) (Q := Q_rm_isw2 Z a n_a c0 c1 cz fm h0 n0) (by rw [e5]; exact ⟨(congrArg (fun z => some (Value.int z)) ((if_pos hw0).trans ((if_pos hw1)))).symm, N5, rfl⟩) (by decide) (by decide)
    · skip
      refine og T4 (mkF m 17 #[rv a, iv 1, iv c1] [(.int c1)]) (fun t_ k_ => XS.iloadN X4.here hx rfl (hb hby d_prog_80_13_16) rfl k_) ?_
      refine og T4 (mkF m 19 #[rv a, iv 1, iv c1] [(.int 32), (.int c1)]) (fun t_ k_ => XS.bipush X4.here hx rfl (hb hby d_prog_80_13_17) k_) ?_
      refine og T4 (mkF m 22 #[rv a, iv 1, iv c1] []) (fun t_ k_ => XS.icmpNo X4.here hx rfl (hb hby d_prog_80_13_19) rfl (feq (fun q => hw1 (Or.inl q))).1 k_) ?_
      refine og T4 (mkF m 23 #[rv a, iv 1, iv c1] [(.int c1)]) (fun t_ k_ => XS.iloadN X4.here hx rfl (hb hby d_prog_80_13_22) rfl k_) ?_
      refine og T4 (mkF m 25 #[rv a, iv 1, iv c1] [(.int 10), (.int c1)]) (fun t_ k_ => XS.bipush X4.here hx rfl (hb hby d_prog_80_13_23) k_) ?_
      refine og T4 (mkF m 28 #[rv a, iv 1, iv c1] []) (fun t_ k_ => XS.icmpNo X4.here hx rfl (hb hby d_prog_80_13_25) rfl (feq (fun q => hw1 (Or.inr (Or.inl q)))).1 k_) ?_
      refine og T4 (mkF m 29 #[rv a, iv 1, iv c1] [(.int c1)]) (fun t_ k_ => XS.iloadN X4.here hx rfl (hb hby d_prog_80_13_28) rfl k_) ?_
      refine og T4 (mkF m 31 #[rv a, iv 1, iv c1] [(.int 9), (.int c1)]) (fun t_ k_ => XS.bipush X4.here hx rfl (hb hby d_prog_80_13_29) k_) ?_
      refine og T4 (mkF m 34 #[rv a, iv 1, iv c1] []) (fun t_ k_ => XS.icmpNo X4.here hx rfl (hb hby d_prog_80_13_31) rfl (feq (fun q => hw1 (Or.inr (Or.inr (Or.inl q))))).1 k_) ?_
      refine og T4 (mkF m 35 #[rv a, iv 1, iv c1] [(.int c1)]) (fun t_ k_ => XS.iloadN X4.here hx rfl (hb hby d_prog_80_13_34) rfl k_) ?_
      refine og T4 (mkF m 37 #[rv a, iv 1, iv c1] [(.int 13), (.int c1)]) (fun t_ k_ => XS.bipush X4.here hx rfl (hb hby d_prog_80_13_35) k_) ?_
      refine og T4 (mkF m 40 #[rv a, iv 1, iv c1] []) (fun t_ k_ => XS.icmpNo X4.here hx rfl (hb hby d_prog_80_13_37) rfl (feq (fun q => hw1 (Or.inr (Or.inr (Or.inr q))))).1 k_) ?_
      refine og T4 (mkF m 41 #[rv a, iv 1, iv c1] [(.int 0)]) (fun t_ k_ => XS.iconst X4.here hx rfl (hb hby d_prog_80_13_40) k_) ?_
      exact own_out X4 (v := some (.int (nar .boolean (0 : Int32)))) (fun h => by rw [hret] at h; cases h) hlk (fun fs hr => retN X4 hx (t := .boolean) hret (by simp) (hb hby d_prog_80_13_41) hr) (Q := Q_rm_isw2 Z a n_a c0 c1 cz fm h0 n0) (by rw [e4]; exact ⟨(congrArg (fun z => some (Value.int z)) ((if_pos hw0).trans ((if_neg hw1)))).symm, N4, rfl⟩) (by decide) (by decide)
  · skip
    refine og T2 (mkF m 17 #[rv a, iv 0, iv c0] [(.int c0)]) (fun t_ k_ => XS.iloadN X2.here hx rfl (hb hby d_prog_80_13_16) rfl k_) ?_
    refine og T2 (mkF m 19 #[rv a, iv 0, iv c0] [(.int 32), (.int c0)]) (fun t_ k_ => XS.bipush X2.here hx rfl (hb hby d_prog_80_13_17) k_) ?_
    refine og T2 (mkF m 22 #[rv a, iv 0, iv c0] []) (fun t_ k_ => XS.icmpNo X2.here hx rfl (hb hby d_prog_80_13_19) rfl (feq (fun q => hw0 (Or.inl q))).1 k_) ?_
    refine og T2 (mkF m 23 #[rv a, iv 0, iv c0] [(.int c0)]) (fun t_ k_ => XS.iloadN X2.here hx rfl (hb hby d_prog_80_13_22) rfl k_) ?_
    refine og T2 (mkF m 25 #[rv a, iv 0, iv c0] [(.int 10), (.int c0)]) (fun t_ k_ => XS.bipush X2.here hx rfl (hb hby d_prog_80_13_23) k_) ?_
    refine og T2 (mkF m 28 #[rv a, iv 0, iv c0] []) (fun t_ k_ => XS.icmpNo X2.here hx rfl (hb hby d_prog_80_13_25) rfl (feq (fun q => hw0 (Or.inr (Or.inl q)))).1 k_) ?_
    refine og T2 (mkF m 29 #[rv a, iv 0, iv c0] [(.int c0)]) (fun t_ k_ => XS.iloadN X2.here hx rfl (hb hby d_prog_80_13_28) rfl k_) ?_
    refine og T2 (mkF m 31 #[rv a, iv 0, iv c0] [(.int 9), (.int c0)]) (fun t_ k_ => XS.bipush X2.here hx rfl (hb hby d_prog_80_13_29) k_) ?_
    refine og T2 (mkF m 34 #[rv a, iv 0, iv c0] []) (fun t_ k_ => XS.icmpNo X2.here hx rfl (hb hby d_prog_80_13_31) rfl (feq (fun q => hw0 (Or.inr (Or.inr (Or.inl q))))).1 k_) ?_
    refine og T2 (mkF m 35 #[rv a, iv 0, iv c0] [(.int c0)]) (fun t_ k_ => XS.iloadN X2.here hx rfl (hb hby d_prog_80_13_34) rfl k_) ?_
    refine og T2 (mkF m 37 #[rv a, iv 0, iv c0] [(.int 13), (.int c0)]) (fun t_ k_ => XS.bipush X2.here hx rfl (hb hby d_prog_80_13_35) k_) ?_
    refine og T2 (mkF m 40 #[rv a, iv 0, iv c0] []) (fun t_ k_ => XS.icmpNo X2.here hx rfl (hb hby d_prog_80_13_37) rfl (feq (fun q => hw0 (Or.inr (Or.inr (Or.inr q))))).1 k_) ?_
    refine og T2 (mkF m 41 #[rv a, iv 0, iv c0] [(.int 0)]) (fun t_ k_ => XS.iconst X2.here hx rfl (hb hby d_prog_80_13_40) k_) ?_
    exact own_out X2 (v := some (.int (nar .boolean (0 : Int32)))) (fun h => by rw [hret] at h; cases h) hlk (fun fs hr => retN X2 hx (t := .boolean) hret (by simp) (hb hby d_prog_80_13_41) hr) (Q := Q_rm_isw2 Z a n_a c0 c1 cz fm h0 n0) (by rw [e2]; exact ⟨(congrArg (fun z => some (Value.int z)) ((if_neg hw0))).symm, N2, rfl⟩) (by decide) (by decide)
def Q_rm_len3 (Z : State) (a : Nat) (n_a : Nat) (c0 : Int32) (c1 : Int32) (c2 : Int32) (cz : Int32) (h0 : Heap) (n0 : Nat) (vv : Option Value) (h : Heap) (LL : List Loc) : Prop := vv = some (.int 3) ∧ Fr n0 LL ∧ h = h0
set_option maxRecDepth 65536 in
set_option maxHeartbeats 40000000 in
theorem rm_len3 (l : Launch) (Z : State) (a0 : Array Value) (hw : ∀ d ∈ tables_1, d.before a0 Z = true) (ws : List Jvm.Cond) (a : Nat) (n_a : Nat) (c0 : Int32) (c1 : Int32) (c2 : Int32) (cz : Int32) (h0 : Heap) (n0 : Nat) (Z0 : n0 ≤ h0.size) (S_a : own_Sw Z h0 n_a a [c0, c1, c2]) (hrc0 : ¬ (c0 < (0 : Int32)) ∧ ¬ ((65535 : Int32) < c0)) (hrc1 : ¬ (c1 < (0 : Int32)) ∧ ¬ ((65535 : Int32) < c1)) (hrc2 : ¬ (c2 < (0 : Int32)) ∧ ¬ ((65535 : Int32) < c2)) (O0 : Old Z n0 h0) (S_COMPACT_STRINGS : Sta Z Z.heap "java/lang/String" "COMPACT_STRINGS" "Z" (.int cz)) (hcz : ¬ cz = (0 : Int32)) :
    own_MF l ym_14 jdk_42_method_54_code 1 (some .int) ⟨1, 0, 0, 13⟩ ws Z #[(.ref a)] h0 (Q_rm_len3 Z a n_a c0 c1 c2 cz h0 n0) := by
  refine own_begin (plainFor_of_name pn_1) (fun m => ef_33 m a) ?_
  intro p e s m below meth c s₁ hret hx hby hml hown hnm hlk X0 e0 hh hZ
  have N0 := Fr.nil n0
  have lt_S_a := own_ltN S_a.lt
  obtain ⟨sE, sa, tt0, kk0, stt, sV, sCA⟩ := id S_a
  rcases sCA with ⟨sC, sP, sA⟩ | ⟨sC, sA⟩
  · skip
    have sA' : Arv Z h0 tt0 kk0 .byte (3 : Int32) [(.int c0.toInt8.toInt32), (.int c1.toInt8.toInt32), (.int c2.toInt8.toInt32)] (.int (0 : Int32)) := sA
    refine og s₁ (mkF m 1 #[rv a] [(.ref a)]) (fun t_ k_ => XS.aloadN X0.here hx rfl (hb hby d_jdk_42_54_0) rfl rfl k_) ?_
    obtain ⟨T1, X1, e1, st1⟩ := getF X0 hx hZ hown (host := "") (Or.inl (own_w hw 24 rfl)) Via.refl e0 sV (g := (mkF m 1 #[rv a] [(.ref a)])) rfl rfl (hb hby d_jdk_42_54_1)
    refine og T1 (mkF m 4 #[rv a] [(.ref tt0)]) (fun t_ k_ => st1 _ k_) ?_
    obtain ⟨cl2, Ar2, -, S2, Nn2, -, -⟩ := id sA'
    refine og T1 (mkF m 5 #[rv a] [(.int 3)]) (fun t_ k_ => X1.arraylength hx (by rw [e1]; exact Ar2.1) (State.isArrayOf_alike hZ.alike Ar2.2.1) (g := (mkF m 4 #[rv a] [(.ref tt0)])) rfl rfl (hb hby d_jdk_42_54_4) _ (by rw [len_of S2 Nn2]; exact k_)) ?_
    refine og T1 (mkF m 6 #[rv a] [(.ref a), (.int 3)]) (fun t_ k_ => XS.aloadN X1.here hx rfl (hb hby d_jdk_42_54_5) rfl rfl k_) ?_
    obtain ⟨cq3, kq3, q3a, q3b, q3c⟩ := isOf hZ e1 sE
    obtain ⟨_, _, ⟨T3, L3, k3, n3⟩, -, X3, ⟨Lc3, hQ3, l3, y3, z3⟩, st3⟩ := X1.virtualBack hx (y := ym_3) (z := ym_3) hown (mvT hZ (own_w hw 59 rfl)) (mvT hZ (own_w hw 60 rfl)) (notFace_of_selects (args := #[]) (mvT hZ (own_w hw 62 rfl))) (mvT hZ (own_w hw 62 rfl)) (mvT hZ (own_w hw 61 rfl)) (by decide) (backOf (W := 1) (rm_cod0 l Z a0 hw [] a cz h0 n0 (show n0 ≤ h0.size by omega) sC O0 S_COMPACT_STRINGS hcz) hZ (own_w hw 63 rfl) (own_w hw 5 rfl) (by decide) (by decide)) q3a q3c (g := (mkF m 6 #[rv a] [(.ref a), (.int 3)])) rfl (by rw [hml]; rfl) (Steps.refl _) (argsL := []) (rest := [(.int 3)]) (lenOf pd_9 rfl) rfl (by show 2 * 0 + _ ≤ _; exact Nat.le_of_eq rfl) (hb hby d_jdk_42_54_6) (fun _ _ => ⟨rfl, e1, (by decide : 0 + 0 ≤ _), (by decide : 0 + 0 ≤ _)⟩)
    dsimp only [Pt.U, Pt.locs, Pt.cells, Pt.slots] at X3 l3 y3 z3 st3 hQ3
    subst l3 y3 z3
    obtain ⟨rfl, M3, e3⟩ := hQ3
    have N3 := Fr.app N0 M3
    refine og T3 (mkF m 9 #[rv a] [(.int 0), (.int 3)]) (fun t_ k_ => st3.trans k_) ?_
    refine og T3 (mkF m 10 #[rv a] [(.int 3)]) (fun t_ k_ => XS.ishr X3.here hx rfl (hb hby d_jdk_42_54_9) rfl k_) ?_
    exact own_out X3 (v := some (.int 3)) (fun h => by rw [hret] at h; cases h) hlk (fun fs hr => retI X3 hx hret (hb hby d_jdk_42_54_10) hr) (Q := Q_rm_len3 Z a n_a c0 c1 c2 cz h0 n0) (by rw [e3]; exact ⟨rfl, N3, rfl⟩) (by decide) (by decide)
  · skip
    have sA' : Arv Z h0 tt0 kk0 .byte (6 : Int32) [(.int ((c0 >>> ((0 : Int32) &&& 31)).toInt8.toInt32)), (.int ((c0 >>> ((8 : Int32) &&& 31)).toInt8.toInt32)), (.int ((c1 >>> ((0 : Int32) &&& 31)).toInt8.toInt32)), (.int ((c1 >>> ((8 : Int32) &&& 31)).toInt8.toInt32)), (.int ((c2 >>> ((0 : Int32) &&& 31)).toInt8.toInt32)), (.int ((c2 >>> ((8 : Int32) &&& 31)).toInt8.toInt32))] (.int (0 : Int32)) := sA
    refine og s₁ (mkF m 1 #[rv a] [(.ref a)]) (fun t_ k_ => XS.aloadN X0.here hx rfl (hb hby d_jdk_42_54_0) rfl rfl k_) ?_
    obtain ⟨T4, X4, e4, st4⟩ := getF X0 hx hZ hown (host := "") (Or.inl (own_w hw 24 rfl)) Via.refl e0 sV (g := (mkF m 1 #[rv a] [(.ref a)])) rfl rfl (hb hby d_jdk_42_54_1)
    refine og T4 (mkF m 4 #[rv a] [(.ref tt0)]) (fun t_ k_ => st4 _ k_) ?_
    obtain ⟨cl5, Ar5, -, S5, Nn5, -, -⟩ := id sA'
    refine og T4 (mkF m 5 #[rv a] [(.int 6)]) (fun t_ k_ => X4.arraylength hx (by rw [e4]; exact Ar5.1) (State.isArrayOf_alike hZ.alike Ar5.2.1) (g := (mkF m 4 #[rv a] [(.ref tt0)])) rfl rfl (hb hby d_jdk_42_54_4) _ (by rw [len_of S5 Nn5]; exact k_)) ?_
    refine og T4 (mkF m 6 #[rv a] [(.ref a), (.int 6)]) (fun t_ k_ => XS.aloadN X4.here hx rfl (hb hby d_jdk_42_54_5) rfl rfl k_) ?_
    obtain ⟨cq6, kq6, q6a, q6b, q6c⟩ := isOf hZ e4 sE
    obtain ⟨_, _, ⟨T6, L6, k6, n6⟩, -, X6, ⟨Lc6, hQ6, l6, y6, z6⟩, st6⟩ := X4.virtualBack hx (y := ym_3) (z := ym_3) hown (mvT hZ (own_w hw 59 rfl)) (mvT hZ (own_w hw 60 rfl)) (notFace_of_selects (args := #[]) (mvT hZ (own_w hw 62 rfl))) (mvT hZ (own_w hw 62 rfl)) (mvT hZ (own_w hw 61 rfl)) (by decide) (backOf (W := 1) (rm_cod1 l Z a0 hw [] a cz h0 n0 (show n0 ≤ h0.size by omega) sC O0 S_COMPACT_STRINGS hcz) hZ (own_w hw 63 rfl) (own_w hw 5 rfl) (by decide) (by decide)) q6a q6c (g := (mkF m 6 #[rv a] [(.ref a), (.int 6)])) rfl (by rw [hml]; rfl) (Steps.refl _) (argsL := []) (rest := [(.int 6)]) (lenOf pd_9 rfl) rfl (by show 2 * 0 + _ ≤ _; exact Nat.le_of_eq rfl) (hb hby d_jdk_42_54_6) (fun _ _ => ⟨rfl, e4, (by decide : 0 + 0 ≤ _), (by decide : 0 + 0 ≤ _)⟩)
    dsimp only [Pt.U, Pt.locs, Pt.cells, Pt.slots] at X6 l6 y6 z6 st6 hQ6
    subst l6 y6 z6
    obtain ⟨rfl, M6, e6⟩ := hQ6
    have N6 := Fr.app N0 M6
    refine og T6 (mkF m 9 #[rv a] [(.int 1), (.int 6)]) (fun t_ k_ => st6.trans k_) ?_
    refine og T6 (mkF m 10 #[rv a] [(.int 3)]) (fun t_ k_ => XS.ishr X6.here hx rfl (hb hby d_jdk_42_54_9) rfl k_) ?_
    exact own_out X6 (v := some (.int 3)) (fun h => by rw [hret] at h; cases h) hlk (fun fs hr => retI X6 hx hret (hb hby d_jdk_42_54_10) hr) (Q := Q_rm_len3 Z a n_a c0 c1 c2 cz h0 n0) (by rw [e6]; exact ⟨rfl, N6, rfl⟩) (by decide) (by decide)
def Q_rm_lch3_0 (Z : State) (a : Nat) (fm : Value) (c0 : Int32) (c1 : Int32) (c2 : Int32) (k_a : ClassId) (h0 : Heap) (n0 : Nat) (vv : Option Value) (h : Heap) (LL : List Loc) : Prop := vv = some (.int c0) ∧ Fr n0 LL ∧ h = h0
set_option maxRecDepth 65536 in
set_option maxHeartbeats 40000000 in
theorem rm_lch3_0 (l : Launch) (Z : State) (a0 : Array Value) (hw : ∀ d ∈ tables_1, d.before a0 Z = true) (ws : List Jvm.Cond) (a : Nat) (fm : Value) (c0 : Int32) (c1 : Int32) (c2 : Int32) (k_a : ClassId) (h0 : Heap) (n0 : Nat) (Z0 : n0 ≤ h0.size) (rf : fm.isRef = true) (O0 : Old Z n0 h0) (S_SIOOBE_FORMATTER : Sta Z Z.heap "jdk/internal/util/Preconditions" "SIOOBE_FORMATTER" "Ljava/util/function/BiFunction;" fm) (hb0 : ¬ (c0 < (0 : Int32)) ∧ ¬ ((255 : Int32) < c0)) (V_a : Arv Z h0 a k_a .byte (3 : Int32) [(.int c0.toInt8.toInt32), (.int c1.toInt8.toInt32), (.int c2.toInt8.toInt32)] (.int (0 : Int32))) :
    own_MF l ym_16 jdk_43_method_2_code 2 (some .char) ⟨2, 0, 0, 27⟩ ws Z #[(.ref a), (.int 0)] h0 (Q_rm_lch3_0 Z a fm c0 c1 c2 k_a h0 n0) := by
  refine own_begin (plainFor_of_name pn_4) (fun m => ef_35 m a) ?_
  intro p e s m below meth c s₁ hret hx hby hml hown hnm hlk X0 e0 hh hZ
  have N0 := Fr.nil n0
  have lt_V_a := own_ltN V_a.lt
  refine og s₁ (mkF m 1 #[rv a, iv 0] [(.int 0)]) (fun t_ k_ => XS.iloadN X0.here hx rfl (hb hby d_jdk_43_2_0) rfl k_) ?_
  refine og s₁ (mkF m 2 #[rv a, iv 0] [(.ref a), (.int 0)]) (fun t_ k_ => XS.aloadN X0.here hx rfl (hb hby d_jdk_43_2_1) rfl rfl k_) ?_
  obtain ⟨cl1, Ar1, -, S1, Nn1, -, -⟩ := id V_a
  refine og s₁ (mkF m 3 #[rv a, iv 0] [(.int 3), (.int 0)]) (fun t_ k_ => X0.arraylength hx (by rw [e0]; exact Ar1.1) (State.isArrayOf_alike hZ.alike Ar1.2.1) (g := (mkF m 2 #[rv a, iv 0] [(.ref a), (.int 0)])) rfl rfl (hb hby d_jdk_43_2_2) _ (by rw [len_of S1 Nn1]; exact k_)) ?_
  obtain ⟨_, _, ⟨T2, L2, k2, n2⟩, -, X2, ⟨Lc2, hQ2, l2, y2, z2⟩, st2⟩ := Jvm.LawKit.callS X0 hx (y := ym_1) hown (mvT hZ (own_w hw 29 rfl)) (mvT hZ (own_w hw 30 rfl)) (mvT hZ (own_w hw 5 rfl)) (mvT hZ (own_w hw 31 rfl)) (by decide) (backOf (W := 0) (rm_ci l Z a0 hw [] (0 : Int32) (3 : Int32) fm h0 n0 (show n0 ≤ h0.size by omega) (by decide) (by decide) rf O0 S_SIOOBE_FORMATTER) hZ (own_w hw 31 rfl) (own_w hw 5 rfl) (by decide) (by decide)) (g := (mkF m 3 #[rv a, iv 0] [(.int 3), (.int 0)])) rfl (by rw [hml]; rfl) (argsL := [(.int 0), (.int 3)]) (rest := []) (lenOf pd_11 rfl) rfl (by show 2 * 0 + _ ≤ _; exact Nat.le_of_eq rfl) (hb hby d_jdk_43_2_3) (fun _ _ => ⟨rfl, e0, (by decide : 0 + 0 ≤ _), (by decide : 0 + 0 ≤ _)⟩)
  dsimp only [Pt.U, Pt.locs, Pt.cells, Pt.slots] at X2 l2 y2 z2 st2 hQ2
  subst l2 y2 z2
  obtain ⟨rfl, M2, e2⟩ := hQ2
  have N2 := Fr.app N0 M2
  refine og T2 (mkF m 6 #[rv a, iv 0] []) (fun t_ k_ => st2 _ k_) ?_
  refine og T2 (mkF m 7 #[rv a, iv 0] [(.ref a)]) (fun t_ k_ => XS.aloadN X2.here hx rfl (hb hby d_jdk_43_2_6) rfl rfl k_) ?_
  refine og T2 (mkF m 8 #[rv a, iv 0] [(.int 0), (.ref a)]) (fun t_ k_ => XS.iloadN X2.here hx rfl (hb hby d_jdk_43_2_7) rfl k_) ?_
  obtain ⟨cl3, Ar3, -, S3, Nn3, H3, -⟩ := id V_a
  have hin3 : ¬ ((0 : Int32) < 0 ∨ cl3.slots.size ≤ ((0 : Int32)).toNatClampNeg) := inb_of S3 ⟨by decide, by decide⟩
  refine og T2 (mkF m 9 #[rv a, iv 0] [(.int c0.toInt8.toInt32)]) (fun t_ k_ => X2.baloadBytes hx (j := (0 : Int32)) (v := (.int c0.toInt8.toInt32)) (by rw [e2]; exact Ar3.1) (State.isArrayOf_alike hZ.alike Ar3.2.1) Ar3.2.2 hin3 (H3.at hin3 rfl) (g := (mkF m 8 #[rv a, iv 0] [(.int 0), (.ref a)])) rfl rfl (hb hby d_jdk_43_2_8) _ k_) ?_
  refine og T2 (mkF m 12 #[rv a, iv 0] [(.int 255), (.int c0.toInt8.toInt32)]) (fun t_ k_ => XS.sipush X2.here hx rfl (hb hby d_jdk_43_2_9) k_) ?_
  refine og T2 (mkF m 13 #[rv a, iv 0] [(.int (c0.toInt8.toInt32 &&& (255 : Int32)))]) (fun t_ k_ => XS.iand X2.here hx rfl (hb hby d_jdk_43_2_12) rfl k_) ?_
  refine og T2 (mkF m 14 #[rv a, iv 0] [(.int ((c0.toInt8.toInt32 &&& (255 : Int32)).toUInt32.toUInt16.toUInt32.toInt32))]) (fun t_ k_ => XS.i2c X2.here hx rfl (hb hby d_jdk_43_2_13) rfl k_) ?_
  exact own_out X2 (v := some (.int (nar .char ((c0.toInt8.toInt32 &&& (255 : Int32)).toUInt32.toUInt16.toUInt32.toInt32)))) (fun h => by rw [hret] at h; cases h) hlk (fun fs hr => retN X2 hx (t := .char) hret (by simp) (hb hby d_jdk_43_2_14) hr) (Q := Q_rm_lch3_0 Z a fm c0 c1 c2 k_a h0 n0) (by rw [e2]; exact ⟨(congrArg (fun z => some (Value.int z)) ((own_narc16 (own_i2cr _)).trans (own_lat hb0.1 hb0.2))), N2, rfl⟩) (by decide) (by decide)
def Q_rm_ul3 (Z : State) (a : Nat) (y0 : Int32) (y1 : Int32) (y2 : Int32) (y3 : Int32) (y4 : Int32) (y5 : Int32) (k_a : ClassId) (h0 : Heap) (n0 : Nat) (vv : Option Value) (h : Heap) (LL : List Loc) : Prop := vv = some (.int 3) ∧ Fr n0 LL ∧ h = h0
set_option maxRecDepth 65536 in
set_option maxHeartbeats 40000000 in
theorem rm_ul3 (l : Launch) (Z : State) (a0 : Array Value) (hw : ∀ d ∈ tables_1, d.before a0 Z = true) (ws : List Jvm.Cond) (a : Nat) (y0 : Int32) (y1 : Int32) (y2 : Int32) (y3 : Int32) (y4 : Int32) (y5 : Int32) (k_a : ClassId) (h0 : Heap) (n0 : Nat) (Z0 : n0 ≤ h0.size) (V_a : Arv Z h0 a k_a .byte (6 : Int32) [(.int y0), (.int y1), (.int y2), (.int y3), (.int y4), (.int y5)] (.int (0 : Int32))) :
    own_MF l ym_17 jdk_52_method_6_code 1 (some .int) ⟨0, 0, 0, 0⟩ ws Z #[(.ref a)] h0 (Q_rm_ul3 Z a y0 y1 y2 y3 y4 y5 k_a h0 n0) := by
  refine own_begin (plainFor_of_name pn_2) (fun m => ef_36 m a) ?_
  intro p e s m below meth c s₁ hret hx hby hml hown hnm hlk X0 e0 hh hZ
  have N0 := Fr.nil n0
  have lt_V_a := own_ltN V_a.lt
  refine og s₁ (mkF m 1 #[rv a] [(.ref a)]) (fun t_ k_ => XS.aloadN X0.here hx rfl (hb hby d_jdk_52_6_0) rfl rfl k_) ?_
  obtain ⟨cl1, Ar1, -, S1, Nn1, -, -⟩ := id V_a
  refine og s₁ (mkF m 2 #[rv a] [(.int 6)]) (fun t_ k_ => X0.arraylength hx (by rw [e0]; exact Ar1.1) (State.isArrayOf_alike hZ.alike Ar1.2.1) (g := (mkF m 1 #[rv a] [(.ref a)])) rfl rfl (hb hby d_jdk_52_6_1) _ (by rw [len_of S1 Nn1]; exact k_)) ?_
  refine og s₁ (mkF m 3 #[rv a] [(.int 1), (.int 6)]) (fun t_ k_ => XS.iconst X0.here hx rfl (hb hby d_jdk_52_6_2) k_) ?_
  refine og s₁ (mkF m 4 #[rv a] [(.int 3)]) (fun t_ k_ => XS.ishr X0.here hx rfl (hb hby d_jdk_52_6_3) rfl k_) ?_
  exact own_out X0 (v := some (.int 3)) (fun h => by rw [hret] at h; cases h) hlk (fun fs hr => retI X0 hx hret (hb hby d_jdk_52_6_4) hr) (Q := Q_rm_ul3 Z a y0 y1 y2 y3 y4 y5 k_a h0 n0) (by rw [e0]; exact ⟨rfl, N0, rfl⟩) (by decide) (by decide)
def Q_rm_uci3_0 (Z : State) (a : Nat) (fm : Value) (y0 : Int32) (y1 : Int32) (y2 : Int32) (y3 : Int32) (y4 : Int32) (y5 : Int32) (k_a : ClassId) (h0 : Heap) (n0 : Nat) (vv : Option Value) (h : Heap) (LL : List Loc) : Prop := vv = none ∧ Fr n0 LL ∧ h = h0
set_option maxRecDepth 65536 in
set_option maxHeartbeats 40000000 in
theorem rm_uci3_0 (l : Launch) (Z : State) (a0 : Array Value) (hw : ∀ d ∈ tables_1, d.before a0 Z = true) (ws : List Jvm.Cond) (a : Nat) (fm : Value) (y0 : Int32) (y1 : Int32) (y2 : Int32) (y3 : Int32) (y4 : Int32) (y5 : Int32) (k_a : ClassId) (h0 : Heap) (n0 : Nat) (Z0 : n0 ≤ h0.size) (rf : fm.isRef = true) (O0 : Old Z n0 h0) (S_SIOOBE_FORMATTER : Sta Z Z.heap "jdk/internal/util/Preconditions" "SIOOBE_FORMATTER" "Ljava/util/function/BiFunction;" fm) (V_a : Arv Z h0 a k_a .byte (6 : Int32) [(.int y0), (.int y1), (.int y2), (.int y3), (.int y4), (.int y5)] (.int (0 : Int32))) :
    own_MF l ym_18 jdk_52_method_91_code 2 none ⟨2, 0, 0, 27⟩ ws Z #[(.int 0), (.ref a)] h0 (Q_rm_uci3_0 Z a fm y0 y1 y2 y3 y4 y5 k_a h0 n0) := by
  refine own_begin (plainFor_of_name pn_2) (fun m => ef_37 m a) ?_
  intro p e s m below meth c s₁ hret hx hby hml hown hnm hlk X0 e0 hh hZ
  have N0 := Fr.nil n0
  have lt_V_a := own_ltN V_a.lt
  refine og s₁ (mkF m 1 #[iv 0, rv a] [(.int 0)]) (fun t_ k_ => XS.iloadN X0.here hx rfl (hb hby d_jdk_52_91_0) rfl k_) ?_
  refine og s₁ (mkF m 2 #[iv 0, rv a] [(.ref a), (.int 0)]) (fun t_ k_ => XS.aloadN X0.here hx rfl (hb hby d_jdk_52_91_1) rfl rfl k_) ?_
  obtain ⟨_, _, ⟨T1, L1, k1, n1⟩, -, X1, ⟨Lc1, hQ1, l1, y1, z1⟩, st1⟩ := Jvm.LawKit.callS X0 hx (y := ym_17) hown (mvT hZ (own_w hw 104 rfl)) (mvT hZ (own_w hw 105 rfl)) (mvT hZ (own_w hw 66 rfl)) (mvT hZ (own_w hw 106 rfl)) (by decide) (backOf (W := 1) (rm_ul3 l Z a0 hw [] a y0 y1 y2 y3 y4 y5 k_a h0 n0 (show n0 ≤ h0.size by omega) V_a) hZ (own_w hw 106 rfl) (own_w hw 66 rfl) (by decide) (by decide)) (g := (mkF m 2 #[iv 0, rv a] [(.ref a), (.int 0)])) rfl (by rw [hml]; rfl) (argsL := [(.ref a)]) (rest := [(.int 0)]) (lenOf pd_12 rfl) rfl (by show 2 * 0 + _ ≤ _; exact Nat.le_of_eq rfl) (hb hby d_jdk_52_91_2) (fun _ _ => ⟨rfl, e0, (by decide : 0 + 0 ≤ _), (by decide : 0 + 0 ≤ _)⟩)
  dsimp only [Pt.U, Pt.locs, Pt.cells, Pt.slots] at X1 l1 y1 z1 st1 hQ1
  subst l1 y1 z1
  obtain ⟨rfl, M1, e1⟩ := hQ1
  have N1 := Fr.app N0 M1
  refine og T1 (mkF m 5 #[iv 0, rv a] [(.int 3), (.int 0)]) (fun t_ k_ => st1 _ k_) ?_
  obtain ⟨_, _, ⟨T2, L2, k2, n2⟩, -, X2, ⟨Lc2, hQ2, l2, y2, z2⟩, st2⟩ := Jvm.LawKit.callS X1 hx (y := ym_1) hown (mvT hZ (own_w hw 107 rfl)) (mvT hZ (own_w hw 30 rfl)) (mvT hZ (own_w hw 5 rfl)) (mvT hZ (own_w hw 31 rfl)) (by decide) (backOf (W := 0) (rm_ci l Z a0 hw [] (0 : Int32) (3 : Int32) fm h0 n0 (show n0 ≤ h0.size by omega) (by decide) (by decide) rf O0 S_SIOOBE_FORMATTER) hZ (own_w hw 31 rfl) (own_w hw 5 rfl) (by decide) (by decide)) (g := (mkF m 5 #[iv 0, rv a] [(.int 3), (.int 0)])) rfl (by rw [hml]; rfl) (argsL := [(.int 0), (.int 3)]) (rest := []) (lenOf pd_11 rfl) rfl (by show 2 * 0 + _ ≤ _; exact Nat.le_of_eq rfl) (hb hby d_jdk_52_91_5) (fun _ _ => ⟨rfl, e1, (by decide : 0 + 0 ≤ _), (by decide : 0 + 0 ≤ _)⟩)
  dsimp only [Pt.U, Pt.locs, Pt.cells, Pt.slots] at X2 l2 y2 z2 st2 hQ2
  subst l2 y2 z2
  obtain ⟨rfl, M2, e2⟩ := hQ2
  have N2 := Fr.app N1 M2
  refine og T2 (mkF m 8 #[iv 0, rv a] []) (fun t_ k_ => st2 _ k_) ?_
  exact own_out X2 (v := none) (fun _ => rfl) hlk (fun fs hr => X2.returnOut hx hret (hb hby d_jdk_52_91_8) hr) (Q := Q_rm_uci3_0 Z a fm y0 y1 y2 y3 y4 y5 k_a h0 n0) (by rw [e2]; exact ⟨rfl, N2, rfl⟩) (by decide) (by decide)
def Q_rm_uch3_0 (Z : State) (a : Nat) (c0 : Int32) (c1 : Int32) (c2 : Int32) (k_a : ClassId) (fm : Value) (h0 : Heap) (n0 : Nat) (vv : Option Value) (h : Heap) (LL : List Loc) : Prop := vv = some (.int c0) ∧ Fr n0 LL ∧ h = h0
set_option maxRecDepth 65536 in
set_option maxHeartbeats 40000000 in
theorem rm_uch3_0 (l : Launch) (Z : State) (a0 : Array Value) (hw : ∀ d ∈ tables_1, d.before a0 Z = true) (ws : List Jvm.Cond) (a : Nat) (c0 : Int32) (c1 : Int32) (c2 : Int32) (k_a : ClassId) (fm : Value) (h0 : Heap) (n0 : Nat) (Z0 : n0 ≤ h0.size) (hrc0 : ¬ (c0 < (0 : Int32)) ∧ ¬ ((65535 : Int32) < c0)) (hrc1 : ¬ (c1 < (0 : Int32)) ∧ ¬ ((65535 : Int32) < c1)) (hrc2 : ¬ (c2 < (0 : Int32)) ∧ ¬ ((65535 : Int32) < c2)) (V_a : Arv Z h0 a k_a .byte (6 : Int32) [(.int ((c0 >>> ((0 : Int32) &&& 31)).toInt8.toInt32)), (.int ((c0 >>> ((8 : Int32) &&& 31)).toInt8.toInt32)), (.int ((c1 >>> ((0 : Int32) &&& 31)).toInt8.toInt32)), (.int ((c1 >>> ((8 : Int32) &&& 31)).toInt8.toInt32)), (.int ((c2 >>> ((0 : Int32) &&& 31)).toInt8.toInt32)), (.int ((c2 >>> ((8 : Int32) &&& 31)).toInt8.toInt32))] (.int (0 : Int32))) (O0 : Old Z n0 h0) (S__assertionsDisabled : Sta Z Z.heap "java/lang/StringUTF16" "$assertionsDisabled" "Z" (.int 1)) (S_HI_BYTE_SHIFT : Sta Z Z.heap "java/lang/StringUTF16" "HI_BYTE_SHIFT" "I" (.int 0)) (S_LO_BYTE_SHIFT : Sta Z Z.heap "java/lang/StringUTF16" "LO_BYTE_SHIFT" "I" (.int 8)) (rf : fm.isRef = true) (S_SIOOBE_FORMATTER : Sta Z Z.heap "jdk/internal/util/Preconditions" "SIOOBE_FORMATTER" "Ljava/util/function/BiFunction;" fm) :
    own_MF l ym_19 jdk_52_method_83_code 2 (some .char) ⟨3, 0, 0, 40⟩ ws Z #[(.ref a), (.int 0)] h0 (Q_rm_uch3_0 Z a c0 c1 c2 k_a fm h0 n0) := by
  refine own_begin (plainFor_of_name pn_2) (fun m => ef_38 m a) ?_
  intro p e s m below meth c s₁ hret hx hby hml hown hnm hlk X0 e0 hh hZ
  have N0 := Fr.nil n0
  have lt_V_a := own_ltN V_a.lt
  refine og s₁ (mkF m 1 #[rv a, iv 0] [(.int 0)]) (fun t_ k_ => XS.iloadN X0.here hx rfl (hb hby d_jdk_52_83_0) rfl k_) ?_
  refine og s₁ (mkF m 2 #[rv a, iv 0] [(.ref a), (.int 0)]) (fun t_ k_ => XS.aloadN X0.here hx rfl (hb hby d_jdk_52_83_1) rfl rfl k_) ?_
  obtain ⟨_, _, ⟨T1, L1, k1, n1⟩, -, X1, ⟨Lc1, hQ1, l1, y1, z1⟩, st1⟩ := Jvm.LawKit.callS X0 hx (y := ym_18) hown (mvT hZ (own_w hw 101 rfl)) (mvT hZ (own_w hw 102 rfl)) (mvT hZ (own_w hw 66 rfl)) (mvT hZ (own_w hw 103 rfl)) (by decide) (backOf (W := 0) (rm_uci3_0 l Z a0 hw [] a fm ((c0 >>> ((0 : Int32) &&& 31)).toInt8.toInt32) ((c0 >>> ((8 : Int32) &&& 31)).toInt8.toInt32) ((c1 >>> ((0 : Int32) &&& 31)).toInt8.toInt32) ((c1 >>> ((8 : Int32) &&& 31)).toInt8.toInt32) ((c2 >>> ((0 : Int32) &&& 31)).toInt8.toInt32) ((c2 >>> ((8 : Int32) &&& 31)).toInt8.toInt32) k_a h0 n0 (show n0 ≤ h0.size by omega) rf O0 S_SIOOBE_FORMATTER V_a) hZ (own_w hw 103 rfl) (own_w hw 66 rfl) (by decide) (by decide)) (g := (mkF m 2 #[rv a, iv 0] [(.ref a), (.int 0)])) rfl (by rw [hml]; rfl) (argsL := [(.int 0), (.ref a)]) (rest := []) (lenOf pd_13 rfl) rfl (by show 2 * 0 + _ ≤ _; exact Nat.le_of_eq rfl) (hb hby d_jdk_52_83_2) (fun _ _ => ⟨rfl, e0, (by decide : 0 + 0 ≤ _), (by decide : 0 + 0 ≤ _)⟩)
  dsimp only [Pt.U, Pt.locs, Pt.cells, Pt.slots] at X1 l1 y1 z1 st1 hQ1
  subst l1 y1 z1
  obtain ⟨rfl, M1, e1⟩ := hQ1
  have N1 := Fr.app N0 M1
  refine og T1 (mkF m 5 #[rv a, iv 0] []) (fun t_ k_ => st1 _ k_) ?_
  refine og T1 (mkF m 6 #[rv a, iv 0] [(.ref a)]) (fun t_ k_ => XS.aloadN X1.here hx rfl (hb hby d_jdk_52_83_5) rfl rfl k_) ?_
  refine og T1 (mkF m 7 #[rv a, iv 0] [(.int 0), (.ref a)]) (fun t_ k_ => XS.iloadN X1.here hx rfl (hb hby d_jdk_52_83_6) rfl k_) ?_
  obtain ⟨_, _, ⟨T2, L2, k2, n2⟩, -, X2, ⟨Lc2, hQ2, l2, y2, z2⟩, st2⟩ := Jvm.LawKit.callS X1 hx (y := ym_7) hown (mvT hZ (own_w hw 95 rfl)) (mvT hZ (own_w hw 96 rfl)) (mvT hZ (own_w hw 66 rfl)) (mvT hZ (own_w hw 97 rfl)) (by decide) (backOf (W := 0) (rm_get3_0 l Z a0 hw [] a c0 c1 c2 k_a h0 n0 (show n0 ≤ h0.size by omega) hrc0 hrc1 hrc2 V_a O0 S__assertionsDisabled S_HI_BYTE_SHIFT S_LO_BYTE_SHIFT) hZ (own_w hw 97 rfl) (own_w hw 66 rfl) (by decide) (by decide)) (g := (mkF m 7 #[rv a, iv 0] [(.int 0), (.ref a)])) rfl (by rw [hml]; rfl) (argsL := [(.ref a), (.int 0)]) (rest := []) (lenOf pd_6 rfl) rfl (by show 2 * 0 + _ ≤ _; exact Nat.le_of_eq rfl) (hb hby d_jdk_52_83_7) (fun _ _ => ⟨rfl, e1, (by decide : 0 + 0 ≤ _), (by decide : 0 + 0 ≤ _)⟩)
  dsimp only [Pt.U, Pt.locs, Pt.cells, Pt.slots] at X2 l2 y2 z2 st2 hQ2
  subst l2 y2 z2
  obtain ⟨rfl, M2, e2⟩ := hQ2
  have N2 := Fr.app N1 M2
  refine og T2 (mkF m 10 #[rv a, iv 0] [(.int c0)]) (fun t_ k_ => st2 _ k_) ?_
  exact own_out X2 (v := some (.int (nar .char c0))) (fun h => by rw [hret] at h; cases h) hlk (fun fs hr => retN X2 hx (t := .char) hret (by simp) (hb hby d_jdk_52_83_10) hr) (Q := Q_rm_uch3_0 Z a c0 c1 c2 k_a fm h0 n0) (by rw [e2]; exact ⟨(congrArg (fun z => some (Value.int z)) (own_narc16 hrc0)), N2, rfl⟩) (by decide) (by decide)
def Q_rm_cha3_0 (Z : State) (a : Nat) (n_a : Nat) (c0 : Int32) (c1 : Int32) (c2 : Int32) (cz : Int32) (fm : Value) (h0 : Heap) (n0 : Nat) (vv : Option Value) (h : Heap) (LL : List Loc) : Prop := vv = some (.int c0) ∧ Fr n0 LL ∧ h = h0
set_option maxRecDepth 65536 in
set_option maxHeartbeats 40000000 in
theorem rm_cha3_0 (l : Launch) (Z : State) (a0 : Array Value) (hw : ∀ d ∈ tables_1, d.before a0 Z = true) (ws : List Jvm.Cond) (a : Nat) (n_a : Nat) (c0 : Int32) (c1 : Int32) (c2 : Int32) (cz : Int32) (fm : Value) (h0 : Heap) (n0 : Nat) (Z0 : n0 ≤ h0.size) (S_a : own_Sw Z h0 n_a a [c0, c1, c2]) (hrc0 : ¬ (c0 < (0 : Int32)) ∧ ¬ ((65535 : Int32) < c0)) (hrc1 : ¬ (c1 < (0 : Int32)) ∧ ¬ ((65535 : Int32) < c1)) (hrc2 : ¬ (c2 < (0 : Int32)) ∧ ¬ ((65535 : Int32) < c2)) (O0 : Old Z n0 h0) (S_COMPACT_STRINGS : Sta Z Z.heap "java/lang/String" "COMPACT_STRINGS" "Z" (.int cz)) (hcz : ¬ cz = (0 : Int32)) (S__assertionsDisabled : Sta Z Z.heap "java/lang/StringUTF16" "$assertionsDisabled" "Z" (.int 1)) (S_HI_BYTE_SHIFT : Sta Z Z.heap "java/lang/StringUTF16" "HI_BYTE_SHIFT" "I" (.int 0)) (S_LO_BYTE_SHIFT : Sta Z Z.heap "java/lang/StringUTF16" "LO_BYTE_SHIFT" "I" (.int 8)) (rf : fm.isRef = true) (S_SIOOBE_FORMATTER : Sta Z Z.heap "jdk/internal/util/Preconditions" "SIOOBE_FORMATTER" "Ljava/util/function/BiFunction;" fm) :
    own_MF l ym_20 jdk_42_method_56_code 2 (some .char) ⟨4, 0, 0, 53⟩ ws Z #[(.ref a), (.int 0)] h0 (Q_rm_cha3_0 Z a n_a c0 c1 c2 cz fm h0 n0) := by
  refine own_begin (plainFor_of_name pn_1) (fun m => ef_39 m a) ?_
  intro p e s m below meth c s₁ hret hx hby hml hown hnm hlk X0 e0 hh hZ
  have N0 := Fr.nil n0
  have lt_S_a := own_ltN S_a.lt
  obtain ⟨sE, sa, tt0, kk0, stt, sV, sCA⟩ := id S_a
  rcases sCA with ⟨sC, sP, sA⟩ | ⟨sC, sA⟩
  · skip
    have sA' : Arv Z h0 tt0 kk0 .byte (3 : Int32) [(.int c0.toInt8.toInt32), (.int c1.toInt8.toInt32), (.int c2.toInt8.toInt32)] (.int (0 : Int32)) := sA
    refine og s₁ (mkF m 1 #[rv a, iv 0] [(.ref a)]) (fun t_ k_ => XS.aloadN X0.here hx rfl (hb hby d_jdk_42_56_0) rfl rfl k_) ?_
    obtain ⟨cq1, kq1, q1a, q1b, q1c⟩ := isOf hZ e0 sE
    obtain ⟨_, _, ⟨T1, L1, k1, n1⟩, -, X1, ⟨Lc1, hQ1, l1, y1, z1⟩, st1⟩ := X0.virtualBack hx (y := ym_2) (z := ym_2) hown (mvT hZ (own_w hw 17 rfl)) (mvT hZ (own_w hw 18 rfl)) (notFace_of_selects (args := #[]) (mvT hZ (own_w hw 20 rfl))) (mvT hZ (own_w hw 20 rfl)) (mvT hZ (own_w hw 19 rfl)) (by decide) (backOf (W := 0) (rm_isl0 l Z a0 hw [] a cz h0 n0 (show n0 ≤ h0.size by omega) sC O0 S_COMPACT_STRINGS hcz sE) hZ (own_w hw 21 rfl) (own_w hw 5 rfl) (by decide) (by decide)) q1a q1c (g := (mkF m 1 #[rv a, iv 0] [(.ref a)])) rfl (by rw [hml]; rfl) (Steps.refl _) (argsL := []) (rest := []) (lenOf pd_14 rfl) rfl (by show 2 * 0 + _ ≤ _; exact Nat.le_of_eq rfl) (hb hby d_jdk_42_56_1) (fun _ _ => ⟨rfl, e0, (by decide : 0 + 0 ≤ _), (by decide : 0 + 0 ≤ _)⟩)
    dsimp only [Pt.U, Pt.locs, Pt.cells, Pt.slots] at X1 l1 y1 z1 st1 hQ1
    subst l1 y1 z1
    obtain ⟨rfl, M1, e1⟩ := hQ1
    have N1 := Fr.app N0 M1
    refine og T1 (mkF m 4 #[rv a, iv 0] [(.int 1)]) (fun t_ k_ => st1.trans k_) ?_
    refine og T1 (mkF m 7 #[rv a, iv 0] []) (fun t_ k_ => XS.ifNo X1.here hx rfl (hb hby d_jdk_42_56_4) rfl ((if0 _ _).trans (feq (by decide)).1) k_) ?_
    refine og T1 (mkF m 8 #[rv a, iv 0] [(.ref a)]) (fun t_ k_ => XS.aloadN X1.here hx rfl (hb hby d_jdk_42_56_7) rfl rfl k_) ?_
    obtain ⟨T2, X2, e2, st2⟩ := getF X1 hx hZ hown (host := "") (Or.inl (own_w hw 24 rfl)) Via.refl e1 sV (g := (mkF m 8 #[rv a, iv 0] [(.ref a)])) rfl rfl (hb hby d_jdk_42_56_8)
    refine og T2 (mkF m 11 #[rv a, iv 0] [(.ref tt0)]) (fun t_ k_ => st2 _ k_) ?_
    refine og T2 (mkF m 12 #[rv a, iv 0] [(.int 0), (.ref tt0)]) (fun t_ k_ => XS.iloadN X2.here hx rfl (hb hby d_jdk_42_56_11) rfl k_) ?_
    obtain ⟨_, _, ⟨T3, L3, k3, n3⟩, -, X3, ⟨Lc3, hQ3, l3, y3, z3⟩, st3⟩ := Jvm.LawKit.callS X2 hx (y := ym_16) hown (mvT hZ (own_w hw 25 rfl)) (mvT hZ (own_w hw 26 rfl)) (mvT hZ (own_w hw 27 rfl)) (mvT hZ (own_w hw 28 rfl)) (by decide) (backOf (W := 0) (rm_lch3_0 l Z a0 hw [] tt0 fm c0 c1 c2 kk0 h0 n0 (show n0 ≤ h0.size by omega) rf O0 S_SIOOBE_FORMATTER (sP _ (List.mem_of_getElem? (i := 0) rfl)) sA') hZ (own_w hw 28 rfl) (own_w hw 27 rfl) (by decide) (by decide)) (g := (mkF m 12 #[rv a, iv 0] [(.int 0), (.ref tt0)])) rfl (by rw [hml]; rfl) (argsL := [(.ref tt0), (.int 0)]) (rest := []) (lenOf pd_6 rfl) rfl (by show 2 * 0 + _ ≤ _; exact Nat.le_of_eq rfl) (hb hby d_jdk_42_56_12) (fun _ _ => ⟨rfl, e2, (by decide : 0 + 0 ≤ _), (by decide : 0 + 0 ≤ _)⟩)
    dsimp only [Pt.U, Pt.locs, Pt.cells, Pt.slots] at X3 l3 y3 z3 st3 hQ3
    subst l3 y3 z3
    obtain ⟨rfl, M3, e3⟩ := hQ3
    have N3 := Fr.app N1 M3
    refine og T3 (mkF m 15 #[rv a, iv 0] [(.int c0)]) (fun t_ k_ => st3 _ k_) ?_
    exact own_out X3 (v := some (.int (nar .char c0))) (fun h => by rw [hret] at h; cases h) hlk (fun fs hr => retN X3 hx (t := .char) hret (by simp) (hb hby d_jdk_42_56_15) hr) (Q := Q_rm_cha3_0 Z a n_a c0 c1 c2 cz fm h0 n0) (by rw [e3]; exact ⟨(congrArg (fun z => some (Value.int z)) (own_narc16 hrc0)), N3, rfl⟩) (by decide) (by decide)
  · skip
    have sA' : Arv Z h0 tt0 kk0 .byte (6 : Int32) [(.int ((c0 >>> ((0 : Int32) &&& 31)).toInt8.toInt32)), (.int ((c0 >>> ((8 : Int32) &&& 31)).toInt8.toInt32)), (.int ((c1 >>> ((0 : Int32) &&& 31)).toInt8.toInt32)), (.int ((c1 >>> ((8 : Int32) &&& 31)).toInt8.toInt32)), (.int ((c2 >>> ((0 : Int32) &&& 31)).toInt8.toInt32)), (.int ((c2 >>> ((8 : Int32) &&& 31)).toInt8.toInt32))] (.int (0 : Int32)) := sA
    refine og s₁ (mkF m 1 #[rv a, iv 0] [(.ref a)]) (fun t_ k_ => XS.aloadN X0.here hx rfl (hb hby d_jdk_42_56_0) rfl rfl k_) ?_
    obtain ⟨cq4, kq4, q4a, q4b, q4c⟩ := isOf hZ e0 sE
    obtain ⟨_, _, ⟨T4, L4, k4, n4⟩, -, X4, ⟨Lc4, hQ4, l4, y4, z4⟩, st4⟩ := X0.virtualBack hx (y := ym_2) (z := ym_2) hown (mvT hZ (own_w hw 17 rfl)) (mvT hZ (own_w hw 18 rfl)) (notFace_of_selects (args := #[]) (mvT hZ (own_w hw 20 rfl))) (mvT hZ (own_w hw 20 rfl)) (mvT hZ (own_w hw 19 rfl)) (by decide) (backOf (W := 0) (rm_isl1 l Z a0 hw [] a cz h0 n0 (show n0 ≤ h0.size by omega) sC O0 S_COMPACT_STRINGS hcz sE) hZ (own_w hw 21 rfl) (own_w hw 5 rfl) (by decide) (by decide)) q4a q4c (g := (mkF m 1 #[rv a, iv 0] [(.ref a)])) rfl (by rw [hml]; rfl) (Steps.refl _) (argsL := []) (rest := []) (lenOf pd_14 rfl) rfl (by show 2 * 0 + _ ≤ _; exact Nat.le_of_eq rfl) (hb hby d_jdk_42_56_1) (fun _ _ => ⟨rfl, e0, (by decide : 0 + 0 ≤ _), (by decide : 0 + 0 ≤ _)⟩)
    dsimp only [Pt.U, Pt.locs, Pt.cells, Pt.slots] at X4 l4 y4 z4 st4 hQ4
    subst l4 y4 z4
    obtain ⟨rfl, M4, e4⟩ := hQ4
    have N4 := Fr.app N0 M4
    refine og T4 (mkF m 4 #[rv a, iv 0] [(.int 0)]) (fun t_ k_ => st4.trans k_) ?_
    refine og T4 (mkF m 16 #[rv a, iv 0] []) (fun t_ k_ => XS.ifYes X4.here hx rfl (pc0 := 4) (pc' := 16) rfl (hb hby d_jdk_42_56_4) rfl ((if0 _ _).trans (teq (by decide)).1) (by decide) (by decide) k_) ?_
    refine og T4 (mkF m 17 #[rv a, iv 0] [(.ref a)]) (fun t_ k_ => XS.aloadN X4.here hx rfl (hb hby d_jdk_42_56_16) rfl rfl k_) ?_
    obtain ⟨T5, X5, e5, st5⟩ := getF X4 hx hZ hown (host := "") (Or.inl (own_w hw 24 rfl)) Via.refl e4 sV (g := (mkF m 17 #[rv a, iv 0] [(.ref a)])) rfl rfl (hb hby d_jdk_42_56_17)
    refine og T5 (mkF m 20 #[rv a, iv 0] [(.ref tt0)]) (fun t_ k_ => st5 _ k_) ?_
    refine og T5 (mkF m 21 #[rv a, iv 0] [(.int 0), (.ref tt0)]) (fun t_ k_ => XS.iloadN X5.here hx rfl (hb hby d_jdk_42_56_20) rfl k_) ?_
    obtain ⟨_, _, ⟨T6, L6, k6, n6⟩, -, X6, ⟨Lc6, hQ6, l6, y6, z6⟩, st6⟩ := Jvm.LawKit.callS X5 hx (y := ym_19) hown (mvT hZ (own_w hw 98 rfl)) (mvT hZ (own_w hw 99 rfl)) (mvT hZ (own_w hw 66 rfl)) (mvT hZ (own_w hw 100 rfl)) (by decide) (backOf (W := 0) (rm_uch3_0 l Z a0 hw [] tt0 c0 c1 c2 kk0 fm h0 n0 (show n0 ≤ h0.size by omega) hrc0 hrc1 hrc2 sA' O0 S__assertionsDisabled S_HI_BYTE_SHIFT S_LO_BYTE_SHIFT rf S_SIOOBE_FORMATTER) hZ (own_w hw 100 rfl) (own_w hw 66 rfl) (by decide) (by decide)) (g := (mkF m 21 #[rv a, iv 0] [(.int 0), (.ref tt0)])) rfl (by rw [hml]; rfl) (argsL := [(.ref tt0), (.int 0)]) (rest := []) (lenOf pd_6 rfl) rfl (by show 2 * 0 + _ ≤ _; exact Nat.le_of_eq rfl) (hb hby d_jdk_42_56_21) (fun _ _ => ⟨rfl, e5, (by decide : 0 + 0 ≤ _), (by decide : 0 + 0 ≤ _)⟩)
    dsimp only [Pt.U, Pt.locs, Pt.cells, Pt.slots] at X6 l6 y6 z6 st6 hQ6
    subst l6 y6 z6
    obtain ⟨rfl, M6, e6⟩ := hQ6
    have N6 := Fr.app N4 M6
    refine og T6 (mkF m 24 #[rv a, iv 0] [(.int c0)]) (fun t_ k_ => st6 _ k_) ?_
    exact own_out X6 (v := some (.int (nar .char c0))) (fun h => by rw [hret] at h; cases h) hlk (fun fs hr => retN X6 hx (t := .char) hret (by simp) (hb hby d_jdk_42_56_24) hr) (Q := Q_rm_cha3_0 Z a n_a c0 c1 c2 cz fm h0 n0) (by rw [e6]; exact ⟨(congrArg (fun z => some (Value.int z)) (own_narc16 hrc0)), N6, rfl⟩) (by decide) (by decide)
def Q_rm_lch3_1 (Z : State) (a : Nat) (fm : Value) (c0 : Int32) (c1 : Int32) (c2 : Int32) (k_a : ClassId) (h0 : Heap) (n0 : Nat) (vv : Option Value) (h : Heap) (LL : List Loc) : Prop := vv = some (.int c1) ∧ Fr n0 LL ∧ h = h0
set_option maxRecDepth 65536 in
set_option maxHeartbeats 40000000 in
theorem rm_lch3_1 (l : Launch) (Z : State) (a0 : Array Value) (hw : ∀ d ∈ tables_1, d.before a0 Z = true) (ws : List Jvm.Cond) (a : Nat) (fm : Value) (c0 : Int32) (c1 : Int32) (c2 : Int32) (k_a : ClassId) (h0 : Heap) (n0 : Nat) (Z0 : n0 ≤ h0.size) (rf : fm.isRef = true) (O0 : Old Z n0 h0) (S_SIOOBE_FORMATTER : Sta Z Z.heap "jdk/internal/util/Preconditions" "SIOOBE_FORMATTER" "Ljava/util/function/BiFunction;" fm) (hb0 : ¬ (c1 < (0 : Int32)) ∧ ¬ ((255 : Int32) < c1)) (V_a : Arv Z h0 a k_a .byte (3 : Int32) [(.int c0.toInt8.toInt32), (.int c1.toInt8.toInt32), (.int c2.toInt8.toInt32)] (.int (0 : Int32))) :
    own_MF l ym_16 jdk_43_method_2_code 2 (some .char) ⟨2, 0, 0, 27⟩ ws Z #[(.ref a), (.int 1)] h0 (Q_rm_lch3_1 Z a fm c0 c1 c2 k_a h0 n0) := by
  refine own_begin (plainFor_of_name pn_4) (fun m => ef_40 m a) ?_
  intro p e s m below meth c s₁ hret hx hby hml hown hnm hlk X0 e0 hh hZ
  have N0 := Fr.nil n0
  have lt_V_a := own_ltN V_a.lt
  refine og s₁ (mkF m 1 #[rv a, iv 1] [(.int 1)]) (fun t_ k_ => XS.iloadN X0.here hx rfl (hb hby d_jdk_43_2_0) rfl k_) ?_
  refine og s₁ (mkF m 2 #[rv a, iv 1] [(.ref a), (.int 1)]) (fun t_ k_ => XS.aloadN X0.here hx rfl (hb hby d_jdk_43_2_1) rfl rfl k_) ?_
  obtain ⟨cl1, Ar1, -, S1, Nn1, -, -⟩ := id V_a
  refine og s₁ (mkF m 3 #[rv a, iv 1] [(.int 3), (.int 1)]) (fun t_ k_ => X0.arraylength hx (by rw [e0]; exact Ar1.1) (State.isArrayOf_alike hZ.alike Ar1.2.1) (g := (mkF m 2 #[rv a, iv 1] [(.ref a), (.int 1)])) rfl rfl (hb hby d_jdk_43_2_2) _ (by rw [len_of S1 Nn1]; exact k_)) ?_
  obtain ⟨_, _, ⟨T2, L2, k2, n2⟩, -, X2, ⟨Lc2, hQ2, l2, y2, z2⟩, st2⟩ := Jvm.LawKit.callS X0 hx (y := ym_1) hown (mvT hZ (own_w hw 29 rfl)) (mvT hZ (own_w hw 30 rfl)) (mvT hZ (own_w hw 5 rfl)) (mvT hZ (own_w hw 31 rfl)) (by decide) (backOf (W := 0) (rm_ci l Z a0 hw [] (1 : Int32) (3 : Int32) fm h0 n0 (show n0 ≤ h0.size by omega) (by decide) (by decide) rf O0 S_SIOOBE_FORMATTER) hZ (own_w hw 31 rfl) (own_w hw 5 rfl) (by decide) (by decide)) (g := (mkF m 3 #[rv a, iv 1] [(.int 3), (.int 1)])) rfl (by rw [hml]; rfl) (argsL := [(.int 1), (.int 3)]) (rest := []) (lenOf pd_11 rfl) rfl (by show 2 * 0 + _ ≤ _; exact Nat.le_of_eq rfl) (hb hby d_jdk_43_2_3) (fun _ _ => ⟨rfl, e0, (by decide : 0 + 0 ≤ _), (by decide : 0 + 0 ≤ _)⟩)
  dsimp only [Pt.U, Pt.locs, Pt.cells, Pt.slots] at X2 l2 y2 z2 st2 hQ2
  subst l2 y2 z2
  obtain ⟨rfl, M2, e2⟩ := hQ2
  have N2 := Fr.app N0 M2
  refine og T2 (mkF m 6 #[rv a, iv 1] []) (fun t_ k_ => st2 _ k_) ?_
  refine og T2 (mkF m 7 #[rv a, iv 1] [(.ref a)]) (fun t_ k_ => XS.aloadN X2.here hx rfl (hb hby d_jdk_43_2_6) rfl rfl k_) ?_
  refine og T2 (mkF m 8 #[rv a, iv 1] [(.int 1), (.ref a)]) (fun t_ k_ => XS.iloadN X2.here hx rfl (hb hby d_jdk_43_2_7) rfl k_) ?_
  obtain ⟨cl3, Ar3, -, S3, Nn3, H3, -⟩ := id V_a
  have hin3 : ¬ ((1 : Int32) < 0 ∨ cl3.slots.size ≤ ((1 : Int32)).toNatClampNeg) := inb_of S3 ⟨by decide, by decide⟩
  refine og T2 (mkF m 9 #[rv a, iv 1] [(.int c1.toInt8.toInt32)]) (fun t_ k_ => X2.baloadBytes hx (j := (1 : Int32)) (v := (.int c1.toInt8.toInt32)) (by rw [e2]; exact Ar3.1) (State.isArrayOf_alike hZ.alike Ar3.2.1) Ar3.2.2 hin3 (H3.at hin3 rfl) (g := (mkF m 8 #[rv a, iv 1] [(.int 1), (.ref a)])) rfl rfl (hb hby d_jdk_43_2_8) _ k_) ?_
  refine og T2 (mkF m 12 #[rv a, iv 1] [(.int 255), (.int c1.toInt8.toInt32)]) (fun t_ k_ => XS.sipush X2.here hx rfl (hb hby d_jdk_43_2_9) k_) ?_
  refine og T2 (mkF m 13 #[rv a, iv 1] [(.int (c1.toInt8.toInt32 &&& (255 : Int32)))]) (fun t_ k_ => XS.iand X2.here hx rfl (hb hby d_jdk_43_2_12) rfl k_) ?_
  refine og T2 (mkF m 14 #[rv a, iv 1] [(.int ((c1.toInt8.toInt32 &&& (255 : Int32)).toUInt32.toUInt16.toUInt32.toInt32))]) (fun t_ k_ => XS.i2c X2.here hx rfl (hb hby d_jdk_43_2_13) rfl k_) ?_
  exact own_out X2 (v := some (.int (nar .char ((c1.toInt8.toInt32 &&& (255 : Int32)).toUInt32.toUInt16.toUInt32.toInt32)))) (fun h => by rw [hret] at h; cases h) hlk (fun fs hr => retN X2 hx (t := .char) hret (by simp) (hb hby d_jdk_43_2_14) hr) (Q := Q_rm_lch3_1 Z a fm c0 c1 c2 k_a h0 n0) (by rw [e2]; exact ⟨(congrArg (fun z => some (Value.int z)) ((own_narc16 (own_i2cr _)).trans (own_lat hb0.1 hb0.2))), N2, rfl⟩) (by decide) (by decide)
def Q_rm_uci3_1 (Z : State) (a : Nat) (fm : Value) (y0 : Int32) (y1 : Int32) (y2 : Int32) (y3 : Int32) (y4 : Int32) (y5 : Int32) (k_a : ClassId) (h0 : Heap) (n0 : Nat) (vv : Option Value) (h : Heap) (LL : List Loc) : Prop := vv = none ∧ Fr n0 LL ∧ h = h0
set_option maxRecDepth 65536 in
set_option maxHeartbeats 40000000 in
theorem rm_uci3_1 (l : Launch) (Z : State) (a0 : Array Value) (hw : ∀ d ∈ tables_1, d.before a0 Z = true) (ws : List Jvm.Cond) (a : Nat) (fm : Value) (y0 : Int32) (y1 : Int32) (y2 : Int32) (y3 : Int32) (y4 : Int32) (y5 : Int32) (k_a : ClassId) (h0 : Heap) (n0 : Nat) (Z0 : n0 ≤ h0.size) (rf : fm.isRef = true) (O0 : Old Z n0 h0) (S_SIOOBE_FORMATTER : Sta Z Z.heap "jdk/internal/util/Preconditions" "SIOOBE_FORMATTER" "Ljava/util/function/BiFunction;" fm) (V_a : Arv Z h0 a k_a .byte (6 : Int32) [(.int y0), (.int y1), (.int y2), (.int y3), (.int y4), (.int y5)] (.int (0 : Int32))) :
    own_MF l ym_18 jdk_52_method_91_code 2 none ⟨2, 0, 0, 27⟩ ws Z #[(.int 1), (.ref a)] h0 (Q_rm_uci3_1 Z a fm y0 y1 y2 y3 y4 y5 k_a h0 n0) := by
  refine own_begin (plainFor_of_name pn_2) (fun m => ef_41 m a) ?_
  intro p e s m below meth c s₁ hret hx hby hml hown hnm hlk X0 e0 hh hZ
  have N0 := Fr.nil n0
  have lt_V_a := own_ltN V_a.lt
  refine og s₁ (mkF m 1 #[iv 1, rv a] [(.int 1)]) (fun t_ k_ => XS.iloadN X0.here hx rfl (hb hby d_jdk_52_91_0) rfl k_) ?_
  refine og s₁ (mkF m 2 #[iv 1, rv a] [(.ref a), (.int 1)]) (fun t_ k_ => XS.aloadN X0.here hx rfl (hb hby d_jdk_52_91_1) rfl rfl k_) ?_
  obtain ⟨_, _, ⟨T1, L1, k1, n1⟩, -, X1, ⟨Lc1, hQ1, l1, y1, z1⟩, st1⟩ := Jvm.LawKit.callS X0 hx (y := ym_17) hown (mvT hZ (own_w hw 104 rfl)) (mvT hZ (own_w hw 105 rfl)) (mvT hZ (own_w hw 66 rfl)) (mvT hZ (own_w hw 106 rfl)) (by decide) (backOf (W := 1) (rm_ul3 l Z a0 hw [] a y0 y1 y2 y3 y4 y5 k_a h0 n0 (show n0 ≤ h0.size by omega) V_a) hZ (own_w hw 106 rfl) (own_w hw 66 rfl) (by decide) (by decide)) (g := (mkF m 2 #[iv 1, rv a] [(.ref a), (.int 1)])) rfl (by rw [hml]; rfl) (argsL := [(.ref a)]) (rest := [(.int 1)]) (lenOf pd_12 rfl) rfl (by show 2 * 0 + _ ≤ _; exact Nat.le_of_eq rfl) (hb hby d_jdk_52_91_2) (fun _ _ => ⟨rfl, e0, (by decide : 0 + 0 ≤ _), (by decide : 0 + 0 ≤ _)⟩)
  dsimp only [Pt.U, Pt.locs, Pt.cells, Pt.slots] at X1 l1 y1 z1 st1 hQ1
  subst l1 y1 z1
  obtain ⟨rfl, M1, e1⟩ := hQ1
  have N1 := Fr.app N0 M1
  refine og T1 (mkF m 5 #[iv 1, rv a] [(.int 3), (.int 1)]) (fun t_ k_ => st1 _ k_) ?_
  obtain ⟨_, _, ⟨T2, L2, k2, n2⟩, -, X2, ⟨Lc2, hQ2, l2, y2, z2⟩, st2⟩ := Jvm.LawKit.callS X1 hx (y := ym_1) hown (mvT hZ (own_w hw 107 rfl)) (mvT hZ (own_w hw 30 rfl)) (mvT hZ (own_w hw 5 rfl)) (mvT hZ (own_w hw 31 rfl)) (by decide) (backOf (W := 0) (rm_ci l Z a0 hw [] (1 : Int32) (3 : Int32) fm h0 n0 (show n0 ≤ h0.size by omega) (by decide) (by decide) rf O0 S_SIOOBE_FORMATTER) hZ (own_w hw 31 rfl) (own_w hw 5 rfl) (by decide) (by decide)) (g := (mkF m 5 #[iv 1, rv a] [(.int 3), (.int 1)])) rfl (by rw [hml]; rfl) (argsL := [(.int 1), (.int 3)]) (rest := []) (lenOf pd_11 rfl) rfl (by show 2 * 0 + _ ≤ _; exact Nat.le_of_eq rfl) (hb hby d_jdk_52_91_5) (fun _ _ => ⟨rfl, e1, (by decide : 0 + 0 ≤ _), (by decide : 0 + 0 ≤ _)⟩)
  dsimp only [Pt.U, Pt.locs, Pt.cells, Pt.slots] at X2 l2 y2 z2 st2 hQ2
  subst l2 y2 z2
  obtain ⟨rfl, M2, e2⟩ := hQ2
  have N2 := Fr.app N1 M2
  refine og T2 (mkF m 8 #[iv 1, rv a] []) (fun t_ k_ => st2 _ k_) ?_
  exact own_out X2 (v := none) (fun _ => rfl) hlk (fun fs hr => X2.returnOut hx hret (hb hby d_jdk_52_91_8) hr) (Q := Q_rm_uci3_1 Z a fm y0 y1 y2 y3 y4 y5 k_a h0 n0) (by rw [e2]; exact ⟨rfl, N2, rfl⟩) (by decide) (by decide)
def Q_rm_uch3_1 (Z : State) (a : Nat) (c0 : Int32) (c1 : Int32) (c2 : Int32) (k_a : ClassId) (fm : Value) (h0 : Heap) (n0 : Nat) (vv : Option Value) (h : Heap) (LL : List Loc) : Prop := vv = some (.int c1) ∧ Fr n0 LL ∧ h = h0
set_option maxRecDepth 65536 in
set_option maxHeartbeats 40000000 in
theorem rm_uch3_1 (l : Launch) (Z : State) (a0 : Array Value) (hw : ∀ d ∈ tables_1, d.before a0 Z = true) (ws : List Jvm.Cond) (a : Nat) (c0 : Int32) (c1 : Int32) (c2 : Int32) (k_a : ClassId) (fm : Value) (h0 : Heap) (n0 : Nat) (Z0 : n0 ≤ h0.size) (hrc0 : ¬ (c0 < (0 : Int32)) ∧ ¬ ((65535 : Int32) < c0)) (hrc1 : ¬ (c1 < (0 : Int32)) ∧ ¬ ((65535 : Int32) < c1)) (hrc2 : ¬ (c2 < (0 : Int32)) ∧ ¬ ((65535 : Int32) < c2)) (V_a : Arv Z h0 a k_a .byte (6 : Int32) [(.int ((c0 >>> ((0 : Int32) &&& 31)).toInt8.toInt32)), (.int ((c0 >>> ((8 : Int32) &&& 31)).toInt8.toInt32)), (.int ((c1 >>> ((0 : Int32) &&& 31)).toInt8.toInt32)), (.int ((c1 >>> ((8 : Int32) &&& 31)).toInt8.toInt32)), (.int ((c2 >>> ((0 : Int32) &&& 31)).toInt8.toInt32)), (.int ((c2 >>> ((8 : Int32) &&& 31)).toInt8.toInt32))] (.int (0 : Int32))) (O0 : Old Z n0 h0) (S__assertionsDisabled : Sta Z Z.heap "java/lang/StringUTF16" "$assertionsDisabled" "Z" (.int 1)) (S_HI_BYTE_SHIFT : Sta Z Z.heap "java/lang/StringUTF16" "HI_BYTE_SHIFT" "I" (.int 0)) (S_LO_BYTE_SHIFT : Sta Z Z.heap "java/lang/StringUTF16" "LO_BYTE_SHIFT" "I" (.int 8)) (rf : fm.isRef = true) (S_SIOOBE_FORMATTER : Sta Z Z.heap "jdk/internal/util/Preconditions" "SIOOBE_FORMATTER" "Ljava/util/function/BiFunction;" fm) :
    own_MF l ym_19 jdk_52_method_83_code 2 (some .char) ⟨3, 0, 0, 40⟩ ws Z #[(.ref a), (.int 1)] h0 (Q_rm_uch3_1 Z a c0 c1 c2 k_a fm h0 n0) := by
  refine own_begin (plainFor_of_name pn_2) (fun m => ef_42 m a) ?_
  intro p e s m below meth c s₁ hret hx hby hml hown hnm hlk X0 e0 hh hZ
  have N0 := Fr.nil n0
  have lt_V_a := own_ltN V_a.lt
  refine og s₁ (mkF m 1 #[rv a, iv 1] [(.int 1)]) (fun t_ k_ => XS.iloadN X0.here hx rfl (hb hby d_jdk_52_83_0) rfl k_) ?_
  refine og s₁ (mkF m 2 #[rv a, iv 1] [(.ref a), (.int 1)]) (fun t_ k_ => XS.aloadN X0.here hx rfl (hb hby d_jdk_52_83_1) rfl rfl k_) ?_
  obtain ⟨_, _, ⟨T1, L1, k1, n1⟩, -, X1, ⟨Lc1, hQ1, l1, y1, z1⟩, st1⟩ := Jvm.LawKit.callS X0 hx (y := ym_18) hown (mvT hZ (own_w hw 101 rfl)) (mvT hZ (own_w hw 102 rfl)) (mvT hZ (own_w hw 66 rfl)) (mvT hZ (own_w hw 103 rfl)) (by decide) (backOf (W := 0) (rm_uci3_1 l Z a0 hw [] a fm ((c0 >>> ((0 : Int32) &&& 31)).toInt8.toInt32) ((c0 >>> ((8 : Int32) &&& 31)).toInt8.toInt32) ((c1 >>> ((0 : Int32) &&& 31)).toInt8.toInt32) ((c1 >>> ((8 : Int32) &&& 31)).toInt8.toInt32) ((c2 >>> ((0 : Int32) &&& 31)).toInt8.toInt32) ((c2 >>> ((8 : Int32) &&& 31)).toInt8.toInt32) k_a h0 n0 (show n0 ≤ h0.size by omega) rf O0 S_SIOOBE_FORMATTER V_a) hZ (own_w hw 103 rfl) (own_w hw 66 rfl) (by decide) (by decide)) (g := (mkF m 2 #[rv a, iv 1] [(.ref a), (.int 1)])) rfl (by rw [hml]; rfl) (argsL := [(.int 1), (.ref a)]) (rest := []) (lenOf pd_13 rfl) rfl (by show 2 * 0 + _ ≤ _; exact Nat.le_of_eq rfl) (hb hby d_jdk_52_83_2) (fun _ _ => ⟨rfl, e0, (by decide : 0 + 0 ≤ _), (by decide : 0 + 0 ≤ _)⟩)
  dsimp only [Pt.U, Pt.locs, Pt.cells, Pt.slots] at X1 l1 y1 z1 st1 hQ1
  subst l1 y1 z1
  obtain ⟨rfl, M1, e1⟩ := hQ1
  have N1 := Fr.app N0 M1
  refine og T1 (mkF m 5 #[rv a, iv 1] []) (fun t_ k_ => st1 _ k_) ?_
  refine og T1 (mkF m 6 #[rv a, iv 1] [(.ref a)]) (fun t_ k_ => XS.aloadN X1.here hx rfl (hb hby d_jdk_52_83_5) rfl rfl k_) ?_
  refine og T1 (mkF m 7 #[rv a, iv 1] [(.int 1), (.ref a)]) (fun t_ k_ => XS.iloadN X1.here hx rfl (hb hby d_jdk_52_83_6) rfl k_) ?_
  obtain ⟨_, _, ⟨T2, L2, k2, n2⟩, -, X2, ⟨Lc2, hQ2, l2, y2, z2⟩, st2⟩ := Jvm.LawKit.callS X1 hx (y := ym_7) hown (mvT hZ (own_w hw 95 rfl)) (mvT hZ (own_w hw 96 rfl)) (mvT hZ (own_w hw 66 rfl)) (mvT hZ (own_w hw 97 rfl)) (by decide) (backOf (W := 0) (rm_get3_1 l Z a0 hw [] a c0 c1 c2 k_a h0 n0 (show n0 ≤ h0.size by omega) hrc0 hrc1 hrc2 V_a O0 S__assertionsDisabled S_HI_BYTE_SHIFT S_LO_BYTE_SHIFT) hZ (own_w hw 97 rfl) (own_w hw 66 rfl) (by decide) (by decide)) (g := (mkF m 7 #[rv a, iv 1] [(.int 1), (.ref a)])) rfl (by rw [hml]; rfl) (argsL := [(.ref a), (.int 1)]) (rest := []) (lenOf pd_6 rfl) rfl (by show 2 * 0 + _ ≤ _; exact Nat.le_of_eq rfl) (hb hby d_jdk_52_83_7) (fun _ _ => ⟨rfl, e1, (by decide : 0 + 0 ≤ _), (by decide : 0 + 0 ≤ _)⟩)
  dsimp only [Pt.U, Pt.locs, Pt.cells, Pt.slots] at X2 l2 y2 z2 st2 hQ2
  subst l2 y2 z2
  obtain ⟨rfl, M2, e2⟩ := hQ2
  have N2 := Fr.app N1 M2
  refine og T2 (mkF m 10 #[rv a, iv 1] [(.int c1)]) (fun t_ k_ => st2 _ k_) ?_
  exact own_out X2 (v := some (.int (nar .char c1))) (fun h => by rw [hret] at h; cases h) hlk (fun fs hr => retN X2 hx (t := .char) hret (by simp) (hb hby d_jdk_52_83_10) hr) (Q := Q_rm_uch3_1 Z a c0 c1 c2 k_a fm h0 n0) (by rw [e2]; exact ⟨(congrArg (fun z => some (Value.int z)) (own_narc16 hrc1)), N2, rfl⟩) (by decide) (by decide)
def Q_rm_cha3_1 (Z : State) (a : Nat) (n_a : Nat) (c0 : Int32) (c1 : Int32) (c2 : Int32) (cz : Int32) (fm : Value) (h0 : Heap) (n0 : Nat) (vv : Option Value) (h : Heap) (LL : List Loc) : Prop := vv = some (.int c1) ∧ Fr n0 LL ∧ h = h0
set_option maxRecDepth 65536 in
set_option maxHeartbeats 40000000 in
theorem rm_cha3_1 (l : Launch) (Z : State) (a0 : Array Value) (hw : ∀ d ∈ tables_1, d.before a0 Z = true) (ws : List Jvm.Cond) (a : Nat) (n_a : Nat) (c0 : Int32) (c1 : Int32) (c2 : Int32) (cz : Int32) (fm : Value) (h0 : Heap) (n0 : Nat) (Z0 : n0 ≤ h0.size) (S_a : own_Sw Z h0 n_a a [c0, c1, c2]) (hrc0 : ¬ (c0 < (0 : Int32)) ∧ ¬ ((65535 : Int32) < c0)) (hrc1 : ¬ (c1 < (0 : Int32)) ∧ ¬ ((65535 : Int32) < c1)) (hrc2 : ¬ (c2 < (0 : Int32)) ∧ ¬ ((65535 : Int32) < c2)) (O0 : Old Z n0 h0) (S_COMPACT_STRINGS : Sta Z Z.heap "java/lang/String" "COMPACT_STRINGS" "Z" (.int cz)) (hcz : ¬ cz = (0 : Int32)) (S__assertionsDisabled : Sta Z Z.heap "java/lang/StringUTF16" "$assertionsDisabled" "Z" (.int 1)) (S_HI_BYTE_SHIFT : Sta Z Z.heap "java/lang/StringUTF16" "HI_BYTE_SHIFT" "I" (.int 0)) (S_LO_BYTE_SHIFT : Sta Z Z.heap "java/lang/StringUTF16" "LO_BYTE_SHIFT" "I" (.int 8)) (rf : fm.isRef = true) (S_SIOOBE_FORMATTER : Sta Z Z.heap "jdk/internal/util/Preconditions" "SIOOBE_FORMATTER" "Ljava/util/function/BiFunction;" fm) :
    own_MF l ym_20 jdk_42_method_56_code 2 (some .char) ⟨4, 0, 0, 53⟩ ws Z #[(.ref a), (.int 1)] h0 (Q_rm_cha3_1 Z a n_a c0 c1 c2 cz fm h0 n0) := by
  refine own_begin (plainFor_of_name pn_1) (fun m => ef_43 m a) ?_
  intro p e s m below meth c s₁ hret hx hby hml hown hnm hlk X0 e0 hh hZ
  have N0 := Fr.nil n0
  have lt_S_a := own_ltN S_a.lt
  obtain ⟨sE, sa, tt0, kk0, stt, sV, sCA⟩ := id S_a
  rcases sCA with ⟨sC, sP, sA⟩ | ⟨sC, sA⟩
  · skip
    have sA' : Arv Z h0 tt0 kk0 .byte (3 : Int32) [(.int c0.toInt8.toInt32), (.int c1.toInt8.toInt32), (.int c2.toInt8.toInt32)] (.int (0 : Int32)) := sA
    refine og s₁ (mkF m 1 #[rv a, iv 1] [(.ref a)]) (fun t_ k_ => XS.aloadN X0.here hx rfl (hb hby d_jdk_42_56_0) rfl rfl k_) ?_
    obtain ⟨cq1, kq1, q1a, q1b, q1c⟩ := isOf hZ e0 sE
    obtain ⟨_, _, ⟨T1, L1, k1, n1⟩, -, X1, ⟨Lc1, hQ1, l1, y1, z1⟩, st1⟩ := X0.virtualBack hx (y := ym_2) (z := ym_2) hown (mvT hZ (own_w hw 17 rfl)) (mvT hZ (own_w hw 18 rfl)) (notFace_of_selects (args := #[]) (mvT hZ (own_w hw 20 rfl))) (mvT hZ (own_w hw 20 rfl)) (mvT hZ (own_w hw 19 rfl)) (by decide) (backOf (W := 0) (rm_isl0 l Z a0 hw [] a cz h0 n0 (show n0 ≤ h0.size by omega) sC O0 S_COMPACT_STRINGS hcz sE) hZ (own_w hw 21 rfl) (own_w hw 5 rfl) (by decide) (by decide)) q1a q1c (g := (mkF m 1 #[rv a, iv 1] [(.ref a)])) rfl (by rw [hml]; rfl) (Steps.refl _) (argsL := []) (rest := []) (lenOf pd_14 rfl) rfl (by show 2 * 0 + _ ≤ _; exact Nat.le_of_eq rfl) (hb hby d_jdk_42_56_1) (fun _ _ => ⟨rfl, e0, (by decide : 0 + 0 ≤ _), (by decide : 0 + 0 ≤ _)⟩)
    dsimp only [Pt.U, Pt.locs, Pt.cells, Pt.slots] at X1 l1 y1 z1 st1 hQ1
    subst l1 y1 z1
    obtain ⟨rfl, M1, e1⟩ := hQ1
    have N1 := Fr.app N0 M1
    refine og T1 (mkF m 4 #[rv a, iv 1] [(.int 1)]) (fun t_ k_ => st1.trans k_) ?_
    refine og T1 (mkF m 7 #[rv a, iv 1] []) (fun t_ k_ => XS.ifNo X1.here hx rfl (hb hby d_jdk_42_56_4) rfl ((if0 _ _).trans (feq (by decide)).1) k_) ?_
    refine og T1 (mkF m 8 #[rv a, iv 1] [(.ref a)]) (fun t_ k_ => XS.aloadN X1.here hx rfl (hb hby d_jdk_42_56_7) rfl rfl k_) ?_
    obtain ⟨T2, X2, e2, st2⟩ := getF X1 hx hZ hown (host := "") (Or.inl (own_w hw 24 rfl)) Via.refl e1 sV (g := (mkF m 8 #[rv a, iv 1] [(.ref a)])) rfl rfl (hb hby d_jdk_42_56_8)
    refine og T2 (mkF m 11 #[rv a, iv 1] [(.ref tt0)]) (fun t_ k_ => st2 _ k_) ?_
    refine og T2 (mkF m 12 #[rv a, iv 1] [(.int 1), (.ref tt0)]) (fun t_ k_ => XS.iloadN X2.here hx rfl (hb hby d_jdk_42_56_11) rfl k_) ?_
    obtain ⟨_, _, ⟨T3, L3, k3, n3⟩, -, X3, ⟨Lc3, hQ3, l3, y3, z3⟩, st3⟩ := Jvm.LawKit.callS X2 hx (y := ym_16) hown (mvT hZ (own_w hw 25 rfl)) (mvT hZ (own_w hw 26 rfl)) (mvT hZ (own_w hw 27 rfl)) (mvT hZ (own_w hw 28 rfl)) (by decide) (backOf (W := 0) (rm_lch3_1 l Z a0 hw [] tt0 fm c0 c1 c2 kk0 h0 n0 (show n0 ≤ h0.size by omega) rf O0 S_SIOOBE_FORMATTER (sP _ (List.mem_of_getElem? (i := 1) rfl)) sA') hZ (own_w hw 28 rfl) (own_w hw 27 rfl) (by decide) (by decide)) (g := (mkF m 12 #[rv a, iv 1] [(.int 1), (.ref tt0)])) rfl (by rw [hml]; rfl) (argsL := [(.ref tt0), (.int 1)]) (rest := []) (lenOf pd_6 rfl) rfl (by show 2 * 0 + _ ≤ _; exact Nat.le_of_eq rfl) (hb hby d_jdk_42_56_12) (fun _ _ => ⟨rfl, e2, (by decide : 0 + 0 ≤ _), (by decide : 0 + 0 ≤ _)⟩)
    dsimp only [Pt.U, Pt.locs, Pt.cells, Pt.slots] at X3 l3 y3 z3 st3 hQ3
    subst l3 y3 z3
    obtain ⟨rfl, M3, e3⟩ := hQ3
    have N3 := Fr.app N1 M3
    refine og T3 (mkF m 15 #[rv a, iv 1] [(.int c1)]) (fun t_ k_ => st3 _ k_) ?_
    exact own_out X3 (v := some (.int (nar .char c1))) (fun h => by rw [hret] at h; cases h) hlk (fun fs hr => retN X3 hx (t := .char) hret (by simp) (hb hby d_jdk_42_56_15) hr) (Q := Q_rm_cha3_1 Z a n_a c0 c1 c2 cz fm h0 n0) (by rw [e3]; exact ⟨(congrArg (fun z => some (Value.int z)) (own_narc16 hrc1)), N3, rfl⟩) (by decide) (by decide)
  · skip
    have sA' : Arv Z h0 tt0 kk0 .byte (6 : Int32) [(.int ((c0 >>> ((0 : Int32) &&& 31)).toInt8.toInt32)), (.int ((c0 >>> ((8 : Int32) &&& 31)).toInt8.toInt32)), (.int ((c1 >>> ((0 : Int32) &&& 31)).toInt8.toInt32)), (.int ((c1 >>> ((8 : Int32) &&& 31)).toInt8.toInt32)), (.int ((c2 >>> ((0 : Int32) &&& 31)).toInt8.toInt32)), (.int ((c2 >>> ((8 : Int32) &&& 31)).toInt8.toInt32))] (.int (0 : Int32)) := sA
    refine og s₁ (mkF m 1 #[rv a, iv 1] [(.ref a)]) (fun t_ k_ => XS.aloadN X0.here hx rfl (hb hby d_jdk_42_56_0) rfl rfl k_) ?_
    obtain ⟨cq4, kq4, q4a, q4b, q4c⟩ := isOf hZ e0 sE
    obtain ⟨_, _, ⟨T4, L4, k4, n4⟩, -, X4, ⟨Lc4, hQ4, l4, y4, z4⟩, st4⟩ := X0.virtualBack hx (y := ym_2) (z := ym_2) hown (mvT hZ (own_w hw 17 rfl)) (mvT hZ (own_w hw 18 rfl)) (notFace_of_selects (args := #[]) (mvT hZ (own_w hw 20 rfl))) (mvT hZ (own_w hw 20 rfl)) (mvT hZ (own_w hw 19 rfl)) (by decide) (backOf (W := 0) (rm_isl1 l Z a0 hw [] a cz h0 n0 (show n0 ≤ h0.size by omega) sC O0 S_COMPACT_STRINGS hcz sE) hZ (own_w hw 21 rfl) (own_w hw 5 rfl) (by decide) (by decide)) q4a q4c (g := (mkF m 1 #[rv a, iv 1] [(.ref a)])) rfl (by rw [hml]; rfl) (Steps.refl _) (argsL := []) (rest := []) (lenOf pd_14 rfl) rfl (by show 2 * 0 + _ ≤ _; exact Nat.le_of_eq rfl) (hb hby d_jdk_42_56_1) (fun _ _ => ⟨rfl, e0, (by decide : 0 + 0 ≤ _), (by decide : 0 + 0 ≤ _)⟩)
    dsimp only [Pt.U, Pt.locs, Pt.cells, Pt.slots] at X4 l4 y4 z4 st4 hQ4
    subst l4 y4 z4
    obtain ⟨rfl, M4, e4⟩ := hQ4
    have N4 := Fr.app N0 M4
    refine og T4 (mkF m 4 #[rv a, iv 1] [(.int 0)]) (fun t_ k_ => st4.trans k_) ?_
    refine og T4 (mkF m 16 #[rv a, iv 1] []) (fun t_ k_ => XS.ifYes X4.here hx rfl (pc0 := 4) (pc' := 16) rfl (hb hby d_jdk_42_56_4) rfl ((if0 _ _).trans (teq (by decide)).1) (by decide) (by decide) k_) ?_
    refine og T4 (mkF m 17 #[rv a, iv 1] [(.ref a)]) (fun t_ k_ => XS.aloadN X4.here hx rfl (hb hby d_jdk_42_56_16) rfl rfl k_) ?_
    obtain ⟨T5, X5, e5, st5⟩ := getF X4 hx hZ hown (host := "") (Or.inl (own_w hw 24 rfl)) Via.refl e4 sV (g := (mkF m 17 #[rv a, iv 1] [(.ref a)])) rfl rfl (hb hby d_jdk_42_56_17)
    refine og T5 (mkF m 20 #[rv a, iv 1] [(.ref tt0)]) (fun t_ k_ => st5 _ k_) ?_
    refine og T5 (mkF m 21 #[rv a, iv 1] [(.int 1), (.ref tt0)]) (fun t_ k_ => XS.iloadN X5.here hx rfl (hb hby d_jdk_42_56_20) rfl k_) ?_
    obtain ⟨_, _, ⟨T6, L6, k6, n6⟩, -, X6, ⟨Lc6, hQ6, l6, y6, z6⟩, st6⟩ := Jvm.LawKit.callS X5 hx (y := ym_19) hown (mvT hZ (own_w hw 98 rfl)) (mvT hZ (own_w hw 99 rfl)) (mvT hZ (own_w hw 66 rfl)) (mvT hZ (own_w hw 100 rfl)) (by decide) (backOf (W := 0) (rm_uch3_1 l Z a0 hw [] tt0 c0 c1 c2 kk0 fm h0 n0 (show n0 ≤ h0.size by omega) hrc0 hrc1 hrc2 sA' O0 S__assertionsDisabled S_HI_BYTE_SHIFT S_LO_BYTE_SHIFT rf S_SIOOBE_FORMATTER) hZ (own_w hw 100 rfl) (own_w hw 66 rfl) (by decide) (by decide)) (g := (mkF m 21 #[rv a, iv 1] [(.int 1), (.ref tt0)])) rfl (by rw [hml]; rfl) (argsL := [(.ref tt0), (.int 1)]) (rest := []) (lenOf pd_6 rfl) rfl (by show 2 * 0 + _ ≤ _; exact Nat.le_of_eq rfl) (hb hby d_jdk_42_56_21) (fun _ _ => ⟨rfl, e5, (by decide : 0 + 0 ≤ _), (by decide : 0 + 0 ≤ _)⟩)
    dsimp only [Pt.U, Pt.locs, Pt.cells, Pt.slots] at X6 l6 y6 z6 st6 hQ6
    subst l6 y6 z6
    obtain ⟨rfl, M6, e6⟩ := hQ6
    have N6 := Fr.app N4 M6
    refine og T6 (mkF m 24 #[rv a, iv 1] [(.int c1)]) (fun t_ k_ => st6 _ k_) ?_
    exact own_out X6 (v := some (.int (nar .char c1))) (fun h => by rw [hret] at h; cases h) hlk (fun fs hr => retN X6 hx (t := .char) hret (by simp) (hb hby d_jdk_42_56_24) hr) (Q := Q_rm_cha3_1 Z a n_a c0 c1 c2 cz fm h0 n0) (by rw [e6]; exact ⟨(congrArg (fun z => some (Value.int z)) (own_narc16 hrc1)), N6, rfl⟩) (by decide) (by decide)
theorem ef_44 (m : MethodId) (a : Nat) : entryFrame m #[(.ref a), (.int 2)] 2 = mkF m 0 #[rv a, iv 2] [] := by first | (simp [entryFrame, mkF, argsToLocals, Value.category]; done) | rfl
def Q_rm_lch3_2 (Z : State) (a : Nat) (fm : Value) (c0 : Int32) (c1 : Int32) (c2 : Int32) (k_a : ClassId) (h0 : Heap) (n0 : Nat) (vv : Option Value) (h : Heap) (LL : List Loc) : Prop := vv = some (.int c2) ∧ Fr n0 LL ∧ h = h0
set_option maxRecDepth 65536 in
set_option maxHeartbeats 40000000 in
theorem rm_lch3_2 (l : Launch) (Z : State) (a0 : Array Value) (hw : ∀ d ∈ tables_1, d.before a0 Z = true) (ws : List Jvm.Cond) (a : Nat) (fm : Value) (c0 : Int32) (c1 : Int32) (c2 : Int32) (k_a : ClassId) (h0 : Heap) (n0 : Nat) (Z0 : n0 ≤ h0.size) (rf : fm.isRef = true) (O0 : Old Z n0 h0) (S_SIOOBE_FORMATTER : Sta Z Z.heap "jdk/internal/util/Preconditions" "SIOOBE_FORMATTER" "Ljava/util/function/BiFunction;" fm) (hb0 : ¬ (c2 < (0 : Int32)) ∧ ¬ ((255 : Int32) < c2)) (V_a : Arv Z h0 a k_a .byte (3 : Int32) [(.int c0.toInt8.toInt32), (.int c1.toInt8.toInt32), (.int c2.toInt8.toInt32)] (.int (0 : Int32))) :
    own_MF l ym_16 jdk_43_method_2_code 2 (some .char) ⟨2, 0, 0, 27⟩ ws Z #[(.ref a), (.int 2)] h0 (Q_rm_lch3_2 Z a fm c0 c1 c2 k_a h0 n0) := by
  refine own_begin (plainFor_of_name pn_4) (fun m => ef_44 m a) ?_
  intro p e s m below meth c s₁ hret hx hby hml hown hnm hlk X0 e0 hh hZ
  have N0 := Fr.nil n0
  have lt_V_a := own_ltN V_a.lt
  refine og s₁ (mkF m 1 #[rv a, iv 2] [(.int 2)]) (fun t_ k_ => XS.iloadN X0.here hx rfl (hb hby d_jdk_43_2_0) rfl k_) ?_
  refine og s₁ (mkF m 2 #[rv a, iv 2] [(.ref a), (.int 2)]) (fun t_ k_ => XS.aloadN X0.here hx rfl (hb hby d_jdk_43_2_1) rfl rfl k_) ?_
  obtain ⟨cl1, Ar1, -, S1, Nn1, -, -⟩ := id V_a
  refine og s₁ (mkF m 3 #[rv a, iv 2] [(.int 3), (.int 2)]) (fun t_ k_ => X0.arraylength hx (by rw [e0]; exact Ar1.1) (State.isArrayOf_alike hZ.alike Ar1.2.1) (g := (mkF m 2 #[rv a, iv 2] [(.ref a), (.int 2)])) rfl rfl (hb hby d_jdk_43_2_2) _ (by rw [len_of S1 Nn1]; exact k_)) ?_
  obtain ⟨_, _, ⟨T2, L2, k2, n2⟩, -, X2, ⟨Lc2, hQ2, l2, y2, z2⟩, st2⟩ := Jvm.LawKit.callS X0 hx (y := ym_1) hown (mvT hZ (own_w hw 29 rfl)) (mvT hZ (own_w hw 30 rfl)) (mvT hZ (own_w hw 5 rfl)) (mvT hZ (own_w hw 31 rfl)) (by decide) (backOf (W := 0) (rm_ci l Z a0 hw [] (2 : Int32) (3 : Int32) fm h0 n0 (show n0 ≤ h0.size by omega) (by decide) (by decide) rf O0 S_SIOOBE_FORMATTER) hZ (own_w hw 31 rfl) (own_w hw 5 rfl) (by decide) (by decide)) (g := (mkF m 3 #[rv a, iv 2] [(.int 3), (.int 2)])) rfl (by rw [hml]; rfl) (argsL := [(.int 2), (.int 3)]) (rest := []) (lenOf pd_11 rfl) rfl (by show 2 * 0 + _ ≤ _; exact Nat.le_of_eq rfl) (hb hby d_jdk_43_2_3) (fun _ _ => ⟨rfl, e0, (by decide : 0 + 0 ≤ _), (by decide : 0 + 0 ≤ _)⟩)
  dsimp only [Pt.U, Pt.locs, Pt.cells, Pt.slots] at X2 l2 y2 z2 st2 hQ2
  subst l2 y2 z2
  obtain ⟨rfl, M2, e2⟩ := hQ2
  have N2 := Fr.app N0 M2
  refine og T2 (mkF m 6 #[rv a, iv 2] []) (fun t_ k_ => st2 _ k_) ?_
  refine og T2 (mkF m 7 #[rv a, iv 2] [(.ref a)]) (fun t_ k_ => XS.aloadN X2.here hx rfl (hb hby d_jdk_43_2_6) rfl rfl k_) ?_
  refine og T2 (mkF m 8 #[rv a, iv 2] [(.int 2), (.ref a)]) (fun t_ k_ => XS.iloadN X2.here hx rfl (hb hby d_jdk_43_2_7) rfl k_) ?_
  obtain ⟨cl3, Ar3, -, S3, Nn3, H3, -⟩ := id V_a
  have hin3 : ¬ ((2 : Int32) < 0 ∨ cl3.slots.size ≤ ((2 : Int32)).toNatClampNeg) := inb_of S3 ⟨by decide, by decide⟩
  refine og T2 (mkF m 9 #[rv a, iv 2] [(.int c2.toInt8.toInt32)]) (fun t_ k_ => X2.baloadBytes hx (j := (2 : Int32)) (v := (.int c2.toInt8.toInt32)) (by rw [e2]; exact Ar3.1) (State.isArrayOf_alike hZ.alike Ar3.2.1) Ar3.2.2 hin3 (H3.at hin3 rfl) (g := (mkF m 8 #[rv a, iv 2] [(.int 2), (.ref a)])) rfl rfl (hb hby d_jdk_43_2_8) _ k_) ?_
  refine og T2 (mkF m 12 #[rv a, iv 2] [(.int 255), (.int c2.toInt8.toInt32)]) (fun t_ k_ => XS.sipush X2.here hx rfl (hb hby d_jdk_43_2_9) k_) ?_
  refine og T2 (mkF m 13 #[rv a, iv 2] [(.int (c2.toInt8.toInt32 &&& (255 : Int32)))]) (fun t_ k_ => XS.iand X2.here hx rfl (hb hby d_jdk_43_2_12) rfl k_) ?_
  refine og T2 (mkF m 14 #[rv a, iv 2] [(.int ((c2.toInt8.toInt32 &&& (255 : Int32)).toUInt32.toUInt16.toUInt32.toInt32))]) (fun t_ k_ => XS.i2c X2.here hx rfl (hb hby d_jdk_43_2_13) rfl k_) ?_
  exact own_out X2 (v := some (.int (nar .char ((c2.toInt8.toInt32 &&& (255 : Int32)).toUInt32.toUInt16.toUInt32.toInt32)))) (fun h => by rw [hret] at h; cases h) hlk (fun fs hr => retN X2 hx (t := .char) hret (by simp) (hb hby d_jdk_43_2_14) hr) (Q := Q_rm_lch3_2 Z a fm c0 c1 c2 k_a h0 n0) (by rw [e2]; exact ⟨(congrArg (fun z => some (Value.int z)) ((own_narc16 (own_i2cr _)).trans (own_lat hb0.1 hb0.2))), N2, rfl⟩) (by decide) (by decide)
theorem ef_45 (m : MethodId) (a : Nat) : entryFrame m #[(.int 2), (.ref a)] 2 = mkF m 0 #[iv 2, rv a] [] := by first | (simp [entryFrame, mkF, argsToLocals, Value.category]; done) | rfl
def Q_rm_uci3_2 (Z : State) (a : Nat) (fm : Value) (y0 : Int32) (y1 : Int32) (y2 : Int32) (y3 : Int32) (y4 : Int32) (y5 : Int32) (k_a : ClassId) (h0 : Heap) (n0 : Nat) (vv : Option Value) (h : Heap) (LL : List Loc) : Prop := vv = none ∧ Fr n0 LL ∧ h = h0
set_option maxRecDepth 65536 in
set_option maxHeartbeats 40000000 in
theorem rm_uci3_2 (l : Launch) (Z : State) (a0 : Array Value) (hw : ∀ d ∈ tables_1, d.before a0 Z = true) (ws : List Jvm.Cond) (a : Nat) (fm : Value) (y0 : Int32) (y1 : Int32) (y2 : Int32) (y3 : Int32) (y4 : Int32) (y5 : Int32) (k_a : ClassId) (h0 : Heap) (n0 : Nat) (Z0 : n0 ≤ h0.size) (rf : fm.isRef = true) (O0 : Old Z n0 h0) (S_SIOOBE_FORMATTER : Sta Z Z.heap "jdk/internal/util/Preconditions" "SIOOBE_FORMATTER" "Ljava/util/function/BiFunction;" fm) (V_a : Arv Z h0 a k_a .byte (6 : Int32) [(.int y0), (.int y1), (.int y2), (.int y3), (.int y4), (.int y5)] (.int (0 : Int32))) :
    own_MF l ym_18 jdk_52_method_91_code 2 none ⟨2, 0, 0, 27⟩ ws Z #[(.int 2), (.ref a)] h0 (Q_rm_uci3_2 Z a fm y0 y1 y2 y3 y4 y5 k_a h0 n0) := by
  refine own_begin (plainFor_of_name pn_2) (fun m => ef_45 m a) ?_
  intro p e s m below meth c s₁ hret hx hby hml hown hnm hlk X0 e0 hh hZ
  have N0 := Fr.nil n0
  have lt_V_a := own_ltN V_a.lt
  refine og s₁ (mkF m 1 #[iv 2, rv a] [(.int 2)]) (fun t_ k_ => XS.iloadN X0.here hx rfl (hb hby d_jdk_52_91_0) rfl k_) ?_
  refine og s₁ (mkF m 2 #[iv 2, rv a] [(.ref a), (.int 2)]) (fun t_ k_ => XS.aloadN X0.here hx rfl (hb hby d_jdk_52_91_1) rfl rfl k_) ?_
  obtain ⟨_, _, ⟨T1, L1, k1, n1⟩, -, X1, ⟨Lc1, hQ1, l1, y1, z1⟩, st1⟩ := Jvm.LawKit.callS X0 hx (y := ym_17) hown (mvT hZ (own_w hw 104 rfl)) (mvT hZ (own_w hw 105 rfl)) (mvT hZ (own_w hw 66 rfl)) (mvT hZ (own_w hw 106 rfl)) (by decide) (backOf (W := 1) (rm_ul3 l Z a0 hw [] a y0 y1 y2 y3 y4 y5 k_a h0 n0 (show n0 ≤ h0.size by omega) V_a) hZ (own_w hw 106 rfl) (own_w hw 66 rfl) (by decide) (by decide)) (g := (mkF m 2 #[iv 2, rv a] [(.ref a), (.int 2)])) rfl (by rw [hml]; rfl) (argsL := [(.ref a)]) (rest := [(.int 2)]) (lenOf pd_12 rfl) rfl (by show 2 * 0 + _ ≤ _; exact Nat.le_of_eq rfl) (hb hby d_jdk_52_91_2) (fun _ _ => ⟨rfl, e0, (by decide : 0 + 0 ≤ _), (by decide : 0 + 0 ≤ _)⟩)
  dsimp only [Pt.U, Pt.locs, Pt.cells, Pt.slots] at X1 l1 y1 z1 st1 hQ1
  subst l1 y1 z1
  obtain ⟨rfl, M1, e1⟩ := hQ1
  have N1 := Fr.app N0 M1
  refine og T1 (mkF m 5 #[iv 2, rv a] [(.int 3), (.int 2)]) (fun t_ k_ => st1 _ k_) ?_
  obtain ⟨_, _, ⟨T2, L2, k2, n2⟩, -, X2, ⟨Lc2, hQ2, l2, y2, z2⟩, st2⟩ := Jvm.LawKit.callS X1 hx (y := ym_1) hown (mvT hZ (own_w hw 107 rfl)) (mvT hZ (own_w hw 30 rfl)) (mvT hZ (own_w hw 5 rfl)) (mvT hZ (own_w hw 31 rfl)) (by decide) (backOf (W := 0) (rm_ci l Z a0 hw [] (2 : Int32) (3 : Int32) fm h0 n0 (show n0 ≤ h0.size by omega) (by decide) (by decide) rf O0 S_SIOOBE_FORMATTER) hZ (own_w hw 31 rfl) (own_w hw 5 rfl) (by decide) (by decide)) (g := (mkF m 5 #[iv 2, rv a] [(.int 3), (.int 2)])) rfl (by rw [hml]; rfl) (argsL := [(.int 2), (.int 3)]) (rest := []) (lenOf pd_11 rfl) rfl (by show 2 * 0 + _ ≤ _; exact Nat.le_of_eq rfl) (hb hby d_jdk_52_91_5) (fun _ _ => ⟨rfl, e1, (by decide : 0 + 0 ≤ _), (by decide : 0 + 0 ≤ _)⟩)
  dsimp only [Pt.U, Pt.locs, Pt.cells, Pt.slots] at X2 l2 y2 z2 st2 hQ2
  subst l2 y2 z2
  obtain ⟨rfl, M2, e2⟩ := hQ2
  have N2 := Fr.app N1 M2
  refine og T2 (mkF m 8 #[iv 2, rv a] []) (fun t_ k_ => st2 _ k_) ?_
  exact own_out X2 (v := none) (fun _ => rfl) hlk (fun fs hr => X2.returnOut hx hret (hb hby d_jdk_52_91_8) hr) (Q := Q_rm_uci3_2 Z a fm y0 y1 y2 y3 y4 y5 k_a h0 n0) (by rw [e2]; exact ⟨rfl, N2, rfl⟩) (by decide) (by decide)
theorem ef_46 (m : MethodId) (a : Nat) : entryFrame m #[(.ref a), (.int 2)] 2 = mkF m 0 #[rv a, iv 2] [] := by first | (simp [entryFrame, mkF, argsToLocals, Value.category]; done) | rfl
def Q_rm_uch3_2 (Z : State) (a : Nat) (c0 : Int32) (c1 : Int32) (c2 : Int32) (k_a : ClassId) (fm : Value) (h0 : Heap) (n0 : Nat) (vv : Option Value) (h : Heap) (LL : List Loc) : Prop := vv = some (.int c2) ∧ Fr n0 LL ∧ h = h0
set_option maxRecDepth 65536 in
set_option maxHeartbeats 40000000 in
theorem rm_uch3_2 (l : Launch) (Z : State) (a0 : Array Value) (hw : ∀ d ∈ tables_1, d.before a0 Z = true) (ws : List Jvm.Cond) (a : Nat) (c0 : Int32) (c1 : Int32) (c2 : Int32) (k_a : ClassId) (fm : Value) (h0 : Heap) (n0 : Nat) (Z0 : n0 ≤ h0.size) (hrc0 : ¬ (c0 < (0 : Int32)) ∧ ¬ ((65535 : Int32) < c0)) (hrc1 : ¬ (c1 < (0 : Int32)) ∧ ¬ ((65535 : Int32) < c1)) (hrc2 : ¬ (c2 < (0 : Int32)) ∧ ¬ ((65535 : Int32) < c2)) (V_a : Arv Z h0 a k_a .byte (6 : Int32) [(.int ((c0 >>> ((0 : Int32) &&& 31)).toInt8.toInt32)), (.int ((c0 >>> ((8 : Int32) &&& 31)).toInt8.toInt32)), (.int ((c1 >>> ((0 : Int32) &&& 31)).toInt8.toInt32)), (.int ((c1 >>> ((8 : Int32) &&& 31)).toInt8.toInt32)), (.int ((c2 >>> ((0 : Int32) &&& 31)).toInt8.toInt32)), (.int ((c2 >>> ((8 : Int32) &&& 31)).toInt8.toInt32))] (.int (0 : Int32))) (O0 : Old Z n0 h0) (S__assertionsDisabled : Sta Z Z.heap "java/lang/StringUTF16" "$assertionsDisabled" "Z" (.int 1)) (S_HI_BYTE_SHIFT : Sta Z Z.heap "java/lang/StringUTF16" "HI_BYTE_SHIFT" "I" (.int 0)) (S_LO_BYTE_SHIFT : Sta Z Z.heap "java/lang/StringUTF16" "LO_BYTE_SHIFT" "I" (.int 8)) (rf : fm.isRef = true) (S_SIOOBE_FORMATTER : Sta Z Z.heap "jdk/internal/util/Preconditions" "SIOOBE_FORMATTER" "Ljava/util/function/BiFunction;" fm) :
    own_MF l ym_19 jdk_52_method_83_code 2 (some .char) ⟨3, 0, 0, 40⟩ ws Z #[(.ref a), (.int 2)] h0 (Q_rm_uch3_2 Z a c0 c1 c2 k_a fm h0 n0) := by
  refine own_begin (plainFor_of_name pn_2) (fun m => ef_46 m a) ?_
  intro p e s m below meth c s₁ hret hx hby hml hown hnm hlk X0 e0 hh hZ
  have N0 := Fr.nil n0
  have lt_V_a := own_ltN V_a.lt
  refine og s₁ (mkF m 1 #[rv a, iv 2] [(.int 2)]) (fun t_ k_ => XS.iloadN X0.here hx rfl (hb hby d_jdk_52_83_0) rfl k_) ?_
  refine og s₁ (mkF m 2 #[rv a, iv 2] [(.ref a), (.int 2)]) (fun t_ k_ => XS.aloadN X0.here hx rfl (hb hby d_jdk_52_83_1) rfl rfl k_) ?_
  obtain ⟨_, _, ⟨T1, L1, k1, n1⟩, -, X1, ⟨Lc1, hQ1, l1, y1, z1⟩, st1⟩ := Jvm.LawKit.callS X0 hx (y := ym_18) hown (mvT hZ (own_w hw 101 rfl)) (mvT hZ (own_w hw 102 rfl)) (mvT hZ (own_w hw 66 rfl)) (mvT hZ (own_w hw 103 rfl)) (by decide) (backOf (W := 0) (rm_uci3_2 l Z a0 hw [] a fm ((c0 >>> ((0 : Int32) &&& 31)).toInt8.toInt32) ((c0 >>> ((8 : Int32) &&& 31)).toInt8.toInt32) ((c1 >>> ((0 : Int32) &&& 31)).toInt8.toInt32) ((c1 >>> ((8 : Int32) &&& 31)).toInt8.toInt32) ((c2 >>> ((0 : Int32) &&& 31)).toInt8.toInt32) ((c2 >>> ((8 : Int32) &&& 31)).toInt8.toInt32) k_a h0 n0 (show n0 ≤ h0.size by omega) rf O0 S_SIOOBE_FORMATTER V_a) hZ (own_w hw 103 rfl) (own_w hw 66 rfl) (by decide) (by decide)) (g := (mkF m 2 #[rv a, iv 2] [(.ref a), (.int 2)])) rfl (by rw [hml]; rfl) (argsL := [(.int 2), (.ref a)]) (rest := []) (lenOf pd_13 rfl) rfl (by show 2 * 0 + _ ≤ _; exact Nat.le_of_eq rfl) (hb hby d_jdk_52_83_2) (fun _ _ => ⟨rfl, e0, (by decide : 0 + 0 ≤ _), (by decide : 0 + 0 ≤ _)⟩)
  dsimp only [Pt.U, Pt.locs, Pt.cells, Pt.slots] at X1 l1 y1 z1 st1 hQ1
  subst l1 y1 z1
  obtain ⟨rfl, M1, e1⟩ := hQ1
  have N1 := Fr.app N0 M1
  refine og T1 (mkF m 5 #[rv a, iv 2] []) (fun t_ k_ => st1 _ k_) ?_
  refine og T1 (mkF m 6 #[rv a, iv 2] [(.ref a)]) (fun t_ k_ => XS.aloadN X1.here hx rfl (hb hby d_jdk_52_83_5) rfl rfl k_) ?_
  refine og T1 (mkF m 7 #[rv a, iv 2] [(.int 2), (.ref a)]) (fun t_ k_ => XS.iloadN X1.here hx rfl (hb hby d_jdk_52_83_6) rfl k_) ?_
  obtain ⟨_, _, ⟨T2, L2, k2, n2⟩, -, X2, ⟨Lc2, hQ2, l2, y2, z2⟩, st2⟩ := Jvm.LawKit.callS X1 hx (y := ym_7) hown (mvT hZ (own_w hw 95 rfl)) (mvT hZ (own_w hw 96 rfl)) (mvT hZ (own_w hw 66 rfl)) (mvT hZ (own_w hw 97 rfl)) (by decide) (backOf (W := 0) (rm_get3_2 l Z a0 hw [] a c0 c1 c2 k_a h0 n0 (show n0 ≤ h0.size by omega) hrc0 hrc1 hrc2 V_a O0 S__assertionsDisabled S_HI_BYTE_SHIFT S_LO_BYTE_SHIFT) hZ (own_w hw 97 rfl) (own_w hw 66 rfl) (by decide) (by decide)) (g := (mkF m 7 #[rv a, iv 2] [(.int 2), (.ref a)])) rfl (by rw [hml]; rfl) (argsL := [(.ref a), (.int 2)]) (rest := []) (lenOf pd_6 rfl) rfl (by show 2 * 0 + _ ≤ _; exact Nat.le_of_eq rfl) (hb hby d_jdk_52_83_7) (fun _ _ => ⟨rfl, e1, (by decide : 0 + 0 ≤ _), (by decide : 0 + 0 ≤ _)⟩)
  dsimp only [Pt.U, Pt.locs, Pt.cells, Pt.slots] at X2 l2 y2 z2 st2 hQ2
  subst l2 y2 z2
  obtain ⟨rfl, M2, e2⟩ := hQ2
  have N2 := Fr.app N1 M2
  refine og T2 (mkF m 10 #[rv a, iv 2] [(.int c2)]) (fun t_ k_ => st2 _ k_) ?_
  exact own_out X2 (v := some (.int (nar .char c2))) (fun h => by rw [hret] at h; cases h) hlk (fun fs hr => retN X2 hx (t := .char) hret (by simp) (hb hby d_jdk_52_83_10) hr) (Q := Q_rm_uch3_2 Z a c0 c1 c2 k_a fm h0 n0) (by rw [e2]; exact ⟨(congrArg (fun z => some (Value.int z)) (own_narc16 hrc2)), N2, rfl⟩) (by decide) (by decide)
theorem ef_47 (m : MethodId) (a : Nat) : entryFrame m #[(.ref a), (.int 2)] 2 = mkF m 0 #[rv a, iv 2] [] := by first | (simp [entryFrame, mkF, argsToLocals, Value.category]; done) | rfl
def Q_rm_cha3_2 (Z : State) (a : Nat) (n_a : Nat) (c0 : Int32) (c1 : Int32) (c2 : Int32) (cz : Int32) (fm : Value) (h0 : Heap) (n0 : Nat) (vv : Option Value) (h : Heap) (LL : List Loc) : Prop := vv = some (.int c2) ∧ Fr n0 LL ∧ h = h0
set_option maxRecDepth 65536 in
set_option maxHeartbeats 40000000 in
theorem rm_cha3_2 (l : Launch) (Z : State) (a0 : Array Value) (hw : ∀ d ∈ tables_1, d.before a0 Z = true) (ws : List Jvm.Cond) (a : Nat) (n_a : Nat) (c0 : Int32) (c1 : Int32) (c2 : Int32) (cz : Int32) (fm : Value) (h0 : Heap) (n0 : Nat) (Z0 : n0 ≤ h0.size) (S_a : own_Sw Z h0 n_a a [c0, c1, c2]) (hrc0 : ¬ (c0 < (0 : Int32)) ∧ ¬ ((65535 : Int32) < c0)) (hrc1 : ¬ (c1 < (0 : Int32)) ∧ ¬ ((65535 : Int32) < c1)) (hrc2 : ¬ (c2 < (0 : Int32)) ∧ ¬ ((65535 : Int32) < c2)) (O0 : Old Z n0 h0) (S_COMPACT_STRINGS : Sta Z Z.heap "java/lang/String" "COMPACT_STRINGS" "Z" (.int cz)) (hcz : ¬ cz = (0 : Int32)) (S__assertionsDisabled : Sta Z Z.heap "java/lang/StringUTF16" "$assertionsDisabled" "Z" (.int 1)) (S_HI_BYTE_SHIFT : Sta Z Z.heap "java/lang/StringUTF16" "HI_BYTE_SHIFT" "I" (.int 0)) (S_LO_BYTE_SHIFT : Sta Z Z.heap "java/lang/StringUTF16" "LO_BYTE_SHIFT" "I" (.int 8)) (rf : fm.isRef = true) (S_SIOOBE_FORMATTER : Sta Z Z.heap "jdk/internal/util/Preconditions" "SIOOBE_FORMATTER" "Ljava/util/function/BiFunction;" fm) :
    own_MF l ym_20 jdk_42_method_56_code 2 (some .char) ⟨4, 0, 0, 53⟩ ws Z #[(.ref a), (.int 2)] h0 (Q_rm_cha3_2 Z a n_a c0 c1 c2 cz fm h0 n0) := by
  refine own_begin (plainFor_of_name pn_1) (fun m => ef_47 m a) ?_
  intro p e s m below meth c s₁ hret hx hby hml hown hnm hlk X0 e0 hh hZ
  have N0 := Fr.nil n0
  have lt_S_a := own_ltN S_a.lt
  obtain ⟨sE, sa, tt0, kk0, stt, sV, sCA⟩ := id S_a
  rcases sCA with ⟨sC, sP, sA⟩ | ⟨sC, sA⟩
  · skip
    have sA' : Arv Z h0 tt0 kk0 .byte (3 : Int32) [(.int c0.toInt8.toInt32), (.int c1.toInt8.toInt32), (.int c2.toInt8.toInt32)] (.int (0 : Int32)) := sA
    refine og s₁ (mkF m 1 #[rv a, iv 2] [(.ref a)]) (fun t_ k_ => XS.aloadN X0.here hx rfl (hb hby d_jdk_42_56_0) rfl rfl k_) ?_
    obtain ⟨cq1, kq1, q1a, q1b, q1c⟩ := isOf hZ e0 sE
    obtain ⟨_, _, ⟨T1, L1, k1, n1⟩, -, X1, ⟨Lc1, hQ1, l1, y1, z1⟩, st1⟩ := X0.virtualBack hx (y := ym_2) (z := ym_2) hown (mvT hZ (own_w hw 17 rfl)) (mvT hZ (own_w hw 18 rfl)) (notFace_of_selects (args := #[]) (mvT hZ (own_w hw 20 rfl))) (mvT hZ (own_w hw 20 rfl)) (mvT hZ (own_w hw 19 rfl)) (by decide) (backOf (W := 0) (rm_isl0 l Z a0 hw [] a cz h0 n0 (show n0 ≤ h0.size by omega) sC O0 S_COMPACT_STRINGS hcz sE) hZ (own_w hw 21 rfl) (own_w hw 5 rfl) (by decide) (by decide)) q1a q1c (g := (mkF m 1 #[rv a, iv 2] [(.ref a)])) rfl (by rw [hml]; rfl) (Steps.refl _) (argsL := []) (rest := []) (lenOf pd_14 rfl) rfl (by show 2 * 0 + _ ≤ _; exact Nat.le_of_eq rfl) (hb hby d_jdk_42_56_1) (fun _ _ => ⟨rfl, e0, (by decide : 0 + 0 ≤ _), (by decide : 0 + 0 ≤ _)⟩)
    dsimp only [Pt.U, Pt.locs, Pt.cells, Pt.slots] at X1 l1 y1 z1 st1 hQ1
    subst l1 y1 z1
    obtain ⟨rfl, M1, e1⟩ := hQ1
    have N1 := Fr.app N0 M1
    refine og T1 (mkF m 4 #[rv a, iv 2] [(.int 1)]) (fun t_ k_ => st1.trans k_) ?_
    refine og T1 (mkF m 7 #[rv a, iv 2] []) (fun t_ k_ => XS.ifNo X1.here hx rfl (hb hby d_jdk_42_56_4) rfl ((if0 _ _).trans (feq (by decide)).1) k_) ?_
    refine og T1 (mkF m 8 #[rv a, iv 2] [(.ref a)]) (fun t_ k_ => XS.aloadN X1.here hx rfl (hb hby d_jdk_42_56_7) rfl rfl k_) ?_
    obtain ⟨T2, X2, e2, st2⟩ := getF X1 hx hZ hown (host := "") (Or.inl (own_w hw 24 rfl)) Via.refl e1 sV (g := (mkF m 8 #[rv a, iv 2] [(.ref a)])) rfl rfl (hb hby d_jdk_42_56_8)
    refine og T2 (mkF m 11 #[rv a, iv 2] [(.ref tt0)]) (fun t_ k_ => st2 _ k_) ?_
    refine og T2 (mkF m 12 #[rv a, iv 2] [(.int 2), (.ref tt0)]) (fun t_ k_ => XS.iloadN X2.here hx rfl (hb hby d_jdk_42_56_11) rfl k_) ?_
    obtain ⟨_, _, ⟨T3, L3, k3, n3⟩, -, X3, ⟨Lc3, hQ3, l3, y3, z3⟩, st3⟩ := Jvm.LawKit.callS X2 hx (y := ym_16) hown (mvT hZ (own_w hw 25 rfl)) (mvT hZ (own_w hw 26 rfl)) (mvT hZ (own_w hw 27 rfl)) (mvT hZ (own_w hw 28 rfl)) (by decide) (backOf (W := 0) (rm_lch3_2 l Z a0 hw [] tt0 fm c0 c1 c2 kk0 h0 n0 (show n0 ≤ h0.size by omega) rf O0 S_SIOOBE_FORMATTER (sP _ (List.mem_of_getElem? (i := 2) rfl)) sA') hZ (own_w hw 28 rfl) (own_w hw 27 rfl) (by decide) (by decide)) (g := (mkF m 12 #[rv a, iv 2] [(.int 2), (.ref tt0)])) rfl (by rw [hml]; rfl) (argsL := [(.ref tt0), (.int 2)]) (rest := []) (lenOf pd_6 rfl) rfl (by show 2 * 0 + _ ≤ _; exact Nat.le_of_eq rfl) (hb hby d_jdk_42_56_12) (fun _ _ => ⟨rfl, e2, (by decide : 0 + 0 ≤ _), (by decide : 0 + 0 ≤ _)⟩)
    dsimp only [Pt.U, Pt.locs, Pt.cells, Pt.slots] at X3 l3 y3 z3 st3 hQ3
    subst l3 y3 z3
    obtain ⟨rfl, M3, e3⟩ := hQ3
    have N3 := Fr.app N1 M3
    refine og T3 (mkF m 15 #[rv a, iv 2] [(.int c2)]) (fun t_ k_ => st3 _ k_) ?_
    exact own_out X3 (v := some (.int (nar .char c2))) (fun h => by rw [hret] at h; cases h) hlk (fun fs hr => retN X3 hx (t := .char) hret (by simp) (hb hby d_jdk_42_56_15) hr) (Q := Q_rm_cha3_2 Z a n_a c0 c1 c2 cz fm h0 n0) (by rw [e3]; exact ⟨(congrArg (fun z => some (Value.int z)) (own_narc16 hrc2)), N3, rfl⟩) (by decide) (by decide)
  · skip
    have sA' : Arv Z h0 tt0 kk0 .byte (6 : Int32) [(.int ((c0 >>> ((0 : Int32) &&& 31)).toInt8.toInt32)), (.int ((c0 >>> ((8 : Int32) &&& 31)).toInt8.toInt32)), (.int ((c1 >>> ((0 : Int32) &&& 31)).toInt8.toInt32)), (.int ((c1 >>> ((8 : Int32) &&& 31)).toInt8.toInt32)), (.int ((c2 >>> ((0 : Int32) &&& 31)).toInt8.toInt32)), (.int ((c2 >>> ((8 : Int32) &&& 31)).toInt8.toInt32))] (.int (0 : Int32)) := sA
    refine og s₁ (mkF m 1 #[rv a, iv 2] [(.ref a)]) (fun t_ k_ => XS.aloadN X0.here hx rfl (hb hby d_jdk_42_56_0) rfl rfl k_) ?_
    obtain ⟨cq4, kq4, q4a, q4b, q4c⟩ := isOf hZ e0 sE
    obtain ⟨_, _, ⟨T4, L4, k4, n4⟩, -, X4, ⟨Lc4, hQ4, l4, y4, z4⟩, st4⟩ := X0.virtualBack hx (y := ym_2) (z := ym_2) hown (mvT hZ (own_w hw 17 rfl)) (mvT hZ (own_w hw 18 rfl)) (notFace_of_selects (args := #[]) (mvT hZ (own_w hw 20 rfl))) (mvT hZ (own_w hw 20 rfl)) (mvT hZ (own_w hw 19 rfl)) (by decide) (backOf (W := 0) (rm_isl1 l Z a0 hw [] a cz h0 n0 (show n0 ≤ h0.size by omega) sC O0 S_COMPACT_STRINGS hcz sE) hZ (own_w hw 21 rfl) (own_w hw 5 rfl) (by decide) (by decide)) q4a q4c (g := (mkF m 1 #[rv a, iv 2] [(.ref a)])) rfl (by rw [hml]; rfl) (Steps.refl _) (argsL := []) (rest := []) (lenOf pd_14 rfl) rfl (by show 2 * 0 + _ ≤ _; exact Nat.le_of_eq rfl) (hb hby d_jdk_42_56_1) (fun _ _ => ⟨rfl, e0, (by decide : 0 + 0 ≤ _), (by decide : 0 + 0 ≤ _)⟩)
    dsimp only [Pt.U, Pt.locs, Pt.cells, Pt.slots] at X4 l4 y4 z4 st4 hQ4
    subst l4 y4 z4
    obtain ⟨rfl, M4, e4⟩ := hQ4
    have N4 := Fr.app N0 M4
    refine og T4 (mkF m 4 #[rv a, iv 2] [(.int 0)]) (fun t_ k_ => st4.trans k_) ?_
    refine og T4 (mkF m 16 #[rv a, iv 2] []) (fun t_ k_ => XS.ifYes X4.here hx rfl (pc0 := 4) (pc' := 16) rfl (hb hby d_jdk_42_56_4) rfl ((if0 _ _).trans (teq (by decide)).1) (by decide) (by decide) k_) ?_
    refine og T4 (mkF m 17 #[rv a, iv 2] [(.ref a)]) (fun t_ k_ => XS.aloadN X4.here hx rfl (hb hby d_jdk_42_56_16) rfl rfl k_) ?_
    obtain ⟨T5, X5, e5, st5⟩ := getF X4 hx hZ hown (host := "") (Or.inl (own_w hw 24 rfl)) Via.refl e4 sV (g := (mkF m 17 #[rv a, iv 2] [(.ref a)])) rfl rfl (hb hby d_jdk_42_56_17)
    refine og T5 (mkF m 20 #[rv a, iv 2] [(.ref tt0)]) (fun t_ k_ => st5 _ k_) ?_
    refine og T5 (mkF m 21 #[rv a, iv 2] [(.int 2), (.ref tt0)]) (fun t_ k_ => XS.iloadN X5.here hx rfl (hb hby d_jdk_42_56_20) rfl k_) ?_
    obtain ⟨_, _, ⟨T6, L6, k6, n6⟩, -, X6, ⟨Lc6, hQ6, l6, y6, z6⟩, st6⟩ := Jvm.LawKit.callS X5 hx (y := ym_19) hown (mvT hZ (own_w hw 98 rfl)) (mvT hZ (own_w hw 99 rfl)) (mvT hZ (own_w hw 66 rfl)) (mvT hZ (own_w hw 100 rfl)) (by decide) (backOf (W := 0) (rm_uch3_2 l Z a0 hw [] tt0 c0 c1 c2 kk0 fm h0 n0 (show n0 ≤ h0.size by omega) hrc0 hrc1 hrc2 sA' O0 S__assertionsDisabled S_HI_BYTE_SHIFT S_LO_BYTE_SHIFT rf S_SIOOBE_FORMATTER) hZ (own_w hw 100 rfl) (own_w hw 66 rfl) (by decide) (by decide)) (g := (mkF m 21 #[rv a, iv 2] [(.int 2), (.ref tt0)])) rfl (by rw [hml]; rfl) (argsL := [(.ref tt0), (.int 2)]) (rest := []) (lenOf pd_6 rfl) rfl (by show 2 * 0 + _ ≤ _; exact Nat.le_of_eq rfl) (hb hby d_jdk_42_56_21) (fun _ _ => ⟨rfl, e5, (by decide : 0 + 0 ≤ _), (by decide : 0 + 0 ≤ _)⟩)
    dsimp only [Pt.U, Pt.locs, Pt.cells, Pt.slots] at X6 l6 y6 z6 st6 hQ6
    subst l6 y6 z6
    obtain ⟨rfl, M6, e6⟩ := hQ6
    have N6 := Fr.app N4 M6
    refine og T6 (mkF m 24 #[rv a, iv 2] [(.int c2)]) (fun t_ k_ => st6 _ k_) ?_
    exact own_out X6 (v := some (.int (nar .char c2))) (fun h => by rw [hret] at h; cases h) hlk (fun fs hr => retN X6 hx (t := .char) hret (by simp) (hb hby d_jdk_42_56_24) hr) (Q := Q_rm_cha3_2 Z a n_a c0 c1 c2 cz fm h0 n0) (by rw [e6]; exact ⟨(congrArg (fun z => some (Value.int z)) (own_narc16 hrc2)), N6, rfl⟩) (by decide) (by decide)
def Q_rm_isw3 (Z : State) (a : Nat) (n_a : Nat) (c0 : Int32) (c1 : Int32) (c2 : Int32) (cz : Int32) (fm : Value) (h0 : Heap) (n0 : Nat) (vv : Option Value) (h : Heap) (LL : List Loc) : Prop := vv = some (.int (if own_W c0 then (if own_W c1 then (if own_W c2 then (1 : Int32) else (0 : Int32)) else (0 : Int32)) else (0 : Int32))) ∧ Fr n0 LL ∧ h = h0
set_option maxRecDepth 65536 in
set_option maxHeartbeats 40000000 in
theorem rm_isw3 (l : Launch) (Z : State) (a0 : Array Value) (hw : ∀ d ∈ tables_1, d.before a0 Z = true) (ws : List Jvm.Cond) (a : Nat) (n_a : Nat) (c0 : Int32) (c1 : Int32) (c2 : Int32) (cz : Int32) (fm : Value) (h0 : Heap) (n0 : Nat) (Z0 : n0 ≤ h0.size) (S_a : own_Sw Z h0 n_a a [c0, c1, c2]) (hrc0 : ¬ (c0 < (0 : Int32)) ∧ ¬ ((65535 : Int32) < c0)) (hrc1 : ¬ (c1 < (0 : Int32)) ∧ ¬ ((65535 : Int32) < c1)) (hrc2 : ¬ (c2 < (0 : Int32)) ∧ ¬ ((65535 : Int32) < c2)) (O0 : Old Z n0 h0) (S_COMPACT_STRINGS : Sta Z Z.heap "java/lang/String" "COMPACT_STRINGS" "Z" (.int cz)) (hcz : ¬ cz = (0 : Int32)) (S__assertionsDisabled : Sta Z Z.heap "java/lang/StringUTF16" "$assertionsDisabled" "Z" (.int 1)) (S_HI_BYTE_SHIFT : Sta Z Z.heap "java/lang/StringUTF16" "HI_BYTE_SHIFT" "I" (.int 0)) (S_LO_BYTE_SHIFT : Sta Z Z.heap "java/lang/StringUTF16" "LO_BYTE_SHIFT" "I" (.int 8)) (rf : fm.isRef = true) (S_SIOOBE_FORMATTER : Sta Z Z.heap "jdk/internal/util/Preconditions" "SIOOBE_FORMATTER" "Ljava/util/function/BiFunction;" fm) :
    own_MF l ym_15 prog_80_method_13_code 3 (some .boolean) ⟨5, 0, 0, 66⟩ ws Z #[(.ref a)] h0 (Q_rm_isw3 Z a n_a c0 c1 c2 cz fm h0 n0) := by
  refine own_begin (plainFor_of_name pn_3) (fun m => ef_34 m a) ?_
  intro p e s m below meth c s₁ hret hx hby hml hown hnm hlk X0 e0 hh hZ
  have N0 := Fr.nil n0
  have lt_S_a := own_ltN S_a.lt
  refine og s₁ (mkF m 1 #[rv a, .unset, .unset] [(.int 0)]) (fun t_ k_ => XS.iconst X0.here hx rfl (hb hby d_prog_80_13_0) k_) ?_
  refine og s₁ (mkF m 2 #[rv a, iv 0, .unset] []) (fun t_ k_ => XS.istoreN X0.here hx rfl (hb hby d_prog_80_13_1) rfl (l' := #[rv a, iv 0, .unset]) rfl k_) ?_
  refine og s₁ (mkF m 3 #[rv a, iv 0, .unset] [(.int 0)]) (fun t_ k_ => XS.iloadN X0.here hx rfl (hb hby d_prog_80_13_2) rfl k_) ?_
  refine og s₁ (mkF m 4 #[rv a, iv 0, .unset] [(.ref a), (.int 0)]) (fun t_ k_ => XS.aloadN X0.here hx rfl (hb hby d_prog_80_13_3) rfl rfl k_) ?_
  obtain ⟨cq1, kq1, q1a, q1b, q1c⟩ := isOf hZ e0 S_a.1
  obtain ⟨_, _, ⟨T1, L1, k1, n1⟩, -, X1, ⟨Lc1, hQ1, l1, y1, z1⟩, st1⟩ := X0.virtualBack hx (y := ym_14) (z := ym_14) hown (mvT hZ (own_w hw 54 rfl)) (mvT hZ (own_w hw 55 rfl)) (notFace_of_selects (args := #[]) (mvT hZ (own_w hw 57 rfl))) (mvT hZ (own_w hw 57 rfl)) (mvT hZ (own_w hw 56 rfl)) (by decide) (backOf (W := 1) (rm_len3 l Z a0 hw [] a n_a c0 c1 c2 cz h0 n0 (show n0 ≤ h0.size by omega) S_a hrc0 hrc1 hrc2 O0 S_COMPACT_STRINGS hcz) hZ (own_w hw 58 rfl) (own_w hw 5 rfl) (by decide) (by decide)) q1a q1c (g := (mkF m 4 #[rv a, iv 0, .unset] [(.ref a), (.int 0)])) rfl (by rw [hml]; rfl) (Steps.refl _) (argsL := []) (rest := [(.int 0)]) (lenOf pd_10 rfl) rfl (by show 2 * 0 + _ ≤ _; exact Nat.le_of_eq rfl) (hb hby d_prog_80_13_4) (fun _ _ => ⟨rfl, e0, (by decide : 0 + 0 ≤ _), (by decide : 0 + 0 ≤ _)⟩)
  dsimp only [Pt.U, Pt.locs, Pt.cells, Pt.slots] at X1 l1 y1 z1 st1 hQ1
  subst l1 y1 z1
  obtain ⟨rfl, M1, e1⟩ := hQ1
  have N1 := Fr.app N0 M1
  refine og T1 (mkF m 7 #[rv a, iv 0, .unset] [(.int 3), (.int 0)]) (fun t_ k_ => st1.trans k_) ?_
  refine og T1 (mkF m 10 #[rv a, iv 0, .unset] []) (fun t_ k_ => XS.icmpNo X1.here hx rfl (hb hby d_prog_80_13_7) rfl (tlt (by decide)).2.1 k_) ?_
  refine og T1 (mkF m 11 #[rv a, iv 0, .unset] [(.ref a)]) (fun t_ k_ => XS.aloadN X1.here hx rfl (hb hby d_prog_80_13_10) rfl rfl k_) ?_
  refine og T1 (mkF m 12 #[rv a, iv 0, .unset] [(.int 0), (.ref a)]) (fun t_ k_ => XS.iloadN X1.here hx rfl (hb hby d_prog_80_13_11) rfl k_) ?_
  obtain ⟨cq2, kq2, q2a, q2b, q2c⟩ := isOf hZ e1 S_a.1
  obtain ⟨_, _, ⟨T2, L2, k2, n2⟩, -, X2, ⟨Lc2, hQ2, l2, y2, z2⟩, st2⟩ := X1.virtualBack hx (y := ym_20) (z := ym_20) hown (mvT hZ (own_w hw 78 rfl)) (mvT hZ (own_w hw 13 rfl)) (notFace_of_selects (args := #[]) (mvT hZ (own_w hw 15 rfl))) (mvT hZ (own_w hw 15 rfl)) (mvT hZ (own_w hw 14 rfl)) (by decide) (backOf (W := 0) (rm_cha3_0 l Z a0 hw [] a n_a c0 c1 c2 cz fm h0 n0 (show n0 ≤ h0.size by omega) S_a hrc0 hrc1 hrc2 O0 S_COMPACT_STRINGS hcz S__assertionsDisabled S_HI_BYTE_SHIFT S_LO_BYTE_SHIFT rf S_SIOOBE_FORMATTER) hZ (own_w hw 16 rfl) (own_w hw 5 rfl) (by decide) (by decide)) q2a q2c (g := (mkF m 12 #[rv a, iv 0, .unset] [(.int 0), (.ref a)])) rfl (by rw [hml]; rfl) (Steps.refl _) (argsL := [(.int 0)]) (rest := []) (lenOf pd_15 rfl) rfl (by show 2 * 0 + _ ≤ _; exact Nat.le_of_eq rfl) (hb hby d_prog_80_13_12) (fun _ _ => ⟨rfl, e1, (by decide : 0 + 0 ≤ _), (by decide : 0 + 0 ≤ _)⟩)
  dsimp only [Pt.U, Pt.locs, Pt.cells, Pt.slots] at X2 l2 y2 z2 st2 hQ2
  subst l2 y2 z2
  obtain ⟨rfl, M2, e2⟩ := hQ2
  have N2 := Fr.app N1 M2
  refine og T2 (mkF m 15 #[rv a, iv 0, .unset] [(.int c0)]) (fun t_ k_ => st2.trans k_) ?_
  refine og T2 (mkF m 16 #[rv a, iv 0, iv c0] []) (fun t_ k_ => XS.istoreN X2.here hx rfl (hb hby d_prog_80_13_15) rfl (l' := #[rv a, iv 0, iv c0]) rfl k_) ?_
  by_cases hw0 : own_W c0
  · skip
    refine own_go (T' := T2) (g' := (mkF m 42 #[rv a, iv 0, iv c0] [])) (fun t_ k_ => ?_) ?_
    · show Steps p.tables e below (T2.setTop (mkF m 16 #[rv a, iv 0, iv c0] [])) t_
      rcases hw0 with hx0 | hx0 | hx0 | hx0
      · skip
        refine os T2 (mkF m 17 #[rv a, iv 0, iv c0] [(.int c0)]) (fun k_ => XS.iloadN X2.here hx rfl (hb hby d_prog_80_13_16) rfl k_) ?_
        refine os T2 (mkF m 19 #[rv a, iv 0, iv c0] [(.int 32), (.int c0)]) (fun k_ => XS.bipush X2.here hx rfl (hb hby d_prog_80_13_17) k_) ?_
        refine os T2 (mkF m 42 #[rv a, iv 0, iv c0] []) (fun k_ => XS.icmpYes X2.here hx rfl (pc0 := 19) (pc' := 42) rfl (hb hby d_prog_80_13_19) rfl (teq hx0).1 (by decide) (by decide) k_) ?_
        exact k_
      · skip
        refine os T2 (mkF m 17 #[rv a, iv 0, iv c0] [(.int c0)]) (fun k_ => XS.iloadN X2.here hx rfl (hb hby d_prog_80_13_16) rfl k_) ?_
        refine os T2 (mkF m 19 #[rv a, iv 0, iv c0] [(.int 32), (.int c0)]) (fun k_ => XS.bipush X2.here hx rfl (hb hby d_prog_80_13_17) k_) ?_
        refine os T2 (mkF m 22 #[rv a, iv 0, iv c0] []) (fun k_ => XS.icmpNo X2.here hx rfl (hb hby d_prog_80_13_19) rfl (feq (show ¬ c0 = (32 : Int32) by rw [hx0]; decide)).1 k_) ?_
        refine os T2 (mkF m 23 #[rv a, iv 0, iv c0] [(.int c0)]) (fun k_ => XS.iloadN X2.here hx rfl (hb hby d_prog_80_13_22) rfl k_) ?_
        refine os T2 (mkF m 25 #[rv a, iv 0, iv c0] [(.int 10), (.int c0)]) (fun k_ => XS.bipush X2.here hx rfl (hb hby d_prog_80_13_23) k_) ?_
        refine os T2 (mkF m 42 #[rv a, iv 0, iv c0] []) (fun k_ => XS.icmpYes X2.here hx rfl (pc0 := 25) (pc' := 42) rfl (hb hby d_prog_80_13_25) rfl (teq hx0).1 (by decide) (by decide) k_) ?_
        exact k_
      · skip
        refine os T2 (mkF m 17 #[rv a, iv 0, iv c0] [(.int c0)]) (fun k_ => XS.iloadN X2.here hx rfl (hb hby d_prog_80_13_16) rfl k_) ?_
        refine os T2 (mkF m 19 #[rv a, iv 0, iv c0] [(.int 32), (.int c0)]) (fun k_ => XS.bipush X2.here hx rfl (hb hby d_prog_80_13_17) k_) ?_
        refine os T2 (mkF m 22 #[rv a, iv 0, iv c0] []) (fun k_ => XS.icmpNo X2.here hx rfl (hb hby d_prog_80_13_19) rfl (feq (show ¬ c0 = (32 : Int32) by rw [hx0]; decide)).1 k_) ?_
        refine os T2 (mkF m 23 #[rv a, iv 0, iv c0] [(.int c0)]) (fun k_ => XS.iloadN X2.here hx rfl (hb hby d_prog_80_13_22) rfl k_) ?_
        refine os T2 (mkF m 25 #[rv a, iv 0, iv c0] [(.int 10), (.int c0)]) (fun k_ => XS.bipush X2.here hx rfl (hb hby d_prog_80_13_23) k_) ?_
        refine os T2 (mkF m 28 #[rv a, iv 0, iv c0] []) (fun k_ => XS.icmpNo X2.here hx rfl (hb hby d_prog_80_13_25) rfl (feq (show ¬ c0 = (10 : Int32) by rw [hx0]; decide)).1 k_) ?_
        refine os T2 (mkF m 29 #[rv a, iv 0, iv c0] [(.int c0)]) (fun k_ => XS.iloadN X2.here hx rfl (hb hby d_prog_80_13_28) rfl k_) ?_
        refine os T2 (mkF m 31 #[rv a, iv 0, iv c0] [(.int 9), (.int c0)]) (fun k_ => XS.bipush X2.here hx rfl (hb hby d_prog_80_13_29) k_) ?_
        refine os T2 (mkF m 42 #[rv a, iv 0, iv c0] []) (fun k_ => XS.icmpYes X2.here hx rfl (pc0 := 31) (pc' := 42) rfl (hb hby d_prog_80_13_31) rfl (teq hx0).1 (by decide) (by decide) k_) ?_
        exact k_
      · skip
        refine os T2 (mkF m 17 #[rv a, iv 0, iv c0] [(.int c0)]) (fun k_ => XS.iloadN X2.here hx rfl (hb hby d_prog_80_13_16) rfl k_) ?_
        refine os T2 (mkF m 19 #[rv a, iv 0, iv c0] [(.int 32), (.int c0)]) (fun k_ => XS.bipush X2.here hx rfl (hb hby d_prog_80_13_17) k_) ?_
        refine os T2 (mkF m 22 #[rv a, iv 0, iv c0] []) (fun k_ => XS.icmpNo X2.here hx rfl (hb hby d_prog_80_13_19) rfl (feq (show ¬ c0 = (32 : Int32) by rw [hx0]; decide)).1 k_) ?_
        refine os T2 (mkF m 23 #[rv a, iv 0, iv c0] [(.int c0)]) (fun k_ => XS.iloadN X2.here hx rfl (hb hby d_prog_80_13_22) rfl k_) ?_
        refine os T2 (mkF m 25 #[rv a, iv 0, iv c0] [(.int 10), (.int c0)]) (fun k_ => XS.bipush X2.here hx rfl (hb hby d_prog_80_13_23) k_) ?_
        refine os T2 (mkF m 28 #[rv a, iv 0, iv c0] []) (fun k_ => XS.icmpNo X2.here hx rfl (hb hby d_prog_80_13_25) rfl (feq (show ¬ c0 = (10 : Int32) by rw [hx0]; decide)).1 k_) ?_
        refine os T2 (mkF m 29 #[rv a, iv 0, iv c0] [(.int c0)]) (fun k_ => XS.iloadN X2.here hx rfl (hb hby d_prog_80_13_28) rfl k_) ?_
        refine os T2 (mkF m 31 #[rv a, iv 0, iv c0] [(.int 9), (.int c0)]) (fun k_ => XS.bipush X2.here hx rfl (hb hby d_prog_80_13_29) k_) ?_
        refine os T2 (mkF m 34 #[rv a, iv 0, iv c0] []) (fun k_ => XS.icmpNo X2.here hx rfl (hb hby d_prog_80_13_31) rfl (feq (show ¬ c0 = (9 : Int32) by rw [hx0]; decide)).1 k_) ?_
        refine os T2 (mkF m 35 #[rv a, iv 0, iv c0] [(.int c0)]) (fun k_ => XS.iloadN X2.here hx rfl (hb hby d_prog_80_13_34) rfl k_) ?_
        refine os T2 (mkF m 37 #[rv a, iv 0, iv c0] [(.int 13), (.int c0)]) (fun k_ => XS.bipush X2.here hx rfl (hb hby d_prog_80_13_35) k_) ?_
        refine os T2 (mkF m 42 #[rv a, iv 0, iv c0] []) (fun k_ => XS.icmpYes X2.here hx rfl (pc0 := 37) (pc' := 42) rfl (hb hby d_prog_80_13_37) rfl (teq hx0).1 (by decide) (by decide) k_) ?_
        exact k_
    refine og T2 (mkF m 45 #[rv a, iv 1, iv c0] []) (fun t_ k_ => XS.iinc X2.here hx rfl (hb hby d_prog_80_13_42) rfl (l' := #[rv a, iv 1, iv c0]) rfl k_) ?_
    refine og T2 (mkF m 2 #[rv a, iv 1, iv c0] []) (fun t_ k_ => XS.goto X2.here hx rfl (pc0 := 45) (pc' := 2) rfl (hb hby d_prog_80_13_45) (by decide) (by decide) k_) ?_
    refine og T2 (mkF m 3 #[rv a, iv 1, iv c0] [(.int 1)]) (fun t_ k_ => XS.iloadN X2.here hx rfl (hb hby d_prog_80_13_2) rfl k_) ?_
    refine og T2 (mkF m 4 #[rv a, iv 1, iv c0] [(.ref a), (.int 1)]) (fun t_ k_ => XS.aloadN X2.here hx rfl (hb hby d_prog_80_13_3) rfl rfl k_) ?_
    obtain ⟨cq3, kq3, q3a, q3b, q3c⟩ := isOf hZ e2 S_a.1
    obtain ⟨_, _, ⟨T3, L3, k3, n3⟩, -, X3, ⟨Lc3, hQ3, l3, y3, z3⟩, st3⟩ := X2.virtualBack hx (y := ym_14) (z := ym_14) hown (mvT hZ (own_w hw 54 rfl)) (mvT hZ (own_w hw 55 rfl)) (notFace_of_selects (args := #[]) (mvT hZ (own_w hw 57 rfl))) (mvT hZ (own_w hw 57 rfl)) (mvT hZ (own_w hw 56 rfl)) (by decide) (backOf (W := 1) (rm_len3 l Z a0 hw [] a n_a c0 c1 c2 cz h0 n0 (show n0 ≤ h0.size by omega) S_a hrc0 hrc1 hrc2 O0 S_COMPACT_STRINGS hcz) hZ (own_w hw 58 rfl) (own_w hw 5 rfl) (by decide) (by decide)) q3a q3c (g := (mkF m 4 #[rv a, iv 1, iv c0] [(.ref a), (.int 1)])) rfl (by rw [hml]; rfl) (Steps.refl _) (argsL := []) (rest := [(.int 1)]) (lenOf pd_10 rfl) rfl (by show 2 * 0 + _ ≤ _; exact Nat.le_of_eq rfl) (hb hby d_prog_80_13_4) (fun _ _ => ⟨rfl, e2, (by decide : 0 + 0 ≤ _), (by decide : 0 + 0 ≤ _)⟩)
    dsimp only [Pt.U, Pt.locs, Pt.cells, Pt.slots] at X3 l3 y3 z3 st3 hQ3
    subst l3 y3 z3
    obtain ⟨rfl, M3, e3⟩ := hQ3
    have N3 := Fr.app N2 M3
    refine og T3 (mkF m 7 #[rv a, iv 1, iv c0] [(.int 3), (.int 1)]) (fun t_ k_ => st3.trans k_) ?_
    refine og T3 (mkF m 10 #[rv a, iv 1, iv c0] []) (fun t_ k_ => XS.icmpNo X3.here hx rfl (hb hby d_prog_80_13_7) rfl (tlt (by decide)).2.1 k_) ?_
    refine og T3 (mkF m 11 #[rv a, iv 1, iv c0] [(.ref a)]) (fun t_ k_ => XS.aloadN X3.here hx rfl (hb hby d_prog_80_13_10) rfl rfl k_) ?_
    refine og T3 (mkF m 12 #[rv a, iv 1, iv c0] [(.int 1), (.ref a)]) (fun t_ k_ => XS.iloadN X3.here hx rfl (hb hby d_prog_80_13_11) rfl k_) ?_
    obtain ⟨cq4, kq4, q4a, q4b, q4c⟩ := isOf hZ e3 S_a.1
    obtain ⟨_, _, ⟨T4, L4, k4, n4⟩, -, X4, ⟨Lc4, hQ4, l4, y4, z4⟩, st4⟩ := X3.virtualBack hx (y := ym_20) (z := ym_20) hown (mvT hZ (own_w hw 78 rfl)) (mvT hZ (own_w hw 13 rfl)) (notFace_of_selects (args := #[]) (mvT hZ (own_w hw 15 rfl))) (mvT hZ (own_w hw 15 rfl)) (mvT hZ (own_w hw 14 rfl)) (by decide) (backOf (W := 0) (rm_cha3_1 l Z a0 hw [] a n_a c0 c1 c2 cz fm h0 n0 (show n0 ≤ h0.size by omega) S_a hrc0 hrc1 hrc2 O0 S_COMPACT_STRINGS hcz S__assertionsDisabled S_HI_BYTE_SHIFT S_LO_BYTE_SHIFT rf S_SIOOBE_FORMATTER) hZ (own_w hw 16 rfl) (own_w hw 5 rfl) (by decide) (by decide)) q4a q4c (g := (mkF m 12 #[rv a, iv 1, iv c0] [(.int 1), (.ref a)])) rfl (by rw [hml]; rfl) (Steps.refl _) (argsL := [(.int 1)]) (rest := []) (lenOf pd_15 rfl) rfl (by show 2 * 0 + _ ≤ _; exact Nat.le_of_eq rfl) (hb hby d_prog_80_13_12) (fun _ _ => ⟨rfl, e3, (by decide : 0 + 0 ≤ _), (by decide : 0 + 0 ≤ _)⟩)
    dsimp only [Pt.U, Pt.locs, Pt.cells, Pt.slots] at X4 l4 y4 z4 st4 hQ4
    subst l4 y4 z4
    obtain ⟨rfl, M4, e4⟩ := hQ4
    have N4 := Fr.app N3 M4
    refine og T4 (mkF m 15 #[rv a, iv 1, iv c0] [(.int c1)]) (fun t_ k_ => st4.trans k_) ?_
    refine og T4 (mkF m 16 #[rv a, iv 1, iv c1] []) (fun t_ k_ => XS.istoreN X4.here hx rfl (hb hby d_prog_80_13_15) rfl (l' := #[rv a, iv 1, iv c1]) rfl k_) ?_
    by_cases hw1 : own_W c1
    · skip
      refine own_go (T' := T4) (g' := (mkF m 42 #[rv a, iv 1, iv c1] [])) (fun t_ k_ => ?_) ?_
      · show Steps p.tables e below (T4.setTop (mkF m 16 #[rv a, iv 1, iv c1] [])) t_
        rcases hw1 with hx0 | hx0 | hx0 | hx0
        · skip
          refine os T4 (mkF m 17 #[rv a, iv 1, iv c1] [(.int c1)]) (fun k_ => XS.iloadN X4.here hx rfl (hb hby d_prog_80_13_16) rfl k_) ?_
          refine os T4 (mkF m 19 #[rv a, iv 1, iv c1] [(.int 32), (.int c1)]) (fun k_ => XS.bipush X4.here hx rfl (hb hby d_prog_80_13_17) k_) ?_
          refine os T4 (mkF m 42 #[rv a, iv 1, iv c1] []) (fun k_ => XS.icmpYes X4.here hx rfl (pc0 := 19) (pc' := 42) rfl (hb hby d_prog_80_13_19) rfl (teq hx0).1 (by decide) (by decide) k_) ?_
          exact k_
        · skip
          refine os T4 (mkF m 17 #[rv a, iv 1, iv c1] [(.int c1)]) (fun k_ => XS.iloadN X4.here hx rfl (hb hby d_prog_80_13_16) rfl k_) ?_
          refine os T4 (mkF m 19 #[rv a, iv 1, iv c1] [(.int 32), (.int c1)]) (fun k_ => XS.bipush X4.here hx rfl (hb hby d_prog_80_13_17) k_) ?_
          refine os T4 (mkF m 22 #[rv a, iv 1, iv c1] []) (fun k_ => XS.icmpNo X4.here hx rfl (hb hby d_prog_80_13_19) rfl (feq (show ¬ c1 = (32 : Int32) by rw [hx0]; decide)).1 k_) ?_
          refine os T4 (mkF m 23 #[rv a, iv 1, iv c1] [(.int c1)]) (fun k_ => XS.iloadN X4.here hx rfl (hb hby d_prog_80_13_22) rfl k_) ?_
          refine os T4 (mkF m 25 #[rv a, iv 1, iv c1] [(.int 10), (.int c1)]) (fun k_ => XS.bipush X4.here hx rfl (hb hby d_prog_80_13_23) k_) ?_
          refine os T4 (mkF m 42 #[rv a, iv 1, iv c1] []) (fun k_ => XS.icmpYes X4.here hx rfl (pc0 := 25) (pc' := 42) rfl (hb hby d_prog_80_13_25) rfl (teq hx0).1 (by decide) (by decide) k_) ?_
          exact k_
        · skip
          refine os T4 (mkF m 17 #[rv a, iv 1, iv c1] [(.int c1)]) (fun k_ => XS.iloadN X4.here hx rfl (hb hby d_prog_80_13_16) rfl k_) ?_
          refine os T4 (mkF m 19 #[rv a, iv 1, iv c1] [(.int 32), (.int c1)]) (fun k_ => XS.bipush X4.here hx rfl (hb hby d_prog_80_13_17) k_) ?_
          refine os T4 (mkF m 22 #[rv a, iv 1, iv c1] []) (fun k_ => XS.icmpNo X4.here hx rfl (hb hby d_prog_80_13_19) rfl (feq (show ¬ c1 = (32 : Int32) by rw [hx0]; decide)).1 k_) ?_
          refine os T4 (mkF m 23 #[rv a, iv 1, iv c1] [(.int c1)]) (fun k_ => XS.iloadN X4.here hx rfl (hb hby d_prog_80_13_22) rfl k_) ?_
          refine os T4 (mkF m 25 #[rv a, iv 1, iv c1] [(.int 10), (.int c1)]) (fun k_ => XS.bipush X4.here hx rfl (hb hby d_prog_80_13_23) k_) ?_
          refine os T4 (mkF m 28 #[rv a, iv 1, iv c1] []) (fun k_ => XS.icmpNo X4.here hx rfl (hb hby d_prog_80_13_25) rfl (feq (show ¬ c1 = (10 : Int32) by rw [hx0]; decide)).1 k_) ?_
          refine os T4 (mkF m 29 #[rv a, iv 1, iv c1] [(.int c1)]) (fun k_ => XS.iloadN X4.here hx rfl (hb hby d_prog_80_13_28) rfl k_) ?_
          refine os T4 (mkF m 31 #[rv a, iv 1, iv c1] [(.int 9), (.int c1)]) (fun k_ => XS.bipush X4.here hx rfl (hb hby d_prog_80_13_29) k_) ?_
          refine os T4 (mkF m 42 #[rv a, iv 1, iv c1] []) (fun k_ => XS.icmpYes X4.here hx rfl (pc0 := 31) (pc' := 42) rfl (hb hby d_prog_80_13_31) rfl (teq hx0).1 (by decide) (by decide) k_) ?_
          exact k_
        · skip
          refine os T4 (mkF m 17 #[rv a, iv 1, iv c1] [(.int c1)]) (fun k_ => XS.iloadN X4.here hx rfl (hb hby d_prog_80_13_16) rfl k_) ?_
          refine os T4 (mkF m 19 #[rv a, iv 1, iv c1] [(.int 32), (.int c1)]) (fun k_ => XS.bipush X4.here hx rfl (hb hby d_prog_80_13_17) k_) ?_
          refine os T4 (mkF m 22 #[rv a, iv 1, iv c1] []) (fun k_ => XS.icmpNo X4.here hx rfl (hb hby d_prog_80_13_19) rfl (feq (show ¬ c1 = (32 : Int32) by rw [hx0]; decide)).1 k_) ?_
          refine os T4 (mkF m 23 #[rv a, iv 1, iv c1] [(.int c1)]) (fun k_ => XS.iloadN X4.here hx rfl (hb hby d_prog_80_13_22) rfl k_) ?_
          refine os T4 (mkF m 25 #[rv a, iv 1, iv c1] [(.int 10), (.int c1)]) (fun k_ => XS.bipush X4.here hx rfl (hb hby d_prog_80_13_23) k_) ?_
          refine os T4 (mkF m 28 #[rv a, iv 1, iv c1] []) (fun k_ => XS.icmpNo X4.here hx rfl (hb hby d_prog_80_13_25) rfl (feq (show ¬ c1 = (10 : Int32) by rw [hx0]; decide)).1 k_) ?_
          refine os T4 (mkF m 29 #[rv a, iv 1, iv c1] [(.int c1)]) (fun k_ => XS.iloadN X4.here hx rfl (hb hby d_prog_80_13_28) rfl k_) ?_
          refine os T4 (mkF m 31 #[rv a, iv 1, iv c1] [(.int 9), (.int c1)]) (fun k_ => XS.bipush X4.here hx rfl (hb hby d_prog_80_13_29) k_) ?_
          refine os T4 (mkF m 34 #[rv a, iv 1, iv c1] []) (fun k_ => XS.icmpNo X4.here hx rfl (hb hby d_prog_80_13_31) rfl (feq (show ¬ c1 = (9 : Int32) by rw [hx0]; decide)).1 k_) ?_
          refine os T4 (mkF m 35 #[rv a, iv 1, iv c1] [(.int c1)]) (fun k_ => XS.iloadN X4.here hx rfl (hb hby d_prog_80_13_34) rfl k_) ?_
          refine os T4 (mkF m 37 #[rv a, iv 1, iv c1] [(.int 13), (.int c1)]) (fun k_ => XS.bipush X4.here hx rfl (hb hby d_prog_80_13_35) k_) ?_
          refine os T4 (mkF m 42 #[rv a, iv 1, iv c1] []) (fun k_ => XS.icmpYes X4.here hx rfl (pc0 := 37) (pc' := 42) rfl (hb hby d_prog_80_13_37) rfl (teq hx0).1 (by decide) (by decide) k_) ?_
          exact k_
      refine og T4 (mkF m 45 #[rv a, iv 2, iv c1] []) (fun t_ k_ => XS.iinc X4.here hx rfl (hb hby d_prog_80_13_42) rfl (l' := #[rv a, iv 2, iv c1]) rfl k_) ?_
      refine og T4 (mkF m 2 #[rv a, iv 2, iv c1] []) (fun t_ k_ => XS.goto X4.here hx rfl (pc0 := 45) (pc' := 2) rfl (hb hby d_prog_80_13_45) (by decide) (by decide) k_) ?_
      refine og T4 (mkF m 3 #[rv a, iv 2, iv c1] [(.int 2)]) (fun t_ k_ => XS.iloadN X4.here hx rfl (hb hby d_prog_80_13_2) rfl k_) ?_
      refine og T4 (mkF m 4 #[rv a, iv 2, iv c1] [(.ref a), (.int 2)]) (fun t_ k_ => XS.aloadN X4.here hx rfl (hb hby d_prog_80_13_3) rfl rfl k_) ?_
      obtain ⟨cq5, kq5, q5a, q5b, q5c⟩ := isOf hZ e4 S_a.1
      obtain ⟨_, _, ⟨T5, L5, k5, n5⟩, -, X5, ⟨Lc5, hQ5, l5, y5, z5⟩, st5⟩ := X4.virtualBack hx (y := ym_14) (z := ym_14) hown (mvT hZ (own_w hw 54 rfl)) (mvT hZ (own_w hw 55 rfl)) (notFace_of_selects (args := #[]) (mvT hZ (own_w hw 57 rfl))) (mvT hZ (own_w hw 57 rfl)) (mvT hZ (own_w hw 56 rfl)) (by decide) (backOf (W := 1) (rm_len3 l Z a0 hw [] a n_a c0 c1 c2 cz h0 n0 (show n0 ≤ h0.size by omega) S_a hrc0 hrc1 hrc2 O0 S_COMPACT_STRINGS hcz) hZ (own_w hw 58 rfl) (own_w hw 5 rfl) (by decide) (by decide)) q5a q5c (g := (mkF m 4 #[rv a, iv 2, iv c1] [(.ref a), (.int 2)])) rfl (by rw [hml]; rfl) (Steps.refl _) (argsL := []) (rest := [(.int 2)]) (lenOf pd_10 rfl) rfl (by show 2 * 0 + _ ≤ _; exact Nat.le_of_eq rfl) (hb hby d_prog_80_13_4) (fun _ _ => ⟨rfl, e4, (by decide : 0 + 0 ≤ _), (by decide : 0 + 0 ≤ _)⟩)
      dsimp only [Pt.U, Pt.locs, Pt.cells, Pt.slots] at X5 l5 y5 z5 st5 hQ5
      subst l5 y5 z5
      obtain ⟨rfl, M5, e5⟩ := hQ5
      have N5 := Fr.app N4 M5
      refine og T5 (mkF m 7 #[rv a, iv 2, iv c1] [(.int 3), (.int 2)]) (fun t_ k_ => st5.trans k_) ?_
      refine og T5 (mkF m 10 #[rv a, iv 2, iv c1] []) (fun t_ k_ => XS.icmpNo X5.here hx rfl (hb hby d_prog_80_13_7) rfl (tlt (by decide)).2.1 k_) ?_
      refine og T5 (mkF m 11 #[rv a, iv 2, iv c1] [(.ref a)]) (fun t_ k_ => XS.aloadN X5.here hx rfl (hb hby d_prog_80_13_10) rfl rfl k_) ?_
      refine og T5 (mkF m 12 #[rv a, iv 2, iv c1] [(.int 2), (.ref a)]) (fun t_ k_ => XS.iloadN X5.here hx rfl (hb hby d_prog_80_13_11) rfl k_) ?_
      obtain ⟨cq6, kq6, q6a, q6b, q6c⟩ := isOf hZ e5 S_a.1
      obtain ⟨_, _, ⟨T6, L6, k6, n6⟩, -, X6, ⟨Lc6, hQ6, l6, y6, z6⟩, st6⟩ := X5.virtualBack hx (y := ym_20) (z := ym_20) hown (mvT hZ (own_w hw 78 rfl)) (mvT hZ (own_w hw 13 rfl)) (notFace_of_selects (args := #[]) (mvT hZ (own_w hw 15 rfl))) (mvT hZ (own_w hw 15 rfl)) (mvT hZ (own_w hw 14 rfl)) (by decide) (backOf (W := 0) (rm_cha3_2 l Z a0 hw [] a n_a c0 c1 c2 cz fm h0 n0 (show n0 ≤ h0.size by omega) S_a hrc0 hrc1 hrc2 O0 S_COMPACT_STRINGS hcz S__assertionsDisabled S_HI_BYTE_SHIFT S_LO_BYTE_SHIFT rf S_SIOOBE_FORMATTER) hZ (own_w hw 16 rfl) (own_w hw 5 rfl) (by decide) (by decide)) q6a q6c (g := (mkF m 12 #[rv a, iv 2, iv c1] [(.int 2), (.ref a)])) rfl (by rw [hml]; rfl) (Steps.refl _) (argsL := [(.int 2)]) (rest := []) (lenOf pd_15 rfl) rfl (by show 2 * 0 + _ ≤ _; exact Nat.le_of_eq rfl) (hb hby d_prog_80_13_12) (fun _ _ => ⟨rfl, e5, (by decide : 0 + 0 ≤ _), (by decide : 0 + 0 ≤ _)⟩)
      dsimp only [Pt.U, Pt.locs, Pt.cells, Pt.slots] at X6 l6 y6 z6 st6 hQ6
      subst l6 y6 z6
      obtain ⟨rfl, M6, e6⟩ := hQ6
      have N6 := Fr.app N5 M6
      refine og T6 (mkF m 15 #[rv a, iv 2, iv c1] [(.int c2)]) (fun t_ k_ => st6.trans k_) ?_
      refine og T6 (mkF m 16 #[rv a, iv 2, iv c2] []) (fun t_ k_ => XS.istoreN X6.here hx rfl (hb hby d_prog_80_13_15) rfl (l' := #[rv a, iv 2, iv c2]) rfl k_) ?_
      by_cases hw2 : own_W c2
      · skip
        refine own_go (T' := T6) (g' := (mkF m 42 #[rv a, iv 2, iv c2] [])) (fun t_ k_ => ?_) ?_
        · show Steps p.tables e below (T6.setTop (mkF m 16 #[rv a, iv 2, iv c2] [])) t_
          rcases hw2 with hx0 | hx0 | hx0 | hx0
          · skip
            refine os T6 (mkF m 17 #[rv a, iv 2, iv c2] [(.int c2)]) (fun k_ => XS.iloadN X6.here hx rfl (hb hby d_prog_80_13_16) rfl k_) ?_
            refine os T6 (mkF m 19 #[rv a, iv 2, iv c2] [(.int 32), (.int c2)]) (fun k_ => XS.bipush X6.here hx rfl (hb hby d_prog_80_13_17) k_) ?_
            refine os T6 (mkF m 42 #[rv a, iv 2, iv c2] []) (fun k_ => XS.icmpYes X6.here hx rfl (pc0 := 19) (pc' := 42) rfl (hb hby d_prog_80_13_19) rfl (teq hx0).1 (by decide) (by decide) k_) ?_
            exact k_
          · skip
            refine os T6 (mkF m 17 #[rv a, iv 2, iv c2] [(.int c2)]) (fun k_ => XS.iloadN X6.here hx rfl (hb hby d_prog_80_13_16) rfl k_) ?_
            refine os T6 (mkF m 19 #[rv a, iv 2, iv c2] [(.int 32), (.int c2)]) (fun k_ => XS.bipush X6.here hx rfl (hb hby d_prog_80_13_17) k_) ?_
            refine os T6 (mkF m 22 #[rv a, iv 2, iv c2] []) (fun k_ => XS.icmpNo X6.here hx rfl (hb hby d_prog_80_13_19) rfl (feq (show ¬ c2 = (32 : Int32) by rw [hx0]; decide)).1 k_) ?_
            refine os T6 (mkF m 23 #[rv a, iv 2, iv c2] [(.int c2)]) (fun k_ => XS.iloadN X6.here hx rfl (hb hby d_prog_80_13_22) rfl k_) ?_
            refine os T6 (mkF m 25 #[rv a, iv 2, iv c2] [(.int 10), (.int c2)]) (fun k_ => XS.bipush X6.here hx rfl (hb hby d_prog_80_13_23) k_) ?_
            refine os T6 (mkF m 42 #[rv a, iv 2, iv c2] []) (fun k_ => XS.icmpYes X6.here hx rfl (pc0 := 25) (pc' := 42) rfl (hb hby d_prog_80_13_25) rfl (teq hx0).1 (by decide) (by decide) k_) ?_
            exact k_
          · skip
            refine os T6 (mkF m 17 #[rv a, iv 2, iv c2] [(.int c2)]) (fun k_ => XS.iloadN X6.here hx rfl (hb hby d_prog_80_13_16) rfl k_) ?_
            refine os T6 (mkF m 19 #[rv a, iv 2, iv c2] [(.int 32), (.int c2)]) (fun k_ => XS.bipush X6.here hx rfl (hb hby d_prog_80_13_17) k_) ?_
            refine os T6 (mkF m 22 #[rv a, iv 2, iv c2] []) (fun k_ => XS.icmpNo X6.here hx rfl (hb hby d_prog_80_13_19) rfl (feq (show ¬ c2 = (32 : Int32) by rw [hx0]; decide)).1 k_) ?_
            refine os T6 (mkF m 23 #[rv a, iv 2, iv c2] [(.int c2)]) (fun k_ => XS.iloadN X6.here hx rfl (hb hby d_prog_80_13_22) rfl k_) ?_
            refine os T6 (mkF m 25 #[rv a, iv 2, iv c2] [(.int 10), (.int c2)]) (fun k_ => XS.bipush X6.here hx rfl (hb hby d_prog_80_13_23) k_) ?_
            refine os T6 (mkF m 28 #[rv a, iv 2, iv c2] []) (fun k_ => XS.icmpNo X6.here hx rfl (hb hby d_prog_80_13_25) rfl (feq (show ¬ c2 = (10 : Int32) by rw [hx0]; decide)).1 k_) ?_
            refine os T6 (mkF m 29 #[rv a, iv 2, iv c2] [(.int c2)]) (fun k_ => XS.iloadN X6.here hx rfl (hb hby d_prog_80_13_28) rfl k_) ?_
            refine os T6 (mkF m 31 #[rv a, iv 2, iv c2] [(.int 9), (.int c2)]) (fun k_ => XS.bipush X6.here hx rfl (hb hby d_prog_80_13_29) k_) ?_
            refine os T6 (mkF m 42 #[rv a, iv 2, iv c2] []) (fun k_ => XS.icmpYes X6.here hx rfl (pc0 := 31) (pc' := 42) rfl (hb hby d_prog_80_13_31) rfl (teq hx0).1 (by decide) (by decide) k_) ?_
            exact k_
          · skip
            refine os T6 (mkF m 17 #[rv a, iv 2, iv c2] [(.int c2)]) (fun k_ => XS.iloadN X6.here hx rfl (hb hby d_prog_80_13_16) rfl k_) ?_
            refine os T6 (mkF m 19 #[rv a, iv 2, iv c2] [(.int 32), (.int c2)]) (fun k_ => XS.bipush X6.here hx rfl (hb hby d_prog_80_13_17) k_) ?_
            refine os T6 (mkF m 22 #[rv a, iv 2, iv c2] []) (fun k_ => XS.icmpNo X6.here hx rfl (hb hby d_prog_80_13_19) rfl (feq (show ¬ c2 = (32 : Int32) by rw [hx0]; decide)).1 k_) ?_
            refine os T6 (mkF m 23 #[rv a, iv 2, iv c2] [(.int c2)]) (fun k_ => XS.iloadN X6.here hx rfl (hb hby d_prog_80_13_22) rfl k_) ?_
            refine os T6 (mkF m 25 #[rv a, iv 2, iv c2] [(.int 10), (.int c2)]) (fun k_ => XS.bipush X6.here hx rfl (hb hby d_prog_80_13_23) k_) ?_
            refine os T6 (mkF m 28 #[rv a, iv 2, iv c2] []) (fun k_ => XS.icmpNo X6.here hx rfl (hb hby d_prog_80_13_25) rfl (feq (show ¬ c2 = (10 : Int32) by rw [hx0]; decide)).1 k_) ?_
            refine os T6 (mkF m 29 #[rv a, iv 2, iv c2] [(.int c2)]) (fun k_ => XS.iloadN X6.here hx rfl (hb hby d_prog_80_13_28) rfl k_) ?_
            refine os T6 (mkF m 31 #[rv a, iv 2, iv c2] [(.int 9), (.int c2)]) (fun k_ => XS.bipush X6.here hx rfl (hb hby d_prog_80_13_29) k_) ?_
            refine os T6 (mkF m 34 #[rv a, iv 2, iv c2] []) (fun k_ => XS.icmpNo X6.here hx rfl (hb hby d_prog_80_13_31) rfl (feq (show ¬ c2 = (9 : Int32) by rw [hx0]; decide)).1 k_) ?_
            refine os T6 (mkF m 35 #[rv a, iv 2, iv c2] [(.int c2)]) (fun k_ => XS.iloadN X6.here hx rfl (hb hby d_prog_80_13_34) rfl k_) ?_
            refine os T6 (mkF m 37 #[rv a, iv 2, iv c2] [(.int 13), (.int c2)]) (fun k_ => XS.bipush X6.here hx rfl (hb hby d_prog_80_13_35) k_) ?_
            refine os T6 (mkF m 42 #[rv a, iv 2, iv c2] []) (fun k_ => XS.icmpYes X6.here hx rfl (pc0 := 37) (pc' := 42) rfl (hb hby d_prog_80_13_37) rfl (teq hx0).1 (by decide) (by decide) k_) ?_
            exact k_
        refine og T6 (mkF m 45 #[rv a, iv 3, iv c2] []) (fun t_ k_ => XS.iinc X6.here hx rfl (hb hby d_prog_80_13_42) rfl (l' := #[rv a, iv 3, iv c2]) rfl k_) ?_
        refine og T6 (mkF m 2 #[rv a, iv 3, iv c2] []) (fun t_ k_ => XS.goto X6.here hx rfl (pc0 := 45) (pc' := 2) rfl (hb hby d_prog_80_13_45) (by decide) (by decide) k_) ?_
        refine og T6 (mkF m 3 #[rv a, iv 3, iv c2] [(.int 3)]) (fun t_ k_ => XS.iloadN X6.here hx rfl (hb hby d_prog_80_13_2) rfl k_) ?_
        refine og T6 (mkF m 4 #[rv a, iv 3, iv c2] [(.ref a), (.int 3)]) (fun t_ k_ => XS.aloadN X6.here hx rfl (hb hby d_prog_80_13_3) rfl rfl k_) ?_
        obtain ⟨cq7, kq7, q7a, q7b, q7c⟩ := isOf hZ e6 S_a.1
        obtain ⟨_, _, ⟨T7, L7, k7, n7⟩, -, X7, ⟨Lc7, hQ7, l7, y7, z7⟩, st7⟩ := X6.virtualBack hx (y := ym_14) (z := ym_14) hown (mvT hZ (own_w hw 54 rfl)) (mvT hZ (own_w hw 55 rfl)) (notFace_of_selects (args := #[]) (mvT hZ (own_w hw 57 rfl))) (mvT hZ (own_w hw 57 rfl)) (mvT hZ (own_w hw 56 rfl)) (by decide) (backOf (W := 1) (rm_len3 l Z a0 hw [] a n_a c0 c1 c2 cz h0 n0 (show n0 ≤ h0.size by omega) S_a hrc0 hrc1 hrc2 O0 S_COMPACT_STRINGS hcz) hZ (own_w hw 58 rfl) (own_w hw 5 rfl) (by decide) (by decide)) q7a q7c (g := (mkF m 4 #[rv a, iv 3, iv c2] [(.ref a), (.int 3)])) rfl (by rw [hml]; rfl) (Steps.refl _) (argsL := []) (rest := [(.int 3)]) (lenOf pd_10 rfl) rfl (by show 2 * 0 + _ ≤ _; exact Nat.le_of_eq rfl) (hb hby d_prog_80_13_4) (fun _ _ => ⟨rfl, e6, (by decide : 0 + 0 ≤ _), (by decide : 0 + 0 ≤ _)⟩)
        dsimp only [Pt.U, Pt.locs, Pt.cells, Pt.slots] at X7 l7 y7 z7 st7 hQ7
        subst l7 y7 z7
        obtain ⟨rfl, M7, e7⟩ := hQ7
        have N7 := Fr.app N6 M7
        refine og T7 (mkF m 7 #[rv a, iv 3, iv c2] [(.int 3), (.int 3)]) (fun t_ k_ => st7.trans k_) ?_
        refine og T7 (mkF m 48 #[rv a, iv 3, iv c2] []) (fun t_ k_ => XS.icmpYes X7.here hx rfl (pc0 := 7) (pc' := 48) rfl (hb hby d_prog_80_13_7) rfl (flt (by decide)).2.1 (by decide) (by decide) k_) ?_
        refine og T7 (mkF m 49 #[rv a, iv 3, iv c2] [(.int 1)]) (fun t_ k_ => XS.iconst X7.here hx rfl (hb hby d_prog_80_13_48) k_) ?_
        exact own_out X7 (v := some (.int (nar .boolean (1 : Int32)))) (fun h => by rw [hret] at h; cases h) hlk (fun fs hr => retN X7 hx (t := .boolean) hret (by simp) (hb hby d_prog_80_13_49) hr) (Q := Q_rm_isw3 Z a n_a c0 c1 c2 cz fm h0 n0) (by rw [e7]; exact ⟨(congrArg (fun z => some (Value.int z)) ((if_pos hw0).trans ((if_pos hw1).trans ((if_pos hw2))))).symm, N7, rfl⟩) (by decide) (by decide)
      · skip
        refine og T6 (mkF m 17 #[rv a, iv 2, iv c2] [(.int c2)]) (fun t_ k_ => XS.iloadN X6.here hx rfl (hb hby d_prog_80_13_16) rfl k_) ?_
        refine og T6 (mkF m 19 #[rv a, iv 2, iv c2] [(.int 32), (.int c2)]) (fun t_ k_ => XS.bipush X6.here hx rfl (hb hby d_prog_80_13_17) k_) ?_
        refine og T6 (mkF m 22 #[rv a, iv 2, iv c2] []) (fun t_ k_ => XS.icmpNo X6.here hx rfl (hb hby d_prog_80_13_19) rfl (feq (fun q => hw2 (Or.inl q))).1 k_) ?_
        refine og T6 (mkF m 23 #[rv a, iv 2, iv c2] [(.int c2)]) (fun t_ k_ => XS.iloadN X6.here hx rfl (hb hby d_prog_80_13_22) rfl k_) ?_
        refine og T6 (mkF m 25 #[rv a, iv 2, iv c2] [(.int 10), (.int c2)]) (fun t_ k_ => XS.bipush X6.here hx rfl (hb hby d_prog_80_13_23) k_) ?_
        refine og T6 (mkF m 28 #[rv a, iv 2, iv c2] []) (fun t_ k_ => XS.icmpNo X6.here hx rfl (hb hby d_prog_80_13_25) rfl (feq (fun q => hw2 (Or.inr (Or.inl q)))).1 k_) ?_
        refine og T6 (mkF m 29 #[rv a, iv 2, iv c2] [(.int c2)]) (fun t_ k_ => XS.iloadN X6.here hx rfl (hb hby d_prog_80_13_28) rfl k_) ?_
        refine og T6 (mkF m 31 #[rv a, iv 2, iv c2] [(.int 9), (.int c2)]) (fun t_ k_ => XS.bipush X6.here hx rfl (hb hby d_prog_80_13_29) k_) ?_
        refine og T6 (mkF m 34 #[rv a, iv 2, iv c2] []) (fun t_ k_ => XS.icmpNo X6.here hx rfl (hb hby d_prog_80_13_31) rfl (feq (fun q => hw2 (Or.inr (Or.inr (Or.inl q))))).1 k_) ?_
        refine og T6 (mkF m 35 #[rv a, iv 2, iv c2] [(.int c2)]) (fun t_ k_ => XS.iloadN X6.here hx rfl (hb hby d_prog_80_13_34) rfl k_) ?_
        refine og T6 (mkF m 37 #[rv a, iv 2, iv c2] [(.int 13), (.int c2)]) (fun t_ k_ => XS.bipush X6.here hx rfl (hb hby d_prog_80_13_35) k_) ?_
        refine og T6 (mkF m 40 #[rv a, iv 2, iv c2] []) (fun t_ k_ => XS.icmpNo X6.here hx rfl (hb hby d_prog_80_13_37) rfl (feq (fun q => hw2 (Or.inr (Or.inr (Or.inr q))))).1 k_) ?_
        refine og T6 (mkF m 41 #[rv a, iv 2, iv c2] [(.int 0)]) (fun t_ k_ => XS.iconst X6.here hx rfl (hb hby d_prog_80_13_40) k_) ?_
        exact own_out X6 (v := some (.int (nar .boolean (0 : Int32)))) (fun h => by rw [hret] at h; cases h) hlk (fun fs hr => retN X6 hx (t := .boolean) hret (by simp) (hb hby d_prog_80_13_41) hr) (Q := Q_rm_isw3 Z a n_a c0 c1 c2 cz fm h0 n0) (by rw [e6]; exact ⟨(congrArg (fun z => some (Value.int z)) ((if_pos hw0).trans ((if_pos hw1).trans ((if_neg hw2))))).symm, N6, rfl⟩) (by decide) (by decide)
    · skip
      refine og T4 (mkF m 17 #[rv a, iv 1, iv c1] [(.int c1)]) (fun t_ k_ => XS.iloadN X4.here hx rfl (hb hby d_prog_80_13_16) rfl k_) ?_
      refine og T4 (mkF m 19 #[rv a, iv 1, iv c1] [(.int 32), (.int c1)]) (fun t_ k_ => XS.bipush X4.here hx rfl (hb hby d_prog_80_13_17) k_) ?_
      refine og T4 (mkF m 22 #[rv a, iv 1, iv c1] []) (fun t_ k_ => XS.icmpNo X4.here hx rfl (hb hby d_prog_80_13_19) rfl (feq (fun q => hw1 (Or.inl q))).1 k_) ?_
      refine og T4 (mkF m 23 #[rv a, iv 1, iv c1] [(.int c1)]) (fun t_ k_ => XS.iloadN X4.here hx rfl (hb hby d_prog_80_13_22) rfl k_) ?_
      refine og T4 (mkF m 25 #[rv a, iv 1, iv c1] [(.int 10), (.int c1)]) (fun t_ k_ => XS.bipush X4.here hx rfl (hb hby d_prog_80_13_23) k_) ?_
      refine og T4 (mkF m 28 #[rv a, iv 1, iv c1] []) (fun t_ k_ => XS.icmpNo X4.here hx rfl (hb hby d_prog_80_13_25) rfl (feq (fun q => hw1 (Or.inr (Or.inl q)))).1 k_) ?_
      refine og T4 (mkF m 29 #[rv a, iv 1, iv c1] [(.int c1)]) (fun t_ k_ => XS.iloadN X4.here hx rfl (hb hby d_prog_80_13_28) rfl k_) ?_
      refine og T4 (mkF m 31 #[rv a, iv 1, iv c1] [(.int 9), (.int c1)]) (fun t_ k_ => XS.bipush X4.here hx rfl (hb hby d_prog_80_13_29) k_) ?_
      refine og T4 (mkF m 34 #[rv a, iv 1, iv c1] []) (fun t_ k_ => XS.icmpNo X4.here hx rfl (hb hby d_prog_80_13_31) rfl (feq (fun q => hw1 (Or.inr (Or.inr (Or.inl q))))).1 k_) ?_
      refine og T4 (mkF m 35 #[rv a, iv 1, iv c1] [(.int c1)]) (fun t_ k_ => XS.iloadN X4.here hx rfl (hb hby d_prog_80_13_34) rfl k_) ?_
      refine og T4 (mkF m 37 #[rv a, iv 1, iv c1] [(.int 13), (.int c1)]) (fun t_ k_ => XS.bipush X4.here hx rfl (hb hby d_prog_80_13_35) k_) ?_
      refine og T4 (mkF m 40 #[rv a, iv 1, iv c1] []) (fun t_ k_ => XS.icmpNo X4.here hx rfl (hb hby d_prog_80_13_37) rfl (feq (fun q => hw1 (Or.inr (Or.inr (Or.inr q))))).1 k_) ?_
      refine og T4 (mkF m 41 #[rv a, iv 1, iv c1] [(.int 0)]) (fun t_ k_ => XS.iconst X4.here hx rfl (hb hby d_prog_80_13_40) k_) ?_
      exact own_out X4 (v := some (.int (nar .boolean (0 : Int32)))) (fun h => by rw [hret] at h; cases h) hlk (fun fs hr => retN X4 hx (t := .boolean) hret (by simp) (hb hby d_prog_80_13_41) hr) (Q := Q_rm_isw3 Z a n_a c0 c1 c2 cz fm h0 n0) (by rw [e4]; exact ⟨(congrArg (fun z => some (Value.int z)) ((if_pos hw0).trans ((if_neg hw1)))).symm, N4, rfl⟩) (by decide) (by decide)
  · skip
    refine og T2 (mkF m 17 #[rv a, iv 0, iv c0] [(.int c0)]) (fun t_ k_ => XS.iloadN X2.here hx rfl (hb hby d_prog_80_13_16) rfl k_) ?_
    refine og T2 (mkF m 19 #[rv a, iv 0, iv c0] [(.int 32), (.int c0)]) (fun t_ k_ => XS.bipush X2.here hx rfl (hb hby d_prog_80_13_17) k_) ?_
    refine og T2 (mkF m 22 #[rv a, iv 0, iv c0] []) (fun t_ k_ => XS.icmpNo X2.here hx rfl (hb hby d_prog_80_13_19) rfl (feq (fun q => hw0 (Or.inl q))).1 k_) ?_
    refine og T2 (mkF m 23 #[rv a, iv 0, iv c0] [(.int c0)]) (fun t_ k_ => XS.iloadN X2.here hx rfl (hb hby d_prog_80_13_22) rfl k_) ?_
    refine og T2 (mkF m 25 #[rv a, iv 0, iv c0] [(.int 10), (.int c0)]) (fun t_ k_ => XS.bipush X2.here hx rfl (hb hby d_prog_80_13_23) k_) ?_
    refine og T2 (mkF m 28 #[rv a, iv 0, iv c0] []) (fun t_ k_ => XS.icmpNo X2.here hx rfl (hb hby d_prog_80_13_25) rfl (feq (fun q => hw0 (Or.inr (Or.inl q)))).1 k_) ?_
    refine og T2 (mkF m 29 #[rv a, iv 0, iv c0] [(.int c0)]) (fun t_ k_ => XS.iloadN X2.here hx rfl (hb hby d_prog_80_13_28) rfl k_) ?_
    refine og T2 (mkF m 31 #[rv a, iv 0, iv c0] [(.int 9), (.int c0)]) (fun t_ k_ => XS.bipush X2.here hx rfl (hb hby d_prog_80_13_29) k_) ?_
    refine og T2 (mkF m 34 #[rv a, iv 0, iv c0] []) (fun t_ k_ => XS.icmpNo X2.here hx rfl (hb hby d_prog_80_13_31) rfl (feq (fun q => hw0 (Or.inr (Or.inr (Or.inl q))))).1 k_) ?_
    refine og T2 (mkF m 35 #[rv a, iv 0, iv c0] [(.int c0)]) (fun t_ k_ => XS.iloadN X2.here hx rfl (hb hby d_prog_80_13_34) rfl k_) ?_
    refine og T2 (mkF m 37 #[rv a, iv 0, iv c0] [(.int 13), (.int c0)]) (fun t_ k_ => XS.bipush X2.here hx rfl (hb hby d_prog_80_13_35) k_) ?_
    refine og T2 (mkF m 40 #[rv a, iv 0, iv c0] []) (fun t_ k_ => XS.icmpNo X2.here hx rfl (hb hby d_prog_80_13_37) rfl (feq (fun q => hw0 (Or.inr (Or.inr (Or.inr q))))).1 k_) ?_
    refine og T2 (mkF m 41 #[rv a, iv 0, iv c0] [(.int 0)]) (fun t_ k_ => XS.iconst X2.here hx rfl (hb hby d_prog_80_13_40) k_) ?_
    exact own_out X2 (v := some (.int (nar .boolean (0 : Int32)))) (fun h => by rw [hret] at h; cases h) hlk (fun fs hr => retN X2 hx (t := .boolean) hret (by simp) (hb hby d_prog_80_13_41) hr) (Q := Q_rm_isw3 Z a n_a c0 c1 c2 cz fm h0 n0) (by rw [e2]; exact ⟨(congrArg (fun z => some (Value.int z)) ((if_neg hw0))).symm, N2, rfl⟩) (by decide) (by decide)
theorem d_method_2_0 : decode method_2_code 0 = .ok (.iload_n 0, 1) := by decide +kernel
theorem d_method_2_1 : decode method_2_code 1 = .ok (.bipush 32, 2) := by decide +kernel
theorem d_method_2_3 : decode method_2_code 3 = .ok (.if_icmp .gt 19, 3) := by decide +kernel
theorem d_method_2_22 : decode method_2_code 22 = .ok (.iconst 0, 1) := by decide +kernel
theorem d_method_2_23 : decode method_2_code 23 = .ok (.ireturn, 1) := by decide +kernel
theorem d_method_2_6 : decode method_2_code 6 = .ok (.lconst 1, 1) := by decide +kernel
theorem d_method_2_7 : decode method_2_code 7 = .ok (.iload_n 0, 1) := by decide +kernel
theorem d_method_2_8 : decode method_2_code 8 = .ok (.lshl, 1) := by decide +kernel
theorem d_method_2_9 : decode method_2_code 9 = .ok (.ldc2_w 9, 3) := by decide +kernel
theorem d_method_2_12 : decode method_2_code 12 = .ok (.land, 1) := by decide +kernel
theorem d_method_2_13 : decode method_2_code 13 = .ok (.lconst 0, 1) := by decide +kernel
theorem d_method_2_14 : decode method_2_code 14 = .ok (.lcmp, 1) := by decide +kernel
theorem d_method_2_15 : decode method_2_code 15 = .ok (.ifCond .eq 7, 3) := by decide +kernel
theorem d_method_2_18 : decode method_2_code 18 = .ok (.iconst 1, 1) := by decide +kernel
theorem d_method_2_19 : decode method_2_code 19 = .ok (.goto 4, 3) := by decide +kernel
theorem pn_5 : plainName "com/example/labmeld/labmeld/xsd/XsdSchemaIsWhiteSpacePinLaw" = true := by first | (simp [plainName, overriddenIn]; done) | decide +kernel
theorem ef_48 (m : MethodId) (ch : Int32) : entryFrame m #[(.int ch)] 1 = mkF m 0 #[iv ch] [] := by first | (simp [entryFrame, mkF, argsToLocals, Value.category]; done) | rfl
def Q_rm_ws (Z : State) (ch : Int32) (h0 : Heap) (n0 : Nat) (vv : Option Value) (h : Heap) (LL : List Loc) : Prop := vv = some (.int (if own_W ch then (1 : Int32) else (0 : Int32))) ∧ Fr n0 LL ∧ h = h0
set_option maxRecDepth 65536 in
set_option maxHeartbeats 40000000 in
abbrev ym_21 : MethodName := ⟨"com/example/labmeld/labmeld/xsd/XsdSchemaIsWhiteSpacePinLaw", "ws", "(C)Z"⟩
theorem rm_ws (l : Launch) (Z : State) (a0 : Array Value) (hw : ∀ d ∈ tables_1, d.before a0 Z = true) (ws : List Jvm.Cond) (ch : Int32) (h0 : Heap) (n0 : Nat) (Z0 : n0 ≤ h0.size) (hr : ¬ (ch < (0 : Int32)) ∧ ¬ ((65535 : Int32) < ch)) :
    own_MF l ym_21 method_2_code 1 (some .boolean) ⟨0, 0, 0, 0⟩ ws Z #[(.int ch)] h0 (Q_rm_ws Z ch h0 n0) := by
  refine own_begin (plainFor_of_name pn_5) (fun m => ef_48 m ch) ?_
  intro p e s m below meth c s₁ hret hx hby hml hown hnm hlk X0 e0 hh hZ
  have N0 := Fr.nil n0
  refine og s₁ (mkF m 1 #[iv ch] [(.int ch)]) (fun t_ k_ => XS.iloadN X0.here hx rfl (hb hby d_method_2_0) rfl k_) ?_
  refine og s₁ (mkF m 3 #[iv ch] [(.int 32), (.int ch)]) (fun t_ k_ => XS.bipush X0.here hx rfl (hb hby d_method_2_1) k_) ?_
  by_cases hq1_ : (32 : Int32) < ch
  · skip
    refine og s₁ (mkF m 22 #[iv ch] []) (fun t_ k_ => XS.icmpYes X0.here hx rfl (pc0 := 3) (pc' := 22) rfl (hb hby d_method_2_3) rfl (tlt hq1_).2.2.1 (by decide) (by decide) k_) ?_
    refine og s₁ (mkF m 23 #[iv ch] [(.int 0)]) (fun t_ k_ => XS.iconst X0.here hx rfl (hb hby d_method_2_22) k_) ?_
    exact own_out X0 (v := some (.int (nar .boolean (0 : Int32)))) (fun h => by rw [hret] at h; cases h) hlk (fun fs hr => retN X0 hx (t := .boolean) hret (by simp) (hb hby d_method_2_23) hr) (Q := Q_rm_ws Z ch h0 n0) (by rw [e0]; exact ⟨(congrArg (fun z => some (Value.int z)) (if_neg (own_wbig hq1_))).symm, N0, rfl⟩) (by decide) (by decide)
  · skip
    refine og s₁ (mkF m 6 #[iv ch] []) (fun t_ k_ => XS.icmpNo X0.here hx rfl (hb hby d_method_2_3) rfl (flt hq1_).2.2.1 k_) ?_
    refine og s₁ (mkF m 7 #[iv ch] [(.long 1)]) (fun t_ k_ => XS.lconst X0.here hx rfl (hb hby d_method_2_6) k_) ?_
    refine og s₁ (mkF m 8 #[iv ch] [(.int ch), (.long 1)]) (fun t_ k_ => XS.iloadN X0.here hx rfl (hb hby d_method_2_7) rfl k_) ?_
    refine og s₁ (mkF m 9 #[iv ch] [(.long ((1 : Int64) <<< (ch &&& 0x3f).toInt64))]) (fun t_ k_ => XS.lshl X0.here hx rfl (hb hby d_method_2_8) rfl k_) ?_
    refine og s₁ (mkF m 12 #[iv ch] [(.long 4294977024), (.long ((1 : Int64) <<< (ch &&& 0x3f).toInt64))]) (fun t_ k_ => X0.ldc2Long hx hown (mvT hZ (own_w hw 77 rfl)) (g := (mkF m 9 #[iv ch] [(.long ((1 : Int64) <<< (ch &&& 0x3f).toInt64))])) rfl (hb hby d_method_2_9) _ k_) ?_
    refine og s₁ (mkF m 13 #[iv ch] [(.long (((1 : Int64) <<< (ch &&& 0x3f).toInt64) &&& (4294977024 : Int64)))]) (fun t_ k_ => XS.land X0.here hx rfl (hb hby d_method_2_12) rfl k_) ?_
    refine og s₁ (mkF m 14 #[iv ch] [(.long 0), (.long (((1 : Int64) <<< (ch &&& 0x3f).toInt64) &&& (4294977024 : Int64)))]) (fun t_ k_ => XS.lconst X0.here hx rfl (hb hby d_method_2_13) k_) ?_
    refine og s₁ (mkF m 15 #[iv ch] [(.int (lcmpW (((1 : Int64) <<< (ch &&& 0x3f).toInt64) &&& (4294977024 : Int64)) (0 : Int64)))]) (fun t_ k_ => XS.lcmp X0.here hx rfl (hb hby d_method_2_14) rfl k_) ?_
    by_cases hq2_ : (((1 : Int64) <<< (ch &&& 0x3f).toInt64) &&& (4294977024 : Int64)) = (0 : Int64)
    · skip
      refine og s₁ (mkF m 22 #[iv ch] []) (fun t_ k_ => XS.ifYes X0.here hx rfl (pc0 := 15) (pc' := 22) rfl (hb hby d_method_2_15) rfl ((if0 _ _).trans (teq ((lw_eq _ _).mpr hq2_)).1) (by decide) (by decide) k_) ?_
      refine og s₁ (mkF m 23 #[iv ch] [(.int 0)]) (fun t_ k_ => XS.iconst X0.here hx rfl (hb hby d_method_2_22) k_) ?_
      exact own_out X0 (v := some (.int (nar .boolean (0 : Int32)))) (fun h => by rw [hret] at h; cases h) hlk (fun fs hr => retN X0 hx (t := .boolean) hret (by simp) (hb hby d_method_2_23) hr) (Q := Q_rm_ws Z ch h0 n0) (by rw [e0]; exact ⟨(congrArg (fun z => some (Value.int z)) (if_neg ((own_wsb hr.1 hq1_).mp hq2_))).symm, N0, rfl⟩) (by decide) (by decide)
    · skip
      refine og s₁ (mkF m 18 #[iv ch] []) (fun t_ k_ => XS.ifNo X0.here hx rfl (hb hby d_method_2_15) rfl ((if0 _ _).trans (feq (fun z => hq2_ ((lw_eq _ _).mp z))).1) k_) ?_
      refine og s₁ (mkF m 19 #[iv ch] [(.int 1)]) (fun t_ k_ => XS.iconst X0.here hx rfl (hb hby d_method_2_18) k_) ?_
      refine og s₁ (mkF m 23 #[iv ch] [(.int 1)]) (fun t_ k_ => XS.goto X0.here hx rfl (pc0 := 19) (pc' := 23) rfl (hb hby d_method_2_19) (by decide) (by decide) k_) ?_
      exact own_out X0 (v := some (.int (nar .boolean (1 : Int32)))) (fun h => by rw [hret] at h; cases h) hlk (fun fs hr => retN X0 hx (t := .boolean) hret (by simp) (hb hby d_method_2_23) hr) (Q := Q_rm_ws Z ch h0 n0) (by rw [e0]; exact ⟨(congrArg (fun z => some (Value.int z)) (if_pos (Decidable.of_not_not (fun q => hq2_ ((own_wsb hr.1 hq1_).mpr q))))).symm, N0, rfl⟩) (by decide) (by decide)
theorem d_jdk_42_149_8 : decode jdk_42_method_149_code 8 = .ok (.aload_n 0, 1) := by decide +kernel
theorem d_jdk_42_149_9 : decode jdk_42_method_149_code 9 = .ok (.ldc 7, 2) := by decide +kernel
theorem d_jdk_42_149_11 : decode jdk_42_method_149_code 11 = .ok (.getfield 9, 3) := by decide +kernel
theorem d_jdk_42_149_14 : decode jdk_42_method_149_code 14 = .ok (.putfield 9, 3) := by decide +kernel
theorem d_jdk_42_149_17 : decode jdk_42_method_149_code 17 = .ok (.aload_n 0, 1) := by decide +kernel
theorem d_jdk_42_149_18 : decode jdk_42_method_149_code 18 = .ok (.ldc 7, 2) := by decide +kernel
theorem d_jdk_42_149_20 : decode jdk_42_method_149_code 20 = .ok (.getfield 15, 3) := by decide +kernel
theorem d_jdk_42_149_23 : decode jdk_42_method_149_code 23 = .ok (.putfield 15, 3) := by decide +kernel
theorem d_jdk_42_149_26 : decode jdk_42_method_149_code 26 = .ok (.return_, 1) := by decide +kernel
theorem ef_49 (m : MethodId) (a : Nat) (ca : Nat) : entryFrame m #[(.ref a), (.ref ca), (.int 0), (.int 0), .null] 6 = mkF m 0 #[rv a, rv ca, iv 0, iv 0, .val .null, .unset] [] := by first | (simp [entryFrame, mkF, argsToLocals, Value.category]; done) | rfl
def Q_rm_inb0 (Z : State) (a : Nat) (ca : Nat) (Ts : List String) (h0 : Heap) (n0 : Nat) (vv : Option Value) (h : Heap) (vm : Vm) (LL : List Loc) : Prop := vv = none ∧ Fr n0 LL ∧ Keep h0 h [a] ∧ own_Sw Z h h.size a [] ∧ True
set_option maxRecDepth 65536 in
set_option maxHeartbeats 40000000 in
theorem rm_inb0 (l : Launch) (Z : State) (a0 : Array Value) (hw : ∀ d ∈ tables_1, d.before a0 Z = true) (ws : List Jvm.Cond) (a : Nat) (ca : Nat) (Ts : List String) (h0 : Heap) (n0 : Nat) (Z0 : n0 ≤ h0.size) (E_a : Exa Z h0 a "java/lang/String") (F_value_a : Fld Z h0 a "java/lang/String" "value" "[B" .null) (F_coder_a : Fld Z h0 a "java/lang/String" "coder" "B" (.int 0)) (g_a : n0 ≤ a) (O0 : Old Z n0 h0) (hnotin : "" ∉ Ts) (hheld : Jvm.Lit.constHeld Z "java/lang/String" 7) (hcw : Jvm.Lit.compactW.before a0 Z = true) :
    MetFree l (⟨"java/lang/String", "<init>", "([CIILjava/lang/Void;)V"⟩ : MethodName) (head1 (Jvm.Cond.code (⟨"java/lang/String", "<init>", "([CIILjava/lang/Void;)V"⟩ : MethodName) jdk_42_method_149_code 6 none :: ws) ({ frames := 1, cells := 2, slots := 4, locals := 12 } : Room)) (fun aa UU => aa = #[(.ref a), (.ref ca), (.int 0), (.int 0), .null] ∧ Z.Warmed39 UU.vm ∧ UU.heap = h0 ∧ IB Z UU.vm Ts) (fun _ _ _ _ _ => True) (fun _ UU oo UU' => ∃ vv LL, oo = .returned vv ∧ Q_rm_inb0 Z a ca Ts h0 n0 vv UU'.heap UU'.vm LL ∧ ReturnedEndW UU oo UU' LL ({ frames := 1, cells := 2, slots := 4, locals := 12 } : Room).cells ({ frames := 1, cells := 2, slots := 4, locals := 12 } : Room).slots) := by
  refine MetFree.of_bodySF (plainFor_of_name pn_1) hisR ?_
  intro p e s m args below meth c s₁ Bd hml0 hP hK
  obtain ⟨rfl, hZ, hh, hLS⟩ := hP
  have hx := Bd.exec
  have hby := Bd.bytes
  have hret := Bd.returns
  have hml : c.maxLocals = 6 := hml0
  have hown : s.vm.findClass "java/lang/String" = some m.cls := findClass_of_methodNamed Bd.named
  have hnm := (name_of_methodNamed Bd.named Bd.method).1
  have hlk : meth.locks = false := BodyLoose.notSynchronized Bd
  have X0 : Stand p l e ({ frames := 1, cells := 2, slots := 4, locals := 12 } : Room) (s.setVm s.vm) m #[(.ref a), (.ref ca), (.int 0), (.int 0), .null] below meth c s₁ [] 0 0 := Stand.of_body Bd
  have e0 : s₁.heap = h0 := by rw [← hh, Bd.state]; rfl
  have N0 := Fr.nil n0
  have hS : s.Since s.vm 0 := own_since s
  have hk : 0 ≤ h0.size := Nat.zero_le _
  have hwS : ∀ a ∈ Bundle.stringAtoms, a.before a0 Z = true := fun d hd => hw d ((by decide +kernel : ∀ d ∈ Bundle.stringAtoms, d ∈ tables_1) d hd)
  have lt_E_a := own_ltN E_a.lt
  have lt_F_value_a := own_ltN F_value_a.lt
  have lt_F_coder_a := own_ltN F_coder_a.lt
  refine own_in (ef_49 m a ca) ?_
  have hI := hLS
  refine og s₁ (mkF m 1 #[rv a, rv ca, iv 0, iv 0, .val .null, .unset] [(.ref a)]) (fun t_ k_ => XS.aloadN X0.here hx rfl (hb hby d_jdk_42_149_0) rfl rfl k_) ?_
  obtain ⟨T1, X1, e1, st1⟩ := initO X0 hx hZ hown (own_w hw 46 rfl) (own_w hw 47 rfl) (own_w hw 48 rfl) e0 (g := (mkF m 1 #[rv a, rv ca, iv 0, iv 0, .val .null, .unset] [(.ref a)])) rfl (by rw [hml]; rfl) rfl (hb hby d_jdk_42_149_1) (by decide) (W := 0) (by show 2 * 0 + _ ≤ _; exact Nat.le_of_eq rfl) (by decide)
  refine og T1 (mkF m 4 #[rv a, rv ca, iv 0, iv 0, .val .null, .unset] []) (fun t_ k_ => st1 _ k_) ?_
  refine og T1 (mkF m 5 #[rv a, rv ca, iv 0, iv 0, .val .null, .unset] [(.int 0)]) (fun t_ k_ => XS.iloadN X1.here hx rfl (hb hby d_jdk_42_149_4) rfl k_) ?_
  refine og T1 (mkF m 8 #[rv a, rv ca, iv 0, iv 0, .val .null, .unset] []) (fun t_ k_ => XS.ifNo X1.here hx rfl (hb hby d_jdk_42_149_5) rfl ((if0 _ _).trans (teq (by decide)).2) k_) ?_
  refine og T1 (mkF m 9 #[rv a, rv ca, iv 0, iv 0, .val .null, .unset] [(.ref a)]) (fun t_ k_ => XS.aloadN X1.here hx rfl (hb hby d_jdk_42_149_8) rfl rfl k_) ?_
  obtain ⟨b2, T2, h2, k2, tb2, kb2, X2, e2, E2, hS, hk, hZ, hown, sE2, sC2, sV2, sA2, sla2, slb2, hIB2, hLit2, st2⟩ := ldcSVL X1 hx hZ hown (own_w hw 49 rfl) hwS e1 hS (show _ ≤ h0.size by omega) (Fr.nil _) (fun b cl q => by rw [hh]; exact O0.2.2 _ _ q) hI hnotin hheld hcw (vs := []) (z := 0) ⟨by decide, by decide⟩ (by decide) rfl (g := (mkF m 9 #[rv a, rv ca, iv 0, iv 0, .val .null, .unset] [(.ref a)])) rfl (hb hby d_jdk_42_149_9) (n := 0) (by decide) (by decide) (by decide) (by decide)
  have z2 := E2.1
  have O2 := O0.ext E2
  have K2 := (Keep.refl h0 [a]).ext E2
  refine og T2 (mkF m 11 #[rv a, rv ca, iv 0, iv 0, .val .null, .unset] [(.ref b2), (.ref a)]) (fun t_ k_ => st2 _ k_) ?_
  have ltb2 := own_ltN slb2
  have lta2 := own_ltN sla2
  have ff3 := (F_value_a.ext E2)
  have nea2 : b2 ≠ a := fun q => by
    have q1 := sV2
    have q2 := ff3
    rw [q] at q1
    exact absurd rfl (Fld.ne q1 q2 (by simp))
  have ff4 := (E_a.ext E2)
  have net2 : tb2 ≠ a := (Exa.neArv ff4 sA2 (own_w hw 6 rfl)).symm
  obtain ⟨T5, X5, e5, st5⟩ := getF X2 hx hZ hown (host := "") (Or.inl (own_w hw 24 rfl)) Via.refl e2 sV2 (g := (mkF m 11 #[rv a, rv ca, iv 0, iv 0, .val .null, .unset] [(.ref b2), (.ref a)])) rfl rfl (hb hby d_jdk_42_149_11)
  refine og T5 (mkF m 14 #[rv a, rv ca, iv 0, iv 0, .val .null, .unset] [(.ref tb2), (.ref a)]) (fun t_ k_ => st5 _ k_) ?_
  obtain ⟨T6, h6, X6, e6, W6, st6⟩ := putF X5 hx hZ hown (host := "") (Or.inl (own_w hw 24 rfl)) Via.refl e5 ff3 ff4 (Or.inr ⟨(own_w hw 8 rfl), rfl, hnm⟩) (own_w hw 6 rfl) (ty := (.array .byte)) (by decide) rfl rfl (g := (mkF m 14 #[rv a, rv ca, iv 0, iv 0, .val .null, .unset] [(.ref tb2), (.ref a)])) rfl rfl (hb hby d_jdk_42_149_14)
  have F6 := ff3.same W6
  have z6 := W6.size
  have N6 := Fr.snoc X6 N0 (show n0 ≤ a by omega)
  have O6 := O2.wr W6 (show n0 ≤ a by omega)
  have K6 := K2.wr W6 (Or.inl (List.mem_of_getElem? (i := 0) rfl))
  refine og T6 (mkF m 17 #[rv a, rv ca, iv 0, iv 0, .val .null, .unset] []) (fun t_ k_ => st6 _ k_) ?_
  refine og T6 (mkF m 18 #[rv a, rv ca, iv 0, iv 0, .val .null, .unset] [(.ref a)]) (fun t_ k_ => XS.aloadN X6.here hx rfl (hb hby d_jdk_42_149_17) rfl rfl k_) ?_
  have hL2 : Lit (s.setVm T2.vm) "java/lang/String" 7 b2 := hLit2
  refine og T6 (mkF m 20 #[rv a, rv ca, iv 0, iv 0, .val .null, .unset] [(.ref b2), (.ref a)]) (fun t_ k_ => ldcAgain X6 hx hZ hown (own_w hw 49 rfl) (a := b2) hL2 (g := (mkF m 18 #[rv a, rv ca, iv 0, iv 0, .val .null, .unset] [(.ref a)])) rfl (hb hby d_jdk_42_149_18) _ k_) ?_
  have ff8 := (sC2.other W6 (Or.inl nea2))
  obtain ⟨T7, X7, e7, st7⟩ := getF X6 hx hZ hown (host := "") (Or.inl (own_w hw 23 rfl)) Via.refl e6 ff8 (g := (mkF m 20 #[rv a, rv ca, iv 0, iv 0, .val .null, .unset] [(.ref b2), (.ref a)])) rfl rfl (hb hby d_jdk_42_149_20)
  refine og T7 (mkF m 23 #[rv a, rv ca, iv 0, iv 0, .val .null, .unset] [(.int 0), (.ref a)]) (fun t_ k_ => st7 _ k_) ?_
  have ff10 := ((F_coder_a.ext E2).other W6 (Or.inr (slot_ne (Or.inr (own_w hw 9 rfl)) (Or.inr (own_w hw 8 rfl)) (by decide) (t := .byte) (t' := (.array .byte)) (by decide) (by decide))))
  have ff11 := (ff4.wr W6)
  obtain ⟨T9, h9, X9, e9, W9, st9⟩ := putFN X7 hx hZ hown (own_w hw 23 rfl) Via.refl e7 ff10 ff11 (Or.inr ⟨(own_w hw 9 rfl), rfl, hnm⟩) (own_w hw 6 rfl) (ty := .byte) (v' := .int (nar .byte (0 : Int32))) (by decide) rfl (fits_nar_byte _) (g := (mkF m 23 #[rv a, rv ca, iv 0, iv 0, .val .null, .unset] [(.int 0), (.ref a)])) rfl rfl (hb hby d_jdk_42_149_23)
  have F9 := ff10.same W9
  have z9 := W9.size
  have N9 := Fr.snoc X9 N6 (show n0 ≤ a by omega)
  have O9 := O6.wr W9 (show n0 ≤ a by omega)
  have K9 := K6.wr W9 (Or.inl (List.mem_of_getElem? (i := 0) rfl))
  refine og T9 (mkF m 26 #[rv a, rv ca, iv 0, iv 0, .val .null, .unset] []) (fun t_ k_ => st9 _ k_) ?_
  have ff12 := (ff11.wr W9)
  have ff13 := (F6.other W9 (Or.inr (slot_ne (Or.inr (own_w hw 8 rfl)) (Or.inr (own_w hw 9 rfl)) (by decide) (t := (.array .byte)) (t' := .byte) (by decide) (by decide))))
  have ff14 := ((sA2.other W6 net2).other W9 net2)
  exact own_outV X9 hS (show _ ≤ T9.heap.size by rw [e9]; omega) (v := none) (fun _ => rfl) hlk (fun fs hr => X9.returnOut hx hret (hb hby d_jdk_42_149_26) hr) (Q := Q_rm_inb0 Z a ca Ts h0 n0) (by rw [e9]; exact ⟨rfl, N9, K9, ⟨ff12, by omega, tb2, kb2, by omega, ff13, Or.inl ⟨F9, by simp, ff14⟩⟩, trivial⟩) (by decide) (by decide)
def Q_rm_ina0 (Z : State) (a : Nat) (ca : Nat) (k_ca : ClassId) (Ts : List String) (h0 : Heap) (n0 : Nat) (vv : Option Value) (h : Heap) (vm : Vm) (LL : List Loc) : Prop := vv = none ∧ Fr n0 LL ∧ Keep h0 h [a] ∧ own_Sw Z h h.size a [] ∧ True
set_option maxRecDepth 65536 in
set_option maxHeartbeats 40000000 in
theorem rm_ina0 (l : Launch) (Z : State) (a0 : Array Value) (hw : ∀ d ∈ tables_1, d.before a0 Z = true) (ws : List Jvm.Cond) (a : Nat) (ca : Nat) (k_ca : ClassId) (Ts : List String) (h0 : Heap) (n0 : Nat) (Z0 : n0 ≤ h0.size) (V_ca : Arv Z h0 ca k_ca .char (0 : Int32) [] (.int (0 : Int32))) (E_a : Exa Z h0 a "java/lang/String") (F_value_a : Fld Z h0 a "java/lang/String" "value" "[B" .null) (F_coder_a : Fld Z h0 a "java/lang/String" "coder" "B" (.int 0)) (g_a : n0 ≤ a) (O0 : Old Z n0 h0) (hnotin : "" ∉ Ts) (hheld : Jvm.Lit.constHeld Z "java/lang/String" 7) (hcw : Jvm.Lit.compactW.before a0 Z = true) :
    MetFree l (⟨"java/lang/String", "<init>", "([C)V"⟩ : MethodName) (head1 (Jvm.Cond.code (⟨"java/lang/String", "<init>", "([C)V"⟩ : MethodName) jdk_42_method_3_code 2 none :: ws) ({ frames := 2, cells := 2, slots := 4, locals := 29 } : Room)) (fun aa UU => aa = #[(.ref a), (.ref ca)] ∧ Z.Warmed39 UU.vm ∧ UU.heap = h0 ∧ IB Z UU.vm Ts) (fun _ _ _ _ _ => True) (fun _ UU oo UU' => ∃ vv LL, oo = .returned vv ∧ Q_rm_ina0 Z a ca k_ca Ts h0 n0 vv UU'.heap UU'.vm LL ∧ ReturnedEndW UU oo UU' LL ({ frames := 2, cells := 2, slots := 4, locals := 29 } : Room).cells ({ frames := 2, cells := 2, slots := 4, locals := 29 } : Room).slots) := by
  refine MetFree.of_bodySF (plainFor_of_name pn_1) hisR ?_
  intro p e s m args below meth c s₁ Bd hml0 hP hK
  obtain ⟨rfl, hZ, hh, hLS⟩ := hP
  have hx := Bd.exec
  have hby := Bd.bytes
  have hret := Bd.returns
  have hml : c.maxLocals = 2 := hml0
  have hown : s.vm.findClass "java/lang/String" = some m.cls := findClass_of_methodNamed Bd.named
  have hnm := (name_of_methodNamed Bd.named Bd.method).1
  have hlk : meth.locks = false := BodyLoose.notSynchronized Bd
  have X0 : Stand p l e ({ frames := 2, cells := 2, slots := 4, locals := 29 } : Room) (s.setVm s.vm) m #[(.ref a), (.ref ca)] below meth c s₁ [] 0 0 := Stand.of_body Bd
  have e0 : s₁.heap = h0 := by rw [← hh, Bd.state]; rfl
  have N0 := Fr.nil n0
  have hS : s.Since s.vm 0 := own_since s
  have hk : 0 ≤ h0.size := Nat.zero_le _
  have hwS : ∀ a ∈ Bundle.stringAtoms, a.before a0 Z = true := fun d hd => hw d ((by decide +kernel : ∀ d ∈ Bundle.stringAtoms, d ∈ tables_1) d hd)
  have lt_V_ca := own_ltN V_ca.lt
  have lt_E_a := own_ltN E_a.lt
  have lt_F_value_a := own_ltN F_value_a.lt
  have lt_F_coder_a := own_ltN F_coder_a.lt
  refine own_in (ef_14 m a ca) ?_
  refine og s₁ (mkF m 1 #[rv a, rv ca] [(.ref a)]) (fun t_ k_ => XS.aloadN X0.here hx rfl (hb hby d_jdk_42_3_0) rfl rfl k_) ?_
  refine og s₁ (mkF m 2 #[rv a, rv ca] [(.ref ca), (.ref a)]) (fun t_ k_ => XS.aloadN X0.here hx rfl (hb hby d_jdk_42_3_1) rfl rfl k_) ?_
  refine og s₁ (mkF m 3 #[rv a, rv ca] [(.int 0), (.ref ca), (.ref a)]) (fun t_ k_ => XS.iconst X0.here hx rfl (hb hby d_jdk_42_3_2) k_) ?_
  refine og s₁ (mkF m 4 #[rv a, rv ca] [(.ref ca), (.int 0), (.ref ca), (.ref a)]) (fun t_ k_ => XS.aloadN X0.here hx rfl (hb hby d_jdk_42_3_3) rfl rfl k_) ?_
  obtain ⟨cl1, Ar1, -, S1, Nn1, -, -⟩ := id V_ca
  refine og s₁ (mkF m 5 #[rv a, rv ca] [(.int 0), (.int 0), (.ref ca), (.ref a)]) (fun t_ k_ => X0.arraylength hx (by rw [e0]; exact Ar1.1) (State.isArrayOf_alike hZ.alike Ar1.2.1) (g := (mkF m 4 #[rv a, rv ca] [(.ref ca), (.int 0), (.ref ca), (.ref a)])) rfl rfl (hb hby d_jdk_42_3_4) _ (by rw [len_of S1 Nn1]; exact k_)) ?_
  refine og s₁ (mkF m 6 #[rv a, rv ca] [.null, (.int 0), (.int 0), (.ref ca), (.ref a)]) (fun t_ k_ => XS.aconstNull X0.here hx rfl (hb hby d_jdk_42_3_5) k_) ?_
  obtain ⟨_, _, ⟨T2, L2, k2, n2⟩, -, X2_, h22, gr2, ⟨Lc2, hQ2, l2, y2, z2⟩, st2⟩ := X0.specialBackS hx (y := ym_12) rfl hown (mvT hZ (own_w hw 42 rfl)) (mvT hZ (own_w hw 43 rfl)) (mvT hZ (own_w hw 45 rfl)) (by decide) (own_backV (W := 0) (I := fun vm => IB Z vm Ts) (fun vm hW => own_ib (s := (s.setVm s.vm)) hW hLS) (rm_inb0 l Z a0 hw [] a ca Ts h0 n0 (show n0 ≤ h0.size by omega) E_a F_value_a F_coder_a (show n0 ≤ a by omega) O0 hnotin hheld hcw) hZ (own_w hw 45 rfl) (own_w hw 5 rfl) (by decide) (by decide)) (g := (mkF m 6 #[rv a, rv ca] [.null, (.int 0), (.int 0), (.ref ca), (.ref a)])) rfl (by rw [hml]; rfl) (Steps.refl _) (a := a) (argsL := [(.ref ca), (.int 0), (.int 0), .null]) (rest := []) (lenOf pd_8 rfl) rfl (by show 2 * 0 + _ ≤ _; exact Nat.le_of_eq rfl) (hb hby d_jdk_42_3_6) (fun _ _ => ⟨rfl, e0, (by decide : 0 + 2 ≤ _), (by decide : 0 + 4 ≤ _)⟩)
  dsimp only [Pt.U, Pt.locs, Pt.cells, Pt.slots] at X2_ h22 gr2 l2 y2 z2 st2 hQ2
  subst l2 y2 z2
  obtain ⟨X2, hS, hZ, hown⟩ := rebS hS (show _ ≤ s₁.heap.size by rw [e0]; omega) X2_ h22 gr2 hZ hown
  have hk : T2.heap.size ≤ T2.heap.size := Nat.le_refl _
  obtain ⟨rfl, M2, K2_, f2_0, LS2⟩ := hQ2
  have zz2 := K2_.1
  have O2 := O0.keep K2_ (allS (show n0 ≤ a by omega) all0)
  have K2 := (Keep.refl h0 [a]).trans K2_ (allS (Or.inl (List.mem_of_getElem? (i := 0) rfl)) all0)
  have N2 := Fr.app N0 M2
  have ltsf2_0 := own_ltN f2_0.lt
  refine og T2 (mkF m 9 #[rv a, rv ca] []) (fun t_ k_ => st2.trans k_) ?_
  exact own_outV X2 hS (show _ ≤ T2.heap.size by omega) (v := none) (fun _ => rfl) hlk (fun fs hr => X2.returnOut hx hret (hb hby d_jdk_42_3_9) hr) (Q := Q_rm_ina0 Z a ca k_ca Ts h0 n0) (by exact ⟨rfl, N2, K2, (f2_0.mono (by omega)), trivial⟩) (by decide) (by decide)
def Q_rm_lf0 (Z : State) (a : Nat) (fm : Value) (k_a : ClassId) (h0 : Heap) (n0 : Nat) (vv : Option Value) (h : Heap) (LL : List Loc) : Prop := vv = some (.int 9) ∧ Fr n0 LL ∧ h = h0
set_option maxRecDepth 65536 in
set_option maxHeartbeats 40000000 in
theorem rm_lf0 (l : Launch) (Z : State) (a0 : Array Value) (hw : ∀ d ∈ tables_1, d.before a0 Z = true) (ws : List Jvm.Cond) (a : Nat) (fm : Value) (k_a : ClassId) (h0 : Heap) (n0 : Nat) (Z0 : n0 ≤ h0.size) (rf : fm.isRef = true) (O0 : Old Z n0 h0) (S_SIOOBE_FORMATTER : Sta Z Z.heap "jdk/internal/util/Preconditions" "SIOOBE_FORMATTER" "Ljava/util/function/BiFunction;" fm) (V_a : Arv Z h0 a k_a .byte (4 : Int32) [(.int (9 : Int32)), (.int (10 : Int32)), (.int (13 : Int32)), (.int (32 : Int32))] (.int (0 : Int32))) :
    own_MF l ym_16 jdk_43_method_2_code 2 (some .char) ⟨2, 0, 0, 27⟩ ws Z #[(.ref a), (.int 0)] h0 (Q_rm_lf0 Z a fm k_a h0 n0) := by
  refine own_begin (plainFor_of_name pn_4) (fun m => ef_35 m a) ?_
  intro p e s m below meth c s₁ hret hx hby hml hown hnm hlk X0 e0 hh hZ
  have N0 := Fr.nil n0
  have lt_V_a := own_ltN V_a.lt
  refine og s₁ (mkF m 1 #[rv a, iv 0] [(.int 0)]) (fun t_ k_ => XS.iloadN X0.here hx rfl (hb hby d_jdk_43_2_0) rfl k_) ?_
  refine og s₁ (mkF m 2 #[rv a, iv 0] [(.ref a), (.int 0)]) (fun t_ k_ => XS.aloadN X0.here hx rfl (hb hby d_jdk_43_2_1) rfl rfl k_) ?_
  obtain ⟨cl1, Ar1, -, S1, Nn1, -, -⟩ := id V_a
  refine og s₁ (mkF m 3 #[rv a, iv 0] [(.int 4), (.int 0)]) (fun t_ k_ => X0.arraylength hx (by rw [e0]; exact Ar1.1) (State.isArrayOf_alike hZ.alike Ar1.2.1) (g := (mkF m 2 #[rv a, iv 0] [(.ref a), (.int 0)])) rfl rfl (hb hby d_jdk_43_2_2) _ (by rw [len_of S1 Nn1]; exact k_)) ?_
  obtain ⟨_, _, ⟨T2, L2, k2, n2⟩, -, X2, ⟨Lc2, hQ2, l2, y2, z2⟩, st2⟩ := Jvm.LawKit.callS X0 hx (y := ym_1) hown (mvT hZ (own_w hw 29 rfl)) (mvT hZ (own_w hw 30 rfl)) (mvT hZ (own_w hw 5 rfl)) (mvT hZ (own_w hw 31 rfl)) (by decide) (backOf (W := 0) (rm_ci l Z a0 hw [] (0 : Int32) (4 : Int32) fm h0 n0 (show n0 ≤ h0.size by omega) (by decide) (by decide) rf O0 S_SIOOBE_FORMATTER) hZ (own_w hw 31 rfl) (own_w hw 5 rfl) (by decide) (by decide)) (g := (mkF m 3 #[rv a, iv 0] [(.int 4), (.int 0)])) rfl (by rw [hml]; rfl) (argsL := [(.int 0), (.int 4)]) (rest := []) (lenOf pd_11 rfl) rfl (by show 2 * 0 + _ ≤ _; exact Nat.le_of_eq rfl) (hb hby d_jdk_43_2_3) (fun _ _ => ⟨rfl, e0, (by decide : 0 + 0 ≤ _), (by decide : 0 + 0 ≤ _)⟩)
  dsimp only [Pt.U, Pt.locs, Pt.cells, Pt.slots] at X2 l2 y2 z2 st2 hQ2
  subst l2 y2 z2
  obtain ⟨rfl, M2, e2⟩ := hQ2
  have N2 := Fr.app N0 M2
  refine og T2 (mkF m 6 #[rv a, iv 0] []) (fun t_ k_ => st2 _ k_) ?_
  refine og T2 (mkF m 7 #[rv a, iv 0] [(.ref a)]) (fun t_ k_ => XS.aloadN X2.here hx rfl (hb hby d_jdk_43_2_6) rfl rfl k_) ?_
  refine og T2 (mkF m 8 #[rv a, iv 0] [(.int 0), (.ref a)]) (fun t_ k_ => XS.iloadN X2.here hx rfl (hb hby d_jdk_43_2_7) rfl k_) ?_
  obtain ⟨cl3, Ar3, -, S3, Nn3, H3, -⟩ := id V_a
  have hin3 : ¬ ((0 : Int32) < 0 ∨ cl3.slots.size ≤ ((0 : Int32)).toNatClampNeg) := inb_of S3 ⟨by decide, by decide⟩
  refine og T2 (mkF m 9 #[rv a, iv 0] [(.int 9)]) (fun t_ k_ => X2.baloadBytes hx (j := (0 : Int32)) (v := (.int (9 : Int32))) (by rw [e2]; exact Ar3.1) (State.isArrayOf_alike hZ.alike Ar3.2.1) Ar3.2.2 hin3 (H3.at hin3 rfl) (g := (mkF m 8 #[rv a, iv 0] [(.int 0), (.ref a)])) rfl rfl (hb hby d_jdk_43_2_8) _ k_) ?_
  refine og T2 (mkF m 12 #[rv a, iv 0] [(.int 255), (.int 9)]) (fun t_ k_ => XS.sipush X2.here hx rfl (hb hby d_jdk_43_2_9) k_) ?_
  refine og T2 (mkF m 13 #[rv a, iv 0] [(.int 9)]) (fun t_ k_ => XS.iand X2.here hx rfl (hb hby d_jdk_43_2_12) rfl k_) ?_
  refine og T2 (mkF m 14 #[rv a, iv 0] [(.int 9)]) (fun t_ k_ => XS.i2c X2.here hx rfl (hb hby d_jdk_43_2_13) rfl k_) ?_
  exact own_out X2 (v := some (.int (nar .char (9 : Int32)))) (fun h => by rw [hret] at h; cases h) hlk (fun fs hr => retN X2 hx (t := .char) hret (by simp) (hb hby d_jdk_43_2_14) hr) (Q := Q_rm_lf0 Z a fm k_a h0 n0) (by rw [e2]; exact ⟨rfl, N2, rfl⟩) (by decide) (by decide)
def Q_rm_cf0 (Z : State) (a : Nat) (t : Nat) (kt : ClassId) (cz : Int32) (fm : Value) (h0 : Heap) (n0 : Nat) (vv : Option Value) (h : Heap) (LL : List Loc) : Prop := vv = some (.int 9) ∧ Fr n0 LL ∧ h = h0
set_option maxRecDepth 65536 in
set_option maxHeartbeats 40000000 in
theorem rm_cf0 (l : Launch) (Z : State) (a0 : Array Value) (hw : ∀ d ∈ tables_1, d.before a0 Z = true) (ws : List Jvm.Cond) (a : Nat) (t : Nat) (kt : ClassId) (cz : Int32) (fm : Value) (h0 : Heap) (n0 : Nat) (Z0 : n0 ≤ h0.size) (E_a : Exa Z h0 a "java/lang/String") (F_value_a : Fld Z h0 a "java/lang/String" "value" "[B" (.ref t)) (F_coder_a : Fld Z h0 a "java/lang/String" "coder" "B" (.int 0)) (V_t : Arv Z h0 t kt .byte (4 : Int32) [(.int (9 : Int32)), (.int (10 : Int32)), (.int (13 : Int32)), (.int (32 : Int32))] (.int (0 : Int32))) (O0 : Old Z n0 h0) (S_COMPACT_STRINGS : Sta Z Z.heap "java/lang/String" "COMPACT_STRINGS" "Z" (.int cz)) (hcz : ¬ cz = (0 : Int32)) (rf : fm.isRef = true) (S_SIOOBE_FORMATTER : Sta Z Z.heap "jdk/internal/util/Preconditions" "SIOOBE_FORMATTER" "Ljava/util/function/BiFunction;" fm) :
    own_MF l ym_20 jdk_42_method_56_code 2 (some .char) ⟨3, 0, 0, 40⟩ ws Z #[(.ref a), (.int 0)] h0 (Q_rm_cf0 Z a t kt cz fm h0 n0) := by
  refine own_begin (plainFor_of_name pn_1) (fun m => ef_39 m a) ?_
  intro p e s m below meth c s₁ hret hx hby hml hown hnm hlk X0 e0 hh hZ
  have N0 := Fr.nil n0
  have lt_E_a := own_ltN E_a.lt
  have lt_F_value_a := own_ltN F_value_a.lt
  have lt_F_coder_a := own_ltN F_coder_a.lt
  have lt_V_t := own_ltN V_t.lt
  refine og s₁ (mkF m 1 #[rv a, iv 0] [(.ref a)]) (fun t_ k_ => XS.aloadN X0.here hx rfl (hb hby d_jdk_42_56_0) rfl rfl k_) ?_
  obtain ⟨cq1, kq1, q1a, q1b, q1c⟩ := isOf hZ e0 E_a
  obtain ⟨_, _, ⟨T1, L1, k1, n1⟩, -, X1, ⟨Lc1, hQ1, l1, y1, z1⟩, st1⟩ := X0.virtualBack hx (y := ym_2) (z := ym_2) hown (mvT hZ (own_w hw 17 rfl)) (mvT hZ (own_w hw 18 rfl)) (notFace_of_selects (args := #[]) (mvT hZ (own_w hw 20 rfl))) (mvT hZ (own_w hw 20 rfl)) (mvT hZ (own_w hw 19 rfl)) (by decide) (backOf (W := 0) (rm_isl0 l Z a0 hw [] a cz h0 n0 (show n0 ≤ h0.size by omega) F_coder_a O0 S_COMPACT_STRINGS hcz E_a) hZ (own_w hw 21 rfl) (own_w hw 5 rfl) (by decide) (by decide)) q1a q1c (g := (mkF m 1 #[rv a, iv 0] [(.ref a)])) rfl (by rw [hml]; rfl) (Steps.refl _) (argsL := []) (rest := []) (lenOf pd_14 rfl) rfl (by show 2 * 0 + _ ≤ _; exact Nat.le_of_eq rfl) (hb hby d_jdk_42_56_1) (fun _ _ => ⟨rfl, e0, (by decide : 0 + 0 ≤ _), (by decide : 0 + 0 ≤ _)⟩)
  dsimp only [Pt.U, Pt.locs, Pt.cells, Pt.slots] at X1 l1 y1 z1 st1 hQ1
  subst l1 y1 z1
  obtain ⟨rfl, M1, e1⟩ := hQ1
  have N1 := Fr.app N0 M1
  refine og T1 (mkF m 4 #[rv a, iv 0] [(.int 1)]) (fun t_ k_ => st1.trans k_) ?_
  refine og T1 (mkF m 7 #[rv a, iv 0] []) (fun t_ k_ => XS.ifNo X1.here hx rfl (hb hby d_jdk_42_56_4) rfl ((if0 _ _).trans (feq (by decide)).1) k_) ?_
  refine og T1 (mkF m 8 #[rv a, iv 0] [(.ref a)]) (fun t_ k_ => XS.aloadN X1.here hx rfl (hb hby d_jdk_42_56_7) rfl rfl k_) ?_
  obtain ⟨T2, X2, e2, st2⟩ := getF X1 hx hZ hown (host := "") (Or.inl (own_w hw 24 rfl)) Via.refl e1 F_value_a (g := (mkF m 8 #[rv a, iv 0] [(.ref a)])) rfl rfl (hb hby d_jdk_42_56_8)
  refine og T2 (mkF m 11 #[rv a, iv 0] [(.ref t)]) (fun t_ k_ => st2 _ k_) ?_
  refine og T2 (mkF m 12 #[rv a, iv 0] [(.int 0), (.ref t)]) (fun t_ k_ => XS.iloadN X2.here hx rfl (hb hby d_jdk_42_56_11) rfl k_) ?_
  obtain ⟨_, _, ⟨T3, L3, k3, n3⟩, -, X3, ⟨Lc3, hQ3, l3, y3, z3⟩, st3⟩ := Jvm.LawKit.callS X2 hx (y := ym_16) hown (mvT hZ (own_w hw 25 rfl)) (mvT hZ (own_w hw 26 rfl)) (mvT hZ (own_w hw 27 rfl)) (mvT hZ (own_w hw 28 rfl)) (by decide) (backOf (W := 0) (rm_lf0 l Z a0 hw [] t fm kt h0 n0 (show n0 ≤ h0.size by omega) rf O0 S_SIOOBE_FORMATTER V_t) hZ (own_w hw 28 rfl) (own_w hw 27 rfl) (by decide) (by decide)) (g := (mkF m 12 #[rv a, iv 0] [(.int 0), (.ref t)])) rfl (by rw [hml]; rfl) (argsL := [(.ref t), (.int 0)]) (rest := []) (lenOf pd_6 rfl) rfl (by show 2 * 0 + _ ≤ _; exact Nat.le_of_eq rfl) (hb hby d_jdk_42_56_12) (fun _ _ => ⟨rfl, e2, (by decide : 0 + 0 ≤ _), (by decide : 0 + 0 ≤ _)⟩)
  dsimp only [Pt.U, Pt.locs, Pt.cells, Pt.slots] at X3 l3 y3 z3 st3 hQ3
  subst l3 y3 z3
  obtain ⟨rfl, M3, e3⟩ := hQ3
  have N3 := Fr.app N1 M3
  refine og T3 (mkF m 15 #[rv a, iv 0] [(.int 9)]) (fun t_ k_ => st3 _ k_) ?_
  exact own_out X3 (v := some (.int (nar .char (9 : Int32)))) (fun h => by rw [hret] at h; cases h) hlk (fun fs hr => retN X3 hx (t := .char) hret (by simp) (hb hby d_jdk_42_56_15) hr) (Q := Q_rm_cf0 Z a t kt cz fm h0 n0) (by rw [e3]; exact ⟨rfl, N3, rfl⟩) (by decide) (by decide)
def Q_rm_lf1 (Z : State) (a : Nat) (fm : Value) (k_a : ClassId) (h0 : Heap) (n0 : Nat) (vv : Option Value) (h : Heap) (LL : List Loc) : Prop := vv = some (.int 10) ∧ Fr n0 LL ∧ h = h0
set_option maxRecDepth 65536 in
set_option maxHeartbeats 40000000 in
theorem rm_lf1 (l : Launch) (Z : State) (a0 : Array Value) (hw : ∀ d ∈ tables_1, d.before a0 Z = true) (ws : List Jvm.Cond) (a : Nat) (fm : Value) (k_a : ClassId) (h0 : Heap) (n0 : Nat) (Z0 : n0 ≤ h0.size) (rf : fm.isRef = true) (O0 : Old Z n0 h0) (S_SIOOBE_FORMATTER : Sta Z Z.heap "jdk/internal/util/Preconditions" "SIOOBE_FORMATTER" "Ljava/util/function/BiFunction;" fm) (V_a : Arv Z h0 a k_a .byte (4 : Int32) [(.int (9 : Int32)), (.int (10 : Int32)), (.int (13 : Int32)), (.int (32 : Int32))] (.int (0 : Int32))) :
    own_MF l ym_16 jdk_43_method_2_code 2 (some .char) ⟨2, 0, 0, 27⟩ ws Z #[(.ref a), (.int 1)] h0 (Q_rm_lf1 Z a fm k_a h0 n0) := by
  refine own_begin (plainFor_of_name pn_4) (fun m => ef_40 m a) ?_
  intro p e s m below meth c s₁ hret hx hby hml hown hnm hlk X0 e0 hh hZ
  have N0 := Fr.nil n0
  have lt_V_a := own_ltN V_a.lt
  refine og s₁ (mkF m 1 #[rv a, iv 1] [(.int 1)]) (fun t_ k_ => XS.iloadN X0.here hx rfl (hb hby d_jdk_43_2_0) rfl k_) ?_
  refine og s₁ (mkF m 2 #[rv a, iv 1] [(.ref a), (.int 1)]) (fun t_ k_ => XS.aloadN X0.here hx rfl (hb hby d_jdk_43_2_1) rfl rfl k_) ?_
  obtain ⟨cl1, Ar1, -, S1, Nn1, -, -⟩ := id V_a
  refine og s₁ (mkF m 3 #[rv a, iv 1] [(.int 4), (.int 1)]) (fun t_ k_ => X0.arraylength hx (by rw [e0]; exact Ar1.1) (State.isArrayOf_alike hZ.alike Ar1.2.1) (g := (mkF m 2 #[rv a, iv 1] [(.ref a), (.int 1)])) rfl rfl (hb hby d_jdk_43_2_2) _ (by rw [len_of S1 Nn1]; exact k_)) ?_
  obtain ⟨_, _, ⟨T2, L2, k2, n2⟩, -, X2, ⟨Lc2, hQ2, l2, y2, z2⟩, st2⟩ := Jvm.LawKit.callS X0 hx (y := ym_1) hown (mvT hZ (own_w hw 29 rfl)) (mvT hZ (own_w hw 30 rfl)) (mvT hZ (own_w hw 5 rfl)) (mvT hZ (own_w hw 31 rfl)) (by decide) (backOf (W := 0) (rm_ci l Z a0 hw [] (1 : Int32) (4 : Int32) fm h0 n0 (show n0 ≤ h0.size by omega) (by decide) (by decide) rf O0 S_SIOOBE_FORMATTER) hZ (own_w hw 31 rfl) (own_w hw 5 rfl) (by decide) (by decide)) (g := (mkF m 3 #[rv a, iv 1] [(.int 4), (.int 1)])) rfl (by rw [hml]; rfl) (argsL := [(.int 1), (.int 4)]) (rest := []) (lenOf pd_11 rfl) rfl (by show 2 * 0 + _ ≤ _; exact Nat.le_of_eq rfl) (hb hby d_jdk_43_2_3) (fun _ _ => ⟨rfl, e0, (by decide : 0 + 0 ≤ _), (by decide : 0 + 0 ≤ _)⟩)
  dsimp only [Pt.U, Pt.locs, Pt.cells, Pt.slots] at X2 l2 y2 z2 st2 hQ2
  subst l2 y2 z2
  obtain ⟨rfl, M2, e2⟩ := hQ2
  have N2 := Fr.app N0 M2
  refine og T2 (mkF m 6 #[rv a, iv 1] []) (fun t_ k_ => st2 _ k_) ?_
  refine og T2 (mkF m 7 #[rv a, iv 1] [(.ref a)]) (fun t_ k_ => XS.aloadN X2.here hx rfl (hb hby d_jdk_43_2_6) rfl rfl k_) ?_
  refine og T2 (mkF m 8 #[rv a, iv 1] [(.int 1), (.ref a)]) (fun t_ k_ => XS.iloadN X2.here hx rfl (hb hby d_jdk_43_2_7) rfl k_) ?_
  obtain ⟨cl3, Ar3, -, S3, Nn3, H3, -⟩ := id V_a
  have hin3 : ¬ ((1 : Int32) < 0 ∨ cl3.slots.size ≤ ((1 : Int32)).toNatClampNeg) := inb_of S3 ⟨by decide, by decide⟩
  refine og T2 (mkF m 9 #[rv a, iv 1] [(.int 10)]) (fun t_ k_ => X2.baloadBytes hx (j := (1 : Int32)) (v := (.int (10 : Int32))) (by rw [e2]; exact Ar3.1) (State.isArrayOf_alike hZ.alike Ar3.2.1) Ar3.2.2 hin3 (H3.at hin3 rfl) (g := (mkF m 8 #[rv a, iv 1] [(.int 1), (.ref a)])) rfl rfl (hb hby d_jdk_43_2_8) _ k_) ?_
  refine og T2 (mkF m 12 #[rv a, iv 1] [(.int 255), (.int 10)]) (fun t_ k_ => XS.sipush X2.here hx rfl (hb hby d_jdk_43_2_9) k_) ?_
  refine og T2 (mkF m 13 #[rv a, iv 1] [(.int 10)]) (fun t_ k_ => XS.iand X2.here hx rfl (hb hby d_jdk_43_2_12) rfl k_) ?_
  refine og T2 (mkF m 14 #[rv a, iv 1] [(.int 10)]) (fun t_ k_ => XS.i2c X2.here hx rfl (hb hby d_jdk_43_2_13) rfl k_) ?_
  exact own_out X2 (v := some (.int (nar .char (10 : Int32)))) (fun h => by rw [hret] at h; cases h) hlk (fun fs hr => retN X2 hx (t := .char) hret (by simp) (hb hby d_jdk_43_2_14) hr) (Q := Q_rm_lf1 Z a fm k_a h0 n0) (by rw [e2]; exact ⟨rfl, N2, rfl⟩) (by decide) (by decide)
def Q_rm_cf1 (Z : State) (a : Nat) (t : Nat) (kt : ClassId) (cz : Int32) (fm : Value) (h0 : Heap) (n0 : Nat) (vv : Option Value) (h : Heap) (LL : List Loc) : Prop := vv = some (.int 10) ∧ Fr n0 LL ∧ h = h0
set_option maxRecDepth 65536 in
set_option maxHeartbeats 40000000 in
theorem rm_cf1 (l : Launch) (Z : State) (a0 : Array Value) (hw : ∀ d ∈ tables_1, d.before a0 Z = true) (ws : List Jvm.Cond) (a : Nat) (t : Nat) (kt : ClassId) (cz : Int32) (fm : Value) (h0 : Heap) (n0 : Nat) (Z0 : n0 ≤ h0.size) (E_a : Exa Z h0 a "java/lang/String") (F_value_a : Fld Z h0 a "java/lang/String" "value" "[B" (.ref t)) (F_coder_a : Fld Z h0 a "java/lang/String" "coder" "B" (.int 0)) (V_t : Arv Z h0 t kt .byte (4 : Int32) [(.int (9 : Int32)), (.int (10 : Int32)), (.int (13 : Int32)), (.int (32 : Int32))] (.int (0 : Int32))) (O0 : Old Z n0 h0) (S_COMPACT_STRINGS : Sta Z Z.heap "java/lang/String" "COMPACT_STRINGS" "Z" (.int cz)) (hcz : ¬ cz = (0 : Int32)) (rf : fm.isRef = true) (S_SIOOBE_FORMATTER : Sta Z Z.heap "jdk/internal/util/Preconditions" "SIOOBE_FORMATTER" "Ljava/util/function/BiFunction;" fm) :
    own_MF l ym_20 jdk_42_method_56_code 2 (some .char) ⟨3, 0, 0, 40⟩ ws Z #[(.ref a), (.int 1)] h0 (Q_rm_cf1 Z a t kt cz fm h0 n0) := by
  refine own_begin (plainFor_of_name pn_1) (fun m => ef_43 m a) ?_
  intro p e s m below meth c s₁ hret hx hby hml hown hnm hlk X0 e0 hh hZ
  have N0 := Fr.nil n0
  have lt_E_a := own_ltN E_a.lt
  have lt_F_value_a := own_ltN F_value_a.lt
  have lt_F_coder_a := own_ltN F_coder_a.lt
  have lt_V_t := own_ltN V_t.lt
  refine og s₁ (mkF m 1 #[rv a, iv 1] [(.ref a)]) (fun t_ k_ => XS.aloadN X0.here hx rfl (hb hby d_jdk_42_56_0) rfl rfl k_) ?_
  obtain ⟨cq1, kq1, q1a, q1b, q1c⟩ := isOf hZ e0 E_a
  obtain ⟨_, _, ⟨T1, L1, k1, n1⟩, -, X1, ⟨Lc1, hQ1, l1, y1, z1⟩, st1⟩ := X0.virtualBack hx (y := ym_2) (z := ym_2) hown (mvT hZ (own_w hw 17 rfl)) (mvT hZ (own_w hw 18 rfl)) (notFace_of_selects (args := #[]) (mvT hZ (own_w hw 20 rfl))) (mvT hZ (own_w hw 20 rfl)) (mvT hZ (own_w hw 19 rfl)) (by decide) (backOf (W := 0) (rm_isl0 l Z a0 hw [] a cz h0 n0 (show n0 ≤ h0.size by omega) F_coder_a O0 S_COMPACT_STRINGS hcz E_a) hZ (own_w hw 21 rfl) (own_w hw 5 rfl) (by decide) (by decide)) q1a q1c (g := (mkF m 1 #[rv a, iv 1] [(.ref a)])) rfl (by rw [hml]; rfl) (Steps.refl _) (argsL := []) (rest := []) (lenOf pd_14 rfl) rfl (by show 2 * 0 + _ ≤ _; exact Nat.le_of_eq rfl) (hb hby d_jdk_42_56_1) (fun _ _ => ⟨rfl, e0, (by decide : 0 + 0 ≤ _), (by decide : 0 + 0 ≤ _)⟩)
  dsimp only [Pt.U, Pt.locs, Pt.cells, Pt.slots] at X1 l1 y1 z1 st1 hQ1
  subst l1 y1 z1
  obtain ⟨rfl, M1, e1⟩ := hQ1
  have N1 := Fr.app N0 M1
  refine og T1 (mkF m 4 #[rv a, iv 1] [(.int 1)]) (fun t_ k_ => st1.trans k_) ?_
  refine og T1 (mkF m 7 #[rv a, iv 1] []) (fun t_ k_ => XS.ifNo X1.here hx rfl (hb hby d_jdk_42_56_4) rfl ((if0 _ _).trans (feq (by decide)).1) k_) ?_
  refine og T1 (mkF m 8 #[rv a, iv 1] [(.ref a)]) (fun t_ k_ => XS.aloadN X1.here hx rfl (hb hby d_jdk_42_56_7) rfl rfl k_) ?_
  obtain ⟨T2, X2, e2, st2⟩ := getF X1 hx hZ hown (host := "") (Or.inl (own_w hw 24 rfl)) Via.refl e1 F_value_a (g := (mkF m 8 #[rv a, iv 1] [(.ref a)])) rfl rfl (hb hby d_jdk_42_56_8)
  refine og T2 (mkF m 11 #[rv a, iv 1] [(.ref t)]) (fun t_ k_ => st2 _ k_) ?_
  refine og T2 (mkF m 12 #[rv a, iv 1] [(.int 1), (.ref t)]) (fun t_ k_ => XS.iloadN X2.here hx rfl (hb hby d_jdk_42_56_11) rfl k_) ?_
  obtain ⟨_, _, ⟨T3, L3, k3, n3⟩, -, X3, ⟨Lc3, hQ3, l3, y3, z3⟩, st3⟩ := Jvm.LawKit.callS X2 hx (y := ym_16) hown (mvT hZ (own_w hw 25 rfl)) (mvT hZ (own_w hw 26 rfl)) (mvT hZ (own_w hw 27 rfl)) (mvT hZ (own_w hw 28 rfl)) (by decide) (backOf (W := 0) (rm_lf1 l Z a0 hw [] t fm kt h0 n0 (show n0 ≤ h0.size by omega) rf O0 S_SIOOBE_FORMATTER V_t) hZ (own_w hw 28 rfl) (own_w hw 27 rfl) (by decide) (by decide)) (g := (mkF m 12 #[rv a, iv 1] [(.int 1), (.ref t)])) rfl (by rw [hml]; rfl) (argsL := [(.ref t), (.int 1)]) (rest := []) (lenOf pd_6 rfl) rfl (by show 2 * 0 + _ ≤ _; exact Nat.le_of_eq rfl) (hb hby d_jdk_42_56_12) (fun _ _ => ⟨rfl, e2, (by decide : 0 + 0 ≤ _), (by decide : 0 + 0 ≤ _)⟩)
  dsimp only [Pt.U, Pt.locs, Pt.cells, Pt.slots] at X3 l3 y3 z3 st3 hQ3
  subst l3 y3 z3
  obtain ⟨rfl, M3, e3⟩ := hQ3
  have N3 := Fr.app N1 M3
  refine og T3 (mkF m 15 #[rv a, iv 1] [(.int 10)]) (fun t_ k_ => st3 _ k_) ?_
  exact own_out X3 (v := some (.int (nar .char (10 : Int32)))) (fun h => by rw [hret] at h; cases h) hlk (fun fs hr => retN X3 hx (t := .char) hret (by simp) (hb hby d_jdk_42_56_15) hr) (Q := Q_rm_cf1 Z a t kt cz fm h0 n0) (by rw [e3]; exact ⟨rfl, N3, rfl⟩) (by decide) (by decide)
def Q_rm_lf2 (Z : State) (a : Nat) (fm : Value) (k_a : ClassId) (h0 : Heap) (n0 : Nat) (vv : Option Value) (h : Heap) (LL : List Loc) : Prop := vv = some (.int 13) ∧ Fr n0 LL ∧ h = h0
set_option maxRecDepth 65536 in
set_option maxHeartbeats 40000000 in
theorem rm_lf2 (l : Launch) (Z : State) (a0 : Array Value) (hw : ∀ d ∈ tables_1, d.before a0 Z = true) (ws : List Jvm.Cond) (a : Nat) (fm : Value) (k_a : ClassId) (h0 : Heap) (n0 : Nat) (Z0 : n0 ≤ h0.size) (rf : fm.isRef = true) (O0 : Old Z n0 h0) (S_SIOOBE_FORMATTER : Sta Z Z.heap "jdk/internal/util/Preconditions" "SIOOBE_FORMATTER" "Ljava/util/function/BiFunction;" fm) (V_a : Arv Z h0 a k_a .byte (4 : Int32) [(.int (9 : Int32)), (.int (10 : Int32)), (.int (13 : Int32)), (.int (32 : Int32))] (.int (0 : Int32))) :
    own_MF l ym_16 jdk_43_method_2_code 2 (some .char) ⟨2, 0, 0, 27⟩ ws Z #[(.ref a), (.int 2)] h0 (Q_rm_lf2 Z a fm k_a h0 n0) := by
  refine own_begin (plainFor_of_name pn_4) (fun m => ef_44 m a) ?_
  intro p e s m below meth c s₁ hret hx hby hml hown hnm hlk X0 e0 hh hZ
  have N0 := Fr.nil n0
  have lt_V_a := own_ltN V_a.lt
  refine og s₁ (mkF m 1 #[rv a, iv 2] [(.int 2)]) (fun t_ k_ => XS.iloadN X0.here hx rfl (hb hby d_jdk_43_2_0) rfl k_) ?_
  refine og s₁ (mkF m 2 #[rv a, iv 2] [(.ref a), (.int 2)]) (fun t_ k_ => XS.aloadN X0.here hx rfl (hb hby d_jdk_43_2_1) rfl rfl k_) ?_
  obtain ⟨cl1, Ar1, -, S1, Nn1, -, -⟩ := id V_a
  refine og s₁ (mkF m 3 #[rv a, iv 2] [(.int 4), (.int 2)]) (fun t_ k_ => X0.arraylength hx (by rw [e0]; exact Ar1.1) (State.isArrayOf_alike hZ.alike Ar1.2.1) (g := (mkF m 2 #[rv a, iv 2] [(.ref a), (.int 2)])) rfl rfl (hb hby d_jdk_43_2_2) _ (by rw [len_of S1 Nn1]; exact k_)) ?_
  obtain ⟨_, _, ⟨T2, L2, k2, n2⟩, -, X2, ⟨Lc2, hQ2, l2, y2, z2⟩, st2⟩ := Jvm.LawKit.callS X0 hx (y := ym_1) hown (mvT hZ (own_w hw 29 rfl)) (mvT hZ (own_w hw 30 rfl)) (mvT hZ (own_w hw 5 rfl)) (mvT hZ (own_w hw 31 rfl)) (by decide) (backOf (W := 0) (rm_ci l Z a0 hw [] (2 : Int32) (4 : Int32) fm h0 n0 (show n0 ≤ h0.size by omega) (by decide) (by decide) rf O0 S_SIOOBE_FORMATTER) hZ (own_w hw 31 rfl) (own_w hw 5 rfl) (by decide) (by decide)) (g := (mkF m 3 #[rv a, iv 2] [(.int 4), (.int 2)])) rfl (by rw [hml]; rfl) (argsL := [(.int 2), (.int 4)]) (rest := []) (lenOf pd_11 rfl) rfl (by show 2 * 0 + _ ≤ _; exact Nat.le_of_eq rfl) (hb hby d_jdk_43_2_3) (fun _ _ => ⟨rfl, e0, (by decide : 0 + 0 ≤ _), (by decide : 0 + 0 ≤ _)⟩)
  dsimp only [Pt.U, Pt.locs, Pt.cells, Pt.slots] at X2 l2 y2 z2 st2 hQ2
  subst l2 y2 z2
  obtain ⟨rfl, M2, e2⟩ := hQ2
  have N2 := Fr.app N0 M2
  refine og T2 (mkF m 6 #[rv a, iv 2] []) (fun t_ k_ => st2 _ k_) ?_
  refine og T2 (mkF m 7 #[rv a, iv 2] [(.ref a)]) (fun t_ k_ => XS.aloadN X2.here hx rfl (hb hby d_jdk_43_2_6) rfl rfl k_) ?_
  refine og T2 (mkF m 8 #[rv a, iv 2] [(.int 2), (.ref a)]) (fun t_ k_ => XS.iloadN X2.here hx rfl (hb hby d_jdk_43_2_7) rfl k_) ?_
  obtain ⟨cl3, Ar3, -, S3, Nn3, H3, -⟩ := id V_a
  have hin3 : ¬ ((2 : Int32) < 0 ∨ cl3.slots.size ≤ ((2 : Int32)).toNatClampNeg) := inb_of S3 ⟨by decide, by decide⟩
  refine og T2 (mkF m 9 #[rv a, iv 2] [(.int 13)]) (fun t_ k_ => X2.baloadBytes hx (j := (2 : Int32)) (v := (.int (13 : Int32))) (by rw [e2]; exact Ar3.1) (State.isArrayOf_alike hZ.alike Ar3.2.1) Ar3.2.2 hin3 (H3.at hin3 rfl) (g := (mkF m 8 #[rv a, iv 2] [(.int 2), (.ref a)])) rfl rfl (hb hby d_jdk_43_2_8) _ k_) ?_
  refine og T2 (mkF m 12 #[rv a, iv 2] [(.int 255), (.int 13)]) (fun t_ k_ => XS.sipush X2.here hx rfl (hb hby d_jdk_43_2_9) k_) ?_
  refine og T2 (mkF m 13 #[rv a, iv 2] [(.int 13)]) (fun t_ k_ => XS.iand X2.here hx rfl (hb hby d_jdk_43_2_12) rfl k_) ?_
  refine og T2 (mkF m 14 #[rv a, iv 2] [(.int 13)]) (fun t_ k_ => XS.i2c X2.here hx rfl (hb hby d_jdk_43_2_13) rfl k_) ?_
  exact own_out X2 (v := some (.int (nar .char (13 : Int32)))) (fun h => by rw [hret] at h; cases h) hlk (fun fs hr => retN X2 hx (t := .char) hret (by simp) (hb hby d_jdk_43_2_14) hr) (Q := Q_rm_lf2 Z a fm k_a h0 n0) (by rw [e2]; exact ⟨rfl, N2, rfl⟩) (by decide) (by decide)
def Q_rm_cf2 (Z : State) (a : Nat) (t : Nat) (kt : ClassId) (cz : Int32) (fm : Value) (h0 : Heap) (n0 : Nat) (vv : Option Value) (h : Heap) (LL : List Loc) : Prop := vv = some (.int 13) ∧ Fr n0 LL ∧ h = h0
set_option maxRecDepth 65536 in
set_option maxHeartbeats 40000000 in
theorem rm_cf2 (l : Launch) (Z : State) (a0 : Array Value) (hw : ∀ d ∈ tables_1, d.before a0 Z = true) (ws : List Jvm.Cond) (a : Nat) (t : Nat) (kt : ClassId) (cz : Int32) (fm : Value) (h0 : Heap) (n0 : Nat) (Z0 : n0 ≤ h0.size) (E_a : Exa Z h0 a "java/lang/String") (F_value_a : Fld Z h0 a "java/lang/String" "value" "[B" (.ref t)) (F_coder_a : Fld Z h0 a "java/lang/String" "coder" "B" (.int 0)) (V_t : Arv Z h0 t kt .byte (4 : Int32) [(.int (9 : Int32)), (.int (10 : Int32)), (.int (13 : Int32)), (.int (32 : Int32))] (.int (0 : Int32))) (O0 : Old Z n0 h0) (S_COMPACT_STRINGS : Sta Z Z.heap "java/lang/String" "COMPACT_STRINGS" "Z" (.int cz)) (hcz : ¬ cz = (0 : Int32)) (rf : fm.isRef = true) (S_SIOOBE_FORMATTER : Sta Z Z.heap "jdk/internal/util/Preconditions" "SIOOBE_FORMATTER" "Ljava/util/function/BiFunction;" fm) :
    own_MF l ym_20 jdk_42_method_56_code 2 (some .char) ⟨3, 0, 0, 40⟩ ws Z #[(.ref a), (.int 2)] h0 (Q_rm_cf2 Z a t kt cz fm h0 n0) := by
  refine own_begin (plainFor_of_name pn_1) (fun m => ef_47 m a) ?_
  intro p e s m below meth c s₁ hret hx hby hml hown hnm hlk X0 e0 hh hZ
  have N0 := Fr.nil n0
  have lt_E_a := own_ltN E_a.lt
  have lt_F_value_a := own_ltN F_value_a.lt
  have lt_F_coder_a := own_ltN F_coder_a.lt
  have lt_V_t := own_ltN V_t.lt
  refine og s₁ (mkF m 1 #[rv a, iv 2] [(.ref a)]) (fun t_ k_ => XS.aloadN X0.here hx rfl (hb hby d_jdk_42_56_0) rfl rfl k_) ?_
  obtain ⟨cq1, kq1, q1a, q1b, q1c⟩ := isOf hZ e0 E_a
  obtain ⟨_, _, ⟨T1, L1, k1, n1⟩, -, X1, ⟨Lc1, hQ1, l1, y1, z1⟩, st1⟩ := X0.virtualBack hx (y := ym_2) (z := ym_2) hown (mvT hZ (own_w hw 17 rfl)) (mvT hZ (own_w hw 18 rfl)) (notFace_of_selects (args := #[]) (mvT hZ (own_w hw 20 rfl))) (mvT hZ (own_w hw 20 rfl)) (mvT hZ (own_w hw 19 rfl)) (by decide) (backOf (W := 0) (rm_isl0 l Z a0 hw [] a cz h0 n0 (show n0 ≤ h0.size by omega) F_coder_a O0 S_COMPACT_STRINGS hcz E_a) hZ (own_w hw 21 rfl) (own_w hw 5 rfl) (by decide) (by decide)) q1a q1c (g := (mkF m 1 #[rv a, iv 2] [(.ref a)])) rfl (by rw [hml]; rfl) (Steps.refl _) (argsL := []) (rest := []) (lenOf pd_14 rfl) rfl (by show 2 * 0 + _ ≤ _; exact Nat.le_of_eq rfl) (hb hby d_jdk_42_56_1) (fun _ _ => ⟨rfl, e0, (by decide : 0 + 0 ≤ _), (by decide : 0 + 0 ≤ _)⟩)
  dsimp only [Pt.U, Pt.locs, Pt.cells, Pt.slots] at X1 l1 y1 z1 st1 hQ1
  subst l1 y1 z1
  obtain ⟨rfl, M1, e1⟩ := hQ1
  have N1 := Fr.app N0 M1
  refine og T1 (mkF m 4 #[rv a, iv 2] [(.int 1)]) (fun t_ k_ => st1.trans k_) ?_
  refine og T1 (mkF m 7 #[rv a, iv 2] []) (fun t_ k_ => XS.ifNo X1.here hx rfl (hb hby d_jdk_42_56_4) rfl ((if0 _ _).trans (feq (by decide)).1) k_) ?_
  refine og T1 (mkF m 8 #[rv a, iv 2] [(.ref a)]) (fun t_ k_ => XS.aloadN X1.here hx rfl (hb hby d_jdk_42_56_7) rfl rfl k_) ?_
  obtain ⟨T2, X2, e2, st2⟩ := getF X1 hx hZ hown (host := "") (Or.inl (own_w hw 24 rfl)) Via.refl e1 F_value_a (g := (mkF m 8 #[rv a, iv 2] [(.ref a)])) rfl rfl (hb hby d_jdk_42_56_8)
  refine og T2 (mkF m 11 #[rv a, iv 2] [(.ref t)]) (fun t_ k_ => st2 _ k_) ?_
  refine og T2 (mkF m 12 #[rv a, iv 2] [(.int 2), (.ref t)]) (fun t_ k_ => XS.iloadN X2.here hx rfl (hb hby d_jdk_42_56_11) rfl k_) ?_
  obtain ⟨_, _, ⟨T3, L3, k3, n3⟩, -, X3, ⟨Lc3, hQ3, l3, y3, z3⟩, st3⟩ := Jvm.LawKit.callS X2 hx (y := ym_16) hown (mvT hZ (own_w hw 25 rfl)) (mvT hZ (own_w hw 26 rfl)) (mvT hZ (own_w hw 27 rfl)) (mvT hZ (own_w hw 28 rfl)) (by decide) (backOf (W := 0) (rm_lf2 l Z a0 hw [] t fm kt h0 n0 (show n0 ≤ h0.size by omega) rf O0 S_SIOOBE_FORMATTER V_t) hZ (own_w hw 28 rfl) (own_w hw 27 rfl) (by decide) (by decide)) (g := (mkF m 12 #[rv a, iv 2] [(.int 2), (.ref t)])) rfl (by rw [hml]; rfl) (argsL := [(.ref t), (.int 2)]) (rest := []) (lenOf pd_6 rfl) rfl (by show 2 * 0 + _ ≤ _; exact Nat.le_of_eq rfl) (hb hby d_jdk_42_56_12) (fun _ _ => ⟨rfl, e2, (by decide : 0 + 0 ≤ _), (by decide : 0 + 0 ≤ _)⟩)
  dsimp only [Pt.U, Pt.locs, Pt.cells, Pt.slots] at X3 l3 y3 z3 st3 hQ3
  subst l3 y3 z3
  obtain ⟨rfl, M3, e3⟩ := hQ3
  have N3 := Fr.app N1 M3
  refine og T3 (mkF m 15 #[rv a, iv 2] [(.int 13)]) (fun t_ k_ => st3 _ k_) ?_
  exact own_out X3 (v := some (.int (nar .char (13 : Int32)))) (fun h => by rw [hret] at h; cases h) hlk (fun fs hr => retN X3 hx (t := .char) hret (by simp) (hb hby d_jdk_42_56_15) hr) (Q := Q_rm_cf2 Z a t kt cz fm h0 n0) (by rw [e3]; exact ⟨rfl, N3, rfl⟩) (by decide) (by decide)
theorem ef_50 (m : MethodId) (a : Nat) : entryFrame m #[(.ref a), (.int 3)] 2 = mkF m 0 #[rv a, iv 3] [] := by first | (simp [entryFrame, mkF, argsToLocals, Value.category]; done) | rfl
def Q_rm_lf3 (Z : State) (a : Nat) (fm : Value) (k_a : ClassId) (h0 : Heap) (n0 : Nat) (vv : Option Value) (h : Heap) (LL : List Loc) : Prop := vv = some (.int 32) ∧ Fr n0 LL ∧ h = h0
set_option maxRecDepth 65536 in
set_option maxHeartbeats 40000000 in
theorem rm_lf3 (l : Launch) (Z : State) (a0 : Array Value) (hw : ∀ d ∈ tables_1, d.before a0 Z = true) (ws : List Jvm.Cond) (a : Nat) (fm : Value) (k_a : ClassId) (h0 : Heap) (n0 : Nat) (Z0 : n0 ≤ h0.size) (rf : fm.isRef = true) (O0 : Old Z n0 h0) (S_SIOOBE_FORMATTER : Sta Z Z.heap "jdk/internal/util/Preconditions" "SIOOBE_FORMATTER" "Ljava/util/function/BiFunction;" fm) (V_a : Arv Z h0 a k_a .byte (4 : Int32) [(.int (9 : Int32)), (.int (10 : Int32)), (.int (13 : Int32)), (.int (32 : Int32))] (.int (0 : Int32))) :
    own_MF l ym_16 jdk_43_method_2_code 2 (some .char) ⟨2, 0, 0, 27⟩ ws Z #[(.ref a), (.int 3)] h0 (Q_rm_lf3 Z a fm k_a h0 n0) := by
  refine own_begin (plainFor_of_name pn_4) (fun m => ef_50 m a) ?_
  intro p e s m below meth c s₁ hret hx hby hml hown hnm hlk X0 e0 hh hZ
  have N0 := Fr.nil n0
  have lt_V_a := own_ltN V_a.lt
  refine og s₁ (mkF m 1 #[rv a, iv 3] [(.int 3)]) (fun t_ k_ => XS.iloadN X0.here hx rfl (hb hby d_jdk_43_2_0) rfl k_) ?_
  refine og s₁ (mkF m 2 #[rv a, iv 3] [(.ref a), (.int 3)]) (fun t_ k_ => XS.aloadN X0.here hx rfl (hb hby d_jdk_43_2_1) rfl rfl k_) ?_
  obtain ⟨cl1, Ar1, -, S1, Nn1, -, -⟩ := id V_a
  refine og s₁ (mkF m 3 #[rv a, iv 3] [(.int 4), (.int 3)]) (fun t_ k_ => X0.arraylength hx (by rw [e0]; exact Ar1.1) (State.isArrayOf_alike hZ.alike Ar1.2.1) (g := (mkF m 2 #[rv a, iv 3] [(.ref a), (.int 3)])) rfl rfl (hb hby d_jdk_43_2_2) _ (by rw [len_of S1 Nn1]; exact k_)) ?_
  obtain ⟨_, _, ⟨T2, L2, k2, n2⟩, -, X2, ⟨Lc2, hQ2, l2, y2, z2⟩, st2⟩ := Jvm.LawKit.callS X0 hx (y := ym_1) hown (mvT hZ (own_w hw 29 rfl)) (mvT hZ (own_w hw 30 rfl)) (mvT hZ (own_w hw 5 rfl)) (mvT hZ (own_w hw 31 rfl)) (by decide) (backOf (W := 0) (rm_ci l Z a0 hw [] (3 : Int32) (4 : Int32) fm h0 n0 (show n0 ≤ h0.size by omega) (by decide) (by decide) rf O0 S_SIOOBE_FORMATTER) hZ (own_w hw 31 rfl) (own_w hw 5 rfl) (by decide) (by decide)) (g := (mkF m 3 #[rv a, iv 3] [(.int 4), (.int 3)])) rfl (by rw [hml]; rfl) (argsL := [(.int 3), (.int 4)]) (rest := []) (lenOf pd_11 rfl) rfl (by show 2 * 0 + _ ≤ _; exact Nat.le_of_eq rfl) (hb hby d_jdk_43_2_3) (fun _ _ => ⟨rfl, e0, (by decide : 0 + 0 ≤ _), (by decide : 0 + 0 ≤ _)⟩)
  dsimp only [Pt.U, Pt.locs, Pt.cells, Pt.slots] at X2 l2 y2 z2 st2 hQ2
  subst l2 y2 z2
  obtain ⟨rfl, M2, e2⟩ := hQ2
  have N2 := Fr.app N0 M2
  refine og T2 (mkF m 6 #[rv a, iv 3] []) (fun t_ k_ => st2 _ k_) ?_
  refine og T2 (mkF m 7 #[rv a, iv 3] [(.ref a)]) (fun t_ k_ => XS.aloadN X2.here hx rfl (hb hby d_jdk_43_2_6) rfl rfl k_) ?_
  refine og T2 (mkF m 8 #[rv a, iv 3] [(.int 3), (.ref a)]) (fun t_ k_ => XS.iloadN X2.here hx rfl (hb hby d_jdk_43_2_7) rfl k_) ?_
  obtain ⟨cl3, Ar3, -, S3, Nn3, H3, -⟩ := id V_a
  have hin3 : ¬ ((3 : Int32) < 0 ∨ cl3.slots.size ≤ ((3 : Int32)).toNatClampNeg) := inb_of S3 ⟨by decide, by decide⟩
  refine og T2 (mkF m 9 #[rv a, iv 3] [(.int 32)]) (fun t_ k_ => X2.baloadBytes hx (j := (3 : Int32)) (v := (.int (32 : Int32))) (by rw [e2]; exact Ar3.1) (State.isArrayOf_alike hZ.alike Ar3.2.1) Ar3.2.2 hin3 (H3.at hin3 rfl) (g := (mkF m 8 #[rv a, iv 3] [(.int 3), (.ref a)])) rfl rfl (hb hby d_jdk_43_2_8) _ k_) ?_
  refine og T2 (mkF m 12 #[rv a, iv 3] [(.int 255), (.int 32)]) (fun t_ k_ => XS.sipush X2.here hx rfl (hb hby d_jdk_43_2_9) k_) ?_
  refine og T2 (mkF m 13 #[rv a, iv 3] [(.int 32)]) (fun t_ k_ => XS.iand X2.here hx rfl (hb hby d_jdk_43_2_12) rfl k_) ?_
  refine og T2 (mkF m 14 #[rv a, iv 3] [(.int 32)]) (fun t_ k_ => XS.i2c X2.here hx rfl (hb hby d_jdk_43_2_13) rfl k_) ?_
  exact own_out X2 (v := some (.int (nar .char (32 : Int32)))) (fun h => by rw [hret] at h; cases h) hlk (fun fs hr => retN X2 hx (t := .char) hret (by simp) (hb hby d_jdk_43_2_14) hr) (Q := Q_rm_lf3 Z a fm k_a h0 n0) (by rw [e2]; exact ⟨rfl, N2, rfl⟩) (by decide) (by decide)
theorem ef_51 (m : MethodId) (a : Nat) : entryFrame m #[(.ref a), (.int 3)] 2 = mkF m 0 #[rv a, iv 3] [] := by first | (simp [entryFrame, mkF, argsToLocals, Value.category]; done) | rfl
def Q_rm_cf3 (Z : State) (a : Nat) (t : Nat) (kt : ClassId) (cz : Int32) (fm : Value) (h0 : Heap) (n0 : Nat) (vv : Option Value) (h : Heap) (LL : List Loc) : Prop := vv = some (.int 32) ∧ Fr n0 LL ∧ h = h0
set_option maxRecDepth 65536 in
set_option maxHeartbeats 40000000 in
theorem rm_cf3 (l : Launch) (Z : State) (a0 : Array Value) (hw : ∀ d ∈ tables_1, d.before a0 Z = true) (ws : List Jvm.Cond) (a : Nat) (t : Nat) (kt : ClassId) (cz : Int32) (fm : Value) (h0 : Heap) (n0 : Nat) (Z0 : n0 ≤ h0.size) (E_a : Exa Z h0 a "java/lang/String") (F_value_a : Fld Z h0 a "java/lang/String" "value" "[B" (.ref t)) (F_coder_a : Fld Z h0 a "java/lang/String" "coder" "B" (.int 0)) (V_t : Arv Z h0 t kt .byte (4 : Int32) [(.int (9 : Int32)), (.int (10 : Int32)), (.int (13 : Int32)), (.int (32 : Int32))] (.int (0 : Int32))) (O0 : Old Z n0 h0) (S_COMPACT_STRINGS : Sta Z Z.heap "java/lang/String" "COMPACT_STRINGS" "Z" (.int cz)) (hcz : ¬ cz = (0 : Int32)) (rf : fm.isRef = true) (S_SIOOBE_FORMATTER : Sta Z Z.heap "jdk/internal/util/Preconditions" "SIOOBE_FORMATTER" "Ljava/util/function/BiFunction;" fm) :
    own_MF l ym_20 jdk_42_method_56_code 2 (some .char) ⟨3, 0, 0, 40⟩ ws Z #[(.ref a), (.int 3)] h0 (Q_rm_cf3 Z a t kt cz fm h0 n0) := by
  refine own_begin (plainFor_of_name pn_1) (fun m => ef_51 m a) ?_
  intro p e s m below meth c s₁ hret hx hby hml hown hnm hlk X0 e0 hh hZ
  have N0 := Fr.nil n0
  have lt_E_a := own_ltN E_a.lt
  have lt_F_value_a := own_ltN F_value_a.lt
  have lt_F_coder_a := own_ltN F_coder_a.lt
  have lt_V_t := own_ltN V_t.lt
  refine og s₁ (mkF m 1 #[rv a, iv 3] [(.ref a)]) (fun t_ k_ => XS.aloadN X0.here hx rfl (hb hby d_jdk_42_56_0) rfl rfl k_) ?_
  obtain ⟨cq1, kq1, q1a, q1b, q1c⟩ := isOf hZ e0 E_a
  obtain ⟨_, _, ⟨T1, L1, k1, n1⟩, -, X1, ⟨Lc1, hQ1, l1, y1, z1⟩, st1⟩ := X0.virtualBack hx (y := ym_2) (z := ym_2) hown (mvT hZ (own_w hw 17 rfl)) (mvT hZ (own_w hw 18 rfl)) (notFace_of_selects (args := #[]) (mvT hZ (own_w hw 20 rfl))) (mvT hZ (own_w hw 20 rfl)) (mvT hZ (own_w hw 19 rfl)) (by decide) (backOf (W := 0) (rm_isl0 l Z a0 hw [] a cz h0 n0 (show n0 ≤ h0.size by omega) F_coder_a O0 S_COMPACT_STRINGS hcz E_a) hZ (own_w hw 21 rfl) (own_w hw 5 rfl) (by decide) (by decide)) q1a q1c (g := (mkF m 1 #[rv a, iv 3] [(.ref a)])) rfl (by rw [hml]; rfl) (Steps.refl _) (argsL := []) (rest := []) (lenOf pd_14 rfl) rfl (by show 2 * 0 + _ ≤ _; exact Nat.le_of_eq rfl) (hb hby d_jdk_42_56_1) (fun _ _ => ⟨rfl, e0, (by decide : 0 + 0 ≤ _), (by decide : 0 + 0 ≤ _)⟩)
  dsimp only [Pt.U, Pt.locs, Pt.cells, Pt.slots] at X1 l1 y1 z1 st1 hQ1
  subst l1 y1 z1
  obtain ⟨rfl, M1, e1⟩ := hQ1
  have N1 := Fr.app N0 M1
  refine og T1 (mkF m 4 #[rv a, iv 3] [(.int 1)]) (fun t_ k_ => st1.trans k_) ?_
  refine og T1 (mkF m 7 #[rv a, iv 3] []) (fun t_ k_ => XS.ifNo X1.here hx rfl (hb hby d_jdk_42_56_4) rfl ((if0 _ _).trans (feq (by decide)).1) k_) ?_
  refine og T1 (mkF m 8 #[rv a, iv 3] [(.ref a)]) (fun t_ k_ => XS.aloadN X1.here hx rfl (hb hby d_jdk_42_56_7) rfl rfl k_) ?_
  obtain ⟨T2, X2, e2, st2⟩ := getF X1 hx hZ hown (host := "") (Or.inl (own_w hw 24 rfl)) Via.refl e1 F_value_a (g := (mkF m 8 #[rv a, iv 3] [(.ref a)])) rfl rfl (hb hby d_jdk_42_56_8)
  refine og T2 (mkF m 11 #[rv a, iv 3] [(.ref t)]) (fun t_ k_ => st2 _ k_) ?_
  refine og T2 (mkF m 12 #[rv a, iv 3] [(.int 3), (.ref t)]) (fun t_ k_ => XS.iloadN X2.here hx rfl (hb hby d_jdk_42_56_11) rfl k_) ?_
  obtain ⟨_, _, ⟨T3, L3, k3, n3⟩, -, X3, ⟨Lc3, hQ3, l3, y3, z3⟩, st3⟩ := Jvm.LawKit.callS X2 hx (y := ym_16) hown (mvT hZ (own_w hw 25 rfl)) (mvT hZ (own_w hw 26 rfl)) (mvT hZ (own_w hw 27 rfl)) (mvT hZ (own_w hw 28 rfl)) (by decide) (backOf (W := 0) (rm_lf3 l Z a0 hw [] t fm kt h0 n0 (show n0 ≤ h0.size by omega) rf O0 S_SIOOBE_FORMATTER V_t) hZ (own_w hw 28 rfl) (own_w hw 27 rfl) (by decide) (by decide)) (g := (mkF m 12 #[rv a, iv 3] [(.int 3), (.ref t)])) rfl (by rw [hml]; rfl) (argsL := [(.ref t), (.int 3)]) (rest := []) (lenOf pd_6 rfl) rfl (by show 2 * 0 + _ ≤ _; exact Nat.le_of_eq rfl) (hb hby d_jdk_42_56_12) (fun _ _ => ⟨rfl, e2, (by decide : 0 + 0 ≤ _), (by decide : 0 + 0 ≤ _)⟩)
  dsimp only [Pt.U, Pt.locs, Pt.cells, Pt.slots] at X3 l3 y3 z3 st3 hQ3
  subst l3 y3 z3
  obtain ⟨rfl, M3, e3⟩ := hQ3
  have N3 := Fr.app N1 M3
  refine og T3 (mkF m 15 #[rv a, iv 3] [(.int 32)]) (fun t_ k_ => st3 _ k_) ?_
  exact own_out X3 (v := some (.int (nar .char (32 : Int32)))) (fun h => by rw [hret] at h; cases h) hlk (fun fs hr => retN X3 hx (t := .char) hret (by simp) (hb hby d_jdk_42_56_15) hr) (Q := Q_rm_cf3 Z a t kt cz fm h0 n0) (by rw [e3]; exact ⟨rfl, N3, rfl⟩) (by decide) (by decide)
theorem d_method_3_0 : decode method_3_code 0 = .ok (.iload_n 0, 1) := by decide +kernel
theorem d_method_3_1 : decode method_3_code 1 = .ok (.iconst 1, 1) := by decide +kernel
theorem d_method_3_2 : decode method_3_code 2 = .ok (.iand, 1) := by decide +kernel
theorem d_method_3_3 : decode method_3_code 3 = .ok (.ifCond .eq 14, 3) := by decide +kernel
theorem d_method_3_17 : decode method_3_code 17 = .ok (.iload_n 0, 1) := by decide +kernel
theorem d_method_3_18 : decode method_3_code 18 = .ok (.iconst 1, 1) := by decide +kernel
theorem d_method_3_19 : decode method_3_code 19 = .ok (.iushr, 1) := by decide +kernel
theorem d_method_3_20 : decode method_3_code 20 = .ok (.i2c, 1) := by decide +kernel
theorem d_method_3_21 : decode method_3_code 21 = .ok (.ireturn, 1) := by decide +kernel
theorem d_method_3_6 : decode method_3_code 6 = .ok (.ldc 11, 2) := by decide +kernel
theorem d_method_3_8 : decode method_3_code 8 = .ok (.iload_n 0, 1) := by decide +kernel
theorem d_method_3_9 : decode method_3_code 9 = .ok (.iconst 1, 1) := by decide +kernel
theorem d_method_3_10 : decode method_3_code 10 = .ok (.iushr, 1) := by decide +kernel
theorem d_method_3_11 : decode method_3_code 11 = .ok (.iconst 3, 1) := by decide +kernel
theorem d_method_3_12 : decode method_3_code 12 = .ok (.iand, 1) := by decide +kernel
theorem d_method_3_13 : decode method_3_code 13 = .ok (.invokevirtual 13, 3) := by decide +kernel
theorem d_method_3_16 : decode method_3_code 16 = .ok (.ireturn, 1) := by decide +kernel
theorem ef_52 (m : MethodId) (x0 : Int32) : entryFrame m #[(.int x0)] 1 = mkF m 0 #[iv x0] [] := by first | (simp [entryFrame, mkF, argsToLocals, Value.category]; done) | rfl
def Q_rm_draw (Z : State) (x0 : Int32) (N : Nat) (cz : Int32) (fm : Value) (h0 : Heap) (n0 : Nat) (vv : Option Value) (h : Heap) (vm : Vm) (LL : List Loc) : Prop := ∃ ch : Int32, vv = some (.int ch) ∧ Fr n0 LL ∧ Keep h0 h [] ∧ (¬ (ch < (0 : Int32)) ∧ ¬ ((65535 : Int32) < ch)) ∧ own_LitSt Z h.size "com/example/labmeld/labmeld/xsd/XsdSchemaIsWhiteSpacePinLaw" 11 "\t\n\r " [(9 : Int32), (10 : Int32), (13 : Int32), (32 : Int32)] vm h
set_option maxRecDepth 65536 in
set_option maxHeartbeats 40000000 in
abbrev ym_22 : MethodName := ⟨"com/example/labmeld/labmeld/xsd/XsdSchemaIsWhiteSpacePinLaw", "draw", "(I)C"⟩
theorem rm_draw (l : Launch) (Z : State) (a0 : Array Value) (hw : ∀ d ∈ tables_1, d.before a0 Z = true) (ws : List Jvm.Cond) (x0 : Int32) (N : Nat) (cz : Int32) (fm : Value) (h0 : Heap) (n0 : Nat) (Z0 : n0 ≤ h0.size) (O0 : Old Z n0 h0) (S_COMPACT_STRINGS : Sta Z Z.heap "java/lang/String" "COMPACT_STRINGS" "Z" (.int cz)) (hcz : ¬ cz = (0 : Int32)) (rf : fm.isRef = true) (S_SIOOBE_FORMATTER : Sta Z Z.heap "jdk/internal/util/Preconditions" "SIOOBE_FORMATTER" "Ljava/util/function/BiFunction;" fm) (hN : N ≤ h0.size) (hheld : Jvm.Lit.constHeld Z "com/example/labmeld/labmeld/xsd/XsdSchemaIsWhiteSpacePinLaw" 11) (hcw : Jvm.Lit.compactW.before a0 Z = true) :
    MetFree l (⟨"com/example/labmeld/labmeld/xsd/XsdSchemaIsWhiteSpacePinLaw", "draw", "(I)C"⟩ : MethodName) (head1 (Jvm.Cond.code (⟨"com/example/labmeld/labmeld/xsd/XsdSchemaIsWhiteSpacePinLaw", "draw", "(I)C"⟩ : MethodName) method_3_code 1 (some .char) :: ws) ({ frames := 4, cells := 2, slots := 20, locals := 53 } : Room)) (fun aa UU => aa = #[(.int x0)] ∧ Z.Warmed39 UU.vm ∧ UU.heap = h0 ∧ own_LitSt Z N "com/example/labmeld/labmeld/xsd/XsdSchemaIsWhiteSpacePinLaw" 11 "\t\n\r " [(9 : Int32), (10 : Int32), (13 : Int32), (32 : Int32)] UU.vm h0) (fun _ _ _ _ _ => True) (fun _ UU oo UU' => ∃ vv LL, oo = .returned vv ∧ Q_rm_draw Z x0 N cz fm h0 n0 vv UU'.heap UU'.vm LL ∧ ReturnedEndW UU oo UU' LL ({ frames := 4, cells := 2, slots := 20, locals := 53 } : Room).cells ({ frames := 4, cells := 2, slots := 20, locals := 53 } : Room).slots) := by
  refine MetFree.of_bodySF (plainFor_of_name pn_5) hisR ?_
  intro p e s m args below meth c s₁ Bd hml0 hP hK
  obtain ⟨rfl, hZ, hh, hLS⟩ := hP
  have hx := Bd.exec
  have hby := Bd.bytes
  have hret := Bd.returns
  have hml : c.maxLocals = 1 := hml0
  have hown : s.vm.findClass "com/example/labmeld/labmeld/xsd/XsdSchemaIsWhiteSpacePinLaw" = some m.cls := findClass_of_methodNamed Bd.named
  have hnm := (name_of_methodNamed Bd.named Bd.method).1
  have hlk : meth.locks = false := BodyLoose.notSynchronized Bd
  have X0 : Stand p l e ({ frames := 4, cells := 2, slots := 20, locals := 53 } : Room) (s.setVm s.vm) m #[(.int x0)] below meth c s₁ [] 0 0 := Stand.of_body Bd
  have e0 : s₁.heap = h0 := by rw [← hh, Bd.state]; rfl
  have N0 := Fr.nil n0
  have hS : s.Since s.vm 0 := own_since s
  have hk : 0 ≤ h0.size := Nat.zero_le _
  have hwS : ∀ a ∈ Bundle.stringAtoms, a.before a0 Z = true := fun d hd => hw d ((by decide +kernel : ∀ d ∈ Bundle.stringAtoms, d ∈ tables_1) d hd)
  refine own_in (ef_52 m x0) ?_
  refine og s₁ (mkF m 1 #[iv x0] [(.int x0)]) (fun t_ k_ => XS.iloadN X0.here hx rfl (hb hby d_method_3_0) rfl k_) ?_
  refine og s₁ (mkF m 2 #[iv x0] [(.int 1), (.int x0)]) (fun t_ k_ => XS.iconst X0.here hx rfl (hb hby d_method_3_1) k_) ?_
  refine og s₁ (mkF m 3 #[iv x0] [(.int (x0 &&& (1 : Int32)))]) (fun t_ k_ => XS.iand X0.here hx rfl (hb hby d_method_3_2) rfl k_) ?_
  by_cases hq1_ : (x0 &&& (1 : Int32)) = (0 : Int32)
  · skip
    refine og s₁ (mkF m 17 #[iv x0] []) (fun t_ k_ => XS.ifYes X0.here hx rfl (pc0 := 3) (pc' := 17) rfl (hb hby d_method_3_3) rfl ((if0 _ _).trans (teq hq1_).1) (by decide) (by decide) k_) ?_
    refine og s₁ (mkF m 18 #[iv x0] [(.int x0)]) (fun t_ k_ => XS.iloadN X0.here hx rfl (hb hby d_method_3_17) rfl k_) ?_
    refine og s₁ (mkF m 19 #[iv x0] [(.int 1), (.int x0)]) (fun t_ k_ => XS.iconst X0.here hx rfl (hb hby d_method_3_18) k_) ?_
    refine og s₁ (mkF m 20 #[iv x0] [(.int ((x0.toUInt32 >>> ((1 : Int32) &&& 31).toUInt32).toInt32))]) (fun t_ k_ => XS.iushr X0.here hx rfl (hb hby d_method_3_19) rfl k_) ?_
    refine og s₁ (mkF m 21 #[iv x0] [(.int (((x0.toUInt32 >>> ((1 : Int32) &&& 31).toUInt32).toInt32).toUInt32.toUInt16.toUInt32.toInt32))]) (fun t_ k_ => XS.i2c X0.here hx rfl (hb hby d_method_3_20) rfl k_) ?_
    exact own_outV X0 hS (show _ ≤ s₁.heap.size by rw [e0]; omega) (v := some (.int (nar .char (((x0.toUInt32 >>> ((1 : Int32) &&& 31).toUInt32).toInt32).toUInt32.toUInt16.toUInt32.toInt32)))) (fun h => by rw [hret] at h; cases h) hlk (fun fs hr => retN X0 hx (t := .char) hret (by simp) (hb hby d_method_3_21) hr) (Q := Q_rm_draw Z x0 N cz fm h0 n0) (by rw [e0]; exact ⟨(nar .char (((x0.toUInt32 >>> ((1 : Int32) &&& 31).toUInt32).toInt32).toUInt32.toUInt16.toUInt32.toInt32)), rfl, N0, (Keep.refl h0 []), own_i2cr _, (own_LitSt.monoN (own_LitSt.warm (s := s.setVm s.vm) hLS X0.warmed) hN)⟩) (by decide) (by decide)
  · skip
    refine og s₁ (mkF m 6 #[iv x0] []) (fun t_ k_ => XS.ifNo X0.here hx rfl (hb hby d_method_3_3) rfl ((if0 _ _).trans (feq hq1_).1) k_) ?_
    rcases hLS with hI | ⟨la, hI, hLit, hStr⟩
    · have hnotin : "\t\n\r " ∉ ([] : List String) := List.not_mem_nil
      obtain ⟨b2, T2, h2, k2, tb2, kb2, X2, e2, E2, hS, hk, hZ, hown, sE2, sC2, sV2, sA2, sla2, slb2, hIB2, hLit2, st2⟩ := ldcSVL X0 hx hZ hown (own_w hw 4 rfl) hwS e0 hS (show _ ≤ h0.size by omega) (Fr.nil _) (fun b cl q => by rw [hh]; exact O0.2.2 _ _ q) hI hnotin hheld hcw (vs := [(.int (9 : Int32)), (.int (10 : Int32)), (.int (13 : Int32)), (.int (32 : Int32))]) (z := 4) ⟨by decide, by decide⟩ (by decide) rfl (g := (mkF m 6 #[iv x0] [])) rfl (hb hby d_method_3_6) (n := 16) (by decide) (by decide) (by decide) (by decide)
      have z2 := E2.1
      have O2 := O0.ext E2
      have K2 := (Keep.refl h0 []).ext E2
      refine og T2 (mkF m 8 #[iv x0] [(.ref b2)]) (fun t_ k_ => st2 _ k_) ?_
      have ltb2 := own_ltN slb2
      have lta2 := own_ltN sla2
      refine og T2 (mkF m 9 #[iv x0] [(.int x0), (.ref b2)]) (fun t_ k_ => XS.iloadN X2.here hx rfl (hb hby d_method_3_8) rfl k_) ?_
      refine og T2 (mkF m 10 #[iv x0] [(.int 1), (.int x0), (.ref b2)]) (fun t_ k_ => XS.iconst X2.here hx rfl (hb hby d_method_3_9) k_) ?_
      refine og T2 (mkF m 11 #[iv x0] [(.int ((x0.toUInt32 >>> ((1 : Int32) &&& 31).toUInt32).toInt32)), (.ref b2)]) (fun t_ k_ => XS.iushr X2.here hx rfl (hb hby d_method_3_10) rfl k_) ?_
      refine og T2 (mkF m 12 #[iv x0] [(.int 3), (.int ((x0.toUInt32 >>> ((1 : Int32) &&& 31).toUInt32).toInt32)), (.ref b2)]) (fun t_ k_ => XS.iconst X2.here hx rfl (hb hby d_method_3_11) k_) ?_
      refine og T2 (mkF m 13 #[iv x0] [(.int (((x0.toUInt32 >>> ((1 : Int32) &&& 31).toUInt32).toInt32) &&& (3 : Int32))), (.ref b2)]) (fun t_ k_ => XS.iand X2.here hx rfl (hb hby d_method_3_12) rfl k_) ?_
      have hj := own_four ((x0.toUInt32 >>> ((1 : Int32) &&& 31).toUInt32).toInt32)
      generalize g_j : (((x0.toUInt32 >>> ((1 : Int32) &&& 31).toUInt32).toInt32) &&& (3 : Int32)) = j0 at hj ⊢
      rcases hj with rfl | rfl | rfl | rfl
      · skip
        obtain ⟨cq3, kq3, q3a, q3b, q3c⟩ := isOf hZ e2 sE2
        obtain ⟨_, _, ⟨T3, L3, k3, n3⟩, -, X3, ⟨Lc3, hQ3, l3, y3, z3⟩, st3⟩ := X2.virtualBack hx (y := ym_20) (z := ym_20) hown (mvT hZ (own_w hw 12 rfl)) (mvT hZ (own_w hw 13 rfl)) (notFace_of_selects (args := #[]) (mvT hZ (own_w hw 15 rfl))) (mvT hZ (own_w hw 15 rfl)) (mvT hZ (own_w hw 14 rfl)) (by decide) (backOf (W := 0) (rm_cf0 l Z a0 hw [] b2 tb2 kb2 cz fm h2 n0 (show n0 ≤ h2.size by omega) sE2 sV2 sC2 sA2 O2 S_COMPACT_STRINGS hcz rf S_SIOOBE_FORMATTER) hZ (own_w hw 16 rfl) (own_w hw 5 rfl) (by decide) (by decide)) q3a q3c (g := (mkF m 13 #[iv x0] [(.int 0), (.ref b2)])) rfl (by rw [hml]; rfl) (Steps.refl _) (argsL := [(.int 0)]) (rest := []) (lenOf pd_15 rfl) rfl (by show 2 * 0 + _ ≤ _; exact Nat.le_of_eq rfl) (hb hby d_method_3_13) (fun _ _ => ⟨rfl, e2, (by decide : 2 + 0 ≤ _), (by decide : 20 + 0 ≤ _)⟩)
        dsimp only [Pt.U, Pt.locs, Pt.cells, Pt.slots] at X3 l3 y3 z3 st3 hQ3
        subst l3 y3 z3
        obtain ⟨rfl, M3, e3⟩ := hQ3
        have N3 := Fr.app N0 M3
        refine og T3 (mkF m 16 #[iv x0] [(.int 9)]) (fun t_ k_ => st3.trans k_) ?_
        exact own_outV X3 hS (show _ ≤ T3.heap.size by rw [e3]; omega) (v := some (.int (nar .char (9 : Int32)))) (fun h => by rw [hret] at h; cases h) hlk (fun fs hr => retN X3 hx (t := .char) hret (by simp) (hb hby d_method_3_16) hr) (Q := Q_rm_draw Z x0 N cz fm h0 n0) (by rw [e3]; exact ⟨(9 : Int32), rfl, N3, K2, (by decide), (Or.inr ⟨b2, own_ib (s := s.setVm T2.vm) X3.warmed hIB2, own_lit (s := s.setVm T2.vm) X3.warmed.wide hLit2, ⟨sE2, by omega, tb2, kb2, by omega, sV2, sC2, sA2⟩⟩)⟩) (by decide) (by decide)
      · skip
        obtain ⟨cq4, kq4, q4a, q4b, q4c⟩ := isOf hZ e2 sE2
        obtain ⟨_, _, ⟨T4, L4, k4, n4⟩, -, X4, ⟨Lc4, hQ4, l4, y4, z4⟩, st4⟩ := X2.virtualBack hx (y := ym_20) (z := ym_20) hown (mvT hZ (own_w hw 12 rfl)) (mvT hZ (own_w hw 13 rfl)) (notFace_of_selects (args := #[]) (mvT hZ (own_w hw 15 rfl))) (mvT hZ (own_w hw 15 rfl)) (mvT hZ (own_w hw 14 rfl)) (by decide) (backOf (W := 0) (rm_cf1 l Z a0 hw [] b2 tb2 kb2 cz fm h2 n0 (show n0 ≤ h2.size by omega) sE2 sV2 sC2 sA2 O2 S_COMPACT_STRINGS hcz rf S_SIOOBE_FORMATTER) hZ (own_w hw 16 rfl) (own_w hw 5 rfl) (by decide) (by decide)) q4a q4c (g := (mkF m 13 #[iv x0] [(.int 1), (.ref b2)])) rfl (by rw [hml]; rfl) (Steps.refl _) (argsL := [(.int 1)]) (rest := []) (lenOf pd_15 rfl) rfl (by show 2 * 0 + _ ≤ _; exact Nat.le_of_eq rfl) (hb hby d_method_3_13) (fun _ _ => ⟨rfl, e2, (by decide : 2 + 0 ≤ _), (by decide : 20 + 0 ≤ _)⟩)
        dsimp only [Pt.U, Pt.locs, Pt.cells, Pt.slots] at X4 l4 y4 z4 st4 hQ4
        subst l4 y4 z4
        obtain ⟨rfl, M4, e4⟩ := hQ4
        have N4 := Fr.app N0 M4
        refine og T4 (mkF m 16 #[iv x0] [(.int 10)]) (fun t_ k_ => st4.trans k_) ?_
        exact own_outV X4 hS (show _ ≤ T4.heap.size by rw [e4]; omega) (v := some (.int (nar .char (10 : Int32)))) (fun h => by rw [hret] at h; cases h) hlk (fun fs hr => retN X4 hx (t := .char) hret (by simp) (hb hby d_method_3_16) hr) (Q := Q_rm_draw Z x0 N cz fm h0 n0) (by rw [e4]; exact ⟨(10 : Int32), rfl, N4, K2, (by decide), (Or.inr ⟨b2, own_ib (s := s.setVm T2.vm) X4.warmed hIB2, own_lit (s := s.setVm T2.vm) X4.warmed.wide hLit2, ⟨sE2, by omega, tb2, kb2, by omega, sV2, sC2, sA2⟩⟩)⟩) (by decide) (by decide)
      · skip
        obtain ⟨cq5, kq5, q5a, q5b, q5c⟩ := isOf hZ e2 sE2
        obtain ⟨_, _, ⟨T5, L5, k5, n5⟩, -, X5, ⟨Lc5, hQ5, l5, y5, z5⟩, st5⟩ := X2.virtualBack hx (y := ym_20) (z := ym_20) hown (mvT hZ (own_w hw 12 rfl)) (mvT hZ (own_w hw 13 rfl)) (notFace_of_selects (args := #[]) (mvT hZ (own_w hw 15 rfl))) (mvT hZ (own_w hw 15 rfl)) (mvT hZ (own_w hw 14 rfl)) (by decide) (backOf (W := 0) (rm_cf2 l Z a0 hw [] b2 tb2 kb2 cz fm h2 n0 (show n0 ≤ h2.size by omega) sE2 sV2 sC2 sA2 O2 S_COMPACT_STRINGS hcz rf S_SIOOBE_FORMATTER) hZ (own_w hw 16 rfl) (own_w hw 5 rfl) (by decide) (by decide)) q5a q5c (g := (mkF m 13 #[iv x0] [(.int 2), (.ref b2)])) rfl (by rw [hml]; rfl) (Steps.refl _) (argsL := [(.int 2)]) (rest := []) (lenOf pd_15 rfl) rfl (by show 2 * 0 + _ ≤ _; exact Nat.le_of_eq rfl) (hb hby d_method_3_13) (fun _ _ => ⟨rfl, e2, (by decide : 2 + 0 ≤ _), (by decide : 20 + 0 ≤ _)⟩)
        dsimp only [Pt.U, Pt.locs, Pt.cells, Pt.slots] at X5 l5 y5 z5 st5 hQ5
        subst l5 y5 z5
        obtain ⟨rfl, M5, e5⟩ := hQ5
        have N5 := Fr.app N0 M5
        refine og T5 (mkF m 16 #[iv x0] [(.int 13)]) (fun t_ k_ => st5.trans k_) ?_
        exact own_outV X5 hS (show _ ≤ T5.heap.size by rw [e5]; omega) (v := some (.int (nar .char (13 : Int32)))) (fun h => by rw [hret] at h; cases h) hlk (fun fs hr => retN X5 hx (t := .char) hret (by simp) (hb hby d_method_3_16) hr) (Q := Q_rm_draw Z x0 N cz fm h0 n0) (by rw [e5]; exact ⟨(13 : Int32), rfl, N5, K2, (by decide), (Or.inr ⟨b2, own_ib (s := s.setVm T2.vm) X5.warmed hIB2, own_lit (s := s.setVm T2.vm) X5.warmed.wide hLit2, ⟨sE2, by omega, tb2, kb2, by omega, sV2, sC2, sA2⟩⟩)⟩) (by decide) (by decide)
      · skip
        obtain ⟨cq6, kq6, q6a, q6b, q6c⟩ := isOf hZ e2 sE2
        obtain ⟨_, _, ⟨T6, L6, k6, n6⟩, -, X6, ⟨Lc6, hQ6, l6, y6, z6⟩, st6⟩ := X2.virtualBack hx (y := ym_20) (z := ym_20) hown (mvT hZ (own_w hw 12 rfl)) (mvT hZ (own_w hw 13 rfl)) (notFace_of_selects (args := #[]) (mvT hZ (own_w hw 15 rfl))) (mvT hZ (own_w hw 15 rfl)) (mvT hZ (own_w hw 14 rfl)) (by decide) (backOf (W := 0) (rm_cf3 l Z a0 hw [] b2 tb2 kb2 cz fm h2 n0 (show n0 ≤ h2.size by omega) sE2 sV2 sC2 sA2 O2 S_COMPACT_STRINGS hcz rf S_SIOOBE_FORMATTER) hZ (own_w hw 16 rfl) (own_w hw 5 rfl) (by decide) (by decide)) q6a q6c (g := (mkF m 13 #[iv x0] [(.int 3), (.ref b2)])) rfl (by rw [hml]; rfl) (Steps.refl _) (argsL := [(.int 3)]) (rest := []) (lenOf pd_15 rfl) rfl (by show 2 * 0 + _ ≤ _; exact Nat.le_of_eq rfl) (hb hby d_method_3_13) (fun _ _ => ⟨rfl, e2, (by decide : 2 + 0 ≤ _), (by decide : 20 + 0 ≤ _)⟩)
        dsimp only [Pt.U, Pt.locs, Pt.cells, Pt.slots] at X6 l6 y6 z6 st6 hQ6
        subst l6 y6 z6
        obtain ⟨rfl, M6, e6⟩ := hQ6
        have N6 := Fr.app N0 M6
        refine og T6 (mkF m 16 #[iv x0] [(.int 32)]) (fun t_ k_ => st6.trans k_) ?_
        exact own_outV X6 hS (show _ ≤ T6.heap.size by rw [e6]; omega) (v := some (.int (nar .char (32 : Int32)))) (fun h => by rw [hret] at h; cases h) hlk (fun fs hr => retN X6 hx (t := .char) hret (by simp) (hb hby d_method_3_16) hr) (Q := Q_rm_draw Z x0 N cz fm h0 n0) (by rw [e6]; exact ⟨(32 : Int32), rfl, N6, K2, (by decide), (Or.inr ⟨b2, own_ib (s := s.setVm T2.vm) X6.warmed hIB2, own_lit (s := s.setVm T2.vm) X6.warmed.wide hLit2, ⟨sE2, by omega, tb2, kb2, by omega, sV2, sC2, sA2⟩⟩)⟩) (by decide) (by decide)
    · have hnotin : "\t\n\r " ∉ ([] : List String) := List.not_mem_nil
      refine og s₁ (mkF m 8 #[iv x0] [(.ref la)]) (fun t_ k_ => ldcAgain X0 hx hZ hown (own_w hw 4 rfl) (a := la) hLit (g := (mkF m 6 #[iv x0] [])) rfl (hb hby d_method_3_6) _ k_) ?_
      obtain ⟨sE, sa, tt0, kk0, stt, sV, sC, sA⟩ := id hStr
      have sA' : Arv Z h0 tt0 kk0 .byte (4 : Int32) [(.int (9 : Int32)), (.int (10 : Int32)), (.int (13 : Int32)), (.int (32 : Int32))] (.int (0 : Int32)) := sA
      refine og s₁ (mkF m 9 #[iv x0] [(.int x0), (.ref la)]) (fun t_ k_ => XS.iloadN X0.here hx rfl (hb hby d_method_3_8) rfl k_) ?_
      refine og s₁ (mkF m 10 #[iv x0] [(.int 1), (.int x0), (.ref la)]) (fun t_ k_ => XS.iconst X0.here hx rfl (hb hby d_method_3_9) k_) ?_
      refine og s₁ (mkF m 11 #[iv x0] [(.int ((x0.toUInt32 >>> ((1 : Int32) &&& 31).toUInt32).toInt32)), (.ref la)]) (fun t_ k_ => XS.iushr X0.here hx rfl (hb hby d_method_3_10) rfl k_) ?_
      refine og s₁ (mkF m 12 #[iv x0] [(.int 3), (.int ((x0.toUInt32 >>> ((1 : Int32) &&& 31).toUInt32).toInt32)), (.ref la)]) (fun t_ k_ => XS.iconst X0.here hx rfl (hb hby d_method_3_11) k_) ?_
      refine og s₁ (mkF m 13 #[iv x0] [(.int (((x0.toUInt32 >>> ((1 : Int32) &&& 31).toUInt32).toInt32) &&& (3 : Int32))), (.ref la)]) (fun t_ k_ => XS.iand X0.here hx rfl (hb hby d_method_3_12) rfl k_) ?_
      have hj := own_four ((x0.toUInt32 >>> ((1 : Int32) &&& 31).toUInt32).toInt32)
      generalize g_j : (((x0.toUInt32 >>> ((1 : Int32) &&& 31).toUInt32).toInt32) &&& (3 : Int32)) = j0 at hj ⊢
      rcases hj with rfl | rfl | rfl | rfl
      · skip
        obtain ⟨cq7, kq7, q7a, q7b, q7c⟩ := isOf hZ e0 sE
        obtain ⟨_, _, ⟨T7, L7, k7, n7⟩, -, X7, ⟨Lc7, hQ7, l7, y7, z7⟩, st7⟩ := X0.virtualBack hx (y := ym_20) (z := ym_20) hown (mvT hZ (own_w hw 12 rfl)) (mvT hZ (own_w hw 13 rfl)) (notFace_of_selects (args := #[]) (mvT hZ (own_w hw 15 rfl))) (mvT hZ (own_w hw 15 rfl)) (mvT hZ (own_w hw 14 rfl)) (by decide) (backOf (W := 0) (rm_cf0 l Z a0 hw [] la tt0 kk0 cz fm h0 n0 (show n0 ≤ h0.size by omega) sE sV sC sA' O0 S_COMPACT_STRINGS hcz rf S_SIOOBE_FORMATTER) hZ (own_w hw 16 rfl) (own_w hw 5 rfl) (by decide) (by decide)) q7a q7c (g := (mkF m 13 #[iv x0] [(.int 0), (.ref la)])) rfl (by rw [hml]; rfl) (Steps.refl _) (argsL := [(.int 0)]) (rest := []) (lenOf pd_15 rfl) rfl (by show 2 * 0 + _ ≤ _; exact Nat.le_of_eq rfl) (hb hby d_method_3_13) (fun _ _ => ⟨rfl, e0, (by decide : 0 + 0 ≤ _), (by decide : 0 + 0 ≤ _)⟩)
        dsimp only [Pt.U, Pt.locs, Pt.cells, Pt.slots] at X7 l7 y7 z7 st7 hQ7
        subst l7 y7 z7
        obtain ⟨rfl, M7, e7⟩ := hQ7
        have N7 := Fr.app N0 M7
        refine og T7 (mkF m 16 #[iv x0] [(.int 9)]) (fun t_ k_ => st7.trans k_) ?_
        exact own_outV X7 hS (show _ ≤ T7.heap.size by rw [e7]; omega) (v := some (.int (nar .char (9 : Int32)))) (fun h => by rw [hret] at h; cases h) hlk (fun fs hr => retN X7 hx (t := .char) hret (by simp) (hb hby d_method_3_16) hr) (Q := Q_rm_draw Z x0 N cz fm h0 n0) (by rw [e7]; exact ⟨(9 : Int32), rfl, N7, (Keep.refl h0 []), (by decide), (Or.inr ⟨la, own_ib (s := s.setVm s.vm) X7.warmed hI, own_lit (s := s.setVm s.vm) X7.warmed.wide hLit, hStr.mono hN⟩)⟩) (by decide) (by decide)
      · skip
        obtain ⟨cq8, kq8, q8a, q8b, q8c⟩ := isOf hZ e0 sE
        obtain ⟨_, _, ⟨T8, L8, k8, n8⟩, -, X8, ⟨Lc8, hQ8, l8, y8, z8⟩, st8⟩ := X0.virtualBack hx (y := ym_20) (z := ym_20) hown (mvT hZ (own_w hw 12 rfl)) (mvT hZ (own_w hw 13 rfl)) (notFace_of_selects (args := #[]) (mvT hZ (own_w hw 15 rfl))) (mvT hZ (own_w hw 15 rfl)) (mvT hZ (own_w hw 14 rfl)) (by decide) (backOf (W := 0) (rm_cf1 l Z a0 hw [] la tt0 kk0 cz fm h0 n0 (show n0 ≤ h0.size by omega) sE sV sC sA' O0 S_COMPACT_STRINGS hcz rf S_SIOOBE_FORMATTER) hZ (own_w hw 16 rfl) (own_w hw 5 rfl) (by decide) (by decide)) q8a q8c (g := (mkF m 13 #[iv x0] [(.int 1), (.ref la)])) rfl (by rw [hml]; rfl) (Steps.refl _) (argsL := [(.int 1)]) (rest := []) (lenOf pd_15 rfl) rfl (by show 2 * 0 + _ ≤ _; exact Nat.le_of_eq rfl) (hb hby d_method_3_13) (fun _ _ => ⟨rfl, e0, (by decide : 0 + 0 ≤ _), (by decide : 0 + 0 ≤ _)⟩)
        dsimp only [Pt.U, Pt.locs, Pt.cells, Pt.slots] at X8 l8 y8 z8 st8 hQ8
        subst l8 y8 z8
        obtain ⟨rfl, M8, e8⟩ := hQ8
        have N8 := Fr.app N0 M8
        refine og T8 (mkF m 16 #[iv x0] [(.int 10)]) (fun t_ k_ => st8.trans k_) ?_
        exact own_outV X8 hS (show _ ≤ T8.heap.size by rw [e8]; omega) (v := some (.int (nar .char (10 : Int32)))) (fun h => by rw [hret] at h; cases h) hlk (fun fs hr => retN X8 hx (t := .char) hret (by simp) (hb hby d_method_3_16) hr) (Q := Q_rm_draw Z x0 N cz fm h0 n0) (by rw [e8]; exact ⟨(10 : Int32), rfl, N8, (Keep.refl h0 []), (by decide), (Or.inr ⟨la, own_ib (s := s.setVm s.vm) X8.warmed hI, own_lit (s := s.setVm s.vm) X8.warmed.wide hLit, hStr.mono hN⟩)⟩) (by decide) (by decide)
      · skip
        obtain ⟨cq9, kq9, q9a, q9b, q9c⟩ := isOf hZ e0 sE
        obtain ⟨_, _, ⟨T9, L9, k9, n9⟩, -, X9, ⟨Lc9, hQ9, l9, y9, z9⟩, st9⟩ := X0.virtualBack hx (y := ym_20) (z := ym_20) hown (mvT hZ (own_w hw 12 rfl)) (mvT hZ (own_w hw 13 rfl)) (notFace_of_selects (args := #[]) (mvT hZ (own_w hw 15 rfl))) (mvT hZ (own_w hw 15 rfl)) (mvT hZ (own_w hw 14 rfl)) (by decide) (backOf (W := 0) (rm_cf2 l Z a0 hw [] la tt0 kk0 cz fm h0 n0 (show n0 ≤ h0.size by omega) sE sV sC sA' O0 S_COMPACT_STRINGS hcz rf S_SIOOBE_FORMATTER) hZ (own_w hw 16 rfl) (own_w hw 5 rfl) (by decide) (by decide)) q9a q9c (g := (mkF m 13 #[iv x0] [(.int 2), (.ref la)])) rfl (by rw [hml]; rfl) (Steps.refl _) (argsL := [(.int 2)]) (rest := []) (lenOf pd_15 rfl) rfl (by show 2 * 0 + _ ≤ _; exact Nat.le_of_eq rfl) (hb hby d_method_3_13) (fun _ _ => ⟨rfl, e0, (by decide : 0 + 0 ≤ _), (by decide : 0 + 0 ≤ _)⟩)
        dsimp only [Pt.U, Pt.locs, Pt.cells, Pt.slots] at X9 l9 y9 z9 st9 hQ9
        subst l9 y9 z9
        obtain ⟨rfl, M9, e9⟩ := hQ9
        have N9 := Fr.app N0 M9
        refine og T9 (mkF m 16 #[iv x0] [(.int 13)]) (fun t_ k_ => st9.trans k_) ?_
        exact own_outV X9 hS (show _ ≤ T9.heap.size by rw [e9]; omega) (v := some (.int (nar .char (13 : Int32)))) (fun h => by rw [hret] at h; cases h) hlk (fun fs hr => retN X9 hx (t := .char) hret (by simp) (hb hby d_method_3_16) hr) (Q := Q_rm_draw Z x0 N cz fm h0 n0) (by rw [e9]; exact ⟨(13 : Int32), rfl, N9, (Keep.refl h0 []), (by decide), (Or.inr ⟨la, own_ib (s := s.setVm s.vm) X9.warmed hI, own_lit (s := s.setVm s.vm) X9.warmed.wide hLit, hStr.mono hN⟩)⟩) (by decide) (by decide)
      · skip
        obtain ⟨cq10, kq10, q10a, q10b, q10c⟩ := isOf hZ e0 sE
        obtain ⟨_, _, ⟨T10, L10, k10, n10⟩, -, X10, ⟨Lc10, hQ10, l10, y10, z10⟩, st10⟩ := X0.virtualBack hx (y := ym_20) (z := ym_20) hown (mvT hZ (own_w hw 12 rfl)) (mvT hZ (own_w hw 13 rfl)) (notFace_of_selects (args := #[]) (mvT hZ (own_w hw 15 rfl))) (mvT hZ (own_w hw 15 rfl)) (mvT hZ (own_w hw 14 rfl)) (by decide) (backOf (W := 0) (rm_cf3 l Z a0 hw [] la tt0 kk0 cz fm h0 n0 (show n0 ≤ h0.size by omega) sE sV sC sA' O0 S_COMPACT_STRINGS hcz rf S_SIOOBE_FORMATTER) hZ (own_w hw 16 rfl) (own_w hw 5 rfl) (by decide) (by decide)) q10a q10c (g := (mkF m 13 #[iv x0] [(.int 3), (.ref la)])) rfl (by rw [hml]; rfl) (Steps.refl _) (argsL := [(.int 3)]) (rest := []) (lenOf pd_15 rfl) rfl (by show 2 * 0 + _ ≤ _; exact Nat.le_of_eq rfl) (hb hby d_method_3_13) (fun _ _ => ⟨rfl, e0, (by decide : 0 + 0 ≤ _), (by decide : 0 + 0 ≤ _)⟩)
        dsimp only [Pt.U, Pt.locs, Pt.cells, Pt.slots] at X10 l10 y10 z10 st10 hQ10
        subst l10 y10 z10
        obtain ⟨rfl, M10, e10⟩ := hQ10
        have N10 := Fr.app N0 M10
        refine og T10 (mkF m 16 #[iv x0] [(.int 32)]) (fun t_ k_ => st10.trans k_) ?_
        exact own_outV X10 hS (show _ ≤ T10.heap.size by rw [e10]; omega) (v := some (.int (nar .char (32 : Int32)))) (fun h => by rw [hret] at h; cases h) hlk (fun fs hr => retN X10 hx (t := .char) hret (by simp) (hb hby d_method_3_16) hr) (Q := Q_rm_draw Z x0 N cz fm h0 n0) (by rw [e10]; exact ⟨(32 : Int32), rfl, N10, (Keep.refl h0 []), (by decide), (Or.inr ⟨la, own_ib (s := s.setVm s.vm) X10.warmed hI, own_lit (s := s.setVm s.vm) X10.warmed.wide hLit, hStr.mono hN⟩)⟩) (by decide) (by decide)
theorem pd_16 : parseMethodDescriptor "([C)V" = some ⟨[(.array .char)], none⟩ := by decide +kernel
theorem pd_17 : parseMethodDescriptor "(Ljava/lang/String;)Z" = some ⟨[(.object "java/lang/String")], some .boolean⟩ := by decide +kernel
theorem pd_18 : parseMethodDescriptor "(C)Z" = some ⟨[.char], some .boolean⟩ := by decide +kernel
theorem ef_53 (m : MethodId) (v0 : Int32) (v1 : Int32) (v2 : Int32) (v3 : Int32) : entryFrame m #[(.int v0), (.int v1), (.int v2), (.int v3)] maxLocals = mkF m 0 #[iv v0, iv v1, iv v2, iv v3, .unset, .unset, .unset, .unset, .unset, .unset, .unset, .unset, .unset, .unset] [] := by first | (simp [entryFrame, mkF, argsToLocals, Value.category, maxLocals]; done) | rfl
def Q_rm_law (Z : State) (v0 : Int32) (v1 : Int32) (v2 : Int32) (v3 : Int32) (cz : Int32) (fm : Value) (h0 : Heap) (n0 : Nat) (vv : Option Value) (h : Heap) (LL : List Loc) : Prop := vv = some (.int 1) ∧ Fr n0 LL
set_option maxRecDepth 65536 in
set_option maxHeartbeats 40000000 in
theorem rm_law (l : Launch) (Z : State) (a0 : Array Value) (hw : ∀ d ∈ tables_1, d.before a0 Z = true) (ws : List Jvm.Cond) (v0 : Int32) (v1 : Int32) (v2 : Int32) (v3 : Int32) (cz : Int32) (fm : Value) (h0 : Heap) (n0 : Nat) (Z0 : n0 ≤ h0.size) (O0 : Old Z n0 h0) (S_COMPACT_STRINGS : Sta Z Z.heap "java/lang/String" "COMPACT_STRINGS" "Z" (.int cz)) (hcz : ¬ cz = (0 : Int32)) (S__assertionsDisabled : Sta Z Z.heap "java/lang/StringUTF16" "$assertionsDisabled" "Z" (.int 1)) (S_HI_BYTE_SHIFT : Sta Z Z.heap "java/lang/StringUTF16" "HI_BYTE_SHIFT" "I" (.int 0)) (S_LO_BYTE_SHIFT : Sta Z Z.heap "java/lang/StringUTF16" "LO_BYTE_SHIFT" "I" (.int 8)) (rf : fm.isRef = true) (S_SIOOBE_FORMATTER : Sta Z Z.heap "jdk/internal/util/Preconditions" "SIOOBE_FORMATTER" "Ljava/util/function/BiFunction;" fm) (hheld : Jvm.Lit.constHeld Z "com/example/labmeld/labmeld/xsd/XsdSchemaIsWhiteSpacePinLaw" 11) (hheld7 : Jvm.Lit.constHeld Z "java/lang/String" 7) (hcw : Jvm.Lit.compactW.before a0 Z = true) :
    MetFree l x (head1 (Jvm.Cond.code x code maxLocals ret :: ws) room_1) (fun aa UU => aa = #[(.int v0), (.int v1), (.int v2), (.int v3)] ∧ Z.Warmed39 UU.vm ∧ UU.heap = h0 ∧ IB Z UU.vm []) (fun _ _ _ _ _ => True) (fun _ UU oo UU' => ∃ vv LL, oo = .returned vv ∧ Q_rm_law Z v0 v1 v2 v3 cz fm h0 n0 vv UU'.heap LL ∧ ReturnedEndW UU oo UU' LL room_1.cells room_1.slots) := by
  refine MetFree.of_bodySF (plainFor_of_name pn_5) hisR ?_
  intro p e s m args below meth c s₁ Bd hml0 hP hK
  obtain ⟨rfl, hZ, hh, hLS⟩ := hP
  have hx := Bd.exec
  have hby := Bd.bytes
  have hret := Bd.returns
  have hml : c.maxLocals = 14 := hml0
  have hown : s.vm.findClass "com/example/labmeld/labmeld/xsd/XsdSchemaIsWhiteSpacePinLaw" = some m.cls := findClass_of_methodNamed Bd.named
  have hnm := (name_of_methodNamed Bd.named Bd.method).1
  have hlk : meth.locks = false := BodyLoose.notSynchronized Bd
  have X0 : Stand p l e room_1 (s.setVm s.vm) m #[(.int v0), (.int v1), (.int v2), (.int v3)] below meth c s₁ [] 0 0 := Stand.of_body Bd
  have e0 : s₁.heap = h0 := by rw [← hh, Bd.state]; rfl
  have N0 := Fr.nil n0
  have hS : s.Since s.vm 0 := own_since s
  have hk : 0 ≤ h0.size := Nat.zero_le _
  have hwS : ∀ a ∈ Bundle.stringAtoms, a.before a0 Z = true := fun d hd => hw d ((by decide +kernel : ∀ d ∈ Bundle.stringAtoms, d ∈ tables_1) d hd)
  refine own_in (ef_53 m v0 v1 v2 v3) ?_
  refine og s₁ (mkF m 1 #[iv v0, iv v1, iv v2, iv v3, .unset, .unset, .unset, .unset, .unset, .unset, .unset, .unset, .unset, .unset] [(.int v0)]) (fun t_ k_ => XS.iloadN X0.here hx rfl (hb hby at_0) rfl k_) ?_
  refine og s₁ (mkF m 2 #[iv v0, iv v1, iv v2, iv v3, .unset, .unset, .unset, .unset, .unset, .unset, .unset, .unset, .unset, .unset] [(.int 3), (.int v0)]) (fun t_ k_ => XS.iconst X0.here hx rfl (hb hby at_1) k_) ?_
  refine og s₁ (mkF m 3 #[iv v0, iv v1, iv v2, iv v3, .unset, .unset, .unset, .unset, .unset, .unset, .unset, .unset, .unset, .unset] [(.int (v0 &&& (3 : Int32)))]) (fun t_ k_ => XS.iand X0.here hx rfl (hb hby at_2) rfl k_) ?_
  have hln := own_four v0
  generalize g_ln : (v0 &&& (3 : Int32)) = ln at hln ⊢
  refine og s₁ (mkF m 5 #[iv v0, iv v1, iv v2, iv v3, iv ln, .unset, .unset, .unset, .unset, .unset, .unset, .unset, .unset, .unset] []) (fun t_ k_ => XS.istore X0.here hx rfl (hb hby at_3) rfl (l' := #[iv v0, iv v1, iv v2, iv v3, iv ln, .unset, .unset, .unset, .unset, .unset, .unset, .unset, .unset, .unset]) rfl k_) ?_
  refine og s₁ (mkF m 6 #[iv v0, iv v1, iv v2, iv v3, iv ln, .unset, .unset, .unset, .unset, .unset, .unset, .unset, .unset, .unset] [(.int v1)]) (fun t_ k_ => XS.iloadN X0.here hx rfl (hb hby at_5) rfl k_) ?_
  obtain ⟨_, _, ⟨T1, L1, k1, n1⟩, -, X1_, h21, gr1, ⟨Lc1, hQ1, l1, y1, z1⟩, st1⟩ := callSS X0 hx (y := ym_22) hown (mvT hZ (own_w hw 0 rfl)) (mvT hZ (own_w hw 1 rfl)) (mvT hZ (own_w hw 2 rfl)) (mvT hZ (own_w hw 3 rfl)) (by decide) (own_backV (W := 0) (I := fun vm => own_LitSt Z n0 "com/example/labmeld/labmeld/xsd/XsdSchemaIsWhiteSpacePinLaw" 11 "\t\n\r " [(9 : Int32), (10 : Int32), (13 : Int32), (32 : Int32)] vm h0) (fun vm hW => own_LitSt.warm (s := (s.setVm s.vm)) (Or.inl hLS) hW) (rm_draw l Z a0 hw [] v1 n0 cz fm h0 n0 (show n0 ≤ h0.size by omega) O0 S_COMPACT_STRINGS hcz rf S_SIOOBE_FORMATTER (show n0 ≤ h0.size by omega) hheld hcw) hZ (own_w hw 3 rfl) (own_w hw 2 rfl) (by decide) (by decide)) (g := (mkF m 6 #[iv v0, iv v1, iv v2, iv v3, iv ln, .unset, .unset, .unset, .unset, .unset, .unset, .unset, .unset, .unset] [(.int v1)])) rfl (by rw [hml]; rfl) (argsL := [(.int v1)]) (rest := []) (lenOf pd_15 rfl) rfl (by show 2 * 0 + _ ≤ _; exact Nat.le_of_eq rfl) (hb hby at_6) (fun _ _ => ⟨rfl, e0, (by decide : 0 + 2 ≤ _), (by decide : 0 + 20 ≤ _)⟩)
  dsimp only [Pt.U, Pt.locs, Pt.cells, Pt.slots] at X1_ h21 gr1 l1 y1 z1 st1 hQ1
  subst l1 y1 z1
  obtain ⟨X1, hS, hZ, hown⟩ := rebS hS (show _ ≤ s₁.heap.size by rw [e0]; omega) X1_ h21 gr1 hZ hown
  have hk : T1.heap.size ≤ T1.heap.size := Nat.le_refl _
  obtain ⟨ch1, rfl, M1, K1_, f1_0, LS1⟩ := hQ1
  have zz1 := K1_.1
  have O1 := O0.keep K1_ all0
  have N1 := Fr.app N0 M1
  refine og T1 (mkF m 9 #[iv v0, iv v1, iv v2, iv v3, iv ln, .unset, .unset, .unset, .unset, .unset, .unset, .unset, .unset, .unset] [(.int ch1)]) (fun t_ k_ => st1.trans k_) ?_
  refine og T1 (mkF m 11 #[iv v0, iv v1, iv v2, iv v3, iv ln, iv ch1, .unset, .unset, .unset, .unset, .unset, .unset, .unset, .unset] []) (fun t_ k_ => XS.istore X1.here hx rfl (hb hby at_9) rfl (l' := #[iv v0, iv v1, iv v2, iv v3, iv ln, iv ch1, .unset, .unset, .unset, .unset, .unset, .unset, .unset, .unset]) rfl k_) ?_
  refine og T1 (mkF m 12 #[iv v0, iv v1, iv v2, iv v3, iv ln, iv ch1, .unset, .unset, .unset, .unset, .unset, .unset, .unset, .unset] [(.int v2)]) (fun t_ k_ => XS.iloadN X1.here hx rfl (hb hby at_11) rfl k_) ?_
  obtain ⟨_, _, ⟨T2, L2, k2, n2⟩, -, X2_, h22, gr2, ⟨Lc2, hQ2, l2, y2, z2⟩, st2⟩ := callSS X1 hx (y := ym_22) hown (mvT hZ (own_w hw 0 rfl)) (mvT hZ (own_w hw 1 rfl)) (mvT hZ (own_w hw 2 rfl)) (mvT hZ (own_w hw 3 rfl)) (by decide) (own_backV (W := 0) (I := fun vm => own_LitSt Z T1.heap.size "com/example/labmeld/labmeld/xsd/XsdSchemaIsWhiteSpacePinLaw" 11 "\t\n\r " [(9 : Int32), (10 : Int32), (13 : Int32), (32 : Int32)] vm T1.heap) (fun vm hW => own_LitSt.warm (s := (s.setVm T1.vm)) LS1 hW) (rm_draw l Z a0 hw [] v2 T1.heap.size cz fm T1.heap n0 (show n0 ≤ T1.heap.size by omega) O1 S_COMPACT_STRINGS hcz rf S_SIOOBE_FORMATTER (show T1.heap.size ≤ T1.heap.size by omega) hheld hcw) hZ (own_w hw 3 rfl) (own_w hw 2 rfl) (by decide) (by decide)) (g := (mkF m 12 #[iv v0, iv v1, iv v2, iv v3, iv ln, iv ch1, .unset, .unset, .unset, .unset, .unset, .unset, .unset, .unset] [(.int v2)])) rfl (by rw [hml]; rfl) (argsL := [(.int v2)]) (rest := []) (lenOf pd_15 rfl) rfl (by show 2 * 0 + _ ≤ _; exact Nat.le_of_eq rfl) (hb hby at_12) (fun _ _ => ⟨rfl, rfl, (by decide : 2 + 2 ≤ _), (by decide : 20 + 20 ≤ _)⟩)
  dsimp only [Pt.U, Pt.locs, Pt.cells, Pt.slots] at X2_ h22 gr2 l2 y2 z2 st2 hQ2
  subst l2 y2 z2
  obtain ⟨X2, hS, hZ, hown⟩ := rebS hS (show _ ≤ T1.heap.size by omega) X2_ h22 gr2 hZ hown
  have hk : T2.heap.size ≤ T2.heap.size := Nat.le_refl _
  obtain ⟨ch2, rfl, M2, K2_, f2_0, LS2⟩ := hQ2
  have zz2 := K2_.1
  have O2 := O1.keep K2_ all0
  have N2 := Fr.app N1 M2
  refine og T2 (mkF m 15 #[iv v0, iv v1, iv v2, iv v3, iv ln, iv ch1, .unset, .unset, .unset, .unset, .unset, .unset, .unset, .unset] [(.int ch2)]) (fun t_ k_ => st2.trans k_) ?_
  refine og T2 (mkF m 17 #[iv v0, iv v1, iv v2, iv v3, iv ln, iv ch1, iv ch2, .unset, .unset, .unset, .unset, .unset, .unset, .unset] []) (fun t_ k_ => XS.istore X2.here hx rfl (hb hby at_15) rfl (l' := #[iv v0, iv v1, iv v2, iv v3, iv ln, iv ch1, iv ch2, .unset, .unset, .unset, .unset, .unset, .unset, .unset]) rfl k_) ?_
  refine og T2 (mkF m 18 #[iv v0, iv v1, iv v2, iv v3, iv ln, iv ch1, iv ch2, .unset, .unset, .unset, .unset, .unset, .unset, .unset] [(.int v3)]) (fun t_ k_ => XS.iloadN X2.here hx rfl (hb hby at_17) rfl k_) ?_
  obtain ⟨_, _, ⟨T3, L3, k3, n3⟩, -, X3_, h23, gr3, ⟨Lc3, hQ3, l3, y3, z3⟩, st3⟩ := callSS X2 hx (y := ym_22) hown (mvT hZ (own_w hw 0 rfl)) (mvT hZ (own_w hw 1 rfl)) (mvT hZ (own_w hw 2 rfl)) (mvT hZ (own_w hw 3 rfl)) (by decide) (own_backV (W := 0) (I := fun vm => own_LitSt Z T2.heap.size "com/example/labmeld/labmeld/xsd/XsdSchemaIsWhiteSpacePinLaw" 11 "\t\n\r " [(9 : Int32), (10 : Int32), (13 : Int32), (32 : Int32)] vm T2.heap) (fun vm hW => own_LitSt.warm (s := (s.setVm T2.vm)) LS2 hW) (rm_draw l Z a0 hw [] v3 T2.heap.size cz fm T2.heap n0 (show n0 ≤ T2.heap.size by omega) O2 S_COMPACT_STRINGS hcz rf S_SIOOBE_FORMATTER (show T2.heap.size ≤ T2.heap.size by omega) hheld hcw) hZ (own_w hw 3 rfl) (own_w hw 2 rfl) (by decide) (by decide)) (g := (mkF m 18 #[iv v0, iv v1, iv v2, iv v3, iv ln, iv ch1, iv ch2, .unset, .unset, .unset, .unset, .unset, .unset, .unset] [(.int v3)])) rfl (by rw [hml]; rfl) (argsL := [(.int v3)]) (rest := []) (lenOf pd_15 rfl) rfl (by show 2 * 0 + _ ≤ _; exact Nat.le_of_eq rfl) (hb hby at_18) (fun _ _ => ⟨rfl, rfl, (by decide : 4 + 2 ≤ _), (by decide : 40 + 20 ≤ _)⟩)
  dsimp only [Pt.U, Pt.locs, Pt.cells, Pt.slots] at X3_ h23 gr3 l3 y3 z3 st3 hQ3
  subst l3 y3 z3
  obtain ⟨X3, hS, hZ, hown⟩ := rebS hS (show _ ≤ T2.heap.size by omega) X3_ h23 gr3 hZ hown
  have hk : T3.heap.size ≤ T3.heap.size := Nat.le_refl _
  obtain ⟨ch3, rfl, M3, K3_, f3_0, LS3⟩ := hQ3
  have zz3 := K3_.1
  have O3 := O2.keep K3_ all0
  have N3 := Fr.app N2 M3
  refine og T3 (mkF m 21 #[iv v0, iv v1, iv v2, iv v3, iv ln, iv ch1, iv ch2, .unset, .unset, .unset, .unset, .unset, .unset, .unset] [(.int ch3)]) (fun t_ k_ => st3.trans k_) ?_
  obtain ⟨Ts, hIBs, hnotin⟩ := own_LitSt.ib LS3 (by decide)
  refine og T3 (mkF m 23 #[iv v0, iv v1, iv v2, iv v3, iv ln, iv ch1, iv ch2, iv ch3, .unset, .unset, .unset, .unset, .unset, .unset] []) (fun t_ k_ => XS.istore X3.here hx rfl (hb hby at_21) rfl (l' := #[iv v0, iv v1, iv v2, iv v3, iv ln, iv ch1, iv ch2, iv ch3, .unset, .unset, .unset, .unset, .unset, .unset]) rfl k_) ?_
  refine og T3 (mkF m 24 #[iv v0, iv v1, iv v2, iv v3, iv ln, iv ch1, iv ch2, iv ch3, .unset, .unset, .unset, .unset, .unset, .unset] [(.int 0)]) (fun t_ k_ => XS.iconst X3.here hx rfl (hb hby at_23) k_) ?_
  obtain ⟨T4, h4, k4, X4, e4, E4, A4, st4⟩ := newP X3 hx hZ (own_w hw 37 rfl) rfl (g := (mkF m 24 #[iv v0, iv v1, iv v2, iv v3, iv ln, iv ch1, iv ch2, iv ch3, .unset, .unset, .unset, .unset, .unset, .unset] [(.int 0)])) rfl (hb hby at_24) rfl (by decide) (cap := 0) (by decide) (by decide) (by decide) (by decide)
  obtain ⟨b4, g4⟩ : ∃ z, z = T3.heap.size := ⟨_, rfl⟩
  rw [← g4] at A4 st4
  have V4 : Arv Z h4 b4 k4 .char (0 : Int32) [] (.int (0 : Int32)) := Arv.new A4 (by decide)
  have l4 := own_ltN V4.lt
  have z4 := E4.1
  have O4 := O3.ext E4
  refine og T4 (mkF m 26 #[iv v0, iv v1, iv v2, iv v3, iv ln, iv ch1, iv ch2, iv ch3, .unset, .unset, .unset, .unset, .unset, .unset] [(.ref b4)]) (fun t_ k_ => st4 _ k_) ?_
  refine og T4 (mkF m 28 #[iv v0, iv v1, iv v2, iv v3, iv ln, iv ch1, iv ch2, iv ch3, rv b4, .unset, .unset, .unset, .unset, .unset] []) (fun t_ k_ => XS.astore X4.here hx rfl (hb hby at_26) rfl rfl (l' := #[iv v0, iv v1, iv v2, iv v3, iv ln, iv ch1, iv ch2, iv ch3, rv b4, .unset, .unset, .unset, .unset, .unset]) rfl k_) ?_
  refine og T4 (mkF m 29 #[iv v0, iv v1, iv v2, iv v3, iv ln, iv ch1, iv ch2, iv ch3, rv b4, .unset, .unset, .unset, .unset, .unset] [(.int 1)]) (fun t_ k_ => XS.iconst X4.here hx rfl (hb hby at_28) k_) ?_
  obtain ⟨T5, h5, k5, X5, e5, E5, A5, st5⟩ := newP X4 hx hZ (own_w hw 37 rfl) e4 (g := (mkF m 29 #[iv v0, iv v1, iv v2, iv v3, iv ln, iv ch1, iv ch2, iv ch3, rv b4, .unset, .unset, .unset, .unset, .unset] [(.int 1)])) rfl (hb hby at_29) rfl (by decide) (cap := 1) (by decide) (by decide) (by decide) (by decide)
  obtain ⟨b5, g5⟩ : ∃ z, z = h4.size := ⟨_, rfl⟩
  rw [← g5] at A5 st5
  have V5 : Arv Z h5 b5 k5 .char (1 : Int32) [(.int (0 : Int32))] (.int (0 : Int32)) := (Arv.new A5 (by decide)).pad (pad_rep [] (.int (0 : Int32)) 1)
  have l5 := own_ltN V5.lt
  have z5 := E5.1
  have O5 := O4.ext E5
  refine og T5 (mkF m 31 #[iv v0, iv v1, iv v2, iv v3, iv ln, iv ch1, iv ch2, iv ch3, rv b4, .unset, .unset, .unset, .unset, .unset] [(.ref b5)]) (fun t_ k_ => st5 _ k_) ?_
  refine og T5 (mkF m 32 #[iv v0, iv v1, iv v2, iv v3, iv ln, iv ch1, iv ch2, iv ch3, rv b4, .unset, .unset, .unset, .unset, .unset] [(.ref b5), (.ref b5)]) (fun t_ k_ => XS.dup X5.here hx rfl (hb hby at_31) rfl rfl k_) ?_
  refine og T5 (mkF m 33 #[iv v0, iv v1, iv v2, iv v3, iv ln, iv ch1, iv ch2, iv ch3, rv b4, .unset, .unset, .unset, .unset, .unset] [(.int 0), (.ref b5), (.ref b5)]) (fun t_ k_ => XS.iconst X5.here hx rfl (hb hby at_32) k_) ?_
  refine og T5 (mkF m 35 #[iv v0, iv v1, iv v2, iv v3, iv ln, iv ch1, iv ch2, iv ch3, rv b4, .unset, .unset, .unset, .unset, .unset] [(.int ch1), (.int 0), (.ref b5), (.ref b5)]) (fun t_ k_ => XS.iload X5.here hx rfl (hb hby at_33) rfl k_) ?_
  obtain ⟨cl6, Ar6, q6, S6, Nn6, H6, G6⟩ := id V5
  have hin6 : ¬ ((0 : Int32) < 0 ∨ cl6.slots.size ≤ ((0 : Int32)).toNatClampNeg) := inb_of S6 ⟨by decide, by decide⟩
  obtain ⟨T6, h6, X6, e6, W6, st6⟩ := stC X5 hx hZ e5 Ar6 (j := (0 : Int32)) hin6 (g := (mkF m 35 #[iv v0, iv v1, iv v2, iv v3, iv ln, iv ch1, iv ch2, iv ch3, rv b4, .unset, .unset, .unset, .unset, .unset] [(.int ch1), (.int 0), (.ref b5), (.ref b5)])) rfl rfl (hb hby at_35)
  have V6 : Arv Z h6 b5 k5 .char (1 : Int32) [(.int ch1)] (.int (0 : Int32)) := by
    have q0 := Arv.set Ar6 q6 S6 Nn6 H6 G6 (fits_nar_char _) W6 0 rfl (Nat.le_of_ble_eq_true rfl)
    first | rw [own_narc16 f1_0] at q0 | skip
    exact q0
  have z6 := W6.size
  have N6 := Fr.snoc X6 N3 (show n0 ≤ b5 by omega)
  have O6 := O5.wr W6 (show n0 ≤ b5 by omega)
  refine og T6 (mkF m 36 #[iv v0, iv v1, iv v2, iv v3, iv ln, iv ch1, iv ch2, iv ch3, rv b4, .unset, .unset, .unset, .unset, .unset] [(.ref b5)]) (fun t_ k_ => st6 _ k_) ?_
  refine og T6 (mkF m 38 #[iv v0, iv v1, iv v2, iv v3, iv ln, iv ch1, iv ch2, iv ch3, rv b4, rv b5, .unset, .unset, .unset, .unset] []) (fun t_ k_ => XS.astore X6.here hx rfl (hb hby at_36) rfl rfl (l' := #[iv v0, iv v1, iv v2, iv v3, iv ln, iv ch1, iv ch2, iv ch3, rv b4, rv b5, .unset, .unset, .unset, .unset]) rfl k_) ?_
  refine og T6 (mkF m 39 #[iv v0, iv v1, iv v2, iv v3, iv ln, iv ch1, iv ch2, iv ch3, rv b4, rv b5, .unset, .unset, .unset, .unset] [(.int 2)]) (fun t_ k_ => XS.iconst X6.here hx rfl (hb hby at_38) k_) ?_
  obtain ⟨T7, h7, k7, X7, e7, E7, A7, st7⟩ := newP X6 hx hZ (own_w hw 37 rfl) e6 (g := (mkF m 39 #[iv v0, iv v1, iv v2, iv v3, iv ln, iv ch1, iv ch2, iv ch3, rv b4, rv b5, .unset, .unset, .unset, .unset] [(.int 2)])) rfl (hb hby at_39) rfl (by decide) (cap := 2) (by decide) (by decide) (by decide) (by decide)
  obtain ⟨b7, g7⟩ : ∃ z, z = h6.size := ⟨_, rfl⟩
  rw [← g7] at A7 st7
  have V7 : Arv Z h7 b7 k7 .char (2 : Int32) [(.int (0 : Int32)), (.int (0 : Int32))] (.int (0 : Int32)) := (Arv.new A7 (by decide)).pad (pad_rep [] (.int (0 : Int32)) 2)
  have l7 := own_ltN V7.lt
  have z7 := E7.1
  have O7 := O6.ext E7
  refine og T7 (mkF m 41 #[iv v0, iv v1, iv v2, iv v3, iv ln, iv ch1, iv ch2, iv ch3, rv b4, rv b5, .unset, .unset, .unset, .unset] [(.ref b7)]) (fun t_ k_ => st7 _ k_) ?_
  refine og T7 (mkF m 42 #[iv v0, iv v1, iv v2, iv v3, iv ln, iv ch1, iv ch2, iv ch3, rv b4, rv b5, .unset, .unset, .unset, .unset] [(.ref b7), (.ref b7)]) (fun t_ k_ => XS.dup X7.here hx rfl (hb hby at_41) rfl rfl k_) ?_
  refine og T7 (mkF m 43 #[iv v0, iv v1, iv v2, iv v3, iv ln, iv ch1, iv ch2, iv ch3, rv b4, rv b5, .unset, .unset, .unset, .unset] [(.int 0), (.ref b7), (.ref b7)]) (fun t_ k_ => XS.iconst X7.here hx rfl (hb hby at_42) k_) ?_
  refine og T7 (mkF m 45 #[iv v0, iv v1, iv v2, iv v3, iv ln, iv ch1, iv ch2, iv ch3, rv b4, rv b5, .unset, .unset, .unset, .unset] [(.int ch1), (.int 0), (.ref b7), (.ref b7)]) (fun t_ k_ => XS.iload X7.here hx rfl (hb hby at_43) rfl k_) ?_
  obtain ⟨cl8, Ar8, q8, S8, Nn8, H8, G8⟩ := id V7
  have hin8 : ¬ ((0 : Int32) < 0 ∨ cl8.slots.size ≤ ((0 : Int32)).toNatClampNeg) := inb_of S8 ⟨by decide, by decide⟩
  obtain ⟨T8, h8, X8, e8, W8, st8⟩ := stC X7 hx hZ e7 Ar8 (j := (0 : Int32)) hin8 (g := (mkF m 45 #[iv v0, iv v1, iv v2, iv v3, iv ln, iv ch1, iv ch2, iv ch3, rv b4, rv b5, .unset, .unset, .unset, .unset] [(.int ch1), (.int 0), (.ref b7), (.ref b7)])) rfl rfl (hb hby at_45)
  have V8 : Arv Z h8 b7 k7 .char (2 : Int32) [(.int ch1), (.int (0 : Int32))] (.int (0 : Int32)) := by
    have q0 := Arv.set Ar8 q8 S8 Nn8 H8 G8 (fits_nar_char _) W8 0 rfl (Nat.le_of_ble_eq_true rfl)
    first | rw [own_narc16 f1_0] at q0 | skip
    exact q0
  have z8 := W8.size
  have N8 := Fr.snoc X8 N6 (show n0 ≤ b7 by omega)
  have O8 := O7.wr W8 (show n0 ≤ b7 by omega)
  refine og T8 (mkF m 46 #[iv v0, iv v1, iv v2, iv v3, iv ln, iv ch1, iv ch2, iv ch3, rv b4, rv b5, .unset, .unset, .unset, .unset] [(.ref b7)]) (fun t_ k_ => st8 _ k_) ?_
  refine og T8 (mkF m 47 #[iv v0, iv v1, iv v2, iv v3, iv ln, iv ch1, iv ch2, iv ch3, rv b4, rv b5, .unset, .unset, .unset, .unset] [(.ref b7), (.ref b7)]) (fun t_ k_ => XS.dup X8.here hx rfl (hb hby at_46) rfl rfl k_) ?_
  refine og T8 (mkF m 48 #[iv v0, iv v1, iv v2, iv v3, iv ln, iv ch1, iv ch2, iv ch3, rv b4, rv b5, .unset, .unset, .unset, .unset] [(.int 1), (.ref b7), (.ref b7)]) (fun t_ k_ => XS.iconst X8.here hx rfl (hb hby at_47) k_) ?_
  refine og T8 (mkF m 50 #[iv v0, iv v1, iv v2, iv v3, iv ln, iv ch1, iv ch2, iv ch3, rv b4, rv b5, .unset, .unset, .unset, .unset] [(.int ch2), (.int 1), (.ref b7), (.ref b7)]) (fun t_ k_ => XS.iload X8.here hx rfl (hb hby at_48) rfl k_) ?_
  obtain ⟨cl9, Ar9, q9, S9, Nn9, H9, G9⟩ := id V8
  have hin9 : ¬ ((1 : Int32) < 0 ∨ cl9.slots.size ≤ ((1 : Int32)).toNatClampNeg) := inb_of S9 ⟨by decide, by decide⟩
  obtain ⟨T9, h9, X9, e9, W9, st9⟩ := stC X8 hx hZ e8 Ar9 (j := (1 : Int32)) hin9 (g := (mkF m 50 #[iv v0, iv v1, iv v2, iv v3, iv ln, iv ch1, iv ch2, iv ch3, rv b4, rv b5, .unset, .unset, .unset, .unset] [(.int ch2), (.int 1), (.ref b7), (.ref b7)])) rfl rfl (hb hby at_50)
  have V9 : Arv Z h9 b7 k7 .char (2 : Int32) [(.int ch1), (.int ch2)] (.int (0 : Int32)) := by
    have q0 := Arv.set Ar9 q9 S9 Nn9 H9 G9 (fits_nar_char _) W9 1 rfl (Nat.le_of_ble_eq_true rfl)
    first | rw [own_narc16 f2_0] at q0 | skip
    exact q0
  have z9 := W9.size
  have N9 := Fr.snoc X9 N8 (show n0 ≤ b7 by omega)
  have O9 := O8.wr W9 (show n0 ≤ b7 by omega)
  refine og T9 (mkF m 51 #[iv v0, iv v1, iv v2, iv v3, iv ln, iv ch1, iv ch2, iv ch3, rv b4, rv b5, .unset, .unset, .unset, .unset] [(.ref b7)]) (fun t_ k_ => st9 _ k_) ?_
  refine og T9 (mkF m 53 #[iv v0, iv v1, iv v2, iv v3, iv ln, iv ch1, iv ch2, iv ch3, rv b4, rv b5, rv b7, .unset, .unset, .unset] []) (fun t_ k_ => XS.astore X9.here hx rfl (hb hby at_51) rfl rfl (l' := #[iv v0, iv v1, iv v2, iv v3, iv ln, iv ch1, iv ch2, iv ch3, rv b4, rv b5, rv b7, .unset, .unset, .unset]) rfl k_) ?_
  refine og T9 (mkF m 54 #[iv v0, iv v1, iv v2, iv v3, iv ln, iv ch1, iv ch2, iv ch3, rv b4, rv b5, rv b7, .unset, .unset, .unset] [(.int 3)]) (fun t_ k_ => XS.iconst X9.here hx rfl (hb hby at_53) k_) ?_
  obtain ⟨T10, h10, k10, X10, e10, E10, A10, st10⟩ := newP X9 hx hZ (own_w hw 37 rfl) e9 (g := (mkF m 54 #[iv v0, iv v1, iv v2, iv v3, iv ln, iv ch1, iv ch2, iv ch3, rv b4, rv b5, rv b7, .unset, .unset, .unset] [(.int 3)])) rfl (hb hby at_54) rfl (by decide) (cap := 3) (by decide) (by decide) (by decide) (by decide)
  obtain ⟨b10, g10⟩ : ∃ z, z = h9.size := ⟨_, rfl⟩
  rw [← g10] at A10 st10
  have V10 : Arv Z h10 b10 k10 .char (3 : Int32) [(.int (0 : Int32)), (.int (0 : Int32)), (.int (0 : Int32))] (.int (0 : Int32)) := (Arv.new A10 (by decide)).pad (pad_rep [] (.int (0 : Int32)) 3)
  have l10 := own_ltN V10.lt
  have z10 := E10.1
  have O10 := O9.ext E10
  refine og T10 (mkF m 56 #[iv v0, iv v1, iv v2, iv v3, iv ln, iv ch1, iv ch2, iv ch3, rv b4, rv b5, rv b7, .unset, .unset, .unset] [(.ref b10)]) (fun t_ k_ => st10 _ k_) ?_
  refine og T10 (mkF m 57 #[iv v0, iv v1, iv v2, iv v3, iv ln, iv ch1, iv ch2, iv ch3, rv b4, rv b5, rv b7, .unset, .unset, .unset] [(.ref b10), (.ref b10)]) (fun t_ k_ => XS.dup X10.here hx rfl (hb hby at_56) rfl rfl k_) ?_
  refine og T10 (mkF m 58 #[iv v0, iv v1, iv v2, iv v3, iv ln, iv ch1, iv ch2, iv ch3, rv b4, rv b5, rv b7, .unset, .unset, .unset] [(.int 0), (.ref b10), (.ref b10)]) (fun t_ k_ => XS.iconst X10.here hx rfl (hb hby at_57) k_) ?_
  refine og T10 (mkF m 60 #[iv v0, iv v1, iv v2, iv v3, iv ln, iv ch1, iv ch2, iv ch3, rv b4, rv b5, rv b7, .unset, .unset, .unset] [(.int ch1), (.int 0), (.ref b10), (.ref b10)]) (fun t_ k_ => XS.iload X10.here hx rfl (hb hby at_58) rfl k_) ?_
  obtain ⟨cl11, Ar11, q11, S11, Nn11, H11, G11⟩ := id V10
  have hin11 : ¬ ((0 : Int32) < 0 ∨ cl11.slots.size ≤ ((0 : Int32)).toNatClampNeg) := inb_of S11 ⟨by decide, by decide⟩
  obtain ⟨T11, h11, X11, e11, W11, st11⟩ := stC X10 hx hZ e10 Ar11 (j := (0 : Int32)) hin11 (g := (mkF m 60 #[iv v0, iv v1, iv v2, iv v3, iv ln, iv ch1, iv ch2, iv ch3, rv b4, rv b5, rv b7, .unset, .unset, .unset] [(.int ch1), (.int 0), (.ref b10), (.ref b10)])) rfl rfl (hb hby at_60)
  have V11 : Arv Z h11 b10 k10 .char (3 : Int32) [(.int ch1), (.int (0 : Int32)), (.int (0 : Int32))] (.int (0 : Int32)) := by
    have q0 := Arv.set Ar11 q11 S11 Nn11 H11 G11 (fits_nar_char _) W11 0 rfl (Nat.le_of_ble_eq_true rfl)
    first | rw [own_narc16 f1_0] at q0 | skip
    exact q0
  have z11 := W11.size
  have N11 := Fr.snoc X11 N9 (show n0 ≤ b10 by omega)
  have O11 := O10.wr W11 (show n0 ≤ b10 by omega)
  refine og T11 (mkF m 61 #[iv v0, iv v1, iv v2, iv v3, iv ln, iv ch1, iv ch2, iv ch3, rv b4, rv b5, rv b7, .unset, .unset, .unset] [(.ref b10)]) (fun t_ k_ => st11 _ k_) ?_
  refine og T11 (mkF m 62 #[iv v0, iv v1, iv v2, iv v3, iv ln, iv ch1, iv ch2, iv ch3, rv b4, rv b5, rv b7, .unset, .unset, .unset] [(.ref b10), (.ref b10)]) (fun t_ k_ => XS.dup X11.here hx rfl (hb hby at_61) rfl rfl k_) ?_
  refine og T11 (mkF m 63 #[iv v0, iv v1, iv v2, iv v3, iv ln, iv ch1, iv ch2, iv ch3, rv b4, rv b5, rv b7, .unset, .unset, .unset] [(.int 1), (.ref b10), (.ref b10)]) (fun t_ k_ => XS.iconst X11.here hx rfl (hb hby at_62) k_) ?_
  refine og T11 (mkF m 65 #[iv v0, iv v1, iv v2, iv v3, iv ln, iv ch1, iv ch2, iv ch3, rv b4, rv b5, rv b7, .unset, .unset, .unset] [(.int ch2), (.int 1), (.ref b10), (.ref b10)]) (fun t_ k_ => XS.iload X11.here hx rfl (hb hby at_63) rfl k_) ?_
  obtain ⟨cl12, Ar12, q12, S12, Nn12, H12, G12⟩ := id V11
  have hin12 : ¬ ((1 : Int32) < 0 ∨ cl12.slots.size ≤ ((1 : Int32)).toNatClampNeg) := inb_of S12 ⟨by decide, by decide⟩
  obtain ⟨T12, h12, X12, e12, W12, st12⟩ := stC X11 hx hZ e11 Ar12 (j := (1 : Int32)) hin12 (g := (mkF m 65 #[iv v0, iv v1, iv v2, iv v3, iv ln, iv ch1, iv ch2, iv ch3, rv b4, rv b5, rv b7, .unset, .unset, .unset] [(.int ch2), (.int 1), (.ref b10), (.ref b10)])) rfl rfl (hb hby at_65)
  have V12 : Arv Z h12 b10 k10 .char (3 : Int32) [(.int ch1), (.int ch2), (.int (0 : Int32))] (.int (0 : Int32)) := by
    have q0 := Arv.set Ar12 q12 S12 Nn12 H12 G12 (fits_nar_char _) W12 1 rfl (Nat.le_of_ble_eq_true rfl)
    first | rw [own_narc16 f2_0] at q0 | skip
    exact q0
  have z12 := W12.size
  have N12 := Fr.snoc X12 N11 (show n0 ≤ b10 by omega)
  have O12 := O11.wr W12 (show n0 ≤ b10 by omega)
  refine og T12 (mkF m 66 #[iv v0, iv v1, iv v2, iv v3, iv ln, iv ch1, iv ch2, iv ch3, rv b4, rv b5, rv b7, .unset, .unset, .unset] [(.ref b10)]) (fun t_ k_ => st12 _ k_) ?_
  refine og T12 (mkF m 67 #[iv v0, iv v1, iv v2, iv v3, iv ln, iv ch1, iv ch2, iv ch3, rv b4, rv b5, rv b7, .unset, .unset, .unset] [(.ref b10), (.ref b10)]) (fun t_ k_ => XS.dup X12.here hx rfl (hb hby at_66) rfl rfl k_) ?_
  refine og T12 (mkF m 68 #[iv v0, iv v1, iv v2, iv v3, iv ln, iv ch1, iv ch2, iv ch3, rv b4, rv b5, rv b7, .unset, .unset, .unset] [(.int 2), (.ref b10), (.ref b10)]) (fun t_ k_ => XS.iconst X12.here hx rfl (hb hby at_67) k_) ?_
  refine og T12 (mkF m 70 #[iv v0, iv v1, iv v2, iv v3, iv ln, iv ch1, iv ch2, iv ch3, rv b4, rv b5, rv b7, .unset, .unset, .unset] [(.int ch3), (.int 2), (.ref b10), (.ref b10)]) (fun t_ k_ => XS.iload X12.here hx rfl (hb hby at_68) rfl k_) ?_
  obtain ⟨cl13, Ar13, q13, S13, Nn13, H13, G13⟩ := id V12
  have hin13 : ¬ ((2 : Int32) < 0 ∨ cl13.slots.size ≤ ((2 : Int32)).toNatClampNeg) := inb_of S13 ⟨by decide, by decide⟩
  obtain ⟨T13, h13, X13, e13, W13, st13⟩ := stC X12 hx hZ e12 Ar13 (j := (2 : Int32)) hin13 (g := (mkF m 70 #[iv v0, iv v1, iv v2, iv v3, iv ln, iv ch1, iv ch2, iv ch3, rv b4, rv b5, rv b7, .unset, .unset, .unset] [(.int ch3), (.int 2), (.ref b10), (.ref b10)])) rfl rfl (hb hby at_70)
  have V13 : Arv Z h13 b10 k10 .char (3 : Int32) [(.int ch1), (.int ch2), (.int ch3)] (.int (0 : Int32)) := by
    have q0 := Arv.set Ar13 q13 S13 Nn13 H13 G13 (fits_nar_char _) W13 2 rfl (Nat.le_of_ble_eq_true rfl)
    first | rw [own_narc16 f3_0] at q0 | skip
    exact q0
  have z13 := W13.size
  have N13 := Fr.snoc X13 N12 (show n0 ≤ b10 by omega)
  have O13 := O12.wr W13 (show n0 ≤ b10 by omega)
  refine og T13 (mkF m 71 #[iv v0, iv v1, iv v2, iv v3, iv ln, iv ch1, iv ch2, iv ch3, rv b4, rv b5, rv b7, .unset, .unset, .unset] [(.ref b10)]) (fun t_ k_ => st13 _ k_) ?_
  refine og T13 (mkF m 73 #[iv v0, iv v1, iv v2, iv v3, iv ln, iv ch1, iv ch2, iv ch3, rv b4, rv b5, rv b7, rv b10, .unset, .unset] []) (fun t_ k_ => XS.astore X13.here hx rfl (hb hby at_71) rfl rfl (l' := #[iv v0, iv v1, iv v2, iv v3, iv ln, iv ch1, iv ch2, iv ch3, rv b4, rv b5, rv b7, rv b10, .unset, .unset]) rfl k_) ?_
  rcases hln with rfl | rfl | rfl | rfl
  · skip
    refine og T13 (mkF m 75 #[iv v0, iv v1, iv v2, iv v3, iv 0, iv ch1, iv ch2, iv ch3, rv b4, rv b5, rv b7, rv b10, .unset, .unset] [(.int 0)]) (fun t_ k_ => XS.iload X13.here hx rfl (hb hby at_73) rfl k_) ?_
    refine og T13 (mkF m 78 #[iv v0, iv v1, iv v2, iv v3, iv 0, iv ch1, iv ch2, iv ch3, rv b4, rv b5, rv b7, rv b10, .unset, .unset] []) (fun t_ k_ => XS.ifNo X13.here hx rfl (hb hby at_75) rfl ((if0 _ _).trans (teq (by decide)).2) k_) ?_
    obtain ⟨T14, h14, X14, e14, E14, A14, D14, -, st14⟩ := newO X13 hx hZ hown (own_w hw 38 rfl) (own_w hw 6 rfl) (own_w hw 5 rfl) e13 (g := (mkF m 78 #[iv v0, iv v1, iv v2, iv v3, iv 0, iv ch1, iv ch2, iv ch3, rv b4, rv b5, rv b7, rv b10, .unset, .unset] [])) rfl (hb hby at_78) (by decide) (by decide)
    obtain ⟨b14, g14⟩ : ∃ z, z = h13.size := ⟨_, rfl⟩
    rw [← g14] at A14 D14 st14
    have l14 := own_ltN A14.lt
    have z14 := E14.1
    have O14 := O13.ext E14
    have F14_value : Fld Z h14 b14 "java/lang/String" "value" "[B" .null := D14 (Or.inr (own_w hw 8 rfl)) (ty := (.array .byte)) (by decide)
    have F14_coder : Fld Z h14 b14 "java/lang/String" "coder" "B" (.int 0) := D14 (Or.inr (own_w hw 9 rfl)) (ty := .byte) (by decide)
    refine og T14 (mkF m 81 #[iv v0, iv v1, iv v2, iv v3, iv 0, iv ch1, iv ch2, iv ch3, rv b4, rv b5, rv b7, rv b10, .unset, .unset] [(.ref b14)]) (fun t_ k_ => st14 _ k_) ?_
    refine og T14 (mkF m 82 #[iv v0, iv v1, iv v2, iv v3, iv 0, iv ch1, iv ch2, iv ch3, rv b4, rv b5, rv b7, rv b10, .unset, .unset] [(.ref b14), (.ref b14)]) (fun t_ k_ => XS.dup X14.here hx rfl (hb hby at_81) rfl rfl k_) ?_
    refine og T14 (mkF m 84 #[iv v0, iv v1, iv v2, iv v3, iv 0, iv ch1, iv ch2, iv ch3, rv b4, rv b5, rv b7, rv b10, .unset, .unset] [(.ref b4), (.ref b14), (.ref b14)]) (fun t_ k_ => XS.aload X14.here hx rfl (hb hby at_82) rfl rfl k_) ?_
    have ff16 := ((((((((((V4.ext E5).other W6 (own_ne (by omega))).ext E7).other W8 (own_ne (by omega))).other W9 (own_ne (by omega))).ext E10).other W11 (own_ne (by omega))).other W12 (own_ne (by omega))).other W13 (own_ne (by omega))).ext E14)
    obtain ⟨_, _, ⟨T15, L15, k15, n15⟩, -, X15_, h215, gr15, ⟨Lc15, hQ15, l15, y15, z15⟩, st15⟩ := X14.specialBackS hx (y := ym_13) rfl hown (mvT hZ (own_w hw 39 rfl)) (mvT hZ (own_w hw 40 rfl)) (mvT hZ (own_w hw 41 rfl)) (by decide) (own_backV (W := 1) (I := fun vm => IB Z vm Ts) (fun vm hW => own_ib (s := (s.setVm T3.vm)) hW hIBs) (rm_ina0 l Z a0 hw [] b14 b4 k4 Ts h14 n0 (show n0 ≤ h14.size by omega) ff16 A14 F14_value F14_coder (show n0 ≤ b14 by omega) O14 hnotin hheld7 hcw) hZ (own_w hw 41 rfl) (own_w hw 5 rfl) (by decide) (by decide)) (g := (mkF m 84 #[iv v0, iv v1, iv v2, iv v3, iv 0, iv ch1, iv ch2, iv ch3, rv b4, rv b5, rv b7, rv b10, .unset, .unset] [(.ref b4), (.ref b14), (.ref b14)])) rfl (by rw [hml]; rfl) (Steps.refl _) (a := b14) (argsL := [(.ref b4)]) (rest := [(.ref b14)]) (lenOf pd_16 rfl) rfl (by show 2 * 0 + _ ≤ _; exact Nat.le_of_eq rfl) (hb hby at_84) (fun _ _ => ⟨rfl, e14, (by decide : 11 + 2 ≤ _), (by decide : 70 + 4 ≤ _)⟩)
    dsimp only [Pt.U, Pt.locs, Pt.cells, Pt.slots] at X15_ h215 gr15 l15 y15 z15 st15 hQ15
    subst l15 y15 z15
    obtain ⟨X15, hS, hZ, hown⟩ := rebS hS (show _ ≤ T14.heap.size by rw [e14]; omega) X15_ h215 gr15 hZ hown
    have hk : T15.heap.size ≤ T15.heap.size := Nat.le_refl _
    obtain ⟨rfl, M15, K15_, f15_0, LS15⟩ := hQ15
    have zz15 := K15_.1
    have O15 := O14.keep K15_ (allS (show n0 ≤ b14 by omega) all0)
    have N15 := Fr.app N13 M15
    have ltsf15_0 := own_ltN f15_0.lt
    refine og T15 (mkF m 87 #[iv v0, iv v1, iv v2, iv v3, iv 0, iv ch1, iv ch2, iv ch3, rv b4, rv b5, rv b7, rv b10, .unset, .unset] [(.ref b14)]) (fun t_ k_ => st15.trans k_) ?_
    refine og T15 (mkF m 89 #[iv v0, iv v1, iv v2, iv v3, iv 0, iv ch1, iv ch2, iv ch3, rv b4, rv b5, rv b7, rv b10, rv b14, .unset] []) (fun t_ k_ => XS.astore X15.here hx rfl (hb hby at_87) rfl rfl (l' := #[iv v0, iv v1, iv v2, iv v3, iv 0, iv ch1, iv ch2, iv ch3, rv b4, rv b5, rv b7, rv b10, rv b14, .unset]) rfl k_) ?_
    refine og T15 (mkF m 143 #[iv v0, iv v1, iv v2, iv v3, iv 0, iv ch1, iv ch2, iv ch3, rv b4, rv b5, rv b7, rv b10, rv b14, .unset] []) (fun t_ k_ => XS.goto X15.here hx rfl (pc0 := 89) (pc' := 143) rfl (hb hby at_89) (by decide) (by decide) k_) ?_
    refine og T15 (mkF m 145 #[iv v0, iv v1, iv v2, iv v3, iv 0, iv ch1, iv ch2, iv ch3, rv b4, rv b5, rv b7, rv b10, rv b14, .unset] [(.int 0)]) (fun t_ k_ => XS.iload X15.here hx rfl (hb hby at_143) rfl k_) ?_
    refine og T15 (mkF m 146 #[iv v0, iv v1, iv v2, iv v3, iv 0, iv ch1, iv ch2, iv ch3, rv b4, rv b5, rv b7, rv b10, rv b14, .unset] [(.int 1), (.int 0)]) (fun t_ k_ => XS.iconst X15.here hx rfl (hb hby at_145) k_) ?_
    refine og T15 (mkF m 157 #[iv v0, iv v1, iv v2, iv v3, iv 0, iv ch1, iv ch2, iv ch3, rv b4, rv b5, rv b7, rv b10, rv b14, .unset] []) (fun t_ k_ => XS.icmpYes X15.here hx rfl (pc0 := 146) (pc' := 157) rfl (hb hby at_146) rfl (tlt (by decide)).1 (by decide) (by decide) k_) ?_
    refine og T15 (mkF m 159 #[iv v0, iv v1, iv v2, iv v3, iv 0, iv ch1, iv ch2, iv ch3, rv b4, rv b5, rv b7, rv b10, rv b14, .unset] [(.int 0)]) (fun t_ k_ => XS.iload X15.here hx rfl (hb hby at_157) rfl k_) ?_
    refine og T15 (mkF m 160 #[iv v0, iv v1, iv v2, iv v3, iv 0, iv ch1, iv ch2, iv ch3, rv b4, rv b5, rv b7, rv b10, rv b14, .unset] [(.int 2), (.int 0)]) (fun t_ k_ => XS.iconst X15.here hx rfl (hb hby at_159) k_) ?_
    refine og T15 (mkF m 171 #[iv v0, iv v1, iv v2, iv v3, iv 0, iv ch1, iv ch2, iv ch3, rv b4, rv b5, rv b7, rv b10, rv b14, .unset] []) (fun t_ k_ => XS.icmpYes X15.here hx rfl (pc0 := 160) (pc' := 171) rfl (hb hby at_160) rfl (tlt (by decide)).1 (by decide) (by decide) k_) ?_
    refine og T15 (mkF m 173 #[iv v0, iv v1, iv v2, iv v3, iv 0, iv ch1, iv ch2, iv ch3, rv b4, rv b5, rv b7, rv b10, rv b14, .unset] [(.int 0)]) (fun t_ k_ => XS.iload X15.here hx rfl (hb hby at_171) rfl k_) ?_
    refine og T15 (mkF m 174 #[iv v0, iv v1, iv v2, iv v3, iv 0, iv ch1, iv ch2, iv ch3, rv b4, rv b5, rv b7, rv b10, rv b14, .unset] [(.int 3), (.int 0)]) (fun t_ k_ => XS.iconst X15.here hx rfl (hb hby at_173) k_) ?_
    refine og T15 (mkF m 185 #[iv v0, iv v1, iv v2, iv v3, iv 0, iv ch1, iv ch2, iv ch3, rv b4, rv b5, rv b7, rv b10, rv b14, .unset] []) (fun t_ k_ => XS.icmpYes X15.here hx rfl (pc0 := 174) (pc' := 185) rfl (hb hby at_174) rfl (tlt (by decide)).1 (by decide) (by decide) k_) ?_
    refine og T15 (mkF m 186 #[iv v0, iv v1, iv v2, iv v3, iv 0, iv ch1, iv ch2, iv ch3, rv b4, rv b5, rv b7, rv b10, rv b14, .unset] [(.int 1)]) (fun t_ k_ => XS.iconst X15.here hx rfl (hb hby at_185) k_) ?_
    refine og T15 (mkF m 190 #[iv v0, iv v1, iv v2, iv v3, iv 0, iv ch1, iv ch2, iv ch3, rv b4, rv b5, rv b7, rv b10, rv b14, .unset] [(.int 1)]) (fun t_ k_ => XS.goto X15.here hx rfl (pc0 := 186) (pc' := 190) rfl (hb hby at_186) (by decide) (by decide) k_) ?_
    refine og T15 (mkF m 192 #[iv v0, iv v1, iv v2, iv v3, iv 0, iv ch1, iv ch2, iv ch3, rv b4, rv b5, rv b7, rv b10, rv b14, iv 1] []) (fun t_ k_ => XS.istore X15.here hx rfl (hb hby at_190) rfl (l' := #[iv v0, iv v1, iv v2, iv v3, iv 0, iv ch1, iv ch2, iv ch3, rv b4, rv b5, rv b7, rv b10, rv b14, iv 1]) rfl k_) ?_
    refine og T15 (mkF m 194 #[iv v0, iv v1, iv v2, iv v3, iv 0, iv ch1, iv ch2, iv ch3, rv b4, rv b5, rv b7, rv b10, rv b14, iv 1] [(.ref b14)]) (fun t_ k_ => XS.aload X15.here hx rfl (hb hby at_192) rfl rfl k_) ?_
    obtain ⟨_, _, ⟨T17, L17, k17, n17⟩, -, X17, ⟨Lc17, hQ17, l17, y17, z17⟩, st17⟩ := Jvm.LawKit.callS X15 hx (y := ym_15) hown (mvT hZ (own_w hw 50 rfl)) (mvT hZ (own_w hw 51 rfl)) (mvT hZ (own_w hw 52 rfl)) (mvT hZ (own_w hw 53 rfl)) (by decide) (backOf (W := 0) (rm_isw0 l Z a0 hw [] b14 T15.heap.size cz fm T15.heap n0 (show n0 ≤ T15.heap.size by omega) f15_0 O15 S_COMPACT_STRINGS hcz S__assertionsDisabled S_HI_BYTE_SHIFT S_LO_BYTE_SHIFT rf S_SIOOBE_FORMATTER) hZ (own_w hw 53 rfl) (own_w hw 52 rfl) (by decide) (by decide)) (g := (mkF m 194 #[iv v0, iv v1, iv v2, iv v3, iv 0, iv ch1, iv ch2, iv ch3, rv b4, rv b5, rv b7, rv b10, rv b14, iv 1] [(.ref b14)])) rfl (by rw [hml]; rfl) (argsL := [(.ref b14)]) (rest := []) (lenOf pd_17 rfl) rfl (by show 2 * 0 + _ ≤ _; exact Nat.le_of_eq rfl) (hb hby at_194) (fun _ _ => ⟨rfl, rfl, (by decide : 13 + 0 ≤ _), (by decide : 74 + 0 ≤ _)⟩)
    dsimp only [Pt.U, Pt.locs, Pt.cells, Pt.slots] at X17 l17 y17 z17 st17 hQ17
    subst l17 y17 z17
    obtain ⟨rfl, M17, e17⟩ := hQ17
    have N17 := Fr.app N15 M17
    refine og T17 (mkF m 197 #[iv v0, iv v1, iv v2, iv v3, iv 0, iv ch1, iv ch2, iv ch3, rv b4, rv b5, rv b7, rv b10, rv b14, iv 1] [(.int 1)]) (fun t_ k_ => st17 _ k_) ?_
    refine og T17 (mkF m 199 #[iv v0, iv v1, iv v2, iv v3, iv 0, iv ch1, iv ch2, iv ch3, rv b4, rv b5, rv b7, rv b10, rv b14, iv 1] [(.int 1), (.int 1)]) (fun t_ k_ => XS.iload X17.here hx rfl (hb hby at_197) rfl k_) ?_
    refine og T17 (mkF m 202 #[iv v0, iv v1, iv v2, iv v3, iv 0, iv ch1, iv ch2, iv ch3, rv b4, rv b5, rv b7, rv b10, rv b14, iv 1] []) (fun t_ k_ => XS.icmpNo X17.here hx rfl (hb hby at_199) rfl (teq (show (1 : Int32) = (1 : Int32) from rfl)).2 k_) ?_
    refine og T17 (mkF m 203 #[iv v0, iv v1, iv v2, iv v3, iv 0, iv ch1, iv ch2, iv ch3, rv b4, rv b5, rv b7, rv b10, rv b14, iv 1] [(.int 1)]) (fun t_ k_ => XS.iconst X17.here hx rfl (hb hby at_202) k_) ?_
    refine og T17 (mkF m 207 #[iv v0, iv v1, iv v2, iv v3, iv 0, iv ch1, iv ch2, iv ch3, rv b4, rv b5, rv b7, rv b10, rv b14, iv 1] [(.int 1)]) (fun t_ k_ => XS.goto X17.here hx rfl (pc0 := 203) (pc' := 207) rfl (hb hby at_203) (by decide) (by decide) k_) ?_
    exact own_outW X17 hS (show _ ≤ T17.heap.size by rw [e17]; omega) (v := some (.int (nar .boolean (1 : Int32)))) (fun h => by rw [hret] at h; cases h) hlk (fun fs hr => retN X17 hx (t := .boolean) hret (by simp) (hb hby at_207) hr) (Q := Q_rm_law Z v0 v1 v2 v3 cz fm h0 n0) (by rw [e17]; exact ⟨rfl, N17⟩) (by decide) (by decide)
  · skip
    refine og T13 (mkF m 75 #[iv v0, iv v1, iv v2, iv v3, iv 1, iv ch1, iv ch2, iv ch3, rv b4, rv b5, rv b7, rv b10, .unset, .unset] [(.int 1)]) (fun t_ k_ => XS.iload X13.here hx rfl (hb hby at_73) rfl k_) ?_
    refine og T13 (mkF m 92 #[iv v0, iv v1, iv v2, iv v3, iv 1, iv ch1, iv ch2, iv ch3, rv b4, rv b5, rv b7, rv b10, .unset, .unset] []) (fun t_ k_ => XS.ifYes X13.here hx rfl (pc0 := 75) (pc' := 92) rfl (hb hby at_75) rfl ((if0 _ _).trans (feq (by decide)).2) (by decide) (by decide) k_) ?_
    refine og T13 (mkF m 94 #[iv v0, iv v1, iv v2, iv v3, iv 1, iv ch1, iv ch2, iv ch3, rv b4, rv b5, rv b7, rv b10, .unset, .unset] [(.int 1)]) (fun t_ k_ => XS.iload X13.here hx rfl (hb hby at_92) rfl k_) ?_
    refine og T13 (mkF m 95 #[iv v0, iv v1, iv v2, iv v3, iv 1, iv ch1, iv ch2, iv ch3, rv b4, rv b5, rv b7, rv b10, .unset, .unset] [(.int 1), (.int 1)]) (fun t_ k_ => XS.iconst X13.here hx rfl (hb hby at_94) k_) ?_
    refine og T13 (mkF m 98 #[iv v0, iv v1, iv v2, iv v3, iv 1, iv ch1, iv ch2, iv ch3, rv b4, rv b5, rv b7, rv b10, .unset, .unset] []) (fun t_ k_ => XS.icmpNo X13.here hx rfl (hb hby at_95) rfl (teq (by decide)).2 k_) ?_
    obtain ⟨T18, h18, X18, e18, E18, A18, D18, -, st18⟩ := newO X13 hx hZ hown (own_w hw 38 rfl) (own_w hw 6 rfl) (own_w hw 5 rfl) e13 (g := (mkF m 98 #[iv v0, iv v1, iv v2, iv v3, iv 1, iv ch1, iv ch2, iv ch3, rv b4, rv b5, rv b7, rv b10, .unset, .unset] [])) rfl (hb hby at_98) (by decide) (by decide)
    obtain ⟨b18, g18⟩ : ∃ z, z = h13.size := ⟨_, rfl⟩
    rw [← g18] at A18 D18 st18
    have l18 := own_ltN A18.lt
    have z18 := E18.1
    have O18 := O13.ext E18
    have F18_value : Fld Z h18 b18 "java/lang/String" "value" "[B" .null := D18 (Or.inr (own_w hw 8 rfl)) (ty := (.array .byte)) (by decide)
    have F18_coder : Fld Z h18 b18 "java/lang/String" "coder" "B" (.int 0) := D18 (Or.inr (own_w hw 9 rfl)) (ty := .byte) (by decide)
    refine og T18 (mkF m 101 #[iv v0, iv v1, iv v2, iv v3, iv 1, iv ch1, iv ch2, iv ch3, rv b4, rv b5, rv b7, rv b10, .unset, .unset] [(.ref b18)]) (fun t_ k_ => st18 _ k_) ?_
    refine og T18 (mkF m 102 #[iv v0, iv v1, iv v2, iv v3, iv 1, iv ch1, iv ch2, iv ch3, rv b4, rv b5, rv b7, rv b10, .unset, .unset] [(.ref b18), (.ref b18)]) (fun t_ k_ => XS.dup X18.here hx rfl (hb hby at_101) rfl rfl k_) ?_
    refine og T18 (mkF m 104 #[iv v0, iv v1, iv v2, iv v3, iv 1, iv ch1, iv ch2, iv ch3, rv b4, rv b5, rv b7, rv b10, .unset, .unset] [(.ref b5), (.ref b18), (.ref b18)]) (fun t_ k_ => XS.aload X18.here hx rfl (hb hby at_102) rfl rfl k_) ?_
    have ff20 := ((((((((V6.ext E7).other W8 (own_ne (by omega))).other W9 (own_ne (by omega))).ext E10).other W11 (own_ne (by omega))).other W12 (own_ne (by omega))).other W13 (own_ne (by omega))).ext E18)
    obtain ⟨_, _, ⟨T19, L19, k19, n19⟩, -, X19, ⟨Lc19, hQ19, l19, y19, z19⟩, st19⟩ := X18.specialBack hx (y := ym_13) rfl hown (mvT hZ (own_w hw 39 rfl)) (mvT hZ (own_w hw 40 rfl)) (mvT hZ (own_w hw 41 rfl)) (by decide) (backOf (W := 1) (rm_ina1 l Z a0 hw [] b18 b5 ch1 k5 cz h18 n0 (show n0 ≤ h18.size by omega) f1_0 ff20 O18 S__assertionsDisabled S_HI_BYTE_SHIFT S_LO_BYTE_SHIFT S_COMPACT_STRINGS hcz A18 F18_value F18_coder (show n0 ≤ b18 by omega) (show b5 ≠ b18 by omega)) hZ (own_w hw 41 rfl) (own_w hw 5 rfl) (by decide) (by decide)) (g := (mkF m 104 #[iv v0, iv v1, iv v2, iv v3, iv 1, iv ch1, iv ch2, iv ch3, rv b4, rv b5, rv b7, rv b10, .unset, .unset] [(.ref b5), (.ref b18), (.ref b18)])) rfl (by rw [hml]; rfl) (Steps.refl _) (a := b18) (argsL := [(.ref b5)]) (rest := [(.ref b18)]) (lenOf pd_16 rfl) rfl (by show 2 * 0 + _ ≤ _; exact Nat.le_of_eq rfl) (hb hby at_104) (fun _ _ => ⟨rfl, e18, (by decide : 11 + 2 ≤ _), (by decide : 70 + 3 ≤ _)⟩)
    dsimp only [Pt.U, Pt.locs, Pt.cells, Pt.slots] at X19 l19 y19 z19 st19 hQ19
    subst l19 y19 z19
    obtain ⟨rfl, M19, K19_, f19_0⟩ := hQ19
    have zz19 := K19_.1
    have O19 := O18.keep K19_ (allS (show n0 ≤ b18 by omega) all0)
    have N19 := Fr.app N13 M19
    have ltsf19_0 := own_ltN f19_0.lt
    refine og T19 (mkF m 107 #[iv v0, iv v1, iv v2, iv v3, iv 1, iv ch1, iv ch2, iv ch3, rv b4, rv b5, rv b7, rv b10, .unset, .unset] [(.ref b18)]) (fun t_ k_ => st19.trans k_) ?_
    refine og T19 (mkF m 109 #[iv v0, iv v1, iv v2, iv v3, iv 1, iv ch1, iv ch2, iv ch3, rv b4, rv b5, rv b7, rv b10, rv b18, .unset] []) (fun t_ k_ => XS.astore X19.here hx rfl (hb hby at_107) rfl rfl (l' := #[iv v0, iv v1, iv v2, iv v3, iv 1, iv ch1, iv ch2, iv ch3, rv b4, rv b5, rv b7, rv b10, rv b18, .unset]) rfl k_) ?_
    refine og T19 (mkF m 143 #[iv v0, iv v1, iv v2, iv v3, iv 1, iv ch1, iv ch2, iv ch3, rv b4, rv b5, rv b7, rv b10, rv b18, .unset] []) (fun t_ k_ => XS.goto X19.here hx rfl (pc0 := 109) (pc' := 143) rfl (hb hby at_109) (by decide) (by decide) k_) ?_
    refine og T19 (mkF m 145 #[iv v0, iv v1, iv v2, iv v3, iv 1, iv ch1, iv ch2, iv ch3, rv b4, rv b5, rv b7, rv b10, rv b18, .unset] [(.int 1)]) (fun t_ k_ => XS.iload X19.here hx rfl (hb hby at_143) rfl k_) ?_
    refine og T19 (mkF m 146 #[iv v0, iv v1, iv v2, iv v3, iv 1, iv ch1, iv ch2, iv ch3, rv b4, rv b5, rv b7, rv b10, rv b18, .unset] [(.int 1), (.int 1)]) (fun t_ k_ => XS.iconst X19.here hx rfl (hb hby at_145) k_) ?_
    refine og T19 (mkF m 149 #[iv v0, iv v1, iv v2, iv v3, iv 1, iv ch1, iv ch2, iv ch3, rv b4, rv b5, rv b7, rv b10, rv b18, .unset] []) (fun t_ k_ => XS.icmpNo X19.here hx rfl (hb hby at_146) rfl (flt (by decide)).1 k_) ?_
    refine og T19 (mkF m 151 #[iv v0, iv v1, iv v2, iv v3, iv 1, iv ch1, iv ch2, iv ch3, rv b4, rv b5, rv b7, rv b10, rv b18, .unset] [(.int ch1)]) (fun t_ k_ => XS.iload X19.here hx rfl (hb hby at_149) rfl k_) ?_
    obtain ⟨_, _, ⟨T21, L21, k21, n21⟩, -, X21, ⟨Lc21, hQ21, l21, y21, z21⟩, st21⟩ := Jvm.LawKit.callS X19 hx (y := ym_21) hown (mvT hZ (own_w hw 74 rfl)) (mvT hZ (own_w hw 75 rfl)) (mvT hZ (own_w hw 2 rfl)) (mvT hZ (own_w hw 76 rfl)) (by decide) (backOf (W := 0) (rm_ws l Z a0 hw [] ch1 T19.heap n0 (show n0 ≤ T19.heap.size by omega) f1_0) hZ (own_w hw 76 rfl) (own_w hw 2 rfl) (by decide) (by decide)) (g := (mkF m 151 #[iv v0, iv v1, iv v2, iv v3, iv 1, iv ch1, iv ch2, iv ch3, rv b4, rv b5, rv b7, rv b10, rv b18, .unset] [(.int ch1)])) rfl (by rw [hml]; rfl) (argsL := [(.int ch1)]) (rest := []) (lenOf pd_18 rfl) rfl (by show 2 * 0 + _ ≤ _; exact Nat.le_of_eq rfl) (hb hby at_151) (fun _ _ => ⟨rfl, rfl, (by decide : 13 + 0 ≤ _), (by decide : 73 + 0 ≤ _)⟩)
    dsimp only [Pt.U, Pt.locs, Pt.cells, Pt.slots] at X21 l21 y21 z21 st21 hQ21
    subst l21 y21 z21
    obtain ⟨rfl, M21, e21⟩ := hQ21
    have N21 := Fr.app N19 M21
    refine og T21 (mkF m 154 #[iv v0, iv v1, iv v2, iv v3, iv 1, iv ch1, iv ch2, iv ch3, rv b4, rv b5, rv b7, rv b10, rv b18, .unset] [(.int (if own_W ch1 then (1 : Int32) else (0 : Int32)))]) (fun t_ k_ => st21 _ k_) ?_
    by_cases hq22_ : own_W ch1
    · skip
      refine og T21 (mkF m 157 #[iv v0, iv v1, iv v2, iv v3, iv 1, iv ch1, iv ch2, iv ch3, rv b4, rv b5, rv b7, rv b10, rv b18, .unset] []) (fun t_ k_ => XS.ifNo X21.here hx rfl (hb hby at_154) rfl ((if0 _ _).trans (feq (own_t1 hq22_)).1) k_) ?_
      refine og T21 (mkF m 159 #[iv v0, iv v1, iv v2, iv v3, iv 1, iv ch1, iv ch2, iv ch3, rv b4, rv b5, rv b7, rv b10, rv b18, .unset] [(.int 1)]) (fun t_ k_ => XS.iload X21.here hx rfl (hb hby at_157) rfl k_) ?_
      refine og T21 (mkF m 160 #[iv v0, iv v1, iv v2, iv v3, iv 1, iv ch1, iv ch2, iv ch3, rv b4, rv b5, rv b7, rv b10, rv b18, .unset] [(.int 2), (.int 1)]) (fun t_ k_ => XS.iconst X21.here hx rfl (hb hby at_159) k_) ?_
      refine og T21 (mkF m 171 #[iv v0, iv v1, iv v2, iv v3, iv 1, iv ch1, iv ch2, iv ch3, rv b4, rv b5, rv b7, rv b10, rv b18, .unset] []) (fun t_ k_ => XS.icmpYes X21.here hx rfl (pc0 := 160) (pc' := 171) rfl (hb hby at_160) rfl (tlt (by decide)).1 (by decide) (by decide) k_) ?_
      refine og T21 (mkF m 173 #[iv v0, iv v1, iv v2, iv v3, iv 1, iv ch1, iv ch2, iv ch3, rv b4, rv b5, rv b7, rv b10, rv b18, .unset] [(.int 1)]) (fun t_ k_ => XS.iload X21.here hx rfl (hb hby at_171) rfl k_) ?_
      refine og T21 (mkF m 174 #[iv v0, iv v1, iv v2, iv v3, iv 1, iv ch1, iv ch2, iv ch3, rv b4, rv b5, rv b7, rv b10, rv b18, .unset] [(.int 3), (.int 1)]) (fun t_ k_ => XS.iconst X21.here hx rfl (hb hby at_173) k_) ?_
      refine og T21 (mkF m 185 #[iv v0, iv v1, iv v2, iv v3, iv 1, iv ch1, iv ch2, iv ch3, rv b4, rv b5, rv b7, rv b10, rv b18, .unset] []) (fun t_ k_ => XS.icmpYes X21.here hx rfl (pc0 := 174) (pc' := 185) rfl (hb hby at_174) rfl (tlt (by decide)).1 (by decide) (by decide) k_) ?_
      refine og T21 (mkF m 186 #[iv v0, iv v1, iv v2, iv v3, iv 1, iv ch1, iv ch2, iv ch3, rv b4, rv b5, rv b7, rv b10, rv b18, .unset] [(.int 1)]) (fun t_ k_ => XS.iconst X21.here hx rfl (hb hby at_185) k_) ?_
      refine og T21 (mkF m 190 #[iv v0, iv v1, iv v2, iv v3, iv 1, iv ch1, iv ch2, iv ch3, rv b4, rv b5, rv b7, rv b10, rv b18, .unset] [(.int 1)]) (fun t_ k_ => XS.goto X21.here hx rfl (pc0 := 186) (pc' := 190) rfl (hb hby at_186) (by decide) (by decide) k_) ?_
      refine og T21 (mkF m 192 #[iv v0, iv v1, iv v2, iv v3, iv 1, iv ch1, iv ch2, iv ch3, rv b4, rv b5, rv b7, rv b10, rv b18, iv 1] []) (fun t_ k_ => XS.istore X21.here hx rfl (hb hby at_190) rfl (l' := #[iv v0, iv v1, iv v2, iv v3, iv 1, iv ch1, iv ch2, iv ch3, rv b4, rv b5, rv b7, rv b10, rv b18, iv 1]) rfl k_) ?_
      refine og T21 (mkF m 194 #[iv v0, iv v1, iv v2, iv v3, iv 1, iv ch1, iv ch2, iv ch3, rv b4, rv b5, rv b7, rv b10, rv b18, iv 1] [(.ref b18)]) (fun t_ k_ => XS.aload X21.here hx rfl (hb hby at_192) rfl rfl k_) ?_
      obtain ⟨_, _, ⟨T23, L23, k23, n23⟩, -, X23, ⟨Lc23, hQ23, l23, y23, z23⟩, st23⟩ := Jvm.LawKit.callS X21 hx (y := ym_15) hown (mvT hZ (own_w hw 50 rfl)) (mvT hZ (own_w hw 51 rfl)) (mvT hZ (own_w hw 52 rfl)) (mvT hZ (own_w hw 53 rfl)) (by decide) (backOf (W := 0) (rm_isw1 l Z a0 hw [] b18 T19.heap.size ch1 cz fm T19.heap n0 (show n0 ≤ T19.heap.size by omega) f19_0 f1_0 O19 S_COMPACT_STRINGS hcz S__assertionsDisabled S_HI_BYTE_SHIFT S_LO_BYTE_SHIFT rf S_SIOOBE_FORMATTER) hZ (own_w hw 53 rfl) (own_w hw 52 rfl) (by decide) (by decide)) (g := (mkF m 194 #[iv v0, iv v1, iv v2, iv v3, iv 1, iv ch1, iv ch2, iv ch3, rv b4, rv b5, rv b7, rv b10, rv b18, iv 1] [(.ref b18)])) rfl (by rw [hml]; rfl) (argsL := [(.ref b18)]) (rest := []) (lenOf pd_17 rfl) rfl (by show 2 * 0 + _ ≤ _; exact Nat.le_of_eq rfl) (hb hby at_194) (fun _ _ => ⟨rfl, e21, (by decide : 13 + 0 ≤ _), (by decide : 73 + 0 ≤ _)⟩)
      dsimp only [Pt.U, Pt.locs, Pt.cells, Pt.slots] at X23 l23 y23 z23 st23 hQ23
      subst l23 y23 z23
      obtain ⟨rfl, M23, e23⟩ := hQ23
      have N23 := Fr.app N21 M23
      refine og T23 (mkF m 197 #[iv v0, iv v1, iv v2, iv v3, iv 1, iv ch1, iv ch2, iv ch3, rv b4, rv b5, rv b7, rv b10, rv b18, iv 1] [(.int (if own_W ch1 then (1 : Int32) else (0 : Int32)))]) (fun t_ k_ => st23 _ k_) ?_
      refine og T23 (mkF m 199 #[iv v0, iv v1, iv v2, iv v3, iv 1, iv ch1, iv ch2, iv ch3, rv b4, rv b5, rv b7, rv b10, rv b18, iv 1] [(.int 1), (.int (if own_W ch1 then (1 : Int32) else (0 : Int32)))]) (fun t_ k_ => XS.iload X23.here hx rfl (hb hby at_197) rfl k_) ?_
      refine og T23 (mkF m 202 #[iv v0, iv v1, iv v2, iv v3, iv 1, iv ch1, iv ch2, iv ch3, rv b4, rv b5, rv b7, rv b10, rv b18, iv 1] []) (fun t_ k_ => XS.icmpNo X23.here hx rfl (hb hby at_199) rfl (teq (show (if own_W ch1 then (1 : Int32) else (0 : Int32)) = (1 : Int32) from (if_pos hq22_))).2 k_) ?_
      refine og T23 (mkF m 203 #[iv v0, iv v1, iv v2, iv v3, iv 1, iv ch1, iv ch2, iv ch3, rv b4, rv b5, rv b7, rv b10, rv b18, iv 1] [(.int 1)]) (fun t_ k_ => XS.iconst X23.here hx rfl (hb hby at_202) k_) ?_
      refine og T23 (mkF m 207 #[iv v0, iv v1, iv v2, iv v3, iv 1, iv ch1, iv ch2, iv ch3, rv b4, rv b5, rv b7, rv b10, rv b18, iv 1] [(.int 1)]) (fun t_ k_ => XS.goto X23.here hx rfl (pc0 := 203) (pc' := 207) rfl (hb hby at_203) (by decide) (by decide) k_) ?_
      exact own_outW X23 hS (show _ ≤ T23.heap.size by rw [e23]; omega) (v := some (.int (nar .boolean (1 : Int32)))) (fun h => by rw [hret] at h; cases h) hlk (fun fs hr => retN X23 hx (t := .boolean) hret (by simp) (hb hby at_207) hr) (Q := Q_rm_law Z v0 v1 v2 v3 cz fm h0 n0) (by rw [e23]; exact ⟨rfl, N23⟩) (by decide) (by decide)
    · skip
      refine og T21 (mkF m 189 #[iv v0, iv v1, iv v2, iv v3, iv 1, iv ch1, iv ch2, iv ch3, rv b4, rv b5, rv b7, rv b10, rv b18, .unset] []) (fun t_ k_ => XS.ifYes X21.here hx rfl (pc0 := 154) (pc' := 189) rfl (hb hby at_154) rfl ((if0 _ _).trans (teq (own_f1 hq22_)).1) (by decide) (by decide) k_) ?_
      refine og T21 (mkF m 190 #[iv v0, iv v1, iv v2, iv v3, iv 1, iv ch1, iv ch2, iv ch3, rv b4, rv b5, rv b7, rv b10, rv b18, .unset] [(.int 0)]) (fun t_ k_ => XS.iconst X21.here hx rfl (hb hby at_189) k_) ?_
      refine og T21 (mkF m 192 #[iv v0, iv v1, iv v2, iv v3, iv 1, iv ch1, iv ch2, iv ch3, rv b4, rv b5, rv b7, rv b10, rv b18, iv 0] []) (fun t_ k_ => XS.istore X21.here hx rfl (hb hby at_190) rfl (l' := #[iv v0, iv v1, iv v2, iv v3, iv 1, iv ch1, iv ch2, iv ch3, rv b4, rv b5, rv b7, rv b10, rv b18, iv 0]) rfl k_) ?_
      refine og T21 (mkF m 194 #[iv v0, iv v1, iv v2, iv v3, iv 1, iv ch1, iv ch2, iv ch3, rv b4, rv b5, rv b7, rv b10, rv b18, iv 0] [(.ref b18)]) (fun t_ k_ => XS.aload X21.here hx rfl (hb hby at_192) rfl rfl k_) ?_
      obtain ⟨_, _, ⟨T24, L24, k24, n24⟩, -, X24, ⟨Lc24, hQ24, l24, y24, z24⟩, st24⟩ := Jvm.LawKit.callS X21 hx (y := ym_15) hown (mvT hZ (own_w hw 50 rfl)) (mvT hZ (own_w hw 51 rfl)) (mvT hZ (own_w hw 52 rfl)) (mvT hZ (own_w hw 53 rfl)) (by decide) (backOf (W := 0) (rm_isw1 l Z a0 hw [] b18 T19.heap.size ch1 cz fm T19.heap n0 (show n0 ≤ T19.heap.size by omega) f19_0 f1_0 O19 S_COMPACT_STRINGS hcz S__assertionsDisabled S_HI_BYTE_SHIFT S_LO_BYTE_SHIFT rf S_SIOOBE_FORMATTER) hZ (own_w hw 53 rfl) (own_w hw 52 rfl) (by decide) (by decide)) (g := (mkF m 194 #[iv v0, iv v1, iv v2, iv v3, iv 1, iv ch1, iv ch2, iv ch3, rv b4, rv b5, rv b7, rv b10, rv b18, iv 0] [(.ref b18)])) rfl (by rw [hml]; rfl) (argsL := [(.ref b18)]) (rest := []) (lenOf pd_17 rfl) rfl (by show 2 * 0 + _ ≤ _; exact Nat.le_of_eq rfl) (hb hby at_194) (fun _ _ => ⟨rfl, e21, (by decide : 13 + 0 ≤ _), (by decide : 73 + 0 ≤ _)⟩)
      dsimp only [Pt.U, Pt.locs, Pt.cells, Pt.slots] at X24 l24 y24 z24 st24 hQ24
      subst l24 y24 z24
      obtain ⟨rfl, M24, e24⟩ := hQ24
      have N24 := Fr.app N21 M24
      refine og T24 (mkF m 197 #[iv v0, iv v1, iv v2, iv v3, iv 1, iv ch1, iv ch2, iv ch3, rv b4, rv b5, rv b7, rv b10, rv b18, iv 0] [(.int (if own_W ch1 then (1 : Int32) else (0 : Int32)))]) (fun t_ k_ => st24 _ k_) ?_
      refine og T24 (mkF m 199 #[iv v0, iv v1, iv v2, iv v3, iv 1, iv ch1, iv ch2, iv ch3, rv b4, rv b5, rv b7, rv b10, rv b18, iv 0] [(.int 0), (.int (if own_W ch1 then (1 : Int32) else (0 : Int32)))]) (fun t_ k_ => XS.iload X24.here hx rfl (hb hby at_197) rfl k_) ?_
      refine og T24 (mkF m 202 #[iv v0, iv v1, iv v2, iv v3, iv 1, iv ch1, iv ch2, iv ch3, rv b4, rv b5, rv b7, rv b10, rv b18, iv 0] []) (fun t_ k_ => XS.icmpNo X24.here hx rfl (hb hby at_199) rfl (teq (show (if own_W ch1 then (1 : Int32) else (0 : Int32)) = (0 : Int32) from (if_neg hq22_))).2 k_) ?_
      refine og T24 (mkF m 203 #[iv v0, iv v1, iv v2, iv v3, iv 1, iv ch1, iv ch2, iv ch3, rv b4, rv b5, rv b7, rv b10, rv b18, iv 0] [(.int 1)]) (fun t_ k_ => XS.iconst X24.here hx rfl (hb hby at_202) k_) ?_
      refine og T24 (mkF m 207 #[iv v0, iv v1, iv v2, iv v3, iv 1, iv ch1, iv ch2, iv ch3, rv b4, rv b5, rv b7, rv b10, rv b18, iv 0] [(.int 1)]) (fun t_ k_ => XS.goto X24.here hx rfl (pc0 := 203) (pc' := 207) rfl (hb hby at_203) (by decide) (by decide) k_) ?_
      exact own_outW X24 hS (show _ ≤ T24.heap.size by rw [e24]; omega) (v := some (.int (nar .boolean (1 : Int32)))) (fun h => by rw [hret] at h; cases h) hlk (fun fs hr => retN X24 hx (t := .boolean) hret (by simp) (hb hby at_207) hr) (Q := Q_rm_law Z v0 v1 v2 v3 cz fm h0 n0) (by rw [e24]; exact ⟨rfl, N24⟩) (by decide) (by decide)
  · skip
    refine og T13 (mkF m 75 #[iv v0, iv v1, iv v2, iv v3, iv 2, iv ch1, iv ch2, iv ch3, rv b4, rv b5, rv b7, rv b10, .unset, .unset] [(.int 2)]) (fun t_ k_ => XS.iload X13.here hx rfl (hb hby at_73) rfl k_) ?_
    refine og T13 (mkF m 92 #[iv v0, iv v1, iv v2, iv v3, iv 2, iv ch1, iv ch2, iv ch3, rv b4, rv b5, rv b7, rv b10, .unset, .unset] []) (fun t_ k_ => XS.ifYes X13.here hx rfl (pc0 := 75) (pc' := 92) rfl (hb hby at_75) rfl ((if0 _ _).trans (feq (by decide)).2) (by decide) (by decide) k_) ?_
    refine og T13 (mkF m 94 #[iv v0, iv v1, iv v2, iv v3, iv 2, iv ch1, iv ch2, iv ch3, rv b4, rv b5, rv b7, rv b10, .unset, .unset] [(.int 2)]) (fun t_ k_ => XS.iload X13.here hx rfl (hb hby at_92) rfl k_) ?_
    refine og T13 (mkF m 95 #[iv v0, iv v1, iv v2, iv v3, iv 2, iv ch1, iv ch2, iv ch3, rv b4, rv b5, rv b7, rv b10, .unset, .unset] [(.int 1), (.int 2)]) (fun t_ k_ => XS.iconst X13.here hx rfl (hb hby at_94) k_) ?_
    refine og T13 (mkF m 112 #[iv v0, iv v1, iv v2, iv v3, iv 2, iv ch1, iv ch2, iv ch3, rv b4, rv b5, rv b7, rv b10, .unset, .unset] []) (fun t_ k_ => XS.icmpYes X13.here hx rfl (pc0 := 95) (pc' := 112) rfl (hb hby at_95) rfl (feq (by decide)).2 (by decide) (by decide) k_) ?_
    refine og T13 (mkF m 114 #[iv v0, iv v1, iv v2, iv v3, iv 2, iv ch1, iv ch2, iv ch3, rv b4, rv b5, rv b7, rv b10, .unset, .unset] [(.int 2)]) (fun t_ k_ => XS.iload X13.here hx rfl (hb hby at_112) rfl k_) ?_
    refine og T13 (mkF m 115 #[iv v0, iv v1, iv v2, iv v3, iv 2, iv ch1, iv ch2, iv ch3, rv b4, rv b5, rv b7, rv b10, .unset, .unset] [(.int 2), (.int 2)]) (fun t_ k_ => XS.iconst X13.here hx rfl (hb hby at_114) k_) ?_
    refine og T13 (mkF m 118 #[iv v0, iv v1, iv v2, iv v3, iv 2, iv ch1, iv ch2, iv ch3, rv b4, rv b5, rv b7, rv b10, .unset, .unset] []) (fun t_ k_ => XS.icmpNo X13.here hx rfl (hb hby at_115) rfl (teq (by decide)).2 k_) ?_
    obtain ⟨T25, h25, X25, e25, E25, A25, D25, -, st25⟩ := newO X13 hx hZ hown (own_w hw 38 rfl) (own_w hw 6 rfl) (own_w hw 5 rfl) e13 (g := (mkF m 118 #[iv v0, iv v1, iv v2, iv v3, iv 2, iv ch1, iv ch2, iv ch3, rv b4, rv b5, rv b7, rv b10, .unset, .unset] [])) rfl (hb hby at_118) (by decide) (by decide)
    obtain ⟨b25, g25⟩ : ∃ z, z = h13.size := ⟨_, rfl⟩
    rw [← g25] at A25 D25 st25
    have l25 := own_ltN A25.lt
    have z25 := E25.1
    have O25 := O13.ext E25
    have F25_value : Fld Z h25 b25 "java/lang/String" "value" "[B" .null := D25 (Or.inr (own_w hw 8 rfl)) (ty := (.array .byte)) (by decide)
    have F25_coder : Fld Z h25 b25 "java/lang/String" "coder" "B" (.int 0) := D25 (Or.inr (own_w hw 9 rfl)) (ty := .byte) (by decide)
    refine og T25 (mkF m 121 #[iv v0, iv v1, iv v2, iv v3, iv 2, iv ch1, iv ch2, iv ch3, rv b4, rv b5, rv b7, rv b10, .unset, .unset] [(.ref b25)]) (fun t_ k_ => st25 _ k_) ?_
    refine og T25 (mkF m 122 #[iv v0, iv v1, iv v2, iv v3, iv 2, iv ch1, iv ch2, iv ch3, rv b4, rv b5, rv b7, rv b10, .unset, .unset] [(.ref b25), (.ref b25)]) (fun t_ k_ => XS.dup X25.here hx rfl (hb hby at_121) rfl rfl k_) ?_
    refine og T25 (mkF m 124 #[iv v0, iv v1, iv v2, iv v3, iv 2, iv ch1, iv ch2, iv ch3, rv b4, rv b5, rv b7, rv b10, .unset, .unset] [(.ref b7), (.ref b25), (.ref b25)]) (fun t_ k_ => XS.aload X25.here hx rfl (hb hby at_122) rfl rfl k_) ?_
    have ff27 := (((((V9.ext E10).other W11 (own_ne (by omega))).other W12 (own_ne (by omega))).other W13 (own_ne (by omega))).ext E25)
    obtain ⟨_, _, ⟨T26, L26, k26, n26⟩, -, X26, ⟨Lc26, hQ26, l26, y26, z26⟩, st26⟩ := X25.specialBack hx (y := ym_13) rfl hown (mvT hZ (own_w hw 39 rfl)) (mvT hZ (own_w hw 40 rfl)) (mvT hZ (own_w hw 41 rfl)) (by decide) (backOf (W := 1) (rm_ina2 l Z a0 hw [] b25 b7 ch1 ch2 k7 cz h25 n0 (show n0 ≤ h25.size by omega) f1_0 f2_0 ff27 O25 S__assertionsDisabled S_HI_BYTE_SHIFT S_LO_BYTE_SHIFT S_COMPACT_STRINGS hcz A25 F25_value F25_coder (show n0 ≤ b25 by omega) (show b7 ≠ b25 by omega)) hZ (own_w hw 41 rfl) (own_w hw 5 rfl) (by decide) (by decide)) (g := (mkF m 124 #[iv v0, iv v1, iv v2, iv v3, iv 2, iv ch1, iv ch2, iv ch3, rv b4, rv b5, rv b7, rv b10, .unset, .unset] [(.ref b7), (.ref b25), (.ref b25)])) rfl (by rw [hml]; rfl) (Steps.refl _) (a := b25) (argsL := [(.ref b7)]) (rest := [(.ref b25)]) (lenOf pd_16 rfl) rfl (by show 2 * 0 + _ ≤ _; exact Nat.le_of_eq rfl) (hb hby at_124) (fun _ _ => ⟨rfl, e25, (by decide : 11 + 2 ≤ _), (by decide : 70 + 6 ≤ _)⟩)
    dsimp only [Pt.U, Pt.locs, Pt.cells, Pt.slots] at X26 l26 y26 z26 st26 hQ26
    subst l26 y26 z26
    obtain ⟨rfl, M26, K26_, f26_0⟩ := hQ26
    have zz26 := K26_.1
    have O26 := O25.keep K26_ (allS (show n0 ≤ b25 by omega) all0)
    have N26 := Fr.app N13 M26
    have ltsf26_0 := own_ltN f26_0.lt
    refine og T26 (mkF m 127 #[iv v0, iv v1, iv v2, iv v3, iv 2, iv ch1, iv ch2, iv ch3, rv b4, rv b5, rv b7, rv b10, .unset, .unset] [(.ref b25)]) (fun t_ k_ => st26.trans k_) ?_
    refine og T26 (mkF m 129 #[iv v0, iv v1, iv v2, iv v3, iv 2, iv ch1, iv ch2, iv ch3, rv b4, rv b5, rv b7, rv b10, rv b25, .unset] []) (fun t_ k_ => XS.astore X26.here hx rfl (hb hby at_127) rfl rfl (l' := #[iv v0, iv v1, iv v2, iv v3, iv 2, iv ch1, iv ch2, iv ch3, rv b4, rv b5, rv b7, rv b10, rv b25, .unset]) rfl k_) ?_
    refine og T26 (mkF m 143 #[iv v0, iv v1, iv v2, iv v3, iv 2, iv ch1, iv ch2, iv ch3, rv b4, rv b5, rv b7, rv b10, rv b25, .unset] []) (fun t_ k_ => XS.goto X26.here hx rfl (pc0 := 129) (pc' := 143) rfl (hb hby at_129) (by decide) (by decide) k_) ?_
    refine og T26 (mkF m 145 #[iv v0, iv v1, iv v2, iv v3, iv 2, iv ch1, iv ch2, iv ch3, rv b4, rv b5, rv b7, rv b10, rv b25, .unset] [(.int 2)]) (fun t_ k_ => XS.iload X26.here hx rfl (hb hby at_143) rfl k_) ?_
    refine og T26 (mkF m 146 #[iv v0, iv v1, iv v2, iv v3, iv 2, iv ch1, iv ch2, iv ch3, rv b4, rv b5, rv b7, rv b10, rv b25, .unset] [(.int 1), (.int 2)]) (fun t_ k_ => XS.iconst X26.here hx rfl (hb hby at_145) k_) ?_
    refine og T26 (mkF m 149 #[iv v0, iv v1, iv v2, iv v3, iv 2, iv ch1, iv ch2, iv ch3, rv b4, rv b5, rv b7, rv b10, rv b25, .unset] []) (fun t_ k_ => XS.icmpNo X26.here hx rfl (hb hby at_146) rfl (flt (by decide)).1 k_) ?_
    refine og T26 (mkF m 151 #[iv v0, iv v1, iv v2, iv v3, iv 2, iv ch1, iv ch2, iv ch3, rv b4, rv b5, rv b7, rv b10, rv b25, .unset] [(.int ch1)]) (fun t_ k_ => XS.iload X26.here hx rfl (hb hby at_149) rfl k_) ?_
    obtain ⟨_, _, ⟨T28, L28, k28, n28⟩, -, X28, ⟨Lc28, hQ28, l28, y28, z28⟩, st28⟩ := Jvm.LawKit.callS X26 hx (y := ym_21) hown (mvT hZ (own_w hw 74 rfl)) (mvT hZ (own_w hw 75 rfl)) (mvT hZ (own_w hw 2 rfl)) (mvT hZ (own_w hw 76 rfl)) (by decide) (backOf (W := 0) (rm_ws l Z a0 hw [] ch1 T26.heap n0 (show n0 ≤ T26.heap.size by omega) f1_0) hZ (own_w hw 76 rfl) (own_w hw 2 rfl) (by decide) (by decide)) (g := (mkF m 151 #[iv v0, iv v1, iv v2, iv v3, iv 2, iv ch1, iv ch2, iv ch3, rv b4, rv b5, rv b7, rv b10, rv b25, .unset] [(.int ch1)])) rfl (by rw [hml]; rfl) (argsL := [(.int ch1)]) (rest := []) (lenOf pd_18 rfl) rfl (by show 2 * 0 + _ ≤ _; exact Nat.le_of_eq rfl) (hb hby at_151) (fun _ _ => ⟨rfl, rfl, (by decide : 13 + 0 ≤ _), (by decide : 76 + 0 ≤ _)⟩)
    dsimp only [Pt.U, Pt.locs, Pt.cells, Pt.slots] at X28 l28 y28 z28 st28 hQ28
    subst l28 y28 z28
    obtain ⟨rfl, M28, e28⟩ := hQ28
    have N28 := Fr.app N26 M28
    refine og T28 (mkF m 154 #[iv v0, iv v1, iv v2, iv v3, iv 2, iv ch1, iv ch2, iv ch3, rv b4, rv b5, rv b7, rv b10, rv b25, .unset] [(.int (if own_W ch1 then (1 : Int32) else (0 : Int32)))]) (fun t_ k_ => st28 _ k_) ?_
    by_cases hq29_ : own_W ch1
    · skip
      refine og T28 (mkF m 157 #[iv v0, iv v1, iv v2, iv v3, iv 2, iv ch1, iv ch2, iv ch3, rv b4, rv b5, rv b7, rv b10, rv b25, .unset] []) (fun t_ k_ => XS.ifNo X28.here hx rfl (hb hby at_154) rfl ((if0 _ _).trans (feq (own_t1 hq29_)).1) k_) ?_
      refine og T28 (mkF m 159 #[iv v0, iv v1, iv v2, iv v3, iv 2, iv ch1, iv ch2, iv ch3, rv b4, rv b5, rv b7, rv b10, rv b25, .unset] [(.int 2)]) (fun t_ k_ => XS.iload X28.here hx rfl (hb hby at_157) rfl k_) ?_
      refine og T28 (mkF m 160 #[iv v0, iv v1, iv v2, iv v3, iv 2, iv ch1, iv ch2, iv ch3, rv b4, rv b5, rv b7, rv b10, rv b25, .unset] [(.int 2), (.int 2)]) (fun t_ k_ => XS.iconst X28.here hx rfl (hb hby at_159) k_) ?_
      refine og T28 (mkF m 163 #[iv v0, iv v1, iv v2, iv v3, iv 2, iv ch1, iv ch2, iv ch3, rv b4, rv b5, rv b7, rv b10, rv b25, .unset] []) (fun t_ k_ => XS.icmpNo X28.here hx rfl (hb hby at_160) rfl (flt (by decide)).1 k_) ?_
      refine og T28 (mkF m 165 #[iv v0, iv v1, iv v2, iv v3, iv 2, iv ch1, iv ch2, iv ch3, rv b4, rv b5, rv b7, rv b10, rv b25, .unset] [(.int ch2)]) (fun t_ k_ => XS.iload X28.here hx rfl (hb hby at_163) rfl k_) ?_
      obtain ⟨_, _, ⟨T30, L30, k30, n30⟩, -, X30, ⟨Lc30, hQ30, l30, y30, z30⟩, st30⟩ := Jvm.LawKit.callS X28 hx (y := ym_21) hown (mvT hZ (own_w hw 74 rfl)) (mvT hZ (own_w hw 75 rfl)) (mvT hZ (own_w hw 2 rfl)) (mvT hZ (own_w hw 76 rfl)) (by decide) (backOf (W := 0) (rm_ws l Z a0 hw [] ch2 T26.heap n0 (show n0 ≤ T26.heap.size by omega) f2_0) hZ (own_w hw 76 rfl) (own_w hw 2 rfl) (by decide) (by decide)) (g := (mkF m 165 #[iv v0, iv v1, iv v2, iv v3, iv 2, iv ch1, iv ch2, iv ch3, rv b4, rv b5, rv b7, rv b10, rv b25, .unset] [(.int ch2)])) rfl (by rw [hml]; rfl) (argsL := [(.int ch2)]) (rest := []) (lenOf pd_18 rfl) rfl (by show 2 * 0 + _ ≤ _; exact Nat.le_of_eq rfl) (hb hby at_165) (fun _ _ => ⟨rfl, e28, (by decide : 13 + 0 ≤ _), (by decide : 76 + 0 ≤ _)⟩)
      dsimp only [Pt.U, Pt.locs, Pt.cells, Pt.slots] at X30 l30 y30 z30 st30 hQ30
      subst l30 y30 z30
      obtain ⟨rfl, M30, e30⟩ := hQ30
      have N30 := Fr.app N28 M30
      refine og T30 (mkF m 168 #[iv v0, iv v1, iv v2, iv v3, iv 2, iv ch1, iv ch2, iv ch3, rv b4, rv b5, rv b7, rv b10, rv b25, .unset] [(.int (if own_W ch2 then (1 : Int32) else (0 : Int32)))]) (fun t_ k_ => st30 _ k_) ?_
      by_cases hq31_ : own_W ch2
      · skip
        refine og T30 (mkF m 171 #[iv v0, iv v1, iv v2, iv v3, iv 2, iv ch1, iv ch2, iv ch3, rv b4, rv b5, rv b7, rv b10, rv b25, .unset] []) (fun t_ k_ => XS.ifNo X30.here hx rfl (hb hby at_168) rfl ((if0 _ _).trans (feq (own_t1 hq31_)).1) k_) ?_
        refine og T30 (mkF m 173 #[iv v0, iv v1, iv v2, iv v3, iv 2, iv ch1, iv ch2, iv ch3, rv b4, rv b5, rv b7, rv b10, rv b25, .unset] [(.int 2)]) (fun t_ k_ => XS.iload X30.here hx rfl (hb hby at_171) rfl k_) ?_
        refine og T30 (mkF m 174 #[iv v0, iv v1, iv v2, iv v3, iv 2, iv ch1, iv ch2, iv ch3, rv b4, rv b5, rv b7, rv b10, rv b25, .unset] [(.int 3), (.int 2)]) (fun t_ k_ => XS.iconst X30.here hx rfl (hb hby at_173) k_) ?_
        refine og T30 (mkF m 185 #[iv v0, iv v1, iv v2, iv v3, iv 2, iv ch1, iv ch2, iv ch3, rv b4, rv b5, rv b7, rv b10, rv b25, .unset] []) (fun t_ k_ => XS.icmpYes X30.here hx rfl (pc0 := 174) (pc' := 185) rfl (hb hby at_174) rfl (tlt (by decide)).1 (by decide) (by decide) k_) ?_
        refine og T30 (mkF m 186 #[iv v0, iv v1, iv v2, iv v3, iv 2, iv ch1, iv ch2, iv ch3, rv b4, rv b5, rv b7, rv b10, rv b25, .unset] [(.int 1)]) (fun t_ k_ => XS.iconst X30.here hx rfl (hb hby at_185) k_) ?_
        refine og T30 (mkF m 190 #[iv v0, iv v1, iv v2, iv v3, iv 2, iv ch1, iv ch2, iv ch3, rv b4, rv b5, rv b7, rv b10, rv b25, .unset] [(.int 1)]) (fun t_ k_ => XS.goto X30.here hx rfl (pc0 := 186) (pc' := 190) rfl (hb hby at_186) (by decide) (by decide) k_) ?_
        refine og T30 (mkF m 192 #[iv v0, iv v1, iv v2, iv v3, iv 2, iv ch1, iv ch2, iv ch3, rv b4, rv b5, rv b7, rv b10, rv b25, iv 1] []) (fun t_ k_ => XS.istore X30.here hx rfl (hb hby at_190) rfl (l' := #[iv v0, iv v1, iv v2, iv v3, iv 2, iv ch1, iv ch2, iv ch3, rv b4, rv b5, rv b7, rv b10, rv b25, iv 1]) rfl k_) ?_
        refine og T30 (mkF m 194 #[iv v0, iv v1, iv v2, iv v3, iv 2, iv ch1, iv ch2, iv ch3, rv b4, rv b5, rv b7, rv b10, rv b25, iv 1] [(.ref b25)]) (fun t_ k_ => XS.aload X30.here hx rfl (hb hby at_192) rfl rfl k_) ?_
        obtain ⟨_, _, ⟨T32, L32, k32, n32⟩, -, X32, ⟨Lc32, hQ32, l32, y32, z32⟩, st32⟩ := Jvm.LawKit.callS X30 hx (y := ym_15) hown (mvT hZ (own_w hw 50 rfl)) (mvT hZ (own_w hw 51 rfl)) (mvT hZ (own_w hw 52 rfl)) (mvT hZ (own_w hw 53 rfl)) (by decide) (backOf (W := 0) (rm_isw2 l Z a0 hw [] b25 T26.heap.size ch1 ch2 cz fm T26.heap n0 (show n0 ≤ T26.heap.size by omega) f26_0 f1_0 f2_0 O26 S_COMPACT_STRINGS hcz S__assertionsDisabled S_HI_BYTE_SHIFT S_LO_BYTE_SHIFT rf S_SIOOBE_FORMATTER) hZ (own_w hw 53 rfl) (own_w hw 52 rfl) (by decide) (by decide)) (g := (mkF m 194 #[iv v0, iv v1, iv v2, iv v3, iv 2, iv ch1, iv ch2, iv ch3, rv b4, rv b5, rv b7, rv b10, rv b25, iv 1] [(.ref b25)])) rfl (by rw [hml]; rfl) (argsL := [(.ref b25)]) (rest := []) (lenOf pd_17 rfl) rfl (by show 2 * 0 + _ ≤ _; exact Nat.le_of_eq rfl) (hb hby at_194) (fun _ _ => ⟨rfl, e30, (by decide : 13 + 0 ≤ _), (by decide : 76 + 0 ≤ _)⟩)
        dsimp only [Pt.U, Pt.locs, Pt.cells, Pt.slots] at X32 l32 y32 z32 st32 hQ32
        subst l32 y32 z32
        obtain ⟨rfl, M32, e32⟩ := hQ32
        have N32 := Fr.app N30 M32
        refine og T32 (mkF m 197 #[iv v0, iv v1, iv v2, iv v3, iv 2, iv ch1, iv ch2, iv ch3, rv b4, rv b5, rv b7, rv b10, rv b25, iv 1] [(.int (if own_W ch1 then (if own_W ch2 then (1 : Int32) else (0 : Int32)) else (0 : Int32)))]) (fun t_ k_ => st32 _ k_) ?_
        refine og T32 (mkF m 199 #[iv v0, iv v1, iv v2, iv v3, iv 2, iv ch1, iv ch2, iv ch3, rv b4, rv b5, rv b7, rv b10, rv b25, iv 1] [(.int 1), (.int (if own_W ch1 then (if own_W ch2 then (1 : Int32) else (0 : Int32)) else (0 : Int32)))]) (fun t_ k_ => XS.iload X32.here hx rfl (hb hby at_197) rfl k_) ?_
        refine og T32 (mkF m 202 #[iv v0, iv v1, iv v2, iv v3, iv 2, iv ch1, iv ch2, iv ch3, rv b4, rv b5, rv b7, rv b10, rv b25, iv 1] []) (fun t_ k_ => XS.icmpNo X32.here hx rfl (hb hby at_199) rfl (teq (show (if own_W ch1 then (if own_W ch2 then (1 : Int32) else (0 : Int32)) else (0 : Int32)) = (1 : Int32) from (if_pos hq29_).trans ((if_pos hq31_)))).2 k_) ?_
        refine og T32 (mkF m 203 #[iv v0, iv v1, iv v2, iv v3, iv 2, iv ch1, iv ch2, iv ch3, rv b4, rv b5, rv b7, rv b10, rv b25, iv 1] [(.int 1)]) (fun t_ k_ => XS.iconst X32.here hx rfl (hb hby at_202) k_) ?_
        refine og T32 (mkF m 207 #[iv v0, iv v1, iv v2, iv v3, iv 2, iv ch1, iv ch2, iv ch3, rv b4, rv b5, rv b7, rv b10, rv b25, iv 1] [(.int 1)]) (fun t_ k_ => XS.goto X32.here hx rfl (pc0 := 203) (pc' := 207) rfl (hb hby at_203) (by decide) (by decide) k_) ?_
        exact own_outW X32 hS (show _ ≤ T32.heap.size by rw [e32]; omega) (v := some (.int (nar .boolean (1 : Int32)))) (fun h => by rw [hret] at h; cases h) hlk (fun fs hr => retN X32 hx (t := .boolean) hret (by simp) (hb hby at_207) hr) (Q := Q_rm_law Z v0 v1 v2 v3 cz fm h0 n0) (by rw [e32]; exact ⟨rfl, N32⟩) (by decide) (by decide)
      · skip
        refine og T30 (mkF m 189 #[iv v0, iv v1, iv v2, iv v3, iv 2, iv ch1, iv ch2, iv ch3, rv b4, rv b5, rv b7, rv b10, rv b25, .unset] []) (fun t_ k_ => XS.ifYes X30.here hx rfl (pc0 := 168) (pc' := 189) rfl (hb hby at_168) rfl ((if0 _ _).trans (teq (own_f1 hq31_)).1) (by decide) (by decide) k_) ?_
        refine og T30 (mkF m 190 #[iv v0, iv v1, iv v2, iv v3, iv 2, iv ch1, iv ch2, iv ch3, rv b4, rv b5, rv b7, rv b10, rv b25, .unset] [(.int 0)]) (fun t_ k_ => XS.iconst X30.here hx rfl (hb hby at_189) k_) ?_
        refine og T30 (mkF m 192 #[iv v0, iv v1, iv v2, iv v3, iv 2, iv ch1, iv ch2, iv ch3, rv b4, rv b5, rv b7, rv b10, rv b25, iv 0] []) (fun t_ k_ => XS.istore X30.here hx rfl (hb hby at_190) rfl (l' := #[iv v0, iv v1, iv v2, iv v3, iv 2, iv ch1, iv ch2, iv ch3, rv b4, rv b5, rv b7, rv b10, rv b25, iv 0]) rfl k_) ?_
        refine og T30 (mkF m 194 #[iv v0, iv v1, iv v2, iv v3, iv 2, iv ch1, iv ch2, iv ch3, rv b4, rv b5, rv b7, rv b10, rv b25, iv 0] [(.ref b25)]) (fun t_ k_ => XS.aload X30.here hx rfl (hb hby at_192) rfl rfl k_) ?_
        obtain ⟨_, _, ⟨T33, L33, k33, n33⟩, -, X33, ⟨Lc33, hQ33, l33, y33, z33⟩, st33⟩ := Jvm.LawKit.callS X30 hx (y := ym_15) hown (mvT hZ (own_w hw 50 rfl)) (mvT hZ (own_w hw 51 rfl)) (mvT hZ (own_w hw 52 rfl)) (mvT hZ (own_w hw 53 rfl)) (by decide) (backOf (W := 0) (rm_isw2 l Z a0 hw [] b25 T26.heap.size ch1 ch2 cz fm T26.heap n0 (show n0 ≤ T26.heap.size by omega) f26_0 f1_0 f2_0 O26 S_COMPACT_STRINGS hcz S__assertionsDisabled S_HI_BYTE_SHIFT S_LO_BYTE_SHIFT rf S_SIOOBE_FORMATTER) hZ (own_w hw 53 rfl) (own_w hw 52 rfl) (by decide) (by decide)) (g := (mkF m 194 #[iv v0, iv v1, iv v2, iv v3, iv 2, iv ch1, iv ch2, iv ch3, rv b4, rv b5, rv b7, rv b10, rv b25, iv 0] [(.ref b25)])) rfl (by rw [hml]; rfl) (argsL := [(.ref b25)]) (rest := []) (lenOf pd_17 rfl) rfl (by show 2 * 0 + _ ≤ _; exact Nat.le_of_eq rfl) (hb hby at_194) (fun _ _ => ⟨rfl, e30, (by decide : 13 + 0 ≤ _), (by decide : 76 + 0 ≤ _)⟩)
        dsimp only [Pt.U, Pt.locs, Pt.cells, Pt.slots] at X33 l33 y33 z33 st33 hQ33
        subst l33 y33 z33
        obtain ⟨rfl, M33, e33⟩ := hQ33
        have N33 := Fr.app N30 M33
        refine og T33 (mkF m 197 #[iv v0, iv v1, iv v2, iv v3, iv 2, iv ch1, iv ch2, iv ch3, rv b4, rv b5, rv b7, rv b10, rv b25, iv 0] [(.int (if own_W ch1 then (if own_W ch2 then (1 : Int32) else (0 : Int32)) else (0 : Int32)))]) (fun t_ k_ => st33 _ k_) ?_
        refine og T33 (mkF m 199 #[iv v0, iv v1, iv v2, iv v3, iv 2, iv ch1, iv ch2, iv ch3, rv b4, rv b5, rv b7, rv b10, rv b25, iv 0] [(.int 0), (.int (if own_W ch1 then (if own_W ch2 then (1 : Int32) else (0 : Int32)) else (0 : Int32)))]) (fun t_ k_ => XS.iload X33.here hx rfl (hb hby at_197) rfl k_) ?_
        refine og T33 (mkF m 202 #[iv v0, iv v1, iv v2, iv v3, iv 2, iv ch1, iv ch2, iv ch3, rv b4, rv b5, rv b7, rv b10, rv b25, iv 0] []) (fun t_ k_ => XS.icmpNo X33.here hx rfl (hb hby at_199) rfl (teq (show (if own_W ch1 then (if own_W ch2 then (1 : Int32) else (0 : Int32)) else (0 : Int32)) = (0 : Int32) from (if_pos hq29_).trans ((if_neg hq31_)))).2 k_) ?_
        refine og T33 (mkF m 203 #[iv v0, iv v1, iv v2, iv v3, iv 2, iv ch1, iv ch2, iv ch3, rv b4, rv b5, rv b7, rv b10, rv b25, iv 0] [(.int 1)]) (fun t_ k_ => XS.iconst X33.here hx rfl (hb hby at_202) k_) ?_
        refine og T33 (mkF m 207 #[iv v0, iv v1, iv v2, iv v3, iv 2, iv ch1, iv ch2, iv ch3, rv b4, rv b5, rv b7, rv b10, rv b25, iv 0] [(.int 1)]) (fun t_ k_ => XS.goto X33.here hx rfl (pc0 := 203) (pc' := 207) rfl (hb hby at_203) (by decide) (by decide) k_) ?_
        exact own_outW X33 hS (show _ ≤ T33.heap.size by rw [e33]; omega) (v := some (.int (nar .boolean (1 : Int32)))) (fun h => by rw [hret] at h; cases h) hlk (fun fs hr => retN X33 hx (t := .boolean) hret (by simp) (hb hby at_207) hr) (Q := Q_rm_law Z v0 v1 v2 v3 cz fm h0 n0) (by rw [e33]; exact ⟨rfl, N33⟩) (by decide) (by decide)
    · skip
      refine og T28 (mkF m 189 #[iv v0, iv v1, iv v2, iv v3, iv 2, iv ch1, iv ch2, iv ch3, rv b4, rv b5, rv b7, rv b10, rv b25, .unset] []) (fun t_ k_ => XS.ifYes X28.here hx rfl (pc0 := 154) (pc' := 189) rfl (hb hby at_154) rfl ((if0 _ _).trans (teq (own_f1 hq29_)).1) (by decide) (by decide) k_) ?_
      refine og T28 (mkF m 190 #[iv v0, iv v1, iv v2, iv v3, iv 2, iv ch1, iv ch2, iv ch3, rv b4, rv b5, rv b7, rv b10, rv b25, .unset] [(.int 0)]) (fun t_ k_ => XS.iconst X28.here hx rfl (hb hby at_189) k_) ?_
      refine og T28 (mkF m 192 #[iv v0, iv v1, iv v2, iv v3, iv 2, iv ch1, iv ch2, iv ch3, rv b4, rv b5, rv b7, rv b10, rv b25, iv 0] []) (fun t_ k_ => XS.istore X28.here hx rfl (hb hby at_190) rfl (l' := #[iv v0, iv v1, iv v2, iv v3, iv 2, iv ch1, iv ch2, iv ch3, rv b4, rv b5, rv b7, rv b10, rv b25, iv 0]) rfl k_) ?_
      refine og T28 (mkF m 194 #[iv v0, iv v1, iv v2, iv v3, iv 2, iv ch1, iv ch2, iv ch3, rv b4, rv b5, rv b7, rv b10, rv b25, iv 0] [(.ref b25)]) (fun t_ k_ => XS.aload X28.here hx rfl (hb hby at_192) rfl rfl k_) ?_
      obtain ⟨_, _, ⟨T34, L34, k34, n34⟩, -, X34, ⟨Lc34, hQ34, l34, y34, z34⟩, st34⟩ := Jvm.LawKit.callS X28 hx (y := ym_15) hown (mvT hZ (own_w hw 50 rfl)) (mvT hZ (own_w hw 51 rfl)) (mvT hZ (own_w hw 52 rfl)) (mvT hZ (own_w hw 53 rfl)) (by decide) (backOf (W := 0) (rm_isw2 l Z a0 hw [] b25 T26.heap.size ch1 ch2 cz fm T26.heap n0 (show n0 ≤ T26.heap.size by omega) f26_0 f1_0 f2_0 O26 S_COMPACT_STRINGS hcz S__assertionsDisabled S_HI_BYTE_SHIFT S_LO_BYTE_SHIFT rf S_SIOOBE_FORMATTER) hZ (own_w hw 53 rfl) (own_w hw 52 rfl) (by decide) (by decide)) (g := (mkF m 194 #[iv v0, iv v1, iv v2, iv v3, iv 2, iv ch1, iv ch2, iv ch3, rv b4, rv b5, rv b7, rv b10, rv b25, iv 0] [(.ref b25)])) rfl (by rw [hml]; rfl) (argsL := [(.ref b25)]) (rest := []) (lenOf pd_17 rfl) rfl (by show 2 * 0 + _ ≤ _; exact Nat.le_of_eq rfl) (hb hby at_194) (fun _ _ => ⟨rfl, e28, (by decide : 13 + 0 ≤ _), (by decide : 76 + 0 ≤ _)⟩)
      dsimp only [Pt.U, Pt.locs, Pt.cells, Pt.slots] at X34 l34 y34 z34 st34 hQ34
      subst l34 y34 z34
      obtain ⟨rfl, M34, e34⟩ := hQ34
      have N34 := Fr.app N28 M34
      refine og T34 (mkF m 197 #[iv v0, iv v1, iv v2, iv v3, iv 2, iv ch1, iv ch2, iv ch3, rv b4, rv b5, rv b7, rv b10, rv b25, iv 0] [(.int (if own_W ch1 then (if own_W ch2 then (1 : Int32) else (0 : Int32)) else (0 : Int32)))]) (fun t_ k_ => st34 _ k_) ?_
      refine og T34 (mkF m 199 #[iv v0, iv v1, iv v2, iv v3, iv 2, iv ch1, iv ch2, iv ch3, rv b4, rv b5, rv b7, rv b10, rv b25, iv 0] [(.int 0), (.int (if own_W ch1 then (if own_W ch2 then (1 : Int32) else (0 : Int32)) else (0 : Int32)))]) (fun t_ k_ => XS.iload X34.here hx rfl (hb hby at_197) rfl k_) ?_
      refine og T34 (mkF m 202 #[iv v0, iv v1, iv v2, iv v3, iv 2, iv ch1, iv ch2, iv ch3, rv b4, rv b5, rv b7, rv b10, rv b25, iv 0] []) (fun t_ k_ => XS.icmpNo X34.here hx rfl (hb hby at_199) rfl (teq (show (if own_W ch1 then (if own_W ch2 then (1 : Int32) else (0 : Int32)) else (0 : Int32)) = (0 : Int32) from (if_neg hq29_))).2 k_) ?_
      refine og T34 (mkF m 203 #[iv v0, iv v1, iv v2, iv v3, iv 2, iv ch1, iv ch2, iv ch3, rv b4, rv b5, rv b7, rv b10, rv b25, iv 0] [(.int 1)]) (fun t_ k_ => XS.iconst X34.here hx rfl (hb hby at_202) k_) ?_
      refine og T34 (mkF m 207 #[iv v0, iv v1, iv v2, iv v3, iv 2, iv ch1, iv ch2, iv ch3, rv b4, rv b5, rv b7, rv b10, rv b25, iv 0] [(.int 1)]) (fun t_ k_ => XS.goto X34.here hx rfl (pc0 := 203) (pc' := 207) rfl (hb hby at_203) (by decide) (by decide) k_) ?_
      exact own_outW X34 hS (show _ ≤ T34.heap.size by rw [e34]; omega) (v := some (.int (nar .boolean (1 : Int32)))) (fun h => by rw [hret] at h; cases h) hlk (fun fs hr => retN X34 hx (t := .boolean) hret (by simp) (hb hby at_207) hr) (Q := Q_rm_law Z v0 v1 v2 v3 cz fm h0 n0) (by rw [e34]; exact ⟨rfl, N34⟩) (by decide) (by decide)
  · skip
    refine og T13 (mkF m 75 #[iv v0, iv v1, iv v2, iv v3, iv 3, iv ch1, iv ch2, iv ch3, rv b4, rv b5, rv b7, rv b10, .unset, .unset] [(.int 3)]) (fun t_ k_ => XS.iload X13.here hx rfl (hb hby at_73) rfl k_) ?_
    refine og T13 (mkF m 92 #[iv v0, iv v1, iv v2, iv v3, iv 3, iv ch1, iv ch2, iv ch3, rv b4, rv b5, rv b7, rv b10, .unset, .unset] []) (fun t_ k_ => XS.ifYes X13.here hx rfl (pc0 := 75) (pc' := 92) rfl (hb hby at_75) rfl ((if0 _ _).trans (feq (by decide)).2) (by decide) (by decide) k_) ?_
    refine og T13 (mkF m 94 #[iv v0, iv v1, iv v2, iv v3, iv 3, iv ch1, iv ch2, iv ch3, rv b4, rv b5, rv b7, rv b10, .unset, .unset] [(.int 3)]) (fun t_ k_ => XS.iload X13.here hx rfl (hb hby at_92) rfl k_) ?_
    refine og T13 (mkF m 95 #[iv v0, iv v1, iv v2, iv v3, iv 3, iv ch1, iv ch2, iv ch3, rv b4, rv b5, rv b7, rv b10, .unset, .unset] [(.int 1), (.int 3)]) (fun t_ k_ => XS.iconst X13.here hx rfl (hb hby at_94) k_) ?_
    refine og T13 (mkF m 112 #[iv v0, iv v1, iv v2, iv v3, iv 3, iv ch1, iv ch2, iv ch3, rv b4, rv b5, rv b7, rv b10, .unset, .unset] []) (fun t_ k_ => XS.icmpYes X13.here hx rfl (pc0 := 95) (pc' := 112) rfl (hb hby at_95) rfl (feq (by decide)).2 (by decide) (by decide) k_) ?_
    refine og T13 (mkF m 114 #[iv v0, iv v1, iv v2, iv v3, iv 3, iv ch1, iv ch2, iv ch3, rv b4, rv b5, rv b7, rv b10, .unset, .unset] [(.int 3)]) (fun t_ k_ => XS.iload X13.here hx rfl (hb hby at_112) rfl k_) ?_
    refine og T13 (mkF m 115 #[iv v0, iv v1, iv v2, iv v3, iv 3, iv ch1, iv ch2, iv ch3, rv b4, rv b5, rv b7, rv b10, .unset, .unset] [(.int 2), (.int 3)]) (fun t_ k_ => XS.iconst X13.here hx rfl (hb hby at_114) k_) ?_
    refine og T13 (mkF m 132 #[iv v0, iv v1, iv v2, iv v3, iv 3, iv ch1, iv ch2, iv ch3, rv b4, rv b5, rv b7, rv b10, .unset, .unset] []) (fun t_ k_ => XS.icmpYes X13.here hx rfl (pc0 := 115) (pc' := 132) rfl (hb hby at_115) rfl (feq (by decide)).2 (by decide) (by decide) k_) ?_
    obtain ⟨T35, h35, X35, e35, E35, A35, D35, -, st35⟩ := newO X13 hx hZ hown (own_w hw 38 rfl) (own_w hw 6 rfl) (own_w hw 5 rfl) e13 (g := (mkF m 132 #[iv v0, iv v1, iv v2, iv v3, iv 3, iv ch1, iv ch2, iv ch3, rv b4, rv b5, rv b7, rv b10, .unset, .unset] [])) rfl (hb hby at_132) (by decide) (by decide)
    obtain ⟨b35, g35⟩ : ∃ z, z = h13.size := ⟨_, rfl⟩
    rw [← g35] at A35 D35 st35
    have l35 := own_ltN A35.lt
    have z35 := E35.1
    have O35 := O13.ext E35
    have F35_value : Fld Z h35 b35 "java/lang/String" "value" "[B" .null := D35 (Or.inr (own_w hw 8 rfl)) (ty := (.array .byte)) (by decide)
    have F35_coder : Fld Z h35 b35 "java/lang/String" "coder" "B" (.int 0) := D35 (Or.inr (own_w hw 9 rfl)) (ty := .byte) (by decide)
    refine og T35 (mkF m 135 #[iv v0, iv v1, iv v2, iv v3, iv 3, iv ch1, iv ch2, iv ch3, rv b4, rv b5, rv b7, rv b10, .unset, .unset] [(.ref b35)]) (fun t_ k_ => st35 _ k_) ?_
    refine og T35 (mkF m 136 #[iv v0, iv v1, iv v2, iv v3, iv 3, iv ch1, iv ch2, iv ch3, rv b4, rv b5, rv b7, rv b10, .unset, .unset] [(.ref b35), (.ref b35)]) (fun t_ k_ => XS.dup X35.here hx rfl (hb hby at_135) rfl rfl k_) ?_
    refine og T35 (mkF m 138 #[iv v0, iv v1, iv v2, iv v3, iv 3, iv ch1, iv ch2, iv ch3, rv b4, rv b5, rv b7, rv b10, .unset, .unset] [(.ref b10), (.ref b35), (.ref b35)]) (fun t_ k_ => XS.aload X35.here hx rfl (hb hby at_136) rfl rfl k_) ?_
    have ff37 := (V13.ext E35)
    obtain ⟨_, _, ⟨T36, L36, k36, n36⟩, -, X36, ⟨Lc36, hQ36, l36, y36, z36⟩, st36⟩ := X35.specialBack hx (y := ym_13) rfl hown (mvT hZ (own_w hw 39 rfl)) (mvT hZ (own_w hw 40 rfl)) (mvT hZ (own_w hw 41 rfl)) (by decide) (backOf (W := 1) (rm_ina3 l Z a0 hw [] b35 b10 ch1 ch2 ch3 k10 cz h35 n0 (show n0 ≤ h35.size by omega) f1_0 f2_0 f3_0 ff37 O35 S__assertionsDisabled S_HI_BYTE_SHIFT S_LO_BYTE_SHIFT S_COMPACT_STRINGS hcz A35 F35_value F35_coder (show n0 ≤ b35 by omega) (show b10 ≠ b35 by omega)) hZ (own_w hw 41 rfl) (own_w hw 5 rfl) (by decide) (by decide)) (g := (mkF m 138 #[iv v0, iv v1, iv v2, iv v3, iv 3, iv ch1, iv ch2, iv ch3, rv b4, rv b5, rv b7, rv b10, .unset, .unset] [(.ref b10), (.ref b35), (.ref b35)])) rfl (by rw [hml]; rfl) (Steps.refl _) (a := b35) (argsL := [(.ref b10)]) (rest := [(.ref b35)]) (lenOf pd_16 rfl) rfl (by show 2 * 0 + _ ≤ _; exact Nat.le_of_eq rfl) (hb hby at_138) (fun _ _ => ⟨rfl, e35, (by decide : 11 + 2 ≤ _), (by decide : 70 + 9 ≤ _)⟩)
    dsimp only [Pt.U, Pt.locs, Pt.cells, Pt.slots] at X36 l36 y36 z36 st36 hQ36
    subst l36 y36 z36
    obtain ⟨rfl, M36, K36_, f36_0⟩ := hQ36
    have zz36 := K36_.1
    have O36 := O35.keep K36_ (allS (show n0 ≤ b35 by omega) all0)
    have N36 := Fr.app N13 M36
    have ltsf36_0 := own_ltN f36_0.lt
    refine og T36 (mkF m 141 #[iv v0, iv v1, iv v2, iv v3, iv 3, iv ch1, iv ch2, iv ch3, rv b4, rv b5, rv b7, rv b10, .unset, .unset] [(.ref b35)]) (fun t_ k_ => st36.trans k_) ?_
    refine og T36 (mkF m 143 #[iv v0, iv v1, iv v2, iv v3, iv 3, iv ch1, iv ch2, iv ch3, rv b4, rv b5, rv b7, rv b10, rv b35, .unset] []) (fun t_ k_ => XS.astore X36.here hx rfl (hb hby at_141) rfl rfl (l' := #[iv v0, iv v1, iv v2, iv v3, iv 3, iv ch1, iv ch2, iv ch3, rv b4, rv b5, rv b7, rv b10, rv b35, .unset]) rfl k_) ?_
    refine og T36 (mkF m 145 #[iv v0, iv v1, iv v2, iv v3, iv 3, iv ch1, iv ch2, iv ch3, rv b4, rv b5, rv b7, rv b10, rv b35, .unset] [(.int 3)]) (fun t_ k_ => XS.iload X36.here hx rfl (hb hby at_143) rfl k_) ?_
    refine og T36 (mkF m 146 #[iv v0, iv v1, iv v2, iv v3, iv 3, iv ch1, iv ch2, iv ch3, rv b4, rv b5, rv b7, rv b10, rv b35, .unset] [(.int 1), (.int 3)]) (fun t_ k_ => XS.iconst X36.here hx rfl (hb hby at_145) k_) ?_
    refine og T36 (mkF m 149 #[iv v0, iv v1, iv v2, iv v3, iv 3, iv ch1, iv ch2, iv ch3, rv b4, rv b5, rv b7, rv b10, rv b35, .unset] []) (fun t_ k_ => XS.icmpNo X36.here hx rfl (hb hby at_146) rfl (flt (by decide)).1 k_) ?_
    refine og T36 (mkF m 151 #[iv v0, iv v1, iv v2, iv v3, iv 3, iv ch1, iv ch2, iv ch3, rv b4, rv b5, rv b7, rv b10, rv b35, .unset] [(.int ch1)]) (fun t_ k_ => XS.iload X36.here hx rfl (hb hby at_149) rfl k_) ?_
    obtain ⟨_, _, ⟨T38, L38, k38, n38⟩, -, X38, ⟨Lc38, hQ38, l38, y38, z38⟩, st38⟩ := Jvm.LawKit.callS X36 hx (y := ym_21) hown (mvT hZ (own_w hw 74 rfl)) (mvT hZ (own_w hw 75 rfl)) (mvT hZ (own_w hw 2 rfl)) (mvT hZ (own_w hw 76 rfl)) (by decide) (backOf (W := 0) (rm_ws l Z a0 hw [] ch1 T36.heap n0 (show n0 ≤ T36.heap.size by omega) f1_0) hZ (own_w hw 76 rfl) (own_w hw 2 rfl) (by decide) (by decide)) (g := (mkF m 151 #[iv v0, iv v1, iv v2, iv v3, iv 3, iv ch1, iv ch2, iv ch3, rv b4, rv b5, rv b7, rv b10, rv b35, .unset] [(.int ch1)])) rfl (by rw [hml]; rfl) (argsL := [(.int ch1)]) (rest := []) (lenOf pd_18 rfl) rfl (by show 2 * 0 + _ ≤ _; exact Nat.le_of_eq rfl) (hb hby at_151) (fun _ _ => ⟨rfl, rfl, (by decide : 13 + 0 ≤ _), (by decide : 79 + 0 ≤ _)⟩)
    dsimp only [Pt.U, Pt.locs, Pt.cells, Pt.slots] at X38 l38 y38 z38 st38 hQ38
    subst l38 y38 z38
    obtain ⟨rfl, M38, e38⟩ := hQ38
    have N38 := Fr.app N36 M38
    refine og T38 (mkF m 154 #[iv v0, iv v1, iv v2, iv v3, iv 3, iv ch1, iv ch2, iv ch3, rv b4, rv b5, rv b7, rv b10, rv b35, .unset] [(.int (if own_W ch1 then (1 : Int32) else (0 : Int32)))]) (fun t_ k_ => st38 _ k_) ?_
    by_cases hq39_ : own_W ch1
    · skip
      refine og T38 (mkF m 157 #[iv v0, iv v1, iv v2, iv v3, iv 3, iv ch1, iv ch2, iv ch3, rv b4, rv b5, rv b7, rv b10, rv b35, .unset] []) (fun t_ k_ => XS.ifNo X38.here hx rfl (hb hby at_154) rfl ((if0 _ _).trans (feq (own_t1 hq39_)).1) k_) ?_
      refine og T38 (mkF m 159 #[iv v0, iv v1, iv v2, iv v3, iv 3, iv ch1, iv ch2, iv ch3, rv b4, rv b5, rv b7, rv b10, rv b35, .unset] [(.int 3)]) (fun t_ k_ => XS.iload X38.here hx rfl (hb hby at_157) rfl k_) ?_
      refine og T38 (mkF m 160 #[iv v0, iv v1, iv v2, iv v3, iv 3, iv ch1, iv ch2, iv ch3, rv b4, rv b5, rv b7, rv b10, rv b35, .unset] [(.int 2), (.int 3)]) (fun t_ k_ => XS.iconst X38.here hx rfl (hb hby at_159) k_) ?_
      refine og T38 (mkF m 163 #[iv v0, iv v1, iv v2, iv v3, iv 3, iv ch1, iv ch2, iv ch3, rv b4, rv b5, rv b7, rv b10, rv b35, .unset] []) (fun t_ k_ => XS.icmpNo X38.here hx rfl (hb hby at_160) rfl (flt (by decide)).1 k_) ?_
      refine og T38 (mkF m 165 #[iv v0, iv v1, iv v2, iv v3, iv 3, iv ch1, iv ch2, iv ch3, rv b4, rv b5, rv b7, rv b10, rv b35, .unset] [(.int ch2)]) (fun t_ k_ => XS.iload X38.here hx rfl (hb hby at_163) rfl k_) ?_
      obtain ⟨_, _, ⟨T40, L40, k40, n40⟩, -, X40, ⟨Lc40, hQ40, l40, y40, z40⟩, st40⟩ := Jvm.LawKit.callS X38 hx (y := ym_21) hown (mvT hZ (own_w hw 74 rfl)) (mvT hZ (own_w hw 75 rfl)) (mvT hZ (own_w hw 2 rfl)) (mvT hZ (own_w hw 76 rfl)) (by decide) (backOf (W := 0) (rm_ws l Z a0 hw [] ch2 T36.heap n0 (show n0 ≤ T36.heap.size by omega) f2_0) hZ (own_w hw 76 rfl) (own_w hw 2 rfl) (by decide) (by decide)) (g := (mkF m 165 #[iv v0, iv v1, iv v2, iv v3, iv 3, iv ch1, iv ch2, iv ch3, rv b4, rv b5, rv b7, rv b10, rv b35, .unset] [(.int ch2)])) rfl (by rw [hml]; rfl) (argsL := [(.int ch2)]) (rest := []) (lenOf pd_18 rfl) rfl (by show 2 * 0 + _ ≤ _; exact Nat.le_of_eq rfl) (hb hby at_165) (fun _ _ => ⟨rfl, e38, (by decide : 13 + 0 ≤ _), (by decide : 79 + 0 ≤ _)⟩)
      dsimp only [Pt.U, Pt.locs, Pt.cells, Pt.slots] at X40 l40 y40 z40 st40 hQ40
      subst l40 y40 z40
      obtain ⟨rfl, M40, e40⟩ := hQ40
      have N40 := Fr.app N38 M40
      refine og T40 (mkF m 168 #[iv v0, iv v1, iv v2, iv v3, iv 3, iv ch1, iv ch2, iv ch3, rv b4, rv b5, rv b7, rv b10, rv b35, .unset] [(.int (if own_W ch2 then (1 : Int32) else (0 : Int32)))]) (fun t_ k_ => st40 _ k_) ?_
      by_cases hq41_ : own_W ch2
      · skip
        refine og T40 (mkF m 171 #[iv v0, iv v1, iv v2, iv v3, iv 3, iv ch1, iv ch2, iv ch3, rv b4, rv b5, rv b7, rv b10, rv b35, .unset] []) (fun t_ k_ => XS.ifNo X40.here hx rfl (hb hby at_168) rfl ((if0 _ _).trans (feq (own_t1 hq41_)).1) k_) ?_
        refine og T40 (mkF m 173 #[iv v0, iv v1, iv v2, iv v3, iv 3, iv ch1, iv ch2, iv ch3, rv b4, rv b5, rv b7, rv b10, rv b35, .unset] [(.int 3)]) (fun t_ k_ => XS.iload X40.here hx rfl (hb hby at_171) rfl k_) ?_
        refine og T40 (mkF m 174 #[iv v0, iv v1, iv v2, iv v3, iv 3, iv ch1, iv ch2, iv ch3, rv b4, rv b5, rv b7, rv b10, rv b35, .unset] [(.int 3), (.int 3)]) (fun t_ k_ => XS.iconst X40.here hx rfl (hb hby at_173) k_) ?_
        refine og T40 (mkF m 177 #[iv v0, iv v1, iv v2, iv v3, iv 3, iv ch1, iv ch2, iv ch3, rv b4, rv b5, rv b7, rv b10, rv b35, .unset] []) (fun t_ k_ => XS.icmpNo X40.here hx rfl (hb hby at_174) rfl (flt (by decide)).1 k_) ?_
        refine og T40 (mkF m 179 #[iv v0, iv v1, iv v2, iv v3, iv 3, iv ch1, iv ch2, iv ch3, rv b4, rv b5, rv b7, rv b10, rv b35, .unset] [(.int ch3)]) (fun t_ k_ => XS.iload X40.here hx rfl (hb hby at_177) rfl k_) ?_
        obtain ⟨_, _, ⟨T42, L42, k42, n42⟩, -, X42, ⟨Lc42, hQ42, l42, y42, z42⟩, st42⟩ := Jvm.LawKit.callS X40 hx (y := ym_21) hown (mvT hZ (own_w hw 74 rfl)) (mvT hZ (own_w hw 75 rfl)) (mvT hZ (own_w hw 2 rfl)) (mvT hZ (own_w hw 76 rfl)) (by decide) (backOf (W := 0) (rm_ws l Z a0 hw [] ch3 T36.heap n0 (show n0 ≤ T36.heap.size by omega) f3_0) hZ (own_w hw 76 rfl) (own_w hw 2 rfl) (by decide) (by decide)) (g := (mkF m 179 #[iv v0, iv v1, iv v2, iv v3, iv 3, iv ch1, iv ch2, iv ch3, rv b4, rv b5, rv b7, rv b10, rv b35, .unset] [(.int ch3)])) rfl (by rw [hml]; rfl) (argsL := [(.int ch3)]) (rest := []) (lenOf pd_18 rfl) rfl (by show 2 * 0 + _ ≤ _; exact Nat.le_of_eq rfl) (hb hby at_179) (fun _ _ => ⟨rfl, e40, (by decide : 13 + 0 ≤ _), (by decide : 79 + 0 ≤ _)⟩)
        dsimp only [Pt.U, Pt.locs, Pt.cells, Pt.slots] at X42 l42 y42 z42 st42 hQ42
        subst l42 y42 z42
        obtain ⟨rfl, M42, e42⟩ := hQ42
        have N42 := Fr.app N40 M42
        refine og T42 (mkF m 182 #[iv v0, iv v1, iv v2, iv v3, iv 3, iv ch1, iv ch2, iv ch3, rv b4, rv b5, rv b7, rv b10, rv b35, .unset] [(.int (if own_W ch3 then (1 : Int32) else (0 : Int32)))]) (fun t_ k_ => st42 _ k_) ?_
        by_cases hq43_ : own_W ch3
        · skip
          refine og T42 (mkF m 185 #[iv v0, iv v1, iv v2, iv v3, iv 3, iv ch1, iv ch2, iv ch3, rv b4, rv b5, rv b7, rv b10, rv b35, .unset] []) (fun t_ k_ => XS.ifNo X42.here hx rfl (hb hby at_182) rfl ((if0 _ _).trans (feq (own_t1 hq43_)).1) k_) ?_
          refine og T42 (mkF m 186 #[iv v0, iv v1, iv v2, iv v3, iv 3, iv ch1, iv ch2, iv ch3, rv b4, rv b5, rv b7, rv b10, rv b35, .unset] [(.int 1)]) (fun t_ k_ => XS.iconst X42.here hx rfl (hb hby at_185) k_) ?_
          refine og T42 (mkF m 190 #[iv v0, iv v1, iv v2, iv v3, iv 3, iv ch1, iv ch2, iv ch3, rv b4, rv b5, rv b7, rv b10, rv b35, .unset] [(.int 1)]) (fun t_ k_ => XS.goto X42.here hx rfl (pc0 := 186) (pc' := 190) rfl (hb hby at_186) (by decide) (by decide) k_) ?_
          refine og T42 (mkF m 192 #[iv v0, iv v1, iv v2, iv v3, iv 3, iv ch1, iv ch2, iv ch3, rv b4, rv b5, rv b7, rv b10, rv b35, iv 1] []) (fun t_ k_ => XS.istore X42.here hx rfl (hb hby at_190) rfl (l' := #[iv v0, iv v1, iv v2, iv v3, iv 3, iv ch1, iv ch2, iv ch3, rv b4, rv b5, rv b7, rv b10, rv b35, iv 1]) rfl k_) ?_
          refine og T42 (mkF m 194 #[iv v0, iv v1, iv v2, iv v3, iv 3, iv ch1, iv ch2, iv ch3, rv b4, rv b5, rv b7, rv b10, rv b35, iv 1] [(.ref b35)]) (fun t_ k_ => XS.aload X42.here hx rfl (hb hby at_192) rfl rfl k_) ?_
          obtain ⟨_, _, ⟨T44, L44, k44, n44⟩, -, X44, ⟨Lc44, hQ44, l44, y44, z44⟩, st44⟩ := Jvm.LawKit.callS X42 hx (y := ym_15) hown (mvT hZ (own_w hw 50 rfl)) (mvT hZ (own_w hw 51 rfl)) (mvT hZ (own_w hw 52 rfl)) (mvT hZ (own_w hw 53 rfl)) (by decide) (backOf (W := 0) (rm_isw3 l Z a0 hw [] b35 T36.heap.size ch1 ch2 ch3 cz fm T36.heap n0 (show n0 ≤ T36.heap.size by omega) f36_0 f1_0 f2_0 f3_0 O36 S_COMPACT_STRINGS hcz S__assertionsDisabled S_HI_BYTE_SHIFT S_LO_BYTE_SHIFT rf S_SIOOBE_FORMATTER) hZ (own_w hw 53 rfl) (own_w hw 52 rfl) (by decide) (by decide)) (g := (mkF m 194 #[iv v0, iv v1, iv v2, iv v3, iv 3, iv ch1, iv ch2, iv ch3, rv b4, rv b5, rv b7, rv b10, rv b35, iv 1] [(.ref b35)])) rfl (by rw [hml]; rfl) (argsL := [(.ref b35)]) (rest := []) (lenOf pd_17 rfl) rfl (by show 2 * 0 + _ ≤ _; exact Nat.le_of_eq rfl) (hb hby at_194) (fun _ _ => ⟨rfl, e42, (by decide : 13 + 0 ≤ _), (by decide : 79 + 0 ≤ _)⟩)
          dsimp only [Pt.U, Pt.locs, Pt.cells, Pt.slots] at X44 l44 y44 z44 st44 hQ44
          subst l44 y44 z44
          obtain ⟨rfl, M44, e44⟩ := hQ44
          have N44 := Fr.app N42 M44
          refine og T44 (mkF m 197 #[iv v0, iv v1, iv v2, iv v3, iv 3, iv ch1, iv ch2, iv ch3, rv b4, rv b5, rv b7, rv b10, rv b35, iv 1] [(.int (if own_W ch1 then (if own_W ch2 then (if own_W ch3 then (1 : Int32) else (0 : Int32)) else (0 : Int32)) else (0 : Int32)))]) (fun t_ k_ => st44 _ k_) ?_
          refine og T44 (mkF m 199 #[iv v0, iv v1, iv v2, iv v3, iv 3, iv ch1, iv ch2, iv ch3, rv b4, rv b5, rv b7, rv b10, rv b35, iv 1] [(.int 1), (.int (if own_W ch1 then (if own_W ch2 then (if own_W ch3 then (1 : Int32) else (0 : Int32)) else (0 : Int32)) else (0 : Int32)))]) (fun t_ k_ => XS.iload X44.here hx rfl (hb hby at_197) rfl k_) ?_
          refine og T44 (mkF m 202 #[iv v0, iv v1, iv v2, iv v3, iv 3, iv ch1, iv ch2, iv ch3, rv b4, rv b5, rv b7, rv b10, rv b35, iv 1] []) (fun t_ k_ => XS.icmpNo X44.here hx rfl (hb hby at_199) rfl (teq (show (if own_W ch1 then (if own_W ch2 then (if own_W ch3 then (1 : Int32) else (0 : Int32)) else (0 : Int32)) else (0 : Int32)) = (1 : Int32) from (if_pos hq39_).trans ((if_pos hq41_).trans ((if_pos hq43_))))).2 k_) ?_
          refine og T44 (mkF m 203 #[iv v0, iv v1, iv v2, iv v3, iv 3, iv ch1, iv ch2, iv ch3, rv b4, rv b5, rv b7, rv b10, rv b35, iv 1] [(.int 1)]) (fun t_ k_ => XS.iconst X44.here hx rfl (hb hby at_202) k_) ?_
          refine og T44 (mkF m 207 #[iv v0, iv v1, iv v2, iv v3, iv 3, iv ch1, iv ch2, iv ch3, rv b4, rv b5, rv b7, rv b10, rv b35, iv 1] [(.int 1)]) (fun t_ k_ => XS.goto X44.here hx rfl (pc0 := 203) (pc' := 207) rfl (hb hby at_203) (by decide) (by decide) k_) ?_
          exact own_outW X44 hS (show _ ≤ T44.heap.size by rw [e44]; omega) (v := some (.int (nar .boolean (1 : Int32)))) (fun h => by rw [hret] at h; cases h) hlk (fun fs hr => retN X44 hx (t := .boolean) hret (by simp) (hb hby at_207) hr) (Q := Q_rm_law Z v0 v1 v2 v3 cz fm h0 n0) (by rw [e44]; exact ⟨rfl, N44⟩) (by decide) (by decide)
        · skip
          refine og T42 (mkF m 189 #[iv v0, iv v1, iv v2, iv v3, iv 3, iv ch1, iv ch2, iv ch3, rv b4, rv b5, rv b7, rv b10, rv b35, .unset] []) (fun t_ k_ => XS.ifYes X42.here hx rfl (pc0 := 182) (pc' := 189) rfl (hb hby at_182) rfl ((if0 _ _).trans (teq (own_f1 hq43_)).1) (by decide) (by decide) k_) ?_
          refine og T42 (mkF m 190 #[iv v0, iv v1, iv v2, iv v3, iv 3, iv ch1, iv ch2, iv ch3, rv b4, rv b5, rv b7, rv b10, rv b35, .unset] [(.int 0)]) (fun t_ k_ => XS.iconst X42.here hx rfl (hb hby at_189) k_) ?_
          refine og T42 (mkF m 192 #[iv v0, iv v1, iv v2, iv v3, iv 3, iv ch1, iv ch2, iv ch3, rv b4, rv b5, rv b7, rv b10, rv b35, iv 0] []) (fun t_ k_ => XS.istore X42.here hx rfl (hb hby at_190) rfl (l' := #[iv v0, iv v1, iv v2, iv v3, iv 3, iv ch1, iv ch2, iv ch3, rv b4, rv b5, rv b7, rv b10, rv b35, iv 0]) rfl k_) ?_
          refine og T42 (mkF m 194 #[iv v0, iv v1, iv v2, iv v3, iv 3, iv ch1, iv ch2, iv ch3, rv b4, rv b5, rv b7, rv b10, rv b35, iv 0] [(.ref b35)]) (fun t_ k_ => XS.aload X42.here hx rfl (hb hby at_192) rfl rfl k_) ?_
          obtain ⟨_, _, ⟨T45, L45, k45, n45⟩, -, X45, ⟨Lc45, hQ45, l45, y45, z45⟩, st45⟩ := Jvm.LawKit.callS X42 hx (y := ym_15) hown (mvT hZ (own_w hw 50 rfl)) (mvT hZ (own_w hw 51 rfl)) (mvT hZ (own_w hw 52 rfl)) (mvT hZ (own_w hw 53 rfl)) (by decide) (backOf (W := 0) (rm_isw3 l Z a0 hw [] b35 T36.heap.size ch1 ch2 ch3 cz fm T36.heap n0 (show n0 ≤ T36.heap.size by omega) f36_0 f1_0 f2_0 f3_0 O36 S_COMPACT_STRINGS hcz S__assertionsDisabled S_HI_BYTE_SHIFT S_LO_BYTE_SHIFT rf S_SIOOBE_FORMATTER) hZ (own_w hw 53 rfl) (own_w hw 52 rfl) (by decide) (by decide)) (g := (mkF m 194 #[iv v0, iv v1, iv v2, iv v3, iv 3, iv ch1, iv ch2, iv ch3, rv b4, rv b5, rv b7, rv b10, rv b35, iv 0] [(.ref b35)])) rfl (by rw [hml]; rfl) (argsL := [(.ref b35)]) (rest := []) (lenOf pd_17 rfl) rfl (by show 2 * 0 + _ ≤ _; exact Nat.le_of_eq rfl) (hb hby at_194) (fun _ _ => ⟨rfl, e42, (by decide : 13 + 0 ≤ _), (by decide : 79 + 0 ≤ _)⟩)
          dsimp only [Pt.U, Pt.locs, Pt.cells, Pt.slots] at X45 l45 y45 z45 st45 hQ45
          subst l45 y45 z45
          obtain ⟨rfl, M45, e45⟩ := hQ45
          have N45 := Fr.app N42 M45
          refine og T45 (mkF m 197 #[iv v0, iv v1, iv v2, iv v3, iv 3, iv ch1, iv ch2, iv ch3, rv b4, rv b5, rv b7, rv b10, rv b35, iv 0] [(.int (if own_W ch1 then (if own_W ch2 then (if own_W ch3 then (1 : Int32) else (0 : Int32)) else (0 : Int32)) else (0 : Int32)))]) (fun t_ k_ => st45 _ k_) ?_
          refine og T45 (mkF m 199 #[iv v0, iv v1, iv v2, iv v3, iv 3, iv ch1, iv ch2, iv ch3, rv b4, rv b5, rv b7, rv b10, rv b35, iv 0] [(.int 0), (.int (if own_W ch1 then (if own_W ch2 then (if own_W ch3 then (1 : Int32) else (0 : Int32)) else (0 : Int32)) else (0 : Int32)))]) (fun t_ k_ => XS.iload X45.here hx rfl (hb hby at_197) rfl k_) ?_
          refine og T45 (mkF m 202 #[iv v0, iv v1, iv v2, iv v3, iv 3, iv ch1, iv ch2, iv ch3, rv b4, rv b5, rv b7, rv b10, rv b35, iv 0] []) (fun t_ k_ => XS.icmpNo X45.here hx rfl (hb hby at_199) rfl (teq (show (if own_W ch1 then (if own_W ch2 then (if own_W ch3 then (1 : Int32) else (0 : Int32)) else (0 : Int32)) else (0 : Int32)) = (0 : Int32) from (if_pos hq39_).trans ((if_pos hq41_).trans ((if_neg hq43_))))).2 k_) ?_
          refine og T45 (mkF m 203 #[iv v0, iv v1, iv v2, iv v3, iv 3, iv ch1, iv ch2, iv ch3, rv b4, rv b5, rv b7, rv b10, rv b35, iv 0] [(.int 1)]) (fun t_ k_ => XS.iconst X45.here hx rfl (hb hby at_202) k_) ?_
          refine og T45 (mkF m 207 #[iv v0, iv v1, iv v2, iv v3, iv 3, iv ch1, iv ch2, iv ch3, rv b4, rv b5, rv b7, rv b10, rv b35, iv 0] [(.int 1)]) (fun t_ k_ => XS.goto X45.here hx rfl (pc0 := 203) (pc' := 207) rfl (hb hby at_203) (by decide) (by decide) k_) ?_
          exact own_outW X45 hS (show _ ≤ T45.heap.size by rw [e45]; omega) (v := some (.int (nar .boolean (1 : Int32)))) (fun h => by rw [hret] at h; cases h) hlk (fun fs hr => retN X45 hx (t := .boolean) hret (by simp) (hb hby at_207) hr) (Q := Q_rm_law Z v0 v1 v2 v3 cz fm h0 n0) (by rw [e45]; exact ⟨rfl, N45⟩) (by decide) (by decide)
      · skip
        refine og T40 (mkF m 189 #[iv v0, iv v1, iv v2, iv v3, iv 3, iv ch1, iv ch2, iv ch3, rv b4, rv b5, rv b7, rv b10, rv b35, .unset] []) (fun t_ k_ => XS.ifYes X40.here hx rfl (pc0 := 168) (pc' := 189) rfl (hb hby at_168) rfl ((if0 _ _).trans (teq (own_f1 hq41_)).1) (by decide) (by decide) k_) ?_
        refine og T40 (mkF m 190 #[iv v0, iv v1, iv v2, iv v3, iv 3, iv ch1, iv ch2, iv ch3, rv b4, rv b5, rv b7, rv b10, rv b35, .unset] [(.int 0)]) (fun t_ k_ => XS.iconst X40.here hx rfl (hb hby at_189) k_) ?_
        refine og T40 (mkF m 192 #[iv v0, iv v1, iv v2, iv v3, iv 3, iv ch1, iv ch2, iv ch3, rv b4, rv b5, rv b7, rv b10, rv b35, iv 0] []) (fun t_ k_ => XS.istore X40.here hx rfl (hb hby at_190) rfl (l' := #[iv v0, iv v1, iv v2, iv v3, iv 3, iv ch1, iv ch2, iv ch3, rv b4, rv b5, rv b7, rv b10, rv b35, iv 0]) rfl k_) ?_
        refine og T40 (mkF m 194 #[iv v0, iv v1, iv v2, iv v3, iv 3, iv ch1, iv ch2, iv ch3, rv b4, rv b5, rv b7, rv b10, rv b35, iv 0] [(.ref b35)]) (fun t_ k_ => XS.aload X40.here hx rfl (hb hby at_192) rfl rfl k_) ?_
        obtain ⟨_, _, ⟨T46, L46, k46, n46⟩, -, X46, ⟨Lc46, hQ46, l46, y46, z46⟩, st46⟩ := Jvm.LawKit.callS X40 hx (y := ym_15) hown (mvT hZ (own_w hw 50 rfl)) (mvT hZ (own_w hw 51 rfl)) (mvT hZ (own_w hw 52 rfl)) (mvT hZ (own_w hw 53 rfl)) (by decide) (backOf (W := 0) (rm_isw3 l Z a0 hw [] b35 T36.heap.size ch1 ch2 ch3 cz fm T36.heap n0 (show n0 ≤ T36.heap.size by omega) f36_0 f1_0 f2_0 f3_0 O36 S_COMPACT_STRINGS hcz S__assertionsDisabled S_HI_BYTE_SHIFT S_LO_BYTE_SHIFT rf S_SIOOBE_FORMATTER) hZ (own_w hw 53 rfl) (own_w hw 52 rfl) (by decide) (by decide)) (g := (mkF m 194 #[iv v0, iv v1, iv v2, iv v3, iv 3, iv ch1, iv ch2, iv ch3, rv b4, rv b5, rv b7, rv b10, rv b35, iv 0] [(.ref b35)])) rfl (by rw [hml]; rfl) (argsL := [(.ref b35)]) (rest := []) (lenOf pd_17 rfl) rfl (by show 2 * 0 + _ ≤ _; exact Nat.le_of_eq rfl) (hb hby at_194) (fun _ _ => ⟨rfl, e40, (by decide : 13 + 0 ≤ _), (by decide : 79 + 0 ≤ _)⟩)
        dsimp only [Pt.U, Pt.locs, Pt.cells, Pt.slots] at X46 l46 y46 z46 st46 hQ46
        subst l46 y46 z46
        obtain ⟨rfl, M46, e46⟩ := hQ46
        have N46 := Fr.app N40 M46
        refine og T46 (mkF m 197 #[iv v0, iv v1, iv v2, iv v3, iv 3, iv ch1, iv ch2, iv ch3, rv b4, rv b5, rv b7, rv b10, rv b35, iv 0] [(.int (if own_W ch1 then (if own_W ch2 then (if own_W ch3 then (1 : Int32) else (0 : Int32)) else (0 : Int32)) else (0 : Int32)))]) (fun t_ k_ => st46 _ k_) ?_
        refine og T46 (mkF m 199 #[iv v0, iv v1, iv v2, iv v3, iv 3, iv ch1, iv ch2, iv ch3, rv b4, rv b5, rv b7, rv b10, rv b35, iv 0] [(.int 0), (.int (if own_W ch1 then (if own_W ch2 then (if own_W ch3 then (1 : Int32) else (0 : Int32)) else (0 : Int32)) else (0 : Int32)))]) (fun t_ k_ => XS.iload X46.here hx rfl (hb hby at_197) rfl k_) ?_
        refine og T46 (mkF m 202 #[iv v0, iv v1, iv v2, iv v3, iv 3, iv ch1, iv ch2, iv ch3, rv b4, rv b5, rv b7, rv b10, rv b35, iv 0] []) (fun t_ k_ => XS.icmpNo X46.here hx rfl (hb hby at_199) rfl (teq (show (if own_W ch1 then (if own_W ch2 then (if own_W ch3 then (1 : Int32) else (0 : Int32)) else (0 : Int32)) else (0 : Int32)) = (0 : Int32) from (if_pos hq39_).trans ((if_neg hq41_)))).2 k_) ?_
        refine og T46 (mkF m 203 #[iv v0, iv v1, iv v2, iv v3, iv 3, iv ch1, iv ch2, iv ch3, rv b4, rv b5, rv b7, rv b10, rv b35, iv 0] [(.int 1)]) (fun t_ k_ => XS.iconst X46.here hx rfl (hb hby at_202) k_) ?_
        refine og T46 (mkF m 207 #[iv v0, iv v1, iv v2, iv v3, iv 3, iv ch1, iv ch2, iv ch3, rv b4, rv b5, rv b7, rv b10, rv b35, iv 0] [(.int 1)]) (fun t_ k_ => XS.goto X46.here hx rfl (pc0 := 203) (pc' := 207) rfl (hb hby at_203) (by decide) (by decide) k_) ?_
        exact own_outW X46 hS (show _ ≤ T46.heap.size by rw [e46]; omega) (v := some (.int (nar .boolean (1 : Int32)))) (fun h => by rw [hret] at h; cases h) hlk (fun fs hr => retN X46 hx (t := .boolean) hret (by simp) (hb hby at_207) hr) (Q := Q_rm_law Z v0 v1 v2 v3 cz fm h0 n0) (by rw [e46]; exact ⟨rfl, N46⟩) (by decide) (by decide)
    · skip
      refine og T38 (mkF m 189 #[iv v0, iv v1, iv v2, iv v3, iv 3, iv ch1, iv ch2, iv ch3, rv b4, rv b5, rv b7, rv b10, rv b35, .unset] []) (fun t_ k_ => XS.ifYes X38.here hx rfl (pc0 := 154) (pc' := 189) rfl (hb hby at_154) rfl ((if0 _ _).trans (teq (own_f1 hq39_)).1) (by decide) (by decide) k_) ?_
      refine og T38 (mkF m 190 #[iv v0, iv v1, iv v2, iv v3, iv 3, iv ch1, iv ch2, iv ch3, rv b4, rv b5, rv b7, rv b10, rv b35, .unset] [(.int 0)]) (fun t_ k_ => XS.iconst X38.here hx rfl (hb hby at_189) k_) ?_
      refine og T38 (mkF m 192 #[iv v0, iv v1, iv v2, iv v3, iv 3, iv ch1, iv ch2, iv ch3, rv b4, rv b5, rv b7, rv b10, rv b35, iv 0] []) (fun t_ k_ => XS.istore X38.here hx rfl (hb hby at_190) rfl (l' := #[iv v0, iv v1, iv v2, iv v3, iv 3, iv ch1, iv ch2, iv ch3, rv b4, rv b5, rv b7, rv b10, rv b35, iv 0]) rfl k_) ?_
      refine og T38 (mkF m 194 #[iv v0, iv v1, iv v2, iv v3, iv 3, iv ch1, iv ch2, iv ch3, rv b4, rv b5, rv b7, rv b10, rv b35, iv 0] [(.ref b35)]) (fun t_ k_ => XS.aload X38.here hx rfl (hb hby at_192) rfl rfl k_) ?_
      obtain ⟨_, _, ⟨T47, L47, k47, n47⟩, -, X47, ⟨Lc47, hQ47, l47, y47, z47⟩, st47⟩ := Jvm.LawKit.callS X38 hx (y := ym_15) hown (mvT hZ (own_w hw 50 rfl)) (mvT hZ (own_w hw 51 rfl)) (mvT hZ (own_w hw 52 rfl)) (mvT hZ (own_w hw 53 rfl)) (by decide) (backOf (W := 0) (rm_isw3 l Z a0 hw [] b35 T36.heap.size ch1 ch2 ch3 cz fm T36.heap n0 (show n0 ≤ T36.heap.size by omega) f36_0 f1_0 f2_0 f3_0 O36 S_COMPACT_STRINGS hcz S__assertionsDisabled S_HI_BYTE_SHIFT S_LO_BYTE_SHIFT rf S_SIOOBE_FORMATTER) hZ (own_w hw 53 rfl) (own_w hw 52 rfl) (by decide) (by decide)) (g := (mkF m 194 #[iv v0, iv v1, iv v2, iv v3, iv 3, iv ch1, iv ch2, iv ch3, rv b4, rv b5, rv b7, rv b10, rv b35, iv 0] [(.ref b35)])) rfl (by rw [hml]; rfl) (argsL := [(.ref b35)]) (rest := []) (lenOf pd_17 rfl) rfl (by show 2 * 0 + _ ≤ _; exact Nat.le_of_eq rfl) (hb hby at_194) (fun _ _ => ⟨rfl, e38, (by decide : 13 + 0 ≤ _), (by decide : 79 + 0 ≤ _)⟩)
      dsimp only [Pt.U, Pt.locs, Pt.cells, Pt.slots] at X47 l47 y47 z47 st47 hQ47
      subst l47 y47 z47
      obtain ⟨rfl, M47, e47⟩ := hQ47
      have N47 := Fr.app N38 M47
      refine og T47 (mkF m 197 #[iv v0, iv v1, iv v2, iv v3, iv 3, iv ch1, iv ch2, iv ch3, rv b4, rv b5, rv b7, rv b10, rv b35, iv 0] [(.int (if own_W ch1 then (if own_W ch2 then (if own_W ch3 then (1 : Int32) else (0 : Int32)) else (0 : Int32)) else (0 : Int32)))]) (fun t_ k_ => st47 _ k_) ?_
      refine og T47 (mkF m 199 #[iv v0, iv v1, iv v2, iv v3, iv 3, iv ch1, iv ch2, iv ch3, rv b4, rv b5, rv b7, rv b10, rv b35, iv 0] [(.int 0), (.int (if own_W ch1 then (if own_W ch2 then (if own_W ch3 then (1 : Int32) else (0 : Int32)) else (0 : Int32)) else (0 : Int32)))]) (fun t_ k_ => XS.iload X47.here hx rfl (hb hby at_197) rfl k_) ?_
      refine og T47 (mkF m 202 #[iv v0, iv v1, iv v2, iv v3, iv 3, iv ch1, iv ch2, iv ch3, rv b4, rv b5, rv b7, rv b10, rv b35, iv 0] []) (fun t_ k_ => XS.icmpNo X47.here hx rfl (hb hby at_199) rfl (teq (show (if own_W ch1 then (if own_W ch2 then (if own_W ch3 then (1 : Int32) else (0 : Int32)) else (0 : Int32)) else (0 : Int32)) = (0 : Int32) from (if_neg hq39_))).2 k_) ?_
      refine og T47 (mkF m 203 #[iv v0, iv v1, iv v2, iv v3, iv 3, iv ch1, iv ch2, iv ch3, rv b4, rv b5, rv b7, rv b10, rv b35, iv 0] [(.int 1)]) (fun t_ k_ => XS.iconst X47.here hx rfl (hb hby at_202) k_) ?_
      refine og T47 (mkF m 207 #[iv v0, iv v1, iv v2, iv v3, iv 3, iv ch1, iv ch2, iv ch3, rv b4, rv b5, rv b7, rv b10, rv b35, iv 0] [(.int 1)]) (fun t_ k_ => XS.goto X47.here hx rfl (pc0 := 203) (pc' := 207) rfl (hb hby at_203) (by decide) (by decide) k_) ?_
      exact own_outW X47 hS (show _ ≤ T47.heap.size by rw [e47]; omega) (v := some (.int (nar .boolean (1 : Int32)))) (fun h => by rw [hret] at h; cases h) hlk (fun fs hr => retN X47 hx (t := .boolean) hret (by simp) (hb hby at_207) hr) (Q := Q_rm_law Z v0 v1 v2 v3 cz fm h0 n0) (by rw [e47]; exact ⟨rfl, N47⟩) (by decide) (by decide)
set_option maxRecDepth 65536 in
set_option maxHeartbeats 40000000 in
theorem comes_1 {Post : Tables → Env → Array Value → State → Outcome → State → Prop} (hpost : ∀ tb e args s v u, (limb_1_1.after args s (.returned v) u = true ∧ limb_1_2.after args s (.returned v) u = true ∧ True) → ReturnedEndW s (.returned v) u (Jvm.fieldLocs frame_1_writes args s ++ Jvm.arrayLocs frame_1_arrays args s ++ Jvm.staticLocs frame_1_statics s) 32 2176 → Post tb e args s (.returned v) u) :
    ArmFor flags0 classFile x code maxLocals ret World_1 tables_1 room_1 Calls_1 rest_1 Pre_1 Post := by
  intro l hfl _ _ p e ha hc hk s m args below hf hA hF happ hP
  obtain ⟨hcalls, hrest, hpre⟩ := hP
  obtain ⟨-, -, -, hnamed, -, -, -, hat⟩ := (Spec.applies_iff hf).mp happ
  obtain ⟨hg, hn⟩ := and_e (Cond.before_iff.mp (show (Jvm.Cond.and given_1 narrow_1).before args s = true from hpre))
  obtain ⟨gc, gr⟩ := and_e hg
  obtain ⟨ga0, gr0⟩ := and_e gr
  obtain ⟨ga1, gr1⟩ := and_e gr0
  obtain ⟨ga2, gr2⟩ := and_e gr1
  have ga3 := gr2
  obtain ⟨w0, w1, w2, w3, rfl⟩ : ∃ w0 w1 w2 w3 : Value, args = #[w0, w1, w2, w3] := by
    have hs : args.size = 4 := by simpa [Cond.value, given_1] using gc
    obtain ⟨L⟩ := args
    match L, hs with
    | [w0, w1, w2, w3], _ => exact ⟨w0, w1, w2, w3, rfl⟩
  have hw := fun d (hd : d ∈ tables_1) => atoms_spec (ws := Jvm.Cond.code x code maxLocals ret :: tables_1) hat d (List.mem_cons_of_mem _ hd)
  have hfit : Fit s := fun {y c} hc i hi => by
    obtain ⟨ha, rfl⟩ := Array.getElem?_eq_some_iff.mp hc
    have q := List.all_eq_true.mp ((Array.all_eq_true_iff_forall_mem.mp hF) _ (Array.getElem_mem ha)) i (List.mem_range.mpr hi)
    simpa [Array.getElem?_eq_getElem hi] using q
  obtain ⟨hsets, hown0⟩ := atoms_of _ (rest_1_c_eq ▸ (show rest_1_c.before _ s = true from hrest))
  obtain ⟨i0, ei0⟩ := is_v ga0
  obtain rfl : w0 = (.int i0) := Option.some.inj ei0
  obtain ⟨i1, ei1⟩ := is_v ga1
  obtain rfl : w1 = (.int i1) := Option.some.inj ei1
  obtain ⟨i2, ei2⟩ := is_v ga2
  obtain rfl : w2 = (.int i2) := Option.some.inj ei2
  obtain ⟨i3, ei3⟩ := is_v ga3
  obtain rfl : w3 = (.int i3) := Option.some.inj ei3
  have n3 := not_v (Cond.before_iff.mp (hsets _ (List.mem_of_getElem? (i := 2) rfl)))
  obtain ⟨cz, ecz⟩ := is_v (Cond.before_iff.mp (hsets _ (List.mem_of_getElem? (i := 1) rfl)))
  have SC : Sta s s.heap "java/lang/String" "COMPACT_STRINGS" "Z" (.int cz) := Sta.start ecz (Or.inl (hsets _ (List.mem_of_getElem? (i := 0) rfl)))
  have hcz : ¬ (cz = (0 : Int32)) := gotF (Cond.eq_ints ecz (Term.int_eval (0))) n3
  obtain ⟨fm, efm, rf⟩ := isR_v (Cond.before_iff.mp (hsets _ (List.mem_of_getElem? (i := 8) rfl)))
  have hheld : Jvm.Lit.constHeld s "com/example/labmeld/labmeld/xsd/XsdSchemaIsWhiteSpacePinLaw" 11 := hcalls.1 ("com/example/labmeld/labmeld/xsd/XsdSchemaIsWhiteSpacePinLaw", 11) (by decide)
  have hheld7 : Jvm.Lit.constHeld s "java/lang/String" 7 := hcalls.1 ("java/lang/String", 7) (by decide)
  have hcw := hsets _ (List.mem_of_getElem? (i := 2) rfl)
  obtain ⟨n, o, h1, h2, h3, _, L, rfl, ⟨rfl, N⟩, hq⟩ := rm_law l s _ hw tables_1 i0 i1 i2 i3 cz fm s.heap s.heap.size (Nat.le_refl _) (Old.start s) SC hcz (Sta.start (own_steq (Cond.before_iff.mp (hsets _ (List.mem_of_getElem? (i := 12) rfl)))) (Or.inl (hsets _ (List.mem_of_getElem? (i := 11) rfl)))) (Sta.start (own_steq (Cond.before_iff.mp (hsets _ (List.mem_of_getElem? (i := 15) rfl)))) (Or.inl (hsets _ (List.mem_of_getElem? (i := 14) rfl)))) (Sta.start (own_steq (Cond.before_iff.mp (hsets _ (List.mem_of_getElem? (i := 18) rfl)))) (Or.inl (hsets _ (List.mem_of_getElem? (i := 17) rfl)))) rf (Sta.start efm (Or.inl (hsets _ (List.mem_of_getElem? (i := 7) rfl)))) hheld hheld7 hcw p e ha hc hk s m _ below hf ((Spec.applies_iff_loose hf).mp happ).1 ⟨rfl, State.Warmed39.refl s, rfl, IB.start⟩ trivial
  refine ⟨n, _, h1, h2, h3, hpost _ _ _ _ _ _ ⟨Cond.after_iff.mpr rfl, Cond.after_iff.mpr (eq_i res_at (Term.int_eval (1)) rfl), trivial⟩ ⟨hq.1, hq.2.1, hq.2.2.1, (hq.2.2.2.sift fun y hy => Or.inr (N y hy)).mono (by decide) (by decide)⟩⟩
theorem main_1_1 : Claimed_1_1 := comes_1 fun _ _ _ _ _ _ h hF => ⟨h.1, hF⟩
theorem main_1_2 : Claimed_1_2 := comes_1 fun _ _ _ _ _ _ h hF => ⟨h.2.1, hF⟩
end Jvm.Pilot.@@N@@
namespace Jvm.Pilot.@@N@@
open Jvm Jvm.ClassFile Sem Op Lib Jvm.Free Jvm.Stand Jvm.Pilot.@@N@@.Jvm.D
/-! MADE BY PROGRAM (witnessworld.py) out of the Statement's table words and the real class files: 20 classes; the members and pool entries that the words name. The judged class is class 1, her method 3. -/
namespace start1
open Jvm.ClassFile
def u (s : String) : CpInfo := .utf8 (stringToUtf16 s)
/-- a pool by its gaps: so many unusable entries, then the entry; so many at the end -/
def gap : Nat → List CpInfo → List CpInfo
  | 0, r => r
  | n + 1, r => .unusable :: gap n r
def poolList (es : List (Nat × CpInfo)) (last : Nat) : List CpInfo := es.foldr (fun e r => gap e.1 (e.2 :: r)) (gap last [])
def pool (es : List (Nat × CpInfo)) (last : Nat) : Array CpInfo := ⟨poolList es last⟩
def fileOf (pool : Array CpInfo) (this : Nat) (attrs : Array Attribute := #[]) (ms : Array MethodInfo := #[]) (fl : Nat := 33) (sup : Nat := 0) (ifs : Array Nat := #[]) (fds : Array FieldInfo := #[]) : ClassFile where
  minorVersion := 0
  majorVersion := 65
  constantPool := pool
  accessFlags := fl
  thisClass := this
  superClass := sup
  interfaces := ifs
  fields := fds
  methods := ms
  attributes := attrs
def plain (name : String) (sup : Option ClassId) : Class where
  name := name
  kind := .ordinary
  loader := none
  accessFlags := 33
  super := sup
  interfaces := #[]
  cf := none
  fields := #[]
  methods := #[]
  instanceTypes := #[]
  staticTypes := #[]
  resolved := #[]
  callSites := []
  init := .initialized
  statics := none
  mirror := none

def pool0 : Array CpInfo := pool [(5, u "<init>"), (0, u "()V"), (1, .class_ 10), (1, u "java/lang/Object")] 113

def k0c0 : Code := { maxStack := 0, maxLocals := 1, code := object_method_1_code, exceptionTable := #[], attributes := #[] }
def k0m0 : Method := { name := "<init>", desc := "()V", sig := { parameters := [], returnType := none }, accessFlags := 1, code := some k0c0 }
/-- java/lang/Object -/
def k0 : Class := { plain "java/lang/Object" none with
  accessFlags := 33
  interfaces := #[]
  cf := some (fileOf pool0 8 #[] #[{ accessFlags := 1, nameIndex := 5, descriptorIndex := 6, attributes := #[] }] 33 0 #[] #[])
  fields := #[]
  methods := #[k0m0]
  instanceTypes := #[]
  staticTypes := #[]
  resolved := Array.replicate 124 none
  statics := none }

def pool1 : Array CpInfo := pool [(2, .class_ 4), (1, u "java/lang/Object"), (0, u "<init>"), (0, u "()V"), (0, .class_ 8), (0, u "com/example/labmeld/labmeld/xsd/XsdSchemaIsWhiteSpacePinLaw"), (0, .long 4294977024), (1, .string 12), (0, u "\t\n\r "), (0, .methodref 14 15), (0, .class_ 16), (0, .nameAndType 17 18), (0, u "java/lang/String"), (0, u "charAt"), (0, u "(I)C"), (0, .methodref 7 20), (0, .nameAndType 21 18), (0, u "draw"), (0, .methodref 14 23), (0, .nameAndType 5 24), (0, u "([C)V"), (0, .methodref 7 26), (0, .nameAndType 27 28), (0, u "ws"), (0, u "(C)Z"), (0, .methodref 30 31), (0, .class_ 32), (0, .nameAndType 33 34), (0, u "com/example/labmeld/labmeld/xsd/XsdSchema"), (0, u "isWhiteSpace"), (0, u "(Ljava/lang/String;)Z"), (0, u "WS_BITS"), (0, u "J"), (4, u "law"), (0, u "(IIII)Z")] 4

def k1m0 : Method := { name := "<init>", desc := "()V", sig := { parameters := [], returnType := none }, accessFlags := 2, code := none }
def k1c1 : Code := { maxStack := 4, maxLocals := 1, code := method_2_code, exceptionTable := #[], attributes := #[] }
def k1m1 : Method := { name := "ws", desc := "(C)Z", sig := { parameters := [.char], returnType := some .boolean }, accessFlags := 10, code := some k1c1 }
def k1c2 : Code := { maxStack := 3, maxLocals := 1, code := method_3_code, exceptionTable := #[], attributes := #[] }
def k1m2 : Method := { name := "draw", desc := "(I)C", sig := { parameters := [.int], returnType := some .char }, accessFlags := 10, code := some k1c2 }
def k1c3 : Code := { maxStack := 4, maxLocals := 14, code := code, exceptionTable := #[], attributes := #[] }
def k1m3 : Method := { name := "law", desc := "(IIII)Z", sig := { parameters := [.int, .int, .int, .int], returnType := some .boolean }, accessFlags := 9, code := some k1c3 }
/-- com/example/labmeld/labmeld/xsd/XsdSchemaIsWhiteSpacePinLaw -/
def k1 : Class := { plain "com/example/labmeld/labmeld/xsd/XsdSchemaIsWhiteSpacePinLaw" (some 0) with
  accessFlags := 49
  interfaces := #[]
  cf := some (fileOf pool1 7 #[] #[{ accessFlags := 2, nameIndex := 5, descriptorIndex := 6, attributes := #[] }, { accessFlags := 10, nameIndex := 27, descriptorIndex := 28, attributes := #[] }, { accessFlags := 10, nameIndex := 21, descriptorIndex := 18, attributes := #[] }, { accessFlags := 9, nameIndex := 41, descriptorIndex := 42, attributes := #[] }] 49 2 #[] #[{ accessFlags := 26, nameIndex := 35, descriptorIndex := 36, attributes := #[] }])
  fields := #[{ name := "WS_BITS", type := .long, accessFlags := 26, slot := 0, constantValue := 0 }]
  methods := #[k1m0, k1m1, k1m2, k1m3]
  instanceTypes := #[]
  staticTypes := #[.long]
  resolved := Array.replicate 47 none
  statics := none }

def pool2 : Array CpInfo := pool [(1, .class_ 2), (0, u "java/io/Serializable"), (0, .class_ 4), (0, u "java/lang/Object")] 2

/-- java/io/Serializable -/
def k2 : Class := { plain "java/io/Serializable" (some 0) with
  accessFlags := 1537
  interfaces := #[]
  cf := some (fileOf pool2 1 #[] #[] 1537 3 #[] #[])
  fields := #[]
  methods := #[]
  instanceTypes := #[]
  staticTypes := #[]
  resolved := Array.replicate 7 none
  statics := none }

def pool3 : Array CpInfo := pool [(1, .class_ 2), (0, u "java/lang/Comparable"), (0, .class_ 4), (0, u "java/lang/Object")] 7

/-- java/lang/Comparable -/
def k3 : Class := { plain "java/lang/Comparable" (some 0) with
  accessFlags := 1537
  interfaces := #[]
  cf := some (fileOf pool3 1 #[] #[] 1537 3 #[] #[])
  fields := #[]
  methods := #[]
  instanceTypes := #[]
  staticTypes := #[]
  resolved := Array.replicate 12 none
  statics := none }

def pool4 : Array CpInfo := pool [(2, .class_ 4), (1, u "java/lang/CharSequence"), (42, .class_ 48), (0, u "java/lang/CharSequence$1CodePointIterator"), (10, .class_ 60), (0, u "java/lang/CharSequence$1CharIterator"), (5, .class_ 67), (0, u "java/lang/Object")] 63

/-- java/lang/CharSequence -/
def k4 : Class := { plain "java/lang/CharSequence" (some 0) with
  accessFlags := 1537
  interfaces := #[]
  cf := some (fileOf pool4 2 #[.nestMembers #[47, 59]] #[] 1537 66 #[] #[])
  fields := #[]
  methods := #[]
  instanceTypes := #[]
  staticTypes := #[]
  resolved := Array.replicate 131 none
  statics := none }

def pool5 : Array CpInfo := pool [(1, .class_ 2), (0, u "java/lang/constant/Constable"), (0, .class_ 4), (0, u "java/lang/Object")] 6

/-- java/lang/constant/Constable -/
def k5 : Class := { plain "java/lang/constant/Constable" (some 0) with
  accessFlags := 1537
  interfaces := #[]
  cf := some (fileOf pool5 1 #[] #[] 1537 3 #[] #[])
  fields := #[]
  methods := #[]
  instanceTypes := #[]
  staticTypes := #[]
  resolved := Array.replicate 11 none
  statics := none }

def pool6 : Array CpInfo := pool [(1, .class_ 2), (0, u "java/lang/constant/ConstantDesc"), (0, .class_ 4), (0, u "java/lang/Object")] 32

/-- java/lang/constant/ConstantDesc -/
def k6 : Class := { plain "java/lang/constant/ConstantDesc" (some 0) with
  accessFlags := 1537
  interfaces := #[]
  cf := some (fileOf pool6 1 #[] #[] 1537 3 #[] #[])
  fields := #[]
  methods := #[]
  instanceTypes := #[]
  staticTypes := #[]
  resolved := Array.replicate 37 none
  statics := none }

def pool7 : Array CpInfo := pool [(1, .methodref 2 3), (0, .class_ 4), (0, .nameAndType 5 6), (0, u "java/lang/Object"), (0, u "<init>"), (0, u "()V"), (0, .string 8), (0, u ""), (0, .fieldref 10 11), (0, .class_ 12), (0, .nameAndType 13 14), (0, u "java/lang/String"), (0, u "value"), (0, u "[B"), (0, .fieldref 10 16), (0, .nameAndType 17 18), (0, u "coder"), (0, u "B"), (2, u "hash"), (0, u "I"), (2, u "hashIsZero"), (0, u "Z"), (0, .methodref 10 28), (0, .nameAndType 5 29), (0, u "([CIILjava/lang/Void;)V"), (8, .fieldref 10 39), (0, .nameAndType 40 26), (0, u "COMPACT_STRINGS"), (1, .class_ 44), (1, u "java/lang/StringUTF16"), (0, u "compress"), (1, .methodref 42 48), (0, .nameAndType 49 50), (0, u "coderFromArrayLen"), (0, u "([BI)B"), (56, .class_ 109), (1, u "java/lang/StringLatin1"), (32, u "()Z"), (34, .methodref 42 178), (0, .nameAndType 45 179), (0, u "([CII)[B"), (154, u "()I"), (0, .methodref 10 336), (0, .nameAndType 17 337), (0, u "()B"), (25, u "([BI)C"), (27, u "(II)V"), (35, u "(I)C"), (64, .methodref 10 493), (0, .nameAndType 494 142), (0, u "isLatin1"), (0, .methodref 107 496), (0, .nameAndType 497 363), (0, u "charAt"), (0, .methodref 42 496), (2, u "checkIndex"), (5, u "length"), (67, .class_ 576), (0, u "java/lang/CharSequence"), (22, u "CASE_INSENSITIVE_ORDER"), (0, u "Ljava/util/Comparator;"), (409, u "([C)V"), (42, .fieldref 1054 1055), (0, .class_ 1056), (0, .nameAndType 1057 1058), (0, u "jdk/internal/util/Preconditions"), (0, u "SIOOBE_FORMATTER"), (0, u "Ljava/util/function/BiFunction;"), (0, .methodref 1054 1060), (0, .nameAndType 501 1061), (0, u "(IILjava/util/function/BiFunction;)I"), (39, u "serialPersistentFields"), (0, u "[Ljava/io/ObjectStreamField;"), (0, .class_ 1104), (0, u "java/lang/String$CaseInsensitiveComparator"), (1, .class_ 1107), (0, u "java/io/Serializable"), (0, .class_ 1109), (0, u "java/lang/Comparable"), (0, .class_ 1111), (0, u "java/lang/constant/Constable"), (0, .class_ 1113), (0, u "java/lang/constant/ConstantDesc"), (2, u "serialVersionUID"), (0, u "J"), (3, u "REPL"), (0, u "C"), (2, u "LATIN1"), (1, u "UTF16")] 323

def k7m0 : Method := { name := "<init>", desc := "()V", sig := { parameters := [], returnType := none }, accessFlags := 1, code := none }
def k7c1 : Code := { maxStack := 5, maxLocals := 2, code := jdk_42_method_3_code, exceptionTable := #[], attributes := #[] }
def k7m1 : Method := { name := "<init>", desc := "([C)V", sig := { parameters := [(.array .char)], returnType := none }, accessFlags := 1, code := some k7c1 }
def k7c2 : Code := { maxStack := 2, maxLocals := 1, code := jdk_42_method_54_code, exceptionTable := #[], attributes := #[] }
def k7m2 : Method := { name := "length", desc := "()I", sig := { parameters := [], returnType := some .int }, accessFlags := 1, code := some k7c2 }
def k7c3 : Code := { maxStack := 2, maxLocals := 2, code := jdk_42_method_56_code, exceptionTable := #[], attributes := #[] }
def k7m3 : Method := { name := "charAt", desc := "(I)C", sig := { parameters := [.int], returnType := some .char }, accessFlags := 1, code := some k7c3 }
def k7c4 : Code := { maxStack := 4, maxLocals := 6, code := jdk_42_method_149_code, exceptionTable := #[], attributes := #[] }
def k7m4 : Method := { name := "<init>", desc := "([CIILjava/lang/Void;)V", sig := { parameters := [(.array .char), .int, .int, (.object "java/lang/Void")], returnType := none }, accessFlags := 2, code := some k7c4 }
def k7c5 : Code := { maxStack := 1, maxLocals := 1, code := jdk_42_method_152_code, exceptionTable := #[], attributes := #[] }
def k7m5 : Method := { name := "coder", desc := "()B", sig := { parameters := [], returnType := some .byte }, accessFlags := 0, code := some k7c5 }
def k7c6 : Code := { maxStack := 1, maxLocals := 1, code := jdk_42_method_154_code, exceptionTable := #[], attributes := #[] }
def k7m6 : Method := { name := "isLatin1", desc := "()Z", sig := { parameters := [], returnType := some .boolean }, accessFlags := 0, code := some k7c6 }
def k7c7 : Code := { maxStack := 3, maxLocals := 2, code := jdk_42_method_155_code, exceptionTable := #[], attributes := #[] }
def k7m7 : Method := { name := "checkIndex", desc := "(II)V", sig := { parameters := [.int, .int], returnType := none }, accessFlags := 8, code := some k7c7 }
/-- java/lang/String -/
def k7 : Class := { plain "java/lang/String" (some 0) with
  accessFlags := 49
  interfaces := #[2, 3, 4, 5, 6]
  cf := some (fileOf pool7 10 #[.nestMembers #[1103]] #[{ accessFlags := 1, nameIndex := 5, descriptorIndex := 6, attributes := #[] }, { accessFlags := 1, nameIndex := 5, descriptorIndex := 1010, attributes := #[] }, { accessFlags := 1, nameIndex := 507, descriptorIndex := 334, attributes := #[] }, { accessFlags := 1, nameIndex := 497, descriptorIndex := 427, attributes := #[] }, { accessFlags := 2, nameIndex := 5, descriptorIndex := 29, attributes := #[] }, { accessFlags := 0, nameIndex := 17, descriptorIndex := 337, attributes := #[] }, { accessFlags := 0, nameIndex := 494, descriptorIndex := 142, attributes := #[] }, { accessFlags := 8, nameIndex := 501, descriptorIndex := 391, attributes := #[] }] 49 2 #[1106, 1108, 575, 1110, 1112] #[{ accessFlags := 18, nameIndex := 13, descriptorIndex := 14, attributes := #[] }, { accessFlags := 18, nameIndex := 17, descriptorIndex := 18, attributes := #[] }, { accessFlags := 2, nameIndex := 21, descriptorIndex := 22, attributes := #[] }, { accessFlags := 2, nameIndex := 25, descriptorIndex := 26, attributes := #[] }, { accessFlags := 26, nameIndex := 1116, descriptorIndex := 1117, attributes := #[] }, { accessFlags := 24, nameIndex := 40, descriptorIndex := 26, attributes := #[] }, { accessFlags := 26, nameIndex := 1101, descriptorIndex := 1102, attributes := #[] }, { accessFlags := 26, nameIndex := 1121, descriptorIndex := 1122, attributes := #[] }, { accessFlags := 25, nameIndex := 599, descriptorIndex := 600, attributes := #[] }, { accessFlags := 24, nameIndex := 1125, descriptorIndex := 18, attributes := #[] }, { accessFlags := 24, nameIndex := 1127, descriptorIndex := 18, attributes := #[] }])
  fields := #[{ name := "value", type := (.array .byte), accessFlags := 18, slot := 0, constantValue := 0 }, { name := "coder", type := .byte, accessFlags := 18, slot := 1, constantValue := 0 }, { name := "hash", type := .int, accessFlags := 2, slot := 2, constantValue := 0 }, { name := "hashIsZero", type := .boolean, accessFlags := 2, slot := 3, constantValue := 0 }, { name := "serialVersionUID", type := .long, accessFlags := 26, slot := 0, constantValue := 0 }, { name := "COMPACT_STRINGS", type := .boolean, accessFlags := 24, slot := 1, constantValue := 0 }, { name := "serialPersistentFields", type := (.array (.object "java/io/ObjectStreamField")), accessFlags := 26, slot := 2, constantValue := 0 }, { name := "REPL", type := .char, accessFlags := 26, slot := 3, constantValue := 0 }, { name := "CASE_INSENSITIVE_ORDER", type := (.object "java/util/Comparator"), accessFlags := 25, slot := 4, constantValue := 0 }, { name := "LATIN1", type := .byte, accessFlags := 24, slot := 5, constantValue := 0 }, { name := "UTF16", type := .byte, accessFlags := 24, slot := 6, constantValue := 0 }]
  methods := #[k7m0, k7m1, k7m2, k7m3, k7m4, k7m5, k7m6, k7m7]
  instanceTypes := #[(.array .byte), .byte, .int, .boolean]
  staticTypes := #[.long, .boolean, (.array (.object "java/io/ObjectStreamField")), .char, (.object "java/util/Comparator"), .byte, .byte]
  resolved := Array.replicate 1451 none
  statics := some 0 }

def pool8 : Array CpInfo := pool [(1, .class_ 2), (0, u "java/lang/String"), (1, .class_ 6), (1, u "java/lang/Object"), (0, u "<init>"), (0, u "()V"), (0, .methodref 1 10), (0, .nameAndType 11 12), (0, u "checkIndex"), (0, u "(II)V"), (1, .class_ 16), (1, u "java/lang/StringLatin1"), (36, u "([BI)C"), (67, u "$assertionsDisabled"), (0, u "Z"), (98, .class_ 223), (1, u "java/lang/StringLatin1$LinesSpliterator"), (28, u "charAt"), (137, .class_ 391), (0, u "java/lang/StringLatin1$CharsSpliterator")] 3

def k8m0 : Method := { name := "<init>", desc := "()V", sig := { parameters := [], returnType := none }, accessFlags := 0, code := none }
def k8c1 : Code := { maxStack := 2, maxLocals := 2, code := jdk_43_method_2_code, exceptionTable := #[], attributes := #[] }
def k8m1 : Method := { name := "charAt", desc := "([BI)C", sig := { parameters := [(.array .byte), .int], returnType := some .char }, accessFlags := 9, code := some k8c1 }
/-- java/lang/StringLatin1 -/
def k8 : Class := { plain "java/lang/StringLatin1" (some 0) with
  accessFlags := 48
  interfaces := #[]
  cf := some (fileOf pool8 14 #[.nestMembers #[390, 221]] #[{ accessFlags := 0, nameIndex := 7, descriptorIndex := 8, attributes := #[] }, { accessFlags := 9, nameIndex := 252, descriptorIndex := 53, attributes := #[] }] 48 4 #[] #[{ accessFlags := 4120, nameIndex := 121, descriptorIndex := 122, attributes := #[] }])
  fields := #[{ name := "$assertionsDisabled", type := .boolean, accessFlags := 4120, slot := 0, constantValue := 0 }]
  methods := #[k8m0, k8m1]
  instanceTypes := #[]
  staticTypes := #[.boolean]
  resolved := Array.replicate 395 none
  statics := none }

def pool9 : Array CpInfo := pool [(2, .class_ 4), (1, u "java/lang/Object"), (0, u "<init>"), (0, u "()V"), (17, .class_ 26), (1, u "jdk/internal/util/Preconditions"), (6, u "checkIndex"), (21, .class_ 56), (0, u "jdk/internal/util/Preconditions$4"), (57, .class_ 115), (0, u "jdk/internal/util/Preconditions$1"), (7, u "SIOOBE_FORMATTER"), (0, u "Ljava/util/function/BiFunction;"), (0, .class_ 126), (0, u "jdk/internal/util/Preconditions$2"), (3, u "AIOOBE_FORMATTER"), (0, .class_ 132), (0, u "jdk/internal/util/Preconditions$3"), (3, u "IOOBE_FORMATTER"), (41, u "(IILjava/util/function/BiFunction;)I")] 15

def k9m0 : Method := { name := "<init>", desc := "()V", sig := { parameters := [], returnType := none }, accessFlags := 1, code := none }
def k9c1 : Code := { maxStack := 3, maxLocals := 3, code := jdk_41_method_11_code, exceptionTable := #[], attributes := #[] }
def k9m1 : Method := { name := "checkIndex", desc := "(IILjava/util/function/BiFunction;)I", sig := { parameters := [.int, .int, (.object "java/util/function/BiFunction")], returnType := some .int }, accessFlags := 9, code := some k9c1 }
/-- jdk/internal/util/Preconditions -/
def k9 : Class := { plain "jdk/internal/util/Preconditions" (some 0) with
  accessFlags := 33
  interfaces := #[]
  cf := some (fileOf pool9 24 #[.nestMembers #[55, 131, 125, 114]] #[{ accessFlags := 1, nameIndex := 5, descriptorIndex := 6, attributes := #[] }, { accessFlags := 9, nameIndex := 33, descriptorIndex := 178, attributes := #[] }] 33 2 #[] #[{ accessFlags := 25, nameIndex := 123, descriptorIndex := 124, attributes := #[] }, { accessFlags := 25, nameIndex := 130, descriptorIndex := 124, attributes := #[] }, { accessFlags := 25, nameIndex := 136, descriptorIndex := 124, attributes := #[] }])
  fields := #[{ name := "SIOOBE_FORMATTER", type := (.object "java/util/function/BiFunction"), accessFlags := 25, slot := 0, constantValue := 0 }, { name := "AIOOBE_FORMATTER", type := (.object "java/util/function/BiFunction"), accessFlags := 25, slot := 1, constantValue := 0 }, { name := "IOOBE_FORMATTER", type := (.object "java/util/function/BiFunction"), accessFlags := 25, slot := 2, constantValue := 0 }]
  methods := #[k9m0, k9m1]
  instanceTypes := #[]
  staticTypes := #[(.object "java/util/function/BiFunction"), (.object "java/util/function/BiFunction"), (.object "java/util/function/BiFunction")]
  resolved := Array.replicate 194 none
  statics := some 1 }

def pool10 : Array CpInfo := pool [(4, .class_ 6), (1, u "java/lang/Object"), (9, .class_ 18), (1, u "com/example/labmeld/labmeld/xsd/XsdSchema"), (0, u "elements"), (0, u "Ljava/util/Map;"), (2, u "types"), (7, u "attributes"), (0, u "Ljava/util/Set;"), (12, .class_ 46), (0, u "com/example/labmeld/labmeld/xsd/XsdSchema$Name"), (18, .class_ 66), (0, u "com/example/labmeld/labmeld/xsd/XsdSchema$Walk"), (23, .class_ 92), (1, u "java/lang/String"), (7, u "isWhiteSpace"), (0, u "(Ljava/lang/String;)Z"), (26, u "()I"), (136, .methodref 90 266), (0, .nameAndType 267 128), (0, u "length"), (0, .methodref 90 269), (0, .nameAndType 270 271), (0, u "charAt"), (0, u "(I)C"), (0, u "INSTANCE"), (0, u "Ljava/lang/String;"), (1, u "NOT_ALLOWED_HERE"), (2, u "NONE_ALLOWED_HERE"), (2, u "ENDS_TOO_SOON"), (2, u "TEXT_AMONG_ELEMENTS"), (2, u "CONTENT_IN_EMPTY"), (32, .class_ 321), (0, u "com/example/labmeld/labmeld/xsd/XsdSchema$Errors")] 9

def k10c0 : Code := { maxStack := 2, maxLocals := 3, code := prog_80_method_13_code, exceptionTable := #[], attributes := #[] }
def k10m0 : Method := { name := "isWhiteSpace", desc := "(Ljava/lang/String;)Z", sig := { parameters := [(.object "java/lang/String")], returnType := some .boolean }, accessFlags := 8, code := some k10c0 }
/-- com/example/labmeld/labmeld/xsd/XsdSchema -/
def k10 : Class := { plain "com/example/labmeld/labmeld/xsd/XsdSchema" (some 0) with
  accessFlags := 49
  interfaces := #[]
  cf := some (fileOf pool10 16 #[.nestMembers #[65, 320, 45]] #[{ accessFlags := 8, nameIndex := 100, descriptorIndex := 101, attributes := #[] }] 49 4 #[] #[{ accessFlags := 26, nameIndex := 272, descriptorIndex := 273, attributes := #[] }, { accessFlags := 26, nameIndex := 275, descriptorIndex := 273, attributes := #[] }, { accessFlags := 26, nameIndex := 278, descriptorIndex := 273, attributes := #[] }, { accessFlags := 26, nameIndex := 281, descriptorIndex := 273, attributes := #[] }, { accessFlags := 26, nameIndex := 284, descriptorIndex := 273, attributes := #[] }, { accessFlags := 26, nameIndex := 287, descriptorIndex := 273, attributes := #[] }, { accessFlags := 18, nameIndex := 19, descriptorIndex := 20, attributes := #[] }, { accessFlags := 18, nameIndex := 23, descriptorIndex := 20, attributes := #[] }, { accessFlags := 18, nameIndex := 31, descriptorIndex := 32, attributes := #[] }])
  fields := #[{ name := "INSTANCE", type := (.object "java/lang/String"), accessFlags := 26, slot := 0, constantValue := 0 }, { name := "NOT_ALLOWED_HERE", type := (.object "java/lang/String"), accessFlags := 26, slot := 1, constantValue := 0 }, { name := "NONE_ALLOWED_HERE", type := (.object "java/lang/String"), accessFlags := 26, slot := 2, constantValue := 0 }, { name := "ENDS_TOO_SOON", type := (.object "java/lang/String"), accessFlags := 26, slot := 3, constantValue := 0 }, { name := "TEXT_AMONG_ELEMENTS", type := (.object "java/lang/String"), accessFlags := 26, slot := 4, constantValue := 0 }, { name := "CONTENT_IN_EMPTY", type := (.object "java/lang/String"), accessFlags := 26, slot := 5, constantValue := 0 }, { name := "elements", type := (.object "java/util/Map"), accessFlags := 18, slot := 0, constantValue := 0 }, { name := "types", type := (.object "java/util/Map"), accessFlags := 18, slot := 1, constantValue := 0 }, { name := "attributes", type := (.object "java/util/Set"), accessFlags := 18, slot := 2, constantValue := 0 }]
  methods := #[k10m0]
  instanceTypes := #[(.object "java/util/Map"), (.object "java/util/Map"), (.object "java/util/Set")]
  staticTypes := #[(.object "java/lang/String"), (.object "java/lang/String"), (.object "java/lang/String"), (.object "java/lang/String"), (.object "java/lang/String"), (.object "java/lang/String")]
  resolved := Array.replicate 331 none
  statics := none }

def pool11 : Array CpInfo := pool [(3, .class_ 4), (0, u "java/lang/String"), (1, .class_ 8), (1, u "java/lang/Object"), (0, u "<init>"), (0, u "()V"), (0, .methodref 12 13), (0, .class_ 14), (0, .nameAndType 15 16), (0, u "java/lang/StringUTF16"), (0, u "newBytesLength"), (0, u "(I)I"), (3, .integer 1073741823), (23, .fieldref 12 45), (0, .nameAndType 46 47), (0, u "$assertionsDisabled"), (0, u "Z"), (0, .methodref 12 49), (0, .nameAndType 50 51), (0, u "length"), (0, u "([B)I"), (7, .fieldref 12 60), (0, .nameAndType 61 62), (0, u "HI_BYTE_SHIFT"), (0, u "I"), (0, .fieldref 12 64), (0, .nameAndType 65 62), (0, u "LO_BYTE_SHIFT"), (1, .methodref 12 68), (0, .nameAndType 69 70), (0, u "checkIndex"), (0, u "(I[B)V"), (0, .methodref 12 72), (0, .nameAndType 73 74), (0, u "getChar"), (0, u "([BI)C"), (32, .methodref 12 108), (0, .nameAndType 109 110), (0, u "newBytesFor"), (0, u "(I)[B"), (0, .methodref 12 112), (0, .nameAndType 113 114), (0, u "putChar"), (0, u "([BII)V"), (0, .methodref 12 116), (0, .nameAndType 117 118), (0, u "compress"), (0, u "([CI[BII)I"), (0, .methodref 12 120), (0, .nameAndType 121 122), (0, u "toBytes"), (0, u "([CII)[B"), (138, u "coderFromArrayLen"), (0, u "([BI)B"), (106, .class_ 371), (1, u "java/lang/StringUTF16$LinesSpliterator"), (20, u "charAt"), (21, .methodref 3 415), (0, .nameAndType 69 416), (0, u "(II)V"), (13, u "MAX_LENGTH"), (196, .class_ 628), (0, u "java/lang/StringUTF16$CodePointsSpliterator"), (0, .class_ 630), (0, u "java/lang/StringUTF16$CharsSpliterator")] 4

def k11m0 : Method := { name := "<init>", desc := "()V", sig := { parameters := [], returnType := none }, accessFlags := 0, code := none }
def k11c1 : Code := { maxStack := 1, maxLocals := 1, code := jdk_52_method_2_code, exceptionTable := #[], attributes := #[] }
def k11m1 : Method := { name := "newBytesFor", desc := "(I)[B", sig := { parameters := [.int], returnType := some (.array .byte) }, accessFlags := 9, code := some k11c1 }
def k11c2 : Code := { maxStack := 4, maxLocals := 1, code := jdk_52_method_3_code, exceptionTable := #[], attributes := #[] }
def k11m2 : Method := { name := "newBytesLength", desc := "(I)I", sig := { parameters := [.int], returnType := some .int }, accessFlags := 9, code := some k11c2 }
def k11c3 : Code := { maxStack := 4, maxLocals := 3, code := jdk_52_method_4_code, exceptionTable := #[], attributes := #[] }
def k11m3 : Method := { name := "putChar", desc := "([BII)V", sig := { parameters := [(.array .byte), .int, .int], returnType := none }, accessFlags := 8, code := some k11c3 }
def k11c4 : Code := { maxStack := 3, maxLocals := 2, code := jdk_52_method_5_code, exceptionTable := #[], attributes := #[] }
def k11m4 : Method := { name := "getChar", desc := "([BI)C", sig := { parameters := [(.array .byte), .int], returnType := some .char }, accessFlags := 8, code := some k11c4 }
def k11c5 : Code := { maxStack := 2, maxLocals := 1, code := jdk_52_method_6_code, exceptionTable := #[], attributes := #[] }
def k11m5 : Method := { name := "length", desc := "([B)I", sig := { parameters := [(.array .byte)], returnType := some .int }, accessFlags := 9, code := some k11c5 }
def k11c6 : Code := { maxStack := 4, maxLocals := 5, code := jdk_52_method_14_code, exceptionTable := #[], attributes := #[] }
def k11m6 : Method := { name := "toBytes", desc := "([CII)[B", sig := { parameters := [(.array .char), .int, .int], returnType := some (.array .byte) }, accessFlags := 9, code := some k11c6 }
def k11c7 : Code := { maxStack := 2, maxLocals := 2, code := jdk_52_method_15_code, exceptionTable := #[], attributes := #[] }
def k11m7 : Method := { name := "coderFromArrayLen", desc := "([BI)B", sig := { parameters := [(.array .byte), .int], returnType := some .byte }, accessFlags := 8, code := some k11c7 }
def k11c8 : Code := { maxStack := 5, maxLocals := 6, code := jdk_52_method_16_code, exceptionTable := #[], attributes := #[] }
def k11m8 : Method := { name := "compress", desc := "([CII)[B", sig := { parameters := [(.array .char), .int, .int], returnType := some (.array .byte) }, accessFlags := 9, code := some k11c8 }
def k11c9 : Code := { maxStack := 3, maxLocals := 7, code := jdk_52_method_21_code, exceptionTable := #[], attributes := #[] }
def k11m9 : Method := { name := "compress", desc := "([CI[BII)I", sig := { parameters := [(.array .char), .int, (.array .byte), .int, .int], returnType := some .int }, accessFlags := 9, code := some k11c9 }
def k11c10 : Code := { maxStack := 2, maxLocals := 2, code := jdk_52_method_83_code, exceptionTable := #[], attributes := #[] }
def k11m10 : Method := { name := "charAt", desc := "([BI)C", sig := { parameters := [(.array .byte), .int], returnType := some .char }, accessFlags := 9, code := some k11c10 }
def k11c11 : Code := { maxStack := 2, maxLocals := 2, code := jdk_52_method_91_code, exceptionTable := #[], attributes := #[] }
def k11m11 : Method := { name := "checkIndex", desc := "(I[B)V", sig := { parameters := [.int, (.array .byte)], returnType := none }, accessFlags := 9, code := some k11c11 }
/-- java/lang/StringUTF16 -/
def k11 : Class := { plain "java/lang/StringUTF16" (some 0) with
  accessFlags := 48
  interfaces := #[]
  cf := some (fileOf pool11 12 #[.nestMembers #[627, 629, 369]] #[{ accessFlags := 0, nameIndex := 9, descriptorIndex := 10, attributes := #[] }, { accessFlags := 9, nameIndex := 109, descriptorIndex := 110, attributes := #[] }, { accessFlags := 9, nameIndex := 15, descriptorIndex := 16, attributes := #[] }, { accessFlags := 8, nameIndex := 113, descriptorIndex := 114, attributes := #[] }, { accessFlags := 8, nameIndex := 73, descriptorIndex := 74, attributes := #[] }, { accessFlags := 9, nameIndex := 50, descriptorIndex := 51, attributes := #[] }, { accessFlags := 9, nameIndex := 121, descriptorIndex := 122, attributes := #[] }, { accessFlags := 8, nameIndex := 261, descriptorIndex := 262, attributes := #[] }, { accessFlags := 9, nameIndex := 117, descriptorIndex := 122, attributes := #[] }, { accessFlags := 9, nameIndex := 117, descriptorIndex := 118, attributes := #[] }, { accessFlags := 9, nameIndex := 392, descriptorIndex := 74, attributes := #[] }, { accessFlags := 9, nameIndex := 69, descriptorIndex := 70, attributes := #[] }] 48 6 #[] #[{ accessFlags := 26, nameIndex := 61, descriptorIndex := 62, attributes := #[] }, { accessFlags := 26, nameIndex := 65, descriptorIndex := 62, attributes := #[] }, { accessFlags := 24, nameIndex := 430, descriptorIndex := 62, attributes := #[] }, { accessFlags := 4120, nameIndex := 46, descriptorIndex := 47, attributes := #[] }])
  fields := #[{ name := "HI_BYTE_SHIFT", type := .int, accessFlags := 26, slot := 0, constantValue := 0 }, { name := "LO_BYTE_SHIFT", type := .int, accessFlags := 26, slot := 1, constantValue := 0 }, { name := "MAX_LENGTH", type := .int, accessFlags := 24, slot := 2, constantValue := 0 }, { name := "$assertionsDisabled", type := .boolean, accessFlags := 4120, slot := 3, constantValue := 0 }]
  methods := #[k11m0, k11m1, k11m2, k11m3, k11m4, k11m5, k11m6, k11m7, k11m8, k11m9, k11m10, k11m11]
  instanceTypes := #[]
  staticTypes := #[.int, .int, .int, .boolean]
  resolved := Array.replicate 635 none
  statics := some 2 }

def pool12 : Array CpInfo := pool [(9, u "<init>"), (6, .class_ 18), (1, u "java/lang/Object"), (0, u "()V"), (1, .class_ 23), (1, u "jdk/internal/util/ArraysSupport"), (0, u "LOG2_ARRAY_LONG_INDEX_SCALE"), (0, u "I"), (2, u "U"), (0, u "Ljdk/internal/misc/Unsafe;"), (8, u "BIG_ENDIAN"), (0, u "Z"), (8, u "LOG2_BYTE_BIT_SIZE"), (4, u "LOG2_ARRAY_INT_INDEX_SCALE"), (54, u "JLA"), (0, u "Ljdk/internal/access/JavaLangAccess;"), (11, u "LOG2_ARRAY_BOOLEAN_INDEX_SCALE"), (9, u "LOG2_ARRAY_BYTE_INDEX_SCALE"), (5, u "LOG2_ARRAY_CHAR_INDEX_SCALE"), (5, u "LOG2_ARRAY_SHORT_INDEX_SCALE"), (18, u "LOG2_ARRAY_FLOAT_INDEX_SCALE"), (24, u "LOG2_ARRAY_DOUBLE_INDEX_SCALE"), (89, u "T_BOOLEAN"), (2, u "T_CHAR"), (1, u "T_FLOAT"), (1, u "T_DOUBLE"), (1, u "T_BYTE"), (1, u "T_SHORT"), (1, u "T_INT"), (1, u "T_LONG"), (1, u "SOFT_MAX_ARRAY_LENGTH")] 83

def k12m0 : Method := { name := "<init>", desc := "()V", sig := { parameters := [], returnType := none }, accessFlags := 2, code := none }
/-- jdk/internal/util/ArraysSupport -/
def k12 : Class := { plain "jdk/internal/util/ArraysSupport" (some 0) with
  accessFlags := 33
  interfaces := #[]
  cf := some (fileOf pool12 21 #[] #[{ accessFlags := 2, nameIndex := 9, descriptorIndex := 19, attributes := #[] }] 33 16 #[] #[{ accessFlags := 24, nameIndex := 28, descriptorIndex := 29, attributes := #[] }, { accessFlags := 26, nameIndex := 38, descriptorIndex := 39, attributes := #[] }, { accessFlags := 25, nameIndex := 121, descriptorIndex := 25, attributes := #[] }, { accessFlags := 25, nameIndex := 131, descriptorIndex := 25, attributes := #[] }, { accessFlags := 25, nameIndex := 137, descriptorIndex := 25, attributes := #[] }, { accessFlags := 25, nameIndex := 143, descriptorIndex := 25, attributes := #[] }, { accessFlags := 25, nameIndex := 53, descriptorIndex := 25, attributes := #[] }, { accessFlags := 25, nameIndex := 24, descriptorIndex := 25, attributes := #[] }, { accessFlags := 25, nameIndex := 162, descriptorIndex := 25, attributes := #[] }, { accessFlags := 25, nameIndex := 187, descriptorIndex := 25, attributes := #[] }, { accessFlags := 26, nameIndex := 48, descriptorIndex := 25, attributes := #[] }, { accessFlags := 25, nameIndex := 277, descriptorIndex := 25, attributes := #[] }, { accessFlags := 25, nameIndex := 280, descriptorIndex := 25, attributes := #[] }, { accessFlags := 25, nameIndex := 282, descriptorIndex := 25, attributes := #[] }, { accessFlags := 25, nameIndex := 284, descriptorIndex := 25, attributes := #[] }, { accessFlags := 25, nameIndex := 286, descriptorIndex := 25, attributes := #[] }, { accessFlags := 25, nameIndex := 288, descriptorIndex := 25, attributes := #[] }, { accessFlags := 25, nameIndex := 290, descriptorIndex := 25, attributes := #[] }, { accessFlags := 25, nameIndex := 292, descriptorIndex := 25, attributes := #[] }, { accessFlags := 26, nameIndex := 108, descriptorIndex := 109, attributes := #[] }, { accessFlags := 25, nameIndex := 294, descriptorIndex := 25, attributes := #[] }])
  fields := #[{ name := "U", type := (.object "jdk/internal/misc/Unsafe"), accessFlags := 24, slot := 0, constantValue := 0 }, { name := "BIG_ENDIAN", type := .boolean, accessFlags := 26, slot := 1, constantValue := 0 }, { name := "LOG2_ARRAY_BOOLEAN_INDEX_SCALE", type := .int, accessFlags := 25, slot := 2, constantValue := 0 }, { name := "LOG2_ARRAY_BYTE_INDEX_SCALE", type := .int, accessFlags := 25, slot := 3, constantValue := 0 }, { name := "LOG2_ARRAY_CHAR_INDEX_SCALE", type := .int, accessFlags := 25, slot := 4, constantValue := 0 }, { name := "LOG2_ARRAY_SHORT_INDEX_SCALE", type := .int, accessFlags := 25, slot := 5, constantValue := 0 }, { name := "LOG2_ARRAY_INT_INDEX_SCALE", type := .int, accessFlags := 25, slot := 6, constantValue := 0 }, { name := "LOG2_ARRAY_LONG_INDEX_SCALE", type := .int, accessFlags := 25, slot := 7, constantValue := 0 }, { name := "LOG2_ARRAY_FLOAT_INDEX_SCALE", type := .int, accessFlags := 25, slot := 8, constantValue := 0 }, { name := "LOG2_ARRAY_DOUBLE_INDEX_SCALE", type := .int, accessFlags := 25, slot := 9, constantValue := 0 }, { name := "LOG2_BYTE_BIT_SIZE", type := .int, accessFlags := 26, slot := 10, constantValue := 0 }, { name := "T_BOOLEAN", type := .int, accessFlags := 25, slot := 11, constantValue := 0 }, { name := "T_CHAR", type := .int, accessFlags := 25, slot := 12, constantValue := 0 }, { name := "T_FLOAT", type := .int, accessFlags := 25, slot := 13, constantValue := 0 }, { name := "T_DOUBLE", type := .int, accessFlags := 25, slot := 14, constantValue := 0 }, { name := "T_BYTE", type := .int, accessFlags := 25, slot := 15, constantValue := 0 }, { name := "T_SHORT", type := .int, accessFlags := 25, slot := 16, constantValue := 0 }, { name := "T_INT", type := .int, accessFlags := 25, slot := 17, constantValue := 0 }, { name := "T_LONG", type := .int, accessFlags := 25, slot := 18, constantValue := 0 }, { name := "JLA", type := (.object "jdk/internal/access/JavaLangAccess"), accessFlags := 26, slot := 19, constantValue := 0 }, { name := "SOFT_MAX_ARRAY_LENGTH", type := .int, accessFlags := 25, slot := 20, constantValue := 0 }]
  methods := #[k12m0]
  instanceTypes := #[]
  staticTypes := #[(.object "jdk/internal/misc/Unsafe"), .boolean, .int, .int, .int, .int, .int, .int, .int, .int, .int, .int, .int, .int, .int, .int, .int, .int, .int, (.object "jdk/internal/access/JavaLangAccess"), .int]
  resolved := Array.replicate 378 none
  statics := none }

def pool13 : Array CpInfo := pool [(1, u "java/lang/Cloneable"), (0, .class_ 1), (0, u "java/lang/Object"), (0, .class_ 3)] 3

/-- java/lang/Cloneable -/
def k13 : Class := { plain "java/lang/Cloneable" (some 0) with
  accessFlags := 1537
  interfaces := #[]
  cf := some (fileOf pool13 2 #[] #[] 1537 4 #[] #[])
  fields := #[]
  methods := #[]
  instanceTypes := #[]
  staticTypes := #[]
  resolved := Array.replicate 8 none
  statics := none }

/-- the primitive byte -/
def k14 : Class := { plain "byte" none with kind := .primitive 'B', accessFlags := 0x411 }
/-- [B -/
def k15 : Class := { plain "[B" (some 0) with kind := .array 14 .byte, interfaces := #[13, 2], accessFlags := 1041 }

/-- the primitive char -/
def k16 : Class := { plain "char" none with kind := .primitive 'C', accessFlags := 0x411 }
/-- [C -/
def k17 : Class := { plain "[C" (some 0) with kind := .array 16 .char, interfaces := #[13, 2], accessFlags := 1041 }

/-- the primitive int -/
def k18 : Class := { plain "int" none with kind := .primitive 'I', accessFlags := 0x411 }
/-- [I -/
def k19 : Class := { plain "[I" (some 0) with kind := .array 18 .int, interfaces := #[13, 2], accessFlags := 1041 }

def heap : Heap := #[{ cls := 7, slots := #[.long 0, .int 1, .null, .int 0, .null, .int 0, .int 0], vm := .statics 7 },
  { cls := 9, slots := #[.null, .null, .null], vm := .statics 9 },
  { cls := 11, slots := #[.int 0, .int 8, .int 0, .int 1], vm := .statics 11 }]
def classes : Array Class := #[k0, k1, k2, k3, k4, k5, k6, k7, k8, k9, k10, k11, k12, k13, k14, k15, k16, k17, k18, k19]
def interned : List (Array UInt16 × Addr) := []
def slotsUsed : Nat := 14
def theMethod : MethodId := ⟨1, 3⟩
def args0 : Array Value := #[.int 3, .int 5, .int 6, .int 7]
def aboutOver (below : List Frame) : State where
  vm := { classes := classes, interned := interned.toArray }
  heap := heap
  slotsUsed := slotsUsed
  threads := #[{ frames := .invoking theMethod args0 :: below }]
def below0 : List Frame := [.native { method := ⟨0, 0⟩, args := #[] }]
def about1 : State := aboutOver below0
def p0 : Program := .bare "" "" ""
def e0 : Env := launch0.env 0 0 0
theorem w_frames : about1.frames = Frame.invoking theMethod args0 :: below0 := rfl
set_option maxRecDepth 65536 in
theorem w_args : argsFit about1.vm theMethod args0 = true := by decide +kernel
set_option maxRecDepth 65536 in
theorem w_heap : heapFits about1 = true := by decide +kernel
set_option maxRecDepth 65536 in
theorem w_runnable : about1.curStatus? = some .runnable := by decide +kernel
set_option maxRecDepth 65536 in
theorem w_alone : about1.alone = true := by decide +kernel
set_option maxRecDepth 65536 in
theorem w_named : about1.methodNamed? x = some theMethod := by decide +kernel
set_option maxRecDepth 65536 in
theorem w_hears : about1.hears theMethod below0 = true := by decide +kernel
set_option maxRecDepth 65536 in
theorem w_ripe : about1.ripe theMethod args0 below0 = true := by decide +kernel
theorem w_running : about1.status = .running := rfl
set_option maxRecDepth 65536 in
theorem w_room : about1.hasRoom e0.platform room_1 = true :=
  launch0.hasRoom_least _ room_1 (by decide +kernel) (by decide +kernel) (by decide +kernel) (by decide +kernel) (by decide +kernel) (by decide +kernel)
theorem allAtoms_all (ts : List Jvm.Cond) (a : Array Jvm.Value) (st : Jvm.State) : (allAtoms ts).before a st = ts.all (fun c => c.before a st) := by
  induction ts with
  | nil => rfl
  | cons c t ih =>
    show (Jvm.Cond.and c (allAtoms t)).before a st = _
    rw [Jvm.Cond.before_and, ih, List.all_cons]
def words1 : List Jvm.Cond := Jvm.Cond.code x code maxLocals ret :: tables_1
/-- a 'code' word, met by the world's own term for the bytes: nothing is compared byte by byte -/
theorem code_word {y : MethodName} {bytes : ByteArray} {mx : Nat} {rt : Option FieldType} {a : Array Value} {s : State} {m : MethodId} {meth : Method} {c : Code} (h1 : s.methodNamed? y = some m) (h2 : s.vm.method? m = some meth) (h3 : meth.code = some c) (h4 : c.code = bytes)
    (h5 : (c.maxLocals == mx && c.exceptionTable.isEmpty && decide (c.maxStack ≤ mostOperands) && decide (meth.sig.returnType = rt) && !meth.locks && decide (parseMethodDescriptor y.desc = some meth.sig)) = true) : (Jvm.Cond.code y bytes mx rt).before a s = true := by
  simp only [Bool.and_eq_true, beq_iff_eq, Bool.not_eq_true', decide_eq_true_eq] at h5
  obtain ⟨⟨⟨⟨⟨g1, g2⟩, g3⟩, g4⟩, g5⟩, g6⟩ := h5
  simp [Cond.before, Cond.holds, Cond.value, h1, h2, h3, h4, g1, g2, g3, g4, g5, g6]
def isCode : Jvm.Cond → Bool
  | .code _ _ _ _ => true
  | _ => false
theorem all_split {L : List Jvm.Cond} {P : Jvm.Cond → Bool} (h1 : L.all (fun c => isCode c || P c) = true) (h2 : ∀ c ∈ L.filter isCode, P c = true) : L.all P = true := by
  refine List.all_eq_true.mpr fun c hc => ?_
  have h := List.all_eq_true.mp h1 c hc
  rcases Bool.eq_false_or_eq_true (isCode c) with hi | hi
  · exact h2 c (List.mem_filter.mpr ⟨hc, hi⟩)
  · simpa [hi] using h
set_option maxRecDepth 65536 in
theorem w_c0 : (Jvm.Cond.code x code maxLocals ret).before args0 about1 = true := code_word (m := ⟨1, 3⟩) (meth := k1m3) (c := k1c3) (by decide +kernel) rfl rfl rfl (by decide +kernel)
set_option maxRecDepth 65536 in
theorem w_c1 : (Jvm.Cond.code ({ cls := "com/example/labmeld/labmeld/xsd/XsdSchemaIsWhiteSpacePinLaw", name := "draw", desc := "(I)C" } : Jvm.MethodName) method_3_code (1 : Nat) (Option.some Jvm.ClassFile.FieldType.char)).before args0 about1 = true := code_word (m := ⟨1, 2⟩) (meth := k1m2) (c := k1c2) (by decide +kernel) rfl rfl rfl (by decide +kernel)
set_option maxRecDepth 65536 in
theorem w_c2 : (Jvm.Cond.code ({ cls := "java/lang/String", name := "charAt", desc := "(I)C" } : Jvm.MethodName) jdk_42_method_56_code (2 : Nat) (Option.some Jvm.ClassFile.FieldType.char)).before args0 about1 = true := code_word (m := ⟨7, 3⟩) (meth := k7m3) (c := k7c3) (by decide +kernel) rfl rfl rfl (by decide +kernel)
set_option maxRecDepth 65536 in
theorem w_c3 : (Jvm.Cond.code ({ cls := "java/lang/String", name := "isLatin1", desc := "()Z" } : Jvm.MethodName) jdk_42_method_154_code (1 : Nat) (Option.some Jvm.ClassFile.FieldType.boolean)).before args0 about1 = true := code_word (m := ⟨7, 6⟩) (meth := k7m6) (c := k7c6) (by decide +kernel) rfl rfl rfl (by decide +kernel)
set_option maxRecDepth 65536 in
theorem w_c4 : (Jvm.Cond.code ({ cls := "java/lang/StringLatin1", name := "charAt", desc := "([BI)C" } : Jvm.MethodName) jdk_43_method_2_code (2 : Nat) (Option.some Jvm.ClassFile.FieldType.char)).before args0 about1 = true := code_word (m := ⟨8, 1⟩) (meth := k8m1) (c := k8c1) (by decide +kernel) rfl rfl rfl (by decide +kernel)
set_option maxRecDepth 65536 in
theorem w_c5 : (Jvm.Cond.code ({ cls := "java/lang/String", name := "checkIndex", desc := "(II)V" } : Jvm.MethodName) jdk_42_method_155_code (2 : Nat) (Option.none : Option Jvm.ClassFile.FieldType)).before args0 about1 = true := code_word (m := ⟨7, 7⟩) (meth := k7m7) (c := k7c7) (by decide +kernel) rfl rfl rfl (by decide +kernel)
set_option maxRecDepth 65536 in
theorem w_c6 : (Jvm.Cond.code ({ cls := "jdk/internal/util/Preconditions", name := "checkIndex", desc := "(IILjava/util/function/BiFunction;)I" } : Jvm.MethodName) jdk_41_method_11_code (3 : Nat) (Option.some Jvm.ClassFile.FieldType.int)).before args0 about1 = true := code_word (m := ⟨9, 1⟩) (meth := k9m1) (c := k9c1) (by decide +kernel) rfl rfl rfl (by decide +kernel)
set_option maxRecDepth 65536 in
theorem w_c7 : (Jvm.Cond.code ({ cls := "java/lang/String", name := "<init>", desc := "([C)V" } : Jvm.MethodName) jdk_42_method_3_code (2 : Nat) (Option.none : Option Jvm.ClassFile.FieldType)).before args0 about1 = true := code_word (m := ⟨7, 1⟩) (meth := k7m1) (c := k7c1) (by decide +kernel) rfl rfl rfl (by decide +kernel)
set_option maxRecDepth 65536 in
theorem w_c8 : (Jvm.Cond.code ({ cls := "java/lang/String", name := "<init>", desc := "([CIILjava/lang/Void;)V" } : Jvm.MethodName) jdk_42_method_149_code (6 : Nat) (Option.none : Option Jvm.ClassFile.FieldType)).before args0 about1 = true := code_word (m := ⟨7, 4⟩) (meth := k7m4) (c := k7c4) (by decide +kernel) rfl rfl rfl (by decide +kernel)
set_option maxRecDepth 65536 in
theorem w_c9 : (Jvm.Cond.code ({ cls := "java/lang/Object", name := "<init>", desc := "()V" } : Jvm.MethodName) object_method_1_code (1 : Nat) (Option.none : Option Jvm.ClassFile.FieldType)).before args0 about1 = true := code_word (m := ⟨0, 0⟩) (meth := k0m0) (c := k0c0) (by decide +kernel) rfl rfl rfl (by decide +kernel)
set_option maxRecDepth 65536 in
theorem w_c10 : (Jvm.Cond.code ({ cls := "com/example/labmeld/labmeld/xsd/XsdSchema", name := "isWhiteSpace", desc := "(Ljava/lang/String;)Z" } : Jvm.MethodName) prog_80_method_13_code (3 : Nat) (Option.some Jvm.ClassFile.FieldType.boolean)).before args0 about1 = true := code_word (m := ⟨10, 0⟩) (meth := k10m0) (c := k10c0) (by decide +kernel) rfl rfl rfl (by decide +kernel)
set_option maxRecDepth 65536 in
theorem w_c11 : (Jvm.Cond.code ({ cls := "java/lang/String", name := "length", desc := "()I" } : Jvm.MethodName) jdk_42_method_54_code (1 : Nat) (Option.some Jvm.ClassFile.FieldType.int)).before args0 about1 = true := code_word (m := ⟨7, 2⟩) (meth := k7m2) (c := k7c2) (by decide +kernel) rfl rfl rfl (by decide +kernel)
set_option maxRecDepth 65536 in
theorem w_c12 : (Jvm.Cond.code ({ cls := "java/lang/String", name := "coder", desc := "()B" } : Jvm.MethodName) jdk_42_method_152_code (1 : Nat) (Option.some Jvm.ClassFile.FieldType.byte)).before args0 about1 = true := code_word (m := ⟨7, 5⟩) (meth := k7m5) (c := k7c5) (by decide +kernel) rfl rfl rfl (by decide +kernel)
set_option maxRecDepth 65536 in
theorem w_c13 : (Jvm.Cond.code ({ cls := "java/lang/StringUTF16", name := "compress", desc := "([CII)[B" } : Jvm.MethodName) jdk_52_method_16_code (6 : Nat) (Option.some (Jvm.ClassFile.FieldType.array Jvm.ClassFile.FieldType.byte))).before args0 about1 = true := code_word (m := ⟨11, 8⟩) (meth := k11m8) (c := k11c8) (by decide +kernel) rfl rfl rfl (by decide +kernel)
set_option maxRecDepth 65536 in
theorem w_c14 : (Jvm.Cond.code ({ cls := "java/lang/StringUTF16", name := "compress", desc := "([CI[BII)I" } : Jvm.MethodName) jdk_52_method_21_code (7 : Nat) (Option.some Jvm.ClassFile.FieldType.int)).before args0 about1 = true := code_word (m := ⟨11, 9⟩) (meth := k11m9) (c := k11c9) (by decide +kernel) rfl rfl rfl (by decide +kernel)
set_option maxRecDepth 65536 in
theorem w_c15 : (Jvm.Cond.code ({ cls := "java/lang/StringUTF16", name := "coderFromArrayLen", desc := "([BI)B" } : Jvm.MethodName) jdk_52_method_15_code (2 : Nat) (Option.some Jvm.ClassFile.FieldType.byte)).before args0 about1 = true := code_word (m := ⟨11, 7⟩) (meth := k11m7) (c := k11c7) (by decide +kernel) rfl rfl rfl (by decide +kernel)
set_option maxRecDepth 65536 in
theorem w_c16 : (Jvm.Cond.code ({ cls := "com/example/labmeld/labmeld/xsd/XsdSchemaIsWhiteSpacePinLaw", name := "ws", desc := "(C)Z" } : Jvm.MethodName) method_2_code (1 : Nat) (Option.some Jvm.ClassFile.FieldType.boolean)).before args0 about1 = true := code_word (m := ⟨1, 1⟩) (meth := k1m1) (c := k1c1) (by decide +kernel) rfl rfl rfl (by decide +kernel)
set_option maxRecDepth 65536 in
theorem w_c17 : (Jvm.Cond.code ({ cls := "java/lang/StringUTF16", name := "toBytes", desc := "([CII)[B" } : Jvm.MethodName) jdk_52_method_14_code (5 : Nat) (Option.some (Jvm.ClassFile.FieldType.array Jvm.ClassFile.FieldType.byte))).before args0 about1 = true := code_word (m := ⟨11, 6⟩) (meth := k11m6) (c := k11c6) (by decide +kernel) rfl rfl rfl (by decide +kernel)
set_option maxRecDepth 65536 in
theorem w_c18 : (Jvm.Cond.code ({ cls := "java/lang/StringUTF16", name := "newBytesFor", desc := "(I)[B" } : Jvm.MethodName) jdk_52_method_2_code (1 : Nat) (Option.some (Jvm.ClassFile.FieldType.array Jvm.ClassFile.FieldType.byte))).before args0 about1 = true := code_word (m := ⟨11, 1⟩) (meth := k11m1) (c := k11c1) (by decide +kernel) rfl rfl rfl (by decide +kernel)
set_option maxRecDepth 65536 in
theorem w_c19 : (Jvm.Cond.code ({ cls := "java/lang/StringUTF16", name := "newBytesLength", desc := "(I)I" } : Jvm.MethodName) jdk_52_method_3_code (1 : Nat) (Option.some Jvm.ClassFile.FieldType.int)).before args0 about1 = true := code_word (m := ⟨11, 2⟩) (meth := k11m2) (c := k11c2) (by decide +kernel) rfl rfl rfl (by decide +kernel)
set_option maxRecDepth 65536 in
theorem w_c20 : (Jvm.Cond.code ({ cls := "java/lang/StringUTF16", name := "putChar", desc := "([BII)V" } : Jvm.MethodName) jdk_52_method_4_code (3 : Nat) (Option.none : Option Jvm.ClassFile.FieldType)).before args0 about1 = true := code_word (m := ⟨11, 3⟩) (meth := k11m3) (c := k11c3) (by decide +kernel) rfl rfl rfl (by decide +kernel)
set_option maxRecDepth 65536 in
theorem w_c21 : (Jvm.Cond.code ({ cls := "java/lang/StringUTF16", name := "getChar", desc := "([BI)C" } : Jvm.MethodName) jdk_52_method_5_code (2 : Nat) (Option.some Jvm.ClassFile.FieldType.char)).before args0 about1 = true := code_word (m := ⟨11, 4⟩) (meth := k11m4) (c := k11c4) (by decide +kernel) rfl rfl rfl (by decide +kernel)
set_option maxRecDepth 65536 in
theorem w_c22 : (Jvm.Cond.code ({ cls := "java/lang/StringUTF16", name := "charAt", desc := "([BI)C" } : Jvm.MethodName) jdk_52_method_83_code (2 : Nat) (Option.some Jvm.ClassFile.FieldType.char)).before args0 about1 = true := code_word (m := ⟨11, 10⟩) (meth := k11m10) (c := k11c10) (by decide +kernel) rfl rfl rfl (by decide +kernel)
set_option maxRecDepth 65536 in
theorem w_c23 : (Jvm.Cond.code ({ cls := "java/lang/StringUTF16", name := "checkIndex", desc := "(I[B)V" } : Jvm.MethodName) jdk_52_method_91_code (2 : Nat) (Option.none : Option Jvm.ClassFile.FieldType)).before args0 about1 = true := code_word (m := ⟨11, 11⟩) (meth := k11m11) (c := k11c11) (by decide +kernel) rfl rfl rfl (by decide +kernel)
set_option maxRecDepth 65536 in
theorem w_c24 : (Jvm.Cond.code ({ cls := "java/lang/StringUTF16", name := "length", desc := "([B)I" } : Jvm.MethodName) jdk_52_method_6_code (1 : Nat) (Option.some Jvm.ClassFile.FieldType.int)).before args0 about1 = true := code_word (m := ⟨11, 5⟩) (meth := k11m5) (c := k11c5) (by decide +kernel) rfl rfl rfl (by decide +kernel)
def codes1 : List Jvm.Cond := [Jvm.Cond.code x code maxLocals ret, Jvm.Cond.code ({ cls := "com/example/labmeld/labmeld/xsd/XsdSchemaIsWhiteSpacePinLaw", name := "draw", desc := "(I)C" } : Jvm.MethodName) method_3_code (1 : Nat) (Option.some Jvm.ClassFile.FieldType.char), Jvm.Cond.code ({ cls := "java/lang/String", name := "charAt", desc := "(I)C" } : Jvm.MethodName) jdk_42_method_56_code (2 : Nat) (Option.some Jvm.ClassFile.FieldType.char), Jvm.Cond.code ({ cls := "java/lang/String", name := "isLatin1", desc := "()Z" } : Jvm.MethodName) jdk_42_method_154_code (1 : Nat) (Option.some Jvm.ClassFile.FieldType.boolean), Jvm.Cond.code ({ cls := "java/lang/StringLatin1", name := "charAt", desc := "([BI)C" } : Jvm.MethodName) jdk_43_method_2_code (2 : Nat) (Option.some Jvm.ClassFile.FieldType.char), Jvm.Cond.code ({ cls := "java/lang/String", name := "checkIndex", desc := "(II)V" } : Jvm.MethodName) jdk_42_method_155_code (2 : Nat) (Option.none : Option Jvm.ClassFile.FieldType), Jvm.Cond.code ({ cls := "jdk/internal/util/Preconditions", name := "checkIndex", desc := "(IILjava/util/function/BiFunction;)I" } : Jvm.MethodName) jdk_41_method_11_code (3 : Nat) (Option.some Jvm.ClassFile.FieldType.int), Jvm.Cond.code ({ cls := "java/lang/String", name := "<init>", desc := "([C)V" } : Jvm.MethodName) jdk_42_method_3_code (2 : Nat) (Option.none : Option Jvm.ClassFile.FieldType), Jvm.Cond.code ({ cls := "java/lang/String", name := "<init>", desc := "([CIILjava/lang/Void;)V" } : Jvm.MethodName) jdk_42_method_149_code (6 : Nat) (Option.none : Option Jvm.ClassFile.FieldType), Jvm.Cond.code ({ cls := "java/lang/Object", name := "<init>", desc := "()V" } : Jvm.MethodName) object_method_1_code (1 : Nat) (Option.none : Option Jvm.ClassFile.FieldType), Jvm.Cond.code ({ cls := "com/example/labmeld/labmeld/xsd/XsdSchema", name := "isWhiteSpace", desc := "(Ljava/lang/String;)Z" } : Jvm.MethodName) prog_80_method_13_code (3 : Nat) (Option.some Jvm.ClassFile.FieldType.boolean), Jvm.Cond.code ({ cls := "java/lang/String", name := "length", desc := "()I" } : Jvm.MethodName) jdk_42_method_54_code (1 : Nat) (Option.some Jvm.ClassFile.FieldType.int), Jvm.Cond.code ({ cls := "java/lang/String", name := "coder", desc := "()B" } : Jvm.MethodName) jdk_42_method_152_code (1 : Nat) (Option.some Jvm.ClassFile.FieldType.byte), Jvm.Cond.code ({ cls := "java/lang/StringUTF16", name := "compress", desc := "([CII)[B" } : Jvm.MethodName) jdk_52_method_16_code (6 : Nat) (Option.some (Jvm.ClassFile.FieldType.array Jvm.ClassFile.FieldType.byte)), Jvm.Cond.code ({ cls := "java/lang/StringUTF16", name := "compress", desc := "([CI[BII)I" } : Jvm.MethodName) jdk_52_method_21_code (7 : Nat) (Option.some Jvm.ClassFile.FieldType.int), Jvm.Cond.code ({ cls := "java/lang/StringUTF16", name := "coderFromArrayLen", desc := "([BI)B" } : Jvm.MethodName) jdk_52_method_15_code (2 : Nat) (Option.some Jvm.ClassFile.FieldType.byte), Jvm.Cond.code ({ cls := "com/example/labmeld/labmeld/xsd/XsdSchemaIsWhiteSpacePinLaw", name := "ws", desc := "(C)Z" } : Jvm.MethodName) method_2_code (1 : Nat) (Option.some Jvm.ClassFile.FieldType.boolean), Jvm.Cond.code ({ cls := "java/lang/StringUTF16", name := "toBytes", desc := "([CII)[B" } : Jvm.MethodName) jdk_52_method_14_code (5 : Nat) (Option.some (Jvm.ClassFile.FieldType.array Jvm.ClassFile.FieldType.byte)), Jvm.Cond.code ({ cls := "java/lang/StringUTF16", name := "newBytesFor", desc := "(I)[B" } : Jvm.MethodName) jdk_52_method_2_code (1 : Nat) (Option.some (Jvm.ClassFile.FieldType.array Jvm.ClassFile.FieldType.byte)), Jvm.Cond.code ({ cls := "java/lang/StringUTF16", name := "newBytesLength", desc := "(I)I" } : Jvm.MethodName) jdk_52_method_3_code (1 : Nat) (Option.some Jvm.ClassFile.FieldType.int), Jvm.Cond.code ({ cls := "java/lang/StringUTF16", name := "putChar", desc := "([BII)V" } : Jvm.MethodName) jdk_52_method_4_code (3 : Nat) (Option.none : Option Jvm.ClassFile.FieldType), Jvm.Cond.code ({ cls := "java/lang/StringUTF16", name := "getChar", desc := "([BI)C" } : Jvm.MethodName) jdk_52_method_5_code (2 : Nat) (Option.some Jvm.ClassFile.FieldType.char), Jvm.Cond.code ({ cls := "java/lang/StringUTF16", name := "charAt", desc := "([BI)C" } : Jvm.MethodName) jdk_52_method_83_code (2 : Nat) (Option.some Jvm.ClassFile.FieldType.char), Jvm.Cond.code ({ cls := "java/lang/StringUTF16", name := "checkIndex", desc := "(I[B)V" } : Jvm.MethodName) jdk_52_method_91_code (2 : Nat) (Option.none : Option Jvm.ClassFile.FieldType), Jvm.Cond.code ({ cls := "java/lang/StringUTF16", name := "length", desc := "([B)I" } : Jvm.MethodName) jdk_52_method_6_code (1 : Nat) (Option.some Jvm.ClassFile.FieldType.int)]
set_option maxRecDepth 65536 in
theorem codes_eq : words1.filter isCode = codes1 := rfl
theorem w_codes : ∀ c ∈ words1.filter isCode, c.before args0 about1 = true := by
  rw [codes_eq]
  intro c hc
  simp only [codes1, List.mem_cons, List.not_mem_nil, or_false] at hc
  rcases hc with rfl | rfl | rfl | rfl | rfl | rfl | rfl | rfl | rfl | rfl | rfl | rfl | rfl | rfl | rfl | rfl | rfl | rfl | rfl | rfl | rfl | rfl | rfl | rfl | rfl
  · exact w_c0
  · exact w_c1
  · exact w_c2
  · exact w_c3
  · exact w_c4
  · exact w_c5
  · exact w_c6
  · exact w_c7
  · exact w_c8
  · exact w_c9
  · exact w_c10
  · exact w_c11
  · exact w_c12
  · exact w_c13
  · exact w_c14
  · exact w_c15
  · exact w_c16
  · exact w_c17
  · exact w_c18
  · exact w_c19
  · exact w_c20
  · exact w_c21
  · exact w_c22
  · exact w_c23
  · exact w_c24
set_option maxRecDepth 65536 in
theorem w_t1 : (words1.take 24).all (fun c => isCode c || c.before args0 about1) = true := by decide +kernel
set_option maxRecDepth 65536 in
theorem w_t2 : ((words1.drop 24).take 24).all (fun c => isCode c || c.before args0 about1) = true := by decide +kernel
set_option maxRecDepth 65536 in
theorem w_t3 : (((words1.drop 24).drop 24).take 24).all (fun c => isCode c || c.before args0 about1) = true := by decide +kernel
set_option maxRecDepth 65536 in
theorem w_t4 : ((((words1.drop 24).drop 24).drop 24).take 24).all (fun c => isCode c || c.before args0 about1) = true := by decide +kernel
set_option maxRecDepth 65536 in
theorem w_t5 : ((((words1.drop 24).drop 24).drop 24).drop 24).all (fun c => isCode c || c.before args0 about1) = true := by decide +kernel
theorem w_tables : (allAtoms (Jvm.Cond.code x code maxLocals ret :: tables_1)).before args0 about1 = true := by
  rw [allAtoms_all]
  show words1.all (fun c => c.before args0 about1) = true
  refine all_split ?_ w_codes
  rw [← List.take_append_drop 24 words1, List.all_append, w_t1, ← List.take_append_drop 24 (words1.drop 24), List.all_append, w_t2, ← List.take_append_drop 24 ((words1.drop 24).drop 24), List.all_append, w_t3, ← List.take_append_drop 24 (((words1.drop 24).drop 24).drop 24), List.all_append, w_t4, w_t5]
  rfl
set_option maxRecDepth 65536 in
theorem w_rest : rest_1_c.before args0 about1 = true := by decide +kernel
set_option maxRecDepth 65536 in
theorem w_case : (Jvm.Cond.and given_1 narrow_1).before args0 about1 = true := by decide +kernel
set_option maxRecDepth 65536 in
theorem w_consts : constsHeld consts_1 about1 := Jvm.Lit.constsHeldB_iff.mp (by decide +kernel)
theorem w_applies : (headSpec (Jvm.Cond.code x code maxLocals ret :: tables_1) room_1).applies x e0.platform about1 = true :=
  (Spec.applies_iff w_frames).mpr ⟨w_running, w_runnable, w_alone, w_named, w_hears, w_ripe, w_room, w_tables⟩
theorem atStart : AtStart classFile x code maxLocals ret World_1 tables_1 room_1 Calls_1 rest_1 Pre_1 launch0 p0 e0 about1 theMethod args0 below0 :=
  ⟨lists_1, trivial, launch0.admits_env _ _ _, launch0.least_env, fairChoices_fair.cas, fairChoices_fair.clock, w_frames, w_args, w_heap, w_applies, ⟨w_consts, trivial⟩, w_rest, w_case⟩
end start1
theorem witness_1 : WitnessClaimed_1 := ⟨start1.p0, start1.e0, start1.about1, start1.theMethod, start1.args0, start1.below0, start1.atStart⟩
end Jvm.Pilot.@@N@@
