import JvmDerived
import JvmDerived.Pilot.@@N@@Statement
import JvmDerived.Pilot.@@N@@Code
set_option linter.unusedVariables false
set_option linter.unusedSimpArgs false
/- laws to paste: Road.backV, Road.eqW, Road.codOf (cut by pick.py; bodies as the Statement names them) -/
namespace Jvm.Pilot.@@N@@
namespace StrChars
open Jvm Sem ClassFile Op Lib Jvm.Stand Jvm.Free.XT Jvm.Free.ALB Jvm.Free.JM Jvm.Free
open Jvm.Lib.Cold (StaticIs)
/-- a char array whose places are chars -/
def Ch (a : Addr) (A : Cell) (U : State) : Prop := Arr .char a A U ∧ Typed .char A
theorem Ch.mv {a : Addr} {A : Cell} {U U' : State} (h : Ch a A U) (hal : U.vm.Alike U'.vm) (hh : U'.heap = U.heap) : Ch a A U' := ⟨h.1.mv hal hh, h.2⟩
theorem Ch.keep {a : Addr} {A : Cell} {U U' : State} (h : Ch a A U) (hal : U.vm.Alike U'.vm) (hk : U'.heap[a]? = some A) : Ch a A U' := ⟨h.1.keep hal hk, h.2⟩
/-- what place i of a char[]'s cell holds -/
def cv (A : Cell) (i : Nat) : Int32 := match A.slots[i]? with | some (.int x) => x | _ => 0
theorem Ch.get {a : Addr} {A : Cell} {U : State} (h : Ch a A U) {i : Nat} (hi : i < A.slots.size) : A.slots[i]? = some (.int (cv A i)) := by
  have e := Array.getElem?_eq_getElem hi
  have f := h.2 i _ e
  unfold cv; rw [e]
  generalize A.slots[i] = v at f
  cases v <;> simp [fits] at f ⊢
/-- the byte that i2b leaves of a char -/
def lo8 (x : Int32) : Int32 := x.toInt8.toInt32
theorem fits_lo8 (y : Int32) : fits .byte (.int (lo8 y)) = true := by
  have h1 := y.toInt8.le_toInt
  have h2 := y.toInt8.toInt_lt
  simp only [lo8, fits, Bool.and_eq_true, decide_eq_true_eq, Int32.le_iff_toInt_le, Int8.toInt_toInt32, show (-128 : Int32).toInt = -128 from by decide, show (127 : Int32).toInt = 127 from by decide]
  omega
/-- A' is A but that each place j of lo .. hi - 1 holds f j -/
def Laid (A A' : Cell) (lo hi : Nat) (f : Nat → Value) : Prop := A'.cls = A.cls ∧ A'.vm = A.vm ∧ A'.slots.size = A.slots.size ∧ ∀ i, A'.slots[i]? = if lo ≤ i ∧ i < hi then some (f i) else A.slots[i]?
theorem Laid.zero (A : Cell) (lo : Nat) (f : Nat → Value) : Laid A A lo (lo + 0) f := ⟨rfl, rfl, rfl, fun i => by rw [if_neg (by omega)]⟩
theorem Laid.step {A Ak : Cell} {lo k : Nat} {f : Nat → Value} {v : Value} (h : Laid A Ak lo k f) (hlo : lo ≤ k) (hk : k < Ak.slots.size) (hv : v = f k) : Laid A (Ak.setSlot k v) lo (k + 1) f := by
  refine ⟨h.1, h.2.1, by simpa [Cell.setSlot] using h.2.2.1, fun i => ?_⟩
  by_cases e : k = i
  · subst e; rw [Cell.slots_setSlot_self v hk, if_pos (by omega), hv]
  · rw [Cell.slots_setSlot_ne v e, h.2.2.2 i]
    by_cases q : lo ≤ i ∧ i < k
    · rw [if_pos q, if_pos (by omega)]
    · rw [if_neg q, if_neg (by omega)]
def U16 : String := "java/lang/StringUTF16"
namespace Cmp5
def yN : MethodName := ⟨"java/lang/StringUTF16", "compress", "([CI[BII)I"⟩
abbrev yB : ByteArray := jdk_52_method_21_code
theorem d0 : decode yB 0 = .ok (.iconst 0, 1) := by decide +kernel
theorem d1 : decode yB 1 = .ok (.istore 5, 2) := by decide +kernel
theorem d3 : decode yB 3 = .ok (.iload 5, 2) := by decide +kernel
theorem d5 : decode yB 5 = .ok (.iload 4, 2) := by decide +kernel
theorem d7 : decode yB 7 = .ok (.if_icmp (.ge) 37, 3) := by decide +kernel
theorem d10 : decode yB 10 = .ok (.aload_n 0, 1) := by decide +kernel
theorem d11 : decode yB 11 = .ok (.iload_n 1, 1) := by decide +kernel
theorem d12 : decode yB 12 = .ok (.caload, 1) := by decide +kernel
theorem d13 : decode yB 13 = .ok (.istore 6, 2) := by decide +kernel
theorem d15 : decode yB 15 = .ok (.iload 6, 2) := by decide +kernel
theorem d17 : decode yB 17 = .ok (.sipush 255, 3) := by decide +kernel
theorem d20 : decode yB 20 = .ok (.if_icmp (.le) 6, 3) := by decide +kernel
theorem d26 : decode yB 26 = .ok (.aload_n 2, 1) := by decide +kernel
theorem d27 : decode yB 27 = .ok (.iload_n 3, 1) := by decide +kernel
theorem d28 : decode yB 28 = .ok (.iload 6, 2) := by decide +kernel
theorem d30 : decode yB 30 = .ok (.i2b, 1) := by decide +kernel
theorem d31 : decode yB 31 = .ok (.bastore, 1) := by decide +kernel
theorem d32 : decode yB 32 = .ok (.iinc 1 1, 3) := by decide +kernel
theorem d35 : decode yB 35 = .ok (.iinc 3 1, 3) := by decide +kernel
theorem d38 : decode yB 38 = .ok (.iinc 5 1, 3) := by decide +kernel
theorem d41 : decode yB 41 = .ok (.goto (-38), 3) := by decide +kernel
theorem d44 : decode yB 44 = .ok (.iload 4, 2) := by decide +kernel
theorem d46 : decode yB 46 = .ok (.ireturn, 1) := by decide +kernel
def site : List Cond := []
def tab : Cond := tabOf yN yB 7 (some .int) site
def P (b : Addr) (A : Cell) (d : Addr) (B : Cell) (o q len : Nat) (args : Array Value) (s : State) : Prop := args = #[.ref b, .int (Int32.ofNat o), .ref d, .int (Int32.ofNat q), .int (Int32.ofNat len)] ∧ Ch b A s ∧ Arr .byte d B s ∧ b ≠ d ∧ o + len ≤ A.slots.size ∧ q + len ≤ B.slots.size ∧ ∀ i, i < len → ¬ 255 < cv A (o + i)
def E (b : Addr) (A : Cell) (d : Addr) (B : Cell) (o q len : Nat) (r : Option Value) (s u : State) : Prop := r = some (.int (Int32.ofNat len)) ∧ ∃ B', Put d B' s u ∧ Laid B B' q (q + len) (fun j => Value.int (lo8 (cv A (o + (j - q)))))
/-- no char of the range above 255: len; the places written hold each char's low byte -/
theorem law (l : Launch) (b : Addr) (A : Cell) (d : Addr) (B : Cell) (o q len : Nat) : Law l yN 5 5 0 0 yB 7 (some .int) site (P b A d B o q len) (E b A d B o q len) (copyLocs d q len) 0 0 := by
  refine Law.of_walk (plainFor_of_name (by decide +kernel)) (by decide +kernel) (by decide +kernel) (by decide) (fun _ _ h => by rw [h.1]; rfl) (fun _ U U' hal hh h => ⟨h.1, h.2.1.mv hal hh, h.2.2.1.mv hal hh, h.2.2.2⟩) (fun r U U' V V' h1 hal h2 h => ⟨h.1, h.2.elim fun B' q => ⟨B', q.1.mv h1 h2, q.2⟩⟩) ?_
  intro p e s m args below meth c s₁ X0 hexec hbytes hml hret hlk hnm hown hh0 W hP
  obtain ⟨rfl, hA, hB, hne, l1, l2, hp⟩ := hP
  have c1 : Steps p.tables e below (s₁.setTop (entryFrame m #[.ref b, .int (Int32.ofNat o), .ref d, .int (Int32.ofNat q), .int (Int32.ofNat len)] 7)) (s₁.setTop (mkF m 0 #[.val (.ref b), .val (.int (Int32.ofNat o)), .val (.ref d), .val (.int (Int32.ofNat q)), .val (.int (Int32.ofNat len)), .unset, .unset] [])) := entry rfl
  have hA0 := hA.1.mv X0.warmed.alike hh0
  have hB0 := hB.mv X0.warmed.alike hh0
  have a31 := hA.1.2.2.2
  have c2 : Steps p.tables e below (s₁.setTop (entryFrame m #[.ref b, .int (Int32.ofNat o), .ref d, .int (Int32.ofNat q), .int (Int32.ofNat len)] 7)) (s₁.setTop (mkF m 3 #[.val (.ref b), .val (.int (Int32.ofNat o)), .val (.ref d), .val (.int (Int32.ofNat q)), .val (.int (Int32.ofNat len)), .val (.int 0), .unset] [])) := c1.trans (by
    refine iconstV X0.here hexec rfl 0 (hb hbytes d0) (by decide) ?_
    refine XS.istore X0.here hexec rfl (hb hbytes d1) rfl rfl ?_
    exact Steps.refl _)
  have loop : ∀ (r i : Nat), i + r = len → ∀ (z : Slot), (z = .unset ∨ ∃ w, z = .val w ∧ w.category = 1) → ∀ (Tl : State) (Bk : Cell), Stand p l e { frames := 0, locals := 0, cells := 0, slots := 0 } s m #[.ref b, .int (Int32.ofNat o), .ref d, .int (Int32.ofNat q), .int (Int32.ofNat len)] below meth c Tl ([] ++ copyLocs d q i) 0 0 → Put d Bk s₁ Tl → Laid B Bk q (q + i) (fun j => Value.int (lo8 (cv A (o + (j - q))))) →
      Steps p.tables e below (s₁.setTop (entryFrame m #[.ref b, .int (Int32.ofNat o), .ref d, .int (Int32.ofNat q), .int (Int32.ofNat len)] 7)) (Tl.setTop (mkF m 3 #[.val (.ref b), .val (.int (Int32.ofNat (o + i))), .val (.ref d), .val (.int (Int32.ofNat (q + i))), .val (.int (Int32.ofNat len)), .val (.int (Int32.ofNat i)), z] [])) → ∃ (T' : State) (B' : Cell) (z' : Slot), Stand p l e { frames := 0, locals := 0, cells := 0, slots := 0 } s m #[.ref b, .int (Int32.ofNat o), .ref d, .int (Int32.ofNat q), .int (Int32.ofNat len)] below meth c T' ([] ++ copyLocs d q len) 0 0 ∧ Put d B' s₁ T' ∧ Laid B B' q (q + len) (fun j => Value.int (lo8 (cv A (o + (j - q))))) ∧
      Steps p.tables e below (s₁.setTop (entryFrame m #[.ref b, .int (Int32.ofNat o), .ref d, .int (Int32.ofNat q), .int (Int32.ofNat len)] 7)) (T'.setTop (mkF m 3 #[.val (.ref b), .val (.int (Int32.ofNat (o + len))), .val (.ref d), .val (.int (Int32.ofNat (q + len))), .val (.int (Int32.ofNat len)), .val (.int (Int32.ofNat len)), z'] [])) := by
    intro r
    induction r with
    | zero =>
      intro i hi z hz Tl Bk Xl pl fl cl
      have hil : i = len := by omega
      rw [hil] at Xl fl cl
      exact ⟨Tl, Bk, z, Xl, pl, fl, cl⟩
    | succ r ih =>
      intro i hi z hz Tl Bk Xl pl fl cl
      have all := X0.warmed.alike.symm.trans Xl.warmed.alike
      have hAl := hA0.keep all (pl.other hne hA0.1)
      have hBk := hB0.like all pl.1 fl.1 fl.2.1 fl.2.2.1
      have hlt : q + i < Bk.slots.size := by rw [fl.2.2.1]; omega
      have c3 : Steps p.tables e below (s₁.setTop (entryFrame m #[.ref b, .int (Int32.ofNat o), .ref d, .int (Int32.ofNat q), .int (Int32.ofNat len)] 7)) (Tl.setTop (mkF m 12 #[.val (.ref b), .val (.int (Int32.ofNat (o + i))), .val (.ref d), .val (.int (Int32.ofNat (q + i))), .val (.int (Int32.ofNat len)), .val (.int (Int32.ofNat i)), z] [.int (Int32.ofNat (o + i)), .ref b])) := cl.trans (by
        refine XS.iload Xl.here hexec rfl (hb hbytes d3) rfl ?_
        refine XS.iload Xl.here hexec rfl (hb hbytes d5) rfl ?_
        refine XS.icmpNo Xl.here hexec rfl (hb hbytes d7) rfl (ii_ge_f (lt32 (by omega) (by omega))) ?_
        refine XS.aloadN Xl.here hexec rfl (hb hbytes d10) rfl rfl ?_
        refine XS.iloadN Xl.here hexec rfl (hb hbytes d11) rfl ?_
        exact Steps.refl _)
      have c4 : Steps p.tables e below (s₁.setTop (entryFrame m #[.ref b, .int (Int32.ofNat o), .ref d, .int (Int32.ofNat q), .int (Int32.ofNat len)] 7)) (Tl.setTop (mkF m 13 #[.val (.ref b), .val (.int (Int32.ofNat (o + i))), .val (.ref d), .val (.int (Int32.ofNat (q + i))), .val (.int (Int32.ofNat len)), .val (.int (Int32.ofNat i)), z] [.int (cv A (o + i))])) := c3.trans (by
        refine Xl.aget hexec hAl rfl (hA.get (i := o + i) (by omega)) rfl rfl (hb hbytes d12) ?_
        exact Steps.refl _)
      have c5 : Steps p.tables e below (s₁.setTop (entryFrame m #[.ref b, .int (Int32.ofNat o), .ref d, .int (Int32.ofNat q), .int (Int32.ofNat len)] 7)) (Tl.setTop (mkF m 15 #[.val (.ref b), .val (.int (Int32.ofNat (o + i))), .val (.ref d), .val (.int (Int32.ofNat (q + i))), .val (.int (Int32.ofNat len)), .val (.int (Int32.ofNat i)), .val (.int (cv A (o + i)))] [])) := c4.trans (by
        refine XS.istoreS Xl.here hexec rfl (hb hbytes d13) rfl rfl hz ?_
        exact Steps.refl _)
      have c6 : Steps p.tables e below (s₁.setTop (entryFrame m #[.ref b, .int (Int32.ofNat o), .ref d, .int (Int32.ofNat q), .int (Int32.ofNat len)] 7)) (Tl.setTop (mkF m 31 #[.val (.ref b), .val (.int (Int32.ofNat (o + i))), .val (.ref d), .val (.int (Int32.ofNat (q + i))), .val (.int (Int32.ofNat len)), .val (.int (Int32.ofNat i)), .val (.int (cv A (o + i)))] [.int (lo8 (cv A (o + i))), .int (Int32.ofNat (q + i)), .ref d])) := c5.trans (by
        refine XS.iload Xl.here hexec rfl (hb hbytes d15) rfl ?_
        refine sipushV Xl.here hexec rfl 255 (hb hbytes d17) (by decide) ?_
        refine XS.icmpYes Xl.here hexec rfl (pc0 := 20) rfl (hb hbytes d20) rfl (ii_le_t (hp i (by omega))) (by decide) rfl ?_
        refine XS.aloadN Xl.here hexec rfl (hb hbytes d26) rfl rfl ?_
        refine XS.iloadN Xl.here hexec rfl (hb hbytes d27) rfl ?_
        refine XS.iload Xl.here hexec rfl (hb hbytes d28) rfl ?_
        refine i2b Xl.here hexec rfl (hb hbytes d30) rfl ?_
        exact Steps.refl _)
      obtain ⟨T7, X7, p7, st7⟩ := Xl.aput hexec hBk rfl hlt rfl (fits_lo8 (cv A (o + i))) (g := (mkF m 31 #[.val (.ref b), .val (.int (Int32.ofNat (o + i))), .val (.ref d), .val (.int (Int32.ofNat (q + i))), .val (.int (Int32.ofNat len)), .val (.int (Int32.ofNat i)), .val (.int (cv A (o + i)))] [.int (lo8 (cv A (o + i))), .int (Int32.ofNat (q + i)), .ref d])) rfl (rest := []) rfl (hb hbytes d31)
      have c8 : Steps p.tables e below (s₁.setTop (entryFrame m #[.ref b, .int (Int32.ofNat o), .ref d, .int (Int32.ofNat q), .int (Int32.ofNat len)] 7)) (T7.setTop (mkF m 32 #[.val (.ref b), .val (.int (Int32.ofNat (o + i))), .val (.ref d), .val (.int (Int32.ofNat (q + i))), .val (.int (Int32.ofNat len)), .val (.int (Int32.ofNat i)), .val (.int (cv A (o + i)))] [])) := c6.trans (st7 _ (Steps.refl _))
      have c9 : Steps p.tables e below (s₁.setTop (entryFrame m #[.ref b, .int (Int32.ofNat o), .ref d, .int (Int32.ofNat q), .int (Int32.ofNat len)] 7)) (T7.setTop (mkF m 3 #[.val (.ref b), .val (.int (Int32.ofNat (o + i) + 1)), .val (.ref d), .val (.int (Int32.ofNat (q + i) + 1)), .val (.int (Int32.ofNat len)), .val (.int (Int32.ofNat i + 1)), .val (.int (cv A (o + i)))] [])) := c8.trans (by
        refine iincV X7.here hexec rfl 1 (hb hbytes d32) (by decide) rfl rfl ?_
        refine iincV X7.here hexec rfl 1 (hb hbytes d35) (by decide) rfl rfl ?_
        refine iincV X7.here hexec rfl 1 (hb hbytes d38) (by decide) rfl rfl ?_
        refine XS.goto X7.here hexec rfl (pc0 := 41) rfl (hb hbytes d41) (by decide) rfl ?_
        exact Steps.refl _)
      have c10 : Steps p.tables e below (s₁.setTop (entryFrame m #[.ref b, .int (Int32.ofNat o), .ref d, .int (Int32.ofNat q), .int (Int32.ofNat len)] 7)) (T7.setTop (mkF m 3 #[.val (.ref b), .val (.int (Int32.ofNat (o + (i + 1)))), .val (.ref d), .val (.int (Int32.ofNat (q + (i + 1)))), .val (.int (Int32.ofNat len)), .val (.int (Int32.ofNat (i + 1))), .val (.int (cv A (o + i)))] [])) := by
        have := c9
        rw [succ32, succ32, succ32] at this
        exact this
      exact ih (i + 1) (by omega) _ (Or.inr ⟨_, rfl, rfl⟩) T7 _ (by rw [copyLocs_step, ← List.append_assoc]; exact X7) (pl.trans p7) (fl.step (by omega) hlt (by simp)) c10
  obtain ⟨T9, B9, z9, X9, p9, f9, g9⟩ := loop len 0 (by omega) .unset (Or.inl rfl) s₁ B (by simpa [copyLocs] using X0) ⟨hB0.1, fun _ _ => rfl, rfl⟩ (Laid.zero _ _ _) c2
  have c11 : Steps p.tables e below (s₁.setTop (entryFrame m #[.ref b, .int (Int32.ofNat o), .ref d, .int (Int32.ofNat q), .int (Int32.ofNat len)] 7)) (T9.setTop (mkF m 46 #[.val (.ref b), .val (.int (Int32.ofNat (o + len))), .val (.ref d), .val (.int (Int32.ofNat (q + len))), .val (.int (Int32.ofNat len)), .val (.int (Int32.ofNat len)), z9] [.int (Int32.ofNat len)])) := g9.trans (by
    refine XS.iload X9.here hexec rfl (hb hbytes d3) rfl ?_
    refine XS.iload X9.here hexec rfl (hb hbytes d5) rfl ?_
    refine XS.icmpYes X9.here hexec rfl (pc0 := 7) rfl (hb hbytes d7) rfl (ii_ge_t (nlt32 (by omega) (Nat.le_refl _))) (by decide) rfl ?_
    refine XS.iload X9.here hexec rfl (hb hbytes d44) rfl ?_
    exact Steps.refl _)
  exact ⟨T9, some (.int (Int32.ofNat len)), _, _, _, X9, by simp, rfl, rfl, (fun h => by cases h), ⟨rfl, B9, p9.from hh0, f9⟩, fun fs hl => c11.trans (X9.ireturnOut hexec hret rfl (Or.inl rfl) (hb hbytes d46) hl)⟩
end Cmp5
namespace Cmp3
def yN : MethodName := ⟨"java/lang/StringUTF16", "compress", "([CII)[B"⟩
abbrev yB : ByteArray := jdk_52_method_16_code
theorem d0 : decode yB 0 = .ok (.iload_n 2, 1) := by decide +kernel
theorem d1 : decode yB 1 = .ok (.newarray .byte, 2) := by decide +kernel
theorem d3 : decode yB 3 = .ok (.astore_n 3, 1) := by decide +kernel
theorem d4 : decode yB 4 = .ok (.aload_n 0, 1) := by decide +kernel
theorem d5 : decode yB 5 = .ok (.iload_n 1, 1) := by decide +kernel
theorem d6 : decode yB 6 = .ok (.aload_n 3, 1) := by decide +kernel
theorem d7 : decode yB 7 = .ok (.iconst 0, 1) := by decide +kernel
theorem d8 : decode yB 8 = .ok (.iload_n 2, 1) := by decide +kernel
theorem d9 : decode yB 9 = .ok (.invokestatic 115, 3) := by decide +kernel
theorem d12 : decode yB 12 = .ok (.istore 4, 2) := by decide +kernel
theorem d14 : decode yB 14 = .ok (.iload 4, 2) := by decide +kernel
theorem d16 : decode yB 16 = .ok (.iload_n 2, 1) := by decide +kernel
theorem d17 : decode yB 17 = .ok (.if_icmp (.eq) 40, 3) := by decide +kernel
theorem d57 : decode yB 57 = .ok (.aload_n 3, 1) := by decide +kernel
theorem d58 : decode yB 58 = .ok (.areturn, 1) := by decide +kernel
def site : List Cond := [.arrayClass .byte, Cmp5.tab] ++ staticW U16 115 Cmp5.yN
def tab : Cond := tabOf yN yB 6 (some (.array .byte)) site
def P (b : Addr) (A : Cell) (o len : Nat) (args : Array Value) (s : State) : Prop := args = #[.ref b, .int (Int32.ofNat o), .int (Int32.ofNat len)] ∧ Ch b A s ∧ o + len ≤ A.slots.size ∧ len ≤ 536870912 ∧ ∀ i, i < len → ¬ 255 < cv A (o + i)
def E (b : Addr) (A : Cell) (o len : Nat) (r : Option Value) (s u : State) : Prop := NewArr .byte "[B" len (fun j => .int (lo8 (cv A (o + j)))) r s u ∧ u.heap.size = s.heap.size + 1
/-- no char of the range above 255: a new byte[] of their low bytes -/
theorem law (l : Launch) (b : Addr) (A : Cell) (o len : Nat) : Law l yN 3 3 1 18 yB 6 (some (.array .byte)) site (P b A o len) (E b A o len) [] 1 len := by
  refine Law.of_walk (plainFor_of_name (by decide +kernel)) (by decide +kernel) (by decide +kernel) (by decide) (fun _ _ h => by rw [h.1]; rfl) (fun _ U U' hal hh h => ⟨h.1, h.2.1.mv hal hh, h.2.2⟩) (fun r U U' V V' h1 hal h2 h => ⟨NewArr.mv r U U' V V' h1 hal h2 h.1, by rw [h1, h2]; exact h.2⟩) ?_
  intro p e s m args below meth c s₁ X0 hexec hbytes hml hret hlk hnm hown hh0 W hP
  obtain ⟨rfl, hA, l1, l2, hp⟩ := hP
  have a31 := hA.1.2.2.2
  have c1 : Steps p.tables e below (s₁.setTop (entryFrame m #[.ref b, .int (Int32.ofNat o), .int (Int32.ofNat len)] 6)) (s₁.setTop (mkF m 0 #[.val (.ref b), .val (.int (Int32.ofNat o)), .val (.int (Int32.ofNat len)), .unset, .unset, .unset] [])) := entry rfl
  have c2 : Steps p.tables e below (s₁.setTop (entryFrame m #[.ref b, .int (Int32.ofNat o), .int (Int32.ofNat len)] 6)) (s₁.setTop (mkF m 1 #[.val (.ref b), .val (.int (Int32.ofNat o)), .val (.int (Int32.ofNat len)), .unset, .unset, .unset] [.int (Int32.ofNat len)])) := c1.trans (by
    refine XS.iloadN X0.here hexec rfl (hb hbytes d0) rfl ?_
    exact Steps.refl _)
  obtain ⟨T3, B3, X3, ba3, bs3, bv3, bh3, bf3, st3⟩ := X0.anew hexec (atype := .byte) (wk W (.arrayClass .byte)) rfl (by show len * 1 ≤ _; omega) (by omega) (g := (mkF m 1 #[.val (.ref b), .val (.int (Int32.ofNat o)), .val (.int (Int32.ofNat len)), .unset, .unset, .unset] [.int (Int32.ofNat len)])) rfl (hb hbytes d1) (rest := []) rfl (Nat.le_refl _) (by show 0 + len ≤ len; omega)
  rw [hh0] at ba3 st3
  have kp3 : XT.Kept s T3 := (XT.Kept.of_eq hh0).push bh3
  have hA3 := hA.keep X3.warmed.alike (kp3 _ _ hA.1.1)
  have hne : b ≠ s.heap.size := hA.1.ne
  have c4 : Steps p.tables e below (s₁.setTop (entryFrame m #[.ref b, .int (Int32.ofNat o), .int (Int32.ofNat len)] 6)) (T3.setTop (mkF m 3 #[.val (.ref b), .val (.int (Int32.ofNat o)), .val (.int (Int32.ofNat len)), .unset, .unset, .unset] [.ref s.heap.size])) := c2.trans (st3 _ (Steps.refl _))
  have c5 : Steps p.tables e below (s₁.setTop (entryFrame m #[.ref b, .int (Int32.ofNat o), .int (Int32.ofNat len)] 6)) (T3.setTop (mkF m 9 #[.val (.ref b), .val (.int (Int32.ofNat o)), .val (.int (Int32.ofNat len)), .val (.ref s.heap.size), .unset, .unset] [.int (Int32.ofNat len), .int 0, .ref s.heap.size, .int (Int32.ofNat o), .ref b])) := c4.trans (by
    refine XS.astoreN X3.here hexec rfl (hb hbytes d3) rfl rfl rfl ?_
    refine XS.aloadN X3.here hexec rfl (hb hbytes d4) rfl rfl ?_
    refine XS.iloadN X3.here hexec rfl (hb hbytes d5) rfl ?_
    refine XS.aloadN X3.here hexec rfl (hb hbytes d6) rfl rfl ?_
    refine iconstV X3.here hexec rfl 0 (hb hbytes d7) (by decide) ?_
    refine XS.iloadN X3.here hexec rfl (hb hbytes d8) rfl ?_
    exact Steps.refl _)
  obtain ⟨v6, T6, X6, E6, g6⟩ := X3.callS hexec (Cmp5.law l b A s.heap.size B3 o 0 len) hown (wks W (staticW U16 115 Cmp5.yN)) (wk W Cmp5.tab) (W := 0) (Nat.le_of_ble_eq_true rfl) (Nat.le_of_ble_eq_true rfl) (Nat.le_refl _) (by show 0 + len + 0 ≤ len; omega) (g := (mkF m 9 #[.val (.ref b), .val (.int (Int32.ofNat o)), .val (.int (Int32.ofNat len)), .val (.ref s.heap.size), .unset, .unset] [.int (Int32.ofNat len), .int (Int32.ofNat 0), .ref s.heap.size, .int (Int32.ofNat o), .ref b])) rfl (by rw [hml]; rfl) c5 (argsL := [.ref b, .int (Int32.ofNat o), .ref s.heap.size, .int (Int32.ofNat 0), .int (Int32.ofNat len)]) (rest := []) rfl rfl (by show 2 * 0 + 0 ≤ _; decide) (hb hbytes d9) (⟨rfl, hA3, ba3, hne, l1, by rw [bs3]; simp, hp⟩)
  obtain ⟨rfl, B6, p6, f6⟩ := E6
  have c7 : Steps p.tables e below (s₁.setTop (entryFrame m #[.ref b, .int (Int32.ofNat o), .int (Int32.ofNat len)] 6)) (T6.setTop (mkF m 12 #[.val (.ref b), .val (.int (Int32.ofNat o)), .val (.int (Int32.ofNat len)), .val (.ref s.heap.size), .unset, .unset] [.int (Int32.ofNat len)])) := g6
  have c8 : Steps p.tables e below (s₁.setTop (entryFrame m #[.ref b, .int (Int32.ofNat o), .int (Int32.ofNat len)] 6)) (T6.setTop (mkF m 58 #[.val (.ref b), .val (.int (Int32.ofNat o)), .val (.int (Int32.ofNat len)), .val (.ref s.heap.size), .val (.int (Int32.ofNat len)), .unset] [.ref s.heap.size])) := c7.trans (by
    refine XS.istore X6.here hexec rfl (hb hbytes d12) rfl rfl ?_
    refine XS.iload X6.here hexec rfl (hb hbytes d14) rfl ?_
    refine XS.iloadN X6.here hexec rfl (hb hbytes d16) rfl ?_
    refine XS.icmpYes X6.here hexec rfl (pc0 := 17) rfl (hb hbytes d17) rfl (ii_eq_t rfl) (by decide) rfl ?_
    refine XS.aloadN X6.here hexec rfl (hb hbytes d57) rfl rfl ?_
    exact Steps.refl _)
  have X8 := X6.wide (L' := []) (cells' := 1) (slots' := len) (fun x hx hlt => by
    simp only [List.nil_append, copyLocs, List.mem_map, List.mem_range] at hx
    obtain ⟨i, -, rfl⟩ := hx
    exact absurd hlt (Nat.lt_irrefl _)) (Nat.le_refl _) (by omega)
  exact ⟨T6, some (.ref s.heap.size), _, _, _, X8, rfl, rfl, rfl, (fun h => by cases h), ⟨⟨rfl, B6, ba3.like (X3.warmed.alike.symm.trans X6.warmed.alike) p6.1 f6.1 f6.2.1 f6.2.2.1, f6.2.1.trans bv3, by rw [X6.warmed.alike.findClass, f6.1]; exact bf3, by rw [f6.2.2.1, bs3]; simp, fun j hj => by rw [f6.2.2.2 j, if_pos (by omega)]; rfl, kp3.put p6 (Nat.le_refl _)⟩, by rw [p6.2.2, bh3, hh0]; simp⟩, fun fs hl => c8.trans (X8.areturnOut hexec rfl hret rfl (hb hbytes d58) hl)⟩
end Cmp3
namespace CodL
def yN : MethodName := ⟨"java/lang/StringUTF16", "coderFromArrayLen", "([BI)B"⟩
abbrev yB : ByteArray := jdk_52_method_15_code
theorem d0 : decode yB 0 = .ok (.iload_n 1, 1) := by decide +kernel
theorem d1 : decode yB 1 = .ok (.aload_n 0, 1) := by decide +kernel
theorem d2 : decode yB 2 = .ok (.arraylength, 1) := by decide +kernel
theorem d3 : decode yB 3 = .ok (.isub, 1) := by decide +kernel
theorem d4 : decode yB 4 = .ok (.bipush 31, 2) := by decide +kernel
theorem d6 : decode yB 6 = .ok (.iushr, 1) := by decide +kernel
theorem d7 : decode yB 7 = .ok (.i2b, 1) := by decide +kernel
theorem d8 : decode yB 8 = .ok (.ireturn, 1) := by decide +kernel
def site : List Cond := []
def tab : Cond := tabOf yN yB 2 (some .byte) site
def P (d : Addr) (B : Cell) (args : Array Value) (s : State) : Prop := args = #[.ref d, .int (Int32.ofNat B.slots.size)] ∧ Arr .byte d B s
def E (r : Option Value) (s u : State) : Prop := XT.PureE (some (.int 0)) r s u
/-- an array as long as the number of chars: LATIN1 -/
theorem law (l : Launch) (d : Addr) (B : Cell) : Law l yN 2 2 0 0 yB 2 (some .byte) site (P d B) E [] 0 0 := by
  refine Law.of_walk (plainFor_of_name (by decide +kernel)) (by decide +kernel) (by decide +kernel) (by decide) (fun _ _ h => by rw [h.1]; rfl) (fun _ U U' hal hh h => ⟨h.1, h.2.mv hal hh⟩) (fun r U U' V V' h1 hal h2 h => XT.PureE.mv r U U' V V' h1 hal h2 h) ?_
  intro p e s m args below meth c s₁ X0 hexec hbytes hml hret hlk hnm hown hh0 W hP
  obtain ⟨rfl, hB⟩ := hP
  have hB0 := hB.mv X0.warmed.alike hh0
  have c1 : Steps p.tables e below (s₁.setTop (entryFrame m #[.ref d, .int (Int32.ofNat B.slots.size)] 2)) (s₁.setTop (mkF m 0 #[.val (.ref d), .val (.int (Int32.ofNat B.slots.size))] [])) := entry rfl
  have c2 : Steps p.tables e below (s₁.setTop (entryFrame m #[.ref d, .int (Int32.ofNat B.slots.size)] 2)) (s₁.setTop (mkF m 2 #[.val (.ref d), .val (.int (Int32.ofNat B.slots.size))] [.ref d, .int (Int32.ofNat B.slots.size)])) := c1.trans (by
    refine XS.iloadN X0.here hexec rfl (hb hbytes d0) rfl ?_
    refine XS.aloadN X0.here hexec rfl (hb hbytes d1) rfl rfl ?_
    exact Steps.refl _)
  have c3 : Steps p.tables e below (s₁.setTop (entryFrame m #[.ref d, .int (Int32.ofNat B.slots.size)] 2)) (s₁.setTop (mkF m 8 #[.val (.ref d), .val (.int (Int32.ofNat B.slots.size))] [.int (lo8 (ushr (Int32.ofNat B.slots.size - Int32.ofNat B.slots.size) 31))])) := c2.trans (by
    refine X0.alen hexec hB0 rfl rfl (hb hbytes d2) ?_
    refine XS.isub X0.here hexec rfl (hb hbytes d3) rfl ?_
    refine bipushV X0.here hexec rfl 31 (hb hbytes d4) (by decide) ?_
    refine iushr X0.here hexec rfl (hb hbytes d6) rfl ?_
    refine i2b X0.here hexec rfl (hb hbytes d7) rfl ?_
    exact Steps.refl _)
  have e0 : lo8 (ushr (Int32.ofNat B.slots.size - Int32.ofNat B.slots.size) 31) = 0 := by rw [Int32.sub_self]; decide
  rw [e0] at c3
  exact ⟨s₁, some (.int 0), _, _, _, X0, rfl, rfl, rfl, (fun h => by cases h), ⟨rfl, hh0⟩, fun fs hl => c3.trans (X0.ireturnOut hexec hret rfl (Or.inr (Or.inr (Or.inl rfl))) (hb hbytes d8) hl)⟩
end CodL
/-- the String at a is Latin-1 over a new byte[] (the heap's one new cell): the low bytes of the len chars of A from o on; every cell but a is kept -/
def Got (a : Addr) (D : Cell) (fV fC : Field) (A : Cell) (o len : Nat) (r : Option Value) (s u : State) : Prop := r = none ∧ ∃ D' V : Cell, Blank "java/lang/String" a D' u ∧ Same D D' [fV.slot, fC.slot] ∧ D'.slots[fV.slot]? = some (.ref s.heap.size) ∧ D'.slots[fC.slot]? = some (.int 0) ∧ Arr .byte s.heap.size V u ∧ V.vm = .none ∧ u.vm.findClass "[B" = some V.cls ∧ V.slots.size = len ∧ (∀ j, j < len → V.slots[j]? = some (.int (lo8 (cv A (o + j))))) ∧ (∀ (y : Addr) (c : Cell), y ≠ a → s.heap[y]? = some c → u.heap[y]? = some c) ∧ u.heap.size = s.heap.size + 1
theorem Got.mv {a : Addr} {D A : Cell} {fV fC : Field} {o len : Nat} : ∀ r (U U' V V' : State), U'.heap = U.heap → V.vm.Alike V'.vm → V'.heap = V.heap → Got a D fV fC A o len r U V → Got a D fV fC A o len r U' V' :=
  fun r U U' V V' h1 hal h2 ⟨e0, D', X, a1, a2, a3, a4, a5, a6, a7, a8, a9, a10, a11⟩ => ⟨e0, D', X, a1.mv hal h2, a2, by rw [h1]; exact a3, a4, by rw [h1]; exact a5.mv hal h2, a6, by rw [hal.findClass]; exact a7, a8, a9, by rw [h1, h2]; exact a10, by rw [h1, h2]; exact a11⟩
namespace New4
def yN : MethodName := ⟨"java/lang/String", "<init>", "([CIILjava/lang/Void;)V"⟩
abbrev yB : ByteArray := jdk_42_method_149_code
theorem d0 : decode yB 0 = .ok (.aload_n 0, 1) := by decide +kernel
theorem d1 : decode yB 1 = .ok (.invokespecial 1, 3) := by decide +kernel
theorem d4 : decode yB 4 = .ok (.iload_n 3, 1) := by decide +kernel
theorem d5 : decode yB 5 = .ok (.ifCond (.ne) 22, 3) := by decide +kernel
theorem d27 : decode yB 27 = .ok (.getstatic 38, 3) := by decide +kernel
theorem d30 : decode yB 30 = .ok (.ifCond (.eq) 28, 3) := by decide +kernel
theorem d33 : decode yB 33 = .ok (.aload_n 1, 1) := by decide +kernel
theorem d34 : decode yB 34 = .ok (.iload_n 2, 1) := by decide +kernel
theorem d35 : decode yB 35 = .ok (.iload_n 3, 1) := by decide +kernel
theorem d36 : decode yB 36 = .ok (.invokestatic 177, 3) := by decide +kernel
theorem d39 : decode yB 39 = .ok (.astore 5, 2) := by decide +kernel
theorem d41 : decode yB 41 = .ok (.aload_n 0, 1) := by decide +kernel
theorem d42 : decode yB 42 = .ok (.aload 5, 2) := by decide +kernel
theorem d44 : decode yB 44 = .ok (.iload_n 3, 1) := by decide +kernel
theorem d45 : decode yB 45 = .ok (.invokestatic 47, 3) := by decide +kernel
theorem d48 : decode yB 48 = .ok (.putfield 15, 3) := by decide +kernel
theorem d51 : decode yB 51 = .ok (.aload_n 0, 1) := by decide +kernel
theorem d52 : decode yB 52 = .ok (.aload 5, 2) := by decide +kernel
theorem d54 : decode yB 54 = .ok (.putfield 9, 3) := by decide +kernel
theorem d57 : decode yB 57 = .ok (.return_, 1) := by decide +kernel
def site : List Cond := [.fieldLink "java/lang/String" 38 "java/lang/String" "COMPACT_STRINGS" "Z", Cmp3.tab, CodL.tab, .laysFinal "java/lang/String" "java/lang/String" "value" "[B", .fieldLink "java/lang/String" 9 "java/lang/String" "value" "[B", .laysFinal "java/lang/String" "java/lang/String" "coder" "B", .fieldLink "java/lang/String" 15 "java/lang/String" "coder" "B"] ++ objW "java/lang/String" 1 ++ staticW "java/lang/String" 177 Cmp3.yN ++ staticW "java/lang/String" 47 CodL.yN
def tab : Cond := tabOf yN yB 6 none site
def P (a : Addr) (D : Cell) (fV fC : Field) (b : Addr) (A : Cell) (z : Int32) (o len : Nat) (args : Array Value) (s : State) : Prop := args = #[.ref a, .ref b, .int (Int32.ofNat o), .int (Int32.ofNat len), .null] ∧ Blank "java/lang/String" a D s ∧ Found "java/lang/String" "value" "[B" fV s ∧ Found "java/lang/String" "coder" "B" fC s ∧ Ch b A s ∧ StaticIs s "java/lang/String" "COMPACT_STRINGS" "Z" (.int z) ∧ ¬ z = 0 ∧ 0 < len ∧ o + len ≤ A.slots.size ∧ len ≤ 536870912 ∧ ∀ i, i < len → ¬ 255 < cv A (o + i)
def E (a : Addr) (D : Cell) (fV fC : Field) (A : Cell) (o len : Nat) (r : Option Value) (s u : State) : Prop := Got a D fV fC A o len r s u
/-- len > 0, no char of the range above 255: a Latin-1 String of their low bytes -/
theorem law (l : Launch) (a : Addr) (D : Cell) (fV fC : Field) (b : Addr) (A : Cell) (z : Int32) (o len : Nat) : Law l yN 5 4 2 35 yB 6 none site (P a D fV fC b A z o len) (E a D fV fC A o len) [⟨a, fC.slot⟩, ⟨a, fV.slot⟩] 1 len := by
  refine Law.of_walk (plainFor_of_name (by decide +kernel)) (by decide +kernel) (by decide +kernel) (by decide) (fun _ _ h => by rw [h.1]; rfl) (fun _ U U' hal hh h => ⟨h.1, h.2.1.mv hal hh, h.2.2.1.al hal, h.2.2.2.1.al hal, h.2.2.2.2.1.mv hal hh, h.2.2.2.2.2.1.there hal hh, h.2.2.2.2.2.2⟩) (fun r U U' V V' h1 hal h2 h => Got.mv r U U' V V' h1 hal h2 h) ?_
  intro p e s m args below meth c s₁ X0 hexec hbytes hml hret hlk hnm hown hh0 W hP
  obtain ⟨rfl, hB, f1, f2, hA, s1, hz, l0, l1, l2, hp⟩ := hP
  have a31 := hA.1.2.2.2
  have c1 : Steps p.tables e below (s₁.setTop (entryFrame m #[.ref a, .ref b, .int (Int32.ofNat o), .int (Int32.ofNat len), .null] 6)) (s₁.setTop (mkF m 0 #[.val (.ref a), .val (.ref b), .val (.int (Int32.ofNat o)), .val (.int (Int32.ofNat len)), .val .null, .unset] [])) := entry rfl
  have c2 : Steps p.tables e below (s₁.setTop (entryFrame m #[.ref a, .ref b, .int (Int32.ofNat o), .int (Int32.ofNat len), .null] 6)) (s₁.setTop (mkF m 1 #[.val (.ref a), .val (.ref b), .val (.int (Int32.ofNat o)), .val (.int (Int32.ofNat len)), .val .null, .unset] [.ref a])) := c1.trans (by
    refine XS.aloadN X0.here hexec rfl (hb hbytes d0) rfl rfl ?_
    exact Steps.refl _)
  obtain ⟨T3, X3, q3, st3⟩ := X0.oinit hexec hown (wks W (objW "java/lang/String" 1)) (g := (mkF m 1 #[.val (.ref a), .val (.ref b), .val (.int (Int32.ofNat o)), .val (.int (Int32.ofNat len)), .val .null, .unset] [.ref a])) rfl (by rw [hml]; rfl) (rest := []) rfl (hb hbytes d1) (W := 0) (by show 2 * 0 + 0 ≤ _; decide) (Nat.le_of_ble_eq_true rfl) (Nat.le_of_ble_eq_true rfl)
  have hh3 := q3.trans hh0
  have c4 : Steps p.tables e below (s₁.setTop (entryFrame m #[.ref a, .ref b, .int (Int32.ofNat o), .int (Int32.ofNat len), .null] 6)) (T3.setTop (mkF m 27 #[.val (.ref a), .val (.ref b), .val (.int (Int32.ofNat o)), .val (.int (Int32.ofNat len)), .val .null, .unset] [])) := (c2.trans (st3 _ (Steps.refl _))).trans (by
    refine XS.iloadN X3.here hexec rfl (hb hbytes d4) rfl ?_
    refine XS.ifYes X3.here hexec rfl (pc0 := 5) rfl (hb hbytes d5) rfl (i0_ne_t (nz32 (by omega) l0)) (by decide) rfl ?_
    exact Steps.refl _)
  obtain ⟨T5, X5, q5, st5⟩ := X3.sget hexec hown (wk W (.fieldLink "java/lang/String" 38 "java/lang/String" "COMPACT_STRINGS" "Z")) s1 (fun _ _ h => by rw [hh3]; exact h) (g := (mkF m 27 #[.val (.ref a), .val (.ref b), .val (.int (Int32.ofNat o)), .val (.int (Int32.ofNat len)), .val .null, .unset] [])) rfl (hb hbytes d27)
  have hh5 := q5.trans hh3
  have c6 : Steps p.tables e below (s₁.setTop (entryFrame m #[.ref a, .ref b, .int (Int32.ofNat o), .int (Int32.ofNat len), .null] 6)) (T5.setTop (mkF m 30 #[.val (.ref a), .val (.ref b), .val (.int (Int32.ofNat o)), .val (.int (Int32.ofNat len)), .val .null, .unset] [.int z])) := c4.trans (st5 _ (Steps.refl _))
  have c7 : Steps p.tables e below (s₁.setTop (entryFrame m #[.ref a, .ref b, .int (Int32.ofNat o), .int (Int32.ofNat len), .null] 6)) (T5.setTop (mkF m 36 #[.val (.ref a), .val (.ref b), .val (.int (Int32.ofNat o)), .val (.int (Int32.ofNat len)), .val .null, .unset] [.int (Int32.ofNat len), .int (Int32.ofNat o), .ref b])) := c6.trans (by
    refine XS.ifNo X5.here hexec rfl (hb hbytes d30) rfl (i0_eq_f hz) ?_
    refine XS.aloadN X5.here hexec rfl (hb hbytes d33) rfl rfl ?_
    refine XS.iloadN X5.here hexec rfl (hb hbytes d34) rfl ?_
    refine XS.iloadN X5.here hexec rfl (hb hbytes d35) rfl ?_
    exact Steps.refl _)
  obtain ⟨v8, T8, X8, E8, g8⟩ := X5.callS hexec (Cmp3.law l b A o len) hown (wks W (staticW "java/lang/String" 177 Cmp3.yN)) (wk W Cmp3.tab) (W := 0) (Nat.le_of_ble_eq_true rfl) (Nat.le_of_ble_eq_true rfl) (Nat.le_refl _) (by show 0 + len ≤ len; omega) (g := (mkF m 36 #[.val (.ref a), .val (.ref b), .val (.int (Int32.ofNat o)), .val (.int (Int32.ofNat len)), .val .null, .unset] [.int (Int32.ofNat len), .int (Int32.ofNat o), .ref b])) rfl (by rw [hml]; rfl) c7 (argsL := [.ref b, .int (Int32.ofNat o), .int (Int32.ofNat len)]) (rest := []) rfl rfl (by show 2 * 0 + 0 ≤ _; decide) (hb hbytes d36) (⟨rfl, hA.mv X5.warmed.alike hh5, l1, l2, hp⟩)
  obtain ⟨e8, z8⟩ := E8
  obtain ⟨rfl, N, n1, n2, n3, n4, n5, n6⟩ := NewArr.mv _ T5 s _ _ hh5.symm (Vm.Alike.refl _) rfl e8
  rw [hh5] at z8
  have hB1 := hB.keep X8.warmed.alike (n6 _ _ hB.1)
  have hne : s.heap.size ≠ a := (Nat.ne_of_lt (Array.getElem?_eq_some_iff.mp hB.1).1).symm
  have c9 : Steps p.tables e below (s₁.setTop (entryFrame m #[.ref a, .ref b, .int (Int32.ofNat o), .int (Int32.ofNat len), .null] 6)) (T8.setTop (mkF m 39 #[.val (.ref a), .val (.ref b), .val (.int (Int32.ofNat o)), .val (.int (Int32.ofNat len)), .val .null, .unset] [.ref s.heap.size])) := g8
  have c10 : Steps p.tables e below (s₁.setTop (entryFrame m #[.ref a, .ref b, .int (Int32.ofNat o), .int (Int32.ofNat len), .null] 6)) (T8.setTop (mkF m 45 #[.val (.ref a), .val (.ref b), .val (.int (Int32.ofNat o)), .val (.int (Int32.ofNat len)), .val .null, .val (.ref s.heap.size)] [.int (Int32.ofNat N.slots.size), .ref s.heap.size, .ref a])) := by
    have hc : Steps p.tables e below (s₁.setTop (entryFrame m #[.ref a, .ref b, .int (Int32.ofNat o), .int (Int32.ofNat len), .null] 6)) (T8.setTop (mkF m 45 #[.val (.ref a), .val (.ref b), .val (.int (Int32.ofNat o)), .val (.int (Int32.ofNat len)), .val .null, .val (.ref s.heap.size)] [.int (Int32.ofNat len), .ref s.heap.size, .ref a])) := c9.trans (by
      refine XS.astore X8.here hexec rfl (hb hbytes d39) rfl rfl rfl ?_
      refine XS.aloadN X8.here hexec rfl (hb hbytes d41) rfl rfl ?_
      refine XS.aload X8.here hexec rfl (hb hbytes d42) rfl rfl ?_
      refine XS.iloadN X8.here hexec rfl (hb hbytes d44) rfl ?_
      exact Steps.refl _)
    rw [n4]; exact hc
  obtain ⟨v11, T11, X11, E11, g11⟩ := X8.callS hexec (CodL.law l s.heap.size N) hown (wks W (staticW "java/lang/String" 47 CodL.yN)) (wk W CodL.tab) (W := 1) (Nat.le_of_ble_eq_true rfl) (Nat.le_of_ble_eq_true rfl) (Nat.le_refl _) (by show 0 + len + 0 ≤ len; omega) (g := (mkF m 45 #[.val (.ref a), .val (.ref b), .val (.int (Int32.ofNat o)), .val (.int (Int32.ofNat len)), .val .null, .val (.ref s.heap.size)] [.int (Int32.ofNat N.slots.size), .ref s.heap.size, .ref a])) rfl (by rw [hml]; rfl) c10 (argsL := [.ref s.heap.size, .int (Int32.ofNat N.slots.size)]) (rest := [.ref a]) rfl rfl (by show 2 * 0 + (1 + 0) ≤ _; decide) (hb hbytes d45) (⟨rfl, n1⟩)
  obtain ⟨rfl, q11⟩ := E11
  have hB11 := hB1.mv (X8.warmed.alike.symm.trans X11.warmed.alike) q11
  have c12 : Steps p.tables e below (s₁.setTop (entryFrame m #[.ref a, .ref b, .int (Int32.ofNat o), .int (Int32.ofNat len), .null] 6)) (T11.setTop (mkF m 48 #[.val (.ref a), .val (.ref b), .val (.int (Int32.ofNat o)), .val (.int (Int32.ofNat len)), .val .null, .val (.ref s.heap.size)] [.int 0, .ref a])) := g11
  obtain ⟨T13, X13, p13, bl13, sl13, st13⟩ := X11.finit hexec hown (wk W (.fieldLink "java/lang/String" 15 "java/lang/String" "coder" "B")) (Or.inr ⟨_, (wk W (.laysFinal "java/lang/String" "java/lang/String" "coder" "B"))⟩) (Or.inl ⟨rfl, hnm⟩) f2 (Or.inl rfl) hB11 (t := .byte) (by decide +kernel) rfl (g := (mkF m 48 #[.val (.ref a), .val (.ref b), .val (.int (Int32.ofNat o)), .val (.int (Int32.ofNat len)), .val .null, .val (.ref s.heap.size)] [.int 0, .ref a])) rfl (rest := []) rfl (hb hbytes d48)
  have c14 : Steps p.tables e below (s₁.setTop (entryFrame m #[.ref a, .ref b, .int (Int32.ofNat o), .int (Int32.ofNat len), .null] 6)) (T13.setTop (mkF m 54 #[.val (.ref a), .val (.ref b), .val (.int (Int32.ofNat o)), .val (.int (Int32.ofNat len)), .val .null, .val (.ref s.heap.size)] [.ref s.heap.size, .ref a])) := (c12.trans (st13 _ (Steps.refl _))).trans (by
    refine XS.aloadN X13.here hexec rfl (hb hbytes d51) rfl rfl ?_
    refine XS.aload X13.here hexec rfl (hb hbytes d52) rfl rfl ?_
    exact Steps.refl _)
  obtain ⟨T15, X15, p15, bl15, sl15, st15⟩ := X13.finit hexec hown (wk W (.fieldLink "java/lang/String" 9 "java/lang/String" "value" "[B")) (Or.inr ⟨_, (wk W (.laysFinal "java/lang/String" "java/lang/String" "value" "[B"))⟩) (Or.inl ⟨rfl, hnm⟩) f1 (Or.inl rfl) bl13 (t := (.array .byte)) (by decide +kernel) rfl (g := (mkF m 54 #[.val (.ref a), .val (.ref b), .val (.int (Int32.ofNat o)), .val (.int (Int32.ofNat len)), .val .null, .val (.ref s.heap.size)] [.ref s.heap.size, .ref a])) rfl (rest := []) rfl (hb hbytes d54)
  have c16 : Steps p.tables e below (s₁.setTop (entryFrame m #[.ref a, .ref b, .int (Int32.ofNat o), .int (Int32.ofNat len), .null] 6)) (T15.setTop (mkF m 57 #[.val (.ref a), .val (.ref b), .val (.int (Int32.ofNat o)), .val (.int (Int32.ofNat len)), .val .null, .val (.ref s.heap.size)] [])) := c14.trans (st15 _ (Steps.refl _))
  have ap := apart (Or.inr ⟨_, (wk W (.laysFinal "java/lang/String" "java/lang/String" "value" "[B"))⟩) (Or.inr ⟨_, (wk W (.laysFinal "java/lang/String" "java/lang/String" "coder" "B"))⟩) f1 f2 (t₁ := .array .byte) (t₂ := .byte) (by decide +kernel) (by decide +kernel) (by decide)
  have al := X8.warmed.alike.symm.trans X15.warmed.alike
  have n7 : T11.heap[s.heap.size]? = some N := by rw [q11]; exact n1.1
  exact ⟨T15, none, _, _, _, X15, by simp, rfl, by omega, (fun _ => rfl), ⟨rfl, _, N, bl15, ((Same.refl D _).set _ (by simp)).set _ (by simp), sl15, (Cell.slots_setSlot_ne _ ap).trans sl13, n1.keep al (p15.other hne (p13.other hne n7)), n2, by rw [al.findClass]; exact n3, n4, n5, fun y c h1 h2 => p15.other h1 (p13.other h1 (by rw [q11]; exact n6 y c h2)), by rw [p15.2.2, p13.2.2, q11]; exact z8⟩, fun fs hl => c16.trans (X15.returnOut hexec hret (hb hbytes d57) hl)⟩
end New4
namespace New1
def yN : MethodName := ⟨"java/lang/String", "<init>", "([C)V"⟩
abbrev yB : ByteArray := jdk_42_method_3_code
theorem d0 : decode yB 0 = .ok (.aload_n 0, 1) := by decide +kernel
theorem d1 : decode yB 1 = .ok (.aload_n 1, 1) := by decide +kernel
theorem d2 : decode yB 2 = .ok (.iconst 0, 1) := by decide +kernel
theorem d3 : decode yB 3 = .ok (.aload_n 1, 1) := by decide +kernel
theorem d4 : decode yB 4 = .ok (.arraylength, 1) := by decide +kernel
theorem d5 : decode yB 5 = .ok (.aconst_null, 1) := by decide +kernel
theorem d6 : decode yB 6 = .ok (.invokespecial 27, 3) := by decide +kernel
theorem d9 : decode yB 9 = .ok (.return_, 1) := by decide +kernel
def site : List Cond := [New4.tab] ++ initW "java/lang/String" 27 New4.yN
def tab : Cond := tabOf yN yB 2 none site
def P (a : Addr) (D : Cell) (fV fC : Field) (b : Addr) (A : Cell) (z : Int32) (args : Array Value) (s : State) : Prop := args = #[.ref a, .ref b] ∧ Blank "java/lang/String" a D s ∧ Found "java/lang/String" "value" "[B" fV s ∧ Found "java/lang/String" "coder" "B" fC s ∧ Ch b A s ∧ StaticIs s "java/lang/String" "COMPACT_STRINGS" "Z" (.int z) ∧ ¬ z = 0 ∧ 0 < A.slots.size ∧ A.slots.size ≤ 536870912 ∧ ∀ i, i < A.slots.size → ¬ 255 < cv A i
def E (a : Addr) (D : Cell) (fV fC : Field) (A : Cell) (r : Option Value) (s u : State) : Prop := Got a D fV fC A 0 A.slots.size r s u
/-- new String(chars), not empty, no char above 255: a Latin-1 String of their low bytes -/
theorem law (l : Launch) (a : Addr) (D : Cell) (fV fC : Field) (b : Addr) (A : Cell) (z : Int32) : Law l yN 2 1 3 52 yB 2 none site (P a D fV fC b A z) (E a D fV fC A) [⟨a, fC.slot⟩, ⟨a, fV.slot⟩] 1 A.slots.size := by
  refine Law.of_walk (plainFor_of_name (by decide +kernel)) (by decide +kernel) (by decide +kernel) (by decide) (fun _ _ h => by rw [h.1]; rfl) (fun _ U U' hal hh h => ⟨h.1, h.2.1.mv hal hh, h.2.2.1.al hal, h.2.2.2.1.al hal, h.2.2.2.2.1.mv hal hh, h.2.2.2.2.2.1.there hal hh, h.2.2.2.2.2.2⟩) (fun r U U' V V' h1 hal h2 h => Got.mv r U U' V V' h1 hal h2 h) ?_
  intro p e s m args below meth c s₁ X0 hexec hbytes hml hret hlk hnm hown hh0 W hP
  obtain ⟨rfl, hB, f1, f2, hA, s1, hz, l0, l2, hp⟩ := hP
  have c1 : Steps p.tables e below (s₁.setTop (entryFrame m #[.ref a, .ref b] 2)) (s₁.setTop (mkF m 0 #[.val (.ref a), .val (.ref b)] [])) := entry rfl
  have c2 : Steps p.tables e below (s₁.setTop (entryFrame m #[.ref a, .ref b] 2)) (s₁.setTop (mkF m 6 #[.val (.ref a), .val (.ref b)] [.null, .int (Int32.ofNat A.slots.size), .int 0, .ref b, .ref a])) := c1.trans (by
    refine XS.aloadN X0.here hexec rfl (hb hbytes d0) rfl rfl ?_
    refine XS.aloadN X0.here hexec rfl (hb hbytes d1) rfl rfl ?_
    refine iconstV X0.here hexec rfl 0 (hb hbytes d2) (by decide) ?_
    refine XS.aloadN X0.here hexec rfl (hb hbytes d3) rfl rfl ?_
    refine X0.alen hexec (hA.1.mv X0.warmed.alike hh0) rfl rfl (hb hbytes d4) ?_
    refine XS.aconstNull X0.here hexec rfl (hb hbytes d5) ?_
    exact Steps.refl _)
  obtain ⟨v3, T3, X3, E3, g3⟩ := X0.callN hexec (New4.law l a D fV fC b A z 0 A.slots.size) rfl hown (wks W (initW "java/lang/String" 27 New4.yN)) (W New4.tab (by simp only [site, List.mem_cons, List.mem_append, true_or, or_true])) (W := 0) (Nat.le_of_ble_eq_true rfl) (Nat.le_of_ble_eq_true rfl) (Nat.le_refl _) (by show 0 + A.slots.size ≤ A.slots.size; omega) (g := (mkF m 6 #[.val (.ref a), .val (.ref b)] [.null, .int (Int32.ofNat A.slots.size), .int (Int32.ofNat 0), .ref b, .ref a])) rfl (by rw [hml]; rfl) c2 (argsL := [.ref b, .int (Int32.ofNat 0), .int (Int32.ofNat A.slots.size), .null]) (rest := []) rfl rfl (by show 2 * 0 + 0 ≤ _; decide) (hb hbytes d6) (⟨rfl, hB.mv X0.warmed.alike hh0, f1.al X0.warmed.alike, f2.al X0.warmed.alike, hA.mv X0.warmed.alike hh0, s1.there X0.warmed.alike hh0, hz, l0, by omega, l2, fun i hi => by rw [Nat.zero_add]; exact hp i hi⟩)
  have e0 := Got.mv _ s₁ s _ _ hh0.symm (Vm.Alike.refl _) rfl E3
  obtain rfl := e0.1
  have c4 : Steps p.tables e below (s₁.setTop (entryFrame m #[.ref a, .ref b] 2)) (T3.setTop (mkF m 9 #[.val (.ref a), .val (.ref b)] [])) := g3
  exact ⟨T3, none, _, _, _, X3, by simp, rfl, by omega, (fun _ => rfl), e0, fun fs hl => c4.trans (X3.returnOut hexec hret (hb hbytes d9) hl)⟩
theorem pays {l : Launch} {R : Room} {p : Program} {e : Env} {below : List Frame} {s : State} {sargs : Array Value} {len W : Nat} (a : Addr) (D : Cell) (fV fC : Field) (b : Addr) (A : Cell) (z : Int32) (htab : tab.before sargs s = true) (hfr : 4 ≤ R.frames) (hlo : W + 65 ≤ R.locals) :
    Back l R p e below s sargs yN len W (fun A₁ a₁ => A₁.cells + 1 ≤ R.cells ∧ A₁.slots + A.slots.size ≤ R.slots ∧ P a D fV fC b A z a₁ A₁.U) (fun A₁ _ v₁ B₁ => E a D fV fC A v₁ A₁.U B₁.U ∧ B₁.locs = A₁.locs ++ [⟨a, fC.slot⟩, ⟨a, fV.slot⟩] ∧ B₁.cells = A₁.cells + 1 ∧ B₁.slots = A₁.slots + A.slots.size) :=
  (law l a D fV fC b A z).pays htab hfr (by omega)
end New1
/-- the byte, read back as charAt reads it, is the char -/
theorem lo8_mask {x : Int32} (h0 : ¬ x < 0) (h1 : ¬ 255 < x) : lo8 x &&& 255 = x := by
  have t : ∀ k : Fin 256, lo8 (Int32.ofNat k.val) &&& 255 = Int32.ofNat k.val := by decide +kernel
  rw [Int32.lt_iff_toInt_lt] at h0 h1
  have e0 : (0 : Int32).toInt = 0 := rfl
  have e1 : (255 : Int32).toInt = 255 := rfl
  obtain ⟨k, hk⟩ : ∃ k : Nat, x.toInt = k := ⟨x.toInt.toNat, by omega⟩
  have hx : x = Int32.ofNat k := Int32.toInt_inj.mp (by rw [hk, Int32.toInt_ofNat_small (by omega)])
  rw [hx]
  exact t ⟨k, by omega⟩
end StrChars
namespace StrChars.Road
open Jvm Sem ClassFile Op Lib Jvm.Stand Jvm.Free Jvm.Free.XT
open Jvm.Lib.Cold (StaticIs)
abbrev ST : String := "java/lang/String"
/-- every table word that New1's law asks, flat -/
abbrev words : List Jvm.Cond := [.code New1.yN New1.yB 2 none, .initialized ST, .methodLink ST 27 New4.yN, .instanceMethod New4.yN,
  .code New4.yN New4.yB 6 none, .fieldLink ST 38 ST "COMPACT_STRINGS" "Z", .laysFinal ST ST "value" "[B", .fieldLink ST 9 ST "value" "[B", .laysFinal ST ST "coder" "B", .fieldLink ST 15 ST "coder" "B",
  .methodLink ST 1 Lib.objectInit, .instanceMethod Lib.objectInit, .code Lib.objectInit ⟨#[0xb1]⟩ 1 none, .methodLink ST 177 Cmp3.yN, .static Cmp3.yN, .methodLink ST 47 CodL.yN, .static CodL.yN,
  .code Cmp3.yN Cmp3.yB 6 (some (.array .byte)), .initialized U16, .arrayClass .byte, .methodLink U16 115 Cmp5.yN, .static Cmp5.yN, .code Cmp5.yN Cmp5.yB 7 (some .int), .code CodL.yN CodL.yB 2 (some .byte)]
theorem tab_of {a : Array Value} {s : State} (h : ∀ w ∈ words, w.before a s = true) : New1.tab.before a s = true := by
  have h5 : Cmp5.tab.before a s = true := unparts (wk h (.code Cmp5.yN Cmp5.yB 7 (some .int))) (wks h (.initialized Cmp5.yN.cls :: Cmp5.site))
  have hc : CodL.tab.before a s = true := unparts (wk h (.code CodL.yN CodL.yB 2 (some .byte))) (wks h (.initialized CodL.yN.cls :: CodL.site))
  have q5 : ∀ w ∈ Cmp5.tab :: words, w.before a s = true := fun w hw => (List.mem_cons.mp hw).elim (fun e => e ▸ h5) (h w)
  have h3 : Cmp3.tab.before a s = true := unparts (wk q5 (.code Cmp3.yN Cmp3.yB 6 (some (.array .byte)))) (wks q5 (.initialized Cmp3.yN.cls :: Cmp3.site))
  have q3 : ∀ w ∈ Cmp3.tab :: CodL.tab :: words, w.before a s = true := fun w hw => (List.mem_cons.mp hw).elim (fun e => e ▸ h3) fun hw => (List.mem_cons.mp hw).elim (fun e => e ▸ hc) (h w)
  have h4 : New4.tab.before a s = true := unparts (wk q3 (.code New4.yN New4.yB 6 none)) (wks q3 (.initialized New4.yN.cls :: New4.site))
  have q4 : ∀ w ∈ New4.tab :: words, w.before a s = true := fun w hw => (List.mem_cons.mp hw).elim (fun e => e ▸ h4) (h w)
  exact unparts (wk q4 (.code New1.yN New1.yB 2 none)) (wks q4 (.initialized New1.yN.cls :: New1.site))
/-- the words ride from the start Z to the walk's own state -/
theorem moved {Z s : State} {a0 args : Array Value} (hZ : Z.Warmed39 s.vm) (hw : ∀ d ∈ words, d.before a0 Z = true) : ∀ d ∈ words, d.before args s = true := fun d hd => by
  have q := hw d hd
  have t : ∀ d ∈ words, d = .arrayClass .byte ∨ (d.onTables && d.keepsFace) = true := by decide +kernel
  rcases t d hd with rfl | t
  · exact RoadKit.mvA hZ q
  · exact RoadKit.mv hZ q t
/-- WHAT COMES BACK, over the tables of the start Z: h the heap at the call, h' behind it -/
def Q (Z : State) (x : Addr) (A : Cell) (h : Heap) (v : Option Value) (h' : Heap) (L : List Loc) : Prop := v = none ∧ (∀ y ∈ L, y.base = x) ∧ RoadKit.Keep h h' [x] ∧ h'.size = h.size + 1 ∧ RoadKit.Exa Z h' x ST ∧ RoadKit.Fld Z h' x ST "value" "[B" (.ref h.size) ∧ RoadKit.Fld Z h' x ST "coder" "B" (.int 0) ∧
  (∃ V : Cell, RoadKit.Arr Z h' h.size V .byte ∧ V.vm = .none ∧ Z.vm.findClass "[B" = some V.cls ∧ V.slots.size = A.slots.size ∧ ∀ j, j < A.slots.size → V.slots[j]? = some (.int (lo8 (cv A j)))) ∧
  ∀ (O n d : String) (w : Value), RoadKit.Fld Z h x O n d w → RoadKit.slotOf Z O n d ≠ RoadKit.slotOf Z ST "value" "[B" → RoadKit.slotOf Z O n d ≠ RoadKit.slotOf Z ST "coder" "B" → RoadKit.Fld Z h' x O n d w
/-- **new String(chars) AT A CALL, IN THE ROAD'S FORM**: for specialBack behind newO: x the fresh String, b the char[] with the cell A -/
theorem back {p : Program} {l : Launch} {e : Env} {R : Room} {s : State} {args : Array Value} {below : List Frame} {len W : Nat} {Z : State} {a0 : Array Value} {h : Heap} (hZ : Z.Warmed39 s.vm) (hw : ∀ d ∈ words, d.before a0 Z = true) {kI : Nat} (wi : (Jvm.Cond.instantiable ST kI).before a0 Z = true)
    {x b : Addr} {A : Cell} {z : Int32} {v0 c0 : Value} (E : RoadKit.Exa Z h x ST) (V : RoadKit.Fld Z h x ST "value" "[B" v0) (C : RoadKit.Fld Z h x ST "coder" "B" c0) (K : RoadKit.Arr Z h b A .char) (hty : Typed .char A) (S : RoadKit.Sta Z h ST "COMPACT_STRINGS" "Z" (.int z)) (hz : ¬ z = 0)
    (l0 : 0 < A.slots.size) (l2 : A.slots.size ≤ 536870912) (hp : ∀ i, i < A.slots.size → ¬ 255 < cv A i) (hfr : 4 ≤ R.frames) (hlo : W + 65 ≤ R.locals) :
    Back l R p e below s args New1.yN len W (fun P a => a = #[.ref x, .ref b] ∧ P.U.heap = h ∧ P.cells + 1 ≤ R.cells ∧ P.slots + A.slots.size ≤ R.slots)
      (fun P _ v B => ∃ L, Q Z x A h v B.U.heap L ∧ B.locs = P.locs ++ L ∧ B.cells = P.cells + 1 ∧ B.slots = P.slots + A.slots.size) := by
  intro m meth c P g ig mk a X hg hsize hdg hW hn hp'
  obtain ⟨rfl, rfl, r1, r2⟩ := hp'
  have al : Z.vm.Alike P.U.vm := hZ.alike.trans X.warmed.alike
  obtain ⟨D, cfV, kV, iV, fV, hD, gV, stV, knV, obV, asV, slV⟩ := id V
  obtain ⟨D', cfC, kC, iC, fC, hD', gC, stC, -, -, asC, slC⟩ := id C
  cases hD.symm.trans hD'
  obtain ⟨D2, kD, e1, e2, e3, e4, e5⟩ := id E
  cases hD.symm.trans e1
  obtain ⟨c2, k2, i1, i2, i3, -⟩ := Cond.instantiable_spec wi
  cases e2.symm.trans i1
  cases e3.symm.trans i2
  obtain ⟨kU, u1, u2⟩ := al.2.2 _ _ e3
  have hB : Blank ST x D P.U := ⟨hD, ⟨knV, fun q hq => by rw [hq] at obV; cases obV⟩, by rw [al.findClass]; exact e2, kU, u1, by rw [u2]; exact i3, by rw [u2]; exact e5 i3⟩
  have F1 : Found ST "value" "[B" fV P.U := ⟨SBG.found_only al ⟨cfV, kV, iV, gV⟩, stV⟩
  have F2 : Found ST "coder" "B" fC P.U := ⟨SBG.found_only al ⟨cfC, kC, iC, gC⟩, stC⟩
  have hA : Ch b A P.U := ⟨⟨K.1, State.isArrayOf_alike al K.2.1, K.2.2, by omega⟩, hty⟩
  have hS : StaticIs P.U ST "COMPACT_STRINGS" "Z" (.int z) := by
    obtain ⟨cfS, iS, kS, fS, st, cS, t1, t2, t3, t4, t5, t6, t7⟩ := S
    exact StaticIs.there (s := { Z with heap := P.U.heap }) ⟨cfS, iS, kS, fS, st, cS, t1, t2, t3, t4, t5, (fun q => by rw [q] at t6; cases t6), t7⟩ al rfl
  obtain ⟨v, B, X', ⟨⟨hv, E', V', q1, q2, q3, q4, q5, q6, q7, q8, q9, q10, q11⟩, hl, hc, hs⟩, st⟩ := New1.pays x D fV fC b A z (tab_of (moved hZ hw)) hfr hlo m meth c P g ig mk _ X hg hsize hdg hW hn ⟨r1, r2, rfl, hB, F1, F2, hA, hS, hz, l0, l2, hp⟩
  have al' : Z.vm.Alike B.U.vm := hZ.alike.trans X'.warmed.alike
  have hsz : E'.slots.size = D.slots.size := by
    obtain ⟨-, -, -, kB, w1, w2, w3⟩ := q1
    obtain ⟨kB', y1, y2⟩ := al'.2.2 _ _ e3
    rw [q2.2.1] at w1
    cases w1.symm.trans y1
    rw [w3, e5 i3, y2]
  refine ⟨v, B, X', ⟨_, ⟨hv, ?_, ⟨by omega, fun y cy hy hn' => q10 y cy (by simpa using hn') hy, fun y cy hy => ?_⟩, q11, ⟨E', _, q1.1, by rw [q2.2.1]; exact e2, by rw [q2.2.1]; exact e3, by rw [q2.1]; exact obV, fun _ => by rw [hsz]; exact e5 i3⟩,
    ⟨E', cfV, kV, iV, fV, q1.1, gV, stV, by rw [q2.1]; exact knV, by rw [q2.1]; exact obV, by rw [q2.2.1]; exact asV, q3⟩, ⟨E', cfC, kC, iC, fC, q1.1, gC, stC, by rw [q2.1]; exact knV, by rw [q2.1]; exact obV, by rw [q2.2.1]; exact asC, q4⟩,
    ⟨V', ⟨q5.1, State.isArrayOf_alike al'.symm q5.2.1, q5.2.2.1⟩, q6, by rw [← al'.findClass]; exact q7, q8, fun j hj => by have := q9 j hj; rwa [Nat.zero_add] at this⟩, fun O n d w F n1 n2 => ?_⟩, hl, hc, hs⟩, st⟩
  · intro y hy
    simp only [List.mem_cons, List.not_mem_nil, or_false] at hy
    rcases hy with rfl | rfl <;> rfl
  · by_cases q : y = x
    · subst q
      cases hD.symm.trans hy
      exact ⟨E', q1.1, q2.2.1, q2.1, hsz⟩
    · exact ⟨cy, q10 y cy q hy, rfl, rfl, rfl⟩
  · obtain ⟨D3, cf, k, i, f, g1, g2, g3, g4, g5, g6, g7⟩ := F
    cases hD.symm.trans g1
    simp only [RoadKit.slotOf, g2, gV, gC, Option.map_some, Option.getD_some] at n1 n2
    exact ⟨E', cf, k, i, f, q1.1, g2, g3, by rw [q2.1]; exact g4, by rw [q2.1]; exact g5, by rw [q2.2.1]; exact g6, by rw [q2.2.2 f.slot (by simp [n1, n2])]; exact g7⟩
end StrChars.Road
namespace StrChars.Road
open Jvm Sem ClassFile Op Lib Jvm.Stand Jvm.Free Jvm.Free.XT
/-- WHAT COMES BACK, the byte[] as a list of values -/
def QA (Z : State) (x : Addr) (zn : Int32) (cs : List Int32) (h : Heap) (v : Option Value) (h' : Heap) (L : List Loc) : Prop := v = none ∧ (∀ y ∈ L, y.base = x) ∧ RoadKit.Keep h h' [x] ∧ h'.size = h.size + 1 ∧ RoadKit.Exa Z h' x ST ∧ RoadKit.Fld Z h' x ST "value" "[B" (.ref h.size) ∧ RoadKit.Fld Z h' x ST "coder" "B" (.int 0) ∧
  (∃ kb, Z.vm.findClass "[B" = some kb ∧ RoadKit.Arv Z h' h.size kb .byte zn (cs.map fun c => .int (lo8 c)) (.int 0)) ∧
  ∀ (O n d : String) (w : Value), RoadKit.Fld Z h x O n d w → RoadKit.slotOf Z O n d ≠ RoadKit.slotOf Z ST "value" "[B" → RoadKit.slotOf Z O n d ≠ RoadKit.slotOf Z ST "coder" "B" → RoadKit.Fld Z h' x O n d w
/-- **new String(chars) AT A CALL, THE ARRAYS AS LISTS**: the char[] at b holds cs, not empty, no char above 255 -/
theorem backArv {p : Program} {l : Launch} {e : Env} {R : Room} {s : State} {args : Array Value} {below : List Frame} {len W : Nat} {Z : State} {a0 : Array Value} {h : Heap} (hZ : Z.Warmed39 s.vm) (hw : ∀ d ∈ words, d.before a0 Z = true) {kI : Nat} (wi : (Jvm.Cond.instantiable ST kI).before a0 Z = true)
    {x b : Addr} {k : ClassId} {zn z : Int32} {cs : List Int32} {dv v0 c0 : Value} (E : RoadKit.Exa Z h x ST) (V : RoadKit.Fld Z h x ST "value" "[B" v0) (C : RoadKit.Fld Z h x ST "coder" "B" c0) (K : RoadKit.Arv Z h b k .char zn (cs.map Value.int) dv) (S : RoadKit.Sta Z h ST "COMPACT_STRINGS" "Z" (.int z)) (hz : ¬ z = 0)
    (hlen : zn.toNatClampNeg = cs.length) (h0 : 0 < cs.length) (hbig : cs.length ≤ 536870912) (hall : ∀ c ∈ cs, ¬ 255 < c) (hfr : 4 ≤ R.frames) (hlo : W + 65 ≤ R.locals) :
    Back l R p e below s args New1.yN len W (fun P a => a = #[.ref x, .ref b] ∧ P.U.heap = h ∧ P.cells + 1 ≤ R.cells ∧ P.slots + cs.length ≤ R.slots)
      (fun P _ v B => ∃ L, QA Z x zn cs h v B.U.heap L ∧ B.locs = P.locs ++ L ∧ B.cells = P.cells + 1 ∧ B.slots = P.slots + cs.length) := by
  obtain ⟨A, K1, K2, K3, K4, K5, K6⟩ := K
  have e : A.slots.size = cs.length := K3.trans hlen
  have hat : ∀ (i : Nat) (hi : i < cs.length), A.slots[i]? = some (.int cs[i]) := fun i hi => by rw [K5 i (by omega)]; simp [List.getD_eq_getElem?_getD, hi]
  have hcv : ∀ (i : Nat) (hi : i < cs.length), cv A i = cs[i] := fun i hi => by unfold cv; rw [hat i hi]
  have hty : Typed .char A := fun i v hv => by
    have hi : i < A.slots.size := (Array.getElem?_eq_some_iff.mp hv).1
    have q := K5 i hi
    rw [hv] at q
    rw [Option.some.inj q]
    exact K6 i hi
  refine Back.mono (back hZ hw wi E V C K1 hty S hz (by omega) (by omega) (fun i hi => by rw [hcv i (by omega)]; exact hall _ (List.getElem_mem _)) hfr hlo) (fun P a hp => ⟨hp.1, hp.2.1, hp.2.2.1, by rw [e]; exact hp.2.2.2⟩) (fun P a v B hp hq => ?_)
  obtain ⟨L, ⟨q1, q2, q3, q4, q5, q6, q7, ⟨V', v1, v2, v3, v4, v5⟩, q9⟩, hl, hc, hs⟩ := hq
  refine ⟨L, ⟨q1, q2, q3, q4, q5, q6, q7, ⟨V'.cls, v3, V', v1, rfl, by rw [v4, e, hlen], K4, fun i hi => ?_, fun i hi => ?_⟩, q9⟩, hl, hc, by rw [hs, e]⟩
  · have hi' : i < cs.length := by omega
    rw [v5 i (by omega), hcv i hi']; simp [List.getD_eq_getElem?_getD, hi']
  · have hi' : i < cs.length := by omega
    simp only [List.getD_eq_getElem?_getD, List.getElem?_map, List.getElem?_eq_getElem hi', Option.map_some, Option.getD_some]
    exact fits_lo8 _
end StrChars.Road
namespace StrChars.Road
open Jvm Sem ClassFile Op Lib Jvm.Stand Jvm.Free Jvm.Free.XT
/-- WHAT COMES BACK, in the writer's own shape -/
def QV (Z : State) (x : Addr) (N : Int32) (bs : List Int32) (h : Heap) (n0 : Nat) (v : Option Value) (h' : Heap) (L : List Loc) : Prop := v = none ∧ RoadKit.Fr n0 L ∧ RoadKit.Keep h h' [x] ∧ RoadKit.Exa Z h' x ST ∧ RoadKit.Fld Z h' x ST "coder" "B" (.int 0) ∧
  ∃ (t : Addr) (kb : ClassId), n0 ≤ t ∧ h.size ≤ t ∧ ¬ t = x ∧ RoadKit.Fld Z h' x ST "value" "[B" (.ref t) ∧ RoadKit.Arv Z h' t kb .byte N (bs.map Value.int) (.int 0)
/-- **new String(chars) AT A CALL, FOR THE WRITER**: a char[] of n known ints, each 0 to 255 -/
theorem backV {p : Program} {l : Launch} {e : Env} {R : Room} {s : State} {args : Array Value} {below : List Frame} {len W : Nat} {Z : State} {a0 : Array Value} {h : Heap} (hZ : Z.Warmed39 s.vm) (hw : ∀ d ∈ words, d.before a0 Z = true) {kI : Nat} (wi : (Jvm.Cond.instantiable ST kI).before a0 Z = true)
    {x b : Addr} {kC : ClassId} {cs bs : List Int32} {d v0 c0 : Value} {z N : Int32} {n n0 : Nat} (hx0 : n0 ≤ x) (hh0 : n0 ≤ h.size) (E : RoadKit.Exa Z h x ST) (V : RoadKit.Fld Z h x ST "value" "[B" v0) (C : RoadKit.Fld Z h x ST "coder" "B" c0) (K : RoadKit.Arv Z h b kC .char N (cs.map Value.int) d) (S : RoadKit.Sta Z h ST "COMPACT_STRINGS" "Z" (.int z)) (hz : ¬ z = 0)
    (hn : cs.length = n) (hN : N = Int32.ofNat n) (l0 : 0 < n) (l2 : n ≤ 4000) (hp : ∀ c ∈ cs, ¬ c < 0 ∧ ¬ (255 : Int32) < c) (hb : bs = cs.map (fun c => c.toInt8.toInt32)) (hfr : 4 ≤ R.frames) (hlo : W + 65 ≤ R.locals) :
    Back l R p e below s args (⟨"java/lang/String", "<init>", "([C)V"⟩ : MethodName) len W (fun P a => a = #[.ref x, .ref b] ∧ P.U.heap = h ∧ P.cells + 1 ≤ R.cells ∧ P.slots + n ≤ R.slots)
      (fun P _ v B => ∃ L, QV Z x N bs h n0 v B.U.heap L ∧ B.locs = P.locs ++ L ∧ B.cells = P.cells + 1 ∧ B.slots = P.slots + n) := by
  subst hn hN hb
  refine Back.mono (backArv hZ hw wi E V C K S hz (n32 (by omega)) l0 (by omega) (fun c hc => (hp c hc).2) hfr hlo) (fun P a hp => hp) (fun P a v B hp hq => ?_)
  obtain ⟨L, ⟨q1, q2, q3, q4, q5, q6, q7, ⟨kb, v1, v2⟩, q9⟩, hl, hc, hs⟩ := hq
  exact ⟨L, ⟨q1, fun y hy => by rw [q2 y hy]; exact hx0, q3, q5, q7, h.size, kb, hh0, Nat.le_refl _, Nat.ne_of_gt E.lt, q6, by rw [List.map_map]; exact v2⟩, hl, hc, hs⟩
end StrChars.Road
namespace StrChars
open Jvm Sem ClassFile Op Lib Jvm.Stand Jvm.Free.XT Jvm.Free.ALB Jvm.Free.JM Jvm.Free
open Jvm.Lib.Cold (StaticIs)
def hi8 (x : Int32) : Int32 := lo8 (x >>> ((8 : Int32) &&& 31))
/-- what StringUTF16.getChar makes of two bytes -/
def pairCh (u v : Int32) : Int32 := (((u &&& 255) <<< ((0 : Int32) &&& 31)) ||| ((v &&& 255) <<< ((8 : Int32) &&& 31))).toUInt32.toUInt16.toUInt32.toInt32
theorem lo8_and (x : Int32) : (lo8 x &&& 255).toBitVec.toNat = x.toBitVec.toNat % 256 := by
  have h : (lo8 x).toBitVec = (x.toBitVec.signExtend 8).signExtend 32 := by rw [lo8, Int8.toBitVec_toInt32, Int32.toBitVec_toInt8]
  rw [Int32.toBitVec_and, BitVec.toNat_and, h]
  have e : ((x.toBitVec.signExtend 8).signExtend 32).toNat % 256 = x.toBitVec.toNat % 256 := by
    rw [BitVec.toNat_signExtend]
    have hlt := x.toBitVec.isLt
    simp only [BitVec.toNat_setWidth, BitVec.toNat_signExtend]
    split <;> split <;> omega
  rw [← e]
  exact Nat.and_two_pow_sub_one_eq_mod _ 8
theorem pair_says {c : Int32} (h0 : ¬ c < 0) (h1 : ¬ 65535 < c) : pairCh (lo8 c) (hi8 c) = c := by
  rw [Int32.lt_iff_toInt_lt] at h0 h1
  have e0 : (0 : Int32).toInt = 0 := rfl
  have e1 : (65535 : Int32).toInt = 65535 := rfl
  have hc : c.toInt = c.toBitVec.toNat := by
    have := c.toBitVec.isLt
    have e : c.toInt = c.toBitVec.toInt := rfl
    rw [e] at h0 h1
    rw [e]
    rw [BitVec.toInt_eq_toNat_cond] at h0 h1 ⊢
    split at h0 <;> split <;> omega
  have hn : c.toBitVec.toNat < 65536 := by omega
  have a1 := lo8_and c
  have a2 : (hi8 c &&& 255).toBitVec.toNat = c.toBitVec.toNat / 256 := by
    rw [hi8, lo8_and]
    have e : ((8 : Int32) &&& 31) = 8 := by decide
    rw [e, Int32.toBitVec_shiftRight]
    have e2 : ((8 : Int32).toBitVec.smod 32) = 8#32 := by decide
    rw [e2, BitVec.sshiftRight_eq', BitVec.toNat_sshiftRight_of_msb_false (by rw [BitVec.msb_eq_false_iff_two_mul_lt]; omega)]
    show c.toBitVec.toNat >>> 8 % 256 = _
    rw [Nat.shiftRight_eq_div_pow]
    omega
  unfold pairCh
  apply Int32.toBitVec_inj.mp
  apply BitVec.eq_of_toNat_eq
  have f0 : ((0 : Int32) &&& 31) = 0 := by decide
  have f8 : ((8 : Int32) &&& 31) = 8 := by decide
  rw [f0, f8]
  have g : (((lo8 c &&& 255) <<< (0 : Int32)) ||| ((hi8 c &&& 255) <<< (8 : Int32))).toBitVec.toNat = c.toBitVec.toNat := by
    rw [Int32.toBitVec_or, Int32.toBitVec_shiftLeft, Int32.toBitVec_shiftLeft]
    have s0 : ((0 : Int32).toBitVec.smod 32) = 0#32 := by decide
    have s8 : ((8 : Int32).toBitVec.smod 32) = 8#32 := by decide
    rw [s0, s8, BitVec.toNat_or]
    simp only [BitVec.shiftLeft_eq', BitVec.toNat_shiftLeft, a1, a2]
    show (c.toBitVec.toNat % 256) <<< 0 % 2 ^ 32 ||| (c.toBitVec.toNat / 256) <<< 8 % 2 ^ 32 = _
    rw [Nat.shiftLeft_zero, Nat.mod_eq_of_lt (show c.toBitVec.toNat % 256 < 2 ^ 32 by omega), Nat.mod_eq_of_lt (show (c.toBitVec.toNat / 256) <<< 8 < 2 ^ 32 by rw [Nat.shiftLeft_eq]; omega), Nat.or_comm, ← Nat.shiftLeft_add_eq_or_of_lt (by omega), Nat.shiftLeft_eq]
    omega
  show BitVec.toNat (((((lo8 c &&& 255) <<< (0 : Int32)) ||| ((hi8 c &&& 255) <<< (8 : Int32))).toBitVec.setWidth 16).setWidth 32) = _
  rw [BitVec.toNat_setWidth, BitVec.toNat_setWidth, g]
  omega
end StrChars
namespace StrChars
open Jvm Sem ClassFile Op Lib Jvm.Stand Jvm.Free.XT Jvm.Free.ALB Jvm.Free.JM Jvm.Free
open Jvm.Lib.Cold (StaticIs)
/-- the array's cell V codes the n chars f 0 .. f (n - 1) by the coder cd, as the JDK does: coder 1 just where some char is above 255 -/
def Cod (cd : Int32) (n : Nat) (f : Nat → Int32) (V : Cell) : Prop := (cd = 0 ∧ V.slots.size = n ∧ ∀ j, j < n → V.slots[j]? = some (.int (lo8 (f j))) ∧ ¬ 255 < f j) ∨ (cd = 1 ∧ V.slots.size = 2 * n ∧ (∀ j, j < n → V.slots[2 * j]? = some (.int (lo8 (f j))) ∧ V.slots[2 * j + 1]? = some (.int (hi8 (f j)))) ∧ ∃ j, j < n ∧ 255 < f j)
/-- **x is a String of the n chars f 0 .. f (n - 1)**, Latin-1 or UTF-16; its array at t has the cell V -/
def Txt (x t : Addr) (V : Cell) (cd : Int32) (n : Nat) (f : Nat → Int32) (U : State) : Prop := Exact "java/lang/String" x U ∧ Has x "java/lang/String" "value" "[B" (.ref t) U ∧ Has x "java/lang/String" "coder" "B" (.int cd) U ∧ XT.Arr .byte t V U ∧ Cod cd n f V ∧ ∀ j, j < n → ¬ f j < 0 ∧ ¬ 65535 < f j
theorem Txt.mv {x t : Addr} {V : Cell} {cd : Int32} {n : Nat} {f : Nat → Int32} {U U' : State} (h : Txt x t V cd n f U) (hal : U.vm.Alike U'.vm) (hh : U'.heap = U.heap) : Txt x t V cd n f U' := ⟨h.1.mv hal hh, h.2.1.mv hal hh, h.2.2.1.mv hal hh, h.2.2.2.1.mv hal hh, h.2.2.2.2⟩
end StrChars
namespace StrChars.Road
open Jvm Sem ClassFile Op Lib Jvm.Stand Jvm.Free Jvm.Free.XT
open Jvm.Lib.Cold (StaticIs)
theorem consq {a : Array Value} {s : State} {c : Jvm.Cond} {L : List Jvm.Cond} (h0 : c.before a s = true) (h : ∀ w ∈ L, w.before a s = true) : ∀ w ∈ c :: L, w.before a s = true := fun w hw => (List.mem_cons.mp hw).elim (fun e => e ▸ h0) (h w)
/-- the bytes of the chars cs, low before high -/
def wideBytes : List Int32 → List Value
  | [] => []
  | c :: cs => .int (lo8 c) :: .int (hi8 c) :: wideBytes cs
theorem wide_lo (d : Value) : ∀ (cs : List Int32) (j : Nat), j < cs.length → (wideBytes cs).getD (2 * j) d = .int (lo8 (cs.getD j 0))
  | [], j, h => absurd h (Nat.not_lt_zero j)
  | c :: cs, 0, _ => rfl
  | c :: cs, j + 1, h => by
    have q := wide_lo d cs j (by simpa using h)
    rw [show 2 * (j + 1) = 2 * j + 1 + 1 from by omega]
    simpa [wideBytes] using q
theorem wide_hi (d : Value) : ∀ (cs : List Int32) (j : Nat), j < cs.length → (wideBytes cs).getD (2 * j + 1) d = .int (hi8 (cs.getD j 0))
  | [], j, h => absurd h (Nat.not_lt_zero j)
  | c :: cs, 0, _ => rfl
  | c :: cs, j + 1, h => by
    have q := wide_hi d cs j (by simpa using h)
    rw [show 2 * (j + 1) + 1 = 2 * j + 1 + 1 + 1 from by omega]
    simpa [wideBytes] using q
theorem low_at (d : Value) (cs : List Int32) (j : Nat) (h : j < cs.length) : (cs.map fun c => Value.int (lo8 c)).getD j d = .int (lo8 (cs.getD j 0)) := by
  simp [List.getD_eq_getElem?_getD, h]
/-- an array of N2 bytes vs codes the chars cs by the coder cd -/
def CodA (cs : List Int32) (cd N2 : Int32) (vs : List Value) : Prop := (cd = 0 ∧ N2 = Int32.ofNat cs.length ∧ vs = (cs.map fun c => Value.int (lo8 c)) ∧ ∀ c ∈ cs, ¬ 255 < c) ∨ (cd = 1 ∧ N2 = Int32.ofNat (2 * cs.length) ∧ vs = wideBytes cs ∧ ∃ c ∈ cs, 255 < c)
theorem CodA.cod {cs : List Int32} {cd N2 : Int32} {vs : List Value} {V : Cell} (h : CodA cs cd N2 vs) (hn : 2 * cs.length < 2 ^ 31) (hs : V.slots.size = N2.toNatClampNeg) (hv : RoadKit.Has V vs (.int 0)) : Cod cd cs.length (fun j => cs.getD j 0) V := by
  rcases h with ⟨rfl, rfl, rfl, h⟩ | ⟨rfl, rfl, rfl, c, hc, hw⟩
  · rw [n32 (by omega)] at hs
    exact Or.inl ⟨rfl, hs, fun j hj => ⟨by rw [hv j (by omega), low_at _ _ _ hj], by
      have e : cs.getD j 0 = cs[j] := by simp [List.getD_eq_getElem?_getD, hj]
      show ¬ 255 < cs.getD j 0
      rw [e]; exact h _ (List.getElem_mem _)⟩⟩
  · rw [n32 (by omega)] at hs
    obtain ⟨j, hj, rfl⟩ := List.getElem_of_mem hc
    exact Or.inr ⟨rfl, hs, fun j hj => ⟨by rw [hv _ (by omega), wide_lo _ _ _ hj], by rw [hv _ (by omega), wide_hi _ _ _ hj]⟩, j, hj, by
      have e : cs.getD j 0 = cs[j] := by simp [List.getD_eq_getElem?_getD, hj]
      show 255 < cs.getD j 0
      rw [e]; exact hw⟩
/-- an object of exactly java/lang/String, its two fields found: as the laws ask it -/
theorem strObj {Z U : State} {a0 : Array Value} {kI : Nat} (wi : (Jvm.Cond.instantiable ST kI).before a0 Z = true) (al : Z.vm.Alike U.vm) {x : Addr} {v0 c0 : Value} (E : RoadKit.Exa Z U.heap x ST) (V : RoadKit.Fld Z U.heap x ST "value" "[B" v0) (C : RoadKit.Fld Z U.heap x ST "coder" "B" c0) :
    ∃ (D : Cell) (fV fC : Field), Blank ST x D U ∧ Found ST "value" "[B" fV U ∧ Found ST "coder" "B" fC U ∧ D.slots[fV.slot]? = some v0 ∧ D.slots[fC.slot]? = some c0 ∧ RoadKit.slotOf Z ST "value" "[B" = fV.slot ∧ RoadKit.slotOf Z ST "coder" "B" = fC.slot := by
  obtain ⟨D, cfV, kV, iV, fV, hD, gV, stV, knV, obV, asV, slV⟩ := V
  obtain ⟨D', cfC, kC, iC, fC, hD', gC, stC, -, -, asC, slC⟩ := C
  cases hD.symm.trans hD'
  obtain ⟨D2, kD, e1, e2, e3, e4, e5⟩ := E
  cases hD.symm.trans e1
  obtain ⟨c2, k2, i1, i2, i3, -⟩ := Cond.instantiable_spec wi
  cases e2.symm.trans i1
  cases e3.symm.trans i2
  obtain ⟨kU, u1, u2⟩ := al.2.2 _ _ e3
  exact ⟨D, fV, fC, ⟨hD, ⟨knV, fun q hq => by rw [hq] at obV; cases obV⟩, by rw [al.findClass]; exact e2, kU, u1, by rw [u2]; exact i3, by rw [u2]; exact e5 i3⟩, ⟨SBG.found_only al ⟨cfV, kV, iV, gV⟩, stV⟩, ⟨SBG.found_only al ⟨cfC, kC, iC, gC⟩, stC⟩, slV, slC, by simp [RoadKit.slotOf, gV], by simp [RoadKit.slotOf, gC]⟩
theorem sta_is {Z U : State} (al : Z.vm.Alike U.vm) {C n d : String} {v : Value} (S : RoadKit.Sta Z U.heap C n d v) : StaticIs U C n d v := by
  obtain ⟨cfS, iS, kS, fS, st, cS, t1, t2, t3, t4, t5, t6, t7⟩ := S
  exact StaticIs.there (s := { Z with heap := U.heap }) ⟨cfS, iS, kS, fS, st, cS, t1, t2, t3, t4, t5, (fun q => by rw [q] at t6; cases t6), t7⟩ al rfl
end StrChars.Road
namespace StrChars
open Jvm Sem ClassFile Op Lib Jvm.Stand Jvm.Free.XT Jvm.Free.ALB Jvm.Free.JM Jvm.Free
open Jvm.Lib.Cold (StaticIs)
/-- what place i of a byte[]'s cell holds -/
def yv (A : Cell) (i : Nat) : Int32 := match A.slots[i]? with | some (.int x) => x | _ => 0
theorem yv_get {a : Addr} {A : Cell} {U : State} (h : XT.Arr .byte a A U) (ht : Typed .byte A) {i : Nat} (hi : i < A.slots.size) : A.slots[i]? = some (.int (yv A i)) := by
  have e := Array.getElem?_eq_getElem hi
  have f := ht i _ e
  unfold yv; rw [e]
  generalize A.slots[i] = v at f
  cases v <;> simp [fits] at f ⊢
/-- the two arrays are equal, place for place -/
def EqC (A B : Cell) : Prop := A.slots.size = B.slots.size ∧ ∀ i, i < A.slots.size → yv A i = yv B i
/-- a boolean that says whether p -/
def Says01 (q : Prop) (r : Option Value) (s u : State) : Prop := ∃ v : Int32, r = some (.int v) ∧ u.heap = s.heap ∧ ((v = 1 ∧ q) ∨ (v = 0 ∧ ¬ q))
theorem Says01.mv {q : Prop} : ∀ r (U U' V V' : State), U'.heap = U.heap → V.vm.Alike V'.vm → V'.heap = V.heap → Says01 q r U V → Says01 q r U' V' :=
  fun r U U' V V' h1 _ h2 ⟨v, a, b, c⟩ => ⟨v, a, by rw [h1, h2]; exact b, c⟩
namespace LEq
def yN : MethodName := ⟨"java/lang/StringLatin1", "equals", "([B[B)Z"⟩
abbrev yB : ByteArray := jdk_43_method_13_code
theorem d0 : decode yB 0 = .ok (.aload_n 0, 1) := by decide +kernel
theorem d1 : decode yB 1 = .ok (.arraylength, 1) := by decide +kernel
theorem d2 : decode yB 2 = .ok (.aload_n 1, 1) := by decide +kernel
theorem d3 : decode yB 3 = .ok (.arraylength, 1) := by decide +kernel
theorem d4 : decode yB 4 = .ok (.if_icmp (.ne) 30, 3) := by decide +kernel
theorem d7 : decode yB 7 = .ok (.iconst 0, 1) := by decide +kernel
theorem d8 : decode yB 8 = .ok (.istore_n 2, 1) := by decide +kernel
theorem d9 : decode yB 9 = .ok (.iload_n 2, 1) := by decide +kernel
theorem d10 : decode yB 10 = .ok (.aload_n 0, 1) := by decide +kernel
theorem d11 : decode yB 11 = .ok (.arraylength, 1) := by decide +kernel
theorem d12 : decode yB 12 = .ok (.if_icmp (.ge) 20, 3) := by decide +kernel
theorem d15 : decode yB 15 = .ok (.aload_n 0, 1) := by decide +kernel
theorem d16 : decode yB 16 = .ok (.iload_n 2, 1) := by decide +kernel
theorem d17 : decode yB 17 = .ok (.baload, 1) := by decide +kernel
theorem d18 : decode yB 18 = .ok (.aload_n 1, 1) := by decide +kernel
theorem d19 : decode yB 19 = .ok (.iload_n 2, 1) := by decide +kernel
theorem d20 : decode yB 20 = .ok (.baload, 1) := by decide +kernel
theorem d21 : decode yB 21 = .ok (.if_icmp (.eq) 5, 3) := by decide +kernel
theorem d24 : decode yB 24 = .ok (.iconst 0, 1) := by decide +kernel
theorem d25 : decode yB 25 = .ok (.ireturn, 1) := by decide +kernel
theorem d26 : decode yB 26 = .ok (.iinc 2 1, 3) := by decide +kernel
theorem d29 : decode yB 29 = .ok (.goto (-20), 3) := by decide +kernel
theorem d32 : decode yB 32 = .ok (.iconst 1, 1) := by decide +kernel
theorem d33 : decode yB 33 = .ok (.ireturn, 1) := by decide +kernel
theorem d34 : decode yB 34 = .ok (.iconst 0, 1) := by decide +kernel
theorem d35 : decode yB 35 = .ok (.ireturn, 1) := by decide +kernel
def site : List Cond := []
def tab : Cond := tabOf yN yB 3 (some .boolean) site
def P (a : Addr) (A : Cell) (b : Addr) (B : Cell) (args : Array Value) (s : State) : Prop := args = #[.ref a, .ref b] ∧ XT.Arr .byte a A s ∧ Typed .byte A ∧ XT.Arr .byte b B s ∧ Typed .byte B
/-- whether two byte[] are equal, place for place -/
theorem law (l : Launch) (a : Addr) (A : Cell) (b : Addr) (B : Cell) : Law l yN 2 2 0 0 yB 3 (some .boolean) site (P a A b B) (Says01 (EqC A B)) [] 0 0 := by
  refine Law.of_walk (plainFor_of_name (by decide +kernel)) (by decide +kernel) (by decide +kernel) (by decide) (fun _ _ h => by rw [h.1]; rfl) (fun _ U U' hal hh h => ⟨h.1, h.2.1.mv hal hh, h.2.2.1, h.2.2.2.1.mv hal hh, h.2.2.2.2⟩) (fun r U U' V V' h1 hal h2 h => Says01.mv r U U' V V' h1 hal h2 h) ?_
  intro p e s m args below meth c s₁ X0 hexec hbytes hml hret hlk hnm hown hh0 W hP
  obtain ⟨rfl, hA, tA, hB, tB⟩ := hP
  have a31 := hA.2.2.2
  have b31 := hB.2.2.2
  have hA0 := hA.mv X0.warmed.alike hh0
  have hB0 := hB.mv X0.warmed.alike hh0
  have c1 : Steps p.tables e below (s₁.setTop (entryFrame m #[.ref a, .ref b] 3)) (s₁.setTop (mkF m 0 #[.val (.ref a), .val (.ref b), .unset] [])) := entry rfl
  have c2 : Steps p.tables e below (s₁.setTop (entryFrame m #[.ref a, .ref b] 3)) (s₁.setTop (mkF m 4 #[.val (.ref a), .val (.ref b), .unset] [.int (Int32.ofNat B.slots.size), .int (Int32.ofNat A.slots.size)])) := c1.trans (by
    refine XS.aloadN X0.here hexec rfl (hb hbytes d0) rfl rfl ?_
    refine X0.alen hexec hA0 rfl rfl (hb hbytes d1) ?_
    refine XS.aloadN X0.here hexec rfl (hb hbytes d2) rfl rfl ?_
    refine X0.alen hexec hB0 rfl rfl (hb hbytes d3) ?_
    exact Steps.refl _)
  by_cases hs : A.slots.size = B.slots.size
  · have c3 : Steps p.tables e below (s₁.setTop (entryFrame m #[.ref a, .ref b] 3)) (s₁.setTop (mkF m 9 #[.val (.ref a), .val (.ref b), .val (.int 0)] [])) := c2.trans (by
      refine XS.icmpNo X0.here hexec rfl (hb hbytes d4) rfl (ii_ne_f (by rw [hs])) ?_
      refine iconstV X0.here hexec rfl 0 (hb hbytes d7) (by decide) ?_
      refine XS.istoreN X0.here hexec rfl (hb hbytes d8) rfl rfl ?_
      exact Steps.refl _)
    have loop : ∀ (r i : Nat), i + r = A.slots.size → (∀ j, j < i → yv A j = yv B j) → Steps p.tables e below (s₁.setTop (entryFrame m #[.ref a, .ref b] 3)) (s₁.setTop (mkF m 9 #[.val (.ref a), .val (.ref b), .val (.int (Int32.ofNat i))] [])) → ∃ (pc : Nat) (Ls : Array Slot) (v : Int32), (pc = 25 ∨ pc = 33) ∧ ((v = 1 ∧ EqC A B) ∨ (v = 0 ∧ ¬ EqC A B)) ∧ Steps p.tables e below (s₁.setTop (entryFrame m #[.ref a, .ref b] 3)) (s₁.setTop (mkF m pc Ls [.int v])) := by
      intro r
      induction r with
      | zero =>
        intro i hi he cl
        exact ⟨33, _, 1, Or.inr rfl, Or.inl ⟨rfl, hs, fun j hj => he j (by omega)⟩, cl.trans (by
          refine XS.iloadN X0.here hexec rfl (hb hbytes d9) rfl ?_
          refine XS.aloadN X0.here hexec rfl (hb hbytes d10) rfl rfl ?_
          refine X0.alen hexec hA0 rfl rfl (hb hbytes d11) ?_
          refine XS.icmpYes X0.here hexec rfl (pc0 := 12) rfl (hb hbytes d12) rfl (ii_ge_t (nlt32 (by omega) (by omega))) (by decide) rfl ?_
          refine iconstV X0.here hexec rfl 1 (hb hbytes d32) (by decide) ?_
          exact Steps.refl _)⟩
      | succ r ih =>
        intro i hi he cl
        have c4 : Steps p.tables e below (s₁.setTop (entryFrame m #[.ref a, .ref b] 3)) (s₁.setTop (mkF m 21 #[.val (.ref a), .val (.ref b), .val (.int (Int32.ofNat i))] [.int (yv B i), .int (yv A i)])) := cl.trans (by
          refine XS.iloadN X0.here hexec rfl (hb hbytes d9) rfl ?_
          refine XS.aloadN X0.here hexec rfl (hb hbytes d10) rfl rfl ?_
          refine X0.alen hexec hA0 rfl rfl (hb hbytes d11) ?_
          refine XS.icmpNo X0.here hexec rfl (hb hbytes d12) rfl (ii_ge_f (lt32 (by omega) (by omega))) ?_
          refine XS.aloadN X0.here hexec rfl (hb hbytes d15) rfl rfl ?_
          refine XS.iloadN X0.here hexec rfl (hb hbytes d16) rfl ?_
          refine X0.aget hexec hA0 rfl (yv_get hA tA (i := i) (by omega)) rfl rfl (hb hbytes d17) ?_
          refine XS.aloadN X0.here hexec rfl (hb hbytes d18) rfl rfl ?_
          refine XS.iloadN X0.here hexec rfl (hb hbytes d19) rfl ?_
          refine X0.aget hexec hB0 rfl (yv_get hB tB (i := i) (by omega)) rfl rfl (hb hbytes d20) ?_
          exact Steps.refl _)
        by_cases hv : yv A i = yv B i
        · have c5 : Steps p.tables e below (s₁.setTop (entryFrame m #[.ref a, .ref b] 3)) (s₁.setTop (mkF m 9 #[.val (.ref a), .val (.ref b), .val (.int (Int32.ofNat i + 1))] [])) := c4.trans (by
            refine XS.icmpYes X0.here hexec rfl (pc0 := 21) rfl (hb hbytes d21) rfl (ii_eq_t hv) (by decide) rfl ?_
            refine iincV X0.here hexec rfl 1 (hb hbytes d26) (by decide) rfl rfl ?_
            refine XS.goto X0.here hexec rfl (pc0 := 29) rfl (hb hbytes d29) (by decide) rfl ?_
            exact Steps.refl _)
          rw [succ32] at c5
          exact ih (i + 1) (by omega) (fun j hj => by
            by_cases e : j = i
            · rw [e]; exact hv
            · exact he j (by omega)) c5
        · exact ⟨25, _, 0, Or.inl rfl, Or.inr ⟨rfl, fun q => hv (q.2 i (by omega))⟩, c4.trans (by
            refine XS.icmpNo X0.here hexec rfl (hb hbytes d21) rfl (ii_eq_f hv) ?_
            refine iconstV X0.here hexec rfl 0 (hb hbytes d24) (by decide) ?_
            exact Steps.refl _)⟩
    obtain ⟨pc, Ls, v, hpc, hv, cz⟩ := loop A.slots.size 0 (by omega) (fun j hj => absurd hj (Nat.not_lt_zero j)) c3
    have nv : narrow .boolean (.int v) = .int v := by rcases hv with ⟨rfl, -⟩ | ⟨rfl, -⟩ <;> rfl
    rcases hpc with rfl | rfl
    · exact ⟨s₁, some (.int v), _, _, _, X0, rfl, rfl, rfl, (fun h => by cases h), ⟨v, rfl, hh0, hv⟩, fun fs hl => cz.trans (X0.ireturnOut hexec hret nv (Or.inr (Or.inl rfl)) (hb hbytes d25) hl)⟩
    · exact ⟨s₁, some (.int v), _, _, _, X0, rfl, rfl, rfl, (fun h => by cases h), ⟨v, rfl, hh0, hv⟩, fun fs hl => cz.trans (X0.ireturnOut hexec hret nv (Or.inr (Or.inl rfl)) (hb hbytes d33) hl)⟩
  · have c3 : Steps p.tables e below (s₁.setTop (entryFrame m #[.ref a, .ref b] 3)) (s₁.setTop (mkF m 35 #[.val (.ref a), .val (.ref b), .unset] [.int 0])) := c2.trans (by
      refine XS.icmpYes X0.here hexec rfl (pc0 := 4) rfl (hb hbytes d4) rfl (ii_ne_t (ne32 a31 b31 hs)) (by decide) rfl ?_
      refine iconstV X0.here hexec rfl 0 (hb hbytes d34) (by decide) ?_
      exact Steps.refl _)
    exact ⟨s₁, some (.int 0), _, _, _, X0, rfl, rfl, rfl, (fun h => by cases h), ⟨0, rfl, hh0, Or.inr ⟨rfl, fun q => hs q.1⟩⟩, fun fs hl => c3.trans (X0.ireturnOut hexec hret rfl (Or.inr (Or.inl rfl)) (hb hbytes d35) hl)⟩
end LEq
theorem Cod.ty {cd : Int32} {n : Nat} {f : Nat → Int32} {V : Cell} (h : Cod cd n f V) : Typed .byte V := fun i v hv => by
  have hi : i < V.slots.size := (Array.getElem?_eq_some_iff.mp hv).1
  rcases h with ⟨-, k1, k2⟩ | ⟨-, k1, k2, -⟩
  · rw [(k2 i (by omega)).1] at hv; cases hv; exact fits_lo8 _
  · rcases Nat.mod_two_eq_zero_or_one i with e | e
    · obtain ⟨j, rfl⟩ : ∃ j, i = 2 * j := ⟨i / 2, by omega⟩
      rw [(k2 j (by omega)).1] at hv; cases hv; exact fits_lo8 _
    · obtain ⟨j, rfl⟩ : ∃ j, i = 2 * j + 1 := ⟨i / 2, by omega⟩
      rw [(k2 j (by omega)).2] at hv; cases hv; exact fits_lo8 _
/-- the same text -/
def SameT (n : Nat) (f : Nat → Int32) (k : Nat) (g : Nat → Int32) : Prop := n = k ∧ ∀ j, j < n → f j = g j
theorem lo8_inj {x y : Int32} (h0 : ¬ x < 0) (h1 : ¬ 255 < x) (k0 : ¬ y < 0) (k1 : ¬ 255 < y) (h : lo8 x = lo8 y) : x = y := by
  rw [← lo8_mask h0 h1, ← lo8_mask k0 k1, h]
/-- arrays coded by one coder are equal just where the texts are -/
theorem Cod.eqv {cd : Int32} {n k : Nat} {f g : Nat → Int32} {V V' : Cell} (h : Cod cd n f V) (h' : Cod cd k g V') (hf : ∀ j, j < n → ¬ f j < 0 ∧ ¬ 65535 < f j) (hg : ∀ j, j < k → ¬ g j < 0 ∧ ¬ 65535 < g j) : EqC V V' ↔ SameT n f k g := by
  have yvv : ∀ {W : Cell} {i : Nat} {x : Int32}, W.slots[i]? = some (.int x) → yv W i = x := fun q => by unfold yv; rw [q]
  rcases h with ⟨rfl, k1, k2⟩ | ⟨rfl, k1, k2, -⟩
  · rcases h' with ⟨-, m1, m2⟩ | ⟨e, -⟩
    · constructor
      · rintro ⟨e1, e2⟩
        refine ⟨by omega, fun j hj => ?_⟩
        have q := e2 j (by omega)
        rw [yvv (k2 j hj).1, yvv (m2 j (by omega)).1] at q
        exact lo8_inj (hf j hj).1 (k2 j hj).2 (hg j (by omega)).1 (m2 j (by omega)).2 q
      · rintro ⟨rfl, e2⟩
        refine ⟨by omega, fun j hj => ?_⟩
        rw [yvv (k2 j (by omega)).1, yvv (m2 j (by omega)).1, e2 j (by omega)]
    · exact absurd e (by decide)
  · rcases h' with ⟨e, -⟩ | ⟨-, m1, m2, -⟩
    · exact absurd e (by decide)
    · constructor
      · rintro ⟨e1, e2⟩
        refine ⟨by omega, fun j hj => ?_⟩
        have q1 := e2 (2 * j) (by omega)
        have q2 := e2 (2 * j + 1) (by omega)
        rw [yvv (k2 j hj).1, yvv (m2 j (by omega)).1] at q1
        rw [yvv (k2 j hj).2, yvv (m2 j (by omega)).2] at q2
        rw [← pair_says (hf j hj).1 (hf j hj).2, ← pair_says (hg j (by omega)).1 (hg j (by omega)).2, q1, q2]
      · rintro ⟨rfl, e2⟩
        refine ⟨by omega, fun i hi => ?_⟩
        rcases Nat.mod_two_eq_zero_or_one i with e | e
        · obtain ⟨j, rfl⟩ : ∃ j, i = 2 * j := ⟨i / 2, by omega⟩
          rw [yvv (k2 j (by omega)).1, yvv (m2 j (by omega)).1, e2 j (by omega)]
        · obtain ⟨j, rfl⟩ : ∃ j, i = 2 * j + 1 := ⟨i / 2, by omega⟩
          rw [yvv (k2 j (by omega)).2, yvv (m2 j (by omega)).2, e2 j (by omega)]
/-- two codings differ: so do the texts -/
theorem Cod.dif {cd cd' : Int32} {n k : Nat} {f g : Nat → Int32} {V V' : Cell} (h : Cod cd n f V) (h' : Cod cd' k g V') (hne : ¬ cd = cd') : ¬ SameT n f k g := by
  rintro ⟨rfl, e⟩
  rcases h with ⟨rfl, -, k2⟩ | ⟨rfl, -, -, j, hj, hw⟩
  · rcases h' with ⟨rfl, -⟩ | ⟨-, -, -, j, hj, hw⟩
    · exact hne rfl
    · exact (k2 j hj).2 (by rw [e j hj]; exact hw)
  · rcases h' with ⟨-, -, m2⟩ | ⟨rfl, -⟩
    · exact (m2 j hj).2 (by rw [← e j hj]; exact hw)
    · exact hne rfl
/-- an object of exactly C is an instance of C -/
theorem cinst {p : Program} {l : Launch} {e : Env} {R : Room} {s : State} {m : MethodId} {args : Array Value} {below : List Frame} {meth : Method} {c : Code} {T : State} {locs : List Loc} {cells slots : Nat} (X : Stand p l e R s m args below meth c T locs cells slots) (hexec : p.tables.exec = Jvm.exec) {own C : String} {index : Nat} (hown : s.vm.findClass own = some m.cls) (hlink : (Cond.classLink own index C).before args s = true) {a : Addr} (hE : Exact C a T)
    {g : JFrame} (hg : g.method = m) {rest : List Value} (hstack : g.stack = .ref a :: rest) (hdg : decode c.code g.pc = .ok (.instanceof index, 3)) :
    ∃ T', Stand p l e R s m args below meth c T' locs cells slots ∧ T'.heap = T.heap ∧ ∀ target, Steps p.tables e below (T'.setTop { g with pc := g.pc + 3, stack := .int 1 :: rest }) target → Steps p.tables e below (T.setTop g) target := by
  obtain ⟨cB, h1, D, h2, h3, h4⟩ := hE
  have h1' : s.vm.findClass C = some cB := by rw [← X.warmed.alike.findClass]; exact h1
  obtain ⟨vm', X', st⟩ := X.instanceofYes hexec hown hlink h2 h4 h1' (by rw [h3]; exact Jvm.Free.SB.assignable_self _ _) hg hstack hdg
  exact ⟨_, X', rfl, st⟩
theorem cself {p : Program} {l : Launch} {e : Env} {R : Room} {s : State} {m : MethodId} {args : Array Value} {below : List Frame} {meth : Method} {c : Code} {T : State} {locs : List Loc} {cells slots : Nat} (X : Stand p l e R s m args below meth c T locs cells slots) (hexec : p.tables.exec = Jvm.exec) {own C : String} {index : Nat} (hown : s.vm.findClass own = some m.cls) (hlink : (Cond.classLink own index C).before args s = true) {a : Addr} (hE : Exact C a T)
    {g : JFrame} (hg : g.method = m) {rest : List Value} (hstack : g.stack = .ref a :: rest) (hdg : decode c.code g.pc = .ok (.checkcast index, 3)) :
    ∃ T', Stand p l e R s m args below meth c T' locs cells slots ∧ T'.heap = T.heap ∧ ∀ target, Steps p.tables e below (T'.setTop { g with pc := g.pc + 3, stack := .ref a :: rest }) target → Steps p.tables e below (T.setTop g) target := by
  obtain ⟨cB, h1, D, h2, h3, h4⟩ := hE
  have h1' : s.vm.findClass C = some cB := by rw [← X.warmed.alike.findClass]; exact h1
  obtain ⟨vm', X', st⟩ := X.checkcastYes hexec hown hlink h2 h4 h1' (by rw [h3]; exact Jvm.Free.SB.assignable_self _ _) hg hstack hdg
  exact ⟨_, X', rfl, fun t h => st t (by rw [← hstack] at h; exact h)⟩
namespace SEq
def yN : MethodName := ⟨"java/lang/String", "equals", "(Ljava/lang/Object;)Z"⟩
abbrev yB : ByteArray := jdk_42_method_66_code
theorem d0 : decode yB 0 = .ok (.aload_n 0, 1) := by decide +kernel
theorem d1 : decode yB 1 = .ok (.aload_n 1, 1) := by decide +kernel
theorem d2 : decode yB 2 = .ok (.if_acmp (.ne) 5, 3) := by decide +kernel
theorem d5 : decode yB 5 = .ok (.iconst 1, 1) := by decide +kernel
theorem d6 : decode yB 6 = .ok (.ireturn, 1) := by decide +kernel
theorem d7 : decode yB 7 = .ok (.aload_n 1, 1) := by decide +kernel
theorem d8 : decode yB 8 = .ok (.instanceof 10, 3) := by decide +kernel
theorem d11 : decode yB 11 = .ok (.ifCond (.eq) 43, 3) := by decide +kernel
theorem d14 : decode yB 14 = .ok (.aload_n 1, 1) := by decide +kernel
theorem d15 : decode yB 15 = .ok (.checkcast 10, 3) := by decide +kernel
theorem d18 : decode yB 18 = .ok (.astore_n 2, 1) := by decide +kernel
theorem d19 : decode yB 19 = .ok (.getstatic 38, 3) := by decide +kernel
theorem d22 : decode yB 22 = .ok (.ifCond (.eq) 14, 3) := by decide +kernel
theorem d25 : decode yB 25 = .ok (.aload_n 0, 1) := by decide +kernel
theorem d26 : decode yB 26 = .ok (.getfield 15, 3) := by decide +kernel
theorem d29 : decode yB 29 = .ok (.aload_n 2, 1) := by decide +kernel
theorem d30 : decode yB 30 = .ok (.getfield 15, 3) := by decide +kernel
theorem d33 : decode yB 33 = .ok (.if_icmp (.ne) 21, 3) := by decide +kernel
theorem d36 : decode yB 36 = .ok (.aload_n 0, 1) := by decide +kernel
theorem d37 : decode yB 37 = .ok (.getfield 9, 3) := by decide +kernel
theorem d40 : decode yB 40 = .ok (.aload_n 2, 1) := by decide +kernel
theorem d41 : decode yB 41 = .ok (.getfield 9, 3) := by decide +kernel
theorem d44 : decode yB 44 = .ok (.invokestatic 541, 3) := by decide +kernel
theorem d47 : decode yB 47 = .ok (.ifCond (.eq) 7, 3) := by decide +kernel
theorem d50 : decode yB 50 = .ok (.iconst 1, 1) := by decide +kernel
theorem d51 : decode yB 51 = .ok (.goto 4, 3) := by decide +kernel
theorem d54 : decode yB 54 = .ok (.iconst 0, 1) := by decide +kernel
theorem d55 : decode yB 55 = .ok (.ireturn, 1) := by decide +kernel
def site : List Cond := [.classLink "java/lang/String" 10 "java/lang/String", .fieldLink "java/lang/String" 38 "java/lang/String" "COMPACT_STRINGS" "Z", .fieldLink "java/lang/String" 15 "java/lang/String" "coder" "B", .fieldLink "java/lang/String" 9 "java/lang/String" "value" "[B", LEq.tab] ++ staticW "java/lang/String" 541 LEq.yN
def tab : Cond := tabOf yN yB 3 (some .boolean) site
def P (x t : Addr) (V : Cell) (cd : Int32) (n : Nat) (f : Nat → Int32) (y t' : Addr) (V' : Cell) (cd' : Int32) (k : Nat) (g : Nat → Int32) (z : Int32) (args : Array Value) (s : State) : Prop := args = #[.ref x, .ref y] ∧ Txt x t V cd n f s ∧ Txt y t' V' cd' k g s ∧ StaticIs s "java/lang/String" "COMPACT_STRINGS" "Z" (.int z) ∧ ¬ z = 0
/-- equals(Object) of two Strings: whether the texts are the same -/
theorem law (l : Launch) (x t : Addr) (V : Cell) (cd : Int32) (n : Nat) (f : Nat → Int32) (y t' : Addr) (V' : Cell) (cd' : Int32) (k : Nat) (g : Nat → Int32) (z : Int32) : Law l yN 2 1 1 14 yB 3 (some .boolean) site (P x t V cd n f y t' V' cd' k g z) (Says01 (SameT n f k g)) [] 0 0 := by
  refine Law.of_walk (plainFor_of_name (by decide +kernel)) (by decide +kernel) (by decide +kernel) (by decide) (fun _ _ h => by rw [h.1]; rfl) (fun _ U U' hal hh h => ⟨h.1, h.2.1.mv hal hh, h.2.2.1.mv hal hh, h.2.2.2.1.there hal hh, h.2.2.2.2⟩) (fun r U U' V V' h1 hal h2 h => Says01.mv r U U' V V' h1 hal h2 h) ?_
  intro p e s m args below meth c s₁ X0 hexec hbytes hml hret hlk hnm hown hh0 W hP
  obtain ⟨rfl, hx, hy, s1, hz⟩ := hP
  have c1 : Steps p.tables e below (s₁.setTop (entryFrame m #[.ref x, .ref y] 3)) (s₁.setTop (mkF m 2 #[.val (.ref x), .val (.ref y), .unset] [.ref y, .ref x])) := Steps.trans (entry rfl) (by
    show Steps p.tables e below (s₁.setTop (mkF m 0 #[.val (.ref x), .val (.ref y), .unset] [])) _
    refine XS.aloadN X0.here hexec rfl (hb hbytes d0) rfl rfl ?_
    refine XS.aloadN X0.here hexec rfl (hb hbytes d1) rfl rfl ?_
    exact Steps.refl _)
  by_cases hxy : x = y
  · have c2 : Steps p.tables e below (s₁.setTop (entryFrame m #[.ref x, .ref y] 3)) (s₁.setTop (mkF m 6 #[.val (.ref x), .val (.ref y), .unset] [.int 1])) := c1.trans (by
      refine acmpNo X0.here hexec rfl (hb hbytes d2) rfl rfl rfl (by simp [acmp, hxy]) ?_
      refine iconstV X0.here hexec rfl 1 (hb hbytes d5) (by decide) ?_
      exact Steps.refl _)
    subst hxy
    have ec : cd = cd' := by
      obtain ⟨D, fd, a1, a2, a3⟩ := hx.2.2.1
      obtain ⟨D', fd', b1, b2, b3⟩ := hy.2.2.1
      cases a1.symm.trans b1
      obtain ⟨q1, q2, q3, q4⟩ := a2.1
      obtain ⟨r1, r2, r3, r4⟩ := b2.1
      cases q4.symm.trans r4
      cases a3.symm.trans b3; rfl
    have et : t = t' := by
      obtain ⟨D, fd, a1, a2, a3⟩ := hx.2.1
      obtain ⟨D', fd', b1, b2, b3⟩ := hy.2.1
      cases a1.symm.trans b1
      obtain ⟨q1, q2, q3, q4⟩ := a2.1
      obtain ⟨r1, r2, r3, r4⟩ := b2.1
      cases q4.symm.trans r4
      cases a3.symm.trans b3; rfl
    subst ec et
    have ev : V = V' := by cases hx.2.2.2.1.1.symm.trans hy.2.2.2.1.1; rfl
    subst ev
    have hs : SameT n f k g := (Cod.eqv hx.2.2.2.2.1 hy.2.2.2.2.1 hx.2.2.2.2.2 hy.2.2.2.2.2).mp ⟨rfl, fun _ _ => rfl⟩
    exact ⟨s₁, some (.int 1), _, _, _, X0, rfl, rfl, rfl, (fun h => by cases h), ⟨1, rfl, hh0, Or.inl ⟨rfl, hs⟩⟩, fun fs hl => c2.trans (X0.ireturnOut hexec hret rfl (Or.inr (Or.inl rfl)) (hb hbytes d6) hl)⟩
  · have c2 : Steps p.tables e below (s₁.setTop (entryFrame m #[.ref x, .ref y] 3)) (s₁.setTop (mkF m 8 #[.val (.ref x), .val (.ref y), .unset] [.ref y])) := c1.trans (by
      refine acmpYes X0.here hexec rfl (pc0 := 2) rfl (hb hbytes d2) rfl rfl rfl (by simp [acmp, hxy]) (by decide) rfl ?_
      refine XS.aloadN X0.here hexec rfl (hb hbytes d7) rfl rfl ?_
      exact Steps.refl _)
    obtain ⟨T3, X3, q3, st3⟩ := cinst X0 hexec hown (wk W (.classLink "java/lang/String" 10 "java/lang/String")) (hy.mv X0.warmed.alike hh0).1 (g := (mkF m 8 #[.val (.ref x), .val (.ref y), .unset] [.ref y])) rfl (rest := []) rfl (hb hbytes d8)
    have hh3 := q3.trans hh0
    have c4 : Steps p.tables e below (s₁.setTop (entryFrame m #[.ref x, .ref y] 3)) (T3.setTop (mkF m 15 #[.val (.ref x), .val (.ref y), .unset] [.ref y])) := (c2.trans (st3 _ (Steps.refl _))).trans (by
      refine XS.ifNo X3.here hexec rfl (hb hbytes d11) rfl (i0_eq_f (by decide)) ?_
      refine XS.aloadN X3.here hexec rfl (hb hbytes d14) rfl rfl ?_
      exact Steps.refl _)
    obtain ⟨T5, X5, q5, st5⟩ := cself X3 hexec hown (wk W (.classLink "java/lang/String" 10 "java/lang/String")) (hy.mv X3.warmed.alike hh3).1 (g := (mkF m 15 #[.val (.ref x), .val (.ref y), .unset] [.ref y])) rfl (rest := []) rfl (hb hbytes d15)
    have hh5 := q5.trans hh3
    have c6 : Steps p.tables e below (s₁.setTop (entryFrame m #[.ref x, .ref y] 3)) (T5.setTop (mkF m 19 #[.val (.ref x), .val (.ref y), .val (.ref y)] [])) := (c4.trans (st5 _ (Steps.refl _))).trans (by
      refine XS.astoreN X5.here hexec rfl (hb hbytes d18) rfl rfl rfl ?_
      exact Steps.refl _)
    obtain ⟨T7, X7, q7, st7⟩ := X5.sget hexec hown (wk W (.fieldLink "java/lang/String" 38 "java/lang/String" "COMPACT_STRINGS" "Z")) s1 (fun _ _ h => by rw [hh5]; exact h) (g := (mkF m 19 #[.val (.ref x), .val (.ref y), .val (.ref y)] [])) rfl (hb hbytes d19)
    have hh7 := q7.trans hh5
    have c8 : Steps p.tables e below (s₁.setTop (entryFrame m #[.ref x, .ref y] 3)) (T7.setTop (mkF m 26 #[.val (.ref x), .val (.ref y), .val (.ref y)] [.ref x])) := (c6.trans (st7 _ (Steps.refl _))).trans (by
      refine XS.ifNo X7.here hexec rfl (hb hbytes d22) rfl (i0_eq_f hz) ?_
      refine XS.aloadN X7.here hexec rfl (hb hbytes d25) rfl rfl ?_
      exact Steps.refl _)
    obtain ⟨T9, X9, q9, st9⟩ := X7.hget hexec hown (wk W (.fieldLink "java/lang/String" 15 "java/lang/String" "coder" "B")) (hx.mv X7.warmed.alike hh7).2.2.1 (g := (mkF m 26 #[.val (.ref x), .val (.ref y), .val (.ref y)] [.ref x])) rfl (rest := []) rfl (hb hbytes d26)
    have hh9 := q9.trans hh7
    have c10 : Steps p.tables e below (s₁.setTop (entryFrame m #[.ref x, .ref y] 3)) (T9.setTop (mkF m 30 #[.val (.ref x), .val (.ref y), .val (.ref y)] [.ref y, .int cd])) := (c8.trans (st9 _ (Steps.refl _))).trans (by
      refine XS.aloadN X9.here hexec rfl (hb hbytes d29) rfl rfl ?_
      exact Steps.refl _)
    obtain ⟨T11, X11, q11, st11⟩ := X9.hget hexec hown (wk W (.fieldLink "java/lang/String" 15 "java/lang/String" "coder" "B")) (hy.mv X9.warmed.alike hh9).2.2.1 (g := (mkF m 30 #[.val (.ref x), .val (.ref y), .val (.ref y)] [.ref y, .int cd])) rfl (rest := [.int cd]) rfl (hb hbytes d30)
    have hh11 := q11.trans hh9
    have c12 : Steps p.tables e below (s₁.setTop (entryFrame m #[.ref x, .ref y] 3)) (T11.setTop (mkF m 33 #[.val (.ref x), .val (.ref y), .val (.ref y)] [.int cd', .int cd])) := c10.trans (st11 _ (Steps.refl _))
    by_cases hcd : cd = cd'
    · subst hcd
      have c13 : Steps p.tables e below (s₁.setTop (entryFrame m #[.ref x, .ref y] 3)) (T11.setTop (mkF m 37 #[.val (.ref x), .val (.ref y), .val (.ref y)] [.ref x])) := c12.trans (by
        refine XS.icmpNo X11.here hexec rfl (hb hbytes d33) rfl (ii_ne_f rfl) ?_
        refine XS.aloadN X11.here hexec rfl (hb hbytes d36) rfl rfl ?_
        exact Steps.refl _)
      obtain ⟨T14, X14, q14, st14⟩ := X11.hget hexec hown (wk W (.fieldLink "java/lang/String" 9 "java/lang/String" "value" "[B")) (hx.mv X11.warmed.alike hh11).2.1 (g := (mkF m 37 #[.val (.ref x), .val (.ref y), .val (.ref y)] [.ref x])) rfl (rest := []) rfl (hb hbytes d37)
      have hh14 := q14.trans hh11
      have c15 : Steps p.tables e below (s₁.setTop (entryFrame m #[.ref x, .ref y] 3)) (T14.setTop (mkF m 41 #[.val (.ref x), .val (.ref y), .val (.ref y)] [.ref y, .ref t])) := (c13.trans (st14 _ (Steps.refl _))).trans (by
        refine XS.aloadN X14.here hexec rfl (hb hbytes d40) rfl rfl ?_
        exact Steps.refl _)
      obtain ⟨T16, X16, q16, st16⟩ := X14.hget hexec hown (wk W (.fieldLink "java/lang/String" 9 "java/lang/String" "value" "[B")) (hy.mv X14.warmed.alike hh14).2.1 (g := (mkF m 41 #[.val (.ref x), .val (.ref y), .val (.ref y)] [.ref y, .ref t])) rfl (rest := [.ref t]) rfl (hb hbytes d41)
      have hh16 := q16.trans hh14
      have c17 : Steps p.tables e below (s₁.setTop (entryFrame m #[.ref x, .ref y] 3)) (T16.setTop (mkF m 44 #[.val (.ref x), .val (.ref y), .val (.ref y)] [.ref t', .ref t])) := c15.trans (st16 _ (Steps.refl _))
      obtain ⟨v18, T18, X18, E18, g18⟩ := X16.callS hexec (LEq.law l t V t' V') hown (wks W (staticW "java/lang/String" 541 LEq.yN)) (wk W LEq.tab) (W := 0) (Nat.le_of_ble_eq_true rfl) (Nat.le_of_ble_eq_true rfl) (Nat.le_refl _) (Nat.le_refl _) (g := (mkF m 44 #[.val (.ref x), .val (.ref y), .val (.ref y)] [.ref t', .ref t])) rfl (by rw [hml]; rfl) c17 (argsL := [.ref t, .ref t']) (rest := []) rfl rfl (by show 2 * 0 + 0 ≤ _; decide) (hb hbytes d44) (⟨rfl, hx.2.2.2.1.mv X16.warmed.alike hh16, hx.2.2.2.2.1.ty, hy.2.2.2.1.mv X16.warmed.alike hh16, hy.2.2.2.2.1.ty⟩)
      obtain ⟨v, rfl, q18, hv⟩ := E18
      have iff := Cod.eqv hx.2.2.2.2.1 hy.2.2.2.2.1 hx.2.2.2.2.2 hy.2.2.2.2.2
      rcases hv with ⟨rfl, he⟩ | ⟨rfl, he⟩
      · have c19 : Steps p.tables e below (s₁.setTop (entryFrame m #[.ref x, .ref y] 3)) (T18.setTop (mkF m 55 #[.val (.ref x), .val (.ref y), .val (.ref y)] [.int 1])) := Steps.trans g18 (by
          refine XS.ifNo X18.here hexec rfl (hb hbytes d47) rfl (i0_eq_f (by decide)) ?_
          refine iconstV X18.here hexec rfl 1 (hb hbytes d50) (by decide) ?_
          refine XS.goto X18.here hexec rfl (pc0 := 51) rfl (hb hbytes d51) (by decide) rfl ?_
          exact Steps.refl _)
        exact ⟨T18, some (.int 1), _, _, _, X18, rfl, rfl, rfl, (fun h => by cases h), ⟨1, rfl, q18.trans hh16, Or.inl ⟨rfl, iff.mp he⟩⟩, fun fs hl => c19.trans (X18.ireturnOut hexec hret rfl (Or.inr (Or.inl rfl)) (hb hbytes d55) hl)⟩
      · have c19 : Steps p.tables e below (s₁.setTop (entryFrame m #[.ref x, .ref y] 3)) (T18.setTop (mkF m 55 #[.val (.ref x), .val (.ref y), .val (.ref y)] [.int 0])) := Steps.trans g18 (by
          refine XS.ifYes X18.here hexec rfl (pc0 := 47) rfl (hb hbytes d47) rfl (i0_eq_t rfl) (by decide) rfl ?_
          refine iconstV X18.here hexec rfl 0 (hb hbytes d54) (by decide) ?_
          exact Steps.refl _)
        exact ⟨T18, some (.int 0), _, _, _, X18, rfl, rfl, rfl, (fun h => by cases h), ⟨0, rfl, q18.trans hh16, Or.inr ⟨rfl, fun q => he (iff.mpr q)⟩⟩, fun fs hl => c19.trans (X18.ireturnOut hexec hret rfl (Or.inr (Or.inl rfl)) (hb hbytes d55) hl)⟩
    · have c13 : Steps p.tables e below (s₁.setTop (entryFrame m #[.ref x, .ref y] 3)) (T11.setTop (mkF m 55 #[.val (.ref x), .val (.ref y), .val (.ref y)] [.int 0])) := c12.trans (by
        refine XS.icmpYes X11.here hexec rfl (pc0 := 33) rfl (hb hbytes d33) rfl (ii_ne_t hcd) (by decide) rfl ?_
        refine iconstV X11.here hexec rfl 0 (hb hbytes d54) (by decide) ?_
        exact Steps.refl _)
      exact ⟨T11, some (.int 0), _, _, _, X11, rfl, rfl, rfl, (fun h => by cases h), ⟨0, rfl, hh11, Or.inr ⟨rfl, Cod.dif hx.2.2.2.2.1 hy.2.2.2.2.1 hcd⟩⟩, fun fs hl => c13.trans (X11.ireturnOut hexec hret rfl (Or.inr (Or.inl rfl)) (hb hbytes d55) hl)⟩
theorem pays {l : Launch} {R : Room} {p : Program} {e : Env} {below : List Frame} {s : State} {sargs : Array Value} {len W : Nat} (x t : Addr) (V : Cell) (cd : Int32) (n : Nat) (f : Nat → Int32) (y t' : Addr) (V' : Cell) (cd' : Int32) (k : Nat) (g : Nat → Int32) (z : Int32) (htab : tab.before sargs s = true) (hfr : 2 ≤ R.frames) (hlo : W + 28 ≤ R.locals) :
    Back l R p e below s sargs yN len W (fun A₁ a₁ => A₁.cells + 0 ≤ R.cells ∧ A₁.slots + 0 ≤ R.slots ∧ P x t V cd n f y t' V' cd' k g z a₁ A₁.U) (fun A₁ _ v₁ B₁ => Says01 (SameT n f k g) v₁ A₁.U B₁.U ∧ B₁.locs = A₁.locs ++ [] ∧ B₁.cells = A₁.cells + 0 ∧ B₁.slots = A₁.slots + 0) :=
  (law l x t V cd n f y t' V' cd' k g z).pays htab hfr (by omega)
end SEq
end StrChars
namespace StrChars.Road
open Jvm Sem ClassFile Op Lib Jvm.Stand Jvm.Free Jvm.Free.XT
open Jvm.Lib.Cold (StaticIs)
/-- the words of String.equals(Object) -/
abbrev wordsEq : List Jvm.Cond := [.code SEq.yN SEq.yB 3 (some .boolean), .initialized ST, .classLink ST 10 ST, .fieldLink ST 38 ST "COMPACT_STRINGS" "Z", .fieldLink ST 15 ST "coder" "B", .fieldLink ST 9 ST "value" "[B", .methodLink ST 541 LEq.yN, .static LEq.yN, .code LEq.yN LEq.yB 3 (some .boolean), .initialized "java/lang/StringLatin1"]
theorem tabEq_of {a : Array Value} {s : State} (h : ∀ w ∈ wordsEq, w.before a s = true) : SEq.tab.before a s = true := by
  have hl : LEq.tab.before a s = true := unparts (wk h (.code LEq.yN LEq.yB 3 (some .boolean))) (wks h (.initialized LEq.yN.cls :: LEq.site))
  have q := consq hl h
  exact unparts (wk q (.code SEq.yN SEq.yB 3 (some .boolean))) (wks q (.initialized SEq.yN.cls :: SEq.site))
theorem movedEq {Z s : State} {a0 args : Array Value} (hZ : Z.Warmed39 s.vm) (hw : ∀ d ∈ wordsEq, d.before a0 Z = true) : ∀ d ∈ wordsEq, d.before args s = true := fun d hd => by
  have t : ∀ d ∈ wordsEq, (d.onTables && d.keepsFace) = true := by decide +kernel
  exact RoadKit.mv hZ (hw d hd) (t d hd)
/-- the road's facts of a String, as the laws ask it -/
theorem txt_of {Z U : State} {a0 : Array Value} {kI : Nat} (wi : (Jvm.Cond.instantiable ST kI).before a0 Z = true) (al : Z.vm.Alike U.vm) {x t : Addr} {kb : ClassId} {cs : List Int32} {cd N2 : Int32} {vs : List Value} (E : RoadKit.Exa Z U.heap x ST) (V : RoadKit.Fld Z U.heap x ST "value" "[B" (.ref t)) (C : RoadKit.Fld Z U.heap x ST "coder" "B" (.int cd)) (K : RoadKit.Arv Z U.heap t kb .byte N2 vs (.int 0)) (hc : CodA cs cd N2 vs) (hb : ∀ c ∈ cs, ¬ c < 0 ∧ ¬ (65535 : Int32) < c) (l2 : cs.length ≤ 4000) :
    ∃ A, Txt x t A cd cs.length (fun j => cs.getD j 0) U := by
  obtain ⟨A, K1, K2, K3, K4, K5, K6⟩ := K
  have hcod := hc.cod (by omega) K3 K5
  obtain ⟨D, fV, fC, hB, F1, F2, g1, g2, -, -⟩ := strObj wi al E V C
  exact ⟨A, ⟨_, hB.2.2.1, D, hB.1, rfl, by cases q : D.vm <;> first | rfl | exact absurd q (hB.2.1.2 _)⟩, Has.of hB F1 g1, Has.of hB F2 g2, ⟨K1.1, State.isArrayOf_alike al K1.2.1, K1.2.2, by rcases hcod with ⟨-, q, -⟩ | ⟨-, q, -⟩ <;> omega⟩, hcod, fun j hj => by
    have e : cs.getD j 0 = cs[j] := by simp [List.getD_eq_getElem?_getD, hj]
    show ¬ cs.getD j 0 < 0 ∧ ¬ 65535 < cs.getD j 0
    rw [e]; exact hb _ (List.getElem_mem _)⟩
theorem same_list (cs ds : List Int32) : SameT cs.length (fun j => cs.getD j 0) ds.length (fun j => ds.getD j 0) ↔ cs = ds := by
  constructor
  · rintro ⟨e, q⟩
    refine List.ext_getElem e fun j h1 h2 => ?_
    have := q j h1
    simpa [List.getD_eq_getElem?_getD, h1, h2] using this
  · rintro rfl
    exact ⟨rfl, fun _ _ => rfl⟩
/-- **equals(Object) OF TWO SUCH STRINGS**: 1 just where the chars are the same -/
theorem eqW {p : Program} {l : Launch} {e : Env} {R : Room} {s : State} {args : Array Value} {below : List Frame} {len W : Nat} {Z : State} {a0 : Array Value} {h : Heap} (hZ : Z.Warmed39 s.vm) (hw : ∀ d ∈ wordsEq, d.before a0 Z = true) {kI : Nat} (wi : (Jvm.Cond.instantiable ST kI).before a0 Z = true)
    {x t : Addr} {kb : ClassId} {cs : List Int32} {cd N2 : Int32} {vs : List Value} (E : RoadKit.Exa Z h x ST) (V : RoadKit.Fld Z h x ST "value" "[B" (.ref t)) (C : RoadKit.Fld Z h x ST "coder" "B" (.int cd)) (K : RoadKit.Arv Z h t kb .byte N2 vs (.int 0)) (hc : CodA cs cd N2 vs) (hb : ∀ c ∈ cs, ¬ c < 0 ∧ ¬ (65535 : Int32) < c) (l2 : cs.length ≤ 4000)
    {y t' : Addr} {kb' : ClassId} {ds : List Int32} {cd' N2' : Int32} {vs' : List Value} (E' : RoadKit.Exa Z h y ST) (V' : RoadKit.Fld Z h y ST "value" "[B" (.ref t')) (C' : RoadKit.Fld Z h y ST "coder" "B" (.int cd')) (K' : RoadKit.Arv Z h t' kb' .byte N2' vs' (.int 0)) (hc' : CodA ds cd' N2' vs') (hb' : ∀ c ∈ ds, ¬ c < 0 ∧ ¬ (65535 : Int32) < c) (l2' : ds.length ≤ 4000)
    {z : Int32} (S : RoadKit.Sta Z h ST "COMPACT_STRINGS" "Z" (.int z)) (hz : ¬ z = 0) (hfr : 2 ≤ R.frames) (hlo : W + 28 ≤ R.locals) :
    Back l R p e below s args (⟨"java/lang/String", "equals", "(Ljava/lang/Object;)Z"⟩ : MethodName) len W (fun P a => a = #[.ref x, .ref y] ∧ P.U.heap = h ∧ P.cells + 0 ≤ R.cells ∧ P.slots + 0 ≤ R.slots)
      (fun P _ v B => ∃ L, (((v = some (.int 1) ∧ cs = ds) ∨ (v = some (.int 0) ∧ ¬ cs = ds)) ∧ L = [] ∧ B.U.heap = h) ∧ B.locs = P.locs ++ L ∧ B.cells = P.cells + 0 ∧ B.slots = P.slots + 0) := by
  intro m meth c P g ig mk a X hg hsize hdg hW hn hp'
  obtain ⟨rfl, rfl, r1, r2⟩ := hp'
  have al : Z.vm.Alike P.U.vm := hZ.alike.trans X.warmed.alike
  obtain ⟨A, hx⟩ := txt_of wi al E V C K hc hb l2
  obtain ⟨A', hy⟩ := txt_of wi al E' V' C' K' hc' hb' l2'
  obtain ⟨v, B, X', ⟨⟨w, hv, hh, hq⟩, hl, hk, hs⟩, st⟩ := SEq.pays x t A cd cs.length (fun j => cs.getD j 0) y t' A' cd' ds.length (fun j => ds.getD j 0) z (tabEq_of (movedEq hZ hw)) hfr hlo m meth c P g ig mk _ X hg hsize hdg hW hn ⟨r1, r2, rfl, hx, hy, sta_is al S, hz⟩
  refine ⟨v, B, X', ⟨[], ⟨?_, rfl, hh⟩, hl, hk, hs⟩, st⟩
  rcases hq with ⟨rfl, q⟩ | ⟨rfl, q⟩
  · exact Or.inl ⟨hv, (same_list cs ds).mp q⟩
  · exact Or.inr ⟨hv, fun e => q ((same_list cs ds).mpr e)⟩
end StrChars.Road
namespace StrChars.Road
open Jvm Sem ClassFile Op Lib Jvm.Stand Jvm.Free Jvm.Free.XT
open Jvm.Lib.Cold (StaticIs)
/-- what backV says of its String, as the contracts of this text ask it: cs's low bytes, coder 0 -/
theorem codOf {cs : List Int32} {n : Nat} (hn : cs.length = n) (hb : ∀ c ∈ cs, ¬ 255 < c) : CodA cs 0 (Int32.ofNat n) ((cs.map lo8).map Value.int) := Or.inl ⟨rfl, by rw [hn], by simp [List.map_map, Function.comp_def], hb⟩
end StrChars.Road
end Jvm.Pilot.@@N@@

namespace Jvm.RoadKit
open Sem ClassFile Op Lib Jvm.Stand Jvm.Free Jvm.LawKit
section New
variable {p : Program} {l : Launch} {e : Env} {R : Room} {s : State} {m : MethodId} {args : Array Value} {below : List Frame} {meth : Method} {c : Code} {T : State} {locs : List Loc} {cells slots : Nat}
theorem retI (X : Stand p l e R s m args below meth c T locs cells slots) (hx : p.tables.exec = Jvm.exec) {pc : Nat} {Ls : Array Slot} {z : Int32} {rest : List Value} (hret : meth.sig.returnType = some .int) (hd : decode c.code pc = .ok (.ireturn, 1)) {fs : List Frame}
    (hl : ∀ (f : JFrame) (acts : List Action), f.method = m → f.locked = none → f.entered = [] → (doReturn e (T.setTop f) acts (some (.int z))).1 = T.setFrames fs) : Steps p.tables e below (T.setTop (mkF m pc Ls (.int z :: rest))) (T.setFrames fs) :=
  retOut X hx hret rfl (Or.inl ⟨rfl, Or.inl rfl, _, rfl⟩) hd hl
theorem own_retA (X : Stand p l e R s m args below meth c T locs cells slots) (hx : p.tables.exec = Jvm.exec) {pc : Nat} {Ls : Array Slot} {w : Value} {t : FieldType} {rest : List Value} (hret : meth.sig.returnType = some t) (ht : t.isReference = true) (hw : w.isRef = true) (hd : decode c.code pc = .ok (.areturn, 1)) {fs : List Frame}
    (hl : ∀ (f : JFrame) (acts : List Action), f.method = m → f.locked = none → f.entered = [] → (doReturn e (T.setTop f) acts (some w)).1 = T.setFrames fs) : Steps p.tables e below (T.setTop (mkF m pc Ls (w :: rest))) (T.setFrames fs) :=
  retOut X hx hret (by cases w <;> first | (simp [Value.isRef] at hw; done) | (cases t <;> rfl)) (Or.inr (Or.inr (Or.inr (Or.inr ⟨rfl, ht, hw⟩)))) hd hl
theorem own_retJ (X : Stand p l e R s m args below meth c T locs cells slots) (hx : p.tables.exec = Jvm.exec) {pc : Nat} {Ls : Array Slot} {z : Int64} {rest : List Value} (hret : meth.sig.returnType = some .long) (hd : decode c.code pc = .ok (.lreturn, 1)) {fs : List Frame}
    (hl : ∀ (f : JFrame) (acts : List Action), f.method = m → f.locked = none → f.entered = [] → (doReturn e (T.setTop f) acts (some (.long z))).1 = T.setFrames fs) : Steps p.tables e below (T.setTop (mkF m pc Ls (.long z :: rest))) (T.setFrames fs) :=
  retOut X hx hret rfl (Or.inr (Or.inl ⟨rfl, rfl, _, rfl⟩)) hd hl
/-- the walk goes on from here and ends as Q says -/
def own_Go (p : Program) (e : Env) (below : List Frame) (T : State) (g : JFrame) (Q : Outcome → State → Prop) : Prop :=
  ∃ s₂ o, Steps p.tables e below (T.setTop g) s₂ ∧ s₂.status = .running ∧ Ended s₂ below o ∧ Q o s₂
theorem own_go {T T' : State} {g g' : JFrame} {Q : Outcome → State → Prop} (h : ∀ t, Steps p.tables e below (T'.setTop g') t → Steps p.tables e below (T.setTop g) t) (k : own_Go p e below T' g' Q) : own_Go p e below T g Q := by
  obtain ⟨s₂, o, a, b⟩ := k
  exact ⟨s₂, o, h _ a, b⟩
theorem own_st {T T' t : State} {g g' : JFrame} (h : Steps p.tables e below (T'.setTop g') t → Steps p.tables e below (T.setTop g) t) (k : Steps p.tables e below (T'.setTop g') t) : Steps p.tables e below (T.setTop g) t := h k
theorem own_cast {g g' : JFrame} {Q : Outcome → State → Prop} (q : g = g') (k : own_Go p e below T g' Q) : own_Go p e below T g Q := by
  subst q; exact k
theorem own_in {g g' : JFrame} {Q : Outcome → State → Prop} (q : g = g') (k : own_Go p e below T g' Q) : ∃ s₂ o, Steps p.tables e below (T.setTop g) s₂ ∧ s₂.status = .running ∧ Ended s₂ below o ∧ Q o s₂ := by
  subst q; exact k
theorem own_out (X : Stand p l e R s m args below meth c T locs cells slots) {g : JFrame} {v : Option Value} (hv : meth.sig.returnType = none → v = none) (hlk : meth.locks = false)
    (h : ∀ fs, (∀ (f : JFrame) (acts : List Action), f.method = m → f.locked = none → f.entered = [] → (doReturn e (T.setTop f) acts v).1 = T.setFrames fs) → Steps p.tables e below (T.setTop g) (T.setFrames fs))
    {Q : Option Value → Heap → List Loc → Prop} (hQ : Q v T.heap locs) {k n : Nat} (hc : cells ≤ k) (hn : slots ≤ n) :
    own_Go p e below T g (fun o U' => ∃ v L, o = .returned v ∧ Q v U'.heap L ∧ FrameEnd s o U' L k n) := by
  obtain ⟨fs, hr, hrun, hended, hW, hsame⟩ := X.leave hv hlk
  exact ⟨_, _, h fs hr, hrun, hended, _, _, rfl, hQ, ⟨_, rfl⟩, hW, hsame.mono hc hn⟩
theorem own_since (s : State) : s.Since s.vm 0 := ⟨State.Warmed39.refl s, fun j p hj hp => by
  rw [Array.getElem?_eq_none hj] at hp; cases hp⟩
theorem own_outW {vm₁ : Vm} (X : Stand p l e R (s.setVm vm₁) m args below meth c T locs cells slots) {n0 : Nat} (hS : s.Since vm₁ n0) (hn0 : n0 ≤ T.heap.size) {g : JFrame} {v : Option Value} (hv : meth.sig.returnType = none → v = none) (hlk : meth.locks = false)
    (h : ∀ fs, (∀ (f : JFrame) (acts : List Action), f.method = m → f.locked = none → f.entered = [] → (doReturn e (T.setTop f) acts v).1 = T.setFrames fs) → Steps p.tables e below (T.setTop g) (T.setFrames fs))
    {Q : Option Value → Heap → List Loc → Prop} (hQ : Q v T.heap locs) {k n : Nat} (hc : cells ≤ k) (hn : slots ≤ n) :
    own_Go p e below T g (fun o U' => ∃ v L, o = .returned v ∧ Q v U'.heap L ∧ ReturnedEndW s o U' L k n) := by
  obtain ⟨fs, hr, hrun, hended, h1, h2, h3, h4⟩ := X.leaveW hS hn0 hv hlk
  exact ⟨_, _, h fs hr, hrun, hended, _, _, rfl, hQ, h1, h2, h3, h4.mono hc hn⟩
theorem own_outV {vm₁ : Vm} (X : Stand p l e R (s.setVm vm₁) m args below meth c T locs cells slots) {n0 : Nat} (hS : s.Since vm₁ n0) (hn0 : n0 ≤ T.heap.size) {g : JFrame} {v : Option Value} (hv : meth.sig.returnType = none → v = none) (hlk : meth.locks = false)
    (h : ∀ fs, (∀ (f : JFrame) (acts : List Action), f.method = m → f.locked = none → f.entered = [] → (doReturn e (T.setTop f) acts v).1 = T.setFrames fs) → Steps p.tables e below (T.setTop g) (T.setFrames fs))
    {Q : Option Value → Heap → Vm → List Loc → Prop} (hQ : Q v T.heap T.vm locs) {k n : Nat} (hc : cells ≤ k) (hn : slots ≤ n) :
    own_Go p e below T g (fun o U' => ∃ v L, o = .returned v ∧ Q v U'.heap U'.vm L ∧ ReturnedEndW s o U' L k n) := by
  obtain ⟨fs, hr, hrun, hended, h1, h2, h3, h4⟩ := X.leaveW hS hn0 hv hlk
  exact ⟨_, _, h fs hr, hrun, hended, _, _, rfl, hQ, h1, h2, h3, h4.mono hc hn⟩
/-- a callee that may intern, whose contract also reads and tells the tables -/
theorem own_backV {Z : State} {h : Heap} {a0 : Array Value} {y : MethodName} {bytes : ByteArray} {maxL : Nat} {ret : Option FieldType} {rm : Room} {len W : Nat} {as' : Array Value} {Q : Option Value → Heap → Vm → List Loc → Prop} {I : Vm → Prop} (hI : ∀ vm, s.WarmedH vm → I vm)
    (hM : MetFree l y (head1 [Cond.code y bytes maxL ret] rm) (fun a U => a = as' ∧ Z.Warmed39 U.vm ∧ U.heap = h ∧ I U.vm) (fun _ _ _ _ _ => True) (fun _ U o U' => ∃ v L, o = .returned v ∧ Q v U'.heap U'.vm L ∧ ReturnedEndW U o U' L rm.cells rm.slots))
    (hZ : Z.Warmed39 s.vm) (wc : (Cond.code y bytes maxL ret).before a0 Z = true) (wz : (Cond.initialized y.cls).before a0 Z = true) (hf : rm.frames + 1 ≤ R.frames) (hl : W + (maxL + 11) + rm.locals ≤ R.locals) :
    BackS l R p e below s args y len W (fun A a => a = as' ∧ A.U.heap = h ∧ A.cells + rm.cells ≤ R.cells ∧ A.slots + rm.slots ≤ R.slots)
      (fun A _ v B => ∃ L, Q v B.U.heap B.U.vm L ∧ B.locs = A.locs ++ L ∧ B.cells = A.cells + rm.cells ∧ B.slots = A.slots + rm.slots) :=
  BackS.of_freeW (bytes := bytes) (maxL := maxL) (ret := ret) (E := fun _ _ o t L k n => k = rm.cells ∧ n = rm.slots ∧ ∃ v, o = .returned v ∧ Q v t.heap t.vm L) hM hf hl
    (fun m meth c A a Y hp => have hU : Z.Warmed39 A.U.vm := wtrans hZ Y.warmed
      ⟨by show (Cond.and _ .tt).before a A.U = true; rw [Cond.before_and, mv hU wc]; rfl, mv hU wc, mv hU wz, hp.2.2.1, hp.2.2.2⟩)
    (fun m meth c A a g mk Y hp => ⟨hp.1, wtrans hZ Y.warmed, hp.2.1, hI _ Y.warmed⟩) (fun _ _ _ _ _ _ _ _ _ => trivial)
    (fun _ _ _ _ ⟨v, L, h1, h2, h3⟩ => ⟨L, _, _, h3, rfl, rfl, v, h1, h2⟩)
    (fun m meth c A a g mk v t L k n Y hp _ _ ⟨e1, e2, v', e3, e4⟩ => by cases e3; subst e1 e2; exact ⟨L, e4, rfl, rfl, rfl⟩)
theorem own_ltN {a n : Nat} (h : a < n) : a < n := h
theorem own_leN {a n : Nat} (h : a ≤ n) : a ≤ n := h
theorem own_ne {a b : Nat} (h : a ≠ b) : a ≠ b := h
theorem own_t0 {P : Prop} [Decidable P] (h : P) : (if P then (0 : Int32) else (1 : Int32)) = 0 := if_pos h
theorem own_f0 {P : Prop} [Decidable P] (h : ¬ P) : ¬ (if P then (0 : Int32) else (1 : Int32)) = 0 := by rw [if_neg h]; decide
theorem own_t1 {P : Prop} [Decidable P] (h : P) : ¬ (if P then (1 : Int32) else (0 : Int32)) = 0 := by rw [if_pos h]; decide
theorem own_f1 {P : Prop} [Decidable P] (h : ¬ P) : (if P then (1 : Int32) else (0 : Int32)) = 0 := if_neg h
end New
end Jvm.RoadKit
namespace Jvm.Pilot.@@N@@
open Jvm Jvm.ClassFile Sem Op Lib Jvm.Free Jvm.Stand Jvm.LawKit Jvm.RoadKit Bundle Jvm.Pilot.@@N@@.Jvm.D


/-- a Latin-1 String that spells cs; itself and its bytes lie below n -/
def own_Str (Z : State) (h : Heap) (n a : Nat) (cs : List Int32) : Prop :=
  Exa Z h a "java/lang/String" ∧ Fld Z h a "java/lang/String" "coder" "B" (.int 0) ∧ (∀ c ∈ cs, ¬ c < 0 ∧ ¬ (255 : Int32) < c) ∧ a < n ∧
  ∃ (t : Nat) (kb : ClassId), t < n ∧ Fld Z h a "java/lang/String" "value" "[B" (.ref t) ∧ Arv Z h t kb .byte (Int32.ofNat cs.length) ((cs.map fun c => c.toInt8.toInt32).map Value.int) (.int 0)
theorem own_Str.ext {Z : State} {h h' : Heap} {n a : Nat} {cs : List Int32} (F : own_Str Z h n a cs) (E : Ext h h') : own_Str Z h' n a cs := by
  obtain ⟨h1, h2, h3, h4, t, kb, h5, h6, h7⟩ := F
  exact ⟨h1.ext E, h2.ext E, h3, h4, t, kb, h5, h6.ext E, h7.ext E⟩
theorem own_Str.keep {Z : State} {h h' : Heap} {n a : Nat} {cs : List Int32} {ws : List Addr} (F : own_Str Z h n a cs) (K : Keep h h' ws) (q : ∀ x ∈ ws, n ≤ x) : own_Str Z h' n a cs := by
  obtain ⟨h1, h2, h3, h4, t, kb, h5, h6, h7⟩ := F
  have na : a ∉ ws := fun hm => absurd (q a hm) (Nat.not_le_of_lt h4)
  have nt : t ∉ ws := fun hm => absurd (q t hm) (Nat.not_le_of_lt h5)
  exact ⟨h1.keep K, h2.keep K na, h3, h4, t, kb, h5, h6.keep K na, h7.keep K nt⟩
theorem own_Str.wr {Z : State} {h h' : Heap} {n a : Nat} {cs : List Int32} {x : Addr} {sl : Nat} {v : Value} (F : own_Str Z h n a cs) (W : Wr h h' x sl v) (q : n ≤ x) : own_Str Z h' n a cs :=
  F.keep (Keep.of_wr W) (allS q all0)
theorem own_Str.mono {Z : State} {h : Heap} {n n' a : Nat} {cs : List Int32} (F : own_Str Z h n a cs) (q : n ≤ n') : own_Str Z h n' a cs := by
  obtain ⟨h1, h2, h3, h4, t, kb, h5, h6, h7⟩ := F
  exact ⟨h1, h2, h3, Nat.lt_of_lt_of_le h4 q, t, kb, Nat.lt_of_lt_of_le h5 q, h6, h7⟩
theorem own_Str.lt {Z : State} {h : Heap} {n a : Nat} {cs : List Int32} (F : own_Str Z h n a cs) : a < n := F.2.2.2.1
theorem own_up {cs : List Int32} (h : ∀ c ∈ cs, ¬ c < 0 ∧ ¬ (255 : Int32) < c) : ∀ c ∈ cs, ¬ c < 0 ∧ ¬ (65535 : Int32) < c := fun c hc => by
  obtain ⟨h1, h2⟩ := h c hc
  refine ⟨h1, fun q => h2 ?_⟩
  rw [Int32.lt_iff_toInt_lt] at q ⊢
  have e1 : (65535 : Int32).toInt = 65535 := rfl
  have e2 : (255 : Int32).toInt = 255 := rfl
  omega
theorem own_and255 (x : Int32) : ¬ (x &&& 255) < 0 ∧ ¬ (255 : Int32) < (x &&& 255) := by
  have h := c_mask x (255 : Int32) 8 (by decide) (by decide)
  have e0 : (0 : Int32).toInt = 0 := rfl
  have e1 : (255 : Int32).toInt = 255 := rfl
  rw [Int32.lt_iff_toInt_lt, Int32.lt_iff_toInt_lt, h, e0, e1]
  omega
theorem own_eqr {cs ds : List Int32} {v : Option Value} (h : (v = some (.int 1) ∧ cs = ds) ∨ (v = some (.int 0) ∧ ¬ cs = ds)) : v = some (.int (if cs = ds then (1 : Int32) else (0 : Int32))) := by
  rcases h with ⟨rfl, e⟩ | ⟨rfl, e⟩
  · rw [if_pos e]
  · rw [if_neg e]
theorem own_narb (x : Int32) : nar .byte x.toInt8.toInt32 = x.toInt8.toInt32 := by
  simp [nar]
/-- the state of one String constant: nothing interned since the start, or resolved to a String that spells cs -/
def own_LitSt (Z : State) (N : Nat) (own : String) (i : Nat) (cs : List Int32) (vm : Vm) (h : Heap) : Prop :=
  IB Z vm [] ∨ ∃ a, Lit (Z.setVm vm) own i a ∧ own_Str Z h N a cs
theorem own_ib {Z s : State} {vm : Vm} {Ts : List String} (hW : s.WarmedH vm) (I : IB Z s.vm Ts) : IB Z vm Ts := by
  obtain ⟨more, h1, h2⟩ := I
  exact ⟨more, by rw [hW.1]; exact h1, h2⟩
theorem own_lit {Z s : State} {vm : Vm} {own : String} {i : Nat} {a : Addr} (hW : s.Warmed39 vm) (L : Lit (Z.setVm s.vm) own i a) : Lit (Z.setVm vm) own i a :=
  State.resolvedAt?_warmed39 (s := s) hW L
theorem own_LitSt.warm {Z s : State} {N : Nat} {own : String} {i : Nat} {cs : List Int32} {vm : Vm} {h : Heap} (F : own_LitSt Z N own i cs s.vm h) (hW : s.WarmedH vm) : own_LitSt Z N own i cs vm h := by
  rcases F with I | ⟨a, L, S⟩
  · exact Or.inl (own_ib hW I)
  · exact Or.inr ⟨a, own_lit hW.wide L, S⟩
theorem own_LitSt.keep {Z : State} {N N' : Nat} {own : String} {i : Nat} {cs : List Int32} {vm : Vm} {h h' : Heap} {ws : List Addr} (F : own_LitSt Z N own i cs vm h) (K : Keep h h' ws) (q : ∀ x ∈ ws, N ≤ x) (qn : N ≤ N') : own_LitSt Z N' own i cs vm h' := by
  rcases F with I | ⟨a, L, S⟩
  · exact Or.inl I
  · exact Or.inr ⟨a, L, (S.keep K q).mono qn⟩

def own_cs (n x y : Int32) : List Int32 := if n = (0 : Int32) then [] else if n = (1 : Int32) then [x] else [x, y]
theorem own_csl (n x y : Int32) : (own_cs n x y).length ≤ 4000 := by
  unfold own_cs
  split
  · decide
  · split <;> simp
theorem own_narc {x : Int32} (h : ¬ x < (0 : Int32) ∧ ¬ (255 : Int32) < x) : nar .char x = x := by
  obtain ⟨h1, h2⟩ := h
  rw [Int32.lt_iff_toInt_lt] at h1 h2
  have e0 : (0 : Int32).toInt = 0 := rfl
  have e1 : (255 : Int32).toInt = 255 := rfl
  have q := c_i2c x
  apply Int32.toInt_inj.mp
  show (x.toUInt32.toUInt16.toUInt32.toInt32).toInt = x.toInt
  omega
theorem own_kind (s : Int32) : ((s &&& (3 : Int32)) % (3 : Int32)) = (0 : Int32) ∨ ((s &&& (3 : Int32)) % (3 : Int32)) = (1 : Int32) ∨ ((s &&& (3 : Int32)) % (3 : Int32)) = (2 : Int32) := by
  have e := (c_iremV (s &&& (3 : Int32)) (3 : Int32)).1 (c_and s 3 (by decide)).1 (by decide)
  have e3 : (3 : Int32).toInt = 3 := rfl
  have h : ((s &&& (3 : Int32)) % (3 : Int32)).toInt = 0 ∨ ((s &&& (3 : Int32)) % (3 : Int32)).toInt = 1 ∨ ((s &&& (3 : Int32)) % (3 : Int32)).toInt = 2 := by omega
  rcases h with h | h | h
  · exact Or.inl (Int32.toInt_inj.mp h)
  · exact Or.inr (Or.inl (Int32.toInt_inj.mp h))
  · exact Or.inr (Or.inr (Int32.toInt_inj.mp h))
theorem own_rng (x : Int32) : ¬ ((x &&& (255 : Int32)).toUInt32.toUInt16.toUInt32.toInt32) < (0 : Int32) ∧ ¬ (255 : Int32) < ((x &&& (255 : Int32)).toUInt32.toUInt16.toUInt32.toInt32) := by
  rw [i2c_mask]; exact own_and255 x
theorem own_ifsym {cs ds : List Int32} : (if ds = cs then (1 : Int32) else (0 : Int32)) = (if cs = ds then (1 : Int32) else (0 : Int32)) := by
  by_cases h : cs = ds
  · rw [if_pos h, if_pos h.symm]
  · rw [if_neg h, if_neg (fun q => h q.symm)]
theorem own_one {x : Int32} (hx : 0 ≤ x.toInt) : ¬ (if (1 : Int32) < x then x else (1 : Int32)) < (1 : Int32) := by
  have e1 : (1 : Int32).toInt = 1 := rfl
  split
  · next h => rw [Int32.lt_iff_toInt_lt, e1] at h ⊢; omega
  · rw [Int32.lt_iff_toInt_lt]; omega
theorem own_pos (a : Int32) : 0 ≤ (a &&& (2147483647 : Int32)).toInt := (c_and a (2147483647 : Int32) (by decide)).1
theorem own_oneL (a : Int64) : ¬ (if (1 : Int64) < (a &&& (2147483647 : Int64)) then (a &&& (2147483647 : Int64)) else (1 : Int64)).toInt32 < (1 : Int32) := by
  have e1 : (1 : Int32).toInt = 1 := rfl
  have e2 : (1 : Int64).toInt = 1 := rfl
  have h := c_maskL a (2147483647 : Int64) 31 (by decide) (by decide)
  rw [Int32.lt_iff_toInt_lt, e1]
  split
  · next q =>
    rw [Int64.lt_iff_toInt_lt, e2] at q
    have c := c_l2i (a &&& (2147483647 : Int64))
    have r := rng32 (a &&& (2147483647 : Int64)).toInt32
    omega
  · decide
theorem own_root {Z : State} {a0 : Array Value} {O K : String} {n : Nat} (w : (Jvm.Cond.noSuperclass O).before a0 Z = true) (wi : (Jvm.Cond.instantiable K n).before a0 Z = true) (hn : O ≠ K) : NS Z O K := by
  obtain ⟨c, k, h1, h2, h3, -, -⟩ := Cond.noSuperclass_spec w
  obtain ⟨t, k', g1, -⟩ := Cond.instantiable_spec wi
  have ne := ids_ne h1 g1 hn
  refine ⟨c, t, h1, g1, fun fuel => ?_⟩
  cases fuel with
  | zero => rfl
  | succ f => simp [Vm.isSubclassAux, ne, h2, h3]
theorem own_no {Z : State} {a0 : Array Value} {C S K : String} {n : Nat} (w : (Jvm.Cond.superclass C S).before a0 Z = true) (wi : (Jvm.Cond.instantiable K n).before a0 Z = true) (ns : NS Z C K) (hn : C ≠ K) : ∃ c t, Z.vm.findClass C = some c ∧ Z.vm.findClass K = some t ∧ Z.vm.assignable c t = false := by
  obtain ⟨c, t, h0, g0, n3⟩ := ns
  obtain ⟨p, k, kp, h1, h2, h3, h4, h5, -, h7⟩ := Cond.superclass_spec h0 w
  obtain ⟨t', k', g1, g2, g3, g4, -⟩ := Cond.instantiable_spec wi
  cases g0.symm.trans g1
  have ne := ids_ne h0 g0 hn
  have g7 : k'.isInterface = false := by
    rcases hq : k'.isInterface with _ | _
    · rfl
    · rw [hq] at g4; cases g4
  refine ⟨c, t, h0, g0, ?_⟩
  show Z.vm.assignableAux (255 + 1) c t = false
  simp [Vm.assignableAux, ne, h2, g2, h5, g3, g7, Vm.isSubclass, n3]
theorem d_jdk_43_3_0 : decode jdk_43_method_3_code 0 = .ok (.iload_n 0, 1) := by decide +kernel
theorem d_jdk_43_3_1 : decode jdk_43_method_3_code 1 = .ok (.sipush 255, 3) := by decide +kernel
theorem d_jdk_43_3_4 : decode jdk_43_method_3_code 4 = .ok (.if_icmp .gt 7, 3) := by decide +kernel
theorem d_jdk_43_3_7 : decode jdk_43_method_3_code 7 = .ok (.iconst 1, 1) := by decide +kernel
theorem d_jdk_43_3_8 : decode jdk_43_method_3_code 8 = .ok (.goto 4, 3) := by decide +kernel
theorem d_jdk_43_3_12 : decode jdk_43_method_3_code 12 = .ok (.ireturn, 1) := by decide +kernel
theorem pn_0 : plainName "java/lang/StringLatin1" = true := by first | (simp [plainName, overriddenIn]; done) | decide +kernel
theorem ef_0 (m : MethodId) (ch : Int32) : entryFrame m #[(.int ch)] 1 = mkF m 0 #[.val (.int ch)] [] := by first | (simp [entryFrame, mkF, argsToLocals, Value.category]; done) | rfl
def Q_rm_can (Z : State) (ch : Int32) (h0 : Heap) (n0 : Nat) (vv : Option Value) (h : Heap) (LL : List Loc) : Prop := vv = some (.int (1 : Int32)) ∧ Fr n0 LL ∧ h = h0
set_option maxRecDepth 65536 in
set_option maxHeartbeats 40000000 in
theorem rm_can (l : Launch) (Z : State) (a0 : Array Value) (hw : ∀ d ∈ tables_1, d.before a0 Z = true) (ws : List Jvm.Cond) (ch : Int32) (h0 : Heap) (n0 : Nat) (Z0 : n0 ≤ h0.size) (hc : ¬ ((255 : Int32) < ch)) :
    MetFree l (⟨"java/lang/StringLatin1", "canEncode", "(C)Z"⟩ : MethodName) (head1 (Jvm.Cond.code (⟨"java/lang/StringLatin1", "canEncode", "(C)Z"⟩ : MethodName) jdk_43_method_3_code 1 (some .boolean) :: ws) ({ frames := 0, cells := 0, slots := 0, locals := 0 } : Room)) (fun aa UU => aa = #[(.int ch)] ∧ Z.Warmed39 UU.vm ∧ UU.heap = h0) (fun _ _ _ _ _ => True) (fun _ UU oo UU' => ∃ vv LL, oo = .returned vv ∧ Q_rm_can Z ch h0 n0 vv UU'.heap LL ∧ FrameEnd UU oo UU' LL ({ frames := 0, cells := 0, slots := 0, locals := 0 } : Room).cells ({ frames := 0, cells := 0, slots := 0, locals := 0 } : Room).slots) := by
  refine MetFree.of_bodySF (plainFor_of_name pn_0) hisR ?_
  intro p e s m args below meth c s₁ Bd hml0 hP hK
  obtain ⟨rfl, hZ, hh⟩ := hP
  have hx := Bd.exec
  have hby := Bd.bytes
  have hml : c.maxLocals = 1 := hml0
  have hown : s.vm.findClass "java/lang/StringLatin1" = some m.cls := findClass_of_methodNamed Bd.named
  have hnm := (name_of_methodNamed Bd.named Bd.method).1
  have hlk : meth.locks = false := BodyLoose.notSynchronized Bd
  have X0 : Stand p l e ({ frames := 0, cells := 0, slots := 0, locals := 0 } : Room) s m #[(.int ch)] below meth c s₁ [] 0 0 := Stand.of_body Bd
  have e0 : s₁.heap = h0 := by rw [← hh, Bd.state]; rfl
  have N0 := Fr.nil n0
  refine own_in (ef_0 m ch) ?_
  refine own_go (T' := s₁) (g' := (mkF m 1 #[.val (.int ch)] [(.int ch)])) (fun t_ k_ => XS.iloadN X0.here hx rfl (hb hby d_jdk_43_3_0) rfl k_) ?_
  refine own_go (T' := s₁) (g' := (mkF m 4 #[.val (.int ch)] [(.int (255 : Int32)), (.int ch)])) (fun t_ k_ => XS.sipush X0.here hx rfl (hb hby d_jdk_43_3_1) k_) ?_
  refine own_go (T' := s₁) (g' := (mkF m 7 #[.val (.int ch)] [])) (fun t_ k_ => XS.icmpNo X0.here hx rfl (hb hby d_jdk_43_3_4) rfl (flt hc).2.2.1 k_) ?_
  refine own_go (T' := s₁) (g' := (mkF m 8 #[.val (.int ch)] [(.int (1 : Int32))])) (fun t_ k_ => XS.iconst X0.here hx rfl (hb hby d_jdk_43_3_7) k_) ?_
  refine own_go (T' := s₁) (g' := (mkF m 12 #[.val (.int ch)] [(.int (1 : Int32))])) (fun t_ k_ => XS.goto X0.here hx rfl (pc0 := 8) (pc' := 12) rfl (hb hby d_jdk_43_3_8) (by decide) (by decide) k_) ?_
  exact own_out X0 (v := some (.int (nar .boolean (1 : Int32)))) (fun h => by rw [Bd.returns] at h; cases h) hlk (fun fs hr => retN X0 hx (t := .boolean) Bd.returns (by simp) (hb hby d_jdk_43_3_12) hr) (Q := Q_rm_can Z ch h0 n0) (by rw [e0]; exact ⟨rfl, N0, rfl⟩) (by decide) (by decide)
theorem d_jdk_43_46_0 : decode jdk_43_method_46_code 0 = .ok (.iconst 1, 1) := by decide +kernel
theorem d_jdk_43_46_1 : decode jdk_43_method_46_code 1 = .ok (.newarray .byte, 2) := by decide +kernel
theorem d_jdk_43_46_3 : decode jdk_43_method_46_code 3 = .ok (.dup, 1) := by decide +kernel
theorem d_jdk_43_46_4 : decode jdk_43_method_46_code 4 = .ok (.iconst 0, 1) := by decide +kernel
theorem d_jdk_43_46_5 : decode jdk_43_method_46_code 5 = .ok (.iload_n 0, 1) := by decide +kernel
theorem d_jdk_43_46_6 : decode jdk_43_method_46_code 6 = .ok (.i2b, 1) := by decide +kernel
theorem d_jdk_43_46_7 : decode jdk_43_method_46_code 7 = .ok (.bastore, 1) := by decide +kernel
theorem d_jdk_43_46_8 : decode jdk_43_method_46_code 8 = .ok (.areturn, 1) := by decide +kernel
theorem ef_1 (m : MethodId) (ch : Int32) : entryFrame m #[(.int ch)] 1 = mkF m 0 #[.val (.int ch)] [] := by first | (simp [entryFrame, mkF, argsToLocals, Value.category]; done) | rfl
def Q_rm_tob (Z : State) (ch : Int32) (h0 : Heap) (n0 : Nat) (vv : Option Value) (h : Heap) (LL : List Loc) : Prop := ∃ b : Nat, ∃ kb : ClassId, vv = some (.ref b) ∧ Fr n0 LL ∧ Keep h0 h [] ∧ (h0.size ≤ b ∧ b < h.size) ∧ Arv Z h b kb .byte (1 : Int32) [(.int ch.toInt8.toInt32)] (.int (0 : Int32))
set_option maxRecDepth 65536 in
set_option maxHeartbeats 40000000 in
theorem rm_tob (l : Launch) (Z : State) (a0 : Array Value) (hw : ∀ d ∈ tables_1, d.before a0 Z = true) (ws : List Jvm.Cond) (ch : Int32) (h0 : Heap) (n0 : Nat) (Z0 : n0 ≤ h0.size) :
    MetFree l (⟨"java/lang/StringLatin1", "toBytes", "(C)[B"⟩ : MethodName) (head1 (Jvm.Cond.code (⟨"java/lang/StringLatin1", "toBytes", "(C)[B"⟩ : MethodName) jdk_43_method_46_code 1 (some (.array .byte)) :: ws) ({ frames := 0, cells := 1, slots := 1, locals := 0 } : Room)) (fun aa UU => aa = #[(.int ch)] ∧ Z.Warmed39 UU.vm ∧ UU.heap = h0) (fun _ _ _ _ _ => True) (fun _ UU oo UU' => ∃ vv LL, oo = .returned vv ∧ Q_rm_tob Z ch h0 n0 vv UU'.heap LL ∧ FrameEnd UU oo UU' LL ({ frames := 0, cells := 1, slots := 1, locals := 0 } : Room).cells ({ frames := 0, cells := 1, slots := 1, locals := 0 } : Room).slots) := by
  refine MetFree.of_bodySF (plainFor_of_name pn_0) hisR ?_
  intro p e s m args below meth c s₁ Bd hml0 hP hK
  obtain ⟨rfl, hZ, hh⟩ := hP
  have hx := Bd.exec
  have hby := Bd.bytes
  have hml : c.maxLocals = 1 := hml0
  have hown : s.vm.findClass "java/lang/StringLatin1" = some m.cls := findClass_of_methodNamed Bd.named
  have hnm := (name_of_methodNamed Bd.named Bd.method).1
  have hlk : meth.locks = false := BodyLoose.notSynchronized Bd
  have X0 : Stand p l e ({ frames := 0, cells := 1, slots := 1, locals := 0 } : Room) s m #[(.int ch)] below meth c s₁ [] 0 0 := Stand.of_body Bd
  have e0 : s₁.heap = h0 := by rw [← hh, Bd.state]; rfl
  have N0 := Fr.nil n0
  refine own_in (ef_1 m ch) ?_
  refine own_go (T' := s₁) (g' := (mkF m 1 #[.val (.int ch)] [(.int (1 : Int32))])) (fun t_ k_ => XS.iconst X0.here hx rfl (hb hby d_jdk_43_46_0) k_) ?_
  obtain ⟨T1, h1, k1, X1, e1, E1, A1, st1⟩ := newP X0 hx hZ (hw _ (List.mem_of_getElem? (i := 7) rfl)) e0 (g := (mkF m 1 #[.val (.int ch)] [(.int (1 : Int32))])) rfl (hb hby d_jdk_43_46_1) rfl (by decide) (cap := 1) (by decide) (by decide) (by decide) (by decide)
  obtain ⟨b1, g1⟩ : ∃ z, z = h0.size := ⟨_, rfl⟩
  rw [← g1] at A1 st1
  have V1 : Arv Z h1 b1 k1 .byte (1 : Int32) [(.int (0 : Int32))] (.int (0 : Int32)) := (Arv.new A1 (by decide)).pad (pad_rep [] (.int (0 : Int32)) 1)
  have l1 := own_ltN V1.lt
  have z1 := E1.1
  have K1 := (Keep.refl h0 []).ext E1
  refine own_go (T' := T1) (g' := (mkF m 3 #[.val (.int ch)] [(.ref b1)])) (fun t_ k_ => st1 _ k_) ?_
  refine own_go (T' := T1) (g' := (mkF m 4 #[.val (.int ch)] [(.ref b1), (.ref b1)])) (fun t_ k_ => XS.dup X1.here hx rfl (hb hby d_jdk_43_46_3) rfl rfl k_) ?_
  refine own_go (T' := T1) (g' := (mkF m 5 #[.val (.int ch)] [(.int (0 : Int32)), (.ref b1), (.ref b1)])) (fun t_ k_ => XS.iconst X1.here hx rfl (hb hby d_jdk_43_46_4) k_) ?_
  refine own_go (T' := T1) (g' := (mkF m 6 #[.val (.int ch)] [(.int ch), (.int (0 : Int32)), (.ref b1), (.ref b1)])) (fun t_ k_ => XS.iloadN X1.here hx rfl (hb hby d_jdk_43_46_5) rfl k_) ?_
  refine own_go (T' := T1) (g' := (mkF m 7 #[.val (.int ch)] [(.int (ch.toInt8.toInt32)), (.int (0 : Int32)), (.ref b1), (.ref b1)])) (fun t_ k_ => XS.i2b X1.here hx rfl (hb hby d_jdk_43_46_6) rfl k_) ?_
  obtain ⟨cl2, Ar2, q2, S2, Nn2, H2, G2⟩ := V1
  have hin2 : ¬ ((0 : Int32) < 0 ∨ cl2.slots.size ≤ ((0 : Int32)).toNatClampNeg) := inb_of S2 ⟨by decide, by decide⟩
  obtain ⟨T2, h2, X2, e2, W2, st2⟩ := stB X1 hx hZ e1 Ar2 (j := (0 : Int32)) hin2 (g := (mkF m 7 #[.val (.int ch)] [(.int (ch.toInt8.toInt32)), (.int (0 : Int32)), (.ref b1), (.ref b1)])) rfl rfl (hb hby d_jdk_43_46_7)
  have V2 : Arv Z h2 b1 k1 .byte (1 : Int32) [(.int (nar .byte (ch.toInt8.toInt32)))] (.int (0 : Int32)) := Arv.set Ar2 q2 S2 Nn2 H2 G2 (fits_nar_byte _) W2 0 rfl (Nat.le_of_ble_eq_true rfl)
  have z2 := W2.size
  have N2 := Fr.snoc X2 N0 (show n0 ≤ b1 by omega)
  have K2 := K1.wr W2 (Or.inr (show h0.size ≤ b1 by omega))
  refine own_go (T' := T2) (g' := (mkF m 8 #[.val (.int ch)] [(.ref b1)])) (fun t_ k_ => st2 _ k_) ?_
  exact own_out X2 (v := some (.ref b1)) (fun h => by rw [Bd.returns] at h; cases h) hlk (fun fs hr => own_retA X2 hx Bd.returns rfl rfl (hb hby d_jdk_43_46_8) hr) (Q := Q_rm_tob Z ch h0 n0) (by rw [e2]; exact ⟨b1, k1, rfl, N2, K2, ⟨by omega, by omega⟩, (own_narb _ ▸ V2)⟩) (by decide) (by decide)
theorem d_jdk_42_151_0 : decode jdk_42_method_151_code 0 = .ok (.aload_n 0, 1) := by decide +kernel
theorem d_jdk_42_151_1 : decode jdk_42_method_151_code 1 = .ok (.invokespecial 1, 3) := by decide +kernel
theorem d_jdk_42_151_4 : decode jdk_42_method_151_code 4 = .ok (.aload_n 0, 1) := by decide +kernel
theorem d_jdk_42_151_5 : decode jdk_42_method_151_code 5 = .ok (.aload_n 1, 1) := by decide +kernel
theorem d_jdk_42_151_6 : decode jdk_42_method_151_code 6 = .ok (.putfield 9, 3) := by decide +kernel
theorem d_jdk_42_151_9 : decode jdk_42_method_151_code 9 = .ok (.aload_n 0, 1) := by decide +kernel
theorem d_jdk_42_151_10 : decode jdk_42_method_151_code 10 = .ok (.iload_n 2, 1) := by decide +kernel
theorem d_jdk_42_151_11 : decode jdk_42_method_151_code 11 = .ok (.putfield 15, 3) := by decide +kernel
theorem d_jdk_42_151_14 : decode jdk_42_method_151_code 14 = .ok (.return_, 1) := by decide +kernel
theorem pn_1 : plainName "java/lang/String" = true := by first | (simp [plainName, overriddenIn]; done) | decide +kernel
theorem ef_2 (m : MethodId) (a : Nat) (t : Nat) (cd : Int32) : entryFrame m #[(.ref a), (.ref t), (.int cd)] 3 = mkF m 0 #[.val (.ref a), .val (.ref t), .val (.int cd)] [] := by first | (simp [entryFrame, mkF, argsToLocals, Value.category]; done) | rfl
def Q_rm_sinit (Z : State) (a : Nat) (t : Nat) (cd : Int32) (h0 : Heap) (n0 : Nat) (vv : Option Value) (h : Heap) (LL : List Loc) : Prop := vv = none ∧ Fr n0 LL ∧ Keep h0 h [a] ∧ Fld Z h a "java/lang/String" "value" "[B" (.ref t) ∧ Fld Z h a "java/lang/String" "coder" "B" (.int (nar .byte cd))
set_option maxRecDepth 65536 in
set_option maxHeartbeats 40000000 in
theorem rm_sinit (l : Launch) (Z : State) (a0 : Array Value) (hw : ∀ d ∈ tables_1, d.before a0 Z = true) (ws : List Jvm.Cond) (a : Nat) (t : Nat) (cd : Int32) (h0 : Heap) (n0 : Nat) (Z0 : n0 ≤ h0.size) (E_a : Exa Z h0 a "java/lang/String") (F_value_a : Fld Z h0 a "java/lang/String" "value" "[B" .null) (F_coder_a : Fld Z h0 a "java/lang/String" "coder" "B" (.int (0 : Int32))) (g_a : n0 ≤ a) :
    MetFree l (⟨"java/lang/String", "<init>", "([BB)V"⟩ : MethodName) (head1 (Jvm.Cond.code (⟨"java/lang/String", "<init>", "([BB)V"⟩ : MethodName) jdk_42_method_151_code 3 none :: ws) ({ frames := 1, cells := 0, slots := 0, locals := 12 } : Room)) (fun aa UU => aa = #[(.ref a), (.ref t), (.int cd)] ∧ Z.Warmed39 UU.vm ∧ UU.heap = h0) (fun _ _ _ _ _ => True) (fun _ UU oo UU' => ∃ vv LL, oo = .returned vv ∧ Q_rm_sinit Z a t cd h0 n0 vv UU'.heap LL ∧ FrameEnd UU oo UU' LL ({ frames := 1, cells := 0, slots := 0, locals := 12 } : Room).cells ({ frames := 1, cells := 0, slots := 0, locals := 12 } : Room).slots) := by
  refine MetFree.of_bodySF (plainFor_of_name pn_1) hisR ?_
  intro p e s m args below meth c s₁ Bd hml0 hP hK
  obtain ⟨rfl, hZ, hh⟩ := hP
  have hx := Bd.exec
  have hby := Bd.bytes
  have hml : c.maxLocals = 3 := hml0
  have hown : s.vm.findClass "java/lang/String" = some m.cls := findClass_of_methodNamed Bd.named
  have hnm := (name_of_methodNamed Bd.named Bd.method).1
  have hlk : meth.locks = false := BodyLoose.notSynchronized Bd
  have X0 : Stand p l e ({ frames := 1, cells := 0, slots := 0, locals := 12 } : Room) s m #[(.ref a), (.ref t), (.int cd)] below meth c s₁ [] 0 0 := Stand.of_body Bd
  have e0 : s₁.heap = h0 := by rw [← hh, Bd.state]; rfl
  have N0 := Fr.nil n0
  have lt_E_a := own_ltN E_a.lt
  have lt_F_value_a := own_ltN F_value_a.lt
  have lt_F_coder_a := own_ltN F_coder_a.lt
  refine own_in (ef_2 m a t cd) ?_
  refine own_go (T' := s₁) (g' := (mkF m 1 #[.val (.ref a), .val (.ref t), .val (.int cd)] [(.ref a)])) (fun t_ k_ => XS.aloadN X0.here hx rfl (hb hby d_jdk_42_151_0) rfl rfl k_) ?_
  obtain ⟨T1, X1, e1, st1⟩ := initO X0 hx hZ hown (hw _ (List.mem_of_getElem? (i := 31) rfl)) (hw _ (List.mem_of_getElem? (i := 32) rfl)) (hw _ (List.mem_of_getElem? (i := 33) rfl)) e0 (g := (mkF m 1 #[.val (.ref a), .val (.ref t), .val (.int cd)] [(.ref a)])) rfl (by rw [hml]; rfl) rfl (hb hby d_jdk_42_151_1) (by decide) (W := 0) (by show 2 * 0 + _ ≤ _; exact Nat.le_of_eq rfl) (by decide)
  refine own_go (T' := T1) (g' := (mkF m 4 #[.val (.ref a), .val (.ref t), .val (.int cd)] [])) (fun t_ k_ => st1 _ k_) ?_
  refine own_go (T' := T1) (g' := (mkF m 5 #[.val (.ref a), .val (.ref t), .val (.int cd)] [(.ref a)])) (fun t_ k_ => XS.aloadN X1.here hx rfl (hb hby d_jdk_42_151_4) rfl rfl k_) ?_
  refine own_go (T' := T1) (g' := (mkF m 6 #[.val (.ref a), .val (.ref t), .val (.int cd)] [(.ref t), (.ref a)])) (fun t_ k_ => XS.aloadN X1.here hx rfl (hb hby d_jdk_42_151_5) rfl rfl k_) ?_
  obtain ⟨T2, h2, X2, e2, W2, st2⟩ := putF X1 hx hZ hown (host := "") (Or.inl (hw _ (List.mem_of_getElem? (i := 34) rfl))) Via.refl e1 F_value_a E_a (Or.inr ⟨(hw _ (List.mem_of_getElem? (i := 8) rfl)), rfl, hnm⟩) (hw _ (List.mem_of_getElem? (i := 6) rfl)) (ty := (.array .byte)) (by decide) rfl rfl (g := (mkF m 6 #[.val (.ref a), .val (.ref t), .val (.int cd)] [(.ref t), (.ref a)])) rfl rfl (hb hby d_jdk_42_151_6)
  have F2 := F_value_a.same W2
  have z2 := W2.size
  have N2 := Fr.snoc X2 N0 (show n0 ≤ a by omega)
  have K2 := (Keep.refl h0 [a]).wr W2 (Or.inl (List.mem_of_getElem? (i := 0) rfl))
  refine own_go (T' := T2) (g' := (mkF m 9 #[.val (.ref a), .val (.ref t), .val (.int cd)] [])) (fun t_ k_ => st2 _ k_) ?_
  refine own_go (T' := T2) (g' := (mkF m 10 #[.val (.ref a), .val (.ref t), .val (.int cd)] [(.ref a)])) (fun t_ k_ => XS.aloadN X2.here hx rfl (hb hby d_jdk_42_151_9) rfl rfl k_) ?_
  refine own_go (T' := T2) (g' := (mkF m 11 #[.val (.ref a), .val (.ref t), .val (.int cd)] [(.int cd), (.ref a)])) (fun t_ k_ => XS.iloadN X2.here hx rfl (hb hby d_jdk_42_151_10) rfl k_) ?_
  have ff4 := (F_coder_a.other W2 (Or.inr (slot_ne (Or.inr (hw _ (List.mem_of_getElem? (i := 9) rfl))) (Or.inr (hw _ (List.mem_of_getElem? (i := 8) rfl))) (by decide) (t := .byte) (t' := (.array .byte)) (by decide) (by decide))))
  have ff5 := (E_a.wr W2)
  obtain ⟨T3, h3, X3, e3, W3, st3⟩ := putFN X2 hx hZ hown (hw _ (List.mem_of_getElem? (i := 35) rfl)) Via.refl e2 ff4 ff5 (Or.inr ⟨(hw _ (List.mem_of_getElem? (i := 9) rfl)), rfl, hnm⟩) (hw _ (List.mem_of_getElem? (i := 6) rfl)) (ty := .byte) (v' := .int (nar .byte cd)) (by decide) rfl (fits_nar_byte _) (g := (mkF m 11 #[.val (.ref a), .val (.ref t), .val (.int cd)] [(.int cd), (.ref a)])) rfl rfl (hb hby d_jdk_42_151_11)
  have F3 := ff4.same W3
  have z3 := W3.size
  have N3 := Fr.snoc X3 N2 (show n0 ≤ a by omega)
  have K3 := K2.wr W3 (Or.inl (List.mem_of_getElem? (i := 0) rfl))
  refine own_go (T' := T3) (g' := (mkF m 14 #[.val (.ref a), .val (.ref t), .val (.int cd)] [])) (fun t_ k_ => st3 _ k_) ?_
  have ff6 := (F2.other W3 (Or.inr (slot_ne (Or.inr (hw _ (List.mem_of_getElem? (i := 8) rfl))) (Or.inr (hw _ (List.mem_of_getElem? (i := 9) rfl))) (by decide) (t := (.array .byte)) (t' := .byte) (by decide) (by decide))))
  exact own_out X3 (v := none) (fun _ => rfl) hlk (fun fs hr => X3.returnOut hx Bd.returns (hb hby d_jdk_42_151_14) hr) (Q := Q_rm_sinit Z a t cd h0 n0) (by rw [e3]; exact ⟨rfl, N3, K3, ff6, F3⟩) (by decide) (by decide)
theorem d_jdk_42_139_0 : decode jdk_42_method_139_code 0 = .ok (.getstatic 38, 3) := by decide +kernel
theorem d_jdk_42_139_3 : decode jdk_42_method_139_code 3 = .ok (.ifCond .eq 23, 3) := by decide +kernel
theorem d_jdk_42_139_6 : decode jdk_42_method_139_code 6 = .ok (.iload_n 0, 1) := by decide +kernel
theorem d_jdk_42_139_7 : decode jdk_42_method_139_code 7 = .ok (.invokestatic 1015, 3) := by decide +kernel
theorem pd_0 : parseMethodDescriptor "(C)Z" = some ⟨[.char], some .boolean⟩ := by decide +kernel
theorem d_jdk_42_139_10 : decode jdk_42_method_139_code 10 = .ok (.ifCond .eq 16, 3) := by decide +kernel
theorem d_jdk_42_139_13 : decode jdk_42_method_139_code 13 = .ok (.new 10, 3) := by decide +kernel
theorem d_jdk_42_139_16 : decode jdk_42_method_139_code 16 = .ok (.dup, 1) := by decide +kernel
theorem d_jdk_42_139_17 : decode jdk_42_method_139_code 17 = .ok (.iload_n 0, 1) := by decide +kernel
theorem d_jdk_42_139_18 : decode jdk_42_method_139_code 18 = .ok (.invokestatic 1018, 3) := by decide +kernel
theorem pd_1 : parseMethodDescriptor "(C)[B" = some ⟨[.char], some (.array .byte)⟩ := by decide +kernel
theorem d_jdk_42_139_21 : decode jdk_42_method_139_code 21 = .ok (.iconst 0, 1) := by decide +kernel
theorem d_jdk_42_139_22 : decode jdk_42_method_139_code 22 = .ok (.invokespecial 209, 3) := by decide +kernel
theorem pd_2 : parseMethodDescriptor "([BB)V" = some ⟨[(.array .byte), .byte], none⟩ := by decide +kernel
theorem d_jdk_42_139_25 : decode jdk_42_method_139_code 25 = .ok (.areturn, 1) := by decide +kernel
theorem ef_3 (m : MethodId) (ch : Int32) : entryFrame m #[(.int ch)] 1 = mkF m 0 #[.val (.int ch)] [] := by first | (simp [entryFrame, mkF, argsToLocals, Value.category]; done) | rfl
def Q_rm_svo (Z : State) (ch : Int32) (cz : Int32) (h0 : Heap) (n0 : Nat) (vv : Option Value) (h : Heap) (LL : List Loc) : Prop := ∃ b : Nat, vv = some (.ref b) ∧ Fr n0 LL ∧ Keep h0 h [] ∧ (h0.size ≤ b ∧ b < h.size) ∧ own_Str Z h h.size b [ch]
set_option maxRecDepth 65536 in
set_option maxHeartbeats 40000000 in
theorem rm_svo (l : Launch) (Z : State) (a0 : Array Value) (hw : ∀ d ∈ tables_1, d.before a0 Z = true) (ws : List Jvm.Cond) (ch : Int32) (cz : Int32) (h0 : Heap) (n0 : Nat) (Z0 : n0 ≤ h0.size) (O0 : Old Z n0 h0) (S_COMPACT_STRINGS : Sta Z Z.heap "java/lang/String" "COMPACT_STRINGS" "Z" (.int cz)) (hcz : ¬ cz = (0 : Int32)) (hch : ¬ (ch < (0 : Int32)) ∧ ¬ ((255 : Int32) < ch)) :
    MetFree l (⟨"java/lang/String", "valueOf", "(C)Ljava/lang/String;"⟩ : MethodName) (head1 (Jvm.Cond.code (⟨"java/lang/String", "valueOf", "(C)Ljava/lang/String;"⟩ : MethodName) jdk_42_method_139_code 1 (some (.object "java/lang/String")) :: ws) ({ frames := 2, cells := 2, slots := 5, locals := 27 } : Room)) (fun aa UU => aa = #[(.int ch)] ∧ Z.Warmed39 UU.vm ∧ UU.heap = h0) (fun _ _ _ _ _ => True) (fun _ UU oo UU' => ∃ vv LL, oo = .returned vv ∧ Q_rm_svo Z ch cz h0 n0 vv UU'.heap LL ∧ FrameEnd UU oo UU' LL ({ frames := 2, cells := 2, slots := 5, locals := 27 } : Room).cells ({ frames := 2, cells := 2, slots := 5, locals := 27 } : Room).slots) := by
  refine MetFree.of_bodySF (plainFor_of_name pn_1) hisR ?_
  intro p e s m args below meth c s₁ Bd hml0 hP hK
  obtain ⟨rfl, hZ, hh⟩ := hP
  have hx := Bd.exec
  have hby := Bd.bytes
  have hml : c.maxLocals = 1 := hml0
  have hown : s.vm.findClass "java/lang/String" = some m.cls := findClass_of_methodNamed Bd.named
  have hnm := (name_of_methodNamed Bd.named Bd.method).1
  have hlk : meth.locks = false := BodyLoose.notSynchronized Bd
  have X0 : Stand p l e ({ frames := 2, cells := 2, slots := 5, locals := 27 } : Room) s m #[(.int ch)] below meth c s₁ [] 0 0 := Stand.of_body Bd
  have e0 : s₁.heap = h0 := by rw [← hh, Bd.state]; rfl
  have N0 := Fr.nil n0
  refine own_in (ef_3 m ch) ?_
  obtain ⟨T1, X1, e1, st1⟩ := getS2 X0 hx hZ hown (host := "") (Or.inl (hw _ (List.mem_of_getElem? (i := 18) rfl))) Via.refl e0 (S_COMPACT_STRINGS.ext O0.2) (g := (mkF m 0 #[.val (.int ch)] [])) rfl (hb hby d_jdk_42_139_0)
  refine own_go (T' := T1) (g' := (mkF m 3 #[.val (.int ch)] [(.int cz)])) (fun t_ k_ => st1 _ k_) ?_
  refine own_go (T' := T1) (g' := (mkF m 6 #[.val (.int ch)] [])) (fun t_ k_ => XS.ifNo X1.here hx rfl (hb hby d_jdk_42_139_3) rfl ((if0 _ _).trans (feq hcz).1) k_) ?_
  refine own_go (T' := T1) (g' := (mkF m 7 #[.val (.int ch)] [(.int ch)])) (fun t_ k_ => XS.iloadN X1.here hx rfl (hb hby d_jdk_42_139_6) rfl k_) ?_
  obtain ⟨_, _, ⟨T2, L2, k2, n2⟩, -, X2, ⟨Lc2, hQ2, l2, y2, z2⟩, st2⟩ := Jvm.LawKit.callS X1 hx (y := (⟨"java/lang/StringLatin1", "canEncode", "(C)Z"⟩ : MethodName)) hown (mvT hZ (hw _ (List.mem_of_getElem? (i := 19) rfl))) (mvT hZ (hw _ (List.mem_of_getElem? (i := 20) rfl))) (mvT hZ (hw _ (List.mem_of_getElem? (i := 21) rfl))) (mvT hZ (hw _ (List.mem_of_getElem? (i := 22) rfl))) (by decide) (backOf (W := 0) (rm_can l Z a0 hw [] ch h0 n0 (show n0 ≤ h0.size by omega) hch.2) hZ (hw _ (List.mem_of_getElem? (i := 22) rfl)) (hw _ (List.mem_of_getElem? (i := 21) rfl)) (by decide) (by decide)) (g := (mkF m 7 #[.val (.int ch)] [(.int ch)])) rfl (by rw [hml]; rfl) (argsL := [(.int ch)]) (rest := []) (lenOf pd_0 rfl) rfl (by show 2 * 0 + _ ≤ _; exact Nat.le_of_eq rfl) (hb hby d_jdk_42_139_7) (fun _ _ => ⟨rfl, e1, (by decide : 0 + 0 ≤ _), (by decide : 0 + 0 ≤ _)⟩)
  dsimp only [Pt.U, Pt.locs, Pt.cells, Pt.slots] at X2 l2 y2 z2 st2 hQ2
  subst l2 y2 z2
  obtain ⟨rfl, M2, e2⟩ := hQ2
  have N2 := Fr.app N0 M2
  refine own_go (T' := T2) (g' := (mkF m 10 #[.val (.int ch)] [(.int (1 : Int32))])) (fun t_ k_ => st2 _ k_) ?_
  refine own_go (T' := T2) (g' := (mkF m 13 #[.val (.int ch)] [])) (fun t_ k_ => XS.ifNo X2.here hx rfl (hb hby d_jdk_42_139_10) rfl ((if0 _ _).trans (feq (by decide)).1) k_) ?_
  obtain ⟨T3, h3, X3, e3, E3, A3, D3, -, st3⟩ := newO X2 hx hZ hown (hw _ (List.mem_of_getElem? (i := 23) rfl)) (hw _ (List.mem_of_getElem? (i := 6) rfl)) (hw _ (List.mem_of_getElem? (i := 5) rfl)) e2 (g := (mkF m 13 #[.val (.int ch)] [])) rfl (hb hby d_jdk_42_139_13) (by decide) (by decide)
  obtain ⟨b3, g3⟩ : ∃ z, z = h0.size := ⟨_, rfl⟩
  rw [← g3] at A3 D3 st3
  have l3 := own_ltN A3.lt
  have z3 := E3.1
  have O3 := O0.ext E3
  have K3 := (Keep.refl h0 []).ext E3
  have F3_value : Fld Z h3 b3 "java/lang/String" "value" "[B" .null := D3 (Or.inr (hw _ (List.mem_of_getElem? (i := 8) rfl))) (ty := (.array .byte)) (by decide)
  have F3_coder : Fld Z h3 b3 "java/lang/String" "coder" "B" (.int (0 : Int32)) := D3 (Or.inr (hw _ (List.mem_of_getElem? (i := 9) rfl))) (ty := .byte) (by decide)
  refine own_go (T' := T3) (g' := (mkF m 16 #[.val (.int ch)] [(.ref b3)])) (fun t_ k_ => st3 _ k_) ?_
  refine own_go (T' := T3) (g' := (mkF m 17 #[.val (.int ch)] [(.ref b3), (.ref b3)])) (fun t_ k_ => XS.dup X3.here hx rfl (hb hby d_jdk_42_139_16) rfl rfl k_) ?_
  refine own_go (T' := T3) (g' := (mkF m 18 #[.val (.int ch)] [(.int ch), (.ref b3), (.ref b3)])) (fun t_ k_ => XS.iloadN X3.here hx rfl (hb hby d_jdk_42_139_17) rfl k_) ?_
  obtain ⟨_, _, ⟨T4, L4, k4, n4⟩, -, X4, ⟨Lc4, hQ4, l4, y4, z4⟩, st4⟩ := Jvm.LawKit.callS X3 hx (y := (⟨"java/lang/StringLatin1", "toBytes", "(C)[B"⟩ : MethodName)) hown (mvT hZ (hw _ (List.mem_of_getElem? (i := 24) rfl))) (mvT hZ (hw _ (List.mem_of_getElem? (i := 25) rfl))) (mvT hZ (hw _ (List.mem_of_getElem? (i := 21) rfl))) (mvT hZ (hw _ (List.mem_of_getElem? (i := 26) rfl))) (by decide) (backOf (W := 2) (rm_tob l Z a0 hw [] ch h3 n0 (show n0 ≤ h3.size by omega)) hZ (hw _ (List.mem_of_getElem? (i := 26) rfl)) (hw _ (List.mem_of_getElem? (i := 21) rfl)) (by decide) (by decide)) (g := (mkF m 18 #[.val (.int ch)] [(.int ch), (.ref b3), (.ref b3)])) rfl (by rw [hml]; rfl) (argsL := [(.int ch)]) (rest := [(.ref b3), (.ref b3)]) (lenOf pd_1 rfl) rfl (by show 2 * 0 + _ ≤ _; exact Nat.le_of_eq rfl) (hb hby d_jdk_42_139_18) (fun _ _ => ⟨rfl, e3, (by decide : 1 + 1 ≤ _), (by decide : 4 + 1 ≤ _)⟩)
  dsimp only [Pt.U, Pt.locs, Pt.cells, Pt.slots] at X4 l4 y4 z4 st4 hQ4
  subst l4 y4 z4
  obtain ⟨b4, kb4, rfl, M4, K4_, ⟨lob4, hib4⟩, f4_0⟩ := hQ4
  have zz4 := K4_.1
  have O4 := O3.keep K4_ all0
  have K4 := K3.trans K4_ all0
  have N4 := Fr.app N2 M4
  refine own_go (T' := T4) (g' := (mkF m 21 #[.val (.int ch)] [(.ref b4), (.ref b3), (.ref b3)])) (fun t_ k_ => st4 _ k_) ?_
  refine own_go (T' := T4) (g' := (mkF m 22 #[.val (.int ch)] [(.int (0 : Int32)), (.ref b4), (.ref b3), (.ref b3)])) (fun t_ k_ => XS.iconst X4.here hx rfl (hb hby d_jdk_42_139_21) k_) ?_
  have ff6 := (A3.keep K4_)
  have ff7 := (F3_value.keep K4_ nin0)
  have ff8 := (F3_coder.keep K4_ nin0)
  obtain ⟨_, _, ⟨T5, L5, k5, n5⟩, -, X5, ⟨Lc5, hQ5, l5, y5, z5⟩, st5⟩ := X4.specialBack hx (y := (⟨"java/lang/String", "<init>", "([BB)V"⟩ : MethodName)) rfl hown (mvT hZ (hw _ (List.mem_of_getElem? (i := 27) rfl))) (mvT hZ (hw _ (List.mem_of_getElem? (i := 28) rfl))) (mvT hZ (hw _ (List.mem_of_getElem? (i := 30) rfl))) (by decide) (backOf (W := 1) (rm_sinit l Z a0 hw [] b3 b4 (0 : Int32) T4.heap n0 (show n0 ≤ T4.heap.size by omega) ff6 ff7 ff8 (show n0 ≤ b3 by omega)) hZ (hw _ (List.mem_of_getElem? (i := 30) rfl)) (hw _ (List.mem_of_getElem? (i := 5) rfl)) (by decide) (by decide)) (g := (mkF m 22 #[.val (.int ch)] [(.int (0 : Int32)), (.ref b4), (.ref b3), (.ref b3)])) rfl (by rw [hml]; rfl) (Steps.refl _) (a := b3) (argsL := [(.ref b4), (.int (0 : Int32))]) (rest := [(.ref b3)]) (lenOf pd_2 rfl) rfl (by show 2 * 0 + _ ≤ _; exact Nat.le_of_eq rfl) (hb hby d_jdk_42_139_22) (fun _ _ => ⟨rfl, rfl, (by decide : 2 + 0 ≤ _), (by decide : 5 + 0 ≤ _)⟩)
  dsimp only [Pt.U, Pt.locs, Pt.cells, Pt.slots] at X5 l5 y5 z5 st5 hQ5
  subst l5 y5 z5
  obtain ⟨rfl, M5, K5_, f5_0, f5_1⟩ := hQ5
  have zz5 := K5_.1
  have O5 := O4.keep K5_ (allS (show n0 ≤ b3 by omega) all0)
  have K5 := K4.trans K5_ (allS (Or.inr (show h0.size ≤ b3 by omega)) all0)
  have N5 := Fr.app N4 M5
  refine own_go (T' := T5) (g' := (mkF m 25 #[.val (.int ch)] [(.ref b3)])) (fun t_ k_ => st5.trans k_) ?_
  have ff9 := (ff6.keep K5_)
  have ff10 := (f4_0.keep K5_ (ninS (own_ne (by omega)) nin0))
  exact own_out X5 (v := some (.ref b3)) (fun h => by rw [Bd.returns] at h; cases h) hlk (fun fs hr => own_retA X5 hx Bd.returns rfl rfl (hb hby d_jdk_42_139_25) hr) (Q := Q_rm_svo Z ch cz h0 n0) (by exact ⟨b3, rfl, N5, K5, ⟨by omega, by omega⟩, ⟨ff9, f5_1, by simpa using hch, by omega, b4, _, by omega, f5_0, ff10⟩⟩) (by decide) (by decide)
theorem d_jdk_29_65_0 : decode jdk_29_method_65_code 0 = .ok (.iload_n 0, 1) := by decide +kernel
theorem d_jdk_29_65_1 : decode jdk_29_method_65_code 1 = .ok (.iload_n 1, 1) := by decide +kernel
theorem d_jdk_29_65_2 : decode jdk_29_method_65_code 2 = .ok (.if_icmp .lt 7, 3) := by decide +kernel
theorem d_jdk_29_65_9 : decode jdk_29_method_65_code 9 = .ok (.iload_n 1, 1) := by decide +kernel
theorem d_jdk_29_65_10 : decode jdk_29_method_65_code 10 = .ok (.ireturn, 1) := by decide +kernel
theorem d_jdk_29_65_5 : decode jdk_29_method_65_code 5 = .ok (.iload_n 0, 1) := by decide +kernel
theorem d_jdk_29_65_6 : decode jdk_29_method_65_code 6 = .ok (.goto 4, 3) := by decide +kernel
theorem ef_4 (m : MethodId) (p1 : Int32) (p2 : Int32) : entryFrame m #[(.int p1), (.int p2)] 2 = mkF m 0 #[.val (.int p1), .val (.int p2)] [] := by first | (simp [entryFrame, mkF, argsToLocals, Value.category]; done) | rfl
def Q_rm_maxI (Z : State) (p1 : Int32) (p2 : Int32) (h0 : Heap) (n0 : Nat) (vv : Option Value) (h : Heap) (LL : List Loc) : Prop := vv = some (.int (if p1 < p2 then p2 else p1)) ∧ Fr n0 LL ∧ h = h0
set_option maxRecDepth 65536 in
set_option maxHeartbeats 40000000 in
theorem rm_maxI (l : Launch) (Z : State) (a0 : Array Value) (hw : ∀ d ∈ tables_1, d.before a0 Z = true) (ws : List Jvm.Cond) (p1 : Int32) (p2 : Int32) (h0 : Heap) (n0 : Nat) (Z0 : n0 ≤ h0.size) :
    MetFree l (⟨"java/lang/Math", "max", "(II)I"⟩ : MethodName) (head1 (Jvm.Cond.code (⟨"java/lang/Math", "max", "(II)I"⟩ : MethodName) jdk_29_method_65_code 2 (some .int) :: ws) ({ frames := 0, cells := 0, slots := 0, locals := 0 } : Room)) (fun aa UU => aa = #[(.int p1), (.int p2)] ∧ Z.Warmed39 UU.vm ∧ UU.heap = h0) (fun _ _ _ _ _ => True) (fun _ UU oo UU' => ∃ vv LL, oo = .returned vv ∧ Q_rm_maxI Z p1 p2 h0 n0 vv UU'.heap LL ∧ FrameEnd UU oo UU' LL ({ frames := 0, cells := 0, slots := 0, locals := 0 } : Room).cells ({ frames := 0, cells := 0, slots := 0, locals := 0 } : Room).slots) := by
  refine MetFree.of_bodySF (Jvm.Free.JP.mathPlain rfl (by decide +kernel)) hisR ?_
  intro p e s m args below meth c s₁ Bd hml0 hP hK
  obtain ⟨rfl, hZ, hh⟩ := hP
  have hx := Bd.exec
  have hby := Bd.bytes
  have hml : c.maxLocals = 2 := hml0
  have hown : s.vm.findClass "java/lang/Math" = some m.cls := findClass_of_methodNamed Bd.named
  have hnm := (name_of_methodNamed Bd.named Bd.method).1
  have hlk : meth.locks = false := BodyLoose.notSynchronized Bd
  have X0 : Stand p l e ({ frames := 0, cells := 0, slots := 0, locals := 0 } : Room) s m #[(.int p1), (.int p2)] below meth c s₁ [] 0 0 := Stand.of_body Bd
  have e0 : s₁.heap = h0 := by rw [← hh, Bd.state]; rfl
  have N0 := Fr.nil n0
  refine own_in (ef_4 m p1 p2) ?_
  refine own_go (T' := s₁) (g' := (mkF m 1 #[.val (.int p1), .val (.int p2)] [(.int p1)])) (fun t_ k_ => XS.iloadN X0.here hx rfl (hb hby d_jdk_29_65_0) rfl k_) ?_
  refine own_go (T' := s₁) (g' := (mkF m 2 #[.val (.int p1), .val (.int p2)] [(.int p2), (.int p1)])) (fun t_ k_ => XS.iloadN X0.here hx rfl (hb hby d_jdk_29_65_1) rfl k_) ?_
  by_cases c1 : p1 < p2
  · -- p1 < p2
    refine own_go (T' := s₁) (g' := (mkF m 9 #[.val (.int p1), .val (.int p2)] [])) (fun t_ k_ => XS.icmpYes X0.here hx rfl (pc0 := 2) (pc' := 9) rfl (hb hby d_jdk_29_65_2) rfl (tlt c1).1 (by decide) (by decide) k_) ?_
    refine own_go (T' := s₁) (g' := (mkF m 10 #[.val (.int p1), .val (.int p2)] [(.int p2)])) (fun t_ k_ => XS.iloadN X0.here hx rfl (hb hby d_jdk_29_65_9) rfl k_) ?_
    exact own_out X0 (v := some (.int p2)) (fun h => by rw [Bd.returns] at h; cases h) hlk (fun fs hr => retI X0 hx Bd.returns (hb hby d_jdk_29_65_10) hr) (Q := Q_rm_maxI Z p1 p2 h0 n0) (by rw [e0]; exact ⟨(congrArg (fun z => some (Value.int z)) (if_pos c1)).symm, N0, rfl⟩) (by decide) (by decide)
  · -- not p1 < p2
    refine own_go (T' := s₁) (g' := (mkF m 5 #[.val (.int p1), .val (.int p2)] [])) (fun t_ k_ => XS.icmpNo X0.here hx rfl (hb hby d_jdk_29_65_2) rfl (flt c1).1 k_) ?_
    refine own_go (T' := s₁) (g' := (mkF m 6 #[.val (.int p1), .val (.int p2)] [(.int p1)])) (fun t_ k_ => XS.iloadN X0.here hx rfl (hb hby d_jdk_29_65_5) rfl k_) ?_
    refine own_go (T' := s₁) (g' := (mkF m 10 #[.val (.int p1), .val (.int p2)] [(.int p1)])) (fun t_ k_ => XS.goto X0.here hx rfl (pc0 := 6) (pc' := 10) rfl (hb hby d_jdk_29_65_6) (by decide) (by decide) k_) ?_
    exact own_out X0 (v := some (.int p1)) (fun h => by rw [Bd.returns] at h; cases h) hlk (fun fs hr => retI X0 hx Bd.returns (hb hby d_jdk_29_65_10) hr) (Q := Q_rm_maxI Z p1 p2 h0 n0) (by rw [e0]; exact ⟨(congrArg (fun z => some (Value.int z)) (if_neg c1)).symm, N0, rfl⟩) (by decide) (by decide)
theorem d_jdk_29_66_0 : decode jdk_29_method_66_code 0 = .ok (.lload_n 0, 1) := by decide +kernel
theorem d_jdk_29_66_1 : decode jdk_29_method_66_code 1 = .ok (.lload_n 2, 1) := by decide +kernel
theorem d_jdk_29_66_2 : decode jdk_29_method_66_code 2 = .ok (.lcmp, 1) := by decide +kernel
theorem d_jdk_29_66_3 : decode jdk_29_method_66_code 3 = .ok (.ifCond .lt 7, 3) := by decide +kernel
theorem d_jdk_29_66_10 : decode jdk_29_method_66_code 10 = .ok (.lload_n 2, 1) := by decide +kernel
theorem d_jdk_29_66_11 : decode jdk_29_method_66_code 11 = .ok (.lreturn, 1) := by decide +kernel
theorem d_jdk_29_66_6 : decode jdk_29_method_66_code 6 = .ok (.lload_n 0, 1) := by decide +kernel
theorem d_jdk_29_66_7 : decode jdk_29_method_66_code 7 = .ok (.goto 4, 3) := by decide +kernel
theorem ef_5 (m : MethodId) (p1 : Int64) (p2 : Int64) : entryFrame m #[(.long p1), (.long p2)] 4 = mkF m 0 #[.val (.long p1), .second, .val (.long p2), .second] [] := by first | (simp [entryFrame, mkF, argsToLocals, Value.category]; done) | rfl
def Q_rm_maxJ (Z : State) (p1 : Int64) (p2 : Int64) (h0 : Heap) (n0 : Nat) (vv : Option Value) (h : Heap) (LL : List Loc) : Prop := vv = some (.long (if p1 < p2 then p2 else p1)) ∧ Fr n0 LL ∧ h = h0
set_option maxRecDepth 65536 in
set_option maxHeartbeats 40000000 in
theorem rm_maxJ (l : Launch) (Z : State) (a0 : Array Value) (hw : ∀ d ∈ tables_1, d.before a0 Z = true) (ws : List Jvm.Cond) (p1 : Int64) (p2 : Int64) (h0 : Heap) (n0 : Nat) (Z0 : n0 ≤ h0.size) :
    MetFree l (⟨"java/lang/Math", "max", "(JJ)J"⟩ : MethodName) (head1 (Jvm.Cond.code (⟨"java/lang/Math", "max", "(JJ)J"⟩ : MethodName) jdk_29_method_66_code 4 (some .long) :: ws) ({ frames := 0, cells := 0, slots := 0, locals := 0 } : Room)) (fun aa UU => aa = #[(.long p1), (.long p2)] ∧ Z.Warmed39 UU.vm ∧ UU.heap = h0) (fun _ _ _ _ _ => True) (fun _ UU oo UU' => ∃ vv LL, oo = .returned vv ∧ Q_rm_maxJ Z p1 p2 h0 n0 vv UU'.heap LL ∧ FrameEnd UU oo UU' LL ({ frames := 0, cells := 0, slots := 0, locals := 0 } : Room).cells ({ frames := 0, cells := 0, slots := 0, locals := 0 } : Room).slots) := by
  refine MetFree.of_bodySF (Jvm.Free.JP.mathPlain rfl (by decide +kernel)) hisR ?_
  intro p e s m args below meth c s₁ Bd hml0 hP hK
  obtain ⟨rfl, hZ, hh⟩ := hP
  have hx := Bd.exec
  have hby := Bd.bytes
  have hml : c.maxLocals = 4 := hml0
  have hown : s.vm.findClass "java/lang/Math" = some m.cls := findClass_of_methodNamed Bd.named
  have hnm := (name_of_methodNamed Bd.named Bd.method).1
  have hlk : meth.locks = false := BodyLoose.notSynchronized Bd
  have X0 : Stand p l e ({ frames := 0, cells := 0, slots := 0, locals := 0 } : Room) s m #[(.long p1), (.long p2)] below meth c s₁ [] 0 0 := Stand.of_body Bd
  have e0 : s₁.heap = h0 := by rw [← hh, Bd.state]; rfl
  have N0 := Fr.nil n0
  refine own_in (ef_5 m p1 p2) ?_
  refine own_go (T' := s₁) (g' := (mkF m 1 #[.val (.long p1), .second, .val (.long p2), .second] [(.long p1)])) (fun t_ k_ => XS.lloadN X0.here hx rfl (hb hby d_jdk_29_66_0) rfl k_) ?_
  refine own_go (T' := s₁) (g' := (mkF m 2 #[.val (.long p1), .second, .val (.long p2), .second] [(.long p2), (.long p1)])) (fun t_ k_ => XS.lloadN X0.here hx rfl (hb hby d_jdk_29_66_1) rfl k_) ?_
  refine own_go (T' := s₁) (g' := (mkF m 3 #[.val (.long p1), .second, .val (.long p2), .second] [(.int (lcmpW p1 p2))])) (fun t_ k_ => XS.lcmp X0.here hx rfl (hb hby d_jdk_29_66_2) rfl k_) ?_
  by_cases c1 : p1 < p2
  · -- p1 < p2
    refine own_go (T' := s₁) (g' := (mkF m 10 #[.val (.long p1), .second, .val (.long p2), .second] [])) (fun t_ k_ => XS.ifYes X0.here hx rfl (pc0 := 3) (pc' := 10) rfl (hb hby d_jdk_29_66_3) rfl ((if0 _ _).trans (tlt ((lw_lt _ _).mpr c1)).1) (by decide) (by decide) k_) ?_
    refine own_go (T' := s₁) (g' := (mkF m 11 #[.val (.long p1), .second, .val (.long p2), .second] [(.long p2)])) (fun t_ k_ => XS.lloadN X0.here hx rfl (hb hby d_jdk_29_66_10) rfl k_) ?_
    exact own_out X0 (v := some (.long p2)) (fun h => by rw [Bd.returns] at h; cases h) hlk (fun fs hr => own_retJ X0 hx Bd.returns (hb hby d_jdk_29_66_11) hr) (Q := Q_rm_maxJ Z p1 p2 h0 n0) (by rw [e0]; exact ⟨(congrArg (fun z => some (Value.long z)) (if_pos c1)).symm, N0, rfl⟩) (by decide) (by decide)
  · -- not p1 < p2
    refine own_go (T' := s₁) (g' := (mkF m 6 #[.val (.long p1), .second, .val (.long p2), .second] [])) (fun t_ k_ => XS.ifNo X0.here hx rfl (hb hby d_jdk_29_66_3) rfl ((if0 _ _).trans (flt (fun z => c1 ((lw_lt _ _).mp z))).1) k_) ?_
    refine own_go (T' := s₁) (g' := (mkF m 7 #[.val (.long p1), .second, .val (.long p2), .second] [(.long p1)])) (fun t_ k_ => XS.lloadN X0.here hx rfl (hb hby d_jdk_29_66_6) rfl k_) ?_
    refine own_go (T' := s₁) (g' := (mkF m 11 #[.val (.long p1), .second, .val (.long p2), .second] [(.long p1)])) (fun t_ k_ => XS.goto X0.here hx rfl (pc0 := 7) (pc' := 11) rfl (hb hby d_jdk_29_66_7) (by decide) (by decide) k_) ?_
    exact own_out X0 (v := some (.long p1)) (fun h => by rw [Bd.returns] at h; cases h) hlk (fun fs hr => own_retJ X0 hx Bd.returns (hb hby d_jdk_29_66_11) hr) (Q := Q_rm_maxJ Z p1 p2 h0 n0) (by rw [e0]; exact ⟨(congrArg (fun z => some (Value.long z)) (if_neg c1)).symm, N0, rfl⟩) (by decide) (by decide)
theorem d_jdk_31_11_0 : decode jdk_31_method_11_code 0 = .ok (.aload_n 0, 1) := by decide +kernel
theorem d_jdk_31_11_1 : decode jdk_31_method_11_code 1 = .ok (.ifnonnull 12, 3) := by decide +kernel
theorem d_jdk_31_11_13 : decode jdk_31_method_11_code 13 = .ok (.aload_n 0, 1) := by decide +kernel
theorem d_jdk_31_11_14 : decode jdk_31_method_11_code 14 = .ok (.areturn, 1) := by decide +kernel
theorem pn_2 : plainName "java/util/Objects" = true := by first | (simp [plainName, overriddenIn]; done) | decide +kernel
theorem ef_6 (m : MethodId) (a : Nat) (b : Nat) : entryFrame m #[(.ref a), (.ref b)] 2 = mkF m 0 #[.val (.ref a), .val (.ref b)] [] := by first | (simp [entryFrame, mkF, argsToLocals, Value.category]; done) | rfl
def Q_rm_req (Z : State) (a : Nat) (b : Nat) (h0 : Heap) (n0 : Nat) (vv : Option Value) (h : Heap) (LL : List Loc) : Prop := vv = some (.ref a) ∧ Fr n0 LL ∧ h = h0
set_option maxRecDepth 65536 in
set_option maxHeartbeats 40000000 in
theorem rm_req (l : Launch) (Z : State) (a0 : Array Value) (hw : ∀ d ∈ tables_1, d.before a0 Z = true) (ws : List Jvm.Cond) (a : Nat) (b : Nat) (h0 : Heap) (n0 : Nat) (Z0 : n0 ≤ h0.size) :
    MetFree l (⟨"java/util/Objects", "requireNonNull", "(Ljava/lang/Object;Ljava/lang/String;)Ljava/lang/Object;"⟩ : MethodName) (head1 (Jvm.Cond.code (⟨"java/util/Objects", "requireNonNull", "(Ljava/lang/Object;Ljava/lang/String;)Ljava/lang/Object;"⟩ : MethodName) jdk_31_method_11_code 2 (some (.object "java/lang/Object")) :: ws) ({ frames := 0, cells := 0, slots := 0, locals := 0 } : Room)) (fun aa UU => aa = #[(.ref a), (.ref b)] ∧ Z.Warmed39 UU.vm ∧ UU.heap = h0) (fun _ _ _ _ _ => True) (fun _ UU oo UU' => ∃ vv LL, oo = .returned vv ∧ Q_rm_req Z a b h0 n0 vv UU'.heap LL ∧ FrameEnd UU oo UU' LL ({ frames := 0, cells := 0, slots := 0, locals := 0 } : Room).cells ({ frames := 0, cells := 0, slots := 0, locals := 0 } : Room).slots) := by
  refine MetFree.of_bodySF (plainFor_of_name pn_2) hisR ?_
  intro p e s m args below meth c s₁ Bd hml0 hP hK
  obtain ⟨rfl, hZ, hh⟩ := hP
  have hx := Bd.exec
  have hby := Bd.bytes
  have hml : c.maxLocals = 2 := hml0
  have hown : s.vm.findClass "java/util/Objects" = some m.cls := findClass_of_methodNamed Bd.named
  have hnm := (name_of_methodNamed Bd.named Bd.method).1
  have hlk : meth.locks = false := BodyLoose.notSynchronized Bd
  have X0 : Stand p l e ({ frames := 0, cells := 0, slots := 0, locals := 0 } : Room) s m #[(.ref a), (.ref b)] below meth c s₁ [] 0 0 := Stand.of_body Bd
  have e0 : s₁.heap = h0 := by rw [← hh, Bd.state]; rfl
  have N0 := Fr.nil n0
  refine own_in (ef_6 m a b) ?_
  refine own_go (T' := s₁) (g' := (mkF m 1 #[.val (.ref a), .val (.ref b)] [(.ref a)])) (fun t_ k_ => XS.aloadN X0.here hx rfl (hb hby d_jdk_31_11_0) rfl rfl k_) ?_
  refine own_go (T' := s₁) (g' := (mkF m 13 #[.val (.ref a), .val (.ref b)] [])) (fun t_ k_ => XS.ifnonnullYes X0.here hx rfl (pc0 := 1) (pc' := 13) rfl (hb hby d_jdk_31_11_1) rfl (by decide) (by decide) k_) ?_
  refine own_go (T' := s₁) (g' := (mkF m 14 #[.val (.ref a), .val (.ref b)] [(.ref a)])) (fun t_ k_ => XS.aloadN X0.here hx rfl (hb hby d_jdk_31_11_13) rfl rfl k_) ?_
  exact own_out X0 (v := some (.ref a)) (fun h => by rw [Bd.returns] at h; cases h) hlk (fun fs hr => own_retA X0 hx Bd.returns rfl rfl (hb hby d_jdk_31_11_14) hr) (Q := Q_rm_req Z a b h0 n0) (by rw [e0]; exact ⟨rfl, N0, rfl⟩) (by decide) (by decide)
theorem d_prog_5_1_0 : decode prog_5_method_1_code 0 = .ok (.aload_n 0, 1) := by decide +kernel
theorem d_prog_5_1_1 : decode prog_5_method_1_code 1 = .ok (.invokespecial 1, 3) := by decide +kernel
theorem d_prog_5_1_4 : decode prog_5_method_1_code 4 = .ok (.iload 4, 2) := by decide +kernel
theorem d_prog_5_1_6 : decode prog_5_method_1_code 6 = .ok (.iconst 1, 1) := by decide +kernel
theorem d_prog_5_1_7 : decode prog_5_method_1_code 7 = .ok (.if_icmp .ge 18, 3) := by decide +kernel
theorem d_prog_5_1_25 : decode prog_5_method_1_code 25 = .ok (.aload_n 0, 1) := by decide +kernel
theorem d_prog_5_1_26 : decode prog_5_method_1_code 26 = .ok (.aload_n 1, 1) := by decide +kernel
theorem d_prog_5_1_27 : decode prog_5_method_1_code 27 = .ok (.ldc 16, 2) := by decide +kernel
theorem d_prog_5_1_29 : decode prog_5_method_1_code 29 = .ok (.invokestatic 18, 3) := by decide +kernel
theorem pd_3 : parseMethodDescriptor "(Ljava/lang/Object;Ljava/lang/String;)Ljava/lang/Object;" = some ⟨[(.object "java/lang/Object"), (.object "java/lang/String")], some (.object "java/lang/Object")⟩ := by decide +kernel
theorem d_prog_5_1_32 : decode prog_5_method_1_code 32 = .ok (.checkcast 24, 3) := by decide +kernel
theorem d_prog_5_1_35 : decode prog_5_method_1_code 35 = .ok (.putfield 26, 3) := by decide +kernel
theorem d_prog_5_1_38 : decode prog_5_method_1_code 38 = .ok (.aload_n 0, 1) := by decide +kernel
theorem d_prog_5_1_39 : decode prog_5_method_1_code 39 = .ok (.aload_n 2, 1) := by decide +kernel
theorem d_prog_5_1_40 : decode prog_5_method_1_code 40 = .ok (.ldc 32, 2) := by decide +kernel
theorem d_prog_5_1_42 : decode prog_5_method_1_code 42 = .ok (.invokestatic 18, 3) := by decide +kernel
theorem d_prog_5_1_45 : decode prog_5_method_1_code 45 = .ok (.checkcast 24, 3) := by decide +kernel
theorem d_prog_5_1_48 : decode prog_5_method_1_code 48 = .ok (.putfield 34, 3) := by decide +kernel
theorem d_prog_5_1_51 : decode prog_5_method_1_code 51 = .ok (.aload_n 0, 1) := by decide +kernel
theorem d_prog_5_1_52 : decode prog_5_method_1_code 52 = .ok (.aload_n 3, 1) := by decide +kernel
theorem d_prog_5_1_53 : decode prog_5_method_1_code 53 = .ok (.ldc 37, 2) := by decide +kernel
theorem d_prog_5_1_55 : decode prog_5_method_1_code 55 = .ok (.invokestatic 18, 3) := by decide +kernel
theorem d_prog_5_1_58 : decode prog_5_method_1_code 58 = .ok (.checkcast 24, 3) := by decide +kernel
theorem d_prog_5_1_61 : decode prog_5_method_1_code 61 = .ok (.putfield 39, 3) := by decide +kernel
theorem d_prog_5_1_64 : decode prog_5_method_1_code 64 = .ok (.aload_n 0, 1) := by decide +kernel
theorem d_prog_5_1_65 : decode prog_5_method_1_code 65 = .ok (.iload 4, 2) := by decide +kernel
theorem d_prog_5_1_67 : decode prog_5_method_1_code 67 = .ok (.putfield 42, 3) := by decide +kernel
theorem d_prog_5_1_70 : decode prog_5_method_1_code 70 = .ok (.return_, 1) := by decide +kernel
theorem pn_3 : plainName "com/example/crownsworn/crownsworn/model/AdventureCard" = true := by first | (simp [plainName, overriddenIn]; done) | decide +kernel
theorem ef_7 (m : MethodId) (a : Nat) (s1 : Nat) (s2 : Nat) (s3 : Nat) (ln : Int32) : entryFrame m #[(.ref a), (.ref s1), (.ref s2), (.ref s3), (.int ln)] 5 = mkF m 0 #[.val (.ref a), .val (.ref s1), .val (.ref s2), .val (.ref s3), .val (.int ln)] [] := by first | (simp [entryFrame, mkF, argsToLocals, Value.category]; done) | rfl
def Q_rm_card (Z : State) (a : Nat) (s1 : Nat) (s2 : Nat) (s3 : Nat) (ln : Int32) (h0 : Heap) (n0 : Nat) (vv : Option Value) (h : Heap) (LL : List Loc) : Prop := vv = none ∧ Fr n0 LL ∧ Keep h0 h [a] ∧ Fld Z h a "com/example/crownsworn/crownsworn/model/AdventureCard" "id" "Ljava/lang/String;" (.ref s1)
set_option maxRecDepth 65536 in
set_option maxHeartbeats 40000000 in
theorem rm_card (l : Launch) (Z : State) (a0 : Array Value) (hw : ∀ d ∈ tables_1, d.before a0 Z = true) (ws : List Jvm.Cond) (a : Nat) (s1 : Nat) (s2 : Nat) (s3 : Nat) (ln : Int32) (h0 : Heap) (n0 : Nat) (Z0 : n0 ≤ h0.size) (E_a : Exa Z h0 a "com/example/crownsworn/crownsworn/model/AdventureCard") (E_s1 : Exa Z h0 s1 "java/lang/String") (E_s2 : Exa Z h0 s2 "java/lang/String") (E_s3 : Exa Z h0 s3 "java/lang/String") (F_id_a : Fld Z h0 a "com/example/crownsworn/crownsworn/model/AdventureCard" "id" "Ljava/lang/String;" .null) (F_title_a : Fld Z h0 a "com/example/crownsworn/crownsworn/model/AdventureCard" "title" "Ljava/lang/String;" .null) (F_destination_a : Fld Z h0 a "com/example/crownsworn/crownsworn/model/AdventureCard" "destination" "Ljava/lang/String;" .null) (F_length_a : Fld Z h0 a "com/example/crownsworn/crownsworn/model/AdventureCard" "length" "I" (.int (0 : Int32))) (g_a : n0 ≤ a) (hln : ¬ (ln < (1 : Int32))) :
    MetFree l (⟨"com/example/crownsworn/crownsworn/model/AdventureCard", "<init>", "(Ljava/lang/String;Ljava/lang/String;Ljava/lang/String;I)V"⟩ : MethodName) (head1 (Jvm.Cond.code (⟨"com/example/crownsworn/crownsworn/model/AdventureCard", "<init>", "(Ljava/lang/String;Ljava/lang/String;Ljava/lang/String;I)V"⟩ : MethodName) prog_5_method_1_code 5 none :: ws) ({ frames := 1, cells := 6, slots := 180, locals := 14 } : Room)) (fun aa UU => aa = #[(.ref a), (.ref s1), (.ref s2), (.ref s3), (.int ln)] ∧ Z.Warmed39 UU.vm ∧ UU.heap = h0) (fun _ _ _ _ _ => True) (fun _ UU oo UU' => ∃ vv LL, oo = .returned vv ∧ Q_rm_card Z a s1 s2 s3 ln h0 n0 vv UU'.heap LL ∧ ReturnedEndW UU oo UU' LL ({ frames := 1, cells := 6, slots := 180, locals := 14 } : Room).cells ({ frames := 1, cells := 6, slots := 180, locals := 14 } : Room).slots) := by
  refine MetFree.of_bodySF (plainFor_of_name pn_3) hisR ?_
  intro p e s m args below meth c s₁ Bd hml0 hP hK
  obtain ⟨rfl, hZ, hh⟩ := hP
  have hx := Bd.exec
  have hby := Bd.bytes
  have hml : c.maxLocals = 5 := hml0
  have hown : s.vm.findClass "com/example/crownsworn/crownsworn/model/AdventureCard" = some m.cls := findClass_of_methodNamed Bd.named
  have hnm := (name_of_methodNamed Bd.named Bd.method).1
  have hlk : meth.locks = false := BodyLoose.notSynchronized Bd
  have X0 : Stand p l e ({ frames := 1, cells := 6, slots := 180, locals := 14 } : Room) (s.setVm s.vm) m #[(.ref a), (.ref s1), (.ref s2), (.ref s3), (.int ln)] below meth c s₁ [] 0 0 := Stand.of_body Bd
  have e0 : s₁.heap = h0 := by rw [← hh, Bd.state]; rfl
  have N0 := Fr.nil n0
  have hS : s.Since s.vm 0 := own_since s
  have hk : 0 ≤ h0.size := Nat.zero_le _
  have hwS : ∀ a ∈ Bundle.stringAtoms, a.before a0 Z = true := fun d hd => hw d ((by decide +kernel : ∀ d ∈ Bundle.stringAtoms, d ∈ tables_1) d hd)
  have lt_E_a := own_ltN E_a.lt
  have lt_E_s1 := own_ltN E_s1.lt
  have lt_E_s2 := own_ltN E_s2.lt
  have lt_E_s3 := own_ltN E_s3.lt
  have lt_F_id_a := own_ltN F_id_a.lt
  have lt_F_title_a := own_ltN F_title_a.lt
  have lt_F_destination_a := own_ltN F_destination_a.lt
  have lt_F_length_a := own_ltN F_length_a.lt
  refine own_in (ef_7 m a s1 s2 s3 ln) ?_
  refine own_go (T' := s₁) (g' := (mkF m 1 #[.val (.ref a), .val (.ref s1), .val (.ref s2), .val (.ref s3), .val (.int ln)] [(.ref a)])) (fun t_ k_ => XS.aloadN X0.here hx rfl (hb hby d_prog_5_1_0) rfl rfl k_) ?_
  obtain ⟨T1, X1, e1, st1⟩ := initO X0 hx hZ hown (hw _ (List.mem_of_getElem? (i := 44) rfl)) (hw _ (List.mem_of_getElem? (i := 32) rfl)) (hw _ (List.mem_of_getElem? (i := 33) rfl)) e0 (g := (mkF m 1 #[.val (.ref a), .val (.ref s1), .val (.ref s2), .val (.ref s3), .val (.int ln)] [(.ref a)])) rfl (by rw [hml]; rfl) rfl (hb hby d_prog_5_1_1) (by decide) (W := 0) (by show 2 * 0 + _ ≤ _; exact Nat.le_of_eq rfl) (by decide)
  refine own_go (T' := T1) (g' := (mkF m 4 #[.val (.ref a), .val (.ref s1), .val (.ref s2), .val (.ref s3), .val (.int ln)] [])) (fun t_ k_ => st1 _ k_) ?_
  refine own_go (T' := T1) (g' := (mkF m 6 #[.val (.ref a), .val (.ref s1), .val (.ref s2), .val (.ref s3), .val (.int ln)] [(.int ln)])) (fun t_ k_ => XS.iload X1.here hx rfl (hb hby d_prog_5_1_4) rfl k_) ?_
  refine own_go (T' := T1) (g' := (mkF m 7 #[.val (.ref a), .val (.ref s1), .val (.ref s2), .val (.ref s3), .val (.int ln)] [(.int (1 : Int32)), (.int ln)])) (fun t_ k_ => XS.iconst X1.here hx rfl (hb hby d_prog_5_1_6) k_) ?_
  refine own_go (T' := T1) (g' := (mkF m 25 #[.val (.ref a), .val (.ref s1), .val (.ref s2), .val (.ref s3), .val (.int ln)] [])) (fun t_ k_ => XS.icmpYes X1.here hx rfl (pc0 := 7) (pc' := 25) rfl (hb hby d_prog_5_1_7) rfl (flt hln).2.1 (by decide) (by decide) k_) ?_
  refine own_go (T' := T1) (g' := (mkF m 26 #[.val (.ref a), .val (.ref s1), .val (.ref s2), .val (.ref s3), .val (.int ln)] [(.ref a)])) (fun t_ k_ => XS.aloadN X1.here hx rfl (hb hby d_prog_5_1_25) rfl rfl k_) ?_
  refine own_go (T' := T1) (g' := (mkF m 27 #[.val (.ref a), .val (.ref s1), .val (.ref s2), .val (.ref s3), .val (.int ln)] [(.ref s1), (.ref a)])) (fun t_ k_ => XS.aloadN X1.here hx rfl (hb hby d_prog_5_1_26) rfl rfl k_) ?_
  obtain ⟨b2, T2, h2, k2, X2, e2, E2, hS, hk, hZ, hown, st2⟩ := ldcS X1 hx hZ hown (hw _ (List.mem_of_getElem? (i := 45) rfl)) hwS e1 hS (show _ ≤ h0.size by omega) (g := (mkF m 27 #[.val (.ref a), .val (.ref s1), .val (.ref s2), .val (.ref s3), .val (.int ln)] [(.ref s1), (.ref a)])) rfl (hb hby d_prog_5_1_27) (n := 40) (by decide) (by decide) (by decide) (by decide)
  have z2 := E2.1
  have K2 := (Keep.refl h0 [a]).ext E2
  refine own_go (T' := T2) (g' := (mkF m 29 #[.val (.ref a), .val (.ref s1), .val (.ref s2), .val (.ref s3), .val (.int ln)] [(.ref b2), (.ref s1), (.ref a)])) (fun t_ k_ => st2 _ k_) ?_
  obtain ⟨_, _, ⟨T3, L3, k3, n3⟩, -, X3, ⟨Lc3, hQ3, l3, y3, z3⟩, st3⟩ := Jvm.LawKit.callS X2 hx (y := (⟨"java/util/Objects", "requireNonNull", "(Ljava/lang/Object;Ljava/lang/String;)Ljava/lang/Object;"⟩ : MethodName)) hown (mvT hZ (hw _ (List.mem_of_getElem? (i := 46) rfl))) (mvT hZ (hw _ (List.mem_of_getElem? (i := 47) rfl))) (mvT hZ (hw _ (List.mem_of_getElem? (i := 48) rfl))) (mvT hZ (hw _ (List.mem_of_getElem? (i := 49) rfl))) (by decide) (backOf (W := 1) (rm_req l Z a0 hw [] s1 b2 h2 n0 (show n0 ≤ h2.size by omega)) hZ (hw _ (List.mem_of_getElem? (i := 49) rfl)) (hw _ (List.mem_of_getElem? (i := 48) rfl)) (by decide) (by decide)) (g := (mkF m 29 #[.val (.ref a), .val (.ref s1), .val (.ref s2), .val (.ref s3), .val (.int ln)] [(.ref b2), (.ref s1), (.ref a)])) rfl (by rw [hml]; rfl) (argsL := [(.ref s1), (.ref b2)]) (rest := [(.ref a)]) (lenOf pd_3 rfl) rfl (by show 2 * 0 + _ ≤ _; exact Nat.le_of_eq rfl) (hb hby d_prog_5_1_29) (fun _ _ => ⟨rfl, e2, (by decide : 2 + 0 ≤ _), (by decide : 44 + 0 ≤ _)⟩)
  dsimp only [Pt.U, Pt.locs, Pt.cells, Pt.slots] at X3 l3 y3 z3 st3 hQ3
  subst l3 y3 z3
  obtain ⟨rfl, M3, e3⟩ := hQ3
  have N3 := Fr.app N0 M3
  refine own_go (T' := T3) (g' := (mkF m 32 #[.val (.ref a), .val (.ref s1), .val (.ref s2), .val (.ref s3), .val (.int ln)] [(.ref s1), (.ref a)])) (fun t_ k_ => st3 _ k_) ?_
  have ff5 := (E_s1.ext E2)
  obtain ⟨T4, X4, e4, st4⟩ := castY X3 hx hZ hown (hw _ (List.mem_of_getElem? (i := 50) rfl)) e3 (Ins.self ff5) (g := (mkF m 32 #[.val (.ref a), .val (.ref s1), .val (.ref s2), .val (.ref s3), .val (.int ln)] [(.ref s1), (.ref a)])) rfl rfl (hb hby d_prog_5_1_32)
  refine own_go (T' := T4) (g' := (mkF m 35 #[.val (.ref a), .val (.ref s1), .val (.ref s2), .val (.ref s3), .val (.int ln)] [(.ref s1), (.ref a)])) (fun t_ k_ => st4 _ k_) ?_
  have ff7 := (F_id_a.ext E2)
  have ff8 := (E_a.ext E2)
  obtain ⟨T6, h6, X6, e6, W6, st6⟩ := putF X4 hx hZ hown (host := "") (Or.inl (hw _ (List.mem_of_getElem? (i := 51) rfl))) Via.refl e4 ff7 ff8 (Or.inr ⟨(hw _ (List.mem_of_getElem? (i := 52) rfl)), rfl, hnm⟩) (hw _ (List.mem_of_getElem? (i := 13) rfl)) (ty := (.object "java/lang/String")) (by decide) rfl rfl (g := (mkF m 35 #[.val (.ref a), .val (.ref s1), .val (.ref s2), .val (.ref s3), .val (.int ln)] [(.ref s1), (.ref a)])) rfl rfl (hb hby d_prog_5_1_35)
  have F6 := ff7.same W6
  have z6 := W6.size
  have N6 := Fr.snoc X6 N3 (show n0 ≤ a by omega)
  have K6 := K2.wr W6 (Or.inl (List.mem_of_getElem? (i := 0) rfl))
  refine own_go (T' := T6) (g' := (mkF m 38 #[.val (.ref a), .val (.ref s1), .val (.ref s2), .val (.ref s3), .val (.int ln)] [])) (fun t_ k_ => st6 _ k_) ?_
  refine own_go (T' := T6) (g' := (mkF m 39 #[.val (.ref a), .val (.ref s1), .val (.ref s2), .val (.ref s3), .val (.int ln)] [(.ref a)])) (fun t_ k_ => XS.aloadN X6.here hx rfl (hb hby d_prog_5_1_38) rfl rfl k_) ?_
  refine own_go (T' := T6) (g' := (mkF m 40 #[.val (.ref a), .val (.ref s1), .val (.ref s2), .val (.ref s3), .val (.int ln)] [(.ref s2), (.ref a)])) (fun t_ k_ => XS.aloadN X6.here hx rfl (hb hby d_prog_5_1_39) rfl rfl k_) ?_
  obtain ⟨b9, T9, h9, k9, X9, e9, E9, hS, hk, hZ, hown, st9⟩ := ldcS X6 hx hZ hown (hw _ (List.mem_of_getElem? (i := 53) rfl)) hwS e6 hS (show _ ≤ h6.size by omega) (g := (mkF m 40 #[.val (.ref a), .val (.ref s1), .val (.ref s2), .val (.ref s3), .val (.int ln)] [(.ref s2), (.ref a)])) rfl (hb hby d_prog_5_1_40) (n := 52) (by decide) (by decide) (by decide) (by decide)
  have z9 := E9.1
  have K9 := K6.ext E9
  refine own_go (T' := T9) (g' := (mkF m 42 #[.val (.ref a), .val (.ref s1), .val (.ref s2), .val (.ref s3), .val (.int ln)] [(.ref b9), (.ref s2), (.ref a)])) (fun t_ k_ => st9 _ k_) ?_
  obtain ⟨_, _, ⟨T10, L10, k10, n10⟩, -, X10, ⟨Lc10, hQ10, l10, y10, z10⟩, st10⟩ := Jvm.LawKit.callS X9 hx (y := (⟨"java/util/Objects", "requireNonNull", "(Ljava/lang/Object;Ljava/lang/String;)Ljava/lang/Object;"⟩ : MethodName)) hown (mvT hZ (hw _ (List.mem_of_getElem? (i := 46) rfl))) (mvT hZ (hw _ (List.mem_of_getElem? (i := 47) rfl))) (mvT hZ (hw _ (List.mem_of_getElem? (i := 48) rfl))) (mvT hZ (hw _ (List.mem_of_getElem? (i := 49) rfl))) (by decide) (backOf (W := 1) (rm_req l Z a0 hw [] s2 b9 h9 n0 (show n0 ≤ h9.size by omega)) hZ (hw _ (List.mem_of_getElem? (i := 49) rfl)) (hw _ (List.mem_of_getElem? (i := 48) rfl)) (by decide) (by decide)) (g := (mkF m 42 #[.val (.ref a), .val (.ref s1), .val (.ref s2), .val (.ref s3), .val (.int ln)] [(.ref b9), (.ref s2), (.ref a)])) rfl (by rw [hml]; rfl) (argsL := [(.ref s2), (.ref b9)]) (rest := [(.ref a)]) (lenOf pd_3 rfl) rfl (by show 2 * 0 + _ ≤ _; exact Nat.le_of_eq rfl) (hb hby d_prog_5_1_42) (fun _ _ => ⟨rfl, e9, (by decide : 4 + 0 ≤ _), (by decide : 100 + 0 ≤ _)⟩)
  dsimp only [Pt.U, Pt.locs, Pt.cells, Pt.slots] at X10 l10 y10 z10 st10 hQ10
  subst l10 y10 z10
  obtain ⟨rfl, M10, e10⟩ := hQ10
  have N10 := Fr.app N6 M10
  refine own_go (T' := T10) (g' := (mkF m 45 #[.val (.ref a), .val (.ref s1), .val (.ref s2), .val (.ref s3), .val (.int ln)] [(.ref s2), (.ref a)])) (fun t_ k_ => st10 _ k_) ?_
  have ff12 := (((E_s2.ext E2).wr W6).ext E9)
  obtain ⟨T11, X11, e11, st11⟩ := castY X10 hx hZ hown (hw _ (List.mem_of_getElem? (i := 50) rfl)) e10 (Ins.self ff12) (g := (mkF m 45 #[.val (.ref a), .val (.ref s1), .val (.ref s2), .val (.ref s3), .val (.int ln)] [(.ref s2), (.ref a)])) rfl rfl (hb hby d_prog_5_1_45)
  refine own_go (T' := T11) (g' := (mkF m 48 #[.val (.ref a), .val (.ref s1), .val (.ref s2), .val (.ref s3), .val (.int ln)] [(.ref s2), (.ref a)])) (fun t_ k_ => st11 _ k_) ?_
  have ff14 := (((F_title_a.ext E2).other W6 (Or.inr (slot_ne (Or.inr (hw _ (List.mem_of_getElem? (i := 55) rfl))) (Or.inr (hw _ (List.mem_of_getElem? (i := 52) rfl))) (by decide) (t := (.object "java/lang/String")) (t' := (.object "java/lang/String")) (by decide) (by decide)))).ext E9)
  have ff15 := ((ff8.wr W6).ext E9)
  obtain ⟨T13, h13, X13, e13, W13, st13⟩ := putF X11 hx hZ hown (host := "") (Or.inl (hw _ (List.mem_of_getElem? (i := 54) rfl))) Via.refl e11 ff14 ff15 (Or.inr ⟨(hw _ (List.mem_of_getElem? (i := 55) rfl)), rfl, hnm⟩) (hw _ (List.mem_of_getElem? (i := 13) rfl)) (ty := (.object "java/lang/String")) (by decide) rfl rfl (g := (mkF m 48 #[.val (.ref a), .val (.ref s1), .val (.ref s2), .val (.ref s3), .val (.int ln)] [(.ref s2), (.ref a)])) rfl rfl (hb hby d_prog_5_1_48)
  have F13 := ff14.same W13
  have z13 := W13.size
  have N13 := Fr.snoc X13 N10 (show n0 ≤ a by omega)
  have K13 := K9.wr W13 (Or.inl (List.mem_of_getElem? (i := 0) rfl))
  refine own_go (T' := T13) (g' := (mkF m 51 #[.val (.ref a), .val (.ref s1), .val (.ref s2), .val (.ref s3), .val (.int ln)] [])) (fun t_ k_ => st13 _ k_) ?_
  refine own_go (T' := T13) (g' := (mkF m 52 #[.val (.ref a), .val (.ref s1), .val (.ref s2), .val (.ref s3), .val (.int ln)] [(.ref a)])) (fun t_ k_ => XS.aloadN X13.here hx rfl (hb hby d_prog_5_1_51) rfl rfl k_) ?_
  refine own_go (T' := T13) (g' := (mkF m 53 #[.val (.ref a), .val (.ref s1), .val (.ref s2), .val (.ref s3), .val (.int ln)] [(.ref s3), (.ref a)])) (fun t_ k_ => XS.aloadN X13.here hx rfl (hb hby d_prog_5_1_52) rfl rfl k_) ?_
  obtain ⟨b16, T16, h16, k16, X16, e16, E16, hS, hk, hZ, hown, st16⟩ := ldcS X13 hx hZ hown (hw _ (List.mem_of_getElem? (i := 56) rfl)) hwS e13 hS (show _ ≤ h13.size by omega) (g := (mkF m 53 #[.val (.ref a), .val (.ref s1), .val (.ref s2), .val (.ref s3), .val (.int ln)] [(.ref s3), (.ref a)])) rfl (hb hby d_prog_5_1_53) (n := 76) (by decide) (by decide) (by decide) (by decide)
  have z16 := E16.1
  have K16 := K13.ext E16
  refine own_go (T' := T16) (g' := (mkF m 55 #[.val (.ref a), .val (.ref s1), .val (.ref s2), .val (.ref s3), .val (.int ln)] [(.ref b16), (.ref s3), (.ref a)])) (fun t_ k_ => st16 _ k_) ?_
  obtain ⟨_, _, ⟨T17, L17, k17, n17⟩, -, X17, ⟨Lc17, hQ17, l17, y17, z17⟩, st17⟩ := Jvm.LawKit.callS X16 hx (y := (⟨"java/util/Objects", "requireNonNull", "(Ljava/lang/Object;Ljava/lang/String;)Ljava/lang/Object;"⟩ : MethodName)) hown (mvT hZ (hw _ (List.mem_of_getElem? (i := 46) rfl))) (mvT hZ (hw _ (List.mem_of_getElem? (i := 47) rfl))) (mvT hZ (hw _ (List.mem_of_getElem? (i := 48) rfl))) (mvT hZ (hw _ (List.mem_of_getElem? (i := 49) rfl))) (by decide) (backOf (W := 1) (rm_req l Z a0 hw [] s3 b16 h16 n0 (show n0 ≤ h16.size by omega)) hZ (hw _ (List.mem_of_getElem? (i := 49) rfl)) (hw _ (List.mem_of_getElem? (i := 48) rfl)) (by decide) (by decide)) (g := (mkF m 55 #[.val (.ref a), .val (.ref s1), .val (.ref s2), .val (.ref s3), .val (.int ln)] [(.ref b16), (.ref s3), (.ref a)])) rfl (by rw [hml]; rfl) (argsL := [(.ref s3), (.ref b16)]) (rest := [(.ref a)]) (lenOf pd_3 rfl) rfl (by show 2 * 0 + _ ≤ _; exact Nat.le_of_eq rfl) (hb hby d_prog_5_1_55) (fun _ _ => ⟨rfl, e16, (by decide : 6 + 0 ≤ _), (by decide : 180 + 0 ≤ _)⟩)
  dsimp only [Pt.U, Pt.locs, Pt.cells, Pt.slots] at X17 l17 y17 z17 st17 hQ17
  subst l17 y17 z17
  obtain ⟨rfl, M17, e17⟩ := hQ17
  have N17 := Fr.app N13 M17
  refine own_go (T' := T17) (g' := (mkF m 58 #[.val (.ref a), .val (.ref s1), .val (.ref s2), .val (.ref s3), .val (.int ln)] [(.ref s3), (.ref a)])) (fun t_ k_ => st17 _ k_) ?_
  have ff19 := (((((E_s3.ext E2).wr W6).ext E9).wr W13).ext E16)
  obtain ⟨T18, X18, e18, st18⟩ := castY X17 hx hZ hown (hw _ (List.mem_of_getElem? (i := 50) rfl)) e17 (Ins.self ff19) (g := (mkF m 58 #[.val (.ref a), .val (.ref s1), .val (.ref s2), .val (.ref s3), .val (.int ln)] [(.ref s3), (.ref a)])) rfl rfl (hb hby d_prog_5_1_58)
  refine own_go (T' := T18) (g' := (mkF m 61 #[.val (.ref a), .val (.ref s1), .val (.ref s2), .val (.ref s3), .val (.int ln)] [(.ref s3), (.ref a)])) (fun t_ k_ => st18 _ k_) ?_
  have ff21 := (((((F_destination_a.ext E2).other W6 (Or.inr (slot_ne (Or.inr (hw _ (List.mem_of_getElem? (i := 58) rfl))) (Or.inr (hw _ (List.mem_of_getElem? (i := 52) rfl))) (by decide) (t := (.object "java/lang/String")) (t' := (.object "java/lang/String")) (by decide) (by decide)))).ext E9).other W13 (Or.inr (slot_ne (Or.inr (hw _ (List.mem_of_getElem? (i := 58) rfl))) (Or.inr (hw _ (List.mem_of_getElem? (i := 55) rfl))) (by decide) (t := (.object "java/lang/String")) (t' := (.object "java/lang/String")) (by decide) (by decide)))).ext E16)
  have ff22 := ((ff15.wr W13).ext E16)
  obtain ⟨T20, h20, X20, e20, W20, st20⟩ := putF X18 hx hZ hown (host := "") (Or.inl (hw _ (List.mem_of_getElem? (i := 57) rfl))) Via.refl e18 ff21 ff22 (Or.inr ⟨(hw _ (List.mem_of_getElem? (i := 58) rfl)), rfl, hnm⟩) (hw _ (List.mem_of_getElem? (i := 13) rfl)) (ty := (.object "java/lang/String")) (by decide) rfl rfl (g := (mkF m 61 #[.val (.ref a), .val (.ref s1), .val (.ref s2), .val (.ref s3), .val (.int ln)] [(.ref s3), (.ref a)])) rfl rfl (hb hby d_prog_5_1_61)
  have F20 := ff21.same W20
  have z20 := W20.size
  have N20 := Fr.snoc X20 N17 (show n0 ≤ a by omega)
  have K20 := K16.wr W20 (Or.inl (List.mem_of_getElem? (i := 0) rfl))
  refine own_go (T' := T20) (g' := (mkF m 64 #[.val (.ref a), .val (.ref s1), .val (.ref s2), .val (.ref s3), .val (.int ln)] [])) (fun t_ k_ => st20 _ k_) ?_
  refine own_go (T' := T20) (g' := (mkF m 65 #[.val (.ref a), .val (.ref s1), .val (.ref s2), .val (.ref s3), .val (.int ln)] [(.ref a)])) (fun t_ k_ => XS.aloadN X20.here hx rfl (hb hby d_prog_5_1_64) rfl rfl k_) ?_
  refine own_go (T' := T20) (g' := (mkF m 67 #[.val (.ref a), .val (.ref s1), .val (.ref s2), .val (.ref s3), .val (.int ln)] [(.int ln), (.ref a)])) (fun t_ k_ => XS.iload X20.here hx rfl (hb hby d_prog_5_1_65) rfl k_) ?_
  have ff24 := ((((((F_length_a.ext E2).other W6 (Or.inr (slot_ne (Or.inr (hw _ (List.mem_of_getElem? (i := 60) rfl))) (Or.inr (hw _ (List.mem_of_getElem? (i := 52) rfl))) (by decide) (t := .int) (t' := (.object "java/lang/String")) (by decide) (by decide)))).ext E9).other W13 (Or.inr (slot_ne (Or.inr (hw _ (List.mem_of_getElem? (i := 60) rfl))) (Or.inr (hw _ (List.mem_of_getElem? (i := 55) rfl))) (by decide) (t := .int) (t' := (.object "java/lang/String")) (by decide) (by decide)))).ext E16).other W20 (Or.inr (slot_ne (Or.inr (hw _ (List.mem_of_getElem? (i := 60) rfl))) (Or.inr (hw _ (List.mem_of_getElem? (i := 58) rfl))) (by decide) (t := .int) (t' := (.object "java/lang/String")) (by decide) (by decide))))
  have ff25 := (ff22.wr W20)
  obtain ⟨T23, h23, X23, e23, W23, st23⟩ := putF X20 hx hZ hown (host := "") (Or.inl (hw _ (List.mem_of_getElem? (i := 59) rfl))) Via.refl e20 ff24 ff25 (Or.inr ⟨(hw _ (List.mem_of_getElem? (i := 60) rfl)), rfl, hnm⟩) (hw _ (List.mem_of_getElem? (i := 13) rfl)) (ty := .int) (by decide) rfl rfl (g := (mkF m 67 #[.val (.ref a), .val (.ref s1), .val (.ref s2), .val (.ref s3), .val (.int ln)] [(.int ln), (.ref a)])) rfl rfl (hb hby d_prog_5_1_67)
  have F23 := ff24.same W23
  have z23 := W23.size
  have N23 := Fr.snoc X23 N20 (show n0 ≤ a by omega)
  have K23 := K20.wr W23 (Or.inl (List.mem_of_getElem? (i := 0) rfl))
  refine own_go (T' := T23) (g' := (mkF m 70 #[.val (.ref a), .val (.ref s1), .val (.ref s2), .val (.ref s3), .val (.int ln)] [])) (fun t_ k_ => st23 _ k_) ?_
  have ff26 := (((((F6.ext E9).other W13 (Or.inr (slot_ne (Or.inr (hw _ (List.mem_of_getElem? (i := 52) rfl))) (Or.inr (hw _ (List.mem_of_getElem? (i := 55) rfl))) (by decide) (t := (.object "java/lang/String")) (t' := (.object "java/lang/String")) (by decide) (by decide)))).ext E16).other W20 (Or.inr (slot_ne (Or.inr (hw _ (List.mem_of_getElem? (i := 52) rfl))) (Or.inr (hw _ (List.mem_of_getElem? (i := 58) rfl))) (by decide) (t := (.object "java/lang/String")) (t' := (.object "java/lang/String")) (by decide) (by decide)))).other W23 (Or.inr (slot_ne (Or.inr (hw _ (List.mem_of_getElem? (i := 52) rfl))) (Or.inr (hw _ (List.mem_of_getElem? (i := 60) rfl))) (by decide) (t := (.object "java/lang/String")) (t' := .int) (by decide) (by decide))))
  exact own_outW X23 hS (show _ ≤ T23.heap.size by rw [e23]; omega) (v := none) (fun _ => rfl) hlk (fun fs hr => X23.returnOut hx Bd.returns (hb hby d_prog_5_1_70) hr) (Q := Q_rm_card Z a s1 s2 s3 ln h0 n0) (by rw [e23]; exact ⟨rfl, N23, K23, ff26⟩) (by decide) (by decide)
theorem d_prog_5_6_0 : decode prog_5_method_6_code 0 = .ok (.aload_n 1, 1) := by decide +kernel
theorem d_prog_5_6_1 : decode prog_5_method_6_code 1 = .ok (.instanceof 27, 3) := by decide +kernel
theorem d_prog_5_6_4 : decode prog_5_method_6_code 4 = .ok (.ifCond .eq 26, 3) := by decide +kernel
theorem d_prog_5_6_7 : decode prog_5_method_6_code 7 = .ok (.aload_n 1, 1) := by decide +kernel
theorem d_prog_5_6_8 : decode prog_5_method_6_code 8 = .ok (.checkcast 27, 3) := by decide +kernel
theorem d_prog_5_6_11 : decode prog_5_method_6_code 11 = .ok (.astore_n 2, 1) := by decide +kernel
theorem d_prog_5_6_12 : decode prog_5_method_6_code 12 = .ok (.aload_n 0, 1) := by decide +kernel
theorem d_prog_5_6_13 : decode prog_5_method_6_code 13 = .ok (.getfield 26, 3) := by decide +kernel
theorem d_prog_5_6_16 : decode prog_5_method_6_code 16 = .ok (.aload_n 2, 1) := by decide +kernel
theorem d_prog_5_6_17 : decode prog_5_method_6_code 17 = .ok (.getfield 26, 3) := by decide +kernel
theorem d_prog_5_6_20 : decode prog_5_method_6_code 20 = .ok (.invokevirtual 46, 3) := by decide +kernel
theorem pd_4 : parseMethodDescriptor "(Ljava/lang/Object;)Z" = some ⟨[(.object "java/lang/Object")], some .boolean⟩ := by decide +kernel
theorem d_prog_5_6_23 : decode prog_5_method_6_code 23 = .ok (.ifCond .eq 7, 3) := by decide +kernel
theorem d_prog_5_6_26 : decode prog_5_method_6_code 26 = .ok (.iconst 1, 1) := by decide +kernel
theorem d_prog_5_6_27 : decode prog_5_method_6_code 27 = .ok (.goto 4, 3) := by decide +kernel
theorem d_prog_5_6_31 : decode prog_5_method_6_code 31 = .ok (.ireturn, 1) := by decide +kernel
theorem d_prog_5_6_30 : decode prog_5_method_6_code 30 = .ok (.iconst 0, 1) := by decide +kernel
theorem ef_8 (m : MethodId) (a : Nat) (b : Nat) : entryFrame m #[(.ref a), (.ref b)] 3 = mkF m 0 #[.val (.ref a), .val (.ref b), .unset] [] := by first | (simp [entryFrame, mkF, argsToLocals, Value.category]; done) | rfl
def Q_rm_eq (Z : State) (a : Nat) (b : Nat) (u : Nat) (w : Nat) (n_u : Nat) (csa : List Int32) (n_w : Nat) (csb : List Int32) (cz : Int32) (h0 : Heap) (n0 : Nat) (vv : Option Value) (h : Heap) (LL : List Loc) : Prop := vv = some (.int (if csa = csb then (1 : Int32) else (0 : Int32))) ∧ Fr n0 LL ∧ h = h0
set_option maxRecDepth 65536 in
set_option maxHeartbeats 40000000 in
theorem rm_eq (l : Launch) (Z : State) (a0 : Array Value) (hw : ∀ d ∈ tables_1, d.before a0 Z = true) (ws : List Jvm.Cond) (a : Nat) (b : Nat) (u : Nat) (w : Nat) (n_u : Nat) (csa : List Int32) (n_w : Nat) (csb : List Int32) (cz : Int32) (h0 : Heap) (n0 : Nat) (Z0 : n0 ≤ h0.size) (E_b : Exa Z h0 b "com/example/crownsworn/crownsworn/model/AdventureCard") (F_id_a : Fld Z h0 a "com/example/crownsworn/crownsworn/model/AdventureCard" "id" "Ljava/lang/String;" (.ref u)) (F_id_b : Fld Z h0 b "com/example/crownsworn/crownsworn/model/AdventureCard" "id" "Ljava/lang/String;" (.ref w)) (S_u : own_Str Z h0 n_u u csa) (hl_u : csa.length ≤ 4000) (S_w : own_Str Z h0 n_w w csb) (hl_w : csb.length ≤ 4000) (O0 : Old Z n0 h0) (S_COMPACT_STRINGS : Sta Z Z.heap "java/lang/String" "COMPACT_STRINGS" "Z" (.int cz)) (hcz : ¬ cz = (0 : Int32)) :
    MetFree l (⟨"com/example/crownsworn/crownsworn/model/AdventureCard", "equals", "(Ljava/lang/Object;)Z"⟩ : MethodName) (head1 (Jvm.Cond.code (⟨"com/example/crownsworn/crownsworn/model/AdventureCard", "equals", "(Ljava/lang/Object;)Z"⟩ : MethodName) prog_5_method_6_code 3 (some .boolean) :: ws) ({ frames := 2, cells := 0, slots := 0, locals := 28 } : Room)) (fun aa UU => aa = #[(.ref a), (.ref b)] ∧ Z.Warmed39 UU.vm ∧ UU.heap = h0) (fun _ _ _ _ _ => True) (fun _ UU oo UU' => ∃ vv LL, oo = .returned vv ∧ Q_rm_eq Z a b u w n_u csa n_w csb cz h0 n0 vv UU'.heap LL ∧ FrameEnd UU oo UU' LL ({ frames := 2, cells := 0, slots := 0, locals := 28 } : Room).cells ({ frames := 2, cells := 0, slots := 0, locals := 28 } : Room).slots) := by
  refine MetFree.of_bodySF (plainFor_of_name pn_3) hisR ?_
  intro p e s m args below meth c s₁ Bd hml0 hP hK
  obtain ⟨rfl, hZ, hh⟩ := hP
  have hx := Bd.exec
  have hby := Bd.bytes
  have hml : c.maxLocals = 3 := hml0
  have hown : s.vm.findClass "com/example/crownsworn/crownsworn/model/AdventureCard" = some m.cls := findClass_of_methodNamed Bd.named
  have hnm := (name_of_methodNamed Bd.named Bd.method).1
  have hlk : meth.locks = false := BodyLoose.notSynchronized Bd
  have X0 : Stand p l e ({ frames := 2, cells := 0, slots := 0, locals := 28 } : Room) s m #[(.ref a), (.ref b)] below meth c s₁ [] 0 0 := Stand.of_body Bd
  have e0 : s₁.heap = h0 := by rw [← hh, Bd.state]; rfl
  have N0 := Fr.nil n0
  have lt_E_b := own_ltN E_b.lt
  have lt_F_id_a := own_ltN F_id_a.lt
  have lt_F_id_b := own_ltN F_id_b.lt
  have lt_S_u := own_ltN S_u.lt
  have lt_S_w := own_ltN S_w.lt
  have heqW : ∀ d ∈ StrChars.Road.wordsEq, d.before a0 Z = true := fun d hd => hw d ((by decide +kernel : ∀ d ∈ StrChars.Road.wordsEq, d ∈ tables_1) d hd)
  refine own_in (ef_8 m a b) ?_
  refine own_go (T' := s₁) (g' := (mkF m 1 #[.val (.ref a), .val (.ref b), .unset] [(.ref b)])) (fun t_ k_ => XS.aloadN X0.here hx rfl (hb hby d_prog_5_6_0) rfl rfl k_) ?_
  obtain ⟨T1, X1, e1, st1⟩ := instY X0 hx hZ hown (hw _ (List.mem_of_getElem? (i := 70) rfl)) e0 (Ins.self E_b) (g := (mkF m 1 #[.val (.ref a), .val (.ref b), .unset] [(.ref b)])) rfl rfl (hb hby d_prog_5_6_1)
  refine own_go (T' := T1) (g' := (mkF m 4 #[.val (.ref a), .val (.ref b), .unset] [(.int (1 : Int32))])) (fun t_ k_ => st1 _ k_) ?_
  refine own_go (T' := T1) (g' := (mkF m 7 #[.val (.ref a), .val (.ref b), .unset] [])) (fun t_ k_ => XS.ifNo X1.here hx rfl (hb hby d_prog_5_6_4) rfl ((if0 _ _).trans (feq (by decide)).1) k_) ?_
  refine own_go (T' := T1) (g' := (mkF m 8 #[.val (.ref a), .val (.ref b), .unset] [(.ref b)])) (fun t_ k_ => XS.aloadN X1.here hx rfl (hb hby d_prog_5_6_7) rfl rfl k_) ?_
  obtain ⟨T2, X2, e2, st2⟩ := castY X1 hx hZ hown (hw _ (List.mem_of_getElem? (i := 70) rfl)) e1 (Ins.self E_b) (g := (mkF m 8 #[.val (.ref a), .val (.ref b), .unset] [(.ref b)])) rfl rfl (hb hby d_prog_5_6_8)
  refine own_go (T' := T2) (g' := (mkF m 11 #[.val (.ref a), .val (.ref b), .unset] [(.ref b)])) (fun t_ k_ => st2 _ k_) ?_
  refine own_go (T' := T2) (g' := (mkF m 12 #[.val (.ref a), .val (.ref b), .val (.ref b)] [])) (fun t_ k_ => XS.astoreN X2.here hx rfl (hb hby d_prog_5_6_11) rfl rfl (l' := #[.val (.ref a), .val (.ref b), .val (.ref b)]) rfl k_) ?_
  refine own_go (T' := T2) (g' := (mkF m 13 #[.val (.ref a), .val (.ref b), .val (.ref b)] [(.ref a)])) (fun t_ k_ => XS.aloadN X2.here hx rfl (hb hby d_prog_5_6_12) rfl rfl k_) ?_
  obtain ⟨T3, X3, e3, st3⟩ := getF X2 hx hZ hown (host := "") (Or.inl (hw _ (List.mem_of_getElem? (i := 51) rfl))) Via.refl e2 F_id_a (g := (mkF m 13 #[.val (.ref a), .val (.ref b), .val (.ref b)] [(.ref a)])) rfl rfl (hb hby d_prog_5_6_13)
  refine own_go (T' := T3) (g' := (mkF m 16 #[.val (.ref a), .val (.ref b), .val (.ref b)] [(.ref u)])) (fun t_ k_ => st3 _ k_) ?_
  refine own_go (T' := T3) (g' := (mkF m 17 #[.val (.ref a), .val (.ref b), .val (.ref b)] [(.ref b), (.ref u)])) (fun t_ k_ => XS.aloadN X3.here hx rfl (hb hby d_prog_5_6_16) rfl rfl k_) ?_
  obtain ⟨T4, X4, e4, st4⟩ := getF X3 hx hZ hown (host := "") (Or.inl (hw _ (List.mem_of_getElem? (i := 51) rfl))) Via.refl e3 F_id_b (g := (mkF m 17 #[.val (.ref a), .val (.ref b), .val (.ref b)] [(.ref b), (.ref u)])) rfl rfl (hb hby d_prog_5_6_17)
  refine own_go (T' := T4) (g' := (mkF m 20 #[.val (.ref a), .val (.ref b), .val (.ref b)] [(.ref w), (.ref u)])) (fun t_ k_ => st4 _ k_) ?_
  obtain ⟨sE6a, sC6a, sP6a, sa6a, st6a_, sk6a, sh6a, sV6a, sA6a⟩ := id S_u
  obtain ⟨sE6b, sC6b, sP6b, sa6b, st6b_, sk6b, sh6b, sV6b, sA6b⟩ := id S_w
  obtain ⟨cq5, kq5, q5a, q5b, q5c⟩ := isOf hZ e4 S_u.1
  obtain ⟨_, _, ⟨T5, L5, k5, n5⟩, -, X5, ⟨Lc5, hQ5, l5, y5, z5⟩, st5⟩ := X4.virtualBack hx (y := (⟨"java/lang/String", "equals", "(Ljava/lang/Object;)Z"⟩ : MethodName)) (z := (⟨"java/lang/String", "equals", "(Ljava/lang/Object;)Z"⟩ : MethodName)) hown (mvT hZ (hw _ (List.mem_of_getElem? (i := 72) rfl))) (mvT hZ (hw _ (List.mem_of_getElem? (i := 73) rfl))) (notFace_of_selects (args := #[]) (mvT hZ (hw _ (List.mem_of_getElem? (i := 75) rfl)))) (mvT hZ (hw _ (List.mem_of_getElem? (i := 75) rfl))) (mvT hZ (hw _ (List.mem_of_getElem? (i := 74) rfl))) (by decide) (StrChars.Road.eqW (W := 0) hZ heqW (kI := 4) (hw _ (List.mem_of_getElem? (i := 6) rfl)) sE6a sV6a sC6a sA6a (StrChars.Road.codOf rfl (fun c hc => (sP6a c hc).2)) (own_up sP6a) hl_u sE6b sV6b sC6b sA6b (StrChars.Road.codOf rfl (fun c hc => (sP6b c hc).2)) (own_up sP6b) hl_w (S_COMPACT_STRINGS.ext O0.2) hcz (by decide) (by decide)) q5a q5c (g := (mkF m 20 #[.val (.ref a), .val (.ref b), .val (.ref b)] [(.ref w), (.ref u)])) rfl (by rw [hml]; rfl) (Steps.refl _) (argsL := [(.ref w)]) (rest := []) (lenOf pd_4 rfl) rfl (by show 2 * 0 + _ ≤ _; exact Nat.le_of_eq rfl) (hb hby d_prog_5_6_20) (fun _ _ => ⟨rfl, e4, (by decide : 0 + 0 ≤ _), (by decide : 0 + 0 ≤ _)⟩)
  dsimp only [Pt.U, Pt.locs, Pt.cells, Pt.slots] at X5 l5 y5 z5 st5 hQ5
  subst l5 y5 z5
  obtain ⟨hd5, lL5, e5⟩ := hQ5
  subst lL5
  have hv5 := own_eqr hd5
  subst hv5
  have N5 := Fr.app N0 (Fr.nil n0)
  refine own_go (T' := T5) (g' := (mkF m 23 #[.val (.ref a), .val (.ref b), .val (.ref b)] [(.int (if csa = csb then (1 : Int32) else (0 : Int32)))])) (fun t_ k_ => st5.trans k_) ?_
  by_cases c7 : csa = csb
  · -- csa = csb
    refine own_go (T' := T5) (g' := (mkF m 26 #[.val (.ref a), .val (.ref b), .val (.ref b)] [])) (fun t_ k_ => XS.ifNo X5.here hx rfl (hb hby d_prog_5_6_23) rfl ((if0 _ _).trans (feq (own_t1 c7)).1) k_) ?_
    refine own_go (T' := T5) (g' := (mkF m 27 #[.val (.ref a), .val (.ref b), .val (.ref b)] [(.int (1 : Int32))])) (fun t_ k_ => XS.iconst X5.here hx rfl (hb hby d_prog_5_6_26) k_) ?_
    refine own_go (T' := T5) (g' := (mkF m 31 #[.val (.ref a), .val (.ref b), .val (.ref b)] [(.int (1 : Int32))])) (fun t_ k_ => XS.goto X5.here hx rfl (pc0 := 27) (pc' := 31) rfl (hb hby d_prog_5_6_27) (by decide) (by decide) k_) ?_
    exact own_out X5 (v := some (.int (nar .boolean (1 : Int32)))) (fun h => by rw [Bd.returns] at h; cases h) hlk (fun fs hr => retN X5 hx (t := .boolean) Bd.returns (by simp) (hb hby d_prog_5_6_31) hr) (Q := Q_rm_eq Z a b u w n_u csa n_w csb cz h0 n0) (by rw [e5]; exact ⟨(congrArg (fun z => some (Value.int z)) (if_pos c7)).symm, N5, rfl⟩) (by decide) (by decide)
  · -- not csa = csb
    refine own_go (T' := T5) (g' := (mkF m 30 #[.val (.ref a), .val (.ref b), .val (.ref b)] [])) (fun t_ k_ => XS.ifYes X5.here hx rfl (pc0 := 23) (pc' := 30) rfl (hb hby d_prog_5_6_23) rfl ((if0 _ _).trans (teq (own_f1 c7)).1) (by decide) (by decide) k_) ?_
    refine own_go (T' := T5) (g' := (mkF m 31 #[.val (.ref a), .val (.ref b), .val (.ref b)] [(.int (0 : Int32))])) (fun t_ k_ => XS.iconst X5.here hx rfl (hb hby d_prog_5_6_30) k_) ?_
    exact own_out X5 (v := some (.int (nar .boolean (0 : Int32)))) (fun h => by rw [Bd.returns] at h; cases h) hlk (fun fs hr => retN X5 hx (t := .boolean) Bd.returns (by simp) (hb hby d_prog_5_6_31) hr) (Q := Q_rm_eq Z a b u w n_u csa n_w csb cz h0 n0) (by rw [e5]; exact ⟨(congrArg (fun z => some (Value.int z)) (if_neg c7)).symm, N5, rfl⟩) (by decide) (by decide)
theorem ef_9 (m : MethodId) (a : Nat) : entryFrame m #[(.ref a), .null] 3 = mkF m 0 #[.val (.ref a), .val .null, .unset] [] := by first | (simp [entryFrame, mkF, argsToLocals, Value.category]; done) | rfl
def Q_rm_eqn (Z : State) (a : Nat) (h0 : Heap) (n0 : Nat) (vv : Option Value) (h : Heap) (LL : List Loc) : Prop := vv = some (.int (0 : Int32)) ∧ Fr n0 LL ∧ h = h0
set_option maxRecDepth 65536 in
set_option maxHeartbeats 40000000 in
theorem rm_eqn (l : Launch) (Z : State) (a0 : Array Value) (hw : ∀ d ∈ tables_1, d.before a0 Z = true) (ws : List Jvm.Cond) (a : Nat) (h0 : Heap) (n0 : Nat) (Z0 : n0 ≤ h0.size) :
    MetFree l (⟨"com/example/crownsworn/crownsworn/model/AdventureCard", "equals", "(Ljava/lang/Object;)Z"⟩ : MethodName) (head1 (Jvm.Cond.code (⟨"com/example/crownsworn/crownsworn/model/AdventureCard", "equals", "(Ljava/lang/Object;)Z"⟩ : MethodName) prog_5_method_6_code 3 (some .boolean) :: ws) ({ frames := 0, cells := 0, slots := 0, locals := 0 } : Room)) (fun aa UU => aa = #[(.ref a), .null] ∧ Z.Warmed39 UU.vm ∧ UU.heap = h0) (fun _ _ _ _ _ => True) (fun _ UU oo UU' => ∃ vv LL, oo = .returned vv ∧ Q_rm_eqn Z a h0 n0 vv UU'.heap LL ∧ FrameEnd UU oo UU' LL ({ frames := 0, cells := 0, slots := 0, locals := 0 } : Room).cells ({ frames := 0, cells := 0, slots := 0, locals := 0 } : Room).slots) := by
  refine MetFree.of_bodySF (plainFor_of_name pn_3) hisR ?_
  intro p e s m args below meth c s₁ Bd hml0 hP hK
  obtain ⟨rfl, hZ, hh⟩ := hP
  have hx := Bd.exec
  have hby := Bd.bytes
  have hml : c.maxLocals = 3 := hml0
  have hown : s.vm.findClass "com/example/crownsworn/crownsworn/model/AdventureCard" = some m.cls := findClass_of_methodNamed Bd.named
  have hnm := (name_of_methodNamed Bd.named Bd.method).1
  have hlk : meth.locks = false := BodyLoose.notSynchronized Bd
  have X0 : Stand p l e ({ frames := 0, cells := 0, slots := 0, locals := 0 } : Room) s m #[(.ref a), .null] below meth c s₁ [] 0 0 := Stand.of_body Bd
  have e0 : s₁.heap = h0 := by rw [← hh, Bd.state]; rfl
  have N0 := Fr.nil n0
  refine own_in (ef_9 m a) ?_
  refine own_go (T' := s₁) (g' := (mkF m 1 #[.val (.ref a), .val .null, .unset] [.null])) (fun t_ k_ => XS.aloadN X0.here hx rfl (hb hby d_prog_5_6_0) rfl rfl k_) ?_
  refine own_go (T' := s₁) (g' := (mkF m 4 #[.val (.ref a), .val .null, .unset] [(.int (0 : Int32))])) (fun t_ k_ => X0.instanceofNull hx (g := (mkF m 1 #[.val (.ref a), .val .null, .unset] [.null])) rfl rfl (hb hby d_prog_5_6_1) _ k_) ?_
  refine own_go (T' := s₁) (g' := (mkF m 30 #[.val (.ref a), .val .null, .unset] [])) (fun t_ k_ => XS.ifYes X0.here hx rfl (pc0 := 4) (pc' := 30) rfl (hb hby d_prog_5_6_4) rfl ((if0 _ _).trans (teq (by decide)).1) (by decide) (by decide) k_) ?_
  refine own_go (T' := s₁) (g' := (mkF m 31 #[.val (.ref a), .val .null, .unset] [(.int (0 : Int32))])) (fun t_ k_ => XS.iconst X0.here hx rfl (hb hby d_prog_5_6_30) k_) ?_
  exact own_out X0 (v := some (.int (nar .boolean (0 : Int32)))) (fun h => by rw [Bd.returns] at h; cases h) hlk (fun fs hr => retN X0 hx (t := .boolean) Bd.returns (by simp) (hb hby d_prog_5_6_31) hr) (Q := Q_rm_eqn Z a h0 n0) (by rw [e0]; exact ⟨rfl, N0, rfl⟩) (by decide) (by decide)
def own_NoF (Z : State) : Prop := ∃ c t, Z.vm.findClass "java/lang/String" = some c ∧ Z.vm.findClass "com/example/crownsworn/crownsworn/model/AdventureCard" = some t ∧ Z.vm.assignable c t = false
def Q_rm_eqs (Z : State) (a : Nat) (b : Nat) (h0 : Heap) (n0 : Nat) (vv : Option Value) (h : Heap) (LL : List Loc) : Prop := vv = some (.int (0 : Int32)) ∧ Fr n0 LL ∧ h = h0
set_option maxRecDepth 65536 in
set_option maxHeartbeats 40000000 in
theorem rm_eqs (l : Launch) (Z : State) (a0 : Array Value) (hw : ∀ d ∈ tables_1, d.before a0 Z = true) (ws : List Jvm.Cond) (a : Nat) (b : Nat) (h0 : Heap) (n0 : Nat) (Z0 : n0 ≤ h0.size) (E_b : Exa Z h0 b "java/lang/String") (NF : own_NoF Z) :
    MetFree l (⟨"com/example/crownsworn/crownsworn/model/AdventureCard", "equals", "(Ljava/lang/Object;)Z"⟩ : MethodName) (head1 (Jvm.Cond.code (⟨"com/example/crownsworn/crownsworn/model/AdventureCard", "equals", "(Ljava/lang/Object;)Z"⟩ : MethodName) prog_5_method_6_code 3 (some .boolean) :: ws) ({ frames := 0, cells := 0, slots := 0, locals := 0 } : Room)) (fun aa UU => aa = #[(.ref a), (.ref b)] ∧ Z.Warmed39 UU.vm ∧ UU.heap = h0) (fun _ _ _ _ _ => True) (fun _ UU oo UU' => ∃ vv LL, oo = .returned vv ∧ Q_rm_eqs Z a b h0 n0 vv UU'.heap LL ∧ FrameEnd UU oo UU' LL ({ frames := 0, cells := 0, slots := 0, locals := 0 } : Room).cells ({ frames := 0, cells := 0, slots := 0, locals := 0 } : Room).slots) := by
  refine MetFree.of_bodySF (plainFor_of_name pn_3) hisR ?_
  intro p e s m args below meth c s₁ Bd hml0 hP hK
  obtain ⟨rfl, hZ, hh⟩ := hP
  have hx := Bd.exec
  have hby := Bd.bytes
  have hml : c.maxLocals = 3 := hml0
  have hown : s.vm.findClass "com/example/crownsworn/crownsworn/model/AdventureCard" = some m.cls := findClass_of_methodNamed Bd.named
  have hnm := (name_of_methodNamed Bd.named Bd.method).1
  have hlk : meth.locks = false := BodyLoose.notSynchronized Bd
  have X0 : Stand p l e ({ frames := 0, cells := 0, slots := 0, locals := 0 } : Room) s m #[(.ref a), (.ref b)] below meth c s₁ [] 0 0 := Stand.of_body Bd
  have e0 : s₁.heap = h0 := by rw [← hh, Bd.state]; rfl
  have N0 := Fr.nil n0
  have lt_E_b := own_ltN E_b.lt
  refine own_in (ef_8 m a b) ?_
  refine own_go (T' := s₁) (g' := (mkF m 1 #[.val (.ref a), .val (.ref b), .unset] [(.ref b)])) (fun t_ k_ => XS.aloadN X0.here hx rfl (hb hby d_prog_5_6_0) rfl rfl k_) ?_
  obtain ⟨T1, X1, e1, st1⟩ := instNo X0 hx hZ hown (hw _ (List.mem_of_getElem? (i := 70) rfl)) e0 E_b NF (g := (mkF m 1 #[.val (.ref a), .val (.ref b), .unset] [(.ref b)])) rfl rfl (hb hby d_prog_5_6_1)
  refine own_go (T' := T1) (g' := (mkF m 4 #[.val (.ref a), .val (.ref b), .unset] [(.int (0 : Int32))])) (fun t_ k_ => st1 _ k_) ?_
  refine own_go (T' := T1) (g' := (mkF m 30 #[.val (.ref a), .val (.ref b), .unset] [])) (fun t_ k_ => XS.ifYes X1.here hx rfl (pc0 := 4) (pc' := 30) rfl (hb hby d_prog_5_6_4) rfl ((if0 _ _).trans (teq (by decide)).1) (by decide) (by decide) k_) ?_
  refine own_go (T' := T1) (g' := (mkF m 31 #[.val (.ref a), .val (.ref b), .unset] [(.int (0 : Int32))])) (fun t_ k_ => XS.iconst X1.here hx rfl (hb hby d_prog_5_6_30) k_) ?_
  exact own_out X1 (v := some (.int (nar .boolean (0 : Int32)))) (fun h => by rw [Bd.returns] at h; cases h) hlk (fun fs hr => retN X1 hx (t := .boolean) Bd.returns (by simp) (hb hby d_prog_5_6_31) hr) (Q := Q_rm_eqs Z a b h0 n0) (by rw [e1]; exact ⟨rfl, N0, rfl⟩) (by decide) (by decide)
theorem d_method_2_0 : decode method_2_code 0 = .ok (.iload_n 0, 1) := by decide +kernel
theorem d_method_2_1 : decode method_2_code 1 = .ok (.ifCond .ne 6, 3) := by decide +kernel
theorem d_method_2_4 : decode method_2_code 4 = .ok (.ldc 7, 2) := by decide +kernel
theorem d_method_2_6 : decode method_2_code 6 = .ok (.areturn, 1) := by decide +kernel
theorem d_method_2_7 : decode method_2_code 7 = .ok (.iload_n 0, 1) := by decide +kernel
theorem d_method_2_8 : decode method_2_code 8 = .ok (.iconst 1, 1) := by decide +kernel
theorem d_method_2_9 : decode method_2_code 9 = .ok (.if_icmp .ne 8, 3) := by decide +kernel
theorem d_method_2_12 : decode method_2_code 12 = .ok (.iload_n 1, 1) := by decide +kernel
theorem d_method_2_13 : decode method_2_code 13 = .ok (.invokestatic 9, 3) := by decide +kernel
theorem pd_5 : parseMethodDescriptor "(C)Ljava/lang/String;" = some ⟨[.char], some (.object "java/lang/String")⟩ := by decide +kernel
theorem d_method_2_16 : decode method_2_code 16 = .ok (.areturn, 1) := by decide +kernel
theorem d_method_2_17 : decode method_2_code 17 = .ok (.new 10, 3) := by decide +kernel
theorem d_method_2_20 : decode method_2_code 20 = .ok (.dup, 1) := by decide +kernel
theorem d_method_2_21 : decode method_2_code 21 = .ok (.iconst 2, 1) := by decide +kernel
theorem d_method_2_22 : decode method_2_code 22 = .ok (.newarray .char, 2) := by decide +kernel
theorem d_method_2_24 : decode method_2_code 24 = .ok (.dup, 1) := by decide +kernel
theorem d_method_2_25 : decode method_2_code 25 = .ok (.iconst 0, 1) := by decide +kernel
theorem d_method_2_26 : decode method_2_code 26 = .ok (.iload_n 1, 1) := by decide +kernel
theorem d_method_2_27 : decode method_2_code 27 = .ok (.castore, 1) := by decide +kernel
theorem d_method_2_28 : decode method_2_code 28 = .ok (.dup, 1) := by decide +kernel
theorem d_method_2_29 : decode method_2_code 29 = .ok (.iconst 1, 1) := by decide +kernel
theorem d_method_2_30 : decode method_2_code 30 = .ok (.iload_n 2, 1) := by decide +kernel
theorem d_method_2_31 : decode method_2_code 31 = .ok (.castore, 1) := by decide +kernel
theorem d_method_2_32 : decode method_2_code 32 = .ok (.invokespecial 15, 3) := by decide +kernel
theorem pd_6 : parseMethodDescriptor "([C)V" = some ⟨[(.array .char)], none⟩ := by decide +kernel
theorem d_method_2_35 : decode method_2_code 35 = .ok (.areturn, 1) := by decide +kernel
theorem pn_4 : plainName "com/example/crownsworn/crownsworn/model/AdventureCardEqualsPinLaw" = true := by first | (simp [plainName, overriddenIn]; done) | decide +kernel
theorem ef_10 (m : MethodId) (n : Int32) (cx : Int32) (cy : Int32) : entryFrame m #[(.int n), (.int cx), (.int cy)] 3 = mkF m 0 #[.val (.int n), .val (.int cx), .val (.int cy)] [] := by first | (simp [entryFrame, mkF, argsToLocals, Value.category]; done) | rfl
def Q_rm_mk (Z : State) (n : Int32) (cx : Int32) (cy : Int32) (N : Nat) (cz : Int32) (h0 : Heap) (n0 : Nat) (vv : Option Value) (h : Heap) (vm : Vm) (LL : List Loc) : Prop := ∃ b : Nat, vv = some (.ref b) ∧ Fr n0 LL ∧ Keep h0 h [] ∧ own_Str Z h h.size b (own_cs n cx cy) ∧ own_LitSt Z h.size "com/example/crownsworn/crownsworn/model/AdventureCardEqualsPinLaw" 7 [] vm h
set_option maxRecDepth 65536 in
set_option maxHeartbeats 40000000 in
theorem rm_mk (l : Launch) (Z : State) (a0 : Array Value) (hw : ∀ d ∈ tables_1, d.before a0 Z = true) (ws : List Jvm.Cond) (n : Int32) (cx : Int32) (cy : Int32) (N : Nat) (cz : Int32) (h0 : Heap) (n0 : Nat) (Z0 : n0 ≤ h0.size) (O0 : Old Z n0 h0) (S_COMPACT_STRINGS : Sta Z Z.heap "java/lang/String" "COMPACT_STRINGS" "Z" (.int cz)) (hcz : ¬ cz = (0 : Int32)) (hx1 : ¬ (cx < (0 : Int32)) ∧ ¬ ((255 : Int32) < cx)) (hy1 : ¬ (cy < (0 : Int32)) ∧ ¬ ((255 : Int32) < cy)) (hN : N ≤ h0.size) (hheld : Jvm.Lit.constHeld Z "com/example/crownsworn/crownsworn/model/AdventureCardEqualsPinLaw" 7) (hcw : Jvm.Lit.compactW.before a0 Z = true) :
    MetFree l (⟨"com/example/crownsworn/crownsworn/model/AdventureCardEqualsPinLaw", "mk", "(ICC)Ljava/lang/String;"⟩ : MethodName) (head1 (Jvm.Cond.code (⟨"com/example/crownsworn/crownsworn/model/AdventureCardEqualsPinLaw", "mk", "(ICC)Ljava/lang/String;"⟩ : MethodName) method_2_code 3 (some (.object "java/lang/String")) :: ws) ({ frames := 4, cells := 3, slots := 8, locals := 66 } : Room)) (fun aa UU => aa = #[(.int n), (.int cx), (.int cy)] ∧ Z.Warmed39 UU.vm ∧ UU.heap = h0 ∧ own_LitSt Z N "com/example/crownsworn/crownsworn/model/AdventureCardEqualsPinLaw" 7 [] UU.vm h0) (fun _ _ _ _ _ => True) (fun _ UU oo UU' => ∃ vv LL, oo = .returned vv ∧ Q_rm_mk Z n cx cy N cz h0 n0 vv UU'.heap UU'.vm LL ∧ ReturnedEndW UU oo UU' LL ({ frames := 4, cells := 3, slots := 8, locals := 66 } : Room).cells ({ frames := 4, cells := 3, slots := 8, locals := 66 } : Room).slots) := by
  refine MetFree.of_bodySF (plainFor_of_name pn_4) hisR ?_
  intro p e s m args below meth c s₁ Bd hml0 hP hK
  obtain ⟨rfl, hZ, hh, hLS⟩ := hP
  have hx := Bd.exec
  have hby := Bd.bytes
  have hml : c.maxLocals = 3 := hml0
  have hown : s.vm.findClass "com/example/crownsworn/crownsworn/model/AdventureCardEqualsPinLaw" = some m.cls := findClass_of_methodNamed Bd.named
  have hnm := (name_of_methodNamed Bd.named Bd.method).1
  have hlk : meth.locks = false := BodyLoose.notSynchronized Bd
  have X0 : Stand p l e ({ frames := 4, cells := 3, slots := 8, locals := 66 } : Room) (s.setVm s.vm) m #[(.int n), (.int cx), (.int cy)] below meth c s₁ [] 0 0 := Stand.of_body Bd
  have e0 : s₁.heap = h0 := by rw [← hh, Bd.state]; rfl
  have N0 := Fr.nil n0
  have hS : s.Since s.vm 0 := own_since s
  have hk : 0 ≤ h0.size := Nat.zero_le _
  have hwS : ∀ a ∈ Bundle.stringAtoms, a.before a0 Z = true := fun d hd => hw d ((by decide +kernel : ∀ d ∈ Bundle.stringAtoms, d ∈ tables_1) d hd)
  have hws : ∀ d ∈ StrChars.Road.words, d.before a0 Z = true := fun d hd => hw d ((by decide +kernel : ∀ d ∈ StrChars.Road.words, d ∈ tables_1) d hd)
  refine own_in (ef_10 m n cx cy) ?_
  refine own_go (T' := s₁) (g' := (mkF m 1 #[.val (.int n), .val (.int cx), .val (.int cy)] [(.int n)])) (fun t_ k_ => XS.iloadN X0.here hx rfl (hb hby d_method_2_0) rfl k_) ?_
  by_cases c1 : n = (0 : Int32)
  · -- n = (0 : Int32)
    refine own_go (T' := s₁) (g' := (mkF m 4 #[.val (.int n), .val (.int cx), .val (.int cy)] [])) (fun t_ k_ => XS.ifNo X0.here hx rfl (hb hby d_method_2_1) rfl ((if0 _ _).trans (teq c1).2) k_) ?_
    rcases hLS with hI | ⟨la, hLit, hStr⟩
    · -- the constant is loaded now
      obtain ⟨b2, T2, h2, k2, tb, kb, X2, e2, E2, hS, hk, hZ, hown, sE, sC, sV, sA, sla, slb, hIB, hLit, st2⟩ := ldcSVL X0 hx hZ hown (hw _ (List.mem_of_getElem? (i := 4) rfl)) hwS e0 hS (show _ ≤ h0.size by omega) (Fr.nil _) (fun b cl q => by rw [hh]; exact O0.2.2 _ _ q) hI List.not_mem_nil hheld hcw (vs := []) (z := 0) ⟨by decide, rfl⟩ (by decide) rfl (g := (mkF m 4 #[.val (.int n), .val (.int cx), .val (.int cy)] [])) rfl (hb hby d_method_2_4) (n := 0) (by decide) (by decide) (by decide) (by decide)
      have z2 := E2.1
      have O2 := O0.ext E2
      have K2 := (Keep.refl h0 []).ext E2
      refine own_go (T' := T2) (g' := (mkF m 6 #[.val (.int n), .val (.int cx), .val (.int cy)] [(.ref b2)])) (fun t_ k_ => st2 _ k_) ?_
      have str : own_Str Z h2 h2.size b2 [] := ⟨sE, sC, by simp, own_ltN sla, tb, kb, own_ltN slb, sV, sA⟩
      exact own_outV X2 hS (show _ ≤ T2.heap.size by rw [e2]; omega) (v := some (.ref b2)) (fun h => by rw [Bd.returns] at h; cases h) hlk (fun fs hr => own_retA X2 hx Bd.returns rfl rfl (hb hby d_method_2_6) hr) (Q := Q_rm_mk Z n cx cy N cz h0 n0) (by rw [e2]; exact ⟨b2, rfl, N0, K2, (by rw [own_cs, if_pos c1]; exact str), Or.inr ⟨b2, hLit, str⟩⟩) (by decide) (by decide)
    · -- it has been loaded before
      refine own_go (T' := s₁) (g' := (mkF m 6 #[.val (.int n), .val (.int cx), .val (.int cy)] [(.ref la)])) (fun t_ k_ => ldcAgain X0 hx hZ hown (hw _ (List.mem_of_getElem? (i := 4) rfl)) (a := la) hLit (g := (mkF m 4 #[.val (.int n), .val (.int cx), .val (.int cy)] [])) rfl (hb hby d_method_2_4) _ k_) ?_
      exact own_outV X0 hS (show _ ≤ s₁.heap.size by rw [e0]; omega) (v := some (.ref la)) (fun h => by rw [Bd.returns] at h; cases h) hlk (fun fs hr => own_retA X0 hx Bd.returns rfl rfl (hb hby d_method_2_6) hr) (Q := Q_rm_mk Z n cx cy N cz h0 n0) (by rw [e0]; exact ⟨la, rfl, N0, (Keep.refl h0 []), (by rw [own_cs, if_pos c1]; exact hStr.mono hN), Or.inr ⟨la, own_lit (s := s.setVm s.vm) X0.warmed.wide hLit, hStr.mono hN⟩⟩) (by decide) (by decide)
  · -- not n = (0 : Int32)
    refine own_go (T' := s₁) (g' := (mkF m 7 #[.val (.int n), .val (.int cx), .val (.int cy)] [])) (fun t_ k_ => XS.ifYes X0.here hx rfl (pc0 := 1) (pc' := 7) rfl (hb hby d_method_2_1) rfl ((if0 _ _).trans (feq c1).2) (by decide) (by decide) k_) ?_
    refine own_go (T' := s₁) (g' := (mkF m 8 #[.val (.int n), .val (.int cx), .val (.int cy)] [(.int n)])) (fun t_ k_ => XS.iloadN X0.here hx rfl (hb hby d_method_2_7) rfl k_) ?_
    refine own_go (T' := s₁) (g' := (mkF m 9 #[.val (.int n), .val (.int cx), .val (.int cy)] [(.int (1 : Int32)), (.int n)])) (fun t_ k_ => XS.iconst X0.here hx rfl (hb hby d_method_2_8) k_) ?_
    by_cases c3 : n = (1 : Int32)
    · -- n = (1 : Int32)
      refine own_go (T' := s₁) (g' := (mkF m 12 #[.val (.int n), .val (.int cx), .val (.int cy)] [])) (fun t_ k_ => XS.icmpNo X0.here hx rfl (hb hby d_method_2_9) rfl (teq c3).2 k_) ?_
      refine own_go (T' := s₁) (g' := (mkF m 13 #[.val (.int n), .val (.int cx), .val (.int cy)] [(.int cx)])) (fun t_ k_ => XS.iloadN X0.here hx rfl (hb hby d_method_2_12) rfl k_) ?_
      obtain ⟨_, _, ⟨T4, L4, k4, n4⟩, -, X4, ⟨Lc4, hQ4, l4, y4, z4⟩, st4⟩ := Jvm.LawKit.callS X0 hx (y := (⟨"java/lang/String", "valueOf", "(C)Ljava/lang/String;"⟩ : MethodName)) hown (mvT hZ (hw _ (List.mem_of_getElem? (i := 15) rfl))) (mvT hZ (hw _ (List.mem_of_getElem? (i := 16) rfl))) (mvT hZ (hw _ (List.mem_of_getElem? (i := 5) rfl))) (mvT hZ (hw _ (List.mem_of_getElem? (i := 17) rfl))) (by decide) (backOf (W := 0) (rm_svo l Z a0 hw [] cx cz h0 n0 (show n0 ≤ h0.size by omega) O0 S_COMPACT_STRINGS hcz hx1) hZ (hw _ (List.mem_of_getElem? (i := 17) rfl)) (hw _ (List.mem_of_getElem? (i := 5) rfl)) (by decide) (by decide)) (g := (mkF m 13 #[.val (.int n), .val (.int cx), .val (.int cy)] [(.int cx)])) rfl (by rw [hml]; rfl) (argsL := [(.int cx)]) (rest := []) (lenOf pd_5 rfl) rfl (by show 2 * 0 + _ ≤ _; exact Nat.le_of_eq rfl) (hb hby d_method_2_13) (fun _ _ => ⟨rfl, e0, (by decide : 0 + 2 ≤ _), (by decide : 0 + 5 ≤ _)⟩)
      dsimp only [Pt.U, Pt.locs, Pt.cells, Pt.slots] at X4 l4 y4 z4 st4 hQ4
      subst l4 y4 z4
      obtain ⟨b4, rfl, M4, K4_, ⟨lob4, hib4⟩, f4_0⟩ := hQ4
      have zz4 := K4_.1
      have O4 := O0.keep K4_ all0
      have K4 := (Keep.refl h0 []).trans K4_ all0
      have N4 := Fr.app N0 M4
      have ltsf4_0 := own_ltN f4_0.lt
      refine own_go (T' := T4) (g' := (mkF m 16 #[.val (.int n), .val (.int cx), .val (.int cy)] [(.ref b4)])) (fun t_ k_ => st4 _ k_) ?_
      exact own_outV X4 hS (show _ ≤ T4.heap.size by omega) (v := some (.ref b4)) (fun h => by rw [Bd.returns] at h; cases h) hlk (fun fs hr => own_retA X4 hx Bd.returns rfl rfl (hb hby d_method_2_16) hr) (Q := Q_rm_mk Z n cx cy N cz h0 n0) (by exact ⟨b4, rfl, N4, K4, (by rw [own_cs, if_neg c1, if_pos c3]; exact f4_0), ((own_LitSt.warm (s := s.setVm s.vm) hLS X4.warmed).keep K4 all0 (by omega))⟩) (by decide) (by decide)
    · -- not n = (1 : Int32)
      refine own_go (T' := s₁) (g' := (mkF m 17 #[.val (.int n), .val (.int cx), .val (.int cy)] [])) (fun t_ k_ => XS.icmpYes X0.here hx rfl (pc0 := 9) (pc' := 17) rfl (hb hby d_method_2_9) rfl (feq c3).2 (by decide) (by decide) k_) ?_
      obtain ⟨T5, h5, X5, e5, E5, A5, D5, -, st5⟩ := newO X0 hx hZ hown (hw _ (List.mem_of_getElem? (i := 82) rfl)) (hw _ (List.mem_of_getElem? (i := 6) rfl)) (hw _ (List.mem_of_getElem? (i := 5) rfl)) e0 (g := (mkF m 17 #[.val (.int n), .val (.int cx), .val (.int cy)] [])) rfl (hb hby d_method_2_17) (by decide) (by decide)
      obtain ⟨b5, g5⟩ : ∃ z, z = h0.size := ⟨_, rfl⟩
      rw [← g5] at A5 D5 st5
      have l5 := own_ltN A5.lt
      have z5 := E5.1
      have O5 := O0.ext E5
      have K5 := (Keep.refl h0 []).ext E5
      have F5_value : Fld Z h5 b5 "java/lang/String" "value" "[B" .null := D5 (Or.inr (hw _ (List.mem_of_getElem? (i := 8) rfl))) (ty := (.array .byte)) (by decide)
      have F5_coder : Fld Z h5 b5 "java/lang/String" "coder" "B" (.int (0 : Int32)) := D5 (Or.inr (hw _ (List.mem_of_getElem? (i := 9) rfl))) (ty := .byte) (by decide)
      refine own_go (T' := T5) (g' := (mkF m 20 #[.val (.int n), .val (.int cx), .val (.int cy)] [(.ref b5)])) (fun t_ k_ => st5 _ k_) ?_
      refine own_go (T' := T5) (g' := (mkF m 21 #[.val (.int n), .val (.int cx), .val (.int cy)] [(.ref b5), (.ref b5)])) (fun t_ k_ => XS.dup X5.here hx rfl (hb hby d_method_2_20) rfl rfl k_) ?_
      refine own_go (T' := T5) (g' := (mkF m 22 #[.val (.int n), .val (.int cx), .val (.int cy)] [(.int (2 : Int32)), (.ref b5), (.ref b5)])) (fun t_ k_ => XS.iconst X5.here hx rfl (hb hby d_method_2_21) k_) ?_
      obtain ⟨T6, h6, k6, X6, e6, E6, A6, st6⟩ := newP X5 hx hZ (hw _ (List.mem_of_getElem? (i := 83) rfl)) e5 (g := (mkF m 22 #[.val (.int n), .val (.int cx), .val (.int cy)] [(.int (2 : Int32)), (.ref b5), (.ref b5)])) rfl (hb hby d_method_2_22) rfl (by decide) (cap := 2) (by decide) (by decide) (by decide) (by decide)
      obtain ⟨b6, g6⟩ : ∃ z, z = h5.size := ⟨_, rfl⟩
      rw [← g6] at A6 st6
      have V6 : Arv Z h6 b6 k6 .char (2 : Int32) [(.int (0 : Int32)), (.int (0 : Int32))] (.int (0 : Int32)) := (Arv.new A6 (by decide)).pad (pad_rep [] (.int (0 : Int32)) 2)
      have l6 := own_ltN V6.lt
      have z6 := E6.1
      have O6 := O5.ext E6
      have K6 := K5.ext E6
      refine own_go (T' := T6) (g' := (mkF m 24 #[.val (.int n), .val (.int cx), .val (.int cy)] [(.ref b6), (.ref b5), (.ref b5)])) (fun t_ k_ => st6 _ k_) ?_
      refine own_go (T' := T6) (g' := (mkF m 25 #[.val (.int n), .val (.int cx), .val (.int cy)] [(.ref b6), (.ref b6), (.ref b5), (.ref b5)])) (fun t_ k_ => XS.dup X6.here hx rfl (hb hby d_method_2_24) rfl rfl k_) ?_
      refine own_go (T' := T6) (g' := (mkF m 26 #[.val (.int n), .val (.int cx), .val (.int cy)] [(.int (0 : Int32)), (.ref b6), (.ref b6), (.ref b5), (.ref b5)])) (fun t_ k_ => XS.iconst X6.here hx rfl (hb hby d_method_2_25) k_) ?_
      refine own_go (T' := T6) (g' := (mkF m 27 #[.val (.int n), .val (.int cx), .val (.int cy)] [(.int cx), (.int (0 : Int32)), (.ref b6), (.ref b6), (.ref b5), (.ref b5)])) (fun t_ k_ => XS.iloadN X6.here hx rfl (hb hby d_method_2_26) rfl k_) ?_
      obtain ⟨cl7, Ar7, q7, S7, Nn7, H7, G7⟩ := V6
      have hin7 : ¬ ((0 : Int32) < 0 ∨ cl7.slots.size ≤ ((0 : Int32)).toNatClampNeg) := inb_of S7 ⟨by decide, by decide⟩
      obtain ⟨T7, h7, X7, e7, W7, st7⟩ := stC X6 hx hZ e6 Ar7 (j := (0 : Int32)) hin7 (g := (mkF m 27 #[.val (.int n), .val (.int cx), .val (.int cy)] [(.int cx), (.int (0 : Int32)), (.ref b6), (.ref b6), (.ref b5), (.ref b5)])) rfl rfl (hb hby d_method_2_27)
      have V7 : Arv Z h7 b6 k6 .char (2 : Int32) [(.int (nar .char cx)), (.int (0 : Int32))] (.int (0 : Int32)) := Arv.set Ar7 q7 S7 Nn7 H7 G7 (fits_nar_char _) W7 0 rfl (Nat.le_of_ble_eq_true rfl)
      have z7 := W7.size
      have N7 := Fr.snoc X7 N0 (show n0 ≤ b6 by omega)
      have O7 := O6.wr W7 (show n0 ≤ b6 by omega)
      have K7 := K6.wr W7 (Or.inr (show h0.size ≤ b6 by omega))
      refine own_go (T' := T7) (g' := (mkF m 28 #[.val (.int n), .val (.int cx), .val (.int cy)] [(.ref b6), (.ref b5), (.ref b5)])) (fun t_ k_ => st7 _ k_) ?_
      refine own_go (T' := T7) (g' := (mkF m 29 #[.val (.int n), .val (.int cx), .val (.int cy)] [(.ref b6), (.ref b6), (.ref b5), (.ref b5)])) (fun t_ k_ => XS.dup X7.here hx rfl (hb hby d_method_2_28) rfl rfl k_) ?_
      refine own_go (T' := T7) (g' := (mkF m 30 #[.val (.int n), .val (.int cx), .val (.int cy)] [(.int (1 : Int32)), (.ref b6), (.ref b6), (.ref b5), (.ref b5)])) (fun t_ k_ => XS.iconst X7.here hx rfl (hb hby d_method_2_29) k_) ?_
      refine own_go (T' := T7) (g' := (mkF m 31 #[.val (.int n), .val (.int cx), .val (.int cy)] [(.int cy), (.int (1 : Int32)), (.ref b6), (.ref b6), (.ref b5), (.ref b5)])) (fun t_ k_ => XS.iloadN X7.here hx rfl (hb hby d_method_2_30) rfl k_) ?_
      obtain ⟨cl8, Ar8, q8, S8, Nn8, H8, G8⟩ := V7
      have hin8 : ¬ ((1 : Int32) < 0 ∨ cl8.slots.size ≤ ((1 : Int32)).toNatClampNeg) := inb_of S8 ⟨by decide, by decide⟩
      obtain ⟨T8, h8, X8, e8, W8, st8⟩ := stC X7 hx hZ e7 Ar8 (j := (1 : Int32)) hin8 (g := (mkF m 31 #[.val (.int n), .val (.int cx), .val (.int cy)] [(.int cy), (.int (1 : Int32)), (.ref b6), (.ref b6), (.ref b5), (.ref b5)])) rfl rfl (hb hby d_method_2_31)
      have V8 : Arv Z h8 b6 k6 .char (2 : Int32) [(.int (nar .char cx)), (.int (nar .char cy))] (.int (0 : Int32)) := Arv.set Ar8 q8 S8 Nn8 H8 G8 (fits_nar_char _) W8 1 rfl (Nat.le_of_ble_eq_true rfl)
      have z8 := W8.size
      have N8 := Fr.snoc X8 N7 (show n0 ≤ b6 by omega)
      have O8 := O7.wr W8 (show n0 ≤ b6 by omega)
      have K8 := K7.wr W8 (Or.inr (show h0.size ≤ b6 by omega))
      refine own_go (T' := T8) (g' := (mkF m 32 #[.val (.int n), .val (.int cx), .val (.int cy)] [(.ref b6), (.ref b5), (.ref b5)])) (fun t_ k_ => st8 _ k_) ?_
      have ff11 := (((A5.ext E6).wr W7).wr W8)
      have ff12 := (((F5_value.ext E6).other W7 (Or.inl (own_ne (by omega)))).other W8 (Or.inl (own_ne (by omega))))
      have ff13 := (((F5_coder.ext E6).other W7 (Or.inl (own_ne (by omega)))).other W8 (Or.inl (own_ne (by omega))))
      have hlat10 : ∀ c ∈ [(nar .char cx), (nar .char cy)], ¬ c < 0 ∧ ¬ (255 : Int32) < c := by
        intro c hc
        simp only [List.mem_cons, List.not_mem_nil, or_false] at hc
        rcases hc with rfl | rfl
        · rw [own_narc hx1]; exact hx1
        · rw [own_narc hy1]; exact hy1
      obtain ⟨_, _, ⟨T9, L9, k9, n9⟩, -, X9, ⟨Lc9, hQ9, l9, y9, z9⟩, st9⟩ := X8.specialBack hx (y := (⟨"java/lang/String", "<init>", "([C)V"⟩ : MethodName)) rfl hown (mvT hZ (hw _ (List.mem_of_getElem? (i := 84) rfl))) (mvT hZ (hw _ (List.mem_of_getElem? (i := 85) rfl))) (mvT hZ (hw _ (List.mem_of_getElem? (i := 86) rfl))) (by decide) (StrChars.Road.backV (W := 1) hZ hws (kI := 4) (hw _ (List.mem_of_getElem? (i := 6) rfl)) (cs := [(nar .char cx), (nar .char cy)]) (bs := [((nar .char cx)).toInt8.toInt32, ((nar .char cy)).toInt8.toInt32]) (n := 2) (show n0 ≤ b5 by omega) (show n0 ≤ h8.size by omega) ff11 ff12 ff13 V8 (S_COMPACT_STRINGS.ext O8.2) hcz rfl rfl (by decide) (by decide) hlat10 rfl (by decide) (by decide)) (g := (mkF m 32 #[.val (.int n), .val (.int cx), .val (.int cy)] [(.ref b6), (.ref b5), (.ref b5)])) rfl (by rw [hml]; rfl) (Steps.refl _) (a := b5) (argsL := [(.ref b6)]) (rest := [(.ref b5)]) (lenOf pd_6 rfl) rfl (by show 2 * 0 + _ ≤ _; exact Nat.le_of_eq rfl) (hb hby d_method_2_32) (fun _ _ => ⟨rfl, e8, (by decide : 2 + 1 ≤ _), (by decide : 6 + 2 ≤ _)⟩)
      dsimp only [Pt.U, Pt.locs, Pt.cells, Pt.slots] at X9 l9 y9 z9 st9 hQ9
      subst l9 y9 z9
      obtain ⟨rfl, M9, K9_, f9_e, f9_c, t9, kb9, lo9, hi9, ne9, f9_v, f9_a⟩ := hQ9
      have zz9 := K9_.1
      have lt9 := own_ltN f9_a.lt
      have hiN9 := own_leN hi9
      have loN9 := own_leN lo9
      have O9 := O8.keep K9_ (allS (show n0 ≤ b5 by omega) all0)
      have K9 := K8.trans K9_ (allS (Or.inr (show h0.size ≤ b5 by omega)) all0)
      have N9 := Fr.app N8 M9
      refine own_go (T' := T9) (g' := (mkF m 35 #[.val (.int n), .val (.int cx), .val (.int cy)] [(.ref b5)])) (fun t_ k_ => st9.trans k_) ?_
      have fa14 := f9_a
      rw [own_narc hx1, own_narc hy1] at fa14
      have sb14 : ∀ c ∈ [cx, cy], ¬ c < 0 ∧ ¬ (255 : Int32) < c := by
        intro c hc
        simp only [List.mem_cons, List.not_mem_nil, or_false] at hc
        rcases hc with rfl | rfl
        · exact hx1
        · exact hy1
      exact own_outV X9 hS (show _ ≤ T9.heap.size by omega) (v := some (.ref b5)) (fun h => by rw [Bd.returns] at h; cases h) hlk (fun fs hr => own_retA X9 hx Bd.returns rfl rfl (hb hby d_method_2_35) hr) (Q := Q_rm_mk Z n cx cy N cz h0 n0) (by exact ⟨b5, rfl, N9, K9, (by rw [own_cs, if_neg c1, if_neg c3]; exact ⟨f9_e, f9_c, sb14, by omega, t9, _, by omega, f9_v, fa14⟩), ((own_LitSt.warm (s := s.setVm s.vm) hLS X9.warmed).keep K9 all0 (by omega))⟩) (by decide) (by decide)
theorem own_nest {na nb : Int32} (a0_ a1_ b0_ b1_ : Int32) (h_na : na = (0 : Int32) ∨ na = (1 : Int32) ∨ na = (2 : Int32)) (h_nb : nb = (0 : Int32) ∨ nb = (1 : Int32) ∨ nb = (2 : Int32)) : (if na = nb then (if na < (1 : Int32) then (if na < (2 : Int32) then (1 : Int32) else (if a1_ = b1_ then (1 : Int32) else (0 : Int32))) else (if a0_ = b0_ then (if na < (2 : Int32) then (1 : Int32) else (if a1_ = b1_ then (1 : Int32) else (0 : Int32))) else (0 : Int32))) else (0 : Int32)) = (if (own_cs na a0_ a1_) = (own_cs nb b0_ b1_) then (1 : Int32) else (0 : Int32)) := by
  rcases h_na with rfl | rfl | rfl <;> rcases h_nb with rfl | rfl | rfl <;> simp +decide [own_cs]
  all_goals (try (by_cases h1 : a0_ = b0_ <;> by_cases h2 : a1_ = b1_ <;> simp [h1, h2]))
theorem pd_7 : parseMethodDescriptor "(ICC)Ljava/lang/String;" = some ⟨[.int, .char, .char], some (.object "java/lang/String")⟩ := by decide +kernel
theorem pd_8 : parseMethodDescriptor "(II)I" = some ⟨[.int, .int], some .int⟩ := by decide +kernel
theorem pd_9 : parseMethodDescriptor "(Ljava/lang/String;Ljava/lang/String;Ljava/lang/String;I)V" = some ⟨[(.object "java/lang/String"), (.object "java/lang/String"), (.object "java/lang/String"), .int], none⟩ := by decide +kernel
theorem pd_10 : parseMethodDescriptor "(JJ)J" = some ⟨[.long, .long], some .long⟩ := by decide +kernel
theorem ef_11 (m : MethodId) (v0 : Int32) (v1 : Int32) (v2 : Int32) (v3 : Int32) (v4 : Int64) (v5 : Int32) : entryFrame m #[(.int v0), (.int v1), (.int v2), (.int v3), (.long v4), (.int v5)] maxLocals = mkF m 0 #[.val (.int v0), .val (.int v1), .val (.int v2), .val (.int v3), .val (.long v4), .second, .val (.int v5), .unset, .unset, .unset, .unset, .unset, .unset, .unset, .unset, .unset, .unset, .unset, .unset, .unset, .unset] [] := by first | (simp [entryFrame, mkF, argsToLocals, Value.category, maxLocals]; done) | rfl
def Q_rm_law (Z : State) (v0 : Int32) (v1 : Int32) (v2 : Int32) (v3 : Int32) (v4 : Int64) (v5 : Int32) (cz : Int32) (h0 : Heap) (n0 : Nat) (vv : Option Value) (h : Heap) (LL : List Loc) : Prop := vv = some (.int 1) ∧ Fr n0 LL
set_option maxRecDepth 65536 in
set_option maxHeartbeats 40000000 in
theorem rm_law (l : Launch) (Z : State) (a0 : Array Value) (hw : ∀ d ∈ tables_1, d.before a0 Z = true) (ws : List Jvm.Cond) (v0 : Int32) (v1 : Int32) (v2 : Int32) (v3 : Int32) (v4 : Int64) (v5 : Int32) (cz : Int32) (h0 : Heap) (n0 : Nat) (Z0 : n0 ≤ h0.size) (O0 : Old Z n0 h0) (S_COMPACT_STRINGS : Sta Z Z.heap "java/lang/String" "COMPACT_STRINGS" "Z" (.int cz)) (hcz : ¬ cz = (0 : Int32)) (NF : own_NoF Z) (hheld : Jvm.Lit.constHeld Z "com/example/crownsworn/crownsworn/model/AdventureCardEqualsPinLaw" 7) (hcw : Jvm.Lit.compactW.before a0 Z = true) :
    MetFree l x (head1 (Jvm.Cond.code x code maxLocals ret :: ws) room_1) (fun aa UU => aa = #[(.int v0), (.int v1), (.int v2), (.int v3), (.long v4), (.int v5)] ∧ Z.Warmed39 UU.vm ∧ UU.heap = h0 ∧ IB Z UU.vm []) (fun _ _ _ _ _ => True) (fun _ UU oo UU' => ∃ vv LL, oo = .returned vv ∧ Q_rm_law Z v0 v1 v2 v3 v4 v5 cz h0 n0 vv UU'.heap LL ∧ ReturnedEndW UU oo UU' LL room_1.cells room_1.slots) := by
  refine MetFree.of_bodySF (plainFor_of_name pn_4) hisR ?_
  intro p e s m args below meth c s₁ Bd hml0 hP hK
  obtain ⟨rfl, hZ, hh, hLS⟩ := hP
  have hx := Bd.exec
  have hby := Bd.bytes
  have hml : c.maxLocals = 21 := hml0
  have hown : s.vm.findClass "com/example/crownsworn/crownsworn/model/AdventureCardEqualsPinLaw" = some m.cls := findClass_of_methodNamed Bd.named
  have hnm := (name_of_methodNamed Bd.named Bd.method).1
  have hlk : meth.locks = false := BodyLoose.notSynchronized Bd
  have X0 : Stand p l e room_1 (s.setVm s.vm) m #[(.int v0), (.int v1), (.int v2), (.int v3), (.long v4), (.int v5)] below meth c s₁ [] 0 0 := Stand.of_body Bd
  have e0 : s₁.heap = h0 := by rw [← hh, Bd.state]; rfl
  have N0 := Fr.nil n0
  have hS : s.Since s.vm 0 := own_since s
  have hk : 0 ≤ h0.size := Nat.zero_le _
  have hwS : ∀ a ∈ Bundle.stringAtoms, a.before a0 Z = true := fun d hd => hw d ((by decide +kernel : ∀ d ∈ Bundle.stringAtoms, d ∈ tables_1) d hd)
  refine own_in (ef_11 m v0 v1 v2 v3 v4 v5) ?_
  refine own_go (T' := s₁) (g' := (mkF m 1 #[.val (.int v0), .val (.int v1), .val (.int v2), .val (.int v3), .val (.long v4), .second, .val (.int v5), .unset, .unset, .unset, .unset, .unset, .unset, .unset, .unset, .unset, .unset, .unset, .unset, .unset, .unset] [(.int v0)])) (fun t_ k_ => XS.iloadN X0.here hx rfl (hb hby at_0) rfl k_) ?_
  refine own_go (T' := s₁) (g' := (mkF m 4 #[.val (.int v0), .val (.int v1), .val (.int v2), .val (.int v3), .val (.long v4), .second, .val (.int v5), .unset, .unset, .unset, .unset, .unset, .unset, .unset, .unset, .unset, .unset, .unset, .unset, .unset, .unset] [(.int (255 : Int32)), (.int v0)])) (fun t_ k_ => XS.sipush X0.here hx rfl (hb hby at_1) k_) ?_
  refine own_go (T' := s₁) (g' := (mkF m 5 #[.val (.int v0), .val (.int v1), .val (.int v2), .val (.int v3), .val (.long v4), .second, .val (.int v5), .unset, .unset, .unset, .unset, .unset, .unset, .unset, .unset, .unset, .unset, .unset, .unset, .unset, .unset] [(.int (v0 &&& (255 : Int32)))])) (fun t_ k_ => XS.iand X0.here hx rfl (hb hby at_4) rfl k_) ?_
  refine own_go (T' := s₁) (g' := (mkF m 6 #[.val (.int v0), .val (.int v1), .val (.int v2), .val (.int v3), .val (.long v4), .second, .val (.int v5), .unset, .unset, .unset, .unset, .unset, .unset, .unset, .unset, .unset, .unset, .unset, .unset, .unset, .unset] [(.int ((v0 &&& (255 : Int32)).toUInt32.toUInt16.toUInt32.toInt32))])) (fun t_ k_ => XS.i2c X0.here hx rfl (hb hby at_5) rfl k_) ?_
  have h_a0_ := own_rng v0
  generalize g_a0_ : ((v0 &&& (255 : Int32)).toUInt32.toUInt16.toUInt32.toInt32) = a0_ at h_a0_ ⊢
  refine own_go (T' := s₁) (g' := (mkF m 8 #[.val (.int v0), .val (.int v1), .val (.int v2), .val (.int v3), .val (.long v4), .second, .val (.int v5), .val (.int a0_), .unset, .unset, .unset, .unset, .unset, .unset, .unset, .unset, .unset, .unset, .unset, .unset, .unset] [])) (fun t_ k_ => XS.istore X0.here hx rfl (hb hby at_6) rfl (l' := #[.val (.int v0), .val (.int v1), .val (.int v2), .val (.int v3), .val (.long v4), .second, .val (.int v5), .val (.int a0_), .unset, .unset, .unset, .unset, .unset, .unset, .unset, .unset, .unset, .unset, .unset, .unset, .unset]) rfl k_) ?_
  refine own_go (T' := s₁) (g' := (mkF m 9 #[.val (.int v0), .val (.int v1), .val (.int v2), .val (.int v3), .val (.long v4), .second, .val (.int v5), .val (.int a0_), .unset, .unset, .unset, .unset, .unset, .unset, .unset, .unset, .unset, .unset, .unset, .unset, .unset] [(.int v0)])) (fun t_ k_ => XS.iloadN X0.here hx rfl (hb hby at_8) rfl k_) ?_
  refine own_go (T' := s₁) (g' := (mkF m 11 #[.val (.int v0), .val (.int v1), .val (.int v2), .val (.int v3), .val (.long v4), .second, .val (.int v5), .val (.int a0_), .unset, .unset, .unset, .unset, .unset, .unset, .unset, .unset, .unset, .unset, .unset, .unset, .unset] [(.int (8 : Int32)), (.int v0)])) (fun t_ k_ => XS.bipush X0.here hx rfl (hb hby at_9) k_) ?_
  refine own_go (T' := s₁) (g' := (mkF m 12 #[.val (.int v0), .val (.int v1), .val (.int v2), .val (.int v3), .val (.long v4), .second, .val (.int v5), .val (.int a0_), .unset, .unset, .unset, .unset, .unset, .unset, .unset, .unset, .unset, .unset, .unset, .unset, .unset] [(.int ((v0.toUInt32 >>> ((8 : Int32) &&& 31).toUInt32).toInt32))])) (fun t_ k_ => XS.iushr X0.here hx rfl (hb hby at_11) rfl k_) ?_
  refine own_go (T' := s₁) (g' := (mkF m 15 #[.val (.int v0), .val (.int v1), .val (.int v2), .val (.int v3), .val (.long v4), .second, .val (.int v5), .val (.int a0_), .unset, .unset, .unset, .unset, .unset, .unset, .unset, .unset, .unset, .unset, .unset, .unset, .unset] [(.int (255 : Int32)), (.int ((v0.toUInt32 >>> ((8 : Int32) &&& 31).toUInt32).toInt32))])) (fun t_ k_ => XS.sipush X0.here hx rfl (hb hby at_12) k_) ?_
  refine own_go (T' := s₁) (g' := (mkF m 16 #[.val (.int v0), .val (.int v1), .val (.int v2), .val (.int v3), .val (.long v4), .second, .val (.int v5), .val (.int a0_), .unset, .unset, .unset, .unset, .unset, .unset, .unset, .unset, .unset, .unset, .unset, .unset, .unset] [(.int (((v0.toUInt32 >>> ((8 : Int32) &&& 31).toUInt32).toInt32) &&& (255 : Int32)))])) (fun t_ k_ => XS.iand X0.here hx rfl (hb hby at_15) rfl k_) ?_
  refine own_go (T' := s₁) (g' := (mkF m 17 #[.val (.int v0), .val (.int v1), .val (.int v2), .val (.int v3), .val (.long v4), .second, .val (.int v5), .val (.int a0_), .unset, .unset, .unset, .unset, .unset, .unset, .unset, .unset, .unset, .unset, .unset, .unset, .unset] [(.int ((((v0.toUInt32 >>> ((8 : Int32) &&& 31).toUInt32).toInt32) &&& (255 : Int32)).toUInt32.toUInt16.toUInt32.toInt32))])) (fun t_ k_ => XS.i2c X0.here hx rfl (hb hby at_16) rfl k_) ?_
  have h_a1_ := own_rng ((v0.toUInt32 >>> ((8 : Int32) &&& 31).toUInt32).toInt32)
  generalize g_a1_ : ((((v0.toUInt32 >>> ((8 : Int32) &&& 31).toUInt32).toInt32) &&& (255 : Int32)).toUInt32.toUInt16.toUInt32.toInt32) = a1_ at h_a1_ ⊢
  refine own_go (T' := s₁) (g' := (mkF m 19 #[.val (.int v0), .val (.int v1), .val (.int v2), .val (.int v3), .val (.long v4), .second, .val (.int v5), .val (.int a0_), .val (.int a1_), .unset, .unset, .unset, .unset, .unset, .unset, .unset, .unset, .unset, .unset, .unset, .unset] [])) (fun t_ k_ => XS.istore X0.here hx rfl (hb hby at_17) rfl (l' := #[.val (.int v0), .val (.int v1), .val (.int v2), .val (.int v3), .val (.long v4), .second, .val (.int v5), .val (.int a0_), .val (.int a1_), .unset, .unset, .unset, .unset, .unset, .unset, .unset, .unset, .unset, .unset, .unset, .unset]) rfl k_) ?_
  refine own_go (T' := s₁) (g' := (mkF m 20 #[.val (.int v0), .val (.int v1), .val (.int v2), .val (.int v3), .val (.long v4), .second, .val (.int v5), .val (.int a0_), .val (.int a1_), .unset, .unset, .unset, .unset, .unset, .unset, .unset, .unset, .unset, .unset, .unset, .unset] [(.int v0)])) (fun t_ k_ => XS.iloadN X0.here hx rfl (hb hby at_19) rfl k_) ?_
  refine own_go (T' := s₁) (g' := (mkF m 22 #[.val (.int v0), .val (.int v1), .val (.int v2), .val (.int v3), .val (.long v4), .second, .val (.int v5), .val (.int a0_), .val (.int a1_), .unset, .unset, .unset, .unset, .unset, .unset, .unset, .unset, .unset, .unset, .unset, .unset] [(.int (16 : Int32)), (.int v0)])) (fun t_ k_ => XS.bipush X0.here hx rfl (hb hby at_20) k_) ?_
  refine own_go (T' := s₁) (g' := (mkF m 23 #[.val (.int v0), .val (.int v1), .val (.int v2), .val (.int v3), .val (.long v4), .second, .val (.int v5), .val (.int a0_), .val (.int a1_), .unset, .unset, .unset, .unset, .unset, .unset, .unset, .unset, .unset, .unset, .unset, .unset] [(.int ((v0.toUInt32 >>> ((16 : Int32) &&& 31).toUInt32).toInt32))])) (fun t_ k_ => XS.iushr X0.here hx rfl (hb hby at_22) rfl k_) ?_
  refine own_go (T' := s₁) (g' := (mkF m 24 #[.val (.int v0), .val (.int v1), .val (.int v2), .val (.int v3), .val (.long v4), .second, .val (.int v5), .val (.int a0_), .val (.int a1_), .unset, .unset, .unset, .unset, .unset, .unset, .unset, .unset, .unset, .unset, .unset, .unset] [(.int (3 : Int32)), (.int ((v0.toUInt32 >>> ((16 : Int32) &&& 31).toUInt32).toInt32))])) (fun t_ k_ => XS.iconst X0.here hx rfl (hb hby at_23) k_) ?_
  refine own_go (T' := s₁) (g' := (mkF m 25 #[.val (.int v0), .val (.int v1), .val (.int v2), .val (.int v3), .val (.long v4), .second, .val (.int v5), .val (.int a0_), .val (.int a1_), .unset, .unset, .unset, .unset, .unset, .unset, .unset, .unset, .unset, .unset, .unset, .unset] [(.int (((v0.toUInt32 >>> ((16 : Int32) &&& 31).toUInt32).toInt32) &&& (3 : Int32)))])) (fun t_ k_ => XS.iand X0.here hx rfl (hb hby at_24) rfl k_) ?_
  refine own_go (T' := s₁) (g' := (mkF m 26 #[.val (.int v0), .val (.int v1), .val (.int v2), .val (.int v3), .val (.long v4), .second, .val (.int v5), .val (.int a0_), .val (.int a1_), .unset, .unset, .unset, .unset, .unset, .unset, .unset, .unset, .unset, .unset, .unset, .unset] [(.int (3 : Int32)), (.int (((v0.toUInt32 >>> ((16 : Int32) &&& 31).toUInt32).toInt32) &&& (3 : Int32)))])) (fun t_ k_ => XS.iconst X0.here hx rfl (hb hby at_25) k_) ?_
  refine own_go (T' := s₁) (g' := (mkF m 27 #[.val (.int v0), .val (.int v1), .val (.int v2), .val (.int v3), .val (.long v4), .second, .val (.int v5), .val (.int a0_), .val (.int a1_), .unset, .unset, .unset, .unset, .unset, .unset, .unset, .unset, .unset, .unset, .unset, .unset] [(.int ((((v0.toUInt32 >>> ((16 : Int32) &&& 31).toUInt32).toInt32) &&& (3 : Int32)) % (3 : Int32)))])) (fun t_ k_ => iremM (g := (mkF m 26 #[.val (.int v0), .val (.int v1), .val (.int v2), .val (.int v3), .val (.long v4), .second, .val (.int v5), .val (.int a0_), .val (.int a1_), .unset, .unset, .unset, .unset, .unset, .unset, .unset, .unset, .unset, .unset, .unset, .unset] [(.int (3 : Int32)), (.int (((v0.toUInt32 >>> ((16 : Int32) &&& 31).toUInt32).toInt32) &&& (3 : Int32)))])) X0 hx rfl (hb hby at_26) rfl (by decide) k_) ?_
  have h_na := own_kind ((v0.toUInt32 >>> ((16 : Int32) &&& 31).toUInt32).toInt32)
  generalize g_na : ((((v0.toUInt32 >>> ((16 : Int32) &&& 31).toUInt32).toInt32) &&& (3 : Int32)) % (3 : Int32)) = na at h_na ⊢
  refine own_go (T' := s₁) (g' := (mkF m 29 #[.val (.int v0), .val (.int v1), .val (.int v2), .val (.int v3), .val (.long v4), .second, .val (.int v5), .val (.int a0_), .val (.int a1_), .val (.int na), .unset, .unset, .unset, .unset, .unset, .unset, .unset, .unset, .unset, .unset, .unset] [])) (fun t_ k_ => XS.istore X0.here hx rfl (hb hby at_27) rfl (l' := #[.val (.int v0), .val (.int v1), .val (.int v2), .val (.int v3), .val (.long v4), .second, .val (.int v5), .val (.int a0_), .val (.int a1_), .val (.int na), .unset, .unset, .unset, .unset, .unset, .unset, .unset, .unset, .unset, .unset, .unset]) rfl k_) ?_
  refine own_go (T' := s₁) (g' := (mkF m 30 #[.val (.int v0), .val (.int v1), .val (.int v2), .val (.int v3), .val (.long v4), .second, .val (.int v5), .val (.int a0_), .val (.int a1_), .val (.int na), .unset, .unset, .unset, .unset, .unset, .unset, .unset, .unset, .unset, .unset, .unset] [(.int v2)])) (fun t_ k_ => XS.iloadN X0.here hx rfl (hb hby at_29) rfl k_) ?_
  refine own_go (T' := s₁) (g' := (mkF m 31 #[.val (.int v0), .val (.int v1), .val (.int v2), .val (.int v3), .val (.long v4), .second, .val (.int v5), .val (.int a0_), .val (.int a1_), .val (.int na), .unset, .unset, .unset, .unset, .unset, .unset, .unset, .unset, .unset, .unset, .unset] [(.int (1 : Int32)), (.int v2)])) (fun t_ k_ => XS.iconst X0.here hx rfl (hb hby at_30) k_) ?_
  refine own_go (T' := s₁) (g' := (mkF m 32 #[.val (.int v0), .val (.int v1), .val (.int v2), .val (.int v3), .val (.long v4), .second, .val (.int v5), .val (.int a0_), .val (.int a1_), .val (.int na), .unset, .unset, .unset, .unset, .unset, .unset, .unset, .unset, .unset, .unset, .unset] [(.int (v2 &&& (1 : Int32)))])) (fun t_ k_ => XS.iand X0.here hx rfl (hb hby at_31) rfl k_) ?_
  refine own_go (T' := s₁) (g' := (mkF m 40 #[.val (.int v0), .val (.int v1), .val (.int v2), .val (.int v3), .val (.long v4), .second, .val (.int v5), .val (.int a0_), .val (.int a1_), .val (.int na), .unset, .unset, .unset, .unset, .unset, .unset, .unset, .unset, .unset, .unset, .unset] [(.int (if (v2 &&& (1 : Int32)) = (0 : Int32) then (0 : Int32) else (1 : Int32)))])) (fun t_ k_ => ?_) ?_
  · show Steps p.tables e below (s₁.setTop (mkF m 32 #[.val (.int v0), .val (.int v1), .val (.int v2), .val (.int v3), .val (.long v4), .second, .val (.int v5), .val (.int a0_), .val (.int a1_), .val (.int na), .unset, .unset, .unset, .unset, .unset, .unset, .unset, .unset, .unset, .unset, .unset] [(.int (v2 &&& (1 : Int32)))])) t_
    by_cases c1 : (v2 &&& (1 : Int32)) = (0 : Int32)
    · -- (v2 &&& (1 : Int32)) = (0 : Int32)
      refine own_st (T' := s₁) (g' := (mkF m 39 #[.val (.int v0), .val (.int v1), .val (.int v2), .val (.int v3), .val (.long v4), .second, .val (.int v5), .val (.int a0_), .val (.int a1_), .val (.int na), .unset, .unset, .unset, .unset, .unset, .unset, .unset, .unset, .unset, .unset, .unset] [])) (fun k_ => XS.ifYes X0.here hx rfl (pc0 := 32) (pc' := 39) rfl (hb hby at_32) rfl ((if0 _ _).trans (teq c1).1) (by decide) (by decide) k_) ?_
      refine own_st (T' := s₁) (g' := (mkF m 40 #[.val (.int v0), .val (.int v1), .val (.int v2), .val (.int v3), .val (.long v4), .second, .val (.int v5), .val (.int a0_), .val (.int a1_), .val (.int na), .unset, .unset, .unset, .unset, .unset, .unset, .unset, .unset, .unset, .unset, .unset] [(.int (0 : Int32))])) (fun k_ => XS.iconst X0.here hx rfl (hb hby at_39) k_) ?_
      rw [show (if (v2 &&& (1 : Int32)) = (0 : Int32) then (0 : Int32) else (1 : Int32)) = (0 : Int32) from (if_pos c1)] at k_
      exact k_
    · -- not (v2 &&& (1 : Int32)) = (0 : Int32)
      refine own_st (T' := s₁) (g' := (mkF m 35 #[.val (.int v0), .val (.int v1), .val (.int v2), .val (.int v3), .val (.long v4), .second, .val (.int v5), .val (.int a0_), .val (.int a1_), .val (.int na), .unset, .unset, .unset, .unset, .unset, .unset, .unset, .unset, .unset, .unset, .unset] [])) (fun k_ => XS.ifNo X0.here hx rfl (hb hby at_32) rfl ((if0 _ _).trans (feq c1).1) k_) ?_
      refine own_st (T' := s₁) (g' := (mkF m 36 #[.val (.int v0), .val (.int v1), .val (.int v2), .val (.int v3), .val (.long v4), .second, .val (.int v5), .val (.int a0_), .val (.int a1_), .val (.int na), .unset, .unset, .unset, .unset, .unset, .unset, .unset, .unset, .unset, .unset, .unset] [(.int (1 : Int32))])) (fun k_ => XS.iconst X0.here hx rfl (hb hby at_35) k_) ?_
      refine own_st (T' := s₁) (g' := (mkF m 40 #[.val (.int v0), .val (.int v1), .val (.int v2), .val (.int v3), .val (.long v4), .second, .val (.int v5), .val (.int a0_), .val (.int a1_), .val (.int na), .unset, .unset, .unset, .unset, .unset, .unset, .unset, .unset, .unset, .unset, .unset] [(.int (1 : Int32))])) (fun k_ => XS.goto X0.here hx rfl (pc0 := 36) (pc' := 40) rfl (hb hby at_36) (by decide) (by decide) k_) ?_
      rw [show (if (v2 &&& (1 : Int32)) = (0 : Int32) then (0 : Int32) else (1 : Int32)) = (1 : Int32) from (if_neg c1)] at k_
      exact k_
  refine own_go (T' := s₁) (g' := (mkF m 42 #[.val (.int v0), .val (.int v1), .val (.int v2), .val (.int v3), .val (.long v4), .second, .val (.int v5), .val (.int a0_), .val (.int a1_), .val (.int na), .val (.int (if (v2 &&& (1 : Int32)) = (0 : Int32) then (0 : Int32) else (1 : Int32))), .unset, .unset, .unset, .unset, .unset, .unset, .unset, .unset, .unset, .unset] [])) (fun t_ k_ => XS.istore X0.here hx rfl (hb hby at_40) rfl (l' := #[.val (.int v0), .val (.int v1), .val (.int v2), .val (.int v3), .val (.long v4), .second, .val (.int v5), .val (.int a0_), .val (.int a1_), .val (.int na), .val (.int (if (v2 &&& (1 : Int32)) = (0 : Int32) then (0 : Int32) else (1 : Int32))), .unset, .unset, .unset, .unset, .unset, .unset, .unset, .unset, .unset, .unset]) rfl k_) ?_
  refine own_go (T' := s₁) (g' := (mkF m 44 #[.val (.int v0), .val (.int v1), .val (.int v2), .val (.int v3), .val (.long v4), .second, .val (.int v5), .val (.int a0_), .val (.int a1_), .val (.int na), .val (.int (if (v2 &&& (1 : Int32)) = (0 : Int32) then (0 : Int32) else (1 : Int32))), .unset, .unset, .unset, .unset, .unset, .unset, .unset, .unset, .unset, .unset] [(.int (if (v2 &&& (1 : Int32)) = (0 : Int32) then (0 : Int32) else (1 : Int32)))])) (fun t_ k_ => XS.iload X0.here hx rfl (hb hby at_42) rfl k_) ?_
  refine own_go (T' := s₁) (g' := (mkF m 58 #[.val (.int v0), .val (.int v1), .val (.int v2), .val (.int v3), .val (.long v4), .second, .val (.int v5), .val (.int a0_), .val (.int a1_), .val (.int na), .val (.int (if (v2 &&& (1 : Int32)) = (0 : Int32) then (0 : Int32) else (1 : Int32))), .unset, .unset, .unset, .unset, .unset, .unset, .unset, .unset, .unset, .unset] [(.int (if (v2 &&& (1 : Int32)) = (0 : Int32) then ((v1 &&& (255 : Int32)).toUInt32.toUInt16.toUInt32.toInt32) else a0_))])) (fun t_ k_ => ?_) ?_
  · show Steps p.tables e below (s₁.setTop (mkF m 44 #[.val (.int v0), .val (.int v1), .val (.int v2), .val (.int v3), .val (.long v4), .second, .val (.int v5), .val (.int a0_), .val (.int a1_), .val (.int na), .val (.int (if (v2 &&& (1 : Int32)) = (0 : Int32) then (0 : Int32) else (1 : Int32))), .unset, .unset, .unset, .unset, .unset, .unset, .unset, .unset, .unset, .unset] [(.int (if (v2 &&& (1 : Int32)) = (0 : Int32) then (0 : Int32) else (1 : Int32)))])) t_
    by_cases c2 : (v2 &&& (1 : Int32)) = (0 : Int32)
    · -- (v2 &&& (1 : Int32)) = (0 : Int32)
      refine own_st (T' := s₁) (g' := (mkF m 52 #[.val (.int v0), .val (.int v1), .val (.int v2), .val (.int v3), .val (.long v4), .second, .val (.int v5), .val (.int a0_), .val (.int a1_), .val (.int na), .val (.int (if (v2 &&& (1 : Int32)) = (0 : Int32) then (0 : Int32) else (1 : Int32))), .unset, .unset, .unset, .unset, .unset, .unset, .unset, .unset, .unset, .unset] [])) (fun k_ => XS.ifYes X0.here hx rfl (pc0 := 44) (pc' := 52) rfl (hb hby at_44) rfl ((if0 _ _).trans (teq (own_t0 c2)).1) (by decide) (by decide) k_) ?_
      refine own_st (T' := s₁) (g' := (mkF m 53 #[.val (.int v0), .val (.int v1), .val (.int v2), .val (.int v3), .val (.long v4), .second, .val (.int v5), .val (.int a0_), .val (.int a1_), .val (.int na), .val (.int (if (v2 &&& (1 : Int32)) = (0 : Int32) then (0 : Int32) else (1 : Int32))), .unset, .unset, .unset, .unset, .unset, .unset, .unset, .unset, .unset, .unset] [(.int v1)])) (fun k_ => XS.iloadN X0.here hx rfl (hb hby at_52) rfl k_) ?_
      refine own_st (T' := s₁) (g' := (mkF m 56 #[.val (.int v0), .val (.int v1), .val (.int v2), .val (.int v3), .val (.long v4), .second, .val (.int v5), .val (.int a0_), .val (.int a1_), .val (.int na), .val (.int (if (v2 &&& (1 : Int32)) = (0 : Int32) then (0 : Int32) else (1 : Int32))), .unset, .unset, .unset, .unset, .unset, .unset, .unset, .unset, .unset, .unset] [(.int (255 : Int32)), (.int v1)])) (fun k_ => XS.sipush X0.here hx rfl (hb hby at_53) k_) ?_
      refine own_st (T' := s₁) (g' := (mkF m 57 #[.val (.int v0), .val (.int v1), .val (.int v2), .val (.int v3), .val (.long v4), .second, .val (.int v5), .val (.int a0_), .val (.int a1_), .val (.int na), .val (.int (if (v2 &&& (1 : Int32)) = (0 : Int32) then (0 : Int32) else (1 : Int32))), .unset, .unset, .unset, .unset, .unset, .unset, .unset, .unset, .unset, .unset] [(.int (v1 &&& (255 : Int32)))])) (fun k_ => XS.iand X0.here hx rfl (hb hby at_56) rfl k_) ?_
      refine own_st (T' := s₁) (g' := (mkF m 58 #[.val (.int v0), .val (.int v1), .val (.int v2), .val (.int v3), .val (.long v4), .second, .val (.int v5), .val (.int a0_), .val (.int a1_), .val (.int na), .val (.int (if (v2 &&& (1 : Int32)) = (0 : Int32) then (0 : Int32) else (1 : Int32))), .unset, .unset, .unset, .unset, .unset, .unset, .unset, .unset, .unset, .unset] [(.int ((v1 &&& (255 : Int32)).toUInt32.toUInt16.toUInt32.toInt32))])) (fun k_ => XS.i2c X0.here hx rfl (hb hby at_57) rfl k_) ?_
      rw [show (if (v2 &&& (1 : Int32)) = (0 : Int32) then ((v1 &&& (255 : Int32)).toUInt32.toUInt16.toUInt32.toInt32) else a0_) = ((v1 &&& (255 : Int32)).toUInt32.toUInt16.toUInt32.toInt32) from (if_pos c2)] at k_
      exact k_
    · -- not (v2 &&& (1 : Int32)) = (0 : Int32)
      refine own_st (T' := s₁) (g' := (mkF m 47 #[.val (.int v0), .val (.int v1), .val (.int v2), .val (.int v3), .val (.long v4), .second, .val (.int v5), .val (.int a0_), .val (.int a1_), .val (.int na), .val (.int (if (v2 &&& (1 : Int32)) = (0 : Int32) then (0 : Int32) else (1 : Int32))), .unset, .unset, .unset, .unset, .unset, .unset, .unset, .unset, .unset, .unset] [])) (fun k_ => XS.ifNo X0.here hx rfl (hb hby at_44) rfl ((if0 _ _).trans (feq (own_f0 c2)).1) k_) ?_
      refine own_st (T' := s₁) (g' := (mkF m 49 #[.val (.int v0), .val (.int v1), .val (.int v2), .val (.int v3), .val (.long v4), .second, .val (.int v5), .val (.int a0_), .val (.int a1_), .val (.int na), .val (.int (if (v2 &&& (1 : Int32)) = (0 : Int32) then (0 : Int32) else (1 : Int32))), .unset, .unset, .unset, .unset, .unset, .unset, .unset, .unset, .unset, .unset] [(.int a0_)])) (fun k_ => XS.iload X0.here hx rfl (hb hby at_47) rfl k_) ?_
      refine own_st (T' := s₁) (g' := (mkF m 58 #[.val (.int v0), .val (.int v1), .val (.int v2), .val (.int v3), .val (.long v4), .second, .val (.int v5), .val (.int a0_), .val (.int a1_), .val (.int na), .val (.int (if (v2 &&& (1 : Int32)) = (0 : Int32) then (0 : Int32) else (1 : Int32))), .unset, .unset, .unset, .unset, .unset, .unset, .unset, .unset, .unset, .unset] [(.int a0_)])) (fun k_ => XS.goto X0.here hx rfl (pc0 := 49) (pc' := 58) rfl (hb hby at_49) (by decide) (by decide) k_) ?_
      rw [show (if (v2 &&& (1 : Int32)) = (0 : Int32) then ((v1 &&& (255 : Int32)).toUInt32.toUInt16.toUInt32.toInt32) else a0_) = a0_ from (if_neg c2)] at k_
      exact k_
  have h_b0_ : ¬ (if (v2 &&& (1 : Int32)) = (0 : Int32) then ((v1 &&& (255 : Int32)).toUInt32.toUInt16.toUInt32.toInt32) else a0_) < (0 : Int32) ∧ ¬ (255 : Int32) < (if (v2 &&& (1 : Int32)) = (0 : Int32) then ((v1 &&& (255 : Int32)).toUInt32.toUInt16.toUInt32.toInt32) else a0_) := by
    split
    · exact own_rng _
    · exact h_a0_
  generalize g_b0_ : (if (v2 &&& (1 : Int32)) = (0 : Int32) then ((v1 &&& (255 : Int32)).toUInt32.toUInt16.toUInt32.toInt32) else a0_) = b0_ at h_b0_ ⊢
  refine own_go (T' := s₁) (g' := (mkF m 60 #[.val (.int v0), .val (.int v1), .val (.int v2), .val (.int v3), .val (.long v4), .second, .val (.int v5), .val (.int a0_), .val (.int a1_), .val (.int na), .val (.int (if (v2 &&& (1 : Int32)) = (0 : Int32) then (0 : Int32) else (1 : Int32))), .val (.int b0_), .unset, .unset, .unset, .unset, .unset, .unset, .unset, .unset, .unset] [])) (fun t_ k_ => XS.istore X0.here hx rfl (hb hby at_58) rfl (l' := #[.val (.int v0), .val (.int v1), .val (.int v2), .val (.int v3), .val (.long v4), .second, .val (.int v5), .val (.int a0_), .val (.int a1_), .val (.int na), .val (.int (if (v2 &&& (1 : Int32)) = (0 : Int32) then (0 : Int32) else (1 : Int32))), .val (.int b0_), .unset, .unset, .unset, .unset, .unset, .unset, .unset, .unset, .unset]) rfl k_) ?_
  refine own_go (T' := s₁) (g' := (mkF m 62 #[.val (.int v0), .val (.int v1), .val (.int v2), .val (.int v3), .val (.long v4), .second, .val (.int v5), .val (.int a0_), .val (.int a1_), .val (.int na), .val (.int (if (v2 &&& (1 : Int32)) = (0 : Int32) then (0 : Int32) else (1 : Int32))), .val (.int b0_), .unset, .unset, .unset, .unset, .unset, .unset, .unset, .unset, .unset] [(.int (if (v2 &&& (1 : Int32)) = (0 : Int32) then (0 : Int32) else (1 : Int32)))])) (fun t_ k_ => XS.iload X0.here hx rfl (hb hby at_60) rfl k_) ?_
  refine own_go (T' := s₁) (g' := (mkF m 79 #[.val (.int v0), .val (.int v1), .val (.int v2), .val (.int v3), .val (.long v4), .second, .val (.int v5), .val (.int a0_), .val (.int a1_), .val (.int na), .val (.int (if (v2 &&& (1 : Int32)) = (0 : Int32) then (0 : Int32) else (1 : Int32))), .val (.int b0_), .unset, .unset, .unset, .unset, .unset, .unset, .unset, .unset, .unset] [(.int (if (v2 &&& (1 : Int32)) = (0 : Int32) then ((((v1.toUInt32 >>> ((8 : Int32) &&& 31).toUInt32).toInt32) &&& (255 : Int32)).toUInt32.toUInt16.toUInt32.toInt32) else a1_))])) (fun t_ k_ => ?_) ?_
  · show Steps p.tables e below (s₁.setTop (mkF m 62 #[.val (.int v0), .val (.int v1), .val (.int v2), .val (.int v3), .val (.long v4), .second, .val (.int v5), .val (.int a0_), .val (.int a1_), .val (.int na), .val (.int (if (v2 &&& (1 : Int32)) = (0 : Int32) then (0 : Int32) else (1 : Int32))), .val (.int b0_), .unset, .unset, .unset, .unset, .unset, .unset, .unset, .unset, .unset] [(.int (if (v2 &&& (1 : Int32)) = (0 : Int32) then (0 : Int32) else (1 : Int32)))])) t_
    by_cases c3 : (v2 &&& (1 : Int32)) = (0 : Int32)
    · -- (v2 &&& (1 : Int32)) = (0 : Int32)
      refine own_st (T' := s₁) (g' := (mkF m 70 #[.val (.int v0), .val (.int v1), .val (.int v2), .val (.int v3), .val (.long v4), .second, .val (.int v5), .val (.int a0_), .val (.int a1_), .val (.int na), .val (.int (if (v2 &&& (1 : Int32)) = (0 : Int32) then (0 : Int32) else (1 : Int32))), .val (.int b0_), .unset, .unset, .unset, .unset, .unset, .unset, .unset, .unset, .unset] [])) (fun k_ => XS.ifYes X0.here hx rfl (pc0 := 62) (pc' := 70) rfl (hb hby at_62) rfl ((if0 _ _).trans (teq (own_t0 c3)).1) (by decide) (by decide) k_) ?_
      refine own_st (T' := s₁) (g' := (mkF m 71 #[.val (.int v0), .val (.int v1), .val (.int v2), .val (.int v3), .val (.long v4), .second, .val (.int v5), .val (.int a0_), .val (.int a1_), .val (.int na), .val (.int (if (v2 &&& (1 : Int32)) = (0 : Int32) then (0 : Int32) else (1 : Int32))), .val (.int b0_), .unset, .unset, .unset, .unset, .unset, .unset, .unset, .unset, .unset] [(.int v1)])) (fun k_ => XS.iloadN X0.here hx rfl (hb hby at_70) rfl k_) ?_
      refine own_st (T' := s₁) (g' := (mkF m 73 #[.val (.int v0), .val (.int v1), .val (.int v2), .val (.int v3), .val (.long v4), .second, .val (.int v5), .val (.int a0_), .val (.int a1_), .val (.int na), .val (.int (if (v2 &&& (1 : Int32)) = (0 : Int32) then (0 : Int32) else (1 : Int32))), .val (.int b0_), .unset, .unset, .unset, .unset, .unset, .unset, .unset, .unset, .unset] [(.int (8 : Int32)), (.int v1)])) (fun k_ => XS.bipush X0.here hx rfl (hb hby at_71) k_) ?_
      refine own_st (T' := s₁) (g' := (mkF m 74 #[.val (.int v0), .val (.int v1), .val (.int v2), .val (.int v3), .val (.long v4), .second, .val (.int v5), .val (.int a0_), .val (.int a1_), .val (.int na), .val (.int (if (v2 &&& (1 : Int32)) = (0 : Int32) then (0 : Int32) else (1 : Int32))), .val (.int b0_), .unset, .unset, .unset, .unset, .unset, .unset, .unset, .unset, .unset] [(.int ((v1.toUInt32 >>> ((8 : Int32) &&& 31).toUInt32).toInt32))])) (fun k_ => XS.iushr X0.here hx rfl (hb hby at_73) rfl k_) ?_
      refine own_st (T' := s₁) (g' := (mkF m 77 #[.val (.int v0), .val (.int v1), .val (.int v2), .val (.int v3), .val (.long v4), .second, .val (.int v5), .val (.int a0_), .val (.int a1_), .val (.int na), .val (.int (if (v2 &&& (1 : Int32)) = (0 : Int32) then (0 : Int32) else (1 : Int32))), .val (.int b0_), .unset, .unset, .unset, .unset, .unset, .unset, .unset, .unset, .unset] [(.int (255 : Int32)), (.int ((v1.toUInt32 >>> ((8 : Int32) &&& 31).toUInt32).toInt32))])) (fun k_ => XS.sipush X0.here hx rfl (hb hby at_74) k_) ?_
      refine own_st (T' := s₁) (g' := (mkF m 78 #[.val (.int v0), .val (.int v1), .val (.int v2), .val (.int v3), .val (.long v4), .second, .val (.int v5), .val (.int a0_), .val (.int a1_), .val (.int na), .val (.int (if (v2 &&& (1 : Int32)) = (0 : Int32) then (0 : Int32) else (1 : Int32))), .val (.int b0_), .unset, .unset, .unset, .unset, .unset, .unset, .unset, .unset, .unset] [(.int (((v1.toUInt32 >>> ((8 : Int32) &&& 31).toUInt32).toInt32) &&& (255 : Int32)))])) (fun k_ => XS.iand X0.here hx rfl (hb hby at_77) rfl k_) ?_
      refine own_st (T' := s₁) (g' := (mkF m 79 #[.val (.int v0), .val (.int v1), .val (.int v2), .val (.int v3), .val (.long v4), .second, .val (.int v5), .val (.int a0_), .val (.int a1_), .val (.int na), .val (.int (if (v2 &&& (1 : Int32)) = (0 : Int32) then (0 : Int32) else (1 : Int32))), .val (.int b0_), .unset, .unset, .unset, .unset, .unset, .unset, .unset, .unset, .unset] [(.int ((((v1.toUInt32 >>> ((8 : Int32) &&& 31).toUInt32).toInt32) &&& (255 : Int32)).toUInt32.toUInt16.toUInt32.toInt32))])) (fun k_ => XS.i2c X0.here hx rfl (hb hby at_78) rfl k_) ?_
      rw [show (if (v2 &&& (1 : Int32)) = (0 : Int32) then ((((v1.toUInt32 >>> ((8 : Int32) &&& 31).toUInt32).toInt32) &&& (255 : Int32)).toUInt32.toUInt16.toUInt32.toInt32) else a1_) = ((((v1.toUInt32 >>> ((8 : Int32) &&& 31).toUInt32).toInt32) &&& (255 : Int32)).toUInt32.toUInt16.toUInt32.toInt32) from (if_pos c3)] at k_
      exact k_
    · -- not (v2 &&& (1 : Int32)) = (0 : Int32)
      refine own_st (T' := s₁) (g' := (mkF m 65 #[.val (.int v0), .val (.int v1), .val (.int v2), .val (.int v3), .val (.long v4), .second, .val (.int v5), .val (.int a0_), .val (.int a1_), .val (.int na), .val (.int (if (v2 &&& (1 : Int32)) = (0 : Int32) then (0 : Int32) else (1 : Int32))), .val (.int b0_), .unset, .unset, .unset, .unset, .unset, .unset, .unset, .unset, .unset] [])) (fun k_ => XS.ifNo X0.here hx rfl (hb hby at_62) rfl ((if0 _ _).trans (feq (own_f0 c3)).1) k_) ?_
      refine own_st (T' := s₁) (g' := (mkF m 67 #[.val (.int v0), .val (.int v1), .val (.int v2), .val (.int v3), .val (.long v4), .second, .val (.int v5), .val (.int a0_), .val (.int a1_), .val (.int na), .val (.int (if (v2 &&& (1 : Int32)) = (0 : Int32) then (0 : Int32) else (1 : Int32))), .val (.int b0_), .unset, .unset, .unset, .unset, .unset, .unset, .unset, .unset, .unset] [(.int a1_)])) (fun k_ => XS.iload X0.here hx rfl (hb hby at_65) rfl k_) ?_
      refine own_st (T' := s₁) (g' := (mkF m 79 #[.val (.int v0), .val (.int v1), .val (.int v2), .val (.int v3), .val (.long v4), .second, .val (.int v5), .val (.int a0_), .val (.int a1_), .val (.int na), .val (.int (if (v2 &&& (1 : Int32)) = (0 : Int32) then (0 : Int32) else (1 : Int32))), .val (.int b0_), .unset, .unset, .unset, .unset, .unset, .unset, .unset, .unset, .unset] [(.int a1_)])) (fun k_ => XS.goto X0.here hx rfl (pc0 := 67) (pc' := 79) rfl (hb hby at_67) (by decide) (by decide) k_) ?_
      rw [show (if (v2 &&& (1 : Int32)) = (0 : Int32) then ((((v1.toUInt32 >>> ((8 : Int32) &&& 31).toUInt32).toInt32) &&& (255 : Int32)).toUInt32.toUInt16.toUInt32.toInt32) else a1_) = a1_ from (if_neg c3)] at k_
      exact k_
  have h_b1_ : ¬ (if (v2 &&& (1 : Int32)) = (0 : Int32) then ((((v1.toUInt32 >>> ((8 : Int32) &&& 31).toUInt32).toInt32) &&& (255 : Int32)).toUInt32.toUInt16.toUInt32.toInt32) else a1_) < (0 : Int32) ∧ ¬ (255 : Int32) < (if (v2 &&& (1 : Int32)) = (0 : Int32) then ((((v1.toUInt32 >>> ((8 : Int32) &&& 31).toUInt32).toInt32) &&& (255 : Int32)).toUInt32.toUInt16.toUInt32.toInt32) else a1_) := by
    split
    · exact own_rng _
    · exact h_a1_
  generalize g_b1_ : (if (v2 &&& (1 : Int32)) = (0 : Int32) then ((((v1.toUInt32 >>> ((8 : Int32) &&& 31).toUInt32).toInt32) &&& (255 : Int32)).toUInt32.toUInt16.toUInt32.toInt32) else a1_) = b1_ at h_b1_ ⊢
  refine own_go (T' := s₁) (g' := (mkF m 81 #[.val (.int v0), .val (.int v1), .val (.int v2), .val (.int v3), .val (.long v4), .second, .val (.int v5), .val (.int a0_), .val (.int a1_), .val (.int na), .val (.int (if (v2 &&& (1 : Int32)) = (0 : Int32) then (0 : Int32) else (1 : Int32))), .val (.int b0_), .val (.int b1_), .unset, .unset, .unset, .unset, .unset, .unset, .unset, .unset] [])) (fun t_ k_ => XS.istore X0.here hx rfl (hb hby at_79) rfl (l' := #[.val (.int v0), .val (.int v1), .val (.int v2), .val (.int v3), .val (.long v4), .second, .val (.int v5), .val (.int a0_), .val (.int a1_), .val (.int na), .val (.int (if (v2 &&& (1 : Int32)) = (0 : Int32) then (0 : Int32) else (1 : Int32))), .val (.int b0_), .val (.int b1_), .unset, .unset, .unset, .unset, .unset, .unset, .unset, .unset]) rfl k_) ?_
  refine own_go (T' := s₁) (g' := (mkF m 83 #[.val (.int v0), .val (.int v1), .val (.int v2), .val (.int v3), .val (.long v4), .second, .val (.int v5), .val (.int a0_), .val (.int a1_), .val (.int na), .val (.int (if (v2 &&& (1 : Int32)) = (0 : Int32) then (0 : Int32) else (1 : Int32))), .val (.int b0_), .val (.int b1_), .unset, .unset, .unset, .unset, .unset, .unset, .unset, .unset] [(.int (if (v2 &&& (1 : Int32)) = (0 : Int32) then (0 : Int32) else (1 : Int32)))])) (fun t_ k_ => XS.iload X0.here hx rfl (hb hby at_81) rfl k_) ?_
  refine own_go (T' := s₁) (g' := (mkF m 99 #[.val (.int v0), .val (.int v1), .val (.int v2), .val (.int v3), .val (.long v4), .second, .val (.int v5), .val (.int a0_), .val (.int a1_), .val (.int na), .val (.int (if (v2 &&& (1 : Int32)) = (0 : Int32) then (0 : Int32) else (1 : Int32))), .val (.int b0_), .val (.int b1_), .unset, .unset, .unset, .unset, .unset, .unset, .unset, .unset] [(.int (if (v2 &&& (1 : Int32)) = (0 : Int32) then ((((v1.toUInt32 >>> ((16 : Int32) &&& 31).toUInt32).toInt32) &&& (3 : Int32)) % (3 : Int32)) else na))])) (fun t_ k_ => ?_) ?_
  · show Steps p.tables e below (s₁.setTop (mkF m 83 #[.val (.int v0), .val (.int v1), .val (.int v2), .val (.int v3), .val (.long v4), .second, .val (.int v5), .val (.int a0_), .val (.int a1_), .val (.int na), .val (.int (if (v2 &&& (1 : Int32)) = (0 : Int32) then (0 : Int32) else (1 : Int32))), .val (.int b0_), .val (.int b1_), .unset, .unset, .unset, .unset, .unset, .unset, .unset, .unset] [(.int (if (v2 &&& (1 : Int32)) = (0 : Int32) then (0 : Int32) else (1 : Int32)))])) t_
    by_cases c4 : (v2 &&& (1 : Int32)) = (0 : Int32)
    · -- (v2 &&& (1 : Int32)) = (0 : Int32)
      refine own_st (T' := s₁) (g' := (mkF m 91 #[.val (.int v0), .val (.int v1), .val (.int v2), .val (.int v3), .val (.long v4), .second, .val (.int v5), .val (.int a0_), .val (.int a1_), .val (.int na), .val (.int (if (v2 &&& (1 : Int32)) = (0 : Int32) then (0 : Int32) else (1 : Int32))), .val (.int b0_), .val (.int b1_), .unset, .unset, .unset, .unset, .unset, .unset, .unset, .unset] [])) (fun k_ => XS.ifYes X0.here hx rfl (pc0 := 83) (pc' := 91) rfl (hb hby at_83) rfl ((if0 _ _).trans (teq (own_t0 c4)).1) (by decide) (by decide) k_) ?_
      refine own_st (T' := s₁) (g' := (mkF m 92 #[.val (.int v0), .val (.int v1), .val (.int v2), .val (.int v3), .val (.long v4), .second, .val (.int v5), .val (.int a0_), .val (.int a1_), .val (.int na), .val (.int (if (v2 &&& (1 : Int32)) = (0 : Int32) then (0 : Int32) else (1 : Int32))), .val (.int b0_), .val (.int b1_), .unset, .unset, .unset, .unset, .unset, .unset, .unset, .unset] [(.int v1)])) (fun k_ => XS.iloadN X0.here hx rfl (hb hby at_91) rfl k_) ?_
      refine own_st (T' := s₁) (g' := (mkF m 94 #[.val (.int v0), .val (.int v1), .val (.int v2), .val (.int v3), .val (.long v4), .second, .val (.int v5), .val (.int a0_), .val (.int a1_), .val (.int na), .val (.int (if (v2 &&& (1 : Int32)) = (0 : Int32) then (0 : Int32) else (1 : Int32))), .val (.int b0_), .val (.int b1_), .unset, .unset, .unset, .unset, .unset, .unset, .unset, .unset] [(.int (16 : Int32)), (.int v1)])) (fun k_ => XS.bipush X0.here hx rfl (hb hby at_92) k_) ?_
      refine own_st (T' := s₁) (g' := (mkF m 95 #[.val (.int v0), .val (.int v1), .val (.int v2), .val (.int v3), .val (.long v4), .second, .val (.int v5), .val (.int a0_), .val (.int a1_), .val (.int na), .val (.int (if (v2 &&& (1 : Int32)) = (0 : Int32) then (0 : Int32) else (1 : Int32))), .val (.int b0_), .val (.int b1_), .unset, .unset, .unset, .unset, .unset, .unset, .unset, .unset] [(.int ((v1.toUInt32 >>> ((16 : Int32) &&& 31).toUInt32).toInt32))])) (fun k_ => XS.iushr X0.here hx rfl (hb hby at_94) rfl k_) ?_
      refine own_st (T' := s₁) (g' := (mkF m 96 #[.val (.int v0), .val (.int v1), .val (.int v2), .val (.int v3), .val (.long v4), .second, .val (.int v5), .val (.int a0_), .val (.int a1_), .val (.int na), .val (.int (if (v2 &&& (1 : Int32)) = (0 : Int32) then (0 : Int32) else (1 : Int32))), .val (.int b0_), .val (.int b1_), .unset, .unset, .unset, .unset, .unset, .unset, .unset, .unset] [(.int (3 : Int32)), (.int ((v1.toUInt32 >>> ((16 : Int32) &&& 31).toUInt32).toInt32))])) (fun k_ => XS.iconst X0.here hx rfl (hb hby at_95) k_) ?_
      refine own_st (T' := s₁) (g' := (mkF m 97 #[.val (.int v0), .val (.int v1), .val (.int v2), .val (.int v3), .val (.long v4), .second, .val (.int v5), .val (.int a0_), .val (.int a1_), .val (.int na), .val (.int (if (v2 &&& (1 : Int32)) = (0 : Int32) then (0 : Int32) else (1 : Int32))), .val (.int b0_), .val (.int b1_), .unset, .unset, .unset, .unset, .unset, .unset, .unset, .unset] [(.int (((v1.toUInt32 >>> ((16 : Int32) &&& 31).toUInt32).toInt32) &&& (3 : Int32)))])) (fun k_ => XS.iand X0.here hx rfl (hb hby at_96) rfl k_) ?_
      refine own_st (T' := s₁) (g' := (mkF m 98 #[.val (.int v0), .val (.int v1), .val (.int v2), .val (.int v3), .val (.long v4), .second, .val (.int v5), .val (.int a0_), .val (.int a1_), .val (.int na), .val (.int (if (v2 &&& (1 : Int32)) = (0 : Int32) then (0 : Int32) else (1 : Int32))), .val (.int b0_), .val (.int b1_), .unset, .unset, .unset, .unset, .unset, .unset, .unset, .unset] [(.int (3 : Int32)), (.int (((v1.toUInt32 >>> ((16 : Int32) &&& 31).toUInt32).toInt32) &&& (3 : Int32)))])) (fun k_ => XS.iconst X0.here hx rfl (hb hby at_97) k_) ?_
      refine own_st (T' := s₁) (g' := (mkF m 99 #[.val (.int v0), .val (.int v1), .val (.int v2), .val (.int v3), .val (.long v4), .second, .val (.int v5), .val (.int a0_), .val (.int a1_), .val (.int na), .val (.int (if (v2 &&& (1 : Int32)) = (0 : Int32) then (0 : Int32) else (1 : Int32))), .val (.int b0_), .val (.int b1_), .unset, .unset, .unset, .unset, .unset, .unset, .unset, .unset] [(.int ((((v1.toUInt32 >>> ((16 : Int32) &&& 31).toUInt32).toInt32) &&& (3 : Int32)) % (3 : Int32)))])) (fun k_ => iremM (g := (mkF m 98 #[.val (.int v0), .val (.int v1), .val (.int v2), .val (.int v3), .val (.long v4), .second, .val (.int v5), .val (.int a0_), .val (.int a1_), .val (.int na), .val (.int (if (v2 &&& (1 : Int32)) = (0 : Int32) then (0 : Int32) else (1 : Int32))), .val (.int b0_), .val (.int b1_), .unset, .unset, .unset, .unset, .unset, .unset, .unset, .unset] [(.int (3 : Int32)), (.int (((v1.toUInt32 >>> ((16 : Int32) &&& 31).toUInt32).toInt32) &&& (3 : Int32)))])) X0 hx rfl (hb hby at_98) rfl (by decide) k_) ?_
      rw [show (if (v2 &&& (1 : Int32)) = (0 : Int32) then ((((v1.toUInt32 >>> ((16 : Int32) &&& 31).toUInt32).toInt32) &&& (3 : Int32)) % (3 : Int32)) else na) = ((((v1.toUInt32 >>> ((16 : Int32) &&& 31).toUInt32).toInt32) &&& (3 : Int32)) % (3 : Int32)) from (if_pos c4)] at k_
      exact k_
    · -- not (v2 &&& (1 : Int32)) = (0 : Int32)
      refine own_st (T' := s₁) (g' := (mkF m 86 #[.val (.int v0), .val (.int v1), .val (.int v2), .val (.int v3), .val (.long v4), .second, .val (.int v5), .val (.int a0_), .val (.int a1_), .val (.int na), .val (.int (if (v2 &&& (1 : Int32)) = (0 : Int32) then (0 : Int32) else (1 : Int32))), .val (.int b0_), .val (.int b1_), .unset, .unset, .unset, .unset, .unset, .unset, .unset, .unset] [])) (fun k_ => XS.ifNo X0.here hx rfl (hb hby at_83) rfl ((if0 _ _).trans (feq (own_f0 c4)).1) k_) ?_
      refine own_st (T' := s₁) (g' := (mkF m 88 #[.val (.int v0), .val (.int v1), .val (.int v2), .val (.int v3), .val (.long v4), .second, .val (.int v5), .val (.int a0_), .val (.int a1_), .val (.int na), .val (.int (if (v2 &&& (1 : Int32)) = (0 : Int32) then (0 : Int32) else (1 : Int32))), .val (.int b0_), .val (.int b1_), .unset, .unset, .unset, .unset, .unset, .unset, .unset, .unset] [(.int na)])) (fun k_ => XS.iload X0.here hx rfl (hb hby at_86) rfl k_) ?_
      refine own_st (T' := s₁) (g' := (mkF m 99 #[.val (.int v0), .val (.int v1), .val (.int v2), .val (.int v3), .val (.long v4), .second, .val (.int v5), .val (.int a0_), .val (.int a1_), .val (.int na), .val (.int (if (v2 &&& (1 : Int32)) = (0 : Int32) then (0 : Int32) else (1 : Int32))), .val (.int b0_), .val (.int b1_), .unset, .unset, .unset, .unset, .unset, .unset, .unset, .unset] [(.int na)])) (fun k_ => XS.goto X0.here hx rfl (pc0 := 88) (pc' := 99) rfl (hb hby at_88) (by decide) (by decide) k_) ?_
      rw [show (if (v2 &&& (1 : Int32)) = (0 : Int32) then ((((v1.toUInt32 >>> ((16 : Int32) &&& 31).toUInt32).toInt32) &&& (3 : Int32)) % (3 : Int32)) else na) = na from (if_neg c4)] at k_
      exact k_
  have h_nb : (if (v2 &&& (1 : Int32)) = (0 : Int32) then ((((v1.toUInt32 >>> ((16 : Int32) &&& 31).toUInt32).toInt32) &&& (3 : Int32)) % (3 : Int32)) else na) = (0 : Int32) ∨ (if (v2 &&& (1 : Int32)) = (0 : Int32) then ((((v1.toUInt32 >>> ((16 : Int32) &&& 31).toUInt32).toInt32) &&& (3 : Int32)) % (3 : Int32)) else na) = (1 : Int32) ∨ (if (v2 &&& (1 : Int32)) = (0 : Int32) then ((((v1.toUInt32 >>> ((16 : Int32) &&& 31).toUInt32).toInt32) &&& (3 : Int32)) % (3 : Int32)) else na) = (2 : Int32) := by
    split
    · exact own_kind _
    · exact h_na
  generalize g_nb : (if (v2 &&& (1 : Int32)) = (0 : Int32) then ((((v1.toUInt32 >>> ((16 : Int32) &&& 31).toUInt32).toInt32) &&& (3 : Int32)) % (3 : Int32)) else na) = nb at h_nb ⊢
  refine own_go (T' := s₁) (g' := (mkF m 101 #[.val (.int v0), .val (.int v1), .val (.int v2), .val (.int v3), .val (.long v4), .second, .val (.int v5), .val (.int a0_), .val (.int a1_), .val (.int na), .val (.int (if (v2 &&& (1 : Int32)) = (0 : Int32) then (0 : Int32) else (1 : Int32))), .val (.int b0_), .val (.int b1_), .val (.int nb), .unset, .unset, .unset, .unset, .unset, .unset, .unset] [])) (fun t_ k_ => XS.istore X0.here hx rfl (hb hby at_99) rfl (l' := #[.val (.int v0), .val (.int v1), .val (.int v2), .val (.int v3), .val (.long v4), .second, .val (.int v5), .val (.int a0_), .val (.int a1_), .val (.int na), .val (.int (if (v2 &&& (1 : Int32)) = (0 : Int32) then (0 : Int32) else (1 : Int32))), .val (.int b0_), .val (.int b1_), .val (.int nb), .unset, .unset, .unset, .unset, .unset, .unset, .unset]) rfl k_) ?_
  refine own_go (T' := s₁) (g' := (mkF m 103 #[.val (.int v0), .val (.int v1), .val (.int v2), .val (.int v3), .val (.long v4), .second, .val (.int v5), .val (.int a0_), .val (.int a1_), .val (.int na), .val (.int (if (v2 &&& (1 : Int32)) = (0 : Int32) then (0 : Int32) else (1 : Int32))), .val (.int b0_), .val (.int b1_), .val (.int nb), .unset, .unset, .unset, .unset, .unset, .unset, .unset] [(.int na)])) (fun t_ k_ => XS.iload X0.here hx rfl (hb hby at_101) rfl k_) ?_
  refine own_go (T' := s₁) (g' := (mkF m 105 #[.val (.int v0), .val (.int v1), .val (.int v2), .val (.int v3), .val (.long v4), .second, .val (.int v5), .val (.int a0_), .val (.int a1_), .val (.int na), .val (.int (if (v2 &&& (1 : Int32)) = (0 : Int32) then (0 : Int32) else (1 : Int32))), .val (.int b0_), .val (.int b1_), .val (.int nb), .unset, .unset, .unset, .unset, .unset, .unset, .unset] [(.int a0_), (.int na)])) (fun t_ k_ => XS.iload X0.here hx rfl (hb hby at_103) rfl k_) ?_
  refine own_go (T' := s₁) (g' := (mkF m 107 #[.val (.int v0), .val (.int v1), .val (.int v2), .val (.int v3), .val (.long v4), .second, .val (.int v5), .val (.int a0_), .val (.int a1_), .val (.int na), .val (.int (if (v2 &&& (1 : Int32)) = (0 : Int32) then (0 : Int32) else (1 : Int32))), .val (.int b0_), .val (.int b1_), .val (.int nb), .unset, .unset, .unset, .unset, .unset, .unset, .unset] [(.int a1_), (.int a0_), (.int na)])) (fun t_ k_ => XS.iload X0.here hx rfl (hb hby at_105) rfl k_) ?_
  obtain ⟨_, _, ⟨T5, L5, k5, n5⟩, -, X5_, h25, gr5, ⟨Lc5, hQ5, l5, y5, z5⟩, st5⟩ := callSS X0 hx (y := (⟨"com/example/crownsworn/crownsworn/model/AdventureCardEqualsPinLaw", "mk", "(ICC)Ljava/lang/String;"⟩ : MethodName)) hown (mvT hZ (hw _ (List.mem_of_getElem? (i := 0) rfl))) (mvT hZ (hw _ (List.mem_of_getElem? (i := 1) rfl))) (mvT hZ (hw _ (List.mem_of_getElem? (i := 2) rfl))) (mvT hZ (hw _ (List.mem_of_getElem? (i := 3) rfl))) (by decide) (own_backV (W := 0) (I := fun vm => own_LitSt Z n0 "com/example/crownsworn/crownsworn/model/AdventureCardEqualsPinLaw" 7 [] vm h0) (fun vm hW => own_LitSt.warm (s := (s.setVm s.vm)) (Or.inl hLS) hW) (rm_mk l Z a0 hw [] na a0_ a1_ n0 cz h0 n0 (show n0 ≤ h0.size by omega) O0 S_COMPACT_STRINGS hcz h_a0_ h_a1_ (show n0 ≤ h0.size by omega) hheld hcw) hZ (hw _ (List.mem_of_getElem? (i := 3) rfl)) (hw _ (List.mem_of_getElem? (i := 2) rfl)) (by decide) (by decide)) (g := (mkF m 107 #[.val (.int v0), .val (.int v1), .val (.int v2), .val (.int v3), .val (.long v4), .second, .val (.int v5), .val (.int a0_), .val (.int a1_), .val (.int na), .val (.int (if (v2 &&& (1 : Int32)) = (0 : Int32) then (0 : Int32) else (1 : Int32))), .val (.int b0_), .val (.int b1_), .val (.int nb), .unset, .unset, .unset, .unset, .unset, .unset, .unset] [(.int a1_), (.int a0_), (.int na)])) rfl (by rw [hml]; rfl) (argsL := [(.int na), (.int a0_), (.int a1_)]) (rest := []) (lenOf pd_7 rfl) rfl (by show 2 * 0 + _ ≤ _; exact Nat.le_of_eq rfl) (hb hby at_107) (fun _ _ => ⟨rfl, e0, (by decide : 0 + 3 ≤ _), (by decide : 0 + 8 ≤ _)⟩)
  dsimp only [Pt.U, Pt.locs, Pt.cells, Pt.slots] at X5_ h25 gr5 l5 y5 z5 st5 hQ5
  subst l5 y5 z5
  obtain ⟨X5, hS, hZ, hown⟩ := rebS hS (show _ ≤ s₁.heap.size by rw [e0]; omega) X5_ h25 gr5 hZ hown
  have hk : T5.heap.size ≤ T5.heap.size := Nat.le_refl _
  obtain ⟨b5, rfl, M5, K5_, f5_0, LS5⟩ := hQ5
  have zz5 := K5_.1
  have O5 := O0.keep K5_ all0
  have N5 := Fr.app N0 M5
  have ltsf5_0 := own_ltN f5_0.lt
  refine own_go (T' := T5) (g' := (mkF m 110 #[.val (.int v0), .val (.int v1), .val (.int v2), .val (.int v3), .val (.long v4), .second, .val (.int v5), .val (.int a0_), .val (.int a1_), .val (.int na), .val (.int (if (v2 &&& (1 : Int32)) = (0 : Int32) then (0 : Int32) else (1 : Int32))), .val (.int b0_), .val (.int b1_), .val (.int nb), .unset, .unset, .unset, .unset, .unset, .unset, .unset] [(.ref b5)])) (fun t_ k_ => st5.trans k_) ?_
  refine own_go (T' := T5) (g' := (mkF m 112 #[.val (.int v0), .val (.int v1), .val (.int v2), .val (.int v3), .val (.long v4), .second, .val (.int v5), .val (.int a0_), .val (.int a1_), .val (.int na), .val (.int (if (v2 &&& (1 : Int32)) = (0 : Int32) then (0 : Int32) else (1 : Int32))), .val (.int b0_), .val (.int b1_), .val (.int nb), .val (.ref b5), .unset, .unset, .unset, .unset, .unset, .unset] [])) (fun t_ k_ => XS.astore X5.here hx rfl (hb hby at_110) rfl rfl (l' := #[.val (.int v0), .val (.int v1), .val (.int v2), .val (.int v3), .val (.long v4), .second, .val (.int v5), .val (.int a0_), .val (.int a1_), .val (.int na), .val (.int (if (v2 &&& (1 : Int32)) = (0 : Int32) then (0 : Int32) else (1 : Int32))), .val (.int b0_), .val (.int b1_), .val (.int nb), .val (.ref b5), .unset, .unset, .unset, .unset, .unset, .unset]) rfl k_) ?_
  refine own_go (T' := T5) (g' := (mkF m 114 #[.val (.int v0), .val (.int v1), .val (.int v2), .val (.int v3), .val (.long v4), .second, .val (.int v5), .val (.int a0_), .val (.int a1_), .val (.int na), .val (.int (if (v2 &&& (1 : Int32)) = (0 : Int32) then (0 : Int32) else (1 : Int32))), .val (.int b0_), .val (.int b1_), .val (.int nb), .val (.ref b5), .unset, .unset, .unset, .unset, .unset, .unset] [(.int nb)])) (fun t_ k_ => XS.iload X5.here hx rfl (hb hby at_112) rfl k_) ?_
  refine own_go (T' := T5) (g' := (mkF m 116 #[.val (.int v0), .val (.int v1), .val (.int v2), .val (.int v3), .val (.long v4), .second, .val (.int v5), .val (.int a0_), .val (.int a1_), .val (.int na), .val (.int (if (v2 &&& (1 : Int32)) = (0 : Int32) then (0 : Int32) else (1 : Int32))), .val (.int b0_), .val (.int b1_), .val (.int nb), .val (.ref b5), .unset, .unset, .unset, .unset, .unset, .unset] [(.int b0_), (.int nb)])) (fun t_ k_ => XS.iload X5.here hx rfl (hb hby at_114) rfl k_) ?_
  refine own_go (T' := T5) (g' := (mkF m 118 #[.val (.int v0), .val (.int v1), .val (.int v2), .val (.int v3), .val (.long v4), .second, .val (.int v5), .val (.int a0_), .val (.int a1_), .val (.int na), .val (.int (if (v2 &&& (1 : Int32)) = (0 : Int32) then (0 : Int32) else (1 : Int32))), .val (.int b0_), .val (.int b1_), .val (.int nb), .val (.ref b5), .unset, .unset, .unset, .unset, .unset, .unset] [(.int b1_), (.int b0_), (.int nb)])) (fun t_ k_ => XS.iload X5.here hx rfl (hb hby at_116) rfl k_) ?_
  obtain ⟨_, _, ⟨T6, L6, k6, n6⟩, -, X6_, h26, gr6, ⟨Lc6, hQ6, l6, y6, z6⟩, st6⟩ := callSS X5 hx (y := (⟨"com/example/crownsworn/crownsworn/model/AdventureCardEqualsPinLaw", "mk", "(ICC)Ljava/lang/String;"⟩ : MethodName)) hown (mvT hZ (hw _ (List.mem_of_getElem? (i := 0) rfl))) (mvT hZ (hw _ (List.mem_of_getElem? (i := 1) rfl))) (mvT hZ (hw _ (List.mem_of_getElem? (i := 2) rfl))) (mvT hZ (hw _ (List.mem_of_getElem? (i := 3) rfl))) (by decide) (own_backV (W := 0) (I := fun vm => own_LitSt Z T5.heap.size "com/example/crownsworn/crownsworn/model/AdventureCardEqualsPinLaw" 7 [] vm T5.heap) (fun vm hW => own_LitSt.warm (s := (s.setVm T5.vm)) LS5 hW) (rm_mk l Z a0 hw [] nb b0_ b1_ T5.heap.size cz T5.heap n0 (show n0 ≤ T5.heap.size by omega) O5 S_COMPACT_STRINGS hcz h_b0_ h_b1_ (show T5.heap.size ≤ T5.heap.size by omega) hheld hcw) hZ (hw _ (List.mem_of_getElem? (i := 3) rfl)) (hw _ (List.mem_of_getElem? (i := 2) rfl)) (by decide) (by decide)) (g := (mkF m 118 #[.val (.int v0), .val (.int v1), .val (.int v2), .val (.int v3), .val (.long v4), .second, .val (.int v5), .val (.int a0_), .val (.int a1_), .val (.int na), .val (.int (if (v2 &&& (1 : Int32)) = (0 : Int32) then (0 : Int32) else (1 : Int32))), .val (.int b0_), .val (.int b1_), .val (.int nb), .val (.ref b5), .unset, .unset, .unset, .unset, .unset, .unset] [(.int b1_), (.int b0_), (.int nb)])) rfl (by rw [hml]; rfl) (argsL := [(.int nb), (.int b0_), (.int b1_)]) (rest := []) (lenOf pd_7 rfl) rfl (by show 2 * 0 + _ ≤ _; exact Nat.le_of_eq rfl) (hb hby at_118) (fun _ _ => ⟨rfl, rfl, (by decide : 3 + 3 ≤ _), (by decide : 8 + 8 ≤ _)⟩)
  dsimp only [Pt.U, Pt.locs, Pt.cells, Pt.slots] at X6_ h26 gr6 l6 y6 z6 st6 hQ6
  subst l6 y6 z6
  obtain ⟨X6, hS, hZ, hown⟩ := rebS hS (show _ ≤ T5.heap.size by omega) X6_ h26 gr6 hZ hown
  have hk : T6.heap.size ≤ T6.heap.size := Nat.le_refl _
  obtain ⟨b6, rfl, M6, K6_, f6_0, LS6⟩ := hQ6
  have zz6 := K6_.1
  have O6 := O5.keep K6_ all0
  have N6 := Fr.app N5 M6
  have ltsf6_0 := own_ltN f6_0.lt
  refine own_go (T' := T6) (g' := (mkF m 121 #[.val (.int v0), .val (.int v1), .val (.int v2), .val (.int v3), .val (.long v4), .second, .val (.int v5), .val (.int a0_), .val (.int a1_), .val (.int na), .val (.int (if (v2 &&& (1 : Int32)) = (0 : Int32) then (0 : Int32) else (1 : Int32))), .val (.int b0_), .val (.int b1_), .val (.int nb), .val (.ref b5), .unset, .unset, .unset, .unset, .unset, .unset] [(.ref b6)])) (fun t_ k_ => st6.trans k_) ?_
  refine own_go (T' := T6) (g' := (mkF m 123 #[.val (.int v0), .val (.int v1), .val (.int v2), .val (.int v3), .val (.long v4), .second, .val (.int v5), .val (.int a0_), .val (.int a1_), .val (.int na), .val (.int (if (v2 &&& (1 : Int32)) = (0 : Int32) then (0 : Int32) else (1 : Int32))), .val (.int b0_), .val (.int b1_), .val (.int nb), .val (.ref b5), .val (.ref b6), .unset, .unset, .unset, .unset, .unset] [])) (fun t_ k_ => XS.astore X6.here hx rfl (hb hby at_121) rfl rfl (l' := #[.val (.int v0), .val (.int v1), .val (.int v2), .val (.int v3), .val (.long v4), .second, .val (.int v5), .val (.int a0_), .val (.int a1_), .val (.int na), .val (.int (if (v2 &&& (1 : Int32)) = (0 : Int32) then (0 : Int32) else (1 : Int32))), .val (.int b0_), .val (.int b1_), .val (.int nb), .val (.ref b5), .val (.ref b6), .unset, .unset, .unset, .unset, .unset]) rfl k_) ?_
  obtain ⟨T7, h7, X7, e7, E7, A7, D7, -, st7⟩ := newO X6 hx hZ hown (hw _ (List.mem_of_getElem? (i := 12) rfl)) (hw _ (List.mem_of_getElem? (i := 13) rfl)) (hw _ (List.mem_of_getElem? (i := 14) rfl)) rfl (g := (mkF m 123 #[.val (.int v0), .val (.int v1), .val (.int v2), .val (.int v3), .val (.long v4), .second, .val (.int v5), .val (.int a0_), .val (.int a1_), .val (.int na), .val (.int (if (v2 &&& (1 : Int32)) = (0 : Int32) then (0 : Int32) else (1 : Int32))), .val (.int b0_), .val (.int b1_), .val (.int nb), .val (.ref b5), .val (.ref b6), .unset, .unset, .unset, .unset, .unset] [])) rfl (hb hby at_123) (by decide) (by decide)
  obtain ⟨b7, g7⟩ : ∃ z, z = T6.heap.size := ⟨_, rfl⟩
  rw [← g7] at A7 D7 st7
  have l7 := own_ltN A7.lt
  have z7 := E7.1
  have O7 := O6.ext E7
  have F7_id : Fld Z h7 b7 "com/example/crownsworn/crownsworn/model/AdventureCard" "id" "Ljava/lang/String;" .null := D7 (Or.inr (hw _ (List.mem_of_getElem? (i := 52) rfl))) (ty := (.object "java/lang/String")) (by decide)
  have F7_title : Fld Z h7 b7 "com/example/crownsworn/crownsworn/model/AdventureCard" "title" "Ljava/lang/String;" .null := D7 (Or.inr (hw _ (List.mem_of_getElem? (i := 55) rfl))) (ty := (.object "java/lang/String")) (by decide)
  have F7_destination : Fld Z h7 b7 "com/example/crownsworn/crownsworn/model/AdventureCard" "destination" "Ljava/lang/String;" .null := D7 (Or.inr (hw _ (List.mem_of_getElem? (i := 58) rfl))) (ty := (.object "java/lang/String")) (by decide)
  have F7_length : Fld Z h7 b7 "com/example/crownsworn/crownsworn/model/AdventureCard" "length" "I" (.int (0 : Int32)) := D7 (Or.inr (hw _ (List.mem_of_getElem? (i := 60) rfl))) (ty := .int) (by decide)
  refine own_go (T' := T7) (g' := (mkF m 126 #[.val (.int v0), .val (.int v1), .val (.int v2), .val (.int v3), .val (.long v4), .second, .val (.int v5), .val (.int a0_), .val (.int a1_), .val (.int na), .val (.int (if (v2 &&& (1 : Int32)) = (0 : Int32) then (0 : Int32) else (1 : Int32))), .val (.int b0_), .val (.int b1_), .val (.int nb), .val (.ref b5), .val (.ref b6), .unset, .unset, .unset, .unset, .unset] [(.ref b7)])) (fun t_ k_ => st7 _ k_) ?_
  refine own_go (T' := T7) (g' := (mkF m 127 #[.val (.int v0), .val (.int v1), .val (.int v2), .val (.int v3), .val (.long v4), .second, .val (.int v5), .val (.int a0_), .val (.int a1_), .val (.int na), .val (.int (if (v2 &&& (1 : Int32)) = (0 : Int32) then (0 : Int32) else (1 : Int32))), .val (.int b0_), .val (.int b1_), .val (.int nb), .val (.ref b5), .val (.ref b6), .unset, .unset, .unset, .unset, .unset] [(.ref b7), (.ref b7)])) (fun t_ k_ => XS.dup X7.here hx rfl (hb hby at_126) rfl rfl k_) ?_
  refine own_go (T' := T7) (g' := (mkF m 129 #[.val (.int v0), .val (.int v1), .val (.int v2), .val (.int v3), .val (.long v4), .second, .val (.int v5), .val (.int a0_), .val (.int a1_), .val (.int na), .val (.int (if (v2 &&& (1 : Int32)) = (0 : Int32) then (0 : Int32) else (1 : Int32))), .val (.int b0_), .val (.int b1_), .val (.int nb), .val (.ref b5), .val (.ref b6), .unset, .unset, .unset, .unset, .unset] [(.ref b5), (.ref b7), (.ref b7)])) (fun t_ k_ => XS.aload X7.here hx rfl (hb hby at_127) rfl rfl k_) ?_
  refine own_go (T' := T7) (g' := (mkF m 130 #[.val (.int v0), .val (.int v1), .val (.int v2), .val (.int v3), .val (.long v4), .second, .val (.int v5), .val (.int a0_), .val (.int a1_), .val (.int na), .val (.int (if (v2 &&& (1 : Int32)) = (0 : Int32) then (0 : Int32) else (1 : Int32))), .val (.int b0_), .val (.int b1_), .val (.int nb), .val (.ref b5), .val (.ref b6), .unset, .unset, .unset, .unset, .unset] [(.int v2), (.ref b5), (.ref b7), (.ref b7)])) (fun t_ k_ => XS.iloadN X7.here hx rfl (hb hby at_129) rfl k_) ?_
  refine own_go (T' := T7) (g' := (mkF m 132 #[.val (.int v0), .val (.int v1), .val (.int v2), .val (.int v3), .val (.long v4), .second, .val (.int v5), .val (.int a0_), .val (.int a1_), .val (.int na), .val (.int (if (v2 &&& (1 : Int32)) = (0 : Int32) then (0 : Int32) else (1 : Int32))), .val (.int b0_), .val (.int b1_), .val (.int nb), .val (.ref b5), .val (.ref b6), .unset, .unset, .unset, .unset, .unset] [(.int (8 : Int32)), (.int v2), (.ref b5), (.ref b7), (.ref b7)])) (fun t_ k_ => XS.bipush X7.here hx rfl (hb hby at_130) k_) ?_
  refine own_go (T' := T7) (g' := (mkF m 133 #[.val (.int v0), .val (.int v1), .val (.int v2), .val (.int v3), .val (.long v4), .second, .val (.int v5), .val (.int a0_), .val (.int a1_), .val (.int na), .val (.int (if (v2 &&& (1 : Int32)) = (0 : Int32) then (0 : Int32) else (1 : Int32))), .val (.int b0_), .val (.int b1_), .val (.int nb), .val (.ref b5), .val (.ref b6), .unset, .unset, .unset, .unset, .unset] [(.int ((v2.toUInt32 >>> ((8 : Int32) &&& 31).toUInt32).toInt32)), (.ref b5), (.ref b7), (.ref b7)])) (fun t_ k_ => XS.iushr X7.here hx rfl (hb hby at_132) rfl k_) ?_
  refine own_go (T' := T7) (g' := (mkF m 136 #[.val (.int v0), .val (.int v1), .val (.int v2), .val (.int v3), .val (.long v4), .second, .val (.int v5), .val (.int a0_), .val (.int a1_), .val (.int na), .val (.int (if (v2 &&& (1 : Int32)) = (0 : Int32) then (0 : Int32) else (1 : Int32))), .val (.int b0_), .val (.int b1_), .val (.int nb), .val (.ref b5), .val (.ref b6), .unset, .unset, .unset, .unset, .unset] [(.int (255 : Int32)), (.int ((v2.toUInt32 >>> ((8 : Int32) &&& 31).toUInt32).toInt32)), (.ref b5), (.ref b7), (.ref b7)])) (fun t_ k_ => XS.sipush X7.here hx rfl (hb hby at_133) k_) ?_
  refine own_go (T' := T7) (g' := (mkF m 137 #[.val (.int v0), .val (.int v1), .val (.int v2), .val (.int v3), .val (.long v4), .second, .val (.int v5), .val (.int a0_), .val (.int a1_), .val (.int na), .val (.int (if (v2 &&& (1 : Int32)) = (0 : Int32) then (0 : Int32) else (1 : Int32))), .val (.int b0_), .val (.int b1_), .val (.int nb), .val (.ref b5), .val (.ref b6), .unset, .unset, .unset, .unset, .unset] [(.int (((v2.toUInt32 >>> ((8 : Int32) &&& 31).toUInt32).toInt32) &&& (255 : Int32))), (.ref b5), (.ref b7), (.ref b7)])) (fun t_ k_ => XS.iand X7.here hx rfl (hb hby at_136) rfl k_) ?_
  refine own_go (T' := T7) (g' := (mkF m 138 #[.val (.int v0), .val (.int v1), .val (.int v2), .val (.int v3), .val (.long v4), .second, .val (.int v5), .val (.int a0_), .val (.int a1_), .val (.int na), .val (.int (if (v2 &&& (1 : Int32)) = (0 : Int32) then (0 : Int32) else (1 : Int32))), .val (.int b0_), .val (.int b1_), .val (.int nb), .val (.ref b5), .val (.ref b6), .unset, .unset, .unset, .unset, .unset] [(.int ((((v2.toUInt32 >>> ((8 : Int32) &&& 31).toUInt32).toInt32) &&& (255 : Int32)).toUInt32.toUInt16.toUInt32.toInt32)), (.ref b5), (.ref b7), (.ref b7)])) (fun t_ k_ => XS.i2c X7.here hx rfl (hb hby at_137) rfl k_) ?_
  obtain ⟨_, _, ⟨T8, L8, k8, n8⟩, -, X8, ⟨Lc8, hQ8, l8, y8, z8⟩, st8⟩ := Jvm.LawKit.callS X7 hx (y := (⟨"java/lang/String", "valueOf", "(C)Ljava/lang/String;"⟩ : MethodName)) hown (mvT hZ (hw _ (List.mem_of_getElem? (i := 15) rfl))) (mvT hZ (hw _ (List.mem_of_getElem? (i := 16) rfl))) (mvT hZ (hw _ (List.mem_of_getElem? (i := 5) rfl))) (mvT hZ (hw _ (List.mem_of_getElem? (i := 17) rfl))) (by decide) (backOf (W := 3) (rm_svo l Z a0 hw [] ((((v2.toUInt32 >>> ((8 : Int32) &&& 31).toUInt32).toInt32) &&& (255 : Int32)).toUInt32.toUInt16.toUInt32.toInt32) cz h7 n0 (show n0 ≤ h7.size by omega) O7 S_COMPACT_STRINGS hcz (own_rng _)) hZ (hw _ (List.mem_of_getElem? (i := 17) rfl)) (hw _ (List.mem_of_getElem? (i := 5) rfl)) (by decide) (by decide)) (g := (mkF m 138 #[.val (.int v0), .val (.int v1), .val (.int v2), .val (.int v3), .val (.long v4), .second, .val (.int v5), .val (.int a0_), .val (.int a1_), .val (.int na), .val (.int (if (v2 &&& (1 : Int32)) = (0 : Int32) then (0 : Int32) else (1 : Int32))), .val (.int b0_), .val (.int b1_), .val (.int nb), .val (.ref b5), .val (.ref b6), .unset, .unset, .unset, .unset, .unset] [(.int ((((v2.toUInt32 >>> ((8 : Int32) &&& 31).toUInt32).toInt32) &&& (255 : Int32)).toUInt32.toUInt16.toUInt32.toInt32)), (.ref b5), (.ref b7), (.ref b7)])) rfl (by rw [hml]; rfl) (argsL := [(.int ((((v2.toUInt32 >>> ((8 : Int32) &&& 31).toUInt32).toInt32) &&& (255 : Int32)).toUInt32.toUInt16.toUInt32.toInt32))]) (rest := [(.ref b5), (.ref b7), (.ref b7)]) (lenOf pd_5 rfl) rfl (by show 2 * 0 + _ ≤ _; exact Nat.le_of_eq rfl) (hb hby at_138) (fun _ _ => ⟨rfl, e7, (by decide : 7 + 2 ≤ _), (by decide : 20 + 5 ≤ _)⟩)
  dsimp only [Pt.U, Pt.locs, Pt.cells, Pt.slots] at X8 l8 y8 z8 st8 hQ8
  subst l8 y8 z8
  obtain ⟨b8, rfl, M8, K8_, ⟨lob8, hib8⟩, f8_0⟩ := hQ8
  have zz8 := K8_.1
  have O8 := O7.keep K8_ all0
  have N8 := Fr.app N6 M8
  have ltsf8_0 := own_ltN f8_0.lt
  refine own_go (T' := T8) (g' := (mkF m 141 #[.val (.int v0), .val (.int v1), .val (.int v2), .val (.int v3), .val (.long v4), .second, .val (.int v5), .val (.int a0_), .val (.int a1_), .val (.int na), .val (.int (if (v2 &&& (1 : Int32)) = (0 : Int32) then (0 : Int32) else (1 : Int32))), .val (.int b0_), .val (.int b1_), .val (.int nb), .val (.ref b5), .val (.ref b6), .unset, .unset, .unset, .unset, .unset] [(.ref b8), (.ref b5), (.ref b7), (.ref b7)])) (fun t_ k_ => st8 _ k_) ?_
  refine own_go (T' := T8) (g' := (mkF m 142 #[.val (.int v0), .val (.int v1), .val (.int v2), .val (.int v3), .val (.long v4), .second, .val (.int v5), .val (.int a0_), .val (.int a1_), .val (.int na), .val (.int (if (v2 &&& (1 : Int32)) = (0 : Int32) then (0 : Int32) else (1 : Int32))), .val (.int b0_), .val (.int b1_), .val (.int nb), .val (.ref b5), .val (.ref b6), .unset, .unset, .unset, .unset, .unset] [(.int v2), (.ref b8), (.ref b5), (.ref b7), (.ref b7)])) (fun t_ k_ => XS.iloadN X8.here hx rfl (hb hby at_141) rfl k_) ?_
  refine own_go (T' := T8) (g' := (mkF m 144 #[.val (.int v0), .val (.int v1), .val (.int v2), .val (.int v3), .val (.long v4), .second, .val (.int v5), .val (.int a0_), .val (.int a1_), .val (.int na), .val (.int (if (v2 &&& (1 : Int32)) = (0 : Int32) then (0 : Int32) else (1 : Int32))), .val (.int b0_), .val (.int b1_), .val (.int nb), .val (.ref b5), .val (.ref b6), .unset, .unset, .unset, .unset, .unset] [(.int (16 : Int32)), (.int v2), (.ref b8), (.ref b5), (.ref b7), (.ref b7)])) (fun t_ k_ => XS.bipush X8.here hx rfl (hb hby at_142) k_) ?_
  refine own_go (T' := T8) (g' := (mkF m 145 #[.val (.int v0), .val (.int v1), .val (.int v2), .val (.int v3), .val (.long v4), .second, .val (.int v5), .val (.int a0_), .val (.int a1_), .val (.int na), .val (.int (if (v2 &&& (1 : Int32)) = (0 : Int32) then (0 : Int32) else (1 : Int32))), .val (.int b0_), .val (.int b1_), .val (.int nb), .val (.ref b5), .val (.ref b6), .unset, .unset, .unset, .unset, .unset] [(.int ((v2.toUInt32 >>> ((16 : Int32) &&& 31).toUInt32).toInt32)), (.ref b8), (.ref b5), (.ref b7), (.ref b7)])) (fun t_ k_ => XS.iushr X8.here hx rfl (hb hby at_144) rfl k_) ?_
  refine own_go (T' := T8) (g' := (mkF m 148 #[.val (.int v0), .val (.int v1), .val (.int v2), .val (.int v3), .val (.long v4), .second, .val (.int v5), .val (.int a0_), .val (.int a1_), .val (.int na), .val (.int (if (v2 &&& (1 : Int32)) = (0 : Int32) then (0 : Int32) else (1 : Int32))), .val (.int b0_), .val (.int b1_), .val (.int nb), .val (.ref b5), .val (.ref b6), .unset, .unset, .unset, .unset, .unset] [(.int (255 : Int32)), (.int ((v2.toUInt32 >>> ((16 : Int32) &&& 31).toUInt32).toInt32)), (.ref b8), (.ref b5), (.ref b7), (.ref b7)])) (fun t_ k_ => XS.sipush X8.here hx rfl (hb hby at_145) k_) ?_
  refine own_go (T' := T8) (g' := (mkF m 149 #[.val (.int v0), .val (.int v1), .val (.int v2), .val (.int v3), .val (.long v4), .second, .val (.int v5), .val (.int a0_), .val (.int a1_), .val (.int na), .val (.int (if (v2 &&& (1 : Int32)) = (0 : Int32) then (0 : Int32) else (1 : Int32))), .val (.int b0_), .val (.int b1_), .val (.int nb), .val (.ref b5), .val (.ref b6), .unset, .unset, .unset, .unset, .unset] [(.int (((v2.toUInt32 >>> ((16 : Int32) &&& 31).toUInt32).toInt32) &&& (255 : Int32))), (.ref b8), (.ref b5), (.ref b7), (.ref b7)])) (fun t_ k_ => XS.iand X8.here hx rfl (hb hby at_148) rfl k_) ?_
  refine own_go (T' := T8) (g' := (mkF m 150 #[.val (.int v0), .val (.int v1), .val (.int v2), .val (.int v3), .val (.long v4), .second, .val (.int v5), .val (.int a0_), .val (.int a1_), .val (.int na), .val (.int (if (v2 &&& (1 : Int32)) = (0 : Int32) then (0 : Int32) else (1 : Int32))), .val (.int b0_), .val (.int b1_), .val (.int nb), .val (.ref b5), .val (.ref b6), .unset, .unset, .unset, .unset, .unset] [(.int ((((v2.toUInt32 >>> ((16 : Int32) &&& 31).toUInt32).toInt32) &&& (255 : Int32)).toUInt32.toUInt16.toUInt32.toInt32)), (.ref b8), (.ref b5), (.ref b7), (.ref b7)])) (fun t_ k_ => XS.i2c X8.here hx rfl (hb hby at_149) rfl k_) ?_
  obtain ⟨_, _, ⟨T9, L9, k9, n9⟩, -, X9, ⟨Lc9, hQ9, l9, y9, z9⟩, st9⟩ := Jvm.LawKit.callS X8 hx (y := (⟨"java/lang/String", "valueOf", "(C)Ljava/lang/String;"⟩ : MethodName)) hown (mvT hZ (hw _ (List.mem_of_getElem? (i := 15) rfl))) (mvT hZ (hw _ (List.mem_of_getElem? (i := 16) rfl))) (mvT hZ (hw _ (List.mem_of_getElem? (i := 5) rfl))) (mvT hZ (hw _ (List.mem_of_getElem? (i := 17) rfl))) (by decide) (backOf (W := 4) (rm_svo l Z a0 hw [] ((((v2.toUInt32 >>> ((16 : Int32) &&& 31).toUInt32).toInt32) &&& (255 : Int32)).toUInt32.toUInt16.toUInt32.toInt32) cz T8.heap n0 (show n0 ≤ T8.heap.size by omega) O8 S_COMPACT_STRINGS hcz (own_rng _)) hZ (hw _ (List.mem_of_getElem? (i := 17) rfl)) (hw _ (List.mem_of_getElem? (i := 5) rfl)) (by decide) (by decide)) (g := (mkF m 150 #[.val (.int v0), .val (.int v1), .val (.int v2), .val (.int v3), .val (.long v4), .second, .val (.int v5), .val (.int a0_), .val (.int a1_), .val (.int na), .val (.int (if (v2 &&& (1 : Int32)) = (0 : Int32) then (0 : Int32) else (1 : Int32))), .val (.int b0_), .val (.int b1_), .val (.int nb), .val (.ref b5), .val (.ref b6), .unset, .unset, .unset, .unset, .unset] [(.int ((((v2.toUInt32 >>> ((16 : Int32) &&& 31).toUInt32).toInt32) &&& (255 : Int32)).toUInt32.toUInt16.toUInt32.toInt32)), (.ref b8), (.ref b5), (.ref b7), (.ref b7)])) rfl (by rw [hml]; rfl) (argsL := [(.int ((((v2.toUInt32 >>> ((16 : Int32) &&& 31).toUInt32).toInt32) &&& (255 : Int32)).toUInt32.toUInt16.toUInt32.toInt32))]) (rest := [(.ref b8), (.ref b5), (.ref b7), (.ref b7)]) (lenOf pd_5 rfl) rfl (by show 2 * 0 + _ ≤ _; exact Nat.le_of_eq rfl) (hb hby at_150) (fun _ _ => ⟨rfl, rfl, (by decide : 9 + 2 ≤ _), (by decide : 25 + 5 ≤ _)⟩)
  dsimp only [Pt.U, Pt.locs, Pt.cells, Pt.slots] at X9 l9 y9 z9 st9 hQ9
  subst l9 y9 z9
  obtain ⟨b9, rfl, M9, K9_, ⟨lob9, hib9⟩, f9_0⟩ := hQ9
  have zz9 := K9_.1
  have O9 := O8.keep K9_ all0
  have N9 := Fr.app N8 M9
  have ltsf9_0 := own_ltN f9_0.lt
  refine own_go (T' := T9) (g' := (mkF m 153 #[.val (.int v0), .val (.int v1), .val (.int v2), .val (.int v3), .val (.long v4), .second, .val (.int v5), .val (.int a0_), .val (.int a1_), .val (.int na), .val (.int (if (v2 &&& (1 : Int32)) = (0 : Int32) then (0 : Int32) else (1 : Int32))), .val (.int b0_), .val (.int b1_), .val (.int nb), .val (.ref b5), .val (.ref b6), .unset, .unset, .unset, .unset, .unset] [(.ref b9), (.ref b8), (.ref b5), (.ref b7), (.ref b7)])) (fun t_ k_ => st9 _ k_) ?_
  refine own_go (T' := T9) (g' := (mkF m 154 #[.val (.int v0), .val (.int v1), .val (.int v2), .val (.int v3), .val (.long v4), .second, .val (.int v5), .val (.int a0_), .val (.int a1_), .val (.int na), .val (.int (if (v2 &&& (1 : Int32)) = (0 : Int32) then (0 : Int32) else (1 : Int32))), .val (.int b0_), .val (.int b1_), .val (.int nb), .val (.ref b5), .val (.ref b6), .unset, .unset, .unset, .unset, .unset] [(.int (1 : Int32)), (.ref b9), (.ref b8), (.ref b5), (.ref b7), (.ref b7)])) (fun t_ k_ => XS.iconst X9.here hx rfl (hb hby at_153) k_) ?_
  refine own_go (T' := T9) (g' := (mkF m 155 #[.val (.int v0), .val (.int v1), .val (.int v2), .val (.int v3), .val (.long v4), .second, .val (.int v5), .val (.int a0_), .val (.int a1_), .val (.int na), .val (.int (if (v2 &&& (1 : Int32)) = (0 : Int32) then (0 : Int32) else (1 : Int32))), .val (.int b0_), .val (.int b1_), .val (.int nb), .val (.ref b5), .val (.ref b6), .unset, .unset, .unset, .unset, .unset] [(.int v3), (.int (1 : Int32)), (.ref b9), (.ref b8), (.ref b5), (.ref b7), (.ref b7)])) (fun t_ k_ => XS.iloadN X9.here hx rfl (hb hby at_154) rfl k_) ?_
  refine own_go (T' := T9) (g' := (mkF m 157 #[.val (.int v0), .val (.int v1), .val (.int v2), .val (.int v3), .val (.long v4), .second, .val (.int v5), .val (.int a0_), .val (.int a1_), .val (.int na), .val (.int (if (v2 &&& (1 : Int32)) = (0 : Int32) then (0 : Int32) else (1 : Int32))), .val (.int b0_), .val (.int b1_), .val (.int nb), .val (.ref b5), .val (.ref b6), .unset, .unset, .unset, .unset, .unset] [(.int (2147483647 : Int32)), (.int v3), (.int (1 : Int32)), (.ref b9), (.ref b8), (.ref b5), (.ref b7), (.ref b7)])) (fun t_ k_ => X9.ldcInt hx hown (mvT hZ (hw _ (List.mem_of_getElem? (i := 36) rfl))) (g := (mkF m 155 #[.val (.int v0), .val (.int v1), .val (.int v2), .val (.int v3), .val (.long v4), .second, .val (.int v5), .val (.int a0_), .val (.int a1_), .val (.int na), .val (.int (if (v2 &&& (1 : Int32)) = (0 : Int32) then (0 : Int32) else (1 : Int32))), .val (.int b0_), .val (.int b1_), .val (.int nb), .val (.ref b5), .val (.ref b6), .unset, .unset, .unset, .unset, .unset] [(.int v3), (.int (1 : Int32)), (.ref b9), (.ref b8), (.ref b5), (.ref b7), (.ref b7)])) rfl (hb hby at_155) _ k_) ?_
  refine own_go (T' := T9) (g' := (mkF m 158 #[.val (.int v0), .val (.int v1), .val (.int v2), .val (.int v3), .val (.long v4), .second, .val (.int v5), .val (.int a0_), .val (.int a1_), .val (.int na), .val (.int (if (v2 &&& (1 : Int32)) = (0 : Int32) then (0 : Int32) else (1 : Int32))), .val (.int b0_), .val (.int b1_), .val (.int nb), .val (.ref b5), .val (.ref b6), .unset, .unset, .unset, .unset, .unset] [(.int (v3 &&& (2147483647 : Int32))), (.int (1 : Int32)), (.ref b9), (.ref b8), (.ref b5), (.ref b7), (.ref b7)])) (fun t_ k_ => XS.iand X9.here hx rfl (hb hby at_157) rfl k_) ?_
  obtain ⟨_, _, ⟨T10, L10, k10, n10⟩, -, X10, ⟨Lc10, hQ10, l10, y10, z10⟩, st10⟩ := Jvm.LawKit.callS X9 hx (y := (⟨"java/lang/Math", "max", "(II)I"⟩ : MethodName)) hown (mvT hZ (hw _ (List.mem_of_getElem? (i := 37) rfl))) (mvT hZ (hw _ (List.mem_of_getElem? (i := 38) rfl))) (mvT hZ (hw _ (List.mem_of_getElem? (i := 39) rfl))) (mvT hZ (hw _ (List.mem_of_getElem? (i := 40) rfl))) (by decide) (backOf (W := 5) (rm_maxI l Z a0 hw [] (1 : Int32) (v3 &&& (2147483647 : Int32)) T9.heap n0 (show n0 ≤ T9.heap.size by omega)) hZ (hw _ (List.mem_of_getElem? (i := 40) rfl)) (hw _ (List.mem_of_getElem? (i := 39) rfl)) (by decide) (by decide)) (g := (mkF m 158 #[.val (.int v0), .val (.int v1), .val (.int v2), .val (.int v3), .val (.long v4), .second, .val (.int v5), .val (.int a0_), .val (.int a1_), .val (.int na), .val (.int (if (v2 &&& (1 : Int32)) = (0 : Int32) then (0 : Int32) else (1 : Int32))), .val (.int b0_), .val (.int b1_), .val (.int nb), .val (.ref b5), .val (.ref b6), .unset, .unset, .unset, .unset, .unset] [(.int (v3 &&& (2147483647 : Int32))), (.int (1 : Int32)), (.ref b9), (.ref b8), (.ref b5), (.ref b7), (.ref b7)])) rfl (by rw [hml]; rfl) (argsL := [(.int (1 : Int32)), (.int (v3 &&& (2147483647 : Int32)))]) (rest := [(.ref b9), (.ref b8), (.ref b5), (.ref b7), (.ref b7)]) (lenOf pd_8 rfl) rfl (by show 2 * 0 + _ ≤ _; exact Nat.le_of_eq rfl) (hb hby at_158) (fun _ _ => ⟨rfl, rfl, (by decide : 11 + 0 ≤ _), (by decide : 30 + 0 ≤ _)⟩)
  dsimp only [Pt.U, Pt.locs, Pt.cells, Pt.slots] at X10 l10 y10 z10 st10 hQ10
  subst l10 y10 z10
  obtain ⟨rfl, M10, e10⟩ := hQ10
  have N10 := Fr.app N9 M10
  refine own_go (T' := T10) (g' := (mkF m 161 #[.val (.int v0), .val (.int v1), .val (.int v2), .val (.int v3), .val (.long v4), .second, .val (.int v5), .val (.int a0_), .val (.int a1_), .val (.int na), .val (.int (if (v2 &&& (1 : Int32)) = (0 : Int32) then (0 : Int32) else (1 : Int32))), .val (.int b0_), .val (.int b1_), .val (.int nb), .val (.ref b5), .val (.ref b6), .unset, .unset, .unset, .unset, .unset] [(.int (if (1 : Int32) < (v3 &&& (2147483647 : Int32)) then (v3 &&& (2147483647 : Int32)) else (1 : Int32))), (.ref b9), (.ref b8), (.ref b5), (.ref b7), (.ref b7)])) (fun t_ k_ => st10 _ k_) ?_
  have ff12 := ((A7.keep K8_).keep K9_)
  have ff13 := ((((f5_0.1.keep K6_).ext E7).keep K8_).keep K9_)
  have ff14 := (f8_0.1.keep K9_)
  have ff15 := ((F7_id.keep K8_ nin0).keep K9_ nin0)
  have ff16 := ((F7_title.keep K8_ nin0).keep K9_ nin0)
  have ff17 := ((F7_destination.keep K8_ nin0).keep K9_ nin0)
  have ff18 := ((F7_length.keep K8_ nin0).keep K9_ nin0)
  obtain ⟨_, _, ⟨T11, L11, k11, n11⟩, -, X11_, h211, gr11, ⟨Lc11, hQ11, l11, y11, z11⟩, st11⟩ := X10.specialBackS hx (y := (⟨"com/example/crownsworn/crownsworn/model/AdventureCard", "<init>", "(Ljava/lang/String;Ljava/lang/String;Ljava/lang/String;I)V"⟩ : MethodName)) rfl hown (mvT hZ (hw _ (List.mem_of_getElem? (i := 41) rfl))) (mvT hZ (hw _ (List.mem_of_getElem? (i := 42) rfl))) (mvT hZ (hw _ (List.mem_of_getElem? (i := 43) rfl))) (by decide) (backOfS (W := 1) (rm_card l Z a0 hw [] b7 b5 b8 b9 (if (1 : Int32) < (v3 &&& (2147483647 : Int32)) then (v3 &&& (2147483647 : Int32)) else (1 : Int32)) T9.heap n0 (show n0 ≤ T9.heap.size by omega) ff12 ff13 ff14 f9_0.1 ff15 ff16 ff17 ff18 (show n0 ≤ b7 by omega) (own_one (own_pos _))) hZ (hw _ (List.mem_of_getElem? (i := 43) rfl)) (hw _ (List.mem_of_getElem? (i := 14) rfl)) (by decide) (by decide)) (g := (mkF m 161 #[.val (.int v0), .val (.int v1), .val (.int v2), .val (.int v3), .val (.long v4), .second, .val (.int v5), .val (.int a0_), .val (.int a1_), .val (.int na), .val (.int (if (v2 &&& (1 : Int32)) = (0 : Int32) then (0 : Int32) else (1 : Int32))), .val (.int b0_), .val (.int b1_), .val (.int nb), .val (.ref b5), .val (.ref b6), .unset, .unset, .unset, .unset, .unset] [(.int (if (1 : Int32) < (v3 &&& (2147483647 : Int32)) then (v3 &&& (2147483647 : Int32)) else (1 : Int32))), (.ref b9), (.ref b8), (.ref b5), (.ref b7), (.ref b7)])) rfl (by rw [hml]; rfl) (Steps.refl _) (a := b7) (argsL := [(.ref b5), (.ref b8), (.ref b9), (.int (if (1 : Int32) < (v3 &&& (2147483647 : Int32)) then (v3 &&& (2147483647 : Int32)) else (1 : Int32)))]) (rest := [(.ref b7)]) (lenOf pd_9 rfl) rfl (by show 2 * 0 + _ ≤ _; exact Nat.le_of_eq rfl) (hb hby at_161) (fun _ _ => ⟨rfl, e10, (by decide : 11 + 6 ≤ _), (by decide : 30 + 180 ≤ _)⟩)
  dsimp only [Pt.U, Pt.locs, Pt.cells, Pt.slots] at X11_ h211 gr11 l11 y11 z11 st11 hQ11
  subst l11 y11 z11
  obtain ⟨X11, hS, hZ, hown⟩ := rebS hS (show _ ≤ T10.heap.size by rw [e10]; omega) X11_ h211 gr11 hZ hown
  have hk : T11.heap.size ≤ T11.heap.size := Nat.le_refl _
  obtain ⟨rfl, M11, K11_, f11_0⟩ := hQ11
  have zz11 := K11_.1
  have O11 := O9.keep K11_ (allS (show n0 ≤ b7 by omega) all0)
  have N11 := Fr.app N10 M11
  refine own_go (T' := T11) (g' := (mkF m 164 #[.val (.int v0), .val (.int v1), .val (.int v2), .val (.int v3), .val (.long v4), .second, .val (.int v5), .val (.int a0_), .val (.int a1_), .val (.int na), .val (.int (if (v2 &&& (1 : Int32)) = (0 : Int32) then (0 : Int32) else (1 : Int32))), .val (.int b0_), .val (.int b1_), .val (.int nb), .val (.ref b5), .val (.ref b6), .unset, .unset, .unset, .unset, .unset] [(.ref b7)])) (fun t_ k_ => st11.trans k_) ?_
  refine own_go (T' := T11) (g' := (mkF m 166 #[.val (.int v0), .val (.int v1), .val (.int v2), .val (.int v3), .val (.long v4), .second, .val (.int v5), .val (.int a0_), .val (.int a1_), .val (.int na), .val (.int (if (v2 &&& (1 : Int32)) = (0 : Int32) then (0 : Int32) else (1 : Int32))), .val (.int b0_), .val (.int b1_), .val (.int nb), .val (.ref b5), .val (.ref b6), .val (.ref b7), .unset, .unset, .unset, .unset] [])) (fun t_ k_ => XS.astore X11.here hx rfl (hb hby at_164) rfl rfl (l' := #[.val (.int v0), .val (.int v1), .val (.int v2), .val (.int v3), .val (.long v4), .second, .val (.int v5), .val (.int a0_), .val (.int a1_), .val (.int na), .val (.int (if (v2 &&& (1 : Int32)) = (0 : Int32) then (0 : Int32) else (1 : Int32))), .val (.int b0_), .val (.int b1_), .val (.int nb), .val (.ref b5), .val (.ref b6), .val (.ref b7), .unset, .unset, .unset, .unset]) rfl k_) ?_
  obtain ⟨T19, h19, X19, e19, E19, A19, D19, -, st19⟩ := newO X11 hx hZ hown (hw _ (List.mem_of_getElem? (i := 12) rfl)) (hw _ (List.mem_of_getElem? (i := 13) rfl)) (hw _ (List.mem_of_getElem? (i := 14) rfl)) rfl (g := (mkF m 166 #[.val (.int v0), .val (.int v1), .val (.int v2), .val (.int v3), .val (.long v4), .second, .val (.int v5), .val (.int a0_), .val (.int a1_), .val (.int na), .val (.int (if (v2 &&& (1 : Int32)) = (0 : Int32) then (0 : Int32) else (1 : Int32))), .val (.int b0_), .val (.int b1_), .val (.int nb), .val (.ref b5), .val (.ref b6), .val (.ref b7), .unset, .unset, .unset, .unset] [])) rfl (hb hby at_166) (by decide) (by decide)
  obtain ⟨b19, g19⟩ : ∃ z, z = T11.heap.size := ⟨_, rfl⟩
  rw [← g19] at A19 D19 st19
  have l19 := own_ltN A19.lt
  have z19 := E19.1
  have O19 := O11.ext E19
  have F19_id : Fld Z h19 b19 "com/example/crownsworn/crownsworn/model/AdventureCard" "id" "Ljava/lang/String;" .null := D19 (Or.inr (hw _ (List.mem_of_getElem? (i := 52) rfl))) (ty := (.object "java/lang/String")) (by decide)
  have F19_title : Fld Z h19 b19 "com/example/crownsworn/crownsworn/model/AdventureCard" "title" "Ljava/lang/String;" .null := D19 (Or.inr (hw _ (List.mem_of_getElem? (i := 55) rfl))) (ty := (.object "java/lang/String")) (by decide)
  have F19_destination : Fld Z h19 b19 "com/example/crownsworn/crownsworn/model/AdventureCard" "destination" "Ljava/lang/String;" .null := D19 (Or.inr (hw _ (List.mem_of_getElem? (i := 58) rfl))) (ty := (.object "java/lang/String")) (by decide)
  have F19_length : Fld Z h19 b19 "com/example/crownsworn/crownsworn/model/AdventureCard" "length" "I" (.int (0 : Int32)) := D19 (Or.inr (hw _ (List.mem_of_getElem? (i := 60) rfl))) (ty := .int) (by decide)
  refine own_go (T' := T19) (g' := (mkF m 169 #[.val (.int v0), .val (.int v1), .val (.int v2), .val (.int v3), .val (.long v4), .second, .val (.int v5), .val (.int a0_), .val (.int a1_), .val (.int na), .val (.int (if (v2 &&& (1 : Int32)) = (0 : Int32) then (0 : Int32) else (1 : Int32))), .val (.int b0_), .val (.int b1_), .val (.int nb), .val (.ref b5), .val (.ref b6), .val (.ref b7), .unset, .unset, .unset, .unset] [(.ref b19)])) (fun t_ k_ => st19 _ k_) ?_
  refine own_go (T' := T19) (g' := (mkF m 170 #[.val (.int v0), .val (.int v1), .val (.int v2), .val (.int v3), .val (.long v4), .second, .val (.int v5), .val (.int a0_), .val (.int a1_), .val (.int na), .val (.int (if (v2 &&& (1 : Int32)) = (0 : Int32) then (0 : Int32) else (1 : Int32))), .val (.int b0_), .val (.int b1_), .val (.int nb), .val (.ref b5), .val (.ref b6), .val (.ref b7), .unset, .unset, .unset, .unset] [(.ref b19), (.ref b19)])) (fun t_ k_ => XS.dup X19.here hx rfl (hb hby at_169) rfl rfl k_) ?_
  refine own_go (T' := T19) (g' := (mkF m 172 #[.val (.int v0), .val (.int v1), .val (.int v2), .val (.int v3), .val (.long v4), .second, .val (.int v5), .val (.int a0_), .val (.int a1_), .val (.int na), .val (.int (if (v2 &&& (1 : Int32)) = (0 : Int32) then (0 : Int32) else (1 : Int32))), .val (.int b0_), .val (.int b1_), .val (.int nb), .val (.ref b5), .val (.ref b6), .val (.ref b7), .unset, .unset, .unset, .unset] [(.ref b6), (.ref b19), (.ref b19)])) (fun t_ k_ => XS.aload X19.here hx rfl (hb hby at_170) rfl rfl k_) ?_
  refine own_go (T' := T19) (g' := (mkF m 174 #[.val (.int v0), .val (.int v1), .val (.int v2), .val (.int v3), .val (.long v4), .second, .val (.int v5), .val (.int a0_), .val (.int a1_), .val (.int na), .val (.int (if (v2 &&& (1 : Int32)) = (0 : Int32) then (0 : Int32) else (1 : Int32))), .val (.int b0_), .val (.int b1_), .val (.int nb), .val (.ref b5), .val (.ref b6), .val (.ref b7), .unset, .unset, .unset, .unset] [(.int v5), (.ref b6), (.ref b19), (.ref b19)])) (fun t_ k_ => XS.iload X19.here hx rfl (hb hby at_172) rfl k_) ?_
  refine own_go (T' := T19) (g' := (mkF m 177 #[.val (.int v0), .val (.int v1), .val (.int v2), .val (.int v3), .val (.long v4), .second, .val (.int v5), .val (.int a0_), .val (.int a1_), .val (.int na), .val (.int (if (v2 &&& (1 : Int32)) = (0 : Int32) then (0 : Int32) else (1 : Int32))), .val (.int b0_), .val (.int b1_), .val (.int nb), .val (.ref b5), .val (.ref b6), .val (.ref b7), .unset, .unset, .unset, .unset] [(.int (255 : Int32)), (.int v5), (.ref b6), (.ref b19), (.ref b19)])) (fun t_ k_ => XS.sipush X19.here hx rfl (hb hby at_174) k_) ?_
  refine own_go (T' := T19) (g' := (mkF m 178 #[.val (.int v0), .val (.int v1), .val (.int v2), .val (.int v3), .val (.long v4), .second, .val (.int v5), .val (.int a0_), .val (.int a1_), .val (.int na), .val (.int (if (v2 &&& (1 : Int32)) = (0 : Int32) then (0 : Int32) else (1 : Int32))), .val (.int b0_), .val (.int b1_), .val (.int nb), .val (.ref b5), .val (.ref b6), .val (.ref b7), .unset, .unset, .unset, .unset] [(.int (v5 &&& (255 : Int32))), (.ref b6), (.ref b19), (.ref b19)])) (fun t_ k_ => XS.iand X19.here hx rfl (hb hby at_177) rfl k_) ?_
  refine own_go (T' := T19) (g' := (mkF m 179 #[.val (.int v0), .val (.int v1), .val (.int v2), .val (.int v3), .val (.long v4), .second, .val (.int v5), .val (.int a0_), .val (.int a1_), .val (.int na), .val (.int (if (v2 &&& (1 : Int32)) = (0 : Int32) then (0 : Int32) else (1 : Int32))), .val (.int b0_), .val (.int b1_), .val (.int nb), .val (.ref b5), .val (.ref b6), .val (.ref b7), .unset, .unset, .unset, .unset] [(.int ((v5 &&& (255 : Int32)).toUInt32.toUInt16.toUInt32.toInt32)), (.ref b6), (.ref b19), (.ref b19)])) (fun t_ k_ => XS.i2c X19.here hx rfl (hb hby at_178) rfl k_) ?_
  obtain ⟨_, _, ⟨T20, L20, k20, n20⟩, -, X20, ⟨Lc20, hQ20, l20, y20, z20⟩, st20⟩ := Jvm.LawKit.callS X19 hx (y := (⟨"java/lang/String", "valueOf", "(C)Ljava/lang/String;"⟩ : MethodName)) hown (mvT hZ (hw _ (List.mem_of_getElem? (i := 15) rfl))) (mvT hZ (hw _ (List.mem_of_getElem? (i := 16) rfl))) (mvT hZ (hw _ (List.mem_of_getElem? (i := 5) rfl))) (mvT hZ (hw _ (List.mem_of_getElem? (i := 17) rfl))) (by decide) (backOf (W := 3) (rm_svo l Z a0 hw [] ((v5 &&& (255 : Int32)).toUInt32.toUInt16.toUInt32.toInt32) cz h19 n0 (show n0 ≤ h19.size by omega) O19 S_COMPACT_STRINGS hcz (own_rng _)) hZ (hw _ (List.mem_of_getElem? (i := 17) rfl)) (hw _ (List.mem_of_getElem? (i := 5) rfl)) (by decide) (by decide)) (g := (mkF m 179 #[.val (.int v0), .val (.int v1), .val (.int v2), .val (.int v3), .val (.long v4), .second, .val (.int v5), .val (.int a0_), .val (.int a1_), .val (.int na), .val (.int (if (v2 &&& (1 : Int32)) = (0 : Int32) then (0 : Int32) else (1 : Int32))), .val (.int b0_), .val (.int b1_), .val (.int nb), .val (.ref b5), .val (.ref b6), .val (.ref b7), .unset, .unset, .unset, .unset] [(.int ((v5 &&& (255 : Int32)).toUInt32.toUInt16.toUInt32.toInt32)), (.ref b6), (.ref b19), (.ref b19)])) rfl (by rw [hml]; rfl) (argsL := [(.int ((v5 &&& (255 : Int32)).toUInt32.toUInt16.toUInt32.toInt32))]) (rest := [(.ref b6), (.ref b19), (.ref b19)]) (lenOf pd_5 rfl) rfl (by show 2 * 0 + _ ≤ _; exact Nat.le_of_eq rfl) (hb hby at_179) (fun _ _ => ⟨rfl, e19, (by decide : 18 + 2 ≤ _), (by decide : 214 + 5 ≤ _)⟩)
  dsimp only [Pt.U, Pt.locs, Pt.cells, Pt.slots] at X20 l20 y20 z20 st20 hQ20
  subst l20 y20 z20
  obtain ⟨b20, rfl, M20, K20_, ⟨lob20, hib20⟩, f20_0⟩ := hQ20
  have zz20 := K20_.1
  have O20 := O19.keep K20_ all0
  have N20 := Fr.app N11 M20
  have ltsf20_0 := own_ltN f20_0.lt
  refine own_go (T' := T20) (g' := (mkF m 182 #[.val (.int v0), .val (.int v1), .val (.int v2), .val (.int v3), .val (.long v4), .second, .val (.int v5), .val (.int a0_), .val (.int a1_), .val (.int na), .val (.int (if (v2 &&& (1 : Int32)) = (0 : Int32) then (0 : Int32) else (1 : Int32))), .val (.int b0_), .val (.int b1_), .val (.int nb), .val (.ref b5), .val (.ref b6), .val (.ref b7), .unset, .unset, .unset, .unset] [(.ref b20), (.ref b6), (.ref b19), (.ref b19)])) (fun t_ k_ => st20 _ k_) ?_
  refine own_go (T' := T20) (g' := (mkF m 184 #[.val (.int v0), .val (.int v1), .val (.int v2), .val (.int v3), .val (.long v4), .second, .val (.int v5), .val (.int a0_), .val (.int a1_), .val (.int na), .val (.int (if (v2 &&& (1 : Int32)) = (0 : Int32) then (0 : Int32) else (1 : Int32))), .val (.int b0_), .val (.int b1_), .val (.int nb), .val (.ref b5), .val (.ref b6), .val (.ref b7), .unset, .unset, .unset, .unset] [(.int v5), (.ref b20), (.ref b6), (.ref b19), (.ref b19)])) (fun t_ k_ => XS.iload X20.here hx rfl (hb hby at_182) rfl k_) ?_
  refine own_go (T' := T20) (g' := (mkF m 186 #[.val (.int v0), .val (.int v1), .val (.int v2), .val (.int v3), .val (.long v4), .second, .val (.int v5), .val (.int a0_), .val (.int a1_), .val (.int na), .val (.int (if (v2 &&& (1 : Int32)) = (0 : Int32) then (0 : Int32) else (1 : Int32))), .val (.int b0_), .val (.int b1_), .val (.int nb), .val (.ref b5), .val (.ref b6), .val (.ref b7), .unset, .unset, .unset, .unset] [(.int (8 : Int32)), (.int v5), (.ref b20), (.ref b6), (.ref b19), (.ref b19)])) (fun t_ k_ => XS.bipush X20.here hx rfl (hb hby at_184) k_) ?_
  refine own_go (T' := T20) (g' := (mkF m 187 #[.val (.int v0), .val (.int v1), .val (.int v2), .val (.int v3), .val (.long v4), .second, .val (.int v5), .val (.int a0_), .val (.int a1_), .val (.int na), .val (.int (if (v2 &&& (1 : Int32)) = (0 : Int32) then (0 : Int32) else (1 : Int32))), .val (.int b0_), .val (.int b1_), .val (.int nb), .val (.ref b5), .val (.ref b6), .val (.ref b7), .unset, .unset, .unset, .unset] [(.int ((v5.toUInt32 >>> ((8 : Int32) &&& 31).toUInt32).toInt32)), (.ref b20), (.ref b6), (.ref b19), (.ref b19)])) (fun t_ k_ => XS.iushr X20.here hx rfl (hb hby at_186) rfl k_) ?_
  refine own_go (T' := T20) (g' := (mkF m 190 #[.val (.int v0), .val (.int v1), .val (.int v2), .val (.int v3), .val (.long v4), .second, .val (.int v5), .val (.int a0_), .val (.int a1_), .val (.int na), .val (.int (if (v2 &&& (1 : Int32)) = (0 : Int32) then (0 : Int32) else (1 : Int32))), .val (.int b0_), .val (.int b1_), .val (.int nb), .val (.ref b5), .val (.ref b6), .val (.ref b7), .unset, .unset, .unset, .unset] [(.int (255 : Int32)), (.int ((v5.toUInt32 >>> ((8 : Int32) &&& 31).toUInt32).toInt32)), (.ref b20), (.ref b6), (.ref b19), (.ref b19)])) (fun t_ k_ => XS.sipush X20.here hx rfl (hb hby at_187) k_) ?_
  refine own_go (T' := T20) (g' := (mkF m 191 #[.val (.int v0), .val (.int v1), .val (.int v2), .val (.int v3), .val (.long v4), .second, .val (.int v5), .val (.int a0_), .val (.int a1_), .val (.int na), .val (.int (if (v2 &&& (1 : Int32)) = (0 : Int32) then (0 : Int32) else (1 : Int32))), .val (.int b0_), .val (.int b1_), .val (.int nb), .val (.ref b5), .val (.ref b6), .val (.ref b7), .unset, .unset, .unset, .unset] [(.int (((v5.toUInt32 >>> ((8 : Int32) &&& 31).toUInt32).toInt32) &&& (255 : Int32))), (.ref b20), (.ref b6), (.ref b19), (.ref b19)])) (fun t_ k_ => XS.iand X20.here hx rfl (hb hby at_190) rfl k_) ?_
  refine own_go (T' := T20) (g' := (mkF m 192 #[.val (.int v0), .val (.int v1), .val (.int v2), .val (.int v3), .val (.long v4), .second, .val (.int v5), .val (.int a0_), .val (.int a1_), .val (.int na), .val (.int (if (v2 &&& (1 : Int32)) = (0 : Int32) then (0 : Int32) else (1 : Int32))), .val (.int b0_), .val (.int b1_), .val (.int nb), .val (.ref b5), .val (.ref b6), .val (.ref b7), .unset, .unset, .unset, .unset] [(.int ((((v5.toUInt32 >>> ((8 : Int32) &&& 31).toUInt32).toInt32) &&& (255 : Int32)).toUInt32.toUInt16.toUInt32.toInt32)), (.ref b20), (.ref b6), (.ref b19), (.ref b19)])) (fun t_ k_ => XS.i2c X20.here hx rfl (hb hby at_191) rfl k_) ?_
  obtain ⟨_, _, ⟨T21, L21, k21, n21⟩, -, X21, ⟨Lc21, hQ21, l21, y21, z21⟩, st21⟩ := Jvm.LawKit.callS X20 hx (y := (⟨"java/lang/String", "valueOf", "(C)Ljava/lang/String;"⟩ : MethodName)) hown (mvT hZ (hw _ (List.mem_of_getElem? (i := 15) rfl))) (mvT hZ (hw _ (List.mem_of_getElem? (i := 16) rfl))) (mvT hZ (hw _ (List.mem_of_getElem? (i := 5) rfl))) (mvT hZ (hw _ (List.mem_of_getElem? (i := 17) rfl))) (by decide) (backOf (W := 4) (rm_svo l Z a0 hw [] ((((v5.toUInt32 >>> ((8 : Int32) &&& 31).toUInt32).toInt32) &&& (255 : Int32)).toUInt32.toUInt16.toUInt32.toInt32) cz T20.heap n0 (show n0 ≤ T20.heap.size by omega) O20 S_COMPACT_STRINGS hcz (own_rng _)) hZ (hw _ (List.mem_of_getElem? (i := 17) rfl)) (hw _ (List.mem_of_getElem? (i := 5) rfl)) (by decide) (by decide)) (g := (mkF m 192 #[.val (.int v0), .val (.int v1), .val (.int v2), .val (.int v3), .val (.long v4), .second, .val (.int v5), .val (.int a0_), .val (.int a1_), .val (.int na), .val (.int (if (v2 &&& (1 : Int32)) = (0 : Int32) then (0 : Int32) else (1 : Int32))), .val (.int b0_), .val (.int b1_), .val (.int nb), .val (.ref b5), .val (.ref b6), .val (.ref b7), .unset, .unset, .unset, .unset] [(.int ((((v5.toUInt32 >>> ((8 : Int32) &&& 31).toUInt32).toInt32) &&& (255 : Int32)).toUInt32.toUInt16.toUInt32.toInt32)), (.ref b20), (.ref b6), (.ref b19), (.ref b19)])) rfl (by rw [hml]; rfl) (argsL := [(.int ((((v5.toUInt32 >>> ((8 : Int32) &&& 31).toUInt32).toInt32) &&& (255 : Int32)).toUInt32.toUInt16.toUInt32.toInt32))]) (rest := [(.ref b20), (.ref b6), (.ref b19), (.ref b19)]) (lenOf pd_5 rfl) rfl (by show 2 * 0 + _ ≤ _; exact Nat.le_of_eq rfl) (hb hby at_192) (fun _ _ => ⟨rfl, rfl, (by decide : 20 + 2 ≤ _), (by decide : 219 + 5 ≤ _)⟩)
  dsimp only [Pt.U, Pt.locs, Pt.cells, Pt.slots] at X21 l21 y21 z21 st21 hQ21
  subst l21 y21 z21
  obtain ⟨b21, rfl, M21, K21_, ⟨lob21, hib21⟩, f21_0⟩ := hQ21
  have zz21 := K21_.1
  have O21 := O20.keep K21_ all0
  have N21 := Fr.app N20 M21
  have ltsf21_0 := own_ltN f21_0.lt
  refine own_go (T' := T21) (g' := (mkF m 195 #[.val (.int v0), .val (.int v1), .val (.int v2), .val (.int v3), .val (.long v4), .second, .val (.int v5), .val (.int a0_), .val (.int a1_), .val (.int na), .val (.int (if (v2 &&& (1 : Int32)) = (0 : Int32) then (0 : Int32) else (1 : Int32))), .val (.int b0_), .val (.int b1_), .val (.int nb), .val (.ref b5), .val (.ref b6), .val (.ref b7), .unset, .unset, .unset, .unset] [(.ref b21), (.ref b20), (.ref b6), (.ref b19), (.ref b19)])) (fun t_ k_ => st21 _ k_) ?_
  refine own_go (T' := T21) (g' := (mkF m 196 #[.val (.int v0), .val (.int v1), .val (.int v2), .val (.int v3), .val (.long v4), .second, .val (.int v5), .val (.int a0_), .val (.int a1_), .val (.int na), .val (.int (if (v2 &&& (1 : Int32)) = (0 : Int32) then (0 : Int32) else (1 : Int32))), .val (.int b0_), .val (.int b1_), .val (.int nb), .val (.ref b5), .val (.ref b6), .val (.ref b7), .unset, .unset, .unset, .unset] [(.long (1 : Int64)), (.ref b21), (.ref b20), (.ref b6), (.ref b19), (.ref b19)])) (fun t_ k_ => XS.lconst X21.here hx rfl (hb hby at_195) k_) ?_
  refine own_go (T' := T21) (g' := (mkF m 198 #[.val (.int v0), .val (.int v1), .val (.int v2), .val (.int v3), .val (.long v4), .second, .val (.int v5), .val (.int a0_), .val (.int a1_), .val (.int na), .val (.int (if (v2 &&& (1 : Int32)) = (0 : Int32) then (0 : Int32) else (1 : Int32))), .val (.int b0_), .val (.int b1_), .val (.int nb), .val (.ref b5), .val (.ref b6), .val (.ref b7), .unset, .unset, .unset, .unset] [(.long v4), (.long (1 : Int64)), (.ref b21), (.ref b20), (.ref b6), (.ref b19), (.ref b19)])) (fun t_ k_ => XS.lload X21.here hx rfl (hb hby at_196) rfl k_) ?_
  refine own_go (T' := T21) (g' := (mkF m 201 #[.val (.int v0), .val (.int v1), .val (.int v2), .val (.int v3), .val (.long v4), .second, .val (.int v5), .val (.int a0_), .val (.int a1_), .val (.int na), .val (.int (if (v2 &&& (1 : Int32)) = (0 : Int32) then (0 : Int32) else (1 : Int32))), .val (.int b0_), .val (.int b1_), .val (.int nb), .val (.ref b5), .val (.ref b6), .val (.ref b7), .unset, .unset, .unset, .unset] [(.long (2147483647 : Int64)), (.long v4), (.long (1 : Int64)), (.ref b21), (.ref b20), (.ref b6), (.ref b19), (.ref b19)])) (fun t_ k_ => X21.ldc2Long hx hown (mvT hZ (hw _ (List.mem_of_getElem? (i := 61) rfl))) (g := (mkF m 198 #[.val (.int v0), .val (.int v1), .val (.int v2), .val (.int v3), .val (.long v4), .second, .val (.int v5), .val (.int a0_), .val (.int a1_), .val (.int na), .val (.int (if (v2 &&& (1 : Int32)) = (0 : Int32) then (0 : Int32) else (1 : Int32))), .val (.int b0_), .val (.int b1_), .val (.int nb), .val (.ref b5), .val (.ref b6), .val (.ref b7), .unset, .unset, .unset, .unset] [(.long v4), (.long (1 : Int64)), (.ref b21), (.ref b20), (.ref b6), (.ref b19), (.ref b19)])) rfl (hb hby at_198) _ k_) ?_
  refine own_go (T' := T21) (g' := (mkF m 202 #[.val (.int v0), .val (.int v1), .val (.int v2), .val (.int v3), .val (.long v4), .second, .val (.int v5), .val (.int a0_), .val (.int a1_), .val (.int na), .val (.int (if (v2 &&& (1 : Int32)) = (0 : Int32) then (0 : Int32) else (1 : Int32))), .val (.int b0_), .val (.int b1_), .val (.int nb), .val (.ref b5), .val (.ref b6), .val (.ref b7), .unset, .unset, .unset, .unset] [(.long (v4 &&& (2147483647 : Int64))), (.long (1 : Int64)), (.ref b21), (.ref b20), (.ref b6), (.ref b19), (.ref b19)])) (fun t_ k_ => XS.land X21.here hx rfl (hb hby at_201) rfl k_) ?_
  obtain ⟨_, _, ⟨T22, L22, k22, n22⟩, -, X22, ⟨Lc22, hQ22, l22, y22, z22⟩, st22⟩ := Jvm.LawKit.callS X21 hx (y := (⟨"java/lang/Math", "max", "(JJ)J"⟩ : MethodName)) hown (mvT hZ (hw _ (List.mem_of_getElem? (i := 62) rfl))) (mvT hZ (hw _ (List.mem_of_getElem? (i := 63) rfl))) (mvT hZ (hw _ (List.mem_of_getElem? (i := 39) rfl))) (mvT hZ (hw _ (List.mem_of_getElem? (i := 64) rfl))) (by decide) (backOf (W := 5) (rm_maxJ l Z a0 hw [] (1 : Int64) (v4 &&& (2147483647 : Int64)) T21.heap n0 (show n0 ≤ T21.heap.size by omega)) hZ (hw _ (List.mem_of_getElem? (i := 64) rfl)) (hw _ (List.mem_of_getElem? (i := 39) rfl)) (by decide) (by decide)) (g := (mkF m 202 #[.val (.int v0), .val (.int v1), .val (.int v2), .val (.int v3), .val (.long v4), .second, .val (.int v5), .val (.int a0_), .val (.int a1_), .val (.int na), .val (.int (if (v2 &&& (1 : Int32)) = (0 : Int32) then (0 : Int32) else (1 : Int32))), .val (.int b0_), .val (.int b1_), .val (.int nb), .val (.ref b5), .val (.ref b6), .val (.ref b7), .unset, .unset, .unset, .unset] [(.long (v4 &&& (2147483647 : Int64))), (.long (1 : Int64)), (.ref b21), (.ref b20), (.ref b6), (.ref b19), (.ref b19)])) rfl (by rw [hml]; rfl) (argsL := [(.long (1 : Int64)), (.long (v4 &&& (2147483647 : Int64)))]) (rest := [(.ref b21), (.ref b20), (.ref b6), (.ref b19), (.ref b19)]) (lenOf pd_10 rfl) rfl (by show 2 * 0 + _ ≤ _; exact Nat.le_of_eq rfl) (hb hby at_202) (fun _ _ => ⟨rfl, rfl, (by decide : 22 + 0 ≤ _), (by decide : 224 + 0 ≤ _)⟩)
  dsimp only [Pt.U, Pt.locs, Pt.cells, Pt.slots] at X22 l22 y22 z22 st22 hQ22
  subst l22 y22 z22
  obtain ⟨rfl, M22, e22⟩ := hQ22
  have N22 := Fr.app N21 M22
  refine own_go (T' := T22) (g' := (mkF m 205 #[.val (.int v0), .val (.int v1), .val (.int v2), .val (.int v3), .val (.long v4), .second, .val (.int v5), .val (.int a0_), .val (.int a1_), .val (.int na), .val (.int (if (v2 &&& (1 : Int32)) = (0 : Int32) then (0 : Int32) else (1 : Int32))), .val (.int b0_), .val (.int b1_), .val (.int nb), .val (.ref b5), .val (.ref b6), .val (.ref b7), .unset, .unset, .unset, .unset] [(.long (if (1 : Int64) < (v4 &&& (2147483647 : Int64)) then (v4 &&& (2147483647 : Int64)) else (1 : Int64))), (.ref b21), (.ref b20), (.ref b6), (.ref b19), (.ref b19)])) (fun t_ k_ => st22 _ k_) ?_
  refine own_go (T' := T22) (g' := (mkF m 206 #[.val (.int v0), .val (.int v1), .val (.int v2), .val (.int v3), .val (.long v4), .second, .val (.int v5), .val (.int a0_), .val (.int a1_), .val (.int na), .val (.int (if (v2 &&& (1 : Int32)) = (0 : Int32) then (0 : Int32) else (1 : Int32))), .val (.int b0_), .val (.int b1_), .val (.int nb), .val (.ref b5), .val (.ref b6), .val (.ref b7), .unset, .unset, .unset, .unset] [(.int ((if (1 : Int64) < (v4 &&& (2147483647 : Int64)) then (v4 &&& (2147483647 : Int64)) else (1 : Int64)).toInt32)), (.ref b21), (.ref b20), (.ref b6), (.ref b19), (.ref b19)])) (fun t_ k_ => XS.l2i X22.here hx rfl (hb hby at_205) rfl k_) ?_
  have ff24 := ((A19.keep K20_).keep K21_)
  have ff25 := (((((((f6_0.1.ext E7).keep K8_).keep K9_).keep K11_).ext E19).keep K20_).keep K21_)
  have ff26 := (f20_0.1.keep K21_)
  have ff27 := ((F19_id.keep K20_ nin0).keep K21_ nin0)
  have ff28 := ((F19_title.keep K20_ nin0).keep K21_ nin0)
  have ff29 := ((F19_destination.keep K20_ nin0).keep K21_ nin0)
  have ff30 := ((F19_length.keep K20_ nin0).keep K21_ nin0)
  obtain ⟨_, _, ⟨T23, L23, k23, n23⟩, -, X23_, h223, gr23, ⟨Lc23, hQ23, l23, y23, z23⟩, st23⟩ := X22.specialBackS hx (y := (⟨"com/example/crownsworn/crownsworn/model/AdventureCard", "<init>", "(Ljava/lang/String;Ljava/lang/String;Ljava/lang/String;I)V"⟩ : MethodName)) rfl hown (mvT hZ (hw _ (List.mem_of_getElem? (i := 41) rfl))) (mvT hZ (hw _ (List.mem_of_getElem? (i := 42) rfl))) (mvT hZ (hw _ (List.mem_of_getElem? (i := 43) rfl))) (by decide) (backOfS (W := 1) (rm_card l Z a0 hw [] b19 b6 b20 b21 ((if (1 : Int64) < (v4 &&& (2147483647 : Int64)) then (v4 &&& (2147483647 : Int64)) else (1 : Int64)).toInt32) T21.heap n0 (show n0 ≤ T21.heap.size by omega) ff24 ff25 ff26 f21_0.1 ff27 ff28 ff29 ff30 (show n0 ≤ b19 by omega) (own_oneL _)) hZ (hw _ (List.mem_of_getElem? (i := 43) rfl)) (hw _ (List.mem_of_getElem? (i := 14) rfl)) (by decide) (by decide)) (g := (mkF m 206 #[.val (.int v0), .val (.int v1), .val (.int v2), .val (.int v3), .val (.long v4), .second, .val (.int v5), .val (.int a0_), .val (.int a1_), .val (.int na), .val (.int (if (v2 &&& (1 : Int32)) = (0 : Int32) then (0 : Int32) else (1 : Int32))), .val (.int b0_), .val (.int b1_), .val (.int nb), .val (.ref b5), .val (.ref b6), .val (.ref b7), .unset, .unset, .unset, .unset] [(.int ((if (1 : Int64) < (v4 &&& (2147483647 : Int64)) then (v4 &&& (2147483647 : Int64)) else (1 : Int64)).toInt32)), (.ref b21), (.ref b20), (.ref b6), (.ref b19), (.ref b19)])) rfl (by rw [hml]; rfl) (Steps.refl _) (a := b19) (argsL := [(.ref b6), (.ref b20), (.ref b21), (.int ((if (1 : Int64) < (v4 &&& (2147483647 : Int64)) then (v4 &&& (2147483647 : Int64)) else (1 : Int64)).toInt32))]) (rest := [(.ref b19)]) (lenOf pd_9 rfl) rfl (by show 2 * 0 + _ ≤ _; exact Nat.le_of_eq rfl) (hb hby at_206) (fun _ _ => ⟨rfl, e22, (by decide : 22 + 6 ≤ _), (by decide : 224 + 180 ≤ _)⟩)
  dsimp only [Pt.U, Pt.locs, Pt.cells, Pt.slots] at X23_ h223 gr23 l23 y23 z23 st23 hQ23
  subst l23 y23 z23
  obtain ⟨X23, hS, hZ, hown⟩ := rebS hS (show _ ≤ T22.heap.size by rw [e22]; omega) X23_ h223 gr23 hZ hown
  have hk : T23.heap.size ≤ T23.heap.size := Nat.le_refl _
  obtain ⟨rfl, M23, K23_, f23_0⟩ := hQ23
  have zz23 := K23_.1
  have O23 := O21.keep K23_ (allS (show n0 ≤ b19 by omega) all0)
  have N23 := Fr.app N22 M23
  refine own_go (T' := T23) (g' := (mkF m 209 #[.val (.int v0), .val (.int v1), .val (.int v2), .val (.int v3), .val (.long v4), .second, .val (.int v5), .val (.int a0_), .val (.int a1_), .val (.int na), .val (.int (if (v2 &&& (1 : Int32)) = (0 : Int32) then (0 : Int32) else (1 : Int32))), .val (.int b0_), .val (.int b1_), .val (.int nb), .val (.ref b5), .val (.ref b6), .val (.ref b7), .unset, .unset, .unset, .unset] [(.ref b19)])) (fun t_ k_ => st23.trans k_) ?_
  refine own_go (T' := T23) (g' := (mkF m 211 #[.val (.int v0), .val (.int v1), .val (.int v2), .val (.int v3), .val (.long v4), .second, .val (.int v5), .val (.int a0_), .val (.int a1_), .val (.int na), .val (.int (if (v2 &&& (1 : Int32)) = (0 : Int32) then (0 : Int32) else (1 : Int32))), .val (.int b0_), .val (.int b1_), .val (.int nb), .val (.ref b5), .val (.ref b6), .val (.ref b7), .val (.ref b19), .unset, .unset, .unset] [])) (fun t_ k_ => XS.astore X23.here hx rfl (hb hby at_209) rfl rfl (l' := #[.val (.int v0), .val (.int v1), .val (.int v2), .val (.int v3), .val (.long v4), .second, .val (.int v5), .val (.int a0_), .val (.int a1_), .val (.int na), .val (.int (if (v2 &&& (1 : Int32)) = (0 : Int32) then (0 : Int32) else (1 : Int32))), .val (.int b0_), .val (.int b1_), .val (.int nb), .val (.ref b5), .val (.ref b6), .val (.ref b7), .val (.ref b19), .unset, .unset, .unset]) rfl k_) ?_
  refine own_go (T' := T23) (g' := (mkF m 213 #[.val (.int v0), .val (.int v1), .val (.int v2), .val (.int v3), .val (.long v4), .second, .val (.int v5), .val (.int a0_), .val (.int a1_), .val (.int na), .val (.int (if (v2 &&& (1 : Int32)) = (0 : Int32) then (0 : Int32) else (1 : Int32))), .val (.int b0_), .val (.int b1_), .val (.int nb), .val (.ref b5), .val (.ref b6), .val (.ref b7), .val (.ref b19), .unset, .unset, .unset] [(.int na)])) (fun t_ k_ => XS.iload X23.here hx rfl (hb hby at_211) rfl k_) ?_
  refine own_go (T' := T23) (g' := (mkF m 215 #[.val (.int v0), .val (.int v1), .val (.int v2), .val (.int v3), .val (.long v4), .second, .val (.int v5), .val (.int a0_), .val (.int a1_), .val (.int na), .val (.int (if (v2 &&& (1 : Int32)) = (0 : Int32) then (0 : Int32) else (1 : Int32))), .val (.int b0_), .val (.int b1_), .val (.int nb), .val (.ref b5), .val (.ref b6), .val (.ref b7), .val (.ref b19), .unset, .unset, .unset] [(.int nb), (.int na)])) (fun t_ k_ => XS.iload X23.here hx rfl (hb hby at_213) rfl k_) ?_
  refine own_go (T' := T23) (g' := (mkF m 249 #[.val (.int v0), .val (.int v1), .val (.int v2), .val (.int v3), .val (.long v4), .second, .val (.int v5), .val (.int a0_), .val (.int a1_), .val (.int na), .val (.int (if (v2 &&& (1 : Int32)) = (0 : Int32) then (0 : Int32) else (1 : Int32))), .val (.int b0_), .val (.int b1_), .val (.int nb), .val (.ref b5), .val (.ref b6), .val (.ref b7), .val (.ref b19), .unset, .unset, .unset] [(.int (if na = nb then (if na < (1 : Int32) then (if na < (2 : Int32) then (1 : Int32) else (if a1_ = b1_ then (1 : Int32) else (0 : Int32))) else (if a0_ = b0_ then (if na < (2 : Int32) then (1 : Int32) else (if a1_ = b1_ then (1 : Int32) else (0 : Int32))) else (0 : Int32))) else (0 : Int32)))])) (fun t_ k_ => ?_) ?_
  · show Steps p.tables e below (T23.setTop (mkF m 215 #[.val (.int v0), .val (.int v1), .val (.int v2), .val (.int v3), .val (.long v4), .second, .val (.int v5), .val (.int a0_), .val (.int a1_), .val (.int na), .val (.int (if (v2 &&& (1 : Int32)) = (0 : Int32) then (0 : Int32) else (1 : Int32))), .val (.int b0_), .val (.int b1_), .val (.int nb), .val (.ref b5), .val (.ref b6), .val (.ref b7), .val (.ref b19), .unset, .unset, .unset] [(.int nb), (.int na)])) t_
    by_cases c31 : na = nb
    · -- na = nb
      refine own_st (T' := T23) (g' := (mkF m 218 #[.val (.int v0), .val (.int v1), .val (.int v2), .val (.int v3), .val (.long v4), .second, .val (.int v5), .val (.int a0_), .val (.int a1_), .val (.int na), .val (.int (if (v2 &&& (1 : Int32)) = (0 : Int32) then (0 : Int32) else (1 : Int32))), .val (.int b0_), .val (.int b1_), .val (.int nb), .val (.ref b5), .val (.ref b6), .val (.ref b7), .val (.ref b19), .unset, .unset, .unset] [])) (fun k_ => XS.icmpNo X23.here hx rfl (hb hby at_215) rfl (teq c31).2 k_) ?_
      refine own_st (T' := T23) (g' := (mkF m 220 #[.val (.int v0), .val (.int v1), .val (.int v2), .val (.int v3), .val (.long v4), .second, .val (.int v5), .val (.int a0_), .val (.int a1_), .val (.int na), .val (.int (if (v2 &&& (1 : Int32)) = (0 : Int32) then (0 : Int32) else (1 : Int32))), .val (.int b0_), .val (.int b1_), .val (.int nb), .val (.ref b5), .val (.ref b6), .val (.ref b7), .val (.ref b19), .unset, .unset, .unset] [(.int na)])) (fun k_ => XS.iload X23.here hx rfl (hb hby at_218) rfl k_) ?_
      refine own_st (T' := T23) (g' := (mkF m 221 #[.val (.int v0), .val (.int v1), .val (.int v2), .val (.int v3), .val (.long v4), .second, .val (.int v5), .val (.int a0_), .val (.int a1_), .val (.int na), .val (.int (if (v2 &&& (1 : Int32)) = (0 : Int32) then (0 : Int32) else (1 : Int32))), .val (.int b0_), .val (.int b1_), .val (.int nb), .val (.ref b5), .val (.ref b6), .val (.ref b7), .val (.ref b19), .unset, .unset, .unset] [(.int (1 : Int32)), (.int na)])) (fun k_ => XS.iconst X23.here hx rfl (hb hby at_220) k_) ?_
      by_cases c32 : na < (1 : Int32)
      · -- na < (1 : Int32)
        refine own_st (T' := T23) (g' := (mkF m 231 #[.val (.int v0), .val (.int v1), .val (.int v2), .val (.int v3), .val (.long v4), .second, .val (.int v5), .val (.int a0_), .val (.int a1_), .val (.int na), .val (.int (if (v2 &&& (1 : Int32)) = (0 : Int32) then (0 : Int32) else (1 : Int32))), .val (.int b0_), .val (.int b1_), .val (.int nb), .val (.ref b5), .val (.ref b6), .val (.ref b7), .val (.ref b19), .unset, .unset, .unset] [])) (fun k_ => XS.icmpYes X23.here hx rfl (pc0 := 221) (pc' := 231) rfl (hb hby at_221) rfl (tlt c32).1 (by decide) (by decide) k_) ?_
        refine own_st (T' := T23) (g' := (mkF m 233 #[.val (.int v0), .val (.int v1), .val (.int v2), .val (.int v3), .val (.long v4), .second, .val (.int v5), .val (.int a0_), .val (.int a1_), .val (.int na), .val (.int (if (v2 &&& (1 : Int32)) = (0 : Int32) then (0 : Int32) else (1 : Int32))), .val (.int b0_), .val (.int b1_), .val (.int nb), .val (.ref b5), .val (.ref b6), .val (.ref b7), .val (.ref b19), .unset, .unset, .unset] [(.int na)])) (fun k_ => XS.iload X23.here hx rfl (hb hby at_231) rfl k_) ?_
        refine own_st (T' := T23) (g' := (mkF m 234 #[.val (.int v0), .val (.int v1), .val (.int v2), .val (.int v3), .val (.long v4), .second, .val (.int v5), .val (.int a0_), .val (.int a1_), .val (.int na), .val (.int (if (v2 &&& (1 : Int32)) = (0 : Int32) then (0 : Int32) else (1 : Int32))), .val (.int b0_), .val (.int b1_), .val (.int nb), .val (.ref b5), .val (.ref b6), .val (.ref b7), .val (.ref b19), .unset, .unset, .unset] [(.int (2 : Int32)), (.int na)])) (fun k_ => XS.iconst X23.here hx rfl (hb hby at_233) k_) ?_
        by_cases c33 : na < (2 : Int32)
        · -- na < (2 : Int32)
          refine own_st (T' := T23) (g' := (mkF m 244 #[.val (.int v0), .val (.int v1), .val (.int v2), .val (.int v3), .val (.long v4), .second, .val (.int v5), .val (.int a0_), .val (.int a1_), .val (.int na), .val (.int (if (v2 &&& (1 : Int32)) = (0 : Int32) then (0 : Int32) else (1 : Int32))), .val (.int b0_), .val (.int b1_), .val (.int nb), .val (.ref b5), .val (.ref b6), .val (.ref b7), .val (.ref b19), .unset, .unset, .unset] [])) (fun k_ => XS.icmpYes X23.here hx rfl (pc0 := 234) (pc' := 244) rfl (hb hby at_234) rfl (tlt c33).1 (by decide) (by decide) k_) ?_
          refine own_st (T' := T23) (g' := (mkF m 245 #[.val (.int v0), .val (.int v1), .val (.int v2), .val (.int v3), .val (.long v4), .second, .val (.int v5), .val (.int a0_), .val (.int a1_), .val (.int na), .val (.int (if (v2 &&& (1 : Int32)) = (0 : Int32) then (0 : Int32) else (1 : Int32))), .val (.int b0_), .val (.int b1_), .val (.int nb), .val (.ref b5), .val (.ref b6), .val (.ref b7), .val (.ref b19), .unset, .unset, .unset] [(.int (1 : Int32))])) (fun k_ => XS.iconst X23.here hx rfl (hb hby at_244) k_) ?_
          refine own_st (T' := T23) (g' := (mkF m 249 #[.val (.int v0), .val (.int v1), .val (.int v2), .val (.int v3), .val (.long v4), .second, .val (.int v5), .val (.int a0_), .val (.int a1_), .val (.int na), .val (.int (if (v2 &&& (1 : Int32)) = (0 : Int32) then (0 : Int32) else (1 : Int32))), .val (.int b0_), .val (.int b1_), .val (.int nb), .val (.ref b5), .val (.ref b6), .val (.ref b7), .val (.ref b19), .unset, .unset, .unset] [(.int (1 : Int32))])) (fun k_ => XS.goto X23.here hx rfl (pc0 := 245) (pc' := 249) rfl (hb hby at_245) (by decide) (by decide) k_) ?_
          rw [show (if na = nb then (if na < (1 : Int32) then (if na < (2 : Int32) then (1 : Int32) else (if a1_ = b1_ then (1 : Int32) else (0 : Int32))) else (if a0_ = b0_ then (if na < (2 : Int32) then (1 : Int32) else (if a1_ = b1_ then (1 : Int32) else (0 : Int32))) else (0 : Int32))) else (0 : Int32)) = (1 : Int32) from (if_pos c31).trans ((if_pos c32).trans ((if_pos c33)))] at k_
          exact k_
        · -- not na < (2 : Int32)
          refine own_st (T' := T23) (g' := (mkF m 237 #[.val (.int v0), .val (.int v1), .val (.int v2), .val (.int v3), .val (.long v4), .second, .val (.int v5), .val (.int a0_), .val (.int a1_), .val (.int na), .val (.int (if (v2 &&& (1 : Int32)) = (0 : Int32) then (0 : Int32) else (1 : Int32))), .val (.int b0_), .val (.int b1_), .val (.int nb), .val (.ref b5), .val (.ref b6), .val (.ref b7), .val (.ref b19), .unset, .unset, .unset] [])) (fun k_ => XS.icmpNo X23.here hx rfl (hb hby at_234) rfl (flt c33).1 k_) ?_
          refine own_st (T' := T23) (g' := (mkF m 239 #[.val (.int v0), .val (.int v1), .val (.int v2), .val (.int v3), .val (.long v4), .second, .val (.int v5), .val (.int a0_), .val (.int a1_), .val (.int na), .val (.int (if (v2 &&& (1 : Int32)) = (0 : Int32) then (0 : Int32) else (1 : Int32))), .val (.int b0_), .val (.int b1_), .val (.int nb), .val (.ref b5), .val (.ref b6), .val (.ref b7), .val (.ref b19), .unset, .unset, .unset] [(.int a1_)])) (fun k_ => XS.iload X23.here hx rfl (hb hby at_237) rfl k_) ?_
          refine own_st (T' := T23) (g' := (mkF m 241 #[.val (.int v0), .val (.int v1), .val (.int v2), .val (.int v3), .val (.long v4), .second, .val (.int v5), .val (.int a0_), .val (.int a1_), .val (.int na), .val (.int (if (v2 &&& (1 : Int32)) = (0 : Int32) then (0 : Int32) else (1 : Int32))), .val (.int b0_), .val (.int b1_), .val (.int nb), .val (.ref b5), .val (.ref b6), .val (.ref b7), .val (.ref b19), .unset, .unset, .unset] [(.int b1_), (.int a1_)])) (fun k_ => XS.iload X23.here hx rfl (hb hby at_239) rfl k_) ?_
          by_cases c34 : a1_ = b1_
          · -- a1_ = b1_
            refine own_st (T' := T23) (g' := (mkF m 244 #[.val (.int v0), .val (.int v1), .val (.int v2), .val (.int v3), .val (.long v4), .second, .val (.int v5), .val (.int a0_), .val (.int a1_), .val (.int na), .val (.int (if (v2 &&& (1 : Int32)) = (0 : Int32) then (0 : Int32) else (1 : Int32))), .val (.int b0_), .val (.int b1_), .val (.int nb), .val (.ref b5), .val (.ref b6), .val (.ref b7), .val (.ref b19), .unset, .unset, .unset] [])) (fun k_ => XS.icmpNo X23.here hx rfl (hb hby at_241) rfl (teq c34).2 k_) ?_
            refine own_st (T' := T23) (g' := (mkF m 245 #[.val (.int v0), .val (.int v1), .val (.int v2), .val (.int v3), .val (.long v4), .second, .val (.int v5), .val (.int a0_), .val (.int a1_), .val (.int na), .val (.int (if (v2 &&& (1 : Int32)) = (0 : Int32) then (0 : Int32) else (1 : Int32))), .val (.int b0_), .val (.int b1_), .val (.int nb), .val (.ref b5), .val (.ref b6), .val (.ref b7), .val (.ref b19), .unset, .unset, .unset] [(.int (1 : Int32))])) (fun k_ => XS.iconst X23.here hx rfl (hb hby at_244) k_) ?_
            refine own_st (T' := T23) (g' := (mkF m 249 #[.val (.int v0), .val (.int v1), .val (.int v2), .val (.int v3), .val (.long v4), .second, .val (.int v5), .val (.int a0_), .val (.int a1_), .val (.int na), .val (.int (if (v2 &&& (1 : Int32)) = (0 : Int32) then (0 : Int32) else (1 : Int32))), .val (.int b0_), .val (.int b1_), .val (.int nb), .val (.ref b5), .val (.ref b6), .val (.ref b7), .val (.ref b19), .unset, .unset, .unset] [(.int (1 : Int32))])) (fun k_ => XS.goto X23.here hx rfl (pc0 := 245) (pc' := 249) rfl (hb hby at_245) (by decide) (by decide) k_) ?_
            rw [show (if na = nb then (if na < (1 : Int32) then (if na < (2 : Int32) then (1 : Int32) else (if a1_ = b1_ then (1 : Int32) else (0 : Int32))) else (if a0_ = b0_ then (if na < (2 : Int32) then (1 : Int32) else (if a1_ = b1_ then (1 : Int32) else (0 : Int32))) else (0 : Int32))) else (0 : Int32)) = (1 : Int32) from (if_pos c31).trans ((if_pos c32).trans ((if_neg c33).trans ((if_pos c34))))] at k_
            exact k_
          · -- not a1_ = b1_
            refine own_st (T' := T23) (g' := (mkF m 248 #[.val (.int v0), .val (.int v1), .val (.int v2), .val (.int v3), .val (.long v4), .second, .val (.int v5), .val (.int a0_), .val (.int a1_), .val (.int na), .val (.int (if (v2 &&& (1 : Int32)) = (0 : Int32) then (0 : Int32) else (1 : Int32))), .val (.int b0_), .val (.int b1_), .val (.int nb), .val (.ref b5), .val (.ref b6), .val (.ref b7), .val (.ref b19), .unset, .unset, .unset] [])) (fun k_ => XS.icmpYes X23.here hx rfl (pc0 := 241) (pc' := 248) rfl (hb hby at_241) rfl (feq c34).2 (by decide) (by decide) k_) ?_
            refine own_st (T' := T23) (g' := (mkF m 249 #[.val (.int v0), .val (.int v1), .val (.int v2), .val (.int v3), .val (.long v4), .second, .val (.int v5), .val (.int a0_), .val (.int a1_), .val (.int na), .val (.int (if (v2 &&& (1 : Int32)) = (0 : Int32) then (0 : Int32) else (1 : Int32))), .val (.int b0_), .val (.int b1_), .val (.int nb), .val (.ref b5), .val (.ref b6), .val (.ref b7), .val (.ref b19), .unset, .unset, .unset] [(.int (0 : Int32))])) (fun k_ => XS.iconst X23.here hx rfl (hb hby at_248) k_) ?_
            rw [show (if na = nb then (if na < (1 : Int32) then (if na < (2 : Int32) then (1 : Int32) else (if a1_ = b1_ then (1 : Int32) else (0 : Int32))) else (if a0_ = b0_ then (if na < (2 : Int32) then (1 : Int32) else (if a1_ = b1_ then (1 : Int32) else (0 : Int32))) else (0 : Int32))) else (0 : Int32)) = (0 : Int32) from (if_pos c31).trans ((if_pos c32).trans ((if_neg c33).trans ((if_neg c34))))] at k_
            exact k_
      · -- not na < (1 : Int32)
        refine own_st (T' := T23) (g' := (mkF m 224 #[.val (.int v0), .val (.int v1), .val (.int v2), .val (.int v3), .val (.long v4), .second, .val (.int v5), .val (.int a0_), .val (.int a1_), .val (.int na), .val (.int (if (v2 &&& (1 : Int32)) = (0 : Int32) then (0 : Int32) else (1 : Int32))), .val (.int b0_), .val (.int b1_), .val (.int nb), .val (.ref b5), .val (.ref b6), .val (.ref b7), .val (.ref b19), .unset, .unset, .unset] [])) (fun k_ => XS.icmpNo X23.here hx rfl (hb hby at_221) rfl (flt c32).1 k_) ?_
        refine own_st (T' := T23) (g' := (mkF m 226 #[.val (.int v0), .val (.int v1), .val (.int v2), .val (.int v3), .val (.long v4), .second, .val (.int v5), .val (.int a0_), .val (.int a1_), .val (.int na), .val (.int (if (v2 &&& (1 : Int32)) = (0 : Int32) then (0 : Int32) else (1 : Int32))), .val (.int b0_), .val (.int b1_), .val (.int nb), .val (.ref b5), .val (.ref b6), .val (.ref b7), .val (.ref b19), .unset, .unset, .unset] [(.int a0_)])) (fun k_ => XS.iload X23.here hx rfl (hb hby at_224) rfl k_) ?_
        refine own_st (T' := T23) (g' := (mkF m 228 #[.val (.int v0), .val (.int v1), .val (.int v2), .val (.int v3), .val (.long v4), .second, .val (.int v5), .val (.int a0_), .val (.int a1_), .val (.int na), .val (.int (if (v2 &&& (1 : Int32)) = (0 : Int32) then (0 : Int32) else (1 : Int32))), .val (.int b0_), .val (.int b1_), .val (.int nb), .val (.ref b5), .val (.ref b6), .val (.ref b7), .val (.ref b19), .unset, .unset, .unset] [(.int b0_), (.int a0_)])) (fun k_ => XS.iload X23.here hx rfl (hb hby at_226) rfl k_) ?_
        by_cases c35 : a0_ = b0_
        · -- a0_ = b0_
          refine own_st (T' := T23) (g' := (mkF m 231 #[.val (.int v0), .val (.int v1), .val (.int v2), .val (.int v3), .val (.long v4), .second, .val (.int v5), .val (.int a0_), .val (.int a1_), .val (.int na), .val (.int (if (v2 &&& (1 : Int32)) = (0 : Int32) then (0 : Int32) else (1 : Int32))), .val (.int b0_), .val (.int b1_), .val (.int nb), .val (.ref b5), .val (.ref b6), .val (.ref b7), .val (.ref b19), .unset, .unset, .unset] [])) (fun k_ => XS.icmpNo X23.here hx rfl (hb hby at_228) rfl (teq c35).2 k_) ?_
          refine own_st (T' := T23) (g' := (mkF m 233 #[.val (.int v0), .val (.int v1), .val (.int v2), .val (.int v3), .val (.long v4), .second, .val (.int v5), .val (.int a0_), .val (.int a1_), .val (.int na), .val (.int (if (v2 &&& (1 : Int32)) = (0 : Int32) then (0 : Int32) else (1 : Int32))), .val (.int b0_), .val (.int b1_), .val (.int nb), .val (.ref b5), .val (.ref b6), .val (.ref b7), .val (.ref b19), .unset, .unset, .unset] [(.int na)])) (fun k_ => XS.iload X23.here hx rfl (hb hby at_231) rfl k_) ?_
          refine own_st (T' := T23) (g' := (mkF m 234 #[.val (.int v0), .val (.int v1), .val (.int v2), .val (.int v3), .val (.long v4), .second, .val (.int v5), .val (.int a0_), .val (.int a1_), .val (.int na), .val (.int (if (v2 &&& (1 : Int32)) = (0 : Int32) then (0 : Int32) else (1 : Int32))), .val (.int b0_), .val (.int b1_), .val (.int nb), .val (.ref b5), .val (.ref b6), .val (.ref b7), .val (.ref b19), .unset, .unset, .unset] [(.int (2 : Int32)), (.int na)])) (fun k_ => XS.iconst X23.here hx rfl (hb hby at_233) k_) ?_
          by_cases c36 : na < (2 : Int32)
          · -- na < (2 : Int32)
            refine own_st (T' := T23) (g' := (mkF m 244 #[.val (.int v0), .val (.int v1), .val (.int v2), .val (.int v3), .val (.long v4), .second, .val (.int v5), .val (.int a0_), .val (.int a1_), .val (.int na), .val (.int (if (v2 &&& (1 : Int32)) = (0 : Int32) then (0 : Int32) else (1 : Int32))), .val (.int b0_), .val (.int b1_), .val (.int nb), .val (.ref b5), .val (.ref b6), .val (.ref b7), .val (.ref b19), .unset, .unset, .unset] [])) (fun k_ => XS.icmpYes X23.here hx rfl (pc0 := 234) (pc' := 244) rfl (hb hby at_234) rfl (tlt c36).1 (by decide) (by decide) k_) ?_
            refine own_st (T' := T23) (g' := (mkF m 245 #[.val (.int v0), .val (.int v1), .val (.int v2), .val (.int v3), .val (.long v4), .second, .val (.int v5), .val (.int a0_), .val (.int a1_), .val (.int na), .val (.int (if (v2 &&& (1 : Int32)) = (0 : Int32) then (0 : Int32) else (1 : Int32))), .val (.int b0_), .val (.int b1_), .val (.int nb), .val (.ref b5), .val (.ref b6), .val (.ref b7), .val (.ref b19), .unset, .unset, .unset] [(.int (1 : Int32))])) (fun k_ => XS.iconst X23.here hx rfl (hb hby at_244) k_) ?_
            refine own_st (T' := T23) (g' := (mkF m 249 #[.val (.int v0), .val (.int v1), .val (.int v2), .val (.int v3), .val (.long v4), .second, .val (.int v5), .val (.int a0_), .val (.int a1_), .val (.int na), .val (.int (if (v2 &&& (1 : Int32)) = (0 : Int32) then (0 : Int32) else (1 : Int32))), .val (.int b0_), .val (.int b1_), .val (.int nb), .val (.ref b5), .val (.ref b6), .val (.ref b7), .val (.ref b19), .unset, .unset, .unset] [(.int (1 : Int32))])) (fun k_ => XS.goto X23.here hx rfl (pc0 := 245) (pc' := 249) rfl (hb hby at_245) (by decide) (by decide) k_) ?_
            rw [show (if na = nb then (if na < (1 : Int32) then (if na < (2 : Int32) then (1 : Int32) else (if a1_ = b1_ then (1 : Int32) else (0 : Int32))) else (if a0_ = b0_ then (if na < (2 : Int32) then (1 : Int32) else (if a1_ = b1_ then (1 : Int32) else (0 : Int32))) else (0 : Int32))) else (0 : Int32)) = (1 : Int32) from (if_pos c31).trans ((if_neg c32).trans ((if_pos c35).trans ((if_pos c36))))] at k_
            exact k_
          · -- not na < (2 : Int32)
            refine own_st (T' := T23) (g' := (mkF m 237 #[.val (.int v0), .val (.int v1), .val (.int v2), .val (.int v3), .val (.long v4), .second, .val (.int v5), .val (.int a0_), .val (.int a1_), .val (.int na), .val (.int (if (v2 &&& (1 : Int32)) = (0 : Int32) then (0 : Int32) else (1 : Int32))), .val (.int b0_), .val (.int b1_), .val (.int nb), .val (.ref b5), .val (.ref b6), .val (.ref b7), .val (.ref b19), .unset, .unset, .unset] [])) (fun k_ => XS.icmpNo X23.here hx rfl (hb hby at_234) rfl (flt c36).1 k_) ?_
            refine own_st (T' := T23) (g' := (mkF m 239 #[.val (.int v0), .val (.int v1), .val (.int v2), .val (.int v3), .val (.long v4), .second, .val (.int v5), .val (.int a0_), .val (.int a1_), .val (.int na), .val (.int (if (v2 &&& (1 : Int32)) = (0 : Int32) then (0 : Int32) else (1 : Int32))), .val (.int b0_), .val (.int b1_), .val (.int nb), .val (.ref b5), .val (.ref b6), .val (.ref b7), .val (.ref b19), .unset, .unset, .unset] [(.int a1_)])) (fun k_ => XS.iload X23.here hx rfl (hb hby at_237) rfl k_) ?_
            refine own_st (T' := T23) (g' := (mkF m 241 #[.val (.int v0), .val (.int v1), .val (.int v2), .val (.int v3), .val (.long v4), .second, .val (.int v5), .val (.int a0_), .val (.int a1_), .val (.int na), .val (.int (if (v2 &&& (1 : Int32)) = (0 : Int32) then (0 : Int32) else (1 : Int32))), .val (.int b0_), .val (.int b1_), .val (.int nb), .val (.ref b5), .val (.ref b6), .val (.ref b7), .val (.ref b19), .unset, .unset, .unset] [(.int b1_), (.int a1_)])) (fun k_ => XS.iload X23.here hx rfl (hb hby at_239) rfl k_) ?_
            by_cases c37 : a1_ = b1_
            · -- a1_ = b1_
              refine own_st (T' := T23) (g' := (mkF m 244 #[.val (.int v0), .val (.int v1), .val (.int v2), .val (.int v3), .val (.long v4), .second, .val (.int v5), .val (.int a0_), .val (.int a1_), .val (.int na), .val (.int (if (v2 &&& (1 : Int32)) = (0 : Int32) then (0 : Int32) else (1 : Int32))), .val (.int b0_), .val (.int b1_), .val (.int nb), .val (.ref b5), .val (.ref b6), .val (.ref b7), .val (.ref b19), .unset, .unset, .unset] [])) (fun k_ => XS.icmpNo X23.here hx rfl (hb hby at_241) rfl (teq c37).2 k_) ?_
              refine own_st (T' := T23) (g' := (mkF m 245 #[.val (.int v0), .val (.int v1), .val (.int v2), .val (.int v3), .val (.long v4), .second, .val (.int v5), .val (.int a0_), .val (.int a1_), .val (.int na), .val (.int (if (v2 &&& (1 : Int32)) = (0 : Int32) then (0 : Int32) else (1 : Int32))), .val (.int b0_), .val (.int b1_), .val (.int nb), .val (.ref b5), .val (.ref b6), .val (.ref b7), .val (.ref b19), .unset, .unset, .unset] [(.int (1 : Int32))])) (fun k_ => XS.iconst X23.here hx rfl (hb hby at_244) k_) ?_
              refine own_st (T' := T23) (g' := (mkF m 249 #[.val (.int v0), .val (.int v1), .val (.int v2), .val (.int v3), .val (.long v4), .second, .val (.int v5), .val (.int a0_), .val (.int a1_), .val (.int na), .val (.int (if (v2 &&& (1 : Int32)) = (0 : Int32) then (0 : Int32) else (1 : Int32))), .val (.int b0_), .val (.int b1_), .val (.int nb), .val (.ref b5), .val (.ref b6), .val (.ref b7), .val (.ref b19), .unset, .unset, .unset] [(.int (1 : Int32))])) (fun k_ => XS.goto X23.here hx rfl (pc0 := 245) (pc' := 249) rfl (hb hby at_245) (by decide) (by decide) k_) ?_
              rw [show (if na = nb then (if na < (1 : Int32) then (if na < (2 : Int32) then (1 : Int32) else (if a1_ = b1_ then (1 : Int32) else (0 : Int32))) else (if a0_ = b0_ then (if na < (2 : Int32) then (1 : Int32) else (if a1_ = b1_ then (1 : Int32) else (0 : Int32))) else (0 : Int32))) else (0 : Int32)) = (1 : Int32) from (if_pos c31).trans ((if_neg c32).trans ((if_pos c35).trans ((if_neg c36).trans ((if_pos c37)))))] at k_
              exact k_
            · -- not a1_ = b1_
              refine own_st (T' := T23) (g' := (mkF m 248 #[.val (.int v0), .val (.int v1), .val (.int v2), .val (.int v3), .val (.long v4), .second, .val (.int v5), .val (.int a0_), .val (.int a1_), .val (.int na), .val (.int (if (v2 &&& (1 : Int32)) = (0 : Int32) then (0 : Int32) else (1 : Int32))), .val (.int b0_), .val (.int b1_), .val (.int nb), .val (.ref b5), .val (.ref b6), .val (.ref b7), .val (.ref b19), .unset, .unset, .unset] [])) (fun k_ => XS.icmpYes X23.here hx rfl (pc0 := 241) (pc' := 248) rfl (hb hby at_241) rfl (feq c37).2 (by decide) (by decide) k_) ?_
              refine own_st (T' := T23) (g' := (mkF m 249 #[.val (.int v0), .val (.int v1), .val (.int v2), .val (.int v3), .val (.long v4), .second, .val (.int v5), .val (.int a0_), .val (.int a1_), .val (.int na), .val (.int (if (v2 &&& (1 : Int32)) = (0 : Int32) then (0 : Int32) else (1 : Int32))), .val (.int b0_), .val (.int b1_), .val (.int nb), .val (.ref b5), .val (.ref b6), .val (.ref b7), .val (.ref b19), .unset, .unset, .unset] [(.int (0 : Int32))])) (fun k_ => XS.iconst X23.here hx rfl (hb hby at_248) k_) ?_
              rw [show (if na = nb then (if na < (1 : Int32) then (if na < (2 : Int32) then (1 : Int32) else (if a1_ = b1_ then (1 : Int32) else (0 : Int32))) else (if a0_ = b0_ then (if na < (2 : Int32) then (1 : Int32) else (if a1_ = b1_ then (1 : Int32) else (0 : Int32))) else (0 : Int32))) else (0 : Int32)) = (0 : Int32) from (if_pos c31).trans ((if_neg c32).trans ((if_pos c35).trans ((if_neg c36).trans ((if_neg c37)))))] at k_
              exact k_
        · -- not a0_ = b0_
          refine own_st (T' := T23) (g' := (mkF m 248 #[.val (.int v0), .val (.int v1), .val (.int v2), .val (.int v3), .val (.long v4), .second, .val (.int v5), .val (.int a0_), .val (.int a1_), .val (.int na), .val (.int (if (v2 &&& (1 : Int32)) = (0 : Int32) then (0 : Int32) else (1 : Int32))), .val (.int b0_), .val (.int b1_), .val (.int nb), .val (.ref b5), .val (.ref b6), .val (.ref b7), .val (.ref b19), .unset, .unset, .unset] [])) (fun k_ => XS.icmpYes X23.here hx rfl (pc0 := 228) (pc' := 248) rfl (hb hby at_228) rfl (feq c35).2 (by decide) (by decide) k_) ?_
          refine own_st (T' := T23) (g' := (mkF m 249 #[.val (.int v0), .val (.int v1), .val (.int v2), .val (.int v3), .val (.long v4), .second, .val (.int v5), .val (.int a0_), .val (.int a1_), .val (.int na), .val (.int (if (v2 &&& (1 : Int32)) = (0 : Int32) then (0 : Int32) else (1 : Int32))), .val (.int b0_), .val (.int b1_), .val (.int nb), .val (.ref b5), .val (.ref b6), .val (.ref b7), .val (.ref b19), .unset, .unset, .unset] [(.int (0 : Int32))])) (fun k_ => XS.iconst X23.here hx rfl (hb hby at_248) k_) ?_
          rw [show (if na = nb then (if na < (1 : Int32) then (if na < (2 : Int32) then (1 : Int32) else (if a1_ = b1_ then (1 : Int32) else (0 : Int32))) else (if a0_ = b0_ then (if na < (2 : Int32) then (1 : Int32) else (if a1_ = b1_ then (1 : Int32) else (0 : Int32))) else (0 : Int32))) else (0 : Int32)) = (0 : Int32) from (if_pos c31).trans ((if_neg c32).trans ((if_neg c35)))] at k_
          exact k_
    · -- not na = nb
      refine own_st (T' := T23) (g' := (mkF m 248 #[.val (.int v0), .val (.int v1), .val (.int v2), .val (.int v3), .val (.long v4), .second, .val (.int v5), .val (.int a0_), .val (.int a1_), .val (.int na), .val (.int (if (v2 &&& (1 : Int32)) = (0 : Int32) then (0 : Int32) else (1 : Int32))), .val (.int b0_), .val (.int b1_), .val (.int nb), .val (.ref b5), .val (.ref b6), .val (.ref b7), .val (.ref b19), .unset, .unset, .unset] [])) (fun k_ => XS.icmpYes X23.here hx rfl (pc0 := 215) (pc' := 248) rfl (hb hby at_215) rfl (feq c31).2 (by decide) (by decide) k_) ?_
      refine own_st (T' := T23) (g' := (mkF m 249 #[.val (.int v0), .val (.int v1), .val (.int v2), .val (.int v3), .val (.long v4), .second, .val (.int v5), .val (.int a0_), .val (.int a1_), .val (.int na), .val (.int (if (v2 &&& (1 : Int32)) = (0 : Int32) then (0 : Int32) else (1 : Int32))), .val (.int b0_), .val (.int b1_), .val (.int nb), .val (.ref b5), .val (.ref b6), .val (.ref b7), .val (.ref b19), .unset, .unset, .unset] [(.int (0 : Int32))])) (fun k_ => XS.iconst X23.here hx rfl (hb hby at_248) k_) ?_
      rw [show (if na = nb then (if na < (1 : Int32) then (if na < (2 : Int32) then (1 : Int32) else (if a1_ = b1_ then (1 : Int32) else (0 : Int32))) else (if a0_ = b0_ then (if na < (2 : Int32) then (1 : Int32) else (if a1_ = b1_ then (1 : Int32) else (0 : Int32))) else (0 : Int32))) else (0 : Int32)) = (0 : Int32) from (if_neg c31)] at k_
      exact k_
  rw [own_nest a0_ a1_ b0_ b1_ h_na h_nb]
  refine own_go (T' := T23) (g' := (mkF m 251 #[.val (.int v0), .val (.int v1), .val (.int v2), .val (.int v3), .val (.long v4), .second, .val (.int v5), .val (.int a0_), .val (.int a1_), .val (.int na), .val (.int (if (v2 &&& (1 : Int32)) = (0 : Int32) then (0 : Int32) else (1 : Int32))), .val (.int b0_), .val (.int b1_), .val (.int nb), .val (.ref b5), .val (.ref b6), .val (.ref b7), .val (.ref b19), .val (.int (if (own_cs na a0_ a1_) = (own_cs nb b0_ b1_) then (1 : Int32) else (0 : Int32))), .unset, .unset] [])) (fun t_ k_ => XS.istore X23.here hx rfl (hb hby at_249) rfl (l' := #[.val (.int v0), .val (.int v1), .val (.int v2), .val (.int v3), .val (.long v4), .second, .val (.int v5), .val (.int a0_), .val (.int a1_), .val (.int na), .val (.int (if (v2 &&& (1 : Int32)) = (0 : Int32) then (0 : Int32) else (1 : Int32))), .val (.int b0_), .val (.int b1_), .val (.int nb), .val (.ref b5), .val (.ref b6), .val (.ref b7), .val (.ref b19), .val (.int (if (own_cs na a0_ a1_) = (own_cs nb b0_ b1_) then (1 : Int32) else (0 : Int32))), .unset, .unset]) rfl k_) ?_
  refine own_go (T' := T23) (g' := (mkF m 253 #[.val (.int v0), .val (.int v1), .val (.int v2), .val (.int v3), .val (.long v4), .second, .val (.int v5), .val (.int a0_), .val (.int a1_), .val (.int na), .val (.int (if (v2 &&& (1 : Int32)) = (0 : Int32) then (0 : Int32) else (1 : Int32))), .val (.int b0_), .val (.int b1_), .val (.int nb), .val (.ref b5), .val (.ref b6), .val (.ref b7), .val (.ref b19), .val (.int (if (own_cs na a0_ a1_) = (own_cs nb b0_ b1_) then (1 : Int32) else (0 : Int32))), .unset, .unset] [(.int v5)])) (fun t_ k_ => XS.iload X23.here hx rfl (hb hby at_251) rfl k_) ?_
  refine own_go (T' := T23) (g' := (mkF m 255 #[.val (.int v0), .val (.int v1), .val (.int v2), .val (.int v3), .val (.long v4), .second, .val (.int v5), .val (.int a0_), .val (.int a1_), .val (.int na), .val (.int (if (v2 &&& (1 : Int32)) = (0 : Int32) then (0 : Int32) else (1 : Int32))), .val (.int b0_), .val (.int b1_), .val (.int nb), .val (.ref b5), .val (.ref b6), .val (.ref b7), .val (.ref b19), .val (.int (if (own_cs na a0_ a1_) = (own_cs nb b0_ b1_) then (1 : Int32) else (0 : Int32))), .unset, .unset] [(.int (16 : Int32)), (.int v5)])) (fun t_ k_ => XS.bipush X23.here hx rfl (hb hby at_253) k_) ?_
  refine own_go (T' := T23) (g' := (mkF m 256 #[.val (.int v0), .val (.int v1), .val (.int v2), .val (.int v3), .val (.long v4), .second, .val (.int v5), .val (.int a0_), .val (.int a1_), .val (.int na), .val (.int (if (v2 &&& (1 : Int32)) = (0 : Int32) then (0 : Int32) else (1 : Int32))), .val (.int b0_), .val (.int b1_), .val (.int nb), .val (.ref b5), .val (.ref b6), .val (.ref b7), .val (.ref b19), .val (.int (if (own_cs na a0_ a1_) = (own_cs nb b0_ b1_) then (1 : Int32) else (0 : Int32))), .unset, .unset] [(.int ((v5.toUInt32 >>> ((16 : Int32) &&& 31).toUInt32).toInt32))])) (fun t_ k_ => XS.iushr X23.here hx rfl (hb hby at_255) rfl k_) ?_
  refine own_go (T' := T23) (g' := (mkF m 257 #[.val (.int v0), .val (.int v1), .val (.int v2), .val (.int v3), .val (.long v4), .second, .val (.int v5), .val (.int a0_), .val (.int a1_), .val (.int na), .val (.int (if (v2 &&& (1 : Int32)) = (0 : Int32) then (0 : Int32) else (1 : Int32))), .val (.int b0_), .val (.int b1_), .val (.int nb), .val (.ref b5), .val (.ref b6), .val (.ref b7), .val (.ref b19), .val (.int (if (own_cs na a0_ a1_) = (own_cs nb b0_ b1_) then (1 : Int32) else (0 : Int32))), .unset, .unset] [(.int (3 : Int32)), (.int ((v5.toUInt32 >>> ((16 : Int32) &&& 31).toUInt32).toInt32))])) (fun t_ k_ => XS.iconst X23.here hx rfl (hb hby at_256) k_) ?_
  refine own_go (T' := T23) (g' := (mkF m 258 #[.val (.int v0), .val (.int v1), .val (.int v2), .val (.int v3), .val (.long v4), .second, .val (.int v5), .val (.int a0_), .val (.int a1_), .val (.int na), .val (.int (if (v2 &&& (1 : Int32)) = (0 : Int32) then (0 : Int32) else (1 : Int32))), .val (.int b0_), .val (.int b1_), .val (.int nb), .val (.ref b5), .val (.ref b6), .val (.ref b7), .val (.ref b19), .val (.int (if (own_cs na a0_ a1_) = (own_cs nb b0_ b1_) then (1 : Int32) else (0 : Int32))), .unset, .unset] [(.int (((v5.toUInt32 >>> ((16 : Int32) &&& 31).toUInt32).toInt32) &&& (3 : Int32)))])) (fun t_ k_ => XS.iand X23.here hx rfl (hb hby at_257) rfl k_) ?_
  refine own_go (T' := T23) (g' := (mkF m 260 #[.val (.int v0), .val (.int v1), .val (.int v2), .val (.int v3), .val (.long v4), .second, .val (.int v5), .val (.int a0_), .val (.int a1_), .val (.int na), .val (.int (if (v2 &&& (1 : Int32)) = (0 : Int32) then (0 : Int32) else (1 : Int32))), .val (.int b0_), .val (.int b1_), .val (.int nb), .val (.ref b5), .val (.ref b6), .val (.ref b7), .val (.ref b19), .val (.int (if (own_cs na a0_ a1_) = (own_cs nb b0_ b1_) then (1 : Int32) else (0 : Int32))), .val (.int (((v5.toUInt32 >>> ((16 : Int32) &&& 31).toUInt32).toInt32) &&& (3 : Int32))), .unset] [])) (fun t_ k_ => XS.istore X23.here hx rfl (hb hby at_258) rfl (l' := #[.val (.int v0), .val (.int v1), .val (.int v2), .val (.int v3), .val (.long v4), .second, .val (.int v5), .val (.int a0_), .val (.int a1_), .val (.int na), .val (.int (if (v2 &&& (1 : Int32)) = (0 : Int32) then (0 : Int32) else (1 : Int32))), .val (.int b0_), .val (.int b1_), .val (.int nb), .val (.ref b5), .val (.ref b6), .val (.ref b7), .val (.ref b19), .val (.int (if (own_cs na a0_ a1_) = (own_cs nb b0_ b1_) then (1 : Int32) else (0 : Int32))), .val (.int (((v5.toUInt32 >>> ((16 : Int32) &&& 31).toUInt32).toInt32) &&& (3 : Int32))), .unset]) rfl k_) ?_
  refine own_go (T' := T23) (g' := (mkF m 262 #[.val (.int v0), .val (.int v1), .val (.int v2), .val (.int v3), .val (.long v4), .second, .val (.int v5), .val (.int a0_), .val (.int a1_), .val (.int na), .val (.int (if (v2 &&& (1 : Int32)) = (0 : Int32) then (0 : Int32) else (1 : Int32))), .val (.int b0_), .val (.int b1_), .val (.int nb), .val (.ref b5), .val (.ref b6), .val (.ref b7), .val (.ref b19), .val (.int (if (own_cs na a0_ a1_) = (own_cs nb b0_ b1_) then (1 : Int32) else (0 : Int32))), .val (.int (((v5.toUInt32 >>> ((16 : Int32) &&& 31).toUInt32).toInt32) &&& (3 : Int32))), .unset] [(.int (((v5.toUInt32 >>> ((16 : Int32) &&& 31).toUInt32).toInt32) &&& (3 : Int32)))])) (fun t_ k_ => XS.iload X23.here hx rfl (hb hby at_260) rfl k_) ?_
  by_cases c38 : (((v5.toUInt32 >>> ((16 : Int32) &&& 31).toUInt32).toInt32) &&& (3 : Int32)) = (0 : Int32)
  · -- (((v5.toUInt32 >>> ((16 : Int32) &&& 31).toUInt32).toInt32) &&& (3 : Int32)) = (0 : Int32)
    refine own_go (T' := T23) (g' := (mkF m 265 #[.val (.int v0), .val (.int v1), .val (.int v2), .val (.int v3), .val (.long v4), .second, .val (.int v5), .val (.int a0_), .val (.int a1_), .val (.int na), .val (.int (if (v2 &&& (1 : Int32)) = (0 : Int32) then (0 : Int32) else (1 : Int32))), .val (.int b0_), .val (.int b1_), .val (.int nb), .val (.ref b5), .val (.ref b6), .val (.ref b7), .val (.ref b19), .val (.int (if (own_cs na a0_ a1_) = (own_cs nb b0_ b1_) then (1 : Int32) else (0 : Int32))), .val (.int (((v5.toUInt32 >>> ((16 : Int32) &&& 31).toUInt32).toInt32) &&& (3 : Int32))), .unset] [])) (fun t_ k_ => XS.ifNo X23.here hx rfl (hb hby at_262) rfl ((if0 _ _).trans (teq c38).2) k_) ?_
    refine own_go (T' := T23) (g' := (mkF m 267 #[.val (.int v0), .val (.int v1), .val (.int v2), .val (.int v3), .val (.long v4), .second, .val (.int v5), .val (.int a0_), .val (.int a1_), .val (.int na), .val (.int (if (v2 &&& (1 : Int32)) = (0 : Int32) then (0 : Int32) else (1 : Int32))), .val (.int b0_), .val (.int b1_), .val (.int nb), .val (.ref b5), .val (.ref b6), .val (.ref b7), .val (.ref b19), .val (.int (if (own_cs na a0_ a1_) = (own_cs nb b0_ b1_) then (1 : Int32) else (0 : Int32))), .val (.int (((v5.toUInt32 >>> ((16 : Int32) &&& 31).toUInt32).toInt32) &&& (3 : Int32))), .unset] [(.ref b7)])) (fun t_ k_ => XS.aload X23.here hx rfl (hb hby at_265) rfl rfl k_) ?_
    refine own_go (T' := T23) (g' := (mkF m 269 #[.val (.int v0), .val (.int v1), .val (.int v2), .val (.int v3), .val (.long v4), .second, .val (.int v5), .val (.int a0_), .val (.int a1_), .val (.int na), .val (.int (if (v2 &&& (1 : Int32)) = (0 : Int32) then (0 : Int32) else (1 : Int32))), .val (.int b0_), .val (.int b1_), .val (.int nb), .val (.ref b5), .val (.ref b6), .val (.ref b7), .val (.ref b19), .val (.int (if (own_cs na a0_ a1_) = (own_cs nb b0_ b1_) then (1 : Int32) else (0 : Int32))), .val (.int (((v5.toUInt32 >>> ((16 : Int32) &&& 31).toUInt32).toInt32) &&& (3 : Int32))), .unset] [(.ref b19), (.ref b7)])) (fun t_ k_ => XS.aload X23.here hx rfl (hb hby at_267) rfl rfl k_) ?_
    have ff40 := (ff24.keep K23_)
    have ff41 := ((((f11_0.ext E19).keep K20_ nin0).keep K21_ nin0).keep K23_ (ninS (own_ne (by omega)) nin0))
    have ff42 := (((((((((f5_0.keep K6_ all0).ext E7).keep K8_ all0).keep K9_ all0).keep K11_ (allS (show T5.heap.size ≤ b7 by omega) all0)).ext E19).keep K20_ all0).keep K21_ all0).keep K23_ (allS (show T5.heap.size ≤ b19 by omega) all0))
    have ff43 := ((((((((f6_0.ext E7).keep K8_ all0).keep K9_ all0).keep K11_ (allS (show T6.heap.size ≤ b7 by omega) all0)).ext E19).keep K20_ all0).keep K21_ all0).keep K23_ (allS (show T6.heap.size ≤ b19 by omega) all0))
    have ff44 := (((((ff12.keep K11_).ext E19).keep K20_).keep K21_).keep K23_)
    obtain ⟨cq39, kq39, q39a, q39b, q39c⟩ := isOf hZ rfl ff44
    obtain ⟨_, _, ⟨T39, L39, k39, n39⟩, -, X39, ⟨Lc39, hQ39, l39, y39, z39⟩, st39⟩ := X23.virtualBack hx (y := (⟨"com/example/crownsworn/crownsworn/model/AdventureCard", "equals", "(Ljava/lang/Object;)Z"⟩ : MethodName)) (z := (⟨"com/example/crownsworn/crownsworn/model/AdventureCard", "equals", "(Ljava/lang/Object;)Z"⟩ : MethodName)) hown (mvT hZ (hw _ (List.mem_of_getElem? (i := 65) rfl))) (mvT hZ (hw _ (List.mem_of_getElem? (i := 66) rfl))) (notFace_of_selects (args := #[]) (mvT hZ (hw _ (List.mem_of_getElem? (i := 68) rfl)))) (mvT hZ (hw _ (List.mem_of_getElem? (i := 68) rfl))) (mvT hZ (hw _ (List.mem_of_getElem? (i := 67) rfl))) (by decide) (backOf (W := 0) (rm_eq l Z a0 hw [] b7 b19 b5 b6 T5.heap.size (own_cs na a0_ a1_) T6.heap.size (own_cs nb b0_ b1_) cz T23.heap n0 (show n0 ≤ T23.heap.size by omega) ff40 ff41 f23_0 ff42 (own_csl _ _ _) ff43 (own_csl _ _ _) O23 S_COMPACT_STRINGS hcz) hZ (hw _ (List.mem_of_getElem? (i := 69) rfl)) (hw _ (List.mem_of_getElem? (i := 14) rfl)) (by decide) (by decide)) q39a q39c (g := (mkF m 269 #[.val (.int v0), .val (.int v1), .val (.int v2), .val (.int v3), .val (.long v4), .second, .val (.int v5), .val (.int a0_), .val (.int a1_), .val (.int na), .val (.int (if (v2 &&& (1 : Int32)) = (0 : Int32) then (0 : Int32) else (1 : Int32))), .val (.int b0_), .val (.int b1_), .val (.int nb), .val (.ref b5), .val (.ref b6), .val (.ref b7), .val (.ref b19), .val (.int (if (own_cs na a0_ a1_) = (own_cs nb b0_ b1_) then (1 : Int32) else (0 : Int32))), .val (.int (((v5.toUInt32 >>> ((16 : Int32) &&& 31).toUInt32).toInt32) &&& (3 : Int32))), .unset] [(.ref b19), (.ref b7)])) rfl (by rw [hml]; rfl) (Steps.refl _) (argsL := [(.ref b19)]) (rest := []) (lenOf pd_4 rfl) rfl (by show 2 * 0 + _ ≤ _; exact Nat.le_of_eq rfl) (hb hby at_269) (fun _ _ => ⟨rfl, rfl, (by decide : 28 + 0 ≤ _), (by decide : 404 + 0 ≤ _)⟩)
    dsimp only [Pt.U, Pt.locs, Pt.cells, Pt.slots] at X39 l39 y39 z39 st39 hQ39
    subst l39 y39 z39
    obtain ⟨rfl, M39, e39⟩ := hQ39
    have N39 := Fr.app N23 M39
    refine own_go (T' := T39) (g' := (mkF m 272 #[.val (.int v0), .val (.int v1), .val (.int v2), .val (.int v3), .val (.long v4), .second, .val (.int v5), .val (.int a0_), .val (.int a1_), .val (.int na), .val (.int (if (v2 &&& (1 : Int32)) = (0 : Int32) then (0 : Int32) else (1 : Int32))), .val (.int b0_), .val (.int b1_), .val (.int nb), .val (.ref b5), .val (.ref b6), .val (.ref b7), .val (.ref b19), .val (.int (if (own_cs na a0_ a1_) = (own_cs nb b0_ b1_) then (1 : Int32) else (0 : Int32))), .val (.int (((v5.toUInt32 >>> ((16 : Int32) &&& 31).toUInt32).toInt32) &&& (3 : Int32))), .unset] [(.int (if (own_cs na a0_ a1_) = (own_cs nb b0_ b1_) then (1 : Int32) else (0 : Int32)))])) (fun t_ k_ => st39.trans k_) ?_
    refine own_go (T' := T39) (g' := (mkF m 274 #[.val (.int v0), .val (.int v1), .val (.int v2), .val (.int v3), .val (.long v4), .second, .val (.int v5), .val (.int a0_), .val (.int a1_), .val (.int na), .val (.int (if (v2 &&& (1 : Int32)) = (0 : Int32) then (0 : Int32) else (1 : Int32))), .val (.int b0_), .val (.int b1_), .val (.int nb), .val (.ref b5), .val (.ref b6), .val (.ref b7), .val (.ref b19), .val (.int (if (own_cs na a0_ a1_) = (own_cs nb b0_ b1_) then (1 : Int32) else (0 : Int32))), .val (.int (((v5.toUInt32 >>> ((16 : Int32) &&& 31).toUInt32).toInt32) &&& (3 : Int32))), .unset] [(.int (if (own_cs na a0_ a1_) = (own_cs nb b0_ b1_) then (1 : Int32) else (0 : Int32))), (.int (if (own_cs na a0_ a1_) = (own_cs nb b0_ b1_) then (1 : Int32) else (0 : Int32)))])) (fun t_ k_ => XS.iload X39.here hx rfl (hb hby at_272) rfl k_) ?_
    refine own_go (T' := T39) (g' := (mkF m 277 #[.val (.int v0), .val (.int v1), .val (.int v2), .val (.int v3), .val (.long v4), .second, .val (.int v5), .val (.int a0_), .val (.int a1_), .val (.int na), .val (.int (if (v2 &&& (1 : Int32)) = (0 : Int32) then (0 : Int32) else (1 : Int32))), .val (.int b0_), .val (.int b1_), .val (.int nb), .val (.ref b5), .val (.ref b6), .val (.ref b7), .val (.ref b19), .val (.int (if (own_cs na a0_ a1_) = (own_cs nb b0_ b1_) then (1 : Int32) else (0 : Int32))), .val (.int (((v5.toUInt32 >>> ((16 : Int32) &&& 31).toUInt32).toInt32) &&& (3 : Int32))), .unset] [])) (fun t_ k_ => XS.icmpNo X39.here hx rfl (hb hby at_274) rfl (teq rfl).2 k_) ?_
    refine own_go (T' := T39) (g' := (mkF m 279 #[.val (.int v0), .val (.int v1), .val (.int v2), .val (.int v3), .val (.long v4), .second, .val (.int v5), .val (.int a0_), .val (.int a1_), .val (.int na), .val (.int (if (v2 &&& (1 : Int32)) = (0 : Int32) then (0 : Int32) else (1 : Int32))), .val (.int b0_), .val (.int b1_), .val (.int nb), .val (.ref b5), .val (.ref b6), .val (.ref b7), .val (.ref b19), .val (.int (if (own_cs na a0_ a1_) = (own_cs nb b0_ b1_) then (1 : Int32) else (0 : Int32))), .val (.int (((v5.toUInt32 >>> ((16 : Int32) &&& 31).toUInt32).toInt32) &&& (3 : Int32))), .unset] [(.ref b19)])) (fun t_ k_ => XS.aload X39.here hx rfl (hb hby at_277) rfl rfl k_) ?_
    refine own_go (T' := T39) (g' := (mkF m 281 #[.val (.int v0), .val (.int v1), .val (.int v2), .val (.int v3), .val (.long v4), .second, .val (.int v5), .val (.int a0_), .val (.int a1_), .val (.int na), .val (.int (if (v2 &&& (1 : Int32)) = (0 : Int32) then (0 : Int32) else (1 : Int32))), .val (.int b0_), .val (.int b1_), .val (.int nb), .val (.ref b5), .val (.ref b6), .val (.ref b7), .val (.ref b19), .val (.int (if (own_cs na a0_ a1_) = (own_cs nb b0_ b1_) then (1 : Int32) else (0 : Int32))), .val (.int (((v5.toUInt32 >>> ((16 : Int32) &&& 31).toUInt32).toInt32) &&& (3 : Int32))), .unset] [(.ref b7), (.ref b19)])) (fun t_ k_ => XS.aload X39.here hx rfl (hb hby at_279) rfl rfl k_) ?_
    obtain ⟨cq45, kq45, q45a, q45b, q45c⟩ := isOf hZ e39 ff40
    obtain ⟨_, _, ⟨T45, L45, k45, n45⟩, -, X45, ⟨Lc45, hQ45, l45, y45, z45⟩, st45⟩ := X39.virtualBack hx (y := (⟨"com/example/crownsworn/crownsworn/model/AdventureCard", "equals", "(Ljava/lang/Object;)Z"⟩ : MethodName)) (z := (⟨"com/example/crownsworn/crownsworn/model/AdventureCard", "equals", "(Ljava/lang/Object;)Z"⟩ : MethodName)) hown (mvT hZ (hw _ (List.mem_of_getElem? (i := 65) rfl))) (mvT hZ (hw _ (List.mem_of_getElem? (i := 66) rfl))) (notFace_of_selects (args := #[]) (mvT hZ (hw _ (List.mem_of_getElem? (i := 68) rfl)))) (mvT hZ (hw _ (List.mem_of_getElem? (i := 68) rfl))) (mvT hZ (hw _ (List.mem_of_getElem? (i := 67) rfl))) (by decide) (backOf (W := 0) (rm_eq l Z a0 hw [] b19 b7 b6 b5 T6.heap.size (own_cs nb b0_ b1_) T5.heap.size (own_cs na a0_ a1_) cz T23.heap n0 (show n0 ≤ T23.heap.size by omega) ff44 f23_0 ff41 ff43 (own_csl _ _ _) ff42 (own_csl _ _ _) O23 S_COMPACT_STRINGS hcz) hZ (hw _ (List.mem_of_getElem? (i := 69) rfl)) (hw _ (List.mem_of_getElem? (i := 14) rfl)) (by decide) (by decide)) q45a q45c (g := (mkF m 281 #[.val (.int v0), .val (.int v1), .val (.int v2), .val (.int v3), .val (.long v4), .second, .val (.int v5), .val (.int a0_), .val (.int a1_), .val (.int na), .val (.int (if (v2 &&& (1 : Int32)) = (0 : Int32) then (0 : Int32) else (1 : Int32))), .val (.int b0_), .val (.int b1_), .val (.int nb), .val (.ref b5), .val (.ref b6), .val (.ref b7), .val (.ref b19), .val (.int (if (own_cs na a0_ a1_) = (own_cs nb b0_ b1_) then (1 : Int32) else (0 : Int32))), .val (.int (((v5.toUInt32 >>> ((16 : Int32) &&& 31).toUInt32).toInt32) &&& (3 : Int32))), .unset] [(.ref b7), (.ref b19)])) rfl (by rw [hml]; rfl) (Steps.refl _) (argsL := [(.ref b7)]) (rest := []) (lenOf pd_4 rfl) rfl (by show 2 * 0 + _ ≤ _; exact Nat.le_of_eq rfl) (hb hby at_281) (fun _ _ => ⟨rfl, e39, (by decide : 28 + 0 ≤ _), (by decide : 404 + 0 ≤ _)⟩)
    dsimp only [Pt.U, Pt.locs, Pt.cells, Pt.slots] at X45 l45 y45 z45 st45 hQ45
    subst l45 y45 z45
    obtain ⟨rfl, M45, e45⟩ := hQ45
    have N45 := Fr.app N39 M45
    refine own_go (T' := T45) (g' := (mkF m 284 #[.val (.int v0), .val (.int v1), .val (.int v2), .val (.int v3), .val (.long v4), .second, .val (.int v5), .val (.int a0_), .val (.int a1_), .val (.int na), .val (.int (if (v2 &&& (1 : Int32)) = (0 : Int32) then (0 : Int32) else (1 : Int32))), .val (.int b0_), .val (.int b1_), .val (.int nb), .val (.ref b5), .val (.ref b6), .val (.ref b7), .val (.ref b19), .val (.int (if (own_cs na a0_ a1_) = (own_cs nb b0_ b1_) then (1 : Int32) else (0 : Int32))), .val (.int (((v5.toUInt32 >>> ((16 : Int32) &&& 31).toUInt32).toInt32) &&& (3 : Int32))), .unset] [(.int (if (own_cs nb b0_ b1_) = (own_cs na a0_ a1_) then (1 : Int32) else (0 : Int32)))])) (fun t_ k_ => st45.trans k_) ?_
    refine own_go (T' := T45) (g' := (mkF m 286 #[.val (.int v0), .val (.int v1), .val (.int v2), .val (.int v3), .val (.long v4), .second, .val (.int v5), .val (.int a0_), .val (.int a1_), .val (.int na), .val (.int (if (v2 &&& (1 : Int32)) = (0 : Int32) then (0 : Int32) else (1 : Int32))), .val (.int b0_), .val (.int b1_), .val (.int nb), .val (.ref b5), .val (.ref b6), .val (.ref b7), .val (.ref b19), .val (.int (if (own_cs na a0_ a1_) = (own_cs nb b0_ b1_) then (1 : Int32) else (0 : Int32))), .val (.int (((v5.toUInt32 >>> ((16 : Int32) &&& 31).toUInt32).toInt32) &&& (3 : Int32))), .unset] [(.int (if (own_cs na a0_ a1_) = (own_cs nb b0_ b1_) then (1 : Int32) else (0 : Int32))), (.int (if (own_cs nb b0_ b1_) = (own_cs na a0_ a1_) then (1 : Int32) else (0 : Int32)))])) (fun t_ k_ => XS.iload X45.here hx rfl (hb hby at_284) rfl k_) ?_
    refine own_go (T' := T45) (g' := (mkF m 289 #[.val (.int v0), .val (.int v1), .val (.int v2), .val (.int v3), .val (.long v4), .second, .val (.int v5), .val (.int a0_), .val (.int a1_), .val (.int na), .val (.int (if (v2 &&& (1 : Int32)) = (0 : Int32) then (0 : Int32) else (1 : Int32))), .val (.int b0_), .val (.int b1_), .val (.int nb), .val (.ref b5), .val (.ref b6), .val (.ref b7), .val (.ref b19), .val (.int (if (own_cs na a0_ a1_) = (own_cs nb b0_ b1_) then (1 : Int32) else (0 : Int32))), .val (.int (((v5.toUInt32 >>> ((16 : Int32) &&& 31).toUInt32).toInt32) &&& (3 : Int32))), .unset] [])) (fun t_ k_ => XS.icmpNo X45.here hx rfl (hb hby at_286) rfl (teq (show (if (own_cs nb b0_ b1_) = (own_cs na a0_ a1_) then (1 : Int32) else (0 : Int32)) = (if (own_cs na a0_ a1_) = (own_cs nb b0_ b1_) then (1 : Int32) else (0 : Int32)) from own_ifsym)).2 k_) ?_
    refine own_go (T' := T45) (g' := (mkF m 290 #[.val (.int v0), .val (.int v1), .val (.int v2), .val (.int v3), .val (.long v4), .second, .val (.int v5), .val (.int a0_), .val (.int a1_), .val (.int na), .val (.int (if (v2 &&& (1 : Int32)) = (0 : Int32) then (0 : Int32) else (1 : Int32))), .val (.int b0_), .val (.int b1_), .val (.int nb), .val (.ref b5), .val (.ref b6), .val (.ref b7), .val (.ref b19), .val (.int (if (own_cs na a0_ a1_) = (own_cs nb b0_ b1_) then (1 : Int32) else (0 : Int32))), .val (.int (((v5.toUInt32 >>> ((16 : Int32) &&& 31).toUInt32).toInt32) &&& (3 : Int32))), .unset] [(.int (1 : Int32))])) (fun t_ k_ => XS.iconst X45.here hx rfl (hb hby at_289) k_) ?_
    refine own_go (T' := T45) (g' := (mkF m 294 #[.val (.int v0), .val (.int v1), .val (.int v2), .val (.int v3), .val (.long v4), .second, .val (.int v5), .val (.int a0_), .val (.int a1_), .val (.int na), .val (.int (if (v2 &&& (1 : Int32)) = (0 : Int32) then (0 : Int32) else (1 : Int32))), .val (.int b0_), .val (.int b1_), .val (.int nb), .val (.ref b5), .val (.ref b6), .val (.ref b7), .val (.ref b19), .val (.int (if (own_cs na a0_ a1_) = (own_cs nb b0_ b1_) then (1 : Int32) else (0 : Int32))), .val (.int (((v5.toUInt32 >>> ((16 : Int32) &&& 31).toUInt32).toInt32) &&& (3 : Int32))), .unset] [(.int (1 : Int32))])) (fun t_ k_ => XS.goto X45.here hx rfl (pc0 := 290) (pc' := 294) rfl (hb hby at_290) (by decide) (by decide) k_) ?_
    exact own_outW X45 hS (show _ ≤ T45.heap.size by rw [e45]; omega) (v := some (.int (nar .boolean (1 : Int32)))) (fun h => by rw [Bd.returns] at h; cases h) hlk (fun fs hr => retN X45 hx (t := .boolean) Bd.returns (by simp) (hb hby at_294) hr) (Q := Q_rm_law Z v0 v1 v2 v3 v4 v5 cz h0 n0) (by rw [e45]; exact ⟨rfl, N45⟩) (by decide) (by decide)
  · -- not (((v5.toUInt32 >>> ((16 : Int32) &&& 31).toUInt32).toInt32) &&& (3 : Int32)) = (0 : Int32)
    refine own_go (T' := T23) (g' := (mkF m 295 #[.val (.int v0), .val (.int v1), .val (.int v2), .val (.int v3), .val (.long v4), .second, .val (.int v5), .val (.int a0_), .val (.int a1_), .val (.int na), .val (.int (if (v2 &&& (1 : Int32)) = (0 : Int32) then (0 : Int32) else (1 : Int32))), .val (.int b0_), .val (.int b1_), .val (.int nb), .val (.ref b5), .val (.ref b6), .val (.ref b7), .val (.ref b19), .val (.int (if (own_cs na a0_ a1_) = (own_cs nb b0_ b1_) then (1 : Int32) else (0 : Int32))), .val (.int (((v5.toUInt32 >>> ((16 : Int32) &&& 31).toUInt32).toInt32) &&& (3 : Int32))), .unset] [])) (fun t_ k_ => XS.ifYes X23.here hx rfl (pc0 := 262) (pc' := 295) rfl (hb hby at_262) rfl ((if0 _ _).trans (feq c38).2) (by decide) (by decide) k_) ?_
    refine own_go (T' := T23) (g' := (mkF m 297 #[.val (.int v0), .val (.int v1), .val (.int v2), .val (.int v3), .val (.long v4), .second, .val (.int v5), .val (.int a0_), .val (.int a1_), .val (.int na), .val (.int (if (v2 &&& (1 : Int32)) = (0 : Int32) then (0 : Int32) else (1 : Int32))), .val (.int b0_), .val (.int b1_), .val (.int nb), .val (.ref b5), .val (.ref b6), .val (.ref b7), .val (.ref b19), .val (.int (if (own_cs na a0_ a1_) = (own_cs nb b0_ b1_) then (1 : Int32) else (0 : Int32))), .val (.int (((v5.toUInt32 >>> ((16 : Int32) &&& 31).toUInt32).toInt32) &&& (3 : Int32))), .unset] [(.int (((v5.toUInt32 >>> ((16 : Int32) &&& 31).toUInt32).toInt32) &&& (3 : Int32)))])) (fun t_ k_ => XS.iload X23.here hx rfl (hb hby at_295) rfl k_) ?_
    refine own_go (T' := T23) (g' := (mkF m 298 #[.val (.int v0), .val (.int v1), .val (.int v2), .val (.int v3), .val (.long v4), .second, .val (.int v5), .val (.int a0_), .val (.int a1_), .val (.int na), .val (.int (if (v2 &&& (1 : Int32)) = (0 : Int32) then (0 : Int32) else (1 : Int32))), .val (.int b0_), .val (.int b1_), .val (.int nb), .val (.ref b5), .val (.ref b6), .val (.ref b7), .val (.ref b19), .val (.int (if (own_cs na a0_ a1_) = (own_cs nb b0_ b1_) then (1 : Int32) else (0 : Int32))), .val (.int (((v5.toUInt32 >>> ((16 : Int32) &&& 31).toUInt32).toInt32) &&& (3 : Int32))), .unset] [(.int (1 : Int32)), (.int (((v5.toUInt32 >>> ((16 : Int32) &&& 31).toUInt32).toInt32) &&& (3 : Int32)))])) (fun t_ k_ => XS.iconst X23.here hx rfl (hb hby at_297) k_) ?_
    by_cases c46 : (((v5.toUInt32 >>> ((16 : Int32) &&& 31).toUInt32).toInt32) &&& (3 : Int32)) = (1 : Int32)
    · -- (((v5.toUInt32 >>> ((16 : Int32) &&& 31).toUInt32).toInt32) &&& (3 : Int32)) = (1 : Int32)
      refine own_go (T' := T23) (g' := (mkF m 301 #[.val (.int v0), .val (.int v1), .val (.int v2), .val (.int v3), .val (.long v4), .second, .val (.int v5), .val (.int a0_), .val (.int a1_), .val (.int na), .val (.int (if (v2 &&& (1 : Int32)) = (0 : Int32) then (0 : Int32) else (1 : Int32))), .val (.int b0_), .val (.int b1_), .val (.int nb), .val (.ref b5), .val (.ref b6), .val (.ref b7), .val (.ref b19), .val (.int (if (own_cs na a0_ a1_) = (own_cs nb b0_ b1_) then (1 : Int32) else (0 : Int32))), .val (.int (((v5.toUInt32 >>> ((16 : Int32) &&& 31).toUInt32).toInt32) &&& (3 : Int32))), .unset] [])) (fun t_ k_ => XS.icmpNo X23.here hx rfl (hb hby at_298) rfl (teq c46).2 k_) ?_
      refine own_go (T' := T23) (g' := (mkF m 303 #[.val (.int v0), .val (.int v1), .val (.int v2), .val (.int v3), .val (.long v4), .second, .val (.int v5), .val (.int a0_), .val (.int a1_), .val (.int na), .val (.int (if (v2 &&& (1 : Int32)) = (0 : Int32) then (0 : Int32) else (1 : Int32))), .val (.int b0_), .val (.int b1_), .val (.int nb), .val (.ref b5), .val (.ref b6), .val (.ref b7), .val (.ref b19), .val (.int (if (own_cs na a0_ a1_) = (own_cs nb b0_ b1_) then (1 : Int32) else (0 : Int32))), .val (.int (((v5.toUInt32 >>> ((16 : Int32) &&& 31).toUInt32).toInt32) &&& (3 : Int32))), .unset] [(.ref b7)])) (fun t_ k_ => XS.aload X23.here hx rfl (hb hby at_301) rfl rfl k_) ?_
      refine own_go (T' := T23) (g' := (mkF m 304 #[.val (.int v0), .val (.int v1), .val (.int v2), .val (.int v3), .val (.long v4), .second, .val (.int v5), .val (.int a0_), .val (.int a1_), .val (.int na), .val (.int (if (v2 &&& (1 : Int32)) = (0 : Int32) then (0 : Int32) else (1 : Int32))), .val (.int b0_), .val (.int b1_), .val (.int nb), .val (.ref b5), .val (.ref b6), .val (.ref b7), .val (.ref b19), .val (.int (if (own_cs na a0_ a1_) = (own_cs nb b0_ b1_) then (1 : Int32) else (0 : Int32))), .val (.int (((v5.toUInt32 >>> ((16 : Int32) &&& 31).toUInt32).toInt32) &&& (3 : Int32))), .unset] [.null, (.ref b7)])) (fun t_ k_ => XS.aconstNull X23.here hx rfl (hb hby at_303) k_) ?_
      have ff48 := (((((ff12.keep K11_).ext E19).keep K20_).keep K21_).keep K23_)
      obtain ⟨cq47, kq47, q47a, q47b, q47c⟩ := isOf hZ rfl ff48
      obtain ⟨_, _, ⟨T47, L47, k47, n47⟩, -, X47, ⟨Lc47, hQ47, l47, y47, z47⟩, st47⟩ := X23.virtualBack hx (y := (⟨"com/example/crownsworn/crownsworn/model/AdventureCard", "equals", "(Ljava/lang/Object;)Z"⟩ : MethodName)) (z := (⟨"com/example/crownsworn/crownsworn/model/AdventureCard", "equals", "(Ljava/lang/Object;)Z"⟩ : MethodName)) hown (mvT hZ (hw _ (List.mem_of_getElem? (i := 65) rfl))) (mvT hZ (hw _ (List.mem_of_getElem? (i := 66) rfl))) (notFace_of_selects (args := #[]) (mvT hZ (hw _ (List.mem_of_getElem? (i := 68) rfl)))) (mvT hZ (hw _ (List.mem_of_getElem? (i := 68) rfl))) (mvT hZ (hw _ (List.mem_of_getElem? (i := 67) rfl))) (by decide) (backOf (W := 0) (rm_eqn l Z a0 hw [] b7 T23.heap n0 (show n0 ≤ T23.heap.size by omega)) hZ (hw _ (List.mem_of_getElem? (i := 69) rfl)) (hw _ (List.mem_of_getElem? (i := 14) rfl)) (by decide) (by decide)) q47a q47c (g := (mkF m 304 #[.val (.int v0), .val (.int v1), .val (.int v2), .val (.int v3), .val (.long v4), .second, .val (.int v5), .val (.int a0_), .val (.int a1_), .val (.int na), .val (.int (if (v2 &&& (1 : Int32)) = (0 : Int32) then (0 : Int32) else (1 : Int32))), .val (.int b0_), .val (.int b1_), .val (.int nb), .val (.ref b5), .val (.ref b6), .val (.ref b7), .val (.ref b19), .val (.int (if (own_cs na a0_ a1_) = (own_cs nb b0_ b1_) then (1 : Int32) else (0 : Int32))), .val (.int (((v5.toUInt32 >>> ((16 : Int32) &&& 31).toUInt32).toInt32) &&& (3 : Int32))), .unset] [.null, (.ref b7)])) rfl (by rw [hml]; rfl) (Steps.refl _) (argsL := [.null]) (rest := []) (lenOf pd_4 rfl) rfl (by show 2 * 0 + _ ≤ _; exact Nat.le_of_eq rfl) (hb hby at_304) (fun _ _ => ⟨rfl, rfl, (by decide : 28 + 0 ≤ _), (by decide : 404 + 0 ≤ _)⟩)
      dsimp only [Pt.U, Pt.locs, Pt.cells, Pt.slots] at X47 l47 y47 z47 st47 hQ47
      subst l47 y47 z47
      obtain ⟨rfl, M47, e47⟩ := hQ47
      have N47 := Fr.app N23 M47
      refine own_go (T' := T47) (g' := (mkF m 307 #[.val (.int v0), .val (.int v1), .val (.int v2), .val (.int v3), .val (.long v4), .second, .val (.int v5), .val (.int a0_), .val (.int a1_), .val (.int na), .val (.int (if (v2 &&& (1 : Int32)) = (0 : Int32) then (0 : Int32) else (1 : Int32))), .val (.int b0_), .val (.int b1_), .val (.int nb), .val (.ref b5), .val (.ref b6), .val (.ref b7), .val (.ref b19), .val (.int (if (own_cs na a0_ a1_) = (own_cs nb b0_ b1_) then (1 : Int32) else (0 : Int32))), .val (.int (((v5.toUInt32 >>> ((16 : Int32) &&& 31).toUInt32).toInt32) &&& (3 : Int32))), .unset] [(.int (0 : Int32))])) (fun t_ k_ => st47.trans k_) ?_
      refine own_go (T' := T47) (g' := (mkF m 310 #[.val (.int v0), .val (.int v1), .val (.int v2), .val (.int v3), .val (.long v4), .second, .val (.int v5), .val (.int a0_), .val (.int a1_), .val (.int na), .val (.int (if (v2 &&& (1 : Int32)) = (0 : Int32) then (0 : Int32) else (1 : Int32))), .val (.int b0_), .val (.int b1_), .val (.int nb), .val (.ref b5), .val (.ref b6), .val (.ref b7), .val (.ref b19), .val (.int (if (own_cs na a0_ a1_) = (own_cs nb b0_ b1_) then (1 : Int32) else (0 : Int32))), .val (.int (((v5.toUInt32 >>> ((16 : Int32) &&& 31).toUInt32).toInt32) &&& (3 : Int32))), .unset] [])) (fun t_ k_ => XS.ifNo X47.here hx rfl (hb hby at_307) rfl ((if0 _ _).trans (teq (by decide)).2) k_) ?_
      refine own_go (T' := T47) (g' := (mkF m 311 #[.val (.int v0), .val (.int v1), .val (.int v2), .val (.int v3), .val (.long v4), .second, .val (.int v5), .val (.int a0_), .val (.int a1_), .val (.int na), .val (.int (if (v2 &&& (1 : Int32)) = (0 : Int32) then (0 : Int32) else (1 : Int32))), .val (.int b0_), .val (.int b1_), .val (.int nb), .val (.ref b5), .val (.ref b6), .val (.ref b7), .val (.ref b19), .val (.int (if (own_cs na a0_ a1_) = (own_cs nb b0_ b1_) then (1 : Int32) else (0 : Int32))), .val (.int (((v5.toUInt32 >>> ((16 : Int32) &&& 31).toUInt32).toInt32) &&& (3 : Int32))), .unset] [(.int (1 : Int32))])) (fun t_ k_ => XS.iconst X47.here hx rfl (hb hby at_310) k_) ?_
      refine own_go (T' := T47) (g' := (mkF m 315 #[.val (.int v0), .val (.int v1), .val (.int v2), .val (.int v3), .val (.long v4), .second, .val (.int v5), .val (.int a0_), .val (.int a1_), .val (.int na), .val (.int (if (v2 &&& (1 : Int32)) = (0 : Int32) then (0 : Int32) else (1 : Int32))), .val (.int b0_), .val (.int b1_), .val (.int nb), .val (.ref b5), .val (.ref b6), .val (.ref b7), .val (.ref b19), .val (.int (if (own_cs na a0_ a1_) = (own_cs nb b0_ b1_) then (1 : Int32) else (0 : Int32))), .val (.int (((v5.toUInt32 >>> ((16 : Int32) &&& 31).toUInt32).toInt32) &&& (3 : Int32))), .unset] [(.int (1 : Int32))])) (fun t_ k_ => XS.goto X47.here hx rfl (pc0 := 311) (pc' := 315) rfl (hb hby at_311) (by decide) (by decide) k_) ?_
      exact own_outW X47 hS (show _ ≤ T47.heap.size by rw [e47]; omega) (v := some (.int (nar .boolean (1 : Int32)))) (fun h => by rw [Bd.returns] at h; cases h) hlk (fun fs hr => retN X47 hx (t := .boolean) Bd.returns (by simp) (hb hby at_315) hr) (Q := Q_rm_law Z v0 v1 v2 v3 v4 v5 cz h0 n0) (by rw [e47]; exact ⟨rfl, N47⟩) (by decide) (by decide)
    · -- not (((v5.toUInt32 >>> ((16 : Int32) &&& 31).toUInt32).toInt32) &&& (3 : Int32)) = (1 : Int32)
      refine own_go (T' := T23) (g' := (mkF m 316 #[.val (.int v0), .val (.int v1), .val (.int v2), .val (.int v3), .val (.long v4), .second, .val (.int v5), .val (.int a0_), .val (.int a1_), .val (.int na), .val (.int (if (v2 &&& (1 : Int32)) = (0 : Int32) then (0 : Int32) else (1 : Int32))), .val (.int b0_), .val (.int b1_), .val (.int nb), .val (.ref b5), .val (.ref b6), .val (.ref b7), .val (.ref b19), .val (.int (if (own_cs na a0_ a1_) = (own_cs nb b0_ b1_) then (1 : Int32) else (0 : Int32))), .val (.int (((v5.toUInt32 >>> ((16 : Int32) &&& 31).toUInt32).toInt32) &&& (3 : Int32))), .unset] [])) (fun t_ k_ => XS.icmpYes X23.here hx rfl (pc0 := 298) (pc' := 316) rfl (hb hby at_298) rfl (feq c46).2 (by decide) (by decide) k_) ?_
      refine own_go (T' := T23) (g' := (mkF m 318 #[.val (.int v0), .val (.int v1), .val (.int v2), .val (.int v3), .val (.long v4), .second, .val (.int v5), .val (.int a0_), .val (.int a1_), .val (.int na), .val (.int (if (v2 &&& (1 : Int32)) = (0 : Int32) then (0 : Int32) else (1 : Int32))), .val (.int b0_), .val (.int b1_), .val (.int nb), .val (.ref b5), .val (.ref b6), .val (.ref b7), .val (.ref b19), .val (.int (if (own_cs na a0_ a1_) = (own_cs nb b0_ b1_) then (1 : Int32) else (0 : Int32))), .val (.int (((v5.toUInt32 >>> ((16 : Int32) &&& 31).toUInt32).toInt32) &&& (3 : Int32))), .unset] [(.int (((v5.toUInt32 >>> ((16 : Int32) &&& 31).toUInt32).toInt32) &&& (3 : Int32)))])) (fun t_ k_ => XS.iload X23.here hx rfl (hb hby at_316) rfl k_) ?_
      refine own_go (T' := T23) (g' := (mkF m 319 #[.val (.int v0), .val (.int v1), .val (.int v2), .val (.int v3), .val (.long v4), .second, .val (.int v5), .val (.int a0_), .val (.int a1_), .val (.int na), .val (.int (if (v2 &&& (1 : Int32)) = (0 : Int32) then (0 : Int32) else (1 : Int32))), .val (.int b0_), .val (.int b1_), .val (.int nb), .val (.ref b5), .val (.ref b6), .val (.ref b7), .val (.ref b19), .val (.int (if (own_cs na a0_ a1_) = (own_cs nb b0_ b1_) then (1 : Int32) else (0 : Int32))), .val (.int (((v5.toUInt32 >>> ((16 : Int32) &&& 31).toUInt32).toInt32) &&& (3 : Int32))), .unset] [(.int (2 : Int32)), (.int (((v5.toUInt32 >>> ((16 : Int32) &&& 31).toUInt32).toInt32) &&& (3 : Int32)))])) (fun t_ k_ => XS.iconst X23.here hx rfl (hb hby at_318) k_) ?_
      by_cases c49 : (((v5.toUInt32 >>> ((16 : Int32) &&& 31).toUInt32).toInt32) &&& (3 : Int32)) = (2 : Int32)
      · -- (((v5.toUInt32 >>> ((16 : Int32) &&& 31).toUInt32).toInt32) &&& (3 : Int32)) = (2 : Int32)
        refine own_go (T' := T23) (g' := (mkF m 322 #[.val (.int v0), .val (.int v1), .val (.int v2), .val (.int v3), .val (.long v4), .second, .val (.int v5), .val (.int a0_), .val (.int a1_), .val (.int na), .val (.int (if (v2 &&& (1 : Int32)) = (0 : Int32) then (0 : Int32) else (1 : Int32))), .val (.int b0_), .val (.int b1_), .val (.int nb), .val (.ref b5), .val (.ref b6), .val (.ref b7), .val (.ref b19), .val (.int (if (own_cs na a0_ a1_) = (own_cs nb b0_ b1_) then (1 : Int32) else (0 : Int32))), .val (.int (((v5.toUInt32 >>> ((16 : Int32) &&& 31).toUInt32).toInt32) &&& (3 : Int32))), .unset] [])) (fun t_ k_ => XS.icmpNo X23.here hx rfl (hb hby at_319) rfl (teq c49).2 k_) ?_
        refine own_go (T' := T23) (g' := (mkF m 324 #[.val (.int v0), .val (.int v1), .val (.int v2), .val (.int v3), .val (.long v4), .second, .val (.int v5), .val (.int a0_), .val (.int a1_), .val (.int na), .val (.int (if (v2 &&& (1 : Int32)) = (0 : Int32) then (0 : Int32) else (1 : Int32))), .val (.int b0_), .val (.int b1_), .val (.int nb), .val (.ref b5), .val (.ref b6), .val (.ref b7), .val (.ref b19), .val (.int (if (own_cs na a0_ a1_) = (own_cs nb b0_ b1_) then (1 : Int32) else (0 : Int32))), .val (.int (((v5.toUInt32 >>> ((16 : Int32) &&& 31).toUInt32).toInt32) &&& (3 : Int32))), .unset] [(.ref b5)])) (fun t_ k_ => XS.aload X23.here hx rfl (hb hby at_322) rfl rfl k_) ?_
        refine own_go (T' := T23) (g' := (mkF m 326 #[.val (.int v0), .val (.int v1), .val (.int v2), .val (.int v3), .val (.long v4), .second, .val (.int v5), .val (.int a0_), .val (.int a1_), .val (.int na), .val (.int (if (v2 &&& (1 : Int32)) = (0 : Int32) then (0 : Int32) else (1 : Int32))), .val (.int b0_), .val (.int b1_), .val (.int nb), .val (.ref b5), .val (.ref b6), .val (.ref b7), .val (.ref b19), .val (.int (if (own_cs na a0_ a1_) = (own_cs nb b0_ b1_) then (1 : Int32) else (0 : Int32))), .val (.int (((v5.toUInt32 >>> ((16 : Int32) &&& 31).toUInt32).toInt32) &&& (3 : Int32))), .val (.ref b5)] [])) (fun t_ k_ => XS.astore X23.here hx rfl (hb hby at_324) rfl rfl (l' := #[.val (.int v0), .val (.int v1), .val (.int v2), .val (.int v3), .val (.long v4), .second, .val (.int v5), .val (.int a0_), .val (.int a1_), .val (.int na), .val (.int (if (v2 &&& (1 : Int32)) = (0 : Int32) then (0 : Int32) else (1 : Int32))), .val (.int b0_), .val (.int b1_), .val (.int nb), .val (.ref b5), .val (.ref b6), .val (.ref b7), .val (.ref b19), .val (.int (if (own_cs na a0_ a1_) = (own_cs nb b0_ b1_) then (1 : Int32) else (0 : Int32))), .val (.int (((v5.toUInt32 >>> ((16 : Int32) &&& 31).toUInt32).toInt32) &&& (3 : Int32))), .val (.ref b5)]) rfl k_) ?_
        refine own_go (T' := T23) (g' := (mkF m 328 #[.val (.int v0), .val (.int v1), .val (.int v2), .val (.int v3), .val (.long v4), .second, .val (.int v5), .val (.int a0_), .val (.int a1_), .val (.int na), .val (.int (if (v2 &&& (1 : Int32)) = (0 : Int32) then (0 : Int32) else (1 : Int32))), .val (.int b0_), .val (.int b1_), .val (.int nb), .val (.ref b5), .val (.ref b6), .val (.ref b7), .val (.ref b19), .val (.int (if (own_cs na a0_ a1_) = (own_cs nb b0_ b1_) then (1 : Int32) else (0 : Int32))), .val (.int (((v5.toUInt32 >>> ((16 : Int32) &&& 31).toUInt32).toInt32) &&& (3 : Int32))), .val (.ref b5)] [(.ref b7)])) (fun t_ k_ => XS.aload X23.here hx rfl (hb hby at_326) rfl rfl k_) ?_
        refine own_go (T' := T23) (g' := (mkF m 330 #[.val (.int v0), .val (.int v1), .val (.int v2), .val (.int v3), .val (.long v4), .second, .val (.int v5), .val (.int a0_), .val (.int a1_), .val (.int na), .val (.int (if (v2 &&& (1 : Int32)) = (0 : Int32) then (0 : Int32) else (1 : Int32))), .val (.int b0_), .val (.int b1_), .val (.int nb), .val (.ref b5), .val (.ref b6), .val (.ref b7), .val (.ref b19), .val (.int (if (own_cs na a0_ a1_) = (own_cs nb b0_ b1_) then (1 : Int32) else (0 : Int32))), .val (.int (((v5.toUInt32 >>> ((16 : Int32) &&& 31).toUInt32).toInt32) &&& (3 : Int32))), .val (.ref b5)] [(.ref b5), (.ref b7)])) (fun t_ k_ => XS.aload X23.here hx rfl (hb hby at_328) rfl rfl k_) ?_
        have ff51 := (((((ff13.keep K11_).ext E19).keep K20_).keep K21_).keep K23_)
        have ff52 := (((((ff12.keep K11_).ext E19).keep K20_).keep K21_).keep K23_)
        obtain ⟨cq50, kq50, q50a, q50b, q50c⟩ := isOf hZ rfl ff52
        obtain ⟨_, _, ⟨T50, L50, k50, n50⟩, -, X50, ⟨Lc50, hQ50, l50, y50, z50⟩, st50⟩ := X23.virtualBack hx (y := (⟨"com/example/crownsworn/crownsworn/model/AdventureCard", "equals", "(Ljava/lang/Object;)Z"⟩ : MethodName)) (z := (⟨"com/example/crownsworn/crownsworn/model/AdventureCard", "equals", "(Ljava/lang/Object;)Z"⟩ : MethodName)) hown (mvT hZ (hw _ (List.mem_of_getElem? (i := 65) rfl))) (mvT hZ (hw _ (List.mem_of_getElem? (i := 66) rfl))) (notFace_of_selects (args := #[]) (mvT hZ (hw _ (List.mem_of_getElem? (i := 68) rfl)))) (mvT hZ (hw _ (List.mem_of_getElem? (i := 68) rfl))) (mvT hZ (hw _ (List.mem_of_getElem? (i := 67) rfl))) (by decide) (backOf (W := 0) (rm_eqs l Z a0 hw [] b7 b5 T23.heap n0 (show n0 ≤ T23.heap.size by omega) ff51 NF) hZ (hw _ (List.mem_of_getElem? (i := 69) rfl)) (hw _ (List.mem_of_getElem? (i := 14) rfl)) (by decide) (by decide)) q50a q50c (g := (mkF m 330 #[.val (.int v0), .val (.int v1), .val (.int v2), .val (.int v3), .val (.long v4), .second, .val (.int v5), .val (.int a0_), .val (.int a1_), .val (.int na), .val (.int (if (v2 &&& (1 : Int32)) = (0 : Int32) then (0 : Int32) else (1 : Int32))), .val (.int b0_), .val (.int b1_), .val (.int nb), .val (.ref b5), .val (.ref b6), .val (.ref b7), .val (.ref b19), .val (.int (if (own_cs na a0_ a1_) = (own_cs nb b0_ b1_) then (1 : Int32) else (0 : Int32))), .val (.int (((v5.toUInt32 >>> ((16 : Int32) &&& 31).toUInt32).toInt32) &&& (3 : Int32))), .val (.ref b5)] [(.ref b5), (.ref b7)])) rfl (by rw [hml]; rfl) (Steps.refl _) (argsL := [(.ref b5)]) (rest := []) (lenOf pd_4 rfl) rfl (by show 2 * 0 + _ ≤ _; exact Nat.le_of_eq rfl) (hb hby at_330) (fun _ _ => ⟨rfl, rfl, (by decide : 28 + 0 ≤ _), (by decide : 404 + 0 ≤ _)⟩)
        dsimp only [Pt.U, Pt.locs, Pt.cells, Pt.slots] at X50 l50 y50 z50 st50 hQ50
        subst l50 y50 z50
        obtain ⟨rfl, M50, e50⟩ := hQ50
        have N50 := Fr.app N23 M50
        refine own_go (T' := T50) (g' := (mkF m 333 #[.val (.int v0), .val (.int v1), .val (.int v2), .val (.int v3), .val (.long v4), .second, .val (.int v5), .val (.int a0_), .val (.int a1_), .val (.int na), .val (.int (if (v2 &&& (1 : Int32)) = (0 : Int32) then (0 : Int32) else (1 : Int32))), .val (.int b0_), .val (.int b1_), .val (.int nb), .val (.ref b5), .val (.ref b6), .val (.ref b7), .val (.ref b19), .val (.int (if (own_cs na a0_ a1_) = (own_cs nb b0_ b1_) then (1 : Int32) else (0 : Int32))), .val (.int (((v5.toUInt32 >>> ((16 : Int32) &&& 31).toUInt32).toInt32) &&& (3 : Int32))), .val (.ref b5)] [(.int (0 : Int32))])) (fun t_ k_ => st50.trans k_) ?_
        refine own_go (T' := T50) (g' := (mkF m 336 #[.val (.int v0), .val (.int v1), .val (.int v2), .val (.int v3), .val (.long v4), .second, .val (.int v5), .val (.int a0_), .val (.int a1_), .val (.int na), .val (.int (if (v2 &&& (1 : Int32)) = (0 : Int32) then (0 : Int32) else (1 : Int32))), .val (.int b0_), .val (.int b1_), .val (.int nb), .val (.ref b5), .val (.ref b6), .val (.ref b7), .val (.ref b19), .val (.int (if (own_cs na a0_ a1_) = (own_cs nb b0_ b1_) then (1 : Int32) else (0 : Int32))), .val (.int (((v5.toUInt32 >>> ((16 : Int32) &&& 31).toUInt32).toInt32) &&& (3 : Int32))), .val (.ref b5)] [])) (fun t_ k_ => XS.ifNo X50.here hx rfl (hb hby at_333) rfl ((if0 _ _).trans (teq (by decide)).2) k_) ?_
        refine own_go (T' := T50) (g' := (mkF m 337 #[.val (.int v0), .val (.int v1), .val (.int v2), .val (.int v3), .val (.long v4), .second, .val (.int v5), .val (.int a0_), .val (.int a1_), .val (.int na), .val (.int (if (v2 &&& (1 : Int32)) = (0 : Int32) then (0 : Int32) else (1 : Int32))), .val (.int b0_), .val (.int b1_), .val (.int nb), .val (.ref b5), .val (.ref b6), .val (.ref b7), .val (.ref b19), .val (.int (if (own_cs na a0_ a1_) = (own_cs nb b0_ b1_) then (1 : Int32) else (0 : Int32))), .val (.int (((v5.toUInt32 >>> ((16 : Int32) &&& 31).toUInt32).toInt32) &&& (3 : Int32))), .val (.ref b5)] [(.int (1 : Int32))])) (fun t_ k_ => XS.iconst X50.here hx rfl (hb hby at_336) k_) ?_
        refine own_go (T' := T50) (g' := (mkF m 341 #[.val (.int v0), .val (.int v1), .val (.int v2), .val (.int v3), .val (.long v4), .second, .val (.int v5), .val (.int a0_), .val (.int a1_), .val (.int na), .val (.int (if (v2 &&& (1 : Int32)) = (0 : Int32) then (0 : Int32) else (1 : Int32))), .val (.int b0_), .val (.int b1_), .val (.int nb), .val (.ref b5), .val (.ref b6), .val (.ref b7), .val (.ref b19), .val (.int (if (own_cs na a0_ a1_) = (own_cs nb b0_ b1_) then (1 : Int32) else (0 : Int32))), .val (.int (((v5.toUInt32 >>> ((16 : Int32) &&& 31).toUInt32).toInt32) &&& (3 : Int32))), .val (.ref b5)] [(.int (1 : Int32))])) (fun t_ k_ => XS.goto X50.here hx rfl (pc0 := 337) (pc' := 341) rfl (hb hby at_337) (by decide) (by decide) k_) ?_
        exact own_outW X50 hS (show _ ≤ T50.heap.size by rw [e50]; omega) (v := some (.int (nar .boolean (1 : Int32)))) (fun h => by rw [Bd.returns] at h; cases h) hlk (fun fs hr => retN X50 hx (t := .boolean) Bd.returns (by simp) (hb hby at_341) hr) (Q := Q_rm_law Z v0 v1 v2 v3 v4 v5 cz h0 n0) (by rw [e50]; exact ⟨rfl, N50⟩) (by decide) (by decide)
      · -- not (((v5.toUInt32 >>> ((16 : Int32) &&& 31).toUInt32).toInt32) &&& (3 : Int32)) = (2 : Int32)
        refine own_go (T' := T23) (g' := (mkF m 342 #[.val (.int v0), .val (.int v1), .val (.int v2), .val (.int v3), .val (.long v4), .second, .val (.int v5), .val (.int a0_), .val (.int a1_), .val (.int na), .val (.int (if (v2 &&& (1 : Int32)) = (0 : Int32) then (0 : Int32) else (1 : Int32))), .val (.int b0_), .val (.int b1_), .val (.int nb), .val (.ref b5), .val (.ref b6), .val (.ref b7), .val (.ref b19), .val (.int (if (own_cs na a0_ a1_) = (own_cs nb b0_ b1_) then (1 : Int32) else (0 : Int32))), .val (.int (((v5.toUInt32 >>> ((16 : Int32) &&& 31).toUInt32).toInt32) &&& (3 : Int32))), .unset] [])) (fun t_ k_ => XS.icmpYes X23.here hx rfl (pc0 := 319) (pc' := 342) rfl (hb hby at_319) rfl (feq c49).2 (by decide) (by decide) k_) ?_
        refine own_go (T' := T23) (g' := (mkF m 344 #[.val (.int v0), .val (.int v1), .val (.int v2), .val (.int v3), .val (.long v4), .second, .val (.int v5), .val (.int a0_), .val (.int a1_), .val (.int na), .val (.int (if (v2 &&& (1 : Int32)) = (0 : Int32) then (0 : Int32) else (1 : Int32))), .val (.int b0_), .val (.int b1_), .val (.int nb), .val (.ref b5), .val (.ref b6), .val (.ref b7), .val (.ref b19), .val (.int (if (own_cs na a0_ a1_) = (own_cs nb b0_ b1_) then (1 : Int32) else (0 : Int32))), .val (.int (((v5.toUInt32 >>> ((16 : Int32) &&& 31).toUInt32).toInt32) &&& (3 : Int32))), .unset] [(.ref b7)])) (fun t_ k_ => XS.aload X23.here hx rfl (hb hby at_342) rfl rfl k_) ?_
        refine own_go (T' := T23) (g' := (mkF m 346 #[.val (.int v0), .val (.int v1), .val (.int v2), .val (.int v3), .val (.long v4), .second, .val (.int v5), .val (.int a0_), .val (.int a1_), .val (.int na), .val (.int (if (v2 &&& (1 : Int32)) = (0 : Int32) then (0 : Int32) else (1 : Int32))), .val (.int b0_), .val (.int b1_), .val (.int nb), .val (.ref b5), .val (.ref b6), .val (.ref b7), .val (.ref b19), .val (.int (if (own_cs na a0_ a1_) = (own_cs nb b0_ b1_) then (1 : Int32) else (0 : Int32))), .val (.int (((v5.toUInt32 >>> ((16 : Int32) &&& 31).toUInt32).toInt32) &&& (3 : Int32))), .val (.ref b7)] [])) (fun t_ k_ => XS.astore X23.here hx rfl (hb hby at_344) rfl rfl (l' := #[.val (.int v0), .val (.int v1), .val (.int v2), .val (.int v3), .val (.long v4), .second, .val (.int v5), .val (.int a0_), .val (.int a1_), .val (.int na), .val (.int (if (v2 &&& (1 : Int32)) = (0 : Int32) then (0 : Int32) else (1 : Int32))), .val (.int b0_), .val (.int b1_), .val (.int nb), .val (.ref b5), .val (.ref b6), .val (.ref b7), .val (.ref b19), .val (.int (if (own_cs na a0_ a1_) = (own_cs nb b0_ b1_) then (1 : Int32) else (0 : Int32))), .val (.int (((v5.toUInt32 >>> ((16 : Int32) &&& 31).toUInt32).toInt32) &&& (3 : Int32))), .val (.ref b7)]) rfl k_) ?_
        refine own_go (T' := T23) (g' := (mkF m 348 #[.val (.int v0), .val (.int v1), .val (.int v2), .val (.int v3), .val (.long v4), .second, .val (.int v5), .val (.int a0_), .val (.int a1_), .val (.int na), .val (.int (if (v2 &&& (1 : Int32)) = (0 : Int32) then (0 : Int32) else (1 : Int32))), .val (.int b0_), .val (.int b1_), .val (.int nb), .val (.ref b5), .val (.ref b6), .val (.ref b7), .val (.ref b19), .val (.int (if (own_cs na a0_ a1_) = (own_cs nb b0_ b1_) then (1 : Int32) else (0 : Int32))), .val (.int (((v5.toUInt32 >>> ((16 : Int32) &&& 31).toUInt32).toInt32) &&& (3 : Int32))), .val (.ref b7)] [(.ref b7)])) (fun t_ k_ => XS.aload X23.here hx rfl (hb hby at_346) rfl rfl k_) ?_
        refine own_go (T' := T23) (g' := (mkF m 350 #[.val (.int v0), .val (.int v1), .val (.int v2), .val (.int v3), .val (.long v4), .second, .val (.int v5), .val (.int a0_), .val (.int a1_), .val (.int na), .val (.int (if (v2 &&& (1 : Int32)) = (0 : Int32) then (0 : Int32) else (1 : Int32))), .val (.int b0_), .val (.int b1_), .val (.int nb), .val (.ref b5), .val (.ref b6), .val (.ref b7), .val (.ref b19), .val (.int (if (own_cs na a0_ a1_) = (own_cs nb b0_ b1_) then (1 : Int32) else (0 : Int32))), .val (.int (((v5.toUInt32 >>> ((16 : Int32) &&& 31).toUInt32).toInt32) &&& (3 : Int32))), .val (.ref b7)] [(.ref b7), (.ref b7)])) (fun t_ k_ => XS.aload X23.here hx rfl (hb hby at_348) rfl rfl k_) ?_
        have ff54 := (((((ff12.keep K11_).ext E19).keep K20_).keep K21_).keep K23_)
        have ff55 := ((((f11_0.ext E19).keep K20_ nin0).keep K21_ nin0).keep K23_ (ninS (own_ne (by omega)) nin0))
        have ff56 := (((((((((f5_0.keep K6_ all0).ext E7).keep K8_ all0).keep K9_ all0).keep K11_ (allS (show T5.heap.size ≤ b7 by omega) all0)).ext E19).keep K20_ all0).keep K21_ all0).keep K23_ (allS (show T5.heap.size ≤ b19 by omega) all0))
        obtain ⟨cq53, kq53, q53a, q53b, q53c⟩ := isOf hZ rfl ff54
        obtain ⟨_, _, ⟨T53, L53, k53, n53⟩, -, X53, ⟨Lc53, hQ53, l53, y53, z53⟩, st53⟩ := X23.virtualBack hx (y := (⟨"com/example/crownsworn/crownsworn/model/AdventureCard", "equals", "(Ljava/lang/Object;)Z"⟩ : MethodName)) (z := (⟨"com/example/crownsworn/crownsworn/model/AdventureCard", "equals", "(Ljava/lang/Object;)Z"⟩ : MethodName)) hown (mvT hZ (hw _ (List.mem_of_getElem? (i := 65) rfl))) (mvT hZ (hw _ (List.mem_of_getElem? (i := 66) rfl))) (notFace_of_selects (args := #[]) (mvT hZ (hw _ (List.mem_of_getElem? (i := 68) rfl)))) (mvT hZ (hw _ (List.mem_of_getElem? (i := 68) rfl))) (mvT hZ (hw _ (List.mem_of_getElem? (i := 67) rfl))) (by decide) (backOf (W := 0) (rm_eq l Z a0 hw [] b7 b7 b5 b5 T5.heap.size (own_cs na a0_ a1_) T5.heap.size (own_cs na a0_ a1_) cz T23.heap n0 (show n0 ≤ T23.heap.size by omega) ff54 ff55 ff55 ff56 (own_csl _ _ _) ff56 (own_csl _ _ _) O23 S_COMPACT_STRINGS hcz) hZ (hw _ (List.mem_of_getElem? (i := 69) rfl)) (hw _ (List.mem_of_getElem? (i := 14) rfl)) (by decide) (by decide)) q53a q53c (g := (mkF m 350 #[.val (.int v0), .val (.int v1), .val (.int v2), .val (.int v3), .val (.long v4), .second, .val (.int v5), .val (.int a0_), .val (.int a1_), .val (.int na), .val (.int (if (v2 &&& (1 : Int32)) = (0 : Int32) then (0 : Int32) else (1 : Int32))), .val (.int b0_), .val (.int b1_), .val (.int nb), .val (.ref b5), .val (.ref b6), .val (.ref b7), .val (.ref b19), .val (.int (if (own_cs na a0_ a1_) = (own_cs nb b0_ b1_) then (1 : Int32) else (0 : Int32))), .val (.int (((v5.toUInt32 >>> ((16 : Int32) &&& 31).toUInt32).toInt32) &&& (3 : Int32))), .val (.ref b7)] [(.ref b7), (.ref b7)])) rfl (by rw [hml]; rfl) (Steps.refl _) (argsL := [(.ref b7)]) (rest := []) (lenOf pd_4 rfl) rfl (by show 2 * 0 + _ ≤ _; exact Nat.le_of_eq rfl) (hb hby at_350) (fun _ _ => ⟨rfl, rfl, (by decide : 28 + 0 ≤ _), (by decide : 404 + 0 ≤ _)⟩)
        dsimp only [Pt.U, Pt.locs, Pt.cells, Pt.slots] at X53 l53 y53 z53 st53 hQ53
        subst l53 y53 z53
        obtain ⟨rfl, M53, e53⟩ := hQ53
        have N53 := Fr.app N23 M53
        refine own_go (T' := T53) (g' := (mkF m 353 #[.val (.int v0), .val (.int v1), .val (.int v2), .val (.int v3), .val (.long v4), .second, .val (.int v5), .val (.int a0_), .val (.int a1_), .val (.int na), .val (.int (if (v2 &&& (1 : Int32)) = (0 : Int32) then (0 : Int32) else (1 : Int32))), .val (.int b0_), .val (.int b1_), .val (.int nb), .val (.ref b5), .val (.ref b6), .val (.ref b7), .val (.ref b19), .val (.int (if (own_cs na a0_ a1_) = (own_cs nb b0_ b1_) then (1 : Int32) else (0 : Int32))), .val (.int (((v5.toUInt32 >>> ((16 : Int32) &&& 31).toUInt32).toInt32) &&& (3 : Int32))), .val (.ref b7)] [(.int (if (own_cs na a0_ a1_) = (own_cs na a0_ a1_) then (1 : Int32) else (0 : Int32)))])) (fun t_ k_ => st53.trans k_) ?_
        exact own_outW X53 hS (show _ ≤ T53.heap.size by rw [e53]; omega) (v := some (.int (nar .boolean (if (own_cs na a0_ a1_) = (own_cs na a0_ a1_) then (1 : Int32) else (0 : Int32))))) (fun h => by rw [Bd.returns] at h; cases h) hlk (fun fs hr => retN X53 hx (t := .boolean) Bd.returns (by simp) (hb hby at_353) hr) (Q := Q_rm_law Z v0 v1 v2 v3 v4 v5 cz h0 n0) (by rw [e53]; exact ⟨(congrArg (fun z => some (Value.int (nar .boolean z))) (if_pos rfl)), N53⟩) (by decide) (by decide)
set_option maxRecDepth 65536 in
set_option maxHeartbeats 40000000 in
theorem comes_1 {Post : Tables → Env → Array Value → State → Outcome → State → Prop} (hpost : ∀ tb e args s v u, (limb_1_1.after args s (.returned v) u = true ∧ limb_1_2.after args s (.returned v) u = true ∧ True) → ReturnedEndW s (.returned v) u (Jvm.fieldLocs frame_1_writes args s ++ Jvm.arrayLocs frame_1_arrays args s ++ Jvm.staticLocs frame_1_statics s) 48 4288 → Post tb e args s (.returned v) u) :
    ArmFor flags0 classFile x code maxLocals ret World_1 tables_1 room_1 Calls_1 rest_1 Pre_1 Post := by
  intro l hfl _ _ p e ha hc hk s m args below hf hA hF happ hP
  obtain ⟨hcalls, hrest, hpre⟩ := hP
  obtain ⟨-, -, -, hnamed, -, -, -, hat⟩ := (Spec.applies_iff hf).mp happ
  obtain ⟨hg, hn⟩ := and_e (Cond.before_iff.mp (show (Jvm.Cond.and given_1 narrow_1).before args s = true from hpre))
  obtain ⟨gc, gr⟩ := and_e hg
  obtain ⟨ga0, gr0⟩ := and_e gr
  obtain ⟨ga1, gr1⟩ := and_e gr0
  obtain ⟨ga2, gr2⟩ := and_e gr1
  obtain ⟨ga3, gr3⟩ := and_e gr2
  obtain ⟨ga4, gr4⟩ := and_e gr3
  have ga5 := gr4
  obtain ⟨w0, w1, w2, w3, w4, w5, rfl⟩ : ∃ w0 w1 w2 w3 w4 w5 : Value, args = #[w0, w1, w2, w3, w4, w5] := by
    have hs : args.size = 6 := by simpa [Cond.value, given_1] using gc
    obtain ⟨L⟩ := args
    match L, hs with
    | [w0, w1, w2, w3, w4, w5], _ => exact ⟨w0, w1, w2, w3, w4, w5, rfl⟩
  have hw := fun d (hd : d ∈ tables_1) => atoms_spec (ws := Jvm.Cond.code x code maxLocals ret :: tables_1) hat d (List.mem_cons_of_mem _ hd)
  have hfit : Fit s := fun {y c} hc i hi => by
    obtain ⟨ha, rfl⟩ := Array.getElem?_eq_some_iff.mp hc
    have q := List.all_eq_true.mp ((Array.all_eq_true_iff_forall_mem.mp hF) _ (Array.getElem_mem ha)) i (List.mem_range.mpr hi)
    simpa [Array.getElem?_eq_getElem hi] using q
  obtain ⟨hsets, hown0⟩ := atoms_of _ (rest_1_c_eq ▸ (show rest_1_c.before _ s = true from hrest))
  obtain ⟨i0, ei0⟩ := is_v ga0
  obtain rfl : w0 = (.int i0) := Option.some.inj ei0
  obtain ⟨i1, ei1⟩ := is_v ga1
  obtain rfl : w1 = (.int i1) := Option.some.inj ei1
  obtain ⟨i2, ei2⟩ := is_v ga2
  obtain rfl : w2 = (.int i2) := Option.some.inj ei2
  obtain ⟨i3, ei3⟩ := is_v ga3
  obtain rfl : w3 = (.int i3) := Option.some.inj ei3
  obtain ⟨i4, ei4⟩ := isL_v ga4
  obtain rfl : w4 = (.long i4) := Option.some.inj ei4
  obtain ⟨i5, ei5⟩ := is_v ga5
  obtain rfl : w5 = (.int i5) := Option.some.inj ei5
  have n3 := not_v (Cond.before_iff.mp (hsets _ (List.mem_of_getElem? (i := 2) rfl)))
  obtain ⟨cz, ecz⟩ := is_v (Cond.before_iff.mp (hsets _ (List.mem_of_getElem? (i := 1) rfl)))
  have SC : Sta s s.heap "java/lang/String" "COMPACT_STRINGS" "Z" (.int cz) := Sta.start ecz (Or.inl (hsets _ (List.mem_of_getElem? (i := 0) rfl)))
  have hcz : ¬ (cz = (0 : Int32)) := gotF (Cond.eq_ints ecz (Term.int_eval (0))) n3
  have NF : own_NoF s := own_no (hw _ (List.mem_of_getElem? (i := 77) rfl)) (hw _ (List.mem_of_getElem? (i := 13) rfl)) (NS.step (hw _ (List.mem_of_getElem? (i := 77) rfl)) (own_root (hw _ (List.mem_of_getElem? (i := 78) rfl)) (hw _ (List.mem_of_getElem? (i := 13) rfl)) (by decide)) (by decide)) (by decide)
  have hheld : Jvm.Lit.constHeld s "com/example/crownsworn/crownsworn/model/AdventureCardEqualsPinLaw" 7 := hcalls.1 ("com/example/crownsworn/crownsworn/model/AdventureCardEqualsPinLaw", 7) (by decide)
  have hcw := hsets _ (List.mem_of_getElem? (i := 2) rfl)
  obtain ⟨n, o, h1, h2, h3, _, L, rfl, ⟨rfl, N⟩, hq⟩ := rm_law l s _ hw tables_1 i0 i1 i2 i3 i4 i5 cz s.heap s.heap.size (Nat.le_refl _) (Old.start s) SC hcz NF hheld hcw p e ha hc hk s m _ below hf ((Spec.applies_iff_loose hf).mp happ).1 ⟨rfl, State.Warmed39.refl s, rfl, IB.start⟩ trivial
  refine ⟨n, _, h1, h2, h3, hpost _ _ _ _ _ _ ⟨Cond.after_iff.mpr rfl, Cond.after_iff.mpr (eq_i res_at (Term.int_eval (1)) rfl), trivial⟩ ⟨hq.1, hq.2.1, hq.2.2.1, (hq.2.2.2.sift fun y hy => Or.inr (N y hy)).mono (by decide) (by decide)⟩⟩
theorem main_1_1 : Claimed_1_1 := comes_1 fun _ _ _ _ _ _ h hF => ⟨h.1, hF⟩
theorem main_1_2 : Claimed_1_2 := comes_1 fun _ _ _ _ _ _ h hF => ⟨h.2.1, hF⟩
end Jvm.Pilot.@@N@@
namespace Jvm.Pilot.@@N@@
open Jvm Jvm.ClassFile Sem Op Lib Jvm.Free Jvm.Stand Jvm.Pilot.@@N@@.Jvm.D
/-! MADE BY PROGRAM (witnessworld.py) out of the Statement's table words and the real class files: 22 classes; the members and pool entries that the words name. The judged class is class 1, her method 2. -/
namespace start1
open Jvm.ClassFile
def u (s : String) : CpInfo := .utf8 (stringToUtf16 s)
/-- a pool by its gaps: so many unusable entries, then the entry; so many at the end -/
def gap : Nat → List CpInfo → List CpInfo
  | 0, r => r
  | n + 1, r => .unusable :: gap n r
def poolList (es : List (Nat × CpInfo)) (last : Nat) : List CpInfo := es.foldr (fun e r => gap e.1 (e.2 :: r)) (gap last [])
def pool (es : List (Nat × CpInfo)) (last : Nat) : Array CpInfo := ⟨poolList es last⟩
def fileOf (pool : Array CpInfo) (this : Nat) (attrs : Array Attribute := #[]) (ms : Array MethodInfo := #[]) (fl : Nat := 33) (sup : Nat := 0) (ifs : Array Nat := #[]) (fds : Array FieldInfo := #[]) : ClassFile where
  minorVersion := 0
  majorVersion := 65
  constantPool := pool
  accessFlags := fl
  thisClass := this
  superClass := sup
  interfaces := ifs
  fields := fds
  methods := ms
  attributes := attrs
def plain (name : String) (sup : Option ClassId) : Class where
  name := name
  kind := .ordinary
  loader := none
  accessFlags := 33
  super := sup
  interfaces := #[]
  cf := none
  fields := #[]
  methods := #[]
  instanceTypes := #[]
  staticTypes := #[]
  resolved := #[]
  callSites := []
  init := .initialized
  statics := none
  mirror := none

def pool0 : Array CpInfo := pool [(5, u "<init>"), (0, u "()V"), (1, .class_ 10), (1, u "java/lang/Object")] 113

def k0c0 : Code := { maxStack := 0, maxLocals := 1, code := object_method_1_code, exceptionTable := #[], attributes := #[] }
def k0m0 : Method := { name := "<init>", desc := "()V", sig := { parameters := [], returnType := none }, accessFlags := 1, code := some k0c0 }
/-- java/lang/Object -/
def k0 : Class := { plain "java/lang/Object" none with
  accessFlags := 33
  interfaces := #[]
  cf := some (fileOf pool0 8 #[] #[{ accessFlags := 1, nameIndex := 5, descriptorIndex := 6, attributes := #[] }] 33 0 #[] #[])
  fields := #[]
  methods := #[k0m0]
  instanceTypes := #[]
  staticTypes := #[]
  resolved := Array.replicate 124 none
  statics := none }

def pool1 : Array CpInfo := pool [(2, .class_ 4), (1, u "java/lang/Object"), (0, u "<init>"), (0, u "()V"), (0, .string 8), (0, u ""), (0, .methodref 10 11), (0, .class_ 12), (0, .nameAndType 13 14), (0, u "java/lang/String"), (0, u "valueOf"), (0, u "(C)Ljava/lang/String;"), (0, .methodref 10 16), (0, .nameAndType 5 17), (0, u "([C)V"), (0, .methodref 19 20), (0, .class_ 21), (0, .nameAndType 22 23), (0, u "com/example/crownsworn/crownsworn/model/AdventureCardEqualsPinLaw"), (0, u "mk"), (0, u "(ICC)Ljava/lang/String;"), (0, .class_ 25), (0, u "com/example/crownsworn/crownsworn/model/AdventureCard"), (0, .integer 2147483647), (0, .methodref 28 29), (0, .class_ 30), (0, .nameAndType 31 32), (0, u "java/lang/Math"), (0, u "max"), (0, u "(II)I"), (0, .methodref 24 34), (0, .nameAndType 5 35), (0, u "(Ljava/lang/String;Ljava/lang/String;Ljava/lang/String;I)V"), (0, .long 2147483647), (1, .methodref 28 39), (0, .nameAndType 31 40), (0, u "(JJ)J"), (0, .methodref 24 42), (0, .nameAndType 43 44), (0, u "equals"), (0, u "(Ljava/lang/Object;)Z"), (3, u "law"), (0, u "(IIIIJI)Z")] 2

def k1m0 : Method := { name := "<init>", desc := "()V", sig := { parameters := [], returnType := none }, accessFlags := 1, code := none }
def k1c1 : Code := { maxStack := 6, maxLocals := 3, code := method_2_code, exceptionTable := #[], attributes := #[] }
def k1m1 : Method := { name := "mk", desc := "(ICC)Ljava/lang/String;", sig := { parameters := [.int, .char, .char], returnType := some (.object "java/lang/String") }, accessFlags := 10, code := some k1c1 }
def k1c2 : Code := { maxStack := 11, maxLocals := 21, code := code, exceptionTable := #[], attributes := #[] }
def k1m2 : Method := { name := "law", desc := "(IIIIJI)Z", sig := { parameters := [.int, .int, .int, .int, .long, .int], returnType := some .boolean }, accessFlags := 9, code := some k1c2 }
/-- com/example/crownsworn/crownsworn/model/AdventureCardEqualsPinLaw -/
def k1 : Class := { plain "com/example/crownsworn/crownsworn/model/AdventureCardEqualsPinLaw" (some 0) with
  accessFlags := 49
  interfaces := #[]
  cf := some (fileOf pool1 19 #[] #[{ accessFlags := 1, nameIndex := 5, descriptorIndex := 6, attributes := #[] }, { accessFlags := 10, nameIndex := 22, descriptorIndex := 23, attributes := #[] }, { accessFlags := 9, nameIndex := 48, descriptorIndex := 49, attributes := #[] }] 49 2 #[] #[])
  fields := #[]
  methods := #[k1m0, k1m1, k1m2]
  instanceTypes := #[]
  staticTypes := #[]
  resolved := Array.replicate 52 none
  statics := none }

def pool2 : Array CpInfo := pool [(1, .class_ 2), (0, u "java/io/Serializable"), (0, .class_ 4), (0, u "java/lang/Object")] 2

/-- java/io/Serializable -/
def k2 : Class := { plain "java/io/Serializable" (some 0) with
  accessFlags := 1537
  interfaces := #[]
  cf := some (fileOf pool2 1 #[] #[] 1537 3 #[] #[])
  fields := #[]
  methods := #[]
  instanceTypes := #[]
  staticTypes := #[]
  resolved := Array.replicate 7 none
  statics := none }

def pool3 : Array CpInfo := pool [(1, .class_ 2), (0, u "java/lang/Comparable"), (0, .class_ 4), (0, u "java/lang/Object")] 7

/-- java/lang/Comparable -/
def k3 : Class := { plain "java/lang/Comparable" (some 0) with
  accessFlags := 1537
  interfaces := #[]
  cf := some (fileOf pool3 1 #[] #[] 1537 3 #[] #[])
  fields := #[]
  methods := #[]
  instanceTypes := #[]
  staticTypes := #[]
  resolved := Array.replicate 12 none
  statics := none }

def pool4 : Array CpInfo := pool [(2, .class_ 4), (1, u "java/lang/CharSequence"), (42, .class_ 48), (0, u "java/lang/CharSequence$1CodePointIterator"), (10, .class_ 60), (0, u "java/lang/CharSequence$1CharIterator"), (5, .class_ 67), (0, u "java/lang/Object")] 63

/-- java/lang/CharSequence -/
def k4 : Class := { plain "java/lang/CharSequence" (some 0) with
  accessFlags := 1537
  interfaces := #[]
  cf := some (fileOf pool4 2 #[.nestMembers #[47, 59]] #[] 1537 66 #[] #[])
  fields := #[]
  methods := #[]
  instanceTypes := #[]
  staticTypes := #[]
  resolved := Array.replicate 131 none
  statics := none }

def pool5 : Array CpInfo := pool [(1, .class_ 2), (0, u "java/lang/constant/Constable"), (0, .class_ 4), (0, u "java/lang/Object")] 6

/-- java/lang/constant/Constable -/
def k5 : Class := { plain "java/lang/constant/Constable" (some 0) with
  accessFlags := 1537
  interfaces := #[]
  cf := some (fileOf pool5 1 #[] #[] 1537 3 #[] #[])
  fields := #[]
  methods := #[]
  instanceTypes := #[]
  staticTypes := #[]
  resolved := Array.replicate 11 none
  statics := none }

def pool6 : Array CpInfo := pool [(1, .class_ 2), (0, u "java/lang/constant/ConstantDesc"), (0, .class_ 4), (0, u "java/lang/Object")] 32

/-- java/lang/constant/ConstantDesc -/
def k6 : Class := { plain "java/lang/constant/ConstantDesc" (some 0) with
  accessFlags := 1537
  interfaces := #[]
  cf := some (fileOf pool6 1 #[] #[] 1537 3 #[] #[])
  fields := #[]
  methods := #[]
  instanceTypes := #[]
  staticTypes := #[]
  resolved := Array.replicate 37 none
  statics := none }

def pool7 : Array CpInfo := pool [(1, .methodref 2 3), (0, .class_ 4), (0, .nameAndType 5 6), (0, u "java/lang/Object"), (0, u "<init>"), (0, u "()V"), (2, .fieldref 10 11), (0, .class_ 12), (0, .nameAndType 13 14), (0, u "java/lang/String"), (0, u "value"), (0, u "[B"), (0, .fieldref 10 16), (0, .nameAndType 17 18), (0, u "coder"), (0, u "B"), (2, u "hash"), (0, u "I"), (2, u "hashIsZero"), (0, u "Z"), (0, .methodref 10 28), (0, .nameAndType 5 29), (0, u "([CIILjava/lang/Void;)V"), (8, .fieldref 10 39), (0, .nameAndType 40 26), (0, u "COMPACT_STRINGS"), (1, .class_ 44), (1, u "java/lang/StringUTF16"), (0, u "compress"), (1, .methodref 42 48), (0, .nameAndType 49 50), (0, u "coderFromArrayLen"), (0, u "([BI)B"), (2, u "toBytes"), (53, .class_ 109), (1, u "java/lang/StringLatin1"), (67, .methodref 42 178), (0, .nameAndType 45 179), (0, u "([CII)[B"), (29, .methodref 10 210), (0, .nameAndType 5 211), (0, u "([BB)V"), (157, u "(C)Z"), (171, .methodref 107 542), (0, .nameAndType 543 544), (0, u "equals"), (0, u "([B[B)Z"), (28, u "(Ljava/lang/Object;)Z"), (1, .class_ 576), (0, u "java/lang/CharSequence"), (22, u "CASE_INSENSITIVE_ORDER"), (0, u "Ljava/util/Comparator;"), (181, u "valueOf"), (0, u "(C)Ljava/lang/String;"), (226, u "([C)V"), (4, .methodref 107 1016), (0, .nameAndType 1017 369), (0, u "canEncode"), (0, .methodref 107 1019), (0, .nameAndType 53 1020), (0, u "(C)[B"), (80, u "serialPersistentFields"), (0, u "[Ljava/io/ObjectStreamField;"), (0, .class_ 1104), (0, u "java/lang/String$CaseInsensitiveComparator"), (1, .class_ 1107), (0, u "java/io/Serializable"), (0, .class_ 1109), (0, u "java/lang/Comparable"), (0, .class_ 1111), (0, u "java/lang/constant/Constable"), (0, .class_ 1113), (0, u "java/lang/constant/ConstantDesc"), (2, u "serialVersionUID"), (0, u "J"), (3, u "REPL"), (0, u "C"), (2, u "LATIN1"), (1, u "UTF16")] 323

def k7m0 : Method := { name := "<init>", desc := "()V", sig := { parameters := [], returnType := none }, accessFlags := 1, code := none }
def k7c1 : Code := { maxStack := 5, maxLocals := 2, code := jdk_42_method_3_code, exceptionTable := #[], attributes := #[] }
def k7m1 : Method := { name := "<init>", desc := "([C)V", sig := { parameters := [(.array .char)], returnType := none }, accessFlags := 1, code := some k7c1 }
def k7c2 : Code := { maxStack := 2, maxLocals := 3, code := jdk_42_method_66_code, exceptionTable := #[], attributes := #[] }
def k7m2 : Method := { name := "equals", desc := "(Ljava/lang/Object;)Z", sig := { parameters := [(.object "java/lang/Object")], returnType := some .boolean }, accessFlags := 1, code := some k7c2 }
def k7c3 : Code := { maxStack := 4, maxLocals := 1, code := jdk_42_method_139_code, exceptionTable := #[], attributes := #[] }
def k7m3 : Method := { name := "valueOf", desc := "(C)Ljava/lang/String;", sig := { parameters := [.char], returnType := some (.object "java/lang/String") }, accessFlags := 9, code := some k7c3 }
def k7c4 : Code := { maxStack := 4, maxLocals := 6, code := jdk_42_method_149_code, exceptionTable := #[], attributes := #[] }
def k7m4 : Method := { name := "<init>", desc := "([CIILjava/lang/Void;)V", sig := { parameters := [(.array .char), .int, .int, (.object "java/lang/Void")], returnType := none }, accessFlags := 2, code := some k7c4 }
def k7c5 : Code := { maxStack := 2, maxLocals := 3, code := jdk_42_method_151_code, exceptionTable := #[], attributes := #[] }
def k7m5 : Method := { name := "<init>", desc := "([BB)V", sig := { parameters := [(.array .byte), .byte], returnType := none }, accessFlags := 0, code := some k7c5 }
/-- java/lang/String -/
def k7 : Class := { plain "java/lang/String" (some 0) with
  accessFlags := 49
  interfaces := #[2, 3, 4, 5, 6]
  cf := some (fileOf pool7 10 #[.nestMembers #[1103]] #[{ accessFlags := 1, nameIndex := 5, descriptorIndex := 6, attributes := #[] }, { accessFlags := 1, nameIndex := 5, descriptorIndex := 1010, attributes := #[] }, { accessFlags := 1, nameIndex := 543, descriptorIndex := 573, attributes := #[] }, { accessFlags := 9, nameIndex := 782, descriptorIndex := 783, attributes := #[] }, { accessFlags := 2, nameIndex := 5, descriptorIndex := 29, attributes := #[] }, { accessFlags := 0, nameIndex := 5, descriptorIndex := 211, attributes := #[] }] 49 2 #[1106, 1108, 575, 1110, 1112] #[{ accessFlags := 18, nameIndex := 13, descriptorIndex := 14, attributes := #[] }, { accessFlags := 18, nameIndex := 17, descriptorIndex := 18, attributes := #[] }, { accessFlags := 2, nameIndex := 21, descriptorIndex := 22, attributes := #[] }, { accessFlags := 2, nameIndex := 25, descriptorIndex := 26, attributes := #[] }, { accessFlags := 26, nameIndex := 1116, descriptorIndex := 1117, attributes := #[] }, { accessFlags := 24, nameIndex := 40, descriptorIndex := 26, attributes := #[] }, { accessFlags := 26, nameIndex := 1101, descriptorIndex := 1102, attributes := #[] }, { accessFlags := 26, nameIndex := 1121, descriptorIndex := 1122, attributes := #[] }, { accessFlags := 25, nameIndex := 599, descriptorIndex := 600, attributes := #[] }, { accessFlags := 24, nameIndex := 1125, descriptorIndex := 18, attributes := #[] }, { accessFlags := 24, nameIndex := 1127, descriptorIndex := 18, attributes := #[] }])
  fields := #[{ name := "value", type := (.array .byte), accessFlags := 18, slot := 0, constantValue := 0 }, { name := "coder", type := .byte, accessFlags := 18, slot := 1, constantValue := 0 }, { name := "hash", type := .int, accessFlags := 2, slot := 2, constantValue := 0 }, { name := "hashIsZero", type := .boolean, accessFlags := 2, slot := 3, constantValue := 0 }, { name := "serialVersionUID", type := .long, accessFlags := 26, slot := 0, constantValue := 0 }, { name := "COMPACT_STRINGS", type := .boolean, accessFlags := 24, slot := 1, constantValue := 0 }, { name := "serialPersistentFields", type := (.array (.object "java/io/ObjectStreamField")), accessFlags := 26, slot := 2, constantValue := 0 }, { name := "REPL", type := .char, accessFlags := 26, slot := 3, constantValue := 0 }, { name := "CASE_INSENSITIVE_ORDER", type := (.object "java/util/Comparator"), accessFlags := 25, slot := 4, constantValue := 0 }, { name := "LATIN1", type := .byte, accessFlags := 24, slot := 5, constantValue := 0 }, { name := "UTF16", type := .byte, accessFlags := 24, slot := 6, constantValue := 0 }]
  methods := #[k7m0, k7m1, k7m2, k7m3, k7m4, k7m5]
  instanceTypes := #[(.array .byte), .byte, .int, .boolean]
  staticTypes := #[.long, .boolean, (.array (.object "java/io/ObjectStreamField")), .char, (.object "java/util/Comparator"), .byte, .byte]
  resolved := Array.replicate 1451 none
  statics := some 0 }

def pool8 : Array CpInfo := pool [(1, .methodref 2 3), (0, .class_ 4), (0, .nameAndType 5 6), (0, u "java/lang/Object"), (0, u "<init>"), (0, u "()V"), (9, .string 17), (0, u "id is null"), (0, .methodref 19 20), (0, .class_ 21), (0, .nameAndType 22 23), (0, u "java/util/Objects"), (0, u "requireNonNull"), (0, u "(Ljava/lang/Object;Ljava/lang/String;)Ljava/lang/Object;"), (0, .class_ 25), (0, u "java/lang/String"), (0, .fieldref 27 28), (0, .class_ 29), (0, .nameAndType 30 31), (0, u "com/example/crownsworn/crownsworn/model/AdventureCard"), (0, u "id"), (0, u "Ljava/lang/String;"), (0, .string 33), (0, u "title is null"), (0, .fieldref 27 35), (0, .nameAndType 36 31), (0, u "title"), (0, .string 38), (0, u "destination is null"), (0, .fieldref 27 40), (0, .nameAndType 41 31), (0, u "destination"), (0, .fieldref 27 43), (0, .nameAndType 44 45), (0, u "length"), (0, u "I"), (0, .methodref 24 47), (0, .nameAndType 48 49), (0, u "equals"), (0, u "(Ljava/lang/Object;)Z"), (4, u "(Ljava/lang/String;Ljava/lang/String;Ljava/lang/String;I)V")] 22

def k8c0 : Code := { maxStack := 3, maxLocals := 5, code := prog_5_method_1_code, exceptionTable := #[], attributes := #[] }
def k8m0 : Method := { name := "<init>", desc := "(Ljava/lang/String;Ljava/lang/String;Ljava/lang/String;I)V", sig := { parameters := [(.object "java/lang/String"), (.object "java/lang/String"), (.object "java/lang/String"), .int], returnType := none }, accessFlags := 1, code := some k8c0 }
def k8c1 : Code := { maxStack := 2, maxLocals := 3, code := prog_5_method_6_code, exceptionTable := #[], attributes := #[] }
def k8m1 : Method := { name := "equals", desc := "(Ljava/lang/Object;)Z", sig := { parameters := [(.object "java/lang/Object")], returnType := some .boolean }, accessFlags := 1, code := some k8c1 }
/-- com/example/crownsworn/crownsworn/model/AdventureCard -/
def k8 : Class := { plain "com/example/crownsworn/crownsworn/model/AdventureCard" (some 0) with
  accessFlags := 49
  interfaces := #[]
  cf := some (fileOf pool8 27 #[] #[{ accessFlags := 1, nameIndex := 5, descriptorIndex := 54, attributes := #[] }, { accessFlags := 1, nameIndex := 48, descriptorIndex := 49, attributes := #[] }] 49 2 #[] #[{ accessFlags := 18, nameIndex := 30, descriptorIndex := 31, attributes := #[] }, { accessFlags := 18, nameIndex := 36, descriptorIndex := 31, attributes := #[] }, { accessFlags := 18, nameIndex := 41, descriptorIndex := 31, attributes := #[] }, { accessFlags := 18, nameIndex := 44, descriptorIndex := 45, attributes := #[] }])
  fields := #[{ name := "id", type := (.object "java/lang/String"), accessFlags := 18, slot := 0, constantValue := 0 }, { name := "title", type := (.object "java/lang/String"), accessFlags := 18, slot := 1, constantValue := 0 }, { name := "destination", type := (.object "java/lang/String"), accessFlags := 18, slot := 2, constantValue := 0 }, { name := "length", type := .int, accessFlags := 18, slot := 3, constantValue := 0 }]
  methods := #[k8m0, k8m1]
  instanceTypes := #[(.object "java/lang/String"), (.object "java/lang/String"), (.object "java/lang/String"), .int]
  staticTypes := #[]
  resolved := Array.replicate 77 none
  statics := none }

def pool9 : Array CpInfo := pool [(4, .class_ 6), (1, u "java/lang/Object"), (0, u "<init>"), (0, u "()V"), (5, .class_ 16), (1, u "java/lang/StringLatin1"), (73, u "canEncode"), (14, u "(C)Z"), (15, u "$assertionsDisabled"), (0, u "Z"), (98, .class_ 223), (1, u "java/lang/StringLatin1$LinesSpliterator"), (57, u "equals"), (0, u "([B[B)Z"), (97, u "toBytes"), (1, u "(C)[B"), (7, .class_ 391), (0, u "java/lang/StringLatin1$CharsSpliterator")] 3

def k9m0 : Method := { name := "<init>", desc := "()V", sig := { parameters := [], returnType := none }, accessFlags := 0, code := none }
def k9c1 : Code := { maxStack := 2, maxLocals := 1, code := jdk_43_method_3_code, exceptionTable := #[], attributes := #[] }
def k9m1 : Method := { name := "canEncode", desc := "(C)Z", sig := { parameters := [.char], returnType := some .boolean }, accessFlags := 9, code := some k9c1 }
def k9c2 : Code := { maxStack := 3, maxLocals := 3, code := jdk_43_method_13_code, exceptionTable := #[], attributes := #[] }
def k9m2 : Method := { name := "equals", desc := "([B[B)Z", sig := { parameters := [(.array .byte), (.array .byte)], returnType := some .boolean }, accessFlags := 9, code := some k9c2 }
def k9c3 : Code := { maxStack := 4, maxLocals := 1, code := jdk_43_method_46_code, exceptionTable := #[], attributes := #[] }
def k9m3 : Method := { name := "toBytes", desc := "(C)[B", sig := { parameters := [.char], returnType := some (.array .byte) }, accessFlags := 9, code := some k9c3 }
/-- java/lang/StringLatin1 -/
def k9 : Class := { plain "java/lang/StringLatin1" (some 0) with
  accessFlags := 48
  interfaces := #[]
  cf := some (fileOf pool9 14 #[.nestMembers #[390, 221]] #[{ accessFlags := 0, nameIndex := 7, descriptorIndex := 8, attributes := #[] }, { accessFlags := 9, nameIndex := 90, descriptorIndex := 105, attributes := #[] }, { accessFlags := 9, nameIndex := 281, descriptorIndex := 282, attributes := #[] }, { accessFlags := 9, nameIndex := 380, descriptorIndex := 382, attributes := #[] }] 48 4 #[] #[{ accessFlags := 4120, nameIndex := 121, descriptorIndex := 122, attributes := #[] }])
  fields := #[{ name := "$assertionsDisabled", type := .boolean, accessFlags := 4120, slot := 0, constantValue := 0 }]
  methods := #[k9m0, k9m1, k9m2, k9m3]
  instanceTypes := #[]
  staticTypes := #[.boolean]
  resolved := Array.replicate 395 none
  statics := none }

def pool10 : Array CpInfo := pool [(1, .class_ 2), (0, u "java/lang/Math"), (1, .class_ 6), (1, u "java/lang/Object"), (0, u "<init>"), (0, u "()V"), (89, .class_ 100), (1, u "java/lang/Math$RandomNumberGeneratorHolder"), (20, u "(JJ)J"), (50, u "negativeZeroFloatBits"), (0, u "J"), (2, u "negativeZeroDoubleBits"), (21, u "max"), (46, u "$assertionsDisabled"), (0, u "Z"), (88, u "(II)I"), (2, u "twoToTheDoubleScaleDown"), (0, u "D"), (4, u "twoToTheDoubleScaleUp"), (9, u "E"), (3, u "PI"), (2, u "TAU"), (2, u "DEGREES_TO_RADIANS"), (0, u "RADIANS_TO_DEGREES")] 94

def k10m0 : Method := { name := "<init>", desc := "()V", sig := { parameters := [], returnType := none }, accessFlags := 2, code := none }
def k10c1 : Code := { maxStack := 2, maxLocals := 2, code := jdk_29_method_65_code, exceptionTable := #[], attributes := #[] }
def k10m1 : Method := { name := "max", desc := "(II)I", sig := { parameters := [.int, .int], returnType := some .int }, accessFlags := 9, code := some k10c1 }
def k10c2 : Code := { maxStack := 4, maxLocals := 4, code := jdk_29_method_66_code, exceptionTable := #[], attributes := #[] }
def k10m2 : Method := { name := "max", desc := "(JJ)J", sig := { parameters := [.long, .long], returnType := some .long }, accessFlags := 9, code := some k10c2 }
/-- java/lang/Math -/
def k10 : Class := { plain "java/lang/Math" (some 0) with
  accessFlags := 49
  interfaces := #[]
  cf := some (fileOf pool10 1 #[.nestMembers #[98]] #[{ accessFlags := 2, nameIndex := 7, descriptorIndex := 8, attributes := #[] }, { accessFlags := 9, nameIndex := 198, descriptorIndex := 335, attributes := #[] }, { accessFlags := 9, nameIndex := 198, descriptorIndex := 121, attributes := #[] }] 49 4 #[] #[{ accessFlags := 25, nameIndex := 354, descriptorIndex := 339, attributes := #[] }, { accessFlags := 25, nameIndex := 358, descriptorIndex := 339, attributes := #[] }, { accessFlags := 25, nameIndex := 361, descriptorIndex := 339, attributes := #[] }, { accessFlags := 26, nameIndex := 364, descriptorIndex := 339, attributes := #[] }, { accessFlags := 26, nameIndex := 365, descriptorIndex := 339, attributes := #[] }, { accessFlags := 26, nameIndex := 172, descriptorIndex := 173, attributes := #[] }, { accessFlags := 26, nameIndex := 176, descriptorIndex := 173, attributes := #[] }, { accessFlags := 8, nameIndex := 344, descriptorIndex := 339, attributes := #[] }, { accessFlags := 8, nameIndex := 338, descriptorIndex := 339, attributes := #[] }, { accessFlags := 4120, nameIndex := 245, descriptorIndex := 246, attributes := #[] }])
  fields := #[{ name := "E", type := .double, accessFlags := 25, slot := 0, constantValue := 0 }, { name := "PI", type := .double, accessFlags := 25, slot := 1, constantValue := 0 }, { name := "TAU", type := .double, accessFlags := 25, slot := 2, constantValue := 0 }, { name := "DEGREES_TO_RADIANS", type := .double, accessFlags := 26, slot := 3, constantValue := 0 }, { name := "RADIANS_TO_DEGREES", type := .double, accessFlags := 26, slot := 4, constantValue := 0 }, { name := "negativeZeroFloatBits", type := .long, accessFlags := 26, slot := 5, constantValue := 0 }, { name := "negativeZeroDoubleBits", type := .long, accessFlags := 26, slot := 6, constantValue := 0 }, { name := "twoToTheDoubleScaleUp", type := .double, accessFlags := 8, slot := 7, constantValue := 0 }, { name := "twoToTheDoubleScaleDown", type := .double, accessFlags := 8, slot := 8, constantValue := 0 }, { name := "$assertionsDisabled", type := .boolean, accessFlags := 4120, slot := 9, constantValue := 0 }]
  methods := #[k10m0, k10m1, k10m2]
  instanceTypes := #[]
  staticTypes := #[.double, .double, .double, .double, .double, .long, .long, .double, .double, .boolean]
  resolved := Array.replicate 460 none
  statics := none }

def pool11 : Array CpInfo := pool [(2, .class_ 4), (1, u "java/lang/Object"), (0, u "<init>"), (0, u "()V"), (35, .class_ 44), (1, u "java/util/Objects"), (0, u "requireNonNull"), (48, u "(Ljava/lang/Object;Ljava/lang/String;)Ljava/lang/Object;")] 89

def k11m0 : Method := { name := "<init>", desc := "()V", sig := { parameters := [], returnType := none }, accessFlags := 2, code := none }
def k11c1 : Code := { maxStack := 3, maxLocals := 2, code := jdk_31_method_11_code, exceptionTable := #[], attributes := #[] }
def k11m1 : Method := { name := "requireNonNull", desc := "(Ljava/lang/Object;Ljava/lang/String;)Ljava/lang/Object;", sig := { parameters := [(.object "java/lang/Object"), (.object "java/lang/String")], returnType := some (.object "java/lang/Object") }, accessFlags := 9, code := some k11c1 }
/-- java/util/Objects -/
def k11 : Class := { plain "java/util/Objects" (some 0) with
  accessFlags := 49
  interfaces := #[]
  cf := some (fileOf pool11 42 #[] #[{ accessFlags := 2, nameIndex := 5, descriptorIndex := 6, attributes := #[] }, { accessFlags := 9, nameIndex := 45, descriptorIndex := 94, attributes := #[] }] 49 2 #[] #[])
  fields := #[]
  methods := #[k11m0, k11m1]
  instanceTypes := #[]
  staticTypes := #[]
  resolved := Array.replicate 184 none
  statics := none }

def pool12 : Array CpInfo := pool [(6, .class_ 8), (1, u "java/lang/Object"), (0, u "<init>"), (0, u "()V"), (1, .class_ 14), (1, u "java/lang/StringUTF16"), (31, u "$assertionsDisabled"), (0, u "Z"), (13, u "HI_BYTE_SHIFT"), (0, u "I"), (2, u "LO_BYTE_SHIFT"), (49, .methodref 12 116), (0, .nameAndType 117 118), (0, u "compress"), (0, u "([CI[BII)I"), (3, u "([CII)[B"), (138, u "coderFromArrayLen"), (0, u "([BI)B"), (106, .class_ 371), (1, u "java/lang/StringUTF16$LinesSpliterator"), (58, u "MAX_LENGTH"), (196, .class_ 628), (0, u "java/lang/StringUTF16$CodePointsSpliterator"), (0, .class_ 630), (0, u "java/lang/StringUTF16$CharsSpliterator")] 4

def k12m0 : Method := { name := "<init>", desc := "()V", sig := { parameters := [], returnType := none }, accessFlags := 0, code := none }
def k12c1 : Code := { maxStack := 2, maxLocals := 2, code := jdk_52_method_15_code, exceptionTable := #[], attributes := #[] }
def k12m1 : Method := { name := "coderFromArrayLen", desc := "([BI)B", sig := { parameters := [(.array .byte), .int], returnType := some .byte }, accessFlags := 8, code := some k12c1 }
def k12c2 : Code := { maxStack := 5, maxLocals := 6, code := jdk_52_method_16_code, exceptionTable := #[], attributes := #[] }
def k12m2 : Method := { name := "compress", desc := "([CII)[B", sig := { parameters := [(.array .char), .int, .int], returnType := some (.array .byte) }, accessFlags := 9, code := some k12c2 }
def k12c3 : Code := { maxStack := 3, maxLocals := 7, code := jdk_52_method_21_code, exceptionTable := #[], attributes := #[] }
def k12m3 : Method := { name := "compress", desc := "([CI[BII)I", sig := { parameters := [(.array .char), .int, (.array .byte), .int, .int], returnType := some .int }, accessFlags := 9, code := some k12c3 }
/-- java/lang/StringUTF16 -/
def k12 : Class := { plain "java/lang/StringUTF16" (some 0) with
  accessFlags := 48
  interfaces := #[]
  cf := some (fileOf pool12 12 #[.nestMembers #[627, 629, 369]] #[{ accessFlags := 0, nameIndex := 9, descriptorIndex := 10, attributes := #[] }, { accessFlags := 8, nameIndex := 261, descriptorIndex := 262, attributes := #[] }, { accessFlags := 9, nameIndex := 117, descriptorIndex := 122, attributes := #[] }, { accessFlags := 9, nameIndex := 117, descriptorIndex := 118, attributes := #[] }] 48 6 #[] #[{ accessFlags := 26, nameIndex := 61, descriptorIndex := 62, attributes := #[] }, { accessFlags := 26, nameIndex := 65, descriptorIndex := 62, attributes := #[] }, { accessFlags := 24, nameIndex := 430, descriptorIndex := 62, attributes := #[] }, { accessFlags := 4120, nameIndex := 46, descriptorIndex := 47, attributes := #[] }])
  fields := #[{ name := "HI_BYTE_SHIFT", type := .int, accessFlags := 26, slot := 0, constantValue := 0 }, { name := "LO_BYTE_SHIFT", type := .int, accessFlags := 26, slot := 1, constantValue := 0 }, { name := "MAX_LENGTH", type := .int, accessFlags := 24, slot := 2, constantValue := 0 }, { name := "$assertionsDisabled", type := .boolean, accessFlags := 4120, slot := 3, constantValue := 0 }]
  methods := #[k12m0, k12m1, k12m2, k12m3]
  instanceTypes := #[]
  staticTypes := #[.int, .int, .int, .boolean]
  resolved := Array.replicate 635 none
  statics := none }

def pool13 : Array CpInfo := pool [(2, .class_ 4), (1, u "java/lang/Object"), (0, u "<init>"), (0, u "()V"), (17, .class_ 26), (1, u "jdk/internal/util/Preconditions"), (28, .class_ 56), (0, u "jdk/internal/util/Preconditions$4"), (57, .class_ 115), (0, u "jdk/internal/util/Preconditions$1"), (7, u "SIOOBE_FORMATTER"), (0, u "Ljava/util/function/BiFunction;"), (0, .class_ 126), (0, u "jdk/internal/util/Preconditions$2"), (3, u "AIOOBE_FORMATTER"), (0, .class_ 132), (0, u "jdk/internal/util/Preconditions$3"), (3, u "IOOBE_FORMATTER")] 57

def k13m0 : Method := { name := "<init>", desc := "()V", sig := { parameters := [], returnType := none }, accessFlags := 1, code := none }
/-- jdk/internal/util/Preconditions -/
def k13 : Class := { plain "jdk/internal/util/Preconditions" (some 0) with
  accessFlags := 33
  interfaces := #[]
  cf := some (fileOf pool13 24 #[.nestMembers #[55, 131, 125, 114]] #[{ accessFlags := 1, nameIndex := 5, descriptorIndex := 6, attributes := #[] }] 33 2 #[] #[{ accessFlags := 25, nameIndex := 123, descriptorIndex := 124, attributes := #[] }, { accessFlags := 25, nameIndex := 130, descriptorIndex := 124, attributes := #[] }, { accessFlags := 25, nameIndex := 136, descriptorIndex := 124, attributes := #[] }])
  fields := #[{ name := "SIOOBE_FORMATTER", type := (.object "java/util/function/BiFunction"), accessFlags := 25, slot := 0, constantValue := 0 }, { name := "AIOOBE_FORMATTER", type := (.object "java/util/function/BiFunction"), accessFlags := 25, slot := 1, constantValue := 0 }, { name := "IOOBE_FORMATTER", type := (.object "java/util/function/BiFunction"), accessFlags := 25, slot := 2, constantValue := 0 }]
  methods := #[k13m0]
  instanceTypes := #[]
  staticTypes := #[(.object "java/util/function/BiFunction"), (.object "java/util/function/BiFunction"), (.object "java/util/function/BiFunction")]
  resolved := Array.replicate 194 none
  statics := some 1 }

def pool14 : Array CpInfo := pool [(9, u "<init>"), (6, .class_ 18), (1, u "java/lang/Object"), (0, u "()V"), (1, .class_ 23), (1, u "jdk/internal/util/ArraysSupport"), (0, u "LOG2_ARRAY_LONG_INDEX_SCALE"), (0, u "I"), (2, u "U"), (0, u "Ljdk/internal/misc/Unsafe;"), (8, u "BIG_ENDIAN"), (0, u "Z"), (8, u "LOG2_BYTE_BIT_SIZE"), (4, u "LOG2_ARRAY_INT_INDEX_SCALE"), (54, u "JLA"), (0, u "Ljdk/internal/access/JavaLangAccess;"), (11, u "LOG2_ARRAY_BOOLEAN_INDEX_SCALE"), (9, u "LOG2_ARRAY_BYTE_INDEX_SCALE"), (5, u "LOG2_ARRAY_CHAR_INDEX_SCALE"), (5, u "LOG2_ARRAY_SHORT_INDEX_SCALE"), (18, u "LOG2_ARRAY_FLOAT_INDEX_SCALE"), (24, u "LOG2_ARRAY_DOUBLE_INDEX_SCALE"), (89, u "T_BOOLEAN"), (2, u "T_CHAR"), (1, u "T_FLOAT"), (1, u "T_DOUBLE"), (1, u "T_BYTE"), (1, u "T_SHORT"), (1, u "T_INT"), (1, u "T_LONG"), (1, u "SOFT_MAX_ARRAY_LENGTH")] 83

def k14m0 : Method := { name := "<init>", desc := "()V", sig := { parameters := [], returnType := none }, accessFlags := 2, code := none }
/-- jdk/internal/util/ArraysSupport -/
def k14 : Class := { plain "jdk/internal/util/ArraysSupport" (some 0) with
  accessFlags := 33
  interfaces := #[]
  cf := some (fileOf pool14 21 #[] #[{ accessFlags := 2, nameIndex := 9, descriptorIndex := 19, attributes := #[] }] 33 16 #[] #[{ accessFlags := 24, nameIndex := 28, descriptorIndex := 29, attributes := #[] }, { accessFlags := 26, nameIndex := 38, descriptorIndex := 39, attributes := #[] }, { accessFlags := 25, nameIndex := 121, descriptorIndex := 25, attributes := #[] }, { accessFlags := 25, nameIndex := 131, descriptorIndex := 25, attributes := #[] }, { accessFlags := 25, nameIndex := 137, descriptorIndex := 25, attributes := #[] }, { accessFlags := 25, nameIndex := 143, descriptorIndex := 25, attributes := #[] }, { accessFlags := 25, nameIndex := 53, descriptorIndex := 25, attributes := #[] }, { accessFlags := 25, nameIndex := 24, descriptorIndex := 25, attributes := #[] }, { accessFlags := 25, nameIndex := 162, descriptorIndex := 25, attributes := #[] }, { accessFlags := 25, nameIndex := 187, descriptorIndex := 25, attributes := #[] }, { accessFlags := 26, nameIndex := 48, descriptorIndex := 25, attributes := #[] }, { accessFlags := 25, nameIndex := 277, descriptorIndex := 25, attributes := #[] }, { accessFlags := 25, nameIndex := 280, descriptorIndex := 25, attributes := #[] }, { accessFlags := 25, nameIndex := 282, descriptorIndex := 25, attributes := #[] }, { accessFlags := 25, nameIndex := 284, descriptorIndex := 25, attributes := #[] }, { accessFlags := 25, nameIndex := 286, descriptorIndex := 25, attributes := #[] }, { accessFlags := 25, nameIndex := 288, descriptorIndex := 25, attributes := #[] }, { accessFlags := 25, nameIndex := 290, descriptorIndex := 25, attributes := #[] }, { accessFlags := 25, nameIndex := 292, descriptorIndex := 25, attributes := #[] }, { accessFlags := 26, nameIndex := 108, descriptorIndex := 109, attributes := #[] }, { accessFlags := 25, nameIndex := 294, descriptorIndex := 25, attributes := #[] }])
  fields := #[{ name := "U", type := (.object "jdk/internal/misc/Unsafe"), accessFlags := 24, slot := 0, constantValue := 0 }, { name := "BIG_ENDIAN", type := .boolean, accessFlags := 26, slot := 1, constantValue := 0 }, { name := "LOG2_ARRAY_BOOLEAN_INDEX_SCALE", type := .int, accessFlags := 25, slot := 2, constantValue := 0 }, { name := "LOG2_ARRAY_BYTE_INDEX_SCALE", type := .int, accessFlags := 25, slot := 3, constantValue := 0 }, { name := "LOG2_ARRAY_CHAR_INDEX_SCALE", type := .int, accessFlags := 25, slot := 4, constantValue := 0 }, { name := "LOG2_ARRAY_SHORT_INDEX_SCALE", type := .int, accessFlags := 25, slot := 5, constantValue := 0 }, { name := "LOG2_ARRAY_INT_INDEX_SCALE", type := .int, accessFlags := 25, slot := 6, constantValue := 0 }, { name := "LOG2_ARRAY_LONG_INDEX_SCALE", type := .int, accessFlags := 25, slot := 7, constantValue := 0 }, { name := "LOG2_ARRAY_FLOAT_INDEX_SCALE", type := .int, accessFlags := 25, slot := 8, constantValue := 0 }, { name := "LOG2_ARRAY_DOUBLE_INDEX_SCALE", type := .int, accessFlags := 25, slot := 9, constantValue := 0 }, { name := "LOG2_BYTE_BIT_SIZE", type := .int, accessFlags := 26, slot := 10, constantValue := 0 }, { name := "T_BOOLEAN", type := .int, accessFlags := 25, slot := 11, constantValue := 0 }, { name := "T_CHAR", type := .int, accessFlags := 25, slot := 12, constantValue := 0 }, { name := "T_FLOAT", type := .int, accessFlags := 25, slot := 13, constantValue := 0 }, { name := "T_DOUBLE", type := .int, accessFlags := 25, slot := 14, constantValue := 0 }, { name := "T_BYTE", type := .int, accessFlags := 25, slot := 15, constantValue := 0 }, { name := "T_SHORT", type := .int, accessFlags := 25, slot := 16, constantValue := 0 }, { name := "T_INT", type := .int, accessFlags := 25, slot := 17, constantValue := 0 }, { name := "T_LONG", type := .int, accessFlags := 25, slot := 18, constantValue := 0 }, { name := "JLA", type := (.object "jdk/internal/access/JavaLangAccess"), accessFlags := 26, slot := 19, constantValue := 0 }, { name := "SOFT_MAX_ARRAY_LENGTH", type := .int, accessFlags := 25, slot := 20, constantValue := 0 }]
  methods := #[k14m0]
  instanceTypes := #[]
  staticTypes := #[(.object "jdk/internal/misc/Unsafe"), .boolean, .int, .int, .int, .int, .int, .int, .int, .int, .int, .int, .int, .int, .int, .int, .int, .int, .int, (.object "jdk/internal/access/JavaLangAccess"), .int]
  resolved := Array.replicate 378 none
  statics := none }

def pool15 : Array CpInfo := pool [(1, u "java/lang/Cloneable"), (0, .class_ 1), (0, u "java/lang/Object"), (0, .class_ 3)] 3

/-- java/lang/Cloneable -/
def k15 : Class := { plain "java/lang/Cloneable" (some 0) with
  accessFlags := 1537
  interfaces := #[]
  cf := some (fileOf pool15 2 #[] #[] 1537 4 #[] #[])
  fields := #[]
  methods := #[]
  instanceTypes := #[]
  staticTypes := #[]
  resolved := Array.replicate 8 none
  statics := none }

/-- the primitive byte -/
def k16 : Class := { plain "byte" none with kind := .primitive 'B', accessFlags := 0x411 }
/-- [B -/
def k17 : Class := { plain "[B" (some 0) with kind := .array 16 .byte, interfaces := #[15, 2], accessFlags := 1041 }

/-- the primitive char -/
def k18 : Class := { plain "char" none with kind := .primitive 'C', accessFlags := 0x411 }
/-- [C -/
def k19 : Class := { plain "[C" (some 0) with kind := .array 18 .char, interfaces := #[15, 2], accessFlags := 1041 }

/-- the primitive int -/
def k20 : Class := { plain "int" none with kind := .primitive 'I', accessFlags := 0x411 }
/-- [I -/
def k21 : Class := { plain "[I" (some 0) with kind := .array 20 .int, interfaces := #[15, 2], accessFlags := 1041 }

def heap : Heap := #[{ cls := 7, slots := #[.long 0, .int 1, .null, .int 0, .null, .int 0, .int 0], vm := .statics 7 },
  { cls := 13, slots := #[.null, .null, .null], vm := .statics 13 }]
def classes : Array Class := #[k0, k1, k2, k3, k4, k5, k6, k7, k8, k9, k10, k11, k12, k13, k14, k15, k16, k17, k18, k19, k20, k21]
def interned : List (Array UInt16 × Addr) := []
def slotsUsed : Nat := 10
def theMethod : MethodId := ⟨1, 2⟩
def args0 : Array Value := #[.int 65601, .int 66, .int 1, .int 5, .long 7, .int 66]
def aboutOver (below : List Frame) : State where
  vm := { classes := classes, interned := interned.toArray }
  heap := heap
  slotsUsed := slotsUsed
  threads := #[{ frames := .invoking theMethod args0 :: below }]
def below0 : List Frame := [.native { method := ⟨0, 0⟩, args := #[] }]
def about1 : State := aboutOver below0
def p0 : Program := .bare "" "" ""
def e0 : Env := launch0.env 0 0 0
theorem w_frames : about1.frames = Frame.invoking theMethod args0 :: below0 := rfl
set_option maxRecDepth 65536 in
theorem w_args : argsFit about1.vm theMethod args0 = true := by decide +kernel
set_option maxRecDepth 65536 in
theorem w_heap : heapFits about1 = true := by decide +kernel
set_option maxRecDepth 65536 in
theorem w_runnable : about1.curStatus? = some .runnable := by decide +kernel
set_option maxRecDepth 65536 in
theorem w_alone : about1.alone = true := by decide +kernel
set_option maxRecDepth 65536 in
theorem w_named : about1.methodNamed? x = some theMethod := by decide +kernel
set_option maxRecDepth 65536 in
theorem w_hears : about1.hears theMethod below0 = true := by decide +kernel
set_option maxRecDepth 65536 in
theorem w_ripe : about1.ripe theMethod args0 below0 = true := by decide +kernel
theorem w_running : about1.status = .running := rfl
set_option maxRecDepth 65536 in
theorem w_room : about1.hasRoom e0.platform room_1 = true :=
  launch0.hasRoom_least _ room_1 (by decide +kernel) (by decide +kernel) (by decide +kernel) (by decide +kernel) (by decide +kernel) (by decide +kernel)
theorem allAtoms_all (ts : List Jvm.Cond) (a : Array Jvm.Value) (st : Jvm.State) : (allAtoms ts).before a st = ts.all (fun c => c.before a st) := by
  induction ts with
  | nil => rfl
  | cons c t ih =>
    show (Jvm.Cond.and c (allAtoms t)).before a st = _
    rw [Jvm.Cond.before_and, ih, List.all_cons]
def words1 : List Jvm.Cond := Jvm.Cond.code x code maxLocals ret :: tables_1
/-- a 'code' word, met by the world's own term for the bytes: nothing is compared byte by byte -/
theorem code_word {y : MethodName} {bytes : ByteArray} {mx : Nat} {rt : Option FieldType} {a : Array Value} {s : State} {m : MethodId} {meth : Method} {c : Code} (h1 : s.methodNamed? y = some m) (h2 : s.vm.method? m = some meth) (h3 : meth.code = some c) (h4 : c.code = bytes)
    (h5 : (c.maxLocals == mx && c.exceptionTable.isEmpty && decide (c.maxStack ≤ mostOperands) && decide (meth.sig.returnType = rt) && !meth.locks && decide (parseMethodDescriptor y.desc = some meth.sig)) = true) : (Jvm.Cond.code y bytes mx rt).before a s = true := by
  simp only [Bool.and_eq_true, beq_iff_eq, Bool.not_eq_true', decide_eq_true_eq] at h5
  obtain ⟨⟨⟨⟨⟨g1, g2⟩, g3⟩, g4⟩, g5⟩, g6⟩ := h5
  simp [Cond.before, Cond.holds, Cond.value, h1, h2, h3, h4, g1, g2, g3, g4, g5, g6]
def isCode : Jvm.Cond → Bool
  | .code _ _ _ _ => true
  | _ => false
theorem all_split {L : List Jvm.Cond} {P : Jvm.Cond → Bool} (h1 : L.all (fun c => isCode c || P c) = true) (h2 : ∀ c ∈ L.filter isCode, P c = true) : L.all P = true := by
  refine List.all_eq_true.mpr fun c hc => ?_
  have h := List.all_eq_true.mp h1 c hc
  rcases Bool.eq_false_or_eq_true (isCode c) with hi | hi
  · exact h2 c (List.mem_filter.mpr ⟨hc, hi⟩)
  · simpa [hi] using h
set_option maxRecDepth 65536 in
theorem w_c0 : (Jvm.Cond.code x code maxLocals ret).before args0 about1 = true := code_word (m := ⟨1, 2⟩) (meth := k1m2) (c := k1c2) (by decide +kernel) rfl rfl rfl (by decide +kernel)
set_option maxRecDepth 65536 in
theorem w_c1 : (Jvm.Cond.code ({ cls := "com/example/crownsworn/crownsworn/model/AdventureCardEqualsPinLaw", name := "mk", desc := "(ICC)Ljava/lang/String;" } : Jvm.MethodName) method_2_code (3 : Nat) (Option.some (Jvm.ClassFile.FieldType.object "java/lang/String"))).before args0 about1 = true := code_word (m := ⟨1, 1⟩) (meth := k1m1) (c := k1c1) (by decide +kernel) rfl rfl rfl (by decide +kernel)
set_option maxRecDepth 65536 in
theorem w_c2 : (Jvm.Cond.code ({ cls := "java/lang/String", name := "valueOf", desc := "(C)Ljava/lang/String;" } : Jvm.MethodName) jdk_42_method_139_code (1 : Nat) (Option.some (Jvm.ClassFile.FieldType.object "java/lang/String"))).before args0 about1 = true := code_word (m := ⟨7, 3⟩) (meth := k7m3) (c := k7c3) (by decide +kernel) rfl rfl rfl (by decide +kernel)
set_option maxRecDepth 65536 in
theorem w_c3 : (Jvm.Cond.code ({ cls := "java/lang/StringLatin1", name := "canEncode", desc := "(C)Z" } : Jvm.MethodName) jdk_43_method_3_code (1 : Nat) (Option.some Jvm.ClassFile.FieldType.boolean)).before args0 about1 = true := code_word (m := ⟨9, 1⟩) (meth := k9m1) (c := k9c1) (by decide +kernel) rfl rfl rfl (by decide +kernel)
set_option maxRecDepth 65536 in
theorem w_c4 : (Jvm.Cond.code ({ cls := "java/lang/StringLatin1", name := "toBytes", desc := "(C)[B" } : Jvm.MethodName) jdk_43_method_46_code (1 : Nat) (Option.some (Jvm.ClassFile.FieldType.array Jvm.ClassFile.FieldType.byte))).before args0 about1 = true := code_word (m := ⟨9, 3⟩) (meth := k9m3) (c := k9c3) (by decide +kernel) rfl rfl rfl (by decide +kernel)
set_option maxRecDepth 65536 in
theorem w_c5 : (Jvm.Cond.code ({ cls := "java/lang/String", name := "<init>", desc := "([BB)V" } : Jvm.MethodName) jdk_42_method_151_code (3 : Nat) (Option.none : Option Jvm.ClassFile.FieldType)).before args0 about1 = true := code_word (m := ⟨7, 5⟩) (meth := k7m5) (c := k7c5) (by decide +kernel) rfl rfl rfl (by decide +kernel)
set_option maxRecDepth 65536 in
theorem w_c6 : (Jvm.Cond.code ({ cls := "java/lang/Object", name := "<init>", desc := "()V" } : Jvm.MethodName) object_method_1_code (1 : Nat) (Option.none : Option Jvm.ClassFile.FieldType)).before args0 about1 = true := code_word (m := ⟨0, 0⟩) (meth := k0m0) (c := k0c0) (by decide +kernel) rfl rfl rfl (by decide +kernel)
set_option maxRecDepth 65536 in
theorem w_c7 : (Jvm.Cond.code ({ cls := "java/lang/Math", name := "max", desc := "(II)I" } : Jvm.MethodName) jdk_29_method_65_code (2 : Nat) (Option.some Jvm.ClassFile.FieldType.int)).before args0 about1 = true := code_word (m := ⟨10, 1⟩) (meth := k10m1) (c := k10c1) (by decide +kernel) rfl rfl rfl (by decide +kernel)
set_option maxRecDepth 65536 in
theorem w_c8 : (Jvm.Cond.code ({ cls := "com/example/crownsworn/crownsworn/model/AdventureCard", name := "<init>", desc := "(Ljava/lang/String;Ljava/lang/String;Ljava/lang/String;I)V" } : Jvm.MethodName) prog_5_method_1_code (5 : Nat) (Option.none : Option Jvm.ClassFile.FieldType)).before args0 about1 = true := code_word (m := ⟨8, 0⟩) (meth := k8m0) (c := k8c0) (by decide +kernel) rfl rfl rfl (by decide +kernel)
set_option maxRecDepth 65536 in
theorem w_c9 : (Jvm.Cond.code ({ cls := "java/util/Objects", name := "requireNonNull", desc := "(Ljava/lang/Object;Ljava/lang/String;)Ljava/lang/Object;" } : Jvm.MethodName) jdk_31_method_11_code (2 : Nat) (Option.some (Jvm.ClassFile.FieldType.object "java/lang/Object"))).before args0 about1 = true := code_word (m := ⟨11, 1⟩) (meth := k11m1) (c := k11c1) (by decide +kernel) rfl rfl rfl (by decide +kernel)
set_option maxRecDepth 65536 in
theorem w_c10 : (Jvm.Cond.code ({ cls := "java/lang/Math", name := "max", desc := "(JJ)J" } : Jvm.MethodName) jdk_29_method_66_code (4 : Nat) (Option.some Jvm.ClassFile.FieldType.long)).before args0 about1 = true := code_word (m := ⟨10, 2⟩) (meth := k10m2) (c := k10c2) (by decide +kernel) rfl rfl rfl (by decide +kernel)
set_option maxRecDepth 65536 in
theorem w_c11 : (Jvm.Cond.code ({ cls := "com/example/crownsworn/crownsworn/model/AdventureCard", name := "equals", desc := "(Ljava/lang/Object;)Z" } : Jvm.MethodName) prog_5_method_6_code (3 : Nat) (Option.some Jvm.ClassFile.FieldType.boolean)).before args0 about1 = true := code_word (m := ⟨8, 1⟩) (meth := k8m1) (c := k8c1) (by decide +kernel) rfl rfl rfl (by decide +kernel)
set_option maxRecDepth 65536 in
theorem w_c12 : (Jvm.Cond.code ({ cls := "java/lang/String", name := "equals", desc := "(Ljava/lang/Object;)Z" } : Jvm.MethodName) jdk_42_method_66_code (3 : Nat) (Option.some Jvm.ClassFile.FieldType.boolean)).before args0 about1 = true := code_word (m := ⟨7, 2⟩) (meth := k7m2) (c := k7c2) (by decide +kernel) rfl rfl rfl (by decide +kernel)
set_option maxRecDepth 65536 in
theorem w_c13 : (Jvm.Cond.code ({ cls := "java/lang/StringLatin1", name := "equals", desc := "([B[B)Z" } : Jvm.MethodName) jdk_43_method_13_code (3 : Nat) (Option.some Jvm.ClassFile.FieldType.boolean)).before args0 about1 = true := code_word (m := ⟨9, 2⟩) (meth := k9m2) (c := k9c2) (by decide +kernel) rfl rfl rfl (by decide +kernel)
set_option maxRecDepth 65536 in
theorem w_c14 : (Jvm.Cond.code ({ cls := "java/lang/String", name := "<init>", desc := "([C)V" } : Jvm.MethodName) jdk_42_method_3_code (2 : Nat) (Option.none : Option Jvm.ClassFile.FieldType)).before args0 about1 = true := code_word (m := ⟨7, 1⟩) (meth := k7m1) (c := k7c1) (by decide +kernel) rfl rfl rfl (by decide +kernel)
set_option maxRecDepth 65536 in
theorem w_c15 : (Jvm.Cond.code ({ cls := "java/lang/String", name := "<init>", desc := "([CIILjava/lang/Void;)V" } : Jvm.MethodName) jdk_42_method_149_code (6 : Nat) (Option.none : Option Jvm.ClassFile.FieldType)).before args0 about1 = true := code_word (m := ⟨7, 4⟩) (meth := k7m4) (c := k7c4) (by decide +kernel) rfl rfl rfl (by decide +kernel)
set_option maxRecDepth 65536 in
theorem w_c16 : (Jvm.Cond.code ({ cls := "java/lang/StringUTF16", name := "compress", desc := "([CII)[B" } : Jvm.MethodName) jdk_52_method_16_code (6 : Nat) (Option.some (Jvm.ClassFile.FieldType.array Jvm.ClassFile.FieldType.byte))).before args0 about1 = true := code_word (m := ⟨12, 2⟩) (meth := k12m2) (c := k12c2) (by decide +kernel) rfl rfl rfl (by decide +kernel)
set_option maxRecDepth 65536 in
theorem w_c17 : (Jvm.Cond.code ({ cls := "java/lang/StringUTF16", name := "compress", desc := "([CI[BII)I" } : Jvm.MethodName) jdk_52_method_21_code (7 : Nat) (Option.some Jvm.ClassFile.FieldType.int)).before args0 about1 = true := code_word (m := ⟨12, 3⟩) (meth := k12m3) (c := k12c3) (by decide +kernel) rfl rfl rfl (by decide +kernel)
set_option maxRecDepth 65536 in
theorem w_c18 : (Jvm.Cond.code ({ cls := "java/lang/StringUTF16", name := "coderFromArrayLen", desc := "([BI)B" } : Jvm.MethodName) jdk_52_method_15_code (2 : Nat) (Option.some Jvm.ClassFile.FieldType.byte)).before args0 about1 = true := code_word (m := ⟨12, 1⟩) (meth := k12m1) (c := k12c1) (by decide +kernel) rfl rfl rfl (by decide +kernel)
def codes1 : List Jvm.Cond := [Jvm.Cond.code x code maxLocals ret, Jvm.Cond.code ({ cls := "com/example/crownsworn/crownsworn/model/AdventureCardEqualsPinLaw", name := "mk", desc := "(ICC)Ljava/lang/String;" } : Jvm.MethodName) method_2_code (3 : Nat) (Option.some (Jvm.ClassFile.FieldType.object "java/lang/String")), Jvm.Cond.code ({ cls := "java/lang/String", name := "valueOf", desc := "(C)Ljava/lang/String;" } : Jvm.MethodName) jdk_42_method_139_code (1 : Nat) (Option.some (Jvm.ClassFile.FieldType.object "java/lang/String")), Jvm.Cond.code ({ cls := "java/lang/StringLatin1", name := "canEncode", desc := "(C)Z" } : Jvm.MethodName) jdk_43_method_3_code (1 : Nat) (Option.some Jvm.ClassFile.FieldType.boolean), Jvm.Cond.code ({ cls := "java/lang/StringLatin1", name := "toBytes", desc := "(C)[B" } : Jvm.MethodName) jdk_43_method_46_code (1 : Nat) (Option.some (Jvm.ClassFile.FieldType.array Jvm.ClassFile.FieldType.byte)), Jvm.Cond.code ({ cls := "java/lang/String", name := "<init>", desc := "([BB)V" } : Jvm.MethodName) jdk_42_method_151_code (3 : Nat) (Option.none : Option Jvm.ClassFile.FieldType), Jvm.Cond.code ({ cls := "java/lang/Object", name := "<init>", desc := "()V" } : Jvm.MethodName) object_method_1_code (1 : Nat) (Option.none : Option Jvm.ClassFile.FieldType), Jvm.Cond.code ({ cls := "java/lang/Math", name := "max", desc := "(II)I" } : Jvm.MethodName) jdk_29_method_65_code (2 : Nat) (Option.some Jvm.ClassFile.FieldType.int), Jvm.Cond.code ({ cls := "com/example/crownsworn/crownsworn/model/AdventureCard", name := "<init>", desc := "(Ljava/lang/String;Ljava/lang/String;Ljava/lang/String;I)V" } : Jvm.MethodName) prog_5_method_1_code (5 : Nat) (Option.none : Option Jvm.ClassFile.FieldType), Jvm.Cond.code ({ cls := "java/util/Objects", name := "requireNonNull", desc := "(Ljava/lang/Object;Ljava/lang/String;)Ljava/lang/Object;" } : Jvm.MethodName) jdk_31_method_11_code (2 : Nat) (Option.some (Jvm.ClassFile.FieldType.object "java/lang/Object")), Jvm.Cond.code ({ cls := "java/lang/Math", name := "max", desc := "(JJ)J" } : Jvm.MethodName) jdk_29_method_66_code (4 : Nat) (Option.some Jvm.ClassFile.FieldType.long), Jvm.Cond.code ({ cls := "com/example/crownsworn/crownsworn/model/AdventureCard", name := "equals", desc := "(Ljava/lang/Object;)Z" } : Jvm.MethodName) prog_5_method_6_code (3 : Nat) (Option.some Jvm.ClassFile.FieldType.boolean), Jvm.Cond.code ({ cls := "java/lang/String", name := "equals", desc := "(Ljava/lang/Object;)Z" } : Jvm.MethodName) jdk_42_method_66_code (3 : Nat) (Option.some Jvm.ClassFile.FieldType.boolean), Jvm.Cond.code ({ cls := "java/lang/StringLatin1", name := "equals", desc := "([B[B)Z" } : Jvm.MethodName) jdk_43_method_13_code (3 : Nat) (Option.some Jvm.ClassFile.FieldType.boolean), Jvm.Cond.code ({ cls := "java/lang/String", name := "<init>", desc := "([C)V" } : Jvm.MethodName) jdk_42_method_3_code (2 : Nat) (Option.none : Option Jvm.ClassFile.FieldType), Jvm.Cond.code ({ cls := "java/lang/String", name := "<init>", desc := "([CIILjava/lang/Void;)V" } : Jvm.MethodName) jdk_42_method_149_code (6 : Nat) (Option.none : Option Jvm.ClassFile.FieldType), Jvm.Cond.code ({ cls := "java/lang/StringUTF16", name := "compress", desc := "([CII)[B" } : Jvm.MethodName) jdk_52_method_16_code (6 : Nat) (Option.some (Jvm.ClassFile.FieldType.array Jvm.ClassFile.FieldType.byte)), Jvm.Cond.code ({ cls := "java/lang/StringUTF16", name := "compress", desc := "([CI[BII)I" } : Jvm.MethodName) jdk_52_method_21_code (7 : Nat) (Option.some Jvm.ClassFile.FieldType.int), Jvm.Cond.code ({ cls := "java/lang/StringUTF16", name := "coderFromArrayLen", desc := "([BI)B" } : Jvm.MethodName) jdk_52_method_15_code (2 : Nat) (Option.some Jvm.ClassFile.FieldType.byte)]
set_option maxRecDepth 65536 in
theorem codes_eq : words1.filter isCode = codes1 := rfl
theorem w_codes : ∀ c ∈ words1.filter isCode, c.before args0 about1 = true := by
  rw [codes_eq]
  intro c hc
  simp only [codes1, List.mem_cons, List.not_mem_nil, or_false] at hc
  rcases hc with rfl | rfl | rfl | rfl | rfl | rfl | rfl | rfl | rfl | rfl | rfl | rfl | rfl | rfl | rfl | rfl | rfl | rfl | rfl
  · exact w_c0
  · exact w_c1
  · exact w_c2
  · exact w_c3
  · exact w_c4
  · exact w_c5
  · exact w_c6
  · exact w_c7
  · exact w_c8
  · exact w_c9
  · exact w_c10
  · exact w_c11
  · exact w_c12
  · exact w_c13
  · exact w_c14
  · exact w_c15
  · exact w_c16
  · exact w_c17
  · exact w_c18
set_option maxRecDepth 65536 in
theorem w_t1 : (words1.take 24).all (fun c => isCode c || c.before args0 about1) = true := by decide +kernel
set_option maxRecDepth 65536 in
theorem w_t2 : ((words1.drop 24).take 24).all (fun c => isCode c || c.before args0 about1) = true := by decide +kernel
set_option maxRecDepth 65536 in
theorem w_t3 : (((words1.drop 24).drop 24).take 24).all (fun c => isCode c || c.before args0 about1) = true := by decide +kernel
set_option maxRecDepth 65536 in
theorem w_t4 : ((((words1.drop 24).drop 24).drop 24).take 24).all (fun c => isCode c || c.before args0 about1) = true := by decide +kernel
set_option maxRecDepth 65536 in
theorem w_t5 : ((((words1.drop 24).drop 24).drop 24).drop 24).all (fun c => isCode c || c.before args0 about1) = true := by decide +kernel
theorem w_tables : (allAtoms (Jvm.Cond.code x code maxLocals ret :: tables_1)).before args0 about1 = true := by
  rw [allAtoms_all]
  show words1.all (fun c => c.before args0 about1) = true
  refine all_split ?_ w_codes
  rw [← List.take_append_drop 24 words1, List.all_append, w_t1, ← List.take_append_drop 24 (words1.drop 24), List.all_append, w_t2, ← List.take_append_drop 24 ((words1.drop 24).drop 24), List.all_append, w_t3, ← List.take_append_drop 24 (((words1.drop 24).drop 24).drop 24), List.all_append, w_t4, w_t5]
  rfl
set_option maxRecDepth 65536 in
theorem w_rest : rest_1_c.before args0 about1 = true := by decide +kernel
set_option maxRecDepth 65536 in
theorem w_case : (Jvm.Cond.and given_1 narrow_1).before args0 about1 = true := by decide +kernel
set_option maxRecDepth 65536 in
theorem w_consts : constsHeld consts_1 about1 := Jvm.Lit.constsHeldB_iff.mp (by decide +kernel)
theorem w_applies : (headSpec (Jvm.Cond.code x code maxLocals ret :: tables_1) room_1).applies x e0.platform about1 = true :=
  (Spec.applies_iff w_frames).mpr ⟨w_running, w_runnable, w_alone, w_named, w_hears, w_ripe, w_room, w_tables⟩
theorem atStart : AtStart classFile x code maxLocals ret World_1 tables_1 room_1 Calls_1 rest_1 Pre_1 launch0 p0 e0 about1 theMethod args0 below0 :=
  ⟨lists_1, trivial, launch0.admits_env _ _ _, launch0.least_env, fairChoices_fair.cas, fairChoices_fair.clock, w_frames, w_args, w_heap, w_applies, ⟨w_consts, trivial⟩, w_rest, w_case⟩
end start1
theorem witness_1 : WitnessClaimed_1 := ⟨start1.p0, start1.e0, start1.about1, start1.theMethod, start1.args0, start1.below0, start1.atStart⟩
end Jvm.Pilot.@@N@@
