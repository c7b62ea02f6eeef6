import Derived.Test.Qxb6605187aRoundsPlain
namespace Go.Proofs.Qxb6605187a
set_option linter.unusedVariables false

theorem tb_nat (a j : Nat) : tb (a : Int) j = (decide (j < 64) && a.testBit j) := by
  unfold tb
  rw [BitVec.ofInt_natCast, BitVec.getLsbD_ofNat]
theorem pow_lt (i : Nat) (hi : i < 64) : (2 : Nat) ^ i < 18446744073709551616 := by
  have h1 : (2 : Nat) ^ i < 2 ^ 64 := Nat.pow_lt_pow_right (by omega) hi
  have e : (2 : Nat) ^ 64 = 18446744073709551616 := by decide
  rw [e] at h1
  exact h1
theorem wrap_nat (a : Nat) (h : a < 18446744073709551616) : IntKind.u64.wrap (a : Int) = a := by
  rw [IntKind.wrap_u64]; omega
theorem wrap_pow (i : Nat) (hi : i < 64) : IntKind.u64.wrap (2 ^ i) = ((2 ^ i : Nat) : Int) := by
  have h2 : (2 : Int) ^ i = ((2 ^ i : Nat) : Int) := by simp
  rw [h2]
  exact wrap_nat _ (pow_lt i hi)
theorem tb_pow (i j : Nat) (hi : i < 64) : tb (IntKind.u64.wrap (2 ^ i)) j = decide (j = i) := by
  rw [wrap_pow i hi, tb_nat, Nat.testBit_two_pow]
  by_cases e : j = i
  · subst e; simp [hi]
  · have e2 : ¬ i = j := fun h => e h.symm
    simp [e, e2]
theorem pow_w (i : Nat) (hi : i < 64) : W64 (IntKind.u64.wrap (2 ^ i)) := by
  have h1 := pow_lt i hi
  rw [wrap_pow i hi]
  generalize (2 : Nat) ^ i = p at *
  unfold W64
  omega
theorem all_lt (m : Nat) (hm : m < 64) : ∀ i, i < m → tb (IntKind.u64.wrap (IntKind.u64.wrap (2 ^ m) - 1)) i = true := by
  intro i hi
  have h1 := pow_lt m hm
  have h0 : 0 < 2 ^ m := Nat.two_pow_pos m
  have e : IntKind.u64.wrap (IntKind.u64.wrap (2 ^ m) - 1) = ((2 ^ m - 1 : Nat) : Int) := by
    rw [wrap_pow m hm]
    generalize (2 : Nat) ^ m = p at *
    have e2 : (p : Int) - 1 = ((p - 1 : Nat) : Int) := by omega
    rw [e2]
    exact wrap_nat _ (by omega)
  rw [e, tb_nat, Nat.testBit_two_pow_sub_one]
  simp [hi]
  omega
theorem all_64 : ∀ i, i < 64 → tb 18446744073709551615 i = true := by
  intro i hi
  have e : (18446744073709551615 : Int) = ((2 ^ 64 - 1 : Nat) : Int) := by decide
  rw [e, tb_nat, Nat.testBit_two_pow_sub_one]
  simp [hi]
theorem tb_shr (x : Int) (hx : W64 x) (i : Nat) (hi : i < 64) : (bits .and .u64 (x / 2 ^ i) 1 == 1) = tb x i := by
  obtain ⟨a, rfl⟩ := Int.eq_ofNat_of_zero_le hx.1
  have h2 : (a : Int) / 2 ^ i = ((a / 2 ^ i : Nat) : Int) := by simp
  have h3 : ∀ j, tb (bits .and .u64 ((a : Int) / 2 ^ i) 1) j = (tb a i && decide (j = 0)) := by
    intro j
    rw [tb_and, h2, tb_nat]
    have e1 : (1 : Int) = ((2 ^ 0 : Nat) : Int) := by simp
    rw [e1, tb_nat (2 ^ 0) j, Nat.testBit_two_pow, tb_nat]
    by_cases e : j = 0
    · subst e
      rw [Nat.testBit_div_two_pow]
      simp [hi]
    · have e2 : ¬ 0 = j := fun h => e h.symm
      simp [e, e2]
  have w1 : W64 1 := by unfold W64; omega
  have w0 : W64 0 := by unfold W64; omega
  have t1 : ∀ j, tb 1 j = decide (j = 0) := by
    intro j
    have e1 : (1 : Int) = ((2 ^ 0 : Nat) : Int) := by simp
    rw [e1, tb_nat, Nat.testBit_two_pow]
    by_cases e : j = 0
    · subst e; simp
    · have e2 : ¬ 0 = j := fun h => e h.symm
      simp [e, e2]
  cases hb : tb (a : Int) i with
  | true =>
    have : bits .and .u64 ((a : Int) / 2 ^ i) 1 = 1 := w64_ext (and_w _ _) w1 fun j => by rw [h3, t1, hb, Bool.true_and]
    rw [this]; rfl
  | false =>
    have : bits .and .u64 ((a : Int) / 2 ^ i) 1 = 0 := w64_ext (and_w _ _) w0 fun j => by rw [h3, tb_zero, hb, Bool.false_and]
    rw [this]; rfl

/-- the words behind k sources -/
structure SrcIn (src : List Int) (n k : Nat) (xs : List Int) : Prop where
  len : xs.length = n
  w : ∀ v, W64 (nth xs v)
  bit : ∀ v, v < n → ∀ i, tb (nth xs v) i = true ↔ i < k ∧ (nth src i).toNat = v

theorem SrcIn.zero (src : List Int) (n : Nat) : SrcIn src n 0 (List.replicate n 0) := by
  have h0 : ∀ v, nth (List.replicate n 0) v = 0 := by
    intro v
    unfold nth
    rw [List.getD_eq_getElem?_getD, List.getElem?_replicate]
    split <;> rfl
  refine ⟨by simp, fun v => by rw [h0]; unfold W64; omega, fun v hv i => ?_⟩
  rw [h0, tb_zero]
  constructor
  · intro h; cases h
  · rintro ⟨h, _⟩; omega
theorem SrcIn.step {src xs : List Int} {n k : Nat} (h : SrcIn src n k xs) (hk : k < 64) (hx : (nth src k).toNat < n) : SrcIn src n (k + 1) (xs.set (nth src k).toNat (bits .or .u64 (nth xs (nth src k).toNat) (IntKind.u64.wrap (2 ^ k)))) := by
  have hl := h.len
  refine ⟨by simpa using hl, fun v => ?_, fun v hv i => ?_⟩
  · rw [nth_set _ _ _ _ (by omega)]
    split
    · exact or_w _ _
    · exact h.w v
  · rw [nth_set _ _ _ _ (by omega)]
    by_cases e : v = (nth src k).toNat
    · rw [if_pos e, tb_or, Bool.or_eq_true, ← e, h.bit v hv i, tb_pow k i hk]
      constructor
      · rintro (⟨h1, h2⟩ | h1)
        · exact ⟨by omega, h2⟩
        · have : i = k := by simpa using h1
          subst this
          exact ⟨by omega, e.symm⟩
      · rintro ⟨h1, h2⟩
        by_cases ek : i = k
        · right; simp [ek]
        · exact .inl ⟨by omega, h2⟩
    · rw [if_neg e, h.bit v hv i]
      constructor
      · rintro ⟨h1, h2⟩; exact ⟨by omega, h2⟩
      · rintro ⟨h1, h2⟩
        by_cases ek : i = k
        · subst ek; exact absurd h2.symm e
        · exact ⟨by omega, h2⟩

theorem SrcIn.rounds {S A src xs : List Int} {n : Nat} (h : SrcIn src n src.length xs) (hr : ∀ i, i < src.length → (nth src i).toNat < n) : Rounds S A src n 0 xs xs := by
  refine ⟨h.len, h.len, h.w, h.w, fun v hv i hi => ?_, fun v i hi => hi, fun u v i _ _ hi => .inl hi, fun i hi => ?_, fun i hi => ?_⟩
  · have := (h.bit v hv i).1 hi
    refine ⟨this.1, ?_⟩
    rw [this.2]
    exact Conn.refl _ _ _
  · exact (h.bit _ (hr i hi) i).2 ⟨hi, rfl⟩
  · obtain ⟨v, hv, h1⟩ := hi
    have hs : Sub (List.replicate n false) (col xs n i) := fun x hx => by
      unfold nthB at hx
      rw [List.getD_eq_getElem?_getD, List.getElem?_replicate] at hx
      split at hx <;> simp at hx
    have := (marks_sub (c := List.replicate n false) (c' := col xs n i) (by simp [col_len]) hs).2 ⟨v, by rw [col_nth _ _ _ _ hv]; exact h1, by
      unfold nthB
      rw [List.getD_eq_getElem?_getD, List.getElem?_replicate]
      split <;> rfl⟩
    omega

end Go.Proofs.Qxb6605187a
