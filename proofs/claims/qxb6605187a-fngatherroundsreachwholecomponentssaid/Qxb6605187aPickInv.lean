import Derived.Test.Qxb6605187aPick
namespace Go.Proofs.Qxb6605187a
set_option linter.unusedVariables false

/-- how many entries the first k buckets hold -/
def lowSum (B : List (List Int)) : Nat → Nat
  | 0 => 0
  | k + 1 => lowSum B k + (bAt B k).length

theorem lowSum_ge (B : List (List Int)) (k j : Nat) (h : j < k) : (bAt B j).length ≤ lowSum B k := by
  induction k with
  | zero => omega
  | succ k ih =>
    unfold lowSum
    by_cases e : j = k
    · subst e; omega
    · have := ih (by omega); omega
theorem lowSum_bput_ge (B : List (List Int)) (h k : Nat) (x : Int) (hk : k ≤ h) : lowSum (bput B h x) k = lowSum B k := by
  induction k with
  | zero => rfl
  | succ k ih =>
    unfold lowSum
    rw [ih (by omega), bput_other _ _ _ _ (by omega)]
theorem lowSum_bput (B : List (List Int)) (h k : Nat) (x : Int) (hh : h < B.length) (hk : h < k) : lowSum (bput B h x) k = lowSum B k + 1 := by
  induction k with
  | zero => omega
  | succ k ih =>
    unfold lowSum
    by_cases e : h = k
    · subst e
      rw [lowSum_bput_ge _ _ _ _ (Nat.le_refl _), bput_same _ _ _ hh, List.length_append]
      simp; omega
    · rw [ih (by omega), bput_other _ _ _ _ (fun e' => e e'.symm)]
      omega
theorem lowSum_le (B : List (List Int)) (k j : Nat) (h : j ≤ k) : lowSum B j ≤ lowSum B k := by
  induction k with
  | zero => have : j = 0 := by omega
            subst this; exact Nat.le_refl _
  | succ k ih =>
    by_cases e : j = k + 1
    · subst e; exact Nat.le_refl _
    · have := ih (by omega); simp only [lowSum]; omega
theorem lowSum_nil (n k : Nat) : lowSum (List.replicate n []) k = 0 := by
  induction k with
  | zero => rfl
  | succ k ih =>
    unfold lowSum bAt
    rw [ih, List.getD_eq_getElem?_getD, List.getElem?_replicate]
    split <;> rfl

/-- what holds all along: n peers, K + 1 buckets, level k, rem entries of the level left -/
structure PInv (n K k rem : Nat) (s : PS) : Prop where
  cl : s.cov.length = n
  bl : s.B.length = K + 1
  sum : lowSum s.B k + rem ≤ n
  rng : ∀ j x, x ∈ bAt s.B j → 0 ≤ x ∧ x < n

theorem pstep_move {S A : List Int} {count k : Nat} {s : PS} {x : Int} (hd : s.done = false) (h1 : hold S A s.cov x.toNat < k) (h2 : 0 < hold S A s.cov x.toNat) :
    pstep S A count k s x = { s with B := bput s.B (hold S A s.cov x.toNat) x } := by
  unfold pstep; rw [hd, if_neg (by simp), if_pos h1, if_pos h2]
theorem pstep_skip {S A : List Int} {count k : Nat} {s : PS} {x : Int} (hd : s.done = false) (h1 : hold S A s.cov x.toNat < k) (h2 : ¬ 0 < hold S A s.cov x.toNat) :
    pstep S A count k s x = s := by
  unfold pstep; rw [hd, if_neg (by simp), if_pos h1, if_neg h2]
theorem pstep_last {S A : List Int} {count k : Nat} {s : PS} {x : Int} (hd : s.done = false) (h1 : ¬ hold S A s.cov x.toNat < k) (h2 : s.picked.length + 1 = count) :
    pstep S A count k s x = { s with picked := s.picked ++ [x], done := true } := by
  unfold pstep; rw [hd, if_neg (by simp), if_neg h1, if_pos h2]
theorem pstep_pick {S A : List Int} {count k : Nat} {s : PS} {x : Int} (hd : s.done = false) (h1 : ¬ hold S A s.cov x.toNat < k) (h2 : ¬ s.picked.length + 1 = count) :
    pstep S A count k s x = { s with picked := s.picked ++ [x], cov := strike S A s.cov x.toNat } := by
  unfold pstep; rw [hd, if_neg (by simp), if_neg h1, if_neg h2]

theorem mem_bput {B : List (List Int)} {h j : Nat} {x y : Int} (hy : y ∈ bAt (bput B h x) j) : y ∈ bAt B j ∨ y = x := by
  by_cases e : j = h
  · subst e
    by_cases hh : j < B.length
    · rw [bput_same _ _ _ hh] at hy
      simpa using hy
    · left
      unfold bput at hy
      rw [List.set_eq_of_length_le (by omega)] at hy
      exact hy
  · rw [bput_other _ _ _ _ e] at hy
    exact .inl hy

theorem PInv.step {S A : List Int} {count n K k rem : Nat} {s : PS} {x : Int} (h : PInv n K k (rem + 1) s) (hk : k ≤ K) (hx : 0 ≤ x ∧ x < n) : PInv n K k rem (pstep S A count k s x) := by
  unfold pstep
  split
  · exact ⟨h.cl, h.bl, by have := h.sum; omega, h.rng⟩
  · split
    · rename_i h1
      split
      · refine ⟨h.cl, by rw [bput_len]; exact h.bl, ?_, fun j y hy => ?_⟩
        · have := h.sum
          have := h.bl
          rw [lowSum_bput _ _ _ _ (by omega) h1]
          omega
        · rcases mem_bput hy with e | e
          · exact h.rng j y e
          · rw [e]; exact hx
      · exact ⟨h.cl, h.bl, by have := h.sum; omega, h.rng⟩
    · split
      · exact ⟨h.cl, h.bl, by have := h.sum; simp only; omega, h.rng⟩
      · exact ⟨by simp only [strike_len]; exact h.cl, h.bl, by have := h.sum; simp only; omega, h.rng⟩

theorem pstep_keeps {S A : List Int} {count k : Nat} (s : PS) (x : Int) (j : Nat) (hj : k ≤ j) : bAt (pstep S A count k s x).B j = bAt s.B j := by
  unfold pstep
  split
  · rfl
  · split
    · split
      · exact bput_other _ _ _ _ (by omega)
      · rfl
    · split <;> rfl
theorem plist_keeps {S A : List Int} {count k : Nat} (l : List Int) (s : PS) (j : Nat) (hj : k ≤ j) : bAt (plist S A count k l s).B j = bAt s.B j := by
  unfold plist
  induction l generalizing s with
  | nil => rfl
  | cons x l ih => rw [List.foldl_cons, ih, pstep_keeps _ _ _ hj]

theorem pstep_short {S A : List Int} {count k : Nat} {s : PS} {x : Int} (h : s.picked.length < count) (hd : (pstep S A count k s x).done = false) : (pstep S A count k s x).picked.length < count := by
  unfold pstep at hd ⊢
  split
  · exact h
  · rename_i h0
    rw [if_neg h0] at hd
    split
    · split <;> exact h
    · rename_i h1
      rw [if_neg h1] at hd
      split
      · rename_i h2
        rw [if_pos h2] at hd
        simp at hd
      · simp only [List.length_append, List.length_cons, List.length_nil]; omega

theorem plist_done_iff {S A : List Int} {count k : Nat} (l : List Int) {s : PS} (h : (plist S A count k l s).done = false) : s.done = false := by
  cases hd : s.done with
  | false => rfl
  | true => rw [plist_done l hd, hd] at h; exact h

/-- the buckets at the start -/
theorem bfill_inv (gain : List Int) (K i : Nat) (hK : ∀ j, nth gain j ≤ K) : lowSum (bfill gain K i) (K + 1) ≤ i ∧ ∀ j x, x ∈ bAt (bfill gain K i) j → 0 ≤ x ∧ x < i := by
  induction i with
  | zero =>
    refine ⟨by unfold bfill; rw [lowSum_nil]; exact Nat.le_refl _, fun j x hx => ?_⟩
    unfold bfill bAt at hx
    rw [List.getD_eq_getElem?_getD, List.getElem?_replicate] at hx
    split at hx <;> simp at hx
  | succ i ih =>
    unfold bfill
    split
    · rename_i h0
      have hl := bfill_len gain K i
      have h1 := hK i
      refine ⟨?_, fun j x hx => ?_⟩
      · rw [lowSum_bput _ _ _ _ (by omega) (by omega)]
        omega
      · rcases mem_bput hx with e | e
        · have := ih.2 j x e; omega
        · rw [e]; omega
    · exact ⟨by omega, fun j x hx => by have := ih.2 j x hx; omega⟩

end Go.Proofs.Qxb6605187a
