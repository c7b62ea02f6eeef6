import Derived.Test.Qxb6605187aGatherPlain
import Derived.Test.Qxb6605187aWalkU
namespace Go.Proofs.Qxb6605187a
set_option linter.unusedVariables false

/-- the words pushed so far: by all peers below k, and by peer k to its first j neighbours -/
structure Pushed (S A fr : List Int) (n k j : Nat) (acc : List Int) : Prop where
  len : acc.length = n
  w : ∀ v, W64 (nth acc v)
  tb : ∀ v, v < n → ∀ i, tb (nth acc v) i = true ↔ (∃ u, u < k ∧ (v : Int) ∈ nbr S A u ∧ tb (nth fr u) i = true) ∨ (∃ m, m < j ∧ nth (nbr S A k) m = v ∧ Qxb6605187a.tb (nth fr k) i = true)

theorem Pushed.zero (S A fr : List Int) (n : Nat) : Pushed S A fr n 0 0 (List.replicate n 0) := by
  have h0 : ∀ v, nth (List.replicate n 0) v = 0 := by
    intro v
    unfold nth
    rw [List.getD_eq_getElem?_getD, List.getElem?_replicate]
    split <;> rfl
  refine ⟨by simp, fun v => by rw [h0]; unfold W64; omega, fun v hv i => ?_⟩
  rw [h0, tb_zero]
  constructor
  · intro h; cases h
  · rintro (⟨u, hu, _⟩ | ⟨m, hm, _⟩) <;> omega

theorem Pushed.step {S A fr acc : List Int} {n k j : Nat} (h : Pushed S A fr n k j acc) (hj : j < (nbr S A k).length) (hx : 0 ≤ nth (nbr S A k) j ∧ nth (nbr S A k) j < n) :
    Pushed S A fr n k (j + 1) (acc.set (nth (nbr S A k) j).toNat (bits .or .u64 (nth acc (nth (nbr S A k) j).toNat) (nth fr k))) := by
  have hl := h.len
  refine ⟨by simpa using hl, fun v => ?_, fun v hv i => ?_⟩
  · rw [nth_set _ _ _ _ (by omega)]
    split
    · exact or_w _ _
    · exact h.w v
  · rw [nth_set _ _ _ _ (by omega)]
    by_cases e : v = (nth (nbr S A k) j).toNat
    · rw [if_pos e, tb_or, Bool.or_eq_true, ← e, h.tb v hv i]
      constructor
      · rintro ((h1 | ⟨m, hm, h2⟩) | h3)
        · exact .inl h1
        · exact .inr ⟨m, by omega, h2⟩
        · exact .inr ⟨j, by omega, by omega, h3⟩
      · rintro (h1 | ⟨m, hm, h2, h3⟩)
        · exact .inl (.inl h1)
        · by_cases em : m = j
          · exact .inr h3
          · exact .inl (.inr ⟨m, by omega, h2, h3⟩)
    · rw [if_neg e, h.tb v hv i]
      constructor
      · rintro (h1 | ⟨m, hm, h2⟩)
        · exact .inl h1
        · exact .inr ⟨m, by omega, h2⟩
      · rintro (h1 | ⟨m, hm, h2, h3⟩)
        · exact .inl h1
        · by_cases em : m = j
          · subst em; exact absurd (by omega) e
          · exact .inr ⟨m, by omega, h2, h3⟩

theorem mem_iff_nth (l : List Int) (x : Int) : x ∈ l ↔ ∃ m, m < l.length ∧ nth l m = x := by
  constructor
  · intro h
    obtain ⟨m, hm, e⟩ := List.getElem_of_mem h
    exact ⟨m, hm, by rw [← e]; simp [nth, hm]⟩
  · rintro ⟨m, hm, e⟩
    have e3 : nth l m = l[m] := by simp [nth, hm]
    rw [← e, e3]
    exact List.getElem_mem hm

theorem Pushed.up {S A fr acc : List Int} {n k : Nat} (h : Pushed S A fr n k (nbr S A k).length acc) : Pushed S A fr n (k + 1) 0 acc := by
  refine ⟨h.len, h.w, fun v hv i => ?_⟩
  rw [h.tb v hv i]
  constructor
  · rintro (⟨u, hu, h1⟩ | ⟨m, hm, h2, h3⟩)
    · exact .inl ⟨u, by omega, h1⟩
    · exact .inl ⟨k, by omega, (mem_iff_nth _ _).2 ⟨m, hm, h2⟩, h3⟩
  · rintro (⟨u, hu, h1, h2⟩ | ⟨m, hm, _⟩)
    · by_cases e : u = k
      · subst e
        obtain ⟨m, hm, h3⟩ := (mem_iff_nth _ _).1 h1
        exact .inr ⟨m, hm, h3, h2⟩
      · exact .inl ⟨u, by omega, h1, h2⟩
    · omega

/-- all pushed: what was pushed to v is what v gathers -/
theorem Pushed.full {S A fr acc : List Int} {n : Nat} (h : Pushed S A fr n n 0 acc) (hcsr : Csr S A) (hsym : Sym S A) (hn : n + 1 = S.length) (v : Nat) (hv : v < n) : nth acc v = orTo fr (nbr S A v) (nbr S A v).length := by
  refine w64_ext (h.w v) (orTo_w _ _ _) fun i => ?_
  rw [Bool.eq_iff_iff, h.tb v hv i, orTo_tb]
  constructor
  · rintro (⟨u, hu, h1, h2⟩ | ⟨m, hm, _⟩)
    · have h3 := hsym u (by omega) v h1
      rw [Int.toNat_natCast] at h3
      obtain ⟨m, hm, h4⟩ := (mem_iff_nth _ _).1 h3
      exact ⟨m, hm, by rw [h4, Int.toNat_natCast]; exact h2⟩
    · omega
  · rintro ⟨m, hm, h1⟩
    have h2 : nth (nbr S A v) m ∈ nbr S A v := (mem_iff_nth _ _).2 ⟨m, hm, rfl⟩
    have h3 := hsym v (by omega) _ h2
    have hr := hcsr.nbr_range v (by omega) m hm
    exact .inl ⟨(nth (nbr S A v) m).toNat, by omega, h3, h1⟩

end Go.Proofs.Qxb6605187a
