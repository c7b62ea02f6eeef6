import Derived.Test.Qxb6605187aKit
namespace Go.Proofs.Qxb6605187a
set_option linter.unusedVariables false

/-- start and adj are a graph's form -/
structure Csr (S A : List Int) : Prop where
  len : 1 ≤ S.length
  first : nth S 0 = 0
  last : nth S (S.length - 1) = A.length
  mono : ∀ v, v + 1 < S.length → nth S v ≤ nth S (v + 1)
  adj : ∀ i, i < A.length → 0 ≤ nth A i ∧ nth A i + 1 < S.length

theorem Csr.up {S A : List Int} (h : Csr S A) (v d : Nat) (hv : v + d < S.length) : nth S v ≤ nth S (v + d) := by
  induction d with
  | zero => exact Int.le_refl _
  | succ d ih =>
    have h1 := ih (by omega)
    have h2 := h.mono (v + d) (by omega)
    have e : v + (d + 1) = v + d + 1 := by omega
    rw [e]
    exact Int.le_trans h1 h2

theorem Csr.le {S A : List Int} (h : Csr S A) (v u : Nat) (hvu : v ≤ u) (hu : u < S.length) : nth S v ≤ nth S u := by
  have := h.up v (u - v) (by omega)
  have e : v + (u - v) = u := by omega
  rwa [e] at this

theorem Csr.nonneg {S A : List Int} (h : Csr S A) (v : Nat) (hv : v < S.length) : 0 ≤ nth S v := by
  have := h.le 0 v (Nat.zero_le _) hv
  rw [h.first] at this
  exact this

theorem Csr.le_len {S A : List Int} (h : Csr S A) (v : Nat) (hv : v < S.length) : nth S v ≤ A.length := by
  have := h.le v (S.length - 1) (by omega) (by have := h.len; omega)
  rw [h.last] at this
  exact this

/-- where the list of v begins -/
def st (S : List Int) (v : Nat) : Nat := (nth S v).toNat
theorem Csr.st {S A : List Int} (h : Csr S A) (v : Nat) (hv : v < S.length) : (st S v : Int) = nth S v := by
  unfold Qxb6605187a.st
  have := h.nonneg v hv
  omega
theorem Csr.st_le {S A : List Int} (h : Csr S A) (v : Nat) (hv : v < S.length) : Qxb6605187a.st S v ≤ A.length := by
  have := h.st v hv
  have := h.le_len v hv
  omega
theorem Csr.st_mono {S A : List Int} (h : Csr S A) (v : Nat) (hv : v + 1 < S.length) : Qxb6605187a.st S v ≤ Qxb6605187a.st S (v + 1) := by
  have := h.st v (by omega)
  have := h.st (v + 1) hv
  have := h.mono v hv
  omega

/-- the neighbours of v -/
def nbr (S A : List Int) (v : Nat) : List Int := (A.drop (st S v)).take (st S (v + 1) - st S v)

theorem Csr.nbr_len {S A : List Int} (h : Csr S A) (v : Nat) (hv : v + 1 < S.length) : (nbr S A v).length = Qxb6605187a.st S (v + 1) - Qxb6605187a.st S v := by
  have := h.st_le (v + 1) hv
  have := h.st_mono v hv
  simp [nbr]
  omega

theorem nth_nbr (S A : List Int) (v j : Nat) (hj : j < st S (v + 1) - st S v) : nth (nbr S A v) j = nth A (st S v + j) := by
  unfold nth nbr
  rw [List.getD_eq_getElem?_getD, List.getD_eq_getElem?_getD, List.getElem?_take, if_pos hj, List.getElem?_drop]

theorem Csr.nbr_range {S A : List Int} (h : Csr S A) (v : Nat) (hv : v + 1 < S.length) (j : Nat) (hj : j < (nbr S A v).length) :
    0 ≤ nth (nbr S A v) j ∧ nth (nbr S A v) j + 1 < S.length := by
  have h1 := h.nbr_len v hv
  rw [nth_nbr S A v j (by omega)]
  have := h.st_le (v + 1) hv
  exact h.adj _ (by omega)

end Go.Proofs.Qxb6605187a
