import Derived.Test.Qxb6605187aPushPlain
import Derived.Test.Qxb6605187aWalkG
import Derived.Test.Qxb6605187aRoots
import Derived.Test.Qxb6605187aPickLaw
namespace Go.Proofs.Qxb6605187a
set_option linter.unusedVariables false

/-- bit i of every peer's word -/
def col (xs : List Int) (n i : Nat) : List Bool := (List.range n).map (fun v => tb (nth xs v) i)
theorem col_len (xs : List Int) (n i : Nat) : (col xs n i).length = n := by simp [col]
theorem col_nth (xs : List Int) (n i v : Nat) (h : v < n) : nthB (col xs n i) v = tb (nth xs v) i := by simp [nthB, col, h]

/-- the words behind r rounds from the sources src -/
structure Rounds (S A src : List Int) (n r : Nat) (seen fr : List Int) : Prop where
  sl : seen.length = n
  fl : fr.length = n
  ws : ∀ v, W64 (nth seen v)
  wf : ∀ v, W64 (nth fr v)
  sound : ∀ v, v < n → ∀ i, tb (nth seen v) i = true → i < src.length ∧ Conn S A v (nth src i).toNat
  sub : ∀ v i, tb (nth fr v) i = true → tb (nth seen v) i = true
  front : ∀ u v i, Linked S A u v → v < n → tb (nth seen u) i = true → tb (nth fr u) i = true ∨ tb (nth seen v) i = true
  start : ∀ i, i < src.length → tb (nth seen (nth src i).toNat) i = true
  cnt : ∀ i, (∃ v, v < n ∧ tb (nth fr v) i = true) → r + 1 ≤ marks (col seen n i)

theorem nth_out (xs : List Int) (i : Nat) (h : xs.length ≤ i) : nth xs i = 0 := by simp [nth, h]

theorem fresh_tb {S A seen fr : List Int} {v i : Nat} : tb (fresh S A seen fr v) i = true ↔ (∃ u, u ∈ nbr S A v ∧ tb (nth fr u.toNat) i = true) ∧ tb (nth seen v) i = false := by
  unfold fresh
  rw [tb_not, Bool.and_eq_true, orTo_tb]
  constructor
  · rintro ⟨⟨m, hm, h⟩, h2⟩
    exact ⟨⟨_, (mem_iff_nth _ _).2 ⟨m, hm, rfl⟩, h⟩, by simpa using h2⟩
  · rintro ⟨⟨u, hu, h⟩, h2⟩
    obtain ⟨m, hm, e⟩ := (mem_iff_nth _ _).1 hu
    exact ⟨⟨m, hm, by rw [e]; exact h⟩, by simpa using h2⟩

theorem Rounds.next {S A src seen fr : List Int} {n r : Nat} (h : Rounds S A src n r seen fr) (hcsr : Csr S A) (hsym : Sym S A) (hn : n + 1 = S.length) :
    Rounds S A src n (r + 1) (listOf n (seenNow S A seen fr)) (listOf n (fresh S A seen fr)) := by
  have hS : ∀ v, v < n → nth (listOf n (seenNow S A seen fr)) v = seenNow S A seen fr v := fun v hv => listOf_nth _ _ _ hv
  have hFr : ∀ v, v < n → nth (listOf n (fresh S A seen fr)) v = fresh S A seen fr v := fun v hv => listOf_nth _ _ _ hv
  have outS : ∀ v, ¬ v < n → nth (listOf n (seenNow S A seen fr)) v = 0 := fun v hv => nth_out _ _ (by rw [listOf_len]; omega)
  have outF : ∀ v, ¬ v < n → nth (listOf n (fresh S A seen fr)) v = 0 := fun v hv => nth_out _ _ (by rw [listOf_len]; omega)
  have hsn : ∀ v i, tb (seenNow S A seen fr v) i = true ↔ tb (nth seen v) i = true ∨ tb (fresh S A seen fr v) i = true := by
    intro v i; unfold seenNow; rw [tb_or, Bool.or_eq_true]
  have w0 : W64 0 := by unfold W64; omega
  have hlt : ∀ u v : Nat, Linked S A u v → u < n := fun u v h => by have := h.1; omega
  refine ⟨listOf_len _ _, listOf_len _ _, fun v => ?_, fun v => ?_, fun v hv i hi => ?_, fun v i hi => ?_, fun u v i hl hv hi => ?_, fun i hi => ?_, fun i hi => ?_⟩
  · by_cases hv : v < n
    · rw [hS v hv]; exact or_w _ _
    · rw [outS v hv]; exact w0
  · by_cases hv : v < n
    · rw [hFr v hv]; exact fresh_w _ _ _ _ _
    · rw [outF v hv]; exact w0
  · rw [hS v hv, hsn] at hi
    rcases hi with hi | hi
    · exact h.sound v hv i hi
    · obtain ⟨⟨u, hu, h1⟩, _⟩ := fresh_tb.1 hi
      obtain ⟨m, hm, e⟩ := (mem_iff_nth _ _).1 hu
      have hr := hcsr.nbr_range v (by omega) m hm
      have h2 := h.sub _ _ h1
      have h3 := h.sound u.toNat (by omega) i h2
      refine ⟨h3.1, (Conn.link ⟨by omega, ?_⟩).trans h3.2⟩
      rw [Int.toNat_of_nonneg (by omega)]
      exact hu
  · by_cases hv : v < n
    · rw [hFr v hv] at hi
      rw [hS v hv, hsn]
      exact .inr hi
    · rw [outF v hv, tb_zero] at hi; cases hi
  · have hu : u < n := hlt u v hl
    rw [hS u hu, hsn] at hi
    rw [hFr u hu, hS v hv, hsn]
    rcases hi with hi | hi
    · rcases h.front u v i hl hv hi with h1 | h1
      · right
        cases hs : tb (nth seen v) i with
        | true => exact .inl rfl
        | false =>
          right
          have h2 := hsym u hl.1 v hl.2
          rw [Int.toNat_natCast] at h2
          exact fresh_tb.2 ⟨⟨u, h2, by rw [Int.toNat_natCast]; exact h1⟩, hs⟩
      · exact .inr (.inl h1)
    · exact .inl hi
  · have h1 := h.start i hi
    by_cases hv : (nth src i).toNat < n
    · rw [hS _ hv, hsn]; exact .inl h1
    · rw [nth_out seen _ (by rw [h.sl]; omega), tb_zero] at h1; cases h1
  · obtain ⟨v, hv, h1⟩ := hi
    rw [hFr v hv] at h1
    obtain ⟨⟨u, hu, h2⟩, h3⟩ := fresh_tb.1 h1
    obtain ⟨m, hm, e⟩ := (mem_iff_nth _ _).1 hu
    have hr := hcsr.nbr_range v (by omega) m hm
    have h4 := h.cnt i ⟨u.toNat, by omega, h2⟩
    have hsub : Sub (col seen n i) (col (listOf n (seenNow S A seen fr)) n i) := by
      intro x hx
      by_cases hxn : x < n
      · rw [col_nth _ _ _ _ hxn] at hx ⊢
        rw [hS x hxn, hsn]; exact .inl hx
      · rw [nthB_out _ _ (by rw [col_len]; omega)] at hx; cases hx
    have h5 := (marks_sub (by rw [col_len, col_len]) hsub).2 ⟨v, by rw [col_nth _ _ _ _ hv, hS v hv, hsn]; exact .inr h1, by rw [col_nth _ _ _ _ hv]; exact h3⟩
    omega

theorem Rounds.bound {S A src seen fr : List Int} {n r : Nat} (h : Rounds S A src n r seen fr) {v i : Nat} (hv : v < n) (hi : tb (nth fr v) i = true) : r + 1 ≤ n := by
  have h1 := h.cnt i ⟨v, hv, hi⟩
  have h2 := marks_le (col seen n i)
  rw [col_len] at h2
  omega

/-- where nothing was reached all words of the frontier are 0 -/
theorem reach_zero {S A seen fr : List Int} {n : Nat} (h : reachTo S A seen fr n = 0) : ∀ v, v < n → fresh S A seen fr v = 0 := by
  induction n with
  | zero => intro v hv; omega
  | succ n ih =>
    rw [reachTo] at h
    have hb : ∀ i, tb (reachTo S A seen fr n) i = false ∧ tb (fresh S A seen fr n) i = false := by
      intro i
      have := tb_or (reachTo S A seen fr n) (fresh S A seen fr n) i
      rw [h, tb_zero] at this
      simpa using this.symm
    have h1 : reachTo S A seen fr n = 0 := w64_ext (reachTo_w _ _ _ _ _) (by unfold W64; omega) fun i => by rw [tb_zero]; exact (hb i).1
    intro v hv
    by_cases e : v = n
    · subst e
      exact w64_ext (fresh_w _ _ _ _ _) (by unfold W64; omega) fun i => by rw [tb_zero]; exact (hb i).2
    · exact ih h1 v (by omega)
theorem reach_some {S A seen fr : List Int} {n : Nat} (h : reachTo S A seen fr n ≠ 0) : ∃ v i, v < n ∧ tb (fresh S A seen fr v) i = true := by
  apply Classical.byContradiction
  intro hc
  apply h
  refine w64_ext (reachTo_w _ _ _ _ _) (by unfold W64; omega) fun i => ?_
  rw [tb_zero]
  have : ∀ k, k ≤ n → tb (reachTo S A seen fr k) i = false := by
    intro k hk
    induction k with
    | zero => exact tb_zero i
    | succ k ih =>
      rw [reachTo, tb_or, ih (by omega), Bool.false_or]
      cases e : tb (fresh S A seen fr k) i with
      | false => rfl
      | true => exact absurd ⟨k, i, by omega, e⟩ hc
  exact this n (Nat.le_refl _)

/-- at the end: a peer has seen just the sources of its piece -/
theorem Rounds.done {S A src seen fr : List Int} {n r : Nat} (h : Rounds S A src n r seen fr) (hcsr : Csr S A) (hsym : Sym S A) (hn : n + 1 = S.length) (hz : ∀ v, v < n → nth fr v = 0) (v i : Nat) (hv : v < n) (hi : i < src.length) :
    tb (nth seen v) i = true ↔ Conn S A v (nth src i).toNat := by
  constructor
  · intro h1; exact (h.sound v hv i h1).2
  · intro hc
    have hstep : ∀ x y, Linked S A x y → tb (nth seen x) i = true → tb (nth seen y) i = true := by
      intro x y hl hx
      have hxn : x < n := by have := hl.1; omega
      obtain ⟨m, hm, e⟩ := (mem_iff_nth _ _).1 hl.2
      have hr := hcsr.nbr_range x hl.1 m hm
      rcases h.front x y i hl (by omega) hx with h1 | h1
      · rw [hz x hxn, tb_zero] at h1; cases h1
      · exact h1
    have hC : ∀ x y, Linked S A x y → (tb (nth seen x) i = true ↔ tb (nth seen y) i = true) := by
      intro x y hl
      refine ⟨hstep x y hl, hstep y x ?_⟩
      obtain ⟨m, hm, e⟩ := (mem_iff_nth _ _).1 hl.2
      have hr := hcsr.nbr_range x hl.1 m hm
      have h2 := hsym x hl.1 y hl.2
      rw [Int.toNat_natCast] at h2
      exact ⟨by omega, h2⟩
    exact (hc (fun x => tb (nth seen x) i = true) hC).2 (h.start i hi)

end Go.Proofs.Qxb6605187a
