import Derived.Test.Qxb6605187aPickInv
namespace Go.Proofs.Qxb6605187a
set_option linter.unusedVariables false

/-! ### The laws of the greedy picking -/

theorem nthB_out (xs : List Bool) (i : Nat) (h : xs.length ≤ i) : nthB xs i = false := by
  simp [nthB, h]
theorem nthB_set_false (xs : List Bool) (i j : Nat) : nthB (xs.set i false) j = (nthB xs j && !decide (j = i)) := by
  by_cases hi : i < xs.length
  · rw [nthB_set _ _ _ _ hi]
    by_cases e : j = i <;> simp [e]
  · rw [List.set_eq_of_length_le (by omega)]
    by_cases e : j = i
    · subst e; rw [nthB_out _ _ (by omega)]; rfl
    · simp [e]

theorem clr_nth (l : List Int) (cov : List Bool) (i : Nat) : nthB (clr cov l) i = true ↔ nthB cov i = true ∧ ∀ x, x ∈ l → x.toNat ≠ i := by
  unfold clr
  induction l generalizing cov with
  | nil => simp
  | cons x l ih =>
    rw [List.foldl_cons, ih, nthB_set_false]
    simp
    constructor
    · rintro ⟨⟨h1, h2⟩, h3⟩
      exact ⟨h1, fun e => h2 e.symm, h3⟩
    · rintro ⟨h1, h2, h3⟩
      exact ⟨⟨h1, fun e => h2 e.symm⟩, h3⟩
theorem strike_nth (S A : List Int) (cov : List Bool) (v i : Nat) : nthB (strike S A cov v) i = true ↔ nthB cov i = true ∧ i ≠ v ∧ ∀ x, x ∈ nbr S A v → x.toNat ≠ i := by
  unfold strike
  rw [clr_nth, nthB_set_false]
  simp [and_assoc]

def Sub (c c' : List Bool) : Prop := ∀ i, nthB c i = true → nthB c' i = true
theorem strike_sub (S A : List Int) (cov : List Bool) (v : Nat) : Sub (strike S A cov v) cov := fun i h => ((strike_nth S A cov v i).1 h).1

theorem cnt_mono {c c' : List Bool} (h : Sub c c') (l : List Int) : cnt c l ≤ cnt c' l := by
  unfold cnt
  induction l with
  | nil => exact Nat.le_refl _
  | cons x l ih =>
    rw [List.filter_cons, List.filter_cons]
    cases h1 : nthB c x.toNat
    · cases h2 : nthB c' x.toNat <;> simp <;> omega
    · rw [h _ h1]; simpa using ih
theorem hold_mono {S A : List Int} {c c' : List Bool} (h : Sub c c') (v : Nat) : hold S A c v ≤ hold S A c' v := by
  unfold hold
  have := cnt_mono h (nbr S A v)
  cases h1 : nthB c v
  · cases h2 : nthB c' v <;> simp <;> omega
  · rw [h _ h1]; simp; omega
theorem cnt_zero {c : List Bool} (l : List Int) (h : ∀ x, x ∈ l → nthB c x.toNat = false) : cnt c l = 0 := by
  unfold cnt
  rw [List.length_eq_zero_iff, List.filter_eq_nil_iff]
  intro x hx
  rw [h x hx]; simp
theorem hold_struck (S A : List Int) (cov : List Bool) (v : Nat) : hold S A (strike S A cov v) v = 0 := by
  unfold hold
  have h1 : nthB (strike S A cov v) v = false := by
    cases e : nthB (strike S A cov v) v with
    | false => rfl
    | true => exact absurd rfl ((strike_nth S A cov v v).1 e).2.1
  rw [h1, cnt_zero]
  · rfl
  · intro x hx
    cases e : nthB (strike S A cov v) x.toNat with
    | false => rfl
    | true => exact absurd rfl (((strike_nth S A cov v _).1 e).2.2 x hx)
theorem hold_pos {S A : List Int} {cov : List Bool} {v : Nat} (h : 0 < hold S A cov v) : ∃ i, nthB cov i = true ∧ nthB (strike S A cov v) i = false := by
  unfold hold at h
  have hs : ∀ i, ¬ (nthB cov i = true ∧ i ≠ v ∧ ∀ x, x ∈ nbr S A v → x.toNat ≠ i) → nthB (strike S A cov v) i = false := by
    intro i hn
    cases e : nthB (strike S A cov v) i with
    | false => rfl
    | true => exact absurd ((strike_nth S A cov v i).1 e) hn
  cases hv : nthB cov v with
  | true => exact ⟨v, hv, hs v (fun h => h.2.1 rfl)⟩
  | false =>
    rw [hv] at h
    simp [cnt] at h
    obtain ⟨x, hx, hc⟩ := h
    exact ⟨x.toNat, hc, hs _ (fun h => h.2.2 x hx rfl)⟩

/-- how many marks there are -/
def marks (c : List Bool) : Nat := (c.filter (fun b => b)).length
theorem marks_le (c : List Bool) : marks c ≤ c.length := List.length_filter_le _ _
theorem marks_sub {c c' : List Bool} (hl : c.length = c'.length) (h : Sub c c') : marks c ≤ marks c' ∧ ((∃ i, nthB c' i = true ∧ nthB c i = false) → marks c < marks c') := by
  unfold marks
  induction c generalizing c' with
  | nil =>
    cases c' with
    | nil => exact ⟨Nat.le_refl _, fun ⟨i, h1, _⟩ => by simp [nthB] at h1⟩
    | cons b c' => simp at hl
  | cons a c ih =>
    cases c' with
    | nil => simp at hl
    | cons b c' =>
      have hl' : c.length = c'.length := by simpa using hl
      have hsub : Sub c c' := fun i hi => by have := h (i + 1) (by simpa [nthB] using hi); simpa [nthB] using this
      have h0 : a = true → b = true := fun ha => by have := h 0 (by simpa [nthB] using ha); simpa [nthB] using this
      have := ih hl' hsub
      refine ⟨?_, fun ⟨i, h1, h2⟩ => ?_⟩
      · have t1 := this.1
        cases a with
        | false =>
          cases b with
          | false => simpa using t1
          | true => simp; omega
        | true => rw [h0 rfl]; simpa using t1
      · cases i with
        | zero =>
          simp [nthB] at h1 h2
          subst h1; subst h2
          simp
          have := this.1
          omega
        | succ i =>
          have h3 := this.2 ⟨i, by simpa [nthB] using h1, by simpa [nthB] using h2⟩
          cases a with
          | false =>
            cases b with
            | false => simpa using h3
            | true => simp; omega
          | true => rw [h0 rfl]; simpa using h3

/-- the marks behind the picks l -/
def strikes (S A : List Int) (c0 : List Bool) (l : List Int) : List Bool := l.foldl (fun c x => strike S A c x.toNat) c0
theorem strikes_snoc (S A : List Int) (c0 : List Bool) (l : List Int) (x : Int) : strikes S A c0 (l ++ [x]) = strike S A (strikes S A c0 l) x.toNat := by
  unfold strikes; rw [List.foldl_append]; rfl
theorem strikes_len (S A : List Int) (c0 : List Bool) (l : List Int) : (strikes S A c0 l).length = c0.length := by
  unfold strikes
  induction l generalizing c0 with
  | nil => rfl
  | cons x l ih => rw [List.foldl_cons, ih, strike_len]

/-- the run without a bound: what holds at level k, 'rem' left of its list -/
structure FInv (S A : List Int) (n : Nat) (c0 : List Bool) (k : Nat) (rem : List Int) (s : PS) : Prop where
  nd : s.done = false
  c0l : c0.length = n
  cov : s.cov = strikes S A c0 s.picked
  rng : ∀ x, x ∈ s.picked → 0 ≤ x ∧ x < n
  len : s.picked.length + marks s.cov ≤ n
  greedy : ∀ i, i < s.picked.length → 0 < hold S A (strikes S A c0 (s.picked.take i)) (nth s.picked i).toNat ∧ ∀ v, v < n → hold S A (strikes S A c0 (s.picked.take i)) v ≤ hold S A (strikes S A c0 (s.picked.take i)) (nth s.picked i).toNat
  all : ∀ v : Nat, v < n → 0 < hold S A s.cov v → (∃ j, 1 ≤ j ∧ j < k ∧ (v : Int) ∈ bAt s.B j ∧ hold S A s.cov v ≤ j) ∨ ((v : Int) ∈ rem ∧ hold S A s.cov v ≤ k)

theorem mem_bput_of {B : List (List Int)} {h j : Nat} {x y : Int} (hy : y ∈ bAt B j) : y ∈ bAt (bput B h x) j := by
  by_cases e : j = h
  · subst e
    by_cases hh : j < B.length
    · rw [bput_same _ _ _ hh]; simp [hy]
    · unfold bput
      rw [List.set_eq_of_length_le (by omega)]
      exact hy
  · rw [bput_other _ _ _ _ e]; exact hy

theorem FInv.step {S A : List Int} {n : Nat} {c0 : List Bool} {k : Nat} {x : Int} {rem : List Int} {s : PS} (h : FInv S A n c0 k (x :: rem) s) (hk : 1 ≤ k) (hB : k ≤ s.B.length) (hx : 0 ≤ x ∧ x < n) :
    FInv S A n c0 k rem (pstep S A 0 k s x) := by
  by_cases h1 : hold S A s.cov x.toNat < k
  · by_cases h2 : 0 < hold S A s.cov x.toNat
    · rw [pstep_move h.nd h1 h2]
      refine ⟨h.nd, h.c0l, h.cov, h.rng, h.len, h.greedy, fun v hv hp => ?_⟩
      rcases h.all v hv hp with ⟨j, j1, j2, j3, j4⟩ | ⟨hm, hle⟩
      · exact .inl ⟨j, j1, j2, mem_bput_of j3, j4⟩
      · rcases List.mem_cons.1 hm with e | e
        · left
          have ev : x.toNat = v := by omega
          refine ⟨hold S A s.cov x.toNat, h2, h1, ?_, by rw [ev]; exact Nat.le_refl _⟩
          show (v : Int) ∈ bAt (bput s.B _ x) _
          rw [bput_same _ _ _ (by omega), e]
          simp
        · exact .inr ⟨e, hle⟩
    · rw [pstep_skip h.nd h1 h2]
      refine ⟨h.nd, h.c0l, h.cov, h.rng, h.len, h.greedy, fun v hv hp => ?_⟩
      rcases h.all v hv hp with hl | ⟨hm, hle⟩
      · exact .inl hl
      · rcases List.mem_cons.1 hm with e | e
        · have ev : x.toNat = v := by omega
          rw [ev] at h2
          exact absurd hp h2
        · exact .inr ⟨e, hle⟩
  · have hmax : ∀ v : Nat, v < n → hold S A s.cov v ≤ k := by
      intro v hv
      by_cases hp : 0 < hold S A s.cov v
      · rcases h.all v hv hp with ⟨j, _, j2, _, j4⟩ | ⟨_, hle⟩
        · omega
        · exact hle
      · omega
    rw [pstep_pick h.nd h1 (by omega)]
    have hsub := strike_sub S A s.cov x.toNat
    have hlen0 : (strike S A s.cov x.toNat).length = s.cov.length := strike_len _ _ _ _
    refine ⟨h.nd, h.c0l, ?_, ?_, ?_, ?_, fun v hv hp => ?_⟩
    · show strike S A s.cov x.toNat = strikes S A c0 (s.picked ++ [x])
      rw [strikes_snoc, ← h.cov]
    · intro y hy
      rcases List.mem_append.1 hy with e | e
      · exact h.rng y e
      · rw [List.mem_singleton.1 e]; exact hx
    · have hm := (marks_sub hlen0 hsub).2 (hold_pos (by omega))
      have := h.len
      show (s.picked ++ [x]).length + marks (strike S A s.cov x.toNat) ≤ n
      simp only [List.length_append, List.length_cons, List.length_nil]
      omega
    · intro i hi
      simp only [List.length_append, List.length_cons, List.length_nil] at hi
      by_cases e : i = s.picked.length
      · subst e
        have e1 : nth (s.picked ++ [x]) s.picked.length = x := by simp [nth]
        have e2 : (s.picked ++ [x]).take s.picked.length = s.picked := by simp
        show 0 < hold S A (strikes S A c0 ((s.picked ++ [x]).take s.picked.length)) (nth (s.picked ++ [x]) s.picked.length).toNat ∧ _
        rw [e1, e2, ← h.cov]
        exact ⟨by omega, fun v hv => by have := hmax v hv; omega⟩
      · have hi' : i < s.picked.length := by omega
        have e1 : nth (s.picked ++ [x]) i = nth s.picked i := by simp [nth, List.getElem?_append_left hi']
        have e2 : (s.picked ++ [x]).take i = s.picked.take i := List.take_append_of_le_length (by omega)
        show 0 < hold S A (strikes S A c0 ((s.picked ++ [x]).take i)) (nth (s.picked ++ [x]) i).toNat ∧ _
        rw [e1, e2]
        exact h.greedy i hi'
    · have hp' : 0 < hold S A (strike S A s.cov x.toNat) v := hp
      have hle := hold_mono (S := S) (A := A) hsub v
      show (∃ j, 1 ≤ j ∧ j < k ∧ (v : Int) ∈ bAt s.B j ∧ hold S A (strike S A s.cov x.toNat) v ≤ j) ∨ ((v : Int) ∈ rem ∧ hold S A (strike S A s.cov x.toNat) v ≤ k)
      rcases h.all v hv (by omega) with ⟨j, j1, j2, j3, j4⟩ | ⟨hm, hle2⟩
      · exact .inl ⟨j, j1, j2, j3, by omega⟩
      · rcases List.mem_cons.1 hm with e | e
        · have ev : x.toNat = v := by omega
          rw [ev, hold_struck] at hp'
          omega
        · exact .inr ⟨e, by omega⟩

end Go.Proofs.Qxb6605187a
