import Derived.Test.Qxb6605187aPickLaw
namespace Go.Proofs.Qxb6605187a
set_option linter.unusedVariables false

theorem pstep_blen (S A : List Int) (c k : Nat) (s : PS) (x : Int) : (pstep S A c k s x).B.length = s.B.length := by
  unfold pstep
  split
  · rfl
  · split
    · split
      · exact bput_len _ _ _
      · rfl
    · split <;> rfl
theorem pstep_rng {S A : List Int} {c k n : Nat} {s : PS} {x : Int} (h : ∀ j y, y ∈ bAt s.B j → 0 ≤ y ∧ y < n) (hx : 0 ≤ x ∧ x < n) : ∀ j y, y ∈ bAt (pstep S A c k s x).B j → 0 ≤ y ∧ y < n := by
  intro j y hy
  unfold pstep at hy
  split at hy
  · exact h j y hy
  · split at hy
    · split at hy
      · rcases mem_bput hy with e | e
        · exact h j y e
        · rw [e]; exact hx
      · exact h j y hy
    · split at hy <;> exact h j y hy

/-- the run without a bound, with the entries' range -/
structure FRun (S A : List Int) (n K : Nat) (c0 : List Bool) (k : Nat) (rem : List Int) (s : PS) : Prop where
  inv : FInv S A n c0 k rem s
  bl : s.B.length = K + 1
  brng : ∀ j y, y ∈ bAt s.B j → 0 ≤ y ∧ y < n

theorem FRun.list {S A : List Int} {n K : Nat} {c0 : List Bool} {k : Nat} (hk : 1 ≤ k) (hkK : k ≤ K) (l : List Int) : ∀ (s : PS), (∀ x, x ∈ l → 0 ≤ x ∧ x < n) → FRun S A n K c0 k l s → FRun S A n K c0 k [] (plist S A 0 k l s) := by
  induction l with
  | nil => intro s _ h; exact h
  | cons x l ih =>
    intro s hl h
    have hx := hl x (by simp)
    exact ih (pstep S A 0 k s x) (fun y hy => hl y (by simp [hy])) ⟨h.inv.step hk (by have := h.bl; omega) hx, by rw [pstep_blen]; exact h.bl, pstep_rng h.brng hx⟩

theorem FRun.levels {S A : List Int} {n K : Nat} {c0 : List Bool} (k : Nat) : ∀ (s : PS), k ≤ K → FRun S A n K c0 (k + 1) [] s → FRun S A n K c0 1 [] (plevels S A 0 k s) := by
  induction k with
  | zero => intro s _ h; exact h
  | succ k ih =>
    intro s hk h
    rw [plevels]
    apply ih _ (by omega)
    unfold plevel
    apply FRun.list (by omega) hk _ _ (fun x hx => h.brng _ x hx)
    refine ⟨⟨h.inv.nd, h.inv.c0l, h.inv.cov, h.inv.rng, h.inv.len, h.inv.greedy, fun v hv hp => ?_⟩, h.bl, h.brng⟩
    rcases h.inv.all v hv hp with ⟨j, j1, j2, j3, j4⟩ | ⟨hm, _⟩
    · by_cases e : j = k + 1
      · subst e; exact .inr ⟨j3, j4⟩
      · exact .inl ⟨j, j1, by omega, j3, j4⟩
    · simp at hm

theorem bfill_mem (gain : List Int) (K i v : Nat) (hv : v < i) (hp : 0 < nth gain v) (hK : (nth gain v).toNat ≤ K) : (v : Int) ∈ bAt (bfill gain K i) (nth gain v).toNat := by
  induction i with
  | zero => omega
  | succ i ih =>
    by_cases e : v = i
    · subst e
      rw [bfill_yes _ _ _ hp, bput_same _ _ _ (by rw [bfill_len]; omega)]
      simp
    · have h := ih (by omega)
      by_cases h0 : 0 < nth gain i
      · rw [bfill_yes _ _ _ h0]; exact mem_bput_of h
      · rw [bfill_no _ _ _ h0]; exact h

/-- the run that stops at c picks beside the one that does not -/
def Sim (S A : List Int) (c0 : List Bool) (c : Nat) (f s : PS) : Prop :=
  f.done = false ∧ f.cov = strikes S A c0 f.picked ∧
  ((s.done = false ∧ s = f ∧ f.picked.length < c) ∨
   (s.done = true ∧ c ≤ f.picked.length ∧ s.picked = f.picked.take c ∧ s.cov = strikes S A c0 (f.picked.take (c - 1))))

theorem Sim.step {S A : List Int} {c0 : List Bool} {c : Nat} {f s : PS} (h : Sim S A c0 c f s) (k : Nat) (x : Int) : Sim S A c0 c (pstep S A 0 k f x) (pstep S A c k s x) := by
  obtain ⟨hf, hcov, h⟩ := h
  by_cases h1 : hold S A f.cov x.toNat < k
  · by_cases h2 : 0 < hold S A f.cov x.toNat
    · rw [pstep_move hf h1 h2]
      refine ⟨hf, hcov, ?_⟩
      rcases h with ⟨a, b, d⟩ | ⟨a, b⟩
      · subst b
        rw [pstep_move a h1 h2]
        exact .inl ⟨a, rfl, d⟩
      · rw [pstep_done a]
        exact .inr ⟨a, b⟩
    · rw [pstep_skip hf h1 h2]
      refine ⟨hf, hcov, ?_⟩
      rcases h with ⟨a, b, d⟩ | ⟨a, b⟩
      · subst b
        rw [pstep_skip a h1 h2]
        exact .inl ⟨a, rfl, d⟩
      · rw [pstep_done a]
        exact .inr ⟨a, b⟩
  · rw [pstep_pick hf h1 (by omega)]
    refine ⟨hf, ?_, ?_⟩
    · show strike S A f.cov x.toNat = strikes S A c0 (f.picked ++ [x])
      rw [strikes_snoc, ← hcov]
    rcases h with ⟨a, b, d⟩ | ⟨a, b, e1, e2⟩
    · subst b
      by_cases h3 : s.picked.length + 1 = c
      · rw [pstep_last a h1 h3]
        refine .inr ⟨rfl, by simp; omega, ?_, ?_⟩
        · show s.picked ++ [x] = (s.picked ++ [x]).take c
          rw [List.take_of_length_le (by simp; omega)]
        · show s.cov = strikes S A c0 ((s.picked ++ [x]).take (c - 1))
          have e : (s.picked ++ [x]).take (c - 1) = s.picked := by
            have : c - 1 = s.picked.length := by omega
            rw [this]; simp
          rw [e]; exact hcov
      · rw [pstep_pick a h1 h3]
        exact .inl ⟨a, rfl, by simp; omega⟩
    · rw [pstep_done a]
      refine .inr ⟨a, by simp; omega, ?_, ?_⟩
      · show s.picked = (f.picked ++ [x]).take c
        rw [List.take_append_of_le_length b]; exact e1
      · show s.cov = strikes S A c0 ((f.picked ++ [x]).take (c - 1))
        rw [List.take_append_of_le_length (by omega)]; exact e2

theorem Sim.list {S A : List Int} {c0 : List Bool} {c : Nat} (k : Nat) (l : List Int) : ∀ {f s : PS}, Sim S A c0 c f s → Sim S A c0 c (plist S A 0 k l f) (plist S A c k l s) := by
  induction l with
  | nil => intro f s h; exact h
  | cons x l ih => intro f s h; exact ih (h.step k x)

theorem Sim.levels {S A : List Int} {c0 : List Bool} {c : Nat} (k : Nat) : ∀ {f s : PS}, Sim S A c0 c f s → Sim S A c0 c (plevels S A 0 k f) (plevels S A c k s) := by
  induction k with
  | zero => intro f s h; exact h
  | succ k ih =>
    intro f s h
    rw [plevels, plevels]
    apply ih
    have h2 := h.list (k + 1) (bAt f.B (k + 1))
    unfold plevel
    rcases h.2.2 with ⟨a, b, _⟩ | ⟨a, _⟩
    · subst b; exact h2
    · rw [plist_done _ a] at h2 ⊢
      exact h2

/-- all that the two laws want of pickSources -/
structure PickLaw (S A : List Int) (n : Nat) (c0 : List Bool) (F : List Int) (run : Nat → PS) : Prop where
  len : F.length ≤ n
  rng : ∀ i, i < F.length → 0 ≤ nth F i ∧ nth F i < n
  bare : ∀ v, v < n → nthB (strikes S A c0 F) v = false
  greedy : ∀ i, i < F.length → 0 < hold S A (strikes S A c0 (F.take i)) (nth F i).toNat ∧ ∀ v, v < n → hold S A (strikes S A c0 (F.take i)) v ≤ hold S A (strikes S A c0 (F.take i)) (nth F i).toNat
  picked : ∀ c, 1 ≤ c → (run c).picked = F.take c
  cov : ∀ c, 1 ≤ c → (run c).cov = strikes S A c0 (if F.length < c then F else F.take (c - 1))

theorem pick_law {S A gain upper : List Int} {found : Int} (hn : gain.length = upper.length) (h1 : 1 ≤ gain.length) (hgain : ∀ v, v < gain.length → nth gain v = hold S A (cov0 upper found) v) :
    PickLaw S A gain.length (cov0 upper found) (pickRun S A gain upper found 0).picked (fun c => pickRun S A gain upper found c) := by
  have hmx : ∀ v, v < gain.length → nth gain v ≤ mx gain (gain.length - 1) := fun v hv => mx_le _ _ _ (by omega)
  have hK0 : 0 ≤ mx gain (gain.length - 1) := by have := hmx 0 (by omega); have := hgain 0 (by omega); omega
  obtain ⟨K, hK⟩ : ∃ K : Nat, mx gain (gain.length - 1) = K := ⟨_, (Int.toNat_of_nonneg hK0).symm⟩
  have hKj : ∀ j, nth gain j ≤ K := by
    intro j
    by_cases e : j < gain.length
    · have := hmx j e; omega
    · have h0 : nth gain j = 0 := by simp [nth, e]
      omega
  have hbi := bfill_inv gain K gain.length hKj
  have hc0 : (cov0 upper found).length = gain.length := by rw [cov0_len]; exact hn.symm
  have hinit : FRun S A gain.length K (cov0 upper found) (K + 1) [] ⟨cov0 upper found, bfill gain K gain.length, [], false⟩ := by
    refine ⟨⟨rfl, hc0, rfl, fun x hx => by simp at hx, ?_, fun i hi => by simp at hi, fun v hv hp => ?_⟩, bfill_len _ _ _, hbi.2⟩
    · have := marks_le (cov0 upper found)
      simp only [List.length_nil]
      omega
    · left
      have hg := hgain v hv
      have hp' : 0 < hold S A (cov0 upper found) v := hp
      have hk := hKj v
      have e : (nth gain v).toNat = hold S A (cov0 upper found) v := by omega
      refine ⟨(nth gain v).toNat, by omega, by omega, bfill_mem gain K gain.length v hv (by omega) (by omega), ?_⟩
      rw [e]; exact Nat.le_refl _
  have hrun : ∀ c, pickRun S A gain upper found c = plevels S A c K ⟨cov0 upper found, bfill gain K gain.length, [], false⟩ := by
    intro c; unfold pickRun; rw [hK]; rfl
  have hF := hinit.levels K _ (Nat.le_refl _)
  rw [← hrun 0] at hF
  generalize hFF : pickRun S A gain upper found 0 = F at *
  have hsim : ∀ c, 1 ≤ c → Sim S A (cov0 upper found) c F (pickRun S A gain upper found c) := by
    intro c hc
    rw [hrun c, ← hFF, hrun 0]
    exact Sim.levels K ⟨rfl, rfl, .inl ⟨rfl, rfl, hc⟩⟩
  refine ⟨by have := hF.inv.len; omega, ?_, ?_, hF.inv.greedy, ?_, ?_⟩
  · intro i hi
    apply hF.inv.rng
    have e : nth F.picked i = F.picked[i] := by simp [nth, hi]
    rw [e]
    exact List.getElem_mem hi
  · intro v hv
    rw [← hF.inv.cov]
    cases e : nthB F.cov v with
    | false => rfl
    | true =>
      have hp : 0 < hold S A F.cov v := by unfold hold; rw [e]; simp; omega
      rcases hF.inv.all v hv hp with ⟨j, j1, j2, _⟩ | ⟨hm, _⟩
      · omega
      · simp at hm
  · intro c hc
    rcases (hsim c hc).2.2 with ⟨a, b, d⟩ | ⟨a, b, e1, e2⟩
    · show (pickRun S A gain upper found c).picked = _
      rw [b, List.take_of_length_le (by omega)]
    · exact e1
  · intro c hc
    rcases (hsim c hc).2.2 with ⟨a, b, d⟩ | ⟨a, b, e1, e2⟩
    · show (pickRun S A gain upper found c).cov = _
      rw [if_pos d, b]; exact (hsim c hc).2.1
    · show (pickRun S A gain upper found c).cov = _
      rw [if_neg (by omega)]; exact e2

end Go.Proofs.Qxb6605187a
