import Derived.Test.Qxb6605187aWalkI
import Derived.Test.Qxb6605187aWalkQ
namespace Go.Proofs.Qxb6605187a
set_option linter.unusedVariables false

/-- the peers of class c among the first v, ascending -/
def mbTo (of : List Int) (c : Int) : Nat → List Int
  | 0 => []
  | v + 1 => if nth of v = c then mbTo of c v ++ [(v : Int)] else mbTo of c v
theorem mbTo_yes (of : List Int) (c : Int) (v : Nat) (h : nth of v = c) : mbTo of c (v + 1) = mbTo of c v ++ [(v : Int)] := by rw [mbTo, if_pos h]
theorem mbTo_no (of : List Int) (c : Int) (v : Nat) (h : nth of v ≠ c) : mbTo of c (v + 1) = mbTo of c v := by rw [mbTo, if_neg h]
theorem cntTo_yes (of : List Int) (c : Int) (v : Nat) (h : nth of v = c) : cntTo of c (v + 1) = cntTo of c v + 1 := by rw [cntTo, if_pos h]
theorem cntTo_no (of : List Int) (c : Int) (v : Nat) (h : nth of v ≠ c) : cntTo of c (v + 1) = cntTo of c v := by rw [cntTo, if_neg h]; rfl
theorem mbTo_len (of : List Int) (c : Int) (v : Nat) : (mbTo of c v).length = cntTo of c v := by
  induction v with
  | zero => rfl
  | succ v ih =>
    by_cases h : nth of v = c
    · rw [mbTo_yes _ _ _ h, cntTo_yes _ _ _ h, List.length_append, ih]; rfl
    · rw [mbTo_no _ _ _ h, cntTo_no _ _ _ h, ih]
theorem mbTo_at (of : List Int) (c : Int) (v u : Nat) (hu : u < v) (hc : nth of u = c) : nth (mbTo of c v) (cntTo of c u) = u := by
  induction v with
  | zero => omega
  | succ v ih =>
    by_cases h : nth of v = c
    · rw [mbTo_yes _ _ _ h]
      by_cases e : u = v
      · rw [e]; exact nth_append_at _ _ _ (mbTo_len of c v).symm
      · have hl : cntTo of c u < (mbTo of c v).length := by
          rw [mbTo_len, ← hc]; exact cntTo_lt of u v (by omega)
        rw [nth_append_left _ _ _ hl]
        exact ih (by omega)
    · rw [mbTo_no _ _ _ h]
      by_cases e : u = v
      · rw [e] at hc; exact absurd hc h
      · exact ih (by omega)
theorem mbTo_in (of : List Int) (c : Int) (v i : Nat) (hi : i < (mbTo of c v).length) : ∃ u, u < v ∧ nth of u = c ∧ nth (mbTo of c v) i = u ∧ cntTo of c u = i := by
  induction v with
  | zero => exact absurd hi (Nat.not_lt_zero _)
  | succ v ih =>
    by_cases h : nth of v = c
    · rw [mbTo_yes _ _ _ h] at hi ⊢
      by_cases e : i < (mbTo of c v).length
      · obtain ⟨u, h1, h2, h3, h4⟩ := ih e
        exact ⟨u, by omega, h2, by rw [nth_append_left _ _ _ e]; exact h3, h4⟩
      · have e2 : i = (mbTo of c v).length := by simp at hi; omega
        exact ⟨v, by omega, h, nth_append_at _ _ _ e2, by rw [e2, mbTo_len]⟩
    · rw [mbTo_no _ _ _ h] at hi ⊢
      obtain ⟨u, h1, h2, h3, h4⟩ := ih hi
      exact ⟨u, by omega, h2, h3, h4⟩
theorem mbTo_asc (of : List Int) (c : Int) (v : Nat) : Asc (mbTo of c v) := by
  intro i j hij hj
  obtain ⟨u, h1, h2, h3, h4⟩ := mbTo_in of c v i (by omega)
  obtain ⟨u', k1, k2, k3, k4⟩ := mbTo_in of c v j hj
  rw [h3, k3]
  by_cases e : u < u'
  · omega
  · have := cntTo_mono of c u' u (by omega)
    omega
theorem stTo_first (S A of : List Int) (c : Int) (v : Nat) : nth (stTo S A of c v) 0 = 0 := by
  induction v with
  | zero => rfl
  | succ v ih =>
    by_cases h : nth of v = c
    · rw [stTo_yes _ _ _ _ _ h, nth_append_left _ _ _ (by rw [stTo_len]; omega)]; exact ih
    · rw [stTo_no _ _ _ _ _ h]; exact ih
theorem stTo_step (S A of : List Int) (c : Int) (v i : Nat) (hi : i < cntTo of c v) : nth (stTo S A of c v) (i + 1) = nth (stTo S A of c v) i + (nbr S A (nth (mbTo of c v) i).toNat).length := by
  induction v with
  | zero => exact absurd hi (Nat.not_lt_zero _)
  | succ v ih =>
    have hl := stTo_len S A of c v
    have hm := mbTo_len of c v
    by_cases h : nth of v = c
    · rw [cntTo_yes _ _ _ h] at hi
      rw [stTo_yes _ _ _ _ _ h, mbTo_yes _ _ _ h]
      by_cases e : i < cntTo of c v
      · rw [nth_append_left _ _ _ (by omega), nth_append_left _ _ _ (by omega), nth_append_left _ _ _ (by omega)]
        exact ih e
      · have e2 : i = cntTo of c v := by omega
        rw [nth_append_at _ _ (i + 1) (by omega), nth_append_left _ _ i (by omega), nth_append_at _ _ i (by omega), e2, Int.toNat_natCast]
    · rw [cntTo_no _ _ _ h] at hi
      rw [stTo_no _ _ _ _ _ h, mbTo_no _ _ _ h]
      exact ih hi
theorem stTo_up (S A of : List Int) (c : Int) (v i d : Nat) (hi : i + d ≤ cntTo of c v) : nth (stTo S A of c v) i ≤ nth (stTo S A of c v) (i + d) := by
  induction d with
  | zero => exact Int.le_refl _
  | succ d ih =>
    have h1 := ih (by omega)
    have h2 := stTo_step S A of c v (i + d) (by omega)
    have e : i + (d + 1) = i + d + 1 := by omega
    rw [e]
    omega
theorem nth_append_right (xs ys : List Int) (j : Nat) : nth (xs ++ ys) (xs.length + j) = nth ys j := by
  unfold nth
  rw [List.getD_eq_getElem?_getD, List.getD_eq_getElem?_getD, List.getElem?_append_right (by omega)]
  congr 2
  omega
theorem adjTo_link (S A of : List Int) (c : Int) (v i j : Nat) (hi : i < cntTo of c v) (hj : j < (nbr S A (nth (mbTo of c v) i).toNat).length) :
    nth (adjTo S A of c v) ((nth (stTo S A of c v) i).toNat + j) = rk of (nth (nbr S A (nth (mbTo of c v) i).toNat) j).toNat := by
  induction v with
  | zero => exact absurd hi (Nat.not_lt_zero _)
  | succ v ih =>
    have hl := stTo_len S A of c v
    have hm := mbTo_len of c v
    by_cases h : nth of v = c
    · rw [cntTo_yes _ _ _ h] at hi
      rw [mbTo_yes _ _ _ h] at hj ⊢
      rw [stTo_yes _ _ _ _ _ h, adjTo_yes _ _ _ _ _ h]
      by_cases e : i < cntTo of c v
      · rw [nth_append_left _ _ i (by omega)] at hj ⊢
        rw [nth_append_left _ _ i (by omega)]
        have h1 := stTo_step S A of c v i e
        have h2 := stTo_up S A of c v (i + 1) (cntTo of c v - (i + 1)) (by omega)
        have h3 := stTo_up S A of c v 0 i (by omega)
        rw [stTo_first, Nat.zero_add] at h3
        rw [show i + 1 + (cntTo of c v - (i + 1)) = cntTo of c v by omega, stTo_last] at h2
        rw [nth_append_left _ _ _ (by omega)]
        exact ih e hj
      · have e2 : i = cntTo of c v := by omega
        rw [nth_append_at (mbTo of c v) (v : Int) i (by omega), Int.toNat_natCast] at hj ⊢
        rw [nth_append_left (stTo S A of c v) _ i (by omega), e2, stTo_last, Int.toNat_natCast, nth_append_right]
        unfold nth
        rw [List.getD_eq_getElem?_getD, List.getD_eq_getElem?_getD, List.getElem?_map, List.getElem?_eq_getElem hj]
        rfl
    · rw [cntTo_no _ _ _ h] at hi
      rw [mbTo_no _ _ _ h] at hj ⊢
      rw [stTo_no _ _ _ _ _ h, adjTo_no _ _ _ _ _ h]
      exact ih hi hj
theorem Part.induced {S A of sizes : List Int} (hP : Part S A of sizes) (hcsr : Csr S A) (c : Int) : Induced S A (mbTo of c of.length) (stTo S A of c of.length) (adjTo S A of c of.length) := by
  have hn := hP.len
  refine ⟨by rw [stTo_len, mbTo_len], stTo_first _ _ _ _ _, fun i hi => ?_, fun i hi => stTo_step _ _ _ _ _ _ (by rwa [mbTo_len] at hi), by rw [mbTo_len]; exact stTo_last _ _ _ _ _, mbTo_asc _ _ _, fun i hi j hj => ?_⟩
  · obtain ⟨u, h1, h2, h3, h4⟩ := mbTo_in of c _ i hi
    rw [h3]; omega
  · have hl := adjTo_link S A of c of.length i j (by rwa [mbTo_len] at hi) hj
    obtain ⟨u, h1, h2, h3, h4⟩ := mbTo_in of c _ i hi
    rw [h3, Int.toNat_natCast] at hj hl ⊢
    have hk := hP.link u h1 j hj
    have hr := hcsr.nbr_range u (by omega) j hj
    have hx : (nth (nbr S A u) j).toNat < of.length := by omega
    refine ⟨rk of (nth (nbr S A u) j).toNat, ?_, ?_, hl⟩
    · rw [mbTo_len, rk, hk, h2]
      have := cntTo_lt of _ _ hx
      rw [hk, h2] at this
      exact this
    · rw [rk, hk, h2, mbTo_at of c _ _ hx (hk.trans h2)]
      omega

/-- one class holds all -/
theorem cntTo_all (of : List Int) (c : Int) (v : Nat) (h : cntTo of c v = v) (u : Nat) (hu : u < v) : nth of u = c := by
  induction v with
  | zero => omega
  | succ v ih =>
    have hle := cntTo_le of c v
    by_cases e : nth of v = c
    · rw [cntTo_yes _ _ _ e] at h
      by_cases e2 : u = v
      · rw [e2]; exact e
      · exact ih (by omega) (by omega)
    · rw [cntTo_no _ _ _ e] at h; omega
theorem cntTo_same (of : List Int) (c : Int) (v : Nat) (h : ∀ u, u < v → nth of u = c) : cntTo of c v = v := by
  induction v with
  | zero => rfl
  | succ v ih => rw [cntTo_yes _ _ _ (h v (by omega)), ih fun u hu => h u (by omega)]
theorem induced_whole {S A of : List Int} (hcsr : Csr S A) (hn : of.length + 1 = S.length) (c : Int) (h : ∀ u, u < of.length → nth of u = c) : Induced S A (mbTo of c of.length) S A := by
  have hl : (mbTo of c of.length).length = of.length := by rw [mbTo_len]; exact cntTo_same _ _ _ h
  have hat : ∀ i, i < of.length → nth (mbTo of c of.length) i = i := by
    intro i hi
    have := mbTo_at of c _ i hi (h i hi)
    rwa [cntTo_same of c i fun u hu => h u (by omega)] at this
  refine ⟨by omega, hcsr.first, fun i hi => ?_, fun i hi => ?_, ?_, mbTo_asc _ _ _, fun i hi j hj => ?_⟩
  · rw [hat i (by omega)]; omega
  · rw [hat i (by omega), Int.toNat_natCast]
    have h1 := hcsr.nbr_len i (by omega)
    have h2 := hcsr.st i (by omega)
    have h3 := hcsr.st (i + 1) (by omega)
    have h4 := hcsr.st_mono i (by omega)
    omega
  · rw [hl]
    have := hcsr.last
    rwa [show S.length - 1 = of.length by omega] at this
  · rw [hat i (by omega), Int.toNat_natCast] at hj ⊢
    have hr := hcsr.nbr_range i (by omega) j hj
    have hx := hat (nth (nbr S A i) j).toNat (by omega)
    refine ⟨(nth (nbr S A i) j).toNat, by omega, by rw [hx]; omega, ?_⟩
    have h1 := hcsr.nbr_len i (by omega)
    have := nth_nbr S A i j (by omega)
    rw [show (nth S i).toNat = st S i from rfl, ← this]
    omega

/-! ### what is kept, and the graphs that come back -/
theorem keptTo_pre (of sizes : List Int) (size : Int) (u v : Nat) (h : u ≤ v) : ∃ r, keptTo of sizes size v = keptTo of sizes size u ++ r := by
  induction v with
  | zero => exact ⟨[], by rw [show u = 0 by omega]; rfl⟩
  | succ v ih =>
    by_cases e : u = v + 1
    · exact ⟨[], by rw [e, List.append_nil]⟩
    · obtain ⟨r, hr⟩ := ih (by omega)
      by_cases hq : nth sizes (nth of v).toNat = size ∧ nth of v ∉ keptTo of sizes size v
      · exact ⟨r ++ [nth of v], by rw [keptTo_new _ _ _ _ hq.1 hq.2, hr, List.append_assoc]⟩
      · exact ⟨r, by rw [keptTo, if_neg hq]; exact hr⟩
theorem kept_at (of sizes : List Int) (size : Int) (v n : Nat) (hv : v < n) (h1 : nth sizes (nth of v).toNat = size) (h2 : nth of v ∉ keptTo of sizes size v) : ∃ h : (keptTo of sizes size v).length < (keptTo of sizes size n).length, (keptTo of sizes size n)[(keptTo of sizes size v).length] = nth of v := by
  obtain ⟨r, hr⟩ := keptTo_pre of sizes size (v + 1) n (by omega)
  rw [keptTo_new _ _ _ _ h1 h2] at hr
  refine ⟨by rw [hr]; simp, ?_⟩
  simp [hr]
theorem PartOK.all {S A of sizes : List Int} {size : Int} (hP : PartOK S A of sizes size) (h : size + 1 = S.length) : 0 < of.length ∧ nth sizes (nth of 0).toNat = size ∧ ∀ u, u < of.length → nth of u = nth of 0 := by
  have hl := hP.part.len
  have hf := hP.full (by omega)
  have hr := hP.part.rng 0 hf.1
  have hc := hP.part.cnt (nth of 0).toNat (by omega)
  rw [hf.2, Int.toNat_of_nonneg hr.1] at hc
  exact ⟨hf.1, by rw [hf.2]; omega, cntTo_all of _ _ (by omega)⟩
theorem PartOK.kept {S A of sizes : List Int} {size : Int} (hP : PartOK S A of sizes size) (h : size + 1 = S.length) (v : Nat) (h0 : 0 < v) (hv : v ≤ of.length) : keptTo of sizes size v = [nth of 0] := by
  obtain ⟨h1, h2, h3⟩ := hP.all h
  induction v with
  | zero => omega
  | succ v ih =>
    by_cases e : v = 0
    · subst e
      rw [keptTo_new _ _ _ _ h2 (by simp [keptTo])]
      rfl
    · have := ih (by omega) (by omega)
      rw [keptTo_old _ _ _ _ (by rw [this, h3 v (by omega)]; simp), this]
theorem subs_len {S A of sizes : List Int} {size : Int} (hP : PartOK S A of sizes size) : (subsOf S A of sizes size).length = (keptTo of sizes size of.length).length := by
  unfold subsOf
  split
  · rename_i h
    rw [hP.kept h of.length (hP.all h).1 (Nat.le_refl _)]
    rfl
  · rw [List.length_map]
theorem subs_at {S A of sizes : List Int} {size : Int} (hP : PartOK S A of sizes size) (hcsr : Csr S A) (v : Nat) (hv : v < of.length) (h1 : nth sizes (nth of v).toNat = size) (h2 : nth of v ∉ keptTo of sizes size v) :
    ∃ h : (keptTo of sizes size v).length < (subsOf S A of sizes size).length, Induced S A (mbTo of (nth of v) of.length) (subsOf S A of sizes size)[(keptTo of sizes size v).length].1 (subsOf S A of sizes size)[(keptTo of sizes size v).length].2 ∧ (subsOf S A of sizes size)[(keptTo of sizes size v).length].2.length ≤ A.length := by
  have hl := hP.part.len
  by_cases h : size + 1 = S.length
  · obtain ⟨k1, k2, k3⟩ := hP.all h
    have e : v = 0 := by
      by_cases e : v = 0
      · exact e
      · exact absurd (by rw [hP.kept h v (by omega) (by omega), k3 v hv]; simp) h2
    subst e
    have es : subsOf S A of sizes size = [(S, A)] := by unfold subsOf; rw [if_pos h]
    refine ⟨by rw [es]; simp [keptTo], ?_⟩
    simp only [es, keptTo, List.length_nil, List.getElem_cons_zero]
    exact ⟨induced_whole hcsr hl _ k3, Nat.le_refl _⟩
  · obtain ⟨k1, k2⟩ := kept_at of sizes size v of.length hv h1 h2
    have es : subsOf S A of sizes size = (keptTo of sizes size of.length).map fun c => (stTo S A of c of.length, adjTo S A of c of.length) := by unfold subsOf; rw [if_neg h]
    refine ⟨by rw [es, List.length_map]; exact k1, ?_⟩
    simp only [es, List.getElem_map, k2]
    refine ⟨hP.part.induced hcsr _, ?_⟩
    have h3 := adjTo_le hcsr of (nth of v) of.length (by omega)
    have h4 := hcsr.st_le of.length (by omega)
    omega

/-! ### the counting sort -/
/-- how many peers lie in classes below c -/
def offN (of : List Int) (n : Nat) : Nat → Nat
  | 0 => 0
  | c + 1 => offN of n c + cntTo of c n
theorem offN_next (of : List Int) (v m : Nat) : offN of (v + 1) m = offN of v m + if 0 ≤ nth of v ∧ nth of v < m then 1 else 0 := by
  induction m with
  | zero => rw [offN, offN, if_neg (by omega)]
  | succ m ih =>
    rw [offN, offN, ih]
    by_cases e : nth of v = m
    · rw [cntTo_yes _ _ _ e, if_neg (by omega), if_pos (by omega)]; omega
    · rw [cntTo_no _ _ _ e]
      by_cases e2 : 0 ≤ nth of v ∧ nth of v < m
      · rw [if_pos e2, if_pos (by omega)]; omega
      · rw [if_neg e2, if_neg (by omega)]; omega
theorem offN_all (of : List Int) (v m : Nat) (h : ∀ u, u < v → 0 ≤ nth of u ∧ nth of u < m) : offN of v m = v := by
  induction v with
  | zero =>
    clear h
    induction m with
    | zero => rfl
    | succ m ih => rw [offN, ih]; rfl
  | succ v ih => rw [offN_next, ih fun u hu => h u (by omega), if_pos (h v (by omega))]
theorem offN_mono (of : List Int) (n c d : Nat) (h : c ≤ d) : offN of n c ≤ offN of n d := by
  induction d with
  | zero => rw [show c = 0 by omega]; exact Nat.le_refl _
  | succ d ih =>
    by_cases e : c = d + 1
    · rw [e]; exact Nat.le_refl _
    · have := ih (by omega)
      rw [offN]; omega
/-- the row of members behind k peers -/
def MInv (of : List Int) (m k : Nat) (X : List Int) : Prop := ∀ c, c < m → ∀ i, i < cntTo of c k → nth X (offN of of.length c + i) = nth (mbTo of c k) i
theorem MInv.zero (of : List Int) (m : Nat) (X : List Int) : MInv of m 0 X := fun c hc i hi => absurd hi (Nat.not_lt_zero _)
theorem member_lt {S A of sizes : List Int} (hP : Part S A of sizes) (k c : Nat) (hk : k < of.length) (hc : nth of k = c) : c < sizes.length ∧ offN of of.length c + cntTo of c k < of.length := by
  have hr := hP.rng k hk
  rw [hc] at hr
  have h1 := offN_all of of.length sizes.length hP.rng
  have h2 := offN_mono of of.length (c + 1) sizes.length (by omega)
  have h3 := cntTo_lt of k of.length hk
  rw [hc] at h3
  rw [offN] at h2
  exact ⟨by omega, by omega⟩
theorem MInv.step {S A of sizes : List Int} (hP : Part S A of sizes) {k c : Nat} {X : List Int} (h : MInv of sizes.length k X) (hl : X.length = of.length) (hk : k < of.length) (hc : nth of k = c) : MInv of sizes.length (k + 1) (X.set (offN of of.length c + cntTo of c k) k) := by
  intro d hd i hi
  have hlt := (member_lt hP k c hk hc).2
  rw [nth_set _ _ _ _ (by omega)]
  have hk1 := cntTo_lt of k of.length hk
  rw [hc] at hk1
  by_cases e : d = c
  · subst e
    rw [cntTo_yes _ _ _ hc] at hi
    rw [mbTo_yes _ _ _ hc]
    by_cases e2 : i = cntTo of d k
    · rw [if_pos (by rw [e2]), nth_append_at _ _ _ (by rw [e2, mbTo_len])]
    · rw [if_neg (by omega), nth_append_left _ _ _ (by rw [mbTo_len]; omega)]
      exact h d hd i (by omega)
  · have hne : nth of k ≠ d := by rw [hc]; omega
    rw [cntTo_no _ _ _ hne] at hi
    rw [mbTo_no _ _ _ hne]
    have hm := cntTo_mono of d k of.length (by omega)
    have e3 : offN of of.length d + i ≠ offN of of.length c + cntTo of c k := by
      rcases Nat.lt_or_gt_of_ne e with h1 | h1
      · have := offN_mono of of.length (d + 1) c (by omega)
        rw [offN] at this
        omega
      · have := offN_mono of of.length (c + 1) d (by omega)
        rw [offN] at this
        omega
    rw [if_neg e3]
    exact h d hd i hi
end Go.Proofs.Qxb6605187a
