import Derived.Test.Qxb6605187aCompInv
import Derived.Test.Qxb6605187aWalkU
import Derived.Test.Qxb6605187aRoots
namespace Go.Proofs.Qxb6605187a
set_option linter.unusedVariables false

/-! ### The breadth-first search of Components, with the labels as a ghost (-1: not seen yet) -/
theorem cntTo_set_new (L : List Int) (w : Nat) (c : Int) (n : Nat) (hl : w < L.length) (hn : nth L w ≠ c) : cntTo (L.set w c) c n = cntTo L c n + if w < n then 1 else 0 := by
  induction n with
  | zero => rfl
  | succ n ih =>
    have e1 : cntTo (L.set w c) c (n + 1) = cntTo (L.set w c) c n + if nth (L.set w c) n = c then 1 else 0 := rfl
    have e2 : cntTo L c (n + 1) = cntTo L c n + if nth L n = c then 1 else 0 := rfl
    rw [e1, e2, ih, nth_set _ _ _ _ hl]
    by_cases e : n = w
    · subst e
      rw [if_pos rfl, if_pos rfl, if_neg hn, if_pos (Nat.lt_succ_self _), if_neg (Nat.lt_irrefl _)]
    · rw [if_neg e]
      by_cases h : w < n
      · rw [if_pos h, if_pos (show w < n + 1 by omega)]; omega
      · rw [if_neg h, if_neg (show ¬ w < n + 1 by omega)]; omega
theorem cntTo_set_other (L : List Int) (w : Nat) (c d : Int) (n : Nat) (hl : w < L.length) (hn : nth L w ≠ d) (hcd : c ≠ d) : cntTo (L.set w c) d n = cntTo L d n := by
  induction n with
  | zero => rfl
  | succ n ih =>
    have e1 : cntTo (L.set w c) d (n + 1) = cntTo (L.set w c) d n + if nth (L.set w c) n = d then 1 else 0 := rfl
    have e2 : cntTo L d (n + 1) = cntTo L d n + if nth L n = d then 1 else 0 := rfl
    rw [e1, e2, ih, nth_set _ _ _ _ hl]
    by_cases e : n = w
    · subst e; rw [if_pos rfl, if_neg hcd, if_neg hn]
    · rw [if_neg e]
theorem cntTo_congr (L M : List Int) (c : Int) (n : Nat) (h : ∀ u, u < n → (nth L u = c ↔ nth M u = c)) : cntTo L c n = cntTo M c n := by
  induction n with
  | zero => rfl
  | succ n ih =>
    have e1 : cntTo L c (n + 1) = cntTo L c n + if nth L n = c then 1 else 0 := rfl
    have e2 : cntTo M c (n + 1) = cntTo M c n + if nth M n = c then 1 else 0 := rfl
    rw [e1, e2, ih fun u hu => h u (by omega)]
    by_cases e : nth L n = c
    · rw [if_pos e, if_pos ((h n (by omega)).1 e)]
    · rw [if_neg e, if_neg fun h2 => e ((h n (by omega)).2 h2)]

/-- the labels between two searches: K classes are done -/
structure Labs (S A : List Int) (K : Nat) (L : List Int) : Prop where
  len : L.length + 1 = S.length
  rng : ∀ u, u < L.length → -1 ≤ nth L u ∧ nth L u < K
  closed : ∀ u, u < L.length → 0 ≤ nth L u → ∀ j, j < (nbr S A u).length → nth L (nth (nbr S A u) j).toNat = nth L u
  conn : ∀ u v, u < L.length → v < L.length → 0 ≤ nth L u → nth L u = nth L v → Conn S A u v
  some : ∀ c : Nat, c < K → ∃ u, u < L.length ∧ nth L u = c
theorem nth_reps (m : Nat) (x : Int) (i : Nat) (h : i < m) : nth (List.replicate m x) i = x := by
  unfold nth
  rw [List.getD_eq_getElem?_getD, List.getElem?_replicate, if_pos h]
  rfl
theorem Labs.zero {S A : List Int} {n : Nat} (h : n + 1 = S.length) : Labs S A 0 (List.replicate n (-1)) := by
  refine ⟨by simpa using h, fun u hu => ?_, fun u hu h0 => ?_, fun u v hu hv h0 => ?_, fun c hc => absurd hc (Nat.not_lt_zero _)⟩
  all_goals
    rw [List.length_replicate] at hu
    rw [nth_reps _ _ _ hu] at *
  · omega
  · omega
  · omega

/-- within a search: the queue Q, of which i peers are done and of the next j neighbours; K is the class -/
structure Srch (S A : List Int) (K : Nat) (L Q : List Int) (i j : Nat) : Prop where
  len : L.length + 1 = S.length
  rng : ∀ u, u < L.length → -1 ≤ nth L u ∧ nth L u ≤ K
  old : ∀ u, u < L.length → 0 ≤ nth L u → nth L u < K → ∀ j, j < (nbr S A u).length → nth L (nth (nbr S A u) j).toNat = nth L u
  new : ∀ m, m < i → ∀ j, j < (nbr S A (nth Q m).toNat).length → nth L (nth (nbr S A (nth Q m).toNat) j).toNat = K
  cur : ∀ j', j' < j → nth L (nth (nbr S A (nth Q i).toNat) j').toNat = K
  conn : ∀ u v, u < L.length → v < L.length → 0 ≤ nth L u → nth L u = nth L v → Conn S A u v
  some : ∀ c : Nat, c < K + 1 → ∃ u, u < L.length ∧ nth L u = c
  q1 : ∀ m, m < Q.length → 0 ≤ nth Q m ∧ nth Q m < L.length ∧ nth L (nth Q m).toNat = K
  q2 : ∀ u, u < L.length → nth L u = K → ∃ m, m < Q.length ∧ nth Q m = u
  q3 : Q.length = cntTo L K L.length
theorem Labs.start {S A : List Int} {K : Nat} {L : List Int} (h : Labs S A K L) (v : Nat) (hv : v < L.length) (hn : nth L v < 0) : Srch S A K (L.set v K) [(v : Int)] 0 0 := by
  have hr := h.rng v hv
  refine ⟨by simpa using h.len, fun u hu => ?_, fun u hu h0 hK j hj => ?_, fun m hm => absurd hm (Nat.not_lt_zero _), fun m hm => absurd hm (Nat.not_lt_zero _), fun u w hu hw h0 he => ?_, fun c hc => ?_, fun m hm => ?_, fun u hu he => ?_, ?_⟩
  · rw [List.length_set] at hu
    have := h.rng u hu
    rw [nth_set _ _ _ _ hv]
    split <;> omega
  · rw [List.length_set] at hu
    rw [nth_set _ _ _ _ hv] at h0 hK ⊢
    rw [nth_set _ _ _ _ hv]
    by_cases e : u = v
    · rw [if_pos e] at hK; omega
    · rw [if_neg e] at h0 hK ⊢
      have := h.closed u hu h0 j hj
      by_cases e2 : (nth (nbr S A u) j).toNat = v
      · rw [e2] at this; omega
      · rw [if_neg e2]; exact this
  · rw [List.length_set] at hu hw
    rw [nth_set _ _ _ _ hv] at h0 he
    rw [nth_set _ _ _ _ hv] at he
    have h1 := h.rng u hu
    have h2 := h.rng w hw
    by_cases e : u = v
    · by_cases e2 : w = v
      · rw [e, e2]; exact Conn.refl _ _ _
      · rw [if_pos e, if_neg e2] at he; omega
    · rw [if_neg e] at h0 he
      by_cases e2 : w = v
      · rw [if_pos e2] at he; omega
      · rw [if_neg e2] at he
        exact h.conn u w hu hw h0 he
  · by_cases e : c = K
    · exact ⟨v, by simpa using hv, by rw [nth_set _ _ _ _ hv, if_pos rfl, e]⟩
    · obtain ⟨u, hu, hc2⟩ := h.some c (by omega)
      refine ⟨u, by simpa using hu, ?_⟩
      rw [nth_set _ _ _ _ hv]
      by_cases e2 : u = v
      · rw [e2] at hc2; omega
      · rw [if_neg e2]; exact hc2
  · have e : m = 0 := by simp at hm; omega
    subst e
    have e2 : nth [(v : Int)] 0 = v := rfl
    rw [e2, Int.toNat_natCast, nth_set _ _ _ _ hv, if_pos rfl, List.length_set]
    omega
  · rw [List.length_set] at hu
    rw [nth_set _ _ _ _ hv] at he
    by_cases e : u = v
    · exact ⟨0, by simp, by rw [e]; rfl⟩
    · rw [if_neg e] at he
      have := h.rng u hu
      omega
  · rw [List.length_set, cntTo_set_new L v K L.length hv (by omega), if_pos hv]
    have e : cntTo L K L.length = 0 := by
      have hno : ∀ u, u < L.length → nth L u ≠ K := fun u hu => by have := h.rng u hu; omega
      generalize L.length = n at hno
      clear hv
      induction n with
      | zero => rfl
      | succ n ih =>
        have e2 : cntTo L K (n + 1) = cntTo L K n + if nth L n = K then 1 else 0 := rfl
        rw [e2, if_neg (hno n (by omega)), ih fun u hu => hno u (by omega)]
    rw [e]; rfl
/-- the neighbour is seen already: it is of this class -/
theorem Srch.seen {S A : List Int} {K : Nat} {L Q : List Int} {i j : Nat} (h : Srch S A K L Q i j) (hcsr : Csr S A) (hsym : Sym S A) (hi : i < Q.length) (hj : j < (nbr S A (nth Q i).toNat).length) (h0 : 0 ≤ nth L (nth (nbr S A (nth Q i).toNat) j).toNat) : Srch S A K L Q i (j + 1) := by
  have hq := h.q1 i hi
  have hl := h.len
  obtain ⟨u, hu⟩ : ∃ u : Nat, nth Q i = u := ⟨(nth Q i).toNat, by omega⟩
  have hcur := h.cur
  rw [hu, Int.toNat_natCast] at hj h0 hq hcur
  have hr := hcsr.nbr_range u (by omega) j hj
  obtain ⟨x, hx⟩ : ∃ x : Nat, nth (nbr S A u) j = x := ⟨(nth (nbr S A u) j).toNat, by omega⟩
  have hmem : (x : Int) ∈ nbr S A u := by rw [← hx]; exact nth_mem _ _ hj
  have hback := hsym u (by omega) x hmem
  rw [Int.toNat_natCast] at hback
  rw [hx, Int.toNat_natCast] at h0
  have hK : nth L x = K := by
    have hrx := h.rng x (by omega)
    by_cases e : nth L x = K
    · exact e
    · obtain ⟨m, hm, he⟩ := List.getElem_of_mem hback
      have he2 : nth (nbr S A x) m = u := by rw [← he]; simp [nth, hm]
      have := h.old x (by omega) h0 (by omega) m hm
      rw [he2, Int.toNat_natCast] at this
      omega
  refine ⟨h.len, h.rng, h.old, h.new, fun j' hj' => ?_, h.conn, h.some, h.q1, h.q2, h.q3⟩
  rw [hu, Int.toNat_natCast]
  by_cases e : j' = j
  · rw [e, hx, Int.toNat_natCast]; exact hK
  · exact hcur j' (by omega)
/-- the neighbour is new -/
theorem Srch.add {S A : List Int} {K : Nat} {L Q : List Int} {i j x : Nat} (h : Srch S A K L Q i j) (hcsr : Csr S A) (hi : i < Q.length) (hj : j < (nbr S A (nth Q i).toNat).length) (hx : nth (nbr S A (nth Q i).toNat) j = x) (h0 : nth L x < 0) : Srch S A K (L.set x K) (Q ++ [(x : Int)]) i (j + 1) := by
  have hq := h.q1 i hi
  have hl := h.len
  obtain ⟨u, hu⟩ : ∃ u : Nat, nth Q i = u := ⟨(nth Q i).toNat, by omega⟩
  have hcur := h.cur
  rw [hu, Int.toNat_natCast] at hj hx hq hcur
  have hr := hcsr.nbr_range u (by omega) j hj
  have hmem : (x : Int) ∈ nbr S A u := by rw [← hx]; exact nth_mem _ _ hj
  rw [hx] at hr
  have hxl : x < L.length := by omega
  have hrx := h.rng x hxl
  have hkeep : ∀ y, nth L y = K → nth (L.set x K) y = K := by
    intro y hy
    rw [nth_set _ _ _ _ hxl]
    split
    · rfl
    · exact hy
  have hlink : Conn S A u x := Conn.link ⟨by omega, hmem⟩
  refine ⟨by simpa using h.len, fun y hy => ?_, fun y hy h1 h2 m hm => ?_, fun m hm k hk => ?_, fun j' hj' => ?_, fun y z hy hz h1 he => ?_, fun c hc => ?_, fun m hm => ?_, fun y hy he => ?_, ?_⟩
  · rw [List.length_set] at hy
    have := h.rng y hy
    rw [nth_set _ _ _ _ hxl]
    split <;> omega
  · rw [List.length_set] at hy
    rw [nth_set _ _ _ _ hxl] at h1 h2 ⊢
    rw [nth_set _ _ _ _ hxl]
    by_cases e : y = x
    · rw [if_pos e] at h2; omega
    · rw [if_neg e] at h1 h2 ⊢
      have := h.old y hy h1 h2 m hm
      by_cases e2 : (nth (nbr S A y) m).toNat = x
      · rw [e2] at this; omega
      · rw [if_neg e2]; exact this
  · rw [nth_append_left _ _ _ (by omega)] at hk ⊢
    exact hkeep _ (h.new m hm k hk)
  · rw [nth_append_left _ _ _ hi, hu, Int.toNat_natCast]
    by_cases e : j' = j
    · rw [e, hx, Int.toNat_natCast, nth_set _ _ _ _ hxl, if_pos rfl]
    · exact hkeep _ (hcur j' (by omega))
  · rw [List.length_set] at hy hz
    rw [nth_set _ _ _ _ hxl] at h1 he
    rw [nth_set _ _ _ _ hxl] at he
    have hall : ∀ y, y < L.length → nth L y = K → Conn S A x y := fun y hy hyK => hlink.symm.trans (h.conn u y (by omega) hy (by omega) (by omega))
    by_cases e : y = x
    · by_cases e2 : z = x
      · rw [e, e2]; exact Conn.refl _ _ _
      · rw [if_pos e, if_neg e2] at he
        rw [e]; exact hall z hz he.symm
    · rw [if_neg e] at h1 he
      by_cases e2 : z = x
      · rw [if_pos e2] at he
        rw [e2]; exact (hall y hy he).symm
      · rw [if_neg e2] at he
        exact h.conn y z hy hz h1 he
  · obtain ⟨y, hy, hc2⟩ := h.some c hc
    refine ⟨y, by simpa using hy, ?_⟩
    rw [nth_set _ _ _ _ hxl]
    by_cases e2 : y = x
    · rw [e2] at hc2; omega
    · rw [if_neg e2]; exact hc2
  · by_cases e : m < Q.length
    · have := h.q1 m e
      rw [nth_append_left _ _ _ e, List.length_set]
      exact ⟨this.1, this.2.1, hkeep _ this.2.2⟩
    · have e2 : m = Q.length := by simp at hm; omega
      rw [nth_append_at _ _ _ e2, Int.toNat_natCast, nth_set _ _ _ _ hxl, if_pos rfl, List.length_set]
      omega
  · rw [List.length_set] at hy
    rw [nth_set _ _ _ _ hxl] at he
    by_cases e : y = x
    · exact ⟨Q.length, by simp, by rw [nth_append_at _ _ _ rfl, e]⟩
    · rw [if_neg e] at he
      obtain ⟨m, hm, hm2⟩ := h.q2 y hy he
      exact ⟨m, by simp; omega, by rw [nth_append_left _ _ _ hm]; exact hm2⟩
  · rw [List.length_set, cntTo_set_new L x K L.length hxl (by omega), if_pos hxl, List.length_append, h.q3]
    rfl
/-- all neighbours are done: on to the next peer of the queue -/
theorem Srch.next {S A : List Int} {K : Nat} {L Q : List Int} {i : Nat} (h : Srch S A K L Q i (nbr S A (nth Q i).toNat).length) : Srch S A K L Q (i + 1) 0 := by
  refine ⟨h.len, h.rng, h.old, fun m hm => ?_, fun m hm => absurd hm (Nat.not_lt_zero _), h.conn, h.some, h.q1, h.q2, h.q3⟩
  by_cases e : m = i
  · rw [e]; exact h.cur
  · exact h.new m (by omega)
/-- the queue is done -/
theorem Srch.done {S A : List Int} {K : Nat} {L Q : List Int} (h : Srch S A K L Q Q.length 0) : Labs S A (K + 1) L := by
  refine ⟨h.len, fun u hu => ?_, fun u hu h0 j hj => ?_, h.conn, h.some⟩
  · have := h.rng u hu; omega
  · have hr := h.rng u hu
    by_cases e : nth L u = K
    · obtain ⟨m, hm, he⟩ := h.q2 u hu e
      have := h.new m hm
      rw [he, Int.toNat_natCast] at this
      rw [this j hj, e]
    · exact h.old u hu h0 (by omega) j hj
/-- of and sizes are the connected components -/
structure CC (S A of sizes : List Int) : Prop where
  part : Part S A of sizes
  conn : ∀ u v, u < of.length → v < of.length → (nth of u = nth of v ↔ Conn S A u v)
  some : ∀ c : Nat, c < sizes.length → ∃ u, u < of.length ∧ nth of u = c
theorem Labs.cc {S A : List Int} {K : Nat} {L of sizes : List Int} (h : Labs S A K L) (hcsr : Csr S A) (hall : ∀ u, u < L.length → 0 ≤ nth L u) (hol : of.length = L.length) (hof : ∀ u, u < L.length → nth of u = nth L u) (hs : sizes.length = K) (hsz : ∀ c : Nat, c < K → nth sizes c = cntTo L c L.length) : CC S A of sizes := by
  have hl := h.len
  have hlink : ∀ v, v < of.length → ∀ j, j < (nbr S A v).length → nth of (nth (nbr S A v) j).toNat = nth of v := by
    intro v hv j hj
    have hr := hcsr.nbr_range v (by omega) j hj
    rw [hof _ (by omega), hof v (by omega)]
    exact h.closed v (by omega) (hall v (by omega)) j hj
  refine ⟨⟨by omega, fun v hv => ?_, fun c hc => ?_, hlink⟩, fun u v hu hv => ⟨fun he => ?_, fun hc => ?_⟩, fun c hc => ?_⟩
  · rw [hof v (by omega)]
    have h1 := h.rng v (by omega)
    have h2 := hall v (by omega)
    omega
  · rw [hsz c (by omega), hol, cntTo_congr of L c L.length fun u hu => by rw [hof u hu]]
  · rw [hof u (by omega), hof v (by omega)] at he
    exact h.conn u v (by omega) (by omega) (hall u (by omega)) he
  · have hC : ∀ x y, Linked S A x y → ((x < of.length ∧ nth of x = nth of u) ↔ (y < of.length ∧ nth of y = nth of u)) := by
      intro x y hxy
      have hx : x < of.length := by have := hxy.1; omega
      obtain ⟨m, hm, e⟩ := List.getElem_of_mem hxy.2
      have hr := hcsr.nbr_range x hxy.1 m hm
      have e2 : nth (nbr S A x) m = y := by rw [← e]; simp [nth, hm]
      have hk := hlink x hx m hm
      rw [e2] at hr hk
      rw [Int.toNat_natCast] at hk
      rw [hk]
      exact ⟨fun h => ⟨by omega, h.2⟩, fun h => ⟨hx, h.2⟩⟩
    exact (((hc _ hC).1 ⟨hu, rfl⟩).2).symm
  · obtain ⟨u, hu, hc2⟩ := h.some c (by omega)
    exact ⟨u, by omega, by rw [hof u hu]; exact hc2⟩
end Go.Proofs.Qxb6605187a
