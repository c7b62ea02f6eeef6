import Derived.Test.Qxb6605187aBfsPlain
import Derived.Test.Qxb6605187aIndPlain
namespace Go.Proofs.Qxb6605187a
set_option linter.unusedVariables false

theorem cntTo_iff (L M : List Int) (c d : Int) (n : Nat) (h : ∀ u, u < n → (nth L u = c ↔ nth M u = d)) : cntTo L c n = cntTo M d n := by
  induction n with
  | zero => rfl
  | succ n ih =>
    have e1 : cntTo L c (n + 1) = cntTo L c n + if nth L n = c then 1 else 0 := rfl
    have e2 : cntTo M d (n + 1) = cntTo M d n + if nth M n = d then 1 else 0 := rfl
    rw [e1, e2, ih fun u hu => h u (by omega)]
    by_cases e : nth L n = c
    · rw [if_pos e, if_pos ((h n (by omega)).1 e)]
    · rw [if_neg e, if_neg fun h2 => e ((h n (by omega)).2 h2)]
/-- how many pieces of size peers have their root below v -/
def pcTo (R : List Int) (size : Int) : Nat → Nat
  | 0 => 0
  | v + 1 => pcTo R size v + if nth R v = v ∧ (cntTo R v R.length : Int) = size then 1 else 0
theorem pcTo_yes (R : List Int) (size : Int) (v : Nat) (h1 : nth R v = v) (h2 : (cntTo R v R.length : Int) = size) : pcTo R size (v + 1) = pcTo R size v + 1 := by rw [pcTo, if_pos ⟨h1, h2⟩]
theorem pcTo_no (R : List Int) (size : Int) (v : Nat) (h : ¬ (nth R v = v ∧ (cntTo R v R.length : Int) = size)) : pcTo R size (v + 1) = pcTo R size v := by rw [pcTo, if_neg h]; rfl
theorem pcTo_le (R : List Int) (size : Int) (v : Nat) : pcTo R size v ≤ v := by
  induction v with
  | zero => exact Nat.le_refl _
  | succ v ih => rw [pcTo]; split <;> omega
theorem kept_pieces {S A of sizes R : List Int} (hCC : CC S A of sizes) (hR : Roots S A R) (size : Int) (v : Nat) (hv : v ≤ of.length) : (keptTo of sizes size v).length = pcTo R size v := by
  have hl : of.length = R.length := by have := hCC.part.len; have := hR.len; omega
  induction v with
  | zero => rfl
  | succ v ih =>
    have hi := ih (by omega)
    have hr := hR.rng v (by omega)
    have hlow := hR.low v (by omega)
    have hrg := hCC.part.rng v (by omega)
    have hcnt := hCC.part.cnt (nth of v).toNat (by omega)
    rw [Int.toNat_of_nonneg hrg.1] at hcnt
    have hsame : ∀ u, u < of.length → (nth of u = nth of v ↔ nth R u = nth R v) := fun u hu => (hCC.conn u v hu (by omega)).trans (hR.conn u v (by omega) (by omega)).symm
    have hc2 : cntTo of (nth of v) of.length = cntTo R (nth R v) R.length := by rw [← hl]; exact cntTo_iff _ _ _ _ _ hsame
    by_cases h : nth R v = v ∧ (cntTo R v R.length : Int) = size
    · have hs : nth sizes (nth of v).toNat = size := by rw [hcnt, hc2, h.1]; exact h.2
      have hn : nth of v ∉ keptTo of sizes size v := by
        intro hm
        obtain ⟨_, u, hu, he⟩ := (keptTo_mem _ _ _ _ _).1 hm
        have h1 := (hsame u (by omega)).1 he
        have h2 := hR.low u (by omega)
        omega
      rw [keptTo_new _ _ _ _ hs hn, pcTo_yes _ _ _ h.1 h.2, List.length_append, hi]
      rfl
    · rw [pcTo_no _ _ _ h]
      by_cases hs : nth sizes (nth of v).toNat = size
      · have hn : nth of v ∈ keptTo of sizes size v := by
          by_cases hin : nth of v ∈ keptTo of sizes size v
          · exact hin
          · exfalso
            apply h
            have hf := fresh_class hs hin
            have hrv : nth R v = v := by
              by_cases e : nth R v = v
              · exact e
              · have h3 := (hsame (nth R v).toNat (by omega)).2 hr.2.2
                exact absurd h3 (hf _ (by omega))
            refine ⟨hrv, ?_⟩
            rw [hc2, hrv] at hcnt
            rw [← hcnt]; exact hs
        rw [keptTo_old _ _ _ _ hn]; exact hi
      · rw [keptTo_skip _ _ _ _ hs]; exact hi

/-! ### the induced graph is a graph, undirected, and in one piece where its peers are -/
theorem Asc.inj {M : List Int} (h : Asc M) {i j : Nat} (hi : i < M.length) (hj : j < M.length) (he : nth M i = nth M j) : i = j := by
  have h1 := h.le hi hj (by omega)
  have h2 := h.le hj hi (by omega)
  omega
theorem Induced.find {S A M HS HA : List Int} (h : Induced S A M HS HA) (m k : Nat) (hm : m ≤ M.length) (hk : (k : Int) < nth HS m) : ∃ i, i < m ∧ nth HS i ≤ k ∧ (k : Int) < nth HS (i + 1) := by
  induction m with
  | zero => rw [h.first] at hk; omega
  | succ m ih =>
    by_cases e : (k : Int) < nth HS m
    · obtain ⟨i, h1, h2, h3⟩ := ih (by omega) e
      exact ⟨i, by omega, h2, h3⟩
    · exact ⟨m, by omega, by omega, hk⟩
theorem Induced.csr {S A M HS HA : List Int} (h : Induced S A M HS HA) : Csr HS HA := by
  have hl := h.len
  refine ⟨by omega, h.first, by rw [show HS.length - 1 = M.length by omega]; exact h.last, fun v hv => ?_, fun k hk => ?_⟩
  · have := h.step v (by omega); omega
  · obtain ⟨i, h1, h2, h3⟩ := h.find M.length k (Nat.le_refl _) (by rw [h.last]; omega)
    have hs := h.step i h1
    have hnn := h.nonneg i (by omega)
    obtain ⟨r, hr, _, he⟩ := h.link i h1 (k - (nth HS i).toNat) (by omega)
    rw [show (nth HS i).toNat + (k - (nth HS i).toNat) = k by omega] at he
    omega
theorem Induced.nbrLen {S A M HS HA : List Int} (h : Induced S A M HS HA) (i : Nat) (hi : i < M.length) : (nbr HS HA i).length = (nbr S A (nth M i).toNat).length := by
  have hl := h.len
  have h1 := h.csr.nbr_len i (by omega)
  have h2 := h.st i (by omega)
  have h3 := h.st (i + 1) (by omega)
  have h4 := h.step i hi
  omega
theorem Induced.nbrAt {S A M HS HA : List Int} (h : Induced S A M HS HA) (i : Nat) (hi : i < M.length) (j : Nat) (hj : j < (nbr S A (nth M i).toNat).length) : ∃ r : Nat, r < M.length ∧ nth M r = nth (nbr S A (nth M i).toNat) j ∧ nth (nbr HS HA i) j = r := by
  obtain ⟨r, h1, h2, h3⟩ := h.link i hi j hj
  have hl := h.len
  have h4 := h.nbrLen i hi
  have h5 := h.csr.nbr_len i (by omega)
  exact ⟨r, h1, h2, by rw [nth_nbr _ _ _ _ (by omega)]; exact h3⟩
theorem mem_nth {xs : List Int} {x : Int} (h : x ∈ xs) : ∃ j, j < xs.length ∧ nth xs j = x := by
  obtain ⟨j, hj, e⟩ := List.getElem_of_mem h
  exact ⟨j, hj, by rw [← e]; simp [nth, hj]⟩
/-- a link of the one is a link of the other -/
theorem Induced.down {S A M HS HA : List Int} (h : Induced S A M HS HA) (i : Nat) (hi : i < M.length) (u : Int) (hu : u ∈ nbr HS HA i) : ∃ r : Nat, r < M.length ∧ u = r ∧ nth M r ∈ nbr S A (nth M i).toNat := by
  obtain ⟨j, hj, e⟩ := mem_nth hu
  rw [h.nbrLen i hi] at hj
  obtain ⟨r, h1, h2, h3⟩ := h.nbrAt i hi j hj
  exact ⟨r, h1, by rw [← e, h3], by rw [h2]; exact nth_mem _ _ hj⟩
theorem Induced.lift {S A M HS HA : List Int} (h : Induced S A M HS HA) (i : Nat) (hi : i < M.length) (x : Int) (hx : x ∈ nbr S A (nth M i).toNat) : ∃ r : Nat, r < M.length ∧ nth M r = x ∧ (r : Int) ∈ nbr HS HA i := by
  obtain ⟨j, hj, e⟩ := mem_nth hx
  obtain ⟨r, h1, h2, h3⟩ := h.nbrAt i hi j hj
  exact ⟨r, h1, h2.trans e, by rw [← h3]; exact nth_mem _ _ (by rw [h.nbrLen i hi]; exact hj)⟩
theorem Induced.sym {S A M HS HA : List Int} (h : Induced S A M HS HA) (hsym : Sym S A) : Sym HS HA := by
  have hl := h.len
  intro i hi u hu
  have hiM : i < M.length := by omega
  obtain ⟨r, h1, rfl, h2⟩ := h.down i hiM u hu
  have hg := h.rng i hiM
  have hb := hsym (nth M i).toNat (by omega) _ h2
  obtain ⟨q, k1, k2, k3⟩ := h.lift r h1 _ hb
  have hq : q = i := h.asc.inj k1 hiM (by rw [k2]; omega)
  rw [Int.toNat_natCast, ← hq]
  exact k3
theorem Induced.conn {S A M HS HA : List Int} (h : Induced S A M HS HA) (hsym : Sym S A) (i j : Nat) (hi : i < M.length) (hj : j < M.length) (hc : Conn S A (nth M i).toNat (nth M j).toNat) : Conn HS HA i j := by
  have hl := h.len
  intro C hC
  have hC' : ∀ x y, Linked S A x y → ((∃ i, i < M.length ∧ nth M i = x ∧ C i) ↔ (∃ i, i < M.length ∧ nth M i = y ∧ C i)) := by
    intro x y hxy
    constructor
    · rintro ⟨i, h1, h2, h3⟩
      obtain ⟨r, k1, k2, k3⟩ := h.lift i h1 y (by rw [h2, Int.toNat_natCast]; exact hxy.2)
      exact ⟨r, k1, k2, (hC i r ⟨by omega, k3⟩).1 h3⟩
    · rintro ⟨i, h1, h2, h3⟩
      have hb := hsym x hxy.1 y hxy.2
      obtain ⟨r, k1, k2, k3⟩ := h.lift i h1 x (by rw [h2]; exact hb)
      exact ⟨r, k1, k2, (hC i r ⟨by omega, k3⟩).1 h3⟩
  have hat : ∀ k, k < M.length → ((∃ i, i < M.length ∧ nth M i = ((nth M k).toNat : Int) ∧ C i) ↔ C k) := by
    intro k hk
    have hg := h.rng k hk
    constructor
    · rintro ⟨i, h1, h2, h3⟩
      have : i = k := h.asc.inj h1 hk (by omega)
      rw [← this]; exact h3
    · intro h3
      exact ⟨k, hk, by omega, h3⟩
  exact (hat i hi).symm.trans ((hc _ hC').trans (hat j hj))

/-- a graph of one piece of size peers -/
structure SubOK (S A : List Int) (size : Int) (HS HA : List Int) : Prop where
  csr : Csr HS HA
  sym : Sym HS HA
  len : (HS.length : Int) = size + 1
  pos : 1 ≤ size
  conn : ∀ i j, i + 1 < HS.length → j + 1 < HS.length → Conn HS HA i j
  hS : HS.length ≤ S.length
  hA : HA.length ≤ A.length
theorem subs_pieces {S A of sizes R : List Int} {size : Int} (hCC : CC S A of sizes) (hR : Roots S A R) (hone : size + 1 = S.length → pcTo R size R.length = 1) : (subsOf S A of sizes size).length = pcTo R size R.length := by
  have hl : of.length = R.length := by have := hCC.part.len; have := hR.len; omega
  unfold subsOf
  split
  · rename_i h
    rw [hone h]; rfl
  · rw [List.length_map, kept_pieces hCC hR size of.length (Nat.le_refl _), hl]
theorem subs_ok {S A of sizes R : List Int} {size : Int} (hCC : CC S A of sizes) (hR : Roots S A R) (hcsr : Csr S A) (hsym : Sym S A) (hone : size + 1 = S.length → pcTo R size R.length = 1) (i : Nat) (hi : i < (subsOf S A of sizes size).length) : SubOK S A size (subsOf S A of sizes size)[i].1 (subsOf S A of sizes size)[i].2 := by
  have hl : of.length = R.length := by have := hCC.part.len; have := hR.len; omega
  have hn := hCC.part.len
  by_cases h : size + 1 = S.length
  · have es : subsOf S A of sizes size = [(S, A)] := by unfold subsOf; rw [if_pos h]
    have hk := kept_pieces hCC hR size of.length (Nat.le_refl _)
    rw [hl, hone h, ← hl] at hk
    obtain ⟨c, hc⟩ : ∃ c, c ∈ keptTo of sizes size of.length := ⟨_, List.getElem_mem (by omega : 0 < (keptTo of sizes size of.length).length)⟩
    obtain ⟨_, _, hsz⟩ := kept_size hCC.part hc
    obtain ⟨_, u, hu, _⟩ := (keptTo_mem _ _ _ _ _).1 hc
    have hall := cntTo_all of c of.length (by omega)
    have hi0 : i = 0 := by rw [es] at hi; simp at hi; omega
    subst hi0
    simp only [es, List.getElem_cons_zero]
    refine ⟨hcsr, hsym, by omega, by omega, fun x y hx hy => ?_, Nat.le_refl _, Nat.le_refl _⟩
    exact (hCC.conn x y (by omega) (by omega)).1 (by rw [hall x (by omega), hall y (by omega)])
  · have es : subsOf S A of sizes size = (keptTo of sizes size of.length).map fun c => (stTo S A of c of.length, adjTo S A of c of.length) := by unfold subsOf; rw [if_neg h]
    simp only [es, List.getElem_map]
    have hi2 : i < (keptTo of sizes size of.length).length := by rw [es, List.length_map] at hi; exact hi
    have hc := List.getElem_mem hi2
    generalize (keptTo of sizes size of.length)[i] = c at hc
    obtain ⟨h0, h1, hsz⟩ := kept_size hCC.part hc
    obtain ⟨_, u, hu, hcu⟩ := (keptTo_mem _ _ _ _ _).1 hc
    have hI := hCC.part.induced hcsr c
    have hml := mbTo_len of c of.length
    have hpos := cntTo_lt of u of.length hu
    rw [hcu] at hpos
    have hle := cntTo_le of c of.length
    have hIl := hI.len
    refine ⟨hI.csr, hI.sym hsym, by omega, by omega, fun x y hx hy => ?_, by omega, ?_⟩
    · obtain ⟨a, a1, a2, a3, _⟩ := mbTo_in of c of.length x (by omega)
      obtain ⟨b, b1, b2, b3, _⟩ := mbTo_in of c of.length y (by omega)
      refine hI.conn hsym x y (by omega) (by omega) ?_
      rw [a3, b3, Int.toNat_natCast, Int.toNat_natCast]
      exact (hCC.conn a b a1 b1).1 (by rw [a2, b2])
    · have h3 := adjTo_le hcsr of c of.length (by omega)
      have h4 := hcsr.st_le of.length (by omega)
      omega
/-- one piece: one class, of all peers -/
theorem SubOK.one {S A HS HA of sizes : List Int} {size : Int} (h : SubOK S A size HS HA) (hCC : CC HS HA of sizes) : sizes.length = 1 ∧ nth sizes 0 = size := by
  have hl := h.len
  have hp := h.pos
  have hn := hCC.part.len
  have hall : ∀ u, u < of.length → nth of u = nth of 0 := fun u hu => (hCC.conn u 0 hu (by omega)).2 (h.conn u 0 (by omega) (by omega))
  have h0 := hCC.part.rng 0 (by omega)
  have hone : sizes.length = 1 := by
    by_cases e : sizes.length = 1
    · exact e
    · obtain ⟨u, hu, he⟩ := hCC.some 0 (by omega)
      obtain ⟨v, hv, hf⟩ := hCC.some 1 (by omega)
      rw [hall u hu] at he
      rw [hall v hv] at hf
      omega
  refine ⟨hone, ?_⟩
  have hc := hCC.part.cnt 0 (by omega)
  rw [cntTo_same of _ of.length fun u hu => by rw [hall u hu]; omega] at hc
  omega
theorem Csr.wf {S A : List Int} (h : Csr S A) (hS : S.length ≤ 70000) : Wf32 A := by
  intro i
  by_cases hi : i < A.length
  · have := h.adj i hi; omega
  · have e : nth A i = 0 := by simp [nth, hi]
    rw [e]; omega
end Go.Proofs.Qxb6605187a
