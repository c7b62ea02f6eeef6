import Derived.Test.Qxb6605187aCsr
namespace Go.Proofs.Qxb6605187a
set_option linter.unusedVariables false

/-! ### What componentsOfSize builds, as plain functions -/
/-- how many of the first v peers are of class c -/
def cntTo (of : List Int) (c : Int) : Nat → Nat
  | 0 => 0
  | v + 1 => cntTo of c v + if nth of v = c then 1 else 0
/-- a peer's number in its class -/
def rk (of : List Int) (v : Nat) : Nat := cntTo of (nth of v) v
theorem cntTo_le (of : List Int) (c : Int) (v : Nat) : cntTo of c v ≤ v := by
  induction v with
  | zero => exact Nat.le_refl _
  | succ v ih => unfold cntTo; split <;> omega
theorem cntTo_mono (of : List Int) (c : Int) (u v : Nat) (h : u ≤ v) : cntTo of c u ≤ cntTo of c v := by
  induction v with
  | zero => have : u = 0 := by omega
            subst this; exact Nat.le_refl _
  | succ v ih =>
    by_cases e : u = v + 1
    · subst e; exact Nat.le_refl _
    · have := ih (by omega)
      have e2 : cntTo of c (v + 1) = cntTo of c v + if nth of v = c then 1 else 0 := rfl
      omega
theorem cntTo_lt (of : List Int) (v n : Nat) (h : v < n) : cntTo of (nth of v) v < cntTo of (nth of v) n := by
  have h1 := cntTo_mono of (nth of v) (v + 1) n h
  have h2 : cntTo of (nth of v) (v + 1) = cntTo of (nth of v) v + 1 := by rw [cntTo, if_pos rfl]
  omega

/-- the start list of class c behind v peers -/
def stTo (S A of : List Int) (c : Int) : Nat → List Int
  | 0 => [0]
  | v + 1 => if nth of v = c then stTo S A of c v ++ [nth (stTo S A of c v) (cntTo of c v) + (nbr S A v).length] else stTo S A of c v
theorem stTo_len (S A of : List Int) (c : Int) (v : Nat) : (stTo S A of c v).length = cntTo of c v + 1 := by
  induction v with
  | zero => rfl
  | succ v ih =>
    unfold stTo cntTo
    split
    · rw [List.length_append, ih]; rfl
    · rw [ih]
theorem stTo_yes (S A of : List Int) (c : Int) (v : Nat) (h : nth of v = c) : stTo S A of c (v + 1) = stTo S A of c v ++ [nth (stTo S A of c v) (cntTo of c v) + (nbr S A v).length] := by rw [stTo, if_pos h]
theorem stTo_no (S A of : List Int) (c : Int) (v : Nat) (h : nth of v ≠ c) : stTo S A of c (v + 1) = stTo S A of c v := by rw [stTo, if_neg h]

/-- the links of class c behind v peers, renumbered -/
def adjTo (S A of : List Int) (c : Int) : Nat → List Int
  | 0 => []
  | v + 1 => if nth of v = c then adjTo S A of c v ++ (nbr S A v).map (fun w => (rk of w.toNat : Int)) else adjTo S A of c v
theorem adjTo_yes (S A of : List Int) (c : Int) (v : Nat) (h : nth of v = c) : adjTo S A of c (v + 1) = adjTo S A of c v ++ (nbr S A v).map (fun w => (rk of w.toNat : Int)) := by rw [adjTo, if_pos h]
theorem adjTo_no (S A of : List Int) (c : Int) (v : Nat) (h : nth of v ≠ c) : adjTo S A of c (v + 1) = adjTo S A of c v := by rw [adjTo, if_neg h]
theorem nth_append_left (xs ys : List Int) (i : Nat) (h : i < xs.length) : nth (xs ++ ys) i = nth xs i := by
  unfold nth
  simp only [List.getD_eq_getElem?_getD]
  rw [List.getElem?_append_left h]
theorem nth_append_at (xs : List Int) (y : Int) (i : Nat) (h : i = xs.length) : nth (xs ++ [y]) i = y := by
  subst h; simp [nth]
/-- the last entry of the start list counts the links -/
theorem stTo_last (S A of : List Int) (c : Int) (v : Nat) : nth (stTo S A of c v) (cntTo of c v) = (adjTo S A of c v).length := by
  induction v with
  | zero => rfl
  | succ v ih =>
    by_cases h : nth of v = c
    · have e1 : cntTo of c (v + 1) = cntTo of c v + 1 := by rw [cntTo, if_pos h]
      rw [stTo_yes _ _ _ _ _ h, adjTo_yes _ _ _ _ _ h, e1, nth_append_at _ _ _ (stTo_len S A of c v).symm, ih, List.length_append, List.length_map]
      omega
    · have e1 : cntTo of c (v + 1) = cntTo of c v := by rw [cntTo, if_neg h]; rfl
      rw [stTo_no _ _ _ _ _ h, adjTo_no _ _ _ _ _ h, e1, ih]
/-- all links together -/
theorem adjTo_le {S A : List Int} (hcsr : Csr S A) (of : List Int) (c : Int) (v : Nat) (hv : v < S.length) : (adjTo S A of c v).length ≤ st S v := by
  induction v with
  | zero => exact Nat.zero_le _
  | succ v ih =>
    have h1 := ih (by omega)
    have h2 := hcsr.nbr_len v hv
    have h3 := hcsr.st_mono v hv
    by_cases h : nth of v = c
    · rw [adjTo_yes _ _ _ _ _ h, List.length_append, List.length_map]; omega
    · rw [adjTo_no _ _ _ _ _ h]; omega

/-- the classes kept behind v peers, in the order of their lowest peers -/
def keptTo (of sizes : List Int) (size : Int) : Nat → List Int
  | 0 => []
  | v + 1 => if nth sizes (nth of v).toNat = size ∧ nth of v ∉ keptTo of sizes size v then keptTo of sizes size v ++ [nth of v] else keptTo of sizes size v
theorem keptTo_mem (of sizes : List Int) (size : Int) (v : Nat) (c : Int) : c ∈ keptTo of sizes size v ↔ nth sizes c.toNat = size ∧ ∃ u, u < v ∧ nth of u = c := by
  induction v with
  | zero => simp [keptTo]
  | succ v ih =>
    unfold keptTo
    split
    · rename_i h
      rw [List.mem_append, ih, List.mem_singleton]
      constructor
      · rintro (⟨h1, u, hu, h2⟩ | h1)
        · exact ⟨h1, u, by omega, h2⟩
        · subst h1; exact ⟨h.1, v, by omega, rfl⟩
      · rintro ⟨h1, u, hu, h2⟩
        by_cases e : u = v
        · subst e; exact .inr h2.symm
        · exact .inl ⟨h1, u, by omega, h2⟩
    · rename_i h
      rw [ih]
      constructor
      · rintro ⟨h1, u, hu, h2⟩; exact ⟨h1, u, by omega, h2⟩
      · rintro ⟨h1, u, hu, h2⟩
        by_cases e : u = v
        · subst e
          subst h2
          by_cases hm : nth of u ∈ keptTo of sizes size u
          · exact ih.1 hm
          · exact absurd ⟨h1, hm⟩ h
        · exact ⟨h1, u, by omega, h2⟩
theorem keptTo_new (of sizes : List Int) (size : Int) (v : Nat) (h1 : nth sizes (nth of v).toNat = size) (h2 : nth of v ∉ keptTo of sizes size v) : keptTo of sizes size (v + 1) = keptTo of sizes size v ++ [nth of v] := by
  rw [keptTo, if_pos ⟨h1, h2⟩]
theorem keptTo_old (of sizes : List Int) (size : Int) (v : Nat) (h : nth of v ∈ keptTo of sizes size v) : keptTo of sizes size (v + 1) = keptTo of sizes size v := by
  rw [keptTo, if_neg (fun hc => hc.2 h)]
theorem keptTo_skip (of sizes : List Int) (size : Int) (v : Nat) (h : nth sizes (nth of v).toNat ≠ size) : keptTo of sizes size (v + 1) = keptTo of sizes size v := by
  rw [keptTo, if_neg (fun hc => h hc.1)]
theorem keptTo_nodup (of sizes : List Int) (size : Int) (v : Nat) : (keptTo of sizes size v).Nodup := by
  induction v with
  | zero => exact List.nodup_nil
  | succ v ih =>
    unfold keptTo
    split
    · rename_i h
      rw [List.nodup_append]
      refine ⟨ih, by simp, fun a ha b hb => ?_⟩
      rw [List.mem_singleton] at hb
      subst hb
      exact fun e => h.2 (e ▸ ha)
    · exact ih

/-- a row of m numbers of which the first are xs -/
def pad (xs : List Int) (m : Nat) : List Int := xs ++ List.replicate (m - xs.length) 0
theorem pad_len (xs : List Int) (m : Nat) (h : xs.length ≤ m) : (pad xs m).length = m := by simp [pad]; omega
theorem pad_nth (xs : List Int) (m i : Nat) (h : i < xs.length) : nth (pad xs m) i = nth xs i := nth_append_left _ _ _ h
theorem pad_push (xs : List Int) (m : Nat) (x : Int) (h : xs.length < m) : (pad xs m).set xs.length x = pad (xs ++ [x]) m := by
  unfold pad
  obtain ⟨d, hd⟩ : ∃ d, m - xs.length = d + 1 := ⟨m - xs.length - 1, by omega⟩
  have e : m - (xs ++ [x]).length = d := by simp; omega
  rw [hd, e, List.replicate_succ, List.set_append_right _ _ (Nat.le_refl _)]
  simp
theorem pad_full (xs : List Int) (m : Nat) (h : xs.length = m) : pad xs m = xs := by
  unfold pad
  rw [h]
  simp

end Go.Proofs.Qxb6605187a
