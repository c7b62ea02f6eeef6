import Derived.Test.Qxb6605187aCsr
namespace Go.Proofs.Qxb6605187a
set_option linter.unusedVariables false

/-! ### What pickSources computes, as plain functions -/

/-- how many of the peers l are marked in cov -/
def cnt (cov : List Bool) (l : List Int) : Nat := (l.filter (fun x => nthB cov x.toNat)).length
theorem cnt_le (cov : List Bool) (l : List Int) : cnt cov l ≤ l.length := List.length_filter_le _ _
theorem cnt_nil (cov : List Bool) : cnt cov [] = 0 := rfl
theorem take_succ_nth (l : List Int) (j : Nat) (h : j < l.length) : l.take (j + 1) = l.take j ++ [nth l j] := by
  rw [List.take_succ_eq_append_getElem h]
  simp [nth, h]
theorem cnt_snoc (cov : List Bool) (l : List Int) (j : Nat) (h : j < l.length) : cnt cov (l.take (j + 1)) = cnt cov (l.take j) + if nthB cov (nth l j).toNat then 1 else 0 := by
  unfold cnt
  rw [take_succ_nth l j h, List.filter_append, List.length_append]
  cases hb : nthB cov (nth l j).toNat <;> simp [hb]

/-- how many marked peers v holds, with its neighbours -/
def hold (S A : List Int) (cov : List Bool) (v : Nat) : Nat := (if nthB cov v then 1 else 0) + cnt cov (nbr S A v)

/-- what v holds, among itself and its first j neighbours -/
def holdTo (S A : List Int) (cov : List Bool) (v j : Nat) : Nat := (if nthB cov v then 1 else 0) + cnt cov ((nbr S A v).take j)
theorem holdTo_zero (S A : List Int) (cov : List Bool) (v : Nat) : holdTo S A cov v 0 = if nthB cov v then 1 else 0 := by simp [holdTo, cnt]
theorem holdTo_yes (S A : List Int) (cov : List Bool) (v j : Nat) (h : j < (nbr S A v).length) (hb : nthB cov (nth (nbr S A v) j).toNat = true) : holdTo S A cov v (j + 1) = holdTo S A cov v j + 1 := by
  unfold holdTo; rw [cnt_snoc _ _ _ h, hb]; simp; omega
theorem holdTo_no (S A : List Int) (cov : List Bool) (v j : Nat) (h : j < (nbr S A v).length) (hb : nthB cov (nth (nbr S A v) j).toNat = false) : holdTo S A cov v (j + 1) = holdTo S A cov v j := by
  unfold holdTo; rw [cnt_snoc _ _ _ h, hb]; simp
theorem holdTo_full (S A : List Int) (cov : List Bool) (v j : Nat) (h : (nbr S A v).length ≤ j) : holdTo S A cov v j = hold S A cov v := by
  unfold holdTo hold; rw [List.take_of_length_le h]
theorem holdTo_le (S A : List Int) (cov : List Bool) (v j : Nat) : holdTo S A cov v j ≤ j + 1 := by
  unfold holdTo
  have := cnt_le cov ((nbr S A v).take j)
  have := List.length_take_le j (nbr S A v)
  split <;> omega
theorem hold_le (S A : List Int) (cov : List Bool) (v : Nat) : hold S A cov v ≤ (nbr S A v).length + 1 := by
  unfold hold
  have := cnt_le cov (nbr S A v)
  split <;> omega

/-- the marks of l struck -/
def clr (cov : List Bool) (l : List Int) : List Bool := l.foldl (fun c x => c.set x.toNat false) cov
theorem clr_len (cov : List Bool) (l : List Int) : (clr cov l).length = cov.length := by
  unfold clr
  induction l generalizing cov with
  | nil => rfl
  | cons x l ih => rw [List.foldl_cons, ih]; simp
theorem clr_snoc (cov : List Bool) (l : List Int) (j : Nat) (h : j < l.length) : clr cov (l.take (j + 1)) = (clr cov (l.take j)).set (nth l j).toNat false := by
  unfold clr
  rw [take_succ_nth l j h, List.foldl_append]
  rfl
/-- the marks of v and its neighbours struck -/
def strike (S A : List Int) (cov : List Bool) (v : Nat) : List Bool := clr (cov.set v false) (nbr S A v)
theorem strike_len (S A : List Int) (cov : List Bool) (v : Nat) : (strike S A cov v).length = cov.length := by
  unfold strike; rw [clr_len]; simp

/-- the state of the greedy picking -/
structure PS where
  cov : List Bool
  B : List (List Int)
  picked : List Int
  done : Bool

/-- the j-th list -/
def bAt (B : List (List Int)) (j : Nat) : List Int := B.getD j []
def bput (B : List (List Int)) (h : Nat) (x : Int) : List (List Int) := B.set h (bAt B h ++ [x])
theorem bput_len (B : List (List Int)) (h : Nat) (x : Int) : (bput B h x).length = B.length := by simp [bput]
theorem bput_same (B : List (List Int)) (h : Nat) (x : Int) (hh : h < B.length) : bAt (bput B h x) h = bAt B h ++ [x] := by
  simp [bput, bAt, hh]
theorem bput_other (B : List (List Int)) (h j : Nat) (x : Int) (hj : j ≠ h) : bAt (bput B h x) j = bAt B j := by
  unfold bput bAt
  simp only [List.getD_eq_getElem?_getD]
  rw [List.getElem?_set, if_neg (fun e => hj e.symm)]

/-- one peer of bucket k is looked at -/
def pstep (S A : List Int) (count k : Nat) (s : PS) (x : Int) : PS :=
  if s.done then s else
  if hold S A s.cov x.toNat < k then
    (if 0 < hold S A s.cov x.toNat then { s with B := bput s.B (hold S A s.cov x.toNat) x } else s)
  else if s.picked.length + 1 = count then { s with picked := s.picked ++ [x], done := true }
  else { s with picked := s.picked ++ [x], cov := strike S A s.cov x.toNat }

def plist (S A : List Int) (count k : Nat) (l : List Int) (s : PS) : PS := l.foldl (pstep S A count k) s
def plevel (S A : List Int) (count k : Nat) (s : PS) : PS := plist S A count k (bAt s.B k) s
def plevels (S A : List Int) (count : Nat) : Nat → PS → PS
  | 0, s => s
  | k + 1, s => plevels S A count k (plevel S A count (k + 1) s)

theorem pstep_done {S A : List Int} {count k : Nat} {s : PS} {x : Int} (h : s.done = true) : pstep S A count k s x = s := by
  unfold pstep; rw [if_pos h]
theorem plist_done {S A : List Int} {count k : Nat} (l : List Int) {s : PS} (h : s.done = true) : plist S A count k l s = s := by
  unfold plist
  induction l with
  | nil => rfl
  | cons x l ih => rw [List.foldl_cons, pstep_done h, ih]
theorem plevels_done {S A : List Int} {count : Nat} (k : Nat) {s : PS} (h : s.done = true) : plevels S A count k s = s := by
  induction k with
  | zero => rfl
  | succ k ih => rw [plevels, plevel, plist_done _ h, ih]
theorem plist_snoc (S A : List Int) (count k : Nat) (l : List Int) (j : Nat) (h : j < l.length) (s : PS) :
    plist S A count k (l.take (j + 1)) s = pstep S A count k (plist S A count k (l.take j) s) (nth l j) := by
  unfold plist
  rw [take_succ_nth l j h, List.foldl_append]
  rfl
theorem plist_split (S A : List Int) (count k : Nat) (l : List Int) (j : Nat) (s : PS) :
    plist S A count k l s = plist S A count k (l.drop j) (plist S A count k (l.take j) s) := by
  unfold plist
  rw [← List.foldl_append, List.take_append_drop]

/-- the marks at the start -/
def cov0 (upper : List Int) (found : Int) : List Bool := upper.map (fun u => decide (found < u))
theorem cov0_len (upper : List Int) (found : Int) : (cov0 upper found).length = upper.length := by simp [cov0]
theorem cov0_nth (upper : List Int) (found : Int) (i : Nat) (h : i < upper.length) : nthB (cov0 upper found) i = decide (found < nth upper i) := by
  simp [nthB, cov0, nth, h]

/-- the buckets behind i peers -/
def bfill (gain : List Int) (K : Nat) : Nat → List (List Int)
  | 0 => List.replicate (K + 1) []
  | i + 1 => if 0 < nth gain i then bput (bfill gain K i) (nth gain i).toNat i else bfill gain K i
theorem bfill_len (gain : List Int) (K i : Nat) : (bfill gain K i).length = K + 1 := by
  induction i with
  | zero => simp [bfill]
  | succ i ih =>
    unfold bfill
    split
    · rw [bput_len, ih]
    · exact ih

theorem bfill_yes (gain : List Int) (K i : Nat) (h : 0 < nth gain i) : bfill gain K (i + 1) = bput (bfill gain K i) (nth gain i).toNat i := by
  rw [bfill, if_pos h]
theorem bfill_no (gain : List Int) (K i : Nat) (h : ¬ 0 < nth gain i) : bfill gain K (i + 1) = bfill gain K i := by
  rw [bfill, if_neg h]

/-- the greatest of the first i + 1 numbers -/
def mx (xs : List Int) : Nat → Int
  | 0 => nth xs 0
  | i + 1 => max (mx xs i) (nth xs (i + 1))
theorem mx_le (xs : List Int) (i j : Nat) (h : j ≤ i) : nth xs j ≤ mx xs i := by
  induction i with
  | zero => have : j = 0 := by omega
            subst this; exact Int.le_refl _
  | succ i ih =>
    unfold mx
    by_cases e : j = i + 1
    · subst e; omega
    · have := ih (by omega); omega
theorem mx_mem (xs : List Int) (i : Nat) : ∃ j, j ≤ i ∧ mx xs i = nth xs j := by
  induction i with
  | zero => exact ⟨0, Nat.le_refl _, rfl⟩
  | succ i ih =>
    obtain ⟨j, hj, e⟩ := ih
    unfold mx
    by_cases h : mx xs i ≤ nth xs (i + 1)
    · exact ⟨i + 1, Nat.le_refl _, by omega⟩
    · exact ⟨j, by omega, by omega⟩

/-- all of pickSources -/
def pickRun (S A gain upper : List Int) (found : Int) (count : Nat) : PS :=
  plevels S A count (mx gain (gain.length - 1)).toNat ⟨cov0 upper found, bfill gain (mx gain (gain.length - 1)).toNat gain.length, [], false⟩

end Go.Proofs.Qxb6605187a
