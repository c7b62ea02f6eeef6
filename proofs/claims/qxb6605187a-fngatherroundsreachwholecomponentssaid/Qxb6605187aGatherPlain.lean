import Derived.Test.Qxb6605187aCsr
namespace Go.Proofs.Qxb6605187a
set_option linter.unusedVariables false

/-! ### Words of 64 bits -/
/-- x is a uint64 -/
def W64 (x : Int) : Prop := 0 ≤ x ∧ x < 18446744073709551616
/-- bit i of the word x -/
def tb (x : Int) (i : Nat) : Bool := (BitVec.ofInt 64 x).getLsbD i

theorem bits_bv (op : BinOp) (b : BitVec 64) : BitVec.ofInt 64 (IntKind.u64.wrap (b.toNat : Int)) = b ∧ W64 (IntKind.u64.wrap (b.toNat : Int)) := by
  have h := b.isLt
  have e : IntKind.u64.wrap (b.toNat : Int) = (b.toNat : Int) := by rw [IntKind.wrap_u64]; omega
  rw [e]
  refine ⟨?_, by unfold W64; omega⟩
  rw [BitVec.ofInt_natCast]
  simp
theorem or_w (x y : Int) : W64 (bits .or .u64 x y) := (bits_bv .or _).2
theorem not_w (x y : Int) : W64 (bits .andNot .u64 x y) := (bits_bv .or _).2
theorem and_w (x y : Int) : W64 (bits .and .u64 x y) := (bits_bv .or _).2
theorem tb_or (x y : Int) (i : Nat) : tb (bits .or .u64 x y) i = (tb x i || tb y i) := by
  unfold tb
  have := (bits_bv .or (BitVec.ofInt 64 x ||| BitVec.ofInt 64 y)).1
  have e : BitVec.ofInt 64 (bits .or .u64 x y) = BitVec.ofInt 64 x ||| BitVec.ofInt 64 y := this
  rw [e, BitVec.getLsbD_or]
theorem tb_and (x y : Int) (i : Nat) : tb (bits .and .u64 x y) i = (tb x i && tb y i) := by
  unfold tb
  have := (bits_bv .or (BitVec.ofInt 64 x &&& BitVec.ofInt 64 y)).1
  have e : BitVec.ofInt 64 (bits .and .u64 x y) = BitVec.ofInt 64 x &&& BitVec.ofInt 64 y := this
  rw [e, BitVec.getLsbD_and]
theorem tb_not (x y : Int) (i : Nat) : tb (bits .andNot .u64 x y) i = (tb x i && !tb y i) := by
  unfold tb
  have := (bits_bv .or (BitVec.ofInt 64 x &&& ~~~ BitVec.ofInt 64 y)).1
  have e : BitVec.ofInt 64 (bits .andNot .u64 x y) = BitVec.ofInt 64 x &&& ~~~ BitVec.ofInt 64 y := this
  rw [e, BitVec.getLsbD_and, BitVec.getLsbD_not]
  by_cases hi : i < 64
  · simp [hi]
  · have h1 : (BitVec.ofInt 64 x).getLsbD i = false := BitVec.getLsbD_of_ge _ _ (by omega)
    simp [h1]
theorem tb_zero (i : Nat) : tb 0 i = false := by simp [tb]
theorem w64_ext {x y : Int} (hx : W64 x) (hy : W64 y) (h : ∀ i, tb x i = tb y i) : x = y := by
  obtain ⟨a, rfl⟩ := Int.eq_ofNat_of_zero_le hx.1
  obtain ⟨b, rfl⟩ := Int.eq_ofNat_of_zero_le hy.1
  have ha : a < 2 ^ 64 := by have := hx.2; omega
  have hb : b < 2 ^ 64 := by have := hy.2; omega
  have e : BitVec.ofInt 64 (a : Int) = BitVec.ofInt 64 (b : Int) := BitVec.eq_of_getLsbD_eq (fun i _ => h i)
  rw [BitVec.ofInt_natCast, BitVec.ofInt_natCast] at e
  have e2 := congrArg BitVec.toNat e
  rw [BitVec.toNat_ofNat, BitVec.toNat_ofNat, Nat.mod_eq_of_lt ha, Nat.mod_eq_of_lt hb] at e2
  rw [e2]

/-- no bit of x lies outside a -/
def Inside (x a : Int) : Prop := ∀ i, tb x i = true → tb a i = true
theorem inside_zero (a : Int) : Inside 0 a := fun i h => by rw [tb_zero] at h; cases h
theorem inside_or {x y a : Int} (hx : Inside x a) (hy : Inside y a) : Inside (bits .or .u64 x y) a := fun i h => by
  rw [tb_or, Bool.or_eq_true] at h
  rcases h with h | h
  · exact hx i h
  · exact hy i h
theorem inside_of_not {x a : Int} (h : bits .andNot .u64 x a = 0) : Inside x a := fun i hi => by
  have h1 := tb_not x a i
  rw [h, tb_zero, hi] at h1
  simpa using h1.symm
theorem or_zero {x : Int} (hx : W64 x) : bits .or .u64 x 0 = x := w64_ext (or_w _ _) hx fun i => by rw [tb_or, tb_zero]; simp

/-- the words of the first j peers of l, joined -/
def orTo (fr l : List Int) : Nat → Int
  | 0 => 0
  | j + 1 => bits .or .u64 (orTo fr l j) (nth fr (nth l j).toNat)
theorem orTo_w (fr l : List Int) (j : Nat) : W64 (orTo fr l j) := by
  cases j with
  | zero => unfold orTo W64; omega
  | succ j => exact or_w _ _
theorem orTo_inside {fr l : List Int} {a : Int} (h : ∀ i, Inside (nth fr i) a) (j : Nat) : Inside (orTo fr l j) a := by
  induction j with
  | zero => exact inside_zero a
  | succ j ih => exact inside_or ih (h _)
theorem orTo_tb (fr l : List Int) (j i : Nat) : tb (orTo fr l j) i = true ↔ ∃ k, k < j ∧ tb (nth fr (nth l k).toNat) i = true := by
  induction j with
  | zero => simp [orTo, tb_zero]
  | succ j ih =>
    rw [orTo, tb_or, Bool.or_eq_true, ih]
    constructor
    · rintro (⟨k, hk, h⟩ | h)
      · exact ⟨k, by omega, h⟩
      · exact ⟨j, by omega, h⟩
    · rintro ⟨k, hk, h⟩
      by_cases e : k = j
      · subst e; exact .inr h
      · exact .inl ⟨k, by omega, h⟩
theorem orTo_mono (fr l : List Int) {j k : Nat} (h : j ≤ k) (i : Nat) (hi : tb (orTo fr l j) i = true) : tb (orTo fr l k) i = true := by
  rw [orTo_tb] at hi ⊢
  obtain ⟨m, hm, h2⟩ := hi
  exact ⟨m, by omega, h2⟩

/-- the bits that reach v at this hop -/
def fresh (S A seen fr : List Int) (v : Nat) : Int := bits .andNot .u64 (orTo fr (nbr S A v) (nbr S A v).length) (nth seen v)
theorem fresh_w (S A seen fr : List Int) (v : Nat) : W64 (fresh S A seen fr v) := not_w _ _

/-- the early end of the look changes nothing -/
theorem fresh_early {S A seen fr : List Int} {v j : Nat} {all : Int} (hf : ∀ i, Inside (nth fr i) all) (hj : j ≤ (nbr S A v).length)
    (h : j = (nbr S A v).length ∨ bits .or .u64 (orTo fr (nbr S A v) j) (nth seen v) = all) : bits .andNot .u64 (orTo fr (nbr S A v) j) (nth seen v) = fresh S A seen fr v := by
  rcases h with h | h
  · rw [h]; rfl
  · refine w64_ext (not_w _ _) (not_w _ _) fun i => ?_
    unfold fresh
    rw [tb_not, tb_not]
    cases hs : tb (nth seen v) i with
    | true => simp
    | false =>
      simp
      have h1 := tb_or (orTo fr (nbr S A v) j) (nth seen v) i
      rw [h, hs, Bool.or_false] at h1
      rw [Bool.eq_iff_iff]
      constructor
      · exact orTo_mono fr _ hj i
      · intro h2
        rw [← h1]
        exact orTo_inside hf _ i h2
/-- where all is seen nothing is fresh -/
theorem fresh_full {S A seen fr : List Int} {v : Nat} {all : Int} (hf : ∀ i, Inside (nth fr i) all) (h : nth seen v = all) : fresh S A seen fr v = 0 := by
  refine w64_ext (not_w _ _) (by unfold W64; omega) fun i => ?_
  unfold fresh
  rw [tb_not, h, tb_zero]
  cases ha : tb all i with
  | true => simp
  | false =>
    cases ho : tb (orTo fr (nbr S A v) (nbr S A v).length) i with
    | false => rfl
    | true => rw [orTo_inside hf _ i ho] at ha; cases ha

/-- what v has seen behind this hop -/
def seenNow (S A seen fr : List Int) (v : Nat) : Int := bits .or .u64 (nth seen v) (fresh S A seen fr v)
def reachTo (S A seen fr : List Int) : Nat → Int
  | 0 => 0
  | k + 1 => bits .or .u64 (reachTo S A seen fr k) (fresh S A seen fr k)
theorem reachTo_w (S A seen fr : List Int) (k : Nat) : W64 (reachTo S A seen fr k) := by
  cases k with
  | zero => unfold reachTo W64; omega
  | succ k => exact or_w _ _
theorem reachTo_no (S A seen fr : List Int) (k : Nat) (h : fresh S A seen fr k = 0) : reachTo S A seen fr (k + 1) = reachTo S A seen fr k := by
  rw [reachTo, h, or_zero (reachTo_w _ _ _ _ _)]
def pushTo (S A seen fr : List Int) : Nat → Nat
  | 0 => 0
  | k + 1 => pushTo S A seen fr k + if fresh S A seen fr k = 0 then 0 else (nbr S A k).length
def gathTo (S A seen fr : List Int) (all : Int) : Nat → Nat
  | 0 => 0
  | k + 1 => gathTo S A seen fr all k + if seenNow S A seen fr k = all then 0 else (nbr S A k).length

theorem pushTo_le {S A : List Int} (hcsr : Csr S A) (seen fr : List Int) (k : Nat) (hk : k < S.length) : pushTo S A seen fr k ≤ st S k := by
  induction k with
  | zero => exact Nat.zero_le _
  | succ k ih =>
    have h1 := ih (by omega)
    have h2 := hcsr.nbr_len k hk
    have h3 := hcsr.st_mono k hk
    unfold pushTo
    split <;> omega
theorem gathTo_le {S A : List Int} (hcsr : Csr S A) (seen fr : List Int) (all : Int) (k : Nat) (hk : k < S.length) : gathTo S A seen fr all k ≤ st S k := by
  induction k with
  | zero => exact Nat.zero_le _
  | succ k ih =>
    have h1 := ih (by omega)
    have h2 := hcsr.nbr_len k hk
    have h3 := hcsr.st_mono k hk
    unfold gathTo
    split <;> omega

end Go.Proofs.Qxb6605187a
