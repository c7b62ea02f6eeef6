import Derived.Test.Qxb6603870aDoorKit
import Derived.Lib.ItoaNum
import Derived.Lib.UnsafeStr
namespace Go.Proofs.Qxb6603870aDoor
set_option linter.unusedVariables false

/-- the decimal digits of u, as bytes -/
def dig (u : Nat) : List Int :=
  if h : u < 10 then [(48 + u : Nat)] else dig (u / 10) ++ [((48 + u % 10 : Nat) : Int)]
termination_by u
decreasing_by omega
theorem dig_one {u : Nat} (h : u < 10) : dig u = [((48 + u : Nat) : Int)] := by rw [dig, dif_pos h]
theorem dig_more {u : Nat} (h : ¬ u < 10) : dig u = dig (u / 10) ++ [((48 + u % 10 : Nat) : Int)] := by rw [dig, dif_neg h]
theorem dig_pos (u : Nat) : 1 ≤ (dig u).length := by
  by_cases h : u < 10
  · rw [dig_one h]; exact Nat.le_refl _
  · rw [dig_more h, List.length_append]; exact Nat.le_add_left _ _
/-- the library's digits are these -/
theorem cells_dig (u : Nat) : Lib.byteCells (Lib.decDigits u) = (dig u).map (Value.int .u8) := by
  induction u using Nat.strongRecOn with
  | _ u ih =>
    have hb : ∀ d, d < 10 → Lib.byteCells [UInt8.ofNat (48 + d)] = [((48 + d : Nat) : Int)].map (Value.int .u8) := by
      intro d hd
      simp only [Lib.byteCells, List.map_cons, List.map_nil, List.cons.injEq, and_true]
      congr 1
      rw [UInt8.toNat_ofNat']
      omega
    by_cases h : u < 10
    · rw [dig_one h, Lib.decDigits_one h]
      exact hb u h
    · rw [dig_more h, Lib.decDigits, dif_neg h]
      have h1 := ih (u / 10) (by omega)
      have h2 := hb (u % 10) (by omega)
      unfold Lib.byteCells at h1 h2 ⊢
      rw [List.map_append, List.map_append, h1, h2]
theorem len_dig (u : Nat) : (Lib.decDigits u).length = (dig u).length := by
  have h := congrArg List.length (cells_dig u)
  rwa [Lib.byteCells_length, List.length_map] at h
/-- p digits of u, from the right -/
def wid : Nat → Nat → List Int
  | _, 0 => []
  | u, p + 1 => wid (u / 10) p ++ [((48 + u % 10 : Nat) : Int)]
theorem wid_len (u p : Nat) : (wid u p).length = p := by
  induction p generalizing u with
  | zero => rfl
  | succ p ih => rw [wid, List.length_append, ih]; rfl
def zer (k : Nat) : List Int := List.replicate k 48
theorem zer_len (k : Nat) : (zer k).length = k := by simp [zer]
theorem zer_succ (k : Nat) : zer (k + 1) = zer k ++ [48] := by
  unfold zer
  rw [List.replicate_succ']
theorem wid_zero (p : Nat) : wid 0 p = zer p := by
  induction p with
  | zero => rfl
  | succ p ih => rw [wid, zer_succ, Nat.zero_div, ih]; rfl
theorem wid_small (u p : Nat) (hp : 1 ≤ p) (h : u < 10 ^ p) : (dig u).length ≤ p ∧ wid u p = zer (p - (dig u).length) ++ dig u := by
  induction p generalizing u with
  | zero => omega
  | succ p ih =>
    rw [wid]
    by_cases hu : u < 10
    · rw [dig_one hu, show u / 10 = 0 by omega, wid_zero, show u % 10 = u by omega]
      refine ⟨by simp, ?_⟩
      simp
    · have hp0 : 1 ≤ p := by
        rcases Nat.eq_zero_or_pos p with e | e
        · subst e; simp at h; omega
        · exact e
      have hd : u / 10 < 10 ^ p := by
        rw [Nat.pow_succ] at h
        omega
      obtain ⟨h1, h2⟩ := ih (u / 10) hp0 hd
      rw [dig_more hu, List.length_append, h2]
      refine ⟨by simp; omega, ?_⟩
      rw [show p + 1 - ((dig (u / 10)).length + [((48 + u % 10 : Nat) : Int)].length) = p - (dig (u / 10)).length by simp, List.append_assoc]
theorem wid_mod (u p : Nat) : wid (u % 10 ^ p) p = wid u p := by
  induction p generalizing u with
  | zero => rfl
  | succ p ih =>
    rw [wid, wid]
    have e1 : u % 10 ^ (p + 1) / 10 = (u / 10) % 10 ^ p := by
      rw [Nat.pow_succ, Nat.mul_comm, Nat.mod_mul_right_div_self]
    have e2 : u % 10 ^ (p + 1) % 10 = u % 10 := by
      rw [Nat.pow_succ, Nat.mul_comm]
      exact Nat.mod_mul_right_mod _ _ _
    rw [e1, e2, ih]
theorem dig_wid (u p : Nat) : dig (u / 10 ^ p) ++ wid u p = zer (p + 1 - (dig u).length) ++ dig u := by
  induction p generalizing u with
  | zero =>
    have := dig_pos u
    rw [show 0 + 1 - (dig u).length = 0 by omega]
    simp [wid, zer]
  | succ p ih =>
    have e : u / 10 ^ (p + 1) = (u / 10) / 10 ^ p := by rw [Nat.pow_succ, Nat.mul_comm, Nat.div_div_eq_div_mul]
    rw [wid, e, ← List.append_assoc, ih (u / 10)]
    by_cases hu : u < 10
    · rw [show u / 10 = 0 by omega, dig_one (show 0 < 10 by omega), dig_one hu, show u % 10 = u by omega]
      have e2 : [((48 + 0 : Nat) : Int)] = [48] := rfl
      rw [e2, show p + 1 - [(48 : Int)].length = p by simp, show p + 1 + 1 - [((48 + u : Nat) : Int)].length = p + 1 by simp, zer_succ]
    · have hl := dig_more hu
      rw [hl, List.length_append, List.append_assoc]
      rw [show p + 1 + 1 - ((dig (u / 10)).length + [((48 + u % 10 : Nat) : Int)].length) = p + 1 - (dig (u / 10)).length by simp]
/-- the part behind the point -/
theorem frac_eq (u p : Nat) (hp : 1 ≤ p) : (dig (u % 10 ^ p)).length ≤ p ∧ zer (p - (dig (u % 10 ^ p)).length) ++ dig (u % 10 ^ p) = wid u p := by
  have h := wid_small (u % 10 ^ p) p hp (Nat.mod_lt _ (Nat.pow_pos (by omega)))
  exact ⟨h.1, by rw [← h.2, wid_mod]⟩
/-- sign -/
def sgn (v : Int) : List Int := if v < 0 then [45] else []
/-- what appendFixed appends -/
def fixedOf (v : Int) (p : Nat) : List Int := sgn v ++ dig (v.natAbs / 10 ^ p) ++ [46] ++ wid v.natAbs p
theorem dig_byte (u : Nat) : ∀ x ∈ dig u, 48 ≤ x ∧ x ≤ 57 := by
  induction u using Nat.strongRecOn with
  | _ u ih =>
    intro x hx
    by_cases h : u < 10
    · rw [dig_one h] at hx
      simp at hx; omega
    · rw [dig_more h] at hx
      rcases List.mem_append.1 hx with hx | hx
      · exact ih (u / 10) (by omega) x hx
      · simp at hx; omega
theorem wid_byte (u p : Nat) : ∀ x ∈ wid u p, 48 ≤ x ∧ x ≤ 57 := by
  induction p generalizing u with
  | zero => intro x hx; exact absurd hx (by simp [wid])
  | succ p ih =>
    intro x hx
    rw [wid] at hx
    rcases List.mem_append.1 hx with hx | hx
    · exact ih _ x hx
    · simp at hx; omega
/-- a number below 2^64 has at most 20 digits -/
theorem dig_len_pow (u p : Nat) (hp : 1 ≤ p) (h : u < 10 ^ p) : (dig u).length ≤ p := (wid_small u p hp h).1
end Go.Proofs.Qxb6603870aDoor
