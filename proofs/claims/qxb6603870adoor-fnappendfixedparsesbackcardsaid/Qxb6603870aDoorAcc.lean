import Derived.Test.Qxb6603870aDoorDec
namespace Go.Proofs.Qxb6603870aDoor
open Go.RowKit
set_option linter.unusedVariables false

/-- the number that digits add to u -/
def val (u : Nat) (D : List Int) : Nat := D.foldl (fun s x => s * 10 + (x - 48).toNat) u
theorem val_push (u : Nat) (D : List Int) (x : Int) : val u (D ++ [x]) = val u D * 10 + (x - 48).toNat := by simp [val]
theorem val_le (u : Nat) (A B : List Int) : val u A ≤ val u (A ++ B) := by
  unfold val
  rw [List.foldl_append]
  generalize A.foldl (fun s x => s * 10 + (x - 48).toNat) u = s
  induction B generalizing s with
  | nil => exact Nat.le_refl _
  | cons b B ih => exact Nat.le_trans (by omega) (ih (s * 10 + (b - 48).toNat))
theorem val_dig (u : Nat) : val 0 (dig u) = u := by
  induction u using Nat.strongRecOn with
  | _ u ih =>
    by_cases h : u < 10
    · rw [dig_one h]
      simp only [val, List.foldl_cons, List.foldl_nil]
      omega
    · rw [dig_more h, val_push, ih (u / 10) (by omega)]
      omega
theorem val_wid (q u p : Nat) : val q (wid u p) = q * 10 ^ p + u % 10 ^ p := by
  induction p generalizing u with
  | zero => simp [wid, val, Nat.mod_one]
  | succ p ih =>
    rw [wid, val_push, ih, Nat.pow_succ, Nat.mul_comm (10 ^ p) 10, Nat.mod_mul, ← Nat.mul_assoc, Nat.mul_comm q 10, Nat.mul_assoc]
    have e : (((48 + u % 10 : Nat) : Int) - 48).toNat = u % 10 := by omega
    rw [e]
    generalize q * 10 ^ p = A
    generalize u / 10 % 10 ^ p = B
    omega
theorem taken (xs : List Int) (i : Nat) (h : i < xs.length) : xs.take (i + 1) = xs.take i ++ [nth xs i] := by
  have : nth xs i = xs[i] := by simp [nth, h]
  rw [this, List.take_succ_eq_append_getElem h]
theorem dig_lead (q : Nat) (h : 1 ≤ q) : nth (dig q) 0 ≠ 48 := by
  induction q using Nat.strongRecOn with
  | _ q ih =>
    by_cases h1 : q < 10
    · rw [dig_one h1]
      show ((48 + q : Nat) : Int) ≠ 48
      omega
    · rw [dig_more h1, nth_app_left _ _ _ (by have := dig_pos (q / 10); omega)]
      exact ih (q / 10) (by omega) (by omega)

/-- isDigitB1 -/
theorem isdig_yes (c : Int) (w : World) (h : 48 ≤ c ∧ c ≤ 57) : Calls Tryd.prog 19 #[.int .u8 c] w fun e w' => e = .returned (.bool true) ∧ w' = w := by
  have h1 : decide (48 ≤ c) = true := decide_eq_true h.1
  have h2 : decide (c ≤ 57) = true := decide_eq_true h.2
  go_enter Tryd.func19, Tryd.ntmps19
  go_wp2
  go_ret
  exact ⟨rfl, rfl⟩
theorem isdig_no (c : Int) (w : World) (h : c < 48) : Calls Tryd.prog 19 #[.int .u8 c] w fun e w' => e = .returned (.bool false) ∧ w' = w := by
  have h1 : decide (48 ≤ c) = false := decide_eq_false (by omega)
  go_enter Tryd.func19, Tryd.ntmps19
  go_wp2
  go_ret
  exact ⟨rfl, rfl⟩

/-- from place i on t holds the digits D, and then no digit -/
structure Seg (t : List Int) (i : Nat) (D : List Int) : Prop where
  at' : ∀ j, j < D.length → nth t (i + j) = nth D j
  dg : ∀ j, j < D.length → 48 ≤ nth D j ∧ nth D j ≤ 57
  le : i + D.length ≤ t.length
  stop : i + D.length < t.length → nth t (i + D.length) < 48

set_option maxHeartbeats 4000000 in
set_option maxRecDepth 100000 in
/-- accDigitsB1 -/
theorem acc_any (U : Nat → Prop) (ta : Option Addr) (c : Nat) (t : List Int) (i u : Nat) (D : List Int) (w : World) (hl : t.length ≤ 2097152) (hV : View U w .u8 ta t) (hS : Seg t i D) (hb : val u D < 18446744073709551616) :
    Calls Tryd.prog 23 #[.slice ta t.length c, .int .i64 i, .int .u64 u] w fun e w' => e = .returned (.tuple #[.int .i64 ((i + D.length : Nat) : Int), .int .u64 (val u D : Int), .bool true]) ∧ w' = w := by
  have HS : Hid (Seg t i D) := hS
  have Hb : Hid (val u D < 18446744073709551616) := hb
  clear hS hb
  go_enter Tryd.func23, Tryd.ntmps23
  go_wp2
  go_loop [1, 2] (fun iv uv => ∃ k : Nat, k ≤ D.length ∧ iv = .int .i64 (i + k : Nat) ∧ uv = .int .u64 (val u (D.take k) : Int)) (fun iv _ => t.length + 1 - (intOf iv).toNat)
  case atStart => exact ⟨0, Nat.zero_le _, rfl, by simp [val]⟩
  case round =>
    obtain ⟨k, hk, rfl, rfl⟩ := hrel
    have hle := HS.out.le
    by_cases hlt : k < D.length
    · have hdg := HS.out.dg k hlt
      obtain ⟨b, off, hbU, rfl, hc⟩ := hV.at (by omega)
      have y := hc (i + k) (by omega)
      rw [HS.out.at' k hlt] at y
      have Hd : Hid _ := isdig_yes (nth D k) w hdg
      obtain ⟨d, hd⟩ : ∃ d : Nat, nth D k = 48 + d := ⟨(nth D k - 48).toNat, by omega⟩
      have hd9 : d ≤ 9 := by omega
      obtain ⟨s, hs⟩ : ∃ s, s = val u (D.take k) := ⟨_, rfl⟩
      have hs2 : Hid (val u (D.take (k + 1)) = s * 10 + d) := by
        unfold Hid
        rw [taken _ _ hlt, val_push, hd, hs]
        omega
      have hsb : s * 10 + d < 18446744073709551616 := by
        have h1 := val_le u (D.take (k + 1)) (D.drop (k + 1))
        rw [List.take_append_drop] at h1
        have h2 := Hb.out
        have h3 := hs2.out
        omega
      rw [hd] at y Hd
      rw [← hs]
      have i1 : ((i + k : Nat) : Int) < (t.length : Int) := by omega
      have m1 : IntKind.u8.wrap (48 + (d : Int) - 48) = (d : Int) := by rw [IntKind.wrap_u8]; omega
      have m2 : IntKind.u64.wrap (d : Int) = (d : Int) := by rw [IntKind.wrap_u64]; omega
      have m3 : IntKind.u64.wrap (18446744073709551615 - (d : Int)) = 18446744073709551615 - (d : Int) := by rw [IntKind.wrap_u64]; omega
      have m4 : (18446744073709551615 - (d : Int)).tdiv 10 = (18446744073709551615 - (d : Int)) / 10 := Int.tdiv_eq_ediv_of_nonneg (by omega)
      have m5 : IntKind.u64.wrap ((18446744073709551615 - (d : Int)) / 10) = (18446744073709551615 - (d : Int)) / 10 := by rw [IntKind.wrap_u64]; omega
      have m6 : decide ((18446744073709551615 - (d : Int)) / 10 < (s : Int)) = false := decide_eq_false (by omega)
      have m7 : IntKind.u64.wrap ((s : Int) * 10) = (s : Int) * 10 := by rw [IntKind.wrap_u64]; omega
      have m8 : IntKind.u64.wrap ((s : Int) * 10 + (d : Int)) = (s : Int) * 10 + (d : Int) := by rw [IntKind.wrap_u64]; omega
      clear hc hd hs hdg hV
      go_wp2_with fail
      refine Calls.mono Hd.out ?_
      rintro e w1 ⟨rfl, rfl⟩
      go_wp2
      go_round
      case rel => exact ⟨k + 1, by omega, by go_num, by rw [hs2.out]; go_num⟩
      case measure => simp [intOf]; omega
    · obtain rfl : k = D.length := by omega
      rw [List.take_length]
      clear hlt hk
      by_cases hend : i + D.length < t.length
      · have hst := HS.out.stop hend
        obtain ⟨b, off, hbU, rfl, hc⟩ := hV.at (by omega)
        have y := hc (i + D.length) hend
        have Hd : Hid _ := isdig_no (nth t (i + D.length)) w hst
        have i1 : ((i + D.length : Nat) : Int) < (t.length : Int) := by omega
        clear hc hV
        go_wp2_with fail
        refine Calls.mono Hd.out ?_
        rintro e w1 ⟨rfl, rfl⟩
        go_wp2
        go_ret3
        exact ⟨rfl, rfl⟩
      · have i1 : decide (((i + D.length : Nat) : Int) < (t.length : Int)) = false := decide_eq_false (by omega)
        have i2 : decide (i + D.length < t.length) = false := decide_eq_false (by omega)
        clear hV
        go_wp2
        go_ret3
        exact ⟨rfl, rfl⟩
end Go.Proofs.Qxb6603870aDoor
