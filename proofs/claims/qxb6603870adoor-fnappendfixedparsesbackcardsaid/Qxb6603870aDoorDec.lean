import Derived.Test.Qxb6603870aDoorSmall
namespace Go.Proofs.Qxb6603870aDoor
open Go.RowKit
set_option linter.unusedVariables false

theorem nth_app_left (xs ys : List Int) (i : Nat) (h : i < xs.length) : nth (xs ++ ys) i = nth xs i := by
  unfold nth
  simp only [List.getD_eq_getElem?_getD]
  rw [List.getElem?_append_left h]
theorem nth_app_at (xs : List Int) (y : Int) (i : Nat) (h : i = xs.length) : nth (xs ++ [y]) i = y := by
  subst h; simp [nth]
theorem wid_nth (u p i : Nat) (h : i < p) : nth (wid u p) i = ((48 + (u / 10 ^ (p - 1 - i)) % 10 : Nat) : Int) := by
  induction p generalizing u with
  | zero => omega
  | succ p ih =>
    rw [wid]
    by_cases e : i < p
    · rw [nth_app_left _ _ _ (by rw [wid_len]; exact e), ih _ e, Nat.div_div_eq_div_mul, ← Nat.pow_succ', show (p - 1 - i).succ = p + 1 - 1 - i by omega]
    · have e2 : i = p := by omega
      rw [nth_app_at _ _ _ (by rw [wid_len]; exact e2), show p + 1 - 1 - i = 0 by omega, Nat.pow_zero, Nat.div_one]
theorem dig_lt (u : Nat) : u < 10 ^ (dig u).length := by
  induction u using Nat.strongRecOn with
  | _ u ih =>
    by_cases h : u < 10
    · rw [dig_one h]; simpa using h
    · have := ih (u / 10) (by omega)
      rw [dig_more h, List.length_append]
      show u < 10 ^ ((dig (u / 10)).length + 1)
      rw [Nat.pow_succ]
      omega
/-- n digits, the first of them not 0 (or the only one): the numeral -/
theorem wid_dig (u n : Nat) (h1 : 1 ≤ n) (h2 : u / 10 ^ n = 0) (h3 : n = 1 ∨ u / 10 ^ (n - 1) ≠ 0) : wid u n = dig u := by
  have hpos : 0 < 10 ^ n := Nat.pow_pos (by omega)
  have hlt : u < 10 ^ n := by
    rcases Nat.div_eq_zero_iff.1 h2 with h | h
    · omega
    · exact h
  obtain ⟨hl, he⟩ := wid_small u n h1 hlt
  have hn : (dig u).length = n := by
    rcases h3 with h3 | h3
    · have := dig_pos u; omega
    · by_cases e : (dig u).length = n
      · exact e
      · exfalso
        apply h3
        have h4 := dig_lt u
        have h5 : 10 ^ (dig u).length ≤ 10 ^ (n - 1) := Nat.pow_le_pow_right (by omega) (by omega)
        exact Nat.div_eq_of_lt (by omega)
  rw [he, hn, Nat.sub_self]
  rfl

set_option maxHeartbeats 4000000 in
set_option maxRecDepth 100000 in
/-- decimalDigitsB1 -/
theorem dec_any (U : Nat) (w : World) (hU : U < 18446744073709551616) :
    Calls Tryd.prog 22 #[.int .u64 U] w fun e w' => ∃ b, e = .returned (.slice (some ⟨b, 0, none⟩) (dig U).length (dig U).length) ∧ w.heap.size ≤ b ∧ IRow w' b 5 .u8 (dig U) ∧ Fix (fun b => b < w.heap.size) w w' := by
  obtain ⟨H, hH⟩ : ∃ H, w.heap.size = H := ⟨_, rfl⟩
  have HH : Hid (w.heap.size = H) := hH
  go_enter Tryd.func22, Tryd.ntmps22
  go_wp2
  go_loopw [0, 4] (fun uv nv wr => ∃ (k c : Nat) (D : List Int), uv = .int .u64 c ∧ nv = .int .i64 k ∧ k < 20 ∧ Fix (fun b => b < H) w wr ∧ wr.heap.size = H + 1 ∧ IRow wr H 47 .u8 D ∧ Hid (D.length = 20 ∧ c = U / 10 ^ k ∧ (k = 0 ∨ c ≠ 0) ∧ ∀ j, j < k → nth D j = ((48 + (U / 10 ^ j) % 10 : Nat) : Int))) (fun uv _ _ => (intOf uv).toNat)
  case atStart =>
    refine ⟨0, U, List.replicate 20 0, rfl, rfl, by omega, (Fix.refl _ _).alloc (fun k hk => by omega) _, by simp [HH.out], ?_, by simp, by simp, .inl rfl, fun j hj => absurd hj (Nat.not_lt_zero _)⟩
    rw [← HH.out]
    exact heap_alloc_new _ _
  case round =>
    obtain ⟨k, c, D, rfl, rfl, hk, hfx, hws, hrow, hI⟩ := hrel
    have hcU : c ≤ U := by rw [hI.out.2.1]; exact Nat.div_le_self _ _
    obtain ⟨d, hd⟩ : ∃ d, d = c % 10 := ⟨_, rfl⟩
    obtain ⟨c', hc'⟩ : ∃ c', c' = c / 10 := ⟨_, rfl⟩
    have hd10 : d < 10 := by omega
    have hcc : c' ≤ c := by omega
    have m1 : (c : Int).tmod 10 = (d : Int) := by rw [Int.tmod_eq_emod_of_nonneg (by omega), hd]; rfl
    have m2 : (c : Int).tdiv 10 = (c' : Int) := by rw [Int.tdiv_eq_ediv_of_nonneg (by omega), hc']; rfl
    have m3 : IntKind.u64.wrap (d : Int) = (d : Int) := by rw [IntKind.wrap_u64]; omega
    have m4 : IntKind.u64.wrap (48 + (d : Int)) = 48 + (d : Int) := by rw [IntKind.wrap_u64]; omega
    have m5 : IntKind.u64.wrap (c' : Int) = (c' : Int) := by rw [IntKind.wrap_u64]; omega
    have m6 : IntKind.u8.wrap (48 + (d : Int)) = 48 + (d : Int) := by rw [IntKind.wrap_u8]; omega
    have z := hrow.cell k (by rw [hI.out.1]; exact hk)
    have fz := hrow.frozen k
    have hrow' := hrow.set k (48 + (d : Int))
    have hfx' := hfx.setCell (p := ⟨H, k, none⟩) (by simp) (.int .u8 (48 + (d : Int)))
    have hws' : (wr.setCell ⟨H, k, none⟩ (.int .u8 (48 + (d : Int)))).heap.size = H + 1 := by simpa [World.setCell] using hws
    have hI' : Hid ((D.set k (48 + (d : Int))).length = 20 ∧ c' = U / 10 ^ (k + 1) ∧ ∀ j, j < k + 1 → nth (D.set k (48 + (d : Int))) j = ((48 + (U / 10 ^ j) % 10 : Nat) : Int)) := by
      refine ⟨by simpa using hI.out.1, ?_, fun j hj => ?_⟩
      · rw [hc', hI.out.2.1, Nat.div_div_eq_div_mul, Nat.pow_succ]
      · rw [nth_set _ _ _ _ (by rw [hI.out.1]; exact hk)]
        by_cases e : j = k
        · rw [if_pos e, e, hd, hI.out.2.1]; omega
        · rw [if_neg e]; exact hI.out.2.2.2 j (by omega)
    have hkc : Hid (k = 0 ∨ U / 10 ^ k ≠ 0) := by
      have h := hI.out.2.2.1
      rw [hI.out.2.1] at h
      exact h
    have Hc' : Hid (c' = c / 10) := hc'
    clear hrow hfx hI hd hc' hws
    by_cases h0 : c' = 0
    · have h0' : ((c' : Int) == 0) = true := beq_iff_eq.2 (by omega)
      have hwd : Hid (wid U (k + 1) = dig U) := by
        refine wid_dig U (k + 1) (by omega) (by rw [← hI'.out.2.1]; exact h0) ?_
        rcases hkc.out with h | h
        · exact .inl (by omega)
        · exact .inr h
      have hlen : Hid ((dig U).length = k + 1) := by unfold Hid; rw [← hwd.out, wid_len]
      have hrev : Hid (∀ i, i < k + 1 → nth (D.set k (48 + (d : Int))) (k - i) = nth (dig U) i) := by
        intro i hi
        rw [← hwd.out, wid_nth _ _ _ hi, hI'.out.2.2 (k - i) (by omega), show k + 1 - 1 - i = k - i by omega]
      have hDl : Hid ((D.set k (48 + (d : Int))).length = 20) := hI'.out.1
      obtain ⟨n1, hn1⟩ : ∃ n1, n1 = k + 1 := ⟨_, rfl⟩
      have en : (k : Int) + 1 = (n1 : Int) := by omega
      have Hn1 : Hid (n1 = k + 1) := hn1
      have hn20 : n1 ≤ 20 := by omega
      have hn0 : 1 ≤ n1 := by omega
      have hmk := @run_make_row' Tryd.prog 22 5 (.int .u8 0) 1 Tryd.underlying22 (by kernel_rfl) rfl .i64 .i64 n1 (by omega) (by omega)
      clear hn1 hI' hkc Hc' hwd
      go_wp2
      clear en hmk
      go_loopw [6] (fun iv wr' => ∃ (i : Nat) (E : List Int), i ≤ n1 ∧ iv = .int .i64 i ∧ Fix (fun b => b < H + 1) (wr.setCell ⟨H, k, none⟩ (.int .u8 (48 + (d : Int)))) wr' ∧ E.length = n1 ∧ IRow wr' (H + 1) 5 .u8 E ∧ Hid (∀ j, j < i → nth E j = nth (dig U) j)) (fun iv _ => n1 - (intOf iv).toNat)
      case atStart =>
        refine ⟨0, List.replicate n1 0, Nat.zero_le _, rfl, (Fix.refl _ _).alloc (fun b hb => by rw [hws']; exact hb) _, by simp, ?_, fun j hj => absurd hj (Nat.not_lt_zero _)⟩
        have := IRow.made (wr.setCell ⟨H, k, none⟩ (.int .u8 (48 + (d : Int)))) n1 5 .u8
        rw [hws'] at this
        exact this
      case round =>
        obtain ⟨i, E, hi, rfl, hfE, hEl, hrE, hE⟩ := hrel
        by_cases hlt : i < n1
        · have hki : k - i < 20 := by omega
          have y := (hfE.cell (p := ⟨H, k - i, none⟩) (by show H < H + 1; omega)).trans (hrow'.cell (k - i) (by rw [hDl.out]; exact hki))
          rw [hrev.out i (by have := Hn1.out; omega)] at y
          have ji : (n1 : Int) - 1 - (i : Int) = ((k - i : Nat) : Int) := by have := Hn1.out; omega
          have z2 := hrE.cell i (by omega)
          have f2 := hrE.frozen i
          have hrE' := hrE.set i (nth (dig U) i)
          have hfE' := hfE.setCell (p := ⟨H + 1, i, none⟩) (by simp) (.int .u8 (nth (dig U) i))
          have hE' : Hid (∀ j, j < i + 1 → nth (E.set i (nth (dig U) i)) j = nth (dig U) j) := by
            intro j hj
            rw [nth_set _ _ _ _ (by omega)]
            by_cases e : j = i
            · rw [if_pos e, e]
            · rw [if_neg e]; exact hE.out j (by omega)
          have hEl' : Hid ((E.set i (nth (dig U) i)).length = n1) := by unfold Hid; simpa using hEl
          obtain ⟨ki, hki2⟩ : ∃ ki, ki = k - i := ⟨_, rfl⟩
          rw [← hki2] at y ji hki
          clear hrE hfE hE hEl hki2
          go_wp2
          go_roundw
          case rel => exact ⟨i + 1, _, by omega, by go_num, hfE', hEl'.out, hrE', hE'.out⟩
          case measure => simp [intOf]; omega
        · obtain rfl : i = n1 := by omega
          have hEq : E = dig U := by
            refine nth_ext ?_ fun j hj => hE.out j (by omega)
            rw [hEl, hlen.out, Hn1.out]
          subst hEq
          have HEl : Hid ((dig U).length = i) := hEl
          clear hEl hE
          go_wp2
          go_ret
          refine ⟨H + 1, by rw [HEl.out]; rfl, by rw [HH.out]; omega, hrE, ?_⟩
          rw [HH.out]
          exact hfx'.trans (hfE.mono fun b hb => by omega)
    · have h0' : ((c' : Int) == 0) = false := beq_eq_false_iff_ne.2 (by omega)
      have hk2 : k + 1 < 20 := by
        have h1 := hI'.out.2.1
        by_cases e : k + 1 < 20
        · exact e
        · exfalso
          apply h0
          rw [h1]
          refine Nat.div_eq_of_lt ?_
          have h2 : 10 ^ 20 ≤ 10 ^ (k + 1) := Nat.pow_le_pow_right (by omega) (by omega)
          have h3 : 10 ^ 20 = 100000000000000000000 := by decide
          omega
      have hI2 : Hid ((D.set k (48 + (d : Int))).length = 20 ∧ c' = U / 10 ^ (k + 1) ∧ (k + 1 = 0 ∨ c' ≠ 0) ∧ ∀ j, j < k + 1 → nth (D.set k (48 + (d : Int))) j = ((48 + (U / 10 ^ j) % 10 : Nat) : Int)) := ⟨hI'.out.1, hI'.out.2.1, .inr h0, hI'.out.2.2⟩
      have hdec : c' < c := by have := Hc'.out; omega
      clear hI' hkc Hc'
      go_wp2
      go_roundw
      case rel => exact ⟨k + 1, c', _, rfl, by go_num, hk2, hfx', hws', hrow', hI2.out⟩
      case measure => simp [intOf]; omega
end Go.Proofs.Qxb6603870aDoor
