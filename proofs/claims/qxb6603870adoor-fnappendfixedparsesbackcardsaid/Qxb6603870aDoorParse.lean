import Derived.Test.Qxb6603870aDoorAcc
import Derived.Test.Qxb6603870aDoorLaw3
namespace Go.Proofs.Qxb6603870aDoor
open Go.RowKit
set_option linter.unusedVariables false

/-- where the parts of the text lie -/
structure Txt (t : List Int) (s : Nat) (D W : List Int) : Prop where
  len : t.length = s + D.length + 1 + W.length
  dg : ∀ j, j < D.length → nth t (s + j) = nth D j
  pt : nth t (s + D.length) = 46
  fr : ∀ j, j < W.length → nth t (s + D.length + 1 + j) = nth W j
theorem txt_of (A D W : List Int) : Txt (A ++ D ++ [46] ++ W) A.length D W := by
  refine ⟨by simp; omega, fun j hj => ?_, ?_, fun j hj => ?_⟩
  · rw [List.append_assoc, nth_app_left _ _ _ (by simp; omega), nth_app_right]
  · rw [nth_app_left _ _ _ (by simp), nth_app_at _ _ _ (by simp)]
  · have h := nth_app_right (A ++ D ++ [46]) W j
    have e : (A ++ D ++ [(46 : Int)]).length = A.length + D.length + 1 := by simp; omega
    rw [e] at h
    exact h
theorem nth_mem2 (xs : List Int) (i : Nat) (h : i < xs.length) : nth xs i ∈ xs := by
  have : nth xs i = xs[i] := by simp [nth, h]
  rw [this]; exact List.getElem_mem h
theorem Txt.seg1 {t : List Int} {s q : Nat} {W : List Int} (h : Txt t s (dig q) W) : Seg t s (dig q) :=
  ⟨h.dg, fun j hj => dig_byte q _ (nth_mem2 _ _ hj), by have := h.len; omega, fun _ => by rw [h.pt]; omega⟩
theorem Txt.seg2 {t : List Int} {s u p : Nat} {D : List Int} (h : Txt t s D (wid u p)) : Seg t (s + D.length + 1) (wid u p) :=
  ⟨h.fr, fun j hj => wid_byte u p _ (nth_mem2 _ _ hj), by have := h.len; omega, fun hlt => by have := h.len; omega⟩

set_option maxHeartbeats 400000 in
set_option maxRecDepth 100000 in
/-- parseFixedB1, at what appendFixed has appended -/
theorem parse_any (U : Nat → Prop) (ta : Option Addr) (c : Nat) (v : Int) (p : Nat) (w : World) (hV : View U w .u8 ta (fixedOf v p)) (hv : -9223372036854775808 ≤ v ∧ v ≤ 9223372036854775807) (hp : 1 ≤ p ∧ p ≤ 19) :
    Calls Tryd.prog 13 #[.slice ta (fixedOf v p).length c, .int .i64 p] w fun e w' => e = .returned (.tuple #[.bool (decide (v < 0)), .int .u64 (v.natAbs : Int), .bool true]) ∧ w' = w := by
  obtain ⟨T, hT⟩ : ∃ T, T = v.natAbs := ⟨_, rfl⟩
  obtain ⟨q, hq⟩ : ∃ q, q = T / 10 ^ p := ⟨_, rfl⟩
  have hT63 : T ≤ 9223372036854775808 := by omega
  have hqT : q ≤ T := by rw [hq]; exact Nat.div_le_self _ _
  have hX : Txt (fixedOf v p) (sgn v).length (dig q) (wid T p) := by
    have := txt_of (sgn v) (dig q) (wid T p)
    unfold fixedOf
    rw [← hT, ← hq]
    exact this
  have hval2 : val q (wid T p) = T := by rw [val_wid, hq, Nat.mul_comm]; exact Nat.div_add_mod T (10 ^ p)
  have hlen := hX.len
  rw [wid_len] at hlen
  have hd1 := dig_pos q
  have hd2 : (dig q).length ≤ 19 := dig_len_pow q 19 (by omega) (by omega)
  obtain ⟨t, ht⟩ : ∃ t, t = fixedOf v p := ⟨_, rfl⟩
  rw [← ht] at hX hlen hV ⊢
  have hx0 := hX.dg 0 (by omega)
  rw [Nat.add_zero] at hx0
  have hpt := hX.pt
  have hb0 := dig_byte q _ (nth_mem2 _ 0 (by omega))
  have hlead : (dig q).length = 1 ∨ nth (dig q) 0 ≠ 48 := by
    by_cases h : q < 10
    · left; rw [dig_one h]; rfl
    · right; exact dig_lead q (by omega)
  rw [← hT]
  by_cases hneg : v < 0
  · have hs : (sgn v).length = 1 := by unfold sgn; rw [if_pos hneg]; rfl
    have h0t : nth t 0 = 45 := by
      rw [ht]; unfold fixedOf sgn; rw [if_pos hneg]; rfl
    rw [hs] at hX hlen hx0 hpt
    have hdn : decide (v < 0) = true := decide_eq_true hneg
    have hT1 : 1 ≤ T := by omega
    have HA1 : Hid _ := acc_any U ta c t 1 0 (dig q) w (by omega) hV hX.seg1 (by rw [val_dig]; omega)
    have HA2 : Hid _ := acc_any U ta c t (1 + (dig q).length + 1) q (wid T p) w (by omega) hV hX.seg2 (by rw [hval2]; omega)
    rw [val_dig] at HA1
    rw [hval2, wid_len] at HA2
    obtain ⟨b, off, _, rfl, hc⟩ := hV.at (by omega)
    have y0 := hc 0 (by omega)
    have y1 := hc 1 (by omega)
    have y2 := hc (1 + (dig q).length) (by omega)
    rw [h0t, Nat.add_zero] at y0
    rw [hx0] at y1
    rw [hpt] at y2
    rw [hdn]
    obtain ⟨E, hE⟩ : ∃ E, E = 1 + (dig q).length := ⟨_, rfl⟩
    obtain ⟨F, hF⟩ : ∃ F, F = E + 1 := ⟨_, rfl⟩
    obtain ⟨N, hN⟩ : ∃ N, N = t.length := ⟨_, rfl⟩
    have hFN : F + p = N := by omega
    rw [← hE] at y2 HA1
    rw [show 1 + (dig q).length + 1 = F by omega, hFN] at HA2
    rw [← hN] at HA1 HA2 ⊢
    obtain ⟨x0, hx0'⟩ : ∃ x0, x0 = nth (dig q) 0 := ⟨_, rfl⟩
    rw [← hx0'] at y1 hlead hb0
    have hEb : E + 1 + p = N ∧ 1 + 1 ≤ E ∧ E ≤ 1 + 19 := by omega
    have hFE : (E : Int) + 1 = (F : Int) := by omega
    have hNF : (N : Int) - (F : Int) = (p : Int) := by omega
    have b1 : F ≤ 2097152 := by omega
    have b2 : E ≤ 2097152 := by omega
    have b3 : N ≤ 2097152 := by omega
    have b4 : F ≤ N := by omega
    have i0 : (0 : Int) < (N : Int) := by omega
    have i1 : (1 : Int) < (N : Int) := by omega
    have i2 : (E : Int) < (N : Int) := by omega
    have i3 : decide ((N : Int) ≤ (E : Int)) = false := decide_eq_false (by omega)
    have i3b : decide (N ≤ E) = false := decide_eq_false (by omega)
    have i4 : ((E : Int) == 1) = false := beq_eq_false_iff_ne.2 (by omega)
    have hld : (x0 = 48 ∧ E = 1 + 1) ∨ x0 ≠ 48 := by
      rcases hlead with h | h
      · by_cases e : x0 = 48
        · exact .inl ⟨e, by omega⟩
        · exact .inr e
      · exact .inr h
    have iT : ((T : Int) == 0) = false := beq_eq_false_iff_ne.2 (by omega)
    clear hc hX ht hE hF hN hx0' hlen hlead hFN hx0 hpt hval2 hV hEb hq hT h0t hs hneg
    rcases hld with ⟨h48, hE1⟩ | h48
    · have g1 : (x0 == 48) = true := beq_iff_eq.2 h48
      have g2 : decide ((2 : Int) < (E : Int)) = false := decide_eq_false (by omega)
      have g3 : decide (2 < E) = false := decide_eq_false (by omega)
      clear h48 hE1
      go_enter Tryd.func13, Tryd.ntmps13
      go_wp2_with fail
      refine Calls.mono HA1.out ?_
      rintro e w1 ⟨rfl, rfl⟩
      go_wp2_with fail
      refine Calls.mono HA2.out ?_
      rintro e w1 ⟨rfl, rfl⟩
      go_wp2
      go_ret3
      exact ⟨rfl, rfl⟩
    · have g1 : (x0 == 48) = false := beq_eq_false_iff_ne.2 h48
      clear h48
      go_enter Tryd.func13, Tryd.ntmps13
      go_wp2_with fail
      refine Calls.mono HA1.out ?_
      rintro e w1 ⟨rfl, rfl⟩
      go_wp2_with fail
      refine Calls.mono HA2.out ?_
      rintro e w1 ⟨rfl, rfl⟩
      go_wp2
      go_ret3
      exact ⟨rfl, rfl⟩
  · have hs : (sgn v).length = 0 := by unfold sgn; rw [if_neg hneg]; rfl
    rw [hs] at hX hlen hx0 hpt
    have hdn : decide (v < 0) = false := decide_eq_false hneg
    have HA1 : Hid _ := acc_any U ta c t 0 0 (dig q) w (by omega) hV hX.seg1 (by rw [val_dig]; omega)
    have HA2 : Hid _ := acc_any U ta c t (0 + (dig q).length + 1) q (wid T p) w (by omega) hV hX.seg2 (by rw [hval2]; omega)
    rw [val_dig] at HA1
    rw [hval2, wid_len] at HA2
    obtain ⟨b, off, _, rfl, hc⟩ := hV.at (by omega)
    have y0 := hc 0 (by omega)
    have y1 := hc 0 (by omega)
    have y2 := hc (0 + (dig q).length) (by omega)
    clear y0
    rw [Nat.add_zero] at y1
    rw [hx0] at y1
    rw [hpt] at y2
    rw [hdn]
    obtain ⟨E, hE⟩ : ∃ E, E = 0 + (dig q).length := ⟨_, rfl⟩
    obtain ⟨F, hF⟩ : ∃ F, F = E + 1 := ⟨_, rfl⟩
    obtain ⟨N, hN⟩ : ∃ N, N = t.length := ⟨_, rfl⟩
    have hFN : F + p = N := by omega
    rw [← hE] at y2 HA1
    rw [show 0 + (dig q).length + 1 = F by omega, hFN] at HA2
    rw [← hN] at HA1 HA2 ⊢
    obtain ⟨x0, hx0'⟩ : ∃ x0, x0 = nth (dig q) 0 := ⟨_, rfl⟩
    rw [← hx0'] at y1 hlead hb0
    have hEb : E + 1 + p = N ∧ 0 + 1 ≤ E ∧ E ≤ 0 + 19 := by omega
    have hFE : (E : Int) + 1 = (F : Int) := by omega
    have hNF : (N : Int) - (F : Int) = (p : Int) := by omega
    have b1 : F ≤ 2097152 := by omega
    have b2 : E ≤ 2097152 := by omega
    have b3 : N ≤ 2097152 := by omega
    have b4 : F ≤ N := by omega
    have i0 : (0 : Int) < (N : Int) := by omega
    have i1 : (0 : Int) < (N : Int) := by omega
    have i2 : (E : Int) < (N : Int) := by omega
    have i3 : decide ((N : Int) ≤ (E : Int)) = false := decide_eq_false (by omega)
    have i3b : decide (N ≤ E) = false := decide_eq_false (by omega)
    have i4 : ((E : Int) == 0) = false := beq_eq_false_iff_ne.2 (by omega)
    have hld : (x0 = 48 ∧ E = 0 + 1) ∨ x0 ≠ 48 := by
      rcases hlead with h | h
      · by_cases e : x0 = 48
        · exact .inl ⟨e, by omega⟩
        · exact .inr e
      · exact .inr h
    have iT : (x0 == 45) = false := beq_eq_false_iff_ne.2 (by omega)
    clear hc hX ht hE hF hN hx0' hlen hlead hFN hx0 hpt hval2 hV hEb hq hT hs hneg
    rcases hld with ⟨h48, hE1⟩ | h48
    · have g1 : (x0 == 48) = true := beq_iff_eq.2 h48
      have g2 : decide ((1 : Int) < (E : Int)) = false := decide_eq_false (by omega)
      have g3 : decide (1 < E) = false := decide_eq_false (by omega)
      clear h48 hE1
      go_enter Tryd.func13, Tryd.ntmps13
      go_wp2_with fail
      refine Calls.mono HA1.out ?_
      rintro e w1 ⟨rfl, rfl⟩
      go_wp2_with fail
      refine Calls.mono HA2.out ?_
      rintro e w1 ⟨rfl, rfl⟩
      go_wp2
      go_ret3
      exact ⟨rfl, rfl⟩
    · have g1 : (x0 == 48) = false := beq_eq_false_iff_ne.2 h48
      clear h48
      go_enter Tryd.func13, Tryd.ntmps13
      go_wp2_with fail
      refine Calls.mono HA1.out ?_
      rintro e w1 ⟨rfl, rfl⟩
      go_wp2_with fail
      refine Calls.mono HA2.out ?_
      rintro e w1 ⟨rfl, rfl⟩
      go_wp2
      go_ret3
      exact ⟨rfl, rfl⟩
end Go.Proofs.Qxb6603870aDoor
