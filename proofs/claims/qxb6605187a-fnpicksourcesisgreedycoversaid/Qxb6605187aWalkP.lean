import Derived.Test.Qxb6605187aWalkB
namespace Go.Proofs.Qxb6605187a
open Go.RowKit
set_option linter.unusedVariables false

/-- what pickPremise's 'true' says -/
structure PickPre (S A gain upper : List Int) (found : Int) (m : Nat) : Prop where
  csr : Csr S A
  two : 2 ≤ S.length
  gl : gain.length + 1 = S.length
  ul : upper.length + 1 = S.length
  ml : m + 1 = S.length
  gain : ∀ v, v < gain.length → nth gain v = hold S A (cov0 upper found) v

set_option maxHeartbeats 1000000 in
/-- pickPremise -/
theorem premise_any (U : Nat → Prop) (sa aa ga ua : Option Addr) (sc ac gc uc : Nat) (xa : Option Addr) (m xc : Nat) (S A gain upper : List Int) (found : Int) (w : World) (hS : S.length ≤ 70000) (hA : A.length ≤ 70000)
    (hg : gain.length ≤ 70000) (hu : upper.length ≤ 70000) (hm : m ≤ 70000) (hw : Wf32 A)
    (v0 : View U w .i64 sa S) (v1 : View U w .i32 aa A) (v2 : View U w .i32 ga gain) (v3 : View U w .i32 ua upper) :
    Calls Try.prog 10 #[.slice sa S.length sc, .slice aa A.length ac, .slice ga gain.length gc, .slice ua upper.length uc, .int .i32 found, .slice xa m xc] w (Ans (PickPre S A gain upper found m) (fun _ => True) w) := by
  go_enter Try.func10, Try.ntmps10
  go_wp2_with fail
  refine (csr_any U sa aa sc ac S A _ hS hA v0 v1 hw).mono ?_
  rintro e w1 ⟨b, rfl, hb, hfix⟩
  cases b with
  | false =>
    go_wp2
    go_ret
    exact Ans.no hfix
  | true =>
    have hcsr : Csr S A := hb rfl
    replace v0 := v0.fix (hfix.mono fun _ _ => trivial)
    replace v1 := v1.fix (hfix.mono fun _ _ => trivial)
    replace v2 := v2.fix (hfix.mono fun _ _ => trivial)
    replace v3 := v3.fix (hfix.mono fun _ _ => trivial)
    clear hb
    have hl := hcsr.len
    by_cases t0 : (S.length : Int) - 1 < 1
    · go_wp2
      go_ret
      exact Ans.no hfix
    by_cases t1 : gain.length + 1 = S.length
    · have t1' : ((gain.length : Int) != (S.length : Int) - 1) = false := by simp; omega
      by_cases t2 : upper.length + 1 = S.length
      · have t2' : ((upper.length : Int) != (S.length : Int) - 1) = false := by simp; omega
        by_cases t3 : m + 1 = S.length
        · have t3' : ((m : Int) != (S.length : Int) - 1) = false := by simp; omega
          have T1 : Hid (gain.length + 1 = S.length) := t1
          have T2 : Hid (upper.length + 1 = S.length) := t2
          have T3 : Hid (m + 1 = S.length) := t3
          clear t1 t2 t3
          go_wp2
          go_loop [14] (fun i => ∃ k : Nat, k + 1 ≤ S.length ∧ i = .int .i64 k ∧ Hid (∀ v, v < k → nth gain v = hold S A (cov0 upper found) v)) (fun i => S.length - (intOf i).toNat)
          case atStart => exact ⟨0, by omega, rfl, fun v hv => absurd hv (Nat.not_lt_zero _)⟩
          case round =>
            obtain ⟨k, hk, rfl, hgain⟩ := hrel
            clear t1' t2' t3'
            by_cases hlt : k + 1 < S.length
            · obtain ⟨b0, o0, _, rfl, hc0⟩ := v0.at (by omega)
              obtain ⟨b2, o2, _, rfl, hc2⟩ := v2.at (by have := T1.out; omega)
              obtain ⟨b3, o3, _, rfl, hc3⟩ := v3.at (by have := T2.out; omega)
              have c0 := hc0 k (by omega)
              rw [← hcsr.st k (by omega)] at c0
              have c1 := hc0 (k + 1) hlt
              rw [← hcsr.st (k + 1) hlt] at c1
              have g0 := hc2 k (by have := T1.out; omega)
              have u0 := hc3 k (by have := T2.out; omega)
              have hnl := hcsr.nbr_len k hlt
              have hmo := hcsr.st_mono k hlt
              have hle := hcsr.st_le (k + 1) hlt
              have Hc3 : Hid (∀ i, i < upper.length → w1.cell? ⟨b3, o3 + i, none⟩ = some (Value.int .i32 (nth upper i))) := hc3
              have Hsub : Hid (∀ j, j < (nbr S A k).length → nth (nbr S A k) j = nth A (st S k + j)) := fun j hj => nth_nbr S A k j (by omega)
              have Hr : Hid (∀ j, j < (nbr S A k).length → 0 ≤ nth (nbr S A k) j ∧ nth (nbr S A k) j + 1 < S.length) := hcsr.nbr_range k hlt
              have Hnl : Hid ((nbr S A k).length = st S (k + 1) - st S k) := hnl
              have hnl2 : (nbr S A k).length ≤ 70000 := by omega
              have hkg : k < gain.length := by have := T1.out; omega
              have hku : k < upper.length := by have := T2.out; omega
              have Hcsr : Hid (Csr S A) := hcsr
              clear hc0 hc2 hc3 v0 v2 v3 hnl hw hcsr
              have Hb0 : Hid (nthB (cov0 upper found) k = decide (found < nth upper k)) := cov0_nth upper found k hku
              by_cases hb : found < nth upper k
              all_goals
                go_wp2
                go_loop [15, 16] (fun h i => ∃ j : Nat, j ≤ (nbr S A k).length ∧ i = .int .i64 (st S k + j : Nat) ∧ h = .int .i32 (holdTo S A (cov0 upper found) k j)) (fun _ i => st S (k + 1) - (intOf i).toNat)
                case atStart =>
                  refine ⟨0, by omega, rfl, ?_⟩
                  rw [holdTo_zero, Hb0.out]
                  first
                    | (rw [if_pos (by simp; omega)]; rfl)
                    | (rw [if_neg (by simp; omega)]; rfl)
                case round =>
                  obtain ⟨j, hj, rfl, rfl⟩ := hrel
                  have hcj := holdTo_le S A (cov0 upper found) k j
                  by_cases hlj : j < (nbr S A k).length
                  · have hlt' : st S k + j < A.length := by have := Hnl.out; omega
                    have hlt2 : st S k + j < st S (k + 1) := by have := Hnl.out; omega
                    obtain ⟨b1, o1, _, rfl, hc1⟩ := v1.at (by omega)
                    have y := hc1 _ hlt'
                    rw [← Hsub.out j hlj] at y
                    have hr := Hr.out j hlj
                    have hi1 : nth (nbr S A k) j < upper.length := by have := T2.out; omega
                    have z := Hc3.out (nth (nbr S A k) j).toNat (by omega)
                    have Hb2 : Hid (nthB (cov0 upper found) (nth (nbr S A k) j).toNat = decide (found < nth upper (nth (nbr S A k) j).toNat)) := cov0_nth upper found _ (by omega)
                    clear hc1 v1 c0 g0 u0
                    by_cases hb2 : found < nth upper (nth (nbr S A k) j).toNat
                    all_goals
                      go_wp2
                      go_round
                      case rel =>
                        refine ⟨j + 1, by omega, by go_num, ?_⟩
                        first
                          | rw [holdTo_yes S A _ k j hlj (by rw [Hb2.out]; simp; omega)]; go_num
                          | rw [holdTo_no S A _ k j hlj (by rw [Hb2.out]; simp; omega)]
                      case measure => simp [intOf]; omega
                  · have hlt2 : ¬ st S k + j < st S (k + 1) := by have := Hnl.out; omega
                    have hfull := holdTo_full S A (cov0 upper found) k j (by omega)
                    have Hfull : Hid (holdTo S A (cov0 upper found) k j = hold S A (cov0 upper found) k) := hfull
                    clear hfull
                    by_cases hq : nth gain k = holdTo S A (cov0 upper found) k j
                    · have hq' : (nth gain k != (holdTo S A (cov0 upper found) k j : Int)) = false := by simp [hq]
                      have Hq : Hid (nth gain k = holdTo S A (cov0 upper found) k j) := hq
                      clear hq
                      go_wp2
                      go_round
                      case rel =>
                        refine ⟨k + 1, by omega, by go_num, fun v hv => ?_⟩
                        by_cases e : v = k
                        · rw [e, Hq.out, Hfull.out]
                        · exact hgain.out v (by omega)
                      case measure => simp [intOf]; omega
                    · have hq' : (nth gain k != (holdTo S A (cov0 upper found) k j : Int)) = true := by simp [hq]
                      go_wp2
                      go_ret
                      exact Ans.no hfix
            · go_wp2
              go_ret
              exact Ans.yes ⟨hcsr, by omega, T1.out, T2.out, T3.out, fun v hv => hgain.out v (by have := T1.out; omega)⟩ hfix
        · have t3' : ((m : Int) != (S.length : Int) - 1) = true := by simp; omega
          go_wp2
          go_ret
          exact Ans.no hfix
      · have t2' : ((upper.length : Int) != (S.length : Int) - 1) = true := by simp; omega
        go_wp2
        go_ret
        exact Ans.no hfix
    · have t1' : ((gain.length : Int) != (S.length : Int) - 1) = true := by simp; omega
      go_wp2
      go_ret
      exact Ans.no hfix

end Go.Proofs.Qxb6605187a
