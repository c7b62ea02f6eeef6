import Derived.Test.Qxb6605187aCompInv
namespace Go.Proofs.Qxb6605187a
open Go.RowKit
set_option linter.unusedVariables false

/-- what partitionOK says -/
structure PartOK (S A of sizes : List Int) (size : Int) : Prop where
  part : Part S A of sizes
  full : size = of.length → 0 < of.length ∧ nth sizes (nth of 0).toNat = of.length

theorem cntTo_next (of : List Int) (c k : Nat) (d : Nat) (h : nth of k = d) : (cntTo of c (k + 1) : Int) = cntTo of c k + if c = d then 1 else 0 := by
  rw [cntTo, h]
  by_cases e : c = d
  · rw [if_pos (by omega), if_pos e]; rfl
  · rw [if_neg (by omega), if_neg e]; rfl

set_option maxHeartbeats 4000000 in
set_option maxRecDepth 100000 in
/-- partitionOK -/
theorem part_any (a0 a1 a2 a3 : Option Addr) (c0 c1 c2 c3 : Nat) (S A of sizes : List Int) (size : Int) (w : World) (hcsr : Csr S A) (hS : S.length ≤ 70000) (hA : A.length ≤ 70000) (hm : sizes.length ≤ 70000)
    (v0 : View (fun b => b < w.heap.size) w .i64 a0 S) (v1 : View (fun b => b < w.heap.size) w .i32 a1 A) (v2 : View (fun b => b < w.heap.size) w .i64 a2 of) (v3 : View (fun b => b < w.heap.size) w .i64 a3 sizes) :
    Calls Try.prog 21 #[.slice a0 S.length c0, .slice a1 A.length c1, .slice a2 of.length c2, .slice a3 sizes.length c3, .int .i64 size] w (Ans (PartOK S A of sizes size) (fun b => b < w.heap.size) w) := by
  have hl := hcsr.len
  by_cases hlen : of.length + 1 = S.length
  · have Hlen : Hid (of.length + 1 = S.length) := hlen
    have en : (S.length : Int) - 1 = (of.length : Int) := by omega
    have hn1 : of.length + 1 ≤ S.length := by omega
    have hn2 : S.length ≤ of.length + 1 := by omega
    have hmk := run_make_row' (P := Try.prog) 22 3 (.int .i64 0) 8 Try.underlying22 (by kernel_rfl) rfl .i64 .i64 sizes.length (by omega) (by omega)
    obtain ⟨b0, o0, hb0, rfl, hc0⟩ := v0.at (by omega)
    have Hc0 : Hid (∀ (i : Nat), i < S.length → w.cell? ⟨b0, o0 + i, none⟩ = some (Value.int IntKind.i64 (nth S i))) := hc0
    have Hcsr : Hid (Csr S A) := hcsr
    clear hcsr hc0 hlen
    go_enter Try.func21, Try.ntmps21
    go_wp2
    clear en
    go_loopw [13] (fun i wr => ∃ k : Nat, k ≤ of.length ∧ i = .int .i64 k ∧ Fix (fun b => b < w.heap.size) w wr ∧ ∃ C : List Int, C.length = sizes.length ∧ IRow wr w.heap.size 3 .i64 C ∧ Hid ((∀ c, c < sizes.length → nth C c = cntTo of c k) ∧ ∀ v, v < k → 0 ≤ nth of v ∧ nth of v < sizes.length)) (fun i _ => of.length - (intOf i).toNat)
    case atStart =>
      refine ⟨0, Nat.zero_le _, rfl, (Fix.refl _ _).alloc (fun k hk => hk) _, List.replicate sizes.length 0, by simp, IRow.made w _ _ _, fun c hc => ?_, fun j hj => absurd hj (Nat.not_lt_zero _)⟩
      simp [nth, hc, cntTo]
    case round =>
      obtain ⟨k, hk, rfl, hfx, C, hCl, hrow, hC⟩ := hrel
      by_cases hlt : k < of.length
      · obtain ⟨b2, o2, hb2, rfl, hc2⟩ := v2.at (by omega)
        have y := (hfx.cell (p := ⟨b2, o2 + k, none⟩) hb2).trans (hc2 k hlt)
        clear hc2 hmk v0 v1 v3
        by_cases hneg : nth of k < 0
        · have hneg' : decide (nth of k < 0) = true := by simp; omega
          go_wp2
          go_ret
          exact Ans.no hfx
        · have hneg' : decide (nth of k < 0) = false := by simp; omega
          by_cases hbig : nth of k < sizes.length
          · obtain ⟨c, hc⟩ : ∃ c : Nat, nth of k = c := ⟨(nth of k).toNat, by omega⟩
            rw [hc] at y
            have Hc : Hid (nth of k = c) := hc
            have hcm : c < sizes.length := by omega
            have z := hrow.cell c (by omega)
            have fz := hrow.frozen c
            have hn := hC.out.1 c hcm
            have hle := cntTo_le of c k
            have hrow' := hrow.set c (nth C c + 1)
            have hfx' := hfx.setCell (p := ⟨w.heap.size, c, none⟩) (by simp) (.int .i64 (nth C c + 1))
            have hC' : Hid ((∀ d, d < sizes.length → nth (C.set c (nth C c + 1)) d = cntTo of d (k + 1)) ∧ ∀ v, v < k + 1 → 0 ≤ nth of v ∧ nth of v < sizes.length) := by
              refine ⟨fun d hd => ?_, fun v hv => ?_⟩
              · rw [nth_set _ _ _ _ (by omega), cntTo_next of d k c hc]
                by_cases e : d = c
                · rw [if_pos e, if_pos e, e, hn]
                · rw [if_neg e, if_neg e, hC.out.1 d hd]; omega
              · by_cases e : v = k
                · rw [e]; omega
                · exact hC.out.2 v (by omega)
            have hCl' : Hid ((C.set c (nth C c + 1)).length = sizes.length) := by unfold Hid; simpa using hCl
            have b1 : -9223372036854775808 ≤ nth C c := by omega
            have b2 : nth C c ≤ 70000 := by omega
            clear hrow hfx hC hc hneg hneg' hbig hn v2
            go_wp2
            go_roundw
            case rel => exact ⟨k + 1, by omega, by go_num, hfx', _, hCl'.out, hrow', hC'.out⟩
            case measure => simp [intOf]; omega
          · have hbig' : decide ((sizes.length : Int) ≤ nth of k) = true := by simp; omega
            go_wp2
            go_ret
            exact Ans.no hfx
      · obtain rfl : k = of.length := by omega
        clear hmk hlt
        obtain ⟨w1, rfl⟩ : ∃ w1 : World, w1 = wr := ⟨_, rfl⟩
        go_wp2
        go_loopw [15] (fun i wr => ∃ j : Nat, j ≤ sizes.length ∧ i = .int .i64 j ∧ Fix (fun b => b < w.heap.size) w wr ∧ IRow wr w.heap.size 3 .i64 C ∧ Hid (∀ c, c < j → nth C c = nth sizes c)) (fun i _ => sizes.length - (intOf i).toNat)
        case atStart => exact ⟨0, Nat.zero_le _, rfl, hfx, hrow, fun c hc => absurd hc (Nat.not_lt_zero _)⟩
        case round =>
          clear hfx hrow
          obtain ⟨j, hj, rfl, hfx, hrow, hE⟩ := hrel
          by_cases hlj : j < sizes.length
          · obtain ⟨b3, o3, hb3, rfl, hc3⟩ := v3.at (by omega)
            have y := (hfx.cell (p := ⟨b3, o3 + j, none⟩) hb3).trans (hc3 j hlj)
            have z := hrow.cell j (by omega)
            have j1 : (j : Int) < sizes.length := by omega
            clear hc3 v0 v1 v2
            by_cases he : nth C j = nth sizes j
            · have he' : (nth C j != nth sizes j) = false := by simp [he]
              have hE' : Hid (∀ c, c < j + 1 → nth C c = nth sizes c) := by
                intro c hc
                by_cases e : c = j
                · rw [e]; exact he
                · exact hE.out c (by omega)
              clear he hE
              go_wp2
              go_quiet (fail)
              go_wp2
              go_roundw
              case rel => exact ⟨j + 1, by omega, by go_num, hfx.drewN _, hrow.drewN _, hE'.out⟩
              case measure => simp [intOf]; omega
            · have he' : (nth C j != nth sizes j) = true := by simp [he]
              go_wp2
              go_quiet (fail)
              go_wp2
              go_ret
              exact Ans.no (hfx.drewN _)
          · obtain rfl : j = sizes.length := by omega
            have hcnt : Hid (∀ c, c < sizes.length → nth sizes c = cntTo of c of.length) := fun c hc => by rw [← hE.out c hc]; exact hC.out.1 c hc
            have hrng : Hid (∀ v, v < of.length → 0 ≤ nth of v ∧ nth of v < sizes.length) := hC.out.2
            obtain ⟨w2, rfl⟩ : ∃ w2 : World, w2 = wr := ⟨_, rfl⟩
            clear hC hE hCl hrow hlj
            go_wp2
            go_loopw [16] (fun i wr => ∃ q : Nat, q ≤ of.length ∧ i = .int .i64 q ∧ Fix (fun b => b < w.heap.size) w wr ∧ Hid (∀ v, v < q → ∀ j, j < (nbr S A v).length → nth of (nth (nbr S A v) j).toNat = nth of v)) (fun i _ => of.length - (intOf i).toNat)
            case atStart => exact ⟨0, Nat.zero_le _, rfl, hfx, fun v hv => absurd hv (Nat.not_lt_zero _)⟩
            case round =>
              clear hfx
              obtain ⟨q, hq, rfl, hfx, hL⟩ := hrel
              by_cases hlq : q < of.length
              · have hqS : q + 1 < S.length := by omega
                have y0 := (hfx.cell (p := ⟨b0, o0 + q, none⟩) hb0).trans (Hc0.out q (by omega))
                rw [← Hcsr.out.st q (by omega)] at y0
                have hnl := Hcsr.out.nbr_len q hqS
                have hmo := Hcsr.out.st_mono q hqS
                have hle := Hcsr.out.st_le (q + 1) hqS
                have Hnl2 : Hid ((nbr S A q).length = st S (q + 1) - st S q) := hnl
                have hnl70 : (nbr S A q).length ≤ 70000 := by omega
                have hb14 : decide ((q : Int) < (of.length : Int)) = true := by simp; omega
                obtain ⟨wo, rfl⟩ : ∃ wo : World, wo = wr := ⟨_, rfl⟩
                clear hnl
                go_wp2
                go_loopw [17] (fun i wr => ∃ j : Nat, j ≤ (nbr S A q).length ∧ i = .int .i64 (st S q + j : Nat) ∧ Fix (fun b => b < w.heap.size) w wr ∧ Hid (∀ i, i < j → nth of (nth (nbr S A q) i).toNat = nth of q))
                  (fun i _ => st S (q + 1) - (intOf i).toNat)
                case atStart => exact ⟨0, Nat.zero_le _, rfl, hfx, fun i hi => absurd hi (Nat.not_lt_zero _)⟩
                case round =>
                  clear hfx y0
                  obtain ⟨j, hj, rfl, hfx, hK⟩ := hrel
                  have y1 := (hfx.cell (p := ⟨b0, o0 + (q + 1), none⟩) hb0).trans (Hc0.out (q + 1) hqS)
                  rw [← Hcsr.out.st (q + 1) hqS] at y1
                  by_cases hlj : j < (nbr S A q).length
                  · have hlt2 : st S q + j < st S (q + 1) := by have := Hnl2.out; omega
                    have hin := Hcsr.out.nbr_range q hqS j hlj
                    have hnb := nth_nbr S A q j (by omega)
                    obtain ⟨b1, o1, hb1, rfl, hc1⟩ := v1.at (by omega)
                    have z := (hfx.cell (p := ⟨b1, o1 + (st S q + j), none⟩) hb1).trans (hc1 (st S q + j) (by omega))
                    rw [← hnb] at z
                    obtain ⟨u, hu⟩ : ∃ u : Nat, nth (nbr S A q) j = u := ⟨(nth (nbr S A q) j).toNat, by omega⟩
                    rw [hu] at z hin
                    have Hu : Hid (nth (nbr S A q) j = u) := hu
                    obtain ⟨b2, o2, hb2, rfl, hc2⟩ := v2.at (by omega)
                    have x1 := (hfx.cell (p := ⟨b2, o2 + u, none⟩) hb2).trans (hc2 u (by omega))
                    have x2 := (hfx.cell (p := ⟨b2, o2 + q, none⟩) hb2).trans (hc2 q (by omega))
                    have i1 : ((st S q + j : Nat) : Int) < (A.length : Int) := by omega
                    have i2 : (u : Int) < of.length := by omega
                    have i3 : (q : Int) < of.length := by omega
                    clear hc1 hc2 hnb hu hin v3
                    by_cases he : nth of u = nth of q
                    · have he' : (nth of u != nth of q) = false := by simp [he]
                      have hK' : Hid (∀ i, i < j + 1 → nth of (nth (nbr S A q) i).toNat = nth of q) := by
                        intro i hi
                        by_cases e : i = j
                        · rw [e, Hu.out, Int.toNat_natCast]; exact he
                        · exact hK.out i (by omega)
                      clear he hK
                      go_wp2
                      go_quiet (fail)
                      go_wp2
                      go_roundw
                      case rel => exact ⟨j + 1, by omega, by go_num, hfx.drewN _, hK'.out⟩
                      case measure => simp [intOf]; omega
                    · have he' : (nth of u != nth of q) = true := by simp [he]
                      go_wp2
                      go_quiet (fail)
                      go_wp2
                      go_ret
                      exact Ans.no (hfx.drewN _)
                  · have hlt2 : ¬ st S q + j < st S (q + 1) := by have := Hnl2.out; omega
                    obtain rfl : j = (nbr S A q).length := by omega
                    have hL' : Hid (∀ v, v < q + 1 → ∀ j, j < (nbr S A v).length → nth of (nth (nbr S A v) j).toNat = nth of v) := by
                      intro v hv
                      by_cases e : v = q
                      · rw [e]; exact hK.out
                      · exact hL.out v (by omega)
                    clear hK hL
                    go_wp2
                    go_roundw
                    case rel => exact ⟨q + 1, by omega, by go_num, hfx, hL'.out⟩
                    case measure => simp [intOf]; omega
              · obtain rfl : q = of.length := by omega
                have HP : Part S A of sizes := ⟨Hlen.out, hrng.out, hcnt.out, hL.out⟩
                by_cases hsz : size = of.length
                · have hsz' : (size == (of.length : Int)) = true := by simp [hsz]
                  have Hsz : Hid (size = of.length) := hsz
                  clear hsz
                  by_cases hz : of.length = 0
                  · have hz' : ((of.length : Int) == 0) = true := beq_iff_eq.2 (by omega)
                    have Hz : Hid (of.length = 0) := hz
                    clear hz
                    go_wp2
                    go_ret
                    exact Ans.no hfx
                  · have hz' : ((of.length : Int) == 0) = false := beq_eq_false_iff_ne.2 (by omega)
                    obtain ⟨b2, o2, hb2, rfl, hc2⟩ := v2.at (by omega)
                    have x0 := (hfx.cell (p := ⟨b2, o2 + 0, none⟩) hb2).trans (hc2 0 (by omega))
                    have hr0 := hrng.out 0 (by omega)
                    obtain ⟨u, hu⟩ : ∃ u : Nat, nth of 0 = u := ⟨(nth of 0).toNat, by omega⟩
                    rw [hu] at x0 hr0
                    rw [Nat.add_zero] at x0
                    have Hu : Hid (nth of 0 = u) := hu
                    obtain ⟨b3, o3, hb3, rfl, hc3⟩ := v3.at (by omega)
                    have x3 := (hfx.cell (p := ⟨b3, o3 + u, none⟩) hb3).trans (hc3 u (by omega))
                    have i0 : (0 : Int) < of.length := by omega
                    have i1 : (u : Int) < sizes.length := by omega
                    clear hc2 hc3 hu
                    by_cases he : nth sizes u = of.length
                    · have he' : (nth sizes u != (of.length : Int)) = false := by simp [he]
                      have He : Hid (nth sizes u = of.length) := he
                      clear he
                      go_wp2
                      go_ret
                      exact Ans.yes ⟨HP, fun _ => ⟨by omega, by rw [Hu.out, Int.toNat_natCast]; exact He.out⟩⟩ hfx
                    · have he' : (nth sizes u != (of.length : Int)) = true := by simp [he]
                      go_wp2
                      go_ret
                      exact Ans.no hfx
                · have hsz' : (size == (of.length : Int)) = false := by simp [hsz]
                  have Hsz : Hid (¬ size = of.length) := hsz
                  clear hsz
                  go_wp2
                  go_ret
                  exact Ans.yes ⟨HP, fun h => absurd h Hsz.out⟩ hfx
  · have en : ((of.length : Int) != (S.length : Int) - 1) = true := by simp; omega
    go_enter Try.func21, Try.ntmps21
    go_wp2
    go_ret
    exact Ans.no (Fix.refl _ _)
end Go.Proofs.Qxb6605187a
