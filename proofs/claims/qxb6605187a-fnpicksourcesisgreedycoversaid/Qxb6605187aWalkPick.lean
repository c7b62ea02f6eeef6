import Derived.Test.Qxb6605187aWalkB
import Derived.Test.Qxb6605187aPickMem3
namespace Go.Proofs.Qxb6605187a
open Go.RowKit
set_option linter.unusedVariables false

theorem Try.info21 : (Try.prog.info? 21).map (fun i => (i.zero, i.size, i.bytes)) = some (some (.int .i32 0), 1, 4) := by kernel_rfl
theorem Try.info23 : (Try.prog.info? 23).map (fun i => (i.zero, i.size, i.bytes)) = some (some (.slice none 0 0), 1, 24) := by kernel_rfl

/-- what pickSources leaves -/
def PickPost (U : Nat → Prop) (w : World) (ub : Nat) (r : PS) (e : Ending) (w' : World) : Prop :=
  ∃ a cap, e = .returned (.slice a r.picked.length cap) ∧ View (fun b => w.heap.size ≤ b) w' .i32 a r.picked ∧ BRow w' ub r.cov ∧ Fix U w w'

set_option maxHeartbeats 4000000 in
set_option maxRecDepth 100000 in
theorem pick_any (U : Nat → Prop) (gb ub : Nat) (ga ua : Option Addr) (gc uc xc : Nat) (S A gain upper : List Int) (found : Int) (unc : List Bool) (count : Nat) (w : World)
    (hG : Graph U w gb S A) (hU : ∀ b, U b → b < w.heap.size ∧ b ≠ ub) (hr : BRow w ub unc) (v2 : View U w .i32 ga gain) (v3 : View U w .i32 ua upper)
    (hgl : gain.length + 1 = S.length) (hul : upper.length + 1 = S.length) (hcl : unc.length + 1 = S.length) (h1 : 1 ≤ gain.length)
    (hgb : ∀ v, 0 ≤ nth gain v ∧ nth gain v ≤ 70001) (hc1 : 1 ≤ count) (hc2 : count ≤ 70000) :
    Calls Try.prog 35 #[.pointer (some ⟨gb, 0, none⟩), .slice ga gain.length gc, .slice ua upper.length uc, .int .i32 found, .slice (some ⟨ub, 0, none⟩) unc.length xc, .int .i64 count] w
      (PickPost U w ub (pickRun S A gain upper found count)) := by
  have hS := hG.hS
  have hub : ub < w.heap.size := Row.lt hr
  obtain ⟨K, hK⟩ : ∃ K : Nat, mx gain (gain.length - 1) = K := by
    obtain ⟨j, _, e⟩ := mx_mem gain (gain.length - 1)
    have := hgb j
    exact ⟨(nth gain j).toNat, by omega⟩
  have hK2 : K ≤ 70001 := by
    obtain ⟨j, _, e⟩ := mx_mem gain (gain.length - 1)
    have := hgb j
    omega
  have HK : Hid (mx gain (gain.length - 1) = K) := hK
  have Hgl : Hid (gain.length + 1 = S.length) := hgl
  have Hul : Hid (upper.length + 1 = S.length) := hul
  have Hcl : Hid (unc.length + 1 = S.length) := hcl
  have Hgb : Hid (∀ v, 0 ≤ nth gain v ∧ nth gain v ≤ 70001) := hgb
  have b1 : gain.length ≤ 70000 := by omega
  have b2 : upper.length ≤ 70000 := by omega
  have b3 : unc.length ≤ 70000 := by omega
  have b4 : upper.length ≤ unc.length := by omega
  have hmk : ∀ W : World, (Instr.makeSlice 68 (.int .i32 ((K : Int) + 1)) (.int .i32 ((K : Int) + 1))).run Try.prog W = .ok (.slice (some ⟨W.heap.size, 0, none⟩) (K + 1) (K + 1)) (W.alloc (.cells (madeCells #[.slice none 0 0] (K + 1)) 23)) := by
    intro W
    have := run_make_row' (P := Try.prog) 68 23 (.slice none 0 0) 24 Try.underlying68 Try.info23 rfl .i32 .i32 (K + 1) (by omega) (by omega) W
    simpa using this
  have hmp : ∀ W : World, (Instr.makeSlice 23 (.int .i64 0) (.int .i64 (count : Int))).run Try.prog W = .ok (.slice (some ⟨W.heap.size, 0, none⟩) 0 count) (W.alloc (.cells (madeCells #[.int .i32 0] count) 21)) := by
    intro W
    obtain ⟨i0, hi, hz0, hz1, hz2⟩ := info_parts Try.info21
    have := run_make (P := Try.prog) W 23 21 i0 (.int .i32 0) Try.underlying23 hi hz0 .i64 .i64 0 count (by omega) (by omega) (by rw [hz2]; omega) (by omega)
    have e : (Value.int .i32 0).cells = #[.int .i32 0] := rfl
    rw [hz1, e] at this
    simpa using this
  have Hmk : Hid _ := hmk
  have Hmp : Hid _ := hmp
  clear hgl hul hcl hgb hK hmk hmp
  go_enter Try.func35, Try.ntmps35
  go_wp2
  go_loopw [29] (fun i wr => ∃ k : Nat, k ≤ upper.length ∧ i = .int .i64 k ∧ Fix U w wr ∧ ∃ cov : List Bool, cov.length = unc.length ∧ BRow wr ub cov ∧ Hid (∀ j, j < k → nthB cov j = decide (found < nth upper j)))
    (fun i _ => upper.length - (intOf i).toNat)
  case atStart => exact ⟨0, Nat.zero_le _, rfl, Fix.refl _ _, unc, rfl, hr, fun j hj => absurd hj (Nat.not_lt_zero _)⟩
  case round =>
    obtain ⟨k, hk, rfl, hfix, cov, hcovl, hrow, hcov⟩ := hrel
    by_cases hlt : k < upper.length
    · obtain ⟨b0, o0, hb0, rfl, hc0⟩ := v3.at (by omega)
      have y := (hfix.cell (p := ⟨b0, o0 + k, none⟩) hb0).trans (hc0 k hlt)
      have z := hrow.cell k (by omega)
      have fz := hrow.frozen k
      have hrow' : Hid (BRow (wr.setCell ⟨ub, k, none⟩ (.bool (decide (found < nth upper k)))) ub (cov.set k (decide (found < nth upper k)))) := hrow.set k _
      have hfix' : Hid (Fix U w (wr.setCell ⟨ub, k, none⟩ (.bool (decide (found < nth upper k))))) := hfix.setCell (fun h => (hU _ h).2 rfl) _
      have hcov' : Hid (∀ j, j < k + 1 → nthB (cov.set k (decide (found < nth upper k))) j = decide (found < nth upper j)) := by
        intro j hj
        rw [nthB_set _ _ _ _ (by omega)]
        by_cases e : j = k
        · simp [e]
        · rw [if_neg e]; exact hcov.out j (by omega)
      have hcovl' : Hid ((cov.set k (decide (found < nth upper k))).length = unc.length) := by unfold Hid; simp [hcovl]
      clear hc0 hrow hfix hcov hG v2 v3 hr hU hcovl
      go_wp2
      go_roundw
      case rel => exact ⟨k + 1, by omega, by go_num, hfix'.out, _, hcovl'.out, hrow'.out, hcov'.out⟩
      case measure => simp [intOf]; omega
    · obtain rfl : cov = cov0 upper found := by
        apply nthB_ext
        · rw [cov0_len]; have := Hul.out; have := Hcl.out; omega
        · intro i hi
          have := Hul.out
          have := Hcl.out
          rw [hcov.out i (by omega), cov0_nth _ _ _ (by omega)]
      clear hcov hr
      obtain ⟨w1, rfl⟩ : ∃ w1 : World, w1 = wr := ⟨_, rfl⟩
      go_wp2_with fail
      refine (max_any U ga gc gain _ b1 h1 (v2.fix hfix)).mono ?_
      rintro e w' ⟨rfl, rfl⟩
      rw [HK.out]
      have hmk := Hmk.out
      clear Hmk
      go_wp2
      have hsz := hfix.size
      go_loopw [47] (fun i wr => ∃ k : Nat, k ≤ gain.length ∧ i = .int .i64 k ∧ Fix U w wr ∧ BRow wr ub (cov0 upper found) ∧ w'.heap.size < wr.heap.size ∧ ∃ bvs, Bk (w'.heap.size + 1) wr w'.heap.size bvs (bfill gain K k) (fun _ => False))
        (fun i _ => gain.length - (intOf i).toNat)
      case atStart => exact ⟨0, Nat.zero_le _, rfl, hfix.alloc (fun k hk => by have := hU k hk; omega) _, Row.alloc hrow _, by simp, _, Bk.made _ _ _ _⟩
      case round =>
        clear hmk hfix hrow
        obtain ⟨k, hk, rfl, hfix, hrow, hsz2, bvs, hbk⟩ := hrel
        by_cases hlt : k < gain.length
        · obtain ⟨b0, o0, hb0, rfl, hc0⟩ := v2.at (by omega)
          have y := (hfix.cell (p := ⟨b0, o0 + k, none⟩) hb0).trans (hc0 k hlt)
          have hgk := Hgb.out k
          by_cases hpos : 0 < nth gain k
          · have hkK : nth gain k ≤ K := by rw [← HK.out]; exact mx_le _ _ _ (by omega)
            have hbl := bfill_len gain K k
            have hh : (nth gain k).toNat < (bfill gain K k).length := by omega
            have zc := hbk.cell (nth gain k).toNat hh
            have hown := hbk.own (nth gain k).toNat hh
            have hls := lowSum_ge (bfill gain K k) (K + 1) (nth gain k).toNat (by omega)
            have hbi := (bfill_inv gain K k (fun j => by rw [← HK.out]; by_cases e : j < gain.length; exact mx_le _ _ _ (by omega); have : nth gain j = 0 := (by simp [nth, e]); have := mx_le gain (gain.length - 1) k (by omega); omega)).1
            have hll : (bAt (bfill gain K k) (nth gain k).toNat).length ≤ 70000 := by omega
            obtain ⟨av, cv, hv, _⟩ := owns_form hown
            have Hv : Hid _ := hv
            rw [hv] at zc hown
            obtain ⟨i0, hi, hz0, hz1, hz2⟩ := info_parts Try.info21
            have i1 : nth gain k < (K + 1 : Nat) := by omega
            clear hbi hls hv hc0 hG v2 v3
            go_wp2_with (at_builtin; refine wpList_append_lies _ rfl (.tmp 59) (.tmp 62) 23 rfl (w'.heap.size + 1) 21 i0 (.int .i32 0) 1 4 Try.underlying23 hi hz0 hz1 hz2 rfl (by omega) _ _ _ rfl (hown.alloc _) ⟨wr.heap.size, 0, none⟩ 1 1 [.int .i32 k] rfl rfl (cell_one_new _ _ _) ?c1 (by omega) ?c2 ?c3 ?c4 (wr.heap.size + 1) (by simp) ?_)
            case c1 => exact ints_oneCell .i32 [(k : Int)]
            case c2 => unfold maxLen; omega
            case c3 => omega
            case c4 => simp; omega
            intro g cap w2 hown2 hgrow hat hlt2
            have hbk1 : Bk (w'.heap.size + 1) (wr.alloc (.cells #[.int .i32 (k : Int)] 21)) w'.heap.size bvs (bfill gain K k) (fun _ => False) := hbk.keep (fun g _ hg => Below.heap_alloc _ _ _ hg)
            rw [← Hv.out] at hgrow hat
            have hgr := hbk1.grown (nth gain k).toNat hh (by omega) hgrow
            rw [Hv.out] at hgr
            have gc1 := hgr.1
            have gc2 := hgr.2
            have hpush := hbk1.push (nth gain k).toNat hh k g cap (by omega) (by simp; omega) (fun h => h) hown2 hgrow (by simpa using hat)
            rw [← bfill_yes gain K k hpos] at hpush
            have hfin : Hid _ := hpush
            have hob : ∀ b, b < w'.heap.size + 1 → some b ≠ (bvAt bvs (nth gain k).toNat).ownBlock := fun b hb e => by
              have := (hbk.own (nth gain k).toNat hh).lt b e.symm
              omega
            have hfix2 : Hid (Fix U w w2) := grown_fix (hfix.alloc (fun k hk => by have := hU k hk; omega) _) hgrow (fun b hb => by have := hU b hb; exact ⟨by simp; omega, hob b (by omega)⟩)
            have hrow2 : Hid (BRow w2 ub (cov0 upper found)) := (hgrow.block ub (by simp; omega) (hob ub (by omega))).trans (Row.alloc hrow _)
            have hs2 : Hid (w'.heap.size < w2.heap.size) := by have := hgrow.size; simp at this; unfold Hid; omega
            have HU : Hid _ := hU
            clear hgr hpush hob hgrow hat hown2 hown hbk1 hbk hfix hrow zc y hU
            go_wp2
            go_roundw
            case rel =>
              refine ⟨k + 1, by omega, by go_num, ?_, ?_, ?_, _, hfin.out⟩
              · exact hfix2.out.setCell (fun h => by have := (HU.out _ h).1; simp at this; omega) _
              · exact Row.setOther hrow2.out (by simp; omega) _
              · have := hs2.out; simpa [World.setCell] using this
            case measure => simp [intOf]; omega
          · go_wp2
            go_roundw
            case rel => exact ⟨k + 1, by omega, by go_num, hfix, hrow, hsz2, bvs, by rw [bfill_no _ _ _ (by omega)]; exact hbk⟩
            case measure => simp [intOf]; omega
        · obtain rfl : k = gain.length := by omega
          have hmp := Hmp.out
          clear Hmp hlt hk v2 v3
          have hRes : pickRun S A gain upper found count = plevels S A count K ⟨cov0 upper found, bfill gain K gain.length, [], false⟩ := by
            unfold pickRun; rw [HK.out]; rfl
          have hKj : ∀ j, nth gain j ≤ K := by
            intro j
            rw [← HK.out]
            by_cases e : j < gain.length
            · exact mx_le _ _ _ (by omega)
            · have h0 : nth gain j = 0 := by simp [nth, e]
              have := mx_le gain (gain.length - 1) 0 (by omega)
              have := (Hgb.out 0).1
              omega
          have hbi := bfill_inv gain K gain.length hKj
          have hn : (cov0 upper found).length = gain.length := by rw [cov0_len]; have := Hgl.out; have := Hul.out; omega
          have hL0 : Lvl S A (pickRun S A gain upper found count) gain.length K U w ub w'.heap.size (w'.heap.size + 1) wr.heap.size count K bvs ⟨cov0 upper found, bfill gain K gain.length, [], false⟩ (wr.alloc (.cells (madeCells #[.int .i32 0] count) 21)) := by
            refine ⟨⟨?_, Row.alloc hrow _, World.ownsRow_made _ _ _ (by omega) (by unfold maxLen; omega) (by rw [size_madeCells]; omega), hfix.alloc (fun k hk => by have := hU k hk; omega) _, hub, hsz, by omega, by omega, by simp, hU⟩, hRes.symm, rfl, hc1, ⟨hn, bfill_len _ _ _, by have := hbi.1; simpa using this, hbi.2⟩⟩
            exact (hbk.reX (fun g => g = wr.heap.size) (fun g hg e => by omega)).keep (fun g _ hg => Below.heap_alloc _ _ _ hg)
          generalize pickRun S A gain upper found count = R at *
          have HG : Hid (Graph U w gb S A) := hG
          have HU : Hid _ := hU
          clear hRes hKj hbi hn hbk hrow hG hU
          obtain ⟨w3, rfl⟩ : ∃ w3 : World, w3 = wr := ⟨_, rfl⟩
          have hpb : w'.heap.size < w3.heap.size := hsz2
          obtain ⟨pb, hpbe⟩ : ∃ pb, pb = w3.heap.size := ⟨_, rfl⟩
          obtain ⟨bb, hbbe⟩ : ∃ bb, bb = w'.heap.size := ⟨_, rfl⟩
          rw [← hpbe, ← hbbe] at hL0
          go_wp2
          rw [← hpbe, ← hbbe]
          clear hmp hpbe hbbe
          go_loopw [18, 19] (fun pv kv wr => ∃ (k : Nat) (s : PS) (bvs : List Value), k ≤ K ∧ kv = .int .i32 k ∧ pv = .slice (some ⟨pb, 0, none⟩) s.picked.length count ∧ Lvl S A R gain.length K U w ub bb (bb + 1) pb count k bvs s wr)
            (fun _ kv _ => (intOf kv).toNat)
          case atStart =>
            exact ⟨K, _, bvs, Nat.le_refl _, by go_num, rfl, hL0⟩
          case round =>
            clear hL0
            obtain ⟨k, s, bvs, hk, rfl, rfl, hL⟩ := hrel
            by_cases hk0 : 0 < k
            · have hbl := hL.inv.bl
              have zc := hL.mem.bk.cell k (by omega)
              obtain ⟨av, cv, hv, _⟩ := owns_form (hL.mem.bk.own k (by omega))
              have hI := hL.inn hk0
              rw [hv] at zc hI
              have hLl : (bAt s.B k).length ≤ 70000 := by have := hI.inv.sum; omega
              clear hv hL hbl
              generalize bAt s.B k = L at *
              obtain ⟨wo, rfl⟩ : ∃ wo : World, wo = wr := ⟨_, rfl⟩
              go_wp2
              go_loopw [18, 81] (fun pv iv wr => ∃ (j : Nat) (s : PS) (bvs : List Value), j ≤ L.length ∧ iv = .int .i64 j ∧ pv = .slice (some ⟨pb, 0, none⟩) s.picked.length count ∧ Inn S A R gain.length K U w ub bb (bb + 1) pb count k L (.slice av L.length cv) j bvs s wr)
                (fun _ iv _ => L.length - (intOf iv).toNat)
              case atStart => exact ⟨0, s, bvs, Nat.zero_le _, rfl, rfl, hI⟩
              case round =>
                clear hI zc
                obtain ⟨j, s, bvs, hj, rfl, rfl, hI⟩ := hrel
                by_cases hlt : j < L.length
                · obtain ⟨g, rfl, y⟩ := hI.cell hk hlt
                  have hrg := hI.range hlt
                  obtain ⟨v, hv⟩ : ∃ v : Nat, nth L j = v := ⟨(nth L j).toNat, by omega⟩
                  rw [hv] at y hrg
                  have Hv : Hid (nth L j = v) := hv
                  clear hv
                  have hcl := hI.inv.cl
                  have hvn : v < s.cov.length := by omega
                  have hvS : v + 1 < S.length := by have := Hgl.out; omega
                  have z := hI.mem.cov.cell v hvn
                  have Hcl2 : Hid (s.cov.length = gain.length) := hcl
                  have hcov5 : s.cov.length = unc.length := by have := Hgl.out; have := Hcl.out; omega
                  have Hcov5 : Hid (s.cov.length = unc.length) := hcov5
                  have hvu : v < unc.length := by omega
                  clear hcl hcov5 hvn
                  have hnr := HG.out.csr.nbr_range v hvS
                  have Hnr : Hid (∀ j, j < (nbr S A v).length → 0 ≤ nth (nbr S A v) j ∧ nth (nbr S A v) j + 1 < S.length) := hnr
                  have hnl : (nbr S A v).length ≤ 70000 := by
                    have h1 := HG.out.csr.nbr_len v hvS
                    have h2 := HG.out.csr.st_le (v + 1) hvS
                    have h3 := HG.out.hA
                    omega
                  clear hnr
                  cases hb : nthB s.cov v
                  all_goals
                    rw [hb] at z
                    have Hb : Hid (nthB s.cov v = _) := hb
                    clear hb
                    have hG1 : Graph U wr gb S A := HG.out.fix hI.mem.fix
                    go_wp2_with fail
                    refine (nbrs_any hG1 v hvS).mono ?_
                    rintro e w5 ⟨a5, c5, n5, rfl, hview, rfl⟩
                    clear hG1
                    go_wp2
                    go_loop [22, 96] (fun h i => ∃ m : Nat, m ≤ (nbr S A v).length ∧ i = .int .i64 m ∧ h = .int .i32 (holdTo S A s.cov v m)) (fun _ i => (nbr S A v).length - (intOf i).toNat)
                    case atStart => exact ⟨0, Nat.zero_le _, rfl, by rw [holdTo_zero, Hb.out]; rfl⟩
                    case round =>
                      obtain ⟨m, hm, rfl, rfl⟩ := hrel
                      have hho := holdTo_le S A s.cov v m
                      by_cases hlm : m < (nbr S A v).length
                      · obtain ⟨b6, o6, _, rfl, hc6⟩ := hview.at (by omega)
                        have y6 := hc6 m hlm
                        have hr6 := Hnr.out m hlm
                        have hi6 : nth (nbr S A v) m < unc.length := by have := Hcl.out; omega
                        have z6 := hI.mem.cov.cell (nth (nbr S A v) m).toNat (by have := Hcov5.out; omega)
                        clear hc6 y z hview
                        cases hb6 : nthB s.cov (nth (nbr S A v) m).toNat
                        all_goals
                          rw [hb6] at z6
                          have Hb6 : Hid (nthB s.cov (nth (nbr S A v) m).toNat = _) := hb6
                          clear hb6
                          go_wp2
                          go_round
                          case rel =>
                            refine ⟨m + 1, by omega, by go_num, ?_⟩
                            first
                              | rw [holdTo_yes S A _ v m hlm Hb6.out]; go_num
                              | rw [holdTo_no S A _ v m hlm Hb6.out]
                          case measure => simp [intOf]; omega
                      · obtain rfl : m = (nbr S A v).length := by omega
                        rw [holdTo_full S A s.cov v _ (Nat.le_refl _)] at hho ⊢
                        obtain ⟨h, hh⟩ : ∃ h, h = hold S A s.cov v := ⟨_, rfl⟩
                        rw [← hh] at hho ⊢
                        have Hh : Hid (h = hold S A s.cov v) := hh
                        clear hh hlm hview z
                        have hI6 := hI.drewN n5
                        generalize wr.drewN n5 = w6 at *
                        clear hI y
                        by_cases hhk : h < k
                        · by_cases hh0 : 0 < h
                          · have hbl := hI6.inv.bl
                            have hh2 : h < s.B.length := by omega
                            have zc := hI6.mem.bk.cell h hh2
                            have hown := hI6.mem.bk.own h hh2
                            have hll : (bAt s.B h).length ≤ 70000 := by
                              have h1 := lowSum_ge s.B k h hhk
                              have h2 := hI6.inv.sum
                              omega
                            obtain ⟨ah, ch, hvh, _⟩ := owns_form hown
                            have Hvh : Hid _ := hvh
                            rw [hvh] at zc hown
                            obtain ⟨i0, hi, hz0, hz1, hz2⟩ := info_parts Try.info21
                            have hsz6 := hI6.mem.h5
                            have hpb4 := hI6.mem.h4
                            clear hvh hbl
                            go_wp2_with (at_builtin; refine wpList_append_lies _ rfl (.tmp 117) (.tmp 119) 23 rfl (bb + 1) 21 i0 (.int .i32 0) 1 4 Try.underlying23 hi hz0 hz1 hz2 rfl (by omega) _ _ _ rfl (hown.alloc _) ⟨w6.heap.size, 0, none⟩ 1 1 [.int .i32 v] rfl rfl (cell_one_new _ _ _) ?d1 (by omega) ?d2 ?d3 ?d4 (w6.heap.size + 1) (by simp) ?_)
                            case d1 => first | rfl | exact ints_oneCell .i32 [(v : Int)]
                            case d2 => unfold maxLen; omega
                            case d3 => omega
                            case d4 => first | omega | (simp; omega)
                            intro g7 cap7 w7 hown7 hgrow hat hlt7
                            have hM1 := hI6.mem.alloc (.cells #[.int .i32 (v : Int)] 21)
                            rw [← Hvh.out] at hgrow hat
                            have hgr := hM1.bk.grown h hh2 (by omega) hgrow
                            rw [Hvh.out] at hgr
                            have gc1 := hgr.1
                            have gc2 := hgr.2
                            have hmv := hM1.move h hh2 v g7 cap7 hown7 hgrow (by simpa using hat)
                            have hstep : pstep S A count k s (nth L j) = { s with B := bput s.B h v } := by
                              rw [Hv.out, Hh.out]
                              exact pstep_move (x := (v : Int)) hI6.nd (by rw [Int.toNat_natCast, ← Hh.out]; exact hhk) (by rw [Int.toNat_natCast, ← Hh.out]; exact hh0)
                            have hbvl : h < bvs.length := by rw [hI6.mem.bk.len]; exact hh2
                            have hnx := hI6.next hlt hk (by rw [Hv.out]; omega) hstep hmv hI6.nd (by rw [bvAt_set _ _ _ _ hbvl, if_neg (by omega)]; exact hI6.hdr)
                            clear hgr hmv hstep hM1 hown7 hgrow hat hown zc hI6 hbvl
                            go_wp2
                            go_roundw
                            case rel => exact ⟨j + 1, { s with B := bput s.B h v }, _, by omega, by go_num, rfl, hnx⟩
                            case measure => simp [intOf]; omega
                          · have hstep : pstep S A count k s (nth L j) = s := by
                              rw [Hv.out]
                              exact pstep_skip (x := (v : Int)) hI6.nd (by rw [Int.toNat_natCast, ← Hh.out]; exact hhk) (by rw [Int.toNat_natCast, ← Hh.out]; exact hh0)
                            have hnx := hI6.next hlt hk (by rw [Hv.out]; omega) hstep hI6.mem hI6.nd hI6.hdr
                            clear hstep hI6
                            go_wp2
                            go_roundw
                            case rel => exact ⟨j + 1, _, _, by omega, by go_num, rfl, hnx⟩
                            case measure => simp [intOf]; omega
                        · obtain ⟨i0, hi, hz0, hz1, hz2⟩ := info_parts Try.info21
                          have hshort := hI6.short
                          have hown := hI6.mem.pick
                          go_wp2_with (at_builtin; refine wpList_append_fits _ rfl (.tmp 122) (.tmp 124) 23 rfl (bb + 1) 21 i0 1 Try.underlying23 hi hz1 pb s.picked.length count _ rfl (hown.alloc _) ⟨w6.heap.size, 0, none⟩ 1 1 [.int .i32 v] rfl rfl (cell_one_new _ _ _) ?e1 ?e2 ?_)
                          case e1 => first | rfl | exact ints_oneCell .i32 [(v : Int)]
                          case e2 => omega
                          intro w7 hown7 hgrow7
                          have hM1 := hI6.mem.alloc (.cells #[.int .i32 (v : Int)] 21)
                          by_cases hlast : s.picked.length + 1 = count
                          · have hl' : ((s.picked.length : Int) + 1 == (count : Int)) = true := by simp; omega
                            have hM7 := hM1.picks v true hown7 hgrow7
                            have hR : R = { s with picked := s.picked ++ [(v : Int)], done := true } := by
                              apply hI6.last hlt _ rfl
                              rw [Hv.out]
                              exact pstep_last (x := (v : Int)) hI6.nd (by rw [Int.toNat_natCast, ← Hh.out]; exact hhk) hlast
                            have HR : Hid (R = { s with picked := s.picked ++ [(v : Int)], done := true }) := hR
                            have Hlast : Hid (s.picked.length + 1 = count) := hlast
                            clear hlast hR hown7 hgrow7 hM1 hown hI6
                            go_wp2
                            go_ret
                            rw [HR.out]
                            exact ⟨some ⟨pb, 0, none⟩, count, by rw [List.length_append]; rfl, hM7.view, hM7.cov, hM7.fix⟩
                          · have hl' : ((s.picked.length : Int) + 1 == (count : Int)) = false := by simp; omega
                            have hM7 := hM1.picks v s.done hown7 hgrow7
                            have hstep : pstep S A count k s (nth L j) = { s with picked := s.picked ++ [(v : Int)], cov := strike S A s.cov v } := by
                              rw [Hv.out]
                              exact pstep_pick (x := (v : Int)) hI6.nd (by rw [Int.toNat_natCast, ← Hh.out]; exact hhk) hlast
                            have Hstep : Hid _ := hstep
                            have hcz := hM7.cov.cell v (by have := Hcov5.out; simp only; omega)
                            have hfz := hM7.cov.frozen v
                            have hM8 := hM7.clear v
                            have hG8 := HG.out.fix hM8.fix
                            clear hlast hown7 hgrow7 hM1 hown hM7 hstep
                            go_wp2_with fail
                            generalize w7.setCell ⟨ub, v, none⟩ (.bool false) = w8 at *
                            refine (nbrs_any hG8 v hvS).mono ?_
                            rintro e w9 ⟨a9, c9, n9, rfl, hview, rfl⟩
                            have hM9 := hM8.drewN n9
                            generalize hw9 : w8.drewN n9 = w9 at *
                            have hview9 : View U w9 .i32 a9 (nbr S A v) := by rw [← hw9]; exact hview.fix ((Fix.refl _ _).drewN _)
                            clear hw9 hview hM8 hG8 hcz hfz
                            go_wp2
                            go_loopw [139] (fun i wr => ∃ m : Nat, m ≤ (nbr S A v).length ∧ i = .int .i64 m ∧ Fix U w9 wr ∧ PMem U w ub bb (bb + 1) pb count bvs { s with picked := s.picked ++ [(v : Int)], cov := clr (s.cov.set v false) ((nbr S A v).take m) } wr) (fun i _ => (nbr S A v).length - (intOf i).toNat)
                            case atStart => exact ⟨0, Nat.zero_le _, rfl, Fix.refl _ _, hM9⟩
                            case round =>
                              clear hM9
                              obtain ⟨m, hm, rfl, hf9, hM⟩ := hrel
                              by_cases hlm : m < (nbr S A v).length
                              · obtain ⟨b6, o6, hb6, rfl, hc6⟩ := hview9.at (by omega)
                                have y6 := (hf9.cell (p := ⟨b6, o6 + m, none⟩) hb6).trans (hc6 m hlm)
                                have hr6 := Hnr.out m hlm
                                have hi6 : nth (nbr S A v) m < unc.length := by have := Hcl.out; omega
                                have hll : (clr (s.cov.set v false) ((nbr S A v).take m)).length = s.cov.length := by rw [clr_len]; simp
                                have z6 := hM.cov.cell (nth (nbr S A v) m).toNat (by have := Hcov5.out; simp only; omega)
                                have fz6 := hM.cov.frozen (nth (nbr S A v) m).toNat
                                have hM' := hM.clear (nth (nbr S A v) m).toNat
                                simp only at hM'
                                rw [← clr_snoc _ _ _ hlm] at hM'
                                have hf' : Fix U w9 (wr.setCell ⟨ub, (nth (nbr S A v) m).toNat, none⟩ (.bool false)) := hf9.setCell (fun h => (HU.out _ h).2 rfl) _
                                clear hll hM hf9 hc6 hI6 hview9
                                go_wp2
                                go_roundw
                                case rel => exact ⟨m + 1, by omega, by go_num, hf', hM'⟩
                                case measure => simp [intOf]; omega
                              · have e : (nbr S A v).take m = nbr S A v := List.take_of_length_le (by omega)
                                rw [e] at hM
                                have hnx := hI6.next hlt hk (by rw [Hv.out]; omega) Hstep.out hM hI6.nd hI6.hdr
                                clear hM hI6 hf9 hview9
                                go_wp2
                                go_roundw
                                case rel => exact ⟨j + 1, { s with picked := s.picked ++ [(v : Int)], cov := strike S A s.cov v }, _, by omega, by go_num, by rw [List.length_append]; rfl, hnx⟩
                                case measure => simp [intOf]; omega
                · have hL2 := hI.lvl hk0 (by omega)
                  go_wp2
                  go_roundw
                  case rel => exact ⟨k - 1, s, bvs, by omega, by go_num, rfl, hL2⟩
                  case measure => simp [intOf]; omega
            · obtain rfl : k = 0 := by omega
              have hRs : s = R := hL.res
              have hview := hL.mem.view
              have hcv := hL.mem.cov
              have hfx := hL.mem.fix
              clear hL
              subst hRs
              go_wp2
              go_ret
              exact ⟨_, _, rfl, hview, hcv, hfx⟩
end Go.Proofs.Qxb6605187a
