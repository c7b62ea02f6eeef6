import Derived.Test.Qxb6605187aLawKit
import Derived.Test.Qxb6605187aClones
import Derived.Test.Qxb6605187aWalkP
import Derived.Test.Qxb6605187aWalkPick
import Derived.Test.Qxb6605187aPickLaw2
namespace Go.Proofs.Qxb6605187a
open Go.RowKit
set_option linter.unusedVariables false

set_option maxHeartbeats 400000 in
theorem bytes18 (a0 a1 a2 a3 a5 : Option Addr) (n0 n1 n2 n3 n5 c0 c1 c2 c3 c5 : Nat) (f c : Int) (w : World) (h0 : n0 ≤ maxLen) (h1 : n1 ≤ maxLen) (h2 : n2 ≤ maxLen) (h3 : n3 ≤ maxLen) (h5 : n5 ≤ maxLen) :
    Calls Try.prog 18 #[.slice a0 n0 c0, .slice a1 n1 c1, .slice a2 n2 c2, .slice a3 n3 c3, .int .i32 f, .slice a5 n5 c5, .int .i64 c] w (SomeBool w) := by
  unfold maxLen at *
  go_enter Try.func18, Try.ntmps18
  go_wp2
  all_goals
    go_ret
    exact SomeBool.mk _

/-- ZZPickSources -/
theorem zzpick_any (U : Nat → Prop) (gb ub : Nat) (ga ua : Option Addr) (gc uc xc : Nat) (S A gain upper : List Int) (found : Int) (unc : List Bool) (count : Nat) (w : World)
    (hG : Graph U w gb S A) (hU : ∀ b, U b → b < w.heap.size ∧ b ≠ ub) (hr : BRow w ub unc) (v2 : View U w .i32 ga gain) (v3 : View U w .i32 ua upper)
    (hgl : gain.length + 1 = S.length) (hul : upper.length + 1 = S.length) (hcl : unc.length + 1 = S.length) (h1 : 1 ≤ gain.length)
    (hgb : ∀ v, 0 ≤ nth gain v ∧ nth gain v ≤ 70001) (hc1 : 1 ≤ count) (hc2 : count ≤ 70000) :
    Calls Try.prog 15 #[.pointer (some ⟨gb, 0, none⟩), .slice ga gain.length gc, .slice ua upper.length uc, .int .i32 found, .slice (some ⟨ub, 0, none⟩) unc.length xc, .int .i64 count] w
      (PickPost U w ub (pickRun S A gain upper found count)) := by
  have hp := pick_any U gb ub ga ua gc uc xc S A gain upper found unc count w hG hU hr v2 v3 hgl hul hcl h1 hgb hc1 hc2
  have Hp : Hid _ := hp
  clear hp hgl hul hcl hgb
  go_enter Try.func15, Try.ntmps15
  go_wp2_with fail
  refine Calls.mono Hp.out ?_
  rintro e w' ⟨a, cap, rfl, h⟩
  have Hh : Hid _ := h
  clear h
  go_wp2
  go_ret
  exact ⟨a, cap, rfl, Hh.out⟩

set_option maxHeartbeats 4000000 in
set_option maxRecDepth 100000 in
theorem law4 (sa aa ga ua xa : Option Addr) (sc ac gc uc xc : Nat) (S A gain upper : List Int) (unc : List Bool) (found c : Int) (w : World)
    (m0 : S.length ≤ maxLen) (m1 : A.length ≤ maxLen) (m2 : gain.length ≤ maxLen) (m3 : upper.length ≤ maxLen) (m5 : unc.length ≤ maxLen) (hw : Wf32 A)
    (v0 : View (fun b => b < w.heap.size) w .i64 sa S) (v1 : View (fun b => b < w.heap.size) w .i32 aa A) (v2 : View (fun b => b < w.heap.size) w .i32 ga gain) (v3 : View (fun b => b < w.heap.size) w .i32 ua upper) (v5 : ViewB (fun b => b < w.heap.size) w xa unc) :
    Calls Try.prog 4 #[.slice sa S.length sc, .slice aa A.length ac, .slice ga gain.length gc, .slice ua upper.length uc, .int .i32 found, .slice xa unc.length xc, .int .i64 c] w (LawPost w) := by
  go_enter Try.func4, Try.ntmps4
  go_wp2_with fail
  refine (bytes18 _ _ _ _ _ _ _ _ _ _ _ _ _ _ _ _ _ _ m0 m1 m2 m3 m5).mono ?_
  rintro e w' ⟨b, rfl, rfl⟩
  unfold maxLen at m0 m1 m2 m3 m5
  cases b with
  | false =>
    go_wp2
    go_ret
    exact ⟨rfl, Fix.refl _ _⟩
  | true =>
    by_cases t0 : 32768 < S.length
    · go_wp2
      go_ret
      exact ⟨rfl, Fix.refl _ _⟩
    by_cases t1 : 65536 < A.length
    · go_wp2
      go_ret
      exact ⟨rfl, Fix.refl _ _⟩
    by_cases t2 : 32768 < gain.length
    · go_wp2
      go_ret
      exact ⟨rfl, Fix.refl _ _⟩
    by_cases t3 : 32768 < upper.length
    · go_wp2
      go_ret
      exact ⟨rfl, Fix.refl _ _⟩
    by_cases t4 : 32768 < unc.length
    · go_wp2
      go_ret
      exact ⟨rfl, Fix.refl _ _⟩
    by_cases t5 : c < 1
    · go_wp2
      go_ret
      exact ⟨rfl, Fix.refl _ _⟩
    by_cases t6 : 65536 < c
    · go_wp2
      go_ret
      exact ⟨rfl, Fix.refl _ _⟩
    go_wp2_with fail
    obtain ⟨count, hcount⟩ : ∃ count : Nat, c = count := ⟨c.toNat, by omega⟩
    subst hcount
    refine (premise_any _ sa aa ga ua sc ac gc uc xa unc.length xc S A gain upper found _ (by omega) (by omega) (by omega) (by omega) (by omega) hw v0 v1 v2 v3).mono ?_
    rintro e w1 ⟨b, rfl, hb, hf1⟩
    cases b with
    | false =>
      go_wp2
      go_ret
      exact ⟨rfl, hf1.mono fun _ _ => trivial⟩
    | true =>
      have hpre := hb rfl
      have hf1' : Fix (fun b => b < w'.heap.size) w' w1 := hf1.mono fun _ _ => trivial
      replace v0 := v0.up hf1'
      replace v1 := v1.up hf1'
      replace v2 := v2.up hf1'
      replace v3 := v3.up hf1'
      replace v5 := v5.up hf1'
      have Hpre : Hid _ := hpre
      have Hf : Hid _ := hf1'
      clear hb hpre hf1 hf1'
      go_wp2_with fail
      refine (clone11 _ sa sc S _ (by omega) v0 (fun k hk => hk)).mono ?_
      rintro e w2 ⟨sa2, rfl, o0, hf⟩
      have Hf2 : Hid _ := Hf.out.up hf
      have V0 := o0.view (fun b => b < w2.heap.size) (fun b _ h => h)
      replace v1 := v1.up hf
      replace v2 := v2.up hf
      replace v3 := v3.up hf
      replace v5 := v5.up hf
      clear v0 o0 Hf hf
      go_wp2_with fail
      refine (clone12 _ aa ac A _ (by omega) v1 (fun k hk => hk)).mono ?_
      rintro e w3 ⟨aa2, rfl, o1, hf⟩
      have Hf3 : Hid _ := Hf2.out.up hf
      have V1 := o1.view (fun b => b < w3.heap.size) (fun b _ h => h)
      replace V0 := V0.up hf
      replace v2 := v2.up hf
      replace v3 := v3.up hf
      replace v5 := v5.up hf
      clear v1 o1 Hf2 hf
      go_wp2_with fail
      refine (clone12 _ ga gc gain _ (by omega) v2 (fun k hk => hk)).mono ?_
      rintro e w4 ⟨ga2, rfl, o2, hf⟩
      have Hf4 : Hid _ := Hf3.out.up hf
      have V2 := o2.view (fun b => b < w4.heap.size) (fun b _ h => h)
      replace V0 := V0.up hf
      replace V1 := V1.up hf
      replace v3 := v3.up hf
      replace v5 := v5.up hf
      clear v2 o2 Hf3 hf
      go_wp2_with fail
      refine (clone12 _ ua uc upper _ (by omega) v3 (fun k hk => hk)).mono ?_
      rintro e w5 ⟨ua2, rfl, o3, hf⟩
      have Hf5 : Hid _ := Hf4.out.up hf
      have V3 := o3.view (fun b => b < w5.heap.size) (fun b _ h => h)
      replace V0 := V0.up hf
      replace V1 := V1.up hf
      replace V2 := V2.up hf
      replace v5 := v5.up hf
      clear v3 o3 Hf4 hf
      go_wp2_with fail
      refine (clone13 _ xa xc unc _ (by omega) v5 (fun k hk => hk)).mono ?_
      rintro e w6 ⟨xa2, rfl, o5, hf⟩
      have Hf6 : Hid _ := Hf5.out.up hf
      have V5 := o5.view (fun b => b < w6.heap.size) (fun b _ h => h)
      replace V0 := V0.up hf
      replace V1 := V1.up hf
      replace V2 := V2.up hf
      replace V3 := V3.up hf
      clear v5 o5 Hf5 hf
      have hul : unc.length + 1 = S.length := Hpre.out.ml
      have h2 := Hpre.out.two
      go_wp2_with fail
      refine (clone13 _ xa2 unc.length unc _ (by omega) V5 (fun k hk => hk)).mono ?_
      rintro e w7 ⟨u1, rfl, o6, hf7⟩
      go_wp2_with fail
      refine (clone13 _ xa2 unc.length unc _ (by omega) (V5.up hf7) (fun k hk => hk)).mono ?_
      rintro e w8 ⟨u2, rfl, o7, hf8⟩
      obtain ⟨ub1, hub1, rfl, r1⟩ : ∃ nb, w6.heap.size ≤ nb ∧ u1 = some ⟨nb, 0, none⟩ ∧ BRow w7 nb unc := by
        rcases o6 with h | h
        · rw [h] at hul; simp at hul; omega
        · exact h
      obtain ⟨ub2, hub2, rfl, r2⟩ : ∃ nb, w7.heap.size ≤ nb ∧ u2 = some ⟨nb, 0, none⟩ ∧ BRow w8 nb unc := by
        rcases o7 with h | h
        · rw [h] at hul; simp at hul; omega
        · exact h
      clear o6 o7 V5 hul
      go_wp2_with fail
      refine (graph_any sa2 aa2 S.length S.length A.length A.length _).mono ?_
      rintro e w9 ⟨rfl, hw9⟩
      have hs7 := hf7.size
      have hs8 := hf8.size
      have hrl1 : ub1 < w7.heap.size := Row.lt r1
      have hrl2 : ub2 < w8.heap.size := Row.lt r2
      have hf68 : Fix (fun b => b < w6.heap.size) w6 w8 := hf7.up hf8
      have hG9 : Graph (fun b => b < w6.heap.size ∨ b = w8.heap.size) w9 w8.heap.size S A := by
        rw [hw9]
        exact graph_made Hpre.out.csr (by omega) (by omega) hw (fun b hb => by omega) (V0.fix hf68) (V1.fix hf68)
      have hf89 : Fix (fun b => b < w8.heap.size) w8 w9 := by rw [hw9]; exact (Fix.refl _ _).alloc (fun k hk => hk) _
      have hs9 : w9.heap.size = w8.heap.size + 1 := by rw [hw9]; simp
      have hf69 : Fix (fun b => b < w6.heap.size) w6 w9 := hf68.up hf89
      have r19 : BRow w9 ub1 unc := (Row.fix r1 hf8 hrl1).fix hf89 (by omega)
      have r29 : BRow w9 ub2 unc := Row.fix r2 hf89 hrl2
      have V0' := V0.fix hf69
      have V1' := V1.fix hf69
      have V2' := V2.fix hf69
      have V3' := V3.fix hf69
      have Hf9 : Hid _ := Hf6.out.trans (hf69.mono fun b hb => by have := Hf6.out.size; omega)
      have h69 := hf69.size
      have hs6 := Hf6.out.size
      clear hf68 hf89 hf69 r1 r2 V0 V1 V2 V3 hf7 hf8 Hf6 hw9
      have hgb : ∀ v, 0 ≤ nth gain v ∧ nth gain v ≤ 70001 := by
        intro v
        by_cases e : v < gain.length
        · have h1 := Hpre.out.gain v e
          have h2 := hold_le S A (cov0 upper found) v
          have h3 := Hpre.out.csr.nbr_len v (by have := Hpre.out.gl; omega)
          have h4 := Hpre.out.csr.st_le (v + 1) (by have := Hpre.out.gl; omega)
          omega
        · have h0 : nth gain v = 0 := by simp [nth, e]
          omega
      have Hgb : Hid _ := hgb
      clear hgb
      obtain ⟨gb, hgbe⟩ : ∃ gb, gb = w8.heap.size := ⟨_, rfl⟩
      rw [← hgbe] at hG9 hs9 ⊢
      have hrl2' : ub2 < gb := by omega
      have hs7' : w7.heap.size ≤ gb := by omega
      clear hgbe hs8 hrl2
      have hgl1 : 1 ≤ gain.length := by have := Hpre.out.gl; omega
      go_wp2_with fail
      refine (zzpick_any (fun b => b < w6.heap.size ∨ b = gb ∨ b = ub2) gb ub1 ga2 ua2 gain.length upper.length unc.length S A gain upper found unc count _ ?_ (fun b hb => by omega) r19 (V2'.weaken fun b hb => .inl hb) (V3'.weaken fun b hb => .inl hb) Hpre.out.gl Hpre.out.ul Hpre.out.ml hgl1 Hgb.out (by omega) (by omega)).mono ?_
      · exact hG9.weaken fun b hb => by omega
      rintro e w10 ⟨p1, cap1, rfl, vp1, rc1, hf10⟩
      go_wp2_with fail
      have en : (S.length : Int) - 1 = ((S.length - 1 : Nat) : Int) := by omega
      rw [en]
      have hs10 := hf10.size
      have vp1' := vp1.inside
      have hf10' : Fix (fun b => b < w6.heap.size ∨ b = gb) w9 w10 := hf10.mono fun b hb => by omega
      have hG10 := hG9.fix hf10'
      have r210 : BRow w10 ub2 unc := Row.fix r29 hf10 (.inr (.inr rfl))
      have V0'' := V0'.fix (hf10.mono fun b hb => .inl hb)
      have V1'' := V1'.fix (hf10.mono fun b hb => .inl hb)
      have V2'' := V2'.fix (hf10.mono fun b hb => .inl hb)
      have V3'' := V3'.fix (hf10.mono fun b hb => .inl hb)
      have Hf10 : Hid _ := Hf9.out.trans (hf10.mono fun b hb => by omega)
      clear hG9 V0' V1' V2' V3' r29 r19 hf10 hf10' rc1 vp1 en
      refine (zzpick_any (fun b => b < w6.heap.size ∨ b = gb ∨ (w9.heap.size ≤ b ∧ b < w10.heap.size)) gb ub2 ga2 ua2 gain.length upper.length unc.length S A gain upper found unc (S.length - 1) _ (hG10.weaken fun b hb => by omega) (fun b hb => by omega) r210 (V2''.weaken fun b hb => .inl hb) (V3''.weaken fun b hb => .inl hb) Hpre.out.gl Hpre.out.ul Hpre.out.ml hgl1 Hgb.out (by omega) (by omega)).mono ?_
      rintro e w11 ⟨p2, cap2, rfl, vp2, rc2, hf11⟩
      have hs11 := hf11.size
      have W0 := V0''.fix (hf11.mono fun b hb => .inl hb)
      have W1 := V1''.fix (hf11.mono fun b hb => .inl hb)
      have W3 := V3''.fix (hf11.mono fun b hb => .inl hb)
      have P1 : View (fun b => b < w11.heap.size) w11 .i32 p1 (pickRun S A gain upper found count).picked := ((vp1'.fix (hf11.mono fun b hb => .inr (.inr hb))).weaken fun b hb => by omega)
      have P2 : View (fun b => b < w11.heap.size) w11 .i32 p2 (pickRun S A gain upper found (S.length - 1)).picked := vp2.inside.weaken fun b hb => hb.2
      have Hf11 : Hid _ := Hf10.out.trans (hf11.mono fun b hb => by omega)
      have hPL := pick_law (S := S) (A := A) (gain := gain) (upper := upper) (found := found) (by have := Hpre.out.gl; have := Hpre.out.ul; omega) hgl1 Hpre.out.gain
      have hgl : gain.length + 1 = S.length := Hpre.out.gl
      generalize (pickRun S A gain upper found 0).picked = F at *
      rw [hPL.picked count (by omega)] at P1 ⊢
      rw [hPL.picked (S.length - 1) (by omega), List.take_of_length_le (by have := hPL.len; omega)] at P2 ⊢
      have W0' : View (fun b => b < w11.heap.size) w11 .i64 sa2 S := W0.weaken fun b hb => by omega
      have W1' : View (fun b => b < w11.heap.size) w11 .i32 aa2 A := W1.weaken fun b hb => by omega
      have W3' : View (fun b => b < w11.heap.size) w11 .i32 ua2 upper := W3.weaken fun b hb => by omega
      have hFl := hPL.len
      have HPL : Hid _ := hPL
      have hgl' : gain.length + 1 ≤ S.length := by omega
      have Hgl : Hid (gain.length + 1 = S.length) := hgl
      clear hgl hPL hf11 vp2 vp1' W0 W1 W3 V0'' V1'' V2'' V3'' rc2 r210 hG10 Hf10 Hf9
      obtain ⟨Q, hQ⟩ : ∃ Q, Q = F.take count := ⟨_, rfl⟩
      rw [← hQ] at P1 ⊢
      have hQl : Q.length = min count F.length := by rw [hQ]; simp
      have HQn : Hid (∀ i, i < Q.length → nth Q i = nth F i) := by
        intro i hi
        rw [hQ]
        unfold nth
        rw [List.getD_eq_getElem?_getD, List.getD_eq_getElem?_getD, List.getElem?_take, if_pos (by omega)]
      have hQF : Q.length ≤ F.length := by omega
      have HQl : Hid (Q.length = min count F.length) := hQl
      clear hQl hQ
      have hmk := run_make_row' (P := Try.prog) 24 4 (.bool false) 1 Try.underlying24 (by kernel_rfl) rfl .i64 .i64 (S.length - 1) (by omega) (by omega)
      have Hmk : Hid _ := hmk
      clear hmk
      by_cases hcf : count < F.length
      · have hq' : ((Q.length : Int) != (count : Int)) = false := by have := HQl.out; simp; omega
        go_wp2_with fail
        go_loopw [22] (fun i wr => ∃ k : Nat, k ≤ Q.length ∧ i = .int .i64 k ∧ Fix (fun _ => True) w11 wr) (fun i _ => Q.length - (intOf i).toNat)
        case atStart => exact ⟨0, Nat.zero_le _, rfl, Fix.refl _ _⟩
        case round =>
          obtain ⟨k, hk, rfl, hfx⟩ := hrel
          by_cases hlt : k < Q.length
          · obtain ⟨b0, o0, _, rfl, hc0⟩ := P1.at (by omega)
            obtain ⟨b1, o1, _, rfl, hc1⟩ := P2.at (by omega)
            have y0 := (hfx.cell (p := ⟨b0, o0 + k, none⟩) trivial).trans (hc0 k hlt)
            have y1 := (hfx.cell (p := ⟨b1, o1 + k, none⟩) trivial).trans (hc1 k (by omega))
            rw [HQn.out k hlt] at y0
            have j0 : (k : Int) < Q.length := by omega
            have j1 : (k : Int) < F.length := by omega
            have hne : (nth F k != nth F k) = false := by simp
            clear hc0 hc1 W0' W1' W3' P1 P2
            go_wp2
            go_quiet (fail)
            go_wp2
            go_roundw
            case rel => exact ⟨k + 1, by omega, by go_num, hfx.drewN _⟩
            case measure => simp [intOf]; omega
          · clear P1 hq'
            have hmk := Hmk.out
            obtain ⟨w12, rfl⟩ : ∃ w12 : World, w12 = wr := ⟨_, rfl⟩
            go_wp2
            clear hmk
            have hsx := hfx.size
            have X0 := (W0'.fix (hfx.mono fun _ _ => trivial)).weaken (V := fun b => b < w12.heap.size) fun b hb => by omega
            have X1 := (W1'.fix (hfx.mono fun _ _ => trivial)).weaken (V := fun b => b < w12.heap.size) fun b hb => by omega
            have X2 := (P2.fix (hfx.mono fun _ _ => trivial)).weaken (V := fun b => b < w12.heap.size) fun b hb => by omega
            have X3 := (W3'.fix (hfx.mono fun _ _ => trivial)).weaken (V := fun b => b < w12.heap.size) fun b hb => by omega
            have Hf12 : Hid _ := Hf11.out.trans (hfx.mono (V := fun b => b < w'.heap.size) fun _ _ => trivial)
            have hs12 := Hf12.out.size
            clear W0' W1' W3' P2 hfx Hmk
            have hul : upper.length + 1 = S.length := Hpre.out.ul
            have hul' : S.length - 1 = upper.length := by omega
            have Hul : Hid (S.length - 1 = upper.length) := hul'
            clear hul hul'
            go_loopw [24] (fun i wr => ∃ k : Nat, k ≤ S.length - 1 ∧ i = .int .i64 k ∧ Fix (fun b => b < w12.heap.size) w12 wr ∧ ∃ cov : List Bool, cov.length = S.length - 1 ∧ BRow wr w12.heap.size cov ∧ Hid (∀ j, j < k → nthB cov j = decide (found < nth upper j)))
              (fun i _ => S.length - 1 - (intOf i).toNat)
            case atStart => exact ⟨0, Nat.zero_le _, rfl, (Fix.refl _ _).alloc (fun k hk => hk) _, List.replicate (S.length - 1) false, by simp, BRow.made _ _, fun j hj => absurd hj (Nat.not_lt_zero _)⟩
            case round =>
              obtain ⟨m, hm, rfl, hfx, cov, hcovl, hrow, hcov⟩ := hrel
              by_cases hlm : m < S.length - 1
              · have hmu : m < upper.length := by have := Hul.out; omega
                obtain ⟨b0, o0, hb0, rfl, hc0⟩ := X3.at (by omega)
                have y := (hfx.cell (p := ⟨b0, o0 + m, none⟩) hb0).trans (hc0 m hmu)
                have z := hrow.cell m (by omega)
                have fz := hrow.frozen m
                have hrow' : Hid (BRow (wr.setCell ⟨w12.heap.size, m, none⟩ (.bool (decide (found < nth upper m)))) w12.heap.size (cov.set m (decide (found < nth upper m)))) := hrow.set m _
                have hfx' : Hid (Fix (fun b => b < w12.heap.size) w12 (wr.setCell ⟨w12.heap.size, m, none⟩ (.bool (decide (found < nth upper m))))) := hfx.setCell (by simp) _
                have hcov' : Hid (∀ j, j < m + 1 → nthB (cov.set m (decide (found < nth upper m))) j = decide (found < nth upper j)) := by
                  intro j hj
                  rw [nthB_set _ _ _ _ (by omega)]
                  by_cases e : j = m
                  · simp [e]
                  · rw [if_neg e]; exact hcov.out j (by omega)
                have hcovl' : Hid ((cov.set m (decide (found < nth upper m))).length = S.length - 1) := by unfold Hid; simp [hcovl]
                clear hc0 hrow hfx hcov X0 X1 X2 X3 hcovl
                go_wp2
                go_roundw
                case rel => exact ⟨m + 1, by omega, by go_num, hfx'.out, _, hcovl'.out, hrow'.out, hcov'.out⟩
                case measure => simp [intOf]; omega
              · obtain rfl : cov = cov0 upper found := by
                  apply nthB_ext
                  · rw [cov0_len]; have := Hul.out; omega
                  · intro i hi
                    have := Hul.out
                    rw [hcov.out i (by omega), cov0_nth _ _ _ (by omega)]
                have Hcl : Hid ((cov0 upper found).length = S.length - 1) := hcovl
                clear hcov X3 hcovl
                obtain ⟨w13, rfl⟩ : ∃ w13 : World, w13 = wr := ⟨_, rfl⟩
                go_wp2
                go_loopw [25] (fun i wr => ∃ k : Nat, k ≤ F.length ∧ i = .int .i64 k ∧ Fix (fun b => b < w12.heap.size) w12 wr ∧ BRow wr w12.heap.size (strikes S A (cov0 upper found) (F.take k)))
                  (fun i _ => F.length - (intOf i).toNat)
                case atStart => exact ⟨0, Nat.zero_le _, rfl, hfx, hrow⟩
                case round =>
                  clear hfx hrow
                  obtain ⟨q, hq, rfl, hfx, hrow⟩ := hrel
                  by_cases hlq : q < F.length
                  · obtain ⟨b0, o0, hb0, rfl, hc0⟩ := X2.at (by omega)
                    have y := (hfx.cell (p := ⟨b0, o0 + q, none⟩) hb0).trans (hc0 q hlq)
                    have hr := HPL.out.rng q hlq
                    obtain ⟨x, hx⟩ : ∃ x : Nat, nth F q = x := ⟨(nth F q).toNat, by omega⟩
                    rw [hx] at y hr
                    have Hx : Hid (nth F q = x) := hx
                    have hxs : x + 1 < S.length := by omega
                    have hx2 : ¬ ((S.length - 1 : Nat) : Int) ≤ x := by omega
                    have hx3 : x < S.length - 1 := by omega
                    have hlen := strikes_len S A (cov0 upper found) (F.take q)
                    have hln : (strikes S A (cov0 upper found) (F.take q)).length = S.length - 1 := by rw [hlen]; exact Hcl.out
                    have hstep : strikes S A (cov0 upper found) (F.take (q + 1)) = strike S A (strikes S A (cov0 upper found) (F.take q)) x := by
                      rw [take_succ_nth F q hlq, strikes_snoc, hx]; rfl
                    have Hstep : Hid _ := hstep
                    have hcv := cover_any (fun b => b < w12.heap.size) sa2 aa2 S.length A.length (S.length - 1) w12.heap.size S A (strikes S A (cov0 upper found) (F.take q)) x wr Hpre.out.csr (by omega) (by omega) (by omega) hxs (X0.fix hfx) (X1.fix hfx) hrow (by simp)
                    rw [hln] at hcv
                    have Hcv : Hid _ := hcv
                    clear hcv hlen hln hstep hx hc0 X0 X1 X2
                    go_wp2_with fail
                    refine Calls.mono Hcv.out ?_
                    rintro e w14 ⟨rfl, hr14, hf14⟩
                    rw [← Hstep.out] at hr14
                    have hf15 := hfx.trans hf14
                    clear hf14 hfx hrow Hcv
                    go_wp2
                    go_roundw
                    case rel => exact ⟨q + 1, by omega, by go_num, hf15, hr14⟩
                    case measure => simp [intOf]; omega
                  · have e : F.take q = F := List.take_of_length_le (by omega)
                    rw [e] at hrow
                    have hlen : (strikes S A (cov0 upper found) F).length = S.length - 1 := by rw [strikes_len]; exact Hcl.out
                    have Hlen : Hid _ := hlen
                    have Hbare : Hid (∀ v, v < S.length - 1 → nthB (strikes S A (cov0 upper found) F) v = false) := fun v hv => HPL.out.bare v (by have := Hgl.out; omega)
                    obtain ⟨w15, rfl⟩ : ∃ w15 : World, w15 = wr := ⟨_, rfl⟩
                    clear X0 X1 X2 e hlen
                    go_wp2
                    go_loop [27] (fun i => ∃ k : Nat, k ≤ S.length - 1 ∧ i = .int .i64 k) (fun i => S.length - 1 - (intOf i).toNat)
                    case atStart => exact ⟨0, Nat.zero_le _, rfl⟩
                    case round =>
                      obtain ⟨u, hu, rfl⟩ := hrel
                      by_cases hlu : u < S.length - 1
                      · have z := hrow.cell u (by rw [Hlen.out]; exact hlu)
                        rw [Hbare.out u hlu] at z
                        clear hrow hfx
                        go_wp2
                        go_round
                        case rel => exact ⟨u + 1, by omega, by go_num⟩
                        case measure => simp [intOf]; omega
                      · go_wp2
                        go_ret
                        exact ⟨rfl, Hf12.out.trans (hfx.mono fun b hb => by omega)⟩
      · have hq' : ((Q.length : Int) != (F.length : Int)) = false := by have := HQl.out; simp; omega
        go_wp2_with fail
        go_loopw [22] (fun i wr => ∃ k : Nat, k ≤ Q.length ∧ i = .int .i64 k ∧ Fix (fun _ => True) w11 wr) (fun i _ => Q.length - (intOf i).toNat)
        case atStart => exact ⟨0, Nat.zero_le _, rfl, Fix.refl _ _⟩
        case round =>
          obtain ⟨k, hk, rfl, hfx⟩ := hrel
          by_cases hlt : k < Q.length
          · obtain ⟨b0, o0, _, rfl, hc0⟩ := P1.at (by omega)
            obtain ⟨b1, o1, _, rfl, hc1⟩ := P2.at (by omega)
            have y0 := (hfx.cell (p := ⟨b0, o0 + k, none⟩) trivial).trans (hc0 k hlt)
            have y1 := (hfx.cell (p := ⟨b1, o1 + k, none⟩) trivial).trans (hc1 k (by omega))
            rw [HQn.out k hlt] at y0
            have j0 : (k : Int) < Q.length := by omega
            have j1 : (k : Int) < F.length := by omega
            have hne : (nth F k != nth F k) = false := by simp
            clear hc0 hc1 W0' W1' W3' P1 P2
            go_wp2
            go_quiet (fail)
            go_wp2
            go_roundw
            case rel => exact ⟨k + 1, by omega, by go_num, hfx.drewN _⟩
            case measure => simp [intOf]; omega
          · clear P1 hq'
            have hmk := Hmk.out
            obtain ⟨w12, rfl⟩ : ∃ w12 : World, w12 = wr := ⟨_, rfl⟩
            go_wp2
            clear hmk
            have hsx := hfx.size
            have X0 := (W0'.fix (hfx.mono fun _ _ => trivial)).weaken (V := fun b => b < w12.heap.size) fun b hb => by omega
            have X1 := (W1'.fix (hfx.mono fun _ _ => trivial)).weaken (V := fun b => b < w12.heap.size) fun b hb => by omega
            have X2 := (P2.fix (hfx.mono fun _ _ => trivial)).weaken (V := fun b => b < w12.heap.size) fun b hb => by omega
            have X3 := (W3'.fix (hfx.mono fun _ _ => trivial)).weaken (V := fun b => b < w12.heap.size) fun b hb => by omega
            have Hf12 : Hid _ := Hf11.out.trans (hfx.mono (V := fun b => b < w'.heap.size) fun _ _ => trivial)
            have hs12 := Hf12.out.size
            clear W0' W1' W3' P2 hfx Hmk
            have hul : upper.length + 1 = S.length := Hpre.out.ul
            have hul' : S.length - 1 = upper.length := by omega
            have Hul : Hid (S.length - 1 = upper.length) := hul'
            clear hul hul'
            go_loopw [24] (fun i wr => ∃ k : Nat, k ≤ S.length - 1 ∧ i = .int .i64 k ∧ Fix (fun b => b < w12.heap.size) w12 wr ∧ ∃ cov : List Bool, cov.length = S.length - 1 ∧ BRow wr w12.heap.size cov ∧ Hid (∀ j, j < k → nthB cov j = decide (found < nth upper j)))
              (fun i _ => S.length - 1 - (intOf i).toNat)
            case atStart => exact ⟨0, Nat.zero_le _, rfl, (Fix.refl _ _).alloc (fun k hk => hk) _, List.replicate (S.length - 1) false, by simp, BRow.made _ _, fun j hj => absurd hj (Nat.not_lt_zero _)⟩
            case round =>
              obtain ⟨m, hm, rfl, hfx, cov, hcovl, hrow, hcov⟩ := hrel
              by_cases hlm : m < S.length - 1
              · have hmu : m < upper.length := by have := Hul.out; omega
                obtain ⟨b0, o0, hb0, rfl, hc0⟩ := X3.at (by omega)
                have y := (hfx.cell (p := ⟨b0, o0 + m, none⟩) hb0).trans (hc0 m hmu)
                have z := hrow.cell m (by omega)
                have fz := hrow.frozen m
                have hrow' : Hid (BRow (wr.setCell ⟨w12.heap.size, m, none⟩ (.bool (decide (found < nth upper m)))) w12.heap.size (cov.set m (decide (found < nth upper m)))) := hrow.set m _
                have hfx' : Hid (Fix (fun b => b < w12.heap.size) w12 (wr.setCell ⟨w12.heap.size, m, none⟩ (.bool (decide (found < nth upper m))))) := hfx.setCell (by simp) _
                have hcov' : Hid (∀ j, j < m + 1 → nthB (cov.set m (decide (found < nth upper m))) j = decide (found < nth upper j)) := by
                  intro j hj
                  rw [nthB_set _ _ _ _ (by omega)]
                  by_cases e : j = m
                  · simp [e]
                  · rw [if_neg e]; exact hcov.out j (by omega)
                have hcovl' : Hid ((cov.set m (decide (found < nth upper m))).length = S.length - 1) := by unfold Hid; simp [hcovl]
                clear hc0 hrow hfx hcov X0 X1 X2 X3 hcovl
                go_wp2
                go_roundw
                case rel => exact ⟨m + 1, by omega, by go_num, hfx'.out, _, hcovl'.out, hrow'.out, hcov'.out⟩
                case measure => simp [intOf]; omega
              · obtain rfl : cov = cov0 upper found := by
                  apply nthB_ext
                  · rw [cov0_len]; have := Hul.out; omega
                  · intro i hi
                    have := Hul.out
                    rw [hcov.out i (by omega), cov0_nth _ _ _ (by omega)]
                have Hcl : Hid ((cov0 upper found).length = S.length - 1) := hcovl
                clear hcov X3 hcovl
                obtain ⟨w13, rfl⟩ : ∃ w13 : World, w13 = wr := ⟨_, rfl⟩
                go_wp2
                go_loopw [25] (fun i wr => ∃ k : Nat, k ≤ F.length ∧ i = .int .i64 k ∧ Fix (fun b => b < w12.heap.size) w12 wr ∧ BRow wr w12.heap.size (strikes S A (cov0 upper found) (F.take k)))
                  (fun i _ => F.length - (intOf i).toNat)
                case atStart => exact ⟨0, Nat.zero_le _, rfl, hfx, hrow⟩
                case round =>
                  clear hfx hrow
                  obtain ⟨q, hq, rfl, hfx, hrow⟩ := hrel
                  by_cases hlq : q < F.length
                  · obtain ⟨b0, o0, hb0, rfl, hc0⟩ := X2.at (by omega)
                    have y := (hfx.cell (p := ⟨b0, o0 + q, none⟩) hb0).trans (hc0 q hlq)
                    have hr := HPL.out.rng q hlq
                    obtain ⟨x, hx⟩ : ∃ x : Nat, nth F q = x := ⟨(nth F q).toNat, by omega⟩
                    rw [hx] at y hr
                    have Hx : Hid (nth F q = x) := hx
                    have hxs : x + 1 < S.length := by omega
                    have hx2 : ¬ ((S.length - 1 : Nat) : Int) ≤ x := by omega
                    have hx3 : x < S.length - 1 := by omega
                    have hlen := strikes_len S A (cov0 upper found) (F.take q)
                    have hln : (strikes S A (cov0 upper found) (F.take q)).length = S.length - 1 := by rw [hlen]; exact Hcl.out
                    have hstep : strikes S A (cov0 upper found) (F.take (q + 1)) = strike S A (strikes S A (cov0 upper found) (F.take q)) x := by
                      rw [take_succ_nth F q hlq, strikes_snoc, hx]; rfl
                    have Hstep : Hid _ := hstep
                    have hcv := cover_any (fun b => b < w12.heap.size) sa2 aa2 S.length A.length (S.length - 1) w12.heap.size S A (strikes S A (cov0 upper found) (F.take q)) x wr Hpre.out.csr (by omega) (by omega) (by omega) hxs (X0.fix hfx) (X1.fix hfx) hrow (by simp)
                    rw [hln] at hcv
                    have Hcv : Hid _ := hcv
                    clear hcv hlen hln hstep hx hc0 X0 X1 X2
                    go_wp2_with fail
                    refine Calls.mono Hcv.out ?_
                    rintro e w14 ⟨rfl, hr14, hf14⟩
                    rw [← Hstep.out] at hr14
                    have hf15 := hfx.trans hf14
                    clear hf14 hfx hrow Hcv
                    go_wp2
                    go_roundw
                    case rel => exact ⟨q + 1, by omega, by go_num, hf15, hr14⟩
                    case measure => simp [intOf]; omega
                  · have e : F.take q = F := List.take_of_length_le (by omega)
                    rw [e] at hrow
                    have hlen : (strikes S A (cov0 upper found) F).length = S.length - 1 := by rw [strikes_len]; exact Hcl.out
                    have Hlen : Hid _ := hlen
                    have Hbare : Hid (∀ v, v < S.length - 1 → nthB (strikes S A (cov0 upper found) F) v = false) := fun v hv => HPL.out.bare v (by have := Hgl.out; omega)
                    obtain ⟨w15, rfl⟩ : ∃ w15 : World, w15 = wr := ⟨_, rfl⟩
                    clear X0 X1 X2 e hlen
                    go_wp2
                    go_loop [27] (fun i => ∃ k : Nat, k ≤ S.length - 1 ∧ i = .int .i64 k) (fun i => S.length - 1 - (intOf i).toNat)
                    case atStart => exact ⟨0, Nat.zero_le _, rfl⟩
                    case round =>
                      obtain ⟨u, hu, rfl⟩ := hrel
                      by_cases hlu : u < S.length - 1
                      · have z := hrow.cell u (by rw [Hlen.out]; exact hlu)
                        rw [Hbare.out u hlu] at z
                        clear hrow hfx
                        go_wp2
                        go_round
                        case rel => exact ⟨u + 1, by omega, by go_num⟩
                        case measure => simp [intOf]; omega
                      · go_wp2
                        go_ret
                        exact ⟨rfl, Hf12.out.trans (hfx.mono fun b hb => by omega)⟩
end Go.Proofs.Qxb6605187a
