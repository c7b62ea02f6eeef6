import Derived.Test.Qxb6605187aLawKit
import Derived.Test.Qxb6605187aClones
import Derived.Test.Qxb6605187aWalkP
import Derived.Test.Qxb6605187aWalkPick
import Derived.Test.Qxb6605187aPickLaw2
namespace Go.Proofs.Qxb6605187a
open Go.RowKit
set_option linter.unusedVariables false

set_option maxHeartbeats 400000 in
theorem bytes9 (a0 a1 a2 a3 a5 : Option Addr) (n0 n1 n2 n3 n5 c0 c1 c2 c3 c5 : Nat) (f c : Int) (w : World) (h0 : n0 ≤ maxLen) (h1 : n1 ≤ maxLen) (h2 : n2 ≤ maxLen) (h3 : n3 ≤ maxLen) (h5 : n5 ≤ maxLen) :
    Calls Try.prog 9 #[.slice a0 n0 c0, .slice a1 n1 c1, .slice a2 n2 c2, .slice a3 n3 c3, .int .i32 f, .slice a5 n5 c5, .int .i64 c] w (SomeBool w) := by
  unfold maxLen at *
  go_enter Try.func9, Try.ntmps9
  go_wp2
  all_goals
    go_ret
    exact SomeBool.mk _

/-- ZZPickSources -/
theorem zzpick3 (U : Nat → Prop) (gb ub : Nat) (ga ua : Option Addr) (gc uc xc : Nat) (S A gain upper : List Int) (found : Int) (unc : List Bool) (count : Nat) (w : World)
    (hG : Graph U w gb S A) (hU : ∀ b, U b → b < w.heap.size ∧ b ≠ ub) (hr : BRow w ub unc) (v2 : View U w .i32 ga gain) (v3 : View U w .i32 ua upper)
    (hgl : gain.length + 1 = S.length) (hul : upper.length + 1 = S.length) (hcl : unc.length + 1 = S.length) (h1 : 1 ≤ gain.length)
    (hgb : ∀ v, 0 ≤ nth gain v ∧ nth gain v ≤ 70001) (hc1 : 1 ≤ count) (hc2 : count ≤ 70000) :
    Calls Try.prog 15 #[.pointer (some ⟨gb, 0, none⟩), .slice ga gain.length gc, .slice ua upper.length uc, .int .i32 found, .slice (some ⟨ub, 0, none⟩) unc.length xc, .int .i64 count] w
      (PickPost U w ub (pickRun S A gain upper found count)) := by
  have hp := pick_any U gb ub ga ua gc uc xc S A gain upper found unc count w hG hU hr v2 v3 hgl hul hcl h1 hgb hc1 hc2
  have Hp : Hid _ := hp
  clear hp hgl hul hcl hgb
  go_enter Try.func15, Try.ntmps15
  go_wp2_with fail
  refine Calls.mono Hp.out ?_
  rintro e w' ⟨a, cap, rfl, h⟩
  have Hh : Hid _ := h
  clear h
  go_wp2
  go_ret
  exact ⟨a, cap, rfl, Hh.out⟩

/-- the most that one of the first x peers holds -/
def bestTo (S A : List Int) (c : List Bool) : Nat → Nat
  | 0 => 0
  | x + 1 => max (bestTo S A c x) (hold S A c x)
theorem bestTo_le (S A : List Int) (c : List Bool) (x b : Nat) (h : ∀ v, v < x → hold S A c v ≤ b) : bestTo S A c x ≤ b := by
  induction x with
  | zero => exact Nat.zero_le _
  | succ x ih =>
    have h1 := ih (fun v hv => h v (by omega))
    have h2 := h x (by omega)
    unfold bestTo
    omega
theorem bestTo_ge (S A : List Int) (c : List Bool) (x v : Nat) (h : v < x) : hold S A c v ≤ bestTo S A c x := by
  induction x with
  | zero => omega
  | succ x ih =>
    unfold bestTo
    by_cases e : v = x
    · subst e; omega
    · have := ih (by omega); omega
theorem bestTo_yes (S A : List Int) (c : List Bool) (x : Nat) (h : bestTo S A c x < hold S A c x) : bestTo S A c (x + 1) = hold S A c x := by unfold bestTo; omega
theorem bestTo_no (S A : List Int) (c : List Bool) (x : Nat) (h : ¬ bestTo S A c x < hold S A c x) : bestTo S A c (x + 1) = bestTo S A c x := by
  rw [bestTo]; omega

set_option maxHeartbeats 4000000 in
set_option maxRecDepth 100000 in
theorem law3 (sa aa ga ua xa : Option Addr) (sc ac gc uc xc : Nat) (S A gain upper : List Int) (unc : List Bool) (found c : Int) (w : World)
    (m0 : S.length ≤ maxLen) (m1 : A.length ≤ maxLen) (m2 : gain.length ≤ maxLen) (m3 : upper.length ≤ maxLen) (m5 : unc.length ≤ maxLen) (hw : Wf32 A)
    (v0 : View (fun b => b < w.heap.size) w .i64 sa S) (v1 : View (fun b => b < w.heap.size) w .i32 aa A) (v2 : View (fun b => b < w.heap.size) w .i32 ga gain) (v3 : View (fun b => b < w.heap.size) w .i32 ua upper) (v5 : ViewB (fun b => b < w.heap.size) w xa unc) :
    Calls Try.prog 3 #[.slice sa S.length sc, .slice aa A.length ac, .slice ga gain.length gc, .slice ua upper.length uc, .int .i32 found, .slice xa unc.length xc, .int .i64 c] w (LawPost w) := by
  go_enter Try.func3, Try.ntmps3
  go_wp2_with fail
  refine (bytes9 _ _ _ _ _ _ _ _ _ _ _ _ _ _ _ _ _ _ m0 m1 m2 m3 m5).mono ?_
  rintro e w' ⟨b, rfl, rfl⟩
  unfold maxLen at m0 m1 m2 m3 m5
  cases b with
  | false =>
    go_wp2
    go_ret
    exact ⟨rfl, Fix.refl _ _⟩
  | true =>
    by_cases t0 : 32768 < S.length
    · go_wp2
      go_ret
      exact ⟨rfl, Fix.refl _ _⟩
    by_cases t1 : 65536 < A.length
    · go_wp2
      go_ret
      exact ⟨rfl, Fix.refl _ _⟩
    by_cases t2 : 32768 < gain.length
    · go_wp2
      go_ret
      exact ⟨rfl, Fix.refl _ _⟩
    by_cases t3 : 32768 < upper.length
    · go_wp2
      go_ret
      exact ⟨rfl, Fix.refl _ _⟩
    by_cases t4 : 32768 < unc.length
    · go_wp2
      go_ret
      exact ⟨rfl, Fix.refl _ _⟩
    by_cases t5 : c < 1
    · go_wp2
      go_ret
      exact ⟨rfl, Fix.refl _ _⟩
    by_cases t6 : 65536 < c
    · go_wp2
      go_ret
      exact ⟨rfl, Fix.refl _ _⟩
    go_wp2_with fail
    obtain ⟨count, hcount⟩ : ∃ count : Nat, c = count := ⟨c.toNat, by omega⟩
    subst hcount
    refine (premise_any _ sa aa ga ua sc ac gc uc xa unc.length xc S A gain upper found _ (by omega) (by omega) (by omega) (by omega) (by omega) hw v0 v1 v2 v3).mono ?_
    rintro e w1 ⟨b, rfl, hb, hf1⟩
    cases b with
    | false =>
      go_wp2
      go_ret
      exact ⟨rfl, hf1.mono fun _ _ => trivial⟩
    | true =>
      have hpre := hb rfl
      have hf1' : Fix (fun b => b < w'.heap.size) w' w1 := hf1.mono fun _ _ => trivial
      replace v0 := v0.up hf1'
      replace v1 := v1.up hf1'
      replace v2 := v2.up hf1'
      replace v3 := v3.up hf1'
      replace v5 := v5.up hf1'
      have Hpre : Hid _ := hpre
      have Hf : Hid _ := hf1'
      clear hb hpre hf1 hf1'
      go_wp2_with fail
      refine (clone11 _ sa sc S _ (by omega) v0 (fun k hk => hk)).mono ?_
      rintro e w2 ⟨sa2, rfl, o0, hf⟩
      have Hf2 : Hid _ := Hf.out.up hf
      have V0 := o0.view (fun b => b < w2.heap.size) (fun b _ h => h)
      replace v1 := v1.up hf
      replace v2 := v2.up hf
      replace v3 := v3.up hf
      replace v5 := v5.up hf
      clear v0 o0 Hf hf
      go_wp2_with fail
      refine (clone12 _ aa ac A _ (by omega) v1 (fun k hk => hk)).mono ?_
      rintro e w3 ⟨aa2, rfl, o1, hf⟩
      have Hf3 : Hid _ := Hf2.out.up hf
      have V1 := o1.view (fun b => b < w3.heap.size) (fun b _ h => h)
      replace V0 := V0.up hf
      replace v2 := v2.up hf
      replace v3 := v3.up hf
      replace v5 := v5.up hf
      clear v1 o1 Hf2 hf
      go_wp2_with fail
      refine (clone12 _ ga gc gain _ (by omega) v2 (fun k hk => hk)).mono ?_
      rintro e w4 ⟨ga2, rfl, o2, hf⟩
      have Hf4 : Hid _ := Hf3.out.up hf
      have V2 := o2.view (fun b => b < w4.heap.size) (fun b _ h => h)
      replace V0 := V0.up hf
      replace V1 := V1.up hf
      replace v3 := v3.up hf
      replace v5 := v5.up hf
      clear v2 o2 Hf3 hf
      go_wp2_with fail
      refine (clone12 _ ua uc upper _ (by omega) v3 (fun k hk => hk)).mono ?_
      rintro e w5 ⟨ua2, rfl, o3, hf⟩
      have Hf5 : Hid _ := Hf4.out.up hf
      have V3 := o3.view (fun b => b < w5.heap.size) (fun b _ h => h)
      replace V0 := V0.up hf
      replace V1 := V1.up hf
      replace V2 := V2.up hf
      replace v5 := v5.up hf
      clear v3 o3 Hf4 hf
      go_wp2_with fail
      refine (clone13 _ xa xc unc _ (by omega) v5 (fun k hk => hk)).mono ?_
      rintro e w6 ⟨xa2, rfl, o5, hf⟩
      have Hf6 : Hid _ := Hf5.out.up hf
      have hul : unc.length + 1 = S.length := Hpre.out.ml
      have h2 := Hpre.out.two
      obtain ⟨ub, hub, rfl, r1⟩ : ∃ nb, w5.heap.size ≤ nb ∧ xa2 = some ⟨nb, 0, none⟩ ∧ BRow w6 nb unc := by
        rcases o5 with h | h
        · rw [h] at hul; simp at hul; omega
        · exact h
      have Huln : Hid (unc.length + 1 = S.length) := hul
      have hsw5 := Hf5.out.size
      clear v5 o5 Hf5 hul
      go_wp2_with fail
      refine (graph_any sa2 aa2 S.length S.length A.length A.length _).mono ?_
      rintro e w9 ⟨rfl, hw9⟩
      have hs5 := hf.size
      have hrl : ub < w6.heap.size := Row.lt r1
      have hG9 : Graph (fun b => b < w5.heap.size ∨ b = w6.heap.size) w9 w6.heap.size S A := by
        rw [hw9]
        exact graph_made Hpre.out.csr (by omega) (by omega) hw (fun b hb => by omega) (V0.fix hf) (V1.fix hf)
      have hf89 : Fix (fun b => b < w6.heap.size) w6 w9 := by rw [hw9]; exact (Fix.refl _ _).alloc (fun k hk => hk) _
      have hs9 : w9.heap.size = w6.heap.size + 1 := by rw [hw9]; simp
      have hf59 : Fix (fun b => b < w5.heap.size) w5 w9 := hf.up hf89
      have r19 : BRow w9 ub unc := Row.fix r1 hf89 hrl
      have V0' := V0.fix hf59
      have V1' := V1.fix hf59
      have V2' := V2.fix hf59
      have V3' := V3.fix hf59
      have Hf9 : Hid _ := Hf6.out.up hf89
      have hs6 := Hf6.out.size
      clear hf hf89 hf59 r1 V0 V1 V2 V3 Hf6 hw9
      have hgb : ∀ v, 0 ≤ nth gain v ∧ nth gain v ≤ 70001 := by
        intro v
        by_cases e : v < gain.length
        · have h1 := Hpre.out.gain v e
          have h2 := hold_le S A (cov0 upper found) v
          have h3 := Hpre.out.csr.nbr_len v (by have := Hpre.out.gl; omega)
          have h4 := Hpre.out.csr.st_le (v + 1) (by have := Hpre.out.gl; omega)
          omega
        · have h0 : nth gain v = 0 := by simp [nth, e]
          omega
      have Hgb : Hid _ := hgb
      clear hgb
      obtain ⟨gb, hgbe⟩ : ∃ gb, gb = w6.heap.size := ⟨_, rfl⟩
      rw [← hgbe] at hG9 hs9 ⊢
      have hrl2' : ub < gb := by omega
      have hs7' : w5.heap.size ≤ gb := by omega
      have hs8' : w'.heap.size ≤ gb := by omega
      clear hgbe hrl hs6
      have hgl1 : 1 ≤ gain.length := by have := Hpre.out.gl; omega
      go_wp2_with fail
      refine (zzpick3 (fun b => b < w5.heap.size ∨ b = gb) gb ub ga2 ua2 gain.length upper.length unc.length S A gain upper found unc count _ hG9 (fun b hb => by omega) r19 (V2'.weaken fun b hb => .inl hb) (V3'.weaken fun b hb => .inl hb) Hpre.out.gl Hpre.out.ul Hpre.out.ml hgl1 Hgb.out (by omega) (by omega)).mono ?_
      rintro e w10 ⟨p1, cap1, rfl, vp1, rc1, hf10⟩
      have hs10 := hf10.size
      have en : (S.length : Int) - 1 = ((S.length - 1 : Nat) : Int) := by omega
      rw [en]
      have W0 := (V0'.fix (hf10.mono fun b hb => .inl hb)).weaken (V := fun b => b < w10.heap.size) fun b hb => by omega
      have W1 := (V1'.fix (hf10.mono fun b hb => .inl hb)).weaken (V := fun b => b < w10.heap.size) fun b hb => by omega
      have W3 := (V3'.fix (hf10.mono fun b hb => .inl hb)).weaken (V := fun b => b < w10.heap.size) fun b hb => by omega
      have P1 : View (fun b => b < w10.heap.size) w10 .i32 p1 (pickRun S A gain upper found count).picked := vp1.inside.weaken fun b hb => hb.2
      have Hf10 : Hid _ := Hf9.out.trans (hf10.mono fun b hb => .inl (by omega))
      have hPL := pick_law (S := S) (A := A) (gain := gain) (upper := upper) (found := found) (by have := Hpre.out.gl; have := Hpre.out.ul; omega) hgl1 Hpre.out.gain
      have hgl : gain.length + 1 = S.length := Hpre.out.gl
      generalize (pickRun S A gain upper found 0).picked = F at *
      rw [hPL.picked count (by omega)] at P1 ⊢
      rw [hPL.cov count (by omega)] at rc1
      have hFl := hPL.len
      have HPL : Hid _ := hPL
      have hgl' : gain.length + 1 ≤ S.length := by omega
      have Hgl : Hid (gain.length + 1 = S.length) := hgl
      obtain ⟨Q, hQ⟩ : ∃ Q, Q = F.take count := ⟨_, rfl⟩
      rw [← hQ] at P1 ⊢
      have hQl : Q.length = min count F.length := by rw [hQ]; simp
      have HQn : Hid (∀ i, i < Q.length → nth Q i = nth F i ∧ Q.take i = F.take i) := by
        intro i hi
        rw [hQ]
        refine ⟨?_, by rw [List.take_take]; congr 1; omega⟩
        unfold nth
        rw [List.getD_eq_getElem?_getD, List.getD_eq_getElem?_getD, List.getElem?_take, if_pos (by omega)]
      obtain ⟨M, hM⟩ : ∃ M, M = if Q.length = count then count - 1 else Q.length := ⟨_, rfl⟩
      have HM : Hid ((if F.length < count then F else F.take (count - 1)) = Q.take M) := by
        unfold Hid
        by_cases hlt : F.length < count
        · have e1 : Q = F := by rw [hQ]; exact List.take_of_length_le (by omega)
          have e2 : M = F.length := by rw [hM, if_neg (by omega), e1]
          rw [if_pos hlt, e1, e2, List.take_of_length_le (Nat.le_refl _)]
        · have e2 : M = count - 1 := by rw [hM, if_pos (by omega)]
          rw [if_neg hlt, hQ, e2, List.take_take]
          congr 1
          omega
      rw [HM.out] at rc1
      have hQF : Q.length ≤ F.length := by omega
      have hQc : decide ((count : Int) < (Q.length : Int)) = false := by simp; omega
      have hQc2 : decide (count < Q.length) = false := by simp; omega
      have HQl : Hid (Q.length = min count F.length) := hQl
      have HMl : Hid (M ≤ Q.length ∧ Q.length ≤ M + 1 ∧ (Q.length < count → M = Q.length ∧ Q = F)) := by
        refine ⟨?_, ?_, fun h => ?_⟩
        · rw [hM]; split <;> omega
        · rw [hM]; split <;> omega
        · rw [hM, if_neg (by omega), hQ]; exact ⟨rfl, List.take_of_length_le (by omega)⟩
      have hmk := run_make_row' (P := Try.prog) 24 4 (.bool false) 1 Try.underlying24 (by kernel_rfl) rfl .i64 .i64 (S.length - 1) (by omega) (by omega)
      have HMM : Hid (M = if Q.length = count then count - 1 else Q.length) := hM
      clear hgl hPL hf10 vp1 V0' V1' V2' V3' r19 hG9 Hf9 en hQl hQ hM HM
      go_wp2
      have hsx := Hf10.out.size
      have hul : upper.length + 1 = S.length := Hpre.out.ul
      have hul' : S.length - 1 = upper.length := by omega
      have Hul : Hid (S.length - 1 = upper.length) := hul'
      clear hul hul' hmk
      have hub10 : ub < w10.heap.size := by omega
      go_loopw [19] (fun i wr => ∃ k : Nat, k ≤ S.length - 1 ∧ i = .int .i64 k ∧ Fix (fun b => b < w10.heap.size) w10 wr ∧ ∃ cov : List Bool, cov.length = S.length - 1 ∧ BRow wr w10.heap.size cov ∧ Hid (∀ j, j < k → nthB cov j = decide (found < nth upper j)))
        (fun i _ => S.length - 1 - (intOf i).toNat)
      case atStart => exact ⟨0, Nat.zero_le _, rfl, (Fix.refl _ _).alloc (fun k hk => hk) _, List.replicate (S.length - 1) false, by simp, BRow.made _ _, fun j hj => absurd hj (Nat.not_lt_zero _)⟩
      case round =>
        obtain ⟨m, hm, rfl, hfx, cov, hcovl, hrow, hcov⟩ := hrel
        by_cases hlm : m < S.length - 1
        · have hmu : m < upper.length := by have := Hul.out; omega
          obtain ⟨b0, o0, hb0, rfl, hc0⟩ := W3.at (by omega)
          have y := (hfx.cell (p := ⟨b0, o0 + m, none⟩) hb0).trans (hc0 m hmu)
          have z := hrow.cell m (by omega)
          have fz := hrow.frozen m
          have hrow' : Hid (BRow (wr.setCell ⟨w10.heap.size, m, none⟩ (.bool (decide (found < nth upper m)))) w10.heap.size (cov.set m (decide (found < nth upper m)))) := hrow.set m _
          have hfx' : Hid (Fix (fun b => b < w10.heap.size) w10 (wr.setCell ⟨w10.heap.size, m, none⟩ (.bool (decide (found < nth upper m))))) := hfx.setCell (by simp) _
          have hcov' : Hid (∀ j, j < m + 1 → nthB (cov.set m (decide (found < nth upper m))) j = decide (found < nth upper j)) := by
            intro j hj
            rw [nthB_set _ _ _ _ (by omega)]
            by_cases e : j = m
            · simp [e]
            · rw [if_neg e]; exact hcov.out j (by omega)
          have hcovl' : Hid ((cov.set m (decide (found < nth upper m))).length = S.length - 1) := by unfold Hid; simp [hcovl]
          clear hc0 hrow hfx hcov W0 W1 P1 W3 rc1 hcovl
          go_wp2
          go_roundw
          case rel => exact ⟨m + 1, by omega, by go_num, hfx'.out, _, hcovl'.out, hrow'.out, hcov'.out⟩
          case measure => simp [intOf]; omega
        · obtain rfl : cov = cov0 upper found := by
            apply nthB_ext
            · rw [cov0_len]; have := Hul.out; omega
            · intro i hi
              have := Hul.out
              rw [hcov.out i (by omega), cov0_nth _ _ _ (by omega)]
          have Hcl : Hid ((cov0 upper found).length = S.length - 1) := hcovl
          clear hcov W3 hcovl
          obtain ⟨w13, rfl⟩ : ∃ w13 : World, w13 = wr := ⟨_, rfl⟩
          have hM1 := HMl.out.1
          have hM2 := HMl.out.2.1
          by_cases hqc : Q.length = count
          · have hqc' : ((Q.length : Int) == (count : Int)) = true := by simp; omega
            have hMe : (count : Int) - 1 = (M : Nat) := by have := HMM.out; rw [if_pos hqc] at this; omega
            have Hqc : Hid (¬ Q.length < count) := by unfold Hid; omega
            clear hqc
            go_wp2
            clear hqc' hMe
            go_loopw [21] (fun i wr => ∃ k : Nat, k ≤ Q.length ∧ i = .int .i64 k ∧ Fix (fun b => b < w10.heap.size) w10 wr ∧ BRow wr w10.heap.size (strikes S A (cov0 upper found) (Q.take (min k M))))
              (fun i _ => Q.length - (intOf i).toNat)
            case atStart => exact ⟨0, Nat.zero_le _, rfl, hfx, by rw [Nat.zero_min, List.take_zero]; exact hrow⟩
            case round =>
              clear hfx hrow
              obtain ⟨q, hq, rfl, hfx, hrow⟩ := hrel
              by_cases hlq : q < Q.length
              · obtain ⟨b0, o0, hb0, rfl, hc0⟩ := P1.at (by omega)
                have y := (hfx.cell (p := ⟨b0, o0 + q, none⟩) hb0).trans (hc0 q hlq)
                have hqn := HQn.out q hlq
                have hr := HPL.out.rng q (by omega)
                have hgr := HPL.out.greedy q (by omega)
                have emin : min q M = q := by omega
                rw [emin, hqn.2] at hrow
                rw [hqn.1] at y
                obtain ⟨x, hx⟩ : ∃ x : Nat, nth F q = x := ⟨(nth F q).toNat, by omega⟩
                rw [hx] at y hr hgr
                rw [Int.toNat_natCast] at hgr
                obtain ⟨cv, hcv⟩ : ∃ cv, cv = strikes S A (cov0 upper found) (F.take q) := ⟨_, rfl⟩
                rw [← hcv] at hrow hgr
                have hcvl : cv.length = S.length - 1 := by rw [hcv, strikes_len]; exact Hcl.out
                have hxs : x + 1 < S.length := by omega
                have hx2 : ¬ ((S.length - 1 : Nat) : Int) ≤ x := by omega
                have hx3 : x < S.length - 1 := by omega
                have Hg : Hid (0 < hold S A cv x ∧ ∀ v, v < gain.length → hold S A cv v ≤ hold S A cv x) := hgr
                have Hcv : Hid (q + 1 ≤ M → strikes S A (cov0 upper found) (Q.take (min (q + 1) M)) = strike S A cv x) := by
                  intro hqm
                  have e1 : min (q + 1) M = q + 1 := by omega
                  rw [e1, take_succ_nth Q q hlq, strikes_snoc, hqn.1, hqn.2, hx, hcv]; rfl
                have Hcv2 : Hid (¬ q + 1 ≤ M → strikes S A (cov0 upper found) (Q.take (min (q + 1) M)) = cv) := by
                  intro hqm
                  have e1 : min (q + 1) M = q := by omega
                  rw [e1, hqn.2, hcv]
                have hbest : bestTo S A cv (S.length - 1) = hold S A cv x := by
                  apply Nat.le_antisymm
                  · exact bestTo_le _ _ _ _ _ (fun v hv => hgr.2 v (by have := Hgl.out; omega))
                  · exact bestTo_ge _ _ _ _ _ hx3
                have Hbest : Hid (bestTo S A cv (S.length - 1) = hold S A cv x) := hbest
                have hho : hold S A cv x ≤ 70001 := by
                  have h1 := hold_le S A cv x
                  have h2 := Hpre.out.csr.nbr_len x hxs
                  have h3 := Hpre.out.csr.st_le (x + 1) hxs
                  omega
                have hvw : ViewB (fun b => b ≤ w10.heap.size) wr (some ⟨w10.heap.size, 0, none⟩) cv := hrow.view (Nat.le_refl _)
                have Y0 := (W0.fix hfx).weaken (V := fun b => b ≤ w10.heap.size) fun b hb => by omega
                have Y1 := (W1.fix hfx).weaken (V := fun b => b ≤ w10.heap.size) fun b hb => by omega
                have hholds : ∀ z : Nat, z + 1 < S.length → Calls Try.prog 16 #[.slice sa2 S.length S.length, .slice aa2 A.length A.length, .slice (some ⟨w10.heap.size, 0, none⟩) (S.length - 1) (S.length - 1), .int .i64 z] wr fun e w' => e = .returned (.int .i32 (hold S A cv z)) ∧ w' = wr := by
                  intro z hz
                  have := holds_any (fun b => b ≤ w10.heap.size) sa2 aa2 (some ⟨w10.heap.size, 0, none⟩) S.length A.length (S.length - 1) S A cv z wr Hpre.out.csr (by omega) (by omega) (by omega) hz Y0 Y1 hvw
                  rw [hcvl] at this
                  exact this
                have Hholds : Hid _ := hholds
                have hcover := cover_any (fun b => b < w10.heap.size) sa2 aa2 S.length A.length (S.length - 1) w10.heap.size S A cv x wr Hpre.out.csr (by omega) (by omega) (by omega) hxs (W0.fix hfx) (W1.fix hfx) hrow (by simp)
                rw [hcvl] at hcover
                have Hcover : Hid _ := hcover
                clear hcover hholds Y0 Y1 hvw hbest hgr hqn hc0 hx hcv hcvl emin
                obtain ⟨wq, rfl⟩ : ∃ wq : World, wq = wr := ⟨_, rfl⟩
                have hb1 : decide ((q : Int) < (Q.length : Int)) = true := by simp; omega
                have hb2 : decide ((x : Int) < 0) = false := by simp
                have hb3 : decide (((S.length - 1 : Nat) : Int) ≤ (x : Int)) = false := by simp; omega
                go_wp2
                go_loopw [23, 24] (fun b i wr => ∃ k : Nat, k ≤ S.length - 1 ∧ i = .int .i64 k ∧ b = .int .i32 (bestTo S A cv k) ∧ wr = wq) (fun _ i _ => S.length - 1 - (intOf i).toNat)
                case atStart => exact ⟨0, Nat.zero_le _, rfl, rfl, rfl⟩
                case round =>
                  obtain ⟨z, hz, rfl, rfl, rfl⟩ := hrel
                  have hbz : bestTo S A cv z ≤ hold S A cv x := bestTo_le _ _ _ _ _ (fun v hv => Hg.out.2 v (by have := Hgl.out; omega))
                  by_cases hlz : z < S.length - 1
                  · have hhz : hold S A cv z ≤ hold S A cv x := Hg.out.2 z (by have := Hgl.out; omega)
                    by_cases hgt : bestTo S A cv z < hold S A cv z
                    · go_wp2_with fail
                      refine Calls.mono (Hholds.out z (by omega)) ?_
                      rintro e w' ⟨rfl, rfl⟩
                      go_wp2
                      go_roundw
                      case rel => exact ⟨z + 1, by omega, by go_num, by rw [bestTo_yes _ _ _ _ hgt], trivial⟩
                      case measure => simp [intOf]; omega
                    · go_wp2_with fail
                      refine Calls.mono (Hholds.out z (by omega)) ?_
                      rintro e w' ⟨rfl, rfl⟩
                      go_wp2
                      go_roundw
                      case rel => exact ⟨z + 1, by omega, by go_num, by rw [bestTo_no _ _ _ _ hgt], trivial⟩
                      case measure => simp [intOf]; omega
                  · obtain rfl : z = S.length - 1 := by omega
                    rw [Hbest.out]
                    have hpos := Hg.out.1
                    have hz0 : ((hold S A cv x : Int) == 0) = false := by simp; omega
                    have hz1 : ((hold S A cv x : Int) != (hold S A cv x : Int)) = false := by simp
                    by_cases hqM : q < M
                    · go_wp2_with fail
                      refine Calls.mono (Hholds.out x hxs) ?_
                      rintro e w' ⟨rfl, rfl⟩
                      go_wp2_with fail
                      refine Calls.mono Hcover.out ?_
                      rintro e w14 ⟨rfl, hr14, hf14⟩
                      rw [← Hcv.out hqM] at hr14
                      have hf15 := hfx.trans hf14
                      clear hf14 hfx hrow Hcover Hholds
                      go_wp2
                      go_roundw
                      case rel => exact ⟨q + 1, by omega, by go_num, hf15, hr14⟩
                      case measure => simp [intOf]; omega
                    · go_wp2_with fail
                      refine Calls.mono (Hholds.out x hxs) ?_
                      rintro e w' ⟨rfl, rfl⟩
                      have hr14 := hrow
                      rw [← Hcv2.out (by omega)] at hr14
                      clear hrow Hcover Hholds
                      go_wp2
                      go_roundw
                      case rel => exact ⟨q + 1, by omega, by go_num, hfx, hr14⟩
                      case measure => simp [intOf]; omega
              · obtain rfl : q = Q.length := by omega
                have emin : min Q.length M = M := by omega
                rw [emin] at hrow
                have hlen : (strikes S A (cov0 upper found) (Q.take M)).length = S.length - 1 := by rw [strikes_len]; exact Hcl.out
                have Hlen : Hid _ := hlen
                have rcx : BRow wr ub (strikes S A (cov0 upper found) (Q.take M)) := Row.fix rc1 hfx (by omega)
                obtain ⟨w15, rfl⟩ : ∃ w15 : World, w15 = wr := ⟨_, rfl⟩
                have hule : S.length - 1 = unc.length := by have := Huln.out; omega
                have Hule : Hid _ := hule
                clear W0 W1 P1 emin hlen rc1 hule
                have hlc : decide ((Q.length : Int) < (count : Int)) = false := by have := Hqc.out; simp; omega
                go_wp2
                clear hlc
                go_loopw [27] (fun i wr => ∃ k : Nat, k ≤ S.length - 1 ∧ i = .int .i64 k ∧ Fix (fun _ => True) w15 wr) (fun i _ => S.length - 1 - (intOf i).toNat)
                case atStart => exact ⟨0, Nat.zero_le _, rfl, Fix.refl _ _⟩
                case round =>
                  obtain ⟨u, hu, rfl, hfu⟩ := hrel
                  by_cases hlu : u < S.length - 1
                  · have z1 := (hfu.cell (p := ⟨ub, u, none⟩) trivial).trans (rcx.cell u (by rw [Hlen.out]; exact hlu))
                    have z2 := (hfu.cell (p := ⟨w10.heap.size, u, none⟩) trivial).trans (hrow.cell u (by rw [Hlen.out]; exact hlu))
                    have j1 : (u : Int) < unc.length := by have := Hule.out; omega
                    have j2 : (u : Int) < ((S.length - 1 : Nat) : Int) := by omega
                    clear rcx hrow
                    go_wp2
                    go_quiet (fail)
                    go_wp2
                    go_roundw
                    case rel => exact ⟨u + 1, by omega, by go_num, hfu.drewN _⟩
                    case measure => simp [intOf]; omega
                  · go_wp2
                    go_ret
                    exact ⟨rfl, (Hf10.out.trans (hfx.mono fun b hb => by omega)).trans (hfu.mono fun _ _ => trivial)⟩
          · have hqc' : ((Q.length : Int) == (count : Int)) = false := by simp; omega
            obtain rfl : M = Q.length := by have := HMM.out; rw [if_neg hqc] at this; exact this
            have Hqc : Hid (Q.length < count) := by have := HQl.out; unfold Hid; omega
            clear hqc
            go_wp2
            clear hqc'
            go_loopw [21] (fun i wr => ∃ k : Nat, k ≤ Q.length ∧ i = .int .i64 k ∧ Fix (fun b => b < w10.heap.size) w10 wr ∧ BRow wr w10.heap.size (strikes S A (cov0 upper found) (Q.take (min k Q.length))))
              (fun i _ => Q.length - (intOf i).toNat)
            case atStart => exact ⟨0, Nat.zero_le _, rfl, hfx, by rw [Nat.zero_min, List.take_zero]; exact hrow⟩
            case round =>
              clear hfx hrow
              obtain ⟨q, hq, rfl, hfx, hrow⟩ := hrel
              by_cases hlq : q < Q.length
              · obtain ⟨b0, o0, hb0, rfl, hc0⟩ := P1.at (by omega)
                have y := (hfx.cell (p := ⟨b0, o0 + q, none⟩) hb0).trans (hc0 q hlq)
                have hqn := HQn.out q hlq
                have hr := HPL.out.rng q (by omega)
                have hgr := HPL.out.greedy q (by omega)
                have emin : min q Q.length = q := by omega
                rw [emin, hqn.2] at hrow
                rw [hqn.1] at y
                obtain ⟨x, hx⟩ : ∃ x : Nat, nth F q = x := ⟨(nth F q).toNat, by omega⟩
                rw [hx] at y hr hgr
                rw [Int.toNat_natCast] at hgr
                obtain ⟨cv, hcv⟩ : ∃ cv, cv = strikes S A (cov0 upper found) (F.take q) := ⟨_, rfl⟩
                rw [← hcv] at hrow hgr
                have hcvl : cv.length = S.length - 1 := by rw [hcv, strikes_len]; exact Hcl.out
                have hxs : x + 1 < S.length := by omega
                have hx2 : ¬ ((S.length - 1 : Nat) : Int) ≤ x := by omega
                have hx3 : x < S.length - 1 := by omega
                have Hg : Hid (0 < hold S A cv x ∧ ∀ v, v < gain.length → hold S A cv v ≤ hold S A cv x) := hgr
                have Hcv : Hid (q + 1 ≤ Q.length → strikes S A (cov0 upper found) (Q.take (min (q + 1) Q.length)) = strike S A cv x) := by
                  intro hqm
                  have e1 : min (q + 1) Q.length = q + 1 := by omega
                  rw [e1, take_succ_nth Q q hlq, strikes_snoc, hqn.1, hqn.2, hx, hcv]; rfl
                have Hcv2 : Hid (¬ q + 1 ≤ Q.length → strikes S A (cov0 upper found) (Q.take (min (q + 1) Q.length)) = cv) := by
                  intro hqm
                  have e1 : min (q + 1) Q.length = q := by omega
                  rw [e1, hqn.2, hcv]
                have hbest : bestTo S A cv (S.length - 1) = hold S A cv x := by
                  apply Nat.le_antisymm
                  · exact bestTo_le _ _ _ _ _ (fun v hv => hgr.2 v (by have := Hgl.out; omega))
                  · exact bestTo_ge _ _ _ _ _ hx3
                have Hbest : Hid (bestTo S A cv (S.length - 1) = hold S A cv x) := hbest
                have hho : hold S A cv x ≤ 70001 := by
                  have h1 := hold_le S A cv x
                  have h2 := Hpre.out.csr.nbr_len x hxs
                  have h3 := Hpre.out.csr.st_le (x + 1) hxs
                  omega
                have hvw : ViewB (fun b => b ≤ w10.heap.size) wr (some ⟨w10.heap.size, 0, none⟩) cv := hrow.view (Nat.le_refl _)
                have Y0 := (W0.fix hfx).weaken (V := fun b => b ≤ w10.heap.size) fun b hb => by omega
                have Y1 := (W1.fix hfx).weaken (V := fun b => b ≤ w10.heap.size) fun b hb => by omega
                have hholds : ∀ z : Nat, z + 1 < S.length → Calls Try.prog 16 #[.slice sa2 S.length S.length, .slice aa2 A.length A.length, .slice (some ⟨w10.heap.size, 0, none⟩) (S.length - 1) (S.length - 1), .int .i64 z] wr fun e w' => e = .returned (.int .i32 (hold S A cv z)) ∧ w' = wr := by
                  intro z hz
                  have := holds_any (fun b => b ≤ w10.heap.size) sa2 aa2 (some ⟨w10.heap.size, 0, none⟩) S.length A.length (S.length - 1) S A cv z wr Hpre.out.csr (by omega) (by omega) (by omega) hz Y0 Y1 hvw
                  rw [hcvl] at this
                  exact this
                have Hholds : Hid _ := hholds
                have hcover := cover_any (fun b => b < w10.heap.size) sa2 aa2 S.length A.length (S.length - 1) w10.heap.size S A cv x wr Hpre.out.csr (by omega) (by omega) (by omega) hxs (W0.fix hfx) (W1.fix hfx) hrow (by simp)
                rw [hcvl] at hcover
                have Hcover : Hid _ := hcover
                clear hcover hholds Y0 Y1 hvw hbest hgr hqn hc0 hx hcv hcvl emin
                obtain ⟨wq, rfl⟩ : ∃ wq : World, wq = wr := ⟨_, rfl⟩
                have hb1 : decide ((q : Int) < (Q.length : Int)) = true := by simp; omega
                have hb2 : decide ((x : Int) < 0) = false := by simp
                have hb3 : decide (((S.length - 1 : Nat) : Int) ≤ (x : Int)) = false := by simp; omega
                go_wp2
                go_loopw [23, 24] (fun b i wr => ∃ k : Nat, k ≤ S.length - 1 ∧ i = .int .i64 k ∧ b = .int .i32 (bestTo S A cv k) ∧ wr = wq) (fun _ i _ => S.length - 1 - (intOf i).toNat)
                case atStart => exact ⟨0, Nat.zero_le _, rfl, rfl, rfl⟩
                case round =>
                  obtain ⟨z, hz, rfl, rfl, rfl⟩ := hrel
                  have hbz : bestTo S A cv z ≤ hold S A cv x := bestTo_le _ _ _ _ _ (fun v hv => Hg.out.2 v (by have := Hgl.out; omega))
                  by_cases hlz : z < S.length - 1
                  · have hhz : hold S A cv z ≤ hold S A cv x := Hg.out.2 z (by have := Hgl.out; omega)
                    by_cases hgt : bestTo S A cv z < hold S A cv z
                    · go_wp2_with fail
                      refine Calls.mono (Hholds.out z (by omega)) ?_
                      rintro e w' ⟨rfl, rfl⟩
                      go_wp2
                      go_roundw
                      case rel => exact ⟨z + 1, by omega, by go_num, by rw [bestTo_yes _ _ _ _ hgt], trivial⟩
                      case measure => simp [intOf]; omega
                    · go_wp2_with fail
                      refine Calls.mono (Hholds.out z (by omega)) ?_
                      rintro e w' ⟨rfl, rfl⟩
                      go_wp2
                      go_roundw
                      case rel => exact ⟨z + 1, by omega, by go_num, by rw [bestTo_no _ _ _ _ hgt], trivial⟩
                      case measure => simp [intOf]; omega
                  · obtain rfl : z = S.length - 1 := by omega
                    rw [Hbest.out]
                    have hpos := Hg.out.1
                    have hz0 : ((hold S A cv x : Int) == 0) = false := by simp; omega
                    have hz1 : ((hold S A cv x : Int) != (hold S A cv x : Int)) = false := by simp
                    by_cases hqM : q < Q.length
                    · go_wp2_with fail
                      refine Calls.mono (Hholds.out x hxs) ?_
                      rintro e w' ⟨rfl, rfl⟩
                      go_wp2_with fail
                      refine Calls.mono Hcover.out ?_
                      rintro e w14 ⟨rfl, hr14, hf14⟩
                      rw [← Hcv.out hqM] at hr14
                      have hf15 := hfx.trans hf14
                      clear hf14 hfx hrow Hcover Hholds
                      go_wp2
                      go_roundw
                      case rel => exact ⟨q + 1, by omega, by go_num, hf15, hr14⟩
                      case measure => simp [intOf]; omega
                    · exact absurd hlq hqM
              · obtain rfl : q = Q.length := by omega
                have emin : min Q.length Q.length = Q.length := by omega
                rw [emin] at hrow
                have hlen : (strikes S A (cov0 upper found) (Q.take Q.length)).length = S.length - 1 := by rw [strikes_len]; exact Hcl.out
                have Hlen : Hid _ := hlen
                have rcx : BRow wr ub (strikes S A (cov0 upper found) (Q.take Q.length)) := Row.fix rc1 hfx (by omega)
                obtain ⟨w15, rfl⟩ : ∃ w15 : World, w15 = wr := ⟨_, rfl⟩
                have hule : S.length - 1 = unc.length := by have := Huln.out; omega
                have Hule : Hid _ := hule
                clear W0 W1 P1 emin hlen rc1 hule
                have hlc : decide ((Q.length : Int) < (count : Int)) = true := by have := Hqc.out; simp; omega
                have Hbare : Hid (∀ v, v < S.length - 1 → nthB (strikes S A (cov0 upper found) (Q.take Q.length)) v = false) := by
                  intro v hv
                  rw [List.take_of_length_le (Nat.le_refl _), (HMl.out.2.2 Hqc.out).2]
                  exact HPL.out.bare v (by have := Hgl.out; omega)
                go_wp2
                clear hlc
                go_loop [26] (fun i => ∃ k : Nat, k ≤ S.length - 1 ∧ i = .int .i64 k) (fun i => S.length - 1 - (intOf i).toNat)
                case atStart => exact ⟨0, Nat.zero_le _, rfl⟩
                case round =>
                  obtain ⟨y, hy, rfl⟩ := hrel
                  by_cases hly : y < S.length - 1
                  · have z := hrow.cell y (by rw [Hlen.out]; exact hly)
                    rw [Hbare.out y hly] at z
                    clear hrow hfx rcx
                    go_wp2
                    go_round
                    case rel => exact ⟨y + 1, by omega, by go_num⟩
                    case measure => simp [intOf]; omega
                  · go_wp2
                    go_loopw [27] (fun i wr => ∃ k : Nat, k ≤ S.length - 1 ∧ i = .int .i64 k ∧ Fix (fun _ => True) w15 wr) (fun i _ => S.length - 1 - (intOf i).toNat)
                    case atStart => exact ⟨0, Nat.zero_le _, rfl, Fix.refl _ _⟩
                    case round =>
                      obtain ⟨u, hu, rfl, hfu⟩ := hrel
                      by_cases hlu : u < S.length - 1
                      · have z1 := (hfu.cell (p := ⟨ub, u, none⟩) trivial).trans (rcx.cell u (by rw [Hlen.out]; exact hlu))
                        have z2 := (hfu.cell (p := ⟨w10.heap.size, u, none⟩) trivial).trans (hrow.cell u (by rw [Hlen.out]; exact hlu))
                        have j1 : (u : Int) < unc.length := by have := Hule.out; omega
                        have j2 : (u : Int) < ((S.length - 1 : Nat) : Int) := by omega
                        clear rcx hrow
                        go_wp2
                        go_quiet (fail)
                        go_wp2
                        go_roundw
                        case rel => exact ⟨u + 1, by omega, by go_num, hfu.drewN _⟩
                        case measure => simp [intOf]; omega
                      · go_wp2
                        go_ret
                        exact ⟨rfl, (Hf10.out.trans (hfx.mono fun b hb => by omega)).trans (hfu.mono fun _ _ => trivial)⟩
end Go.Proofs.Qxb6605187a
