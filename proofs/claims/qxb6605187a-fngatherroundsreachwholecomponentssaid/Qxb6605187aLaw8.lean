import Derived.Test.Qxb6605187aLawKit
import Derived.Test.Qxb6605187aClones
import Derived.Test.Qxb6605187aWalkH
import Derived.Test.Qxb6605187aWalkR
import Derived.Test.Qxb6605187aBitsPlain
namespace Go.Proofs.Qxb6605187a
open Go.RowKit
set_option linter.unusedVariables false

set_option maxHeartbeats 400000 in
theorem bytes33 (a0 a1 a2 : Option Addr) (n0 n1 n2 c0 c1 c2 : Nat) (w : World) (h0 : n0 ≤ maxLen) (h1 : n1 ≤ maxLen) (h2 : n2 ≤ maxLen) :
    Calls Try.prog 33 #[.slice a0 n0 c0, .slice a1 n1 c1, .slice a2 n2 c2] w (SomeBool w) := by
  unfold maxLen at *
  go_enter Try.func33, Try.ntmps33
  go_wp2
  all_goals
    go_ret
    exact SomeBool.mk _

/-- what sourcesPremise's 'true' says -/
structure SrcPre (S A src : List Int) : Prop where
  csr : Csr S A
  sym : Sym S A
  rng : ∀ i, i < src.length → 0 ≤ nth src i ∧ nth src i + 1 < S.length

set_option maxHeartbeats 2000000 in
theorem spre_any (U : Nat → Prop) (a0 a1 a2 : Option Addr) (c0 c1 c2 : Nat) (S A src : List Int) (w : World) (hS : S.length ≤ 70000) (hA : A.length ≤ 70000) (hs : src.length ≤ 70000) (hw : Wf32 A) (hw2 : Wf32 src)
    (v0 : View U w .i64 a0 S) (v1 : View U w .i32 a1 A) (v2 : View U w .i32 a2 src) :
    Calls Try.prog 34 #[.slice a0 S.length c0, .slice a1 A.length c1, .slice a2 src.length c2] w (Ans (SrcPre S A src) (fun _ => True) w) := by
  go_enter Try.func34, Try.ntmps34
  go_wp2_with fail
  refine (csr_any U a0 a1 c0 c1 S A _ hS hA v0 v1 hw).mono ?_
  rintro e w1 ⟨b, rfl, hb, hfix⟩
  cases b with
  | false =>
    go_wp2
    go_ret
    exact Ans.no hfix
  | true =>
    have hcsr : Csr S A := hb rfl
    replace v0 := v0.fix (hfix.mono fun _ _ => trivial)
    replace v1 := v1.fix (hfix.mono fun _ _ => trivial)
    replace v2 := v2.fix (hfix.mono fun _ _ => trivial)
    clear hb
    go_wp2_with fail
    refine (und_any U a0 a1 c0 c1 S A _ hcsr hS hA v0 v1).mono ?_
    rintro e w2 ⟨b, rfl, hb, hfix2⟩
    have hfx : Fix (fun _ => True) w w2 := hfix.trans hfix2
    cases b with
    | false =>
      go_wp2
      go_ret
      exact Ans.no hfx
    | true =>
      have hsym : Sym S A := hb rfl
      replace v2 := v2.fix (hfix2.mono fun _ _ => trivial)
      have hl := hcsr.len
      have Hcsr : Hid _ := hcsr
      have Hsym : Hid _ := hsym
      clear hb v0 v1 hcsr hsym hfix hfix2
      go_wp2
      go_loop [8] (fun i => ∃ k : Nat, k ≤ src.length ∧ i = .int .i64 k ∧ Hid (∀ v, v < k → 0 ≤ nth src v ∧ nth src v + 1 < S.length)) (fun i => src.length - (intOf i).toNat)
      case atStart => exact ⟨0, by omega, rfl, fun v hv => absurd hv (Nat.not_lt_zero _)⟩
      case round =>
        obtain ⟨k, hk, rfl, hin⟩ := hrel
        by_cases hlt : k < src.length
        · obtain ⟨b2, o2, _, rfl, hc2⟩ := v2.at (by omega)
          have y2 := hc2 k hlt
          have hwk := hw2 k
          clear hc2 v2 hw2
          by_cases z2 : nth src k < 0
          · go_wp2
            go_ret
            exact Ans.no hfx
          · by_cases z3 : nth src k + 1 < S.length
            · have z3' : ¬ ((S.length : Int) - 1 ≤ nth src k) := by omega
              go_wp2
              go_round
              case rel =>
                refine ⟨k + 1, by omega, by go_num, fun v hv => ?_⟩
                by_cases e : v = k
                · rw [e]; omega
                · exact hin.out v (by omega)
              case measure => simp [intOf]; omega
            · have z3' : ((S.length : Int) - 1 ≤ nth src k) := by omega
              go_wp2
              go_ret
              exact Ans.no hfx
        · go_wp2
          go_ret
          exact Ans.yes ⟨Hcsr.out, Hsym.out, fun v hv => hin.out v (by omega)⟩ hfx
set_option maxHeartbeats 4000000 in
set_option maxRecDepth 100000 in
theorem law8 (sa aa qa : Option Addr) (sc ac qc : Nat) (S A src : List Int) (w : World)
    (m0 : S.length ≤ maxLen) (m1 : A.length ≤ maxLen) (m2 : src.length ≤ maxLen) (hw : Wf32 A) (hw2 : Wf32 src)
    (v0 : View (fun b => b < w.heap.size) w .i64 sa S) (v1 : View (fun b => b < w.heap.size) w .i32 aa A) (v2 : View (fun b => b < w.heap.size) w .i32 qa src) :
    Calls Try.prog 8 #[.slice sa S.length sc, .slice aa A.length ac, .slice qa src.length qc] w (LawPost w) := by
  go_enter Try.func8, Try.ntmps8
  go_wp2_with fail
  refine (bytes33 _ _ _ _ _ _ _ _ _ _ m0 m1 m2).mono ?_
  rintro e w' ⟨b, rfl, rfl⟩
  unfold maxLen at m0 m1 m2
  cases b with
  | false =>
    go_wp2
    go_ret
    exact ⟨rfl, Fix.refl _ _⟩
  | true =>
    by_cases t0 : 32768 < S.length
    · go_wp2
      go_ret
      exact ⟨rfl, Fix.refl _ _⟩
    by_cases t1 : 65536 < A.length
    · go_wp2
      go_ret
      exact ⟨rfl, Fix.refl _ _⟩
    by_cases t2 : 64 < src.length
    · go_wp2
      go_ret
      exact ⟨rfl, Fix.refl _ _⟩
    go_wp2_with fail
    refine (spre_any _ sa aa qa sc ac qc S A src _ (by omega) (by omega) (by omega) hw hw2 v0 v1 v2).mono ?_
    rintro e w1 ⟨b, rfl, hb, hf1⟩
    cases b with
    | false =>
      go_wp2
      go_ret
      exact ⟨rfl, hf1.mono fun _ _ => trivial⟩
    | true =>
      have hpre := hb rfl
      have hf1' : Fix (fun b => b < w'.heap.size) w' w1 := hf1.mono fun _ _ => trivial
      replace v0 := v0.up hf1'
      replace v1 := v1.up hf1'
      replace v2 := v2.up hf1'
      have Hpre : Hid _ := hpre
      have Hf : Hid _ := hf1'
      clear hb hpre hf1 hf1'
      go_wp2_with fail
      refine (clone11 _ sa sc S _ (by omega) v0 (fun k hk => hk)).mono ?_
      rintro e w2 ⟨sa2, rfl, o0, hf⟩
      have Hf2 : Hid _ := Hf.out.up hf
      have V0 := o0.view (fun b => b < w2.heap.size) (fun b _ h => h)
      replace v1 := v1.up hf
      replace v2 := v2.up hf
      clear v0 o0 Hf hf
      go_wp2_with fail
      refine (clone12 _ aa ac A _ (by omega) v1 (fun k hk => hk)).mono ?_
      rintro e w3 ⟨aa2, rfl, o1, hf⟩
      have Hf3 : Hid _ := Hf2.out.up hf
      have V1 := o1.view (fun b => b < w3.heap.size) (fun b _ h => h)
      replace V0 := V0.up hf
      replace v2 := v2.up hf
      clear v1 o1 Hf2 hf
      go_wp2_with fail
      refine (clone12 _ qa qc src _ (by omega) v2 (fun k hk => hk)).mono ?_
      rintro e w4 ⟨qa2, rfl, o2, hf⟩
      have Hf4 : Hid _ := Hf3.out.up hf
      have V2 := o2.view (fun b => b < w4.heap.size) (fun b _ h => h)
      replace V0 := V0.up hf
      replace V1 := V1.up hf
      clear v2 o2 Hf3 hf
      go_wp2_with fail
      refine (graph_any sa2 aa2 S.length S.length A.length A.length _).mono ?_
      rintro e w9 ⟨rfl, hw9⟩
      have hG9 : Graph (fun b => b < w4.heap.size ∨ b = w4.heap.size) w9 w4.heap.size S A := by
        rw [hw9]
        exact graph_made Hpre.out.csr (by omega) (by omega) hw (fun b hb => hb) V0 V1
      have hf49 : Fix (fun b => b < w4.heap.size) w4 w9 := by rw [hw9]; exact (Fix.refl _ _).alloc (fun k hk => hk) _
      have hs9 : w9.heap.size = w4.heap.size + 1 := by rw [hw9]; simp
      have W0 := V0.fix hf49
      have W1 := V1.fix hf49
      have W2 := V2.fix hf49
      have Hf9 : Hid _ := Hf4.out.up hf49
      have hs4 := Hf4.out.size
      have hl1 := Hpre.out.csr.len
      obtain ⟨gb, hgb⟩ : ∃ gb, gb = w4.heap.size := ⟨_, rfl⟩
      rw [← hgb] at hG9 W0 W1 W2 hs9 hs4 ⊢
      clear V0 V1 V2 hf49 Hf4 hw9 hgb
      have en : (S.length : Int) - 1 = ((S.length - 1 : Nat) : Int) := by omega
      have hmk := run_make_row' (P := Try.prog) 46 47 (.int .u64 0) 8 Try.underlying46 (by kernel_rfl) rfl .i64 .i64 (S.length - 1) (by omega) (by omega)
      by_cases hm0 : src.length < 64
      · have hmB : decide ((src.length : Int) < 64) = true := by simp; omega
        have hmB2 : decide (src.length < 64) = true := by simp; omega
        have Hm : Hid (src.length < 64) := hm0
        clear hm0
        go_wp2
        obtain ⟨all, hall⟩ : ∃ all : Int, all = IntKind.u64.wrap (IntKind.u64.wrap (2 ^ src.length) - 1) := ⟨_, rfl⟩
        rw [← hall]
        have Hall : Hid (∀ i, i < src.length → tb all i = true) := by rw [hall]; exact all_lt _ Hm.out
        clear hall
        clear hmk en
        have hfs : Fix (fun b => b < gb + 1) w9 ((w9.alloc (.cells (madeCells #[.int .u64 0] (S.length - 1)) 47)).alloc (.cells (madeCells #[.int .u64 0] (S.length - 1)) 47)) := ((Fix.refl _ _).alloc (fun k hk => by omega) _).alloc (fun k hk => by simp; omega) _
        have hr1 : IRow ((w9.alloc (.cells (madeCells #[.int .u64 0] (S.length - 1)) 47)).alloc (.cells (madeCells #[.int .u64 0] (S.length - 1)) 47)) (gb + 1) 47 .u64 (List.replicate (S.length - 1) 0) := by
          have := IRow.made w9 (S.length - 1) 47 .u64
          rw [hs9] at this
          exact Row.alloc this _
        have hr2 : IRow ((w9.alloc (.cells (madeCells #[.int .u64 0] (S.length - 1)) 47)).alloc (.cells (madeCells #[.int .u64 0] (S.length - 1)) 47)) (gb + 1 + 1) 47 .u64 (List.replicate (S.length - 1) 0) := by
          have := IRow.made (w9.alloc (.cells (madeCells #[.int .u64 0] (S.length - 1)) 47)) (S.length - 1) 47 .u64
          simp only [World.size_alloc, hs9] at this
          exact this
        go_loopw [12] (fun i wr => ∃ (k : Nat) (xs : List Int), k ≤ src.length ∧ i = .int .i64 k ∧ Fix (fun b => b < gb + 1) w9 wr ∧ SrcIn src (S.length - 1) k xs ∧ IRow wr (gb + 1) 47 .u64 xs ∧ IRow wr (gb + 1 + 1) 47 .u64 xs) (fun i _ => src.length - (intOf i).toNat)
        case atStart => exact ⟨0, _, Nat.zero_le _, rfl, hfs, SrcIn.zero src _, hr1, hr2⟩
        case round =>
          clear hfs hr1 hr2
          obtain ⟨k, xs, hk, rfl, hfx, hSI, hrs, hrf⟩ := hrel
          by_cases hlt : k < src.length
          · obtain ⟨b2, o2, hb2, rfl, hc2⟩ := W2.at (by omega)
            have y2 := (hfx.cell (p := ⟨b2, o2 + k, none⟩) (by show b2 < gb + 1; omega)).trans (hc2 k hlt)
            have hr := Hpre.out.rng k hlt
            have hxl := hSI.len
            have hSI' := hSI.step (by omega) (by omega : (nth src k).toNat < S.length - 1)
            obtain ⟨x, hx⟩ : ∃ x : Nat, nth src k = x := ⟨(nth src k).toNat, by omega⟩
            rw [hx] at y2 hr
            rw [hx, Int.toNat_natCast] at hSI'
            have hxn : x < S.length - 1 := by omega
            have z1 := hrs.cell x (by omega)
            have f1 := hrs.frozen x
            have z2 : (wr.setCell ⟨gb + 1, x, none⟩ (.int .u64 (bits .or .u64 (nth xs x) (IntKind.u64.wrap (2 ^ k))))).cell? ⟨gb + 1 + 1, x, none⟩ = some (.int .u64 (nth xs x)) := (World.cell?_of_block (a := ⟨gb + 1 + 1, x, none⟩) (Below.heap_setCell wr ⟨gb + 1, x, none⟩ _ (gb + 1 + 1) (by simp))).trans (hrf.cell x (by omega))
            have f2 : (wr.setCell ⟨gb + 1, x, none⟩ (.int .u64 (bits .or .u64 (nth xs x) (IntKind.u64.wrap (2 ^ k))))).frozen? ⟨gb + 1 + 1, x, none⟩ = false := (World.frozen?_of_block (a := ⟨gb + 1 + 1, x, none⟩) (Below.heap_setCell wr ⟨gb + 1, x, none⟩ _ (gb + 1 + 1) (by simp))).trans (hrf.frozen x)
            have hrs' := Row.setOther (p := ⟨gb + 1 + 1, x, none⟩) (hrs.set x (bits .or .u64 (nth xs x) (IntKind.u64.wrap (2 ^ k)))) (by simp) (.int .u64 (bits .or .u64 (nth xs x) (IntKind.u64.wrap (2 ^ k))))
            have hrf' := IRow.set (Row.setOther (p := ⟨gb + 1, x, none⟩) hrf (by simp) (.int .u64 (bits .or .u64 (nth xs x) (IntKind.u64.wrap (2 ^ k))))) x (bits .or .u64 (nth xs x) (IntKind.u64.wrap (2 ^ k)))
            have hfx' := (hfx.setCell (p := ⟨gb + 1, x, none⟩) (by simp) (.int .u64 (bits .or .u64 (nth xs x) (IntKind.u64.wrap (2 ^ k))))).setCell (p := ⟨gb + 1 + 1, x, none⟩) (by show ¬ gb + 1 + 1 < gb + 1; omega) (.int .u64 (bits .or .u64 (nth xs x) (IntKind.u64.wrap (2 ^ k))))
            clear hc2 hrs hrf hfx hSI hxl hx W0 W1 W2 hG9
            go_wp2
            go_roundw
            case rel => exact ⟨k + 1, _, by omega, by go_num, hfx', hSI', hrs', hrf'⟩
            case measure => simp [intOf]; omega
          · obtain rfl : k = src.length := by omega
            have hR0 : Rounds S A src (S.length - 1) 0 xs xs := hSI.rounds (fun i hi => by have := Hpre.out.rng i hi; omega)
            obtain ⟨w10, rfl⟩ : ∃ w10 : World, w10 = wr := ⟨_, rfl⟩
            have hmk := run_make_row' (P := Try.prog) 46 47 (.int .u64 0) 8 Try.underlying46 (by kernel_rfl) rfl .i64 .i64 (S.length - 1) (by omega) (by omega)
            clear hSI
            go_wp2
            go_loopw [11, 15, 16] (fun fv dv rv wr => ∃ (r : Nat) (dn : Bool) (fb : Nat) (seen fr : List Int), rv = .int .i64 r ∧ dv = .bool dn ∧ fv = .slice (some ⟨fb, 0, none⟩) (S.length - 1) (S.length - 1) ∧ gb + 1 < fb ∧ fb < wr.heap.size ∧ r ≤ S.length ∧ Fix (fun b => b < gb + 1) w9 wr ∧ Rounds S A src (S.length - 1) r seen fr ∧ (0 < S.length - 1 → IRow wr (gb + 1) 47 .u64 seen ∧ IRow wr fb 47 .u64 fr) ∧ Hid (dn = true → ∀ v, v < S.length - 1 → nth fr v = 0) ∧ Hid (dn = false → r = 0 ∨ r + 1 ≤ S.length - 1))
              (fun _ _ rv _ => S.length + 1 - (intOf rv).toNat)
            case atStart => exact ⟨0, false, gb + 1 + 1, xs, xs, rfl, rfl, rfl, by omega, Row.lt hrf, by omega, hfx, hR0, fun _ => ⟨hrs, hrf⟩, (fun h => by cases h), fun _ => .inl rfl⟩
            case round =>
              clear hfx hR0 hrs hrf
              obtain ⟨r, dn, fb, seen, fr, rfl, rfl, rfl, hfb, hfl, hrS, hfx, hR, hrw, hdt, hdf⟩ := hrel
              have Hrw : Hid _ := hrw
              clear hrw
              cases dn with
              | false =>
                have hrn : r ≤ S.length - 1 := by have := hdf.out rfl; omega
                have hrn' : (r : Int) ≤ ((S.length - 1 : Nat) : Int) := by omega
                have hsx := hfx.size
                have hZ : ZIn (fun b => b < gb + 1 ∨ b = fb) (wr.alloc (.cells (madeCells #[.int .u64 0] (S.length - 1)) 47)) gb (gb + 1) wr.heap.size (some ⟨gb + 1, 0, none⟩) (some ⟨fb, 0, none⟩) (some ⟨wr.heap.size, 0, none⟩) S A seen fr (List.replicate (S.length - 1) 0) all := by
                  have hfa : Fix (fun b => b < wr.heap.size) wr (wr.alloc (.cells (madeCells #[.int .u64 0] (S.length - 1)) 47)) := (Fix.refl _ _).alloc (fun k hk => hk) _
                  refine ⟨?_, ?_, by rw [hR.sl]; omega, by rw [hR.fl, hR.sl], by rw [hR.sl]; simp, fun h0 => ⟨rfl, Row.alloc (Hrw.out (by rw [hR.sl] at h0; exact h0)).1 _⟩, fun _ => ⟨rfl, IRow.made _ _ _ _⟩, ?_, by omega, by omega, by omega, by simp; omega, by simp, hR.ws, ?_⟩
                  · exact (hG9.fix (hfx.mono fun b hb => by omega)).fix (hfa.mono fun b hb => by omega) |>.weaken fun b hb => .inl (by omega)
                  · intro b hb; simp; omega
                  · by_cases h0 : 0 < S.length - 1
                    · exact IRow.view (Row.alloc (Hrw.out h0).2 _) (.inr rfl)
                    · left; apply List.length_eq_zero_iff.1; rw [hR.fl]; omega
                  · intro v i hi
                    by_cases hv : v < S.length - 1
                    · exact Hall.out i ((hR.sound v hv i (hR.sub v i hi)).1)
                    · rw [nth_out fr v (by rw [hR.fl]; omega), tb_zero] at hi; cases hi
                have hz := zzgather_any (sc := S.length - 1) (fc := S.length - 1) (nc := S.length - 1) hZ
                have hRn := hR.next Hpre.out.csr Hpre.out.sym (by omega)
                rw [hR.sl] at hz
                have Hz : Hid _ := hz
                have hsl := hR.sl
                have Hsl : Hid (seen.length = S.length - 1) := hsl
                clear hz hZ hR hsl hdt hdf
                go_wp2_with fail
                refine Calls.mono Hz.out ?_
                rintro e w12 ⟨rfl, hf12, hs12, hrows⟩
                rw [Hsl.out] at hrows
                simp only [World.size_alloc] at hs12
                rw [Hsl.out]
                have hfx2 : Fix (fun b => b < gb + 1) w9 w12 := (hfx.alloc (fun k hk => by omega) (.cells (madeCells #[.int .u64 0] (S.length - 1)) 47)).trans (hf12.mono fun b hb => .inl hb)
                have Hrows : Hid _ := hrows
                clear hmk hfx hf12 hrows Hz hG9 W0 W1 W2 Hrw
                go_wp2
                go_roundw
                case rel =>
                  refine ⟨r + 1, reachTo S A seen fr (S.length - 1) == 0, wr.heap.size, _, _, by go_num, rfl, rfl, by omega, by omega, by omega, hfx2, hRn, Hrows.out, fun hd v hv => ?_, fun hd => ?_⟩
                  · rw [listOf_nth _ _ _ hv]
                    exact reach_zero (by simpa using hd) v hv
                  · right
                    obtain ⟨v, i, hv, hb⟩ := reach_some (S := S) (A := A) (seen := seen) (fr := fr) (n := S.length - 1) (by simpa using hd)
                    exact hRn.bound hv (by rw [listOf_nth _ _ _ hv]; exact hb)
                case measure => simp [intOf]; omega
              | true =>
                clear hmk
                have hz := hdt.out rfl
                have hRd := fun v i hv hi => hR.done Hpre.out.csr Hpre.out.sym (by omega) hz v i hv hi
                have HRd : Hid _ := hRd
                have hsl := hR.sl
                have Hsl : Hid (seen.length = S.length - 1) := hsl
                have hws := hR.ws
                have Hws : Hid _ := hws
                have hsx := hfx.size
                have Y0 := (W0.fix (hfx.mono fun b hb => by omega))
                have Y1 := (W1.fix (hfx.mono fun b hb => by omega))
                have Y2 := (W2.fix (hfx.mono fun b hb => by omega))
                have hrt := roots_any (fun b => b < gb) sa2 aa2 S.length A.length S A wr Hpre.out.csr (by omega) (by omega) (fun b hb => by omega) Y0 Y1
                have Hrt : Hid _ := hrt
                clear hz hRd hsl hws hR hdt hdf W0 W1 W2 hG9 Y0 Y1 hrt
                by_cases hrn : r ≤ S.length - 1
                · have hb1 : decide ((r : Int) ≤ ((S.length - 1 : Nat) : Int)) = true := by simp; omega
                  have hb2 : decide (r ≤ S.length - 1) = true := by simp; omega
                  have hb3 : (r : Int) ≤ ((S.length - 1 : Nat) : Int) := by omega
                  go_wp2_with fail
                  clear hb2 hb3 hrn
                  refine Calls.mono Hrt.out ?_
                  rintro e w14 ⟨rb, R, hrb, rfl, hRoots, hRrow, hf14⟩
                  have hRl := hRoots.len
                  have HRl : Hid (R.length + 1 = S.length) := hRl
                  have hRl1 : S.length - 1 ≤ R.length := by omega
                  have Z2 := (Y2.fix (hf14.mono fun b hb => by omega))
                  have hsv : 0 < S.length - 1 → IRow w14 (gb + 1) 47 .u64 seen := fun h0 => Row.fix (Hrw.out h0).1 hf14 (by omega)
                  have Hsv : Hid _ := hsv
                  have HRoots : Hid _ := hRoots
                  have Hf14 : Hid (Fix (fun b => b < w'.heap.size) w' w14) := ((Hf9.out.trans (hfx.mono fun b hb => by omega)).trans (hf14.mono fun b hb => by omega))
                  clear hRl hsv hRoots hf14 hfx Hrt Y2 Hrw hb1
                  go_wp2
                  go_loopw [22] (fun i wr => ∃ v : Nat, v ≤ S.length - 1 ∧ i = .int .i64 v ∧ Fix (fun _ => True) w14 wr) (fun i _ => S.length - 1 - (intOf i).toNat)
                  case atStart => exact ⟨0, Nat.zero_le _, rfl, Fix.refl _ _⟩
                  case round =>
                    obtain ⟨v, hv, rfl, hfv⟩ := hrel
                    by_cases hlv : v < S.length - 1
                    · have hbv : decide ((v : Int) < ((S.length - 1 : Nat) : Int)) = true := by simp; omega
                      have hsrow := Hsv.out (by omega)
                      obtain ⟨wo, rfl⟩ : ∃ wo : World, wo = wr := ⟨_, rfl⟩
                      go_wp2
                      go_loopw [23] (fun i wr => ∃ j : Nat, j ≤ src.length ∧ i = .int .i64 j ∧ Fix (fun _ => True) w14 wr) (fun i _ => src.length - (intOf i).toNat)
                      case atStart => exact ⟨0, Nat.zero_le _, rfl, hfv⟩
                      case round =>
                        clear hfv
                        obtain ⟨j, hj, rfl, hfv⟩ := hrel
                        by_cases hlj : j < src.length
                        · obtain ⟨b2, o2, hb2, rfl, hc2⟩ := Z2.at (by omega)
                          have y2 := (hfv.cell (p := ⟨b2, o2 + j, none⟩) trivial).trans (hc2 j hlj)
                          have hr := Hpre.out.rng j hlj
                          have hd := HRd.out v j hlv hlj
                          have hcn := HRoots.out.conn v (nth src j).toNat (by have := HRl.out; omega) (by have := HRl.out; omega)
                          obtain ⟨x, hx⟩ : ∃ x : Nat, nth src j = x := ⟨(nth src j).toNat, by omega⟩
                          rw [hx] at y2 hr
                          rw [hx, Int.toNat_natCast] at hd hcn
                          have hxR : x < R.length := by have := HRl.out; omega
                          have hvR : v < R.length := by have := HRl.out; omega
                          have y3 := (hfv.cell (p := ⟨rb, v, none⟩) trivial).trans (hRrow.cell v hvR)
                          have y4 := (hfv.cell (p := ⟨rb, x, none⟩) trivial).trans (hRrow.cell x hxR)
                          have y5 := (hfv.cell (p := ⟨gb + 1, v, none⟩) trivial).trans (hsrow.cell v (by rw [Hsl.out]; exact hlv))
                          have hg := tb_shr (nth seen v) (Hws.out v) j (by omega)
                          have q1 : (v : Int) < R.length := by omega
                          have q2 : (x : Int) < R.length := by omega
                          have q3 : (j : Int) < src.length := by omega
                          have HCR : Hid (nth R v = nth R x ↔ tb (nth seen v) j = true) := ⟨fun h => hd.2 (hcn.1 h), fun h => hcn.2 (hd.1 h)⟩
                          clear hc2 hd hcn hx Z2 hRrow hsrow
                          have hw1 : (nth R v == nth R x) = tb (nth seen v) j := by rw [Bool.eq_iff_iff, beq_iff_eq]; exact HCR.out
                          clear HCR
                          cases hbt : tb (nth seen v) j
                          all_goals
                            rw [hbt] at hg hw1
                            clear hbt
                            go_wp2
                            go_quiet (fail)
                            go_wp2
                            go_roundw
                            case rel => exact ⟨j + 1, by omega, by go_num, hfv.drewN _⟩
                            case measure => simp [intOf]; omega
                        · clear hsrow
                          go_wp2
                          go_roundw
                          case rel => exact ⟨v + 1, by omega, by go_num, hfv⟩
                          case measure => simp [intOf]; omega
                    · go_wp2
                      go_ret
                      exact ⟨rfl, Hf14.out.trans (hfv.mono fun _ _ => trivial)⟩
                · have hb1 : decide ((r : Int) ≤ ((S.length - 1 : Nat) : Int)) = false := by simp; omega
                  have hb2 : decide (r ≤ S.length - 1) = false := by simp; omega
                  have hb3 : ¬ (r : Int) ≤ ((S.length - 1 : Nat) : Int) := by omega
                  go_wp2_with fail
                  clear hb2 hb3 hrn
                  refine Calls.mono Hrt.out ?_
                  rintro e w14 ⟨rb, R, hrb, rfl, hRoots, hRrow, hf14⟩
                  have hRl := hRoots.len
                  have HRl : Hid (R.length + 1 = S.length) := hRl
                  have hRl1 : S.length - 1 ≤ R.length := by omega
                  have Z2 := (Y2.fix (hf14.mono fun b hb => by omega))
                  have hsv : 0 < S.length - 1 → IRow w14 (gb + 1) 47 .u64 seen := fun h0 => Row.fix (Hrw.out h0).1 hf14 (by omega)
                  have Hsv : Hid _ := hsv
                  have HRoots : Hid _ := hRoots
                  have Hf14 : Hid (Fix (fun b => b < w'.heap.size) w' w14) := ((Hf9.out.trans (hfx.mono fun b hb => by omega)).trans (hf14.mono fun b hb => by omega))
                  clear hRl hsv hRoots hf14 hfx Hrt Y2 Hrw hb1
                  go_wp2
                  go_loopw [22] (fun i wr => ∃ v : Nat, v ≤ S.length - 1 ∧ i = .int .i64 v ∧ Fix (fun _ => True) w14 wr) (fun i _ => S.length - 1 - (intOf i).toNat)
                  case atStart => exact ⟨0, Nat.zero_le _, rfl, Fix.refl _ _⟩
                  case round =>
                    obtain ⟨v, hv, rfl, hfv⟩ := hrel
                    by_cases hlv : v < S.length - 1
                    · have hbv : decide ((v : Int) < ((S.length - 1 : Nat) : Int)) = true := by simp; omega
                      have hsrow := Hsv.out (by omega)
                      obtain ⟨wo, rfl⟩ : ∃ wo : World, wo = wr := ⟨_, rfl⟩
                      go_wp2
                      go_loopw [23] (fun i wr => ∃ j : Nat, j ≤ src.length ∧ i = .int .i64 j ∧ Fix (fun _ => True) w14 wr) (fun i _ => src.length - (intOf i).toNat)
                      case atStart => exact ⟨0, Nat.zero_le _, rfl, hfv⟩
                      case round =>
                        clear hfv
                        obtain ⟨j, hj, rfl, hfv⟩ := hrel
                        by_cases hlj : j < src.length
                        · obtain ⟨b2, o2, hb2, rfl, hc2⟩ := Z2.at (by omega)
                          have y2 := (hfv.cell (p := ⟨b2, o2 + j, none⟩) trivial).trans (hc2 j hlj)
                          have hr := Hpre.out.rng j hlj
                          have hd := HRd.out v j hlv hlj
                          have hcn := HRoots.out.conn v (nth src j).toNat (by have := HRl.out; omega) (by have := HRl.out; omega)
                          obtain ⟨x, hx⟩ : ∃ x : Nat, nth src j = x := ⟨(nth src j).toNat, by omega⟩
                          rw [hx] at y2 hr
                          rw [hx, Int.toNat_natCast] at hd hcn
                          have hxR : x < R.length := by have := HRl.out; omega
                          have hvR : v < R.length := by have := HRl.out; omega
                          have y3 := (hfv.cell (p := ⟨rb, v, none⟩) trivial).trans (hRrow.cell v hvR)
                          have y4 := (hfv.cell (p := ⟨rb, x, none⟩) trivial).trans (hRrow.cell x hxR)
                          have y5 := (hfv.cell (p := ⟨gb + 1, v, none⟩) trivial).trans (hsrow.cell v (by rw [Hsl.out]; exact hlv))
                          have hg := tb_shr (nth seen v) (Hws.out v) j (by omega)
                          have q1 : (v : Int) < R.length := by omega
                          have q2 : (x : Int) < R.length := by omega
                          have q3 : (j : Int) < src.length := by omega
                          have HCR : Hid (nth R v = nth R x ↔ tb (nth seen v) j = true) := ⟨fun h => hd.2 (hcn.1 h), fun h => hcn.2 (hd.1 h)⟩
                          clear hc2 hd hcn hx Z2 hRrow hsrow
                          have hw1 : (nth R v == nth R x) = tb (nth seen v) j := by rw [Bool.eq_iff_iff, beq_iff_eq]; exact HCR.out
                          clear HCR
                          cases hbt : tb (nth seen v) j
                          all_goals
                            rw [hbt] at hg hw1
                            clear hbt
                            go_wp2
                            go_quiet (fail)
                            go_wp2
                            go_roundw
                            case rel => exact ⟨j + 1, by omega, by go_num, hfv.drewN _⟩
                            case measure => simp [intOf]; omega
                        · clear hsrow
                          go_wp2
                          go_roundw
                          case rel => exact ⟨v + 1, by omega, by go_num, hfv⟩
                          case measure => simp [intOf]; omega
                    · go_wp2
                      go_ret
                      exact ⟨rfl, Hf14.out.trans (hfv.mono fun _ _ => trivial)⟩
      · have hmB : decide ((src.length : Int) < 64) = false := by simp; omega
        have hmB2 : decide (src.length < 64) = false := by simp; omega
        have Hm : Hid (¬ src.length < 64) := hm0
        clear hm0
        go_wp2
        obtain ⟨all, hall⟩ : ∃ all : Int, all = 18446744073709551615 := ⟨_, rfl⟩
        rw [← hall]
        have Hall : Hid (∀ i, i < src.length → tb all i = true) := by rw [hall]; exact fun i hi => all_64 i (by omega)
        clear hall
        clear hmk en
        have hfs : Fix (fun b => b < gb + 1) w9 ((w9.alloc (.cells (madeCells #[.int .u64 0] (S.length - 1)) 47)).alloc (.cells (madeCells #[.int .u64 0] (S.length - 1)) 47)) := ((Fix.refl _ _).alloc (fun k hk => by omega) _).alloc (fun k hk => by simp; omega) _
        have hr1 : IRow ((w9.alloc (.cells (madeCells #[.int .u64 0] (S.length - 1)) 47)).alloc (.cells (madeCells #[.int .u64 0] (S.length - 1)) 47)) (gb + 1) 47 .u64 (List.replicate (S.length - 1) 0) := by
          have := IRow.made w9 (S.length - 1) 47 .u64
          rw [hs9] at this
          exact Row.alloc this _
        have hr2 : IRow ((w9.alloc (.cells (madeCells #[.int .u64 0] (S.length - 1)) 47)).alloc (.cells (madeCells #[.int .u64 0] (S.length - 1)) 47)) (gb + 1 + 1) 47 .u64 (List.replicate (S.length - 1) 0) := by
          have := IRow.made (w9.alloc (.cells (madeCells #[.int .u64 0] (S.length - 1)) 47)) (S.length - 1) 47 .u64
          simp only [World.size_alloc, hs9] at this
          exact this
        go_loopw [12] (fun i wr => ∃ (k : Nat) (xs : List Int), k ≤ src.length ∧ i = .int .i64 k ∧ Fix (fun b => b < gb + 1) w9 wr ∧ SrcIn src (S.length - 1) k xs ∧ IRow wr (gb + 1) 47 .u64 xs ∧ IRow wr (gb + 1 + 1) 47 .u64 xs) (fun i _ => src.length - (intOf i).toNat)
        case atStart => exact ⟨0, _, Nat.zero_le _, rfl, hfs, SrcIn.zero src _, hr1, hr2⟩
        case round =>
          clear hfs hr1 hr2
          obtain ⟨k, xs, hk, rfl, hfx, hSI, hrs, hrf⟩ := hrel
          by_cases hlt : k < src.length
          · obtain ⟨b2, o2, hb2, rfl, hc2⟩ := W2.at (by omega)
            have y2 := (hfx.cell (p := ⟨b2, o2 + k, none⟩) (by show b2 < gb + 1; omega)).trans (hc2 k hlt)
            have hr := Hpre.out.rng k hlt
            have hxl := hSI.len
            have hSI' := hSI.step (by omega) (by omega : (nth src k).toNat < S.length - 1)
            obtain ⟨x, hx⟩ : ∃ x : Nat, nth src k = x := ⟨(nth src k).toNat, by omega⟩
            rw [hx] at y2 hr
            rw [hx, Int.toNat_natCast] at hSI'
            have hxn : x < S.length - 1 := by omega
            have z1 := hrs.cell x (by omega)
            have f1 := hrs.frozen x
            have z2 : (wr.setCell ⟨gb + 1, x, none⟩ (.int .u64 (bits .or .u64 (nth xs x) (IntKind.u64.wrap (2 ^ k))))).cell? ⟨gb + 1 + 1, x, none⟩ = some (.int .u64 (nth xs x)) := (World.cell?_of_block (a := ⟨gb + 1 + 1, x, none⟩) (Below.heap_setCell wr ⟨gb + 1, x, none⟩ _ (gb + 1 + 1) (by simp))).trans (hrf.cell x (by omega))
            have f2 : (wr.setCell ⟨gb + 1, x, none⟩ (.int .u64 (bits .or .u64 (nth xs x) (IntKind.u64.wrap (2 ^ k))))).frozen? ⟨gb + 1 + 1, x, none⟩ = false := (World.frozen?_of_block (a := ⟨gb + 1 + 1, x, none⟩) (Below.heap_setCell wr ⟨gb + 1, x, none⟩ _ (gb + 1 + 1) (by simp))).trans (hrf.frozen x)
            have hrs' := Row.setOther (p := ⟨gb + 1 + 1, x, none⟩) (hrs.set x (bits .or .u64 (nth xs x) (IntKind.u64.wrap (2 ^ k)))) (by simp) (.int .u64 (bits .or .u64 (nth xs x) (IntKind.u64.wrap (2 ^ k))))
            have hrf' := IRow.set (Row.setOther (p := ⟨gb + 1, x, none⟩) hrf (by simp) (.int .u64 (bits .or .u64 (nth xs x) (IntKind.u64.wrap (2 ^ k))))) x (bits .or .u64 (nth xs x) (IntKind.u64.wrap (2 ^ k)))
            have hfx' := (hfx.setCell (p := ⟨gb + 1, x, none⟩) (by simp) (.int .u64 (bits .or .u64 (nth xs x) (IntKind.u64.wrap (2 ^ k))))).setCell (p := ⟨gb + 1 + 1, x, none⟩) (by show ¬ gb + 1 + 1 < gb + 1; omega) (.int .u64 (bits .or .u64 (nth xs x) (IntKind.u64.wrap (2 ^ k))))
            clear hc2 hrs hrf hfx hSI hxl hx W0 W1 W2 hG9
            go_wp2
            go_roundw
            case rel => exact ⟨k + 1, _, by omega, by go_num, hfx', hSI', hrs', hrf'⟩
            case measure => simp [intOf]; omega
          · obtain rfl : k = src.length := by omega
            have hR0 : Rounds S A src (S.length - 1) 0 xs xs := hSI.rounds (fun i hi => by have := Hpre.out.rng i hi; omega)
            obtain ⟨w10, rfl⟩ : ∃ w10 : World, w10 = wr := ⟨_, rfl⟩
            have hmk := run_make_row' (P := Try.prog) 46 47 (.int .u64 0) 8 Try.underlying46 (by kernel_rfl) rfl .i64 .i64 (S.length - 1) (by omega) (by omega)
            clear hSI
            go_wp2
            go_loopw [11, 15, 16] (fun fv dv rv wr => ∃ (r : Nat) (dn : Bool) (fb : Nat) (seen fr : List Int), rv = .int .i64 r ∧ dv = .bool dn ∧ fv = .slice (some ⟨fb, 0, none⟩) (S.length - 1) (S.length - 1) ∧ gb + 1 < fb ∧ fb < wr.heap.size ∧ r ≤ S.length ∧ Fix (fun b => b < gb + 1) w9 wr ∧ Rounds S A src (S.length - 1) r seen fr ∧ (0 < S.length - 1 → IRow wr (gb + 1) 47 .u64 seen ∧ IRow wr fb 47 .u64 fr) ∧ Hid (dn = true → ∀ v, v < S.length - 1 → nth fr v = 0) ∧ Hid (dn = false → r = 0 ∨ r + 1 ≤ S.length - 1))
              (fun _ _ rv _ => S.length + 1 - (intOf rv).toNat)
            case atStart => exact ⟨0, false, gb + 1 + 1, xs, xs, rfl, rfl, rfl, by omega, Row.lt hrf, by omega, hfx, hR0, fun _ => ⟨hrs, hrf⟩, (fun h => by cases h), fun _ => .inl rfl⟩
            case round =>
              clear hfx hR0 hrs hrf
              obtain ⟨r, dn, fb, seen, fr, rfl, rfl, rfl, hfb, hfl, hrS, hfx, hR, hrw, hdt, hdf⟩ := hrel
              have Hrw : Hid _ := hrw
              clear hrw
              cases dn with
              | false =>
                have hrn : r ≤ S.length - 1 := by have := hdf.out rfl; omega
                have hrn' : (r : Int) ≤ ((S.length - 1 : Nat) : Int) := by omega
                have hsx := hfx.size
                have hZ : ZIn (fun b => b < gb + 1 ∨ b = fb) (wr.alloc (.cells (madeCells #[.int .u64 0] (S.length - 1)) 47)) gb (gb + 1) wr.heap.size (some ⟨gb + 1, 0, none⟩) (some ⟨fb, 0, none⟩) (some ⟨wr.heap.size, 0, none⟩) S A seen fr (List.replicate (S.length - 1) 0) all := by
                  have hfa : Fix (fun b => b < wr.heap.size) wr (wr.alloc (.cells (madeCells #[.int .u64 0] (S.length - 1)) 47)) := (Fix.refl _ _).alloc (fun k hk => hk) _
                  refine ⟨?_, ?_, by rw [hR.sl]; omega, by rw [hR.fl, hR.sl], by rw [hR.sl]; simp, fun h0 => ⟨rfl, Row.alloc (Hrw.out (by rw [hR.sl] at h0; exact h0)).1 _⟩, fun _ => ⟨rfl, IRow.made _ _ _ _⟩, ?_, by omega, by omega, by omega, by simp; omega, by simp, hR.ws, ?_⟩
                  · exact (hG9.fix (hfx.mono fun b hb => by omega)).fix (hfa.mono fun b hb => by omega) |>.weaken fun b hb => .inl (by omega)
                  · intro b hb; simp; omega
                  · by_cases h0 : 0 < S.length - 1
                    · exact IRow.view (Row.alloc (Hrw.out h0).2 _) (.inr rfl)
                    · left; apply List.length_eq_zero_iff.1; rw [hR.fl]; omega
                  · intro v i hi
                    by_cases hv : v < S.length - 1
                    · exact Hall.out i ((hR.sound v hv i (hR.sub v i hi)).1)
                    · rw [nth_out fr v (by rw [hR.fl]; omega), tb_zero] at hi; cases hi
                have hz := zzgather_any (sc := S.length - 1) (fc := S.length - 1) (nc := S.length - 1) hZ
                have hRn := hR.next Hpre.out.csr Hpre.out.sym (by omega)
                rw [hR.sl] at hz
                have Hz : Hid _ := hz
                have hsl := hR.sl
                have Hsl : Hid (seen.length = S.length - 1) := hsl
                clear hz hZ hR hsl hdt hdf
                go_wp2_with fail
                refine Calls.mono Hz.out ?_
                rintro e w12 ⟨rfl, hf12, hs12, hrows⟩
                rw [Hsl.out] at hrows
                simp only [World.size_alloc] at hs12
                rw [Hsl.out]
                have hfx2 : Fix (fun b => b < gb + 1) w9 w12 := (hfx.alloc (fun k hk => by omega) (.cells (madeCells #[.int .u64 0] (S.length - 1)) 47)).trans (hf12.mono fun b hb => .inl hb)
                have Hrows : Hid _ := hrows
                clear hmk hfx hf12 hrows Hz hG9 W0 W1 W2 Hrw
                go_wp2
                go_roundw
                case rel =>
                  refine ⟨r + 1, reachTo S A seen fr (S.length - 1) == 0, wr.heap.size, _, _, by go_num, rfl, rfl, by omega, by omega, by omega, hfx2, hRn, Hrows.out, fun hd v hv => ?_, fun hd => ?_⟩
                  · rw [listOf_nth _ _ _ hv]
                    exact reach_zero (by simpa using hd) v hv
                  · right
                    obtain ⟨v, i, hv, hb⟩ := reach_some (S := S) (A := A) (seen := seen) (fr := fr) (n := S.length - 1) (by simpa using hd)
                    exact hRn.bound hv (by rw [listOf_nth _ _ _ hv]; exact hb)
                case measure => simp [intOf]; omega
              | true =>
                clear hmk
                have hz := hdt.out rfl
                have hRd := fun v i hv hi => hR.done Hpre.out.csr Hpre.out.sym (by omega) hz v i hv hi
                have HRd : Hid _ := hRd
                have hsl := hR.sl
                have Hsl : Hid (seen.length = S.length - 1) := hsl
                have hws := hR.ws
                have Hws : Hid _ := hws
                have hsx := hfx.size
                have Y0 := (W0.fix (hfx.mono fun b hb => by omega))
                have Y1 := (W1.fix (hfx.mono fun b hb => by omega))
                have Y2 := (W2.fix (hfx.mono fun b hb => by omega))
                have hrt := roots_any (fun b => b < gb) sa2 aa2 S.length A.length S A wr Hpre.out.csr (by omega) (by omega) (fun b hb => by omega) Y0 Y1
                have Hrt : Hid _ := hrt
                clear hz hRd hsl hws hR hdt hdf W0 W1 W2 hG9 Y0 Y1 hrt
                by_cases hrn : r ≤ S.length - 1
                · have hb1 : decide ((r : Int) ≤ ((S.length - 1 : Nat) : Int)) = true := by simp; omega
                  have hb2 : decide (r ≤ S.length - 1) = true := by simp; omega
                  have hb3 : (r : Int) ≤ ((S.length - 1 : Nat) : Int) := by omega
                  go_wp2_with fail
                  clear hb2 hb3 hrn
                  refine Calls.mono Hrt.out ?_
                  rintro e w14 ⟨rb, R, hrb, rfl, hRoots, hRrow, hf14⟩
                  have hRl := hRoots.len
                  have HRl : Hid (R.length + 1 = S.length) := hRl
                  have hRl1 : S.length - 1 ≤ R.length := by omega
                  have Z2 := (Y2.fix (hf14.mono fun b hb => by omega))
                  have hsv : 0 < S.length - 1 → IRow w14 (gb + 1) 47 .u64 seen := fun h0 => Row.fix (Hrw.out h0).1 hf14 (by omega)
                  have Hsv : Hid _ := hsv
                  have HRoots : Hid _ := hRoots
                  have Hf14 : Hid (Fix (fun b => b < w'.heap.size) w' w14) := ((Hf9.out.trans (hfx.mono fun b hb => by omega)).trans (hf14.mono fun b hb => by omega))
                  clear hRl hsv hRoots hf14 hfx Hrt Y2 Hrw hb1
                  go_wp2
                  go_loopw [22] (fun i wr => ∃ v : Nat, v ≤ S.length - 1 ∧ i = .int .i64 v ∧ Fix (fun _ => True) w14 wr) (fun i _ => S.length - 1 - (intOf i).toNat)
                  case atStart => exact ⟨0, Nat.zero_le _, rfl, Fix.refl _ _⟩
                  case round =>
                    obtain ⟨v, hv, rfl, hfv⟩ := hrel
                    by_cases hlv : v < S.length - 1
                    · have hbv : decide ((v : Int) < ((S.length - 1 : Nat) : Int)) = true := by simp; omega
                      have hsrow := Hsv.out (by omega)
                      obtain ⟨wo, rfl⟩ : ∃ wo : World, wo = wr := ⟨_, rfl⟩
                      go_wp2
                      go_loopw [23] (fun i wr => ∃ j : Nat, j ≤ src.length ∧ i = .int .i64 j ∧ Fix (fun _ => True) w14 wr) (fun i _ => src.length - (intOf i).toNat)
                      case atStart => exact ⟨0, Nat.zero_le _, rfl, hfv⟩
                      case round =>
                        clear hfv
                        obtain ⟨j, hj, rfl, hfv⟩ := hrel
                        by_cases hlj : j < src.length
                        · obtain ⟨b2, o2, hb2, rfl, hc2⟩ := Z2.at (by omega)
                          have y2 := (hfv.cell (p := ⟨b2, o2 + j, none⟩) trivial).trans (hc2 j hlj)
                          have hr := Hpre.out.rng j hlj
                          have hd := HRd.out v j hlv hlj
                          have hcn := HRoots.out.conn v (nth src j).toNat (by have := HRl.out; omega) (by have := HRl.out; omega)
                          obtain ⟨x, hx⟩ : ∃ x : Nat, nth src j = x := ⟨(nth src j).toNat, by omega⟩
                          rw [hx] at y2 hr
                          rw [hx, Int.toNat_natCast] at hd hcn
                          have hxR : x < R.length := by have := HRl.out; omega
                          have hvR : v < R.length := by have := HRl.out; omega
                          have y3 := (hfv.cell (p := ⟨rb, v, none⟩) trivial).trans (hRrow.cell v hvR)
                          have y4 := (hfv.cell (p := ⟨rb, x, none⟩) trivial).trans (hRrow.cell x hxR)
                          have y5 := (hfv.cell (p := ⟨gb + 1, v, none⟩) trivial).trans (hsrow.cell v (by rw [Hsl.out]; exact hlv))
                          have hg := tb_shr (nth seen v) (Hws.out v) j (by omega)
                          have q1 : (v : Int) < R.length := by omega
                          have q2 : (x : Int) < R.length := by omega
                          have q3 : (j : Int) < src.length := by omega
                          have HCR : Hid (nth R v = nth R x ↔ tb (nth seen v) j = true) := ⟨fun h => hd.2 (hcn.1 h), fun h => hcn.2 (hd.1 h)⟩
                          clear hc2 hd hcn hx Z2 hRrow hsrow
                          have hw1 : (nth R v == nth R x) = tb (nth seen v) j := by rw [Bool.eq_iff_iff, beq_iff_eq]; exact HCR.out
                          clear HCR
                          cases hbt : tb (nth seen v) j
                          all_goals
                            rw [hbt] at hg hw1
                            clear hbt
                            go_wp2
                            go_quiet (fail)
                            go_wp2
                            go_roundw
                            case rel => exact ⟨j + 1, by omega, by go_num, hfv.drewN _⟩
                            case measure => simp [intOf]; omega
                        · clear hsrow
                          go_wp2
                          go_roundw
                          case rel => exact ⟨v + 1, by omega, by go_num, hfv⟩
                          case measure => simp [intOf]; omega
                    · go_wp2
                      go_ret
                      exact ⟨rfl, Hf14.out.trans (hfv.mono fun _ _ => trivial)⟩
                · have hb1 : decide ((r : Int) ≤ ((S.length - 1 : Nat) : Int)) = false := by simp; omega
                  have hb2 : decide (r ≤ S.length - 1) = false := by simp; omega
                  have hb3 : ¬ (r : Int) ≤ ((S.length - 1 : Nat) : Int) := by omega
                  go_wp2_with fail
                  clear hb2 hb3 hrn
                  refine Calls.mono Hrt.out ?_
                  rintro e w14 ⟨rb, R, hrb, rfl, hRoots, hRrow, hf14⟩
                  have hRl := hRoots.len
                  have HRl : Hid (R.length + 1 = S.length) := hRl
                  have hRl1 : S.length - 1 ≤ R.length := by omega
                  have Z2 := (Y2.fix (hf14.mono fun b hb => by omega))
                  have hsv : 0 < S.length - 1 → IRow w14 (gb + 1) 47 .u64 seen := fun h0 => Row.fix (Hrw.out h0).1 hf14 (by omega)
                  have Hsv : Hid _ := hsv
                  have HRoots : Hid _ := hRoots
                  have Hf14 : Hid (Fix (fun b => b < w'.heap.size) w' w14) := ((Hf9.out.trans (hfx.mono fun b hb => by omega)).trans (hf14.mono fun b hb => by omega))
                  clear hRl hsv hRoots hf14 hfx Hrt Y2 Hrw hb1
                  go_wp2
                  go_loopw [22] (fun i wr => ∃ v : Nat, v ≤ S.length - 1 ∧ i = .int .i64 v ∧ Fix (fun _ => True) w14 wr) (fun i _ => S.length - 1 - (intOf i).toNat)
                  case atStart => exact ⟨0, Nat.zero_le _, rfl, Fix.refl _ _⟩
                  case round =>
                    obtain ⟨v, hv, rfl, hfv⟩ := hrel
                    by_cases hlv : v < S.length - 1
                    · have hbv : decide ((v : Int) < ((S.length - 1 : Nat) : Int)) = true := by simp; omega
                      have hsrow := Hsv.out (by omega)
                      obtain ⟨wo, rfl⟩ : ∃ wo : World, wo = wr := ⟨_, rfl⟩
                      go_wp2
                      go_loopw [23] (fun i wr => ∃ j : Nat, j ≤ src.length ∧ i = .int .i64 j ∧ Fix (fun _ => True) w14 wr) (fun i _ => src.length - (intOf i).toNat)
                      case atStart => exact ⟨0, Nat.zero_le _, rfl, hfv⟩
                      case round =>
                        clear hfv
                        obtain ⟨j, hj, rfl, hfv⟩ := hrel
                        by_cases hlj : j < src.length
                        · obtain ⟨b2, o2, hb2, rfl, hc2⟩ := Z2.at (by omega)
                          have y2 := (hfv.cell (p := ⟨b2, o2 + j, none⟩) trivial).trans (hc2 j hlj)
                          have hr := Hpre.out.rng j hlj
                          have hd := HRd.out v j hlv hlj
                          have hcn := HRoots.out.conn v (nth src j).toNat (by have := HRl.out; omega) (by have := HRl.out; omega)
                          obtain ⟨x, hx⟩ : ∃ x : Nat, nth src j = x := ⟨(nth src j).toNat, by omega⟩
                          rw [hx] at y2 hr
                          rw [hx, Int.toNat_natCast] at hd hcn
                          have hxR : x < R.length := by have := HRl.out; omega
                          have hvR : v < R.length := by have := HRl.out; omega
                          have y3 := (hfv.cell (p := ⟨rb, v, none⟩) trivial).trans (hRrow.cell v hvR)
                          have y4 := (hfv.cell (p := ⟨rb, x, none⟩) trivial).trans (hRrow.cell x hxR)
                          have y5 := (hfv.cell (p := ⟨gb + 1, v, none⟩) trivial).trans (hsrow.cell v (by rw [Hsl.out]; exact hlv))
                          have hg := tb_shr (nth seen v) (Hws.out v) j (by omega)
                          have q1 : (v : Int) < R.length := by omega
                          have q2 : (x : Int) < R.length := by omega
                          have q3 : (j : Int) < src.length := by omega
                          have HCR : Hid (nth R v = nth R x ↔ tb (nth seen v) j = true) := ⟨fun h => hd.2 (hcn.1 h), fun h => hcn.2 (hd.1 h)⟩
                          clear hc2 hd hcn hx Z2 hRrow hsrow
                          have hw1 : (nth R v == nth R x) = tb (nth seen v) j := by rw [Bool.eq_iff_iff, beq_iff_eq]; exact HCR.out
                          clear HCR
                          cases hbt : tb (nth seen v) j
                          all_goals
                            rw [hbt] at hg hw1
                            clear hbt
                            go_wp2
                            go_quiet (fail)
                            go_wp2
                            go_roundw
                            case rel => exact ⟨j + 1, by omega, by go_num, hfv.drewN _⟩
                            case measure => simp [intOf]; omega
                        · clear hsrow
                          go_wp2
                          go_roundw
                          case rel => exact ⟨v + 1, by omega, by go_num, hfv⟩
                          case measure => simp [intOf]; omega
                    · go_wp2
                      go_ret
                      exact ⟨rfl, Hf14.out.trans (hfv.mono fun _ _ => trivial)⟩

end Go.Proofs.Qxb6605187a
