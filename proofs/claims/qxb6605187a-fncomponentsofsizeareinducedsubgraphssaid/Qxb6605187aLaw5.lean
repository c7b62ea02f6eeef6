import Derived.Test.Qxb6605187aLawKit
import Derived.Test.Qxb6605187aClones
import Derived.Test.Qxb6605187aWalkZ
import Derived.Test.Qxb6605187aIndPlain
import Derived.BigRegion
namespace Go.Proofs.Qxb6605187a
open Go.RowKit
set_option linter.unusedVariables false

set_option maxHeartbeats 400000 in
theorem bytes19 (a0 a1 a2 a3 : Option Addr) (n0 n1 n2 n3 c0 c1 c2 c3 : Nat) (z : Int) (w : World) (h0 : n0 ≤ maxLen) (h1 : n1 ≤ maxLen) (h2 : n2 ≤ maxLen) (h3 : n3 ≤ maxLen) :
    Calls Try.prog 19 #[.slice a0 n0 c0, .slice a1 n1 c1, .slice a2 n2 c2, .slice a3 n3 c3, .int .i64 z] w (SomeBool w) := by
  unfold maxLen at *
  go_enter Try.func19, Try.ntmps19
  go_wp2
  all_goals
    go_ret
    exact SomeBool.mk _

theorem nth_zeros (m i : Nat) : nth (List.replicate m 0) i = 0 := by
  unfold nth
  rw [List.getD_eq_getElem?_getD, List.getElem?_replicate]
  split <;> rfl

/-- the row of members behind k peers, and how far each class is filled -/
structure FillInv (of : List Int) (m k : Nat) (F X : List Int) : Prop where
  fl : F.length = m
  xl : X.length = of.length
  fill : ∀ c, c < m → nth F c = cntTo of c k
  mem : MInv of m k X
theorem FillInv.zero (of : List Int) (m : Nat) : FillInv of m 0 (List.replicate m 0) (List.replicate of.length 0) :=
  ⟨by simp, by simp, fun c hc => by simp [nth, hc, cntTo], MInv.zero _ _ _⟩
theorem FillInv.step {S A of sizes : List Int} (hP : Part S A of sizes) {k c : Nat} {F X : List Int} (h : FillInv of sizes.length k F X) (hk : k < of.length) (hc : nth of k = c) :
    FillInv of sizes.length (k + 1) (F.set c (nth F c + 1)) (X.set (offN of of.length c + cntTo of c k) k) := by
  have hcm := (member_lt hP k c hk hc).1
  refine ⟨by simpa using h.fl, by simpa using h.xl, fun d hd => ?_, h.mem.step hP h.xl hk hc⟩
  rw [nth_set _ _ _ _ (by rw [h.fl]; exact hcm), cntTo_next of d k c hc]
  by_cases e : d = c
  · rw [if_pos e, if_pos e, e, h.fill c hcm]
  · rw [if_neg e, if_neg e, h.fill d hd]; omega

theorem gat_up {U V : Nat → Prop} {w w' : World} {p : Nat} {S A : List Int} (h : GAt U w p S A) (hf : Fix U w w') (hUV : ∀ b, U b → V b) : GAt V w' p S A := by
  obtain ⟨h1, sa, sc, aa, ac, e0, e1, e2, e3, u0, u1⟩ := h
  exact ⟨hUV _ h1, sa, sc, aa, ac, (hf.cell (p := ⟨p, 0, none⟩) h1).trans e0, (hf.cell (p := ⟨p, 1, none⟩) h1).trans e1, e2, e3, (u0.fix hf).weaken hUV, (u1.fix hf).weaken hUV⟩
theorem glist_up {w7 w9 : World} {B : Nat} {a : Option Addr} {gs : List (List Int × List Int)} (h : GList (fun b => b < w7.heap.size) w7 a gs) (hf : Fix (fun b => b < B) w7 w9) (hB : w7.heap.size = B) : GList (fun b => b < B) w9 a gs := by
  rw [hB] at h
  rcases h with h | ⟨b, off, hb, ha, hc⟩
  · exact .inl h
  · refine .inr ⟨b, off, hb, ha, fun i hi => ?_⟩
    obtain ⟨p, hp, hg⟩ := hc i hi
    exact ⟨p, (hf.cell (p := ⟨b, off + i, none⟩) hb).trans hp, gat_up hg hf fun _ h => h⟩

/-- the call of isInducedOn, and what it reads -/
theorem law5_call {D B : Nat} {w9 wr : World} {sa2 aa2 ka : Option Addr} {S A of sizes X F : List Int} {gs : List (List Int × List Int)} (hcsr : Csr S A) (hP : Part S A of sizes) (hS : S.length ≤ 70000) (hA : A.length ≤ 70000) (hBD : B + 1 + 1 < D)
    (V0 : View (fun b => b < B) w9 .i64 sa2 S) (V1 : View (fun b => b < B) w9 .i32 aa2 A) (hFI : FillInv of sizes.length of.length F X) (r2 : IRow w9 (B + 1 + 1) 21 .i32 X) (c : Nat) (hc : c < sizes.length)
    (hgl : GList (fun b => b < B) w9 ka gs) (hfx : Fix (fun b => b < D) w9 wr) (kl : Nat) (hk : kl < gs.length) (hI : Induced S A (mbTo of c of.length) gs[kl].1 gs[kl].2) (hAl : gs[kl].2.length ≤ A.length) :
    ∃ b off p, b < B ∧ ka = some ⟨b, off, none⟩ ∧ w9.cell? ⟨b, off + kl, none⟩ = some (.pointer (some ⟨p, 0, none⟩)) ∧
      ∀ W, Fix (fun b => b < D) w9 W → ∀ n cm, Calls Try.prog 23 #[.slice sa2 S.length S.length, .slice aa2 A.length A.length, .slice (some ⟨B + 1 + 1, offN of of.length c, none⟩) (offN of of.length (c + 1) - offN of of.length c) cm, .pointer (some ⟨p, 0, none⟩)] (W.drewN n) (YesDrew (W.drewN n)) := by
  rcases hgl with h | ⟨b, off, hb, ha, hcs⟩
  · rw [h] at hk; exact absurd hk (Nat.not_lt_zero _)
  · obtain ⟨p, hp, hg⟩ := hcs kl hk
    refine ⟨b, off, p, hb, ha, hp, fun W hW n cm => ?_⟩
    have hf2 : Fix (fun b => b < B) w9 (W.drewN n) := (hW.mono fun b hb => by omega).drewN n
    have e : offN of of.length (c + 1) - offN of of.length c = (mbTo of c of.length).length := by rw [offN, mbTo_len]; omega
    rw [e]
    refine ind_any _ _ _ _ _ _ S A _ _ _ p _ hcsr hS hA ?_ (by omega) hI ((V0.fix hf2).weaken fun _ _ => trivial) ((V1.fix hf2).weaken fun _ _ => trivial) ?_ (gat_up hg hf2 fun _ _ => trivial)
    · have := cntTo_le of c of.length
      have := hP.len
      rw [mbTo_len]; omega
    · refine .inr ⟨B + 1 + 1, offN of of.length c, trivial, rfl, fun i hi => ?_⟩
      rw [mbTo_len] at hi
      have hx : offN of of.length c + i < X.length := by
        have h1 := offN_all of of.length sizes.length hP.rng
        have h2 := offN_mono of of.length (c + 1) sizes.length (by omega)
        rw [offN] at h2
        rw [hFI.xl]; omega
      rw [← hFI.mem c hc i hi]
      exact ((hW.drewN n).cell (p := ⟨B + 1 + 1, offN of of.length c + i, none⟩) (show B + 1 + 1 < D by omega)).trans (r2.cell _ hx)

set_option maxHeartbeats 4000000 in
set_option maxRecDepth 100000 in
theorem law5 (sa aa oa za : Option Addr) (sc ac oc zc : Nat) (S A of sizes : List Int) (size : Int) (w : World)
    (m0 : S.length ≤ maxLen) (m1 : A.length ≤ maxLen) (m2 : of.length ≤ maxLen) (m3 : sizes.length ≤ maxLen) (hw : Wf32 A) (hsz2 : -9223372036854775808 ≤ size ∧ size ≤ 9223372036854775807)
    (v0 : View (fun b => b < w.heap.size) w .i64 sa S) (v1 : View (fun b => b < w.heap.size) w .i32 aa A) (v2 : View (fun b => b < w.heap.size) w .i64 oa of) (v3 : View (fun b => b < w.heap.size) w .i64 za sizes) :
    Calls Try.prog 5 #[.slice sa S.length sc, .slice aa A.length ac, .slice oa of.length oc, .slice za sizes.length zc, .int .i64 size] w (LawPost w) := by
  go_enter Try.func5, Try.ntmps5
  go_wp2_with fail
  refine (bytes19 _ _ _ _ _ _ _ _ _ _ _ _ _ _ m0 m1 m2 m3).mono ?_
  rintro e w' ⟨b, rfl, rfl⟩
  unfold maxLen at m0 m1 m2 m3
  cases b with
  | false =>
    go_wp2
    go_ret
    exact ⟨rfl, Fix.refl _ _⟩
  | true =>
    by_cases t0 : 32768 < S.length
    · go_wp2
      go_ret
      exact ⟨rfl, Fix.refl _ _⟩
    by_cases t1 : 65536 < A.length
    · go_wp2
      go_ret
      exact ⟨rfl, Fix.refl _ _⟩
    by_cases t2 : 32768 < of.length
    · go_wp2
      go_ret
      exact ⟨rfl, Fix.refl _ _⟩
    by_cases t3 : 16384 < sizes.length
    · go_wp2
      go_ret
      exact ⟨rfl, Fix.refl _ _⟩
    go_wp2_with fail
    refine (csr_any _ sa aa sc ac S A _ (by omega) (by omega) v0 v1 hw).mono ?_
    rintro e w1 ⟨b, rfl, hb, hf1⟩
    cases b with
    | false =>
      go_wp2
      go_ret
      exact ⟨rfl, hf1.mono fun _ _ => trivial⟩
    | true =>
      have hcsr := hb rfl
      have hf1' : Fix (fun b => b < w'.heap.size) w' w1 := hf1.mono fun _ _ => trivial
      replace v0 := v0.up hf1'
      replace v1 := v1.up hf1'
      replace v2 := v2.up hf1'
      replace v3 := v3.up hf1'
      clear hb hf1
      go_wp2_with fail
      refine (part_any sa aa oa za sc ac oc zc S A of sizes size _ hcsr (by omega) (by omega) (by omega) v0 v1 v2 v3).mono ?_
      rintro e w1b ⟨b, rfl, hb, hf1b⟩
      replace hf1' := hf1'.up hf1b
      cases b with
      | false =>
        go_wp2
        go_ret
        exact ⟨rfl, hf1'⟩
      | true =>
        have hP := hb rfl
        replace v0 := v0.up hf1b
        replace v1 := v1.up hf1b
        replace v2 := v2.up hf1b
        replace v3 := v3.up hf1b
        have HP : Hid (PartOK S A of sizes size) := hP
        have Hcsr : Hid (Csr S A) := hcsr
        have Hf : Hid _ := hf1'
        have hl1 := hcsr.len
        clear hb hP hf1b hf1' hcsr
        go_wp2_with fail
        refine (clone11 _ sa sc S _ (by omega) v0 (fun k hk => hk)).mono ?_
        rintro e w2 ⟨sa2, rfl, o0, hf⟩
        have Hf2 : Hid _ := Hf.out.up hf
        have V0 := o0.view (fun b => b < w2.heap.size) (fun b _ h => h)
        replace v1 := v1.up hf
        replace v2 := v2.up hf
        replace v3 := v3.up hf
        clear v0 o0 Hf hf
        go_wp2_with fail
        refine (clone12 _ aa ac A _ (by omega) v1 (fun k hk => hk)).mono ?_
        rintro e w3 ⟨aa2, rfl, o1, hf⟩
        have Hf3 : Hid _ := Hf2.out.up hf
        have V1 := o1.view (fun b => b < w3.heap.size) (fun b _ h => h)
        replace V0 := V0.up hf
        replace v2 := v2.up hf
        replace v3 := v3.up hf
        clear v1 o1 Hf2 hf
        go_wp2_with fail
        refine (clone11 _ oa oc of _ (by omega) v2 (fun k hk => hk)).mono ?_
        rintro e w4 ⟨oa2, rfl, o2, hf⟩
        have Hf4 : Hid _ := Hf3.out.up hf
        have V2 := o2.view (fun b => b < w4.heap.size) (fun b _ h => h)
        replace V0 := V0.up hf
        replace V1 := V1.up hf
        replace v3 := v3.up hf
        clear v2 o2 Hf3 hf
        go_wp2_with fail
        refine (clone11 _ za zc sizes _ (by omega) v3 (fun k hk => hk)).mono ?_
        rintro e w5 ⟨za2, rfl, o3, hf⟩
        have Hf5 : Hid _ := Hf4.out.up hf
        have V3 := o3.view (fun b => b < w5.heap.size) (fun b _ h => h)
        replace V0 := V0.up hf
        replace V1 := V1.up hf
        replace V2 := V2.up hf
        clear v3 o3 Hf4 hf
        go_wp2_with fail
        refine (graph_any sa2 aa2 S.length S.length A.length A.length _).mono ?_
        rintro e w6 ⟨rfl, hw6⟩
        have hf6 : Fix (fun b => b < w5.heap.size) w5 w6 := by rw [hw6]; exact (Fix.refl _ _).alloc (fun k hk => hk) _
        have hs6 : w6.heap.size = w5.heap.size + 1 := by rw [hw6]; simp
        have hG6 : Graph (fun b => b < w6.heap.size) w6 w5.heap.size S A := by
          rw [hs6, hw6]
          exact (graph_made Hcsr.out (by omega) (by omega) hw (fun b hb => hb) V0 V1).weaken fun b hb => by omega
        have Hf6 : Hid _ := Hf5.out.up hf6
        replace V0 := V0.up hf6
        replace V1 := V1.up hf6
        replace V2 := V2.up hf6
        replace V3 := V3.up hf6
        obtain ⟨gb, hgb⟩ : ∃ gb, gb = w5.heap.size := ⟨_, rfl⟩
        rw [← hgb] at hG6 ⊢
        clear Hf5 hf6 hw6 hs6 hgb
        have hz := zcomp_any (oc := of.length) (zc := sizes.length) size hG6 HP.out.part (by omega) V2 V3 hsz2
        have Hz : Hid _ := hz
        clear hz hG6
        go_wp2_with fail
        refine Calls.mono Hz.out ?_
        rintro e w7 ⟨ka, kc, rfl, hf7, hgl⟩
        have Hf7 : Hid _ := Hf6.out.up hf7
        replace V0 := V0.up hf7
        replace V1 := V1.up hf7
        replace V2 := V2.up hf7
        replace V3 := V3.up hf7
        have Hgl : Hid _ := hgl
        clear Hf6 hf7 hgl Hz
        obtain ⟨B, hB⟩ : ∃ B, w7.heap.size = B := ⟨_, rfl⟩
        rw [hB] at V0 V1 V2 V3
        have HB : Hid (w7.heap.size = B) := hB
        have hPl := HP.out.part.len
        have en : (S.length : Int) - 1 = (of.length : Int) := by omega
        have Hpl : Hid (of.length + 1 = S.length) := hPl
        have hln1 : of.length + 1 ≤ S.length := by omega
        have hln2 : S.length ≤ of.length + 1 := by omega
        clear hPl
        obtain ⟨nk, hnk⟩ : ∃ nk, nk = (subsOf S A of sizes size).length := ⟨_, rfl⟩
        have Hnk : Hid (nk = (subsOf S A of sizes size).length) := hnk
        have hnk2 : nk ≤ of.length := by rw [hnk, subs_len HP.out]; exact keptTo_len _ _ _ _
        rw [← hnk]
        clear hnk
        obtain ⟨mm, hmm⟩ : ∃ mm, mm = sizes.length + 1 := ⟨_, rfl⟩
        have em : (sizes.length : Int) + 1 = (mm : Int) := by omega
        have hmm2 : sizes.length < mm := by omega
        have hmm3 : mm ≤ 16385 := by omega
        clear hmm
        have hmk := run_make_row' (P := Try.prog) 22 3 (.int .i64 0) 8 Try.underlying22 (by kernel_rfl) rfl .i64 .i64 mm (by omega) (by omega)
        go_wp2
        clear em hmk
        go_loopw [15] (fun i wr => ∃ (k : Nat) (O : List Int), k ≤ sizes.length ∧ i = .int .i64 k ∧ Fix (fun b => b < B) w7 wr ∧ O.length = mm ∧ wr.heap.size = B + 1 ∧ IRow wr B 3 .i64 O ∧ Hid (∀ d, d ≤ k → nth O d = offN of of.length d)) (fun i _ => sizes.length - (intOf i).toNat)
        case atStart =>
          refine ⟨0, List.replicate mm 0, Nat.zero_le _, rfl, (Fix.refl _ _).alloc (fun k hk => by omega) _, by simp, by simp [HB.out], ?_, fun d hd => ?_⟩
          · have := IRow.made w7 mm 3 .i64
            rw [HB.out] at this
            exact this
          · rw [show d = 0 by omega, nth_zeros]; rfl
        case round =>
          obtain ⟨k, O, hk, rfl, hfx, hOl, hws, hrow, hO⟩ := hrel
          by_cases hlt : k < sizes.length
          · obtain ⟨b3, o3, hb3, rfl, hc3⟩ := V3.at (by omega)
            have y3 := (hfx.cell (p := ⟨b3, o3 + k, none⟩) hb3).trans (hc3 k hlt)
            rw [HP.out.part.cnt k hlt] at y3
            have z0 := hrow.cell k (by omega)
            rw [hO.out k (Nat.le_refl _)] at z0
            have z1 := hrow.cell (k + 1) (by omega)
            have fz := hrow.frozen (k + 1)
            have hoff := offN_all of of.length sizes.length HP.out.part.rng
            have hmo := offN_mono of of.length (k + 1) sizes.length (by omega)
            rw [hoff, offN] at hmo
            have hrow' := hrow.set (k + 1) ((offN of of.length k : Int) + (cntTo of k of.length : Int))
            have hfx' := hfx.setCell (p := ⟨B, k + 1, none⟩) (by simp) (.int .i64 ((offN of of.length k : Int) + (cntTo of k of.length : Int)))
            have hO' : Hid (∀ d, d ≤ k + 1 → nth (O.set (k + 1) ((offN of of.length k : Int) + (cntTo of k of.length : Int))) d = offN of of.length d) := by
              intro d hd
              rw [nth_set _ _ _ _ (by omega)]
              by_cases e : d = k + 1
              · rw [if_pos e, e, offN]; omega
              · rw [if_neg e]; exact hO.out d (by omega)
            have hOl' : Hid ((O.set (k + 1) ((offN of of.length k : Int) + (cntTo of k of.length : Int))).length = mm) := by unfold Hid; simpa using hOl
            have i1 : (k : Int) < (mm : Int) := by omega
            have i2 : (k : Int) + 1 < (mm : Int) := by omega
            have i3 : (k : Int) < (sizes.length : Int) := by omega
            clear hc3 hrow hfx hO hOl hoff V0 V1 V2 V3 hB
            go_wp2
            go_region
            go_wp2
            go_roundw
            case rel => exact ⟨k + 1, _, by omega, by go_num, hfx'.drewN _, hOl'.out, by simpa using hws, hrow'.drewN _, hO'.out⟩
            case measure => simp [intOf]; omega
          · obtain rfl : k = sizes.length := by omega
            obtain ⟨w8, rfl⟩ : ∃ w8 : World, w8 = wr := ⟨_, rfl⟩
            have hmk := run_make_row' (P := Try.prog) 22 3 (.int .i64 0) 8 Try.underlying22 (by kernel_rfl) rfl .i64 .i64 sizes.length (by omega) (by omega)
            have hmk2 := run_make_row' (P := Try.prog) 23 21 (.int .i32 0) 4 Try.underlying23 (by kernel_rfl) rfl .i64 .i64 of.length (by omega) (by omega)
            have r1 : IRow ((w8.alloc (.cells (madeCells #[.int .i64 0] sizes.length) 3)).alloc (.cells (madeCells #[.int .i32 0] of.length) 21)) (B + 1) 3 .i64 (List.replicate sizes.length 0) := by
              have := IRow.made w8 sizes.length 3 .i64
              rw [hws] at this
              exact Row.alloc this _
            have r2 : IRow ((w8.alloc (.cells (madeCells #[.int .i64 0] sizes.length) 3)).alloc (.cells (madeCells #[.int .i32 0] of.length) 21)) (B + 1 + 1) 21 .i32 (List.replicate of.length 0) := by
              have := IRow.made (w8.alloc (.cells (madeCells #[.int .i64 0] sizes.length) 3)) of.length 21 .i32
              simp only [World.size_alloc, hws] at this
              exact this
            have r0 : IRow ((w8.alloc (.cells (madeCells #[.int .i64 0] sizes.length) 3)).alloc (.cells (madeCells #[.int .i32 0] of.length) 21)) B 3 .i64 O := Row.alloc (Row.alloc hrow _) _
            have hfx2 : Fix (fun b => b < B) w7 ((w8.alloc (.cells (madeCells #[.int .i64 0] sizes.length) 3)).alloc (.cells (madeCells #[.int .i32 0] of.length) 21)) := (hfx.alloc (fun k hk => by omega) _).alloc (fun k hk => by simp; omega) _
            have hs2 : Hid (((w8.alloc (.cells (madeCells #[.int .i64 0] sizes.length) 3)).alloc (.cells (madeCells #[.int .i32 0] of.length) 21)).heap.size = B + 1 + 1 + 1) := by unfold Hid; simp [hws]
            clear hfx hrow
            go_wp2
            clear hmk hmk2 hws
            go_loopw [18] (fun i wr => ∃ (k : Nat) (F X : List Int), k ≤ of.length ∧ i = .int .i64 k ∧ Fix (fun b => b < B) w7 wr ∧ wr.heap.size = B + 1 + 1 + 1 ∧ FillInv of sizes.length k F X ∧ IRow wr B 3 .i64 O ∧ IRow wr (B + 1) 3 .i64 F ∧ IRow wr (B + 1 + 1) 21 .i32 X) (fun i _ => of.length - (intOf i).toNat)
            case atStart => exact ⟨0, _, _, Nat.zero_le _, rfl, hfx2, hs2.out, FillInv.zero _ _, r0, r1, r2⟩
            case round =>
              clear hfx2 hs2 r0 r1 r2 hlt hk
              obtain ⟨k, F, X, hk, rfl, hfx, hws, hFI, r0, r1, r2⟩ := hrel
              by_cases hlt : k < of.length
              · obtain ⟨b2, o2, hb2, rfl, hc2⟩ := V2.at (by omega)
                have y2 := (hfx.cell (p := ⟨b2, o2 + k, none⟩) hb2).trans (hc2 k hlt)
                have hr := HP.out.part.rng k hlt
                obtain ⟨c, hc⟩ : ∃ c : Nat, nth of k = c := ⟨(nth of k).toNat, by omega⟩
                have hml := member_lt HP.out.part k c hlt hc
                have hFI' := hFI.step HP.out.part hlt hc
                rw [hc] at y2
                have z0 := r0.cell c (by omega)
                rw [hO.out c (by omega)] at z0
                have z1 := r1.cell c (by rw [hFI.fl]; exact hml.1)
                rw [hFI.fill c hml.1] at z1 hFI'
                have hle := cntTo_le of c k
                obtain ⟨oc, hoc⟩ : ∃ oc, oc = offN of of.length c := ⟨_, rfl⟩
                obtain ⟨fc, hfc⟩ : ∃ fc, fc = cntTo of c k := ⟨_, rfl⟩
                rw [← hoc, ← hfc] at hml hFI'
                rw [← hoc] at z0
                rw [← hfc] at z1 hle
                have z2 := r2.cell (oc + fc) (by rw [hFI.xl]; exact hml.2)
                have f2 := r2.frozen (oc + fc)
                have z1' : (wr.drewN 1).setCell ⟨B + 1 + 1, oc + fc, none⟩ (.int .i32 (k : Int)) = (wr.drewN 1).setCell ⟨B + 1 + 1, oc + fc, none⟩ (.int .i32 (k : Int)) := rfl
                have r0' : ∀ d, IRow (((wr.setCell ⟨B + 1 + 1, oc + fc, none⟩ (.int .i32 (k : Int))).drewN d).setCell ⟨B + 1, c, none⟩ (.int .i64 ((fc : Int) + 1))) B 3 .i64 O := fun d => Row.setOther (Row.drewN (Row.setOther r0 (by simp; omega) _) d) (by simp) _
                have r1' : ∀ d, IRow (((wr.setCell ⟨B + 1 + 1, oc + fc, none⟩ (.int .i32 (k : Int))).drewN d).setCell ⟨B + 1, c, none⟩ (.int .i64 ((fc : Int) + 1))) (B + 1) 3 .i64 (F.set c ((fc : Int) + 1)) := fun d => IRow.set (Row.drewN (Row.setOther r1 (by simp) _) d) c _
                have r2' : ∀ d, IRow (((wr.setCell ⟨B + 1 + 1, oc + fc, none⟩ (.int .i32 (k : Int))).drewN d).setCell ⟨B + 1, c, none⟩ (.int .i64 ((fc : Int) + 1))) (B + 1 + 1) 21 .i32 (X.set (oc + fc) (k : Int)) := fun d => Row.setOther (Row.drewN (IRow.set r2 (oc + fc) (k : Int)) d) (by simp) _
                have x1 : ∀ d, ((wr.setCell ⟨B + 1 + 1, oc + fc, none⟩ (.int .i32 (k : Int))).drewN d).cell? ⟨B + 1, c, none⟩ = some (.int .i64 (fc : Int)) := fun d => (World.cell?_of_block (a := ⟨B + 1, c, none⟩) (Below.heap_setCell wr ⟨B + 1 + 1, oc + fc, none⟩ _ (B + 1) (by simp))).trans z1
                have g1 : ∀ d, ((wr.setCell ⟨B + 1 + 1, oc + fc, none⟩ (.int .i32 (k : Int))).drewN d).frozen? ⟨B + 1, c, none⟩ = false := fun d => (World.frozen?_of_block (a := ⟨B + 1, c, none⟩) (Below.heap_setCell wr ⟨B + 1 + 1, oc + fc, none⟩ _ (B + 1) (by simp))).trans (r1.frozen c)
                have hfx' : ∀ d, Fix (fun b => b < B) w7 (((wr.setCell ⟨B + 1 + 1, oc + fc, none⟩ (.int .i32 (k : Int))).drewN d).setCell ⟨B + 1, c, none⟩ (.int .i64 ((fc : Int) + 1))) := fun d => ((hfx.setCell (p := ⟨B + 1 + 1, oc + fc, none⟩) (by simp; omega) _).drewN d).setCell (p := ⟨B + 1, c, none⟩) (by simp) _
                have i1 : (c : Int) < (mm : Int) := by omega
                have i2 : (c : Int) < (sizes.length : Int) := by omega
                have i3 : (oc : Int) + (fc : Int) < (of.length : Int) := by omega
                have x1' := x1 0
                have g1' := g1 0
                rw [World.drewN_zero] at x1' g1'
                clear hc2 hc hfx hFI r0 r1 r2 hoc hfc z1' V0 V1 V2 V3 x1 g1 hr
                go_wp2
                go_region
                go_wp2
                go_roundw
                case rel => exact ⟨k + 1, _, _, by omega, by go_num, hfx' _, by simpa using hws, hFI', r0' _, r1' _, r2' _⟩
                case measure => simp [intOf]; omega
              · obtain rfl : k = of.length := by omega
                obtain ⟨w9, rfl⟩ : ∃ w9 : World, w9 = wr := ⟨_, rfl⟩
                obtain ⟨D, hD⟩ : ∃ D, D = B + 1 + 1 + 1 := ⟨_, rfl⟩
                rw [← hD] at hws
                have Hws : Hid (w9.heap.size = D) := hws
                have Hgl9 : Hid _ := glist_up Hgl.out hfx HB.out
                have HFI : Hid (FillInv of sizes.length of.length F X) := hFI
                replace V0 := V0.fix hfx
                replace V1 := V1.fix hfx
                replace V2 := V2.fix hfx
                replace V3 := V3.fix hfx
                have hBD : B + 1 + 1 < D := by omega
                have Hf9 : Hid _ := Hf7.out.up (hfx.mono fun b hb => by rw [HB.out] at hb; exact hb)
                have hmk := run_make_row' (P := Try.prog) 24 4 (.bool false) 1 Try.underlying24 (by kernel_rfl) rfl .i64 .i64 sizes.length (by omega) (by omega)
                have r3 : BRow (w9.alloc (.cells (madeCells #[.bool false] sizes.length) 4)) D (List.replicate sizes.length false) := by
                  have := BRow.made w9 sizes.length
                  rw [hws] at this
                  exact this
                have hfx2 : Fix (fun b => b < D) w9 (w9.alloc (.cells (madeCells #[.bool false] sizes.length) 4)) := (Fix.refl _ _).alloc (fun k hk => by omega) _
                clear hFI r1 hfx hD hlt hk Hgl Hf7
                go_wp2
                clear hmk hws
                go_loopw [21, 22] (fun kv vv wr => ∃ (v kl : Nat) (L : List Bool), v ≤ of.length ∧ vv = .int .i64 v ∧ kv = .int .i64 kl ∧ kl ≤ v ∧ Fix (fun b => b < D) w9 wr ∧ BRow wr D L ∧ Hid (kl = (keptTo of sizes size v).length ∧ L.length = sizes.length ∧ ∀ c : Nat, c < sizes.length → (nthB L c = true ↔ (c : Int) ∈ keptTo of sizes size v))) (fun _ vv _ => of.length - (intOf vv).toNat)
                case atStart => exact ⟨0, 0, _, Nat.zero_le _, rfl, rfl, Nat.zero_le _, hfx2, r3, rfl, by simp, fun c hc => by simp [nthB, hc, keptTo]⟩
                case round =>
                  clear hfx2 r3
                  obtain ⟨v, kl, L, hv, rfl, rfl, hkl, hfx, r3, hL⟩ := hrel
                  by_cases hlt : v < of.length
                  · obtain ⟨b2, o2, hb2, rfl, hc2⟩ := V2.at (by omega)
                    have y2 := (hfx.cell (p := ⟨b2, o2 + v, none⟩) (show b2 < D by omega)).trans (hc2 v hlt)
                    have hr := HP.out.part.rng v hlt
                    obtain ⟨c, hc⟩ : ∃ c : Nat, nth of v = c := ⟨(nth of v).toNat, by omega⟩
                    rw [hc] at y2 hr
                    have Hc : Hid (nth of v = c) := hc
                    have hcm : c < sizes.length := by omega
                    obtain ⟨b3, o3, hb3, rfl, hc3⟩ := V3.at (by omega)
                    have y3 := (hfx.cell (p := ⟨b3, o3 + c, none⟩) (show b3 < D by omega)).trans (hc3 c hcm)
                    clear hc hr hc2 hc3
                    by_cases hq : nth sizes c = size
                    · have Hq : Hid (nth sizes c = size) := hq
                      have hq' : (nth sizes c != size) = false := by simp [hq]
                      have y4 := r3.cell c (by rw [hL.out.2.1]; exact hcm)
                      have fz := r3.frozen c
                      have hqq : nth sizes (nth of v).toNat = size := by rw [Hc.out, Int.toNat_natCast]; exact hq
                      cases hlb : nthB L c with
                      | true =>
                        rw [hlb] at y4
                        have hin : nth of v ∈ keptTo of sizes size v := by rw [Hc.out]; exact (hL.out.2.2 c hcm).1 hlb
                        have hold := keptTo_old of sizes size v hin
                        have hL' : Hid (kl = (keptTo of sizes size (v + 1)).length ∧ L.length = sizes.length ∧ ∀ c : Nat, c < sizes.length → (nthB L c = true ↔ (c : Int) ∈ keptTo of sizes size (v + 1))) := by rw [hold]; exact hL.out
                        clear hq hold hin hL hlb fz hqq V0 V1 V2 V3
                        go_wp2
                        go_roundw
                        case rel => exact ⟨v + 1, kl, L, by omega, by go_num, rfl, by omega, hfx, r3, hL'.out⟩
                        case measure => simp [intOf]; omega
                      | false =>
                        rw [hlb] at y4
                        have hnin : nth of v ∉ keptTo of sizes size v := by
                          rw [Hc.out]
                          intro h
                          have := (hL.out.2.2 c hcm).2 h
                          rw [hlb] at this; cases this
                        have hnew := keptTo_new of sizes size v hqq hnin
                        have hL' : Hid (kl + 1 = (keptTo of sizes size (v + 1)).length ∧ (L.set c true).length = sizes.length ∧ ∀ d : Nat, d < sizes.length → (nthB (L.set c true) d = true ↔ (d : Int) ∈ keptTo of sizes size (v + 1))) := by
                          refine ⟨?_, by simpa using hL.out.2.1, fun d hd => ?_⟩
                          · rw [hnew, List.length_append, hL.out.1]; rfl
                          · rw [nthB_set _ _ _ _ (by rw [hL.out.2.1]; exact hcm), hnew, Hc.out, List.mem_append, List.mem_singleton]
                            by_cases e : d = c
                            · rw [if_pos e, e]; simp
                            · rw [if_neg e, hL.out.2.2 d hd]
                              constructor
                              · exact .inl
                              · rintro (h | h)
                                · exact h
                                · omega
                        obtain ⟨hkn, hInd, hAl⟩ := subs_at HP.out Hcsr.out v hlt hqq hnin
                        rw [← Hnk.out, ← hL.out.1] at hkn
                        have hcall := law5_call (D := D) (B := B) (w9 := w9) (wr := wr) (sa2 := sa2) (aa2 := aa2) Hcsr.out HP.out.part (by omega) (by omega) hBD V0 V1 HFI.out r2 c hcm Hgl9.out hfx kl (by rw [← Hnk.out]; exact hkn) (by have := hInd; simp only [← hL.out.1, Hc.out] at this; exact this) (by have := hAl; simp only [← hL.out.1] at this; exact this)
                        obtain ⟨bk, ok, p, hbk, rfl, hcell, hC⟩ := hcall
                        have f10 := hfx.setCell (p := ⟨D, c, none⟩) (by simp) (.bool true)
                        have HC := hC _ f10
                        have hmo := offN_mono of of.length (c + 1) sizes.length (by omega)
                        rw [offN_all of of.length sizes.length HP.out.part.rng] at hmo
                        have hmo2 := offN_mono of of.length c (c + 1) (by omega)
                        have z0 := (f10.cell (p := ⟨B, c, none⟩) (show B < D by omega)).trans (r0.cell c (by omega))
                        rw [hO.out c (by omega)] at z0
                        have z1 := (f10.cell (p := ⟨B, c + 1, none⟩) (show B < D by omega)).trans (r0.cell (c + 1) (by omega))
                        rw [hO.out (c + 1) (by omega)] at z1
                        have z2 := (f10.cell (p := ⟨bk, ok + kl, none⟩) (show bk < D by omega)).trans hcell
                        have r3' := BRow.set r3 c true
                        have i8 : ¬ of.length = offN of of.length c := by have := (member_lt HP.out.part v c hlt Hc.out).2; omega
                        generalize offN of of.length c = q0 at *
                        generalize offN of of.length (c + 1) = q1 at *
                        have HC : Hid (∀ n cm, Calls Try.prog 23 #[.slice sa2 S.length S.length, .slice aa2 A.length A.length, .slice (some ⟨B + 1 + 1, q0, none⟩) (q1 - q0) cm, .pointer (some ⟨p, 0, none⟩)] ((wr.setCell ⟨D, c, none⟩ (.bool true)).drewN n) (YesDrew ((wr.setCell ⟨D, c, none⟩ (.bool true)).drewN n))) := HC
                        have i1 : (c : Int) < (mm : Int) := by omega
                        have i2 : (c : Int) + 1 < (mm : Int) := by omega
                        have i3 : (kl : Int) < (nk : Int) := by omega
                        have i4 : decide ((nk : Int) ≤ (kl : Int)) = false := by simp; omega
                        have i4b : decide (nk ≤ kl) = false := by simp; omega
                        have i5 : (c : Int) < (sizes.length : Int) := by omega
                        have i6 : (q0 : Int) ≤ (q1 : Int) := by omega
                        have i7 : (q1 : Int) ≤ (of.length : Int) := by omega
                        clear hq hqq hlb hnin hnew hL hInd hAl hC hcell r3 hfx V0 V1 V2 V3 r0 r2
                        go_wp2
                        go_quiet ((go_at_call 23; exact Calls.quiet_of (HC.out _ _)))
                        go_wp2
                        go_roundw
                        case rel => exact ⟨v + 1, kl + 1, L.set c true, by omega, by go_num, by go_num, by omega, f10.drewN _, r3'.drewN _, hL'.out⟩
                        case measure => simp [intOf]; omega
                    · have hq' : (nth sizes c != size) = true := by simp [hq]
                      have hskip := keptTo_skip of sizes size v (by rw [Hc.out, Int.toNat_natCast]; exact hq)
                      have hL' : Hid (kl = (keptTo of sizes size (v + 1)).length ∧ L.length = sizes.length ∧ ∀ c : Nat, c < sizes.length → (nthB L c = true ↔ (c : Int) ∈ keptTo of sizes size (v + 1))) := by rw [hskip]; exact hL.out
                      clear hq hskip hL V0 V1 V2 V3
                      go_wp2
                      go_roundw
                      case rel => exact ⟨v + 1, kl, L, by omega, by go_num, rfl, by omega, hfx, r3, hL'.out⟩
                      case measure => simp [intOf]; omega
                  · obtain rfl : v = of.length := by omega
                    have hend : ((kl : Int) == (nk : Int)) = true := by
                      rw [Hnk.out, subs_len HP.out, hL.out.1]; exact beq_iff_eq.2 rfl
                    clear hL
                    go_wp2
                    go_ret
                    exact ⟨rfl, Hf9.out.trans (hfx.mono fun b hb => by have := Hf9.out.size; rw [Hws.out] at this; omega)⟩
end Go.Proofs.Qxb6605187a
