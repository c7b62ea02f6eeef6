import Derived.Test.Qxb6605187aLawKit
import Derived.Test.Qxb6605187aClones
import Derived.Test.Qxb6605187aWalkZ
import Derived.Test.Qxb6605187aWalkR
import Derived.Test.Qxb6605187aWalkD
import Derived.Test.Qxb6605187aLaw6Plain
namespace Go.Proofs.Qxb6605187a
open Go.RowKit
set_option linter.unusedVariables false

set_option maxHeartbeats 400000 in
theorem bytes24 (a0 a1 : Option Addr) (n0 n1 c0 c1 : Nat) (z : Int) (w : World) (h0 : n0 ≤ maxLen) (h1 : n1 ≤ maxLen) :
    Calls Try.prog 24 #[.slice a0 n0 c0, .slice a1 n1 c1, .int .i64 z] w (SomeBool w) := by
  unfold maxLen at *
  go_enter Try.func24, Try.ntmps24
  go_wp2
  all_goals
    go_ret
    exact SomeBool.mk _

theorem nth_zeros6 (m i : Nat) : nth (List.replicate m 0) i = 0 := by
  unfold nth
  rw [List.getD_eq_getElem?_getD, List.getElem?_replicate]
  split <;> rfl

theorem gat_up {U V : Nat → Prop} {w w' : World} {p : Nat} {S A : List Int} (h : GAt U w p S A) (hf : Fix U w w') (hUV : ∀ b, U b → V b) : GAt V w' p S A := by
  obtain ⟨h1, sa, sc, aa, ac, e0, e1, e2, e3, u0, u1⟩ := h
  exact ⟨hUV _ h1, sa, sc, aa, ac, (hf.cell (p := ⟨p, 0, none⟩) h1).trans e0, (hf.cell (p := ⟨p, 1, none⟩) h1).trans e1, e2, e3, (u0.fix hf).weaken hUV, (u1.fix hf).weaken hUV⟩
theorem glist_at {U : Nat → Prop} {w : World} {a : Option Addr} {gs : List (List Int × List Int)} (h : GList U w a gs) (i : Nat) (hi : i < gs.length) : ∃ b off p, U b ∧ a = some ⟨b, off, none⟩ ∧ w.cell? ⟨b, off + i, none⟩ = some (.pointer (some ⟨p, 0, none⟩)) ∧ GAt U w p gs[i].1 gs[i].2 := by
  rcases h with h | ⟨b, off, hb, ha, hc⟩
  · rw [h] at hi; exact absurd hi (Nat.not_lt_zero _)
  · obtain ⟨p, hp, hg⟩ := hc i hi
    exact ⟨b, off, p, hb, ha, hp, hg⟩
theorem gat_graph {U : Nat → Prop} {w : World} {p : Nat} {S A : List Int} (h : GAt U w p S A) (hcsr : Csr S A) (hS : S.length ≤ 70000) (hA : A.length ≤ 70000) : Graph U w p S A := ⟨hcsr, hS, hA, h.1, hcsr.wf hS, h.2⟩

set_option maxHeartbeats 4000000 in
set_option maxRecDepth 100000 in
theorem law6 (sa aa : Option Addr) (sc ac : Nat) (S A : List Int) (size : Int) (w : World)
    (m0 : S.length ≤ maxLen) (m1 : A.length ≤ maxLen) (hw : Wf32 A) (hsz2 : -9223372036854775808 ≤ size ∧ size ≤ 9223372036854775807)
    (v0 : View (fun b => b < w.heap.size) w .i64 sa S) (v1 : View (fun b => b < w.heap.size) w .i32 aa A) :
    Calls Try.prog 6 #[.slice sa S.length sc, .slice aa A.length ac, .int .i64 size] w (LawPost w) := by
  go_enter Try.func6, Try.ntmps6
  go_wp2_with fail
  refine (bytes24 _ _ _ _ _ _ _ _ m0 m1).mono ?_
  rintro e w' ⟨b, rfl, rfl⟩
  unfold maxLen at m0 m1
  cases b with
  | false =>
    go_wp2
    go_ret
    exact ⟨rfl, Fix.refl _ _⟩
  | true =>
    by_cases t0 : 32768 < S.length
    · go_wp2
      go_ret
      exact ⟨rfl, Fix.refl _ _⟩
    by_cases t1 : 65536 < A.length
    · go_wp2
      go_ret
      exact ⟨rfl, Fix.refl _ _⟩
    go_wp2_with fail
    refine (csr_any _ sa aa sc ac S A _ (by omega) (by omega) v0 v1 hw).mono ?_
    rintro e w1 ⟨b, rfl, hb, hf1⟩
    cases b with
    | false =>
      go_wp2
      go_ret
      exact ⟨rfl, hf1.mono fun _ _ => trivial⟩
    | true =>
      have hcsr := hb rfl
      have hf1' : Fix (fun b => b < w'.heap.size) w' w1 := hf1.mono fun _ _ => trivial
      replace v0 := v0.up hf1'
      replace v1 := v1.up hf1'
      clear hb hf1
      go_wp2_with fail
      refine (und_any _ sa aa sc ac S A _ hcsr (by omega) (by omega) v0 v1).mono ?_
      rintro e w1b ⟨b, rfl, hb, hf1b⟩
      have hf1b' : Fix (fun b => b < w1.heap.size) w1 w1b := hf1b.mono fun _ _ => trivial
      replace hf1' := hf1'.up hf1b'
      cases b with
      | false =>
        go_wp2
        go_ret
        exact ⟨rfl, hf1'⟩
      | true =>
        have hsym : Sym S A := hb rfl
        replace v0 := v0.up hf1b'
        replace v1 := v1.up hf1b'
        have Hsym : Hid (Sym S A) := hsym
        have Hcsr : Hid (Csr S A) := hcsr
        have Hf : Hid _ := hf1'
        have hl1 := hcsr.len
        obtain ⟨n, hn⟩ : ∃ n, n + 1 = S.length := ⟨S.length - 1, by omega⟩
        have Hn : Hid (n + 1 = S.length) := hn
        have hn1 : n + 1 ≤ S.length := by omega
        have hn2 : S.length ≤ n + 1 := by omega
        have en : (S.length : Int) - 1 = (n : Int) := by omega
        have hrt := roots_any _ sa aa sc ac S A w1b hcsr (by omega) (by omega) (fun b hb => hb) v0 v1
        have Hrt : Hid _ := hrt
        have hmk := run_make_row' (P := Try.prog) 22 3 (.int .i64 0) 8 Try.underlying22 (by kernel_rfl) rfl .i64 .i64 n (by omega) (by omega)
        clear hb hsym hf1b hf1' hcsr hn hrt hf1b'
        go_wp2_with fail
        refine Calls.mono Hrt.out ?_
        rintro e w2 ⟨rb, R, hrb, rfl, hR, rR, hf2⟩
        have hRl : R.length = n := by have := hR.len; have := Hn.out; omega
        have HRl : Hid (R.length = n) := hRl
        have HR : Hid (Roots S A R) := hR
        have Hf2 : Hid _ := Hf.out.up hf2
        replace v0 := v0.up hf2
        replace v1 := v1.up hf2
        obtain ⟨B, hB⟩ : ∃ B, w2.heap.size = B := ⟨_, rfl⟩
        have HB : Hid (w2.heap.size = B) := hB
        have hrbB : rb < B := by have := Row.lt rR; omega
        rw [hB] at v0 v1
        rw [hRl]
        clear hR hRl Hf hf2 Hrt
        go_wp2
        clear en hmk
        go_loopw [10] (fun i wr => ∃ (k : Nat) (H : List Int), k ≤ n ∧ i = .int .i64 k ∧ Fix (fun b => b < B) w2 wr ∧ wr.heap.size = B + 1 ∧ IRow wr B 3 .i64 H ∧ Hid (H.length = n ∧ ∀ c : Nat, c < n → nth H c = cntTo R c k)) (fun i _ => n - (intOf i).toNat)
        case atStart =>
          refine ⟨0, List.replicate n 0, Nat.zero_le _, rfl, (Fix.refl _ _).alloc (fun k hk => by omega) _, by simp [HB.out], ?_, by simp, fun c hc => by rw [nth_zeros6]; rfl⟩
          have := IRow.made w2 n 3 .i64
          rw [HB.out] at this
          exact this
        case round =>
          obtain ⟨k, H, hk, rfl, hfx, hws, hrow, hH⟩ := hrel
          by_cases hlt : k < n
          · have y := (hfx.cell (p := ⟨rb, k, none⟩) hrbB).trans (rR.cell k (by rw [HRl.out]; exact hlt))
            have hr := HR.out.rng k (by rw [HRl.out]; exact hlt)
            have hrl : nth R k < n := by have := HRl.out; omega
            obtain ⟨r, hr2⟩ : ∃ r : Nat, nth R k = r := ⟨(nth R k).toNat, by omega⟩
            rw [hr2] at y hrl
            have z := hrow.cell r (by rw [hH.out.1]; omega)
            have fz := hrow.frozen r
            have hrn : r < n := by omega
            rw [hH.out.2 r hrn] at z
            have hle := cntTo_le R r k
            have hrow' := hrow.set r ((cntTo R r k : Int) + 1)
            have hfx' := hfx.setCell (p := ⟨B, r, none⟩) (by simp) (.int .i64 ((cntTo R r k : Int) + 1))
            have hH' : Hid ((H.set r ((cntTo R r k : Int) + 1)).length = n ∧ ∀ c : Nat, c < n → nth (H.set r ((cntTo R r k : Int) + 1)) c = cntTo R c (k + 1)) := by
              refine ⟨by simpa using hH.out.1, fun c hc => ?_⟩
              rw [nth_set _ _ _ _ (by rw [hH.out.1]; exact hrn), cntTo_next R c k r hr2]
              by_cases e : c = r
              · rw [if_pos e, if_pos e, e]
              · rw [if_neg e, if_neg e, hH.out.2 c hc]; omega
            clear hr hr2 hH hrow hfx v0 v1 hB
            go_wp2
            go_roundw
            case rel => exact ⟨k + 1, _, by omega, by go_num, hfx', by simpa using hws, hrow', hH'.out⟩
            case measure => simp [intOf]; omega
          · obtain rfl : k = n := by omega
            obtain ⟨w3, rfl⟩ : ∃ w3 : World, w3 = wr := ⟨_, rfl⟩
            have hH2 : Hid (∀ c : Nat, c < k → nth H c = cntTo R c R.length) := by rw [HRl.out]; exact hH.out.2
            have HHl : Hid (H.length = k) := hH.out.1
            clear hH hlt hk
            go_wp2
            go_loopw [11, 12] (fun pv iv wr => ∃ v : Nat, v ≤ k ∧ iv = .int .i64 v ∧ pv = .int .i64 (pcTo R size v : Nat) ∧ wr = w3) (fun _ iv _ => k - (intOf iv).toNat)
            case atStart => exact ⟨0, Nat.zero_le _, rfl, rfl, rfl⟩
            case round =>
              obtain ⟨v, hv, rfl, rfl, rfl⟩ := hrel
              have hple := pcTo_le R size v
              by_cases hlt : v < k
              · have y := (hfx.cell (p := ⟨rb, v, none⟩) hrbB).trans (rR.cell v (by rw [HRl.out]; exact hlt))
                have z := hrow.cell v (by rw [HHl.out]; exact hlt)
                rw [hH2.out v hlt] at z
                by_cases e1 : nth R v = v
                · have e1' : (nth R v == (v : Int)) = true := beq_iff_eq.2 e1
                  by_cases e2 : (cntTo R v R.length : Int) = size
                  · have e2' : ((cntTo R v R.length : Int) == size) = true := beq_iff_eq.2 e2
                    have hp := pcTo_yes R size v e1 e2
                    have Hp : Hid _ := hp
                    clear e1 e2 hp
                    go_wp2
                    go_roundw
                    case rel => exact ⟨v + 1, by omega, by go_num, by rw [Hp.out]; go_num, by first | rfl | trivial⟩
                    case measure => simp [intOf]; omega
                  · have e2' : ((cntTo R v R.length : Int) == size) = false := beq_eq_false_iff_ne.2 e2
                    have hp := pcTo_no R size v (fun h => e2 h.2)
                    have Hp : Hid _ := hp
                    clear e1 e2 hp
                    go_wp2
                    go_roundw
                    case rel => exact ⟨v + 1, by omega, by go_num, by rw [Hp.out], by first | rfl | trivial⟩
                    case measure => simp [intOf]; omega
                · have e1' : (nth R v == (v : Int)) = false := beq_eq_false_iff_ne.2 e1
                  have hp := pcTo_no R size v (fun h => e1 h.1)
                  have Hp : Hid _ := hp
                  clear e1 hp
                  go_wp2
                  go_roundw
                  case rel => exact ⟨v + 1, by omega, by go_num, by rw [Hp.out], by first | rfl | trivial⟩
                  case measure => simp [intOf]; omega
              · obtain rfl : v = k := by omega
                obtain ⟨pn, hpn⟩ : ∃ pn, pn = pcTo R size v := ⟨_, rfl⟩
                have Hpn : Hid (pn = pcTo R size R.length) := by rw [HRl.out]; exact hpn
                rw [← hpn] at hple ⊢
                replace v0 := (v0.fix hfx).weaken (V := fun b => b < wr.heap.size) fun b hb => by omega
                replace v1 := (v1.fix hfx).weaken (V := fun b => b < wr.heap.size) fun b hb => by omega
                have Hf3 : Hid (Fix (fun b => b < w'.heap.size) w' wr) := Hf2.out.up (hfx.mono fun b hb => by rw [HB.out] at hb; exact hb)
                clear hpn hfx hrow hH2 HHl Hf2 hB HB rR hws hlt hv
                by_cases hbad : size = v ∧ pn ≠ 1
                · have e1 : (size == (v : Int)) = true := beq_iff_eq.2 hbad.1
                  have e2 : ((pn : Int) != 1) = true := by have := hbad.2; simp; omega
                  clear hbad
                  go_wp2
                  go_ret
                  exact ⟨rfl, Hf3.out⟩
                · have hsel : (size == (v : Int)) = false ∨ ((size == (v : Int)) = true ∧ ((pn : Int) != 1) = false) := by
                    by_cases h1 : size = v
                    · refine .inr ⟨beq_iff_eq.2 h1, ?_⟩
                      by_cases h2 : pn = 1
                      · rw [h2]; rfl
                      · exact absurd ⟨h1, h2⟩ hbad
                    · exact .inl (beq_eq_false_iff_ne.2 h1)
                  have Hone : Hid (size + 1 = S.length → pcTo R size R.length = 1) := by
                    intro h
                    rw [← Hpn.out]
                    by_cases h2 : pn = 1
                    · exact h2
                    · exact absurd ⟨by have := Hn.out; omega, h2⟩ hbad
                  clear hbad
                  rcases hsel with hs' | ⟨hs', hp'⟩
                  all_goals
                    go_wp2_with fail
                    refine (clone11 _ sa sc S _ (by omega) v0 (fun k hk => hk)).mono ?_
                    rintro e w4 ⟨sa2, rfl, o0, hf⟩
                    have Hf4 : Hid _ := Hf3.out.up hf
                    have V0 := o0.view (fun b => b < w4.heap.size) (fun b _ h => h)
                    replace v1 := v1.up hf
                    clear v0 o0 Hf3 hf
                    go_wp2_with fail
                    refine (clone12 _ aa ac A _ (by omega) v1 (fun k hk => hk)).mono ?_
                    rintro e w5 ⟨aa2, rfl, o1, hf⟩
                    have Hf5 : Hid _ := Hf4.out.up hf
                    have V1 := o1.view (fun b => b < w5.heap.size) (fun b _ h => h)
                    replace V0 := V0.up hf
                    clear v1 o1 Hf4 hf
                    go_wp2_with fail
                    refine (graph_any sa2 aa2 S.length S.length A.length A.length _).mono ?_
                    rintro e w6 ⟨rfl, hw6⟩
                    have hf6 : Fix (fun b => b < w5.heap.size) w5 w6 := by rw [hw6]; exact (Fix.refl _ _).alloc (fun k hk => hk) _
                    have hs6 : w6.heap.size = w5.heap.size + 1 := by rw [hw6]; simp
                    have hG6 : Graph (fun b => b < w6.heap.size) w6 w5.heap.size S A := by
                      rw [hs6, hw6]
                      exact (graph_made Hcsr.out (by omega) (by omega) hw (fun b hb => hb) V0 V1).weaken fun b hb => by omega
                    have Hf6 : Hid _ := Hf5.out.up hf6
                    obtain ⟨gb, hgb⟩ : ∃ gb, gb = w5.heap.size := ⟨_, rfl⟩
                    rw [← hgb] at hG6 ⊢
                    clear Hf5 hf6 hw6 hs6 hgb V0 V1
                    have Hc1 : Hid _ := comps_any hG6 Hsym.out
                    go_wp2_with fail
                    refine Calls.mono Hc1.out ?_
                    rintro e w7 ⟨of, sizes, oa, za, oc, zc, rfl, hcc, hsl, vof, vsz, hf7⟩
                    have Hcc : Hid (CC S A of sizes) := hcc
                    have Hf7 : Hid _ := Hf6.out.up hf7
                    have hG7 := (hG6.fix hf7).weaken (V := fun b => b < w7.heap.size) fun b hb => by have := hf7.size; omega
                    have Hz : Hid _ := zcomp_any (oc := oc) (zc := zc) size hG7 hcc.part (by omega) vof vsz hsz2
                    clear hcc hG6 hG7 vof vsz hf7 Hf6 Hc1
                    go_wp2_with fail
                    refine Calls.mono Hz.out ?_
                    rintro e w8 ⟨ka, kc, rfl, hf8, hgl⟩
                    have Hf8 : Hid _ := Hf7.out.up hf8
                    rw [subs_pieces Hcc.out HR.out Hone.out, ← Hpn.out]
                    have Hgl : Hid _ := hgl
                    clear hgl hf8 Hf7 Hz
                    go_wp2
                    go_loopw [15] (fun iv wr => ∃ i : Nat, i ≤ pn ∧ iv = .int .i64 i ∧ Fix (fun b => b < w8.heap.size) w8 wr) (fun iv _ => pn - (intOf iv).toNat)
                    case atStart => exact ⟨0, Nat.zero_le _, rfl, Fix.refl _ _⟩
                    case round =>
                      obtain ⟨i, hi, rfl, hfx⟩ := hrel
                      by_cases hlt : i < pn
                      · have hil : i < (subsOf S A of sizes size).length := by rw [subs_pieces Hcc.out HR.out Hone.out, ← Hpn.out]; exact hlt
                        have hOK := subs_ok Hcc.out HR.out Hcsr.out Hsym.out Hone.out i hil
                        obtain ⟨bk, ok, p, hbk, rfl, hcell, hg⟩ := glist_at Hgl.out i hil
                        generalize (subsOf S A of sizes size)[i].1 = HS at hOK hg
                        generalize (subsOf S A of sizes size)[i].2 = HA at hOK hg
                        have hcell' := (hfx.cell (p := ⟨bk, ok + i, none⟩) hbk).trans hcell
                        have hGh := gat_graph (gat_up hg hfx fun b hb => by have := hfx.size; exact Nat.lt_of_lt_of_le hb this) hOK.csr (by have := hOK.hS; omega) (by have := hOK.hA; omega)
                        have hPe : Calls Try.prog 28 #[.pointer (some ⟨p, 0, none⟩)] wr fun e w' => e = .returned (.int .i64 size) ∧ w' = wr := by
                          obtain ⟨sa3, sc3, aa3, ac3, g0, g1, _⟩ := hGh.ex
                          have h1 := peers_any p HS.length sc3 sa3 wr (by have := hOK.hS; omega) g0
                          have h2 : (HS.length : Int) - 1 = size := by have := hOK.len; omega
                          rw [h2] at h1
                          exact h1
                        have HPe : Hid _ := hPe
                        have Hc2 : Hid _ := comps_any hGh hOK.sym
                        have HOK : Hid (SubOK S A size HS HA) := hOK
                        clear hcell hg hil hPe hGh hOK
                        go_wp2_with fail
                        refine Calls.mono HPe.out ?_
                        rintro e w9 ⟨rfl, rfl⟩
                        go_wp2_with fail
                        refine Calls.mono Hc2.out ?_
                        rintro e w10 ⟨of', sizes', oa', za', oc', zc', rfl, hcc', hsl', vof', vsz', hf10⟩
                        have hone := HOK.out.one hcc'
                        have Hf10 : Hid (Fix (fun b => b < w8.heap.size) w8 w10) := hfx.up hf10
                        obtain ⟨bz, oz, hbz, rfl, hcz⟩ := vsz'.at (by omega)
                        have z0 := hcz 0 (by omega)
                        rw [Nat.add_zero, hone.2] at z0
                        have z1 : (w10.alloc (.cells #[.slice oa' of'.length oc', .slice (some ⟨bz, oz, none⟩) 1 zc'] 40)).cell? ⟨bz, oz, none⟩ = some (.int .i64 size) := (World.cell?_of_block (a := ⟨bz, oz, none⟩) (Below.heap_alloc _ _ _ hbz)).trans z0
                        rw [hone.1]
                        clear hcc' hsl' vof' vsz' hf10 hone hcz z0 hfx Hc2 HPe hcell'
                        go_wp2
                        go_roundw
                        case rel => exact ⟨i + 1, by omega, by go_num, Hf10.out.alloc (fun b hb => by have := Hf10.out.size; omega) _⟩
                        case measure => simp [intOf]; omega
                      · go_wp2
                        go_ret
                        exact ⟨rfl, Hf8.out.up hfx⟩
end Go.Proofs.Qxb6605187a
