import Derived.Test.Qxb6605187aLawKit
import Derived.Test.Qxb6605187aClones
import Derived.Test.Qxb6605187aWalkH
import Derived.Test.Qxb6605187aPushPlain
namespace Go.Proofs.Qxb6605187a
open Go.RowKit
set_option linter.unusedVariables false

set_option maxHeartbeats 400000 in
theorem bytes29 (a0 a1 a2 a3 a4 : Option Addr) (n0 n1 n2 n3 n4 c0 c1 c2 c3 c4 : Nat) (c : Int) (w : World) (h0 : n0 ≤ maxLen) (h1 : n1 ≤ maxLen) (h2 : n2 ≤ maxLen) (h3 : n3 ≤ maxLen) (h4 : n4 ≤ maxLen) :
    Calls Try.prog 29 #[.slice a0 n0 c0, .slice a1 n1 c1, .slice a2 n2 c2, .slice a3 n3 c3, .slice a4 n4 c4, .int .u64 c] w (SomeBool w) := by
  unfold maxLen at *
  go_enter Try.func29, Try.ntmps29
  go_wp2
  all_goals
    go_ret
    exact SomeBool.mk _

theorem OwnI.rows {B : Nat} {w : World} {t : TypeId} {k : IntKind} {a : Option Addr} {xs : List Int} (h : OwnI B w t k a xs) (d : Nat) : ∃ b, (0 < xs.length → a = some ⟨b, 0, none⟩ ∧ IRow w b t k xs) ∧ ((B ≤ b ∧ b < w.heap.size) ∨ b = d) := by
  rcases h with h | ⟨nb, h1, h2, h3⟩
  · exact ⟨d, fun h0 => by rw [h] at h0; simp at h0, .inr rfl⟩
  · exact ⟨nb, fun _ => ⟨h2, h3⟩, .inl ⟨h1, Row.lt h3⟩⟩

theorem inside_all {xs : List Int} {all : Int} (h : ∀ v, v < xs.length → bits .andNot .u64 (nth xs v) all = 0) (i : Nat) : Inside (nth xs i) all := by
  by_cases hi : i < xs.length
  · exact inside_of_not (h i hi)
  · have e : nth xs i = 0 := by simp [nth, hi]
    rw [e]; exact inside_zero all

set_option maxHeartbeats 4000000 in
set_option maxRecDepth 100000 in
theorem law7 (sa aa ea fa na : Option Addr) (sc ac ec fc nc : Nat) (S A seen fr nx : List Int) (all : Int) (w : World)
    (m0 : S.length ≤ maxLen) (m1 : A.length ≤ maxLen) (m2 : seen.length ≤ maxLen) (m3 : fr.length ≤ maxLen) (m4 : nx.length ≤ maxLen) (hw : Wf32 A) (hws : ∀ i, W64 (nth seen i))
    (v0 : View (fun b => b < w.heap.size) w .i64 sa S) (v1 : View (fun b => b < w.heap.size) w .i32 aa A) (v2 : View (fun b => b < w.heap.size) w .u64 ea seen) (v3 : View (fun b => b < w.heap.size) w .u64 fa fr) (v4 : View (fun b => b < w.heap.size) w .u64 na nx) :
    Calls Try.prog 7 #[.slice sa S.length sc, .slice aa A.length ac, .slice ea seen.length ec, .slice fa fr.length fc, .slice na nx.length nc, .int .u64 all] w (LawPost w) := by
  go_enter Try.func7, Try.ntmps7
  go_wp2_with fail
  refine (bytes29 _ _ _ _ _ _ _ _ _ _ _ _ _ _ _ _ _ m0 m1 m2 m3 m4).mono ?_
  rintro e w' ⟨b, rfl, rfl⟩
  unfold maxLen at m0 m1 m2 m3 m4
  cases b with
  | false =>
    go_wp2
    go_ret
    exact ⟨rfl, Fix.refl _ _⟩
  | true =>
    by_cases t0 : 32768 < S.length
    · go_wp2
      go_ret
      exact ⟨rfl, Fix.refl _ _⟩
    by_cases t1 : 65536 < A.length
    · go_wp2
      go_ret
      exact ⟨rfl, Fix.refl _ _⟩
    by_cases t2 : 16384 < seen.length
    · go_wp2
      go_ret
      exact ⟨rfl, Fix.refl _ _⟩
    by_cases t3 : 16384 < fr.length
    · go_wp2
      go_ret
      exact ⟨rfl, Fix.refl _ _⟩
    by_cases t4 : 16384 < nx.length
    · go_wp2
      go_ret
      exact ⟨rfl, Fix.refl _ _⟩
    go_wp2_with fail
    refine (gpre_any _ sa aa ea fa na sc ac ec fc nc nx.length S A seen fr all _ (by omega) (by omega) (by omega) (by omega) (by omega) hw v0 v1 v2 v3).mono ?_
    rintro e w1 ⟨b, rfl, hb, hf1⟩
    cases b with
    | false =>
      go_wp2
      go_ret
      exact ⟨rfl, hf1.mono fun _ _ => trivial⟩
    | true =>
      have hpre := hb rfl
      have hf1' : Fix (fun b => b < w'.heap.size) w' w1 := hf1.mono fun _ _ => trivial
      replace v0 := v0.up hf1'
      replace v1 := v1.up hf1'
      replace v2 := v2.up hf1'
      replace v3 := v3.up hf1'
      replace v4 := v4.up hf1'
      have Hpre : Hid _ := hpre
      have Hf : Hid _ := hf1'
      clear hb hpre hf1 hf1'
      go_wp2_with fail
      refine (clone11 _ sa sc S _ (by omega) v0 (fun k hk => hk)).mono ?_
      rintro e w2 ⟨sa2, rfl, o0, hf⟩
      have Hf2 : Hid _ := Hf.out.up hf
      have V0 := o0.view (fun b => b < w2.heap.size) (fun b _ h => h)
      replace v1 := v1.up hf
      replace v2 := v2.up hf
      replace v3 := v3.up hf
      replace v4 := v4.up hf
      clear v0 o0 Hf hf
      go_wp2_with fail
      refine (clone12 _ aa ac A _ (by omega) v1 (fun k hk => hk)).mono ?_
      rintro e w3 ⟨aa2, rfl, o1, hf⟩
      have Hf3 : Hid _ := Hf2.out.up hf
      have V1 := o1.view (fun b => b < w3.heap.size) (fun b _ h => h)
      replace V0 := V0.up hf
      replace v2 := v2.up hf
      replace v3 := v3.up hf
      replace v4 := v4.up hf
      clear v1 o1 Hf2 hf
      go_wp2_with fail
      refine (clone31 _ ea ec seen _ (by omega) v2 (fun k hk => hk)).mono ?_
      rintro e w4 ⟨ea2, rfl, o2, hf⟩
      have Hf4 : Hid _ := Hf3.out.up hf
      have V2 := o2.view (fun b => b < w4.heap.size) (fun b _ h => h)
      replace V0 := V0.up hf
      replace V1 := V1.up hf
      replace v3 := v3.up hf
      replace v4 := v4.up hf
      clear v2 o2 Hf3 hf
      go_wp2_with fail
      refine (clone31 _ fa fc fr _ (by omega) v3 (fun k hk => hk)).mono ?_
      rintro e w5 ⟨fa2, rfl, o3, hf⟩
      have Hf5 : Hid _ := Hf4.out.up hf
      have V3 := o3.view (fun b => b < w5.heap.size) (fun b _ h => h)
      replace V0 := V0.up hf
      replace V1 := V1.up hf
      replace V2 := V2.up hf
      replace v4 := v4.up hf
      clear v3 o3 Hf4 hf
      go_wp2_with fail
      refine (clone31 _ na nc nx _ (by omega) v4 (fun k hk => hk)).mono ?_
      rintro e w6 ⟨na2, rfl, o4, hf⟩
      have Hf6 : Hid _ := Hf5.out.up hf
      have V4 := o4.view (fun b => b < w6.heap.size) (fun b _ h => h)
      replace V0 := V0.up hf
      replace V1 := V1.up hf
      replace V2 := V2.up hf
      replace V3 := V3.up hf
      clear v4 o4 Hf5 hf
      go_wp2_with fail
      refine (clone31 _ ea2 seen.length seen _ (by omega) V2 (fun k hk => hk)).mono ?_
      rintro e w7 ⟨ka, rfl, o5, hf7⟩
      go_wp2_with fail
      refine (clone31 _ na2 nx.length nx _ (by omega) (V4.up hf7) (fun k hk => hk)).mono ?_
      rintro e w8 ⟨xa, rfl, o6, hf8⟩
      go_wp2_with fail
      refine (graph_any sa2 aa2 S.length S.length A.length A.length _).mono ?_
      rintro e w9 ⟨rfl, hw9⟩
      obtain ⟨sb, hsb, hsb2⟩ := o5.rows (w8.heap.size + 7)
      obtain ⟨nb, hnb, hnb2⟩ := o6.rows (w8.heap.size + 8)
      have hs7 := hf7.size
      have hs8 := hf8.size
      have hf68 : Fix (fun b => b < w6.heap.size) w6 w8 := hf7.up hf8
      have hG9 : Graph (fun b => b < w6.heap.size ∨ b = w8.heap.size) w9 w8.heap.size S A := by
        rw [hw9]
        exact graph_made Hpre.out.csr (by omega) (by omega) hw (fun b hb => by omega) (V0.fix hf68) (V1.fix hf68)
      have hf89 : Fix (fun b => b < w8.heap.size) w8 w9 := by rw [hw9]; exact (Fix.refl _ _).alloc (fun k hk => hk) _
      have hs9 : w9.heap.size = w8.heap.size + 1 := by rw [hw9]; simp
      have hf69 : Fix (fun b => b < w6.heap.size) w6 w9 := hf68.up hf89
      have hsl : seen.length + 1 = S.length := Hpre.out.sl
      have hfl : fr.length = seen.length := by have := Hpre.out.fl; omega
      have hnl : nx.length = seen.length := by have := Hpre.out.ml; omega
      have hZ : ZIn (fun b => b < w6.heap.size ∨ b = w8.heap.size) w9 w8.heap.size sb nb ka fa2 xa S A seen fr nx all := by
        refine ⟨hG9, fun b hb => by omega, hsl, hfl, hnl, fun h0 => ⟨(hsb h0).1, ?_⟩, fun h0 => ⟨(hnb (by omega)).1, ?_⟩, (V3.fix hf69).weaken fun b hb => .inl hb, by omega, by omega, by omega, by omega, by omega, hws, inside_all (fun v hv => Hpre.out.fi v (by omega))⟩
        · have h1 := (hsb h0).2
          have h2 := Row.lt h1
          exact (Row.fix h1 hf8 h2).fix hf89 (by omega)
        · have h1 := (hnb (by omega)).2
          exact Row.fix h1 hf89 (Row.lt h1)
      have hz : Calls Try.prog 32 #[.pointer (some ⟨w8.heap.size, 0, none⟩), .slice ka seen.length seen.length, .slice fa2 fr.length fr.length, .slice xa nx.length nx.length, .int .u64 all] w9 (ZPost (fun b => b < w6.heap.size ∨ b = w8.heap.size) w9 sb nb S A seen fr all) := by
        rw [hfl, hnl]
        exact zzgather_any hZ
      have Hz : Hid _ := hz
      have W0 := V0.fix hf69
      have W1 := V1.fix hf69
      have W2 := V2.fix hf69
      have W3 := V3.fix hf69
      have Hf9 : Hid _ := Hf6.out.trans (hf69.mono fun b hb => by have := Hf6.out.size; omega)
      have hs6 := Hf6.out.size
      have Hsl : Hid (seen.length + 1 = S.length) := hsl
      have Hfl : Hid (fr.length = seen.length) := hfl
      have Hnl : Hid (nx.length = seen.length) := hnl
      have Hka : Hid (0 < seen.length → ka = some ⟨sb, 0, none⟩) := fun h0 => (hsb h0).1
      have Hxa : Hid (0 < seen.length → xa = some ⟨nb, 0, none⟩) := fun h0 => (hnb (by omega)).1
      have hn1 : S.length - 1 ≤ fr.length := by omega
      have hn2 : S.length - 1 ≤ seen.length := by omega
      have hn3 : S.length - 1 ≤ nx.length := by omega
      clear hz hZ hG9 V0 V1 V2 V3 V4 hf69 hf89 hf68 hf7 hf8 Hf6 o5 o6 hw9 hsl hfl hnl hsb hnb
      go_wp2_with fail
      refine Calls.mono Hz.out ?_
      rintro e w10 ⟨rfl, hf10, hs10, hrows⟩
      clear Hz
      have en : (S.length : Int) - 1 = ((S.length - 1 : Nat) : Int) := by have := Hsl.out; omega
      rw [en]
      replace W0 := (W0.fix (hf10.mono fun b hb => .inl hb)).weaken (V := fun b => b < w10.heap.size) fun b hb => by omega
      replace W1 := (W1.fix (hf10.mono fun b hb => .inl hb)).weaken (V := fun b => b < w10.heap.size) fun b hb => by omega
      replace W2 := (W2.fix (hf10.mono fun b hb => .inl hb)).weaken (V := fun b => b < w10.heap.size) fun b hb => by omega
      replace W3 := (W3.fix (hf10.mono fun b hb => .inl hb)).weaken (V := fun b => b < w10.heap.size) fun b hb => by omega
      have Hf10 : Hid _ := Hf9.out.trans (hf10.mono fun b hb => .inl (by omega))
      have hsw := Hf10.out.size
      have hmk := run_make_row' (P := Try.prog) 46 47 (.int .u64 0) 8 Try.underlying46 (by kernel_rfl) rfl .i64 .i64 (S.length - 1) (by omega) (by omega)
      have Hrows : Hid _ := hrows
      clear hf10 Hf9 en hrows
      go_wp2
      clear hmk
      go_loopw [21] (fun i wr => ∃ (k : Nat) (acc : List Int), k ≤ S.length - 1 ∧ i = .int .i64 k ∧ Fix (fun b => b < w10.heap.size) w10 wr ∧ Pushed S A fr (S.length - 1) k 0 acc ∧ IRow wr w10.heap.size 47 .u64 acc)
        (fun i _ => S.length - 1 - (intOf i).toNat)
      case atStart => exact ⟨0, _, Nat.zero_le _, rfl, (Fix.refl _ _).alloc (fun k hk => hk) _, Pushed.zero S A fr _, IRow.made _ _ _ _⟩
      case round =>
        obtain ⟨k, acc, hk, rfl, hfx, hP, hrow⟩ := hrel
        by_cases hlt : k < S.length - 1
        · have hkS : k + 1 < S.length := by omega
          obtain ⟨b3, o3, hb3, rfl, hc3⟩ := W3.at (by omega)
          obtain ⟨b0, o0, hb0, rfl, hc0⟩ := W0.at (by omega)
          have y3 := (hfx.cell (p := ⟨b3, o3 + k, none⟩) hb3).trans (hc3 k (by omega))
          have y0 := (hfx.cell (p := ⟨b0, o0 + k, none⟩) hb0).trans (hc0 k (by omega))
          rw [← Hpre.out.csr.st k (by omega)] at y0
          have y1 := (hc0 (k + 1) hkS)
          rw [← Hpre.out.csr.st (k + 1) hkS] at y1
          have hnl := Hpre.out.csr.nbr_len k hkS
          have hmo := Hpre.out.csr.st_mono k hkS
          have hle := Hpre.out.csr.st_le (k + 1) hkS
          have Hnl2 : Hid ((nbr S A k).length = st S (k + 1) - st S k) := hnl
          have hnl70 : (nbr S A k).length ≤ 70000 := by omega
          have hb14 : decide ((k : Int) < ((S.length - 1 : Nat) : Int)) = true := by simp; omega
          obtain ⟨wo, rfl⟩ : ∃ wo : World, wo = wr := ⟨_, rfl⟩
          clear hc3 hc0 hnl
          go_wp2
          go_loopw [23] (fun i wr => ∃ (j : Nat) (acc : List Int), j ≤ (nbr S A k).length ∧ i = .int .i64 (st S k + j : Nat) ∧ Fix (fun b => b < w10.heap.size) w10 wr ∧ Pushed S A fr (S.length - 1) k j acc ∧ IRow wr w10.heap.size 47 .u64 acc)
            (fun i _ => st S (k + 1) - (intOf i).toNat)
          case atStart => exact ⟨0, acc, Nat.zero_le _, rfl, hfx, hP, hrow⟩
          case round =>
            clear hfx hP hrow y0 y3
            obtain ⟨j, acc, hj, rfl, hfx, hP, hrow⟩ := hrel
            have y1' := (hfx.cell (p := ⟨b0, o0 + (k + 1), none⟩) hb0).trans y1
            by_cases hlj : j < (nbr S A k).length
            · have hlt' : st S k + j < A.length := by have := Hnl2.out; omega
              have hlt2 : st S k + j < st S (k + 1) := by have := Hnl2.out; omega
              obtain ⟨b1, o1, hb1, rfl, hc1⟩ := W1.at (by omega)
              have z1 := (hfx.cell (p := ⟨b1, o1 + (st S k + j), none⟩) hb1).trans (hc1 _ hlt')
              rw [← nth_nbr S A k j (by have := Hnl2.out; omega)] at z1
              have hr := Hpre.out.csr.nbr_range k hkS j hlj
              have hal := hP.len
              have hi1 : nth (nbr S A k) j < ((S.length - 1 : Nat) : Int) := by omega
              have z2 := hrow.cell (nth (nbr S A k) j).toNat (by omega)
              have f2 := hrow.frozen (nth (nbr S A k) j).toNat
              have hP' := hP.step hlj ⟨hr.1, hi1⟩
              have hrow' := hrow.set (nth (nbr S A k) j).toNat (bits .or .u64 (nth acc (nth (nbr S A k) j).toNat) (nth fr k))
              have hfx' := hfx.setCell (p := ⟨w10.heap.size, (nth (nbr S A k) j).toNat, none⟩) (by simp) (.int .u64 (bits .or .u64 (nth acc (nth (nbr S A k) j).toNat) (nth fr k)))
              clear hc1 hP hrow hfx hal W0 W1 W2 W3 y1
              go_wp2
              go_roundw
              case rel => exact ⟨j + 1, _, by omega, by go_num, hfx', hP', hrow'⟩
              case measure => simp [intOf]; omega
            · have hlt2 : ¬ st S k + j < st S (k + 1) := by have := Hnl2.out; omega
              obtain rfl : j = (nbr S A k).length := by omega
              have hP' := hP.up
              clear hP y1
              go_wp2
              go_roundw
              case rel => exact ⟨k + 1, acc, by omega, by go_num, hfx, hP', hrow⟩
              case measure => simp [intOf]; omega
        · obtain rfl : k = S.length - 1 := by omega
          have Hacc : Hid (∀ v, v < S.length - 1 → nth acc v = orTo fr (nbr S A v) (nbr S A v).length) := fun v hv => hP.full Hpre.out.csr Hpre.out.sym (by have := Hsl.out; omega) v hv
          have hal := hP.len
          have Hal : Hid (acc.length = S.length - 1) := hal
          obtain ⟨w12, rfl⟩ : ∃ w12 : World, w12 = wr := ⟨_, rfl⟩
          clear hP hal W1 W3
          go_wp2
          go_loopw [24, 25, 26, 27] (fun r p g i wr => ∃ k : Nat, k ≤ S.length - 1 ∧ i = .int .i64 k ∧ r = .int .u64 (reachTo S A seen fr k) ∧ p = .int .i64 (pushTo S A seen fr k) ∧ g = .int .i64 (gathTo S A seen fr all k) ∧ Fix (fun _ => True) w12 wr)
            (fun _ _ _ i _ => S.length - 1 - (intOf i).toNat)
          case atStart => exact ⟨0, Nat.zero_le _, rfl, rfl, rfl, rfl, Fix.refl _ _⟩
          case round =>
            obtain ⟨v, hv, rfl, rfl, rfl, rfl, hfu⟩ := hrel
            by_cases hlv : v < S.length - 1
            · have hvS : v + 1 < S.length := by omega
              have hsp : 0 < seen.length := by omega
              obtain ⟨b2, o2, hb2, rfl, hc2⟩ := W2.at (by omega)
              obtain ⟨b0, o0, hb0, rfl, hc0⟩ := W0.at (by omega)
              have hka := Hka.out hsp
              have hxa := Hxa.out hsp
              subst hka hxa
              obtain ⟨rw1, rw2⟩ := Hrows.out hsp
              have l1 := Row.lt rw1
              have l2 := Row.lt rw2
              have hsl7 := Hsl.out
              have yac := (hfu.cell (p := ⟨w10.heap.size, v, none⟩) trivial).trans (hrow.cell v (by rw [Hal.out]; omega))
              rw [Hacc.out v hlv] at yac
              have ys := (hfu.cell (p := ⟨b2, o2 + v, none⟩) trivial).trans ((hfx.cell (p := ⟨b2, o2 + v, none⟩) hb2).trans (hc2 v (by omega)))
              have yn := (hfu.cell (p := ⟨nb, v, none⟩) trivial).trans ((hfx.cell (p := ⟨nb, v, none⟩) l2).trans (rw2.cell v (by rw [listOf_len]; omega)))
              rw [listOf_nth _ _ _ (by omega)] at yn
              have yk := (hfu.cell (p := ⟨sb, v, none⟩) trivial).trans ((hfx.cell (p := ⟨sb, v, none⟩) l1).trans (rw1.cell v (by rw [listOf_len]; omega)))
              rw [listOf_nth _ _ _ (by omega)] at yk
              have y0 := (hfu.cell (p := ⟨b0, o0 + v, none⟩) trivial).trans ((hfx.cell (p := ⟨b0, o0 + v, none⟩) hb0).trans (hc0 v (by omega)))
              rw [← Hpre.out.csr.st v (by omega)] at y0
              have y1 := (hfu.cell (p := ⟨b0, o0 + (v + 1), none⟩) trivial).trans ((hfx.cell (p := ⟨b0, o0 + (v + 1), none⟩) hb0).trans (hc0 (v + 1) hvS))
              rw [← Hpre.out.csr.st (v + 1) hvS] at y1
              have hE : bits .andNot .u64 (orTo fr (nbr S A v) (nbr S A v).length) (nth seen v) = fresh S A seen fr v := rfl
              have hE2 : bits .or .u64 (nth seen v) (fresh S A seen fr v) = seenNow S A seen fr v := rfl
              have hE3 : bits .or .u64 (reachTo S A seen fr v) (fresh S A seen fr v) = reachTo S A seen fr (v + 1) := rfl
              have g1 : (fresh S A seen fr v != fresh S A seen fr v) = false := by simp
              have g2 : (seenNow S A seen fr v != seenNow S A seen fr v) = false := by simp
              have pl := pushTo_le Hpre.out.csr seen fr v (by omega)
              have gl := gathTo_le Hpre.out.csr seen fr all v (by omega)
              have stl := Hpre.out.csr.st_le (v + 1) hvS
              have stm := Hpre.out.csr.st_mono v hvS
              have nll := Hpre.out.csr.nbr_len v hvS
              have Hll : Hid ((nbr S A v).length = st S (v + 1) - st S v) := nll
              have q1 : (v : Int) < ((S.length - 1 : Nat) : Int) := by omega
              have q2 : (v : Int) < seen.length := by omega
              have q3 : (v : Int) < nx.length := by have := Hnl.out; omega
              have q4 : (v : Int) < S.length := by omega
              have q5 : (v : Int) + 1 < S.length := by omega
              clear hc2 hc0 rw1 rw2 l1 l2 W0 W2 nll hrow hfx hsl7
              by_cases hf0 : fresh S A seen fr v = 0
              · have hf0' : (fresh S A seen fr v != 0) = false := by simp [hf0]
                have E2 : Hid (pushTo S A seen fr (v + 1) = pushTo S A seen fr v) := by unfold Hid; rw [pushTo, if_pos hf0]; rfl
                clear hf0
                by_cases hsn : seenNow S A seen fr v = all
                · have hsn' : (seenNow S A seen fr v != all) = false := by simp [hsn]
                  have E3 : Hid (gathTo S A seen fr all (v + 1) = gathTo S A seen fr all v) := by unfold Hid; rw [gathTo, if_pos hsn]; rfl
                  clear hsn
                  go_wp2
                  go_quiet (fail)
                  go_wp2
                  go_quiet (fail)
                  go_wp2
                  go_quiet (fail)
                  go_wp2
                  go_roundw
                  case rel => exact ⟨v + 1, by omega, by go_num, rfl, by rw [E2.out], by rw [E3.out], hfu.drewN _⟩
                  case measure => simp [intOf]; omega
                · have hsn' : (seenNow S A seen fr v != all) = true := by simp [hsn]
                  have E3 : Hid (gathTo S A seen fr all (v + 1) = gathTo S A seen fr all v + (nbr S A v).length) := by unfold Hid; rw [gathTo, if_neg hsn]
                  clear hsn
                  go_wp2
                  go_quiet (fail)
                  go_wp2
                  go_quiet (fail)
                  go_wp2
                  go_quiet (fail)
                  go_wp2
                  go_roundw
                  case rel => exact ⟨v + 1, by omega, by go_num, rfl, by rw [E2.out], by rw [E3.out]; have := Hll.out; go_num, hfu.drewN _⟩
                  case measure => simp [intOf]; omega
              · have hf0' : (fresh S A seen fr v != 0) = true := by simp [hf0]
                have E2 : Hid (pushTo S A seen fr (v + 1) = pushTo S A seen fr v + (nbr S A v).length) := by unfold Hid; rw [pushTo, if_neg hf0]
                clear hf0
                by_cases hsn : seenNow S A seen fr v = all
                · have hsn' : (seenNow S A seen fr v != all) = false := by simp [hsn]
                  have E3 : Hid (gathTo S A seen fr all (v + 1) = gathTo S A seen fr all v) := by unfold Hid; rw [gathTo, if_pos hsn]; rfl
                  clear hsn
                  go_wp2
                  go_quiet (fail)
                  go_wp2
                  go_quiet (fail)
                  go_wp2
                  go_quiet (fail)
                  go_wp2
                  go_roundw
                  case rel => exact ⟨v + 1, by omega, by go_num, rfl, by rw [E2.out]; have := Hll.out; go_num, by rw [E3.out], hfu.drewN _⟩
                  case measure => simp [intOf]; omega
                · have hsn' : (seenNow S A seen fr v != all) = true := by simp [hsn]
                  have E3 : Hid (gathTo S A seen fr all (v + 1) = gathTo S A seen fr all v + (nbr S A v).length) := by unfold Hid; rw [gathTo, if_neg hsn]
                  clear hsn
                  go_wp2
                  go_quiet (fail)
                  go_wp2
                  go_quiet (fail)
                  go_wp2
                  go_quiet (fail)
                  go_wp2
                  go_roundw
                  case rel => exact ⟨v + 1, by omega, by go_num, rfl, by rw [E2.out]; have := Hll.out; go_num, by rw [E3.out]; have := Hll.out; go_num, hfu.drewN _⟩
                  case measure => simp [intOf]; omega
            · obtain rfl : v = S.length - 1 := by omega
              have esl : seen.length = S.length - 1 := by have := Hsl.out; omega
              have k1 : (reachTo S A seen fr seen.length == reachTo S A seen fr (S.length - 1)) = true := by rw [esl]; simp
              have k2 : ((pushTo S A seen fr seen.length : Int) == (pushTo S A seen fr (S.length - 1) : Int)) = true := by rw [esl]; simp
              have k3 : ((gathTo S A seen fr all seen.length : Int) == (gathTo S A seen fr all (S.length - 1) : Int)) = true := by rw [esl]; simp
              clear esl hrow W0 W2
              go_wp2
              go_ret
              exact ⟨rfl, (Hf10.out.trans (hfx.mono fun b hb => by omega)).trans (hfu.mono fun _ _ => trivial)⟩
end Go.Proofs.Qxb6605187a
