import Derived.Test.Qxb6605187aCompInv
namespace Go.Proofs.Qxb6605187a
open Go.RowKit
set_option linter.unusedVariables false

/-- ascending -/
def Asc (M : List Int) : Prop := ∀ i j, i < j → j < M.length → nth M i < nth M j
theorem Asc.lt {M : List Int} (h : Asc M) {i j : Nat} (hi : i < M.length) (hj : j < M.length) (hl : nth M i < nth M j) : i < j := by
  rcases Nat.lt_trichotomy i j with h1 | h1 | h1
  · exact h1
  · subst h1; omega
  · have := h j i h1 hi; omega
theorem Asc.le {M : List Int} (h : Asc M) {i j : Nat} (hi : i < M.length) (hj : j < M.length) (hl : nth M i ≤ nth M j) : i ≤ j := by
  rcases Nat.lt_trichotomy i j with h1 | h1 | h1
  · omega
  · omega
  · have := h j i h1 hi; omega

/-- ZZStart -/
theorem zstart_any (gb k c : Nat) (a : Option Addr) (w : World) (h : w.cell? ⟨gb, 0, none⟩ = some (.slice a k c)) :
    Calls Try.prog 37 #[.pointer (some ⟨gb, 0, none⟩)] w fun e w' => e = .returned (.slice a k c) ∧ w' = w := by
  go_enter Try.func37, Try.ntmps37
  go_wp2
  go_ret
  exact ⟨rfl, rfl⟩
/-- ZZAdj -/
theorem zadj_any (gb k c : Nat) (a : Option Addr) (w : World) (h : w.cell? ⟨gb, 1, none⟩ = some (.slice a k c)) :
    Calls Try.prog 38 #[.pointer (some ⟨gb, 0, none⟩)] w fun e w' => e = .returned (.slice a k c) ∧ w' = w := by
  go_enter Try.func38, Try.ntmps38
  go_wp2
  go_ret
  exact ⟨rfl, rfl⟩

set_option maxHeartbeats 400000 in
/-- rankIn -/
theorem rank_any {U : Nat → Prop} (a : Option Addr) (c : Nat) (M : List Int) (r : Nat) (w : World) (hl : M.length ≤ 70000) (hM : Asc M) (hr : r < M.length) (v : View U w .i32 a M) :
    Calls Try.prog 39 #[.slice a M.length c, .int .i32 (nth M r)] w fun e w' => e = .returned (.int .i64 r) ∧ w' = w := by
  have HM : Hid (Asc M) := hM
  obtain ⟨b, o, hb, rfl, hc⟩ := v.at (by omega)
  have Hc : Hid (∀ (i : Nat), i < M.length → w.cell? ⟨b, o + i, none⟩ = some (Value.int IntKind.i32 (nth M i))) := hc
  clear hM hc v
  go_enter Try.func39, Try.ntmps39
  go_wp2
  go_loop [5, 6] (fun x y => ∃ lo hi : Nat, lo ≤ r ∧ r ≤ hi ∧ hi ≤ M.length ∧ x = .int .i64 lo ∧ y = .int .i64 hi) (fun x y => (intOf y).toNat - (intOf x).toNat)
  case atStart => exact ⟨0, M.length, Nat.zero_le _, by omega, Nat.le_refl _, rfl, rfl⟩
  case round =>
    obtain ⟨lo, hi, h1, h2, h3, rfl, rfl⟩ := hrel
    by_cases hlt : lo < hi
    · obtain ⟨mid, hmid⟩ : ∃ mid : Nat, mid = lo + (hi - lo) / 2 := ⟨_, rfl⟩
      have e1 : (lo : Int) + ((hi : Int) - lo).tdiv 2 = mid := by
        rw [Int.tdiv_eq_ediv_of_nonneg (by omega)]; omega
      have hm2 : mid < hi := by omega
      have hm3 : lo ≤ mid := by omega
      have z := Hc.out mid (by omega)
      have hq : (0 : Int) ≤ ((hi : Int) - lo).tdiv 2 := by rw [Int.tdiv_eq_ediv_of_nonneg (by omega)]; omega
      have hq2 : ((hi : Int) - lo).tdiv 2 ≤ 70000 := by rw [Int.tdiv_eq_ediv_of_nonneg (by omega)]; omega
      clear hmid
      by_cases hls : nth M mid < nth M r
      · have hgo := Asc.lt HM.out (by omega) hr hls
        have hls' : decide (nth M mid < nth M r) = true := by simp; omega
        go_wp2
        go_round
        case rel => exact ⟨mid + 1, hi, by omega, by omega, h3, by go_num, rfl⟩
        case measure => simp [intOf]; omega
      · have hgo := Asc.le HM.out hr (by omega : mid < M.length) (by omega)
        have hls' : decide (nth M mid < nth M r) = false := by simp; omega
        go_wp2
        go_round
        case rel => exact ⟨lo, mid, by omega, by omega, by omega, rfl, rfl⟩
        case measure => simp [intOf]; omega
    · obtain rfl : lo = r := by omega
      have z := Hc.out lo hr
      go_wp2
      go_ret
      exact ⟨rfl, rfl⟩

/-- (HS, HA) is the graph that (S, A) induces on the ascending list M -/
structure Induced (S A M HS HA : List Int) : Prop where
  len : HS.length = M.length + 1
  first : nth HS 0 = 0
  rng : ∀ i, i < M.length → 0 ≤ nth M i ∧ nth M i + 1 < S.length
  step : ∀ i, i < M.length → nth HS (i + 1) = nth HS i + (nbr S A (nth M i).toNat).length
  last : nth HS M.length = HA.length
  asc : Asc M
  link : ∀ i, i < M.length → ∀ j, j < (nbr S A (nth M i).toNat).length → ∃ r, r < M.length ∧ nth M r = nth (nbr S A (nth M i).toNat) j ∧ nth HA ((nth HS i).toNat + j) = r
theorem Induced.nonneg {S A M HS HA : List Int} (h : Induced S A M HS HA) (i : Nat) (hi : i ≤ M.length) : 0 ≤ nth HS i := by
  induction i with
  | zero => rw [h.first]; exact Int.le_refl _
  | succ i ih =>
    have h1 := ih (by omega)
    have h2 := h.step i (by omega)
    omega
theorem Induced.up {S A M HS HA : List Int} (h : Induced S A M HS HA) (i d : Nat) (hi : i + d ≤ M.length) : nth HS i ≤ nth HS (i + d) := by
  induction d with
  | zero => exact Int.le_refl _
  | succ d ih =>
    have h1 := ih (by omega)
    have h2 := h.step (i + d) (by omega)
    have e : i + (d + 1) = i + d + 1 := by omega
    rw [e]
    omega
theorem Induced.le {S A M HS HA : List Int} (h : Induced S A M HS HA) (i : Nat) (hi : i ≤ M.length) : nth HS i ≤ HA.length := by
  have h1 := h.up i (M.length - i) (by omega)
  have e : i + (M.length - i) = M.length := by omega
  rw [e, h.last] at h1
  exact h1
theorem Induced.st {S A M HS HA : List Int} (h : Induced S A M HS HA) (i : Nat) (hi : i ≤ M.length) : (Qxb6605187a.st HS i : Int) = nth HS i := by
  have := h.nonneg i hi
  unfold Qxb6605187a.st
  omega

/-- true comes back; there were only draws -/
def YesDrew (w : World) (e : Ending) (w' : World) : Prop := e = .returned (.bool true) ∧ ∃ m, w' = w.drewN m

set_option maxHeartbeats 4000000 in
set_option maxRecDepth 100000 in
/-- isInducedOn -/
theorem ind_any (a0 a1 am : Option Addr) (c0 c1 cm : Nat) (S A M HS HA : List Int) (p : Nat) (w : World) (hcsr : Csr S A) (hS : S.length ≤ 70000) (hA : A.length ≤ 70000) (hM : M.length ≤ 70000) (hHA : HA.length ≤ 70000) (hI : Induced S A M HS HA)
    (v0 : View (fun _ => True) w .i64 a0 S) (v1 : View (fun _ => True) w .i32 a1 A) (vm : View (fun _ => True) w .i32 am M) (hg : GAt (fun _ => True) w p HS HA) :
    Calls Try.prog 23 #[.slice a0 S.length c0, .slice a1 A.length c1, .slice am M.length cm, .pointer (some ⟨p, 0, none⟩)] w (YesDrew w) := by
  have hl := hcsr.len
  obtain ⟨_, sa, sc, aa, ac, g0, g1, hac, hnone, u0, u1⟩ := hg
  have hHl := hI.len
  obtain ⟨b0, o0, hb0, rfl, hc0⟩ := v0.at (by omega)
  obtain ⟨b2, o2, hb2, rfl, hc2⟩ := u0.at (by omega)
  have x0 := hc2 0 (by omega)
  rw [Nat.add_zero, hI.first] at x0
  have xl := hc2 M.length (by omega)
  rw [hI.last] at xl
  have Hc0 : Hid (∀ (i : Nat), i < S.length → w.cell? ⟨b0, o0 + i, none⟩ = some (Value.int IntKind.i64 (nth S i))) := hc0
  have Hc2 : Hid (∀ (i : Nat), i < HS.length → w.cell? ⟨b2, o2 + i, none⟩ = some (Value.int IntKind.i64 (nth HS i))) := hc2
  have Hcsr : Hid (Csr S A) := hcsr
  have HI : Hid (Induced S A M HS HA) := hI
  have f1 := zstart_any p HS.length sc _ w g0
  have f2 := zadj_any p HA.length ac _ w g1
  rw [hHl] at f1
  have F1 : Hid _ := f1
  have F2 : Hid _ := f2
  have HHl : Hid (HS.length = M.length + 1) := hHl
  have h2l : M.length < HS.length := by omega
  clear hcsr hc0 hc2 hI f1 f2 hHl g0 g1 u0 v0
  go_enter Try.func23, Try.ntmps23
  go_wp2_with fail
  refine Calls.mono F1.out ?_
  rintro e w' ⟨rfl, rfl⟩
  go_wp2_with fail
  refine Calls.mono F2.out ?_
  rintro e w' ⟨rfl, rfl⟩
  go_wp2
  clear x0 F1 F2
  go_loopw [11] (fun i wr => ∃ k : Nat, k ≤ M.length ∧ i = .int .i64 k ∧ Fix (fun _ => True) w' wr ∧ Hid (∃ m, wr = w'.drewN m)) (fun i _ => M.length - (intOf i).toNat)
  case atStart => exact ⟨0, Nat.zero_le _, rfl, Fix.refl _ _, 0, rfl⟩
  case round =>
    obtain ⟨k, hk, rfl, hfx, hdr⟩ := hrel
    by_cases hlt : k < M.length
    · obtain ⟨bm, om, hbm, rfl, hcm⟩ := vm.at (by omega)
      have z := (hfx.cell (p := ⟨bm, om + k, none⟩) trivial).trans (hcm k hlt)
      have hr := HI.out.rng k hlt
      have hs := HI.out.step k hlt
      obtain ⟨v, hv⟩ : ∃ v : Nat, nth M k = v := ⟨(nth M k).toNat, by omega⟩
      rw [hv] at z hr hs
      rw [Int.toNat_natCast] at hs
      have hvS : v + 1 < S.length := by omega
      have hnl := Hcsr.out.nbr_len v hvS
      have hmo := Hcsr.out.st_mono v hvS
      have y0 := (hfx.cell (p := ⟨b0, o0 + v, none⟩) trivial).trans (Hc0.out v (by omega))
      rw [← Hcsr.out.st v (by omega)] at y0
      have y1 := (hfx.cell (p := ⟨b0, o0 + (v + 1), none⟩) trivial).trans (Hc0.out (v + 1) hvS)
      rw [← Hcsr.out.st (v + 1) hvS] at y1
      have x0 := (hfx.cell (p := ⟨b2, o2 + k, none⟩) trivial).trans (Hc2.out k (by omega))
      rw [← HI.out.st k (by omega)] at x0
      have x1 := (hfx.cell (p := ⟨b2, o2 + (k + 1), none⟩) trivial).trans (Hc2.out (k + 1) (by omega))
      rw [← HI.out.st (k + 1) (by omega)] at x1
      rw [← HI.out.st k (by omega), ← HI.out.st (k + 1) (by omega), hnl] at hs
      have hle := Hcsr.out.st_le (v + 1) hvS
      have hle2 : st HS (k + 1) ≤ 70000 := by have h1 := HI.out.le (k + 1) (by omega); rw [← HI.out.st (k + 1) (by omega)] at h1; omega
      have hs' : ((st HS (k + 1) : Int) != (st HS k : Int) + ((st S (v + 1) : Int) - (st S v : Int))) = false := by simp; omega
      have j1 : (k : Int) < (M.length : Int) + 1 := by omega
      have j2 : (k : Int) + 1 < (M.length : Int) + 1 := by omega
      have j3 : (v : Int) < (S.length : Int) := by omega
      have j4 : (v : Int) + 1 < (S.length : Int) := by omega
      have j5 : st HS k ≤ 70000 := by omega
      have hdr' : ∀ n, Hid (∃ m, wr.drewN n = w'.drewN m) := by
        intro n
        obtain ⟨m, rfl⟩ := hdr.out
        exact ⟨m + n, by simp⟩
      clear hcm hv hs hnl hdr xl
      go_wp2
      go_quiet (fail)
      go_wp2
      go_roundw
      case rel => exact ⟨k + 1, by omega, by go_num, hfx.drewN _, (hdr' _).out⟩
      case measure => simp [intOf]; omega
    · have xl' := (hfx.cell (p := ⟨b2, o2 + M.length, none⟩) trivial).trans xl
      obtain ⟨w1, rfl⟩ : ∃ w1 : World, w1 = wr := ⟨_, rfl⟩
      clear xl
      go_wp2
      clear xl'
      go_loopw [13] (fun i wr => ∃ k : Nat, k ≤ M.length ∧ i = .int .i64 k ∧ Fix (fun _ => True) w' wr ∧ Hid (∃ m, wr = w'.drewN m)) (fun i _ => M.length - (intOf i).toNat)
      case atStart => exact ⟨0, Nat.zero_le _, rfl, hfx, hdr.out⟩
      case round =>
        clear hfx hdr hlt hk
        obtain ⟨k, hk, rfl, hfx, hdr⟩ := hrel
        by_cases hlt : k < M.length
        · obtain ⟨bm, om, hbm, rfl, hcm⟩ := vm.at (by omega)
          have z := (hfx.cell (p := ⟨bm, om + k, none⟩) trivial).trans (hcm k hlt)
          have hr := HI.out.rng k hlt
          have hs := HI.out.step k hlt
          have hlk := HI.out.link k hlt
          obtain ⟨v, hv⟩ : ∃ v : Nat, nth M k = v := ⟨(nth M k).toNat, by omega⟩
          rw [hv] at z hr hs hlk
          rw [Int.toNat_natCast] at hs hlk
          have hvS : v + 1 < S.length := by omega
          have hnl := Hcsr.out.nbr_len v hvS
          have hmo := Hcsr.out.st_mono v hvS
          have y0 := (hfx.cell (p := ⟨b0, o0 + v, none⟩) trivial).trans (Hc0.out v (by omega))
          rw [← Hcsr.out.st v (by omega)] at y0
          have y1 := (hfx.cell (p := ⟨b0, o0 + (v + 1), none⟩) trivial).trans (Hc0.out (v + 1) hvS)
          rw [← Hcsr.out.st (v + 1) hvS] at y1
          rw [← HI.out.st k (by omega), ← HI.out.st (k + 1) (by omega)] at hs
          have hle := Hcsr.out.st_le (v + 1) hvS
          have hle2 : st HS (k + 1) ≤ HA.length := by have h1 := HI.out.le (k + 1) (by omega); rw [← HI.out.st (k + 1) (by omega)] at h1; omega
          have j3 : (v : Int) < (S.length : Int) := by omega
          have j4 : (v : Int) + 1 < (S.length : Int) := by omega
          obtain ⟨d, hd⟩ : ∃ d, d = (nbr S A v).length := ⟨_, rfl⟩
          rw [← hd] at hs hnl
          have ed : (st S (v + 1) : Int) - (st S v : Int) = (d : Int) := by omega
          have hd70 : d ≤ 70000 := by omega
          have hdS : st S v + d = st S (v + 1) := by omega
          have hdH : st HS k + d = st HS (k + 1) := by omega
          have HdS : Hid _ := hdS
          have HdH : Hid _ := hdH
          have Hd : Hid (d = (nbr S A v).length) := hd
          have Hlk : Hid (∀ j, j < d → ∃ r, r < M.length ∧ nth M r = nth (nbr S A v) j ∧ nth HA (st HS k + j) = r) := by rw [hd]; exact hlk
          have hb14 : decide ((k : Int) < (M.length : Int)) = true := by simp; omega
          have hdr' : ∀ n, Hid (∃ m, wr.drewN n = w'.drewN m) := by
            intro n
            obtain ⟨m, rfl⟩ := hdr.out
            exact ⟨m + n, by simp⟩
          obtain ⟨wo, rfl⟩ : ∃ wo : World, wo = wr := ⟨_, rfl⟩
          clear hcm hv hs hnl hdr hd hlk hdS hdH
          go_wp2
          go_quiet (fail)
          go_wp2
          clear ed
          go_loopw [16] (fun i wr => ∃ j : Nat, j ≤ d ∧ i = .int .i64 j ∧ Fix (fun _ => True) w' wr ∧ Hid (∃ m, wr = w'.drewN m)) (fun i _ => d - (intOf i).toNat)
          case atStart => exact ⟨0, Nat.zero_le _, rfl, hfx.drewN _, (hdr' _).out⟩
          case round =>
            clear hfx z y0 y1 hdr'
            obtain ⟨j, hj, rfl, hfx, hdr⟩ := hrel
            by_cases hlj : j < d
            · obtain ⟨r, hr1, hr2, hr3⟩ := Hlk.out j hlj
              have hnb := nth_nbr S A v j (by have := HdS.out; omega)
              obtain ⟨b1, o1, hb1, rfl, hc1⟩ := v1.at (by have := HdS.out; omega)
              have z := (hfx.cell (p := ⟨b1, o1 + (st S v + j), none⟩) trivial).trans (hc1 (st S v + j) (by have := HdS.out; omega))
              rw [← hnb, ← hr2] at z
              have y0 := (hfx.cell (p := ⟨b0, o0 + v, none⟩) trivial).trans (Hc0.out v (by omega))
              rw [← Hcsr.out.st v (by omega)] at y0
              have x0 := (hfx.cell (p := ⟨b2, o2 + k, none⟩) trivial).trans (Hc2.out k (by omega))
              rw [← HI.out.st k (by omega)] at x0
              obtain ⟨b3, o3, hb3, rfl, hc3⟩ := u1.at (by have := HdH.out; omega)
              have x3 := (hfx.cell (p := ⟨b3, o3 + (st HS k + j), none⟩) trivial).trans (hc3 (st HS k + j) (by have := HdH.out; omega))
              rw [hr3] at x3
              have F := rank_any (some ⟨bm, om, none⟩) cm M r wr hM HI.out.asc hr1 (vm.fix hfx)
              have HF : Hid _ := F
              have i1 : ((st S v + j : Nat) : Int) < (A.length : Int) := by have := HdS.out; omega
              have i2 : ((st HS k + j : Nat) : Int) < (HA.length : Int) := by have := HdH.out; omega
              clear hc1 hc3 F hnb hr2 hr3
              go_wp2_with fail
              refine Calls.mono HF.out ?_
              rintro e w2 ⟨rfl, rfl⟩
              go_wp2
              go_roundw
              case rel => exact ⟨j + 1, by omega, by go_num, hfx, hdr.out⟩
              case measure => simp [intOf]; omega
            · go_wp2
              go_roundw
              case rel => exact ⟨k + 1, by omega, by go_num, hfx, hdr.out⟩
              case measure => simp [intOf]; omega
        · go_wp2
          go_ret
          exact ⟨rfl, hdr.out⟩
end Go.Proofs.Qxb6605187a
