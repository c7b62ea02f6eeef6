import Derived.Test.Qxb6605187aWalkA
import Derived.Test.Qxb6605187aPick
namespace Go.Proofs.Qxb6605187a
open Go.RowKit
set_option linter.unusedVariables false

set_option maxHeartbeats 400000 in
/-- slices.Max -/
theorem max_any (U : Nat → Prop) (a : Option Addr) (c : Nat) (xs : List Int) (w : World) (hl : xs.length ≤ 70000) (h1 : 1 ≤ xs.length) (v : View U w .i32 a xs) :
    Calls Try.prog 44 #[.slice a xs.length c] w fun e w' => e = .returned (.int .i32 (mx xs (xs.length - 1))) ∧ w' = w := by
  obtain ⟨b0, o0, hb0, rfl, hc0⟩ := v.at (by omega)
  have x0 := hc0 0 (by omega)
  rw [Nat.add_zero] at x0
  have Hc0 : Hid (∀ (i : Nat), i < xs.length → w.cell? ⟨b0, o0 + i, none⟩ = some (Value.int IntKind.i32 (nth xs i))) := hc0
  clear hc0
  go_enter Try.func44, Try.ntmps44
  go_wp2
  go_loop [3, 4] (fun m i => ∃ k : Nat, k + 1 ≤ xs.length ∧ i = .int .i64 (k + 1 : Nat) ∧ m = .int .i32 (mx xs k)) (fun _ i => xs.length - (intOf i).toNat)
  case atStart => exact ⟨0, by omega, rfl, rfl⟩
  case round =>
    obtain ⟨k, hk, rfl, rfl⟩ := hrel
    clear x0
    by_cases hlt : k + 1 < xs.length
    · have y := Hc0.out (k + 1) hlt
      go_wp2
      go_round
      case rel =>
        refine ⟨k + 1, by omega, by go_num, ?_⟩
        have e : (if mx xs k < nth xs (k + 1) then nth xs (k + 1) else mx xs k) = mx xs (k + 1) := by
          rw [mx]; split <;> omega
        rw [e]
      case measure => simp [intOf]; omega
    · go_wp2
      go_ret
      have : xs.length - 1 = k := by omega
      rw [this]
      exact ⟨rfl, rfl⟩
set_option maxHeartbeats 400000 in
/-- holdsOf -/
theorem holds_any (U : Nat → Prop) (sa aa ca : Option Addr) (sc ac cc : Nat) (S A : List Int) (cov : List Bool) (x : Nat) (w : World) (hcsr : Csr S A) (hS : S.length ≤ 70000) (hA : A.length ≤ 70000)
    (hlen : cov.length + 1 = S.length) (hx : x + 1 < S.length) (v0 : View U w .i64 sa S) (v1 : View U w .i32 aa A) (v2 : ViewB U w ca cov) :
    Calls Try.prog 16 #[.slice sa S.length sc, .slice aa A.length ac, .slice ca cov.length cc, .int .i64 x] w fun e w' => e = .returned (.int .i32 (hold S A cov x)) ∧ w' = w := by
  obtain ⟨b0, o0, _, rfl, hc0⟩ := v0.at (by omega)
  obtain ⟨b2, o2, _, rfl, hc2⟩ := v2.at (by omega)
  have c0 := hc0 x (by omega)
  rw [← hcsr.st x (by omega)] at c0
  have c1 := hc0 (x + 1) hx
  rw [← hcsr.st (x + 1) hx] at c1
  have d0 := hc2 x (by omega)
  have hnl := hcsr.nbr_len x hx
  have hm := hcsr.st_mono x hx
  have hle := hcsr.st_le (x + 1) hx
  have hcn := cnt_le cov (nbr S A x)
  have Hc2 : Hid (∀ i, i < cov.length → w.cell? ⟨b2, o2 + i, none⟩ = some (Value.bool (nthB cov i))) := hc2
  have Hsub : Hid (∀ j, j < (nbr S A x).length → nth (nbr S A x) j = nth A (st S x + j)) := fun j hj => nth_nbr S A x j (by omega)
  have Hr : Hid (∀ j, j < (nbr S A x).length → 0 ≤ nth (nbr S A x) j ∧ nth (nbr S A x) j + 1 < S.length) := hcsr.nbr_range x hx
  have Hnl : Hid ((nbr S A x).length = st S (x + 1) - st S x) := hnl
  have hnl2 : (nbr S A x).length ≤ 70000 := by omega
  clear hc0 hc2 v0 v2 hcsr hnl
  cases hb : nthB cov x
  all_goals
    rw [hb] at d0
    have Hb : Hid (nthB cov x = _) := hb
    clear hb
    go_enter Try.func16, Try.ntmps16
    go_wp2
    go_loop [9, 10] (fun h i => ∃ j : Nat, j ≤ (nbr S A x).length ∧ i = .int .i64 (st S x + j : Nat) ∧ h = .int .i32 (holdTo S A cov x j)) (fun _ i => st S (x + 1) - (intOf i).toNat)
    case atStart => exact ⟨0, by omega, rfl, by rw [holdTo_zero, Hb.out]; rfl⟩
    case round =>
      obtain ⟨j, hj, rfl, rfl⟩ := hrel
      by_cases hlt : j < (nbr S A x).length
      · have hlt' : st S x + j < A.length := by have := Hnl.out; omega
        have hlt2 : st S x + j < st S (x + 1) := by have := Hnl.out; omega
        obtain ⟨b1, o1, _, rfl, hc1⟩ := v1.at (by omega)
        have y := hc1 _ hlt'
        rw [← Hsub.out j hlt] at y
        have hr := Hr.out j hlt
        have hi1 : nth (nbr S A x) j < cov.length := by omega
        have z := Hc2.out (nth (nbr S A x) j).toNat (by omega)
        have hcj := holdTo_le S A cov x j
        clear hc1 v1 c0 d0
        cases hb : nthB cov (nth (nbr S A x) j).toNat
        all_goals
          rw [hb] at z
          have Hb2 : Hid (nthB cov (nth (nbr S A x) j).toNat = _) := hb
          clear hb
          go_wp2
          go_round
          case rel =>
            refine ⟨j + 1, by omega, by go_num, ?_⟩
            first
              | rw [holdTo_yes S A cov x j hlt Hb2.out]; go_num
              | rw [holdTo_no S A cov x j hlt Hb2.out]
          case measure => simp [intOf]; omega
      · have hlt2 : ¬ st S x + j < st S (x + 1) := by have := Hnl.out; omega
        go_wp2
        go_ret
        rw [← holdTo_full S A cov x j (by omega)]
        exact ⟨rfl, rfl⟩

def CoverPost (U : Nat → Prop) (w : World) (cb : Nat) (cov : List Bool) (e : Ending) (w' : World) : Prop := e = .returned (.tuple #[]) ∧ BRow w' cb cov ∧ Fix U w w'

set_option maxHeartbeats 400000 in
/-- coverFrom -/
theorem cover_any (U : Nat → Prop) (sa aa : Option Addr) (sc ac cc cb : Nat) (S A : List Int) (cov : List Bool) (x : Nat) (w : World) (hcsr : Csr S A) (hS : S.length ≤ 70000) (hA : A.length ≤ 70000)
    (hlen : cov.length + 1 = S.length) (hx : x + 1 < S.length) (v0 : View U w .i64 sa S) (v1 : View U w .i32 aa A) (r : BRow w cb cov) (hcb : ¬ U cb) :
    Calls Try.prog 17 #[.slice sa S.length sc, .slice aa A.length ac, .slice (some ⟨cb, 0, none⟩) cov.length cc, .int .i64 x] w (CoverPost U w cb (strike S A cov x)) := by
  obtain ⟨b0, o0, hb0, rfl, hc0⟩ := v0.at (by omega)
  have c0 := hc0 x (by omega)
  rw [← hcsr.st x (by omega)] at c0
  have c1 := hc0 (x + 1) hx
  rw [← hcsr.st (x + 1) hx] at c1
  have d0 := r.cell x (by omega)
  have f0 := r.frozen x
  have hne : b0 ≠ cb := fun e => hcb (e ▸ hb0)
  have hnl := hcsr.nbr_len x hx
  have hm := hcsr.st_mono x hx
  have hle := hcsr.st_le (x + 1) hx
  have Hsub : Hid (∀ j, j < (nbr S A x).length → nth (nbr S A x) j = nth A (st S x + j)) := fun j hj => nth_nbr S A x j (by omega)
  have Hr : Hid (∀ j, j < (nbr S A x).length → 0 ≤ nth (nbr S A x) j ∧ nth (nbr S A x) j + 1 < S.length) := hcsr.nbr_range x hx
  have Hnl : Hid ((nbr S A x).length = st S (x + 1) - st S x) := hnl
  have hfx : Fix U w (w.setCell ⟨cb, x, none⟩ (.bool false)) := (Fix.refl _ _).setCell hcb _
  have hr0 : BRow (w.setCell ⟨cb, x, none⟩ (.bool false)) cb (cov.set x false) := r.set x false
  have c0' : (w.setCell ⟨cb, x, none⟩ (.bool false)).cell? ⟨b0, o0 + x, none⟩ = some (.int .i64 (st S x)) := (hfx.cell (p := ⟨b0, o0 + x, none⟩) hb0).trans c0
  clear hc0 v0 hcsr hnl
  go_enter Try.func17, Try.ntmps17
  go_wp2
  go_loopw [8] (fun i wr => ∃ j : Nat, j ≤ (nbr S A x).length ∧ i = .int .i64 (st S x + j : Nat) ∧ BRow wr cb (clr (cov.set x false) ((nbr S A x).take j)) ∧ Fix U w wr) (fun i _ => st S (x + 1) - (intOf i).toNat)
  case atStart => exact ⟨0, by omega, rfl, hr0, hfx⟩
  case round =>
    obtain ⟨j, hj, rfl, hrow, hfix⟩ := hrel
    have c1' := (hfix.cell (p := ⟨b0, o0 + (x + 1), none⟩) hb0).trans c1
    clear c0 c1 c0' d0 f0 r hr0 hfx hne
    by_cases hlt : j < (nbr S A x).length
    · have hlt' : st S x + j < A.length := by have := Hnl.out; omega
      have hlt2 : st S x + j < st S (x + 1) := by have := Hnl.out; omega
      obtain ⟨b1, o1, hb1, rfl, hc1⟩ := v1.at (by omega)
      have y := (hfix.cell (p := ⟨b1, o1 + (st S x + j), none⟩) hb1).trans (hc1 _ hlt')
      rw [← Hsub.out j hlt] at y
      have hr := Hr.out j hlt
      have hll : (clr (cov.set x false) ((nbr S A x).take j)).length = cov.length := by rw [clr_len]; simp
      have z := hrow.cell (nth (nbr S A x) j).toNat (by omega)
      have fz := hrow.frozen (nth (nbr S A x) j).toNat
      have hi1 : nth (nbr S A x) j < cov.length := by omega
      have R : Hid (BRow (wr.setCell ⟨cb, (nth (nbr S A x) j).toNat, none⟩ (.bool false)) cb (clr (cov.set x false) ((nbr S A x).take (j + 1)))) := by
        rw [clr_snoc _ _ _ hlt]; exact hrow.set _ _
      have F : Hid (Fix U w (wr.setCell ⟨cb, (nth (nbr S A x) j).toNat, none⟩ (.bool false))) := hfix.setCell hcb _
      clear hll hc1 v1 hrow hfix
      go_wp2
      go_roundw
      case rel => exact ⟨j + 1, by omega, by go_num, R.out, F.out⟩
      case measure => simp [intOf]; omega
    · have hlt2 : ¬ st S x + j < st S (x + 1) := by have := Hnl.out; omega
      go_wp2
      go_end0
      have e : (nbr S A x).take j = nbr S A x := List.take_of_length_le (by omega)
      rw [e] at hrow
      exact ⟨rfl, hrow, hfix⟩

end Go.Proofs.Qxb6605187a
