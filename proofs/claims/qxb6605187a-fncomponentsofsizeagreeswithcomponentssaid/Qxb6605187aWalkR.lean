import Derived.Test.Qxb6605187aWalkA
import Derived.Test.Qxb6605187aRoots
namespace Go.Proofs.Qxb6605187a
open Go.RowKit
set_option linter.unusedVariables false

set_option maxHeartbeats 400000 in
/-- findRoot -/
theorem find_any (pb c : Nat) (p : List Int) (x : Nat) (w : World) (hl : p.length ≤ 70000) (hF : Forest p) (hx : x < p.length) (r : IRow w pb 3 .i64 p) :
    Calls Try.prog 41 #[.slice (some ⟨pb, 0, none⟩) p.length c, .int .i64 x] w fun e w' => e = .returned (.int .i64 (rt p x)) ∧ w' = w := by
  have HF : Hid _ := hF
  clear hF
  go_enter Try.func41, Try.ntmps41
  go_wp2
  go_loop [1] (fun i => ∃ y : Nat, y < p.length ∧ i = .int .i64 y ∧ Hid (rt p y = rt p x)) (fun i => (intOf i).toNat)
  case atStart => exact ⟨x, hx, rfl, rfl⟩
  case round =>
    obtain ⟨y, hy, rfl, hrt⟩ := hrel
    have z := r.cell y hy
    have hf := HF.out y hy
    by_cases he : nth p y = y
    · have he' : (nth p y != (y : Int)) = false := by simp [he]
      have Hr : Hid (rt p x = y) := by unfold Hid; rw [← hrt.out]; exact rt_root he
      clear he
      go_wp2
      go_ret
      rw [Hr.out]
      exact ⟨rfl, rfl⟩
    · have he' : (nth p y != (y : Int)) = true := by simp [he]
      have Hs : Hid (rt p (nth p y).toNat = rt p x) := by unfold Hid; rw [← rt_step HF.out hy he]; exact hrt.out
      go_wp2
      go_round
      case rel => exact ⟨(nth p y).toNat, by omega, by go_num, Hs.out⟩
      case measure => simp [intOf]; omega

/-- what rootsOf leaves -/
def RootsPost (S A : List Int) (w : World) (e : Ending) (w' : World) : Prop :=
  ∃ rb R, w.heap.size ≤ rb ∧ e = .returned (.slice (some ⟨rb, 0, none⟩) R.length R.length) ∧ Roots S A R ∧ IRow w' rb 3 .i64 R ∧ Fix (fun b => b < w.heap.size) w w'

set_option maxHeartbeats 4000000 in
set_option maxRecDepth 100000 in
/-- rootsOf -/
theorem roots_any (U : Nat → Prop) (a0 a1 : Option Addr) (c0 c1 : Nat) (S A : List Int) (w : World) (hcsr : Csr S A) (hS : S.length ≤ 70000) (hA : A.length ≤ 70000) (hU : ∀ b, U b → b < w.heap.size)
    (v0 : View U w .i64 a0 S) (v1 : View U w .i32 a1 A) :
    Calls Try.prog 26 #[.slice a0 S.length c0, .slice a1 A.length c1] w (RootsPost S A w) := by
  have hl := hcsr.len
  have hmk := run_make_row' (P := Try.prog) 22 3 (.int .i64 0) 8 Try.underlying22 (by kernel_rfl) rfl .i64 .i64 (S.length - 1) (by omega) (by omega)
  have en : (S.length : Int) - 1 = ((S.length - 1 : Nat) : Int) := by omega
  have Hmk : Hid _ := hmk
  have Hcsr : Hid _ := hcsr
  have Hen : Hid _ := en
  obtain ⟨b0, o0, hb0, rfl, hc0⟩ := v0.at (by omega)
  have Hc0 : Hid (∀ (i : Nat), i < S.length → w.cell? ⟨b0, o0 + i, none⟩ = some (Value.int IntKind.i64 (nth S i))) := hc0
  clear hcsr hc0
  obtain ⟨n, hn⟩ : ∃ n, n = S.length - 1 := ⟨_, rfl⟩
  rw [← hn] at hmk en
  have Hn : Hid (n = S.length - 1) := hn
  have hn1 : n + 1 ≤ S.length := by omega
  have hn2 : S.length ≤ n + 1 := by omega
  clear hn Hmk Hen
  go_enter Try.func26, Try.ntmps26
  go_wp2
  clear en
  go_loopw [7] (fun i wr => ∃ k : Nat, k ≤ n ∧ i = .int .i64 k ∧ Fix (fun b => b < w.heap.size) w wr ∧ ∃ p : List Int, p.length = n ∧ IRow wr w.heap.size 3 .i64 p ∧ Hid (∀ j, j < k → nth p j = j)) (fun i _ => n - (intOf i).toNat)
  case atStart => exact ⟨0, Nat.zero_le _, rfl, (Fix.refl _ _).alloc (fun k hk => hk) _, List.replicate n 0, by simp, IRow.made w _ _ _, fun j hj => absurd hj (Nat.not_lt_zero _)⟩
  case round =>
    obtain ⟨k, hk, rfl, hfx, p, hpl, hrow, hp⟩ := hrel
    by_cases hlt : k < n
    · have z := hrow.cell k (by omega)
      have fz := hrow.frozen k
      have hrow' := hrow.set k (k : Int)
      have hfx' := hfx.setCell (p := ⟨w.heap.size, k, none⟩) (by simp) (.int .i64 (k : Int))
      have hp' : Hid (∀ j, j < k + 1 → nth (p.set k (k : Int)) j = j) := by
        intro j hj
        rw [nth_set _ _ _ _ (by omega)]
        by_cases e : j = k
        · rw [if_pos e, e]
        · rw [if_neg e]; exact hp.out j (by omega)
      have hpl' : Hid ((p.set k (k : Int)).length = n) := by unfold Hid; simpa using hpl
      clear hrow hfx hp hpl v0 v1 hmk
      go_wp2
      go_roundw
      case rel => exact ⟨k + 1, by omega, by go_num, hfx', _, hpl'.out, hrow', hp'.out⟩
      case measure => simp [intOf]; omega
    · have hUf : Uf S A n 0 0 p := Uf.zero S A hpl (fun x hx => hp.out x (by omega))
      obtain ⟨w1, rfl⟩ : ∃ w1 : World, w1 = wr := ⟨_, rfl⟩
      clear hp
      go_wp2
      go_loopw [8] (fun i wr => ∃ (k : Nat) (p : List Int), k ≤ n ∧ i = .int .i64 k ∧ Fix (fun b => b < w.heap.size) w wr ∧ Uf S A n k 0 p ∧ IRow wr w.heap.size 3 .i64 p) (fun i _ => n - (intOf i).toNat)
      case atStart => exact ⟨0, p, Nat.zero_le _, rfl, hfx, hUf, hrow⟩
      case round =>
        clear hfx hUf hrow hpl
        obtain ⟨q, p, hq, rfl, hfx, hUf, hrow⟩ := hrel
        by_cases hlq : q < n
        · have hqS : q + 1 < S.length := by omega
          have y0 := (hfx.cell (p := ⟨b0, o0 + q, none⟩) (hU b0 hb0)).trans (Hc0.out q (by omega))
          rw [← Hcsr.out.st q (by omega)] at y0
          have hnl := Hcsr.out.nbr_len q hqS
          have hmo := Hcsr.out.st_mono q hqS
          have hle := Hcsr.out.st_le (q + 1) hqS
          have Hnl2 : Hid ((nbr S A q).length = st S (q + 1) - st S q) := hnl
          have hnl70 : (nbr S A q).length ≤ 70000 := by omega
          have hb14 : decide ((q : Int) < (n : Int)) = true := by simp; omega
          obtain ⟨wo, rfl⟩ : ∃ wo : World, wo = wr := ⟨_, rfl⟩
          clear hnl
          go_wp2
          go_loopw [9] (fun i wr => ∃ (j : Nat) (p : List Int), j ≤ (nbr S A q).length ∧ i = .int .i64 (st S q + j : Nat) ∧ Fix (fun b => b < w.heap.size) w wr ∧ Uf S A n q j p ∧ IRow wr w.heap.size 3 .i64 p)
            (fun i _ => st S (q + 1) - (intOf i).toNat)
          case atStart => exact ⟨0, p, Nat.zero_le _, rfl, hfx, hUf, hrow⟩
          case round =>
            clear hfx hUf hrow y0
            obtain ⟨j, p, hj, rfl, hfx, hUf, hrow⟩ := hrel
            have y1' := (hfx.cell (p := ⟨b0, o0 + (q + 1), none⟩) (hU b0 hb0)).trans (Hc0.out (q + 1) hqS)
            rw [← Hcsr.out.st (q + 1) hqS] at y1'
            have hpl := hUf.len
            have Hpl : Hid (p.length = n) := hpl
            by_cases hlj : j < (nbr S A q).length
            · have hlt' : st S q + j < A.length := by have := Hnl2.out; omega
              have hlt2 : st S q + j < st S (q + 1) := by have := Hnl2.out; omega
              obtain ⟨b1, o1, hb1, rfl, hc1⟩ := v1.at (by omega)
              have z1 := (hfx.cell (p := ⟨b1, o1 + (st S q + j), none⟩) (hU b1 hb1)).trans (hc1 _ hlt')
              rw [← nth_nbr S A q j (by have := Hnl2.out; omega)] at z1
              have hr := Hcsr.out.nbr_range q hqS j hlj
              obtain ⟨u, hu⟩ : ∃ u : Nat, nth (nbr S A q) j = u := ⟨(nth (nbr S A q) j).toNat, by omega⟩
              have hUf2 := hUf
              rw [hu] at z1 hr
              have Hu : Hid (nth (nbr S A q) j = u) := hu
              have hun : u < p.length := by omega
              have hqp : q < p.length := by omega
              have f1 := find_any w.heap.size n p q wr (by omega) hUf.forest hqp hrow
              have f2 := find_any w.heap.size n p u wr (by omega) hUf.forest hun hrow
              rw [hpl] at f1 f2
              have F1 : Hid _ := f1
              have F2 : Hid _ := f2
              have l1 := rt_le hUf.forest hqp
              have l2 := rt_le hUf.forest hun
              have lb1 : rt p q < n := by omega
              have lb2 : rt p u < n := by omega
              clear hu f1 f2 hpl hc1
              by_cases hab : rt p q < rt p u
              · have zc := hrow.cell (rt p u) (by rw [Hpl.out]; exact lb2)
                have zf := hrow.frozen (rt p u)
                have hU' : Uf S A n q (j + 1) (p.set (rt p u) (rt p q : Int)) := hUf2.join (by omega) Hcsr.out hlq hlj hab (.inl ⟨rfl, by rw [Hu.out, Int.toNat_natCast]⟩)
                have hrow' := hrow.set (rt p u) (rt p q : Int)
                have hfx' := hfx.setCell (p := ⟨w.heap.size, rt p u, none⟩) (by simp) (.int .i64 (rt p q : Int))
                clear hrow hfx hUf hUf2 v0 v1 hmk
                go_wp2_with fail
                refine Calls.mono F1.out ?_
                rintro e w' ⟨rfl, rfl⟩
                go_wp2_with fail
                refine Calls.mono F2.out ?_
                rintro e w' ⟨rfl, rfl⟩
                go_wp2
                go_roundw
                case rel => exact ⟨j + 1, _, by omega, by go_num, hfx', hU', hrow'⟩
                case measure => simp [intOf]; omega
              · by_cases hba : rt p u < rt p q
                · have zc := hrow.cell (rt p q) (by rw [Hpl.out]; exact lb1)
                  have zf := hrow.frozen (rt p q)
                  have hU' : Uf S A n q (j + 1) (p.set (rt p q) (rt p u : Int)) := hUf2.join (by omega) Hcsr.out hlq hlj hba (.inr ⟨rfl, by rw [Hu.out, Int.toNat_natCast]⟩)
                  have hrow' := hrow.set (rt p q) (rt p u : Int)
                  have hfx' := hfx.setCell (p := ⟨w.heap.size, rt p q, none⟩) (by simp) (.int .i64 (rt p u : Int))
                  clear hrow hfx hUf hUf2 v0 v1 hmk
                  go_wp2_with fail
                  refine Calls.mono F1.out ?_
                  rintro e w' ⟨rfl, rfl⟩
                  go_wp2_with fail
                  refine Calls.mono F2.out ?_
                  rintro e w' ⟨rfl, rfl⟩
                  go_wp2
                  go_roundw
                  case rel => exact ⟨j + 1, _, by omega, by go_num, hfx', hU', hrow'⟩
                  case measure => simp [intOf]; omega
                · have hU' : Uf S A n q (j + 1) p := hUf2.same hlq (by rw [Hu.out, Int.toNat_natCast]; omega)
                  clear hUf hUf2 v0 v1 hmk
                  go_wp2_with fail
                  refine Calls.mono F1.out ?_
                  rintro e w' ⟨rfl, rfl⟩
                  go_wp2_with fail
                  refine Calls.mono F2.out ?_
                  rintro e w' ⟨rfl, rfl⟩
                  go_wp2
                  go_roundw
                  case rel => exact ⟨j + 1, p, by omega, by go_num, hfx, hU', hrow⟩
                  case measure => simp [intOf]; omega
            · have hlt2 : ¬ st S q + j < st S (q + 1) := by have := Hnl2.out; omega
              obtain rfl : j = (nbr S A q).length := by omega
              have hU' := hUf.up
              clear hUf hpl
              go_wp2
              go_roundw
              case rel => exact ⟨q + 1, p, by omega, by go_num, hfx, hU', hrow⟩
              case measure => simp [intOf]; omega
        · obtain rfl : q = n := by omega
          obtain ⟨w2, rfl⟩ : ∃ w2 : World, w2 = wr := ⟨_, rfl⟩
          have hpl := hUf.len
          have Hpl : Hid (p.length = q) := hpl
          have hs2 := hfx.size
          have hs3 : w.heap.size < w2.heap.size := Row.lt hrow
          have hF := hUf.forest
          have HF : Hid _ := hF
          have HUf : Hid _ := hUf
          clear hpl hF hUf
          go_wp2
          clear hmk
          go_loopw [13] (fun i wr => ∃ (k : Nat) (R : List Int), k ≤ q ∧ i = .int .i64 k ∧ Fix (fun b => b < w2.heap.size) w2 wr ∧ R.length = q ∧ IRow wr w2.heap.size 3 .i64 R ∧ Hid (∀ v, v < k → nth R v = rt p v)) (fun i _ => q - (intOf i).toNat)
          case atStart => exact ⟨0, List.replicate q 0, Nat.zero_le _, rfl, (Fix.refl _ _).alloc (fun k hk => hk) _, by simp, IRow.made _ _ _ _, fun j hj => absurd hj (Nat.not_lt_zero _)⟩
          case round =>
            obtain ⟨v, R, hv, rfl, hfR, hRl, hRrow, hR⟩ := hrel
            have hrow' : IRow wr w.heap.size 3 .i64 p := Row.fix hrow hfR hs3
            by_cases hlv : v < q
            · have f1 := find_any w.heap.size q p v wr (by have := Hpl.out; omega) HF.out (by have := Hpl.out; omega) hrow'
              rw [Hpl.out] at f1
              have F1 : Hid _ := f1
              have z := hRrow.cell v (by omega)
              have fz := hRrow.frozen v
              have hRrow' := hRrow.set v (rt p v : Int)
              have hfR' := hfR.setCell (p := ⟨w2.heap.size, v, none⟩) (by simp) (.int .i64 (rt p v : Int))
              have hR' : Hid (∀ u, u < v + 1 → nth (R.set v (rt p v : Int)) u = rt p u) := by
                intro u hu
                rw [nth_set _ _ _ _ (by omega)]
                by_cases e : u = v
                · rw [if_pos e, e]
                · rw [if_neg e]; exact hR.out u (by omega)
              have hRl' : Hid ((R.set v (rt p v : Int)).length = q) := by unfold Hid; simpa using hRl
              clear f1 hRrow hfR hR hRl hrow hrow' hfx v0 v1
              go_wp2_with fail
              refine Calls.mono F1.out ?_
              rintro e w' ⟨rfl, rfl⟩
              go_wp2
              go_roundw
              case rel => exact ⟨v + 1, _, by omega, by go_num, hfR', hRl'.out, hRrow', hR'.out⟩
              case measure => simp [intOf]; omega
            · obtain rfl : v = q := by omega
              have hroots : Roots S A R := HUf.out.roots (by have := Hn.out; omega) Hcsr.out hRl hR.out
              have HRl : Hid (R.length = v) := hRl
              clear hRl hR v0 v1
              go_wp2
              go_ret
              exact ⟨w2.heap.size, R, by omega, by rw [HRl.out]; rfl, hroots, hRrow, hfx.trans (hfR.mono fun b hb => by omega)⟩
end Go.Proofs.Qxb6605187a
