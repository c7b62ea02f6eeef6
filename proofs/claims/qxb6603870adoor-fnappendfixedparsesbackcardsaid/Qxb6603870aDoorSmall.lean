import Derived.Test.Qxb6603870aDoorFixed
namespace Go.Proofs.Qxb6603870aDoor
open Go.RowKit
set_option linter.unusedVariables false

/-- a bool comes back; nothing has turned -/
def SomeBool (w : World) (e : Ending) (w' : World) : Prop := ∃ b : Bool, e = .returned (.bool b) ∧ w' = w
theorem SomeBool.mk {w : World} (b : Bool) : SomeBool w (.returned (.bool b)) w := ⟨b, rfl, rfl⟩
/-- the law's end -/
def LawPost (w : World) (e : Ending) (w' : World) : Prop := e = .returned (.bool true) ∧ Fix (fun b => b < w.heap.size) w w'

set_option maxHeartbeats 400000 in
theorem bytes7 (a0 : Option Addr) (n0 c0 : Nat) (y z : Int) (w : World) (h0 : n0 ≤ maxLen) :
    Calls Tryd.prog 7 #[.slice a0 n0 c0, .int .i64 y, .int .i64 z] w (SomeBool w) := by
  unfold maxLen at *
  go_enter Tryd.func7, Tryd.ntmps7
  go_wp2
  all_goals
    go_ret
    exact SomeBool.mk _

set_option maxHeartbeats 400000 in
/-- cloneBytesB1 -/
theorem clone8 (U : Nat → Prop) (a : Option Addr) (cap : Nat) (xs : List Int) (w : World) (hl : xs.length ≤ 1048576)
    (hv : View U w .u8 a xs) (hU : ∀ k, U k → k < w.heap.size) :
    Calls Tryd.prog 8 #[.slice a xs.length cap] w fun e w' => ∃ a', e = .returned (.slice a' xs.length xs.length) ∧ Full w' a' xs ∧ Fix (fun b => b < w.heap.size) w w' := by
  have hmk := @run_make_row' Tryd.prog 22 5 (.int .u8 0) 1 Tryd.underlying22 (by kernel_rfl) rfl .i64 .i64 xs.length (by omega) (by omega)
  have hq := fun W a n c => Lib.run_eql_slice_nil (P := Tryd.prog) W 22 5 a n c 0 0 Tryd.underlying22
  cases a with
  | none =>
    have hx : xs = [] := by
      rcases hv with h | ⟨b, off, _, h, _⟩
      · exact h
      · cases h
    subst hx
    clear hmk
    go_enter Tryd.func8, Tryd.ntmps8
    go_wp2
    go_ret
    exact ⟨none, rfl, .inl ⟨rfl, rfl⟩, Fix.refl _ _⟩
  | some p =>
    go_enter Tryd.func8, Tryd.ntmps8
    go_wp2
    go_loopw [4] (fun i wr => ∃ k : Nat, k ≤ xs.length ∧ i = .int .i64 k ∧ Fix (fun b => b < w.heap.size) w wr ∧ ∃ ys : List Int, ys.length = xs.length ∧ IRow wr w.heap.size 5 .u8 ys ∧ ∀ j, j < k → nth ys j = nth xs j)
      (fun i _ => xs.length - (intOf i).toNat)
    case atStart =>
      exact ⟨0, Nat.zero_le _, rfl, (Fix.refl _ _).alloc (fun k hk => hk) _, List.replicate xs.length 0, by simp, IRow.made w _ _ _, fun j hj => absurd hj (Nat.not_lt_zero _)⟩
    case round =>
      obtain ⟨k, hk, rfl, hfix, ys, hyl, hrow, hys⟩ := hrel
      have Hys : Hid (∀ j, j < k → nth ys j = nth xs j) := hys
      clear hmk hq hys
      by_cases hlt : k < xs.length
      · obtain ⟨b, off, hb, hp, hc⟩ := hv.at (by omega)
        obtain rfl : p = ⟨b, off, none⟩ := by injection hp
        have hs := (hfix.cell (p := ⟨b, off + k, none⟩) (hU b hb)).trans (hc k hlt)
        have hd := hrow.cell k (by omega)
        have hf := hrow.frozen k
        clear hc hp hb hU hv
        go_wp2
        go_roundw
        case rel =>
          refine ⟨k + 1, by omega, by go_num, hfix.setCell (by simp) _, ys.set k (nth xs k), by simpa using hyl, hrow.set k _, fun j hj => ?_⟩
          rw [nth_set _ _ _ _ (by omega)]
          by_cases e : j = k
          · simp [e]
          · rw [if_neg e]; exact Hys.out j (by omega)
        case measure => simp [intOf]; omega
      · clear hv hU
        go_wp2
        go_ret
        have : ys = xs := nth_ext hyl (fun i hi => Hys.out i (by omega))
        exact ⟨_, rfl, .inr ⟨w.heap.size, rfl, this ▸ hrow⟩, hfix⟩

set_option maxHeartbeats 400000 in
/-- sameBytesB1, at two slices that read alike -/
theorem same_any (U : Nat → Prop) (a1 a2 : Option Addr) (c1 c2 : Nat) (xs : List Int) (w : World) (hl : xs.length ≤ 2097152) (v1 : View U w .u8 a1 xs) (v2 : View U w .u8 a2 xs) :
    Calls Tryd.prog 11 #[.slice a1 xs.length c1, .slice a2 xs.length c2] w fun e w' => e = .returned (.bool true) ∧ ∃ m, w' = w.drewN m := by
  go_enter Tryd.func11, Tryd.ntmps11
  go_wp2
  go_loopw [5] (fun i wr => ∃ k : Nat, k ≤ xs.length ∧ i = .int .i64 k ∧ Fix (fun _ => True) w wr ∧ Hid (∃ m, wr = w.drewN m)) (fun i _ => xs.length - (intOf i).toNat)
  case atStart => exact ⟨0, Nat.zero_le _, rfl, Fix.refl _ _, 0, rfl⟩
  case round =>
    obtain ⟨k, hk, rfl, hfx, hdr⟩ := hrel
    by_cases hlt : k < xs.length
    · obtain ⟨b1, o1, _, rfl, hc1⟩ := v1.at (by omega)
      obtain ⟨b2, o2, _, rfl, hc2⟩ := v2.at (by omega)
      have y1 := (hfx.cell (p := ⟨b1, o1 + k, none⟩) trivial).trans (hc1 k hlt)
      have y2 := (hfx.cell (p := ⟨b2, o2 + k, none⟩) trivial).trans (hc2 k hlt)
      have j1 : (k : Int) < (xs.length : Int) := by omega
      have hdr' : ∀ n, Hid (∃ m, wr.drewN n = w.drewN m) := by
        intro n
        obtain ⟨m, rfl⟩ := hdr.out
        exact ⟨m + n, by simp⟩
      clear hc1 hc2 hdr v1 v2
      go_wp2
      go_quiet (fail)
      go_wp2
      go_roundw
      case rel => exact ⟨k + 1, by omega, by go_num, hfx.drewN _, (hdr' _).out⟩
      case measure => simp [intOf]; omega
    · go_wp2
      go_ret
      exact ⟨rfl, hdr.out⟩

/-- magnitude64B1 -/
theorem mag_any (v : Int) (w : World) (hv : -9223372036854775808 ≤ v ∧ v ≤ 9223372036854775807) :
    Calls Tryd.prog 14 #[.int .i64 v] w fun e w' => e = .returned (.int .u64 (v.natAbs : Int)) ∧ w' = w := by
  by_cases h : v < 0
  · have hd : decide (v < 0) = true := by simp; omega
    have h1 : IntKind.i64.wrap (v + 1) = v + 1 := by rw [IntKind.wrap_i64]; omega
    have h2 : IntKind.i64.wrap (-(v + 1)) = -(v + 1) := by rw [IntKind.wrap_i64]; omega
    have h3 : IntKind.u64.wrap (-(v + 1)) = -(v + 1) := by rw [IntKind.wrap_u64]; omega
    have h4 : IntKind.u64.wrap (-(v + 1) + 1) = (v.natAbs : Int) := by rw [IntKind.wrap_u64]; omega
    go_enter Tryd.func14, Tryd.ntmps14
    go_wp2
    go_ret
    exact ⟨by first | rfl | congr 2, rfl⟩
  · have hd : decide (v < 0) = false := by simp; omega
    have h5 : IntKind.u64.wrap v = (v.natAbs : Int) := by rw [IntKind.wrap_u64]; omega
    go_enter Tryd.func14, Tryd.ntmps14
    go_wp2
    go_ret
    exact ⟨by first | rfl | (congr 2; omega) | congr 2, rfl⟩

/-- ZZappendFixed -/
theorem zz9_any (a : Option Addr) (xs : List Int) (v : Int) (p : Nat) (w : World) (hF : Full w a xs) (hx : xs.length ≤ 1048576) (hv : -9223372036854775808 ≤ v ∧ v ≤ 9223372036854775807) (hp : 1 ≤ p ∧ p ≤ 19) (htab : Lib.TabIs Tryd.prog w "internal/strconv.uint64pow10" .u64 Lib.pow10Tab) :
    Calls Tryd.prog 9 #[.slice a xs.length xs.length, .int .i64 v, .int .i64 p] w (ApPost w.heap.size xs.length (xs.map (Value.int .u8)) (fixedOf v p) w) := by
  have HC : Hid _ := fixed_any a xs v p w hF hx hv hp htab
  clear hF htab
  go_enter Tryd.func9, Tryd.ntmps9
  go_wp2_with fail
  refine Calls.mono HC.out ?_
  rintro e w1 ⟨v', rfl, h1, h2⟩
  go_wp2
  go_ret
  exact ⟨v', rfl, h1, h2⟩
end Go.Proofs.Qxb6603870aDoor
