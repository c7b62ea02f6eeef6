import Derived.Test.Qxb6605187aProg
import Derived.Test.Qxb6605187aKit
namespace Go.Proofs.Qxb6605187a
open Go.RowKit
set_option linter.unusedVariables false

set_option maxHeartbeats 400000 in
theorem clone11 (U : Nat → Prop) (a : Option Addr) (cap : Nat) (xs : List Int) (w : World) (hl : xs.length ≤ 70000)
    (hv : View U w .i64 a xs) (hU : ∀ k, U k → k < w.heap.size) :
    Calls Try.prog 11 #[.slice a xs.length cap] w fun e w' => ∃ a', e = .returned (.slice a' xs.length xs.length) ∧ OwnI w.heap.size w' 3 .i64 a' xs ∧ Fix (fun b => b < w.heap.size) w w' := by
  have hmk := @run_make_row' Try.prog 22 3 (.int .i64 0) 8 Try.underlying22 (by kernel_rfl) rfl .i64 .i64 xs.length (by omega) (by omega)
  have hq := fun W a n c => Lib.run_eql_slice_nil (P := Try.prog) W 22 3 a n c 0 0 Try.underlying22
  cases a with
  | none =>
    have hx : xs = [] := by
      rcases hv with h | ⟨b, off, _, h, _⟩
      · exact h
      · cases h
    subst hx
    clear hmk
    go_enter Try.func11, Try.ntmps11
    go_wp2
    go_ret
    exact ⟨none, rfl, .inl rfl, Fix.refl _ _⟩
  | some p =>
    go_enter Try.func11, Try.ntmps11
    go_wp2
    go_loopw [4] (fun i wr => ∃ k : Nat, k ≤ xs.length ∧ i = .int .i64 k ∧ Fix (fun b => b < w.heap.size) w wr ∧ ∃ ys : List Int, ys.length = xs.length ∧ IRow wr w.heap.size 3 .i64 ys ∧ ∀ j, j < k → nth ys j = nth xs j)
      (fun i _ => xs.length - (intOf i).toNat)
    case atStart =>
      exact ⟨0, Nat.zero_le _, rfl, (Fix.refl _ _).alloc (fun k hk => hk) _, List.replicate xs.length 0, by simp, IRow.made w _ _ _, fun j hj => absurd hj (Nat.not_lt_zero _)⟩
    case round =>
      obtain ⟨k, hk, rfl, hfix, ys, hyl, hrow, hys⟩ := hrel
      have Hys : Hid (∀ j, j < k → nth ys j = nth xs j) := hys
      clear hmk hq hys
      by_cases hlt : k < xs.length
      · obtain ⟨b, off, hb, hp, hc⟩ := hv.at (by omega)
        obtain rfl : p = ⟨b, off, none⟩ := by injection hp
        have hs := (hfix.cell (p := ⟨b, off + k, none⟩) (hU b hb)).trans (hc k hlt)
        have hd := hrow.cell k (by omega)
        have hf := hrow.frozen k
        clear hc hp hb hU hv
        go_wp2
        go_roundw
        case rel =>
          refine ⟨k + 1, by omega, by go_num, hfix.setCell (by simp) _, ys.set k (nth xs k), by simpa using hyl, hrow.set k _, fun j hj => ?_⟩
          rw [nth_set _ _ _ _ (by omega)]
          by_cases e : j = k
          · simp [e]
          · rw [if_neg e]; exact Hys.out j (by omega)
        case measure => simp [intOf]; omega
      · clear hv hU
        go_wp2
        go_ret
        have : ys = xs := nth_ext hyl (fun i hi => Hys.out i (by omega))
        exact ⟨_, rfl, .inr ⟨w.heap.size, Nat.le_refl _, rfl, this ▸ hrow⟩, hfix⟩

set_option maxHeartbeats 400000 in
theorem clone12 (U : Nat → Prop) (a : Option Addr) (cap : Nat) (xs : List Int) (w : World) (hl : xs.length ≤ 70000)
    (hv : View U w .i32 a xs) (hU : ∀ k, U k → k < w.heap.size) :
    Calls Try.prog 12 #[.slice a xs.length cap] w fun e w' => ∃ a', e = .returned (.slice a' xs.length xs.length) ∧ OwnI w.heap.size w' 21 .i32 a' xs ∧ Fix (fun b => b < w.heap.size) w w' := by
  have hmk := @run_make_row' Try.prog 23 21 (.int .i32 0) 4 Try.underlying23 (by kernel_rfl) rfl .i64 .i64 xs.length (by omega) (by omega)
  have hq := fun W a n c => Lib.run_eql_slice_nil (P := Try.prog) W 23 21 a n c 0 0 Try.underlying23
  cases a with
  | none =>
    have hx : xs = [] := by
      rcases hv with h | ⟨b, off, _, h, _⟩
      · exact h
      · cases h
    subst hx
    clear hmk
    go_enter Try.func12, Try.ntmps12
    go_wp2
    go_ret
    exact ⟨none, rfl, .inl rfl, Fix.refl _ _⟩
  | some p =>
    go_enter Try.func12, Try.ntmps12
    go_wp2
    go_loopw [4] (fun i wr => ∃ k : Nat, k ≤ xs.length ∧ i = .int .i64 k ∧ Fix (fun b => b < w.heap.size) w wr ∧ ∃ ys : List Int, ys.length = xs.length ∧ IRow wr w.heap.size 21 .i32 ys ∧ ∀ j, j < k → nth ys j = nth xs j)
      (fun i _ => xs.length - (intOf i).toNat)
    case atStart =>
      exact ⟨0, Nat.zero_le _, rfl, (Fix.refl _ _).alloc (fun k hk => hk) _, List.replicate xs.length 0, by simp, IRow.made w _ _ _, fun j hj => absurd hj (Nat.not_lt_zero _)⟩
    case round =>
      obtain ⟨k, hk, rfl, hfix, ys, hyl, hrow, hys⟩ := hrel
      have Hys : Hid (∀ j, j < k → nth ys j = nth xs j) := hys
      clear hmk hq hys
      by_cases hlt : k < xs.length
      · obtain ⟨b, off, hb, hp, hc⟩ := hv.at (by omega)
        obtain rfl : p = ⟨b, off, none⟩ := by injection hp
        have hs := (hfix.cell (p := ⟨b, off + k, none⟩) (hU b hb)).trans (hc k hlt)
        have hd := hrow.cell k (by omega)
        have hf := hrow.frozen k
        clear hc hp hb hU hv
        go_wp2
        go_roundw
        case rel =>
          refine ⟨k + 1, by omega, by go_num, hfix.setCell (by simp) _, ys.set k (nth xs k), by simpa using hyl, hrow.set k _, fun j hj => ?_⟩
          rw [nth_set _ _ _ _ (by omega)]
          by_cases e : j = k
          · simp [e]
          · rw [if_neg e]; exact Hys.out j (by omega)
        case measure => simp [intOf]; omega
      · clear hv hU
        go_wp2
        go_ret
        have : ys = xs := nth_ext hyl (fun i hi => Hys.out i (by omega))
        exact ⟨_, rfl, .inr ⟨w.heap.size, Nat.le_refl _, rfl, this ▸ hrow⟩, hfix⟩

set_option maxHeartbeats 400000 in
theorem clone13 (U : Nat → Prop) (a : Option Addr) (cap : Nat) (xs : List Bool) (w : World) (hl : xs.length ≤ 70000)
    (hv : ViewB U w a xs) (hU : ∀ k, U k → k < w.heap.size) :
    Calls Try.prog 13 #[.slice a xs.length cap] w fun e w' => ∃ a', e = .returned (.slice a' xs.length xs.length) ∧ OwnB w.heap.size w' a' xs ∧ Fix (fun b => b < w.heap.size) w w' := by
  have hmk := @run_make_row' Try.prog 24 4 (.bool false) 1 Try.underlying24 (by kernel_rfl) rfl .i64 .i64 xs.length (by omega) (by omega)
  have hq := fun W a n c => Lib.run_eql_slice_nil (P := Try.prog) W 24 4 a n c 0 0 Try.underlying24
  cases a with
  | none =>
    have hx : xs = [] := by
      rcases hv with h | ⟨b, off, _, h, _⟩
      · exact h
      · cases h
    subst hx
    clear hmk
    go_enter Try.func13, Try.ntmps13
    go_wp2
    go_ret
    exact ⟨none, rfl, .inl rfl, Fix.refl _ _⟩
  | some p =>
    go_enter Try.func13, Try.ntmps13
    go_wp2
    go_loopw [4] (fun i wr => ∃ k : Nat, k ≤ xs.length ∧ i = .int .i64 k ∧ Fix (fun b => b < w.heap.size) w wr ∧ ∃ ys : List Bool, ys.length = xs.length ∧ BRow wr w.heap.size ys ∧ ∀ j, j < k → nthB ys j = nthB xs j)
      (fun i _ => xs.length - (intOf i).toNat)
    case atStart =>
      exact ⟨0, Nat.zero_le _, rfl, (Fix.refl _ _).alloc (fun k hk => hk) _, List.replicate xs.length false, by simp, BRow.made w _, fun j hj => absurd hj (Nat.not_lt_zero _)⟩
    case round =>
      obtain ⟨k, hk, rfl, hfix, ys, hyl, hrow, hys⟩ := hrel
      have Hys : Hid (∀ j, j < k → nthB ys j = nthB xs j) := hys
      clear hmk hq hys
      by_cases hlt : k < xs.length
      · obtain ⟨b, off, hb, hp, hc⟩ := hv.at (by omega)
        obtain rfl : p = ⟨b, off, none⟩ := by injection hp
        have hs := (hfix.cell (p := ⟨b, off + k, none⟩) (hU b hb)).trans (hc k hlt)
        have hd := hrow.cell k (by omega)
        have hf := hrow.frozen k
        clear hc hp hb hU hv
        go_wp2
        go_roundw
        case rel =>
          refine ⟨k + 1, by omega, by go_num, hfix.setCell (by simp) _, ys.set k (nthB xs k), by simpa using hyl, hrow.set k _, fun j hj => ?_⟩
          rw [nthB_set _ _ _ _ (by omega)]
          by_cases e : j = k
          · simp [e]
          · rw [if_neg e]; exact Hys.out j (by omega)
        case measure => simp [intOf]; omega
      · clear hv hU
        go_wp2
        go_ret
        have : ys = xs := nthB_ext hyl (fun i hi => Hys.out i (by omega))
        exact ⟨_, rfl, .inr ⟨w.heap.size, Nat.le_refl _, rfl, this ▸ hrow⟩, hfix⟩

set_option maxHeartbeats 400000 in
theorem clone31 (U : Nat → Prop) (a : Option Addr) (cap : Nat) (xs : List Int) (w : World) (hl : xs.length ≤ 70000)
    (hv : View U w .u64 a xs) (hU : ∀ k, U k → k < w.heap.size) :
    Calls Try.prog 31 #[.slice a xs.length cap] w fun e w' => ∃ a', e = .returned (.slice a' xs.length xs.length) ∧ OwnI w.heap.size w' 47 .u64 a' xs ∧ Fix (fun b => b < w.heap.size) w w' := by
  have hmk := @run_make_row' Try.prog 46 47 (.int .u64 0) 8 Try.underlying46 (by kernel_rfl) rfl .i64 .i64 xs.length (by omega) (by omega)
  have hq := fun W a n c => Lib.run_eql_slice_nil (P := Try.prog) W 46 47 a n c 0 0 Try.underlying46
  cases a with
  | none =>
    have hx : xs = [] := by
      rcases hv with h | ⟨b, off, _, h, _⟩
      · exact h
      · cases h
    subst hx
    clear hmk
    go_enter Try.func31, Try.ntmps31
    go_wp2
    go_ret
    exact ⟨none, rfl, .inl rfl, Fix.refl _ _⟩
  | some p =>
    go_enter Try.func31, Try.ntmps31
    go_wp2
    go_loopw [4] (fun i wr => ∃ k : Nat, k ≤ xs.length ∧ i = .int .i64 k ∧ Fix (fun b => b < w.heap.size) w wr ∧ ∃ ys : List Int, ys.length = xs.length ∧ IRow wr w.heap.size 47 .u64 ys ∧ ∀ j, j < k → nth ys j = nth xs j)
      (fun i _ => xs.length - (intOf i).toNat)
    case atStart =>
      exact ⟨0, Nat.zero_le _, rfl, (Fix.refl _ _).alloc (fun k hk => hk) _, List.replicate xs.length 0, by simp, IRow.made w _ _ _, fun j hj => absurd hj (Nat.not_lt_zero _)⟩
    case round =>
      obtain ⟨k, hk, rfl, hfix, ys, hyl, hrow, hys⟩ := hrel
      have Hys : Hid (∀ j, j < k → nth ys j = nth xs j) := hys
      clear hmk hq hys
      by_cases hlt : k < xs.length
      · obtain ⟨b, off, hb, hp, hc⟩ := hv.at (by omega)
        obtain rfl : p = ⟨b, off, none⟩ := by injection hp
        have hs := (hfix.cell (p := ⟨b, off + k, none⟩) (hU b hb)).trans (hc k hlt)
        have hd := hrow.cell k (by omega)
        have hf := hrow.frozen k
        clear hc hp hb hU hv
        go_wp2
        go_roundw
        case rel =>
          refine ⟨k + 1, by omega, by go_num, hfix.setCell (by simp) _, ys.set k (nth xs k), by simpa using hyl, hrow.set k _, fun j hj => ?_⟩
          rw [nth_set _ _ _ _ (by omega)]
          by_cases e : j = k
          · simp [e]
          · rw [if_neg e]; exact Hys.out j (by omega)
        case measure => simp [intOf]; omega
      · clear hv hU
        go_wp2
        go_ret
        have : ys = xs := nth_ext hyl (fun i hi => Hys.out i (by omega))
        exact ⟨_, rfl, .inr ⟨w.heap.size, Nat.le_refl _, rfl, this ▸ hrow⟩, hfix⟩

end Go.Proofs.Qxb6605187a
