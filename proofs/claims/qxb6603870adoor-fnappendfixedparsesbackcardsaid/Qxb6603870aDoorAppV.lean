import Derived.Test.Qxb6603870aDoorAppU
import Derived.ArgAppend
import Derived.Lib.AppendZeros
namespace Go.Proofs.Qxb6603870aDoor
open Go.RowKit Go.Sort
set_option linter.unusedVariables false

/-- what an append of the bytes l leaves, where the row lies at B or above: the row owns them too; below B nothing has turned -/
def ApPost (B n : Nat) (xs : List Value) (l : List Int) (w : World) (e : Ending) (w' : World) : Prop :=
  ∃ v', e = .returned v' ∧ w'.ownsRow B 5 1 v' (n + l.length) (xs ++ l.map (Value.int .u8)) ∧ Below B w w'

theorem owns_base {w : World} {A B : Nat} {v : Value} {n : Nat} {xs : List Value} (h : w.ownsRow A 5 1 v n xs) (hAB : B ≤ A) : w.ownsRow B 5 1 v n xs := by
  refine ⟨h.1, ?_⟩
  rcases h.2 with h | ⟨g, cap, cur, a, b, c⟩
  · exact .inl h
  · exact .inr ⟨g, cap, cur, a, Nat.le_trans hAB b, c⟩

/-- a string is appended to a full row: a new row is laid -/
theorem run_full_string (w : World) (ty : TypeId) (i : TypeInfo) (hi : Tryd.prog.info? 5 = some i) (hz : i.zero = some (.int .u8 0)) (hsize : i.size = 1) (hby : i.bytes = 1) (b : Addr) (n : Nat) (xs : List Value) (hxl : xs.length = n) (holds : ∀ j v, xs[j]? = some v → w.cell? (b.add j) = some v) (s : ByteArray) (h0 : 0 < s.size) (h47 : n + s.size ≤ 140737488355328) :
    ∃ v' w', (Builtin.append_ #[22, 9] ty #[.slice (some b) n n, .string s]).run Tryd.prog w = .ok v' w' ∧ w'.ownsRow w.heap.size 5 1 v' (n + s.size) (xs ++ Lib.strCells s) ∧ Below w.heap.size w w' := by
  have hr := Lib.run_append_grow_string (P := Tryd.prog) w 22 9 ty 5 i (.int .u8 0) Tryd.underlying22 Tryd.underlying9 hi hz b n n xs (by rw [hsize]; simpa using hxl) holds s (by omega) (by omega) (by rw [hby]; exact growslice_fits (by omega) (by omega))
  have hlen : (xs ++ Lib.strCells s).length = (n + s.size) * 1 := by rw [List.length_append, hxl, Lib.strCells_length, Nat.mul_one]
  have hge := grownCap_ge w (n + s.size) n 5
  have hcm : grownCap w (n + s.size) n 5 ≤ maxLen := grownCap_le_maxLen w (n + s.size) n 5 (by unfold maxLen; omega)
  refine ⟨_, _, hr, ⟨hlen, .inr ⟨w.heap.size, _, _, rfl, Nat.le_refl _, heap_alloc_new w.drew _, hge, hcm, ?_, ?_⟩⟩, ⟨rfl, rfl, rfl, by simp, fun k hk => Below.heap_alloc w.drew _ k hk⟩⟩
  · have hz1 : (Value.int IntKind.u8 0).cells.size = 1 := rfl
    simp only [Array.size_append, List.size_toArray, size_zeroCells, hz1, hxl, Lib.strCells_length]
    omega
  · simp only [Array.toList_append, List.append_assoc]
    rw [← List.append_assoc, ← hlen]
    exact List.take_left

set_option maxHeartbeats 4000000 in
set_option maxRecDepth 100000 in
theorem appf_small (b : Addr) (n u : Nat) (hu : u < 100) (xs : List Value) (w : World) (hxl : xs.length = n) (holds : ∀ j v, xs[j]? = some v → w.cell? (b.add j) = some v) (hlim : n + 20 ≤ 140737488355328) :
    Calls Tryd.prog 30 #[.slice (some b) n n, .int .u64 u, .int .i64 10] w (ApPost w.heap.size n xs (dig u) w) := by
  obtain ⟨i0, hi, hz0, hz1, hz2⟩ := info_parts Tryd.i5
  have hlen : (Lib.decDigits u).length ≤ 20 := by
    rw [len_dig]
    have := dig_len_pow u 2 (by omega) (by omega)
    omega
  have hpos : 1 ≤ (Lib.decDigits u).length := by rw [len_dig]; exact dig_pos u
  have hsz : (⟨(Lib.decDigits u).toArray⟩ : ByteArray).size = (Lib.decDigits u).length := by simp [ByteArray.size]
  obtain ⟨v', w', hrun, hown, hbel⟩ := run_full_string w 22 i0 hi hz0 hz1 hz2 b n xs hxl holds ⟨(Lib.decDigits u).toArray⟩ (by omega) (by omega)
  have hcells : Lib.strCells ⟨(Lib.decDigits u).toArray⟩ = (dig u).map (Value.int .u8) := cells_dig u
  rw [hcells, hsz, len_dig] at hown
  clear hcells
  go_enter Tryd.func30, Tryd.ntmps30
  go_wp2_with (first
    | (go_at_call 36; refine (Tryd.internal_strconv_small u hu _).mono ?_; rintro e w2 ⟨rfl, rfl⟩)
    | (at_builtin; refine Lib.wpList_append_run _ rfl _ _ 22 9 rfl _ _ rfl rfl v' w' hrun ?_))
  go_ret
  exact ⟨v', rfl, hown, hbel⟩

set_option maxHeartbeats 12800000 in
set_option maxRecDepth 100000 in
theorem appf_big (b : Addr) (n u : Nat) (hu : 100 ≤ u) (hu64 : u < 18446744073709551616) (xs : List Value) (w : World) (hxl : xs.length = n) (holds : ∀ j v, xs[j]? = some v → w.cell? (b.add j) = some v) (hb : b.block < w.heap.size) (hlim : n + 20 ≤ 140737488355328)
    (htab : Lib.TabIs Tryd.prog w "internal/strconv.uint64pow10" .u64 Lib.pow10Tab) :
    Calls Tryd.prog 30 #[.slice (some b) n n, .int .u64 u, .int .i64 10] w (ApPost w.heap.size n xs (dig u) w) := by
  obtain ⟨i0, hi, hz0, hz1, hz2⟩ := info_parts Tryd.i5
  have hu1 : 1 ≤ u := by omega
  have hnd20 : Lib.nDigits u ≤ 20 := by have := Lib.numDigits_eq u hu1 hu64; split at this <;> omega
  have hnd1 : 1 ≤ Lib.nDigits u := by rw [← Lib.decDigits_length, len_dig]; exact dig_pos u
  have hal : Tryd.prog.arrayLen 59 = 24 := by kernel_rfl
  have hsl : ∀ W, (Instr.sliceAt 59 (.pointer (some ⟨w.heap.size, 0, none⟩)) none (some (.int .i64 (Lib.nDigits u : Int))) none).run Tryd.prog W = .ok (.slice (some ⟨w.heap.size, 0, none⟩) (Lib.nDigits u) 24) W := fun W => by
    rw [run_sliceAt_array_h W 59 ⟨w.heap.size, 0, none⟩ (by kernel_rfl) .i64 (Lib.nDigits u : Int) (by omega) (by rw [hal]; omega)]
    go_simp
  have hH0 := Lib.holds_zero0 w 59 (Lib.nDigits u) (by omega)
  have hfmt := Tryd.internal_strconv_formatBase10 w.heap.size 0 24 u (Array.replicate (Lib.nDigits u) 0) (w.alloc (.cells Lib.zeros24 59)) hH0 (by rw [Array.size_replicate]; exact Lib.lt_pow_nDigits u) hu64 (by rw [Array.size_replicate]; omega)
  rw [Array.size_replicate] at hfmt
  have HH0 := Lib.hid hH0
  have Hholds := Lib.hid holds
  have iu : (100 : Int) ≤ (u : Int) := by omega
  clear hH0 hal holds
  go_enter Tryd.func30, Tryd.ntmps30
  go_wp2_with (first
    | (go_at_call 37; refine (Tryd.internal_strconv_numDigits u hu1 hu64 _ (Lib.tabIs_alloc htab _)).mono ?_; rintro e w' ⟨rfl, rfl⟩))
  go_at_call 38
  refine hfmt.mono ?_
  rintro e w' ⟨rfl, k, v', dk, rfl, hF⟩
  have hcells : ∀ j u', (Lib.byteCells (Lib.decDigits u))[j]? = some u' → ((putRow (fun (b : UInt8) => Value.int .u8 (b.toNat : Int)) (w.alloc (.cells Lib.zeros24 59)) w.heap.size 0 dk).drewN k).cell? ((⟨w.heap.size, 0, none⟩ : Addr).add j) = some u' := by
    intro j u' hj
    have hjl : j < (Lib.decDigits u).length := by
      have h5 := (List.getElem?_eq_some_iff.1 hj).1
      rwa [Lib.byteCells_length] at h5
    have e5 : (Lib.byteCells (Lib.decDigits u))[j]? = some (Value.int .u8 ((Lib.decDigits u)[j].toNat : Int)) := by simp [Lib.byteCells, hjl]
    rw [e5] at hj
    cases hj
    rw [Lib.row_is_numeral hF j hjl, Lib.add_plain, World.cell?_drewN]
    exact cell?_putRow (fun (b : UInt8) => Value.int .u8 (b.toNat : Int)) _ w.heap.size 0 _ dk HH0.out (by rw [hF.size, Array.size_replicate]) j (by rw [hF.size]; rw [Lib.decDigits_length] at hjl; exact hjl)
  obtain ⟨os, eo⟩ := Lib.fin_at w (.cells Lib.zeros24 59) dk k 0
  have hnx2 : Below w.heap.size w ((putRow (fun (b : UInt8) => Value.int .u8 (b.toNat : Int)) (w.alloc (.cells Lib.zeros24 59)) w.heap.size 0 dk).drewN k) := by rw [eo]; exact Lib.below_grow w.heap.size w (Nat.le_refl _) k os
  generalize (putRow (fun (b : UInt8) => Value.int .u8 (b.toNat : Int)) (w.alloc (.cells Lib.zeros24 59)) w.heap.size 0 dk).drewN k = W2 at hcells hnx2 ⊢
  have hsz2 := hnx2.size
  have hold2 : ∀ bb, some b = some bb → ∀ j v, xs[j]? = some v → W2.cell? (bb.add j) = some v := by
    intro bb hbb j v hj
    injection hbb with hbb
    subst hbb
    have hblk : (b.add j).block = b.block := by unfold Addr.add; split <;> rfl
    rw [hnx2.cell (by rw [hblk]; exact hb)]
    exact Hholds.out j v hj
  clear eo HH0 hfmt
  go_wp2_with (at_builtin; refine wpList_append_grows _ rfl _ _ 22 rfl 5 i0 (.int .u8 0) 1 1 Tryd.underlying22 hi hz0 hz1 hz2 rfl (by decide) (some b) n n xs rfl (fun h => by cases h) (by rw [Nat.mul_one]; exact hxl) hold2 ⟨w.heap.size, 0, none⟩ (Lib.nDigits u) 24 (Lib.byteCells (Lib.decDigits u)) rfl ?c0 hcells ?c2 ?c1 ?c3 ?c4 ?_)
  case c0 => rw [Lib.byteCells_length, Lib.decDigits_length, Nat.mul_one]
  case c2 => intro u' hu'; simp only [Lib.byteCells, List.mem_map] at hu'; obtain ⟨b, _, rfl⟩ := hu'; rfl
  case c1 => omega
  case c3 => unfold maxLen; omega
  case c4 => omega
  intro v2 w3 hown' hgrow
  rw [← Lib.decDigits_length, len_dig, cells_dig] at hown'
  have hown3 := owns_base hown' hsz2
  have hbel3 : Below w.heap.size w w3 := ⟨hgrow.os.trans hnx2.os, hgrow.tape.trans hnx2.tape, hgrow.output.trans hnx2.output, Nat.le_trans hsz2 hgrow.size, fun i hi => (hgrow.block i (Nat.lt_of_lt_of_le hi hsz2) (by simp)).trans (hnx2.block i hi)⟩
  go_wp2
  go_ret
  exact ⟨v2, rfl, hown3, hbel3⟩

theorem wrap25 (sv : Value) (u : Nat) (w : World) (B n : Nat) (xs : List Value) (l : List Int) (h : Calls Tryd.prog 30 #[sv, .int .u64 u, .int .i64 10] w (ApPost B n xs l w)) : Calls Tryd.prog 25 #[sv, .int .u64 u, .int .i64 10] w (ApPost B n xs l w) := by
  have HC : Hid _ := h
  clear h
  go_enter Tryd.func25, Tryd.ntmps25
  go_wp2_with fail
  refine Calls.mono HC.out ?_
  rintro e w1 ⟨v', rfl, h1, h2⟩
  go_wp2
  go_ret
  exact ⟨v', rfl, h1, h2⟩
/-- strconv.AppendUint at base 10, at a full row -/
theorem appu_full (b : Addr) (n u : Nat) (hu64 : u < 18446744073709551616) (xs : List Value) (w : World) (hxl : xs.length = n) (holds : ∀ j v, xs[j]? = some v → w.cell? (b.add j) = some v) (hb : b.block < w.heap.size) (hlim : n + 20 ≤ 140737488355328)
    (htab : Lib.TabIs Tryd.prog w "internal/strconv.uint64pow10" .u64 Lib.pow10Tab) :
    Calls Tryd.prog 25 #[.slice (some b) n n, .int .u64 u, .int .i64 10] w (ApPost w.heap.size n xs (dig u) w) := by
  refine wrap25 _ _ _ _ _ _ _ ?_
  by_cases h : u < 100
  · exact appf_small b n u h xs w hxl holds hlim
  · exact appf_big b n u (by omega) hu64 xs w hxl holds hb hlim htab
/-- .. at a row of the call's own, at B or above -/
theorem appu_own (B n u : Nat) (hu64 : u < 18446744073709551616) (sv : Value) (xs : List Value) (w : World) (hown : w.ownsRow B 5 1 sv n xs) (hBw : B ≤ w.heap.size) (hlim : n + 20 ≤ 140737488355328)
    (htab : Lib.TabIs Tryd.prog w "internal/strconv.uint64pow10" .u64 Lib.pow10Tab) :
    Calls Tryd.prog 25 #[sv, .int .u64 u, .int .i64 10] w (ApPost B n xs (dig u) w) := by
  refine wrap25 _ _ _ _ _ _ _ ((Tryd.internal_strconv_AppendUint_10 B n u hu64 sv xs w hown hBw hlim htab).mono ?_)
  rintro e w' ⟨v', rfl, h1, h2, _⟩
  rw [len_dig, cells_dig] at h1
  exact ⟨v', rfl, h1, h2⟩
end Go.Proofs.Qxb6603870aDoor
