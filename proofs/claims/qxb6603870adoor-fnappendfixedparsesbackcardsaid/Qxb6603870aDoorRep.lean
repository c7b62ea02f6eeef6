import Derived.Test.Qxb6603870aDoorShelf
import Derived.Test.Qxb6603870aDoorKit
import Derived.Lib.MakeNoZero
import Derived.Laws.CopyOwn
import Derived.Laws.Externs
import Derived.Deep.Cut
import Derived.OwnWalk
import Derived.Lib.Hide
import Derived.Lib.ItoaMem
namespace Go.Proofs.Qxb6603870aDoor
open Go.RowKit
set_option linter.unusedVariables false

/-- k zeros (as bytes) come back, in new memory -/
def RepPost (k : Nat) (w : World) (e : Ending) (w' : World) : Prop :=
  ∃ b cap, e = .returned (.slice (some ⟨b, 0, none⟩) k cap) ∧ (∀ j, j < k → w'.cell? ⟨b, j, none⟩ = some (.int .u8 48)) ∧ Below w.heap.size w w'

theorem splice_at {α : Type} (L : List α) (off : Nat) (cs : List α) (h : off + cs.length ≤ L.length) (j : Nat) : (splice L off cs)[j]? = if j < off then L[j]? else if j < off + cs.length then cs[j - off]? else L[j]? := by
  unfold splice
  by_cases h1 : j < off
  · rw [if_pos h1, List.getElem?_append_left (by simp; omega), List.getElem?_take, if_pos h1]
  · rw [if_neg h1, List.getElem?_append_right (by simp; omega)]
    have e : (L.take off).length = off := by simp; omega
    rw [e]
    by_cases h2 : j < off + cs.length
    · rw [if_pos h2, List.getElem?_append_left (by omega)]
    · rw [if_neg h2, List.getElem?_append_right (by omega), List.getElem?_drop]
      congr 1
      omega

set_option maxHeartbeats 4000000 in
set_option maxRecDepth 100000 in
/-- bytes.Repeat of one '0' -/
theorem rep_any (bb k : Nat) (w : World) (hk : k ≤ 18) (hc : w.cell? ⟨bb, 0, none⟩ = some (.int .u8 48)) :
    Calls Tryd.prog 26 #[.slice (some ⟨bb, 0, none⟩) 1 1, .int .i64 k] w (RepPost k w) := by
  by_cases h0 : k = 0
  · subst h0
    go_enter Tryd.func26, Tryd.ntmps26
    go_wp2
    go_ret
    exact ⟨_, _, rfl, fun j hj => absurd hj (Nat.not_lt_zero _), ⟨rfl, rfl, rfl, by simp, fun i hi => Below.heap_alloc _ _ _ hi⟩⟩
  · have hm := Tryd.bits_Mul 1 k (by omega) (by omega) w
    rw [show 1 * k / 18446744073709551616 = 0 by omega, show 1 * k % 18446744073709551616 = k by omega] at hm
    have HM : Hid _ := hm
    obtain ⟨cs, hrunM, hle, _⟩ := Lib.run_makeNoZero (P := Tryd.prog) w #[3] 22 5 Tryd.underlying22 k (by omega)
    have hcall : (callFunc 32 #[.int .i64 (k : Int)]).run Tryd.prog w = .ok (.value (.slice (some ⟨w.heap.size, 0, none⟩) k cs.size)) ((w.alloc (.cells cs 5)).drewN 2) := by
      rw [run_callFunc_extern Tryd.func32 (by kernel_rfl) (by kernel_rfl) (by kernel_rfl) (e := Extern.BytealgMakeNoZero.makeNoZero #[3] #[22]) (by kernel_rfl), hrunM]
      rfl
    have hs5 : (Tryd.prog.info? 5).map (·.size) = some 1 := by kernel_rfl
    have i1 : (k : Int) ≤ (cs.size : Int) := by omega
    have hbl : bb < w.heap.size := World.block_lt_of_cell? w ⟨bb, 0, none⟩ hc
    have hb0 : Below w.heap.size w ((w.alloc (.cells cs 5)).drewN 2) := ⟨rfl, rfl, rfl, by simp, fun i hi => Below.heap_alloc _ _ _ hi⟩
    have hr0 : ((w.alloc (.cells cs 5)).drewN 2).heap[w.heap.size]? = some (.cells cs.toList.toArray 5 (0, 0)) := heap_alloc_new _ _
    have hc0 : ((w.alloc (.cells cs 5)).drewN 2).cell? ⟨bb, 0, none⟩ = some (.int .u8 48) := by rw [hb0.cell hbl]; exact hc
    clear hrunM hm
    have k1 : (1 : Int) ≤ (k : Int) := by omega
    go_enter Tryd.func26, Tryd.ntmps26
    go_wp2_with fail
    refine Calls.mono HM.out ?_
    rintro e w1 ⟨rfl, rfl⟩
    go_upto_region 17 with fail
    generalize (w1.alloc (.cells cs 5)).drewN 2 = w2 at *
    clear hcall
    obtain ⟨H, hH⟩ : ∃ H, w1.heap.size = H := ⟨_, rfl⟩
    have HH : Hid (w1.heap.size = H) := hH
    rw [hH] at hr0 hb0 hbl ⊢
    have hsrc : ∀ (j : Nat) (v : Value), [Value.int .u8 48][j]? = some v → w2.cell? ((⟨bb, 0, none⟩ : Addr).add j) = some v := by
      intro j v hj
      have e : j = 0 := by have := (List.getElem?_eq_some_iff.1 hj).1; simp at this; omega
      subst e
      simp at hj
      rw [← hj]; simpa [Addr.add] using hc0
    have Hsrc : Hid _ := hsrc
    have hcl : cs.toList.length = cs.size := by simp
    have Hcl : Hid _ := hcl
    obtain ⟨L0, hL0⟩ : ∃ L0, cs.toList = L0 := ⟨_, rfl⟩
    rw [hL0] at hr0
    have hL0l : k ≤ L0.length := by rw [← hL0]; omega
    have Ha1 : Hid ([Value.int .u8 48].length = Nat.min 1 k) := by show 1 = min 1 k; omega
    have Ha2 : Hid (0 + [Value.int .u8 48].length ≤ L0.length) := by show 0 + 1 ≤ L0.length; omega
    have Ha3 : Hid (∀ v ∈ [Value.int .u8 48], v.oneCell' = true) := by intro v hv; simp at hv; subst hv; rfl
    clear hsrc hcl hL0
    go_wp2_with (refine wpList_copy_splice rfl (.tmp 58) (.tmp 59) 22 22 rfl 5 Tryd.underlying22 hs5 (some ⟨H, 0, none⟩) (some ⟨bb, 0, none⟩) k k 1 1 rfl rfl H 0 L0 5 hr0 [.int .u8 48] Ha1.out (fun _ => ⟨rfl, ⟨bb, 0, none⟩, rfl, Hsrc.out⟩) Ha2.out Ha3.out H w1 hb0 (Nat.le_refl _) ?_; intro w3 hg3 hb3; refine Hid.out ?_)
    refine Lib.hid ?_
    have hI3 : Hid (k ≤ (splice L0 0 [Value.int .u8 48]).length ∧ ∀ j, j < 1 → (splice L0 0 [Value.int .u8 48])[j]? = some (.int .u8 48)) := by
      refine ⟨by rw [length_splice _ _ _ (by simp; omega)]; exact hL0l, fun j hj => ?_⟩
      rw [splice_at _ _ _ (by simp; omega), if_neg (by omega), if_pos (by simp; omega), show j - 0 = 0 by omega]
      rfl
    clear hb0 hr0 hc0 hc hH
    go_wp2
    go_loopw [10] (fun i wr => ∃ (bp : Nat) (cur : List Value), 1 ≤ bp ∧ bp ≤ k ∧ i = .int .i64 bp ∧ Below H w1 wr ∧ Hid (wr.heap[H]? = some (.cells cur.toArray 5 (0, 0))) ∧ Hid (k ≤ cur.length ∧ ∀ j, j < bp → cur[j]? = some (.int .u8 48))) (fun i _ => k - (intOf i).toNat)
    case atStart => exact ⟨1, _, Nat.le_refl _, by omega, rfl, hb3, hg3, hI3⟩
    case round =>
      clear hb3 hg3 hI3
      obtain ⟨bp, cur, h1, h2, rfl, hb, hg, hI⟩ := hrel
      by_cases hlt : bp < k
      · obtain ⟨c, hcd⟩ : ∃ c, c = min bp (k - bp) := ⟨_, rfl⟩
        have hc1 : 1 ≤ c := by omega
        have hc2 : bp + c ≤ k := by omega
        have hc3 : c ≤ bp := by omega
        obtain ⟨Z, hZ⟩ : ∃ Z, Z = List.replicate c (Value.int .u8 48) := ⟨_, rfl⟩
        have hZl : Z.length = c := by rw [hZ]; simp
        have HZl : Hid (Z.length = c) := hZl
        have hn : Hid (Z.length = Nat.min bp (k - bp)) := by unfold Hid; rw [hZl, hcd]
        have hsZ : Hid (∀ j v, Z[j]? = some v → wr.cell? ((⟨H, 0, none⟩ : Addr).add j) = some v) := by
          intro j v hj
          rw [hZ, List.getElem?_replicate] at hj
          split at hj
          · rename_i hjc
            cases hj
            have hrow : Row wr H 5 cur := hg.out
            have := hrow.cell j
            rw [hI.out.2 j (by omega)] at this
            rw [Lib.add_plain, Nat.zero_add]
            exact this
          · cases hj
        have hbd : Below H w1 wr.drew := ⟨hb.os, hb.tape, hb.output, hb.size, hb.block⟩
        have hfit : Hid (bp + Z.length ≤ cur.length) := by have := hI.out.1; unfold Hid; omega
        have h1c : Hid (∀ v ∈ Z, v.oneCell' = true) := by
          intro v hv
          rw [hZ] at hv
          rw [(List.mem_replicate.1 hv).2]; rfl
        have hI' : Hid (k ≤ (splice cur bp Z).length ∧ ∀ j, j < bp + c → (splice cur bp Z)[j]? = some (.int .u8 48)) := by
          refine ⟨by rw [length_splice _ _ _ hfit.out]; exact hI.out.1, fun j hj => ?_⟩
          rw [splice_at _ _ _ hfit.out]
          by_cases e : j < bp
          · rw [if_pos e]; exact hI.out.2 j e
          · rw [if_neg e, if_pos (by omega), hZ, List.getElem?_replicate, if_pos (by omega)]
        have hwr : IntKind.i64.wrap ((bp : Int) + (c : Int)) = ((bp + c : Nat) : Int) := by rw [IntKind.wrap_i64]; omega
        have m1 : min (bp : Int) (k : Int) = bp := by omega
        have m2 : ¬ k = bp := by omega
        have hgi : Hid (goInt Z.length = .int .i64 (c : Int)) := by unfold Hid; rw [hZl]; rfl
        clear hcd hZ hZl hI
        go_wp2
        go_region_law (refine step_copy_splice rfl (.tmp 70) (.tmp 73) 22 22 rfl 5 Tryd.underlying22 hs5 (some ⟨H, bp, none⟩) (some ⟨H, 0, none⟩) (k - bp) (k - bp) bp k (by simp [Act.eval, Act.put]) (by simp [Act.eval, Act.put]) H bp cur 5 hg.out Z hn.out (fun _ => ⟨rfl, ⟨H, 0, none⟩, rfl, hsZ.out⟩) hfit.out h1c.out H w1 hbd (Nat.le_refl _) ?_; intro w4 hg4 hb4)
        all_goals
          have hZ2 := HZl.out
          simp only [List.getElem_toArray, List.getElem_cons_succ, List.getElem_cons_zero, Act.put, List.setIfInBounds_toArray, List.set_cons_zero, List.set_cons_succ, hZ2, hwr]
          clear hZ2
          go_wp2
          go_roundw
          case rel => exact ⟨bp + c, _, by omega, by omega, by go_num, hb4, hg4.out, hI'.out⟩
          case measure => simp [intOf]; omega
      · go_wp2
        go_ret
        have hrow : Row wr H 5 cur := hg.out
        refine ⟨H, k, rfl, fun j hj => ?_, ?_⟩
        · rw [hrow.cell j]; exact hI.out.2 j (by omega)
        · rw [HH.out]; exact hb
end Go.Proofs.Qxb6603870aDoor
