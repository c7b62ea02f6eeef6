import Derived.Test.Qxb6605187aWalkC
namespace Go.Proofs.Qxb6605187a
open Go.RowKit
set_option linter.unusedVariables false

theorem CompPost.from {S A of sizes : List Int} {size : Int} {w w1 w' : World} {e : Ending} (h : CompPost S A of sizes size w1 e w') (hf : Fix (fun b => b < w.heap.size) w w1) : CompPost S A of sizes size w e w' := by
  obtain ⟨a, cap, h1, h2, h3⟩ := h
  exact ⟨a, cap, h1, hf.up h2, h3⟩

set_option maxHeartbeats 400000 in
/-- ZZComponentsOfSize -/
theorem zcomp_any {w : World} {gb : Nat} {S A of sizes : List Int} (size : Int) {oa za : Option Addr} {oc zc : Nat} (hG : Graph (fun b => b < w.heap.size) w gb S A) (hP : Part S A of sizes) (hm : sizes.length ≤ 70000)
    (v2 : View (fun b => b < w.heap.size) w .i64 oa of) (v3 : View (fun b => b < w.heap.size) w .i64 za sizes) (hsz : -9223372036854775808 ≤ size ∧ size ≤ 9223372036854775807) :
    Calls Try.prog 22 #[.pointer (some ⟨gb, 0, none⟩), .agg #[.slice oa of.length oc, .slice za sizes.length zc], .int .i64 size] w (CompPost S A of sizes size w) := by
  obtain ⟨W1, hW1⟩ : ∃ W1 : World, W1 = w.alloc (.cells #[.slice oa of.length oc, .slice za sizes.length zc] 40) := ⟨_, rfl⟩
  have hf1 : Fix (fun b => b < w.heap.size) w W1 := by rw [hW1]; exact (Fix.refl _ _).alloc (fun k hk => hk) _
  have hs1 : W1.heap.size = w.heap.size + 1 := by rw [hW1]; simp
  have hG1 := (hG.fix hf1).weaken (V := fun b => b < W1.heap.size) fun b hb => by omega
  have F := comp_any (oc := oc) (zc := zc) size hG1 hP hm (v2.up hf1) (v3.up hf1) hsz
  have HF : Hid _ := F
  have Hf1 : Hid _ := hf1
  clear F hf1 hs1 hG1 hG hP v2 v3 hm
  go_enter Try.func22, Try.ntmps22
  go_wp2_with fail
  rw [← hW1]
  refine Calls.mono HF.out ?_
  intro e w' h
  obtain ⟨a, cap, rfl, h2, h3⟩ := h.from Hf1.out
  go_wp2
  go_ret
  exact ⟨a, cap, rfl, h2, h3⟩
end Go.Proofs.Qxb6605187a
