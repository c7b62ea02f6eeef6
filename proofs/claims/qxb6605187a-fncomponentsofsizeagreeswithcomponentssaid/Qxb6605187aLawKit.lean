import Derived.Test.Qxb6605187aWalkA
namespace Go.Proofs.Qxb6605187a
open Go.RowKit
set_option linter.unusedVariables false

/-- a bool comes back; nothing has turned -/
def SomeBool (w : World) (e : Ending) (w' : World) : Prop := ∃ b : Bool, e = .returned (.bool b) ∧ w' = w
theorem SomeBool.mk {w : World} (b : Bool) : SomeBool w (.returned (.bool b)) w := ⟨b, rfl, rfl⟩

/-- the law's end -/
def LawPost (w : World) (e : Ending) (w' : World) : Prop := e = .returned (.bool true) ∧ Fix (fun b => b < w.heap.size) w w'

theorem View.inside {U : Nat → Prop} {w : World} {k : IntKind} {a : Option Addr} {xs : List Int} (h : View U w k a xs) : View (fun b => U b ∧ b < w.heap.size) w k a xs := by
  rcases h with h | ⟨b, off, hb, ha, hc⟩
  · exact .inl h
  · by_cases h0 : 0 < xs.length
    · exact .inr ⟨b, off, ⟨hb, World.block_lt_of_cell? w ⟨b, off + 0, none⟩ (hc 0 h0)⟩, ha, hc⟩
    · exact .inl (List.length_eq_zero_iff.1 (by omega))

theorem graph_made {U : Nat → Prop} {w : World} {sa aa : Option Addr} {S A : List Int} (hcsr : Csr S A) (hS : S.length ≤ 70000) (hA : A.length ≤ 70000) (hwf : Wf32 A) (hU : ∀ b, U b → b < w.heap.size) (v0 : View U w .i64 sa S) (v1 : View U w .i32 aa A) :
    Graph (fun b => U b ∨ b = w.heap.size) (w.alloc (.cells #[.slice sa S.length S.length, .slice aa A.length A.length] 55)) w.heap.size S A := by
  have hf : Fix U w (w.alloc (.cells #[.slice sa S.length S.length, .slice aa A.length A.length] 55)) := (Fix.refl _ _).alloc hU _
  have hrow : Row (w.alloc (.cells #[.slice sa S.length S.length, .slice aa A.length A.length] 55)) w.heap.size 55 [.slice sa S.length S.length, .slice aa A.length A.length] := heap_alloc_new _ _
  refine ⟨hcsr, hS, hA, .inr rfl, hwf, sa, S.length, aa, A.length, ?_, ?_, Nat.le_refl _, ?_, (v0.fix hf).weaken fun b h => .inl h, (v1.fix hf).weaken fun b h => .inl h⟩
  · exact hrow.cell 0
  · exact hrow.cell 1
  · intro e
    rcases v1 with h | ⟨b, off, _, h, _⟩
    · rw [h]; rfl
    · rw [e] at h; cases h

theorem View.up {w w' : World} {k : IntKind} {a : Option Addr} {xs : List Int} (h : View (fun b => b < w.heap.size) w k a xs) (hf : Fix (fun b => b < w.heap.size) w w') : View (fun b => b < w'.heap.size) w' k a xs :=
  (h.fix hf).weaken fun b hb => by have := hf.size; omega
theorem ViewB.up {w w' : World} {a : Option Addr} {xs : List Bool} (h : ViewB (fun b => b < w.heap.size) w a xs) (hf : Fix (fun b => b < w.heap.size) w w') : ViewB (fun b => b < w'.heap.size) w' a xs := by
  rcases h.fix hf with h | ⟨b, off, hb, ha, hc⟩
  · exact .inl h
  · exact .inr ⟨b, off, by have := hf.size; omega, ha, hc⟩
theorem Fix.up {w w1 w2 : World} (h : Fix (fun b => b < w.heap.size) w w1) (k : Fix (fun b => b < w1.heap.size) w1 w2) : Fix (fun b => b < w.heap.size) w w2 :=
  h.trans (k.mono fun b hb => by have := h.size; omega)

theorem Graph.weaken {U V : Nat → Prop} {w : World} {gb : Nat} {S A : List Int} (h : Graph U w gb S A) (hUV : ∀ b, U b → V b) : Graph V w gb S A := by
  obtain ⟨q1, q2, q3, q4, q6, qsa, qsc, qaa, qac, e0, e1, e2, e3, w0, w1⟩ := h
  exact ⟨q1, q2, q3, hUV _ q4, q6, qsa, qsc, qaa, qac, e0, e1, e2, e3, w0.weaken hUV, w1.weaken hUV⟩

end Go.Proofs.Qxb6605187a
