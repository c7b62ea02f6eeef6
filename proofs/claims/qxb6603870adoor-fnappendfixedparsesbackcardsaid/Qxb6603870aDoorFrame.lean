import Derived.Test.Qxb6603870aDoorKit
import Derived.ProofKit
import Derived.OpenShut
namespace Go.Proofs.Qxb6603870aDoor
open Go.ChangeShapes Go.WideShapes Go.ChangeAt Go.RowKit
set_option linter.unusedVariables false

/-- what the walk is told of a slice of integers that came in -/
structure ArgI (k : IntKind) (w : World) (a : Option Addr) (len : Nat) (xs : List Int) : Prop where
  hlen : xs.length = len
  hmax : len ≤ maxLen
  view : View (fun b => b < w.heap.size) w k a xs
  wf : ∀ n, n ∈ xs → (Lit.int k n).wf = true

theorem argI_nil (k : IntKind) (w : World) : ArgI k w none 0 [] := ⟨rfl, Nat.zero_le _, .inl rfl, fun n hn => by simp at hn⟩
theorem spot_none {w : World} {x : Addr} {v : Value} (h : w.cell? x = some v) : x.spot = none := by
  cases hs : x.spot with
  | none => rfl
  | some s =>
    unfold World.cell? at h
    split at h
    · simp [hs] at h
    · simp at h

theorem addr_add (b off i : Nat) : (⟨b, off, none⟩ : Addr).add i = ⟨b, off + i, none⟩ := by
  unfold Addr.add
  split
  · rename_i h; subst h; rfl
  · rfl

theorem argI_row {k : IntKind} {w : World} {x : Addr} {len cap : Nat} {zs : List Int} (hl : len ≤ cap) (hm : cap ≤ maxLen) (hz : zs.length = cap) (hc : ∀ i, i < zs.length → w.cell? (x.add i) = some (.int k (zs.getD i 0)))
    (hw : ∀ n, n ∈ zs → (Lit.int k n).wf = true) : ArgI k w (some x) len (zs.take len) := by
  refine ⟨by simp; omega, by omega, ?_, fun n hn => hw n (List.mem_of_mem_take hn)⟩
  by_cases h0 : len = 0
  · left; subst h0; simp
  · right
    have hsp := spot_none (hc 0 (by omega))
    obtain ⟨b, off, sp⟩ := x
    simp [Addr.add] at hsp
    subst hsp
    refine ⟨b, off, World.block_lt_of_cell? w _ (hc 0 (by omega)), rfl, fun i hi => ?_⟩
    simp at hi
    have h := hc i (by omega)
    rw [addr_add] at h
    rw [h]
    unfold nth
    rw [List.getD_eq_getElem?_getD, List.getD_eq_getElem?_getD, List.getElem?_take, if_pos (by omega)]

end Go.Proofs.Qxb6603870aDoor
