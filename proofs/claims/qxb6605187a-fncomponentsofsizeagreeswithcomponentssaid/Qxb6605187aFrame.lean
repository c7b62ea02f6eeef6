import Derived.Test.Qxb6605187aLawKit
import Derived.ProofKit
import Derived.OpenShut
import Derived.Deep.Grids
namespace Go.Proofs.Qxb6605187a
open Go.ChangeShapes Go.WideShapes Go.ChangeAt Go.RowKit
set_option linter.unusedVariables false

/-- what the walk is told of a slice of integers that came in -/
structure ArgI (k : IntKind) (w : World) (a : Option Addr) (len : Nat) (xs : List Int) : Prop where
  hlen : xs.length = len
  hmax : len ≤ maxLen
  view : View (fun b => b < w.heap.size) w k a xs
  wf : ∀ n, n ∈ xs → (Lit.int k n).wf = true

/-- .. of bools -/
structure ArgB (w : World) (a : Option Addr) (len : Nat) (xs : List Bool) : Prop where
  hlen : xs.length = len
  hmax : len ≤ maxLen
  view : ViewB (fun b => b < w.heap.size) w a xs

theorem argI_nil (k : IntKind) (w : World) : ArgI k w none 0 [] := ⟨rfl, Nat.zero_le _, .inl rfl, fun n hn => by simp at hn⟩
theorem argB_nil (w : World) : ArgB w none 0 [] := ⟨rfl, Nat.zero_le _, .inl rfl⟩

theorem spot_none {w : World} {x : Addr} {v : Value} (h : w.cell? x = some v) : x.spot = none := by
  cases hs : x.spot with
  | none => rfl
  | some s =>
    unfold World.cell? at h
    split at h
    · simp [hs] at h
    · simp at h

theorem addr_add (b off i : Nat) : (⟨b, off, none⟩ : Addr).add i = ⟨b, off + i, none⟩ := by
  unfold Addr.add
  split
  · rename_i h; subst h; rfl
  · rfl

theorem argI_row {k : IntKind} {w : World} {x : Addr} {len cap : Nat} {zs : List Int} (hl : len ≤ cap) (hm : cap ≤ maxLen) (hz : zs.length = cap) (hc : ∀ i, i < zs.length → w.cell? (x.add i) = some (.int k (zs.getD i 0)))
    (hw : ∀ n, n ∈ zs → (Lit.int k n).wf = true) : ArgI k w (some x) len (zs.take len) := by
  refine ⟨by simp; omega, by omega, ?_, fun n hn => hw n (List.mem_of_mem_take hn)⟩
  by_cases h0 : len = 0
  · left; subst h0; simp
  · right
    have hsp := spot_none (hc 0 (by omega))
    obtain ⟨b, off, sp⟩ := x
    simp [Addr.add] at hsp
    subst hsp
    refine ⟨b, off, World.block_lt_of_cell? w _ (hc 0 (by omega)), rfl, fun i hi => ?_⟩
    simp at hi
    have h := hc i (by omega)
    rw [addr_add] at h
    rw [h]
    unfold nth
    rw [List.getD_eq_getElem?_getD, List.getD_eq_getElem?_getD, List.getElem?_take, if_pos (by omega)]

theorem argB_row {w : World} {x : Addr} {len cap : Nat} {B : Nat → Bool} (hl : len ≤ cap) (hm : cap ≤ maxLen) (hc : ∀ i, i < cap → w.cell? (x.add i) = some (.bool (B i))) : ArgB w (some x) len ((List.range len).map B) := by
  refine ⟨by simp, by omega, ?_⟩
  by_cases h0 : len = 0
  · left; subst h0; simp
  · right
    have hsp := spot_none (hc 0 (by omega))
    obtain ⟨b, off, sp⟩ := x
    simp [Addr.add] at hsp
    subst hsp
    refine ⟨b, off, World.block_lt_of_cell? w _ (hc 0 (by omega)), rfl, fun i hi => ?_⟩
    simp at hi
    have h := hc i (by omega)
    rw [addr_add] at h
    rw [h]
    simp [nthB, hi]

theorem ArgI.w32 {w : World} {a : Option Addr} {len : Nat} {xs : List Int} (h : ArgI .i32 w a len xs) : Wf32 xs := by
  intro i
  by_cases hi : i < xs.length
  · have e : nth xs i = xs[i] := by simp [nth, hi]
    rw [e]
    exact bounds_i32 (h.wf xs[i] (List.getElem_mem hi))
  · have e : nth xs i = 0 := by simp [nth, hi]
    rw [e]; omega
end Go.Proofs.Qxb6605187a
