import Derived.Test.Qxb6605187aFrame
import Derived.Test.Qxb6605187aGatherPlain
namespace Go.Proofs.Qxb6605187a
open Go.RowKit
set_option linter.unusedVariables false

theorem ArgI.w64 {w : World} {a : Option Addr} {len : Nat} {xs : List Int} (h : ArgI .u64 w a len xs) : ∀ i, W64 (nth xs i) := by
  intro i
  unfold W64
  by_cases hi : i < xs.length
  · have e : nth xs i = xs[i] := by simp [nth, hi]
    have := bounds_u64 (h.wf xs[i] (List.getElem_mem hi))
    rw [e]
    omega
  · have e : nth xs i = 0 := by simp [nth, hi]
    rw [e]; omega
end Go.Proofs.Qxb6605187a
