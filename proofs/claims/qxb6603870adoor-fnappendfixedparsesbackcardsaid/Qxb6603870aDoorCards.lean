/-
  DERIVED. GIVEN WITH THE SEED: THE CARDS: each row of Qxb6603870aDoorRows.lean that lists a variable, with what it lists TIED to the program's text (the seventh form; the later family's looks); each row that meets fmt, with fmt's text TOLD by the authors' own Lean function (tested against real Go, not proved from fmt's source: count such statements apart). THE CARD IS WHAT COUNTS. Prove the row's statement (the work); the ties are given (Qxb6603870aDoorTie.lean); close each card by the builder's one call (the guide's Derived/Test/ToyasCard.lean, 'card_holds'). Laid BY PROGRAM, IN A SANDBOX (cutbox-door.mjs). By AI agents, Wed Nov 11 2026. No macro, syntax, notation, axiom, sorry.
-/
import Derived.Test.Qxb6603870aDoorRows
import GoSem.ClaimSeven
namespace Go.Proofs.Qxb6603870aDoor
namespace Rows

/-- THE TIED CARD OF 'zzlaws_internal_bench_b1.FnAppendFixedMatchesDigitModel'. -/
def fnAppendFixedMatchesDigitModelCard : Claim7 := { stood := { row := fnAppendFixedMatchesDigitModelRow, standIns := [], harness := (true, "f9ef5a5a432680c7528671237aa56029cdd86e8dd8d0d47bb5ddd0a3609a4fe7"), looks := true }, kinds := [], alts := [], laidByText := true, laidKinds := [.data, .data, .data], laidTests := true, laidLooks := .later }
def FnAppendFixedMatchesDigitModelCardSaid : Prop := Claim7.holds Tryd.pinned (.plain (OpenSpec.ofChange fnAppendFixedMatchesDigitModelSpec)) fnAppendFixedMatchesDigitModelCard

/-- THE TIED CARD OF 'zzlaws_internal_bench_b1.FnAppendFixedParsesBack'. -/
def fnAppendFixedParsesBackCard : Claim7 := { stood := { row := fnAppendFixedParsesBackRow, standIns := [], harness := (true, "f9ef5a5a432680c7528671237aa56029cdd86e8dd8d0d47bb5ddd0a3609a4fe7"), looks := true }, kinds := [], alts := [], laidByText := true, laidKinds := [.data, .data, .data], laidTests := true, laidLooks := .later }
def FnAppendFixedParsesBackCardSaid : Prop := Claim7.holds Tryd.pinned (.plain (OpenSpec.ofChange fnAppendFixedParsesBackSpec)) fnAppendFixedParsesBackCard

/-- THE TIED CARD OF 'zzlaws_internal_bench_b1.FnIntColumnMatchesGrammarModel'. -/
def fnIntColumnMatchesGrammarModelCard : Claim7 := { stood := { row := fnIntColumnMatchesGrammarModelRow, standIns := [], harness := (true, "f9ef5a5a432680c7528671237aa56029cdd86e8dd8d0d47bb5ddd0a3609a4fe7"), looks := true }, kinds := [], alts := [], laidByText := true, laidKinds := [.data, .data, .data, .called, .called], laidTests := true, laidLooks := .later }
def FnIntColumnMatchesGrammarModelCardSaid : Prop := Claim7.holds Tryd.pinned (.plain (OpenSpec.ofChange fnIntColumnMatchesGrammarModelSpec)) fnIntColumnMatchesGrammarModelCard

/-- THE TIED CARD OF 'zzlaws_internal_bench_b1.FnIntColumnReadsBackItoa'. -/
def fnIntColumnReadsBackItoaCard : Claim7 := { stood := { row := fnIntColumnReadsBackItoaRow, standIns := [], harness := (true, "f9ef5a5a432680c7528671237aa56029cdd86e8dd8d0d47bb5ddd0a3609a4fe7"), looks := true }, kinds := [], alts := [], laidByText := true, laidKinds := [.data, .data, .data, .called, .called], laidTests := true, laidLooks := .later }
def FnIntColumnReadsBackItoaCardSaid : Prop := Claim7.holds Tryd.pinned (.plain (OpenSpec.ofChange fnIntColumnReadsBackItoaSpec)) fnIntColumnReadsBackItoaCard
end Rows
end Go.Proofs.Qxb6603870aDoor
