/-
  DERIVED. GIVEN WITH THE SEED: THE CARDS: each row of Qxb6605907aDoorRows.lean that lists a variable, with what it lists TIED to the program's text (the seventh form; the later family's looks); each row that meets fmt, with fmt's text TOLD by the authors' own Lean function (tested against real Go, not proved from fmt's source: count such statements apart). THE CARD IS WHAT COUNTS. Prove the row's statement (the work); the ties are given (Qxb6605907aDoorTie.lean); close each card by the builder's one call (the guide's Derived/Test/ToyasCard.lean, 'card_holds'). Laid BY PROGRAM, IN A SANDBOX (cutbox-door.mjs). By AI agents, Wed Nov 11 2026. No macro, syntax, notation, axiom, sorry.
-/
import Derived.Test.Qxb6605907aDoorRows
import GoSem.ClaimSeven
namespace Go.Proofs.Qxb6605907aDoor
namespace Rows

/-- THE TIED CARD OF 'zzlaws_internal_history_b1.FnScannerLineNumbersEachLine'. -/
def fnScannerLineNumbersEachLineCard : Claim7 := { stood := { row := fnScannerLineNumbersEachLineRow, standIns := [], harness := (true, "bd4567303020b5dc20367e88321782766c13a4dc6cde232123da0aa425d05070"), looks := true }, kinds := [], alts := [], laidByText := true, laidKinds := [.data, .sentinel, .sentinel, .sentinel, .sentinel, .pinned], laidTests := true, laidLooks := .later }
def FnScannerLineNumbersEachLineCardSaid : Prop := Claim7.holds Tryd.pinned (.plain (OpenSpec.ofChange fnScannerLineNumbersEachLineSpec)) fnScannerLineNumbersEachLineCard

/-- THE TIED CARD OF 'zzlaws_internal_history_b1.FnScannerLineCountsNewlines'. -/
def fnScannerLineCountsNewlinesCard : Claim7 := { stood := { row := fnScannerLineCountsNewlinesRow, standIns := [], harness := (true, "bd4567303020b5dc20367e88321782766c13a4dc6cde232123da0aa425d05070"), looks := true }, kinds := [], alts := [], laidByText := true, laidKinds := [.data, .sentinel, .sentinel, .sentinel, .sentinel, .pinned], laidTests := true, laidLooks := .later }
def FnScannerLineCountsNewlinesCardSaid : Prop := Claim7.holds Tryd.pinned (.plain (OpenSpec.ofChange fnScannerLineCountsNewlinesSpec)) fnScannerLineCountsNewlinesCard
end Rows
end Go.Proofs.Qxb6605907aDoor
