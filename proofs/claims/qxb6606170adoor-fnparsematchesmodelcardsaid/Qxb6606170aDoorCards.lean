/-
  DERIVED. GIVEN WITH THE SEED: THE CARDS: each row of Qxb6606170aDoorRows.lean that lists a variable, with what it lists TIED to the program's text (the seventh form; the later family's looks); each row that meets fmt, with fmt's text TOLD by the authors' own Lean function (tested against real Go, not proved from fmt's source: count such statements apart). THE CARD IS WHAT COUNTS. Prove the row's statement (the work); the ties are given (Qxb6606170aDoorTie.lean); close each card by the builder's one call (the guide's Derived/Test/ToyasCard.lean, 'card_holds'). Laid BY PROGRAM, IN A SANDBOX (cutbox-door.mjs). By AI agents, Wed Nov 11 2026. No macro, syntax, notation, axiom, sorry.
-/
import Derived.Test.Qxb6606170aDoorRows
import GoSem.ClaimSeven
namespace Go.Proofs.Qxb6606170aDoor
namespace Rows

/-- THE TIED CARD OF 'zzlaws_internal_decimal_b1.FnPlainMatchesModel'. -/
def fnPlainMatchesModelCard : Claim7 := { stood := { row := fnPlainMatchesModelRow, standIns := [], harness := (true, "65853b3bca6df4952f13753eca8850f325c68a95ab33b448e3ce7fb90ae010fa"), looks := false }, kinds := [], alts := [], laidByText := true, laidKinds := [.data, .pinned], laidTests := true, laidLooks := .later }
def FnPlainMatchesModelCardSaid : Prop := Claim7.holds Tryd.pinned (.plain (OpenSpec.ofChange fnPlainMatchesModelSpec)) fnPlainMatchesModelCard

/-- THE TIED CARD OF 'zzlaws_internal_decimal_b1.FnPlainIsIdempotent'. -/
def fnPlainIsIdempotentCard : Claim7 := { stood := { row := fnPlainIsIdempotentRow, standIns := [], harness := (true, "65853b3bca6df4952f13753eca8850f325c68a95ab33b448e3ce7fb90ae010fa"), looks := false }, kinds := [], alts := [], laidByText := true, laidKinds := [.data, .pinned], laidTests := true, laidLooks := .later }
def FnPlainIsIdempotentCardSaid : Prop := Claim7.holds Tryd.pinned (.plain (OpenSpec.ofChange fnPlainIsIdempotentSpec)) fnPlainIsIdempotentCard

/-- THE TIED CARD OF 'zzlaws_internal_decimal_b1.FnParseMatchesModel'. -/
def fnParseMatchesModelCard : Claim7 := { stood := { row := fnParseMatchesModelRow, standIns := [], harness := (true, "65853b3bca6df4952f13753eca8850f325c68a95ab33b448e3ce7fb90ae010fa"), looks := false }, kinds := [], alts := [], laidByText := true, laidKinds := [.data, .pinned], laidTests := true, laidLooks := .later }
def FnParseMatchesModelCardSaid : Prop := Claim7.holds Tryd.pinned (.plain (OpenSpec.ofChange fnParseMatchesModelSpec)) fnParseMatchesModelCard

/-- THE TIED CARD OF 'zzlaws_internal_decimal_b1.FnParseOutputParsesToItself'. -/
def fnParseOutputParsesToItselfCard : Claim7 := { stood := { row := fnParseOutputParsesToItselfRow, standIns := [], harness := (true, "65853b3bca6df4952f13753eca8850f325c68a95ab33b448e3ce7fb90ae010fa"), looks := false }, kinds := [], alts := [], laidByText := true, laidKinds := [.data, .pinned], laidTests := true, laidLooks := .later }
def FnParseOutputParsesToItselfCardSaid : Prop := Claim7.holds Tryd.pinned (.plain (OpenSpec.ofChange fnParseOutputParsesToItselfSpec)) fnParseOutputParsesToItselfCard
end Rows
end Go.Proofs.Qxb6606170aDoor
