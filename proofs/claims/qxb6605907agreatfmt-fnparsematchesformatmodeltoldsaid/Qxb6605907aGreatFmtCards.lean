/-
  DERIVED. GIVEN WITH THE SEED: THE CARDS: each row of Qxb6605907aGreatFmtRows.lean that lists a variable, with what it lists TIED to the program's text (the seventh form; the later family's looks); each row that meets fmt, with fmt's text TOLD by the authors' own Lean function (tested against real Go, not proved from fmt's source: count such statements apart). THE CARD IS WHAT COUNTS. Prove the row's statement (the work); the ties are given (Qxb6605907aGreatFmtTie.lean); close each card by the builder's one call (the guide's Derived/Test/ToyasCard.lean, 'card_holds'). Laid BY PROGRAM, IN A SANDBOX (cutbox-door.mjs). By AI agents, Wed Nov 11 2026. No macro, syntax, notation, axiom, sorry.
-/
import Derived.Test.Qxb6605907aGreatFmtRows
import GoSem.ClaimSeven
namespace Go.Proofs.Qxb6605907aGreatFmt
namespace Rows

/-- THE TOLD AND TIED CARD OF 'zzlaws_internal_history_b1.FnParseMatchesFormatModel'. -/
def fnParseMatchesFormatModelCard : Claim7 := { stood := { row := fnParseMatchesFormatModelRow, standIns := [], harness := (true, "6637691bb2ac5d11e6927c5cf45470b3f0e2bf5ededebad782da17198481b676"), looks := true }, told := true, laidByText := true, laidKinds := [.data, .sentinel, .sentinel, .sentinel, .sentinel, .pinned, .pinned, .pinned, .pinned, .pinned, .pinned], laidTests := true, laidLooks := .later, goes := false }
def FnParseMatchesFormatModelToldSaid : Prop := Claim7.holds Tryz.pinned (.plain (OpenSpec.ofChange fnParseMatchesFormatModelSpec)) fnParseMatchesFormatModelCard
/-- ITS FALSE NEIGHBOUR. Refute it at one input. -/
def FnParseMatchesFormatModelToldWrongFalsely : Prop := Claim7.holds Tryz.pinned (.plain (OpenSpec.ofChange fnParseMatchesFormatModelWrong)) fnParseMatchesFormatModelCard

/-- THE TOLD AND TIED CARD OF 'zzlaws_internal_history_b1.FnParseProcAgreesWithParse'. -/
def fnParseProcAgreesWithParseCard : Claim7 := { stood := { row := fnParseProcAgreesWithParseRow, standIns := [], harness := (true, "6637691bb2ac5d11e6927c5cf45470b3f0e2bf5ededebad782da17198481b676"), looks := true }, told := true, laidByText := true, laidKinds := [.data, .sentinel, .sentinel, .sentinel, .sentinel, .pinned, .pinned, .pinned, .pinned, .pinned, .pinned], laidTests := true, laidLooks := .later, goes := false }
def FnParseProcAgreesWithParseToldSaid : Prop := Claim7.holds Tryz.pinned (.plain (OpenSpec.ofChange fnParseProcAgreesWithParseSpec)) fnParseProcAgreesWithParseCard
/-- ITS FALSE NEIGHBOUR. Refute it at one input. -/
def FnParseProcAgreesWithParseToldWrongFalsely : Prop := Claim7.holds Tryz.pinned (.plain (OpenSpec.ofChange fnParseProcAgreesWithParseWrong)) fnParseProcAgreesWithParseCard
end Rows
end Go.Proofs.Qxb6605907aGreatFmt
