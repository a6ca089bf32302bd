/-
  DERIVED. GIVEN WITH THE SEED: THE CARDS: each row of Qxb6605907aFmtRows.lean that lists a variable, with what it lists TIED to the program's text (the seventh form; the later family's looks); each row that meets fmt, with fmt's text TOLD by the authors' own Lean function (tested against real Go, not proved from fmt's source: count such statements apart). THE CARD IS WHAT COUNTS. Prove the row's statement (the work); the ties are given (Qxb6605907aFmtTie.lean); close each card by the builder's one call (the guide's Derived/Test/ToyasCard.lean, 'card_holds'). Laid BY PROGRAM, IN A SANDBOX (cutbox-door.mjs). By AI agents, Wed Nov 11 2026. No macro, syntax, notation, axiom, sorry.
-/
import Derived.Test.Qxb6605907aFmtRows
import GoSem.ClaimSeven
namespace Go.Proofs.Qxb6605907aFmt
namespace Rows

/-- THE TOLD AND TIED CARD OF 'zzlaws_internal_history_b1.FnParseProcMatchesModel'. -/
def fnParseProcMatchesModelCard : Claim7 := { stood := { row := fnParseProcMatchesModelRow, standIns := [], harness := (true, "a8ac59b0b19c2c9f0bd6b57c0e5986cd5b20e3fedb19bee332c495c40edeee8f"), looks := true }, told := true, laidByText := true, laidKinds := [.data, .pinned, .pinned, .pinned, .pinned, .pinned, .pinned], laidTests := true, laidLooks := .later, goes := false }
def FnParseProcMatchesModelToldSaid : Prop := Claim7.holds Tryf.pinned (.plain (OpenSpec.ofChange fnParseProcMatchesModelSpec)) fnParseProcMatchesModelCard
/-- ITS FALSE NEIGHBOUR. Refute it at one input. -/
def FnParseProcMatchesModelToldWrongFalsely : Prop := Claim7.holds Tryf.pinned (.plain (OpenSpec.ofChange fnParseProcMatchesModelWrong)) fnParseProcMatchesModelCard
end Rows
end Go.Proofs.Qxb6605907aFmt
