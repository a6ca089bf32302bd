/-
  DERIVED. GIVEN WITH THE SEED: THE CARDS: each row of Qxb6605543aDoorRows.lean that lists a variable, with what it lists TIED to the program's text (the seventh form; the later family's looks); each row that meets fmt, with fmt's text TOLD by the authors' own Lean function (tested against real Go, not proved from fmt's source: count such statements apart). THE CARD IS WHAT COUNTS. Prove the row's statement (the work); the ties are given (Qxb6605543aDoorTie.lean); close each card by the builder's one call (the guide's Derived/Test/ToyasCard.lean, 'card_holds'). Laid BY PROGRAM, IN A SANDBOX (cutbox-door.mjs). By AI agents, Wed Nov 11 2026. No macro, syntax, notation, axiom, sorry.
-/
import Derived.Test.Qxb6605543aDoorRows
import GoSem.ClaimSeven
namespace Go.Proofs.Qxb6605543aDoor
namespace Rows

/-- THE TIED CARD OF 'zzlaws_root_b1.FnCutArgumentExact'. -/
def fnCutArgumentExactCard : Claim7 := { stood := { row := fnCutArgumentExactRow, standIns := [], harness := (true, "eaa06ce8a3329fcaa65dbf67a1a3ccdc08a5a1086ea611d071884f5d07e2e601"), looks := true }, kinds := [], alts := [], laidByText := true, laidKinds := [.data, .pinned], laidTests := true, laidLooks := .later }
def FnCutArgumentExactCardSaid : Prop := Claim7.holds Tryd.pinned (.plain (OpenSpec.ofChange fnCutArgumentExactSpec)) fnCutArgumentExactCard

/-- THE TIED CARD OF 'zzlaws_root_b1.FnCutArgumentRoundTrips'. -/
def fnCutArgumentRoundTripsCard : Claim7 := { stood := { row := fnCutArgumentRoundTripsRow, standIns := [], harness := (true, "eaa06ce8a3329fcaa65dbf67a1a3ccdc08a5a1086ea611d071884f5d07e2e601"), looks := true }, kinds := [], alts := [], laidByText := true, laidKinds := [.data, .pinned], laidTests := true, laidLooks := .later }
def FnCutArgumentRoundTripsCardSaid : Prop := Claim7.holds Tryd.pinned (.plain (OpenSpec.ofChange fnCutArgumentRoundTripsSpec)) fnCutArgumentRoundTripsCard

/-- THE TIED CARD OF 'zzlaws_root_b1.FnNormalEscapesKeepsMeaning'. -/
def fnNormalEscapesKeepsMeaningCard : Claim7 := { stood := { row := fnNormalEscapesKeepsMeaningRow, standIns := [], harness := (true, "eaa06ce8a3329fcaa65dbf67a1a3ccdc08a5a1086ea611d071884f5d07e2e601"), looks := true }, kinds := [], alts := [], laidByText := true, laidKinds := [.data, .data, .data, .sentinel, .sentinel], laidTests := true, laidLooks := .later }
def FnNormalEscapesKeepsMeaningCardSaid : Prop := Claim7.holds Tryd.pinned (.plain (OpenSpec.ofChange fnNormalEscapesKeepsMeaningSpec)) fnNormalEscapesKeepsMeaningCard
end Rows
end Go.Proofs.Qxb6605543aDoor
