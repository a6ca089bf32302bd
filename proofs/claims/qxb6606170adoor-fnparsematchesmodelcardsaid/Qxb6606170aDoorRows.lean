/-
  NARROWER THAN 'FOR EVERY INPUT', by the rows' own cells (each row's printed sentence says how): FnPlainMatchesModel: laid · FnPlainIsIdempotent: laid · FnParseMatchesModel: laid · FnParseOutputParsesToItself: laid.
  DERIVED. THE GIVEN ROWS OF THIS SEAT. 4 by the template 'for every input the law returns true; each argument reads behind the call as it read before'; 0 by the template 'total and deterministic' (their statements: Qxb6606170aDoorTotals.lean).
  GIVEN WITH THE SEED: the statements are not yours to turn. If you find one false, say at which input.
  Laid BY PROGRAM, IN A SANDBOX (cutbox-rows.mjs): the forced cells as the released guide's own fill.sh prints them over the translation 9e1ac0fc6d01dfb9… (all of the seat's roots in one cut). By AI agents, Wed Nov 11 2026. No macro, syntax, notation, axiom, sorry.
-/
import Derived.Test.Qxb6606170aDoorChecked
import GoSem.PinnedTables
import GoSem.Claim
import GoSem.ClaimJoined
import GoSem.ClaimMapViews
import Derived.JoinedTies
import Derived.KernelRfl
namespace Go.Proofs.Qxb6606170aDoor
/- THE CELL 'sum', in the pinned program and in every row, IS THE sha256 OF THE DUMP (.gsa) THAT Qxb6606170aDoorProg.lean LOADS. Nothing in Lean hashes anything: it is a label: what it is worth is what the hold of that sum in a sandbox is worth. -/
noncomputable def Tryd.pinned : Pinned := { name := "qxb6606170adoor", sum := "9e1ac0fc6d01dfb97f89b2a8b70f97002a9a28bd22dd42fb0692ec5efed04c28", checked := Tryd.checked }
namespace Rows
def none {H : Type} : Left H := { results := [], args := [] }

/- WHAT THE LISTED PACKAGE-LEVEL VARIABLES READ AS WHEN THE CALL BEGINS. Each datum BY PROGRAM (the guide's laid-datum.mjs) off the statement by which the dump's own 'gosem.cut.vars' lays the variable. In a bare row this is a premise. The card (Qxb6606170aDoorCards.lean) ties it to the program's text. -/
def laid_unicode_utf8_acceptRanges {H : Type} : DataW H := .agg [.agg [.lit (.int .u8 128), .lit (.int .u8 191)], .agg [.lit (.int .u8 160), .lit (.int .u8 191)], .agg [.lit (.int .u8 128), .lit (.int .u8 159)], .agg [.lit (.int .u8 144), .lit (.int .u8 191)], .agg [.lit (.int .u8 128), .lit (.int .u8 143)], .agg [.lit (.int .u8 0), .lit (.int .u8 0)], .agg [.lit (.int .u8 0), .lit (.int .u8 0)], .agg [.lit (.int .u8 0), .lit (.int .u8 0)], .agg [.lit (.int .u8 0), .lit (.int .u8 0)], .agg [.lit (.int .u8 0), .lit (.int .u8 0)], .agg [.lit (.int .u8 0), .lit (.int .u8 0)], .agg [.lit (.int .u8 0), .lit (.int .u8 0)], .agg [.lit (.int .u8 0), .lit (.int .u8 0)], .agg [.lit (.int .u8 0), .lit (.int .u8 0)], .agg [.lit (.int .u8 0), .lit (.int .u8 0)], .agg [.lit (.int .u8 0), .lit (.int .u8 0)]]
/-- One of Go's own tables, pinned by name: the form's constant. -/
def laid_unicode_utf8_first : DataW Unit := Go.Pinned.utf8First

/-- 'zzlaws_internal_decimal_b1.FnPlainMatchesModel': WHATEVER THE INPUT: true; the input reads as it did. -/
def fnPlainMatchesModelSpec : ChangeSpec := { name := "fnPlainMatchesModel", fn := fun _ => fun
  | [d] => { results := [.lit (.bool true)], args := [d] }
  | _ => none }
def fnPlainMatchesModelRow : OpenClaim := { program := "qxb6606170adoor", sum := "9e1ac0fc6d01dfb97f89b2a8b70f97002a9a28bd22dd42fb0692ec5efed04c28", func := "example.com/blockwright/blockwright/zzlaws_internal_decimal_b1.FnPlainMatchesModel", spec := "fnPlainMatchesModel", inPlace := ["internal/bytealg.IndexByteString", "internal/bytealg.IndexString", "internal/abi.NoEscape", "internal/bytealg.MakeNoZero"], named := ["unicode/utf8.first", "unicode/utf8.acceptRanges", "internal/bytealg.MaxLen"], apart := false, laid := [("unicode/utf8.acceptRanges", laid_unicode_utf8_acceptRanges), ("unicode/utf8.first", laid_unicode_utf8_first)] }
def FnPlainMatchesModelSaid : Prop := fnPlainMatchesModelRow.holds Tryd.pinned (OpenSpec.ofChange fnPlainMatchesModelSpec)

/-- ITS FALSE NEIGHBOUR: 'it returns false'. Refute it at one input. -/
def fnPlainMatchesModelWrong : ChangeSpec := { name := "fnPlainMatchesModel", fn := fun _ => fun
  | [d] => { results := [.lit (.bool false)], args := [d] }
  | _ => none }
def FnPlainMatchesModelWrongFalsely : Prop := fnPlainMatchesModelRow.holds Tryd.pinned (OpenSpec.ofChange fnPlainMatchesModelWrong)

/-- 'zzlaws_internal_decimal_b1.FnPlainIsIdempotent': WHATEVER THE INPUT: true; the input reads as it did. -/
def fnPlainIsIdempotentSpec : ChangeSpec := { name := "fnPlainIsIdempotent", fn := fun _ => fun
  | [d] => { results := [.lit (.bool true)], args := [d] }
  | _ => none }
def fnPlainIsIdempotentRow : OpenClaim := { program := "qxb6606170adoor", sum := "9e1ac0fc6d01dfb97f89b2a8b70f97002a9a28bd22dd42fb0692ec5efed04c28", func := "example.com/blockwright/blockwright/zzlaws_internal_decimal_b1.FnPlainIsIdempotent", spec := "fnPlainIsIdempotent", inPlace := ["internal/bytealg.IndexByteString", "internal/bytealg.IndexString", "internal/abi.NoEscape", "internal/bytealg.MakeNoZero"], named := ["unicode/utf8.first", "unicode/utf8.acceptRanges", "internal/bytealg.MaxLen"], apart := false, laid := [("unicode/utf8.acceptRanges", laid_unicode_utf8_acceptRanges), ("unicode/utf8.first", laid_unicode_utf8_first)] }
def FnPlainIsIdempotentSaid : Prop := fnPlainIsIdempotentRow.holds Tryd.pinned (OpenSpec.ofChange fnPlainIsIdempotentSpec)

/-- ITS FALSE NEIGHBOUR: 'it returns false'. Refute it at one input. -/
def fnPlainIsIdempotentWrong : ChangeSpec := { name := "fnPlainIsIdempotent", fn := fun _ => fun
  | [d] => { results := [.lit (.bool false)], args := [d] }
  | _ => none }
def FnPlainIsIdempotentWrongFalsely : Prop := fnPlainIsIdempotentRow.holds Tryd.pinned (OpenSpec.ofChange fnPlainIsIdempotentWrong)

/-- 'zzlaws_internal_decimal_b1.FnParseMatchesModel': WHATEVER THE INPUT: true; the input reads as it did. -/
def fnParseMatchesModelSpec : ChangeSpec := { name := "fnParseMatchesModel", fn := fun _ => fun
  | [d] => { results := [.lit (.bool true)], args := [d] }
  | _ => none }
def fnParseMatchesModelRow : OpenClaim := { program := "qxb6606170adoor", sum := "9e1ac0fc6d01dfb97f89b2a8b70f97002a9a28bd22dd42fb0692ec5efed04c28", func := "example.com/blockwright/blockwright/zzlaws_internal_decimal_b1.FnParseMatchesModel", spec := "fnParseMatchesModel", inPlace := ["internal/bytealg.IndexByteString", "internal/bytealg.IndexString", "internal/abi.NoEscape", "internal/bytealg.MakeNoZero"], named := ["unicode/utf8.first", "unicode/utf8.acceptRanges", "internal/bytealg.MaxLen"], apart := false, laid := [("unicode/utf8.acceptRanges", laid_unicode_utf8_acceptRanges), ("unicode/utf8.first", laid_unicode_utf8_first)] }
def FnParseMatchesModelSaid : Prop := fnParseMatchesModelRow.holds Tryd.pinned (OpenSpec.ofChange fnParseMatchesModelSpec)

/-- ITS FALSE NEIGHBOUR: 'it returns false'. Refute it at one input. -/
def fnParseMatchesModelWrong : ChangeSpec := { name := "fnParseMatchesModel", fn := fun _ => fun
  | [d] => { results := [.lit (.bool false)], args := [d] }
  | _ => none }
def FnParseMatchesModelWrongFalsely : Prop := fnParseMatchesModelRow.holds Tryd.pinned (OpenSpec.ofChange fnParseMatchesModelWrong)

/-- 'zzlaws_internal_decimal_b1.FnParseOutputParsesToItself': WHATEVER THE INPUT: true; the input reads as it did. -/
def fnParseOutputParsesToItselfSpec : ChangeSpec := { name := "fnParseOutputParsesToItself", fn := fun _ => fun
  | [d] => { results := [.lit (.bool true)], args := [d] }
  | _ => none }
def fnParseOutputParsesToItselfRow : OpenClaim := { program := "qxb6606170adoor", sum := "9e1ac0fc6d01dfb97f89b2a8b70f97002a9a28bd22dd42fb0692ec5efed04c28", func := "example.com/blockwright/blockwright/zzlaws_internal_decimal_b1.FnParseOutputParsesToItself", spec := "fnParseOutputParsesToItself", inPlace := ["internal/bytealg.IndexByteString", "internal/bytealg.IndexString", "internal/abi.NoEscape", "internal/bytealg.MakeNoZero"], named := ["unicode/utf8.first", "unicode/utf8.acceptRanges", "internal/bytealg.MaxLen"], apart := false, laid := [("unicode/utf8.acceptRanges", laid_unicode_utf8_acceptRanges), ("unicode/utf8.first", laid_unicode_utf8_first)] }
def FnParseOutputParsesToItselfSaid : Prop := fnParseOutputParsesToItselfRow.holds Tryd.pinned (OpenSpec.ofChange fnParseOutputParsesToItselfSpec)

/-- ITS FALSE NEIGHBOUR: 'it returns false'. Refute it at one input. -/
def fnParseOutputParsesToItselfWrong : ChangeSpec := { name := "fnParseOutputParsesToItself", fn := fun _ => fun
  | [d] => { results := [.lit (.bool false)], args := [d] }
  | _ => none }
def FnParseOutputParsesToItselfWrongFalsely : Prop := fnParseOutputParsesToItselfRow.holds Tryd.pinned (OpenSpec.ofChange fnParseOutputParsesToItselfWrong)

end Rows
end Go.Proofs.Qxb6606170aDoor
