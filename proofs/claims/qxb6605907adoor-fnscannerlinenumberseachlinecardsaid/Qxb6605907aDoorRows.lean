/-
  NARROWER THAN 'FOR EVERY INPUT', by the rows' own cells (each row's printed sentence says how): FnScannerLineNumbersEachLine: laid · FnScannerLineCountsNewlines: laid.
  DERIVED. THE GIVEN ROWS OF THIS SEAT. 2 by the template 'for every input the law returns true; each argument reads behind the call as it read before'; 0 by the template 'total and deterministic' (their statements: Qxb6605907aDoorTotals.lean).
  GIVEN WITH THE SEED: the statements are not yours to turn. If you find one false, say at which input.
  Laid BY PROGRAM, IN A SANDBOX (cutbox-rows.mjs): the forced cells as the released guide's own fill.sh prints them over the translation b8ac1aa4cf934602… (all of the seat's roots in one cut). By AI agents, Wed Nov 11 2026. No macro, syntax, notation, axiom, sorry.
-/
import Derived.Test.Qxb6605907aDoorChecked
import GoSem.PinnedTables
import GoSem.Claim
import GoSem.ClaimJoined
import GoSem.ClaimMapViews
import Derived.JoinedTies
import Derived.KernelRfl
namespace Go.Proofs.Qxb6605907aDoor
/- THE CELL 'sum', in the pinned program and in every row, IS THE sha256 OF THE DUMP (.gsa) THAT Qxb6605907aDoorProg.lean LOADS. Nothing in Lean hashes anything: it is a label: what it is worth is what the hold of that sum in a sandbox is worth. -/
noncomputable def Tryd.pinned : Pinned := { name := "qxb6605907adoor", sum := "b8ac1aa4cf9346025946363e9e13808b4f9d2843d5182979cfb2c0cd2a9a9ddb", checked := Tryd.checked }
namespace Rows
def none {H : Type} : Left H := { results := [], args := [] }

/- WHAT THE LISTED PACKAGE-LEVEL VARIABLES READ AS WHEN THE CALL BEGINS. Each datum BY PROGRAM (the guide's laid-datum.mjs) off the statement by which the dump's own 'gosem.cut.vars' lays the variable. In a bare row this is a premise. The card (Qxb6605907aDoorCards.lean) ties it to the program's text. -/
def laid_unicode_utf8_acceptRanges {H : Type} : DataW H := .agg [.agg [.lit (.int .u8 128), .lit (.int .u8 191)], .agg [.lit (.int .u8 160), .lit (.int .u8 191)], .agg [.lit (.int .u8 128), .lit (.int .u8 159)], .agg [.lit (.int .u8 144), .lit (.int .u8 191)], .agg [.lit (.int .u8 128), .lit (.int .u8 143)], .agg [.lit (.int .u8 0), .lit (.int .u8 0)], .agg [.lit (.int .u8 0), .lit (.int .u8 0)], .agg [.lit (.int .u8 0), .lit (.int .u8 0)], .agg [.lit (.int .u8 0), .lit (.int .u8 0)], .agg [.lit (.int .u8 0), .lit (.int .u8 0)], .agg [.lit (.int .u8 0), .lit (.int .u8 0)], .agg [.lit (.int .u8 0), .lit (.int .u8 0)], .agg [.lit (.int .u8 0), .lit (.int .u8 0)], .agg [.lit (.int .u8 0), .lit (.int .u8 0)], .agg [.lit (.int .u8 0), .lit (.int .u8 0)], .agg [.lit (.int .u8 0), .lit (.int .u8 0)]]
def laid_io_EOF {H : Type} : DataW H := .iface "*errors.errorString" (.ptr (.agg [.lit (.string [69, 79, 70])]))
def laid_io_ErrNoProgress {H : Type} : DataW H := .iface "*errors.errorString" (.ptr (.agg [.lit (.string [109, 117, 108, 116, 105, 112, 108, 101, 32, 82, 101, 97, 100, 32, 99, 97, 108, 108, 115, 32, 114, 101, 116, 117, 114, 110, 32, 110, 111, 32, 100, 97, 116, 97, 32, 111, 114, 32, 101, 114, 114, 111, 114])]))
def laid_bufio_ErrBufferFull {H : Type} : DataW H := .iface "*errors.errorString" (.ptr (.agg [.lit (.string [98, 117, 102, 105, 111, 58, 32, 98, 117, 102, 102, 101, 114, 32, 102, 117, 108, 108])]))
def laid_bufio_errNegativeRead {H : Type} : DataW H := .iface "*errors.errorString" (.ptr (.agg [.lit (.string [98, 117, 102, 105, 111, 58, 32, 114, 101, 97, 100, 101, 114, 32, 114, 101, 116, 117, 114, 110, 101, 100, 32, 110, 101, 103, 97, 116, 105, 118, 101, 32, 99, 111, 117, 110, 116, 32, 102, 114, 111, 109, 32, 82, 101, 97, 100])]))
/-- One of Go's own tables, pinned by name: the form's constant. -/
def laid_unicode_utf8_first : DataW Unit := Go.Pinned.utf8First

/-- 'zzlaws_internal_history_b1.FnScannerLineNumbersEachLine': WHATEVER THE INPUT: true; the input reads as it did. -/
def fnScannerLineNumbersEachLineSpec : ChangeSpec := { name := "fnScannerLineNumbersEachLine", fn := fun _ => fun
  | [d1, d2] => { results := [.lit (.bool true)], args := [d1, d2] }
  | _ => none }
def fnScannerLineNumbersEachLineRow : OpenClaim := { program := "qxb6605907adoor", sum := "b8ac1aa4cf9346025946363e9e13808b4f9d2843d5182979cfb2c0cd2a9a9ddb", func := "example.com/antecede/antecede/zzlaws_internal_history_b1.FnScannerLineNumbersEachLine", spec := "fnScannerLineNumbersEachLine", inPlace := ["internal/bytealg.IndexByte", "internal/abi.NoEscape", "internal/bytealg.MakeNoZero", "internal/reflectlite.TypeOf", "internal/bytealg.IndexByteString"], unfollowed := true, recurses := true, named := ["io.EOF", "bufio.ErrBufferFull", "bufio.errNegativeRead", "io.ErrNoProgress", "unicode/utf8.first", "unicode/utf8.acceptRanges"], apart := false, laid := [("unicode/utf8.acceptRanges", laid_unicode_utf8_acceptRanges), ("io.EOF", laid_io_EOF), ("io.ErrNoProgress", laid_io_ErrNoProgress), ("bufio.ErrBufferFull", laid_bufio_ErrBufferFull), ("bufio.errNegativeRead", laid_bufio_errNegativeRead), ("unicode/utf8.first", laid_unicode_utf8_first)] }
def FnScannerLineNumbersEachLineSaid : Prop := fnScannerLineNumbersEachLineRow.holds Tryd.pinned (OpenSpec.ofChange fnScannerLineNumbersEachLineSpec)

/-- ITS FALSE NEIGHBOUR: 'it returns false'. Refute it at one input. -/
def fnScannerLineNumbersEachLineWrong : ChangeSpec := { name := "fnScannerLineNumbersEachLine", fn := fun _ => fun
  | [d1, d2] => { results := [.lit (.bool false)], args := [d1, d2] }
  | _ => none }
def FnScannerLineNumbersEachLineWrongFalsely : Prop := fnScannerLineNumbersEachLineRow.holds Tryd.pinned (OpenSpec.ofChange fnScannerLineNumbersEachLineWrong)

/-- 'zzlaws_internal_history_b1.FnScannerLineCountsNewlines': WHATEVER THE INPUT: true; the input reads as it did. -/
def fnScannerLineCountsNewlinesSpec : ChangeSpec := { name := "fnScannerLineCountsNewlines", fn := fun _ => fun
  | [d1, d2] => { results := [.lit (.bool true)], args := [d1, d2] }
  | _ => none }
def fnScannerLineCountsNewlinesRow : OpenClaim := { program := "qxb6605907adoor", sum := "b8ac1aa4cf9346025946363e9e13808b4f9d2843d5182979cfb2c0cd2a9a9ddb", func := "example.com/antecede/antecede/zzlaws_internal_history_b1.FnScannerLineCountsNewlines", spec := "fnScannerLineCountsNewlines", inPlace := ["internal/bytealg.IndexByte", "internal/abi.NoEscape", "internal/bytealg.MakeNoZero", "internal/reflectlite.TypeOf", "internal/bytealg.IndexByteString"], unfollowed := true, recurses := true, named := ["io.EOF", "bufio.ErrBufferFull", "bufio.errNegativeRead", "io.ErrNoProgress", "unicode/utf8.first", "unicode/utf8.acceptRanges"], apart := false, laid := [("unicode/utf8.acceptRanges", laid_unicode_utf8_acceptRanges), ("io.EOF", laid_io_EOF), ("io.ErrNoProgress", laid_io_ErrNoProgress), ("bufio.ErrBufferFull", laid_bufio_ErrBufferFull), ("bufio.errNegativeRead", laid_bufio_errNegativeRead), ("unicode/utf8.first", laid_unicode_utf8_first)] }
def FnScannerLineCountsNewlinesSaid : Prop := fnScannerLineCountsNewlinesRow.holds Tryd.pinned (OpenSpec.ofChange fnScannerLineCountsNewlinesSpec)

/-- ITS FALSE NEIGHBOUR: 'it returns false'. Refute it at one input. -/
def fnScannerLineCountsNewlinesWrong : ChangeSpec := { name := "fnScannerLineCountsNewlines", fn := fun _ => fun
  | [d1, d2] => { results := [.lit (.bool false)], args := [d1, d2] }
  | _ => none }
def FnScannerLineCountsNewlinesWrongFalsely : Prop := fnScannerLineCountsNewlinesRow.holds Tryd.pinned (OpenSpec.ofChange fnScannerLineCountsNewlinesWrong)

end Rows
end Go.Proofs.Qxb6605907aDoor
