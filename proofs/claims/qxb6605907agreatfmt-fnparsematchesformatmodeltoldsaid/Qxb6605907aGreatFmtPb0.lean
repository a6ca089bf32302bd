import Derived.Test.Qxb6605907aGreatFmtPp1
import Derived.Test.Qxb6605907aGreatFmtGo2
namespace Go.Proofs.Qxb6605907aGreatFmt
open Go.RowKit

/-- The body of the range over a function that a code holds. -/
def rangeBody : Code → Option Code
  | .rangeFunc _ _ _ b => some b
  | .seq a b => match rangeBody a with
    | some c => some c
    | none => rangeBody b
  | .block _ c => rangeBody c
  | .cond _ a b => match rangeBody a with
    | some c => some c
    | none => rangeBody b
  | _ => none
noncomputable def body20 : Code := (Tryz.f27.body.bind rangeBody).getD .skip

abbrev LI (W0 w : World) (pb sc hb mb wb N bs I0 c : Nat) (file : ByteArray) (line : Int) (ini : Bool) (init : List UInt8) (x : ByteArray) (h0 : HP) (pre : List Fld) (W : World) : Prop :=
  ∃ h1, runP init I0 h0 (pre.map fL) = (h1, true) ∧ Lv W0 w pb sc hb mb wb N bs (bs + 1) I0 file line ini init x (.pointer none) h1 W ∧ HOk h1 (c + 1 + pre.length) ∧ I0 < h1.procs.length
abbrev LX (W0 w : World) (pb sc hb mb wb N bs I0 : Nat) (file : ByteArray) (line : Int) (ini : Bool) (init : List UInt8) (x : ByteArray) (h0 : HP) (cd : Code) (pre : List Fld) (W : World) : Prop :=
  cd = .ret ∧ ∃ h1 eb s, runP init I0 h0 (pre.map fL) = (h1, false) ∧ Lv W0 w pb sc hb mb wb N bs (bs + 1) I0 file line ini init x (.pointer (some ⟨eb, 0, none⟩)) h1 W ∧ W.heap[eb]? = some (.cells #[.string file, .int .i64 line, .string s] 31 (0, 0))

end Go.Proofs.Qxb6605907aGreatFmt
