import Derived.Test.Qxb6605907aGreatFmtScnP
import Derived.Test.Qxb6605907aGreatFmtF4
import Derived.Test.Qxb6605907aGreatFmtHp
namespace Go.Proofs.Qxb6605907aGreatFmt

/-- What the reader of the format knows. -/
structure PS where
  init : List UInt8
  ini : Bool
  st : Bool
  h : HP

def iniBytes : List UInt8 := [105, 110, 105, 116, 105, 97, 108]

/-- A line that opens with the word initial and a blank: the token. -/
def iniLine (t : List UInt8) : Option (List UInt8) :=
  if Lib.hasPrefix t iniBytes then
    match t.drop 7 with
    | [] => none
    | b :: r => if blankB b then some (Sx.trimB (b :: r)) else none
  else none

/-- One line. -/
def lineP (s : PS) (t : List UInt8) : PS × Bool :=
  match iniLine t with
  | some tok => if s.ini || s.st then (s, false) else if isValue tok then ({ s with init := tok, ini := true }, true) else (s, false)
  | none => if (Lib.cut t [58]).2.2 && isName (Lib.cut t [58]).1 then ({ s with st := true, h := (procP s.init s.h (Lib.cut t [58]).1 (Lib.cut t [58]).2.1).1 }, (procP s.init s.h (Lib.cut t [58]).1 (Lib.cut t [58]).2.1).2) else (s, false)

/-- All lines, up to the first that is refused. -/
def runL : PS → List (Nat × List UInt8) → PS × Option Nat
  | s, [] => (s, none)
  | s, e :: r => if (lineP s e.2).2 then runL (lineP s e.2).1 r else ((lineP s e.2).1, some e.1)

def ps0 : PS := ⟨[110, 105, 108], false, false, ⟨[], []⟩⟩

end Go.Proofs.Qxb6605907aGreatFmt
