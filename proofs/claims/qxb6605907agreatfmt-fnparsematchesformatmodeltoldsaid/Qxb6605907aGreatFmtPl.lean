namespace Go.Proofs.Qxb6605907aGreatFmt

/-! ### The plain layer: bytes, fields, operations -/
def blankB (b : UInt8) : Bool := b == 32 || b == 9
def letterN (n : Nat) : Bool := (decide (97 ≤ n) && decide (n ≤ 122)) || (decide (65 ≤ n) && decide (n ≤ 90)) || decide (n = 95)
def digitN (n : Nat) : Bool := decide (48 ≤ n) && decide (n ≤ 57)
def nameN (n : Nat) : Bool := letterN n || digitN n
def valueN (n : Nat) : Bool := nameN n || decide (n = 46) || decide (n = 43) || decide (n = 45)
def letterB (b : UInt8) : Bool := letterN b.toNat
def nameB (b : UInt8) : Bool := nameN b.toNat
def valueB (b : UInt8) : Bool := valueN b.toNat

def isName (l : List UInt8) : Bool := !l.isEmpty && l.all nameB
def isVar (l : List UInt8) : Bool := (match l with | [] => false | b :: _ => letterB b) && isName l
def isValue (l : List UInt8) : Bool := !l.isEmpty && l.all valueB

/-- One operation. -/
structure OpP where
  write : Bool
  v : List UInt8
  value : List UInt8
deriving DecidableEq

/-- 'VAR)VALUE', cut at the first ')'. -/
def tailP (w : Bool) (l : List UInt8) : Option OpP :=
  let v := l.takeWhile (· != 41)
  match l.drop v.length with
  | [] => none
  | _ :: value => if isVar v && isValue value then some ⟨w, v, value⟩ else none

/-- What parseOp and zzOpModel say of a field. -/
def opP : List UInt8 → Option OpP
  | 119 :: 40 :: l => tailP true l
  | 114 :: 40 :: l => tailP false l
  | _ => none

/-- The fields of a text, by fuel: what stands between blanks. -/
def fieldsN : Nat → List UInt8 → List (List UInt8)
  | 0, _ => []
  | f + 1, l =>
    let r := l.dropWhile blankB
    if r = [] then [] else r.takeWhile (fun b => !blankB b) :: fieldsN f (r.dropWhile (fun b => !blankB b))
def fields (l : List UInt8) : List (List UInt8) := fieldsN l.length l

/-- A history in the making: the processes in order, each with its operations; what has been written. -/
structure HP where
  procs : List (List UInt8 × List OpP)
  written : List (List UInt8 × List UInt8)

def addOp (h : HP) (i : Nat) (o : OpP) : HP :=
  { procs := h.procs.modify i (fun p => (p.1, p.2 ++ [o])), written := if o.write then h.written ++ [(o.v, o.value)] else h.written }

/-- One field: none: it is refused. -/
def stepP (initial : List UInt8) (i : Nat) (h : HP) (f : List UInt8) : Option HP :=
  match opP f with
  | none => none
  | some o => if o.write && (o.value == initial || h.written.contains (o.v, o.value)) then none else some (addOp h i o)

/-- The fields one after the other: what stands behind them, and whether all were taken. -/
def runP (initial : List UInt8) (i : Nat) : HP → List (List UInt8) → HP × Bool
  | h, [] => (h, true)
  | h, f :: r => match stepP initial i h f with
    | none => (h, false)
    | some h' => runP initial i h' r

/-- Where a name stands. -/
def findP (procs : List (List UInt8 × List OpP)) (name : List UInt8) : Option Nat := procs.findIdx? (fun p => p.1 == name)
/-- A process line: where the process stands, and the history with it. -/
def openP (h : HP) (name : List UInt8) : Nat × HP :=
  match findP h.procs name with
  | some i => (i, h)
  | none => (h.procs.length, { h with procs := h.procs ++ [(name, [])] })
def procP (initial : List UInt8) (h : HP) (name ops : List UInt8) : HP × Bool :=
  runP initial (openP h name).1 (openP h name).2 (fields ops)

end Go.Proofs.Qxb6605907aGreatFmt
