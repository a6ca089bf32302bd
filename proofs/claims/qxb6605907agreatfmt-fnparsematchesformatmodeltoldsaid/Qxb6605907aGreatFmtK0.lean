import Derived.Test.Qxb6605907aGreatFmtRows
import Derived.WalkKit
import Derived.WalkSpells
import Derived.WalkLawsBesides
namespace Go.Proofs.Qxb6605907aGreatFmt
open Go.RowKit

/-- Every block but those listed is as it was; the streams are as they were. -/
structure Keeps (S : List Nat) (w w' : World) : Prop where
  os : w'.os = w.os
  tape : w'.tape = w.tape
  output : w'.output = w.output
  size : w.heap.size ≤ w'.heap.size
  block : ∀ k, k < w.heap.size → k ∉ S → w'.heap[k]? = w.heap[k]?

theorem Keeps.refl (S : List Nat) (w : World) : Keeps S w w := ⟨rfl, rfl, rfl, Nat.le_refl _, fun _ _ _ => rfl⟩

theorem Keeps.trans {S : List Nat} {a b c : World} (h : Keeps S a b) (k : Keeps S b c) : Keeps S a c :=
  ⟨k.os.trans h.os, k.tape.trans h.tape, k.output.trans h.output, Nat.le_trans h.size k.size,
    fun i hi hS => (k.block i (Nat.lt_of_lt_of_le hi h.size) hS).trans (h.block i hi hS)⟩

theorem Keeps.mono {S S' : List Nat} {a b : World} (h : Keeps S a b) (hs : ∀ k, k ∈ S → k ∈ S') : Keeps S' a b :=
  ⟨h.os, h.tape, h.output, h.size, fun i hi hS => h.block i hi (fun hk => hS (hs i hk))⟩

theorem Keeps.of_below {S : List Nat} {B : Nat} {a b : World} (h : Below B a b) (hB : a.heap.size ≤ B) : Keeps S a b :=
  ⟨h.os, h.tape, h.output, h.size, fun i hi _ => h.block i (Nat.lt_of_lt_of_le hi hB)⟩

theorem Keeps.drewN {S : List Nat} {a b : World} (h : Keeps S a b) (n : Nat) : Keeps S a (b.drewN n) :=
  ⟨h.os, h.tape, h.output, h.size, h.block⟩

theorem Keeps.drew {S : List Nat} {a b : World} (h : Keeps S a b) : Keeps S a b.drew :=
  ⟨h.os, h.tape, h.output, h.size, h.block⟩

theorem Keeps.setCell {S : List Nat} {a b : World} (h : Keeps S a b) (x : Addr) (v : Value) (hx : x.block ∈ S) : Keeps S a (b.setCell x v) :=
  ⟨h.os, h.tape, h.output, by simpa using h.size,
    fun i hi hS => (Below.heap_setCell b x v i (fun e => hS (e ▸ hx))).trans (h.block i hi hS)⟩

theorem Keeps.setRow {S : List Nat} {a b : World} (h : Keeps S a b) (g : Nat) (cs : Array Value) (hx : g ∈ S) : Keeps S a (b.setRow g cs) :=
  ⟨h.os, h.tape, h.output, by simpa [World.setRow] using h.size,
    fun i hi hS => (setRow_other b g i cs (fun e => hS (e ▸ hx))).trans (h.block i hi hS)⟩

/-- A store into a row that is known whole. -/
theorem row_set {w : World} {g : Nat} {cs : Array Value} {t : TypeId} (h : w.heap[g]? = some (.cells cs t (0, 0))) (i : Nat) (v : Value) :
    (w.setCell ⟨g, i, none⟩ v).heap[g]? = some (.cells (cs.setIfInBounds i v) t (0, 0)) := by
  rw [setCell_eq_setRow w g i cs t (0, 0) v h]
  exact setRow_heap w g cs _ t _ h

theorem row_keep {w : World} {g : Nat} {o : Obj} (h : w.heap[g]? = some o) (x : Addr) (v : Value) (hx : g ≠ x.block) :
    (w.setCell x v).heap[g]? = some o := (Below.heap_setCell w x v g hx).trans h

theorem row_cell {w : World} {g : Nat} {cs : Array Value} {t : TypeId} (h : w.heap[g]? = some (.cells cs t (0, 0))) (i : Nat) :
    w.cell? ⟨g, i, none⟩ = cs[i]? := by simp [World.cell?, h]

theorem row_frozen {w : World} {g : Nat} {cs : Array Value} {t : TypeId} (h : w.heap[g]? = some (.cells cs t (0, 0))) (i : Nat) :
    w.frozen? ⟨g, i, none⟩ = false := by simp [World.frozen?, h]

end Go.Proofs.Qxb6605907aGreatFmt
