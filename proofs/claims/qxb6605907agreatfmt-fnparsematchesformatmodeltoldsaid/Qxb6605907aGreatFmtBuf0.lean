import Derived.Test.Qxb6605907aGreatFmtRows
import Derived.WalkKit
import Derived.WalkSpells
import Derived.WalkLawsBesides
import Derived.Laws.CopyOwn
import Derived.Deep.RegionLaw
import Derived.Lib.BufferWrite
import Derived.LaidEql
namespace Go.Proofs.Qxb6605907aGreatFmt.Sx
open Go.RowKit

/-- Every block but those listed is as it was; the streams are as they were. -/
structure Keeps (S : List Nat) (w w' : World) : Prop where
  os : w'.os = w.os
  tape : w'.tape = w.tape
  output : w'.output = w.output
  size : w.heap.size ≤ w'.heap.size
  block : ∀ k, k < w.heap.size → k ∉ S → w'.heap[k]? = w.heap[k]?

theorem Keeps.refl (S : List Nat) (w : World) : Keeps S w w := ⟨rfl, rfl, rfl, Nat.le_refl _, fun _ _ _ => rfl⟩

theorem Keeps.trans {S : List Nat} {a b c : World} (h : Keeps S a b) (k : Keeps S b c) : Keeps S a c :=
  ⟨k.os.trans h.os, k.tape.trans h.tape, k.output.trans h.output, Nat.le_trans h.size k.size,
    fun i hi hS => (k.block i (Nat.lt_of_lt_of_le hi h.size) hS).trans (h.block i hi hS)⟩

theorem Keeps.mono {S S' : List Nat} {a b : World} (h : Keeps S a b) (hs : ∀ k, k ∈ S → k ∈ S') : Keeps S' a b :=
  ⟨h.os, h.tape, h.output, h.size, fun i hi hS => h.block i hi (fun hk => hS (hs i hk))⟩

theorem Keeps.of_below {S : List Nat} {B : Nat} {a b : World} (h : Below B a b) (hB : a.heap.size ≤ B) : Keeps S a b :=
  ⟨h.os, h.tape, h.output, h.size, fun i hi _ => h.block i (Nat.lt_of_lt_of_le hi hB)⟩

theorem Keeps.drewN {S : List Nat} {a b : World} (h : Keeps S a b) (n : Nat) : Keeps S a (b.drewN n) :=
  ⟨h.os, h.tape, h.output, h.size, h.block⟩

theorem Keeps.drew {S : List Nat} {a b : World} (h : Keeps S a b) : Keeps S a b.drew :=
  ⟨h.os, h.tape, h.output, h.size, h.block⟩

theorem Keeps.setCell {S : List Nat} {a b : World} (h : Keeps S a b) (x : Addr) (v : Value) (hx : x.block ∈ S) : Keeps S a (b.setCell x v) :=
  ⟨h.os, h.tape, h.output, by simpa using h.size,
    fun i hi hS => (Below.heap_setCell b x v i (fun e => hS (e ▸ hx))).trans (h.block i hi hS)⟩

theorem Keeps.setRow {S : List Nat} {a b : World} (h : Keeps S a b) (g : Nat) (cs : Array Value) (hx : g ∈ S) : Keeps S a (b.setRow g cs) :=
  ⟨h.os, h.tape, h.output, by simpa [World.setRow] using h.size,
    fun i hi hS => (setRow_other b g i cs (fun e => hS (e ▸ hx))).trans (h.block i hi hS)⟩

/-- A store into a row that is known whole. -/
theorem row_set {w : World} {g : Nat} {cs : Array Value} {t : TypeId} (h : w.heap[g]? = some (.cells cs t (0, 0))) (i : Nat) (v : Value) :
    (w.setCell ⟨g, i, none⟩ v).heap[g]? = some (.cells (cs.setIfInBounds i v) t (0, 0)) := by
  rw [setCell_eq_setRow w g i cs t (0, 0) v h]
  exact setRow_heap w g cs _ t _ h

theorem row_keep {w : World} {g : Nat} {o : Obj} (h : w.heap[g]? = some o) (x : Addr) (v : Value) (hx : g ≠ x.block) :
    (w.setCell x v).heap[g]? = some o := (Below.heap_setCell w x v g hx).trans h

theorem row_cell {w : World} {g : Nat} {cs : Array Value} {t : TypeId} (h : w.heap[g]? = some (.cells cs t (0, 0))) (i : Nat) :
    w.cell? ⟨g, i, none⟩ = cs[i]? := by simp [World.cell?, h]

theorem row_frozen {w : World} {g : Nat} {cs : Array Value} {t : TypeId} (h : w.heap[g]? = some (.cells cs t (0, 0))) (i : Nat) :
    w.frozen? ⟨g, i, none⟩ = false := by simp [World.frozen?, h]

/-- 'copy(dst, s)', s a string of whatever length, dst inside a row: the shorter length goes over. -/
theorem run_copy_min {P : Program} (w : World) (dT sT ty elem : TypeId) (g o dLen dCap k : Nat) (s : ByteArray) (cur : Array Value) (t : TypeId)
    (hu : P.underlying dT = some (.slice elem)) (hs : (P.info? elem).map (·.size) = some 1) (hg : w.heap[g]? = some (.cells cur t (0, 0))) (hk : Nat.min s.size dLen = k) (hfit : o + k ≤ cur.size) :
    (Builtin.copy_ #[dT, sT] ty #[.slice (some ⟨g, o, none⟩) dLen dCap, .string s]).run P w =
      .ok (goInt k) (w.setRow g (splice cur.toList o (Lib.byteCells (s.data.toList.take k))).toArray) := by
  have hks : k ≤ s.size := by rw [← hk]; exact Nat.min_le_left _ _
  have hlen : (Lib.byteCells (s.data.toList.take k)).length = k := by
    rw [Lib.byteCells_length, List.length_take]; simp; exact Nat.min_eq_left hks
  have hst := run_storeCells_at P g o t (Lib.byteCells (s.data.toList.take k)) 0 cur w hg (by rw [hlen]; simpa using hfit) (Lib.byteCells_one _)
  have htk : List.take k (List.map (fun b : UInt8 => Value.int IntKind.u8 (b.toNat : Int)) s.data.toList) = Lib.byteCells (s.data.toList.take k) := by
    rw [← List.map_take]; rfl
  simp only [Nat.add_zero] at hst
  cases hq : P.info? elem with
  | none => simp [hq] at hs
  | some i =>
    simp [Builtin.copy_, run_underlying hu, Builtin.lenOf, Builtin.firstCells, sizeOf, typeInfo, hq, hk]
    rw [htk, hst]
    simp [Result.andThen, splice]

/-- The same as one step of a region that draws its order. -/
theorem step_copy_run {P : Program} {ops : Array Oper} {o : Oper} {a : Act} {w : World} {K : Act → World → Prop} {Q : Exit → Act → World → Prop} {E : Prop} (hgd : o.guard = none) (d s : Operand) (dT sT : TypeId)
    (ho : o.op = .call { callee := .builtin .copy, args := #[d, s], argTypes := #[dT, sT] }) (v u : Value) (hd : a.eval d = v) (hs : a.eval s = u) {v' : Value} {w' : World}
    (hr : ∀ ty, (Builtin.copy_ #[dT, sT] ty #[v, u]).run P w = .ok v' w')
    (h : K (a.put o.dst v') w') : if Region.wanted o (yielded ops a.tmps) = true then Oper.wp P o a w K Q else E := by
  have hw : Region.wanted o (yielded ops a.tmps) = true := by simp [Region.wanted, hgd]
  rw [if_pos hw]
  unfold Oper.wp
  simp [execOp, ho, resolve, invoke, builtin, hd, hs, hr, Result.andThen]
  exact h

end Go.Proofs.Qxb6605907aGreatFmt.Sx
