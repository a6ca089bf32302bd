import Derived.Test.Qxb6605907aGreatFmtBuf1
import Derived.Deep.DeepCutAuto
import Derived.Deep.CutBlock
import Derived.Deep.RegionWith
import Derived.BigQuiet
namespace Go.Proofs.Qxb6605907aGreatFmt.Sx
open Go.RowKit

/-- The reader's own cells. -/
def rdCells (b s : Nat) (r n : Nat) (e lb lr : Value) : Array Value :=
  #[.slice (some ⟨b, 0, none⟩) 4096 4096, .iface 51 (.pointer (some ⟨s, 0, none⟩)), .int .i64 r, .int .i64 n, e, lb, lr]

theorem readErr_spec (p b s r n : Nat) (e lb lr : Value) (w : World) (he : e = .nilIface ∨ ∃ u v, e = .iface u v)
    (hp : w.heap[p]? = some (.cells (rdCells b s r n e lb lr) 141 (0, 0))) :
    Calls Tryz.prog 96 #[.pointer (some ⟨p, 0, none⟩)] w fun x w' => x = .returned e ∧
      w'.heap[p]? = some (.cells (rdCells b s r n .nilIface lb lr) 141 (0, 0)) ∧ Keeps [p] w w' := by
  have c4 : w.cell? ⟨p, 4, none⟩ = some e := by rw [row_cell hp]; rfl
  have f4 : w.frozen? ⟨p, 4, none⟩ = false := row_frozen hp 4
  rcases he with rfl | ⟨u, v, rfl⟩
  all_goals
    go_enter Tryz.func96, Tryz.ntmps96
    go_wp2
    go_ret
    exact ⟨rfl, row_set hp 4 _, (Keeps.refl _ w).setCell ⟨p, 4, none⟩ _ (by simp)⟩

theorem buffered_spec (p b s r n : Nat) (e lb lr : Value) (w : World) (hrn : r ≤ n) (hn : n ≤ 4096)
    (hp : w.heap[p]? = some (.cells (rdCells b s r n e lb lr) 141 (0, 0))) :
    Calls Tryz.prog 97 #[.pointer (some ⟨p, 0, none⟩)] w fun x w' => x = .returned (.int .i64 ((n - r : Nat) : Int)) ∧ ∃ q, w' = w.drewN q := by
  have c2 : w.cell? ⟨p, 2, none⟩ = some (.int .i64 (r : Int)) := by rw [row_cell hp]; rfl
  have c3 : w.cell? ⟨p, 3, none⟩ = some (.int .i64 (n : Int)) := by rw [row_cell hp]; rfl
  go_enter Tryz.func97, Tryz.ntmps97
  go_wp2
  go_region
  all_goals go_wp2
  all_goals go_ret
  all_goals exact ⟨by rw [Int.ofNat_sub hrn]; rfl, 1, rfl⟩

theorem byteCells_splice (cur x : List UInt8) (o : Nat) : splice (Lib.byteCells cur) o (Lib.byteCells x) = Lib.byteCells (splice cur o x) := by
  simp [splice, Lib.byteCells, List.map_take, List.map_drop]

theorem splice_self (cur : List UInt8) (n : Nat) : splice cur 0 (cur.take n) = cur := by
  simp only [splice, List.take_zero, List.nil_append, Nat.zero_add, List.length_take]
  by_cases h : n ≤ cur.length
  · rw [Nat.min_eq_left h, List.take_append_drop]
  · rw [Nat.min_eq_right (by omega), List.take_of_length_le (by omega)]; simp

/-- 'copy(b.buf, b.buf[b.r:b.w])'. -/
theorem move_run (b r n : Nat) (cur : List UInt8) (w : World) (hb : w.heap[b]? = some (.cells (Lib.byteCells cur).toArray 5 (0, 0))) (hc : cur.length = 4096) (hrn : r ≤ n) (hn : n ≤ 4096) :
    ∃ w1, (∀ ty, (Builtin.copy_ #[125, 125] ty #[.slice (some ⟨b, 0, none⟩) 4096 4096, .slice (if 4096 = r then some ⟨b, 0, none⟩ else some ⟨b, r, none⟩) (n - r) (4096 - r)]).run Tryz.prog w = .ok (goInt ((n - r : Nat) : Int)) w1) ∧
      w1.heap[b]? = some (.cells (Lib.byteCells (splice cur 0 ((cur.drop r).take (n - r)))).toArray 5 (0, 0)) ∧ Keeps [b] w w1 := by
  by_cases h0 : n - r = 0
  · refine ⟨w, fun ty => ?_, ?_, Keeps.refl _ _⟩
    · rw [h0]
      exact run_copy_none (P := Tryz.prog) w 125 125 ty 5 _ _ _ _ _ _ Tryz.underlying125 (by kernel_rfl) (by simp)
    · rw [h0, hb]
      simp [splice]
  · have h4 : ¬ (4096 = r) := by omega
    have hl : (Lib.byteCells ((cur.drop r).take (n - r))).length = n - r := by
      rw [Lib.byteCells_length, List.length_take, List.length_drop, hc]; omega
    rw [if_neg h4]
    refine ⟨w.setRow b (splice (Lib.byteCells cur) 0 (Lib.byteCells ((cur.drop r).take (n - r)))).toArray, fun ty => ?_, ?_, ?_⟩
    · have hr := run_copy_row (P := Tryz.prog) w 125 125 ty 5 b 0 4096 4096 ⟨b, r, none⟩ (n - r) (4096 - r) (Lib.byteCells cur).toArray 5 (Lib.byteCells ((cur.drop r).take (n - r)))
        Tryz.underlying125 (by kernel_rfl) hb (by rw [hl]; exact (Nat.min_eq_left (by omega)).symm) (fun j v hj => ?_) (by rw [hl, List.size_toArray, Lib.byteCells_length, hc]; omega) (Lib.byteCells_one _)
      · rw [hr, hl]
        simp [splice, hl]
      · have hadd : (⟨b, r, none⟩ : Addr).add j = ⟨b, r + j, none⟩ := by unfold Addr.add; split <;> simp_all
        rw [hadd, row_cell hb]
        have hj' : j < n - r := by
          have := (List.getElem?_eq_some_iff.1 hj).1
          rwa [hl] at this
        simp only [Lib.byteCells, List.getElem?_map, List.getElem?_take, if_pos hj', List.getElem?_drop] at hj
        simpa [Lib.byteCells] using hj
    · rw [setRow_heap _ _ _ _ _ _ hb, byteCells_splice]
    · exact (Keeps.refl _ w).setRow b _ (by simp)

end Go.Proofs.Qxb6605907aGreatFmt.Sx
