import Derived.Test.Qxb6605907aGreatFmtBuf0
namespace Go.Proofs.Qxb6605907aGreatFmt.Sx
open Go.RowKit

theorem hide {p : Prop} (h : p) : Hid p := h

/-- (*strings.Reader).Read at the end: 0 and io.EOF. -/
theorem read_eof (s i b off m c : Nat) (t : ByteArray) (pv : Value) (ev : Value) (w : World)
    (hs : w.heap[s]? = some (.cells #[.string t, .int .i64 i, pv] 87 (0, 0))) (hi : t.size ≤ i)
    (hE : w.cell? ⟨0, 0, none⟩ = some (.iface 168 ev)) :
    Calls Tryz.prog 136 #[.pointer (some ⟨s, 0, none⟩), .slice (some ⟨b, off, none⟩) m c] w fun e w' =>
      e = .returned (.tuple #[.int .i64 0, .iface 168 ev]) ∧ ∃ q, w' = w.drewN q := by
  have c0 : w.cell? ⟨s, 0, none⟩ = some (.string t) := by rw [row_cell hs]; rfl
  have c1 : w.cell? ⟨s, 1, none⟩ = some (.int .i64 (i : Int)) := by rw [row_cell hs]; rfl
  have h1 : (t.size : Int) ≤ (i : Int) := by exact_mod_cast hi
  have h2 : decide ((t.size : Int) ≤ (i : Int)) = true := decide_eq_true h1
  go_enter Tryz.func136, Tryz.ntmps136
  go_wp2
  go_region
  all_goals go_wp2
  all_goals go_region
  all_goals go_wp2
  all_goals go_ret2
  all_goals exact ⟨rfl, 2, rfl⟩

/-- (*strings.Reader).Read where something is left: as many bytes as are left, or as the slice holds. -/
theorem read_some (s i b off m c k : Nat) (t : ByteArray) (pv : Value) (cur : List UInt8) (w : World)
    (hs : w.heap[s]? = some (.cells #[.string t, .int .i64 i, pv] 87 (0, 0))) (hi : i < t.size) (ht : t.size ≤ 1048577)
    (hb : w.heap[b]? = some (.cells (Lib.byteCells cur).toArray 5 (0, 0))) (hm : off + m ≤ cur.length) (hm4 : m ≤ 4096) (hsb : s ≠ b) (hk : Nat.min (t.size - i) m = k) :
    Calls Tryz.prog 136 #[.pointer (some ⟨s, 0, none⟩), .slice (some ⟨b, off, none⟩) m c] w fun e w' =>
      e = .returned (.tuple #[.int .i64 k, .nilIface]) ∧
      w'.heap[s]? = some (.cells #[.string t, .int .i64 (i + k : Nat), .int .i64 (-1)] 87 (0, 0)) ∧
      w'.heap[b]? = some (.cells (Lib.byteCells (splice cur off ((t.data.toList.drop i).take k))).toArray 5 (0, 0)) ∧ Keeps [s, b] w w' := by
  have hkm : k ≤ m := by rw [← hk]; exact Nat.min_le_right _ _
  have hkt : k ≤ t.size - i := by rw [← hk]; exact Nat.min_le_left _ _
  have c0 : w.cell? ⟨s, 0, none⟩ = some (.string t) := by rw [row_cell hs]; rfl
  have c1 : w.cell? ⟨s, 1, none⟩ = some (.int .i64 (i : Int)) := by rw [row_cell hs]; rfl
  have c2 : w.cell? ⟨s, 2, none⟩ = some pv := by rw [row_cell hs]; rfl
  have f1 : w.frozen? ⟨s, 1, none⟩ = false := row_frozen hs 1
  have f2 : w.frozen? ⟨s, 2, none⟩ = false := row_frozen hs 2
  have h1 : ¬ ((t.size : Int) ≤ (i : Int)) := by omega
  have h2 : decide ((t.size : Int) ≤ (i : Int)) = false := decide_eq_false h1
  go_enter Tryz.func136, Tryz.ntmps136
  go_wp2
  go_region
  all_goals go_wp2
  have hrow : ((w.setCell ⟨s, 2, none⟩ (.int .i64 (-1))).drew.drew).heap[b]? = some (.cells (Lib.byteCells cur).toArray 5 (0, 0)) :=
    row_keep hb _ _ (Ne.symm hsb)
  have hsz : Nat.min (t.extract i t.size).size m = k := by
    rw [ByteArray.size_extract, Nat.min_self]; exact hk
  have hbl : splice (Lib.byteCells cur) off (Lib.byteCells ((t.extract i t.size).data.toList.take k)) = Lib.byteCells (splice cur off ((t.data.toList.drop i).take k)) := by
    have e : (t.extract i t.size).data.toList.take k = (t.data.toList.drop i).take k := by
      rw [ByteArray.data_extract, Array.toList_extract, List.extract_eq_take_drop, List.take_take, Nat.min_eq_left hkt]
    rw [e]
    simp [splice, Lib.byteCells, List.map_take, List.map_drop]
  obtain ⟨w1, HC, s1, b1, k1⟩ : ∃ w1, Hid (∀ ty, (Builtin.copy_ #[125, 9] ty #[.slice (some ⟨b, off, none⟩) m c, .string (t.extract i t.size)]).run Tryz.prog ((w.setCell ⟨s, 2, none⟩ (.int .i64 (-1))).drew.drew) = .ok (goInt k) w1) ∧
      w1.heap[s]? = some (.cells #[.string t, .int .i64 i, .int .i64 (-1)] 87 (0, 0)) ∧
      w1.heap[b]? = some (.cells (Lib.byteCells (splice cur off ((t.data.toList.drop i).take k))).toArray 5 (0, 0)) ∧ Keeps [s, b] w w1 := by
    refine ⟨_, fun ty => run_copy_min (P := Tryz.prog) ((w.setCell ⟨s, 2, none⟩ (.int .i64 (-1))).drew.drew) 125 9 ty 5 b off m c k (t.extract i t.size) (Lib.byteCells cur).toArray 5
      Tryz.underlying125 (by kernel_rfl) hrow hsz (by rw [List.size_toArray, Lib.byteCells_length]; omega), ?_, ?_, ?_⟩
    · rw [setRow_other _ _ _ _ hsb]
      exact row_set hs 2 _
    · rw [setRow_heap _ _ _ _ _ _ hrow, hbl]
    · exact ((((Keeps.refl _ w).setCell ⟨s, 2, none⟩ _ (by simp)).drew).drew).setRow b _ (by simp)
  have h3 : i ≤ t.size := Nat.le_of_lt hi
  have d1 : w1.cell? ⟨s, 1, none⟩ = some (.int .i64 (i : Int)) := by rw [row_cell s1]; rfl
  have g1 : w1.frozen? ⟨s, 1, none⟩ = false := row_frozen s1 1
  have hend : (w1.setCell ⟨s, 1, none⟩ (.int .i64 ((i + k : Nat) : Int))).heap[s]? = some (.cells #[.string t, .int .i64 ((i + k : Nat) : Int), .int .i64 (-1)] 87 (0, 0)) ∧
      (w1.setCell ⟨s, 1, none⟩ (.int .i64 ((i + k : Nat) : Int))).heap[b]? = some (.cells (Lib.byteCells (splice cur off ((t.data.toList.drop i).take k))).toArray 5 (0, 0)) ∧
      Keeps [s, b] w (w1.setCell ⟨s, 1, none⟩ (.int .i64 ((i + k : Nat) : Int))) :=
    ⟨row_set s1 1 _, row_keep b1 _ _ (Ne.symm hsb), k1.setCell ⟨s, 1, none⟩ _ (by simp)⟩
  have Hend := hide hend
  clear hend hrow hsz hbl s1 b1 k1
  go_region_law (refine step_copy_run rfl (.tmp 20) (.tmp 29) 125 9 rfl _ _ (by simp [Act.eval, Act.put]) (by simp [Act.eval, Act.put]) HC.out ?_)
  all_goals go_wp2
  all_goals rw [← Int.natCast_add]
  all_goals go_ret2
  all_goals exact ⟨rfl, Hend.out⟩

end Go.Proofs.Qxb6605907aGreatFmt.Sx
