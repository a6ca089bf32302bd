import Derived.Test.Qxb6605907aGreatFmtEv
namespace Go.Proofs
open Go.Extern.Stop Go.Stop Go.Extern
@[go_sem] theorem Tryz.fmt_wa : FmtStop.printed? ⟨#[119, 97, 110, 116, 32, 34, 78, 65, 77, 69, 58, 32, 111, 112, 101, 114, 97, 116, 105, 111, 110, 115, 34, 44, 32, 34, 105, 110, 105, 116, 105, 97, 108, 32, 84, 79, 75, 69, 78, 34, 44, 32, 97, 32, 99, 111, 109, 109, 101, 110, 116, 32, 111, 114, 32, 97, 32, 98, 108, 97, 110, 107, 32, 108, 105, 110, 101, 44, 32, 110, 111, 116, 32, 37, 115]⟩ 1 = some [(0, 115, false)] := by kernel_rfl
@[go_sem] theorem Tryz.fmtr_wa (w : World) : (FmtDoors.printed ⟨#[119, 97, 110, 116, 32, 34, 78, 65, 77, 69, 58, 32, 111, 112, 101, 114, 97, 116, 105, 111, 110, 115, 34, 44, 32, 34, 105, 110, 105, 116, 105, 97, 108, 32, 84, 79, 75, 69, 78, 34, 44, 32, 97, 32, 99, 111, 109, 109, 101, 110, 116, 32, 111, 114, 32, 97, 32, 98, 108, 97, 110, 107, 32, 108, 105, 110, 101, 44, 32, 110, 111, 116, 32, 37, 115]⟩ 1).run Tryz.prog w = .ok [(0, 115, false)] w := by kernel_rfl
@[go_sem] theorem Tryz.fmt_tk : FmtStop.printed? ⟨#[105, 110, 105, 116, 105, 97, 108, 32, 116, 111, 107, 101, 110, 32, 37, 115, 32, 105, 115, 32, 110, 111, 116, 32, 97, 32, 118, 97, 108, 117, 101, 32, 40, 108, 101, 116, 116, 101, 114, 115, 44, 32, 100, 105, 103, 105, 116, 115, 44, 32, 95, 32, 46, 32, 43, 32, 45, 41]⟩ 1 = some [(0, 115, false)] := by kernel_rfl
@[go_sem] theorem Tryz.fmtr_tk (w : World) : (FmtDoors.printed ⟨#[105, 110, 105, 116, 105, 97, 108, 32, 116, 111, 107, 101, 110, 32, 37, 115, 32, 105, 115, 32, 110, 111, 116, 32, 97, 32, 118, 97, 108, 117, 101, 32, 40, 108, 101, 116, 116, 101, 114, 115, 44, 32, 100, 105, 103, 105, 116, 115, 44, 32, 95, 32, 46, 32, 43, 32, 45, 41]⟩ 1).run Tryz.prog w = .ok [(0, 115, false)] w := by kernel_rfl
@[go_sem] theorem Tryz.fmt_on : FmtStop.printed? ⟨#[97, 110, 32, 105, 110, 105, 116, 105, 97, 108, 32, 108, 105, 110, 101, 32, 109, 97, 121, 32, 99, 111, 109, 101, 32, 111, 110, 108, 121, 32, 111, 110, 99, 101, 44, 32, 98, 101, 102, 111, 114, 101, 32, 101, 118, 101, 114, 121, 32, 112, 114, 111, 99, 101, 115, 115, 32, 108, 105, 110, 101]⟩ 0 = some [] := by kernel_rfl
@[go_sem] theorem Tryz.fmtr_on (w : World) : (FmtDoors.printed ⟨#[97, 110, 32, 105, 110, 105, 116, 105, 97, 108, 32, 108, 105, 110, 101, 32, 109, 97, 121, 32, 99, 111, 109, 101, 32, 111, 110, 108, 121, 32, 111, 110, 99, 101, 44, 32, 98, 101, 102, 111, 114, 101, 32, 101, 118, 101, 114, 121, 32, 112, 114, 111, 99, 101, 115, 115, 32, 108, 105, 110, 101]⟩ 0).run Tryz.prog w = .ok [] w := by kernel_rfl
end Go.Proofs
namespace Go.Proofs.Qxb6605907aGreatFmt
open Go.RowKit Go.Extern.Stop Go.Stop Go.Extern

theorem rows_wa (blk : Nat) (x : ByteArray) (W : World) (h0 : W.cell? ⟨blk, 0, none⟩ = some (.iface 9 (.string x))) {R : Value → World → Prop} (hR : ∀ s, R (.string s) W.drew) :
    Rows Tryz.prog FmtCalls.turnsRow (FmtCalls.save 0 0 (.slice (some ⟨blk, 0, none⟩) 1 1) ⟨#[119, 97, 110, 116, 32, 34, 78, 65, 77, 69, 58, 32, 111, 112, 101, 114, 97, 116, 105, 111, 110, 115, 34, 44, 32, 34, 105, 110, 105, 116, 105, 97, 108, 32, 84, 79, 75, 69, 78, 34, 44, 32, 97, 32, 99, 111, 109, 109, 101, 110, 116, 32, 111, 114, 32, 97, 32, 98, 108, 97, 110, 107, 32, 108, 105, 110, 101, 44, 32, 110, 111, 116, 32, 37, 115]⟩ [] [(0, 115, false)]) W R := by
  apply rows_value Tryz.nextTurns
  case hr =>
    go_simp
    exact ⟨rfl, rfl⟩
  case h => exact hR _

set_option maxRecDepth 100000 in
theorem errorf_wa (sc : Nat) (file : ByteArray) (v1 v3 v4 v5 : Value) (line : Int) (blk : Nat) (x : ByteArray) (w : World) (hsc : w.heap[sc]? = some (.cells #[.string file, v1, .int .i64 line, v3, v4, v5] 94 (0, 0)))
    (h0 : w.cell? ⟨blk, 0, none⟩ = some (.iface 9 (.string x))) :
    Calls Tryz.prog 39 #[.pointer (some ⟨sc, 0, none⟩), .string ⟨#[119, 97, 110, 116, 32, 34, 78, 65, 77, 69, 58, 32, 111, 112, 101, 114, 97, 116, 105, 111, 110, 115, 34, 44, 32, 34, 105, 110, 105, 116, 105, 97, 108, 32, 84, 79, 75, 69, 78, 34, 44, 32, 97, 32, 99, 111, 109, 109, 101, 110, 116, 32, 111, 114, 32, 97, 32, 98, 108, 97, 110, 107, 32, 108, 105, 110, 101, 44, 32, 110, 111, 116, 32, 37, 115]⟩, .slice (some ⟨blk, 0, none⟩) 1 1] w fun e w' => ∃ eb s, e = .returned (.pointer (some ⟨eb, 0, none⟩)) ∧ w'.heap[eb]? = some (.cells #[.string file, .int .i64 line, .string s] 31 (0, 0)) ∧ w.heap.size ≤ eb ∧ Below w.heap.size w w' := by
  have c0 : w.cell? ⟨sc, 0, none⟩ = some (.string file) := by rw [row_cell hsc]; rfl
  have c2 : w.cell? ⟨sc, 2, none⟩ = some (.int .i64 line) := by rw [row_cell hsc]; rfl
  have ls := lt_of_get hsc
  clear hsc
  go_enter Tryz.func39, Tryz.ntmps39
  go_wp2_with fail
  go_region_held3 (fun w' => w'.cell? ⟨sc, 0, none⟩ = some (.string file) ∧ w'.cell? ⟨sc, 2, none⟩ = some (.int .i64 line)) (go_keep) ((refine rows_wa blk x _ (by simp [h0]) ?_; intro s))
  go_wp2
  go_ret
  exact ⟨w.heap.size, s, rfl, heap_alloc_new w _, Nat.le_refl _, ((Below.refl w.heap.size w).alloc (Nat.le_refl _) _).drew.drew⟩

theorem rows_tk (blk : Nat) (x : ByteArray) (W : World) (h0 : W.cell? ⟨blk, 0, none⟩ = some (.iface 9 (.string x))) {R : Value → World → Prop} (hR : ∀ s, R (.string s) W.drew) :
    Rows Tryz.prog FmtCalls.turnsRow (FmtCalls.save 0 0 (.slice (some ⟨blk, 0, none⟩) 1 1) ⟨#[105, 110, 105, 116, 105, 97, 108, 32, 116, 111, 107, 101, 110, 32, 37, 115, 32, 105, 115, 32, 110, 111, 116, 32, 97, 32, 118, 97, 108, 117, 101, 32, 40, 108, 101, 116, 116, 101, 114, 115, 44, 32, 100, 105, 103, 105, 116, 115, 44, 32, 95, 32, 46, 32, 43, 32, 45, 41]⟩ [] [(0, 115, false)]) W R := by
  apply rows_value Tryz.nextTurns
  case hr =>
    go_simp
    exact ⟨rfl, rfl⟩
  case h => exact hR _

set_option maxRecDepth 100000 in
theorem errorf_tk (sc : Nat) (file : ByteArray) (v1 v3 v4 v5 : Value) (line : Int) (blk : Nat) (x : ByteArray) (w : World) (hsc : w.heap[sc]? = some (.cells #[.string file, v1, .int .i64 line, v3, v4, v5] 94 (0, 0)))
    (h0 : w.cell? ⟨blk, 0, none⟩ = some (.iface 9 (.string x))) :
    Calls Tryz.prog 39 #[.pointer (some ⟨sc, 0, none⟩), .string ⟨#[105, 110, 105, 116, 105, 97, 108, 32, 116, 111, 107, 101, 110, 32, 37, 115, 32, 105, 115, 32, 110, 111, 116, 32, 97, 32, 118, 97, 108, 117, 101, 32, 40, 108, 101, 116, 116, 101, 114, 115, 44, 32, 100, 105, 103, 105, 116, 115, 44, 32, 95, 32, 46, 32, 43, 32, 45, 41]⟩, .slice (some ⟨blk, 0, none⟩) 1 1] w fun e w' => ∃ eb s, e = .returned (.pointer (some ⟨eb, 0, none⟩)) ∧ w'.heap[eb]? = some (.cells #[.string file, .int .i64 line, .string s] 31 (0, 0)) ∧ w.heap.size ≤ eb ∧ Below w.heap.size w w' := by
  have c0 : w.cell? ⟨sc, 0, none⟩ = some (.string file) := by rw [row_cell hsc]; rfl
  have c2 : w.cell? ⟨sc, 2, none⟩ = some (.int .i64 line) := by rw [row_cell hsc]; rfl
  have ls := lt_of_get hsc
  clear hsc
  go_enter Tryz.func39, Tryz.ntmps39
  go_wp2_with fail
  go_region_held3 (fun w' => w'.cell? ⟨sc, 0, none⟩ = some (.string file) ∧ w'.cell? ⟨sc, 2, none⟩ = some (.int .i64 line)) (go_keep) ((refine rows_tk blk x _ (by simp [h0]) ?_; intro s))
  go_wp2
  go_ret
  exact ⟨w.heap.size, s, rfl, heap_alloc_new w _, Nat.le_refl _, ((Below.refl w.heap.size w).alloc (Nat.le_refl _) _).drew.drew⟩

theorem rows_on (W : World) {R : Value → World → Prop} (hR : ∀ s, R (.string s) W.drew) :
    Rows Tryz.prog FmtCalls.turnsRow (FmtCalls.save 0 0 (.slice none 0 0) ⟨#[97, 110, 32, 105, 110, 105, 116, 105, 97, 108, 32, 108, 105, 110, 101, 32, 109, 97, 121, 32, 99, 111, 109, 101, 32, 111, 110, 108, 121, 32, 111, 110, 99, 101, 44, 32, 98, 101, 102, 111, 114, 101, 32, 101, 118, 101, 114, 121, 32, 112, 114, 111, 99, 101, 115, 115, 32, 108, 105, 110, 101]⟩ [] []) W R := by
  apply rows_value Tryz.nextTurns
  case hr =>
    go_simp
    exact ⟨rfl, rfl⟩
  case h => exact hR _

set_option maxRecDepth 100000 in
theorem errorf_on (sc : Nat) (file : ByteArray) (v1 v3 v4 v5 : Value) (line : Int) (w : World) (hsc : w.heap[sc]? = some (.cells #[.string file, v1, .int .i64 line, v3, v4, v5] 94 (0, 0))) :
    Calls Tryz.prog 39 #[.pointer (some ⟨sc, 0, none⟩), .string ⟨#[97, 110, 32, 105, 110, 105, 116, 105, 97, 108, 32, 108, 105, 110, 101, 32, 109, 97, 121, 32, 99, 111, 109, 101, 32, 111, 110, 108, 121, 32, 111, 110, 99, 101, 44, 32, 98, 101, 102, 111, 114, 101, 32, 101, 118, 101, 114, 121, 32, 112, 114, 111, 99, 101, 115, 115, 32, 108, 105, 110, 101]⟩, .slice none 0 0] w fun e w' => ∃ eb s, e = .returned (.pointer (some ⟨eb, 0, none⟩)) ∧ w'.heap[eb]? = some (.cells #[.string file, .int .i64 line, .string s] 31 (0, 0)) ∧ w.heap.size ≤ eb ∧ Below w.heap.size w w' := by
  have c0 : w.cell? ⟨sc, 0, none⟩ = some (.string file) := by rw [row_cell hsc]; rfl
  have c2 : w.cell? ⟨sc, 2, none⟩ = some (.int .i64 line) := by rw [row_cell hsc]; rfl
  have ls := lt_of_get hsc
  clear hsc
  go_enter Tryz.func39, Tryz.ntmps39
  go_wp2_with fail
  go_region_held3 (fun w' => w'.cell? ⟨sc, 0, none⟩ = some (.string file) ∧ w'.cell? ⟨sc, 2, none⟩ = some (.int .i64 line)) (go_keep) ((refine rows_on _ ?_; intro s))
  go_wp2
  go_ret
  exact ⟨w.heap.size, s, rfl, heap_alloc_new w _, Nat.le_refl _, ((Below.refl w.heap.size w).alloc (Nat.le_refl _) _).drew.drew⟩

end Go.Proofs.Qxb6605907aGreatFmt
