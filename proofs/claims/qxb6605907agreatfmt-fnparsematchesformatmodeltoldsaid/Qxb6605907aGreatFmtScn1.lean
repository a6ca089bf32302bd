import Derived.Test.Qxb6605907aGreatFmtBuf8
namespace Go.Proofs.Qxb6605907aGreatFmt.Sx
open Go.RowKit

theorem reset_spec (p b s : Nat) (w : World) (v0 v1 v2 v3 v4 v5 v6 : Value) (hp : w.heap[p]? = some (.cells #[v0, v1, v2, v3, v4, v5, v6] 141 (0, 0))) :
    Calls Tryz.prog 77 #[.pointer (some ⟨p, 0, none⟩), .slice (some ⟨b, 0, none⟩) 4096 4096, .iface 51 (.pointer (some ⟨s, 0, none⟩))] w fun e w' =>
      e = .returned (.tuple #[]) ∧ w'.heap[p]? = some (.cells (rdCells b s 0 0 .nilIface (.int .i64 (-1)) (.int .i64 (-1))) 141 (0, 0)) ∧ Keeps [p] w w' := by
  have c0 : w.cell? ⟨p, 0, none⟩ = some v0 := by rw [row_cell hp]; rfl
  have f0 : w.frozen? ⟨p, 0, none⟩ = false := row_frozen hp 0
  have c1 : w.cell? ⟨p, 1, none⟩ = some v1 := by rw [row_cell hp]; rfl
  have f1 : w.frozen? ⟨p, 1, none⟩ = false := row_frozen hp 1
  have c2 : w.cell? ⟨p, 2, none⟩ = some v2 := by rw [row_cell hp]; rfl
  have f2 : w.frozen? ⟨p, 2, none⟩ = false := row_frozen hp 2
  have c3 : w.cell? ⟨p, 3, none⟩ = some v3 := by rw [row_cell hp]; rfl
  have f3 : w.frozen? ⟨p, 3, none⟩ = false := row_frozen hp 3
  have c4 : w.cell? ⟨p, 4, none⟩ = some v4 := by rw [row_cell hp]; rfl
  have f4 : w.frozen? ⟨p, 4, none⟩ = false := row_frozen hp 4
  have c5 : w.cell? ⟨p, 5, none⟩ = some v5 := by rw [row_cell hp]; rfl
  have f5 : w.frozen? ⟨p, 5, none⟩ = false := row_frozen hp 5
  have c6 : w.cell? ⟨p, 6, none⟩ = some v6 := by rw [row_cell hp]; rfl
  have f6 : w.frozen? ⟨p, 6, none⟩ = false := row_frozen hp 6
  have HP := hide hp
  clear hp
  go_enter Tryz.func77, Tryz.ntmps77
  go_wp2
  go_end0
  refine ⟨rfl, ?_, ?_⟩
  · rw [row_set (row_set (row_set (row_set (row_set (row_set (row_set HP.out 0 _) 1 _) 2 _) 3 _) 4 _) 5 _) 6 _]; rfl
  · exact (((((((Keeps.refl _ w).setCell ⟨p, 0, none⟩ _ (by simp)).setCell ⟨p, 1, none⟩ _ (by simp)).setCell ⟨p, 2, none⟩ _ (by simp)).setCell ⟨p, 3, none⟩ _ (by simp)).setCell ⟨p, 4, none⟩ _ (by simp)).setCell ⟨p, 5, none⟩ _ (by simp)).setCell ⟨p, 6, none⟩ _ (by simp)

theorem notReader (v : Value) (w : World) : (Instr.typeAssert (.iface 51 v) 81 91 true).run Tryz.prog w = .ok (.tuple #[.pointer none, .bool false]) w := by kernel_rfl

set_option maxRecDepth 100000 in
theorem newReaderSize_spec (s : Nat) (w : World) :
    Calls Tryz.prog 51 #[.iface 51 (.pointer (some ⟨s, 0, none⟩)), .int .i64 4096] w fun e w' =>
      e = .returned (.pointer (some ⟨w.heap.size, 0, none⟩)) ∧
      w'.heap[w.heap.size]? = some (.cells (rdCells (w.heap.size + 1) s 0 0 .nilIface (.int .i64 (-1)) (.int .i64 (-1))) 141 (0, 0)) ∧
      w'.heap[w.heap.size + 1]? = some (.cells (Lib.byteCells (List.replicate 4096 0)).toArray 5 (0, 0)) ∧ Below w.heap.size w w' := by
  obtain ⟨i0, hi, hz0, hz1, hz2⟩ := info_parts (show (Tryz.prog.info? 5).map (fun i => (i.zero, i.size, i.bytes)) = some (some (.int .u8 0), 1, 1) by kernel_rfl)
  have hta := notReader
  obtain ⟨N, hN⟩ : ∃ N, w.heap.size = N := ⟨_, rfl⟩
  rw [hN]
  have HN := hide hN
  have hal : (w.alloc (.cells #[.slice none 0 0, .nilIface, .int .i64 0, .int .i64 0, .nilIface, .int .i64 0, .int .i64 0] 141)).heap[N]? = some (.cells #[.slice none 0 0, .nilIface, .int .i64 0, .int .i64 0, .nilIface, .int .i64 0, .int .i64 0] 141 (0, 0)) := by
    rw [← hN]; exact heap_alloc_new w _
  go_enter Tryz.func51, Tryz.ntmps51
  go_upto_region 5 with fail
  go_wp2_with first | (at_make; refine wpList_make_full _ rfl (.tmp 27) (.tmp 27) 125 rfl (N + 1) 5 i0 (.int .u8 0) 1 Tryz.underlying125 hi hz0 hz1 .i64 .i64 4096 4096 4096 rfl rfl rfl rfl (by rw [hz2]; decide) (by decide) (by rw [World.size_alloc, hN]; exact Nat.le_refl _) ?_; intro w2 hown2 hgr2) | (go_at_call 77; refine (reset_spec N (N + 1) s w2 _ _ _ _ _ _ _ ((hgr2.block N (by rw [World.size_alloc, hN]; omega) (by simp)).trans hal)).mono ?_; rintro x w3 ⟨rfl, hp3, k3⟩)
  go_ret
  rw [World.size_alloc, hN] at hown2
  have hs2 : N + 1 < w2.heap.size := by
    rcases hown2.2 with ⟨h, _⟩ | ⟨g, cap, cur, h1, h2, h3, _⟩
    · exact absurd h (by simp)
    · cases h1; exact (Array.getElem?_eq_some_iff.1 h3).1
  refine ⟨rfl, hp3, ?_, ?_⟩
  · rw [k3.block (N + 1) hs2 (by simp)]
    rcases hown2.2 with ⟨h, _⟩ | ⟨g, cap, cur, h1, h2, h3, h4, h5, h6, h7⟩
    · exact absurd h (by simp)
    · cases h1
      have e1 : cur.toList = List.replicate 4096 (.int .u8 0) := by
        have e2 : cur.toList.take (4096 * 1) = cur.toList := List.take_of_length_le (by rw [Array.length_toList, h6]; exact Nat.le_refl _)
        rw [← e2, h7, show (Value.int IntKind.u8 0).cells = #[Value.int IntKind.u8 0] from rfl, toList_madeCells_one]
      have e3 : cur = (Lib.byteCells (List.replicate 4096 0)).toArray := by
        apply Array.toList_inj.1
        rw [e1, Lib.byteCells, List.map_replicate]
        rfl
      rw [h3, e3]
  · have hb1 : Below w.heap.size w (w.alloc (.cells #[.slice none 0 0, .nilIface, .int .i64 0, .int .i64 0, .nilIface, .int .i64 0, .int .i64 0] 141)) := (Below.refl w.heap.size w).alloc (Nat.le_refl _) _
    have hb2 : Below w.heap.size w w2 := hb1.trans ⟨hgr2.os, hgr2.tape, hgr2.output, hgr2.size, fun k hk => hgr2.block k (by rw [World.size_alloc]; omega) (by simp)⟩
    rw [← hN]
    exact hb2.trans ⟨k3.os, k3.tape, k3.output, k3.size, fun k hk => k3.block k (by omega) (by simp; omega)⟩

theorem newReader_spec (s : Nat) (w : World) :
    Calls Tryz.prog 35 #[.iface 51 (.pointer (some ⟨s, 0, none⟩))] w fun e w' =>
      e = .returned (.pointer (some ⟨w.heap.size, 0, none⟩)) ∧
      w'.heap[w.heap.size]? = some (.cells (rdCells (w.heap.size + 1) s 0 0 .nilIface (.int .i64 (-1)) (.int .i64 (-1))) 141 (0, 0)) ∧
      w'.heap[w.heap.size + 1]? = some (.cells (Lib.byteCells (List.replicate 4096 0)).toArray 5 (0, 0)) ∧ Below w.heap.size w w' := by
  have HC := hide (newReaderSize_spec s w)
  go_enter Tryz.func35, Tryz.ntmps35
  go_wp2_with (go_at_call 51; refine HC.out.mono ?_; rintro x w2 ⟨rfl, h2⟩)
  go_ret
  exact ⟨rfl, h2⟩

/-- The scanner's own cells. -/
def scCells (path : ByteArray) (p line : Nat) (text : ByteArray) (err : Value) (done : Bool) : Array Value :=
  #[.string path, .pointer (some ⟨p, 0, none⟩), .int .i64 line, .string text, err, .bool done]

theorem strReader_spec (t : ByteArray) (w : World) :
    Calls Tryz.prog 16 #[.string t] w fun e w' => e = .returned (.pointer (some ⟨w.heap.size, 0, none⟩)) ∧ w' = w.alloc (.cells #[.string t, .int .i64 0, .int .i64 (-1)] 87) := by
  go_enter Tryz.func16, Tryz.ntmps16
  go_wp2
  go_ret
  exact ⟨rfl, rfl⟩

theorem nscan_spec (path : ByteArray) (s : Nat) (w : World) :
    Calls Tryz.prog 25 #[.string path, .iface 51 (.pointer (some ⟨s, 0, none⟩))] w fun e w' => ∃ q,
      e = .returned (.pointer (some ⟨q, 0, none⟩)) ∧ w'.heap[q]? = some (.cells (scCells path w.heap.size 0 ⟨#[]⟩ .nilIface false) 94 (0, 0)) ∧
      w'.heap[w.heap.size]? = some (.cells (rdCells (w.heap.size + 1) s 0 0 .nilIface (.int .i64 (-1)) (.int .i64 (-1))) 141 (0, 0)) ∧
      w'.heap[w.heap.size + 1]? = some (.cells (Lib.byteCells (List.replicate 4096 0)).toArray 5 (0, 0)) ∧ w.heap.size + 1 < q ∧ Below w.heap.size w w' := by
  have HC := hide (newReader_spec s w)
  go_enter Tryz.func25, Tryz.ntmps25
  go_wp2_with (go_at_call 35; refine HC.out.mono ?_; rintro x w2 ⟨rfl, hp, hb, hbl⟩)
  go_ret
  have hb' := (Array.getElem?_eq_some_iff.1 hb).1
  refine ⟨w2.heap.size, rfl, heap_alloc_new w2 _, ?_, ?_, hb', hbl.trans ((Below.refl w2.heap.size w2).alloc (Nat.le_refl _) _ |>.mono hbl.size)⟩
  · rw [heap_alloc_old w2 _ (by omega)]; exact hp
  · rw [heap_alloc_old w2 _ (by omega)]; exact hb

end Go.Proofs.Qxb6605907aGreatFmt.Sx
