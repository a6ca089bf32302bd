import Derived.Test.Qxb6605907aGreatFmtPp0
namespace Go.Proofs.Qxb6605907aGreatFmt
open Go.RowKit

theorem reset_spec (p b s : Nat) (w : World) (v0 v1 v2 v3 v4 v5 v6 : Value) (hp : w.heap[p]? = some (.cells #[v0, v1, v2, v3, v4, v5, v6] 141 (0, 0))) :
    Calls Tryz.prog 77 #[.pointer (some ⟨p, 0, none⟩), .slice (some ⟨b, 0, none⟩) 4096 4096, .iface 51 (.pointer (some ⟨s, 0, none⟩))] w fun e w' =>
      e = .returned (.tuple #[]) ∧ Keeps [p] w w' := by
  have c0 : w.cell? ⟨p, 0, none⟩ = some v0 := by rw [row_cell hp]; rfl
  have f0 : w.frozen? ⟨p, 0, none⟩ = false := row_frozen hp 0
  have c1 : w.cell? ⟨p, 1, none⟩ = some v1 := by rw [row_cell hp]; rfl
  have f1 : w.frozen? ⟨p, 1, none⟩ = false := row_frozen hp 1
  have c2 : w.cell? ⟨p, 2, none⟩ = some v2 := by rw [row_cell hp]; rfl
  have f2 : w.frozen? ⟨p, 2, none⟩ = false := row_frozen hp 2
  have c3 : w.cell? ⟨p, 3, none⟩ = some v3 := by rw [row_cell hp]; rfl
  have f3 : w.frozen? ⟨p, 3, none⟩ = false := row_frozen hp 3
  have c4 : w.cell? ⟨p, 4, none⟩ = some v4 := by rw [row_cell hp]; rfl
  have f4 : w.frozen? ⟨p, 4, none⟩ = false := row_frozen hp 4
  have c5 : w.cell? ⟨p, 5, none⟩ = some v5 := by rw [row_cell hp]; rfl
  have f5 : w.frozen? ⟨p, 5, none⟩ = false := row_frozen hp 5
  have c6 : w.cell? ⟨p, 6, none⟩ = some v6 := by rw [row_cell hp]; rfl
  have f6 : w.frozen? ⟨p, 6, none⟩ = false := row_frozen hp 6
  clear hp
  go_enter Tryz.func77, Tryz.ntmps77
  go_wp2
  go_end0
  exact ⟨rfl, (((((((Keeps.refl _ w).setCell ⟨p, 0, none⟩ _ (by simp)).setCell ⟨p, 1, none⟩ _ (by simp)).setCell ⟨p, 2, none⟩ _ (by simp)).setCell ⟨p, 3, none⟩ _ (by simp)).setCell ⟨p, 4, none⟩ _ (by simp)).setCell ⟨p, 5, none⟩ _ (by simp)).setCell ⟨p, 6, none⟩ _ (by simp)⟩

theorem notReader (v : Value) (w : World) : (Instr.typeAssert (.iface 51 v) 81 91 true).run Tryz.prog w = .ok (.tuple #[.pointer none, .bool false]) w := by kernel_rfl

set_option maxRecDepth 100000 in
theorem newReaderSize_spec (s : Nat) (w : World) :
    Calls Tryz.prog 51 #[.iface 51 (.pointer (some ⟨s, 0, none⟩)), .int .i64 4096] w fun e w' => e = .returned (.pointer (some ⟨w.heap.size, 0, none⟩)) ∧ Below w.heap.size w w' := by
  obtain ⟨i0, hi, hz0, hz1, hz2⟩ := info_parts (show (Tryz.prog.info? 5).map (fun i => (i.zero, i.size, i.bytes)) = some (some (.int .u8 0), 1, 1) by kernel_rfl)
  have hta := notReader
  obtain ⟨N, hN⟩ : ∃ N, w.heap.size = N := ⟨_, rfl⟩
  rw [hN]
  have hal : (w.alloc (.cells #[.slice none 0 0, .nilIface, .int .i64 0, .int .i64 0, .nilIface, .int .i64 0, .int .i64 0] 141)).heap[N]? = some (.cells #[.slice none 0 0, .nilIface, .int .i64 0, .int .i64 0, .nilIface, .int .i64 0, .int .i64 0] 141 (0, 0)) := by
    rw [← hN]; exact heap_alloc_new w _
  go_enter Tryz.func51, Tryz.ntmps51
  go_upto_region 5 with fail
  go_wp2_with first | (at_make; refine wpList_make_full _ rfl (.tmp 27) (.tmp 27) 125 rfl (N + 1) 5 i0 (.int .u8 0) 1 Tryz.underlying125 hi hz0 hz1 .i64 .i64 4096 4096 4096 rfl rfl rfl rfl (by rw [hz2]; decide) (by decide) (by rw [World.size_alloc, hN]; exact Nat.le_refl _) ?_; intro w2 hown2 hgr2) | (go_at_call 77; refine (reset_spec N (N + 1) s w2 _ _ _ _ _ _ _ ((hgr2.block N (by rw [World.size_alloc, hN]; omega) (by simp)).trans hal)).mono ?_; rintro x w3 ⟨rfl, k3⟩)
  go_ret
  have hb1 : Below w.heap.size w (w.alloc (.cells #[.slice none 0 0, .nilIface, .int .i64 0, .int .i64 0, .nilIface, .int .i64 0, .int .i64 0] 141)) := (Below.refl w.heap.size w).alloc (Nat.le_refl _) _
  have hb2 : Below w.heap.size w w2 := hb1.trans ⟨hgr2.os, hgr2.tape, hgr2.output, hgr2.size, fun k hk => hgr2.block k (by rw [World.size_alloc]; omega) (by simp)⟩
  have hs2 := hb2.size
  rw [← hN]
  exact ⟨rfl, hb2.trans ⟨k3.os, k3.tape, k3.output, k3.size, fun k hk => k3.block k (by omega) (by simp; omega)⟩⟩

theorem newReader_spec (s : Nat) (w : World) :
    Calls Tryz.prog 35 #[.iface 51 (.pointer (some ⟨s, 0, none⟩))] w fun e w' => e = .returned (.pointer (some ⟨w.heap.size, 0, none⟩)) ∧ Below w.heap.size w w' := by
  have HC := hide (newReaderSize_spec s w)
  go_enter Tryz.func35, Tryz.ntmps35
  go_wp2_with (go_at_call 51; refine HC.out.mono ?_; rintro x w2 ⟨rfl, h2⟩)
  go_ret
  exact ⟨rfl, h2⟩

theorem strReader_spec (t : ByteArray) (w : World) :
    Calls Tryz.prog 16 #[.string t] w fun e w' => e = .returned (.pointer (some ⟨w.heap.size, 0, none⟩)) ∧ w' = w.alloc (.cells #[.string t, .int .i64 0, .int .i64 (-1)] 87) := by
  go_enter Tryz.func16, Tryz.ntmps16
  go_wp2
  go_ret
  exact ⟨rfl, rfl⟩

theorem nscan_spec (file : ByteArray) (s : Nat) (w : World) :
    Calls Tryz.prog 25 #[.string file, .iface 51 (.pointer (some ⟨s, 0, none⟩))] w fun e w' => ∃ q v1,
      e = .returned (.pointer (some ⟨q, 0, none⟩)) ∧ w'.heap[q]? = some (.cells #[.string file, v1, .int .i64 0, .string ⟨#[]⟩, .nilIface, .bool false] 94 (0, 0)) ∧ w.heap.size ≤ q ∧ Below w.heap.size w w' := by
  have HC := hide (newReader_spec s w)
  go_enter Tryz.func25, Tryz.ntmps25
  go_wp2_with (go_at_call 35; refine HC.out.mono ?_; rintro x w2 ⟨rfl, hbl⟩)
  go_ret
  exact ⟨w2.heap.size, _, rfl, heap_alloc_new w2 _, hbl.size, hbl.trans ((Below.refl w2.heap.size w2).alloc (Nat.le_refl _) _ |>.mono hbl.size)⟩

set_option maxRecDepth 100000 in
/-- history.New, of no names. -/
theorem new_spec (B : Nat) (init : List UInt8) (w : World) (hB : B ≤ w.heap.size) :
    Calls Tryz.prog 26 #[.string (baOf init), .slice none 0 0] w fun e w' => ∃ hb wb, e = .returned (.pointer (some ⟨hb, 0, none⟩)) ∧ GOk B w' hb wb init ⟨[], []⟩ ∧ w.heap.size ≤ hb ∧ w.heap.size ≤ wb ∧ Below w.heap.size w w' := by
  obtain ⟨i0, hi, hz0, hz1, hz2⟩ := info_parts (show (Tryz.prog.info? 46).map (fun i => (i.zero, i.size, i.bytes)) = some (some (.agg #[.string ⟨#[]⟩, .slice none 0 0]), 2, 40) by kernel_rfl)
  have hmm := @run_makeMap Tryz.prog
  go_enter Tryz.func26, Tryz.ntmps26
  go_wp2_with (at_make; refine wpList_make_full _ rfl (.tmp 10) (.tmp 10) 40 rfl w.heap.size 46 i0 (.agg #[.string ⟨#[]⟩, .slice none 0 0]) 2 Tryz.underlying40 hi hz0 hz1 .i64 .i64 0 0 0 rfl rfl rfl rfl (by rw [hz2]; decide) (by decide) (Nat.le_refl _) ?_; intro w2 hown2 hgr2)
  obtain ⟨W, hW⟩ : ∃ W, (w2.alloc (.map #[] 0)).alloc (.cells #[.string (baOf init), .slice (some ⟨w.heap.size, 0, none⟩) 0 0, .map (some w2.heap.size)] 43) = W := ⟨_, rfl⟩
  have hb2 : Below w.heap.size w w2 := ⟨hgr2.os, hgr2.tape, hgr2.output, hgr2.size, fun k hk => hgr2.block k hk (by simp)⟩
  have HBW : Hid (Below w.heap.size w W) := by rw [← hW]; exact (hb2.alloc hb2.size _).alloc (by rw [World.size_alloc]; have := hb2.size; omega) _
  have kW : KeepsT B [] [] w2 W := by rw [← hW]; exact (KeepsT.refl _ _ _ w2).alloc _ |>.alloc _
  have hrow : W.heap[w2.heap.size + 1]? = some (.cells #[.string (baOf init), .slice (some ⟨w.heap.size, 0, none⟩) 0 0, .map (some w2.heap.size)] 43 (0, 0)) := by
    rw [← hW]
    have := heap_alloc_new (w2.alloc (.map #[] 0)) (.cells #[.string (baOf init), .slice (some ⟨w.heap.size, 0, none⟩) 0 0, .map (some w2.heap.size)] 43)
    rw [World.size_alloc] at this
    exact this
  have hmap : W.heap[w2.heap.size]? = some (.map #[] 0) := by
    rw [← hW, heap_alloc_old _ _ (by rw [World.size_alloc]; omega)]
    exact World.alloc_heap_new w2 _
  have HG : Hid (GOk B W (w2.heap.size + 1) w2.heap.size init ⟨[], []⟩) := by
    have hown : w2.ownsRow B 46 2 (.slice (some ⟨w.heap.size, 0, none⟩) 0 0) 0 [] := by
      refine ⟨rfl, ?_⟩
      rcases hown2.2 with ⟨h, _⟩ | ⟨g, cap, cur, h1, h2, h3, h4, h5, h6, h7⟩
      · exact absurd h (by simp)
      · cases h1
        exact Or.inr ⟨_, _, cur, rfl, hB, h3, h4, h5, h6, by simp⟩
    exact ⟨_, [], [], ⟨hrow, ownsRow_keepsT hown kW (by simp), fun i v os hv _ => by simp at hv, ⟨rfl, rfl⟩, fun i j v u g _ hv => by simp at hv, ⟨#[], 0, hmap, rfl⟩, fun e he => by simp at he, ⟨by have := hb2.size; omega, by have := hb2.size; omega⟩⟩, rfl⟩
  have hs2 := hb2.size
  rw [hW]
  clear hW hrow hmap kW hown2 hgr2 hb2
  go_loopw [17] (fun v wr => v = .int .i64 0 ∧ wr = W) (fun _ _ => 0)
  case atStart => exact ⟨rfl, rfl⟩
  case round =>
    obtain ⟨rfl, rfl⟩ := hrel
    go_wp2
    go_ret
    exact ⟨w2.heap.size + 1, w2.heap.size, rfl, HG.out, by omega, hs2, HBW.out⟩

/-- The parser that Parse builds, with nothing left to read. -/
theorem newParser_spec (W0 : World) (file : ByteArray) (init : List UInt8) (ini : Bool) (w : World) (hB : W0.heap.size ≤ w.heap.size) :
    Calls Tryz.prog 11 #[.string file, .string (baOf init), .bool ini] w fun e w' => ∃ pb sc hb mb wb, e = .returned (.pointer (some ⟨pb, 0, none⟩)) ∧ POk W0.heap.size w' pb sc hb mb wb file 0 ini false init ⟨[], []⟩ ∧ w.heap.size ≤ mb ∧ w.heap.size ≤ wb ∧ Below w.heap.size w w' := by
  have hmm := @run_makeMap Tryz.prog
  have HR := hide (strReader_spec ⟨#[]⟩ w)
  obtain ⟨w1, hw1⟩ : ∃ w1, w.alloc (.cells #[.string ⟨#[]⟩, .int .i64 0, .int .i64 (-1)] 87) = w1 := ⟨_, rfl⟩
  have hb1 : Below w.heap.size w w1 := by rw [← hw1]; exact (Below.refl _ w).alloc (Nat.le_refl _) _
  rw [hw1] at HR
  have HN := hide (nscan_spec file w.heap.size w1)
  have HH := hide (fun (w2 : World) (h2 : W0.heap.size ≤ w2.heap.size) => new_spec W0.heap.size init w2 h2)
  have hs1 := hb1.size
  clear hw1
  go_enter Tryz.func11, Tryz.ntmps11
  go_wp2_with first
    | (go_at_call 16; refine HR.out.mono ?_; rintro x w1 ⟨rfl, rfl⟩)
    | (go_at_call 25; refine HN.out.mono ?_; rintro x w2 ⟨sc, v1, rfl, hsc, hlsc, hb2⟩; have hs2 := hb2.size)
    | (go_at_call 26; refine (HH.out w2 (by omega)).mono ?_; rintro x w3 ⟨hb, wb, rfl, hG, hlh, hlw, hb3⟩; have hs3 := hb3.size)
  go_ret
  have hbA : Below w.heap.size w w3 := hb1.trans ((hb2.trans (hb3.mono hb2.size)).mono hb1.size)
  have hrowP : ((w3.alloc (.map #[] 0)).alloc (.cells #[.pointer (some ⟨sc, 0, none⟩), .pointer (some ⟨hb, 0, none⟩), .map (some w3.heap.size), .bool ini, .bool false] 78)).heap[w3.heap.size + 1]? = some (.cells #[.pointer (some ⟨sc, 0, none⟩), .pointer (some ⟨hb, 0, none⟩), .map (some w3.heap.size), .bool ini, .bool false] 78 (0, 0)) := by
    have := heap_alloc_new (w3.alloc (.map #[] 0)) (.cells #[.pointer (some ⟨sc, 0, none⟩), .pointer (some ⟨hb, 0, none⟩), .map (some w3.heap.size), .bool ini, .bool false] 78)
    rw [World.size_alloc] at this
    exact this
  have hmap : ((w3.alloc (.map #[] 0)).alloc (.cells #[.pointer (some ⟨sc, 0, none⟩), .pointer (some ⟨hb, 0, none⟩), .map (some w3.heap.size), .bool ini, .bool false] 78)).heap[w3.heap.size]? = some (.map #[] 0) := by
    rw [heap_alloc_old _ _ (by rw [World.size_alloc]; omega)]
    exact World.alloc_heap_new w3 _
  have k3 : KeepsT W0.heap.size [] [] w3 ((w3.alloc (.map #[] 0)).alloc (.cells #[.pointer (some ⟨sc, 0, none⟩), .pointer (some ⟨hb, 0, none⟩), .map (some w3.heap.size), .bool ini, .bool false] 78)) := (KeepsT.refl _ _ _ w3).alloc _ |>.alloc _
  have hsc3 := (hb3.block sc (lt_of_get hsc)).trans hsc
  have hwl : wb < w3.heap.size := by
    obtain ⟨_, _, _, hs, _⟩ := hG
    obtain ⟨wo, hw1, _⟩ := hs.writes.obj
    exact lt_of_get hw1
  refine ⟨w3.heap.size + 1, sc, hb, w3.heap.size, wb, rfl, ⟨⟨hrowP, ⟨v1, .string ⟨#[]⟩, .nilIface, .bool false, k3.cells _ _ _ _ hsc3 (by simp)⟩, ⟨by omega, by omega⟩, by omega⟩, ⟨#[], 0, hmap, rfl⟩, hG.keepT k3 (by simp) (by simp)⟩, by omega, by omega, (hbA.alloc hbA.size _).alloc (by rw [World.size_alloc]; omega) _⟩

theorem newModel_spec (B : Nat) (init : List UInt8) (w : World) (hB : B ≤ w.heap.size) :
    Calls Tryz.prog 17 #[.string (baOf init)] w fun e w' => ∃ m im wm, e = .returned (.pointer (some ⟨m, 0, none⟩)) ∧ (∀ C, B ≤ C → MOk B C w' m im wm init ⟨[], []⟩) ∧ w.heap.size ≤ im ∧ w.heap.size ≤ wm ∧ Below w.heap.size w w' := by
  have hmm := @run_makeMap Tryz.prog
  go_enter Tryz.func17, Tryz.ntmps17
  go_wp2
  go_ret
  have hrow : (((w.alloc (.map #[] 0)).alloc (.map #[] 0)).alloc (.cells #[.string (baOf init), .slice none 0 0, .slice none 0 0, .map (some w.heap.size), .map (some (w.heap.size + 1))] 65)).heap[w.heap.size + 2]? = some (.cells #[.string (baOf init), .slice none 0 0, .slice none 0 0, .map (some w.heap.size), .map (some (w.heap.size + 1))] 65 (0, 0)) := by
    have := heap_alloc_new ((w.alloc (.map #[] 0)).alloc (.map #[] 0)) (.cells #[.string (baOf init), .slice none 0 0, .slice none 0 0, .map (some w.heap.size), .map (some (w.heap.size + 1))] 65)
    rw [World.size_alloc, World.size_alloc] at this
    exact this
  have hm0 : (((w.alloc (.map #[] 0)).alloc (.map #[] 0)).alloc (.cells #[.string (baOf init), .slice none 0 0, .slice none 0 0, .map (some w.heap.size), .map (some (w.heap.size + 1))] 65)).heap[w.heap.size]? = some (.map #[] 0) := by
    rw [heap_alloc_old _ _ (by rw [World.size_alloc, World.size_alloc]; omega), heap_alloc_old _ _ (by rw [World.size_alloc]; omega)]
    exact World.alloc_heap_new w _
  have hm1 : (((w.alloc (.map #[] 0)).alloc (.map #[] 0)).alloc (.cells #[.string (baOf init), .slice none 0 0, .slice none 0 0, .map (some w.heap.size), .map (some (w.heap.size + 1))] 65)).heap[w.heap.size + 1]? = some (.map #[] 0) := by
    rw [heap_alloc_old _ _ (by rw [World.size_alloc, World.size_alloc]; omega)]
    have := World.alloc_heap_new (w.alloc (.map #[] 0)) (.map #[] 0)
    rw [World.size_alloc] at this
    exact this
  refine ⟨w.heap.size + 2, w.heap.size, w.heap.size + 1, rfl, fun C hBC => ⟨_, _, [], ⟨hrow, ⟨rfl, Or.inl ⟨rfl, rfl⟩⟩, ⟨rfl, Or.inl ⟨rfl, rfl⟩⟩, fun i v os hv _ => by simp at hv, rfl, fun i j v u g _ hv => by simp at hv, ⟨#[], 0, hm0, rfl⟩, ⟨#[], 0, hm1, rfl⟩, by omega, ⟨by omega, hB, by omega⟩, hBC⟩⟩, Nat.le_refl _, by omega, (((Below.refl w.heap.size w).alloc (Nat.le_refl _) _).alloc (by rw [World.size_alloc]; omega) _).alloc (by rw [World.size_alloc, World.size_alloc]; omega) _⟩

end Go.Proofs.Qxb6605907aGreatFmt
