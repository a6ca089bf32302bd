import Derived.Test.Qxb6605907aGreatFmtFt2
import Derived.Test.Qxb6605907aGreatFmtF5
import Derived.Test.Qxb6605907aGreatFmtSt0
import Derived.Deep.RegionHeld3
namespace Go.Proofs.Qxb6605907aGreatFmt
open Go.RowKit

/-- What the library's own tables hold. -/
structure EnvF (W0 : World) : Prop where
  max : ∃ m, W0.cell? ⟨4, 0, none⟩ = some (.int .i64 m)
  utf : Lib.Utf8Tabs 2 3 W0
  pr : ∃ T, Lib.PrintTabsAt 7 8 9 10 T W0

/-- What lay in W0 lies in w as it lay. -/
structure Low (W0 w : World) : Prop where
  size : W0.heap.size ≤ w.heap.size
  block : ∀ k, k < W0.heap.size → w.heap[k]? = W0.heap[k]?

theorem Low.refl (W0 : World) : Low W0 W0 := ⟨Nat.le_refl _, fun _ _ => rfl⟩
theorem Low.keepT {W0 w w' : World} {Ts S : List Nat} (h : Low W0 w) (k : KeepsT W0.heap.size Ts S w w') : Low W0 w' :=
  ⟨Nat.le_trans h.size k.size, fun i hi => (k.low i hi (Nat.lt_of_lt_of_le hi h.size)).trans (h.block i hi)⟩
theorem Low.below {W0 w w' : World} (h : Low W0 w) (k : Below w.heap.size w w') : Low W0 w' :=
  ⟨Nat.le_trans h.size k.size, fun i hi => (k.block i (Nat.lt_of_lt_of_le hi h.size)).trans (h.block i hi)⟩
theorem Low.cell {W0 w : World} (h : Low W0 w) {p : Addr} {v : Value} (hp : W0.cell? p = some v) : w.cell? p = some v := by
  have hlt := World.block_lt_of_cell? W0 _ hp
  have hb := h.block _ hlt
  have e : w.cell? p = W0.cell? p := by simp only [World.cell?, hb]
  rw [e]; exact hp

theorem EnvF.maxAt {W0 w : World} (E : EnvF W0) (h : Low W0 w) : ∃ m, w.cell? ⟨4, 0, none⟩ = some (.int .i64 m) := by
  obtain ⟨m, hm⟩ := E.max
  exact ⟨m, h.cell hm⟩
theorem EnvF.utfAt {W0 w : World} (E : EnvF W0) (h : Low W0 w) : Lib.Utf8Tabs 2 3 w :=
  ⟨fun c hc => h.cell (E.utf.1 c hc), fun i hi => ⟨h.cell (E.utf.2 i hi).1, h.cell (E.utf.2 i hi).2⟩⟩
theorem tab_low {W0 w : World} (h : Low W0 w) {g : Nat} {k : IntKind} {t : List Nat} (ht : Lib.TabSlice g k t W0) : Lib.TabSlice g k t w := by
  obtain ⟨R, o, c, h1, h2⟩ := ht
  exact ⟨R, o, c, h.cell h1, fun j hj => h.cell (h2 j hj)⟩
theorem EnvF.prAt {W0 w : World} (E : EnvF W0) (h : Low W0 w) : ∃ T, Lib.PrintTabsAt 7 8 9 10 T w := by
  obtain ⟨T, h1, h2, h3, h4, h5⟩ := E.pr
  exact ⟨T, tab_low h h1, tab_low h h2, tab_low h h3, tab_low h h4, h5⟩

theorem quoteLib_spec (W0 : World) (EV : EnvF W0) (s : ByteArray) (w : World) (hl : Low W0 w) (hs : s.size ≤ 1048577) :
    Calls Tryz.prog 58 #[.string s] w fun e w' => (∃ q : ByteArray, e = .returned (.string q) ∧ q.size ≤ 10 * s.size + 2) ∧ Below w.heap.size w w' := by
  obtain ⟨T, hT⟩ := EV.prAt hl
  refine (Any.strconv_Quote Tryz.lays177 (by kernel_rfl) T s w (by omega) hT (EV.utfAt hl)).mono ?_
  rintro e w' ⟨rfl, hb⟩
  refine ⟨⟨_, rfl, ?_⟩, hb⟩
  rw [strOfNums_size]
  exact Lib.quoteZ_length_le T s

/-- history.Quote. -/
theorem quote_spec (W0 : World) (EV : EnvF W0) (s : ByteArray) (w : World) (hl : Low W0 w) (hs : s.size ≤ 1048577) :
    Calls Tryz.prog 40 #[.string s] w fun e w' => (∃ q : ByteArray, e = .returned (.string q)) ∧ Below w.heap.size w w' := by
  by_cases h40 : 40 < s.size
  · have h40' : (40 : Int) < (s.size : Int) := by omega
    have hsz : (s.extract 0 40).size = 40 := by rw [ByteArray.size_extract]; omega
    have HQ := hide (quoteLib_spec W0 EV (s.extract 0 40) w hl (by omega))
    rw [hsz] at HQ
    go_enter Tryz.func40, Tryz.ntmps40
    go_wp2_with (go_at_call 58; refine HQ.out.mono ?_; rintro e w2 ⟨⟨q, rfl, hq⟩, hb2⟩; have hq3 : q.size + 3 ≤ 9223372036854775807 := by omega)
    go_ret
    exact ⟨⟨_, rfl⟩, hb2⟩
  · have h40' : ¬ ((40 : Int) < (s.size : Int)) := by omega
    have HQ := hide (quoteLib_spec W0 EV s w hl hs)
    go_enter Tryz.func40, Tryz.ntmps40
    go_wp2_with (go_at_call 58; refine HQ.out.mono ?_; rintro e w2 ⟨⟨q, rfl, hq⟩, hb2⟩)
    go_ret
    exact ⟨⟨_, rfl⟩, hb2⟩

set_option maxRecDepth 100000 in
theorem errorf_op (sc : Nat) (file : ByteArray) (v1 v3 v4 v5 : Value) (line : Int) (blk : Nat) (x : ByteArray) (w : World) (hsc : w.heap[sc]? = some (.cells #[.string file, v1, .int .i64 line, v3, v4, v5] 94 (0, 0)))
    (h0 : w.cell? ⟨blk, 0, none⟩ = some (.iface 9 (.string x))) :
    Calls Tryz.prog 39 #[.pointer (some ⟨sc, 0, none⟩), .string ⟨#[111, 112, 101, 114, 97, 116, 105, 111, 110, 32, 37, 115, 32, 100, 111, 101, 115, 32, 110, 111, 116, 32, 112, 97, 114, 115, 101, 58, 32, 119, 97, 110, 116, 32, 119, 40, 86, 65, 82, 41, 86, 65, 76, 85, 69, 32, 111, 114, 32, 114, 40, 86, 65, 82, 41, 86, 65, 76, 85, 69]⟩, .slice (some ⟨blk, 0, none⟩) 1 1] w fun e w' => ∃ eb s, e = .returned (.pointer (some ⟨eb, 0, none⟩)) ∧ w'.heap[eb]? = some (.cells #[.string file, .int .i64 line, .string s] 31 (0, 0)) ∧ w.heap.size ≤ eb ∧ Below w.heap.size w w' := by
  have c0 : w.cell? ⟨sc, 0, none⟩ = some (.string file) := by rw [row_cell hsc]; rfl
  have c2 : w.cell? ⟨sc, 2, none⟩ = some (.int .i64 line) := by rw [row_cell hsc]; rfl
  have ls := lt_of_get hsc
  clear hsc
  go_enter Tryz.func39, Tryz.ntmps39
  go_wp2_with fail
  go_region_held3 (fun w' => w'.cell? ⟨sc, 0, none⟩ = some (.string file) ∧ w'.cell? ⟨sc, 2, none⟩ = some (.int .i64 line)) (go_keep) ((refine rows_op blk x _ (by simp [h0]) ?_; intro s))
  go_wp2
  go_ret
  exact ⟨w.heap.size, s, rfl, heap_alloc_new w _, Nat.le_refl _, ((Below.refl w.heap.size w).alloc (Nat.le_refl _) _).drew.drew⟩

set_option maxRecDepth 100000 in
theorem errorf_er (sc : Nat) (file : ByteArray) (v1 v3 v4 v5 : Value) (line : Int) (blk : Nat) (e0 : Nat) (x : ByteArray) (w : World) (hsc : w.heap[sc]? = some (.cells #[.string file, v1, .int .i64 line, v3, v4, v5] 94 (0, 0)))
    (h0 : w.cell? ⟨blk, 0, none⟩ = some (.iface 168 (.pointer (some ⟨e0, 0, none⟩)))) (h1 : w.cell? ⟨e0, 0, none⟩ = some (.string x)) :
    Calls Tryz.prog 39 #[.pointer (some ⟨sc, 0, none⟩), .string ⟨#[37, 118]⟩, .slice (some ⟨blk, 0, none⟩) 1 1] w fun e w' => ∃ eb s, e = .returned (.pointer (some ⟨eb, 0, none⟩)) ∧ w'.heap[eb]? = some (.cells #[.string file, .int .i64 line, .string s] 31 (0, 0)) ∧ w.heap.size ≤ eb ∧ Below w.heap.size w w' := by
  have c0 : w.cell? ⟨sc, 0, none⟩ = some (.string file) := by rw [row_cell hsc]; rfl
  have c2 : w.cell? ⟨sc, 2, none⟩ = some (.int .i64 line) := by rw [row_cell hsc]; rfl
  have ls := lt_of_get hsc
  clear hsc
  go_enter Tryz.func39, Tryz.ntmps39
  go_wp2_with fail
  go_region_held3 (fun w' => w'.cell? ⟨sc, 0, none⟩ = some (.string file) ∧ w'.cell? ⟨sc, 2, none⟩ = some (.int .i64 line)) (go_keep) ((refine rows_er blk e0 x _ (by simp [h0]) (by simp [h1]) ?_; intro s))
  go_wp2
  go_ret
  exact ⟨w.heap.size, s, rfl, heap_alloc_new w _, Nat.le_refl _, ((Below.refl w.heap.size w).alloc (Nat.le_refl _) _).drew.drew⟩

end Go.Proofs.Qxb6605907aGreatFmt
