import Derived.Test.Qxb6605907aGreatFmtFt
import Derived.WalkSpells
import Derived.WalkLawsBesides
import Derived.Test.Qxb6605907aGreatFmtK0
import Derived.Test.Qxb6605907aGreatFmtF1
namespace Go.Proofs.Qxb6605907aGreatFmt
open Go.RowKit Go.Extern.Stop Go.Stop Go.Extern

theorem rows_nm (blk : Nat) (x : ByteArray) (n : Int) (W : World) (h0 : W.cell? ⟨blk, 0, none⟩ = some (.iface 9 (.string x))) (h1 : W.cell? ⟨blk, 1, none⟩ = some (.iface 3 (.int .i64 n))) {R : Value → World → Prop} (hR : ∀ s, R (.string s) W.drew) :
    Rows Tryz.prog FmtCalls.turnsRow (FmtCalls.save 0 0 (.slice (some ⟨blk, 0, none⟩) 2 2) ⟨#[37, 115, 46, 37, 100]⟩ [] [(0, 115, false), (1, 100, false)]) W R := by
  apply rows_value Tryz.nextTurns
  case hr =>
    go_simp
    exact ⟨rfl, rfl⟩
  case h => exact hR _

theorem rows_op (blk : Nat) (x : ByteArray) (W : World) (h0 : W.cell? ⟨blk, 0, none⟩ = some (.iface 9 (.string x))) {R : Value → World → Prop} (hR : ∀ s, R (.string s) W.drew) :
    Rows Tryz.prog FmtCalls.turnsRow (FmtCalls.save 0 0 (.slice (some ⟨blk, 0, none⟩) 1 1) ⟨#[111, 112, 101, 114, 97, 116, 105, 111, 110, 32, 37, 115, 32, 100, 111, 101, 115, 32, 110, 111, 116, 32, 112, 97, 114, 115, 101, 58, 32, 119, 97, 110, 116, 32, 119, 40, 86, 65, 82, 41, 86, 65, 76, 85, 69, 32, 111, 114, 32, 114, 40, 86, 65, 82, 41, 86, 65, 76, 85, 69]⟩ [] [(0, 115, false)]) W R := by
  apply rows_value Tryz.nextTurns
  case hr =>
    go_simp
    exact ⟨rfl, rfl⟩
  case h => exact hR _

theorem rows_er (blk eb : Nat) (x : ByteArray) (W : World) (h0 : W.cell? ⟨blk, 0, none⟩ = some (.iface 168 (.pointer (some ⟨eb, 0, none⟩)))) (h1 : W.cell? ⟨eb, 0, none⟩ = some (.string x)) {R : Value → World → Prop} (hR : ∀ s, R (.string s) W.drew) :
    Rows Tryz.prog FmtCalls.turnsRow (FmtCalls.save 0 0 (.slice (some ⟨blk, 0, none⟩) 1 1) ⟨#[37, 118]⟩ [] [(0, 118, false)]) W R := by
  have hop := Tryz.opE_118 "fmt.Sprintf" ⟨eb, 0, none⟩ x W h1
  apply rows_value Tryz.nextTurns
  case hr =>
    go_simp
    exact ⟨rfl, rfl⟩
  case h => exact hR _

/-- (history.Op).String. -/
theorem opString_spec (k : Int) (v u : ByteArray) (w : World) (hv : v.size ≤ 1048577) (hu : u.size ≤ 1048577) :
    Calls Tryz.prog 84 #[.agg #[.int .u8 k, .string v, .string u]] w fun e w' => (∃ s, e = .returned (.string s)) ∧ Below w.heap.size w w' := by
  have hs1 : 2 + v.size ≤ 9223372036854775807 := by omega
  have hs2 : 2 + v.size + 1 ≤ 9223372036854775807 := by omega
  have hs3 : 2 + v.size + 1 + u.size ≤ 9223372036854775807 := by omega
  go_enter Tryz.func84, Tryz.ntmps84
  go_wp2
  all_goals
    go_ret
    exact ⟨⟨_, rfl⟩, (Below.refl w.heap.size w).alloc (Nat.le_refl _) _⟩

set_option maxHeartbeats 2000000 in
theorem errorf_in (blk : Nat) (a c v u : ByteArray) (k : Int) (w : World) (hv : v.size ≤ 1048577) (hu : u.size ≤ 1048577) (h0 : w.cell? ⟨blk, 0, none⟩ = some (.iface 9 (.string a))) (h1 : w.cell? ⟨blk, 1, none⟩ = some (.iface 71 (.agg #[.int .u8 k, .string v, .string u]))) (h2 : w.cell? ⟨blk, 2, none⟩ = some (.iface 9 (.string c))) :
    Calls Tryz.prog 59 #[.string ⟨#[37, 115, 32, 37, 115, 32, 119, 114, 105, 116, 101, 115, 32, 116, 104, 101, 32, 105, 110, 105, 116, 105, 97, 108, 32, 116, 111, 107, 101, 110, 32, 37, 113]⟩, .slice (some ⟨blk, 0, none⟩) 3 3] w fun e w' => ∃ eb s, e = .returned (.iface 168 (.pointer (some ⟨eb, 0, none⟩))) ∧ w'.heap[eb]? = some (.cells #[.string s] 170 (0, 0)) ∧ w.heap.size ≤ eb ∧ Below w.heap.size w w' := by
  have lb := World.block_lt_of_cell? w _ h0
  have HS := hide (opString_spec k v u w hv hu)
  go_enter Tryz.func59, Tryz.ntmps59
  go_wp2
  apply rows_call Tryz.nextTurns
  case hr => go_simp; exact ⟨⟨rfl, rfl, rfl⟩, rfl⟩
  case hi => exact Tryz.invokeStringO _ _
  case hc =>
    refine HS.out.mono ?_
    rintro e w3 ⟨⟨s, rfl⟩, hb⟩
    have h03 : w3.cell? ⟨blk, 0, none⟩ = some (.iface 9 (.string a)) := (hb.cell (p := ⟨blk, 0, none⟩) lb).trans h0
    have h23 : w3.cell? ⟨blk, 2, none⟩ = some (.iface 9 (.string c)) := (hb.cell (p := ⟨blk, 2, none⟩) lb).trans h2
    apply rows_value Tryz.nextReturned
    case hr =>
      go_simp
      exact ⟨rfl, rfl⟩
    case h =>
      go_wp2
      go_ret
      exact ⟨w3.heap.size, _, rfl, heap_alloc_new w3 _, hb.size, (hb.alloc hb.size _).drew⟩

set_option maxHeartbeats 2000000 in
theorem errorf_ag (blk : Nat) (a c d f v u : ByteArray) (k : Int) (w : World) (hv : v.size ≤ 1048577) (hu : u.size ≤ 1048577) (h0 : w.cell? ⟨blk, 0, none⟩ = some (.iface 9 (.string a))) (h1 : w.cell? ⟨blk, 1, none⟩ = some (.iface 71 (.agg #[.int .u8 k, .string v, .string u])))
    (h2 : w.cell? ⟨blk, 2, none⟩ = some (.iface 9 (.string c))) (h3 : w.cell? ⟨blk, 3, none⟩ = some (.iface 9 (.string d))) (h4 : w.cell? ⟨blk, 4, none⟩ = some (.iface 9 (.string f))) :
    Calls Tryz.prog 59 #[.string ⟨#[37, 115, 32, 37, 115, 32, 119, 114, 105, 116, 101, 115, 32, 37, 115, 61, 37, 115, 32, 97, 103, 97, 105, 110, 58, 32, 37, 115, 32, 119, 114, 111, 116, 101, 32, 105, 116, 32, 102, 105, 114, 115, 116]⟩, .slice (some ⟨blk, 0, none⟩) 5 5] w fun e w' => ∃ eb s, e = .returned (.iface 168 (.pointer (some ⟨eb, 0, none⟩))) ∧ w'.heap[eb]? = some (.cells #[.string s] 170 (0, 0)) ∧ w.heap.size ≤ eb ∧ Below w.heap.size w w' := by
  have lb := World.block_lt_of_cell? w _ h0
  have HS := hide (opString_spec k v u w hv hu)
  go_enter Tryz.func59, Tryz.ntmps59
  go_wp2
  apply rows_call Tryz.nextTurns
  case hr => go_simp; exact ⟨⟨rfl, rfl, rfl⟩, rfl⟩
  case hi => exact Tryz.invokeStringO _ _
  case hc =>
    refine HS.out.mono ?_
    rintro e w3 ⟨⟨s, rfl⟩, hb⟩
    have h03 : w3.cell? ⟨blk, 0, none⟩ = some (.iface 9 (.string a)) := (hb.cell (p := ⟨blk, 0, none⟩) lb).trans h0
    have h23 : w3.cell? ⟨blk, 2, none⟩ = some (.iface 9 (.string c)) := (hb.cell (p := ⟨blk, 2, none⟩) lb).trans h2
    have h33 : w3.cell? ⟨blk, 3, none⟩ = some (.iface 9 (.string d)) := (hb.cell (p := ⟨blk, 3, none⟩) lb).trans h3
    have h43 : w3.cell? ⟨blk, 4, none⟩ = some (.iface 9 (.string f)) := (hb.cell (p := ⟨blk, 4, none⟩) lb).trans h4
    apply rows_value Tryz.nextReturned
    case hr =>
      go_simp
      exact ⟨rfl, rfl⟩
    case h =>
      go_wp2
      go_ret
      exact ⟨w3.heap.size, _, rfl, heap_alloc_new w3 _, hb.size, (hb.alloc hb.size _).drew⟩

end Go.Proofs.Qxb6605907aGreatFmt
