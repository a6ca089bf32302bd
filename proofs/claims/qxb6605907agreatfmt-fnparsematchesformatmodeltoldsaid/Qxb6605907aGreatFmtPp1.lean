import Derived.Test.Qxb6605907aGreatFmtPp0
namespace Go.Proofs.Qxb6605907aGreatFmt
open Go.RowKit

section
variable {W0 w W W' : World} {pb sc hb mb wb N bs bf I0 : Nat} {file : ByteArray} {line : Int} {ini : Bool} {init : List UInt8} {x : ByteArray} {res : Value} {h1 h2 : HP} {S Ts : List Nat}

theorem Lv.own {B1 : Nat} (hB1 : w.heap.size ≤ B1) (hW0 : W0.heap.size ≤ B1) (hm : mb < B1) (hw : wb < B1) {row : Option Nat} (v : Lv W0 w pb sc hb mb wb N bs bf I0 file line ini init x res h1 W) (hg : W.grownBy W' row) (hr : ∀ r, row = some r → B1 ≤ r ∧ ∃ o : Obj, W.heap[r]? = some o ∧ o.isCells = false) :
    Lv W0 w pb sc hb mb wb N bs bf I0 file line ini init x res h1 W' := by
  cases row with
  | none => exact v.keep0 (S := []) (KeepsT.grown hg (fun g e => by cases e)) (by simp) (by simp) (by simp)
  | some r =>
    obtain ⟨h1, o, h2, h3⟩ := hr r rfl
    refine v.keep0 (S := [r]) (KeepsT.mapped hg h2 h3 (by simp) (by omega)) ?_ ?_ ?_
    · simp; omega
    · simp; omega
    · intro s hs; simp at hs; omega

/-- An error's block abides it too. -/
theorem row_own {B1 : Nat} {eb : Nat} {cs : Array Value} {t : TypeId} {fr : Nat × Nat} {row : Option Nat} (h : W.heap[eb]? = some (.cells cs t fr)) (hg : W.grownBy W' row) (hr : ∀ r, row = some r → B1 ≤ r ∧ ∃ o : Obj, W.heap[r]? = some o ∧ o.isCells = false) : W'.heap[eb]? = some (.cells cs t fr) := by
  refine (hg.block eb (lt_of_get h) ?_).trans h
  intro e
  obtain ⟨_, o, h2, h3⟩ := hr eb e.symm
  rw [h] at h2
  cases h2
  cases h3

theorem keepsFrom_of {B B1 : Nat} (k : KeepsT B Ts S W W') (hS : ∀ s ∈ S, s < B1) : KeepsFrom B1 W W' :=
  ⟨k.size, fun i o hi ho hc => k.other i o ho hc (fun hm => by have := hS i hm; omega)⟩

theorem Kf.put {bs bf n : Nat} (h1 : bs < n) (h2 : bf < n) (h3 : 2 < n) (h4 : 3 < n) : ∀ (W : World) (l : Nat) (o o' : Obj), n ≤ l → W.heap[l]? = some o → o.isCells = false → o.isWalk = false → Kf bs bf W (W.putObj l o') := fun W l o o' hl _ _ _ =>
  ⟨World.putObj_heap_other (by omega), World.putObj_heap_other (by omega), World.putObj_heap_other (by have := h3; omega), World.putObj_heap_other (by have := h4; omega)⟩

/-- The cells that a round reads. -/
theorem Lv.cells (v : Lv W0 w pb sc hb mb wb N bs bf I0 file line ini init x res h1 W) :
    W.cell? ⟨N, 0, none⟩ = some (.pointer (some ⟨pb, 0, none⟩)) ∧ W.cell? ⟨pb, 0, none⟩ = some (.pointer (some ⟨sc, 0, none⟩)) ∧ W.cell? ⟨pb, 1, none⟩ = some (.pointer (some ⟨hb, 0, none⟩)) ∧ W.cell? ⟨N + 1 + 1, 0, none⟩ = some (.int .i64 (I0 : Int)) ∧ W.cell? ⟨N + 1, 0, none⟩ = some res ∧ W.frozen? ⟨N + 1, 0, none⟩ = false ∧
    N < W.heap.size ∧ N + 1 < W.heap.size ∧ N + 1 + 1 < W.heap.size ∧ pb < W.heap.size ∧ sc < W.heap.size := by
  obtain ⟨_, _, _, _, hs⟩ := v.pok.1.srow
  exact ⟨by rw [row_cell v.b0]; rfl, by rw [row_cell v.pok.1.prow]; rfl, by rw [row_cell v.pok.1.prow]; rfl, by rw [row_cell (show W.heap[N + 1 + 1]? = _ from v.b2)]; rfl, by rw [row_cell v.b1]; rfl, row_frozen v.b1 0, lt_of_get v.b0, lt_of_get v.b1, lt_of_get v.b2, lt_of_get v.pok.1.prow, lt_of_get hs⟩

end
end Go.Proofs.Qxb6605907aGreatFmt
