import Derived.Test.Qxb6605907aFmtNw
import Derived.Test.Qxb6605907aFmtSm
import Derived.Test.Qxb6605907aFmtSh
namespace Go.Proofs.Qxb6605907aFmt
open Go.RowKit

set_option maxRecDepth 100000 in
theorem zzBytes_true (a b c d e f : ByteArray) (w : World) (h : a.size + b.size + c.size + d.size + e.size + f.size ≤ 1048576) :
    Calls Tryf.prog 4 #[.string a, .string b, .string c, .string d, .string e, .string f] w fun e w' => e = .returned (.bool true) ∧ w' = w := by
  have ha : ¬ ((1048576 : Int) < (a.size : Int)) := by omega
  have hb : ¬ ((1048576 : Int) < (b.size : Int)) := by omega
  have hc : ¬ ((1048576 : Int) < (c.size : Int)) := by omega
  have hd : ¬ ((1048576 : Int) < (d.size : Int)) := by omega
  have he : ¬ ((1048576 : Int) < (e.size : Int)) := by omega
  have hf : ¬ ((1048576 : Int) < (f.size : Int)) := by omega
  have s2 : ¬ ((1048576 : Int) < (a.size : Int) + (b.size : Int)) := by omega
  have w2 : IntKind.i64.wrap ((a.size : Int) + (b.size : Int)) = (a.size : Int) + (b.size : Int) := IntWalk.i64_in _ (by omega)
  have s3 : ¬ ((1048576 : Int) < (a.size : Int) + (b.size : Int) + (c.size : Int)) := by omega
  have w3 : IntKind.i64.wrap ((a.size : Int) + (b.size : Int) + (c.size : Int)) = (a.size : Int) + (b.size : Int) + (c.size : Int) := IntWalk.i64_in _ (by omega)
  have s4 : ¬ ((1048576 : Int) < (a.size : Int) + (b.size : Int) + (c.size : Int) + (d.size : Int)) := by omega
  have w4 : IntKind.i64.wrap ((a.size : Int) + (b.size : Int) + (c.size : Int) + (d.size : Int)) = (a.size : Int) + (b.size : Int) + (c.size : Int) + (d.size : Int) := IntWalk.i64_in _ (by omega)
  have s5 : ¬ ((1048576 : Int) < (a.size : Int) + (b.size : Int) + (c.size : Int) + (d.size : Int) + (e.size : Int)) := by omega
  have w5 : IntKind.i64.wrap ((a.size : Int) + (b.size : Int) + (c.size : Int) + (d.size : Int) + (e.size : Int)) = (a.size : Int) + (b.size : Int) + (c.size : Int) + (d.size : Int) + (e.size : Int) := IntWalk.i64_in _ (by omega)
  have s6 : ¬ ((1048576 : Int) < (a.size : Int) + (b.size : Int) + (c.size : Int) + (d.size : Int) + (e.size : Int) + (f.size : Int)) := by omega
  have w6 : IntKind.i64.wrap ((a.size : Int) + (b.size : Int) + (c.size : Int) + (d.size : Int) + (e.size : Int) + (f.size : Int)) = (a.size : Int) + (b.size : Int) + (c.size : Int) + (d.size : Int) + (e.size : Int) + (f.size : Int) := IntWalk.i64_in _ (by omega)
  go_enter Tryf.func4, Tryf.ntmps4
  go_wp2
  go_ret
  exact ⟨rfl, rfl⟩

set_option maxRecDepth 100000 in
theorem zzBytes_false (a b c d e f : ByteArray) (w : World) (h : ¬ (a.size + b.size + c.size + d.size + e.size + f.size ≤ 1048576)) :
    Calls Tryf.prog 4 #[.string a, .string b, .string c, .string d, .string e, .string f] w fun e w' => e = .returned (.bool false) ∧ w' = w := by
  by_cases ha : (1048576 : Int) < (a.size : Int)
  · go_enter Tryf.func4, Tryf.ntmps4
    go_wp2
    go_ret
    exact ⟨rfl, rfl⟩
  · by_cases hb : (1048576 : Int) < (b.size : Int)
    · go_enter Tryf.func4, Tryf.ntmps4
      go_wp2
      go_ret
      exact ⟨rfl, rfl⟩
    · have w2 : IntKind.i64.wrap ((a.size : Int) + (b.size : Int)) = (a.size : Int) + (b.size : Int) := IntWalk.i64_in _ (by omega)
      by_cases s2 : (1048576 : Int) < (a.size : Int) + (b.size : Int)
      · go_enter Tryf.func4, Tryf.ntmps4
        go_wp2
        go_ret
        exact ⟨rfl, rfl⟩
      · by_cases hc : (1048576 : Int) < (c.size : Int)
        · go_enter Tryf.func4, Tryf.ntmps4
          go_wp2
          go_ret
          exact ⟨rfl, rfl⟩
        · have w3 : IntKind.i64.wrap ((a.size : Int) + (b.size : Int) + (c.size : Int)) = (a.size : Int) + (b.size : Int) + (c.size : Int) := IntWalk.i64_in _ (by omega)
          by_cases s3 : (1048576 : Int) < (a.size : Int) + (b.size : Int) + (c.size : Int)
          · go_enter Tryf.func4, Tryf.ntmps4
            go_wp2
            go_ret
            exact ⟨rfl, rfl⟩
          · by_cases hd : (1048576 : Int) < (d.size : Int)
            · go_enter Tryf.func4, Tryf.ntmps4
              go_wp2
              go_ret
              exact ⟨rfl, rfl⟩
            · have w4 : IntKind.i64.wrap ((a.size : Int) + (b.size : Int) + (c.size : Int) + (d.size : Int)) = (a.size : Int) + (b.size : Int) + (c.size : Int) + (d.size : Int) := IntWalk.i64_in _ (by omega)
              by_cases s4 : (1048576 : Int) < (a.size : Int) + (b.size : Int) + (c.size : Int) + (d.size : Int)
              · go_enter Tryf.func4, Tryf.ntmps4
                go_wp2
                go_ret
                exact ⟨rfl, rfl⟩
              · by_cases he : (1048576 : Int) < (e.size : Int)
                · go_enter Tryf.func4, Tryf.ntmps4
                  go_wp2
                  go_ret
                  exact ⟨rfl, rfl⟩
                · have w5 : IntKind.i64.wrap ((a.size : Int) + (b.size : Int) + (c.size : Int) + (d.size : Int) + (e.size : Int)) = (a.size : Int) + (b.size : Int) + (c.size : Int) + (d.size : Int) + (e.size : Int) := IntWalk.i64_in _ (by omega)
                  by_cases s5 : (1048576 : Int) < (a.size : Int) + (b.size : Int) + (c.size : Int) + (d.size : Int) + (e.size : Int)
                  · go_enter Tryf.func4, Tryf.ntmps4
                    go_wp2
                    go_ret
                    exact ⟨rfl, rfl⟩
                  · by_cases hf : (1048576 : Int) < (f.size : Int)
                    · go_enter Tryf.func4, Tryf.ntmps4
                      go_wp2
                      go_ret
                      exact ⟨rfl, rfl⟩
                    · have w6 : IntKind.i64.wrap ((a.size : Int) + (b.size : Int) + (c.size : Int) + (d.size : Int) + (e.size : Int) + (f.size : Int)) = (a.size : Int) + (b.size : Int) + (c.size : Int) + (d.size : Int) + (e.size : Int) + (f.size : Int) := IntWalk.i64_in _ (by omega)
                      by_cases s6 : (1048576 : Int) < (a.size : Int) + (b.size : Int) + (c.size : Int) + (d.size : Int) + (e.size : Int) + (f.size : Int)
                      · go_enter Tryf.func4, Tryf.ntmps4
                        go_wp2
                        go_ret
                        exact ⟨rfl, rfl⟩
                      · exfalso; omega

/-! ### Names and bounds -/
theorem stepP_names {init : List UInt8} {i : Nat} {h h2 : HP} {f : List UInt8} (e : stepP init i h f = some h2) : h2.procs.map (·.1) = h.procs.map (·.1) := by
  unfold stepP at e
  split at e
  · cases e
  · split at e
    · cases e
    · cases e; exact addOp_names _ _ _

theorem runP_names (init : List UInt8) (i : Nat) : ∀ (l : List (List UInt8)) (h : HP), (runP init i h l).1.procs.map (·.1) = h.procs.map (·.1)
  | [], h => rfl
  | f :: r, h => by
    simp only [runP]
    cases hs : stepP init i h f with
    | none => rfl
    | some h2 => rw [runP_names init i r h2, stepP_names hs]

theorem stepP_ok {init : List UInt8} {i c : Nat} {h h2 : HP} {f : List UInt8} (e : stepP init i h f = some h2) (k : HOk h c) : HOk h2 (c + 1) := by
  unfold stepP at e
  split at e
  · cases e
  · rename_i o ho
    split at e
    · cases e
    · cases e; exact k.add (opP_no41 ho)

theorem runP_ok (init : List UInt8) (i : Nat) : ∀ (l : List (List UInt8)) (h : HP) (c : Nat), HOk h c → HOk (runP init i h l).1 (c + l.length)
  | [], h, c, k => k
  | f :: r, h, c, k => by
    simp only [runP]
    cases hs : stepP init i h f with
    | none => exact k.mono (Nat.le_add_right _ _)
    | some h2 =>
      have := runP_ok init i r h2 (c + 1) (stepP_ok hs k)
      rw [List.length_cons]
      exact this.mono (by omega)

theorem procP_ok (init : List UInt8) (h : HP) (name ops : List UInt8) (c : Nat) (k : HOk h c) : HOk (procP init h name ops).1 (c + 1 + ops.length) :=
  (runP_ok init _ (fields ops) _ (c + 1) (k.opened name)).mono (by have := fields_count ops; omega)

theorem openP_find (h : HP) (name : List UInt8) : findP (openP h name).2.procs name = some (openP h name).1 := by
  unfold openP
  cases hf : findP h.procs name with
  | some i => exact hf
  | none =>
    dsimp only
    rw [findP, List.findIdx?_append]
    have h0 : List.findIdx? (fun p => p.1 == name) h.procs = none := hf
    rw [h0]
    simp

theorem openP_keep (h : HP) (name x : List UInt8) (i : Nat) (hi : findP h.procs x = some i) : findP (openP h name).2.procs x = some i := by
  unfold openP
  cases hf : findP h.procs name with
  | some j => exact hi
  | none =>
    dsimp only
    rw [findP, List.findIdx?_append]
    have h0 : List.findIdx? (fun p => p.1 == x) h.procs = some i := hi
    rw [h0]
    rfl

theorem procP_find (init : List UInt8) (h : HP) (name ops : List UInt8) : findP (procP init h name ops).1.procs name = some (openP h name).1 := by
  rw [findP_names, procP, runP_names, ← findP_names]
  exact openP_find h name

theorem procP_keep (init : List UInt8) (h : HP) (name ops x : List UInt8) (i : Nat) (hi : findP h.procs x = some i) : findP (procP init h name ops).1.procs x = some i := by
  rw [findP_names, procP, runP_names, ← findP_names]
  exact openP_keep h name x i hi

/-- The model's index, read in place. -/
theorem MOk.look {B : Nat} {w : World} {m im wm : Nat} {init : List UInt8} {h : HP} (k : MOk B w m im wm init h) (x : List UInt8) (i : Nat) (hi : findP h.procs x = some i) :
    w.cell? ⟨m, 3, none⟩ = some (.map (some im)) ∧ (Instr.lookup 36 (.map (some im)) (.string (baOf x)) false).run Tryf.prog w = .ok (.int .i64 (i : Int)) w := by
  obtain ⟨nv, ov, L, hs⟩ := k
  refine ⟨by rw [row_cell hs.row]; rfl, ?_⟩
  have hlk := lookupS (P := Tryf.prog) hs.index Tryf.underlying36 Tryf.underlying9 (baOf x) (z := .int .i64 0) Tryf.zeroValue3 false
  rw [idxOf_find, ← findP_names, hi] at hlk
  simpa using hlk

end Go.Proofs.Qxb6605907aFmt
