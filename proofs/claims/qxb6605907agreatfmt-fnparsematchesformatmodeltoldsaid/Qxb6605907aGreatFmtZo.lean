import Derived.Test.Qxb6605907aGreatFmtPp0
import Derived.Test.Qxb6605907aGreatFmtZp
namespace Go.Proofs.Qxb6605907aGreatFmt
open Go.RowKit

/-! ### Names and bounds -/
theorem stepP_names {init : List UInt8} {i : Nat} {h h2 : HP} {f : List UInt8} (e : stepP init i h f = some h2) : h2.procs.map (·.1) = h.procs.map (·.1) := by
  unfold stepP at e
  split at e
  · cases e
  · split at e
    · cases e
    · cases e; exact addOp_names _ _ _

theorem runP_names (init : List UInt8) (i : Nat) : ∀ (l : List (List UInt8)) (h : HP), (runP init i h l).1.procs.map (·.1) = h.procs.map (·.1)
  | [], h => rfl
  | f :: r, h => by
    simp only [runP]
    cases hs : stepP init i h f with
    | none => rfl
    | some h2 => rw [runP_names init i r h2, stepP_names hs]

theorem stepP_ok {init : List UInt8} {i c : Nat} {h h2 : HP} {f : List UInt8} (e : stepP init i h f = some h2) (k : HOk h c) : HOk h2 (c + 1) := by
  unfold stepP at e
  split at e
  · cases e
  · rename_i o ho
    split at e
    · cases e
    · cases e; exact k.add (opP_no41 ho)

theorem runP_ok (init : List UInt8) (i : Nat) : ∀ (l : List (List UInt8)) (h : HP) (c : Nat), HOk h c → HOk (runP init i h l).1 (c + l.length)
  | [], h, c, k => k
  | f :: r, h, c, k => by
    simp only [runP]
    cases hs : stepP init i h f with
    | none => exact k.mono (Nat.le_add_right _ _)
    | some h2 =>
      have := runP_ok init i r h2 (c + 1) (stepP_ok hs k)
      rw [List.length_cons]
      exact this.mono (by omega)

theorem procP_ok (init : List UInt8) (h : HP) (name ops : List UInt8) (c : Nat) (k : HOk h c) : HOk (procP init h name ops).1 (c + 1 + ops.length) :=
  (runP_ok init _ (fields ops) _ (c + 1) (k.opened name)).mono (by have := fields_count ops; omega)

theorem openP_find (h : HP) (name : List UInt8) : findP (openP h name).2.procs name = some (openP h name).1 := by
  unfold openP
  cases hf : findP h.procs name with
  | some i => exact hf
  | none =>
    dsimp only
    rw [findP, List.findIdx?_append]
    have h0 : List.findIdx? (fun p => p.1 == name) h.procs = none := hf
    rw [h0]
    simp

theorem openP_keep (h : HP) (name x : List UInt8) (i : Nat) (hi : findP h.procs x = some i) : findP (openP h name).2.procs x = some i := by
  unfold openP
  cases hf : findP h.procs name with
  | some j => exact hi
  | none =>
    dsimp only
    rw [findP, List.findIdx?_append]
    have h0 : List.findIdx? (fun p => p.1 == x) h.procs = some i := hi
    rw [h0]
    rfl

theorem procP_find (init : List UInt8) (h : HP) (name ops : List UInt8) : findP (procP init h name ops).1.procs name = some (openP h name).1 := by
  rw [findP_names, procP, runP_names, ← findP_names]
  exact openP_find h name

theorem procP_keep (init : List UInt8) (h : HP) (name ops x : List UInt8) (i : Nat) (hi : findP h.procs x = some i) : findP (procP init h name ops).1.procs x = some i := by
  rw [findP_names, procP, runP_names, ← findP_names]
  exact openP_keep h name x i hi


theorem cut_len (l : List UInt8) : (Lib.cut l [58]).1.length ≤ l.length ∧ (Lib.cut l [58]).2.1.length ≤ l.length := by
  unfold Lib.cut
  split
  · exact ⟨by rw [List.length_take]; omega, by rw [List.length_drop]; omega⟩
  · exact ⟨Nat.le_refl _, Nat.zero_le _⟩

theorem lineP_ok (s : PS) (l : List UInt8) (c : Nat) (k : HOk s.h c) : HOk (lineP s l).1.h (c + (l.length + 1)) := by
  have hk : HOk s.h (c + (l.length + 1)) := k.mono (by omega)
  unfold lineP
  split
  · split
    · exact hk
    · split
      · exact hk
      · exact hk
  · split
    · exact (procP_ok s.init s.h _ _ c k).mono (by have := (cut_len l).2; omega)
    · exact hk

/-- What the lines may add. -/
def wt (E : List (Nat × List UInt8)) : Nat := (E.map fun e => e.2.length + 1).sum

theorem wt_cons (e : Nat × List UInt8) (E : List (Nat × List UInt8)) : wt (e :: E) = e.2.length + 1 + wt E := by simp [wt]

theorem trimB_len (l : List UInt8) : (Sx.trimB l).length ≤ l.length := by
  unfold Sx.trimB Sx.trimR
  rw [List.length_reverse]
  have h1 := (List.dropWhile_suffix (l := (l.dropWhile Sx.blankB).reverse) Sx.blankB).length_le
  have h2 := (List.dropWhile_suffix (l := l) Sx.blankB).length_le
  rw [List.length_reverse] at h1
  omega

theorem clean_len (l : List UInt8) : (Sx.clean l).length ≤ l.length := by
  unfold Sx.clean
  refine Nat.le_trans (trimB_len _) ?_
  have h2 : (Lib.trimSuffix l [13]).length ≤ l.length := by
    unfold Lib.trimSuffix
    split
    · rw [List.length_take]; omega
    · exact Nat.le_refl _
  refine Nat.le_trans ?_ h2
  unfold Sx.cutHash
  split
  · exact Nat.le_refl _
  · rw [List.length_take]; omega

theorem raw_aft (l : List UInt8) : (Sx.raw l).length + 1 + (Sx.aft l).length ≤ l.length + 1 := by
  have := (List.takeWhile_prefix (l := l) (fun x => x != 10)).length_le
  unfold Sx.aft
  rw [List.length_drop]
  unfold Sx.raw
  omega

theorem raw_aft' (l : List UInt8) (h : Sx.aft l ≠ []) : (Sx.raw l).length + 1 + (Sx.aft l).length ≤ l.length := by
  have h1 : 0 < (Sx.aft l).length := List.length_pos_iff.2 h
  unfold Sx.aft at h1 ⊢
  rw [List.length_drop] at h1 ⊢
  omega

theorem wt_lines : ∀ (f n : Nat) (l : List UInt8), l.length ≤ f → wt (Sx.entries n (Sx.lines l)) ≤ l.length + (if l = [] then 0 else 1)
  | 0, n, l, h => by
    have : l = [] := List.eq_nil_of_length_eq_zero (by omega)
    subst this; simp [Sx.lines_nil, Sx.entries, wt]
  | f + 1, n, l, h => by
    by_cases h0 : l = []
    · subst h0; simp [Sx.lines_nil, Sx.entries, wt]
    · have h1 := Sx.aft_lt l h0
      have ih := wt_lines f (n + 1) (Sx.aft l) (by omega)
      rw [Sx.lines_step l h0, if_neg h0]
      have hc := clean_len (Sx.raw l)
      have ha := raw_aft l
      have hb : wt (Sx.entries (n + 1) (Sx.lines (Sx.aft l))) + (Sx.raw l).length + 1 ≤ l.length + 1 := by
        by_cases h2 : Sx.aft l = []
        · rw [if_pos h2] at ih; omega
        · rw [if_neg h2] at ih
          have := raw_aft' l h2
          omega
      unfold Sx.entries
      split
      · omega
      · rw [wt_cons]; dsimp only; omega

theorem entries_size : ∀ (n m : Nat) (ls : List (List UInt8)), (Sx.entries n ls).length = (Sx.entries m ls).length
  | _, _, [] => rfl
  | n, m, r :: ls => by
    have := entries_size (n + 1) (m + 1) ls
    unfold Sx.entries
    split
    · exact this
    · rw [List.length_cons, List.length_cons, this]

end Go.Proofs.Qxb6605907aGreatFmt
