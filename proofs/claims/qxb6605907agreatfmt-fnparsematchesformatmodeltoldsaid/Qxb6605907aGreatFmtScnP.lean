import Derived.Test.Qxb6605907aGreatFmtScn0
import Derived.Lib.IndexLaws
namespace Go.Proofs.Qxb6605907aGreatFmt.Sx

/-- A raw line: what stands before the next newline. -/
def raw (l : List UInt8) : List UInt8 := l.takeWhile (· != 10)
/-- What stands behind that newline. -/
def aft (l : List UInt8) : List UInt8 := l.drop ((raw l).length + 1)

theorem aft_lt (l : List UInt8) (h : l ≠ []) : (aft l).length < l.length := by
  have := List.length_pos_iff.2 h
  unfold aft
  rw [List.length_drop]
  omega

/-- A text's raw lines. -/
def lns : Nat → List UInt8 → List (List UInt8)
  | 0, _ => []
  | f + 1, l => if l = [] then [] else raw l :: lns f (aft l)

theorem lns_fuel : ∀ (f g : Nat) (l : List UInt8), l.length ≤ f → l.length ≤ g → lns f l = lns g l
  | 0, g, l, hf, _ => by
    have : l = [] := List.eq_nil_of_length_eq_zero (by omega)
    subst this
    cases g <;> simp [lns]
  | f + 1, 0, l, _, hg => by
    have : l = [] := List.eq_nil_of_length_eq_zero (by omega)
    subst this
    simp [lns]
  | f + 1, g + 1, l, hf, hg => by
    by_cases h : l = []
    · simp [lns, h]
    · have := aft_lt l h
      simp only [lns, if_neg h]
      rw [lns_fuel f g (aft l) (by omega) (by omega)]

def lines (l : List UInt8) : List (List UInt8) := lns l.length l

theorem lines_nil : lines [] = [] := rfl

theorem lines_step (l : List UInt8) (h : l ≠ []) : lines l = raw l :: lines (aft l) := by
  have hl := aft_lt l h
  obtain ⟨n, hn⟩ : ∃ n, l.length = n + 1 := ⟨l.length - 1, by omega⟩
  unfold lines
  rw [hn]
  simp only [lns, if_neg h]
  rw [lns_fuel n (aft l).length (aft l) (by omega) (Nat.le_refl _)]

theorem lines_length : ∀ (n : Nat) (l : List UInt8), l.length ≤ n → (lines l).length ≤ l.length
  | 0, l, h => by
    have : l = [] := List.eq_nil_of_length_eq_zero (by omega)
    subst this; simp [lines_nil]
  | n + 1, l, h => by
    by_cases h0 : l = []
    · subst h0; simp [lines_nil]
    · have h1 := aft_lt l h0
      have := lines_length n (aft l) (by omega)
      rw [lines_step l h0, List.length_cons]
      omega

/-- The comment cut off. -/
def cutHash (l : List UInt8) : List UInt8 := if Lib.indexByte l 35 = -1 then l else l.take (Lib.indexByte l 35).toNat
/-- What a raw line says. -/
def clean (l : List UInt8) : List UInt8 := trimB (cutHash (Lib.trimSuffix l [13]))

/-- The lines that say something, numbered. -/
def entries : Nat → List (List UInt8) → List (Nat × List UInt8)
  | _, [] => []
  | n, r :: ls => if clean r = [] then entries (n + 1) ls else (n + 1, clean r) :: entries (n + 1) ls

theorem entries_length : ∀ (n : Nat) (ls : List (List UInt8)), (entries n ls).length ≤ ls.length
  | _, [] => Nat.le_refl _
  | n, r :: ls => by
    have := entries_length (n + 1) ls
    unfold entries
    split
    · rw [List.length_cons]; omega
    · rw [List.length_cons, List.length_cons]; omega

/-- What ReadString took, newline and all, has the raw line as its text. -/
theorem raw_of (l : List UInt8) (k : Nat) (hk : k ≤ l.length)
    (h : (0 < k ∧ l[k - 1]? = some 10 ∧ ∀ j, j + 1 < k → l[j]? ≠ some 10) ∨ (k = l.length ∧ ∀ j, j < k → l[j]? ≠ some 10)) :
    Lib.trimSuffix (l.take k) [10] = raw l ∧ aft l = l.drop k := by
  rcases h with ⟨h0, h1, h2⟩ | ⟨rfl, h2⟩
  · obtain ⟨m, rfl⟩ : ∃ m, k = m + 1 := ⟨k - 1, by omega⟩
    rw [Nat.add_sub_cancel] at h1
    have hm : m < l.length := by omega
    have e1 : l[m] = 10 := by rw [List.getElem?_eq_getElem hm] at h1; exact Option.some.inj h1
    have e2 : l.take (m + 1) = l.take m ++ [10] := by rw [List.take_succ_eq_append_getElem hm, e1]
    have e3 : raw l = l.take m := by
      have hs : l = l.take m ++ (10 :: l.drop (m + 1)) := by
        conv => lhs; rw [← List.take_append_drop m l, List.drop_eq_getElem_cons hm, e1]
      have ha : ∀ x ∈ l.take m, (x != 10) = true := by
        intro x hx
        obtain ⟨j, hj, rfl⟩ := List.getElem_of_mem hx
        rw [List.length_take] at hj
        have := h2 j (by omega)
        rw [List.getElem?_eq_getElem (by omega)] at this
        rw [List.getElem_take]
        simpa using this
      unfold raw
      conv => lhs; rw [hs]
      rw [List.takeWhile_append_of_pos ha, List.takeWhile_cons]
      simp
    refine ⟨?_, ?_⟩
    · rw [e2, e3]
      simp [Lib.trimSuffix, Lib.hasSuffix]
    · unfold aft
      rw [e3, List.length_take]
      congr 1
      omega
  · have ha : ∀ x ∈ l, (x != 10) = true := by
      intro x hx
      obtain ⟨j, hj, rfl⟩ := List.getElem_of_mem hx
      have := h2 j hj
      rw [List.getElem?_eq_getElem hj] at this
      simpa using this
    have e3 : raw l = l := by
      have := List.takeWhile_append_of_pos (l₂ := []) ha
      simpa [raw] using this
    refine ⟨?_, ?_⟩
    · rw [List.take_of_length_le (Nat.le_refl _), e3]
      unfold Lib.trimSuffix
      split
      · rename_i h
        have hm : (10 : UInt8) ∈ l := (List.isSuffixOf_iff_suffix.1 h).subset (by simp)
        exact absurd (ha 10 hm) (by decide)
      · rfl
    · unfold aft
      rw [e3, List.drop_eq_nil_of_le (by omega), List.drop_eq_nil_of_le (by omega)]

end Go.Proofs.Qxb6605907aGreatFmt.Sx
