import Derived.Test.Qxb6605907aGreatFmtScn6
namespace Go.Proofs.Qxb6605907aGreatFmt.Sx
open Go.RowKit

theorem ownsRow_grown {w w' : World} {B e size n : Nat} {v : Value} {xs : List Value} {row : Option Nat} (h : w.ownsRow B e size v n xs) (hg : w.grownBy w' row)
    (hr : ∀ g, row = some g → ∃ cur e', w.heap[g]? = some (.cells cur e' (0, 0)) ∧ e' ≠ e) : w'.ownsRow B e size v n xs := by
  refine ⟨h.1, ?_⟩
  rcases h.2 with h1 | ⟨g, cap, cur, h1, h2, h3, h4⟩
  · exact Or.inl h1
  · refine Or.inr ⟨g, cap, cur, h1, h2, ?_, h4⟩
    rw [hg.block g (Array.getElem?_eq_some_iff.1 h3).1 ?_]
    · exact h3
    · intro e1
      obtain ⟨cur', e', h5, h6⟩ := hr g e1.symm
      rw [h3] at h5
      cases h5
      exact h6 rfl

theorem ownsRow_row {w : World} {B e size n : Nat} {v : Value} {xs : List Value} (h : w.ownsRow B e size v n xs) : ∀ g, v.ownBlock = some g → ∃ cur, w.heap[g]? = some (.cells cur e (0, 0)) ∧ B ≤ g := by
  intro g hg
  rcases h.2 with ⟨rfl, _⟩ | ⟨g', cap, cur, rfl, h2, h3, h4⟩
  · exact absurd hg (by simp [Value.ownBlock])
  · obtain rfl : g' = g := Option.some.inj hg
    exact ⟨cur, h3, h2⟩

theorem ownsRow_alloc {w : World} {B e size n : Nat} {v : Value} {xs : List Value} (h : w.ownsRow B e size v n xs) (o : Obj) : (w.alloc o).ownsRow B e size v n xs := by
  refine ⟨h.1, ?_⟩
  rcases h.2 with h1 | ⟨g, cap, cur, h1, h2, h3, h4⟩
  · exact Or.inl h1
  · exact Or.inr ⟨g, cap, cur, h1, h2, by rw [heap_alloc_old w _ (Array.getElem?_eq_some_iff.1 h3).1]; exact h3, h4⟩

theorem below_grown {w w0 w' : World} {B : Nat} {row : Option Nat} (hb : Below B w0 w) (hg : w.grownBy w' row) (hr : ∀ g, row = some g → B ≤ g) (hB : B ≤ w.heap.size) : Below B w0 w' :=
  hb.trans ⟨hg.os, hg.tape, hg.output, hg.size, fun k hk => hg.block k (by omega) (fun e => by have := hr k e.symm; omega)⟩

/-- 'raw[:len(raw)-1]' where it ends in '\r'. -/
theorem cr_cut (R : ByteArray) (h0 : 0 < R.size) (h : R[R.size - 1] = 13) : (R.extract 0 (R.size - 1)).data.toList = Lib.trimSuffix R.data.toList [13] := by
  have hl := size_list R
  have e : R.data.toList = R.data.toList.take (R.size - 1) ++ [13] := by
    have h1 : R.size - 1 < R.data.toList.length := by omega
    have h2 : R.data.toList[R.size - 1] = 13 := h
    conv => lhs; rw [← List.take_append_drop (R.size - 1) R.data.toList, List.drop_eq_getElem_cons h1, h2, List.drop_eq_nil_of_le (by omega)]
  have hs : Lib.hasSuffix R.data.toList [13] = true := by
    rw [Lib.hasSuffix, List.isSuffixOf_iff_suffix]
    exact ⟨_, e.symm⟩
  rw [Lib.extract_data, List.drop_zero, Nat.sub_zero, Lib.trimSuffix, if_pos hs, hl]
  rfl

theorem cr_keep (R : ByteArray) (h : ∀ h0 : 0 < R.size, R[R.size - 1] ≠ 13) : R.data.toList = Lib.trimSuffix R.data.toList [13] := by
  unfold Lib.trimSuffix
  split
  · rename_i hs
    rw [Lib.hasSuffix, List.isSuffixOf_iff_suffix] at hs
    obtain ⟨l, hl⟩ := hs
    have hsz := size_list R
    rw [← hl, List.length_append, List.length_singleton] at hsz
    exfalso
    refine h (by omega) ?_
    have e : R[R.size - 1] = R.data.toList[R.size - 1]'(by rw [size_list]; omega) := rfl
    rw [e]
    have e2 : R.data.toList[R.size - 1]? = some 13 := by rw [← hl, List.getElem?_append_right (by omega), show R.size - 1 - l.length = 0 by omega]; rfl
    rw [List.getElem?_eq_getElem (by rw [size_list]; omega)] at e2
    exact Option.some.inj e2
  · rfl

/-- The next newline, or the end. -/
theorem raw_at (T : List UInt8) (i j : Nat) (hij : i ≤ j) (hj : j ≤ T.length) (hno : ∀ u, i ≤ u → u < j → T[u]? ≠ some 10) (he : j = T.length ∨ T[j]? = some 10) :
    raw (T.drop i) = (T.drop i).take (j - i) ∧ aft (T.drop i) = T.drop (j + 1) := by
  have hl : (T.drop i).length = T.length - i := List.length_drop
  have ha : ∀ x ∈ (T.drop i).take (j - i), (x != 10) = true := by
    intro x hx
    obtain ⟨u, hu, rfl⟩ := List.getElem_of_mem hx
    rw [List.length_take, hl] at hu
    have := hno (i + u) (by omega) (by omega)
    rw [List.getElem?_eq_getElem (by omega)] at this
    rw [List.getElem_take, List.getElem_drop]
    simpa using this
  have h1 : raw (T.drop i) = (T.drop i).take (j - i) := by
    unfold raw
    conv => lhs; rw [← List.take_append_drop (j - i) (T.drop i)]
    rw [List.takeWhile_append_of_pos ha, List.drop_drop, show i + (j - i) = j by omega]
    rcases he with rfl | he
    · rw [List.drop_eq_nil_of_le (Nat.le_refl _)]; simp
    · have hjl : j < T.length := (List.getElem?_eq_some_iff.1 he).1
      have hv : T[j] = 10 := by rw [List.getElem?_eq_getElem hjl] at he; exact Option.some.inj he
      rw [List.drop_eq_getElem_cons hjl, hv]
      simp
  refine ⟨h1, ?_⟩
  unfold aft
  rw [h1, List.length_take, hl, List.drop_drop]
  congr 1
  omega

end Go.Proofs.Qxb6605907aGreatFmt.Sx
