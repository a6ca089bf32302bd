import Derived.Test.Qxb6605907aGreatFmtOm
namespace Go.Proofs.Qxb6605907aGreatFmt

theorem blankB_N (b : UInt8) : blankB b = (decide (b.toNat = 32) || decide (b.toNat = 9)) := by
  have h : ∀ (c : UInt8), (b == c) = decide (b.toNat = c.toNat) := fun c => by
    by_cases e : b = c
    · subst e; simp
    · have : b.toNat ≠ c.toNat := fun h => e (UInt8.toNat_inj.1 h)
      rw [beq_eq_false_iff_ne.2 e, decide_eq_false this]
  simp only [blankB, h]
  rfl

theorem word_at (T : List UInt8) (k j : Nat) (hkj : k < j) (hj : j ≤ T.length) (hno : ∀ u y, k ≤ u → u < j → T[u]? = some y → blankB y = false) (he : j = T.length ∨ ∃ y, T[j]? = some y ∧ blankB y = true) :
    fields (T.drop k) = (T.drop k).take (j - k) :: fields (T.drop j) := by
  have e : T.drop k = (T.drop k).take (j - k) ++ T.drop j := by
    conv => lhs; rw [← List.take_append_drop (j - k) (T.drop k), List.drop_drop, show k + (j - k) = j by omega]
  conv => lhs; rw [e]
  refine fields_word _ _ ?_ ?_ ?_
  · intro h
    have := congrArg List.length h
    rw [List.length_take, List.length_drop] at this
    simp at this
    omega
  · intro y hy
    obtain ⟨u, hu, rfl⟩ := List.getElem_of_mem hy
    rw [List.length_take, List.length_drop] at hu
    rw [List.getElem_take, List.getElem_drop]
    exact hno (k + u) _ (by omega) (by omega) (List.getElem?_eq_getElem (by omega))
  · intro b l hd
    rcases he with rfl | ⟨y, hy, hb⟩
    · rw [List.drop_length] at hd; cases hd
    · rw [drop_cons hy] at hd
      cases hd
      exact hb

end Go.Proofs.Qxb6605907aGreatFmt
