import Derived.Test.Qxb6605543aDoorLaws1
import Derived.Test.Qxb6605543aDoorWalks7
namespace Go.Proofs.Qxb6605543aDoor
open Go.RowKit

theorem beq_lists (a b : ByteArray) (h : a.data.toList = b.data.toList) : (a.toList == b.toList) = true := by
  rw [Lib.toList_data, Lib.toList_data, h]; simp
theorem ext_size (s : ByteArray) (a b : Nat) (h : a ≤ b) (hb : b ≤ s.size) : (s.extract a b).size = b - a := by
  rw [size_len, ext_data, List.length_take, List.length_drop, ← size_len]; omega
theorem ext_at (s : ByteArray) (a b k : Nat) (hb : b ≤ s.size) (h : k < (s.extract a b).size) (hk : a + k < s.size) (hab : a ≤ b) : (s.extract a b)[k] = s[a + k] := by
  have h1 := at_list (s.extract a b) k h
  rw [ext_size s a b hab hb] at h
  rw [ext_data, List.getElem?_take_of_lt h, List.getElem?_drop, at_list s (a + k) hk] at h1
  exact (Option.some.inj h1).symm

/-- How far 'trimRightS' cuts. -/
theorem trim_spec (l : List UInt8) : ∃ m, m ≤ l.length ∧ Lib.trimRightS l [32, 9] = l.take m ∧ (∀ (j : Nat) b, m ≤ j → l[j]? = some b → b = 32 ∨ b = 9) ∧ (∀ b, 0 < m → l[m - 1]? = some b → b ≠ 32 ∧ b ≠ 9) := by
  have key : ∀ n, ∃ m, m ≤ l.length ∧ (∀ (j : Nat) b, m ≤ j → l[j]? = some b → b = 32 ∨ b = 9) ∧ ((∀ b, 0 < m → l[m - 1]? = some b → b ≠ 32 ∧ b ≠ 9) ∨ m + n ≤ l.length) := by
    intro n
    induction n with
    | zero => exact ⟨l.length, Nat.le_refl _, (fun j b h1 h2 => by rw [List.getElem?_eq_none h1] at h2; cases h2), Or.inr (Nat.le_refl _)⟩
    | succ n ih =>
      obtain ⟨m, h1, h2, h3 | h3⟩ := ih
      · exact ⟨m, h1, h2, Or.inl h3⟩
      · rcases Nat.eq_zero_or_pos m with h0 | h0
        · exact ⟨m, h1, h2, Or.inl (fun b h => by omega)⟩
        · have hlt : m - 1 < l.length := by omega
          by_cases hb : l[m - 1] = 32 ∨ l[m - 1] = 9
          · refine ⟨m - 1, by omega, fun j b hj hjb => ?_, Or.inr (by omega)⟩
            by_cases e : j = m - 1
            · subst e
              rw [List.getElem?_eq_getElem hlt] at hjb
              rw [← Option.some.inj hjb]; exact hb
            · exact h2 j b (by omega) hjb
          · refine ⟨m, h1, h2, Or.inl (fun b _ hb' => ?_)⟩
            rw [List.getElem?_eq_getElem hlt] at hb'
            rw [← Option.some.inj hb']
            exact ⟨fun e => hb (Or.inl e), fun e => hb (Or.inr e)⟩
  obtain ⟨m, h1, h2, h3⟩ := key (l.length + 1)
  have h3 : ∀ b, 0 < m → l[m - 1]? = some b → b ≠ 32 ∧ b ≠ 9 := by
    rcases h3 with h3 | h3
    · exact h3
    · omega
  refine ⟨m, h1, Lib.trimRightS_take l [32, 9] m h1 (fun j b hj hb => ?_) (fun b h0 hb => ?_), h2, h3⟩
  · rcases h2 j b hj hb with e | e <;> subst e <;> decide
  · obtain ⟨e1, e2⟩ := h3 b h0 hb
    simp [e1, e2]

theorem split_token (s : ByteArray) (hs : s.size ≤ 1048576) : Split s (trimmed (s.extract 0 (comma s.data.toList))) (s.extract (comma s.data.toList) s.size) := by
  obtain ⟨k, hk⟩ : ∃ k, k = comma s.data.toList := ⟨_, rfl⟩
  obtain ⟨c1, c2, c3⟩ := comma_spec s.data.toList
  rw [← hk] at c1 c2 c3 ⊢
  rw [← size_len] at c1 c3
  have hr : (s.extract k s.size).size = s.size - k := ext_size s k s.size c1 (Nat.le_refl _)
  have he : (s.extract 0 k).data.toList = s.data.toList.take k := by rw [ext_data]; simp
  obtain ⟨m, m1, m2, m3, m4⟩ := trim_spec (s.data.toList.take k)
  have hlen : (s.data.toList.take k).length = k := by rw [List.length_take, ← size_len]; omega
  have ha : (trimmed (s.extract 0 k)).data.toList = s.data.toList.take m := by
    show Lib.trimRightS (s.extract 0 k).data.toList [32, 9] = _
    rw [he, m2, List.take_take]; congr 1; omega
  have has : (trimmed (s.extract 0 k)).size = m := by
    rw [size_len, ha, List.length_take, ← size_len]; omega
  generalize trimmed (s.extract 0 k) = arg at *
  have hkk : s.size - (s.extract k s.size).size = k := by omega
  refine ⟨hs, by omega, by rw [hkk]; simp, fun h => ?_, fun j h hj => ?_, by omega, ?_, fun j h h1 h2 => ?_, fun h => ?_⟩
  · have hlt : k < s.size := by omega
    rw [ext_at s k s.size 0 (Nat.le_refl _) h (by omega) c1]
    have h1 := c3 hlt
    have h2 := at_list s k hlt
    rw [h1] at h2
    have e : s[k] = 44 := (Option.some.inj h2).symm
    have e' : s[k + 0] = 44 := e
    rw [e']; rfl
  · rw [hkk] at hj
    have h2 := at_list s j h
    refine beq_eq_false_iff_ne.2 (fun e => c2 j hj ?_)
    rw [h2, u8_eq s[j] 44 e]
  · exact beq_lists _ _ (by rw [ext_data, ha, has]; simp)
  · rw [hkk] at h2
    have h3 := m3 j s[j] (by omega) (by rw [List.getElem?_take_of_lt h2]; exact at_list s j h)
    rcases h3 with e | e
    · exact Or.inl (by rw [e]; rfl)
    · exact Or.inr (by rw [e]; rfl)
  · have h3 := m4 arg[arg.size - 1] (by omega) (by
      have := at_list arg (arg.size - 1) h
      rw [ha, List.getElem?_take_of_lt (by omega)] at this
      rw [← this, List.getElem?_take_of_lt (by omega), has])
    exact ⟨beq_eq_false_iff_ne.2 (fun e => h3.1 (u8_eq _ 32 e)), beq_eq_false_iff_ne.2 (fun e => h3.2 (u8_eq _ 9 e))⟩

theorem yes_quoted (s : ByteArray) (hs : s.size ≤ 1048576) (h0 : 0 < s.size) : Yes3 9 s (qArg s) (qRest s) := by
  intro w
  have hsl := size_len s
  have hd : s.data.toList.drop 1 = s.data.toList.drop 1 := rfl
  cases hq : Cut.qend (s.data.toList.drop 1) with
  | some k =>
    obtain ⟨c1, c2⟩ := Cut.content_of_some _ _ k (Nat.le_refl _) hq
    have hqe : QE s 1 = some (k + 1) := by unfold QE; rw [hq]; rfl
    have hk : k + 1 < s.size := by
      have := (List.getElem?_eq_some_iff.1 c2).1
      rw [List.length_drop] at this; omega
    have ea : qArg s = s.extract 1 (k + 1) := by unfold qArg; rw [hqe]
    have er : qRest s = s.extract (k + 1 + 1) s.size := by unfold qRest; rw [hqe]
    have esz : (s.extract 1 (k + 1)).size = k := by rw [ext_size s 1 (k + 1) (by omega) (by omega)]; omega
    rw [ea, er]
    have hat : s[1 + k] = 34 := by
      rw [List.getElem?_drop, at_list s (1 + k) (by omega)] at c2
      exact Option.some.inj c2
    refine quotedSplit_found s _ _ w hs (by omega) (by rw [esz, Nat.add_comm 1 k]; simp) ?_ (by rw [esz, show 2 + k = k + 1 + 1 by omega]; simp) ?_
    · have : s[1 + (s.extract 1 (k + 1)).size]'(by omega) = s[1 + k]'(by omega) := by congr 1; omega
      rw [this, hat]; rfl
    · unfold Cat
      rw [List.drop_zero, ext_data]
      exact c1
  | none =>
    have c1 := Cut.content_of_none _ _ (Nat.le_refl _) hq
    have hqe : QE s 1 = none := by unfold QE; rw [hq]; rfl
    have ea : qArg s = s.extract 1 s.size := by unfold qArg; rw [hqe]
    have er : qRest s = ⟨#[]⟩ := by unfold qRest; rw [hqe]
    rw [ea, er]
    have esz : (s.extract 1 s.size).size = s.size - 1 := ext_size s 1 s.size (by omega) (Nat.le_refl _)
    refine quotedSplit_open s _ _ w hs (by omega) rfl (by simp) ?_
    unfold Cat
    rw [List.drop_zero, ext_data, List.take_of_length_le (by rw [List.length_drop]; omega)]
    exact c1

theorem exact_law (s : ByteArray) (w : World) (hs : s.size ≤ maxLen) :
    Calls Tryd.prog 3 #[.string s] w fun e w' => e = .returned (.bool true) ∧ Below w.heap.size w w' := by
  by_cases hq : ∃ h0 : 0 < s.size, (s[0].toNat : Int) = 34
  · obtain ⟨h0, hq⟩ := hq
    refine exact_any s (qArg s) (qRest s) w hs (fun h => cuts_quoted s (by omega) h0 hq) (fun _ h => ?_) (fun h _ _ => yes_quoted s h h0)
    have := h h0
    rw [hq] at this
    exact absurd this (by decide)
  · have hq' : ∀ h0 : 0 < s.size, ¬ (s[0].toNat : Int) = 34 := fun h0 e => hq ⟨h0, e⟩
    refine exact_any s _ _ w hs (fun h => cuts_token s (by omega) hq') (fun h _ w => tokenSplit_true s _ _ w (split_token s h)) (fun _ h0 h => ?_)
    exact absurd (beq_iff_eq.1 h) (hq' h0)
end Go.Proofs.Qxb6605543aDoor
