import Derived.Test.Qxb6605907aGreatFmtShelf
import Derived.Lib.TrimUEq
namespace Go.Proofs.Qxb6605907aGreatFmt.Sx
open Go.Lib

def blankB (b : UInt8) : Bool := b == 32 || b == 9
def blankR (r : Nat) : Bool := r == 32 || r == 9

theorem blankB_iff (b : UInt8) : blankB b = blankR b.toNat := by
  have h : ∀ c : UInt8, (b == c) = (b.toNat == c.toNat) := fun c => by
    by_cases e : b = c
    · subst e; simp
    · have : b.toNat ≠ c.toNat := fun h => e (UInt8.toNat_inj.1 h)
      rw [beq_eq_false_iff_ne.2 e, beq_eq_false_iff_ne.2 this]
  simp only [blankB, blankR, h]
  rfl

theorem blankR_high (r : Nat) (h : 128 ≤ r) : blankR r = false := by
  simp only [blankR, Bool.or_eq_false_iff, beq_eq_false_iff_ne]
  omega

theorem blankB_low {b : UInt8} (h : blankB b = true) : b.toNat < 128 := by
  rw [blankB_iff, blankR, Bool.or_eq_true, beq_iff_eq, beq_iff_eq] at h
  omega

set_option maxRecDepth 100000 in
theorem decodeN_high (n b0 b1 b2 b3 : Nat) (h : 128 ≤ b0) : 128 ≤ (decodeN n b0 b1 b2 b3).1 := by
  unfold decodeN
  repeat' split
  all_goals first | (exfalso; omega) | (simp only; omega)

/-- Blanks cut off at both ends. -/
def trimR (l : List UInt8) : List UInt8 := (l.reverse.dropWhile blankB).reverse
def trimB (l : List UInt8) : List UInt8 := trimR (l.dropWhile blankB)

theorem getD_of {l : List UInt8} {i : Nat} (h : i < l.length) : l.getD i 0 = l[i] := by simp [List.getD, h]

theorem idx_blank (s : ByteArray) : ∀ (f pos : Nat), s.size ≤ pos + f →
    (if idxFuncFrom blankR false s f pos = -1 then [] else s.data.toList.drop (idxFuncFrom blankR false s f pos).toNat) = (s.data.toList.drop pos).dropWhile blankB
  | 0, pos, h => by
    have : s.data.toList.drop pos = [] := List.drop_eq_nil_of_le (by rw [← size_eq]; omega)
    simp [idxFuncFrom, this]
  | f + 1, pos, h => by
    by_cases hp : pos < s.size
    · have hl : pos < s.data.toList.length := by rw [← size_eq]; exact hp
      have hd : s.data.toList.drop pos = s.data.toList[pos] :: s.data.toList.drop (pos + 1) := List.drop_eq_getElem_cons hl
      have hdec := decode_N s pos
      rw [getD_of hl] at hdec
      simp only [idxFuncFrom, if_pos hp]
      cases hb : blankB s.data.toList[pos] with
      | true =>
        have hlow := blankB_low hb
        rw [decodeN_ascii _ _ _ _ _ hlow] at hdec
        rw [hdec]
        simp only
        rw [← blankB_iff, hb]
        simp only [Bool.true_eq_false, if_false]
        rw [hd, List.dropWhile_cons, hb, if_pos rfl]
        exact idx_blank s f (pos + 1) (by omega)
      | false =>
        have hr : blankR (Utf8.decode s pos).1 = false := by
          by_cases hlow : s.data.toList[pos].toNat < 128
          · rw [hdec, decodeN_ascii _ _ _ _ _ hlow, ← hb, blankB_iff]
          · rw [hdec]; exact blankR_high _ (decodeN_high _ _ _ _ _ (by omega))
        rw [hr]
        simp only [if_true]
        rw [if_neg (by omega), Int.toNat_natCast, hd, List.dropWhile_cons, hb]
        simp
    · have : s.data.toList.drop pos = [] := List.drop_eq_nil_of_le (by rw [← size_eq]; omega)
      rw [this, idxFuncFrom_end _ _ s _ _ hp, if_pos rfl]; rfl

theorem trimLeft_blank (s : ByteArray) : (trimLeftF blankR s).data.toList = s.data.toList.dropWhile blankB := by
  have h := idx_blank s s.size 0 (by omega)
  rw [List.drop_zero] at h
  rw [← h]
  unfold trimLeftF idxFunc
  split
  · rfl
  · rw [extract_data, List.take_of_length_le (by rw [List.length_drop, ← size_eq]; exact Nat.le_refl _)]

theorem trimR_step (l : List UInt8) (i : Nat) (hi : 0 < i) (hil : i ≤ l.length) :
    trimR (l.take i) = if blankB (l.getD (i - 1) 0) then trimR (l.take (i - 1)) else l.take i := by
  have hl : i - 1 < l.length := by omega
  have e : l.take i = l.take (i - 1) ++ [l[i - 1]] := by
    conv => lhs; rw [show i = i - 1 + 1 by omega]
    exact List.take_succ_eq_append_getElem hl
  rw [getD_of hl, trimR]
  rw [e, List.reverse_append, List.reverse_singleton, List.singleton_append, List.dropWhile_cons]
  cases hb : blankB l[i - 1] with
  | true => rw [if_pos rfl, if_pos rfl]; rfl
  | false => simp

theorem last_blank (s : ByteArray) : ∀ (f i : Nat), i ≤ f → i ≤ s.data.toList.length → OpenAt s.data.toList i →
    trimR (s.data.toList.take i) = s.data.toList.take (if 0 ≤ lastIdxFuncFrom blankR false s f i then (lastIdxFuncFrom blankR false s f i).toNat + (decodeL (s.data.toList.drop (lastIdxFuncFrom blankR false s f i).toNat)).2 else 0)
  | 0, i, hf, _, _ => by
    obtain rfl : i = 0 := by omega
    simp [trimR, lastIdxFuncFrom]
  | f + 1, i, hf, hil, ho => by
    by_cases hi : 0 < i
    · have hlen : (s.data.toList.take i).length = i := by rw [List.length_take]; omega
      have hw := decodeLastL_width (s.data.toList.take i) (by omega)
      rw [hlen] at hw
      rw [trimR_step _ _ hi hil]
      simp only [lastIdxFuncFrom, if_pos hi]
      cases hb : blankB (s.data.toList.getD (i - 1) 0) with
      | true =>
        have hlow := blankB_low hb
        have hd : decodeLastL (s.data.toList.take i) = ((s.data.toList.getD (i - 1) 0).toNat, 1) := by
          rcases last_cases s.data.toList i hi hil with ⟨_, hd⟩ | ⟨ha, _⟩ | ⟨ha, _⟩
          · exact hd
          · omega
          · omega
        rw [hd]
        simp only
        rw [← blankB_iff, hb]
        simp only [Bool.true_eq_false, if_false, if_true]
        exact last_blank s f (i - 1) (by omega) (by omega) (Or.inr (by omega))
      | false =>
        have hr : blankR (decodeLastL (s.data.toList.take i)).1 = false := by
          rcases last_cases s.data.toList i hi hil with ⟨ha, hd⟩ | ⟨ha, hd⟩ | ⟨ha, st, hst, hd, hsum⟩
          · rw [hd, ← hb, blankB_iff]
          · rw [hd]; rfl
          · rw [hd, decodeL_N, getD_dropU, Nat.add_zero, getD_takeU _ i st hst]
            refine blankR_high _ (decodeN_high _ _ _ _ _ ?_)
            by_cases hlow : (s.data.toList.getD st 0).toNat < 128
            · rw [decodeL_N, getD_dropU, Nat.add_zero, getD_takeU _ i st hst, decodeN_ascii _ _ _ _ _ hlow] at hsum
              simp only at hsum
              obtain rfl : st = i - 1 := by omega
              omega
            · omega
        rw [hr]
        simp only [if_true, Bool.false_eq_true, if_false]
        rw [if_pos (by omega), Int.toNat_natCast, fw_width _ i hi hil ho, Nat.sub_add_cancel hw.2]
    · obtain rfl : i = 0 := by omega
      rw [lastIdxFuncFrom_zero]
      simp [trimR]

theorem last_lt (s : ByteArray) : ∀ (f i : Nat), i ≤ s.size → lastIdxFuncFrom blankR false s f i = -1 ∨ (0 ≤ lastIdxFuncFrom blankR false s f i ∧ lastIdxFuncFrom blankR false s f i < i)
  | 0, _, _ => .inl rfl
  | f + 1, i, hi => by
    unfold lastIdxFuncFrom
    split
    · have hw := decodeLastL_width (s.data.toList.take i) (by rw [List.length_take, ← size_eq]; omega)
      rw [List.length_take, ← size_eq, Nat.min_eq_left hi] at hw
      split
      · exact .inr ⟨by omega, by omega⟩
      · rcases last_lt s f (i - (decodeLastL (s.data.toList.take i)).2) (by omega) with h | h
        · exact .inl h
        · exact .inr ⟨h.1, by omega⟩
    · exact .inl rfl

theorem trimRight_blank (s : ByteArray) : (trimRightF blankR s).data.toList = trimR s.data.toList := by
  have h := last_blank s s.size s.size (Nat.le_refl _) (by rw [← size_eq]; exact Nat.le_refl _) (.inl (size_eq s))
  rw [List.take_of_length_le (by rw [← size_eq]; exact Nat.le_refl _)] at h
  rw [h]
  unfold trimRightF rightEndF lastIdxFunc
  rw [extract_data, List.drop_zero, Nat.sub_zero]
  congr 1
  split
  · rename_i h0
    congr 2
    rcases last_lt s s.size s.size (Nat.le_refl _) with hm | hlt
    · omega
    · have hx : s.extract (lastIdxFuncFrom blankR false s s.size s.size).toNat s.size = ⟨(s.data.toList.drop (lastIdxFuncFrom blankR false s s.size s.size).toNat).toArray⟩ := by
        rw [extract_eq, List.take_of_length_le (by rw [List.length_drop, ← size_eq]; exact Nat.le_refl _)]
      have hxs : (⟨(s.data.toList.drop (lastIdxFuncFrom blankR false s s.size s.size).toNat).toArray⟩ : ByteArray).size ≠ 0 := by
        rw [size_eq]
        simp only [List.length_drop]
        rw [← size_eq]
        omega
      rw [hx]
      unfold decodeGoB decodeL
      rw [if_neg hxs]
  · rfl

theorem trimF_blank (s : ByteArray) : (trimF blankR s).data.toList = trimB s.data.toList := by
  unfold trimF trimB
  rw [trimRight_blank, trimLeft_blank]

end Go.Proofs.Qxb6605907aGreatFmt.Sx
