import Derived.Test.Qxb6605907aGreatFmtF3
import Derived.Test.Qxb6605907aGreatFmtK0
namespace Go.Proofs.Qxb6605907aGreatFmt
open Go.RowKit

theorem index_tw (c : UInt8) : ∀ l : List UInt8, (Lib.index l [c] = -1 ∧ l.drop (l.takeWhile (· != c)).length = []) ∨ (Lib.index l [c] = ((l.takeWhile (· != c)).length : Int) ∧ ∃ r, l.drop (l.takeWhile (· != c)).length = c :: r)
  | [] => Or.inl ⟨rfl, rfl⟩
  | b :: l => by
    have ih := index_tw c l
    simp only [Lib.index]
    by_cases h : c = b
    · subst h
      right
      simp [List.isPrefixOf]
    · have h1 : (b != c) = true := by simpa using fun e => h e.symm
      have h2 : List.isPrefixOf [c] (b :: l) = false := by simp [List.isPrefixOf, h]
      rw [h2, List.takeWhile_cons, if_pos h1]
      simp only [Bool.false_eq_true, if_false, List.length_cons, List.drop_succ_cons]
      rcases ih with ⟨i1, i2⟩ | ⟨i1, i2⟩
      · left
        rw [i1]
        exact ⟨rfl, i2⟩
      · right
        rw [i1]
        refine ⟨?_, i2⟩
        have : ((((l.takeWhile (· != c)).length : Nat) : Int) == -1) = false := by rw [beq_eq_false_iff_ne]; omega
        rw [this]
        simp

/-- strings.Cut at one byte. -/
theorem cut_one (c : UInt8) (l : List UInt8) : (l.drop (l.takeWhile (· != c)).length = [] ∧ Lib.cut l [c] = (l, [], false)) ∨ (∃ r, l.drop (l.takeWhile (· != c)).length = c :: r ∧ Lib.cut l [c] = (l.takeWhile (· != c), r, true)) := by
  rcases index_tw c l with ⟨h1, h2⟩ | ⟨h1, r, h2⟩
  · left
    refine ⟨h2, ?_⟩
    rw [Lib.cut, h1, if_neg (by decide)]
  · right
    refine ⟨r, h2, ?_⟩
    rw [Lib.cut, h1, if_pos (by omega), Int.toNat_natCast, ← List.drop_drop, h2]
    simp only [List.length_singleton, List.drop_succ_cons, List.drop_zero, Prod.mk.injEq, and_true]
    exact List.prefix_iff_eq_take.1 (List.takeWhile_prefix _) |>.symm

theorem tailP_cut (w : Bool) (l : List UInt8) : (Lib.cut l [41]).2.2 = true ∧ tailP w l = (if isVar (Lib.cut l [41]).1 && isValue (Lib.cut l [41]).2.1 then some ⟨w, (Lib.cut l [41]).1, (Lib.cut l [41]).2.1⟩ else none) ∨ ((Lib.cut l [41]).2.2 = false ∧ tailP w l = none) := by
  rcases cut_one 41 l with ⟨h1, h2⟩ | ⟨r, h1, h2⟩
  · right
    rw [h2]
    refine ⟨rfl, ?_⟩
    simp only [tailP, h1]
  · left
    rw [h2]
    refine ⟨rfl, ?_⟩
    simp only [tailP, h1]

theorem opP_heads (T : List UInt8) : (∃ l, T = 119 :: 40 :: l ∧ opP T = tailP true l) ∨ (∃ l, T = 114 :: 40 :: l ∧ opP T = tailP false l) ∨ (Lib.hasPrefix T [119, 40] = false ∧ Lib.hasPrefix T [114, 40] = false ∧ opP T = none) := by
  match T with
  | [] => exact Or.inr (Or.inr ⟨rfl, rfl, rfl⟩)
  | [c] =>
    refine Or.inr (Or.inr ⟨?_, ?_, opP_none_short (by simp)⟩) <;> simp [Lib.hasPrefix, List.isPrefixOf]
  | c :: d :: l =>
    by_cases h1 : c = 119 ∧ d = 40
    · obtain ⟨rfl, rfl⟩ := h1
      exact Or.inl ⟨l, rfl, rfl⟩
    · by_cases h2 : c = 114 ∧ d = 40
      · obtain ⟨rfl, rfl⟩ := h2
        exact Or.inr (Or.inl ⟨l, rfl, rfl⟩)
      · refine Or.inr (Or.inr ⟨?_, ?_, ?_⟩)
        · simp only [Lib.hasPrefix, List.isPrefixOf, Bool.and_true]
          rw [Bool.and_eq_false_iff, beq_eq_false_iff_ne, beq_eq_false_iff_ne]
          by_cases h : c = 119
          · exact Or.inr (fun e => h1 ⟨h, e.symm⟩)
          · exact Or.inl (fun e => h e.symm)
        · simp only [Lib.hasPrefix, List.isPrefixOf, Bool.and_true]
          rw [Bool.and_eq_false_iff, beq_eq_false_iff_ne, beq_eq_false_iff_ne]
          by_cases h : c = 114
          · exact Or.inr (fun e => h2 ⟨h, e.symm⟩)
          · exact Or.inl (fun e => h e.symm)
        · unfold opP
          split
          · rename_i h; cases h; exact absurd ⟨rfl, rfl⟩ h1
          · rename_i h; cases h; exact absurd ⟨rfl, rfl⟩ h2
          · rfl

def gKind (w : Bool) : Int := if w then 1 else 0
def gOp (o : OpP) : Value := .agg #[.int .u8 (gKind o.write), .string (baOf o.v), .string (baOf o.value)]
def gRes (r : Option OpP) (v : Value) : Prop := match r with
  | none => ∃ k, v = .tuple #[.agg #[.int .u8 k, .string ⟨#[]⟩, .string ⟨#[]⟩], .bool false]
  | some o => v = .tuple #[gOp o, .bool true]

end Go.Proofs.Qxb6605907aGreatFmt
