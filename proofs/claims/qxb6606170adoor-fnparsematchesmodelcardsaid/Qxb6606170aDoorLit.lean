import Derived.Test.Qxb6606170aDoorWalks2
import Derived.Test.Qxb6606170aDoorWalks9
namespace Go.Proofs.Qxb6606170aDoor
open Go.RowKit

theorem allD_dig : ∀ l : List UInt8, Dec.AllD (Dec.dig l)
  | [] => fun c h => by cases h
  | a :: l => fun c h => by
    unfold Dec.dig at h
    rw [List.takeWhile_cons] at h
    by_cases ha : Dec.isD a = true
    · rw [if_pos ha] at h
      rcases List.mem_cons.1 h with rfl | h
      · exact ha
      · exact allD_dig l c h
    · rw [if_neg ha] at h; cases h

theorem take_dig (l : List UInt8) : l.take (Dec.dig l).length = Dec.dig l := by
  have h : (Dec.dig l ++ Dec.rst l).take (Dec.dig l).length = Dec.dig l := List.take_left
  rw [Dec.dig_rst] at h; exact h
theorem drop_dig (l : List UInt8) : l.drop (Dec.dig l).length = Dec.rst l := by
  have h : (Dec.dig l ++ Dec.rst l).drop (Dec.dig l).length = Dec.rst l := List.drop_left
  rw [Dec.dig_rst] at h; exact h

/-- From i on: digits up to 'sc s i', then the rest. -/
theorem drop_sc (s : ByteArray) (i : Nat) : s.data.toList.drop i = (s.extract i (sc s i)).data.toList ++ s.data.toList.drop (sc s i) ∧ Dec.AllD (s.extract i (sc s i)).data.toList := by
  have e1 : (s.extract i (sc s i)).data.toList = Dec.dig (s.data.toList.drop i) := by
    rw [ext_data]
    have : sc s i - i = (Dec.dig (s.data.toList.drop i)).length := by unfold sc; omega
    rw [this, take_dig]
  have e2 : s.data.toList.drop (sc s i) = Dec.rst (s.data.toList.drop i) := by
    unfold sc
    rw [← List.drop_drop, drop_dig]
  rw [e1, e2]
  exact ⟨(Dec.dig_rst _).symm, allD_dig _⟩

theorem at_drop (s : ByteArray) (k : Nat) (c : UInt8) (h : at? s k = some c) : s.data.toList.drop k = c :: s.data.toList.drop (k + 1) := by
  have hk : k < s.size := by
    rcases Nat.lt_or_ge k s.size with h1 | h1
    · exact h1
    · rw [at_ge s k h1] at h; cases h
  rw [drop_cons s k hk]
  rw [at_lt s k hk] at h
  rw [Option.some.inj h]

theorem lit_of (s : ByteArray) (h : i3 s = s.size) : ∃ p : Lit, p.Ok ∧ s.data.toList = p.text ∧ p.W = (s.extract 0 (i1 s)).data.toList ∧ p.F = (fracA s).data.toList ∧ isNeg p.sign = negB s ∧ p.D = (expA s).data.toList := by
  obtain ⟨a1, a2⟩ := drop_sc s 0
  rw [List.drop_zero] at a1
  -- the fraction
  have hf : s.data.toList.drop (i1 s) = (if dotB s then 46 :: (fracA s).data.toList else []) ++ s.data.toList.drop (i2 s) ∧ Dec.AllD (fracA s).data.toList ∧ (dotB s = false → (fracA s).data.toList = []) := by
    cases hd : dotB s with
    | true =>
      have h46 : at? s (i1 s) = some 46 := by unfold dotB at hd; exact beq_iff_eq.1 hd
      obtain ⟨b1, b2⟩ := drop_sc s (i1 s + 1)
      have e2 : i2 s = sc s (i1 s + 1) := by unfold i2; rw [if_pos hd]
      have ef : fracA s = s.extract (i1 s + 1) (i2 s) := by unfold fracA; rw [if_pos hd]
      rw [if_pos rfl, ef, e2]
      exact ⟨by rw [at_drop s _ _ h46, b1]; rfl, b2, fun h => by cases h⟩
    | false =>
      have e2 : i2 s = i1 s := by unfold i2; rw [if_neg (by simp [hd])]
      have ef : fracA s = ⟨#[]⟩ := by unfold fracA; rw [if_neg (by simp [hd])]
      rw [ef, e2, if_neg (by decide)]
      exact ⟨rfl, fun c hc => (by cases hc), fun _ => rfl⟩
  obtain ⟨f1, f2, f3⟩ := hf
  cases he : eB s with
  | false =>
    have e3 : i3 s = i2 s := by unfold i3; rw [if_neg (by simp [he])]
    have ee : expA s = ⟨#[]⟩ := by unfold expA; rw [if_neg (by simp [he])]
    have en : negB s = false := by unfold negB; rw [he]; rfl
    refine ⟨⟨(s.extract 0 (i1 s)).data.toList, dotB s, (fracA s).data.toList, none, []⟩, ⟨a2, f2, fun c hc => (by cases hc), f3, fun _ => rfl, fun c σ h => by cases h⟩, ?_, rfl, rfl, en.symm, by rw [ee]⟩
    show s.data.toList = ((s.extract 0 (i1 s)).data.toList ++ _) ++ []
    rw [List.append_nil]
    conv => lhs; rw [a1]
    show (s.extract 0 (i1 s)).data.toList ++ s.data.toList.drop (i1 s) = _
    rw [f1, ← e3, h, drop_all s s.size (Nat.le_refl _), List.append_nil]
  | true =>
    have hlt := e_lt s he
    obtain ⟨c, hc⟩ : ∃ c, at? s (i2 s) = some c := ⟨_, at_lt s _ hlt⟩
    have hc2 : c = 101 ∨ c = 69 := by
      unfold eB at he
      rw [hc] at he
      rcases Bool.or_eq_true_iff.1 he with h | h
      · exact Or.inl (Option.some.inj (beq_iff_eq.1 h))
      · exact Or.inr (Option.some.inj (beq_iff_eq.1 h))
    obtain ⟨b1, b2⟩ := drop_sc s (j3 s)
    have e3 : i3 s = sc s (j3 s) := by unfold i3; rw [if_pos he]
    have ee : expA s = s.extract (j3 s) (i3 s) := by unfold expA; rw [if_pos he]
    have en : negB s = (at? s (i2 s + 1) == some 45) := by unfold negB; rw [he]; rfl
    rw [← e3, ← ee, h, drop_all s s.size (Nat.le_refl _), List.append_nil] at b1
    rw [← e3, ← ee] at b2
    have key : ∃ σ : Option Bool, s.data.toList.drop (i2 s + 1) = sgn σ ++ s.data.toList.drop (j3 s) ∧ isNeg σ = negB s := by
      cases hg : sgB s with
      | false =>
        have ej : j3 s = i2 s + 1 := by unfold j3; rw [if_neg (by simp [hg])]
        refine ⟨none, by rw [ej]; rfl, ?_⟩
        rw [en]
        unfold sgB at hg
        exact ((Bool.or_eq_false_iff.1 hg).2).symm
      | true =>
        have ej : j3 s = i2 s + 2 := by unfold j3; rw [if_pos hg]
        unfold sgB at hg
        rcases Bool.or_eq_true_iff.1 hg with h4 | h4
        · have h5 := beq_iff_eq.1 h4
          exact ⟨some false, by rw [ej, at_drop s _ _ h5]; rfl, by rw [en, h5]; rfl⟩
        · have h5 := beq_iff_eq.1 h4
          exact ⟨some true, by rw [ej, at_drop s _ _ h5]; rfl, by rw [en, h5]; rfl⟩
    obtain ⟨σ, g1, g2⟩ := key
    refine ⟨⟨(s.extract 0 (i1 s)).data.toList, dotB s, (fracA s).data.toList, some (c, σ), (expA s).data.toList⟩, ⟨a2, f2, b2, f3, (fun h => by cases h), (fun c' σ' h => by cases h; exact hc2)⟩, ?_, rfl, rfl, g2, rfl⟩
    show s.data.toList = ((s.extract 0 (i1 s)).data.toList ++ _) ++ (c :: (sgn σ ++ (expA s).data.toList))
    conv => lhs; rw [a1]
    show (s.extract 0 (i1 s)).data.toList ++ s.data.toList.drop (i1 s) = _
    rw [f1, at_drop s _ _ hc, g1, b1, List.append_assoc]
end Go.Proofs.Qxb6606170aDoor
