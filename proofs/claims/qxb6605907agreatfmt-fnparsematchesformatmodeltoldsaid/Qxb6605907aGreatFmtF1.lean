import Derived.Test.Qxb6605907aGreatFmtRows
import Derived.Test.Qxb6605907aGreatFmtPl
import Derived.WalkKit
import Derived.WalkSpells
import Derived.WalkLawsBesides
import Derived.Deep.DeepCutAuto
import Derived.Deep.CutBlock
import Derived.Deep.RegionWith
import Derived.BigQuiet
namespace Go.Proofs.Qxb6605907aGreatFmt
open Go.RowKit

theorem hide {p : Prop} (h : p) : Hid p := h

set_option maxRecDepth 100000 in
theorem zzLetter_spec (n : Nat) (w : World) : Calls Tryz.prog 34 #[.int .u8 (n : Int)] w fun e w' => e = .returned (.bool (letterN n)) ∧ w' = w := by
  have key : ∀ b : Bool, letterN n = b → Calls Tryz.prog 34 #[.int .u8 (n : Int)] w (fun e w' => e = .returned (.bool b) ∧ w' = w) → Calls Tryz.prog 34 #[.int .u8 (n : Int)] w fun e w' => e = .returned (.bool (letterN n)) ∧ w' = w := fun b h c => by rw [h]; exact c
  cases h5 : ((n : Int) == 95) <;> by_cases h1 : (97 : Int) ≤ (n : Int) <;> by_cases h2 : (n : Int) ≤ 122 <;> by_cases h3 : (65 : Int) ≤ (n : Int) <;> by_cases h4 : (n : Int) ≤ 90
  all_goals first
    | (exfalso; simp at h5; omega)
    | (refine key true (by simp at h5; simp only [letterN, Bool.or_eq_true, Bool.and_eq_true, decide_eq_true_eq]; omega) ?_
       go_enter Tryz.func34, Tryz.ntmps34
       go_wp2
       go_ret
       exact ⟨rfl, rfl⟩)
    | (refine key false (by simp at h5; simp only [letterN, Bool.or_eq_false_iff, Bool.and_eq_false_iff, decide_eq_false_iff_not]; omega) ?_
       go_enter Tryz.func34, Tryz.ntmps34
       go_wp2
       go_ret
       exact ⟨rfl, rfl⟩)

set_option maxRecDepth 100000 in
theorem isLetter_spec (n : Nat) (w : World) : Calls Tryz.prog 75 #[.int .u8 (n : Int)] w fun e w' => e = .returned (.bool (letterN n)) ∧ w' = w := by
  have key : ∀ b : Bool, letterN n = b → Calls Tryz.prog 75 #[.int .u8 (n : Int)] w (fun e w' => e = .returned (.bool b) ∧ w' = w) → Calls Tryz.prog 75 #[.int .u8 (n : Int)] w fun e w' => e = .returned (.bool (letterN n)) ∧ w' = w := fun b h c => by rw [h]; exact c
  cases h5 : ((n : Int) == 95) <;> by_cases h1 : (97 : Int) ≤ (n : Int) <;> by_cases h2 : (n : Int) ≤ 122 <;> by_cases h3 : (65 : Int) ≤ (n : Int) <;> by_cases h4 : (n : Int) ≤ 90
  all_goals first
    | (exfalso; simp at h5; omega)
    | (refine key true (by simp at h5; simp only [letterN, Bool.or_eq_true, Bool.and_eq_true, decide_eq_true_eq]; omega) ?_
       go_enter Tryz.func75, Tryz.ntmps75
       go_wp2
       go_ret
       exact ⟨rfl, rfl⟩)
    | (refine key false (by simp at h5; simp only [letterN, Bool.or_eq_false_iff, Bool.and_eq_false_iff, decide_eq_false_iff_not]; omega) ?_
       go_enter Tryz.func75, Tryz.ntmps75
       go_wp2
       go_ret
       exact ⟨rfl, rfl⟩)

set_option maxRecDepth 100000 in
theorem isDigit_spec (n : Nat) (w : World) : Calls Tryz.prog 76 #[.int .u8 (n : Int)] w fun e w' => e = .returned (.bool (digitN n)) ∧ w' = w := by
  have key : ∀ b : Bool, digitN n = b → Calls Tryz.prog 76 #[.int .u8 (n : Int)] w (fun e w' => e = .returned (.bool b) ∧ w' = w) → Calls Tryz.prog 76 #[.int .u8 (n : Int)] w fun e w' => e = .returned (.bool (digitN n)) ∧ w' = w := fun b h c => by rw [h]; exact c
  by_cases h1 : (48 : Int) ≤ (n : Int) <;> by_cases h2 : (n : Int) ≤ 57
  all_goals first
    | (exfalso; omega)
    | (refine key true (by simp only [digitN, Bool.and_eq_true, decide_eq_true_eq]; omega) ?_
       go_enter Tryz.func76, Tryz.ntmps76
       go_wp2
       go_ret
       exact ⟨rfl, rfl⟩)
    | (refine key false (by simp only [digitN, Bool.and_eq_false_iff, decide_eq_false_iff_not]; omega) ?_
       go_enter Tryz.func76, Tryz.ntmps76
       go_wp2
       go_ret
       exact ⟨rfl, rfl⟩)

set_option maxRecDepth 100000 in
theorem zzNameByte_spec (n : Nat) (w : World) : Calls Tryz.prog 24 #[.int .u8 (n : Int)] w fun e w' => e = .returned (.bool (nameN n)) ∧ w' = w := by
  have HL := hide (zzLetter_spec n w)
  cases hl : letterN n with
  | true =>
    rw [hl] at HL
    rw [show nameN n = true by simp [nameN, hl]]
    go_enter Tryz.func24, Tryz.ntmps24
    go_wp2_with (go_at_call 34; refine HL.out.mono ?_; rintro e w ⟨rfl, rfl⟩)
    go_ret
    exact ⟨rfl, rfl⟩
  | false =>
    rw [hl] at HL
    have key : ∀ b : Bool, digitN n = b → nameN n = b := fun b h => by simp [nameN, hl, h]
    by_cases h1 : (48 : Int) ≤ (n : Int) <;> by_cases h2 : (n : Int) ≤ 57
    all_goals first
      | (exfalso; omega)
      | (rw [key true (by simp only [digitN, Bool.and_eq_true, decide_eq_true_eq]; omega)]
         go_enter Tryz.func24, Tryz.ntmps24
         go_wp2_with (go_at_call 34; refine HL.out.mono ?_; rintro e w ⟨rfl, rfl⟩)
         go_ret
         exact ⟨rfl, rfl⟩)
      | (rw [key false (by simp only [digitN, Bool.and_eq_false_iff, decide_eq_false_iff_not]; omega)]
         go_enter Tryz.func24, Tryz.ntmps24
         go_wp2_with (go_at_call 34; refine HL.out.mono ?_; rintro e w ⟨rfl, rfl⟩)
         go_ret
         refine ⟨?_, rfl⟩
         first | rfl | (show Ending.returned (Value.bool (decide ((n : Int) ≤ 57))) = _; rw [decide_eq_false (by omega)]))

set_option maxRecDepth 100000 in
theorem zzValueByte_spec (n : Nat) (w : World) : Calls Tryz.prog 32 #[.int .u8 (n : Int)] w fun e w' => e = .returned (.bool (valueN n)) ∧ w' = w := by
  have HL := hide (zzNameByte_spec n w)
  cases hl : nameN n with
  | true =>
    rw [hl] at HL
    rw [show valueN n = true by simp [valueN, hl]]
    go_enter Tryz.func32, Tryz.ntmps32
    go_wp2_with (go_at_call 24; refine HL.out.mono ?_; rintro e w ⟨rfl, rfl⟩)
    go_ret
    exact ⟨rfl, rfl⟩
  | false =>
    rw [hl] at HL
    have key : valueN n = (((n : Int) == 46) || ((n : Int) == 43) || ((n : Int) == 45)) := by
      rw [Bool.eq_iff_iff]
      simp only [valueN, hl, Bool.false_or, Bool.or_eq_true, decide_eq_true_eq, beq_iff_eq]
      omega
    cases h1 : ((n : Int) == 46) <;> cases h2 : ((n : Int) == 43) <;> cases h3 : ((n : Int) == 45)
    all_goals
      rw [key, h1, h2, h3]
      clear key
      go_enter Tryz.func32, Tryz.ntmps32
      go_wp2_with (go_at_call 24; refine HL.out.mono ?_; rintro e w ⟨rfl, rfl⟩)
      go_ret
      exact ⟨rfl, rfl⟩

end Go.Proofs.Qxb6605907aGreatFmt
