import Derived.Test.Qxb6605907aGreatFmtOm
import Derived.Test.Qxb6605907aGreatFmtShelf
import Derived.Lib.TrimUEq
namespace Go.Proofs.Qxb6605907aGreatFmt
open Go.RowKit Go.Lib

set_option maxRecDepth 100000 in
theorem decodeN_hi (n b0 b1 b2 b3 : Nat) (h : 128 ≤ b0) : 128 ≤ (decodeN n b0 b1 b2 b3).1 := by
  unfold decodeN
  repeat' split
  all_goals first | (exfalso; omega) | (simp only; omega)

theorem getD_at {l : List UInt8} {i : Nat} (h : i < l.length) : l.getD i 0 = l[i] := by simp [List.getD, h]

/-- strings.IndexFunc at a class of ASCII bytes. -/
theorem idx_class (q : Nat → Bool) (s : ByteArray) : ∀ (f pos : Nat), s.size ≤ pos + f →
    (idxFuncFrom (fun r => !(decide (r < 128) && q r)) true s f pos = -1 ∧ (s.data.toList.drop pos).all (fun b => decide (b.toNat < 128) && q b.toNat) = true) ∨
    (0 ≤ idxFuncFrom (fun r => !(decide (r < 128) && q r)) true s f pos ∧ (s.data.toList.drop pos).all (fun b => decide (b.toNat < 128) && q b.toNat) = false)
  | 0, pos, h => by
    have : s.data.toList.drop pos = [] := List.drop_eq_nil_of_le (by rw [← size_eq]; omega)
    left
    simp [idxFuncFrom, this]
  | f + 1, pos, h => by
    by_cases hp : pos < s.size
    · have hl : pos < s.data.toList.length := by rw [← size_eq]; exact hp
      have hd : s.data.toList.drop pos = s.data.toList[pos] :: s.data.toList.drop (pos + 1) := List.drop_eq_getElem_cons hl
      have hdec := decode_N s pos
      rw [getD_at hl] at hdec
      simp only [idxFuncFrom, if_pos hp]
      by_cases hlow : s.data.toList[pos].toNat < 128
      · rw [decodeN_ascii _ _ _ _ _ hlow] at hdec
        rw [hdec, hd]
        simp only [List.all_cons, decide_eq_true hlow, Bool.true_and]
        cases hq : q s.data.toList[pos].toNat with
        | true =>
          simp only [Bool.not_true, Bool.false_eq_true, if_false, Bool.true_and]
          exact idx_class q s f (pos + 1) (by omega)
        | false =>
          right
          simp
      · have hr := decodeN_hi (s.size - pos) s.data.toList[pos].toNat (s.data.toList.getD (pos + 1) 0).toNat (s.data.toList.getD (pos + 2) 0).toNat (s.data.toList.getD (pos + 3) 0).toNat (by omega)
        right
        have hr' : 128 ≤ (Utf8.decode s pos).1 := by
          rw [hdec]
          exact decodeN_hi _ _ _ _ _ (by omega)
        have e1 : decide ((Utf8.decode s pos).1 < 128) = false := decide_eq_false (by omega)
        rw [hd]
        simp only [List.all_cons, decide_eq_false hlow, Bool.false_and, e1, Bool.not_false, if_true]
        exact ⟨by omega, trivial⟩
    · have : s.data.toList.drop pos = [] := List.drop_eq_nil_of_le (by rw [← size_eq]; omega)
      left
      rw [this, idxFuncFrom_end _ _ s _ _ hp]
      exact ⟨rfl, rfl⟩

theorem class_low (q : Nat → Bool) (hq : ∀ n, 128 ≤ n → q n = false) (l : List UInt8) : l.all (fun b => decide (b.toNat < 128) && q b.toNat) = l.all (fun b => q b.toNat) := by
  congr 1
  funext b
  by_cases h : b.toNat < 128
  · rw [decide_eq_true h, Bool.true_and]
  · rw [decide_eq_false h, Bool.false_and, hq _ (by omega)]

theorem letterN_high (n : Nat) (h : 128 ≤ n) : letterN n = false := by
  simp only [letterN, Bool.or_eq_false_iff, Bool.and_eq_false_iff, decide_eq_false_iff_not]; omega
theorem nameN_high (n : Nat) (h : 128 ≤ n) : nameN n = false := by
  simp only [nameN, digitN, letterN_high n h, Bool.false_or, Bool.and_eq_false_iff, decide_eq_false_iff_not]; omega
theorem valueN_high (n : Nat) (h : 128 ≤ n) : valueN n = false := by
  simp only [valueN, nameN_high n h, Bool.false_or, Bool.or_eq_false_iff, decide_eq_false_iff_not]; omega

theorem idx_all (q : Nat → Bool) (hq : ∀ n, 128 ≤ n → q n = false) (s : ByteArray) :
    (idxFunc (fun r => !(decide (r < 128) && q r)) true s = -1 ∧ s.data.toList.all (fun b => q b.toNat) = true) ∨ (0 ≤ idxFunc (fun r => !(decide (r < 128) && q r)) true s ∧ s.data.toList.all (fun b => q b.toNat) = false) := by
  have := idx_class q s s.size 0 (by omega)
  rw [List.drop_zero, class_low q hq] at this
  exact this

theorem idxName_spec (x : ByteArray) (w : World) : Calls Tryz.prog 73 #[.string x, .func (.func 74) #[] #[]] w fun e w' => e = .returned (.int .i64 (idxFunc (fun r => !(decide (r < 128) && nameN r)) true x)) ∧ Below w.heap.size w w' := by
  have eg : ∀ args w, (callFunc 74 args).run Tryz.prog w = .ok (.enter 74 args) w := enters_of Tryz.func74 (by kernel_rfl) rfl
  exact Any.strings_IndexFunc_runes Tryz.laysGw15 74 #[] eg _ x w (fun W r hr _ => (isName1_spec r W hr).mono fun e w' ⟨he, hw⟩ => ⟨he, 0, hw⟩)

theorem idxValue_spec (x : ByteArray) (w : World) : Calls Tryz.prog 73 #[.string x, .func (.func 80) #[] #[]] w fun e w' => e = .returned (.int .i64 (idxFunc (fun r => !(decide (r < 128) && valueN r)) true x)) ∧ Below w.heap.size w w' := by
  have eg : ∀ args w, (callFunc 80 args).run Tryz.prog w = .ok (.enter 80 args) w := enters_of Tryz.func80 (by kernel_rfl) rfl
  exact Any.strings_IndexFunc_runes Tryz.laysGw15 80 #[] eg _ x w (fun W r hr _ => (isValue1_spec r W hr).mono fun e w' ⟨he, hw⟩ => ⟨he, 0, hw⟩)

theorem isName_spec (x : ByteArray) (w : World) : Calls Tryz.prog 50 #[.string x] w fun e w' => e = .returned (.bool (isName x.data.toList)) ∧ Below w.heap.size w w' := by
  by_cases h0 : x.data.toList = []
  · have hem := emptyL x h0
    rw [show isName x.data.toList = false by simp [isName, h0]]
    go_enter Tryz.func50, Tryz.ntmps50
    go_wp2
    go_ret
    exact ⟨rfl, Below.refl _ _⟩
  · have hem := nonemptyL x h0
    have HC := hide (idxName_spec x w)
    have hiv : isName x.data.toList = x.data.toList.all nameB := by
      simp only [isName]
      cases hl : x.data.toList with
      | nil => exact absurd hl h0
      | cons a l => simp
    rw [hiv]
    have hx := idx_all nameN nameN_high x
    obtain ⟨d, hd⟩ : ∃ d, idxFunc (fun r => !(decide (r < 128) && nameN r)) true x = d := ⟨_, rfl⟩
    rw [hd] at HC hx
    have e1 : x.data.toList.all nameB = x.data.toList.all (fun b => nameN b.toNat) := rfl
    rw [e1]
    clear hd hiv e1 h0
    rcases hx with ⟨rfl, h2⟩ | ⟨h1, h2⟩
    · rw [h2]
      go_enter Tryz.func50, Tryz.ntmps50
      go_wp2_with (go_at_call 73; refine HC.out.mono ?_; rintro e w2 ⟨rfl, hb2⟩)
      go_ret
      exact ⟨rfl, hb2⟩
    · rw [h2]
      have h1' : decide (d < 0) = false := decide_eq_false (by omega)
      go_enter Tryz.func50, Tryz.ntmps50
      go_wp2_with (go_at_call 73; refine HC.out.mono ?_; rintro e w2 ⟨rfl, hb2⟩)
      go_ret
      exact ⟨by first | rfl | (rw [← h1']; rfl), hb2⟩

theorem isValue_spec (x : ByteArray) (w : World) : Calls Tryz.prog 56 #[.string x] w fun e w' => e = .returned (.bool (isValue x.data.toList)) ∧ Below w.heap.size w w' := by
  by_cases h0 : x.data.toList = []
  · have hem := emptyL x h0
    rw [show isValue x.data.toList = false by simp [isValue, h0]]
    go_enter Tryz.func56, Tryz.ntmps56
    go_wp2
    go_ret
    exact ⟨rfl, Below.refl _ _⟩
  · have hem := nonemptyL x h0
    have HC := hide (idxValue_spec x w)
    have hiv : isValue x.data.toList = x.data.toList.all valueB := by
      simp only [isValue]
      cases hl : x.data.toList with
      | nil => exact absurd hl h0
      | cons a l => simp
    rw [hiv]
    have hx := idx_all valueN valueN_high x
    obtain ⟨d, hd⟩ : ∃ d, idxFunc (fun r => !(decide (r < 128) && valueN r)) true x = d := ⟨_, rfl⟩
    rw [hd] at HC hx
    have e1 : x.data.toList.all valueB = x.data.toList.all (fun b => valueN b.toNat) := rfl
    rw [e1]
    clear hd hiv e1 h0
    rcases hx with ⟨rfl, h2⟩ | ⟨h1, h2⟩
    · rw [h2]
      go_enter Tryz.func56, Tryz.ntmps56
      go_wp2_with (go_at_call 73; refine HC.out.mono ?_; rintro e w2 ⟨rfl, hb2⟩)
      go_ret
      exact ⟨rfl, hb2⟩
    · rw [h2]
      have h1' : decide (d < 0) = false := decide_eq_false (by omega)
      go_enter Tryz.func56, Tryz.ntmps56
      go_wp2_with (go_at_call 73; refine HC.out.mono ?_; rintro e w2 ⟨rfl, hb2⟩)
      go_ret
      exact ⟨by first | rfl | (rw [← h1']; rfl), hb2⟩

theorem isVar_spec (x : ByteArray) (w : World) : Calls Tryz.prog 55 #[.string x] w fun e w' => e = .returned (.bool (isVar x.data.toList)) ∧ Below w.heap.size w w' := by
  by_cases h0 : x.data.toList = []
  · have hem := emptyL x h0
    rw [show isVar x.data.toList = false by simp [isVar, h0]]
    go_enter Tryz.func55, Tryz.ntmps55
    go_wp2
    go_ret
    exact ⟨rfl, Below.refl _ _⟩
  · have hem := nonemptyL x h0
    have hsz : 0 < x.size := by
      rw [← size_list]
      exact List.length_pos_iff.2 h0
    have hiv : isVar x.data.toList = (letterN x[0].toNat && isName x.data.toList) := by
      simp only [isVar]
      have hg := getL x 0 hsz
      cases hl : x.data.toList with
      | nil => exact absurd hl h0
      | cons a l =>
        rw [hl] at hg
        simp only [List.getElem?_cons_zero, Option.some.injEq] at hg
        rw [← hg]
        rfl
    rw [hiv]
    have HL := hide (isLetter_spec x[0].toNat w)
    have HC := hide (isName_spec x w)
    clear hiv h0
    cases hl : letterN x[0].toNat with
    | false =>
      rw [hl] at HL
      rw [Bool.false_and]
      go_enter Tryz.func55, Tryz.ntmps55
      go_wp2_with first | (go_at_call 75; refine HL.out.mono ?_; rintro e w ⟨rfl, rfl⟩) | (go_at_call 50; refine HC.out.mono ?_; rintro e w2 ⟨rfl, hb2⟩)
      go_ret
      exact ⟨rfl, Below.refl _ _⟩
    | true =>
      rw [hl] at HL
      rw [Bool.true_and]
      obtain ⟨b, hb⟩ : ∃ b, isName x.data.toList = b := ⟨_, rfl⟩
      rw [hb] at HC ⊢
      clear hb
      go_enter Tryz.func55, Tryz.ntmps55
      go_wp2_with first | (go_at_call 75; refine HL.out.mono ?_; rintro e w ⟨rfl, rfl⟩) | (go_at_call 50; refine HC.out.mono ?_; rintro e w2 ⟨rfl, hb2⟩)
      go_ret
      exact ⟨rfl, hb2⟩

end Go.Proofs.Qxb6605907aGreatFmt
