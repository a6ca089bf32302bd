import Derived.Test.Qxb6605907aGreatFmtF1
import Derived.Test.Qxb6605907aGreatFmtPl2
import Derived.Lib.IndexLaws
import Derived.Lib.Strings
namespace Go.Proofs.Qxb6605907aGreatFmt
open Go.RowKit

theorem size_list (t : ByteArray) : t.data.toList.length = t.size := by simp
theorem getL (x : ByteArray) (k : Nat) (h : k < x.size) : x.data.toList[k]? = some x[k] := by
  rw [List.getElem?_eq_getElem (by rw [size_list]; exact h)]
  rfl
theorem emptyL (x : ByteArray) (h : x.data.toList = []) : x.toList.isEmpty = true := by rw [Lib.toList_data, h]; rfl
theorem nonemptyL (x : ByteArray) (h : x.data.toList ≠ []) : x.toList.isEmpty = false := by
  rw [Lib.toList_data]
  cases hx : x.data.toList with
  | nil => exact absurd hx h
  | cons a l => rfl

theorem all_of {p : UInt8 → Bool} {l : List UInt8} (h : ∀ (j : Nat) (x : UInt8), l[j]? = some x → p x = true) : l.all p = true := by
  rw [List.all_eq_true]
  intro x hx
  obtain ⟨j, hj, rfl⟩ := List.getElem_of_mem hx
  exact h j _ (List.getElem?_eq_getElem hj)

theorem not_all {p : UInt8 → Bool} {l : List UInt8} {j : Nat} {x : UInt8} (h : l[j]? = some x) (hp : p x = false) : l.all p = false := by
  rw [Bool.eq_false_iff]
  intro ha
  have := (List.all_eq_true.1 ha) x (List.mem_of_getElem? h)
  rw [hp] at this
  exact absurd this (by decide)

theorem zzIsValue_spec (x : ByteArray) (w : World) (hx : x.size ≤ 1048577) :
    Calls Tryz.prog 21 #[.string x] w fun e w' => e = .returned (.bool (isValue x.data.toList)) ∧ w' = w := by
  by_cases h0 : x.data.toList = []
  · have hem := emptyL x h0
    rw [show isValue x.data.toList = false by simp [isValue, h0]]
    go_enter Tryz.func21, Tryz.ntmps21
    go_wp2
    go_ret
    exact ⟨rfl, rfl⟩
  · have hem := nonemptyL x h0
    have hiv : isValue x.data.toList = x.data.toList.all valueB := by
      simp only [isValue]
      cases hl : x.data.toList with
      | nil => exact absurd hl h0
      | cons a l => simp
    have HIV := hide hiv
    clear hiv h0
    go_enter Tryz.func21, Tryz.ntmps21
    go_wp2
    go_loop [3] (fun t => ∃ k : Nat, k ≤ x.size ∧ t = .int .i64 k ∧ ∀ j y, j < k → x.data.toList[j]? = some y → valueB y = true) (fun t => x.size - (intOf t).toNat)
    case atStart => exact ⟨0, Nat.zero_le _, rfl, fun j y hj => absurd hj (Nat.not_lt_zero _)⟩
    case round =>
      obtain ⟨k, hk, rfl, hall⟩ := hrel
      have HALL := hide hall
      clear hall
      by_cases hlt : k < x.size
      · have HV := hide (zzValueByte_spec x[k].toNat w)
        cases hv : valueN x[k].toNat with
        | true =>
          rw [hv] at HV
          have HX : Hid (∀ j y, j < k + 1 → x.data.toList[j]? = some y → valueB y = true) := by
            intro j y hj hy
            by_cases hjk : j < k
            · exact HALL.out j y hjk hy
            · obtain rfl : j = k := by omega
              rw [getL x j hlt] at hy
              cases hy
              exact hv
          go_wp2_with (go_at_call 32; refine HV.out.mono ?_; rintro e w ⟨rfl, rfl⟩)
          go_round
          case rel => exact ⟨k + 1, hlt, by go_num, HX.out⟩
          case measure => simp [intOf]; omega
        | false =>
          rw [hv] at HV
          have HX := hide (HIV.out.trans (not_all (getL x k hlt) hv))
          go_wp2_with (go_at_call 32; refine HV.out.mono ?_; rintro e w ⟨rfl, rfl⟩)
          go_ret
          exact ⟨by rw [HX.out]; rfl, rfl⟩
      · have HX := hide (HIV.out.trans (all_of (fun j y hy => HALL.out j y (by have := (List.getElem?_eq_some_iff.1 hy).1; rw [size_list] at this; omega) hy)))
        go_wp2
        go_ret
        exact ⟨by rw [HX.out]; rfl, rfl⟩

set_option maxRecDepth 100000 in
/-- IsName's closure, at a rune. -/
theorem isName1_spec (r : Nat) (w : World) (hr : r ≤ 1114111) :
    Calls Tryz.prog 74 #[.int .i32 (r : Int)] w fun e w' => e = .returned (.bool (!(decide (r < 128) && nameN r))) ∧ w' = w := by
  by_cases h : (128 : Int) ≤ (r : Int)
  · rw [show (!(decide (r < 128) && nameN r)) = true by simp; left; omega]
    go_enter Tryz.func74, Tryz.ntmps74
    go_wp2
    go_ret
    exact ⟨rfl, rfl⟩
  · have hw : IntKind.u8.wrap (r : Int) = (r : Int) := by rw [IntKind.wrap_u8]; omega
    have HL := hide (isLetter_spec r w)
    have HD := hide (isDigit_spec r w)
    have hlt : decide (r < 128) = true := decide_eq_true (by omega)
    rw [hlt, Bool.true_and, nameN]
    cases hl : letterN r <;> cases hd : digitN r
    all_goals
      rw [hl] at HL
      rw [hd] at HD
      clear hlt
      go_enter Tryz.func74, Tryz.ntmps74
      go_wp2_with first | (go_at_call 75; refine HL.out.mono ?_; rintro e w ⟨rfl, rfl⟩) | (go_at_call 76; refine HD.out.mono ?_; rintro e w ⟨rfl, rfl⟩)
      go_ret
      exact ⟨rfl, rfl⟩

set_option maxRecDepth 100000 in
/-- IsValue's closure, at a rune. -/
theorem isValue1_spec (r : Nat) (w : World) (hr : r ≤ 1114111) :
    Calls Tryz.prog 80 #[.int .i32 (r : Int)] w fun e w' => e = .returned (.bool (!(decide (r < 128) && valueN r))) ∧ w' = w := by
  by_cases h : (128 : Int) ≤ (r : Int)
  · rw [show (!(decide (r < 128) && valueN r)) = true by simp; left; omega]
    go_enter Tryz.func80, Tryz.ntmps80
    go_wp2
    go_ret
    exact ⟨rfl, rfl⟩
  · have hw : IntKind.u8.wrap (r : Int) = (r : Int) := by rw [IntKind.wrap_u8]; omega
    have HL := hide (isLetter_spec r w)
    have HD := hide (isDigit_spec r w)
    have hlt : decide (r < 128) = true := decide_eq_true (by omega)
    have key : valueN r = (letterN r || digitN r || decide (r = 46) || decide (r = 43) || decide (r = 45)) := by
      simp only [valueN, nameN]
    rw [hlt, Bool.true_and, key]
    clear key hlt
    cases hl : letterN r with
    | true =>
      rw [hl] at HL
      simp only [Bool.true_or, Bool.not_true]
      go_enter Tryz.func80, Tryz.ntmps80
      go_wp2_with first | (go_at_call 75; refine HL.out.mono ?_; rintro e w ⟨rfl, rfl⟩) | (go_at_call 76; refine HD.out.mono ?_; rintro e w ⟨rfl, rfl⟩)
      go_ret
      exact ⟨rfl, rfl⟩
    | false =>
      rw [hl] at HL
      cases hd : digitN r with
      | true =>
        rw [hd] at HD
        simp only [Bool.true_or, Bool.or_true, Bool.not_true]
        go_enter Tryz.func80, Tryz.ntmps80
        go_wp2_with first | (go_at_call 75; refine HL.out.mono ?_; rintro e w ⟨rfl, rfl⟩) | (go_at_call 76; refine HD.out.mono ?_; rintro e w ⟨rfl, rfl⟩)
        go_ret
        exact ⟨rfl, rfl⟩
      | false =>
        rw [hd] at HD
        clear hl hd
        by_cases h1 : r = 46
        · subst h1
          clear hw h
          go_enter Tryz.func80, Tryz.ntmps80
          go_wp2_with first | (go_at_call 75; refine HL.out.mono ?_; rintro e w ⟨rfl, rfl⟩) | (go_at_call 76; refine HD.out.mono ?_; rintro e w ⟨rfl, rfl⟩)
          go_ret
          exact ⟨rfl, rfl⟩
        · by_cases h2 : r = 43
          · subst h2
            clear hw h
            go_enter Tryz.func80, Tryz.ntmps80
            go_wp2_with first | (go_at_call 75; refine HL.out.mono ?_; rintro e w ⟨rfl, rfl⟩) | (go_at_call 76; refine HD.out.mono ?_; rintro e w ⟨rfl, rfl⟩)
            go_ret
            exact ⟨rfl, rfl⟩
          · by_cases h3 : r = 45
            · subst h3
              clear hw h
              go_enter Tryz.func80, Tryz.ntmps80
              go_wp2_with first | (go_at_call 75; refine HL.out.mono ?_; rintro e w ⟨rfl, rfl⟩) | (go_at_call 76; refine HD.out.mono ?_; rintro e w ⟨rfl, rfl⟩)
              go_ret
              exact ⟨rfl, rfl⟩
            · rw [decide_eq_false h1, decide_eq_false h2, decide_eq_false h3]
              have HN := hide (show (r : Int) ≠ 46 ∧ (r : Int) ≠ 43 ∧ (r : Int) ≠ 45 by omega)
              clear h1 h2 h3
              go_enter Tryz.func80, Tryz.ntmps80
              go_wp2_with first | (go_at_call 75; refine HL.out.mono ?_; rintro e w ⟨rfl, rfl⟩) | (go_at_call 76; refine HD.out.mono ?_; rintro e w ⟨rfl, rfl⟩)
              all_goals
                go_ret
                first
                  | exact ⟨rfl, rfl⟩
                  | (exfalso; have hn := HN.out; clear hw; omega)
                  | (have hn := HN.out; refine ⟨?_, rfl⟩; show Ending.returned (Value.bool (_ && _ && _)) = _; rw [bne_iff_ne.2 hn.1, bne_iff_ne.2 hn.2.1, bne_iff_ne.2 hn.2.2]; rfl)

end Go.Proofs.Qxb6605907aGreatFmt
