import Derived.Test.Qxb6605907aGreatFmtF2
namespace Go.Proofs.Qxb6605907aGreatFmt
open Go.RowKit

theorem zzIsName_spec (x : ByteArray) (w : World) (hx : x.size ≤ 1048577) :
    Calls Tryz.prog 10 #[.string x] w fun e w' => e = .returned (.bool (isName x.data.toList)) ∧ w' = w := by
  by_cases h0 : x.data.toList = []
  · have hem := emptyL x h0
    rw [show isName x.data.toList = false by simp [isName, h0]]
    go_enter Tryz.func10, Tryz.ntmps10
    go_wp2
    go_ret
    exact ⟨rfl, rfl⟩
  · have hem := nonemptyL x h0
    have hiv : isName x.data.toList = x.data.toList.all nameB := by
      simp only [isName]
      cases hl : x.data.toList with
      | nil => exact absurd hl h0
      | cons a l => simp
    have HIV := hide hiv
    clear hiv h0
    go_enter Tryz.func10, Tryz.ntmps10
    go_wp2
    go_loop [3] (fun t => ∃ k : Nat, k ≤ x.size ∧ t = .int .i64 k ∧ ∀ j y, j < k → x.data.toList[j]? = some y → nameB y = true) (fun t => x.size - (intOf t).toNat)
    case atStart => exact ⟨0, Nat.zero_le _, rfl, fun j y hj => absurd hj (Nat.not_lt_zero _)⟩
    case round =>
      obtain ⟨k, hk, rfl, hall⟩ := hrel
      have HALL := hide hall
      clear hall
      by_cases hlt : k < x.size
      · have HV := hide (zzNameByte_spec x[k].toNat w)
        cases hv : nameN x[k].toNat with
        | true =>
          rw [hv] at HV
          have HX : Hid (∀ j y, j < k + 1 → x.data.toList[j]? = some y → nameB y = true) := by
            intro j y hj hy
            by_cases hjk : j < k
            · exact HALL.out j y hjk hy
            · obtain rfl : j = k := by omega
              rw [getL x j hlt] at hy
              cases hy
              exact hv
          go_wp2_with (go_at_call 24; refine HV.out.mono ?_; rintro e w ⟨rfl, rfl⟩)
          go_round
          case rel => exact ⟨k + 1, hlt, by go_num, HX.out⟩
          case measure => simp [intOf]; omega
        | false =>
          rw [hv] at HV
          have HX := hide (HIV.out.trans (not_all (getL x k hlt) hv))
          go_wp2_with (go_at_call 24; refine HV.out.mono ?_; rintro e w ⟨rfl, rfl⟩)
          go_ret
          exact ⟨by rw [HX.out]; rfl, rfl⟩
      · have HX := hide (HIV.out.trans (all_of (fun j y hy => HALL.out j y (by have := (List.getElem?_eq_some_iff.1 hy).1; rw [size_list] at this; omega) hy)))
        go_wp2
        go_ret
        exact ⟨by rw [HX.out]; rfl, rfl⟩

end Go.Proofs.Qxb6605907aGreatFmt
