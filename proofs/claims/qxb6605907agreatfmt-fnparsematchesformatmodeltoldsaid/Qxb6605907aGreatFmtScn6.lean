import Derived.Test.Qxb6605907aGreatFmtScn5
namespace Go.Proofs.Qxb6605907aGreatFmt.Sx
open Go.RowKit

theorem zzIsBlank_spec (x : UInt8) (w : World) :
    Calls Tryz.prog 19 #[.int .u8 (x.toNat : Int)] w fun e w' => e = .returned (.bool (blankB x)) ∧ w' = w := by
  have hx : blankB x = blankR x.toNat := blankB_iff x
  cases h1 : ((x.toNat : Int) == 32) with
  | true =>
    have : blankB x = true := by rw [hx]; simp only [blankR, Bool.or_eq_true, beq_iff_eq] at h1 ⊢; omega
    rw [this]
    go_enter Tryz.func19, Tryz.ntmps19
    go_wp2
    go_ret
    exact ⟨rfl, rfl⟩
  | false =>
    have : blankB x = ((x.toNat : Int) == 9) := by
      rw [hx]
      simp only [beq_eq_false_iff_ne] at h1
      rw [Bool.eq_iff_iff]
      simp only [blankR, Bool.or_eq_true, beq_iff_eq]
      omega
    rw [this]
    clear hx this
    go_enter Tryz.func19, Tryz.ntmps19
    go_wp2
    go_ret
    exact ⟨rfl, rfl⟩

theorem indexByte_at (l : List UInt8) (c : UInt8) (i : Nat) (h : l[i]? = some c) (hb : ∀ j, j < i → l[j]? ≠ some c) : Lib.indexByte l c = (i : Int) := by
  by_cases hn : Lib.indexByte l c = -1
  · exact absurd h (Lib.indexByte_none hn i)
  · have hge := Lib.indexByte_ge l c
    obtain ⟨o, ho⟩ : ∃ o : Nat, Lib.indexByte l c = o := ⟨(Lib.indexByte l c).toNat, by omega⟩
    obtain ⟨h1, h2⟩ := Lib.indexByte_some ho
    have : o = i := by
      rcases Nat.lt_trichotomy o i with h3 | h3 | h3
      · exact absurd h1 (hb o h3)
      · exact h3
      · exact absurd h (h2 i h3)
    rw [ho, this]

theorem indexByte_no (l : List UInt8) (c : UInt8) (hb : ∀ j, j < l.length → l[j]? ≠ some c) : Lib.indexByte l c = -1 := by
  by_cases hn : Lib.indexByte l c = -1
  · exact hn
  · have hge := Lib.indexByte_ge l c
    obtain ⟨o, ho⟩ : ∃ o : Nat, Lib.indexByte l c = o := ⟨(Lib.indexByte l c).toNat, by omega⟩
    obtain ⟨h1, _⟩ := Lib.indexByte_some ho
    exact absurd h1 (hb o (List.getElem?_eq_some_iff.1 h1).1)

theorem getL (x : ByteArray) (k : Nat) (h : k < x.size) : x.data.toList[k]? = some x[k] := by
  rw [List.getElem?_eq_getElem (by rw [size_list]; exact h)]
  rfl

theorem zzIndexByte_spec (x : ByteArray) (w : World) (hx : x.size ≤ 1048577) :
    Calls Tryz.prog 22 #[.string x, .int .u8 35] w fun e w' => e = .returned (.int .i64 (Lib.indexByte x.data.toList 35)) ∧ w' = w := by
  go_enter Tryz.func22, Tryz.ntmps22
  go_wp2
  go_loop [5] (fun t => ∃ k : Nat, k ≤ x.size ∧ t = .int .i64 k ∧ ∀ j, j < k → x.data.toList[j]? ≠ some 35) (fun t => x.size - (intOf t).toNat)
  case atStart => exact ⟨0, Nat.zero_le _, rfl, fun j hj => absurd hj (Nat.not_lt_zero _)⟩
  case round =>
    obtain ⟨k, hk, rfl, hno⟩ := hrel
    have HNO := hide hno
    clear hno
    by_cases hlt : k < x.size
    · cases hb : ((x[k].toNat : Int) == 35) with
      | true =>
        have e : x[k] = 35 := UInt8.toNat_inj.1 (by rw [show (35 : UInt8).toNat = 35 from rfl]; have := beq_iff_eq.1 hb; omega)
        have HX := hide (indexByte_at x.data.toList 35 k (by rw [getL x k hlt, e]) HNO.out)
        clear e
        go_wp2
        go_ret
        exact ⟨by rw [HX.out]; rfl, rfl⟩
      | false =>
        have HX : Hid (∀ j, j < k + 1 → x.data.toList[j]? ≠ some 35) := by
          intro j hj
          by_cases hjk : j < k
          · exact HNO.out j hjk
          · obtain rfl : j = k := by omega
            rw [getL x j hlt]
            intro h
            have h' := Option.some.inj h
            rw [h'] at hb
            exact absurd hb (by decide)
        go_wp2
        go_round
        case rel => exact ⟨k + 1, hlt, by go_num, HX.out⟩
        case measure => simp [intOf]; omega
    · have HX := hide (indexByte_no x.data.toList 35 (fun j hj => HNO.out j (by rw [size_list] at hj; omega)))
      go_wp2
      go_ret
      exact ⟨by rw [HX.out]; rfl, rfl⟩

theorem dropWhile_at (l : List UInt8) (k : Nat) (h : k < l.length) : (l.drop k).dropWhile blankB = if blankB l[k] then (l.drop (k + 1)).dropWhile blankB else l.drop k := by
  rw [List.drop_eq_getElem_cons h, List.dropWhile_cons]

set_option maxRecDepth 100000 in
theorem zzTrim_spec (x : ByteArray) (w : World) (hx : x.size ≤ 1048577) :
    Calls Tryz.prog 20 #[.string x] w fun e w' => e = .returned (.string ⟨(trimB x.data.toList).toArray⟩) ∧ w' = w := by
  go_enter Tryz.func20, Tryz.ntmps20
  go_upto_block 0 with fail
  go_cut [3] (fun v w' => ∃ k : Nat, k ≤ x.size ∧ v = .int .i64 k ∧ x.data.toList.dropWhile blankB = x.data.toList.drop k ∧ w' = w)
  case first =>
    go_wp2
    go_loop [3] (fun t => ∃ k : Nat, k ≤ x.size ∧ t = .int .i64 k ∧ (x.data.toList.drop k).dropWhile blankB = x.data.toList.dropWhile blankB) (fun t => x.size - (intOf t).toNat)
    case atStart => exact ⟨0, Nat.zero_le _, rfl, rfl⟩
    case round =>
      obtain ⟨k, hk, rfl, hdw⟩ := hrel
      have HDW := hide hdw
      clear hdw
      have hfin : (x.data.toList.drop k).dropWhile blankB = x.data.toList.drop k → Hid (x.data.toList.dropWhile blankB = x.data.toList.drop k) := fun h => HDW.out.symm.trans h
      by_cases hlt : k < x.size
      · have hg : x.data.toList[k]'(by rw [size_list]; exact hlt) = x[k] := rfl
        have hda := dropWhile_at x.data.toList k (by rw [size_list]; exact hlt)
        rw [hg] at hda
        have HB := hide (zzIsBlank_spec x[k] w)
        cases hb : blankB x[k] with
        | true =>
          rw [hb] at HB hda
          have HX : Hid ((x.data.toList.drop (k + 1)).dropWhile blankB = x.data.toList.dropWhile blankB) := by
            rw [if_pos rfl] at hda
            exact hda.symm.trans HDW.out
          clear hda hg hfin
          go_wp2_with (go_at_call 19; refine HB.out.mono ?_; rintro e w ⟨rfl, rfl⟩)
          go_round
          case rel => exact ⟨k + 1, hlt, by go_num, HX.out⟩
          case measure => simp [intOf]; omega
        | false =>
          rw [hb] at HB hda
          have HD := hfin (by rw [hda]; rfl)
          clear hda hg hfin
          go_wp2_with (go_at_call 19; refine HB.out.mono ?_; rintro e w ⟨rfl, rfl⟩)
          go_meet
          exact ⟨k, hk, rfl, HD.out, rfl⟩
      · have HD := hfin (by rw [List.drop_eq_nil_of_le (by rw [size_list]; omega)]; rfl)
        clear hfin
        have hlt' : ¬ ((k : Int) < (x.size : Int)) := by omega
        go_wp2
        go_meet
        exact ⟨k, hk, rfl, HD.out, rfl⟩
  case rest =>
    obtain ⟨k, hk, rfl, hdk, hwc⟩ := hcut
    subst hwc
    have HDK := hide hdk
    clear hdk
    go_wp2
    go_loop [4] (fun t => ∃ j : Nat, k ≤ j ∧ j ≤ x.size ∧ t = .int .i64 j ∧ trimR ((x.data.toList.drop k).take (j - k)) = trimB x.data.toList) (fun t => (intOf t).toNat)
    case atStart =>
      refine ⟨x.size, hk, Nat.le_refl _, rfl, ?_⟩
      rw [List.take_of_length_le (by rw [List.length_drop, size_list]; exact Nat.le_refl _), trimB, HDK.out]
    case round =>
      obtain ⟨j, hkj, hj, rfl, htr⟩ := hrel
      have HTR := hide htr
      clear htr
      have hst : k < j → trimR ((x.data.toList.drop k).take (j - k)) = if blankB ((x.data.toList.drop k).getD (j - k - 1) 0) then trimR ((x.data.toList.drop k).take (j - k - 1)) else (x.data.toList.drop k).take (j - k) := fun h =>
        trimR_step (x.data.toList.drop k) (j - k) (by omega) (by rw [List.length_drop, size_list]; omega)
      have hval : Hid ((x.extract k j).data.toList = (x.data.toList.drop k).take (j - k)) := Lib.extract_data x k j
      by_cases hlt : k < j
      · obtain ⟨m, rfl⟩ : ∃ m, j = m + 1 := ⟨j - 1, by omega⟩
        have hmx : m < x.size := by omega
        have hgd : (x.data.toList.drop k).getD (m + 1 - k - 1) 0 = x[m] := by
          rw [List.getD, List.getElem?_drop, show k + (m + 1 - k - 1) = m by omega, getL x m hmx]; rfl
        have hs := hst hlt
        rw [hgd] at hs
        have HB := hide (zzIsBlank_spec x[m] wc)
        have hlt' : (k : Int) < (m : Int) + 1 := by omega
        cases hb : blankB x[m] with
        | true =>
          rw [hb] at HB hs
          have HX : Hid (trimR ((x.data.toList.drop k).take (m - k)) = trimB x.data.toList) := by
            rw [if_pos rfl, show m + 1 - k - 1 = m - k by omega] at hs
            exact hs.symm.trans HTR.out
          clear hs hgd hst
          go_wp2_with (go_at_call 19; refine HB.out.mono ?_; rintro e wc ⟨rfl, rfl⟩)
          go_round
          case rel => exact ⟨m, by omega, by omega, by go_num, HX.out⟩
          case measure => simp [intOf]
        | false =>
          rw [hb] at HB hs
          have HX : Hid ((x.extract k (m + 1)).data.toList = trimB x.data.toList) := by
            show _ = _
            rw [hval.out, ← HTR.out, hs]; rfl
          have hle : k ≤ m + 1 := by omega
          have hle2 : m + 1 ≤ x.size := by omega
          clear hs hgd hst
          go_wp2_with (go_at_call 19; refine HB.out.mono ?_; rintro e wc ⟨rfl, rfl⟩)
          go_ret
          refine ⟨?_, rfl⟩
          rw [← HX.out]
          rfl
      · obtain rfl : k = j := by omega
        have HX : Hid (trimB x.data.toList = []) := by
          show _ = _
          rw [← HTR.out, Nat.sub_self, List.take_zero]; rfl
        clear hst hval
        go_wp2
        go_ret
        refine ⟨?_, rfl⟩
        rw [HX.out]
        rfl

end Go.Proofs.Qxb6605907aGreatFmt.Sx
