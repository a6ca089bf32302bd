import Derived.Test.Qxb6606170aDoorWalks3
import Derived.Deep.DeepCutAuto
import Derived.Deep.CutBlock
namespace Go.Proofs.Qxb6606170aDoor
open Go.RowKit

/-- The bytes of a list, as a string. -/
def ba (l : List UInt8) : ByteArray := ⟨l.toArray⟩
theorem ba_data (l : List UInt8) : (ba l).data.toList = l := rfl
theorem ba_size (l : List UInt8) : (ba l).size = l.length := List.size_toArray
theorem ba_of (s : ByteArray) : ba s.data.toList = s := Lib.mk_data s
theorem ext_data (s : ByteArray) (a b : Nat) : (s.extract a b).data.toList = (s.data.toList.drop a).take (b - a) := Lib.extract_data s a b
theorem ba_ext {a b : ByteArray} (h : a.data.toList = b.data.toList) : a = b := by
  obtain ⟨⟨a⟩⟩ := a; obtain ⟨⟨b⟩⟩ := b; simp at h; rw [h]
theorem app_data (a b : ByteArray) : (a ++ b).data.toList = a.data.toList ++ b.data.toList := by
  simp
theorem ext_to_end (s : ByteArray) (k : Nat) : s.extract k s.size = ba (s.data.toList.drop k) := by
  apply ba_ext
  rw [ext_data, ba_data]
  exact List.take_of_length_le (by rw [List.length_drop, ← size_len]; omega)
theorem ext_from (s : ByteArray) (k : Nat) : s.extract 0 k = ba (s.data.toList.take k) := by
  apply ba_ext
  rw [ext_data, ba_data]; simp

theorem cutZ_step (d : ByteArray) (k : Nat) (h : k < d.size) (hc : (d[k].toNat : Int) = 48) : Dec.cutZ (d.data.toList.drop k) = Dec.cutZ (d.data.toList.drop (k + 1)) := by
  rw [drop_cons d k h, u8_eq d[k] 48 hc, Dec.cutZ_eq, Dec.cutZ_eq, List.dropWhile_cons, if_pos (by rfl)]
theorem cutZ_stop (d : ByteArray) (k : Nat) (h : k < d.size) (hc : ¬ (d[k].toNat : Int) = 48) : Dec.cutZ (d.data.toList.drop k) = d.data.toList.drop k := by
  rw [drop_cons d k h, Dec.cutZ_eq, List.dropWhile_cons, if_neg (by simp; intro e; exact hc (by rw [e]; rfl))]
theorem cutZ_end (d : ByteArray) (k : Nat) (h : d.size ≤ k) : Dec.cutZ (d.data.toList.drop k) = d.data.toList.drop k := by
  rw [drop_all d k h, Dec.cutZ_eq]; rfl

theorem take_snoc (s : ByteArray) (k : Nat) (h : k < s.size) : s.data.toList.take (k + 1) = s.data.toList.take k ++ [s[k]] := by
  rw [List.take_succ_eq_append_getElem (by simpa using h)]; rfl
theorem trimZ_step (f : ByteArray) (k : Nat) (h : k < f.size) (hc : (f[k].toNat : Int) = 48) : Dec.trimZ (f.data.toList.take (k + 1)) = Dec.trimZ (f.data.toList.take k) := by
  rw [take_snoc f k h, u8_eq f[k] 48 hc, Dec.trimZ_eq, Dec.trimZ_eq, List.reverse_append]
  show ((48 :: (List.take k f.data.toList).reverse).dropWhile (· == 48)).reverse = _
  rw [List.dropWhile_cons, if_pos (by rfl)]
theorem trimZ_stop (f : ByteArray) (k : Nat) (h : k < f.size) (hc : ¬ (f[k].toNat : Int) = 48) : Dec.trimZ (f.data.toList.take (k + 1)) = f.data.toList.take (k + 1) := by
  rw [take_snoc f k h, Dec.trimZ_eq, List.reverse_append]
  show ((f[k] :: (List.take k f.data.toList).reverse).dropWhile (· == 48)).reverse = _
  rw [List.dropWhile_cons, if_neg (by simp; intro e; exact hc (by rw [e]; rfl))]
  simp
theorem trimZ_none (l : List UInt8) : Dec.trimZ (l.take 0) = l.take 0 := by
  rw [Dec.trimZ_eq]; rfl

set_option maxHeartbeats 2000000 in
set_option maxRecDepth 100000 in
theorem format_any (d : ByteArray) (e : Int) (w : World) (hd : d.size ≤ 262144) (he1 : -262144 ≤ e) (he2 : e ≤ 262144) :
    Calls Tryd.prog 18 #[.string d, .int .i64 e] w fun r w' => r = .returned (.string (ba (Dec.fmtD d.data.toList e))) ∧ Below w.heap.size w w' := by
  have hzer : ∀ (n : Nat) w, n ≤ 1048576 → Calls Tryd.prog 29 #[.int .i64 (n : Int)] w fun e w' => e = .returned (.string (ba (Dec.zs n))) ∧ Below w.heap.size w w' := fun n w h => zeros_any n w h
  have HZ := hide hzer
  clear hzer
  go_enter Tryd.func18, Tryd.ntmps18
  go_upto_block 0 with fail
  go_cut [5] (fun t w' => (∃ k : Nat, k ≤ d.size ∧ t = .int .i64 k ∧ d.extract k d.size = ba (Dec.cutZ d.data.toList)) ∧ w' = w)
  case first =>
    go_wp2_with fail
    go_loop [5] (fun t => ∃ k : Nat, k ≤ d.size ∧ t = .int .i64 k ∧ Dec.cutZ d.data.toList = Dec.cutZ (d.data.toList.drop k)) (fun t => d.size - (intOf t).toNat)
    case atStart => exact ⟨0, Nat.zero_le _, rfl, rfl⟩
    case round =>
      obtain ⟨k, hk, rfl, hcz⟩ := hrel
      have HC := hide hcz
      clear hcz
      by_cases hlt : k < d.size
      · cases hb : ((d[k].toNat : Int) == 48) with
        | true =>
          have HX : Hid (Dec.cutZ d.data.toList = Dec.cutZ (d.data.toList.drop (k + 1))) := HC.out.trans (cutZ_step d k hlt (beq_iff_eq.1 hb))
          go_wp2
          go_round
          case rel => exact ⟨k + 1, by omega, by go_num, HX.out⟩
          case measure => simp [intOf]; omega
        | false =>
          have HX : Hid (d.extract k d.size = ba (Dec.cutZ d.data.toList)) := by
            show d.extract k d.size = _
            rw [ext_to_end, HC.out, cutZ_stop d k hlt (beq_eq_false_iff_ne.1 hb)]
          go_wp2
          go_meet
          exact ⟨⟨k, hk, rfl, HX.out⟩, rfl⟩
      · have HX : Hid (d.extract k d.size = ba (Dec.cutZ d.data.toList)) := by
          show d.extract k d.size = _
          rw [ext_to_end, HC.out, cutZ_end d k (by omega)]
        go_wp2
        go_meet
        exact ⟨⟨k, hk, rfl, HX.out⟩, rfl⟩
  case rest =>
    obtain ⟨⟨k, hk, rfl, hS⟩, rfl⟩ := hcut
    obtain ⟨S, hSd⟩ : ∃ S, S = ba (Dec.cutZ d.data.toList) := ⟨_, rfl⟩
    rw [← hSd] at hS
    have hSl : S.data.toList = Dec.cutZ d.data.toList := by rw [hSd]; rfl
    have hSs : S.size ≤ 262144 := by rw [← hS]; simp; omega
    have HSl := hide hSl
    clear hSd hSl
    by_cases h0 : S.data.toList = []
    · have hem : S.toList.isEmpty = true := by rw [Lib.toList_data, h0]; rfl
      have HF : Hid (Dec.fmtD d.data.toList e = [48]) := by
        show Dec.fmtD d.data.toList e = _
        unfold Dec.fmtD
        rw [if_pos (HSl.out.symm.trans h0)]
      clear h0
      go_wp2
      go_ret
      exact ⟨by rw [HF.out]; rfl, Below.refl _ _⟩
    · have hem : S.toList.isEmpty = false := by
        rw [Lib.toList_data]
        cases hl : S.data.toList with
        | nil => exact absurd hl h0
        | cons _ _ => rfl
      have h0' : Dec.cutZ d.data.toList ≠ [] := fun h => h0 (HSl.out.trans h)
      by_cases he : 0 ≤ e
      · obtain ⟨n, rfl⟩ : ∃ n : Nat, e = (n : Int) := ⟨e.toNat, by omega⟩
        have HF : Hid (Dec.fmtD d.data.toList (n : Int) = S.data.toList ++ Dec.zs n) := by
          show Dec.fmtD d.data.toList (n : Int) = _
          unfold Dec.fmtD
          rw [if_neg h0', if_pos (by omega), ← HSl.out]; rfl
        clear h0 h0'
        go_wp2_with fail
        refine (unhide HZ n _ (by omega)).mono ?_
        rintro r w1 ⟨rfl, hb⟩
        have hzs : (ba (Dec.zs n)).size ≤ 262144 := by rw [ba_size, Dec.zs_len]; omega
        generalize hZb : ba (Dec.zs n) = Zb at *
        have HZb := hide hZb
        clear hZb
        go_wp2
        go_ret
        refine ⟨?_, hb⟩
        rw [HF.out]
        show _ = Ending.returned (Value.string _)
        have : ba (S.data.toList ++ Dec.zs n) = S ++ Zb := by
          apply ba_ext; rw [app_data, ← HZb.out]; rfl
        rw [this]; rfl
      · obtain ⟨n, rfl⟩ : ∃ n : Nat, e = -(n : Int) := ⟨(-e).toNat, by omega⟩
        have hn1 : 1 ≤ n := by omega
        have hn2 : n ≤ 262144 := by omega
        have hSn := size_len S
        have HSn := hide hSn
        clear hSn
        obtain ⟨IP, hIP⟩ : ∃ IP, IP = ba (Dec.fmtIp S.data.toList n) := ⟨_, rfl⟩
        obtain ⟨FP, hFP⟩ : ∃ FP, FP = ba (Dec.fmtFp S.data.toList n) := ⟨_, rfl⟩
        have HIP := hide hIP
        have HFP := hide hFP
        clear hIP hFP
        have HF : Hid (Dec.fmtD d.data.toList (-(n : Int)) = if Dec.trimZ FP.data.toList = [] then IP.data.toList else IP.data.toList ++ [46] ++ Dec.trimZ FP.data.toList) := by
          show Dec.fmtD d.data.toList (-(n : Int)) = _
          unfold Dec.fmtD
          rw [if_neg h0', if_neg he, ← HSl.out, HIP.out, HFP.out, show (-(-(n : Int))).toNat = n by omega]; rfl
        have hFPs : FP.size ≤ 524288 := by
          rw [HFP.out, ba_size]
          unfold Dec.fmtFp
          split
          · rw [List.length_drop, ← HSn.out]; omega
          · rw [List.length_append, Dec.zs_len, ← HSn.out]; omega
        have hIPs : IP.size ≤ 524288 := by
          rw [HIP.out, ba_size]
          unfold Dec.fmtIp
          split
          · have := List.length_take_le (S.data.toList.length - n) S.data.toList
            rw [← HSn.out] at this ⊢; omega
          · simp
        clear h0 h0' he
        go_upto_if 38 with fail
        go_cut [7, 8] (fun ip fp w' => ip = .string IP ∧ fp = .string FP ∧ Below wc.heap.size wc w')
        case first =>
          by_cases hlt : n < S.size
          · have HI2 : Hid (IP = S.extract 0 (S.size - n)) := by
              show IP = _
              rw [HIP.out, ext_from]; unfold Dec.fmtIp; rw [if_pos (by rw [← HSn.out]; exact hlt), ← HSn.out]
            have HF2 : Hid (FP = S.extract (S.size - n) S.size) := by
              show FP = _
              rw [HFP.out, ext_to_end]; unfold Dec.fmtFp; rw [if_pos (by rw [← HSn.out]; exact hlt), ← HSn.out]
            go_wp2
            go_meet
            exact ⟨by rw [HI2.out], by rw [HF2.out], Below.refl _ _⟩
          · have HI2 : Hid (IP = ⟨#[48]⟩) := by
              show IP = _
              rw [HIP.out]; unfold Dec.fmtIp; rw [if_neg (by rw [← HSn.out]; exact hlt)]; rfl
            have HF2 : Hid (FP = ba (Dec.zs (n - S.size)) ++ S) := by
              show FP = _
              rw [HFP.out]; unfold Dec.fmtFp; rw [if_neg (by rw [← HSn.out]; exact hlt), ← HSn.out]
              apply ba_ext; rw [app_data]; rfl
            go_wp2_with fail
            rw [show ((n : Int) - (S.size : Int)) = ((n - S.size : Nat) : Int) by omega]
            refine (unhide HZ (n - S.size) _ (by omega)).mono ?_
            rintro r w1 ⟨rfl, hb⟩
            have hzs : (ba (Dec.zs (n - S.size))).size ≤ 262144 := by rw [ba_size, Dec.zs_len]; omega
            generalize ba (Dec.zs (n - S.size)) = Zb at *
            go_wp2
            go_meet
            exact ⟨by rw [HI2.out], by rw [HF2.out], hb⟩
        case rest =>
          obtain ⟨rfl, rfl, hbel⟩ := hcut
          go_wp2
          go_loop [9] (fun t => ∃ j : Nat, j ≤ FP.size ∧ t = .int .i64 j ∧ Dec.trimZ FP.data.toList = Dec.trimZ (FP.data.toList.take j)) (fun t => (intOf t).toNat)
          case atStart => exact ⟨FP.size, Nat.le_refl _, rfl, by rw [List.take_of_length_le (by rw [← size_len]; exact Nat.le_refl _)]⟩
          case round =>
            obtain ⟨j, hj, rfl, htz⟩ := hrel
            have HT := hide htz
            clear htz
            cases j with
            | zero =>
              have HX : Hid (Dec.fmtD d.data.toList (-(n : Int)) = IP.data.toList) := by
                show Dec.fmtD d.data.toList (-(n : Int)) = _
                rw [HF.out, if_pos (by rw [HT.out, trimZ_none]; rfl)]
              go_wp2
              go_ret
              exact ⟨by rw [HX.out, ba_of]; rfl, hbel⟩
            | succ j =>
              cases hb : ((FP[j].toNat : Int) == 48) with
              | true =>
                have HX : Hid (Dec.trimZ FP.data.toList = Dec.trimZ (FP.data.toList.take j)) := HT.out.trans (trimZ_step FP j hj (beq_iff_eq.1 hb))
                go_wp2
                go_round
                case rel => exact ⟨j, by omega, by go_num, HX.out⟩
                case measure => simp [intOf]
              | false =>
                have hst := trimZ_stop FP j hj (beq_eq_false_iff_ne.1 hb)
                have hX : ba (Dec.trimZ FP.data.toList) = FP.extract 0 (j + 1) := by rw [HT.out, hst, ext_from]
                have hl : (FP.data.toList.take (j + 1)).length = j + 1 := by rw [List.length_take, ← size_len]; omega
                have hem2 : (FP.extract 0 (j + 1)).toList.isEmpty = false := by
                  rw [Lib.toList_data, ext_from, ba_data]
                  cases hq : FP.data.toList.take (j + 1) with
                  | nil => rw [hq] at hl; simp at hl
                  | cons _ _ => rfl
                have HY : Hid (ba (Dec.fmtD d.data.toList (-(n : Int))) = IP ++ ⟨#[46]⟩ ++ FP.extract 0 (j + 1)) := by
                  show ba _ = _
                  rw [HF.out, if_neg (by intro h; rw [HT.out, hst] at h; rw [h] at hl; simp at hl), ← hX]
                  apply ba_ext
                  rw [app_data, app_data]; rfl
                have hsz : (FP.extract 0 (j + 1)).size ≤ 524288 := by rw [ext_from, ba_size, hl]; omega
                clear hst hX hl
                go_wp2
                go_ret
                exact ⟨by rw [HY.out]; rfl, hbel⟩
end Go.Proofs.Qxb6606170aDoor
