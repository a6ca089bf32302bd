import Derived.Test.Qxb6606170aDoorWalks4
import Derived.Test.Qxb6606170aDoorPlain2
namespace Go.Proofs.Qxb6606170aDoor
open Go.RowKit

theorem at_mem (s : ByteArray) (k : Nat) (h : k < s.size) : s[k] ∈ s.data.toList := by
  have := drop_cons s k h
  exact List.mem_of_mem_drop (by rw [this]; exact List.mem_cons_self)

set_option maxHeartbeats 2000000 in
set_option maxRecDepth 100000 in
theorem exponent_any (neg : Bool) (d : ByteArray) (w : World) (hd : d.size ≤ 262144) (hD : Dec.AllD d.data.toList) :
    Calls Tryd.prog 17 #[.bool neg, .string d] w fun r w' => r = .returned (.tuple #[.int .i64 (Dec.expV neg d.data.toList), .bool (Dec.expOk d.data.toList)]) ∧ w' = w := by
  have HD := hide hD
  clear hD
  go_enter Tryd.func17, Tryd.ntmps17
  go_upto_block 0 with fail
  go_cut [6] (fun t w' => (∃ k : Nat, k ≤ d.size ∧ t = .int .i64 k ∧ d.extract k d.size = ba (Dec.cutZ d.data.toList)) ∧ w' = w)
  case first =>
    go_wp2_with fail
    go_loop [6] (fun t => ∃ k : Nat, k ≤ d.size ∧ t = .int .i64 k ∧ Dec.cutZ d.data.toList = Dec.cutZ (d.data.toList.drop k)) (fun t => d.size - (intOf t).toNat)
    case atStart => exact ⟨0, Nat.zero_le _, rfl, rfl⟩
    case round =>
      obtain ⟨k, hk, rfl, hcz⟩ := hrel
      have HC := hide hcz
      clear hcz
      by_cases hlt : k < d.size
      · cases hb : ((d[k].toNat : Int) == 48) with
        | true =>
          have HX : Hid (Dec.cutZ d.data.toList = Dec.cutZ (d.data.toList.drop (k + 1))) := HC.out.trans (cutZ_step d k hlt (beq_iff_eq.1 hb))
          go_wp2
          go_round
          case rel => exact ⟨k + 1, by omega, by go_num, HX.out⟩
          case measure => simp [intOf]; omega
        | false =>
          have HX : Hid (d.extract k d.size = ba (Dec.cutZ d.data.toList)) := by
            show d.extract k d.size = _
            rw [ext_to_end, HC.out, cutZ_stop d k hlt (beq_eq_false_iff_ne.1 hb)]
          go_wp2
          go_meet
          exact ⟨⟨k, hk, rfl, HX.out⟩, rfl⟩
      · have HX : Hid (d.extract k d.size = ba (Dec.cutZ d.data.toList)) := by
          show d.extract k d.size = _
          rw [ext_to_end, HC.out, cutZ_end d k (by omega)]
        go_wp2
        go_meet
        exact ⟨⟨k, hk, rfl, HX.out⟩, rfl⟩
  case rest =>
    obtain ⟨⟨k, hk, rfl, hS⟩, rfl⟩ := hcut
    obtain ⟨S, hSd⟩ : ∃ S, S = ba (Dec.cutZ d.data.toList) := ⟨_, rfl⟩
    rw [← hSd] at hS
    have hSl : S.data.toList = Dec.cutZ d.data.toList := by rw [hSd]; rfl
    have hSs : S.size ≤ 262144 := by rw [← hS]; simp; omega
    have hSa : ∀ (j : Nat) (h : j < S.size), 48 ≤ S[j].toNat ∧ S[j].toNat ≤ 57 := fun j h => by
      have h1 := at_mem S j h
      rw [hSl] at h1
      exact (Dec.isD_iff _).1 (HD.out _ (Dec.cutZ_mem _ _ h1))
    have HSa := hide hSa
    have HSl := hide hSl
    clear hSd hSl hSa
    by_cases h4 : 4 < S.size
    · have HF : Hid (Dec.expOk d.data.toList = false) := Dec.expOk_long _ HD.out (by rw [← HSl.out, ← size_len]; omega)
      have HV : Hid (Dec.expV neg d.data.toList = 0) := by show Dec.expV neg d.data.toList = 0; unfold Dec.expV; rw [if_neg (by rw [HF.out]; decide)]
      go_wp2
      go_ret2
      exact ⟨by rw [HF.out, HV.out]; rfl, rfl⟩
    · have h4' : S.size ≤ 4 := by omega
      clear h4
      have hv4 : ∀ j, j ≤ S.size → Dec.val (S.data.toList.take j) ≤ 9999 := fun j hj => by
        have hlen : (S.data.toList.take j).length ≤ 4 := by rw [List.length_take, ← size_len]; omega
        have h1 := Dec.val_lt _ (S.data.toList.take j) (Nat.le_refl _) (fun c hc => HD.out c (Dec.cutZ_mem _ _ (by rw [← HSl.out]; exact List.mem_of_mem_take hc)))
        have h2 : 10 ^ (S.data.toList.take j).length ≤ 10 ^ 4 := Nat.pow_le_pow_right (by decide) hlen
        have : (10 : Nat) ^ 4 = 10000 := by decide
        omega
      have HV4 := hide hv4
      clear hv4
      go_wp2
      go_loop [8, 9] (fun v i => ∃ j : Nat, j ≤ S.size ∧ i = .int .i64 j ∧ v = .int .i64 (Dec.val (S.data.toList.take j) : Int)) (fun _ i => S.size - (intOf i).toNat)
      case atStart => exact ⟨0, Nat.zero_le _, rfl, rfl⟩
      case round =>
        obtain ⟨j, hj, rfl, rfl⟩ := hrel
        have hb := HV4.out j hj
        by_cases hlt : j < S.size
        · obtain ⟨hc1, hc2⟩ := HSa.out j hlt
          have HX : Hid ((Dec.val (S.data.toList.take (j + 1)) : Int) = (Dec.val (S.data.toList.take j) : Int) * 10 + ((S[j].toNat : Int) - 48)) := by
            show (Dec.val (S.data.toList.take (j + 1)) : Int) = _
            rw [take_snoc S j hlt, Dec.val_snoc]; omega
          generalize Dec.val (S.data.toList.take j) = v at *
          go_wp2
          go_round
          case rel => exact ⟨j + 1, by omega, by go_num, by rw [HX.out]⟩
          case measure => simp [intOf]; omega
        · have hfull : S.data.toList.take j = Dec.cutZ d.data.toList := by
            rw [← HSl.out]; exact List.take_of_length_le (by rw [← size_len]; omega)
          rw [hfull] at hb ⊢
          have HO : Hid (Dec.expOk d.data.toList = decide (Dec.val (Dec.cutZ d.data.toList) ≤ 1000)) := rfl
          have HV : Hid (Dec.expV neg d.data.toList = if Dec.expOk d.data.toList then (if neg then -(Dec.val (Dec.cutZ d.data.toList) : Int) else (Dec.val (Dec.cutZ d.data.toList) : Int)) else 0) := rfl
          clear hfull
          generalize Dec.val (Dec.cutZ d.data.toList) = v at *
          by_cases h1000 : v ≤ 1000
          · have HO2 : Hid (Dec.expOk d.data.toList = true) := by show Dec.expOk d.data.toList = true; rw [HO.out]; exact decide_eq_true h1000
            rw [HO2.out, if_pos rfl] at HV
            cases neg with
            | true =>
              go_wp2
              go_ret2
              exact ⟨by rw [HO2.out, HV.out]; rfl, rfl⟩
            | false =>
              go_wp2
              go_ret2
              exact ⟨by rw [HO2.out, HV.out]; rfl, rfl⟩
          · have HO2 : Hid (Dec.expOk d.data.toList = false) := by show Dec.expOk d.data.toList = false; rw [HO.out]; exact decide_eq_false h1000
            rw [HO2.out, if_neg (by decide)] at HV
            go_wp2
            go_ret2
            exact ⟨by rw [HO2.out, HV.out]; rfl, rfl⟩

/-- What the model answers of the four parts of a literal. -/
def modelS (W F : List UInt8) (neg : Bool) (D : List UInt8) : ByteArray := if Dec.expOk D then ba (Dec.fmtD (W ++ F) (Dec.expV neg D - F.length)) else ⟨#[]⟩

set_option maxHeartbeats 2000000 in
set_option maxRecDepth 100000 in
theorem modelValue_any (a f d : ByteArray) (neg : Bool) (w : World) (ha : a.size ≤ 65536) (hf : f.size ≤ 65536) (hd : d.size ≤ 262144) (hD : Dec.AllD d.data.toList) :
    Calls Tryd.prog 9 #[.string a, .string f, .bool neg, .string d] w fun r w' => r = .returned (.tuple #[.string (modelS a.data.toList f.data.toList neg d.data.toList), .bool (Dec.expOk d.data.toList)]) ∧ Below w.heap.size w w' := by
  have HE := hide (exponent_any neg d w hd hD)
  have hv := Dec.expV_le neg d.data.toList
  have HM : Hid (modelS a.data.toList f.data.toList neg d.data.toList = if Dec.expOk d.data.toList then ba (Dec.fmtD (a.data.toList ++ f.data.toList) (Dec.expV neg d.data.toList - f.data.toList.length)) else ⟨#[]⟩) := rfl
  have HL := hide (size_len f)
  clear hD
  generalize Dec.expV neg d.data.toList = x at *
  generalize Dec.expOk d.data.toList = ok at *
  obtain ⟨hv1, hv2⟩ := hv
  go_enter Tryd.func9, Tryd.ntmps9
  go_wp2_with fail
  refine (unhide HE).mono ?_
  rintro r w ⟨rfl, rfl⟩
  cases ok with
  | false =>
    go_wp2
    go_ret2
    exact ⟨by rw [HM.out]; rfl, Below.refl _ _⟩
  | true =>
    go_wp2_with fail
    refine (format_any (a ++ f) (x - (f.size : Int)) _ (by simp; omega) (by omega) (by omega)).mono ?_
    rintro r w1 ⟨rfl, hb⟩
    go_wp2
    go_ret2
    refine ⟨?_, hb⟩
    rw [HM.out, if_pos trivial, ← HL.out]
    rfl
end Go.Proofs.Qxb6606170aDoor
