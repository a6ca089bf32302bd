import Derived.Test.Qxb6606170aDoorWalks11
namespace Go.Proofs.Qxb6606170aDoor
open Go.RowKit Go.Shelf

/-- The rest behind the first k bytes. -/
def restA (b : ByteArray) (k : Nat) : ByteArray := ba (b.data.toList.drop k)
theorem restA_data (b : ByteArray) (k : Nat) : (restA b k).data.toList = b.data.toList.drop k := rfl
theorem restA_size (b : ByteArray) (k : Nat) : (restA b k).size = b.size - k := size_drop _ b k rfl
theorem skip_rest (b : ByteArray) (k : Nat) (w : World) :
    Calls Tryd.prog 26 #[.string (restA b k)] w fun e w' => e = .returned (.string (restA b (sc b k))) ∧ Below w.heap.size w w' := by
  have := skip_any (restA b k) w
  rw [restA_data, rst_drop] at this
  exact this
theorem restA_zero (b : ByteArray) : restA b 0 = b := by
  apply ba_ext; rw [restA_data, List.drop_zero]
theorem trimPoint (b : ByteArray) (k : Nat) (h : at? b k = some 46) : ba (Lib.trimPrefix (restA b k).data.toList [46]) = restA b (k + 1) := by
  have hp : Lib.hasPrefix (restA b k).data.toList [46] = true := by rw [prefix_is, at_zero (restA b k) b k rfl, h]; rfl
  unfold Lib.trimPrefix
  rw [hp, if_pos rfl, restA_data, List.drop_drop]; rfl
theorem tail_rest (b : ByteArray) (k : Nat) : (restA b k).extract 1 (restA b k).size = restA b (k + 1) := by
  apply ba_ext
  rw [tail_of (restA b k) b k rfl]; rfl

set_option maxHeartbeats 4000000 in
set_option maxRecDepth 100000 in
theorem parse_any (t b : ByteArray) (neg : Bool) (w : World) (hb : ba (Lib.trimPrefix t.data.toList [45]) = b) (hn : Lib.hasPrefix t.data.toList [45] = neg) (hs : b.size ≤ 65536) :
    Calls Tryd.prog 14 #[.string t] w fun r w' => r = .returned (.tuple #[.string (outS neg b), .bool (outB b)]) ∧ Below w.heap.size w w' := by
  have H0 := hide (cutPrefix_any t 45)
  rw [hb, hn] at H0
  have h1 : ∀ w, Calls Tryd.prog 26 #[.string b] w fun e w' => e = .returned (.string (restA b (i1 b))) ∧ Below w.heap.size w w' := fun w => by
    have := skip_rest b 0 w
    rw [restA_zero] at this
    exact this
  have H1 := hide h1
  have h2 : ∀ w, Calls Tryd.prog 25 #[.string (restA b (i1 b)), .string ⟨#[46]⟩] w fun e w' => e = .returned (.tuple #[.string (ba (Lib.trimPrefix (restA b (i1 b)).data.toList [46])), .bool (dotB b)]) ∧ w' = w := fun w => by
    have := cutPrefix_any (restA b (i1 b)) 46 w
    rw [prefix_is, at_zero (restA b (i1 b)) b (i1 b) rfl] at this
    exact this
  have H2 := hide h2
  have H3 : Hid (dotB b = true → ba (Lib.trimPrefix (restA b (i1 b)).data.toList [46]) = restA b (i1 b + 1)) := fun h => trimPoint b (i1 b) (beq_iff_eq.1 h)
  have H4 : Hid (dotB b = true → ∀ w, Calls Tryd.prog 26 #[.string (restA b (i1 b + 1))] w fun e w' => e = .returned (.string (restA b (i2 b))) ∧ Below w.heap.size w w') := fun h w => by
    have := skip_rest b (i1 b + 1) w
    have e2 : i2 b = sc b (i1 b + 1) := by unfold i2; rw [if_pos h]
    rw [e2]; exact this
  have H5 : Hid (eB b = true → ∀ w, Calls Tryd.prog 26 #[.string (restA b (j3 b))] w fun e w' => e = .returned (.string (restA b (i3 b))) ∧ Below w.heap.size w w') := fun h w => by
    have := skip_rest b (j3 b) w
    have e2 : i3 b = sc b (j3 b) := by unfold i3; rw [if_pos h]
    rw [e2]; exact this
  have H6 := hide (fun (h : i3 b = b.size) w => Plain_val b w h hs)
  have H7 : Hid (i3 b = b.size → ∀ w, Calls Tryd.prog 27 #[.string (valS b)] w fun e w' => e = .returned (.string (negS (valS b))) ∧ w' = w) := fun h w => negate_any (valS b) w (by have := val_size b hs; omega) (val_head b h)
  have HOB := hide (out_bad neg b)
  have hle1 := i1_le b
  have hle2 := i2_le b
  have hle3 := i3_le b
  have hz1 := restA_size b (i1 b)
  have HZ1 := hide hz1
  have h1s : (restA b (i1 b)).size ≤ 65536 := by omega
  have HZ2 := hide (restA_size b (i2 b))
  have HZ3 := hide (restA_size b (i3 b))
  have HZF := hide (restA_size b (i1 b + 1))
  have HZJ := hide (restA_size b (j3 b))
  clear h1 h2 hz1 hb hn
  generalize ba (Lib.trimPrefix (restA b (i1 b)).data.toList [46]) = T1 at *
  go_enter Tryd.func14, Tryd.ntmps14
  go_wp2_with fail
  refine (unhide H0 _).mono ?_
  rintro r w ⟨rfl, rfl⟩
  go_wp2_with fail
  refine (unhide H1 _).mono ?_
  rintro r w1 ⟨rfl, hb1⟩
  by_cases hz : i1 b = 0
  · have hq : (((restA b (i1 b)).size : Int) == (b.size : Int)) = true := by rw [HZ1.out]; simp [hz]
    obtain ⟨e1, e2⟩ := HOB.out (by simp [good, bad1, hz])
    have HE1 := hide e1
    have HE2 := hide e2
    clear hz e1 e2
    go_wp2
    go_ret2
    exact ⟨by rw [HE1.out, HE2.out]; rfl, hb1⟩
  have hq : (((restA b (i1 b)).size : Int) == (b.size : Int)) = false := beq_eq_false_iff_ne.2 (by have := HZ1.out; omega)
  have HB1 : Hid (bad1 b = false) := by show bad1 b = false; simp [bad1, hz]
  clear hz
  go_wp2_with fail
  refine (unhide H2 _).mono ?_
  rintro r w1 ⟨rfl, rfl⟩
  go_upto_if 29 with fail
  go_cut [6, 7, 8] (fun x _ _ w' => x = .string (restA b (i2 b)) ∧ bad2 b = false ∧ Below w.heap.size w w')
  case first =>
    cases hd : dotB b with
    | true =>
      have hlt := dot_lt b hd
      have hTe := H3.out hd
      have HC := hide (H4.out hd)
      have HDt := hide hd
      clear hd
      subst hTe
      go_wp2_with fail
      refine (unhide HC _).mono ?_
      rintro r w2 ⟨rfl, hb2⟩
      have hb12 := hb1.trans (hb2.mono hb1.size)
      by_cases h2 : i2 b = i1 b + 1
      · have hq2 : (((restA b (i2 b)).size : Int) == ((restA b (i1 b + 1)).size : Int)) = true := by rw [h2]; simp
        obtain ⟨e1, e2⟩ := HOB.out (by simp [good, bad2, h2, HDt.out])
        have HE1 := hide e1
        have HE2 := hide e2
        clear h2 e1 e2
        go_wp2
        go_ret2
        exact ⟨by rw [HE1.out, HE2.out]; rfl, hb12⟩
      · have hge : i1 b + 1 ≤ i2 b := by unfold i2; rw [if_pos HDt.out]; exact sc_ge _ _
        have hq2 : (((restA b (i2 b)).size : Int) == ((restA b (i1 b + 1)).size : Int)) = false := beq_eq_false_iff_ne.2 (by rw [HZ2.out, HZF.out]; omega)
        have HB2 : Hid (bad2 b = false) := by show bad2 b = false; simp [bad2, h2]
        clear h2
        go_wp2
        go_meet
        exact ⟨rfl, HB2.out, hb12⟩
    | false =>
      have HI : Hid (i2 b = i1 b) := by show i2 b = _; unfold i2; rw [if_neg (by simp [hd])]
      have HB2 : Hid (bad2 b = false) := by show bad2 b = false; simp [bad2, hd]
      clear hd
      go_wp2
      go_meet
      exact ⟨by rw [HI.out], HB2.out, hb1⟩
  case rest =>
    obtain ⟨rfl, hb2, hbel⟩ := hcut
    have HB2 := hide hb2
    clear hb2 hb1
    go_upto_region 10 with fail
    go_cut [48] (fun d w' => d = .bool (eB b) ∧ Below w.heap.size w w')
    case first =>
      rcases Nat.lt_or_ge (i2 b) b.size with h1 | h1
      · have h0 : 0 < (restA b (i2 b)).size := by rw [HZ2.out]; omega
        have hne := nonempty_of (restA b (i2 b)) h0
        have HD : Hid (eB b = ((((restA b (i2 b))[0].toNat : Int) == 101) || (((restA b (i2 b))[0].toNat : Int) == 69))) := by
          show eB b = _
          unfold eB
          rw [← at_zero (restA b (i2 b)) b (i2 b) rfl, at_eq _ 0 h0 101, at_eq _ 0 h0 69]; rfl
        cases h101 : (((restA b (i2 b))[0].toNat : Int) == 101) with
        | true =>
          rw [h101] at HD
          go_wp2
          go_meet
          exact ⟨by rw [HD.out]; rfl, hbel⟩
        | false =>
          rw [h101] at HD
          go_wp2
          go_meet
          exact ⟨by rw [HD.out]; rfl, hbel⟩
      · have hne := empty_of (restA b (i2 b)) (by rw [HZ2.out]; omega)
        have HD : Hid (eB b = false) := by
          show (at? b (i2 b) == some 101 || at? b (i2 b) == some 69) = false
          rw [at_ge b _ h1]; rfl
        go_wp2
        go_meet
        exact ⟨by rw [HD.out], hbel⟩
    case rest =>
      obtain ⟨rfl, hbel⟩ := hcut
      go_upto_if 48 with fail
      go_cut [6, 9] (fun x _ w' => x = .string (restA b (i3 b)) ∧ bad3 b = false ∧ Below w.heap.size w w')
      case first =>
        cases he : eB b with
        | false =>
          have HI : Hid (i3 b = i2 b) := by show i3 b = _; unfold i3; rw [if_neg (by simp [he])]
          have HB3 : Hid (bad3 b = false) := by show bad3 b = false; simp [bad3, he]
          clear he
          go_wp2
          go_meet
          exact ⟨by rw [HI.out], HB3.out, hbel⟩
        | true =>
          have hlt := e_lt b he
          have HC := hide (H5.out he)
          have hge : j3 b ≤ i3 b := by unfold i3; rw [if_pos he]; exact sc_ge _ _
          have hjle := j3_le b he
          have h1e : 1 ≤ (restA b (i2 b)).size := by rw [HZ2.out]; omega
          have hext := tail_rest b (i2 b)
          have HEt := hide he
          clear he
          go_upto_region 12 with fail
          have HZE := hide (restA_size b (i2 b + 1))
          go_cut [62] (fun d w' => d = .bool (sgB b) ∧ Below w.heap.size w w')
          case first =>
            rcases Nat.lt_or_ge (i2 b + 1) b.size with h1 | h1
            · have h0 : 0 < (restA b (i2 b + 1)).size := by rw [HZE.out]; omega
              have hne := nonempty_of (restA b (i2 b + 1)) h0
              have HD : Hid (sgB b = ((((restA b (i2 b + 1))[0].toNat : Int) == 43) || (((restA b (i2 b + 1))[0].toNat : Int) == 45))) := by
                show sgB b = _
                unfold sgB
                rw [← at_zero (restA b (i2 b + 1)) b (i2 b + 1) rfl, at_eq _ 0 h0 43, at_eq _ 0 h0 45]; rfl
              cases h43 : (((restA b (i2 b + 1))[0].toNat : Int) == 43) with
              | true =>
                rw [h43] at HD
                go_wp2
                go_meet
                exact ⟨by rw [HD.out]; rfl, hbel⟩
              | false =>
                rw [h43] at HD
                go_wp2
                go_meet
                exact ⟨by rw [HD.out]; rfl, hbel⟩
            · have hne := empty_of (restA b (i2 b + 1)) (by rw [HZE.out]; omega)
              have HD : Hid (sgB b = false) := by
                show (at? b (i2 b + 1) == some 43 || at? b (i2 b + 1) == some 45) = false
                rw [at_ge b _ h1]; rfl
              go_wp2
              go_meet
              exact ⟨by rw [HD.out], hbel⟩
          case rest =>
            obtain ⟨rfl, hbel⟩ := hcut
            go_upto_if 62 with fail
            go_cut [9] (fun x w' => x = .string (restA b (j3 b)) ∧ Below w.heap.size w w')
            case first =>
              cases hg : sgB b with
              | true =>
                have hlt2 := sg_lt b hg
                have h1e2 : 1 ≤ (restA b (i2 b + 1)).size := by rw [HZE.out]; omega
                have hext2 := tail_rest b (i2 b + 1)
                have HJ : Hid (j3 b = i2 b + 1 + 1) := by show j3 b = _; unfold j3; rw [if_pos hg]
                clear hg
                go_wp2
                go_meet
                exact ⟨by rw [HJ.out], hbel⟩
              | false =>
                have HJ : Hid (j3 b = i2 b + 1) := by show j3 b = _; unfold j3; rw [if_neg (by simp [hg])]
                clear hg
                go_wp2
                go_meet
                exact ⟨by rw [HJ.out], hbel⟩
            case rest =>
              obtain ⟨rfl, hbel⟩ := hcut
              go_wp2_with fail
              refine (unhide HC _).mono ?_
              rintro r w5 ⟨rfl, hb5⟩
              have hb25 := hbel.trans (hb5.mono hbel.size)
              clear hbel hb5
              by_cases hq3 : i3 b = j3 b
              · have hq3' : (((restA b (i3 b)).size : Int) == ((restA b (j3 b)).size : Int)) = true := by rw [hq3]; simp
                obtain ⟨e1, e2⟩ := HOB.out (by simp [good, bad3, hq3, HEt.out])
                have HE1 := hide e1
                have HE2 := hide e2
                clear hq3 e1 e2
                go_wp2
                go_ret2
                exact ⟨by rw [HE1.out, HE2.out]; rfl, hb25⟩
              · have hq3' : (((restA b (i3 b)).size : Int) == ((restA b (j3 b)).size : Int)) = false := beq_eq_false_iff_ne.2 (by rw [HZ3.out, HZJ.out]; omega)
                have HB3 : Hid (bad3 b = false) := by show bad3 b = false; simp [bad3, hq3]
                clear hq3
                go_wp2
                go_meet
                exact ⟨rfl, HB3.out, hb25⟩
      case rest =>
        obtain ⟨rfl, hb3, hbel⟩ := hcut
        have HB3 := hide hb3
        clear hb3
        by_cases hend : i3 b = b.size
        · have hem := empty_of (restA b (i3 b)) (by rw [HZ3.out, hend]; omega)
          have HG : Hid (good true b = true) := by show good true b = true; simp [good, hend, HB1.out, HB2.out, HB3.out]
          have HPl := hide (unhide H6 hend)
          have HNg := hide (H7.out hend)
          have HOB2 : Hid (outB b = okB b) := by show outB b = _; unfold outB; rw [HG.out]; rfl
          have HOS : Hid (outS neg b = if okB b then (if neg then negS (valS b) else valS b) else ⟨#[]⟩) := by show outS neg b = _; unfold outS; rw [HOB2.out]
          clear hend
          have HV0 : Hid (okB b = false → valS b = ⟨#[]⟩) := fun h => by unfold valS modelS; unfold okB at h; rw [h]; exact rfl
          generalize valS b = V at *
          generalize okB b = ok at *
          go_wp2_with fail
          refine (unhide HPl _).mono ?_
          rintro r w6 ⟨rfl, hb6⟩
          have hb26 := hbel.trans (hb6.mono hbel.size)
          clear hbel hb6
          cases ok with
          | false =>
            have hv := HV0.out rfl
            subst hv
            go_wp2
            go_ret2
            exact ⟨by rw [HOS.out, HOB2.out]; rfl, hb26⟩
          | true =>
            cases neg with
            | false =>
              go_wp2
              go_ret2
              exact ⟨by rw [HOS.out, HOB2.out]; rfl, hb26⟩
            | true =>
              go_wp2_with fail
              refine (unhide HNg _).mono ?_
              rintro r w7 ⟨rfl, rfl⟩
              go_wp2
              go_ret2
              exact ⟨by rw [HOS.out, HOB2.out]; rfl, hb26⟩
        · have hem := nonempty_of (restA b (i3 b)) (by rw [HZ3.out]; omega)
          obtain ⟨e1, e2⟩ := HOB.out (by simp [good, hend])
          have HE1 := hide e1
          have HE2 := hide e2
          clear hend e1 e2
          go_wp2
          go_ret2
          exact ⟨by rw [HE1.out, HE2.out]; rfl, hbel⟩
end Go.Proofs.Qxb6606170aDoor
