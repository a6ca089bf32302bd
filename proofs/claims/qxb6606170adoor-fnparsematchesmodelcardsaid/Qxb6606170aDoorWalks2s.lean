import Derived.Test.Qxb6606170aDoorWalks2
namespace Go.Proofs.Qxb6606170aDoor
open Go.RowKit

set_option maxHeartbeats 2000000 in
set_option maxRecDepth 100000 in
theorem split_strict (s : ByteArray) (w : World) (hs : s.size ≤ 1048576) :
    Calls Tryd.prog 8 #[.string s, .bool true] w fun e w' => Split true s w e w' := by
  have hc1 : ∀ w, Calls Tryd.prog 16 #[.string s, .int .i64 0] w fun e w' => e = .returned (.int .i64 (i1 s : Int)) ∧ w' = w := fun w => scan_any s 0 w hs (Nat.zero_le _)
  have hc2 : dotB s = true → ∀ w, Calls Tryd.prog 16 #[.string s, .int .i64 ((i1 s : Int) + 1)] w fun e w' => e = .returned (.int .i64 (i2 s : Int)) ∧ w' = w := fun h w => by
    have := scan_any s (i1 s + 1) w hs (dot_lt s h)
    unfold i2; rw [if_pos h]; exact this
  have hc3 : eB s = true → ∀ w, Calls Tryd.prog 16 #[.string s, .int .i64 (j3 s : Int)] w fun e w' => e = .returned (.int .i64 (i3 s : Int)) ∧ w' = w := fun h w => by
    have := scan_any s (j3 s) w hs (j3_le s h)
    unfold i3; rw [if_pos h]; exact this
  have hle1 := i1_le s
  have hle2 := i2_le s
  have hle3 := i3_le s
  have H1 := hide hc1
  have H2 := hide hc2
  have H3 := hide hc3
  clear hc1 hc2 hc3
  go_enter Tryd.func8, Tryd.ntmps8
  go_wp2_with fail
  refine (unhide H1 _).mono ?_
  rintro e w ⟨rfl, rfl⟩
  by_cases hz : i1 s = 0
  · have hz' : ((i1 s : Int) == 0) = true := by simp [hz]
    have HG : Hid (¬ good true s = true) := by show ¬ good true s = true; simp [good, bad1, hz]
    clear hz
    go_wp2
    refine bodyPost_ret (v := .tuple #[.string ⟨#[]⟩, .string ⟨#[]⟩, .bool false, .string ⟨#[]⟩, .bool false]) (by simp [results, Tryd.results8, go_sem]) rfl ⟨rfl, ?_⟩
    rw [if_neg HG.out]
  have hz' : ((i1 s : Int) == 0) = false := beq_eq_false_iff_ne.2 (by omega)
  have HB1 : Hid (bad1 s = false) := by show bad1 s = false; simp [bad1, hz]
  clear hz
  go_upto_region 6 with fail
  go_cut [35] (fun d w' => d = .bool (dotB s) ∧ w' = w)
  case first =>
    rcases Nat.lt_or_ge (i1 s) s.size with h1 | h1
    · have HD : Hid (dotB s = ((s[i1 s].toNat : Int) == 46)) := at_eq s _ h1 46
      go_wp2
      go_meet
      exact ⟨by rw [HD.out], rfl⟩
    · have HD : Hid (dotB s = false) := by
        show (at? s (i1 s) == some 46) = false
        rw [at_ge s _ h1]; rfl
      go_wp2
      go_meet
      exact ⟨by rw [HD.out], rfl⟩
  case rest =>
    obtain ⟨rfl, rfl⟩ := hcut
    go_upto_if 35 with fail
    go_cut [9, 11, 12] (fun i f _ w' => i = .int .i64 (i2 s : Int) ∧ f = .string (fracA s) ∧ bad2 s = false ∧ w' = wc)
    case first =>
      cases hd : dotB s with
      | true =>
        have hlt := dot_lt s hd
        have hge : i1 s + 1 ≤ i2 s := by unfold i2; rw [if_pos hd]; exact sc_ge _ _
        have HF : Hid (fracA s = s.extract (i1 s + 1) (i2 s)) := by show fracA s = _; unfold fracA; rw [if_pos hd]
        have HC := hide (unhide H2 hd)
        have HDt := hide hd
        clear hd
        go_wp2_with fail
        refine (unhide HC _).mono ?_
        rintro e wc ⟨rfl, rfl⟩
        by_cases hq : i2 s = i1 s + 1
        · have hq' : ((i2 s : Int) == (i1 s : Int) + 1) = true := by simp [hq]
          have HG : Hid (¬ good true s = true) := by show ¬ good true s = true; simp [good, bad2, hq, HDt.out]
          clear hq
          go_wp2
          refine bodyPost_ret (v := .tuple #[.string ⟨#[]⟩, .string ⟨#[]⟩, .bool false, .string ⟨#[]⟩, .bool false]) (by simp [results, Tryd.results8, go_sem]) rfl ⟨rfl, ?_⟩
          rw [if_neg HG.out]
        · have hq' : ((i2 s : Int) == (i1 s : Int) + 1) = false := beq_eq_false_iff_ne.2 (by omega)
          have HB2 : Hid (bad2 s = false) := by show bad2 s = false; simp [bad2, hq]
          clear hq
          go_wp2
          go_meet
          exact ⟨rfl, by rw [HF.out], HB2.out, rfl⟩
      | false =>
        have HF : Hid (fracA s = ⟨#[]⟩) := by show fracA s = _; unfold fracA; rw [if_neg (by simp [hd])]
        have HI : Hid (i2 s = i1 s) := by show i2 s = _; unfold i2; rw [if_neg (by simp [hd])]
        have HB2 : Hid (bad2 s = false) := by show bad2 s = false; simp [bad2, hd]
        clear hd
        go_wp2
        go_meet
        exact ⟨by rw [HI.out], by rw [HF.out], HB2.out, rfl⟩
    case rest =>
      obtain ⟨rfl, rfl, hb2, rfl⟩ := hcut
      have HB2 := hide hb2
      clear hb2
      go_upto_region 14 with fail
      go_cut [66] (fun d w' => d = .bool (eB s) ∧ w' = wc)
      case first =>
        rcases Nat.lt_or_ge (i2 s) s.size with h1 | h1
        · have HD : Hid (eB s = (((s[i2 s].toNat : Int) == 101) || ((s[i2 s].toNat : Int) == 69))) := by
            show eB s = _
            unfold eB
            rw [at_eq s _ h1 101, at_eq s _ h1 69]; rfl
          cases h101 : ((s[i2 s].toNat : Int) == 101) with
          | true =>
            rw [h101] at HD
            go_wp2
            go_meet
            exact ⟨by rw [HD.out]; rfl, rfl⟩
          | false =>
            rw [h101] at HD
            go_wp2
            go_meet
            exact ⟨by rw [HD.out]; rfl, rfl⟩
        · have HD : Hid (eB s = false) := by
            show (at? s (i2 s) == some 101 || at? s (i2 s) == some 69) = false
            rw [at_ge s _ h1]; rfl
          go_wp2
          go_meet
          exact ⟨by rw [HD.out], rfl⟩
      case rest =>
        obtain ⟨rfl, rfl⟩ := hcut
        go_upto_if 66 with fail
        go_cut [9, 13, 14, 15] (fun i n d _ w' => i = .int .i64 (i3 s : Int) ∧ n = .bool (negB s) ∧ d = .string (expA s) ∧ bad3 s = false ∧ w' = wc)
        case first =>
          cases he : eB s with
          | true =>
            have hlt := e_lt s he
            have HC := hide (unhide H3 he)
            have HN : Hid (negB s = (at? s (i2 s + 1) == some 45)) := by show negB s = _; unfold negB; rw [he]; rfl
            have HE : Hid (expA s = s.extract (j3 s) (i3 s)) := by show expA s = _; unfold expA; rw [if_pos he]
            have hge : j3 s ≤ i3 s := by unfold i3; rw [if_pos he]; exact sc_ge _ _
            have HEt := hide he
            clear he
            go_upto_region 16 with fail
            go_cut [84] (fun d w' => d = .bool (sgB s) ∧ w' = wc)
            case first =>
              rcases Nat.lt_or_ge (i2 s + 1) s.size with h1 | h1
              · have HD : Hid (sgB s = (((s[i2 s + 1].toNat : Int) == 43) || ((s[i2 s + 1].toNat : Int) == 45))) := by
                  show sgB s = _
                  unfold sgB
                  rw [at_eq s _ h1 43, at_eq s _ h1 45]; rfl
                cases h43 : ((s[i2 s + 1].toNat : Int) == 43) with
                | true =>
                  rw [h43] at HD
                  go_wp2
                  go_meet
                  exact ⟨by rw [HD.out]; rfl, rfl⟩
                | false =>
                  rw [h43] at HD
                  go_wp2
                  go_meet
                  exact ⟨by rw [HD.out]; rfl, rfl⟩
              · have HD : Hid (sgB s = false) := by
                  show (at? s (i2 s + 1) == some 43 || at? s (i2 s + 1) == some 45) = false
                  rw [at_ge s _ h1]; rfl
                go_wp2
                go_meet
                exact ⟨by rw [HD.out], rfl⟩
            case rest =>
              obtain ⟨rfl, rfl⟩ := hcut
              go_upto_if 84 with fail
              go_cut [9, 13] (fun i n w' => i = .int .i64 (j3 s : Int) ∧ n = .bool (negB s) ∧ w' = wc)
              case first =>
                cases hg : sgB s with
                | true =>
                  have hlt2 := sg_lt s hg
                  have HJ : Hid ((j3 s : Int) = (i2 s : Int) + 1 + 1) := by show (j3 s : Int) = _; unfold j3; rw [if_pos hg]; omega
                  have HN2 : Hid (negB s = ((s[i2 s + 1].toNat : Int) == 45)) := by show negB s = _; rw [HN.out, at_eq s _ hlt2 45]; rfl
                  clear hg
                  go_wp2
                  go_meet
                  exact ⟨by rw [HJ.out], by rw [HN2.out], rfl⟩
                | false =>
                  have HJ : Hid ((j3 s : Int) = (i2 s : Int) + 1) := by show (j3 s : Int) = _; unfold j3; rw [if_neg (by simp [hg])]; omega
                  have HN2 : Hid (negB s = false) := by
                    show negB s = false
                    rw [HN.out]
                    unfold sgB at hg
                    exact (Bool.or_eq_false_iff.1 hg).2
                  clear hg
                  go_wp2
                  go_meet
                  exact ⟨by rw [HJ.out], by rw [HN2.out], rfl⟩
              case rest =>
                obtain ⟨rfl, rfl, rfl⟩ := hcut
                go_wp2_with fail
                refine (unhide HC _).mono ?_
                rintro e wc ⟨rfl, rfl⟩
                by_cases hq : i3 s = j3 s
                · have hq' : ((i3 s : Int) == (j3 s : Int)) = true := by simp [hq]
                  have HG : Hid (¬ good true s = true) := by show ¬ good true s = true; simp [good, bad3, hq, HEt.out]
                  clear hq
                  go_wp2
                  refine bodyPost_ret (v := .tuple #[.string ⟨#[]⟩, .string ⟨#[]⟩, .bool false, .string ⟨#[]⟩, .bool false]) (by simp [results, Tryd.results8, go_sem]) rfl ⟨rfl, ?_⟩
                  rw [if_neg HG.out]
                · have hq' : ((i3 s : Int) == (j3 s : Int)) = false := beq_eq_false_iff_ne.2 (by omega)
                  have HB3 : Hid (bad3 s = false) := by show bad3 s = false; simp [bad3, hq]
                  clear hq
                  go_wp2
                  go_meet
                  exact ⟨rfl, rfl, by rw [HE.out], HB3.out, rfl⟩
          | false =>
            have HE : Hid (expA s = ⟨#[]⟩) := by show expA s = _; unfold expA; rw [if_neg (by simp [he])]
            have HI : Hid (i3 s = i2 s) := by show i3 s = _; unfold i3; rw [if_neg (by simp [he])]
            have HN : Hid (negB s = false) := by show negB s = _; unfold negB; rw [he]; rfl
            have HB3 : Hid (bad3 s = false) := by show bad3 s = false; simp [bad3, he]
            clear he
            go_wp2
            go_meet
            exact ⟨by rw [HI.out], by rw [HN.out], by rw [HE.out], HB3.out, rfl⟩
        case rest =>
          obtain ⟨rfl, rfl, rfl, hb3, rfl⟩ := hcut
          have HB3 := hide hb3
          clear hb3
          by_cases hend : i3 s = s.size
          · have hne : ((i3 s : Int) != (s.size : Int)) = false := by simp [hend]
            have HG : Hid (good true s = true) := by show good true s = true; simp [good, hend, HB1.out, HB2.out, HB3.out]
            clear hend
            go_wp2
            refine bodyPost_ret (v := .tuple #[.string (s.extract 0 (i1 s)), .string (fracA s), .bool (negB s), .string (expA s), .bool true]) (by simp [results, Tryd.results8, go_sem]) rfl ⟨rfl, ?_⟩
            rw [if_pos HG.out]
          · have hne : ((i3 s : Int) != (s.size : Int)) = true := by simp [bne]; omega
            have HG : Hid (¬ good true s = true) := by show ¬ good true s = true; simp [good, hend]
            clear hend
            go_wp2
            refine bodyPost_ret (v := .tuple #[.string ⟨#[]⟩, .string ⟨#[]⟩, .bool false, .string ⟨#[]⟩, .bool false]) (by simp [results, Tryd.results8, go_sem]) rfl ⟨rfl, ?_⟩
            rw [if_neg HG.out]
end Go.Proofs.Qxb6606170aDoor
