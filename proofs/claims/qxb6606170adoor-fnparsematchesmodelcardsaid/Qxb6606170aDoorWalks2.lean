import Derived.Test.Qxb6606170aDoorWalks1
import Derived.Deep.DeepCutAuto
namespace Go.Proofs.Qxb6606170aDoor
open Go.RowKit

/-- The byte at a place, or none. -/
def at? (s : ByteArray) (k : Nat) : Option UInt8 := s.data.toList[k]?
theorem at_lt (s : ByteArray) (k : Nat) (h : k < s.size) : at? s k = some s[k] := by
  have := drop_cons s k h
  have e : (s.data.toList.drop k)[0]? = some s[k] := by rw [this]; rfl
  unfold at?
  simpa using e
theorem at_ge (s : ByteArray) (k : Nat) (h : s.size ≤ k) : at? s k = none := by
  unfold at?
  exact List.getElem?_eq_none (by rw [← size_len]; exact h)

def i1 (s : ByteArray) : Nat := sc s 0
def dotB (s : ByteArray) : Bool := at? s (i1 s) == some 46
def i2 (s : ByteArray) : Nat := if dotB s then sc s (i1 s + 1) else i1 s
def fracA (s : ByteArray) : ByteArray := if dotB s then s.extract (i1 s + 1) (i2 s) else ⟨#[]⟩
def eB (s : ByteArray) : Bool := at? s (i2 s) == some 101 || at? s (i2 s) == some 69
def sgB (s : ByteArray) : Bool := at? s (i2 s + 1) == some 43 || at? s (i2 s + 1) == some 45
def negB (s : ByteArray) : Bool := eB s && at? s (i2 s + 1) == some 45
def j3 (s : ByteArray) : Nat := if sgB s then i2 s + 2 else i2 s + 1
def i3 (s : ByteArray) : Nat := if eB s then sc s (j3 s) else i2 s
def expA (s : ByteArray) : ByteArray := if eB s then s.extract (j3 s) (i3 s) else ⟨#[]⟩
/-- The three places where the strict reading asks for a digit. -/
def bad1 (s : ByteArray) : Bool := i1 s == 0
def bad2 (s : ByteArray) : Bool := dotB s && i2 s == i1 s + 1
def bad3 (s : ByteArray) : Bool := eB s && i3 s == j3 s
def good (strict : Bool) (s : ByteArray) : Bool := !(strict && bad1 s) && !(strict && bad2 s) && !(strict && bad3 s) && i3 s == s.size

def Split (strict : Bool) (s : ByteArray) (w : World) (e : Ending) (w' : World) : Prop :=
  w' = w ∧ if good strict s then e = .returned (.tuple #[.string (s.extract 0 (i1 s)), .string (fracA s), .bool (negB s), .string (expA s), .bool true])
    else e = .returned (.tuple #[.string ⟨#[]⟩, .string ⟨#[]⟩, .bool false, .string ⟨#[]⟩, .bool false])

theorem i1_le (s : ByteArray) : i1 s ≤ s.size := sc_le s 0 (Nat.zero_le _)
theorem i2_le (s : ByteArray) : i2 s ≤ s.size := by
  unfold i2
  split
  · rename_i h
    refine sc_le s _ ?_
    unfold dotB at h
    rcases Nat.lt_or_ge (i1 s) s.size with h1 | h1
    · exact h1
    · rw [at_ge s _ h1] at h; cases h
  · exact i1_le s

theorem dot_lt (s : ByteArray) (h : dotB s = true) : i1 s < s.size := by
  unfold dotB at h
  rcases Nat.lt_or_ge (i1 s) s.size with h1 | h1
  · exact h1
  · rw [at_ge s _ h1] at h; cases h
theorem e_lt (s : ByteArray) (h : eB s = true) : i2 s < s.size := by
  unfold eB at h
  rcases Nat.lt_or_ge (i2 s) s.size with h1 | h1
  · exact h1
  · rw [at_ge s _ h1] at h; cases h
theorem sg_lt (s : ByteArray) (h : sgB s = true) : i2 s + 1 < s.size := by
  unfold sgB at h
  rcases Nat.lt_or_ge (i2 s + 1) s.size with h1 | h1
  · exact h1
  · rw [at_ge s _ h1] at h; cases h
theorem j3_le (s : ByteArray) (he : eB s = true) : j3 s ≤ s.size := by
  have h2 := e_lt s he
  unfold j3
  split
  · rename_i h; have := sg_lt s h; omega
  · omega
theorem i3_le (s : ByteArray) : i3 s ≤ s.size := by
  unfold i3
  split
  · rename_i h; exact sc_le s _ (j3_le s h)
  · exact i2_le s
theorem at_eq (s : ByteArray) (k : Nat) (h : k < s.size) (c : UInt8) : (at? s k == some c) = ((s[k].toNat : Int) == (c.toNat : Int)) := by
  rw [at_lt s k h, Bool.eq_iff_iff]
  simp only [beq_iff_eq, Option.some.injEq]
  exact ⟨fun e => by rw [e], fun e => u8_eq _ _ e⟩

set_option maxHeartbeats 2000000 in
set_option maxRecDepth 100000 in
theorem split_loose (s : ByteArray) (w : World) (hs : s.size ≤ 1048576) :
    Calls Tryd.prog 8 #[.string s, .bool false] w fun e w' => Split false s w e w' := by
  have hc1 : ∀ w, Calls Tryd.prog 16 #[.string s, .int .i64 0] w fun e w' => e = .returned (.int .i64 (i1 s : Int)) ∧ w' = w := fun w => scan_any s 0 w hs (Nat.zero_le _)
  have hc2 : dotB s = true → ∀ w, Calls Tryd.prog 16 #[.string s, .int .i64 ((i1 s : Int) + 1)] w fun e w' => e = .returned (.int .i64 (i2 s : Int)) ∧ w' = w := fun h w => by
    have := scan_any s (i1 s + 1) w hs (dot_lt s h)
    unfold i2; rw [if_pos h]; exact this
  have hc3 : eB s = true → ∀ w, Calls Tryd.prog 16 #[.string s, .int .i64 (j3 s : Int)] w fun e w' => e = .returned (.int .i64 (i3 s : Int)) ∧ w' = w := fun h w => by
    have := scan_any s (j3 s) w hs (j3_le s h)
    unfold i3; rw [if_pos h]; exact this
  have hle1 := i1_le s
  have hle2 := i2_le s
  have hle3 := i3_le s
  have H1 := hide hc1
  have H2 := hide hc2
  have H3 := hide hc3
  clear hc1 hc2 hc3
  go_enter Tryd.func8, Tryd.ntmps8
  go_wp2_with fail
  refine (unhide H1 _).mono ?_
  rintro e w ⟨rfl, rfl⟩
  go_upto_region 6 with fail
  go_cut [35] (fun d w' => d = .bool (dotB s) ∧ w' = w)
  case first =>
    rcases Nat.lt_or_ge (i1 s) s.size with h1 | h1
    · have HD : Hid (dotB s = ((s[i1 s].toNat : Int) == 46)) := at_eq s _ h1 46
      go_wp2
      go_meet
      exact ⟨by rw [HD.out], rfl⟩
    · have HD : Hid (dotB s = false) := by
        show (at? s (i1 s) == some 46) = false
        rw [at_ge s _ h1]; rfl
      go_wp2
      go_meet
      exact ⟨by rw [HD.out], rfl⟩
  case rest =>
    obtain ⟨rfl, rfl⟩ := hcut
    go_upto_if 35 with fail
    go_cut [9, 11, 12] (fun i f _ w' => i = .int .i64 (i2 s : Int) ∧ f = .string (fracA s) ∧ w' = wc)
    case first =>
      cases hd : dotB s with
      | true =>
        have hlt := dot_lt s hd
        have hge : i1 s + 1 ≤ i2 s := by unfold i2; rw [if_pos hd]; exact sc_ge _ _
        have HF : Hid (fracA s = s.extract (i1 s + 1) (i2 s)) := by show fracA s = _; unfold fracA; rw [if_pos hd]
        have HC := hide (unhide H2 hd)
        clear hd
        go_wp2_with fail
        refine (unhide HC _).mono ?_
        rintro e wc ⟨rfl, rfl⟩
        go_wp2
        go_meet
        exact ⟨rfl, by rw [HF.out], rfl⟩
      | false =>
        have HF : Hid (fracA s = ⟨#[]⟩) := by show fracA s = _; unfold fracA; rw [if_neg (by simp [hd])]
        have HI : Hid (i2 s = i1 s) := by show i2 s = _; unfold i2; rw [if_neg (by simp [hd])]
        clear hd
        go_wp2
        go_meet
        exact ⟨by rw [HI.out], by rw [HF.out], rfl⟩
    case rest =>
      obtain ⟨rfl, rfl, rfl⟩ := hcut
      go_upto_region 14 with fail
      go_cut [66] (fun d w' => d = .bool (eB s) ∧ w' = wc)
      case first =>
        rcases Nat.lt_or_ge (i2 s) s.size with h1 | h1
        · have HD : Hid (eB s = (((s[i2 s].toNat : Int) == 101) || ((s[i2 s].toNat : Int) == 69))) := by
            show eB s = _
            unfold eB
            rw [at_eq s _ h1 101, at_eq s _ h1 69]; rfl
          cases h101 : ((s[i2 s].toNat : Int) == 101) with
          | true =>
            rw [h101] at HD
            go_wp2
            go_meet
            exact ⟨by rw [HD.out]; rfl, rfl⟩
          | false =>
            rw [h101] at HD
            go_wp2
            go_meet
            exact ⟨by rw [HD.out]; rfl, rfl⟩
        · have HD : Hid (eB s = false) := by
            show (at? s (i2 s) == some 101 || at? s (i2 s) == some 69) = false
            rw [at_ge s _ h1]; rfl
          go_wp2
          go_meet
          exact ⟨by rw [HD.out], rfl⟩
      case rest =>
        obtain ⟨rfl, rfl⟩ := hcut
        go_upto_if 66 with fail
        go_cut [9, 13, 14, 15] (fun i n d _ w' => i = .int .i64 (i3 s : Int) ∧ n = .bool (negB s) ∧ d = .string (expA s) ∧ w' = wc)
        case first =>
          cases he : eB s with
          | true =>
            have hlt := e_lt s he
            have HC := hide (unhide H3 he)
            have HN : Hid (negB s = (at? s (i2 s + 1) == some 45)) := by show negB s = _; unfold negB; rw [he]; rfl
            have HE : Hid (expA s = s.extract (j3 s) (i3 s)) := by show expA s = _; unfold expA; rw [if_pos he]
            have hge : j3 s ≤ i3 s := by unfold i3; rw [if_pos he]; exact sc_ge _ _
            clear he
            go_upto_region 16 with fail
            go_cut [84] (fun d w' => d = .bool (sgB s) ∧ w' = wc)
            case first =>
              rcases Nat.lt_or_ge (i2 s + 1) s.size with h1 | h1
              · have HD : Hid (sgB s = (((s[i2 s + 1].toNat : Int) == 43) || ((s[i2 s + 1].toNat : Int) == 45))) := by
                  show sgB s = _
                  unfold sgB
                  rw [at_eq s _ h1 43, at_eq s _ h1 45]; rfl
                cases h43 : ((s[i2 s + 1].toNat : Int) == 43) with
                | true =>
                  rw [h43] at HD
                  go_wp2
                  go_meet
                  exact ⟨by rw [HD.out]; rfl, rfl⟩
                | false =>
                  rw [h43] at HD
                  go_wp2
                  go_meet
                  exact ⟨by rw [HD.out]; rfl, rfl⟩
              · have HD : Hid (sgB s = false) := by
                  show (at? s (i2 s + 1) == some 43 || at? s (i2 s + 1) == some 45) = false
                  rw [at_ge s _ h1]; rfl
                go_wp2
                go_meet
                exact ⟨by rw [HD.out], rfl⟩
            case rest =>
              obtain ⟨rfl, rfl⟩ := hcut
              go_upto_if 84 with fail
              go_cut [9, 13] (fun i n w' => i = .int .i64 (j3 s : Int) ∧ n = .bool (negB s) ∧ w' = wc)
              case first =>
                cases hg : sgB s with
                | true =>
                  have hlt2 := sg_lt s hg
                  have HJ : Hid ((j3 s : Int) = (i2 s : Int) + 1 + 1) := by show (j3 s : Int) = _; unfold j3; rw [if_pos hg]; omega
                  have HN2 : Hid (negB s = ((s[i2 s + 1].toNat : Int) == 45)) := by show negB s = _; rw [HN.out, at_eq s _ hlt2 45]; rfl
                  clear hg
                  go_wp2
                  go_meet
                  exact ⟨by rw [HJ.out], by rw [HN2.out], rfl⟩
                | false =>
                  have HJ : Hid ((j3 s : Int) = (i2 s : Int) + 1) := by show (j3 s : Int) = _; unfold j3; rw [if_neg (by simp [hg])]; omega
                  have HN2 : Hid (negB s = false) := by
                    show negB s = false
                    rw [HN.out]
                    unfold sgB at hg
                    exact (Bool.or_eq_false_iff.1 hg).2
                  clear hg
                  go_wp2
                  go_meet
                  exact ⟨by rw [HJ.out], by rw [HN2.out], rfl⟩
              case rest =>
                obtain ⟨rfl, rfl, rfl⟩ := hcut
                go_wp2_with fail
                refine (unhide HC _).mono ?_
                rintro e wc ⟨rfl, rfl⟩
                go_wp2
                go_meet
                exact ⟨rfl, rfl, by rw [HE.out], rfl⟩
          | false =>
            have HE : Hid (expA s = ⟨#[]⟩) := by show expA s = _; unfold expA; rw [if_neg (by simp [he])]
            have HI : Hid (i3 s = i2 s) := by show i3 s = _; unfold i3; rw [if_neg (by simp [he])]
            have HN : Hid (negB s = false) := by show negB s = _; unfold negB; rw [he]; rfl
            clear he
            go_wp2
            go_meet
            exact ⟨by rw [HI.out], by rw [HN.out], by rw [HE.out], rfl⟩
        case rest =>
          obtain ⟨rfl, rfl, rfl, rfl⟩ := hcut
          by_cases hend : i3 s = s.size
          · have hne : ((i3 s : Int) != (s.size : Int)) = false := by simp [hend]
            have HG : Hid (good false s = true) := by show good false s = true; simp [good, hend]
            clear hend
            go_wp2
            refine bodyPost_ret (v := .tuple #[.string (s.extract 0 (i1 s)), .string (fracA s), .bool (negB s), .string (expA s), .bool true]) (by simp [results, Tryd.results8, go_sem]) rfl ⟨rfl, ?_⟩
            rw [if_pos HG.out]
          · have hne : ((i3 s : Int) != (s.size : Int)) = true := by simp [bne]; omega
            have HG : Hid (¬ good false s = true) := by show ¬ good false s = true; simp [good, hend]
            clear hend
            go_wp2
            refine bodyPost_ret (v := .tuple #[.string ⟨#[]⟩, .string ⟨#[]⟩, .bool false, .string ⟨#[]⟩, .bool false]) (by simp [results, Tryd.results8, go_sem]) rfl ⟨rfl, ?_⟩
            rw [if_neg HG.out]
end Go.Proofs.Qxb6606170aDoor
