import Derived.Test.Qxb6606170aDoorProg
import Derived.Test.Qxb6606170aDoorPlain
import Derived.WalkKit
import Derived.WalkLawsBesides
import Derived.WalkSpells
import Derived.Lib.Strings
namespace Go.Proofs.Qxb6606170aDoor
open Go.RowKit

theorem hide {p : Prop} (h : p) : Hid p := h
theorem unhide {p : Prop} (h : Hid p) : p := h.out

/-- A call that only reckons: it answers a bool, and where it says yes 'p' holds. -/
def Says (p : Prop) (w : World) (e : Ending) (w' : World) : Prop := ∃ b : Bool, e = .returned (.bool b) ∧ w' = w ∧ (b = true → p)
theorem Says.no {p : Prop} {w w' : World} {e : Ending} (he : e = .returned (.bool false)) (hw : w' = w) : Says p w e w' := ⟨false, he, hw, fun h => by cases h⟩
theorem Says.yes {p : Prop} {w w' : World} {e : Ending} (he : e = .returned (.bool true)) (hw : w' = w) (h : p) : Says p w e w' := ⟨true, he, hw, fun _ => h⟩

theorem drop_cons (c : ByteArray) (k : Nat) (h : k < c.size) : c.data.toList.drop k = c[k] :: c.data.toList.drop (k + 1) :=
  List.drop_eq_getElem_cons (by simpa using h)
theorem drop_all (c : ByteArray) (k : Nat) (h : c.size ≤ k) : c.data.toList.drop k = [] :=
  List.drop_eq_nil_of_le (by simpa using h)
theorem u8_eq (c d : UInt8) (h : (c.toNat : Int) = (d.toNat : Int)) : c = d := UInt8.toNat_inj.1 (by omega)
theorem size_len (s : ByteArray) : s.size = s.data.toList.length := Lib.size_eq s

set_option maxHeartbeats 400000 in
theorem zz_any (f : FuncId) (hf : f = 7 ∨ f = 12) (s : ByteArray) (w : World) (hs : s.size ≤ maxLen) :
    Calls Tryd.prog f #[.string s] w fun e w' => Says (s.size ≤ 1048576) w e w' := by
  unfold maxLen at hs
  rcases hf with rfl | rfl
  · go_enter Tryd.func7, Tryd.ntmps7
    go_wp2
    all_goals go_ret
    · exact Says.no rfl rfl
    · exact Says.yes rfl rfl (by omega)
  · go_enter Tryd.func12, Tryd.ntmps12
    go_wp2
    all_goals go_ret
    · exact Says.no rfl rfl
    · exact Says.yes rfl rfl (by omega)

set_option maxHeartbeats 400000 in
theorem isDigit_any (c : UInt8) (w : World) : Calls Tryd.prog 28 #[.int .u8 (c.toNat : Int)] w fun e w' => e = .returned (.bool (Dec.isD c)) ∧ w' = w := by
  by_cases h1 : 48 ≤ (c.toNat : Int)
  · by_cases h2 : (c.toNat : Int) ≤ 57
    · have HX : Hid (Dec.isD c = true) := by
        show Dec.isD c = true
        simp [Dec.isD]; omega
      go_enter Tryd.func28, Tryd.ntmps28
      go_wp2
      go_ret
      exact ⟨by rw [HX.out]; rfl, rfl⟩
    · have HX : Hid (Dec.isD c = false) := by
        show Dec.isD c = false
        simp [Dec.isD]; omega
      go_enter Tryd.func28, Tryd.ntmps28
      go_wp2
      go_ret
      exact ⟨by rw [HX.out]; rfl, rfl⟩
  · have HX : Hid (Dec.isD c = false) := by
      show Dec.isD c = false
      simp [Dec.isD]; omega
    go_enter Tryd.func28, Tryd.ntmps28
    go_wp2
    go_ret
    exact ⟨by rw [HX.out]; rfl, rfl⟩

/-- Where the digits from i on end. -/
def sc (s : ByteArray) (i : Nat) : Nat := i + (Dec.dig (s.data.toList.drop i)).length
theorem sc_step (s : ByteArray) (i : Nat) (h : i < s.size) (hd : Dec.isD s[i] = true) : sc s i = sc s (i + 1) := by
  unfold sc Dec.dig
  rw [drop_cons s i h, List.takeWhile_cons, if_pos hd, List.length_cons]; omega
theorem sc_stop (s : ByteArray) (i : Nat) (h : i < s.size) (hd : Dec.isD s[i] = false) : sc s i = i := by
  unfold sc Dec.dig
  rw [drop_cons s i h, List.takeWhile_cons, if_neg (by simp [hd])]; rfl
theorem sc_end (s : ByteArray) (i : Nat) (h : s.size ≤ i) : sc s i = i := by
  unfold sc Dec.dig
  rw [drop_all s i h]; rfl
theorem sc_ge (s : ByteArray) (i : Nat) : i ≤ sc s i := Nat.le_add_right _ _
theorem sc_le (s : ByteArray) (i : Nat) (h : i ≤ s.size) : sc s i ≤ s.size := by
  unfold sc Dec.dig
  have h1 : (List.takeWhile Dec.isD (s.data.toList.drop i)).length ≤ (s.data.toList.drop i).length := (List.takeWhile_sublist _).length_le
  rw [List.length_drop, ← size_len] at h1
  omega

set_option maxHeartbeats 1000000 in
theorem scan_any (s : ByteArray) (i : Nat) (w : World) (hs : s.size ≤ 1048576) (hi : i ≤ s.size) :
    Calls Tryd.prog 16 #[.string s, .int .i64 (i : Int)] w fun e w' => e = .returned (.int .i64 (sc s i : Int)) ∧ w' = w := by
  go_enter Tryd.func16, Tryd.ntmps16
  go_wp2
  go_loop [1] (fun t => ∃ k : Nat, k ≤ s.size ∧ t = .int .i64 k ∧ sc s i = sc s k) (fun t => s.size - (intOf t).toNat)
  case atStart => exact ⟨i, hi, rfl, rfl⟩
  case round =>
    obtain ⟨k, hk, rfl, hsc⟩ := hrel
    have HC : Hid (sc s i = sc s k) := hsc
    clear hsc
    by_cases hlt : k < s.size
    · have hc := isDigit_any s[k] w
      cases hd : Dec.isD s[k] with
      | true =>
        rw [hd] at hc
        have HX : Hid (sc s i = sc s (k + 1)) := HC.out.trans (sc_step s k hlt hd)
        clear hd
        go_wp2_with (go_at_call 28; refine hc.mono ?_; rintro e w1 ⟨rfl, rfl⟩)
        go_round
        case rel => exact ⟨k + 1, by omega, by go_num, HX.out⟩
        case measure => simp [intOf]; omega
      | false =>
        rw [hd] at hc
        have HX : Hid (sc s i = k) := HC.out.trans (sc_stop s k hlt hd)
        clear hd
        go_wp2_with (go_at_call 28; refine hc.mono ?_; rintro e w1 ⟨rfl, rfl⟩)
        go_ret
        exact ⟨by rw [HX.out]; rfl, rfl⟩
    · have HX : Hid (sc s i = k) := HC.out.trans (sc_end s k (by omega))
      go_wp2
      go_ret
      exact ⟨by rw [HX.out]; rfl, rfl⟩
end Go.Proofs.Qxb6606170aDoor
