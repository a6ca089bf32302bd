import Derived.Test.Qxb6605543aDoorWalks1
import Derived.Test.Qxb6605543aDoorPlain
namespace Go.Proofs.Qxb6605543aDoor
open Go.RowKit

theorem drop_cons (c : ByteArray) (k : Nat) (h : k < c.size) : c.data.toList.drop k = c[k] :: c.data.toList.drop (k + 1) :=
  List.drop_eq_getElem_cons (by simpa using h)
theorem drop_all (c : ByteArray) (k : Nat) (h : c.size ≤ k) : c.data.toList.drop k = [] :=
  List.drop_eq_nil_of_le (by simpa using h)
theorem u8_eq (c d : UInt8) (h : (c.toNat : Int) = (d.toNat : Int)) : c = d := UInt8.toNat_inj.1 (by omega)

/-- What is left to read from k on decides. -/
def Cat (o : Bool) (c : ByteArray) (k : Nat) : Bool := Cut.content o (c.data.toList.drop k)
theorem Cat_hit (o : Bool) (c : ByteArray) (k : Nat) (h : k < c.size) (h1 : (c[k].toNat : Int) = 34) : Cat o c k = false := by
  unfold Cat; rw [drop_cons c k h, u8_eq c[k] 34 h1, Cut.content_hit]
theorem Cat_esc (o : Bool) (c : ByteArray) (k : Nat) (h : k + 1 < c.size) (h1 : (c[k].toNat : Int) = 92) : Cat o c k = Cat o c (k + 2) := by
  unfold Cat; rw [drop_cons c k (by omega), u8_eq c[k] 92 h1, drop_cons c (k + 1) h, Cut.content_esc]
theorem Cat_esc0 (o : Bool) (c : ByteArray) (k : Nat) (h : k < c.size) (h' : c.size ≤ k + 1) (h1 : (c[k].toNat : Int) = 92) : Cat o c k = o := by
  unfold Cat; rw [drop_cons c k (by omega), u8_eq c[k] 92 h1, drop_all c (k + 1) h', Cut.content_esc0]
theorem Cat_other (o : Bool) (c : ByteArray) (k : Nat) (h : k < c.size) (h1 : ¬ (c[k].toNat : Int) = 34) (h2 : ¬ (c[k].toNat : Int) = 92) : Cat o c k = Cat o c (k + 1) := by
  unfold Cat; rw [drop_cons c k h, Cut.content_other o _ _ (fun e => h1 (by rw [e]; rfl)) (fun e => h2 (by rw [e]; rfl))]
theorem Cat_end (o : Bool) (c : ByteArray) (k : Nat) (h : c.size ≤ k) : Cat o c k = true := by
  unfold Cat; rw [drop_all c k h]; rfl

set_option maxHeartbeats 1000000 in
theorem content_any (c : ByteArray) (o : Bool) (w : World) (hc : c.size ≤ 1048576) :
    Calls Tryd.prog 19 #[.string c, .bool o] w fun e w' => e = .returned (.bool (Cat o c 0)) ∧ w' = w := by
  go_enter Tryd.func19, Tryd.ntmps19
  go_wp2
  go_loop [5] (fun i => ∃ k : Nat, k ≤ c.size ∧ i = .int .i64 k ∧ Cat o c 0 = Cat o c k) (fun i => c.size - (intOf i).toNat)
  case atStart => exact ⟨0, Nat.zero_le _, rfl, rfl⟩
  case round =>
    obtain ⟨k, hk, rfl, hcat⟩ := hrel
    have HC : Hid (Cat o c 0 = Cat o c k) := hcat
    clear hcat
    by_cases hlt : k < c.size
    · by_cases hq : (c[k].toNat : Int) = 34
      · have hq' : ((c[k].toNat : Int) == 34) = true := by simp [hq]
        have HX : Hid (Cat o c 0 = false) := HC.out.trans (Cat_hit o c k hlt hq)
        clear hq
        go_wp2
        go_ret
        exact ⟨by rw [HX.out]; rfl, rfl⟩
      · have hq' : ((c[k].toNat : Int) == 34) = false := by simp [hq]
        by_cases hr : (c[k].toNat : Int) = 92
        · have hr' : ((c[k].toNat : Int) == 92) = true := by simp [hr]
          by_cases h2 : k + 1 < c.size
          · have HX : Hid (Cat o c 0 = Cat o c (k + 2)) := HC.out.trans (Cat_esc o c k h2 hr)
            clear hq hr
            go_wp2
            go_round
            case rel => exact ⟨k + 2, by omega, by go_num, HX.out⟩
            case measure => simp [intOf]; omega
          · have HX : Hid (Cat o c 0 = o) := HC.out.trans (Cat_esc0 o c k hlt (by omega) hr)
            clear hq hr
            go_wp2
            go_ret
            exact ⟨by rw [HX.out]; rfl, rfl⟩
        · have hr' : ((c[k].toNat : Int) == 92) = false := by simp [hr]
          have HX : Hid (Cat o c 0 = Cat o c (k + 1)) := HC.out.trans (Cat_other o c k hlt hq hr)
          clear hq hr
          go_wp2
          go_round
          case rel => exact ⟨k + 1, by omega, by go_num, HX.out⟩
          case measure => simp [intOf]; omega
    · have HX : Hid (Cat o c 0 = true) := HC.out.trans (Cat_end o c k (by omega))
      go_wp2
      go_ret
      exact ⟨by rw [HX.out]; rfl, rfl⟩

set_option maxHeartbeats 400000 in
theorem zz1_any (s : ByteArray) (w : World) (hs : s.size ≤ maxLen) :
    Calls Tryd.prog 6 #[.string s] w fun e w' => Says (s.size ≤ 1048576) w e w' := by
  unfold maxLen at hs
  go_enter Tryd.func6, Tryd.ntmps6
  go_wp2
  all_goals go_ret
  · exact Says.no rfl rfl
  · exact Says.yes rfl rfl (by omega)
end Go.Proofs.Qxb6605543aDoor
