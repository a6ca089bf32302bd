import Derived.Test.Qxb6605543aDoorProg
import Derived.WalkKit
import Derived.WalkLawsBesides
import Derived.WalkSpells
namespace Go.Proofs.Qxb6605543aDoor
open Go.RowKit

theorem hide {p : Prop} (h : p) : Hid p := h
theorem unhide {p : Prop} (h : Hid p) : p := h.out

/-- A call that only reckons: it answers a bool, and where it says yes 'p' holds. -/
def Says (p : Prop) (w : World) (e : Ending) (w' : World) : Prop := ∃ b : Bool, e = .returned (.bool b) ∧ w' = w ∧ (b = true → p)
theorem Says.no {p : Prop} {w w' : World} {e : Ending} (he : e = .returned (.bool false)) (hw : w' = w) : Says p w e w' := ⟨false, he, hw, fun h => by cases h⟩
theorem Says.yes {p : Prop} {w w' : World} {e : Ending} (he : e = .returned (.bool true)) (hw : w' = w) (h : p) : Says p w e w' := ⟨true, he, hw, fun _ => h⟩

set_option maxHeartbeats 400000 in
theorem zz3_any (x t a : ByteArray) (w : World) (hx : x.size ≤ maxLen) (ht : t.size ≤ maxLen) (ha : a.size ≤ maxLen) :
    Calls Tryd.prog 10 #[.string x, .string t, .string a] w fun e w' => Says (x.size + t.size + a.size ≤ 1048576) w e w' := by
  unfold maxLen at hx ht ha
  go_enter Tryd.func10, Tryd.ntmps10
  go_wp2
  all_goals go_ret
  · exact Says.no rfl rfl
  · exact Says.no rfl rfl
  · exact Says.no rfl rfl
  · exact Says.no rfl rfl
  · exact Says.no rfl rfl
  · exact Says.yes rfl rfl (by omega)

/-- What 'caTokenLike' has seen when it says yes. -/
structure Tok (a : ByteArray) : Prop where
  head : ∀ h : 0 < a.size, ¬ ((a[0].toNat : Int) = 34)
  comma : ∀ (j : Nat) (h : j < a.size), ¬ ((a[j].toNat : Int) = 44)
  last : ∀ h : a.size - 1 < a.size, ¬ ((a[a.size - 1].toNat : Int) = 32) ∧ ¬ ((a[a.size - 1].toNat : Int) = 9)

set_option maxHeartbeats 400000 in
theorem tokenLike_any (a : ByteArray) (w : World) (ha : a.size ≤ maxLen) :
    Calls Tryd.prog 12 #[.string a] w fun e w' => Says (Tok a) w e w' := by
  unfold maxLen at ha
  rcases Nat.eq_zero_or_pos a.size with h0 | h0
  · have h0' : a.size ≤ 0 := by omega
    clear h0
    go_enter Tryd.func12, Tryd.ntmps12
    go_wp2
    go_loop [3] (fun i => ∃ k : Nat, k ≤ a.size ∧ i = .int .i64 k) (fun i => a.size - (intOf i).toNat)
    case atStart => exact ⟨0, Nat.zero_le _, rfl⟩
    case round =>
      obtain ⟨k, hk, rfl⟩ := hrel
      go_wp2
      go_ret
      exact Says.yes rfl rfl ⟨fun h => by omega, fun j h => by omega, fun h => by omega⟩
  · by_cases hq : (a[0].toNat : Int) = 34
    · have hq' : ((a[0].toNat : Int) == 34) = true := by simp [hq]
      clear hq
      go_enter Tryd.func12, Tryd.ntmps12
      go_wp2
      go_ret
      exact Says.no rfl rfl
    · have hq' : ((a[0].toNat : Int) == 34) = false := by simp [hq]
      have HQ : Hid (¬ (a[0].toNat : Int) = 34) := hq
      clear hq
      go_enter Tryd.func12, Tryd.ntmps12
      go_wp2
      go_loop [3] (fun i => ∃ k : Nat, k ≤ a.size ∧ i = .int .i64 k ∧ ∀ (j : Nat) (h : j < a.size), j < k → ¬ ((a[j].toNat : Int) = 44)) (fun i => a.size - (intOf i).toNat)
      case atStart => exact ⟨0, Nat.zero_le _, rfl, fun j _ h => by omega⟩
      case round =>
        obtain ⟨k, hk, rfl, hno⟩ := hrel
        have HN : Hid (∀ (j : Nat) (h : j < a.size), j < k → ¬ ((a[j].toNat : Int) = 44)) := hno
        clear hno
        by_cases hlt : k < a.size
        · by_cases hc : (a[k].toNat : Int) = 44
          · have hc' : ((a[k].toNat : Int) == 44) = true := by simp [hc]
            clear hc
            go_wp2
            go_ret
            exact Says.no rfl rfl
          · have hc' : ((a[k].toNat : Int) == 44) = false := by simp [hc]
            have HC : Hid (¬ (a[k].toNat : Int) = 44) := hc
            clear hc
            go_wp2
            go_round
            case rel => exact ⟨k + 1, by omega, by go_num, fun j h hj => by
              by_cases e : j = k
              · subst e; exact HC.out
              · exact HN.out j h (by omega)⟩
            case measure => simp [intOf]; omega
        · have hk' : k = a.size := by omega
          have hl : a.size - 1 < a.size := by omega
          by_cases h32 : (a[a.size - 1].toNat : Int) = 32
          · have h32' : ((a[a.size - 1].toNat : Int) == 32) = true := by simp [h32]
            clear h32
            go_wp2
            go_ret
            exact Says.no rfl rfl
          · have h32' : ((a[a.size - 1].toNat : Int) == 32) = false := by simp [h32]
            by_cases h9 : (a[a.size - 1].toNat : Int) = 9
            · have h9' : ((a[a.size - 1].toNat : Int) == 9) = true := by simp [h9]
              clear h9
              go_wp2
              go_ret
              exact Says.no rfl rfl
            · have h9' : ((a[a.size - 1].toNat : Int) == 9) = false := by simp [h9]
              have T : Hid (Tok a) := ⟨fun _ => HQ.out, fun j h => HN.out j h (by omega), fun _ => ⟨h32, h9⟩⟩
              clear h32 h9
              go_wp2
              go_ret
              exact Says.yes rfl rfl T.out
end Go.Proofs.Qxb6605543aDoor
