import Derived.Test.Qxb6605543aDoorWalks3
import Derived.Lib.Strings
namespace Go.Proofs.Qxb6605543aDoor
open Go.RowKit

theorem take_one (s : ByteArray) (h0 : 0 < s.size) : (s.extract 0 1).toList = [s[0]] := by
  rw [Lib.extract_toList]
  have := drop_cons s 0 h0
  simp at this ⊢
  rw [this]; rfl

set_option maxHeartbeats 1000000 in
theorem hp_yes (s : ByteArray) (w : World) (h0 : 0 < s.size) (hq : (s[0].toNat : Int) = 34) :
    Calls Tryd.prog 24 #[.string s, .string ⟨#[34]⟩] w fun e w' => e = .returned (.bool true) ∧ w' = w := by
  have h : ((s.extract 0 1).toList == [34]) = true := by
    rw [take_one s h0, u8_eq s[0] 34 hq]; rfl
  clear hq
  go_enter Tryd.func24, Tryd.ntmps24
  go_wp2
  go_ret
  exact ⟨rfl, rfl⟩

set_option maxHeartbeats 1000000 in
theorem hp_no (s : ByteArray) (w : World) (hq : ∀ h0 : 0 < s.size, ¬ (s[0].toNat : Int) = 34) :
    Calls Tryd.prog 24 #[.string s, .string ⟨#[34]⟩] w fun e w' => e = .returned (.bool false) ∧ w' = w := by
  by_cases h0 : 0 < s.size
  · have h : ((s.extract 0 1).toList == [34]) = false := by
      rw [take_one s h0]
      have : s[0] ≠ 34 := fun e => hq h0 (by rw [e]; rfl)
      simp [this]
    clear hq
    go_enter Tryd.func24, Tryd.ntmps24
    go_wp2
    go_ret
    exact ⟨rfl, rfl⟩
  · clear hq
    go_enter Tryd.func24, Tryd.ntmps24
    go_wp2
    go_ret
    exact ⟨rfl, rfl⟩

/-- Where the closing quote lies, from k on. -/
def QE (s : ByteArray) (k : Nat) : Option Nat := (Cut.qend (s.data.toList.drop k)).map (· + k)
theorem QE_hit (s : ByteArray) (k : Nat) (h : k < s.size) (h1 : (s[k].toNat : Int) = 34) : QE s k = some k := by
  unfold QE; rw [drop_cons s k h, u8_eq s[k] 34 h1, Cut.qend_hit]; simp
theorem QE_esc (s : ByteArray) (k : Nat) (h : k < s.size) (h1 : (s[k].toNat : Int) = 92) : QE s k = QE s (k + 2) := by
  unfold QE
  rw [drop_cons s k h, u8_eq s[k] 92 h1]
  by_cases h2 : k + 1 < s.size
  · rw [drop_cons s (k + 1) h2, Cut.qend_esc, Option.map_map]
    congr 1; funext x; simp only [Function.comp]; omega
  · rw [drop_all s (k + 1) (by omega), drop_all s (k + 2) (by omega), Cut.qend_esc0]; rfl
theorem QE_other (s : ByteArray) (k : Nat) (h : k < s.size) (h1 : ¬ (s[k].toNat : Int) = 34) (h2 : ¬ (s[k].toNat : Int) = 92) : QE s k = QE s (k + 1) := by
  unfold QE
  rw [drop_cons s k h, Cut.qend_other _ _ (fun e => h1 (by rw [e]; rfl)) (fun e => h2 (by rw [e]; rfl)), Option.map_map]
  congr 1; funext x; simp only [Function.comp]; omega
theorem QE_end (s : ByteArray) (k : Nat) (h : s.size ≤ k) : QE s k = none := by
  unfold QE; rw [drop_all s k h]; rfl

def qArg (s : ByteArray) : ByteArray := match QE s 1 with
  | some p => s.extract 1 p
  | none => s.extract 1 s.size
def qRest (s : ByteArray) : ByteArray := match QE s 1 with
  | some p => s.extract (p + 1) s.size
  | none => ⟨#[]⟩

set_option maxHeartbeats 1000000 in
theorem cutq_any (s : ByteArray) (w : World) (hs : s.size ≤ 4194304) (h0 : 0 < s.size) (hq : (s[0].toNat : Int) = 34) :
    Calls Tryd.prog 18 #[.string s] w fun e w' => e = .returned (.tuple #[.string (qArg s), .string (qRest s)]) ∧ Below w.heap.size w w' := by
  have HP := hide (hp_yes s w h0 hq)
  clear hq
  go_enter Tryd.func18, Tryd.ntmps18
  go_wp2_with fail
  refine (unhide HP).mono ?_
  rintro e w ⟨rfl, rfl⟩
  go_wp2
  go_loop [5] (fun i => ∃ k : Nat, 1 ≤ k ∧ k ≤ s.size + 1 ∧ i = .int .i64 k ∧ QE s 1 = QE s k) (fun i => s.size + 1 - (intOf i).toNat)
  case atStart => exact ⟨1, by omega, by omega, rfl, rfl⟩
  case round =>
    obtain ⟨k, hk1, hk, rfl, hqe⟩ := hrel
    have HC : Hid (QE s 1 = QE s k) := hqe
    clear hqe
    by_cases hlt : k < s.size
    · by_cases hr : (s[k].toNat : Int) = 92
      · have hr' : ((s[k].toNat : Int) == 92) = true := by simp [hr]
        have HX : Hid (QE s 1 = QE s (k + 2)) := HC.out.trans (QE_esc s k hlt hr)
        clear hr
        go_wp2
        go_round
        case rel => exact ⟨k + 2, by omega, by omega, by go_num, HX.out⟩
        case measure => simp [intOf]; omega
      · have hr' : ((s[k].toNat : Int) == 92) = false := by simp [hr]
        by_cases hq : (s[k].toNat : Int) = 34
        · have hq' : ((s[k].toNat : Int) == 34) = true := by simp [hq]
          have HX : Hid (QE s 1 = some k) := HC.out.trans (QE_hit s k hlt hq)
          have HA : Hid (qArg s = s.extract 1 k) := by unfold qArg; rw [HX.out]; exact rfl
          have HR : Hid (qRest s = s.extract (k + 1) s.size) := by unfold qRest; rw [HX.out]; exact rfl
          clear hr hq
          go_wp2
          go_region
          go_wp2
          go_ret2
          exact ⟨by rw [HA.out, HR.out]; rfl, (Below.refl _ _).drew⟩
        · have hq' : ((s[k].toNat : Int) == 34) = false := by simp [hq]
          have HX : Hid (QE s 1 = QE s (k + 1)) := HC.out.trans (QE_other s k hlt hq hr)
          clear hq hr
          go_wp2
          go_round
          case rel => exact ⟨k + 1, by omega, by omega, by go_num, HX.out⟩
          case measure => simp [intOf]; omega
    · have HX : Hid (QE s 1 = none) := HC.out.trans (QE_end s k (by omega))
      have HA : Hid (qArg s = s.extract 1 s.size) := by unfold qArg; rw [HX.out]; exact rfl
      have HR : Hid (qRest s = ⟨#[]⟩) := by unfold qRest; rw [HX.out]; exact rfl
      go_wp2
      go_ret2
      exact ⟨by rw [HA.out, HR.out]; rfl, Below.refl _ _⟩
end Go.Proofs.Qxb6605543aDoor
