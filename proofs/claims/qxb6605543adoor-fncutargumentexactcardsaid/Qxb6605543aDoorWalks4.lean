import Derived.Test.Qxb6605543aDoorWalks3
namespace Go.Proofs.Qxb6605543aDoor
open Go.RowKit

/-- What 'caTokenSplit' looks for. -/
structure Split (s arg rest : ByteArray) : Prop where
  small : s.size ≤ 1048576
  le : rest.size ≤ s.size
  tail : ((s.extract (s.size - rest.size) s.size).toList == rest.toList) = true
  first : ∀ h : 0 < rest.size, ((rest[0].toNat : Int) == 44) = true
  comma : ∀ (j : Nat) (h : j < s.size), j < s.size - rest.size → ((s[j].toNat : Int) == 44) = false
  fits : arg.size ≤ s.size - rest.size
  head : ((s.extract 0 arg.size).toList == arg.toList) = true
  blank : ∀ (j : Nat) (h : j < s.size), arg.size ≤ j → j < s.size - rest.size → (s[j].toNat : Int) = 32 ∨ (s[j].toNat : Int) = 9
  last : ∀ h : arg.size - 1 < arg.size, ((arg[arg.size - 1].toNat : Int) == 32) = false ∧ ((arg[arg.size - 1].toNat : Int) == 9) = false

set_option maxHeartbeats 2000000 in
theorem tokenSplit_true (s arg rest : ByteArray) (w : World) (H : Split s arg rest) :
    Calls Tryd.prog 8 #[.string s, .string arg, .string rest] w fun e w' => e = .returned (.bool true) ∧ w' = w := by
  have hs := H.small
  have hr := H.le
  have ht := H.tail
  have hf := H.fits
  have hh := H.head
  have hd : decide (s.size < rest.size) = false := by simp; omega
  have hd2 : decide (s.size - rest.size < arg.size) = false := by simp; omega
  by_cases hr0 : 0 < rest.size
  · have h1 := H.first hr0
    have h1' : ((rest[0].toNat : Int) != 44) = false := by simp [bne, h1]
    clear h1
    go_enter Tryd.func8, Tryd.ntmps8
    go_wp2
    go_loop [8] (fun i => ∃ k : Nat, k ≤ s.size - rest.size ∧ i = .int .i64 k) (fun i => s.size - (intOf i).toNat)
    case atStart => exact ⟨0, Nat.zero_le _, rfl⟩
    case round =>
      obtain ⟨k, hk, rfl⟩ := hrel
      by_cases hlt : k < s.size - rest.size
      · have hc := H.comma k (by omega) hlt
        go_wp2
        go_round
        case rel => exact ⟨k + 1, by omega, by go_num⟩
        case measure => simp [intOf]; omega
      · go_wp2
        go_loop [9] (fun i => ∃ k : Nat, k ≤ s.size - rest.size ∧ arg.size ≤ k ∧ i = .int .i64 k) (fun i => s.size - (intOf i).toNat)
        case atStart => exact ⟨arg.size, by omega, Nat.le_refl _, rfl⟩
        case round =>
          obtain ⟨m, hm, hma, rfl⟩ := hrel
          by_cases hlt2 : m < s.size - rest.size
          · rcases H.blank m (by omega) hma hlt2 with hb | hb
            · have hb1 : ((s[m].toNat : Int) != 32) = false := by simp [hb]
              clear hb
              go_wp2
              go_round
              case rel => exact ⟨m + 1, by omega, by omega, by go_num⟩
              case measure => simp [intOf]; omega
            · have hb1 : ((s[m].toNat : Int) != 32) = true := by simp [hb]
              have hb2 : ((s[m].toNat : Int) != 9) = false := by simp [hb]
              clear hb
              go_wp2
              go_round
              case rel => exact ⟨m + 1, by omega, by omega, by go_num⟩
              case measure => simp [intOf]; omega
          · by_cases ha0 : 0 < arg.size
            · obtain ⟨l1, l2⟩ := H.last (by omega)
              go_wp2
              go_ret
              exact ⟨rfl, rfl⟩
            · go_wp2
              go_ret
              exact ⟨rfl, rfl⟩
  · go_enter Tryd.func8, Tryd.ntmps8
    go_wp2
    go_loop [8] (fun i => ∃ k : Nat, k ≤ s.size - rest.size ∧ i = .int .i64 k) (fun i => s.size - (intOf i).toNat)
    case atStart => exact ⟨0, Nat.zero_le _, rfl⟩
    case round =>
      obtain ⟨k, hk, rfl⟩ := hrel
      by_cases hlt : k < s.size - rest.size
      · have hc := H.comma k (by omega) hlt
        go_wp2
        go_round
        case rel => exact ⟨k + 1, by omega, by go_num⟩
        case measure => simp [intOf]; omega
      · go_wp2
        go_loop [9] (fun i => ∃ k : Nat, k ≤ s.size - rest.size ∧ arg.size ≤ k ∧ i = .int .i64 k) (fun i => s.size - (intOf i).toNat)
        case atStart => exact ⟨arg.size, by omega, Nat.le_refl _, rfl⟩
        case round =>
          obtain ⟨m, hm, hma, rfl⟩ := hrel
          by_cases hlt2 : m < s.size - rest.size
          · rcases H.blank m (by omega) hma hlt2 with hb | hb
            · have hb1 : ((s[m].toNat : Int) != 32) = false := by simp [hb]
              clear hb
              go_wp2
              go_round
              case rel => exact ⟨m + 1, by omega, by omega, by go_num⟩
              case measure => simp [intOf]; omega
            · have hb1 : ((s[m].toNat : Int) != 32) = true := by simp [hb]
              have hb2 : ((s[m].toNat : Int) != 9) = false := by simp [hb]
              clear hb
              go_wp2
              go_round
              case rel => exact ⟨m + 1, by omega, by omega, by go_num⟩
              case measure => simp [intOf]; omega
          · by_cases ha0 : 0 < arg.size
            · obtain ⟨l1, l2⟩ := H.last (by omega)
              go_wp2
              go_ret
              exact ⟨rfl, rfl⟩
            · go_wp2
              go_ret
              exact ⟨rfl, rfl⟩
end Go.Proofs.Qxb6605543aDoor
