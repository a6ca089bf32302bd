import Derived.Test.Qxb6605543aDoorWalks4
namespace Go.Proofs.Qxb6605543aDoor
open Go.RowKit

set_option maxHeartbeats 1000000 in
theorem quotedSplit_found (s arg rest : ByteArray) (w : World) (hs : s.size ≤ 1048576) (h2 : arg.size + 2 ≤ s.size)
    (ha : ((s.extract 1 (1 + arg.size)).toList == arg.toList) = true) (hq : ((s[1 + arg.size].toNat : Int) == 34) = true) (hr : ((s.extract (2 + arg.size) s.size).toList == rest.toList) = true)
    (hcat : Cat false arg 0 = true) :
    Calls Tryd.prog 9 #[.string s, .string arg, .string rest] w fun e w' => e = .returned (.bool true) ∧ w' = w := by
  have hc := content_any arg false w (by omega)
  rw [hcat] at hc
  clear hcat
  go_enter Tryd.func9, Tryd.ntmps9
  go_wp2_with fail
  refine hc.mono ?_
  rintro e w1 ⟨rfl, rfl⟩
  go_wp2
  go_ret
  exact ⟨rfl, rfl⟩

set_option maxHeartbeats 1000000 in
theorem quotedSplit_open (s arg rest : ByteArray) (w : World) (hs : s.size ≤ 1048576) (h2 : arg.size + 1 = s.size) (hr : rest.size = 0)
    (ha : (arg.toList == (s.extract 1 s.size).toList) = true) (hcat : Cat true arg 0 = true) :
    Calls Tryd.prog 9 #[.string s, .string arg, .string rest] w fun e w' => e = .returned (.bool true) ∧ w' = w := by
  have hc := content_any arg true w (by omega)
  rw [hcat] at hc
  clear hcat
  have h21 : s.size ≤ arg.size + 1 := by omega
  have h22 : arg.size + 1 ≤ s.size := by omega
  have hr' : ((rest.size : Int) == 0) = true := by simp [hr]
  clear h2 hr
  go_enter Tryd.func9, Tryd.ntmps9
  go_wp2_with fail
  refine hc.mono ?_
  rintro e w1 ⟨rfl, rfl⟩
  go_wp2
  go_ret
  exact ⟨rfl, rfl⟩
end Go.Proofs.Qxb6605543aDoor
