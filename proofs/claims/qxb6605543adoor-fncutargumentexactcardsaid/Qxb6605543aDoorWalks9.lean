import Derived.Test.Qxb6605543aDoorWalks8
import Derived.Deep.RegionWith
namespace Go.Proofs.Qxb6605543aDoor
open Go.RowKit

/-- What is asked of strings.IndexByte at a comma, and of strings.TrimRight at blanks. -/
def Commas (s : ByteArray) (z : Int) : Prop := ∀ w : World, Calls Tryd.prog 25 #[.string s, .int .u8 44] w fun e w' => e = .returned (.int .i64 z) ∧ w' = w
def Trims (u v : ByteArray) : Prop := ∀ w : World, Calls Tryd.prog 26 #[.string u, .string ⟨#[32, 9]⟩] w fun e w' => e = .returned (.string v) ∧ Below w.heap.size w w'

set_option maxHeartbeats 1000000 in
theorem cutt_any (s v : ByteArray) (w : World) (z : Int) (k : Nat) (_hs : s.size ≤ 4194304) (hq : ∀ h0 : 0 < s.size, ¬ (s[0].toNat : Int) = 34)
    (hI : Commas s z) (hz : z < 0 ∧ k = s.size ∨ z = (k : Int) ∧ k ≤ s.size) (hT : Trims (s.extract 0 k) v) :
    Calls Tryd.prog 18 #[.string s] w fun e w' => e = .returned (.tuple #[.string v, .string (s.extract k s.size)]) ∧ Below w.heap.size w w' := by
  have HP := hide (hp_no s w hq)
  have HI := hide hI
  have HT := hide hT
  clear hq hI hT
  go_enter Tryd.func18, Tryd.ntmps18
  go_wp2_with fail
  refine (unhide HP).mono ?_
  rintro e w ⟨rfl, rfl⟩
  go_wp2_with fail
  refine (unhide HI _).mono ?_
  rintro e w ⟨rfl, rfl⟩
  rcases hz with ⟨hz1, hz2⟩ | ⟨hz1, hz2⟩
  · subst hz2
    have e0 : s.extract 0 s.size = s := by
      rw [Lib.extract_eq, List.drop_zero, Nat.sub_zero, List.take_of_length_le (by rw [← Lib.size_eq]; exact Nat.le_refl _), Lib.mk_data]
    rw [e0] at HT
    clear e0
    go_wp2_with fail
    go_region_with (go_at_call 26; refine (unhide HT _).mono ?_; rintro e w1 ⟨rfl, hb⟩)
    go_wp2
    rw [show s.extract s.size s.size = ByteArray.empty by simp]
    go_ret2
    exact ⟨rfl, (Below.refl w.heap.size w).drew.trans hb⟩
  · subst hz1
    go_wp2_with fail
    go_region_with (go_at_call 26; refine (unhide HT _).mono ?_; rintro e w1 ⟨rfl, hb⟩)
    go_wp2
    go_ret2
    exact ⟨rfl, (Below.refl w.heap.size w).drew.trans hb⟩
end Go.Proofs.Qxb6605543aDoor
