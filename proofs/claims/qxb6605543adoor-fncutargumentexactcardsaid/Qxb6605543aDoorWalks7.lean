import Derived.Test.Qxb6605543aDoorWalks5
import Derived.Test.Qxb6605543aDoorWalks6
namespace Go.Proofs.Qxb6605543aDoor
open Go.RowKit

/-- A call of three strings that answers true and leaves the world. -/
def Yes3 (f : FuncId) (s arg rest : ByteArray) : Prop := ∀ w : World, Calls Tryd.prog f #[.string s, .string arg, .string rest] w fun e w' => e = .returned (.bool true) ∧ w' = w

set_option maxHeartbeats 1000000 in
theorem exact_any (s arg rest : ByteArray) (w : World) (hs : s.size ≤ maxLen) (h1 : s.size ≤ 1048576 → Cuts s arg rest)
    (h2 : s.size ≤ 1048576 → (∀ h : 0 < s.size, ((s[0].toNat : Int) == 34) = false) → Yes3 8 s arg rest)
    (h3 : s.size ≤ 1048576 → ∀ h : 0 < s.size, ((s[0].toNat : Int) == 34) = true → Yes3 9 s arg rest) :
    Calls Tryd.prog 3 #[.string s] w fun e w' => e = .returned (.bool true) ∧ Below w.heap.size w w' := by
  have hzz := zz1_any s w hs
  unfold maxLen at hs
  have HZ := hide hzz
  have H1 := hide h1
  have H2 := hide h2
  have H3 := hide h3
  clear hzz h1 h2 h3
  go_enter Tryd.func3, Tryd.ntmps3
  go_wp2_with fail
  refine (unhide HZ).mono ?_
  rintro e w ⟨b, rfl, rfl, hb⟩
  cases b with
  | false => go_wp2; go_ret; exact ⟨rfl, Below.refl _ _⟩
  | true =>
    have hbs := hb rfl
    clear hb
    go_wp2_with fail
    refine (unhide H1 hbs _).mono ?_
    rintro e w2 ⟨rfl, hb2⟩
    rcases Nat.eq_zero_or_pos s.size with h0 | h0
    · have H2' := unhide H2 hbs (fun h => by omega)
      have h0' : ((s.size : Int) == 0) = true := by simp [h0]
      have HY := hide H2'
      clear H2' h0
      go_wp2_with fail
      refine (unhide HY _).mono ?_
      rintro e w2 ⟨rfl, rfl⟩
      go_wp2; go_ret; exact ⟨rfl, hb2⟩
    · have h0' : ((s.size : Int) == 0) = false := beq_eq_false_iff_ne.2 (by omega)
      cases hq : ((s[0].toNat : Int) == 34) with
      | false =>
        have hq' : ((s[0].toNat : Int) != 34) = true := by simp [bne, hq]
        have HY := hide (unhide H2 hbs (fun _ => hq))
        go_wp2_with fail
        refine (unhide HY _).mono ?_
        rintro e w2 ⟨rfl, rfl⟩
        go_wp2; go_ret; exact ⟨rfl, hb2⟩
      | true =>
        have hq' : ((s[0].toNat : Int) != 34) = false := by simp [bne, hq]
        have HY := hide (unhide H3 hbs h0 hq)
        go_wp2_with fail
        refine (unhide HY _).mono ?_
        rintro e w2 ⟨rfl, rfl⟩
        go_wp2; go_ret; exact ⟨rfl, hb2⟩
end Go.Proofs.Qxb6605543aDoor
