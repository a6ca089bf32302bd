import Derived.Test.Qxb6605543aDoorWalks2
import Derived.Test.Qxb6605543aDoorWalks1
namespace Go.Proofs.Qxb6605543aDoor
open Go.RowKit

/-- What is asked of a call of 'ZZcutArgument': it answers these two; what was there is as it was. -/
def Cuts (s arg rest : ByteArray) : Prop := ∀ w : World, Calls Tryd.prog 7 #[.string s] w fun e w' => e = .returned (.tuple #[.string arg, .string rest]) ∧ Below w.heap.size w w'

set_option maxHeartbeats 1000000 in
theorem roundTrips_any (x t a qa : ByteArray) (w : World) (hx : x.size ≤ maxLen) (ht : t.size ≤ maxLen) (ha : a.size ≤ maxLen) (hqa : qa = ⟨(Cut.quote x.data.toList).toArray⟩)
    (h1 : x.size ≤ 262144 → t.size ≤ 262144 → Cuts (⟨#[34]⟩ ++ qa ++ ⟨#[34]⟩ ++ t) qa t)
    (h2 : a.size ≤ 262144 → t.size ≤ 262144 → Tok a → Cuts (a ++ ⟨#[44]⟩ ++ t) a (⟨#[44]⟩ ++ t)) :
    Calls Tryd.prog 4 #[.string x, .string t, .string a] w fun e w' => e = .returned (.bool true) ∧ Below w.heap.size w w' := by
  have hzz := zz3_any x t a w hx ht ha
  have hql : qa.size ≤ 2 * x.size := by
    have := Cut.quote_len_le x.data.toList
    rw [hqa]
    have e : (⟨(Cut.quote x.data.toList).toArray⟩ : ByteArray).size = (Cut.quote x.data.toList).length := List.size_toArray
    have e2 : x.data.toList.length = x.size := Array.length_toList
    omega
  unfold maxLen at hx ht ha
  have hq : x.size ≤ 1048576 → Calls Tryd.prog 11 #[.string x] w fun e w' => e = .returned (.string qa) ∧ Below w.heap.size w w' := fun h => by
    rw [hqa]; exact quote_any x w h
  have htl := tokenLike_any a
  clear hqa
  have HZ := hide hzz
  have HQ := hide hq
  have H1 := hide h1
  have H2 := hide h2
  have HT := hide htl
  clear hzz hq h1 h2 htl
  go_enter Tryd.func4, Tryd.ntmps4
  go_wp2_with fail
  refine (unhide HZ).mono ?_
  rintro e w ⟨b, rfl, rfl, hb⟩
  cases b with
  | false => go_wp2; go_ret; exact ⟨rfl, Below.refl _ _⟩
  | true =>
    have hb := hb rfl
    by_cases c1 : x.size ≤ 262144
    · by_cases c2 : t.size ≤ 262144
      · by_cases c3 : a.size ≤ 262144
        · go_wp2_with fail
          refine (unhide HQ (by omega)).mono ?_
          rintro e w2 ⟨rfl, hb2⟩
          go_wp2_with fail
          refine (unhide H1 c1 c2 _).mono ?_
          rintro e w3 ⟨rfl, hb3⟩
          have hb23 : Below w.heap.size w w3 := hb2.trans (hb3.mono hb2.size)
          clear hb2 hb3
          go_wp2_with fail
          refine (unhide HT _ (by unfold maxLen; omega)).mono ?_
          rintro e w3 ⟨b, rfl, rfl, hb4⟩
          cases b with
          | false => go_wp2; go_ret; exact ⟨rfl, hb23⟩
          | true =>
            have hT := hb4 rfl
            clear hb4
            go_wp2_with fail
            refine (unhide H2 c3 c2 hT _).mono ?_
            rintro e w5 ⟨rfl, hb5⟩
            have hb25 := hb23.trans (hb5.mono hb23.size)
            clear hb23 hb5
            go_wp2
            go_ret
            exact ⟨rfl, hb25⟩
        · go_wp2; go_ret; exact ⟨rfl, Below.refl _ _⟩
      · go_wp2; go_ret; exact ⟨rfl, Below.refl _ _⟩
    · go_wp2; go_ret; exact ⟨rfl, Below.refl _ _⟩
end Go.Proofs.Qxb6605543aDoor
