import Derived.Test.Qxb6606170aDoorWalks5
import Derived.Test.Qxb6606170aDoorShelf
namespace Go.Proofs.Qxb6606170aDoor
open Go.RowKit Go.Shelf

/-- What strings.Cut at a point leaves ahead of it, and behind it. -/
def ahead (l : List UInt8) : List UInt8 := l.takeWhile (· != 46)
def behind (l : List UInt8) : List UInt8 := (l.dropWhile (· != 46)).drop 1

theorem index_of : ∀ l : List UInt8, (Lib.indexByte l 46 = -1 ∧ ahead l = l ∧ behind l = []) ∨ (∃ k : Nat, Lib.indexByte l 46 = k ∧ k < l.length ∧ ahead l = l.take k ∧ behind l = l.drop (k + 1))
  | [] => Or.inl ⟨rfl, rfl, rfl⟩
  | c :: r => by
    by_cases h : c = 46
    · subst h
      exact Or.inr ⟨0, by rw [Lib.indexByte, if_pos (by rfl)]; rfl, by simp, by simp [ahead], by simp [behind]⟩
    · have e : Lib.indexByte (c :: r) 46 = if Lib.indexByte r 46 == -1 then -1 else Lib.indexByte r 46 + 1 := by
        rw [Lib.indexByte, if_neg (by simpa using h)]
      have e1 : ahead (c :: r) = c :: ahead r := by unfold ahead; rw [List.takeWhile_cons, if_pos (by simpa using h)]
      have e2 : behind (c :: r) = behind r := by unfold behind; rw [List.dropWhile_cons, if_pos (by simpa using h)]
      rcases index_of r with ⟨h1, h2, h3⟩ | ⟨k, h1, h2, h3, h4⟩
      · exact Or.inl ⟨by rw [e, h1]; rfl, by rw [e1, h2], by rw [e2, h3]⟩
      · refine Or.inr ⟨k + 1, ?_, by simp; omega, by rw [e1, h3]; rfl, by rw [e2, h4]; rfl⟩
        rw [e, h1, if_neg (by simp)]; omega

/-- Three results, the third whatever. -/
def CutEnd (a f : ByteArray) (w : World) (e : Ending) (w' : World) : Prop := ∃ b : Bool, e = .returned (.tuple #[.string a, .string f, .bool b]) ∧ Below w.heap.size w w'

set_option maxHeartbeats 1000000 in
set_option maxRecDepth 100000 in
theorem cut35 (s : ByteArray) (w : World) (hs : s.size ≤ 262144) :
    Calls Tryd.prog 35 #[.string s, .string ⟨#[46]⟩] w fun e w' => CutEnd (ba (ahead s.data.toList)) (ba (behind s.data.toList)) w e w' := by
  have hI : ∀ w, Calls Tryd.prog 53 #[.string s, .string ⟨#[46]⟩] w fun e w' => e = .returned (.int .i64 (Lib.indexByte s.data.toList 46)) ∧ w' = w := fun w => Any.stringslite_Index_one Tryd.lays219 s 46 w
  have HI := hide hI
  clear hI
  rcases index_of s.data.toList with ⟨h1, h2, h3⟩ | ⟨k, h1, h2, h3, h4⟩
  · rw [h1] at HI
    rw [h2, h3, ba_of]
    clear h1 h2 h3
    go_enter Tryd.func35, Tryd.ntmps35
    go_wp2_with fail
    refine (unhide HI _).mono ?_
    rintro e w ⟨rfl, rfl⟩
    go_wp2
    go_ret3
    exact ⟨false, rfl, Below.refl _ _⟩
  · rw [h1] at HI
    have e1 : ba (ahead s.data.toList) = s.extract 0 k := by rw [h3, ext_from]
    have e2 : ba (behind s.data.toList) = s.extract (k + 1) s.size := by rw [h4, ext_to_end]
    rw [e1, e2]
    have hk : k < s.size := by rw [size_len]; exact h2
    clear h1 h2 h3 h4 e1 e2
    go_enter Tryd.func35, Tryd.ntmps35
    go_wp2_with fail
    refine (unhide HI _).mono ?_
    rintro e w ⟨rfl, rfl⟩
    go_wp2
    go_region
    go_wp2
    go_ret3
    exact ⟨true, rfl, (Below.refl _ _).drew⟩

set_option maxHeartbeats 1000000 in
theorem cut_any (s : ByteArray) (w : World) (hs : s.size ≤ 262144) :
    Calls Tryd.prog 21 #[.string s, .string ⟨#[46]⟩] w fun e w' => CutEnd (ba (ahead s.data.toList)) (ba (behind s.data.toList)) w e w' := by
  have HC := hide (cut35 s w hs)
  generalize ba (ahead s.data.toList) = A at *
  generalize ba (behind s.data.toList) = F at *
  go_enter Tryd.func21, Tryd.ntmps21
  go_wp2_with fail
  refine (unhide HC).mono ?_
  rintro e w1 ⟨b, rfl, hb⟩
  go_wp2
  go_ret3
  exact ⟨b, rfl, hb⟩
end Go.Proofs.Qxb6606170aDoor
