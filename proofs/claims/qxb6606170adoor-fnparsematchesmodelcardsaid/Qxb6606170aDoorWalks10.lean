import Derived.Test.Qxb6606170aDoorWalks2s
import Derived.Test.Qxb6606170aDoorLit
namespace Go.Proofs.Qxb6606170aDoor
open Go.RowKit Go.Shelf

theorem digits_contains (c : UInt8) : [48, 49, 50, 51, 52, 53, 54, 55, 56, 57].contains c = Dec.isD c := by
  rw [Bool.eq_iff_iff, Dec.isD_iff]
  simp only [List.contains_iff_mem, List.mem_cons, List.not_mem_nil, or_false]
  constructor
  · rintro (rfl | rfl | rfl | rfl | rfl | rfl | rfl | rfl | rfl | rfl) <;> decide
  · rintro ⟨h1, h2⟩
    have key : ∀ d : UInt8, c.toNat = d.toNat → c = d := fun d h => UInt8.toNat_inj.1 h
    have : c.toNat = 48 ∨ c.toNat = 49 ∨ c.toNat = 50 ∨ c.toNat = 51 ∨ c.toNat = 52 ∨ c.toNat = 53 ∨ c.toNat = 54 ∨ c.toNat = 55 ∨ c.toNat = 56 ∨ c.toNat = 57 := by omega
    rcases this with h | h | h | h | h | h | h | h | h | h
    · exact Or.inl (key 48 h)
    · exact Or.inr (Or.inl (key 49 h))
    · exact Or.inr (Or.inr (Or.inl (key 50 h)))
    · exact Or.inr (Or.inr (Or.inr (Or.inl (key 51 h))))
    · exact Or.inr (Or.inr (Or.inr (Or.inr (Or.inl (key 52 h)))))
    · exact Or.inr (Or.inr (Or.inr (Or.inr (Or.inr (Or.inl (key 53 h))))))
    · exact Or.inr (Or.inr (Or.inr (Or.inr (Or.inr (Or.inr (Or.inl (key 54 h)))))))
    · exact Or.inr (Or.inr (Or.inr (Or.inr (Or.inr (Or.inr (Or.inr (Or.inl (key 55 h))))))))
    · exact Or.inr (Or.inr (Or.inr (Or.inr (Or.inr (Or.inr (Or.inr (Or.inr (Or.inl (key 56 h)))))))))
    · exact Or.inr (Or.inr (Or.inr (Or.inr (Or.inr (Or.inr (Or.inr (Or.inr (Or.inr (key 57 h)))))))))

theorem skip_is_rst (l : List UInt8) : Lib.trimLeftS l [48, 49, 50, 51, 52, 53, 54, 55, 56, 57] = Dec.rst l := by
  unfold Lib.trimLeftS Dec.rst
  congr 1; funext c; exact digits_contains c

set_option maxHeartbeats 400000 in
theorem skip_any (s : ByteArray) (w : World) :
    Calls Tryd.prog 26 #[.string s] w fun e w' => e = .returned (.string (ba (Dec.rst s.data.toList))) ∧ Below w.heap.size w w' := by
  have h : Calls Tryd.prog 22 #[.string s, .string ⟨#[48, 49, 50, 51, 52, 53, 54, 55, 56, 57]⟩] w fun e w' => e = .returned (.string (ba (Dec.rst s.data.toList))) ∧ Below w.heap.size w w' := by
    have := Any.strings_TrimLeft_laid Tryd.lays161 (by kernel_rfl) s ⟨#[48, 49, 50, 51, 52, 53, 54, 55, 56, 57]⟩ w (by decide) (ascii_of_all (by decide))
    rw [show (⟨#[48, 49, 50, 51, 52, 53, 54, 55, 56, 57]⟩ : ByteArray).data.toList = [48, 49, 50, 51, 52, 53, 54, 55, 56, 57] from rfl, skip_is_rst] at this
    exact this
  have H := hide h
  generalize ba (Dec.rst s.data.toList) = R at *
  clear h
  go_enter Tryd.func26, Tryd.ntmps26
  go_wp2_with fail
  refine (unhide H).mono ?_
  rintro e w1 ⟨rfl, hb⟩
  go_wp2
  go_ret
  exact ⟨rfl, hb⟩

theorem cutPrefix_any (s : ByteArray) (c : UInt8) (w : World) :
    Calls Tryd.prog 25 #[.string s, .string ⟨#[c]⟩] w fun e w' => e = .returned (.tuple #[.string (ba (Lib.trimPrefix s.data.toList [c])), .bool (Lib.hasPrefix s.data.toList [c])]) ∧ w' = w :=
  Any.strings_CutPrefix Tryd.lays103 s ⟨#[c]⟩ w

/-- The sign ahead of a number that is not zero. -/
def negS (n : ByteArray) : ByteArray := if n.data.toList = [48] then n else ⟨#[45]⟩ ++ n

set_option maxHeartbeats 400000 in
theorem negate_any (n : ByteArray) (w : World) (hn : n.size ≤ 1048576) (hh : Lib.hasPrefix n.data.toList [45] = false) :
    Calls Tryd.prog 27 #[.string n] w fun e w' => e = .returned (.string (negS n)) ∧ w' = w := by
  have H := hide (cutPrefix_any n 45 w)
  rw [hh] at H
  clear hh
  generalize ba (Lib.trimPrefix n.data.toList [45]) = T at *
  by_cases h0 : n.data.toList = [48]
  · have h1 : (n.toList == [48]) = true := by rw [Lib.toList_data, h0]; rfl
    have HX : Hid (negS n = n) := by show negS n = n; unfold negS; rw [if_pos h0]
    clear h0
    go_enter Tryd.func27, Tryd.ntmps27
    go_wp2_with fail
    refine (unhide H).mono ?_
    rintro e w ⟨rfl, rfl⟩
    go_wp2
    go_ret
    exact ⟨by rw [HX.out]; rfl, rfl⟩
  · have h1 : (n.toList == [48]) = false := by rw [Lib.toList_data]; exact beq_eq_false_iff_ne.2 h0
    have HX : Hid (negS n = ⟨#[45]⟩ ++ n) := by show negS n = _; unfold negS; rw [if_neg h0]
    clear h0
    go_enter Tryd.func27, Tryd.ntmps27
    go_wp2_with fail
    refine (unhide H).mono ?_
    rintro e w ⟨rfl, rfl⟩
    go_wp2
    go_ret
    exact ⟨by rw [HX.out]; rfl, rfl⟩
end Go.Proofs.Qxb6606170aDoor
