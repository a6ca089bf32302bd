import Derived.Test.Qxb6605543aDoorWalks6
import Derived.Test.Qxb6605543aDoorWalks9
import Derived.Test.Qxb6605543aDoorShelf
import Derived.Lib.IndexLaws
namespace Go.Proofs.Qxb6605543aDoor
open Go.RowKit Go.Shelf

theorem commas (s : ByteArray) : Commas s (Lib.indexByte s.data.toList 44) := fun w => Any.strings_IndexByte Tryd.lays137 s 44 w

/-- What strings.TrimRight leaves. -/
def trimmed (u : ByteArray) : ByteArray := ⟨(Lib.trimRightS u.data.toList [32, 9]).toArray⟩
theorem trims (u : ByteArray) (hu : u.size ≤ 9223372036854775807) : Trims u (trimmed u) := fun w =>
  Any.strings_TrimRight_laid Tryd.lays162 (by kernel_rfl) u ⟨#[32, 9]⟩ w hu (by decide) (ascii_of_all (by decide))

theorem ext_data (s : ByteArray) (a b : Nat) : (s.extract a b).data.toList = (s.data.toList.drop a).take (b - a) := Lib.extract_data s a b
theorem ba_ext {a b : ByteArray} (h : a.data.toList = b.data.toList) : a = b := by
  obtain ⟨⟨a⟩⟩ := a; obtain ⟨⟨b⟩⟩ := b; simp at h; rw [h]

set_option maxHeartbeats 400000 in
theorem zz_cut (s arg rest : ByteArray) (h : ∀ w : World, Calls Tryd.prog 18 #[.string s] w fun e w' => e = .returned (.tuple #[.string arg, .string rest]) ∧ Below w.heap.size w w') : Cuts s arg rest := fun w => by
  have H := hide (h w)
  clear h
  go_enter Tryd.func7, Tryd.ntmps7
  go_wp2_with fail
  refine (unhide H).mono ?_
  rintro e w1 ⟨rfl, hb⟩
  go_wp2
  go_ret2
  exact ⟨rfl, hb⟩

/-- The place of the first comma, or the length. -/
def comma (l : List UInt8) : Nat := if Lib.indexByte l 44 < 0 then l.length else (Lib.indexByte l 44).toNat

theorem idx_le : ∀ l : List UInt8, Lib.indexByte l 44 < 0 ∧ (∀ k : Nat, l[k]? ≠ some 44) ∨ ∃ k : Nat, Lib.indexByte l 44 = k ∧ k < l.length ∧ l[k]? = some 44 ∧ ∀ j : Nat, j < k → l[j]? ≠ some 44 := fun l => by
  have hge := Lib.indexByte_ge l 44
  by_cases h : Lib.indexByte l 44 = -1
  · exact Or.inl ⟨by omega, Lib.indexByte_none h⟩
  · refine Or.inr ⟨(Lib.indexByte l 44).toNat, by omega, ?_⟩
    have := Lib.indexByte_some (l := l) (c := 44) (o := (Lib.indexByte l 44).toNat) (by omega)
    exact ⟨(List.getElem?_eq_some_iff.1 this.1).1, this.1, this.2⟩

theorem comma_spec (l : List UInt8) : comma l ≤ l.length ∧ (∀ j : Nat, j < comma l → l[j]? ≠ some 44) ∧ (comma l < l.length → l[comma l]? = some 44) := by
  rcases idx_le l with ⟨h1, h2⟩ | ⟨k, h1, h2, h3, h4⟩
  · have e : comma l = l.length := by unfold comma; rw [if_pos h1]
    rw [e]; exact ⟨Nat.le_refl _, fun j _ => h2 j, fun h => absurd h (Nat.lt_irrefl _)⟩
  · have e : comma l = k := by unfold comma; rw [if_neg (by omega), h1]; rfl
    rw [e]; exact ⟨by omega, h4, fun _ => h3⟩

theorem cuts_token (s : ByteArray) (hs : s.size ≤ 4194304) (hq : ∀ h0 : 0 < s.size, ¬ (s[0].toNat : Int) = 34) :
    Cuts s (trimmed (s.extract 0 (comma s.data.toList))) (s.extract (comma s.data.toList) s.size) :=
  zz_cut _ _ _ fun w => by
    have hsz := Lib.size_eq s
    have hc := comma_spec s.data.toList
    refine cutt_any s _ w (Lib.indexByte s.data.toList 44) (comma s.data.toList) hs hq (commas s) ?_ (trims _ (by simp; omega))
    rcases idx_le s.data.toList with ⟨h1, _⟩ | ⟨k, h1, h2, _, _⟩
    · exact Or.inl ⟨h1, by unfold comma; rw [if_pos h1]; exact hsz.symm⟩
    · exact Or.inr ⟨by unfold comma; rw [if_neg (by omega)]; omega, by omega⟩

theorem cuts_quoted (s : ByteArray) (hs : s.size ≤ 4194304) (h0 : 0 < s.size) (hq : (s[0].toNat : Int) = 34) : Cuts s (qArg s) (qRest s) :=
  zz_cut _ _ _ fun w => cutq_any s w hs h0 hq
end Go.Proofs.Qxb6605543aDoor
