import Derived.Test.Qxb6605543aDoorCut
namespace Go.Proofs.Qxb6605543aDoor
open Go.RowKit

theorem app_data (a b : ByteArray) : (a ++ b).data.toList = a.data.toList ++ b.data.toList := by
  simp
theorem size_len (s : ByteArray) : s.size = s.data.toList.length := Lib.size_eq s
theorem at_list (s : ByteArray) (k : Nat) (h : k < s.size) : s.data.toList[k]? = some s[k] := by
  have := drop_cons s k h
  have e : (s.data.toList.drop k)[0]? = some s[k] := by rw [this]; rfl
  simpa using e

theorem drop_past (T : List UInt8) (c : UInt8) : ∀ Q : List UInt8, (Q ++ c :: T).drop (Q.length + 1) = T
  | [] => rfl
  | _ :: Q => by simp
theorem take_past (T : List UInt8) : ∀ Q : List UInt8, (Q ++ T).take Q.length = Q
  | [] => by simp
  | q :: Q => by simp

theorem cuts_rt1 (x t qa : ByteArray) (hqa : qa = ⟨(Cut.quote x.data.toList).toArray⟩) (hx : x.size ≤ 262144) (ht : t.size ≤ 262144) :
    Cuts (⟨#[34]⟩ ++ qa ++ ⟨#[34]⟩ ++ t) qa t := by
  obtain ⟨s, hs⟩ : ∃ s, s = (⟨#[34]⟩ ++ qa ++ ⟨#[34]⟩ ++ t : ByteArray) := ⟨_, rfl⟩
  have hq : qa.data.toList = Cut.quote x.data.toList := by rw [hqa]
  have hl : s.data.toList = 34 :: (Cut.quote x.data.toList ++ 34 :: t.data.toList) := by
    rw [hs, app_data, app_data, app_data, hq]; simp
  have hlen : s.size = (Cut.quote x.data.toList).length + 2 + t.size := by
    rw [size_len, hl, size_len t]; simp; omega
  have h2 := Cut.quote_len_le x.data.toList
  have hxl := size_len x
  have h0 : 0 < s.size := by omega
  have hs0 : s[0] = 34 := by
    have := at_list s 0 h0
    rw [hl] at this
    simpa using this.symm
  have hqe : QE s 1 = some ((Cut.quote x.data.toList).length + 1) := by
    unfold QE
    rw [hl, List.drop_succ_cons, List.drop_zero, Cut.qend_quote]; rfl
  have hc := cuts_quoted s (by omega) h0 (by rw [hs0]; rfl)
  rw [← hs]
  have e1 : qArg s = qa := by
    unfold qArg; rw [hqe]
    apply ba_ext
    show (s.extract 1 _).data.toList = _
    rw [ext_data, hl, hq]; simp
  have e2 : qRest s = t := by
    unfold qRest; rw [hqe]
    apply ba_ext
    show (s.extract _ _).data.toList = _
    rw [ext_data, hl, hlen, size_len t]
    rw [List.drop_succ_cons, drop_past]
    exact List.take_of_length_le (by omega)
  rw [e1, e2] at hc
  exact hc

theorem trimmed_self (a : ByteArray) (h : ∀ h : a.size - 1 < a.size, ¬ ((a[a.size - 1].toNat : Int) = 32) ∧ ¬ ((a[a.size - 1].toNat : Int) = 9)) : trimmed a = a := by
  apply ba_ext
  show Lib.trimRightS a.data.toList [32, 9] = a.data.toList
  have hl := size_len a
  rw [Lib.trimRightS_take a.data.toList [32, 9] a.data.toList.length (Nat.le_refl _) (fun j b h1 h2 => by
      rw [List.getElem?_eq_none h1] at h2; cases h2) (fun b h1 h2 => ?_)]
  · exact List.take_of_length_le (Nat.le_refl _)
  · have hlt : a.size - 1 < a.size := by omega
    have h3 := at_list a (a.size - 1) hlt
    rw [← hl] at h2
    rw [h2] at h3
    obtain ⟨n1, n2⟩ := h hlt
    have e : b = a[a.size - 1] := Option.some.inj h3
    rw [← e] at n1 n2
    have c1 : b ≠ 32 := fun e => n1 (by rw [e]; rfl)
    have c2 : b ≠ 9 := fun e => n2 (by rw [e]; rfl)
    simp [c1, c2]

theorem cuts_rt2 (a t : ByteArray) (ha : a.size ≤ 262144) (ht : t.size ≤ 262144) (hT : Tok a) : Cuts (a ++ ⟨#[44]⟩ ++ t) a (⟨#[44]⟩ ++ t) := by
  obtain ⟨s, hs⟩ : ∃ s, s = (a ++ ⟨#[44]⟩ ++ t : ByteArray) := ⟨_, rfl⟩
  have hl : s.data.toList = a.data.toList ++ 44 :: t.data.toList := by
    rw [hs, app_data, app_data]; simp
  have hal := size_len a
  have htl := size_len t
  have hlen : s.size = a.size + 1 + t.size := by
    rw [size_len, hl, hal, htl]; simp; omega
  have hat : ∀ (j : Nat) (h : j < a.size), s.data.toList[j]? = some a[j] := fun j h => by
    rw [hl, List.getElem?_append_left (by omega)]; exact at_list a j h
  have hcm : comma s.data.toList = a.size := by
    obtain ⟨c1, c2, c3⟩ := comma_spec s.data.toList
    have hsl := size_len s
    have hhere : s.data.toList[a.size]? = some 44 := by
      rw [hl, List.getElem?_append_right (by omega), hal]; simp
    rcases Nat.lt_trichotomy (comma s.data.toList) a.size with h | h | h
    · exfalso
      have h1 := c3 (by omega)
      rw [hat _ h] at h1
      exact hT.comma _ h (by rw [Option.some.inj h1]; rfl)
    · exact h
    · exact absurd hhere (c2 _ h)
  have hq : ∀ h0 : 0 < s.size, ¬ (s[0].toNat : Int) = 34 := fun h0 h => by
    have h1 := at_list s 0 h0
    by_cases ha0 : 0 < a.size
    · rw [hat 0 ha0] at h1
      exact hT.head ha0 (by rw [Option.some.inj h1]; exact h)
    · have : a.data.toList = [] := List.length_eq_zero_iff.1 (by omega)
      rw [hl, this] at h1
      have e : s[0] = 44 := by simpa using h1.symm
      rw [e] at h
      exact absurd h (by decide)
  have hc := cuts_token s (by omega) hq
  rw [hcm] at hc
  rw [← hs]
  have e1 : s.extract 0 a.size = a := by
    apply ba_ext
    rw [ext_data, hl, List.drop_zero, Nat.sub_zero, hal, take_past]
  have e2 : s.extract a.size s.size = ⟨#[44]⟩ ++ t := by
    apply ba_ext
    rw [ext_data, app_data, hl, hal, List.drop_left]
    exact List.take_of_length_le (by rw [← hal, hlen, htl]; simp; omega)
  rw [e1, e2, trimmed_self a hT.last] at hc
  exact hc
end Go.Proofs.Qxb6605543aDoor
