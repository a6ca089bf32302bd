import Derived.Test.Qxb6605907aGreatFmtF2
import Derived.Test.Qxb6605907aGreatFmtK0
namespace Go.Proofs.Qxb6605907aGreatFmt
open Go.RowKit

def baOf (l : List UInt8) : ByteArray := ⟨l.toArray⟩
theorem baOf_data (l : List UInt8) : (baOf l).data.toList = l := by simp [baOf]
theorem ba_of {y : ByteArray} {l : List UInt8} (h : y.data.toList = l) : y = baOf l := by
  subst h
  cases y
  simp [baOf]
theorem baOf_size (l : List UInt8) : (baOf l).size = l.length := by rw [← size_list, baOf_data]

/-- Where the automaton stands. -/
def OpSt (T : List UInt8) (st vs ve k : Nat) (W : Bool) : Prop :=
  (st = 0 ∧ k = 0 ∧ vs = 0 ∧ ve = 0 ∧ W = false) ∨
  (st = 1 ∧ k = 1 ∧ opP T = au1 W (T.drop k)) ∨
  (st = 2 ∧ k = 2 ∧ opP T = au2 W (T.drop k)) ∨
  (st = 3 ∧ vs < k ∧ opP T = au3 W ((T.take k).drop vs) (T.drop k)) ∨
  (st = 4 ∧ vs ≤ ve ∧ k = ve + 1 ∧ opP T = au4 W ((T.take ve).drop vs) (T.drop k)) ∨
  (st = 5 ∧ vs ≤ ve ∧ ve + 1 ≤ k ∧ opP T = au5 W ((T.take ve).drop vs) ((T.take k).drop (ve + 1)) (T.drop k))

def mOp (o : OpP) : Value := .agg #[.bool o.write, .string (baOf o.v), .string (baOf o.value)]
def mNone : Value := .agg #[.bool false, .string ⟨#[]⟩, .string ⟨#[]⟩]
def mRes (o : Option OpP) : Value := match o with
  | none => .tuple #[mNone, .bool false]
  | some o => .tuple #[mOp o, .bool true]

theorem take_drop_snoc {T : List UInt8} {a k : Nat} {c : UInt8} (hc : T[k]? = some c) (ha : a ≤ k) : (T.take (k + 1)).drop a = (T.take k).drop a ++ [c] := by
  obtain ⟨hk, rfl⟩ := List.getElem?_eq_some_iff.1 hc
  rw [List.take_succ_eq_append_getElem hk, List.drop_append_of_le_length (by rw [List.length_take]; omega)]
theorem take_drop_self {T : List UInt8} {k : Nat} {c : UInt8} (hc : T[k]? = some c) : (T.take (k + 1)).drop k = [c] := by
  rw [take_drop_snoc hc (Nat.le_refl _), List.drop_eq_nil_of_le (by rw [List.length_take]; omega)]; rfl
theorem drop_cons {T : List UInt8} {k : Nat} {c : UInt8} (hc : T[k]? = some c) : T.drop k = c :: T.drop (k + 1) := by
  obtain ⟨hk, rfl⟩ := List.getElem?_eq_some_iff.1 hc
  exact List.drop_eq_getElem_cons hk

/-- One byte taken, or refused. -/
theorem OpSt.step0 {T : List UInt8} {c : UInt8} (hc : T[0]? = some c) : (c = 119 → OpSt T 1 0 0 1 true) ∧ (c = 114 → OpSt T 1 0 0 1 false) ∧ (c ≠ 119 → c ≠ 114 → opP T = none) := by
  have hd := drop_cons hc
  rw [List.drop_zero] at hd
  have h0 : opP T = au0 T := (au0_eq T).symm
  rw [hd] at h0
  simp only [au0] at h0
  rw [← hd] at h0
  refine ⟨fun h => Or.inr (Or.inl ⟨rfl, rfl, ?_⟩), fun h => Or.inr (Or.inl ⟨rfl, rfl, ?_⟩), fun h1 h2 => ?_⟩
  · rw [h0, if_pos h]
  · rw [h0, h]; rfl
  · rw [h0, if_neg h1, if_neg h2]

theorem OpSt.step1 {T : List UInt8} {c : UInt8} {W : Bool} (hc : T[1]? = some c) (h : opP T = au1 W (T.drop 1)) (vs ve : Nat) : (c = 40 → OpSt T 2 vs ve 2 W) ∧ (c ≠ 40 → opP T = none) := by
  rw [drop_cons hc, au1] at h
  exact ⟨fun e => Or.inr (Or.inr (Or.inl ⟨rfl, rfl, by rw [h, if_pos e]⟩)), fun e => by rw [h, if_neg e]⟩

theorem OpSt.step2 {T : List UInt8} {c : UInt8} {W : Bool} (hc : T[2]? = some c) (h : opP T = au2 W (T.drop 2)) (ve : Nat) : (letterB c = true → OpSt T 3 2 ve 3 W) ∧ (letterB c = false → opP T = none) := by
  rw [drop_cons hc, au2] at h
  refine ⟨fun e => Or.inr (Or.inr (Or.inr (Or.inl ⟨rfl, by omega, ?_⟩))), fun e => by rw [h, e]; rfl⟩
  rw [h, if_pos e, take_drop_self hc]

theorem OpSt.step3 {T : List UInt8} {c : UInt8} {W : Bool} {vs k : Nat} (hc : T[k]? = some c) (hk : vs < k) (h : opP T = au3 W ((T.take k).drop vs) (T.drop k)) (ve : Nat) :
    (c = 41 → OpSt T 4 vs k (k + 1) W) ∧ (c ≠ 41 → nameB c = true → OpSt T 3 vs ve (k + 1) W) ∧ (c ≠ 41 → nameB c = false → opP T = none) := by
  rw [drop_cons hc, au3] at h
  refine ⟨fun e => Or.inr (Or.inr (Or.inr (Or.inr (Or.inl ⟨rfl, by omega, rfl, ?_⟩)))), fun e1 e2 => Or.inr (Or.inr (Or.inr (Or.inl ⟨rfl, by omega, ?_⟩))), fun e1 e2 => by rw [h, if_neg e1, e2]; rfl⟩
  · rw [h, if_pos e]
  · rw [h, if_neg e1, if_pos e2, take_drop_snoc hc (by omega)]

theorem OpSt.step4 {T : List UInt8} {c : UInt8} {W : Bool} {vs ve k : Nat} (hc : T[k]? = some c) (hv : vs ≤ ve) (hk : k = ve + 1) (h : opP T = au4 W ((T.take ve).drop vs) (T.drop k)) :
    (valueB c = true → OpSt T 5 vs ve (k + 1) W) ∧ (valueB c = false → opP T = none) := by
  rw [drop_cons hc, au4] at h
  refine ⟨fun e => Or.inr (Or.inr (Or.inr (Or.inr (Or.inr ⟨rfl, hv, by omega, ?_⟩)))), fun e => by rw [h, e]; rfl⟩
  subst hk
  rw [h, if_pos e, take_drop_self hc]

theorem OpSt.step5 {T : List UInt8} {c : UInt8} {W : Bool} {vs ve k : Nat} (hc : T[k]? = some c) (hv : vs ≤ ve) (hk : ve + 1 ≤ k) (h : opP T = au5 W ((T.take ve).drop vs) ((T.take k).drop (ve + 1)) (T.drop k)) :
    (valueB c = true → OpSt T 5 vs ve (k + 1) W) ∧ (valueB c = false → opP T = none) := by
  rw [drop_cons hc, au5] at h
  refine ⟨fun e => Or.inr (Or.inr (Or.inr (Or.inr (Or.inr ⟨rfl, hv, by omega, ?_⟩)))), fun e => by rw [h, e]; rfl⟩
  rw [h, if_pos e, take_drop_snoc hc hk]

/-- At the end of the text. -/
theorem OpSt.ends {T : List UInt8} {st vs ve : Nat} {W : Bool} (h : OpSt T st vs ve T.length W) : (st ≠ 5 → opP T = none) ∧ (st = 5 → vs ≤ ve ∧ ve + 1 ≤ T.length ∧ opP T = some ⟨W, (T.take ve).drop vs, T.drop (ve + 1)⟩) := by
  have hd : T.drop T.length = [] := List.drop_length
  rcases h with ⟨rfl, hk, _⟩ | ⟨rfl, hk, h⟩ | ⟨rfl, hk, h⟩ | ⟨rfl, hk, h⟩ | ⟨rfl, h1, hk, h⟩ | ⟨rfl, h1, hk, h⟩
  · refine ⟨fun _ => ?_, fun e => absurd e (by decide)⟩
    rw [List.length_eq_zero_iff.1 hk]; rfl
  · exact ⟨fun _ => by rw [h, hd]; rfl, fun e => absurd e (by decide)⟩
  · exact ⟨fun _ => by rw [h, hd]; rfl, fun e => absurd e (by decide)⟩
  · exact ⟨fun _ => by rw [h, hd]; rfl, fun e => absurd e (by decide)⟩
  · exact ⟨fun _ => by rw [h, hd]; rfl, fun e => absurd e (by decide)⟩
  · exact ⟨fun e => absurd rfl e, fun _ => ⟨h1, hk, by rw [h, hd, List.take_length]; rfl⟩⟩

end Go.Proofs.Qxb6605907aGreatFmt
