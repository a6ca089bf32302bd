import Derived.Test.Qxb6605907aGreatFmtF3
import Derived.Test.Qxb6605907aGreatFmtWd
import Derived.Shelf.Unicode.DecodeAny
namespace Go.Proofs.Qxb6605907aGreatFmt
open Go.RowKit Go.Lib

def blankRN (r : Nat) : Bool := decide (r = 32) || decide (r = 9)

set_option maxRecDepth 100000 in
theorem decN_wide (n b0 b1 b2 b3 : Nat) (h : 128 ≤ b0) (hn : 0 < n) : 1 ≤ (decodeN n b0 b1 b2 b3).2 ∧ (decodeN n b0 b1 b2 b3).2 ≤ n ∧ (1 < (decodeN n b0 b1 b2 b3).2 → 128 ≤ b1) ∧ (2 < (decodeN n b0 b1 b2 b3).2 → 128 ≤ b2) ∧ (3 < (decodeN n b0 b1 b2 b3).2 → 128 ≤ b3) ∧ (decodeN n b0 b1 b2 b3).2 ≤ 4 := by
  unfold decodeN
  repeat' split
  all_goals first | (exfalso; omega) | (simp only; omega)

theorem blankB_hi {b : UInt8} (h : 128 ≤ b.toNat) : blankB b = false := by
  rw [blankB_N, Bool.or_eq_false_iff, decide_eq_false_iff_not, decide_eq_false_iff_not]; omega

/-- A rune that is read where no blank stands: no blank, and none of its bytes is one. -/
theorem dec_word (x : ByteArray) (i : Nat) (hi : i < x.size) (y : UInt8) (hy : x.data.toList[i]? = some y) (hb : blankB y = false) :
    blankRN (Utf8.decode x i).1 = false ∧ 1 ≤ (Utf8.decode x i).2 ∧ i + (Utf8.decode x i).2 ≤ x.size ∧ ∀ u z, i ≤ u → u < i + (Utf8.decode x i).2 → x.data.toList[u]? = some z → blankB z = false := by
  have hl : i < x.data.toList.length := by rw [← size_eq]; exact hi
  have hdec := decode_N x i
  rw [getD_at hl] at hdec
  have hyy : x.data.toList[i] = y := (List.getElem?_eq_some_iff.1 hy).2
  rw [hyy] at hdec
  have hg : ∀ k z, x.data.toList[k]? = some z → x.data.toList.getD k 0 = z := fun k z hz => by simp [List.getD, hz]
  by_cases hlow : y.toNat < 128
  · rw [decodeN_ascii _ _ _ _ _ hlow] at hdec
    rw [hdec]
    refine ⟨?_, Nat.le_refl _, hi, fun u z h1 h2 hz => ?_⟩
    · rw [← hb, blankB_N]; rfl
    · obtain rfl : u = i := by simp only at h2; omega
      rw [hy] at hz
      cases hz
      exact hb
  · have hw := decN_wide (x.size - i) y.toNat (x.data.toList.getD (i + 1) 0).toNat (x.data.toList.getD (i + 2) 0).toNat (x.data.toList.getD (i + 3) 0).toNat (by omega) (by omega)
    have hr := decodeN_hi (x.size - i) y.toNat (x.data.toList.getD (i + 1) 0).toNat (x.data.toList.getD (i + 2) 0).toNat (x.data.toList.getD (i + 3) 0).toNat (by omega)
    have hsz : x.data.toList.length - i = x.size - i := by rw [← size_eq]
    rw [← hsz, ← hdec] at hw hr
    rw [hsz] at hw
    obtain ⟨w1, w2, w3, w4, w5, w6⟩ := hw
    refine ⟨?_, w1, by omega, fun u z h1 h2 hz => ?_⟩
    · simp only [blankRN, Bool.or_eq_false_iff, decide_eq_false_iff_not]; omega
    · refine blankB_hi ?_
      have hz' := hg u z hz
      by_cases e0 : u = i
      · subst e0; rw [hy] at hz; cases hz; omega
      · by_cases e1 : u = i + 1
        · subst e1; rw [hz'] at w3; exact w3 (by omega)
        · by_cases e2 : u = i + 2
          · subst e2; rw [hz'] at w4; exact w4 (by omega)
          · have e3 : u = i + 3 := by omega
            subst e3; rw [hz'] at w5; exact w5 (by omega)

theorem dec_blank (x : ByteArray) (i : Nat) (hi : i < x.size) (y : UInt8) (hy : x.data.toList[i]? = some y) (hb : blankB y = true) : blankRN (Utf8.decode x i).1 = true ∧ (Utf8.decode x i).2 = 1 := by
  have hl : i < x.data.toList.length := by rw [← size_eq]; exact hi
  have hdec := decode_N x i
  rw [getD_at hl, (List.getElem?_eq_some_iff.1 hy).2] at hdec
  have hlow : y.toNat < 128 := by
    rw [blankB_N, Bool.or_eq_true, decide_eq_true_eq, decide_eq_true_eq] at hb
    omega
  rw [decodeN_ascii _ _ _ _ _ hlow] at hdec
  rw [hdec]
  exact ⟨by rw [← hb, blankB_N]; rfl, rfl⟩

theorem decGo_at (x : ByteArray) (i : Nat) (hi : i < x.size) : decodeGo (x.extract i x.size) = Utf8.decode x i := by
  have hs : (x.extract i x.size).size = x.size - i := by rw [ByteArray.size_extract]; omega
  have hd : (x.extract i x.size).data.toList = x.data.toList.drop i := by
    rw [extract_data, List.take_of_length_le (by rw [List.length_drop, ← size_eq]; exact Nat.le_refl _)]
  have e : ∀ k, (x.extract i x.size).data.toList.getD k 0 = x.data.toList.getD (i + k) 0 := fun k => by
    rw [hd]; simp [List.getD]
  rw [decodeGo, if_neg (by omega), decode_N, decode_N, show (x.extract i x.size).data.toList.length = x.data.toList.length - i by rw [hd, List.length_drop]]
  simp only [e, Nat.zero_add, Nat.sub_zero, Nat.add_zero]

theorem isBlank_spec (r : Nat) (w : World) : Calls Tryz.prog 37 #[.int .i32 (r : Int)] w fun e w' => e = .returned (.bool (blankRN r)) ∧ w' = w := by
  by_cases h1 : r = 32
  · subst h1
    go_enter Tryz.func37, Tryz.ntmps37
    go_wp2
    go_ret
    exact ⟨rfl, rfl⟩
  · by_cases h2 : r = 9
    · subst h2
      go_enter Tryz.func37, Tryz.ntmps37
      go_wp2
      go_ret
      exact ⟨rfl, rfl⟩
    · have e1 : ((r : Int) == 32) = false := by rw [beq_eq_false_iff_ne]; omega
      have e2 : ((r : Int) == 9) = false := by rw [beq_eq_false_iff_ne]; omega
      rw [blankRN, decide_eq_false h1, decide_eq_false h2]
      clear h1 h2
      go_enter Tryz.func37, Tryz.ntmps37
      go_wp2
      go_ret
      exact ⟨by rw [show (Ending.returned (Value.bool (false || false))) = Ending.returned (Value.bool false) from rfl, ← e2]; rfl, rfl⟩

/-- Where FieldsFuncSeq's loop stands: 'start' (none: -1), the place, what has come. -/
structure FsSt (T : List UInt8) (so : Option Nat) (i : Nat) (pre : List (List UInt8)) : Prop where
  le : i ≤ T.length
  came : fields T = pre ++ fields (T.drop (so.getD i))
  word : ∀ s, so = some s → s < i ∧ ∀ u y, s ≤ u → u < i → T[u]? = some y → blankB y = false

theorem FsSt.start (T : List UInt8) : FsSt T none 0 [] := ⟨Nat.zero_le _, by simp, fun s h => by cases h⟩

/-- A blank where no word stands open. -/
theorem FsSt.skip {T : List UInt8} {i : Nat} {pre : List (List UInt8)} {y : UInt8} (h : FsSt T none i pre) (hy : T[i]? = some y) (hb : blankB y = true) : FsSt T none (i + 1) pre := by
  refine ⟨(List.getElem?_eq_some_iff.1 hy).1, ?_, fun s e => by cases e⟩
  rw [h.came]
  simp only [Option.getD_none]
  rw [drop_cons hy, fields_blank _ hb]

/-- A blank behind a word: the word is handed over. -/
theorem FsSt.close {T : List UInt8} {s i : Nat} {pre : List (List UInt8)} {y : UInt8} (h : FsSt T (some s) i pre) (hy : T[i]? = some y) (hb : blankB y = true) : FsSt T none (i + 1) (pre ++ [(T.drop s).take (i - s)]) := by
  obtain ⟨h1, h2⟩ := h.word s rfl
  refine ⟨(List.getElem?_eq_some_iff.1 hy).1, ?_, fun s e => by cases e⟩
  rw [h.came]
  simp only [Option.getD_none, Option.getD_some]
  rw [word_at T s i h1 h.le h2 (Or.inr ⟨y, hy, hb⟩), drop_cons hy, fields_blank _ hb]
  simp

/-- A rune of a word. -/
theorem FsSt.step {T : List UInt8} {so : Option Nat} {i k : Nat} {pre : List (List UInt8)} (h : FsSt T so i pre) (hk : 1 ≤ k) (hle : i + k ≤ T.length) (hno : ∀ u z, i ≤ u → u < i + k → T[u]? = some z → blankB z = false) : FsSt T (some (so.getD i)) (i + k) pre := by
  refine ⟨hle, by rw [h.came]; rfl, fun s e => ?_⟩
  cases e
  cases so with
  | none => exact ⟨by simp; omega, fun u z h1 h2 => hno u z (by simpa using h1) h2⟩
  | some s =>
    obtain ⟨h1, h2⟩ := h.word s rfl
    refine ⟨by simp; omega, fun u z h3 h4 hz => ?_⟩
    by_cases hu : u < i
    · exact h2 u z h3 hu hz
    · exact hno u z (by omega) h4 hz

/-- The end. -/
theorem FsSt.ends {T : List UInt8} {pre : List (List UInt8)} (h : FsSt T none T.length pre) : fields T = pre := by
  rw [h.came]; simp [fields_nil]
theorem FsSt.last {T : List UInt8} {s : Nat} {pre : List (List UInt8)} (h : FsSt T (some s) T.length pre) : fields T = pre ++ [T.drop s] := by
  obtain ⟨h1, h2⟩ := h.word s rfl
  rw [h.came]
  simp only [Option.getD_some]
  rw [word_at T s T.length h1 (Nat.le_refl _) h2 (Or.inl rfl), List.drop_length, fields_nil, List.take_of_length_le (by simp)]

end Go.Proofs.Qxb6605907aGreatFmt
