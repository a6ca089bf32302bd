import Derived.Test.Qxb6605907aGreatFmtPl
namespace Go.Proofs.Qxb6605907aGreatFmt

/-! ### The fields of a text -/
theorem fieldsN_enough : ∀ (f g : Nat) (l : List UInt8), l.length ≤ f → l.length ≤ g → fieldsN f l = fieldsN g l
  | 0, 0, _, _, _ => rfl
  | 0, g + 1, l, hf, _ => by
    obtain rfl : l = [] := List.length_eq_zero_iff.1 (Nat.le_zero.1 hf)
    simp [fieldsN]
  | f + 1, 0, l, _, hg => by
    obtain rfl : l = [] := List.length_eq_zero_iff.1 (Nat.le_zero.1 hg)
    simp [fieldsN]
  | f + 1, g + 1, l, hf, hg => by
    simp only [fieldsN]
    by_cases h : l.dropWhile blankB = []
    · rw [if_pos h, if_pos h]
    · rw [if_neg h, if_neg h]
      have h1 : (l.dropWhile blankB).length ≤ l.length := (List.dropWhile_suffix _).length_le
      have h2 : ((l.dropWhile blankB).dropWhile (fun b => !blankB b)).length < (l.dropWhile blankB).length := by
        cases hl : l.dropWhile blankB with
        | nil => exact absurd hl h
        | cons a r =>
          have ha : blankB a = false := by
            have hn := List.head?_dropWhile_not blankB l
            rw [hl] at hn
            simpa using hn
          rw [List.dropWhile_cons, if_pos (by simp [ha])]
          have := (List.dropWhile_suffix (l := r) (fun b => !blankB b)).length_le
          simp only [List.length_cons]
          omega
      congr 1
      exact fieldsN_enough f g _ (by omega) (by omega)

theorem fields_nil : fields [] = [] := rfl

theorem fields_blank {b : UInt8} (l : List UInt8) (h : blankB b = true) : fields (b :: l) = fields l := by
  have e : fieldsN (b :: l).length (b :: l) = fieldsN (b :: l).length l := by
    simp only [List.length_cons, fieldsN, List.dropWhile_cons, h, if_true]
  unfold fields
  rw [e]
  exact fieldsN_enough _ _ _ (by simp) (Nat.le_refl _)

theorem dropWhile_all {α : Type} {p : α → Bool} : ∀ (u r : List α), (∀ x ∈ u, p x = true) → (u ++ r).dropWhile p = r.dropWhile p
  | [], _, _ => rfl
  | a :: u, r, h => by
    rw [List.cons_append, List.dropWhile_cons, if_pos (h a (by simp))]
    exact dropWhile_all u r (fun x hx => h x (List.mem_cons_of_mem _ hx))

theorem fields_word (u r : List UInt8) (h0 : u ≠ []) (hu : ∀ x ∈ u, blankB x = false) (hr : ∀ b l, r = b :: l → blankB b = true) : fields (u ++ r) = u :: fields r := by
  have hu' : ∀ x ∈ u, (fun b => !blankB b) x = true := fun x hx => by simp [hu x hx]
  have hr1 : r.takeWhile (fun b => !blankB b) = [] := by
    cases r with
    | nil => rfl
    | cons b l => simp [hr b l rfl]
  have hr2 : r.dropWhile (fun b => !blankB b) = r := by
    cases r with
    | nil => rfl
    | cons b l => simp [hr b l rfl]
  have e1 : (u ++ r).dropWhile blankB = u ++ r := by
    cases u with
    | nil => exact absurd rfl h0
    | cons a u => simp [hu a (by simp)]
  have e2 : (u ++ r).takeWhile (fun b => !blankB b) = u := by rw [List.takeWhile_append_of_pos hu', hr1, List.append_nil]
  have e3 : (u ++ r).dropWhile (fun b => !blankB b) = r := by rw [dropWhile_all u r hu', hr2]
  unfold fields
  cases hn : (u ++ r).length with
  | zero =>
    have := List.length_eq_zero_iff.1 hn
    simp at this
    exact absurd this.1 h0
  | succ n =>
    simp only [fieldsN]
    rw [e1, if_neg (by simp [h0]), e2, e3]
    congr 1
    refine fieldsN_enough _ _ _ ?_ (Nat.le_refl _)
    have : 0 < u.length := List.length_pos_iff.2 h0
    rw [List.length_append] at hn
    omega

theorem fieldsN_short : ∀ (f : Nat) (l : List UInt8), ∀ x ∈ fieldsN f l, x.length ≤ l.length
  | 0, _, x, hx => by simp [fieldsN] at hx
  | f + 1, l, x, hx => by
    simp only [fieldsN] at hx
    have h1 : (l.dropWhile blankB).length ≤ l.length := (List.dropWhile_suffix _).length_le
    split at hx
    · simp at hx
    · rcases List.mem_cons.1 hx with rfl | hx
      · have := (List.takeWhile_prefix (l := l.dropWhile blankB) (fun b => !blankB b)).length_le
        omega
      · have := fieldsN_short f _ x hx
        have h2 := (List.dropWhile_suffix (l := l.dropWhile blankB) (fun b => !blankB b)).length_le
        omega

theorem fieldsN_count : ∀ (f : Nat) (l : List UInt8), (fieldsN f l).length ≤ f
  | 0, _ => by simp [fieldsN]
  | f + 1, l => by
    simp only [fieldsN]
    split
    · simp
    · have := fieldsN_count f ((l.dropWhile blankB).dropWhile (fun b => !blankB b))
      simp only [List.length_cons]
      omega

theorem fields_short (l : List UInt8) : ∀ x ∈ fields l, x.length ≤ l.length := fieldsN_short _ l
theorem fields_count (l : List UInt8) : (fields l).length ≤ l.length := fieldsN_count _ l

/-! ### The automaton -/
def au5 (w : Bool) (v : List UInt8) : List UInt8 → List UInt8 → Option OpP
  | u, [] => some ⟨w, v, u⟩
  | u, c :: l => if valueB c then au5 w v (u ++ [c]) l else none
def au4 (w : Bool) (v : List UInt8) : List UInt8 → Option OpP
  | [] => none
  | c :: l => if valueB c then au5 w v [c] l else none
def au3 (w : Bool) : List UInt8 → List UInt8 → Option OpP
  | _, [] => none
  | v, c :: l => if c = 41 then au4 w v l else if nameB c then au3 w (v ++ [c]) l else none
def au2 (w : Bool) : List UInt8 → Option OpP
  | [] => none
  | c :: l => if letterB c then au3 w [c] l else none
def au1 (w : Bool) : List UInt8 → Option OpP
  | [] => none
  | c :: l => if c = 40 then au2 w l else none
def au0 : List UInt8 → Option OpP
  | [] => none
  | c :: l => if c = 119 then au1 true l else if c = 114 then au1 false l else none

theorem au5_eq (w : Bool) (v : List UInt8) : ∀ (l u : List UInt8), au5 w v u l = if l.all valueB then some ⟨w, v, u ++ l⟩ else none
  | [], u => by simp [au5]
  | c :: l, u => by
    simp only [au5]
    by_cases hc : valueB c = true
    · rw [if_pos hc, au5_eq w v l]; simp [hc]
    · rw [if_neg hc]; simp [hc]

theorem au4_eq (w : Bool) (v l : List UInt8) : au4 w v l = if isValue l then some ⟨w, v, l⟩ else none := by
  cases l with
  | nil => rfl
  | cons c l =>
    simp only [au4, isValue, List.isEmpty_cons, Bool.not_false, Bool.true_and, List.all_cons]
    cases hc : valueB c with
    | true => rw [if_pos rfl, au5_eq]; simp
    | false => simp

/-- 'VAR)VALUE' where what has come of VAR is v. -/
theorem au3_eq (w : Bool) : ∀ (l v : List UInt8), v.all nameB = true → au3 w v l =
    (match l.drop (l.takeWhile (· != 41)).length with
      | [] => none
      | _ :: value => if (v ++ l.takeWhile (· != 41)).all nameB && isValue value then some ⟨w, v ++ l.takeWhile (· != 41), value⟩ else none)
  | [], v, _ => by simp [au3]
  | c :: l, v, hv => by
    simp only [au3]
    by_cases hc : c = 41
    · subst hc
      simp [au4_eq, hv]
    · have h1 : (c != 41) = true := by simpa using hc
      rw [if_neg hc, List.takeWhile_cons, if_pos h1, List.length_cons, List.drop_succ_cons]
      cases hn : nameB c with
      | true =>
        rw [if_pos rfl, au3_eq w l (v ++ [c]) (by simp [hv, hn])]
        simp
      | false =>
        simp only [Bool.false_eq_true, if_false]
        cases l.drop (l.takeWhile (· != 41)).length with
        | nil => rfl
        | cons a b => simp [hn]

theorem letter_name {c : UInt8} (h : letterB c = true) : nameB c = true := by
  simp only [letterB] at h
  simp [nameB, nameN, h]

theorem au2_eq (w : Bool) (l : List UInt8) : au2 w l = tailP w l := by
  cases l with
  | nil => rfl
  | cons c l =>
    simp only [au2, tailP]
    by_cases hc : c = 41
    · subst hc
      rw [if_neg (by decide)]
      simp [isVar]
    · have h1 : (c != 41) = true := by simpa using hc
      rw [List.takeWhile_cons, if_pos h1, List.length_cons, List.drop_succ_cons]
      cases hl : letterB c with
      | true =>
        rw [if_pos rfl, au3_eq w l [c] (by simp [letter_name hl])]
        cases l.drop (l.takeWhile (· != 41)).length with
        | nil => rfl
        | cons a b => simp [isVar, isName, hl, letter_name hl]
      | false =>
        simp only [Bool.false_eq_true, if_false]
        cases l.drop (l.takeWhile (· != 41)).length with
        | nil => rfl
        | cons a b => simp [isVar, hl]

theorem au0_eq (l : List UInt8) : au0 l = opP l := by
  match l with
  | [] => rfl
  | [c] =>
    simp only [au0, au1, ite_self]
    unfold opP
    split
    · rename_i h; cases h
    · rename_i h; cases h
    · rfl
  | c :: d :: l =>
    simp only [au0, au1, au2_eq]
    by_cases h1 : c = 119
    · subst h1
      by_cases h2 : d = 40
      · subst h2; rfl
      · simp only [if_true, if_neg h2]
        unfold opP
        split
        · rename_i h; cases h; exact absurd rfl h2
        · rename_i h; cases h
        · rfl
    · by_cases h3 : c = 114
      · subst h3
        by_cases h2 : d = 40
        · subst h2; rfl
        · simp only [if_neg h2, if_neg h1, if_true]
          unfold opP
          split
          · rename_i h; cases h
          · rename_i h; cases h; exact absurd rfl h2
          · rfl
      · rw [if_neg h1, if_neg h3]
        unfold opP
        split
        · rename_i h; cases h; exact absurd rfl h1
        · rename_i h; cases h; exact absurd rfl h3
        · rfl

theorem opP_none_short {l : List UInt8} (h : l.length < 2) : opP l = none := by
  rw [← au0_eq]
  match l with
  | [] => rfl
  | [c] => simp [au0, au1]
  | _ :: _ :: _ => simp at h; omega

end Go.Proofs.Qxb6605907aGreatFmt
