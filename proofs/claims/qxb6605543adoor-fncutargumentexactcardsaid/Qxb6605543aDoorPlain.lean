/-! What the functions on the road compute, as plain functions on lists of bytes; no Go in sight. -/
namespace Go.Proofs.Qxb6605543aDoor.Cut

/-- The place of the closing quote in what follows the opening one. -/
def qend : List UInt8 → Option Nat
  | [] => none
  | c :: r =>
    if c = 34 then some 0
    else if c = 92 then
      match r with
      | [] => none
      | _ :: r' => (qend r').map (· + 2)
    else (qend r).map (· + 1)
theorem qend_hit (r : List UInt8) : qend (34 :: r) = some 0 := by cases r <;> simp [qend]
theorem qend_esc (d : UInt8) (r : List UInt8) : qend (92 :: d :: r) = (qend r).map (· + 2) := by simp [qend]
theorem qend_esc0 : qend [92] = none := by simp [qend]
theorem qend_other (c : UInt8) (r : List UInt8) (h1 : c ≠ 34) (h2 : c ≠ 92) : qend (c :: r) = (qend r).map (· + 1) := by cases r <;> simp [qend, h1, h2]

/-- What 'caQuote' writes. -/
def quote : List UInt8 → List UInt8
  | [] => []
  | c :: r => if c = 34 ∨ c = 92 then 92 :: c :: quote r else c :: quote r

theorem qend_quote (t : List UInt8) : ∀ x : List UInt8, qend (quote x ++ 34 :: t) = some (quote x).length
  | [] => by simp [quote, qend_hit]
  | c :: r => by
    have ih := qend_quote t r
    by_cases h : c = 34 ∨ c = 92
    · simp [quote, h, qend_esc, ih]
    · have h1 : c ≠ 34 := fun e => h (Or.inl e)
      have h2 : c ≠ 92 := fun e => h (Or.inr e)
      simp [quote, h1, h2, qend_other, ih]

theorem quote_len_le : ∀ x : List UInt8, (quote x).length ≤ 2 * x.length
  | [] => by simp [quote]
  | c :: r => by
    have ih := quote_len_le r
    by_cases h : c = 34 ∨ c = 92 <;> simp [quote, h] <;> omega

theorem quote_snoc (c : UInt8) : ∀ l : List UInt8, quote (l ++ [c]) = quote l ++ (if c = 34 ∨ c = 92 then [92, c] else [c])
  | [] => by by_cases h : c = 34 ∨ c = 92 <;> simp [quote, h]
  | d :: r => by
    have ih := quote_snoc c r
    by_cases h : d = 34 ∨ d = 92 <;> simp [quote, h, ih]

/-- What 'caContent' answers. -/
def content (o : Bool) : List UInt8 → Bool
  | [] => true
  | c :: r =>
    if c = 34 then false
    else if c = 92 then
      match r with
      | [] => o
      | _ :: r' => content o r'
    else content o r
theorem content_hit (o : Bool) (r : List UInt8) : content o (34 :: r) = false := by cases r <;> simp [content]
theorem content_esc (o : Bool) (d : UInt8) (r : List UInt8) : content o (92 :: d :: r) = content o r := by simp [content]
theorem content_esc0 (o : Bool) : content o [92] = o := by simp [content]
theorem content_other (o : Bool) (c : UInt8) (r : List UInt8) (h1 : c ≠ 34) (h2 : c ≠ 92) : content o (c :: r) = content o r := by cases r <;> simp [content, h1, h2]

theorem content_of_some : ∀ (n : Nat) (l : List UInt8) (k : Nat), l.length ≤ n → qend l = some k → content false (l.take k) = true ∧ l[k]? = some 34
  | 0, l, k, hn, h => by
    have : l = [] := List.length_eq_zero_iff.1 (by omega)
    subst this; simp [qend] at h
  | n + 1, [], k, hn, h => by simp [qend] at h
  | n + 1, c :: r, k, hn, h => by
    by_cases h1 : c = 34
    · subst h1; rw [qend_hit] at h; cases h; simp [content]
    by_cases h2 : c = 92
    · subst h2
      cases r with
      | nil => simp [qend_esc0] at h
      | cons d r =>
        rw [qend_esc] at h
        obtain ⟨j, hj, rfl⟩ := Option.map_eq_some_iff.1 h
        have ih := content_of_some n r j (by simp at hn; omega) hj
        simp [content_esc, ih.1, ih.2]
    · rw [qend_other c r h1 h2] at h
      obtain ⟨j, hj, rfl⟩ := Option.map_eq_some_iff.1 h
      have ih := content_of_some n r j (by simp at hn; omega) hj
      simp [content_other false c _ h1 h2, ih.1, ih.2]

theorem content_of_none : ∀ (n : Nat) (l : List UInt8), l.length ≤ n → qend l = none → content true l = true
  | 0, l, hn, _ => by
    have : l = [] := List.length_eq_zero_iff.1 (by omega)
    subst this; simp [content]
  | n + 1, [], _, _ => by simp [content]
  | n + 1, c :: r, hn, h => by
    by_cases h1 : c = 34
    · subst h1; rw [qend_hit] at h; cases h
    by_cases h2 : c = 92
    · subst h2
      cases r with
      | nil => simp [content_esc0]
      | cons d r =>
        rw [qend_esc] at h
        have hj := Option.map_eq_none_iff.1 h
        simp [content_esc, content_of_none n r (by simp at hn; omega) hj]
    · rw [qend_other c r h1 h2] at h
      have hj := Option.map_eq_none_iff.1 h
      simp [content_other true c _ h1 h2, content_of_none n r (by simp at hn; omega) hj]

end Go.Proofs.Qxb6605543aDoor.Cut
