import Derived.Lib.SlTrimSet
/-! What the functions on the road compute, as plain functions on lists of bytes, and why the two writings agree; no Go in sight. -/
namespace Go.Proofs.Qxb6606170aDoor.Dec

def isD (c : UInt8) : Bool := decide (48 ≤ c.toNat) && decide (c.toNat ≤ 57)
def dig (l : List UInt8) : List UInt8 := l.takeWhile isD
def rst (l : List UInt8) : List UInt8 := l.dropWhile isD
def zs (n : Nat) : List UInt8 := List.replicate n 48
def cutZ (l : List UInt8) : List UInt8 := Lib.trimLeftS l [48]
def trimZ (l : List UInt8) : List UInt8 := Lib.trimRightS l [48]

theorem dig_rst (l : List UInt8) : dig l ++ rst l = l := List.takeWhile_append_dropWhile
theorem cutZ_eq (l : List UInt8) : cutZ l = l.dropWhile (· == 48) := by
  unfold cutZ Lib.trimLeftS; congr 1; funext b; exact Lib.contains_one 48 b
theorem trimZ_eq (l : List UInt8) : trimZ l = (l.reverse.dropWhile (· == 48)).reverse := by
  unfold trimZ Lib.trimRightS; congr 2; funext b; exact Lib.contains_one 48 b

/-- Nothing, or no zero at the end. -/
def NoTail (l : List UInt8) : Prop := ∀ c r, l.reverse = c :: r → c ≠ 48

theorem dropWhile_zs (l : List UInt8) : ∀ n, (zs n ++ l).dropWhile (· == 48) = l.dropWhile (· == 48)
  | 0 => rfl
  | n + 1 => by
    have ih := dropWhile_zs l n
    show (48 :: (zs n ++ l)).dropWhile (· == 48) = _
    rw [List.dropWhile_cons]; simpa using ih
theorem zs_reverse (n : Nat) : (zs n).reverse = zs n := List.reverse_replicate

theorem trimZ_of (u : List UInt8) (n : Nat) (h : NoTail u) : trimZ (u ++ zs n) = u := by
  rw [trimZ_eq, List.reverse_append, zs_reverse, dropWhile_zs]
  cases hr : u.reverse with
  | nil =>
    have : u = [] := by simpa using hr
    subst this; rfl
  | cons c r =>
    have hc := h c r hr
    rw [List.dropWhile_cons, if_neg (by simpa using hc), ← hr, List.reverse_reverse]

theorem dropWhile_split : ∀ l : List UInt8, ∃ n, l = zs n ++ l.dropWhile (· == 48) ∧ (∀ c r, l.dropWhile (· == 48) = c :: r → c ≠ 48)
  | [] => ⟨0, rfl, fun c r h => by cases h⟩
  | a :: l => by
    by_cases h : a = 48
    · subst h
      obtain ⟨n, h1, h2⟩ := dropWhile_split l
      refine ⟨n + 1, ?_, ?_⟩
      · rw [List.dropWhile_cons, if_pos (by rfl)]
        show 48 :: l = 48 :: (zs n ++ _)
        rw [← h1]
      · rw [List.dropWhile_cons, if_pos (by rfl)]; exact h2
    · refine ⟨0, ?_, ?_⟩
      · rw [List.dropWhile_cons, if_neg (by simpa using h)]; rfl
      · rw [List.dropWhile_cons, if_neg (by simpa using h)]
        intro c r e; cases e; exact h

theorem trimZ_split (l : List UInt8) : ∃ n, l = trimZ l ++ zs n ∧ NoTail (trimZ l) := by
  obtain ⟨n, h1, h2⟩ := dropWhile_split l.reverse
  refine ⟨n, ?_, ?_⟩
  · have := congrArg List.reverse h1
    rw [List.reverse_reverse, List.reverse_append, zs_reverse] at this
    rw [trimZ_eq]; exact this
  · intro c r h
    rw [trimZ_eq, List.reverse_reverse] at h
    exact h2 c r h

theorem NoTail.left (a : List UInt8) {u : List UInt8} (h : NoTail u) (hu : u ≠ []) : NoTail (a ++ u) := by
  intro c r e
  rw [List.reverse_append] at e
  cases hr : u.reverse with
  | nil => exact absurd (by simpa using hr) hu
  | cons d s =>
    rw [hr] at e
    cases e
    exact h _ _ hr
theorem NoTail.drop {u : List UInt8} (h : NoTail u) (k : Nat) : NoTail (u.drop k) := by
  intro c r e
  refine h c (r ++ (u.take k).reverse) ?_
  have : u.reverse = (u.drop k).reverse ++ (u.take k).reverse := by rw [← List.reverse_append, List.take_append_drop]
  rw [this, e]; rfl

/-- What 'zzFormat' writes. -/
def fmtIp (s : List UInt8) (n : Nat) : List UInt8 := if n < s.length then s.take (s.length - n) else [48]
def fmtFp (s : List UInt8) (n : Nat) : List UInt8 := if n < s.length then s.drop (s.length - n) else zs (n - s.length) ++ s
def fmtD (d : List UInt8) (e : Int) : List UInt8 :=
  if cutZ d = [] then [48]
  else if 0 ≤ e then cutZ d ++ zs e.toNat
  else if trimZ (fmtFp (cutZ d) (-e).toNat) = [] then fmtIp (cutZ d) (-e).toNat
  else fmtIp (cutZ d) (-e).toNat ++ [46] ++ trimZ (fmtFp (cutZ d) (-e).toNat)

/-- What 'plain' writes. -/
def plainD (ds : List UInt8) (p : Int) : List UInt8 :=
  if p ≤ 0 then [48, 46] ++ zs (-p).toNat ++ ds
  else if (ds.length : Int) ≤ p then ds ++ zs (p - ds.length).toNat
  else ds.take p.toNat ++ [46] ++ ds.drop p.toNat

/-- What 'Plain' writes of whole, fraction and scale. -/
def point (W F : List UInt8) (x : Int) : Int := (W.length : Int) + x - (((W ++ F).length : Int) - ((cutZ (W ++ F)).length : Int))
def PlainD (W F : List UInt8) (x : Int) : List UInt8 :=
  if trimZ (cutZ (W ++ F)) = [] then [48] else plainD (trimZ (cutZ (W ++ F))) (point W F x)

theorem zs_add (a b : Nat) : zs a ++ zs b = zs (a + b) := by simp [zs]
theorem zs_len (n : Nat) : (zs n).length = n := by simp [zs]
theorem trimZ_zs (n : Nat) : trimZ (zs n) = [] := by
  have := trimZ_of [] n (fun c r h => by cases h)
  simpa using this

/-- The one writing is the other. -/
theorem writes_agree (s ds : List UInt8) (t : Nat) (e : Int) (hs : s = ds ++ zs t) (hn : NoTail ds) (hne : ds ≠ []) :
    plainD ds ((s.length : Int) + e) = (if 0 ≤ e then s ++ zs e.toNat
      else if trimZ (fmtFp s (-e).toNat) = [] then fmtIp s (-e).toNat else fmtIp s (-e).toNat ++ [46] ++ trimZ (fmtFp s (-e).toNat)) := by
  have hlen : s.length = ds.length + t := by rw [hs, List.length_append, zs_len]
  have hpos : 0 < ds.length := List.length_pos_iff.2 hne
  by_cases he : 0 ≤ e
  · rw [if_pos he]
    unfold plainD
    rw [if_neg (by omega), if_pos (by omega), show ((s.length : Int) + e - ds.length).toNat = t + e.toNat by omega, ← zs_add, ← List.append_assoc, ← hs]
  · rw [if_neg he]
    obtain ⟨n, hn'⟩ : ∃ n : Nat, e = -(n : Int) := ⟨(-e).toNat, by omega⟩
    have en : (-e).toNat = n := by omega
    rw [en]
    by_cases h1 : n < s.length
    · have ei : fmtIp s n = s.take (s.length - n) := by unfold fmtIp; rw [if_pos h1]
      have ef : fmtFp s n = s.drop (s.length - n) := by unfold fmtFp; rw [if_pos h1]
      obtain ⟨k, hk⟩ : ∃ k, k = s.length - n := ⟨_, rfl⟩
      rw [ei, ef, ← hk]
      have hp : (s.length : Int) + e = (k : Int) := by omega
      rw [hp]
      by_cases h2 : ds.length ≤ k
      · have ed : s.drop k = zs (t - (k - ds.length)) := by
          rw [hs, List.drop_append, List.drop_eq_nil_of_le h2, List.nil_append]
          simp [zs, List.drop_replicate]
        have et : s.take k = ds ++ zs (k - ds.length) := by
          rw [hs, List.take_append, List.take_of_length_le h2]
          simp only [zs, List.take_replicate]
          congr 2; omega
        rw [ed, trimZ_zs, if_pos rfl, et]
        unfold plainD
        rw [if_neg (by omega), if_pos (by omega)]
        congr 2; omega
      · have ed : s.drop k = ds.drop k ++ zs t := by rw [hs, List.drop_append_of_le_length (by omega)]
        have et : s.take k = ds.take k := by rw [hs, List.take_append_of_le_length (by omega)]
        have hd : ds.drop k ≠ [] := by
          intro h
          have := congrArg List.length h
          rw [List.length_drop] at this; simp at this; omega
        rw [ed, trimZ_of _ t (hn.drop k), if_neg hd, et]
        unfold plainD
        rw [if_neg (by omega), if_neg (by omega)]
        simp
    · have ei : fmtIp s n = [48] := by unfold fmtIp; rw [if_neg h1]
      have ef : fmtFp s n = zs (n - s.length) ++ s := by unfold fmtFp; rw [if_neg h1]
      have e2 : trimZ (zs (n - s.length) ++ s) = zs (n - s.length) ++ ds := by
        rw [hs, ← List.append_assoc]
        exact trimZ_of _ t (hn.left _ hne)
      have h3 : zs (n - s.length) ++ ds ≠ [] := fun h => hne (List.append_eq_nil_iff.1 h).2
      rw [ei, ef, e2, if_neg h3]
      unfold plainD
      rw [if_pos (by omega)]
      have : (-((s.length : Int) + e)).toNat = n - s.length := by omega
      rw [this]; simp

theorem PlainD_eq (W F : List UInt8) (x : Int) : PlainD W F x = fmtD (W ++ F) (x - F.length) := by
  obtain ⟨t, h1, h2⟩ := trimZ_split (cutZ (W ++ F))
  have hp : point W F x = ((cutZ (W ++ F)).length : Int) + (x - F.length) := by
    unfold point; rw [List.length_append]; push_cast; omega
  unfold PlainD fmtD
  by_cases h3 : trimZ (cutZ (W ++ F)) = []
  · rw [if_pos h3]
    -- all zeros, and none leads: nothing is left
    have h4 : cutZ (W ++ F) = [] := by
      rw [h3, List.nil_append] at h1
      obtain ⟨n, _, g2⟩ := dropWhile_split (W ++ F)
      rw [← cutZ_eq] at g2
      cases hc : cutZ (W ++ F) with
      | nil => rfl
      | cons c r =>
        have := g2 c r hc
        rw [hc] at h1
        cases t with
        | zero => cases h1
        | succ t => exact absurd (by have e := (List.cons.inj h1).1; exact e) this
    rw [if_pos h4]
  · rw [if_neg h3]
    have h4 : cutZ (W ++ F) ≠ [] := by
      intro h
      rw [h] at h3
      exact h3 (by rw [trimZ_eq]; rfl)
    rw [if_neg h4, hp]
    exact writes_agree _ _ t _ h1 h2 h3
end Go.Proofs.Qxb6606170aDoor.Dec
