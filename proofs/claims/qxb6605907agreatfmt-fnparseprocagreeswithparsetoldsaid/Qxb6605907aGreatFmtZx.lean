import Derived.Test.Qxb6605907aGreatFmtZo
import Derived.Test.Qxb6605907aGreatFmtZv
namespace Go.Proofs.Qxb6605907aGreatFmt
open Go.RowKit

/-! ### One line NAME:OPS, read plainly -/
theorem sx_blank (b : UInt8) : Sx.blankB b = blankB b := rfl

theorem dropWhile_stop {p : UInt8 → Bool} (a : UInt8) (ha : p a = false) : ∀ (u r : List UInt8), (u ++ a :: r).dropWhile p = u.dropWhile p ++ a :: r
  | [], r => by simp [ha]
  | b :: u, r => by
    rw [List.cons_append, List.dropWhile_cons, List.dropWhile_cons]
    split
    · exact dropWhile_stop a ha u r
    · rfl

theorem trimR_at (u : List UInt8) (a : UInt8) (r : List UInt8) (ha : Sx.blankB a = false) : Sx.trimR (u ++ a :: r) = u ++ a :: Sx.trimR r := by
  unfold Sx.trimR
  rw [List.reverse_append, List.reverse_cons, List.append_assoc, List.singleton_append, dropWhile_stop a ha]
  simp

theorem trimR_rest (l : List UInt8) : ∃ r, l = Sx.trimR l ++ r ∧ ∀ x ∈ r, blankB x = true := by
  refine ⟨(l.reverse.takeWhile Sx.blankB).reverse, ?_, fun x hx => ?_⟩
  · have h := List.takeWhile_append_dropWhile (p := Sx.blankB) (l := l.reverse)
    have h2 := congrArg List.reverse h
    rw [List.reverse_append, List.reverse_reverse] at h2
    exact h2.symm
  · rw [List.mem_reverse] at hx
    have := List.all_takeWhile (p := Sx.blankB) (l := l.reverse)
    rw [List.all_eq_true] at this
    exact this x hx

theorem fields_blanks : ∀ r : List UInt8, (∀ x ∈ r, blankB x = true) → fields r = []
  | [], _ => rfl
  | b :: r, h => by
    rw [fields_blank r (h b (by simp))]
    exact fields_blanks r (fun x hx => h x (by simp [hx]))

theorem fields_trim (r : List UInt8) (hr : ∀ x ∈ r, blankB x = true) : ∀ (n : Nat) (l : List UInt8), l.length ≤ n → fields (l ++ r) = fields l
  | 0, l, h => by
    have : l = [] := List.eq_nil_of_length_eq_zero (by omega)
    subst this
    rw [List.nil_append, fields_blanks r hr]; rfl
  | n + 1, [], _ => by rw [List.nil_append, fields_blanks r hr]; rfl
  | n + 1, b :: t, h => by
    cases hb : blankB b with
    | true =>
      rw [List.cons_append, fields_blank _ hb, fields_blank _ hb]
      exact fields_trim r hr n t (by rw [List.length_cons] at h; omega)
    | false =>
      obtain ⟨u, hu⟩ : ∃ u, (b :: t).takeWhile (fun x => !blankB x) = u := ⟨_, rfl⟩
      obtain ⟨s, hs⟩ : ∃ s, (b :: t).dropWhile (fun x => !blankB x) = s := ⟨_, rfl⟩
      have hus : b :: t = u ++ s := by rw [← hu, ← hs]; exact (List.takeWhile_append_dropWhile).symm
      have hub : u = b :: t.takeWhile (fun x => !blankB x) := by rw [← hu, List.takeWhile_cons, hb]; rfl
      have hu0 : u ≠ [] := by rw [hub]; exact List.cons_ne_nil _ _
      have huall : ∀ x ∈ u, blankB x = false := fun x hx => by
        have := List.all_takeWhile (p := fun x => !blankB x) (l := b :: t)
        rw [hu, List.all_eq_true] at this
        simpa using this x hx
      have hsb : ∀ c m, s = c :: m → blankB c = true := fun c m e => by
        have h1 : ∀ l : List UInt8, ∀ c m, l.dropWhile (fun x => !blankB x) = c :: m → blankB c = true := by
          intro l
          induction l with
          | nil => intro c m e; simp at e
          | cons y l ih =>
            intro c m e
            rw [List.dropWhile_cons] at e
            split at e
            · exact ih c m e
            · rename_i hy
              obtain ⟨rfl, _⟩ := List.cons.inj e
              simpa using hy
        exact h1 _ c m (hs.trans e)
      have hsr : ∀ c m, s ++ r = c :: m → blankB c = true := fun c m e => by
        cases s with
        | nil =>
          rw [List.nil_append] at e
          exact hr c (by rw [e]; simp)
        | cons y s' =>
          rw [List.cons_append] at e
          obtain ⟨rfl, _⟩ := List.cons.inj e
          exact hsb _ _ rfl
      have hlen : s.length ≤ n := by
        have h1 := congrArg List.length hus
        rw [List.length_append, hub, List.length_cons, List.length_cons] at h1
        rw [List.length_cons] at h
        omega
      rw [hus, List.append_assoc, fields_word u (s ++ r) hu0 huall hsr, fields_word u s hu0 huall hsb, fields_trim r hr n s hlen]

theorem fields_trimR (l : List UInt8) : fields (Sx.trimR l) = fields l := by
  obtain ⟨r, h1, h2⟩ := trimR_rest l
  conv => rhs; rw [h1]
  exact (fields_trim r h2 _ _ (Nat.le_refl _)).symm

/-- Bytes of a name. -/
theorem nameB_not {b : UInt8} (h : nameB b = true) : b ≠ 10 ∧ b ≠ 13 ∧ b ≠ 35 ∧ b ≠ 58 ∧ Sx.blankB b = false := by
  have hb := b.toNat_lt
  simp only [nameB, nameN, letterN, digitN, Bool.or_eq_true, Bool.and_eq_true, decide_eq_true_eq] at h
  have key : ∀ c : UInt8, b = c → b.toNat = c.toNat := fun c e => by rw [e]
  refine ⟨fun e => ?_, fun e => ?_, fun e => ?_, fun e => ?_, ?_⟩
  · have := key _ e; simp at this; omega
  · have := key _ e; simp at this; omega
  · have := key _ e; simp at this; omega
  · have := key _ e; simp at this; omega
  · rw [sx_blank, blankB]
    have h1 : (b == 32) = false := beq_eq_false_iff_ne.2 (fun e => by have := key _ e; simp at this; omega)
    have h2 : (b == 9) = false := beq_eq_false_iff_ne.2 (fun e => by have := key _ e; simp at this; omega)
    rw [h1, h2]; rfl

theorem isName_parts {l : List UInt8} (h : isName l = true) : ∃ a r, l = a :: r ∧ ∀ x ∈ l, nameB x = true := by
  simp only [isName, Bool.and_eq_true, List.all_eq_true] at h
  cases l with
  | nil => simp at h
  | cons a r => exact ⟨a, r, rfl, h.2⟩

theorem takeWhile_all {p : UInt8 → Bool} : ∀ l : List UInt8, (∀ x ∈ l, p x = true) → l.takeWhile p = l
  | [], _ => rfl
  | a :: l, h => by rw [List.takeWhile_cons, h a (by simp), if_pos rfl, takeWhile_all l (fun x hx => h x (by simp [hx]))]

theorem one_line {name ops : List UInt8} (hn : isName name = true) (ho : ∀ x ∈ ops, x ≠ 10 ∧ x ≠ 13 ∧ x ≠ 35) :
    Sx.entries 0 (Sx.lines (name ++ 58 :: ops)) = [(1, name ++ 58 :: Sx.trimR ops)] := by
  obtain ⟨a, r, ha, hall⟩ := isName_parts hn
  obtain ⟨T, hT⟩ : ∃ T, name ++ 58 :: ops = T := ⟨_, rfl⟩
  have hne : T ≠ [] := by rw [← hT, ha]; simp
  have hbytes : ∀ x ∈ T, x ≠ 10 ∧ x ≠ 13 ∧ x ≠ 35 := by
    intro x hx
    rw [← hT, List.mem_append, List.mem_cons] at hx
    rcases hx with hx | rfl | hx
    · have := nameB_not (hall x hx); exact ⟨this.1, this.2.1, this.2.2.1⟩
    · decide
    · exact ho x hx
  have hraw : Sx.raw T = T := takeWhile_all T (fun x hx => by simpa using (hbytes x hx).1)
  have haft : Sx.aft T = [] := by
    unfold Sx.aft
    rw [hraw]
    exact List.drop_eq_nil_of_le (by omega)
  have hsuf : Lib.trimSuffix T [13] = T := by
    unfold Lib.trimSuffix
    split
    · rename_i h
      exfalso
      have h2 : [13] <:+ T := List.isSuffixOf_iff_suffix.1 h
      have : (13 : UInt8) ∈ T := h2.subset (by simp)
      exact (hbytes 13 this).2.1 rfl
    · rfl
  have hhash : Sx.cutHash T = T := by
    unfold Sx.cutHash
    rw [if_pos]
    refine Sx.indexByte_no T 35 (fun j hj e => ?_)
    exact (hbytes 35 (List.mem_of_getElem? e)).2.2 rfl
  have hclean : Sx.clean T = name ++ 58 :: Sx.trimR ops := by
    unfold Sx.clean
    rw [hsuf, hhash]
    unfold Sx.trimB
    have hd : T.dropWhile Sx.blankB = T := by
      rw [← hT, ha, List.cons_append, List.dropWhile_cons, (nameB_not (hall a (by rw [ha]; simp))).2.2.2.2]
      rfl
    rw [hd, ← hT, trimR_at name 58 ops (by decide)]
  rw [hT, Sx.lines_step T hne, haft, Sx.lines_nil, hraw]
  unfold Sx.entries
  rw [hclean, if_neg (by simp)]
  rfl

theorem ini_not {name rest : List UInt8} (hn : isName name = true) : iniLine (name ++ 58 :: rest) = none := by
  obtain ⟨_, _, _, hall⟩ := isName_parts hn
  cases hi : iniLine (name ++ 58 :: rest) with
  | none => rfl
  | some tok =>
    exfalso
    obtain ⟨h7, hp, hb, _⟩ := iniLine_at _ _ hi
    by_cases h : 7 < name.length
    · rw [List.getElem_append_left h] at hb
      have := (nameB_not (hall name[7] (List.getElem_mem h))).2.2.2.2
      rw [sx_blank] at this
      rw [this] at hb; cases hb
    · by_cases h8 : name.length = 7
      · rw [List.getElem_append_right (by omega)] at hb
        simp only [h8, Nat.sub_self, List.getElem_cons_zero] at hb
        exact absurd hb (by decide)
      · have hlt : name.length < 7 := by omega
        have h1 : (List.take 7 (name ++ 58 :: rest))[name.length]? = some 58 := by
          rw [List.getElem?_take, if_pos hlt, List.getElem?_append_right (Nat.le_refl _), Nat.sub_self]; rfl
        rw [hp] at h1
        have h2 : (58 : UInt8) ∈ iniBytes := List.mem_of_getElem? h1
        exact absurd h2 (by decide)

theorem cut_name {name rest : List UInt8} (hn : isName name = true) : Lib.cut (name ++ 58 :: rest) [58] = (name, rest, true) := by
  obtain ⟨_, _, _, hall⟩ := isName_parts hn
  have hi : Lib.indexByte (name ++ 58 :: rest) 58 = (name.length : Int) := by
    refine Sx.indexByte_at _ 58 name.length ?_ (fun j hj e => ?_)
    · rw [List.getElem?_append_right (Nat.le_refl _), Nat.sub_self]; rfl
    · rw [List.getElem?_append_left hj] at e
      exact (nameB_not (hall 58 (List.mem_of_getElem? e))).2.2.2.1 rfl
  rw [cut_index, hi, if_pos (by omega), Int.toNat_natCast]
  simp [List.drop_append]

/-- Parse of the one line does what parseProc does. -/
theorem one_run {name ops : List UInt8} (hn : isName name = true) (ho : ∀ x ∈ ops, x ≠ 10 ∧ x ≠ 13 ∧ x ≠ 35) :
    runL ps0 (Sx.entries 0 (Sx.lines (name ++ 58 :: ops))) = (⟨[110, 105, 108], false, true, (procP [110, 105, 108] ⟨[], []⟩ name ops).1⟩, if (procP [110, 105, 108] ⟨[], []⟩ name ops).2 then none else some 1) := by
  rw [one_line hn ho]
  have hl : lineP ps0 (name ++ 58 :: Sx.trimR ops) = (⟨[110, 105, 108], false, true, (procP [110, 105, 108] ⟨[], []⟩ name ops).1⟩, (procP [110, 105, 108] ⟨[], []⟩ name ops).2) := by
    have hp : procP [110, 105, 108] ⟨[], []⟩ name (Sx.trimR ops) = procP [110, 105, 108] ⟨[], []⟩ name ops := by
      unfold procP; rw [fields_trimR]
    simp only [lineP, ini_not hn, cut_name hn, hn, Bool.and_true, if_true]
    simp only [ps0, hp]
  simp only [runL, hl]
  cases (procP [110, 105, 108] ⟨[], []⟩ name ops).2 <;> rfl

theorem one_proc (name ops : List UInt8) : (procP [110, 105, 108] ⟨[], []⟩ name ops).1.procs.map (·.1) = [name] := by
  rw [procP, runP_names]
  simp [openP, findP]

end Go.Proofs.Qxb6605907aGreatFmt
