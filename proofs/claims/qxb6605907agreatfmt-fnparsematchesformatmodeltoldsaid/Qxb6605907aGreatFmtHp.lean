import Derived.Test.Qxb6605907aGreatFmtSt0
namespace Go.Proofs.Qxb6605907aGreatFmt
open Go.RowKit

theorem baOf_inj {a b : List UInt8} : (baOf a = baOf b) ↔ a = b := by
  constructor
  · intro h
    have := congrArg (fun x : ByteArray => x.data.toList) h
    simpa [baOf] using this
  · rintro rfl; rfl

/-- The index of names, as the two maps hold it. -/
def idxOf : Nat → List (List UInt8) → List (ByteArray × Value)
  | _, [] => []
  | k, n :: r => (baOf n, .int .i64 (k : Int)) :: idxOf (k + 1) r

theorem idxOf_snoc (x : List UInt8) : ∀ (k : Nat) (l : List (List UInt8)), idxOf k (l ++ [x]) = idxOf k l ++ [(baOf x, .int .i64 ((k + l.length : Nat) : Int))]
  | k, [] => rfl
  | k, n :: r => by
    simp only [List.cons_append, idxOf, List.length_cons]
    rw [idxOf_snoc x (k + 1) r]
    simp only [List.cons.injEq, true_and]
    congr 4
    omega

theorem idxOf_find (x : List UInt8) : ∀ (k j : Nat) (l : List (List UInt8)), findE (baOf x) (idxOf k l) j = (l.findIdx? (· == x)).map (fun i => (j + i, .int .i64 ((k + i : Nat) : Int)))
  | k, j, [] => rfl
  | k, j, n :: r => by
    simp only [idxOf, findE, List.findIdx?_cons, baOf_inj]
    by_cases h : n = x
    · subst h; simp
    · rw [if_neg h, idxOf_find x (k + 1) (j + 1) r]
      have : (n == x) = false := by simpa using h
      rw [this]
      simp only [Bool.false_eq_true, if_false, Option.map_map]
      congr 1
      funext i
      simp only [Function.comp, Prod.mk.injEq, Value.int.injEq, true_and]
      exact ⟨by omega, by congr 1; omega⟩

theorem idxOf_length : ∀ (k : Nat) (l : List (List UInt8)), (idxOf k l).length = l.length
  | _, [] => rfl
  | k, n :: r => by simp [idxOf, idxOf_length (k + 1) r]

/-- The pairs written, as the model's map holds them. -/
def wrOf (l : List (List UInt8 × List UInt8)) : List (ByteArray × Value) := l.map (fun p => (baOf (p.1 ++ 41 :: p.2), .bool true))

theorem split_41 {a b c d : List UInt8} (ha : (41 : UInt8) ∉ a) (hc : (41 : UInt8) ∉ c) (h : a ++ 41 :: b = c ++ 41 :: d) : a = c ∧ b = d := by
  induction a generalizing c with
  | nil =>
    cases c with
    | nil => simp at h; exact ⟨rfl, h⟩
    | cons y c =>
      simp at h
      exact absurd (by rw [← h.1]; simp) hc
  | cons x a ih =>
    cases c with
    | nil =>
      simp at h
      exact absurd (by rw [h.1]; simp) ha
    | cons y c =>
      simp only [List.cons_append, List.cons.injEq] at h
      have := ih (c := c) (fun hm => ha (List.mem_cons_of_mem _ hm)) (fun hm => hc (List.mem_cons_of_mem _ hm)) h.2
      exact ⟨by rw [h.1, this.1], this.2⟩

theorem wrOf_find (v u : List UInt8) (hv : (41 : UInt8) ∉ v) : ∀ (l : List (List UInt8 × List UInt8)) (j : Nat), (∀ p ∈ l, (41 : UInt8) ∉ p.1) →
    (l.contains (v, u) = true → ∃ i, findE (baOf (v ++ 41 :: u)) (wrOf l) j = some (i, .bool true)) ∧ (l.contains (v, u) = false → findE (baOf (v ++ 41 :: u)) (wrOf l) j = none)
  | [], j, _ => ⟨fun h => by simp at h, fun _ => rfl⟩
  | p :: r, j, hp => by
    have ih := wrOf_find v u hv r (j + 1) (fun q hq => hp q (List.mem_cons_of_mem _ hq))
    simp only [wrOf, List.map_cons, findE, baOf_inj]
    by_cases h : p = (v, u)
    · subst h
      refine ⟨fun _ => ⟨j, by simp⟩, fun hc => ?_⟩
      simp at hc
    · have hne : ¬ (p.1 ++ 41 :: p.2 = v ++ 41 :: u) := fun e => by
        have := split_41 (hp p (by simp)) hv e
        exact h (Prod.ext this.1 this.2)
      rw [if_neg hne]
      have hc : (p :: r).contains (v, u) = r.contains (v, u) := by
        rw [List.contains_cons]
        have : ((v, u) == p) = false := by simp only [beq_eq_false_iff_ne, ne_eq]; exact fun e => h e.symm
        rw [this, Bool.false_or]
      rw [hc]
      exact ih

theorem isVar_no41 {v : List UInt8} (h : isVar v = true) : (41 : UInt8) ∉ v := by
  intro hm
  simp only [isVar, isName, Bool.and_eq_true] at h
  have := (List.all_eq_true.1 h.2.2) 41 hm
  exact absurd this (by decide)

theorem tailP_var {w : Bool} {l : List UInt8} {o : OpP} (h : tailP w l = some o) : isVar o.v = true ∧ o.write = w := by
  simp only [tailP] at h
  split at h
  · cases h
  · split at h
    · rename_i h2
      cases h
      simp only [Bool.and_eq_true] at h2
      exact ⟨h2.1, rfl⟩
    · cases h

theorem opP_no41 {l : List UInt8} {o : OpP} (h : opP l = some o) : (41 : UInt8) ∉ o.v := by
  unfold opP at h
  split at h
  · exact isVar_no41 (tailP_var h).1
  · exact isVar_no41 (tailP_var h).1
  · cases h

theorem tailP_short {w : Bool} {l : List UInt8} {o : OpP} (h : tailP w l = some o) : o.v.length + o.value.length ≤ l.length := by
  simp only [tailP] at h
  have hp := (List.takeWhile_prefix (l := l) (fun x => x != 41)).length_le
  split at h
  · cases h
  · rename_i a value hd
    have hl := congrArg List.length hd
    rw [List.length_drop, List.length_cons] at hl
    split at h
    · cases h
      dsimp only
      omega
    · cases h
theorem opP_short {l : List UInt8} {o : OpP} (h : opP l = some o) : o.v.length + o.value.length ≤ l.length := by
  unfold opP at h
  split at h
  · have := tailP_short h; simp only [List.length_cons]; omega
  · have := tailP_short h; simp only [List.length_cons]; omega
  · cases h

/-- A history that is well made, and its bounds. -/
structure HOk (h : HP) (c : Nat) : Prop where
  count : h.procs.length ≤ c
  each : ∀ p ∈ h.procs, p.2.length ≤ c
  no41 : ∀ q ∈ h.written, (41 : UInt8) ∉ q.1

theorem HOk.mono {h : HP} {c d : Nat} (k : HOk h c) (hcd : c ≤ d) : HOk h d := ⟨Nat.le_trans k.count hcd, fun p hp => Nat.le_trans (k.each p hp) hcd, k.no41⟩

theorem HOk.add {h : HP} {c i : Nat} {o : OpP} (k : HOk h c) (ho : (41 : UInt8) ∉ o.v) : HOk (addOp h i o) (c + 1) := by
  refine ⟨by simp [addOp]; exact Nat.le_succ_of_le k.count, fun p hp => ?_, fun q hq => ?_⟩
  · simp only [addOp] at hp
    rw [List.mem_iff_getElem?] at hp
    obtain ⟨j, hj⟩ := hp
    rw [List.getElem?_modify] at hj
    cases hx : h.procs[j]? with
    | none => rw [hx] at hj; simp at hj
    | some q =>
      rw [hx] at hj
      simp only [Option.map_eq_map, Option.map_some, Option.some.injEq] at hj
      have hq := k.each q (List.mem_of_getElem? hx)
      split at hj
      · subst hj; simp; exact hq
      · subst hj; exact Nat.le_succ_of_le hq
  · simp only [addOp] at hq
    split at hq
    · rcases List.mem_append.1 hq with h1 | h1
      · exact k.no41 q h1
      · rw [List.mem_singleton] at h1
        subst h1
        exact ho
    · exact k.no41 q hq

theorem findP_names (procs : List (List UInt8 × List OpP)) (name : List UInt8) : findP procs name = (procs.map (·.1)).findIdx? (· == name) := by
  rw [findP, List.findIdx?_map]
  rfl

theorem openP_lt (h : HP) (name : List UInt8) : (openP h name).1 < (openP h name).2.procs.length := by
  unfold openP
  split
  · rename_i i hi
    exact (List.findIdx?_eq_some_iff_getElem.1 hi).1
  · simp

theorem HOk.opened {h : HP} {c : Nat} (k : HOk h c) (name : List UInt8) : HOk (openP h name).2 (c + 1) := by
  unfold openP
  split
  · exact k.mono (Nat.le_succ _)
  · refine ⟨by simp; exact k.count, fun p hp => ?_, k.no41⟩
    simp only [List.mem_append, List.mem_singleton] at hp
    rcases hp with hp | rfl
    · exact Nat.le_succ_of_le (k.each p hp)
    · simp

theorem addOp_names (h : HP) (i : Nat) (o : OpP) : (addOp h i o).procs.map (·.1) = h.procs.map (·.1) := by
  apply List.ext_getElem?
  intro j
  simp only [addOp, List.getElem?_map, List.getElem?_modify]
  cases h.procs[j]? with
  | none => rfl
  | some p =>
    simp only [Option.map_some, Option.map_eq_map, Option.some.injEq]
    split <;> rfl

theorem addOp_ops (h : HP) (i : Nat) (o : OpP) (os : List OpP) (hi : (h.procs.map (·.2))[i]? = some os) : (addOp h i o).procs.map (·.2) = (h.procs.map (·.2)).set i (os ++ [o]) := by
  apply List.ext_getElem?
  intro j
  have hlt := (List.getElem?_eq_some_iff.1 hi).1
  simp only [addOp, List.getElem?_map, List.getElem?_modify]
  by_cases hj : i = j
  · subst hj
    rw [List.getElem?_set_self hlt]
    rw [List.getElem?_map] at hi
    cases hx : h.procs[i]? with
    | none => rw [hx] at hi; cases hi
    | some p =>
      rw [hx] at hi
      simp only [Option.map_some, Option.some.injEq] at hi
      simp [hi]
  · rw [List.getElem?_set_ne hj, List.getElem?_map]
    cases h.procs[j]? with
    | none => rfl
    | some p => simp [hj]

theorem addOp_len (h : HP) (i : Nat) (o : OpP) : (addOp h i o).procs.length = h.procs.length := by simp [addOp]

/-- The model holds this history. -/
def MOk (B C : Nat) (w : World) (m im wm : Nat) (init : List UInt8) (h : HP) : Prop :=
  ∃ nv ov L, MSt B C w m im wm (baOf init) nv ov (h.procs.map (·.1)) (h.procs.map (·.2)) L (idxOf 0 (h.procs.map (·.1))) (wrOf h.written)

theorem MOk.keepT {B C : Nat} {w w1 : World} {m im wm : Nat} {init : List UInt8} {h : HP} (k : MOk B C w m im wm init h) {Ts S : List Nat} (hk : KeepsT B Ts S w w1) (hT : ∀ t ∈ mTs, t ∉ Ts) (h1 : im ∉ S) (h2 : wm ∉ S) : MOk B C w1 m im wm init h := by
  obtain ⟨nv, ov, L, hs⟩ := k
  exact ⟨nv, ov, L, hs.keepT hk hT h1 h2⟩

end Go.Proofs.Qxb6605907aGreatFmt
