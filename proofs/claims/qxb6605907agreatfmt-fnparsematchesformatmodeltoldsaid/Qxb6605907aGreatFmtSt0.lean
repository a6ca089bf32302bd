import Derived.Test.Qxb6605907aGreatFmtOm
import Derived.Test.Qxb6605907aGreatFmtMk
import Derived.Deep.AppendLies
import Derived.RangeFuncNested
namespace Go.Proofs.Qxb6605907aGreatFmt
open Go.RowKit

/-- Old blocks under other tags are as they were, and so is whatever is no cells but what S lists. -/
structure KeepsT (B : Nat) (Ts S : List Nat) (w w' : World) : Prop where
  os : w'.os = w.os
  tape : w'.tape = w.tape
  output : w'.output = w.output
  size : w.heap.size ≤ w'.heap.size
  cells : ∀ (k : Nat) (cs : Array Value) (T : TypeId) (fr : Nat × Nat), w.heap[k]? = some (.cells cs T fr) → T ∉ Ts → w'.heap[k]? = some (.cells cs T fr)
  other : ∀ (k : Nat) (o : Obj), w.heap[k]? = some o → o.isCells = false → k ∉ S → w'.heap[k]? = some o
  low : ∀ k, k < B → k < w.heap.size → w'.heap[k]? = w.heap[k]?

section
variable {B : Nat} {Ts S : List Nat} {w w' w'' : World}

theorem KeepsT.refl (B : Nat) (Ts S : List Nat) (w : World) : KeepsT B Ts S w w := ⟨rfl, rfl, rfl, Nat.le_refl _, fun _ _ _ _ h _ => h, fun _ _ h _ _ => h, fun _ _ _ => rfl⟩

theorem KeepsT.trans (h : KeepsT B Ts S w w') (k : KeepsT B Ts S w' w'') : KeepsT B Ts S w w'' :=
  ⟨k.os.trans h.os, k.tape.trans h.tape, k.output.trans h.output, Nat.le_trans h.size k.size,
    fun i cs T fr hi hT => k.cells i cs T fr (h.cells i cs T fr hi hT) hT, fun i o hi ho hS => k.other i o (h.other i o hi ho hS) ho hS,
    fun i hi hs => (k.low i hi (Nat.lt_of_lt_of_le hs h.size)).trans (h.low i hi hs)⟩

theorem KeepsT.mono {Ts' S' : List Nat} (h : KeepsT B Ts S w w') (hT : ∀ t ∈ Ts, t ∈ Ts') (hS : ∀ t ∈ S, t ∈ S') : KeepsT B Ts' S' w w' :=
  ⟨h.os, h.tape, h.output, h.size, fun i cs T fr hi hn => h.cells i cs T fr hi (fun hm => hn (hT _ hm)), fun i o hi ho hn => h.other i o hi ho (fun hm => hn (hS _ hm)), h.low⟩

theorem lt_of_get {w : World} {k : Nat} {o : Obj} (h : w.heap[k]? = some o) : k < w.heap.size := (Array.getElem?_eq_some_iff.1 h).1

theorem KeepsT.of_below {C : Nat} (h : Below C w w') (hB : w.heap.size ≤ C) : KeepsT B Ts S w w' :=
  ⟨h.os, h.tape, h.output, h.size, fun i _ _ _ hi _ => (h.block i (Nat.lt_of_lt_of_le (lt_of_get hi) hB)).trans hi,
    fun i _ hi _ _ => (h.block i (Nat.lt_of_lt_of_le (lt_of_get hi) hB)).trans hi, fun i _ hs => h.block i (Nat.lt_of_lt_of_le hs hB)⟩

theorem KeepsT.drewN (h : KeepsT B Ts S w w') (n : Nat) : KeepsT B Ts S w (w'.drewN n) := ⟨h.os, h.tape, h.output, h.size, h.cells, h.other, h.low⟩
theorem KeepsT.drew (h : KeepsT B Ts S w w') : KeepsT B Ts S w w'.drew := ⟨h.os, h.tape, h.output, h.size, h.cells, h.other, h.low⟩

theorem KeepsT.alloc (h : KeepsT B Ts S w w') (o : Obj) : KeepsT B Ts S w (w'.alloc o) :=
  h.trans (KeepsT.of_below ((Below.refl w'.heap.size w').alloc (Nat.le_refl _) o) (Nat.le_refl _))

theorem KeepsT.setCell {g i : Nat} {cs : Array Value} {t : TypeId} {fr : Nat × Nat} (h : KeepsT B Ts S w w') (hg : w'.heap[g]? = some (.cells cs t fr)) (ht : t ∈ Ts) (hB : B ≤ g) (v : Value) : KeepsT B Ts S w (w'.setCell ⟨g, i, none⟩ v) := by
  refine h.trans ⟨rfl, rfl, rfl, by simp, fun k cs' T fr' hk hT => ?_, fun k o hk ho _ => ?_, fun k hk _ => Below.heap_setCell w' ⟨g, i, none⟩ v k (fun e => by dsimp only at e; omega)⟩
  · refine (Below.heap_setCell w' ⟨g, i, none⟩ v k ?_).trans hk
    rintro rfl
    rw [hg] at hk
    cases hk
    exact hT ht
  · refine (Below.heap_setCell w' ⟨g, i, none⟩ v k ?_).trans hk
    rintro rfl
    rw [hg] at hk
    cases hk
    cases ho

/-- A step that turns one block of cells. -/
theorem KeepsT.grown {row : Option Nat} (hg : w.grownBy w' row) (hr : ∀ g, row = some g → ∃ cs t fr, w.heap[g]? = some (.cells cs t fr) ∧ t ∈ Ts ∧ B ≤ g) : KeepsT B Ts S w w' := by
  refine ⟨hg.os, hg.tape, hg.output, hg.size, fun k cs T fr hk hT => (hg.block k (lt_of_get hk) ?_).trans hk, fun k o hk ho _ => (hg.block k (lt_of_get hk) ?_).trans hk, fun k hk hs => hg.block k hs (fun e => by obtain ⟨_, _, _, _, _, h3⟩ := hr k e.symm; omega)⟩
  · intro e
    obtain ⟨cs', t, fr', h1, h2, _⟩ := hr k e.symm
    rw [hk] at h1
    cases h1
    exact hT h2
  · intro e
    obtain ⟨cs', t, fr', h1, h2, _⟩ := hr k e.symm
    rw [hk] at h1
    cases h1
    cases ho

/-- A step that turns one map. -/
theorem KeepsT.mapped {b : Nat} {o : Obj} (hg : w.grownBy w' (some b)) (hb : w.heap[b]? = some o) (ho : o.isCells = false) (hS : b ∈ S) (hB : B ≤ b) : KeepsT B Ts S w w' := by
  refine ⟨hg.os, hg.tape, hg.output, hg.size, fun k cs T fr hk _ => (hg.block k (lt_of_get hk) ?_).trans hk, fun k o' hk _ hn => (hg.block k (lt_of_get hk) ?_).trans hk, fun k hk hs => hg.block k hs (fun e => by cases e; omega)⟩
  · intro e
    cases e
    rw [hk] at hb
    cases hb
    cases ho
  · intro e
    cases e
    exact hn hS

theorem ownsRow_block {B e size n : Nat} {v : Value} {xs : List Value} (h : w.ownsRow B e size v n xs) (hk : ∀ g, v.ownBlock = some g → w'.heap[g]? = w.heap[g]?) : w'.ownsRow B e size v n xs := by
  refine ⟨h.1, ?_⟩
  rcases h.2 with h1 | ⟨g, cap, cur, h1, h2, h3, h4⟩
  · exact Or.inl h1
  · exact Or.inr ⟨g, cap, cur, h1, h2, by rw [hk g (by rw [h1]; rfl)]; exact h3, h4⟩

theorem ownsRow_own {C e size n : Nat} {v : Value} {xs : List Value} (h : w.ownsRow C e size v n xs) {g : Nat} (hg : v.ownBlock = some g) : ∃ cs, w.heap[g]? = some (.cells cs e (0, 0)) ∧ C ≤ g := by
  rcases h.2 with ⟨rfl, _⟩ | ⟨g', cap, cur, rfl, h2, h3, h4⟩
  · exact absurd hg (by simp [Value.ownBlock])
  · obtain rfl : g' = g := Option.some.inj hg
    exact ⟨cur, h3, h2⟩

theorem ownsRow_keepsT {C e size n : Nat} {v : Value} {xs : List Value} (h : w.ownsRow C e size v n xs) (k : KeepsT B Ts S w w') (he : e ∉ Ts) : w'.ownsRow C e size v n xs :=
  ownsRow_block h (fun g hg => by
    obtain ⟨cs, hc, _⟩ := ownsRow_own h hg
    rw [hc, k.cells g _ _ _ hc he])

theorem MapS.keepsT {b : Nat} {E : List (ByteArray × Value)} (h : MapS w b E) (k : KeepsT B Ts S w w') (hb : b ∉ S) : MapS w' b E := by
  obtain ⟨es, clock, h1, h2⟩ := h
  exact ⟨es, clock, k.other b _ h1 rfl hb, h2⟩

theorem MapK.keepsT {b : Nat} {E : List (WKey × Value)} (h : MapK w b E) (k : KeepsT B Ts S w w') (hb : b ∉ S) : MapK w' b E := by
  obtain ⟨es, clock, h1, h2⟩ := h
  exact ⟨es, clock, k.other b _ h1 rfl hb, h2⟩

/-- An element's cell in an own row. -/
theorem ownsRow_cell {B e size n : Nat} {v : Value} {xs : List Value} (h : w.ownsRow B e size v n xs) {g j : Nat} {u : Value} (hg : v.ownBlock = some g) (hj : xs[j]? = some u) : w.cell? ⟨g, j, none⟩ = some u ∧ w.frozen? ⟨g, j, none⟩ = false := by
  rcases h.2 with ⟨rfl, _⟩ | ⟨g', cap, cur, rfl, h2, h3, h4, h5, h6, h7⟩
  · exact absurd hg (by simp [Value.ownBlock])
  · obtain rfl : g' = g := Option.some.inj hg
    refine ⟨?_, by simp [World.frozen?, h3]⟩
    rw [row_cell h3]
    rw [← h7, List.getElem?_take] at hj
    split at hj
    · rw [← Array.getElem?_toList]; exact hj
    · cases hj

theorem ownsRow_setCell {B e size n : Nat} {v : Value} {xs : List Value} (h : w.ownsRow B e size v n xs) {g j : Nat} (u : Value) (hg : v.ownBlock = some g) : (w.setCell ⟨g, j, none⟩ u).ownsRow B e size v n (xs.set j u) := by
  refine ⟨by simpa using h.1, ?_⟩
  rcases h.2 with ⟨rfl, _⟩ | ⟨g', cap, cur, rfl, h2, h3, h4, h5, h6, h7⟩
  · exact absurd hg (by simp [Value.ownBlock])
  · obtain rfl : g' = g := Option.some.inj hg
    refine Or.inr ⟨g', cap, cur.setIfInBounds j u, rfl, h2, row_set h3 j u, h4, h5, by simpa using h6, ?_⟩
    rw [Array.toList_setIfInBounds, ← h7, List.take_set]

end

/-! ### The model's state -/
def mCells (o : OpP) : List Value := [.bool o.write, .string (baOf o.v), .string (baOf o.value)]
def nameV (l : List UInt8) : Value := .string (baOf l)

structure MSt (B C : Nat) (w : World) (m im wm : Nat) (init : ByteArray) (nv ov : Value) (names : List (List UInt8)) (opss : List (List OpP)) (L : List Value) (idx wr : List (ByteArray × Value)) : Prop where
  row : w.heap[m]? = some (.cells #[.string init, nv, ov, .map (some im), .map (some wm)] 65 (0, 0))
  names : w.ownsRow C 9 1 nv names.length (names.map nameV)
  ops : w.ownsRow B 68 1 ov L.length L
  each : ∀ (i : Nat) (v : Value) (os : List OpP), L[i]? = some v → opss[i]? = some os → w.ownsRow B 73 3 v os.length (os.flatMap mCells)
  len : L.length = opss.length
  apart : ∀ (i j : Nat) (v u : Value) (g : Nat), i ≠ j → L[i]? = some v → L[j]? = some u → v.ownBlock = some g → u.ownBlock ≠ some g
  index : MapS w im idx
  written : MapS w wm wr
  ne : im ≠ wm
  base : B ≤ m ∧ B ≤ im ∧ B ≤ wm
  bc : B ≤ C

abbrev mTs : List Nat := [65, 9, 68, 73]

section
variable {B C : Nat} {w w1 : World} {m im wm : Nat} {init : ByteArray} {nv ov : Value} {names : List (List UInt8)} {opss : List (List OpP)} {L : List Value} {idx wr : List (ByteArray × Value)}

theorem MSt.keepT (h : MSt B C w m im wm init nv ov names opss L idx wr) {Ts S : List Nat} (k : KeepsT B Ts S w w1) (hT : ∀ t ∈ mTs, t ∉ Ts) (h1 : im ∉ S) (h2 : wm ∉ S) : MSt B C w1 m im wm init nv ov names opss L idx wr :=
  ⟨k.cells _ _ _ _ h.row (hT _ (by simp)), ownsRow_keepsT h.names k (hT _ (by simp)), ownsRow_keepsT h.ops k (hT _ (by simp)),
    fun i v os hv ho => ownsRow_keepsT (h.each i v os hv ho) k (hT _ (by simp)), h.len, h.apart, h.index.keepsT k h1, h.written.keepsT k h2, h.ne, h.base, h.bc⟩

theorem MapS.obj {b : Nat} {E : List (ByteArray × Value)} (h : MapS w b E) : ∃ o : Obj, w.heap[b]? = some o ∧ o.isCells = false := by
  obtain ⟨es, clock, h1, _⟩ := h
  exact ⟨_, h1, rfl⟩
theorem MapK.obj {b : Nat} {E : List (WKey × Value)} (h : MapK w b E) : ∃ o : Obj, w.heap[b]? = some o ∧ o.isCells = false := by
  obtain ⟨es, clock, h1, _⟩ := h
  exact ⟨_, h1, rfl⟩

theorem MSt.index_set (h : MSt B C w m im wm init nv ov names opss L idx wr) {idx' : List (ByteArray × Value)} (hm : MapS w1 im idx') (hg : w.grownBy w1 (some im)) : MSt B C w1 m im wm init nv ov names opss L idx' wr := by
  obtain ⟨o, ho, hc⟩ := h.index.obj
  have k : KeepsT B [] [im] w w1 := KeepsT.mapped hg ho hc (by simp) h.base.2.1
  exact ⟨k.cells _ _ _ _ h.row (by simp), ownsRow_keepsT h.names k (by simp), ownsRow_keepsT h.ops k (by simp),
    fun i v os hv ho => ownsRow_keepsT (h.each i v os hv ho) k (by simp), h.len, h.apart, hm, h.written.keepsT k (by simp; exact h.ne.symm), h.ne, h.base, h.bc⟩

theorem MSt.written_set (h : MSt B C w m im wm init nv ov names opss L idx wr) {wr' : List (ByteArray × Value)} (hm : MapS w1 wm wr') (hg : w.grownBy w1 (some wm)) : MSt B C w1 m im wm init nv ov names opss L idx wr' := by
  obtain ⟨o, ho, hc⟩ := h.written.obj
  have k : KeepsT B [] [wm] w w1 := KeepsT.mapped hg ho hc (by simp) h.base.2.2
  exact ⟨k.cells _ _ _ _ h.row (by simp), ownsRow_keepsT h.names k (by simp), ownsRow_keepsT h.ops k (by simp),
    fun i v os hv ho => ownsRow_keepsT (h.each i v os hv ho) k (by simp), h.len, h.apart, h.index.keepsT k (by simp; exact h.ne), hm, h.ne, h.base, h.bc⟩

theorem MSt.names_set (h : MSt B C w m im wm init nv ov names opss L idx wr) {v' : Value} {x : List UInt8} (hown : w1.ownsRow C 9 1 v' (names.length + 1) (names.map nameV ++ [nameV x])) (hg : w.grownBy w1 nv.ownBlock) :
    MSt B C (w1.setCell ⟨m, 1, none⟩ v') m im wm init v' ov (names ++ [x]) opss L idx wr := by
  have k1 : KeepsT B [9] [] w w1 := KeepsT.grown hg (fun g e => by obtain ⟨cs, hc, hb⟩ := ownsRow_own h.names e; exact ⟨cs, _, _, hc, by simp, Nat.le_trans h.bc hb⟩)
  have hr1 := k1.cells _ _ _ _ h.row (by simp)
  have k2 : KeepsT B [65] [] w1 (w1.setCell ⟨m, 1, none⟩ v') := (KeepsT.refl _ _ _ w1).setCell hr1 (by simp) h.base.1 v'
  exact ⟨row_set hr1 1 v', by simpa using ownsRow_keepsT hown k2 (by simp), ownsRow_keepsT (ownsRow_keepsT h.ops k1 (by simp)) k2 (by simp),
    fun i v os hv ho => ownsRow_keepsT (ownsRow_keepsT (h.each i v os hv ho) k1 (by simp)) k2 (by simp), h.len, h.apart, (h.index.keepsT k1 (by simp)).keepsT k2 (by simp), (h.written.keepsT k1 (by simp)).keepsT k2 (by simp), h.ne, h.base, h.bc⟩

theorem MSt.ops_new (h : MSt B C w m im wm init nv ov names opss L idx wr) {v' : Value} (hown : w1.ownsRow B 68 1 v' (L.length + 1) (L ++ [.slice none 0 0])) (hg : w.grownBy w1 ov.ownBlock) :
    MSt B C (w1.setCell ⟨m, 2, none⟩ v') m im wm init nv v' names (opss ++ [[]]) (L ++ [.slice none 0 0]) idx wr := by
  have k1 : KeepsT B [68] [] w w1 := KeepsT.grown hg (fun g e => by obtain ⟨cs, hc, hb⟩ := ownsRow_own h.ops e; exact ⟨cs, _, _, hc, by simp, hb⟩)
  have hr1 := k1.cells _ _ _ _ h.row (by simp)
  have k2 : KeepsT B [65] [] w1 (w1.setCell ⟨m, 2, none⟩ v') := (KeepsT.refl _ _ _ w1).setCell hr1 (by simp) h.base.1 v'
  refine ⟨row_set hr1 2 v', ownsRow_keepsT (ownsRow_keepsT h.names k1 (by simp)) k2 (by simp), by simpa using ownsRow_keepsT hown k2 (by simp),
    fun i v os hv ho => ?_, by simp [h.len], fun i j v u g hij hv hu he => ?_, (h.index.keepsT k1 (by simp)).keepsT k2 (by simp), (h.written.keepsT k1 (by simp)).keepsT k2 (by simp), h.ne, h.base, h.bc⟩
  · by_cases hi : i < L.length
    · rw [List.getElem?_append_left hi] at hv
      rw [List.getElem?_append_left (by rw [← h.len]; exact hi)] at ho
      exact ownsRow_keepsT (ownsRow_keepsT (h.each i v os hv ho) k1 (by simp)) k2 (by simp)
    · have hi' : i = L.length := by have := (List.getElem?_eq_some_iff.1 hv).1; simp at this; omega
      subst hi'
      simp at hv
      rw [h.len] at ho
      simp at ho
      subst hv; subst ho
      exact ⟨rfl, Or.inl ⟨rfl, rfl⟩⟩
  · by_cases hi : i < L.length
    · rw [List.getElem?_append_left hi] at hv
      by_cases hj : j < L.length
      · rw [List.getElem?_append_left hj] at hu
        exact h.apart i j v u g hij hv hu he
      · have hj' : j = L.length := by have := (List.getElem?_eq_some_iff.1 hu).1; simp at this; omega
        subst hj'
        simp at hu
        subst hu
        simp [Value.ownBlock]
    · have hi' : i = L.length := by have := (List.getElem?_eq_some_iff.1 hv).1; simp at this; omega
      subst hi'
      simp at hv
      subst hv
      simp [Value.ownBlock] at he

theorem MSt.ops_add (h : MSt B C w m im wm init nv ov names opss L idx wr) {i : Nat} {v v' : Value} {os : List OpP} {o : OpP} {og : Nat} (hi : L[i]? = some v) (ho : opss[i]? = some os) (hog : ov.ownBlock = some og)
    (hown : w1.ownsRow B 73 3 v' (os.length + 1) (os.flatMap mCells ++ mCells o)) (hg : w.grownBy w1 v.ownBlock) (hat : ∀ g, v'.ownBlock = some g → v.ownBlock = some g ∨ w.heap.size ≤ g) :
    MSt B C (w1.setCell ⟨og, i, none⟩ v') m im wm init nv ov names (opss.set i (os ++ [o])) (L.set i v') idx wr := by
  have hil := (List.getElem?_eq_some_iff.1 hi).1
  have k1 : KeepsT B [73] [] w w1 := KeepsT.grown hg (fun g e => by obtain ⟨cs, hc, hb⟩ := ownsRow_own (h.each i v os hi ho) e; exact ⟨cs, _, _, hc, by simp, hb⟩)
  have hops1 := ownsRow_keepsT h.ops k1 (by simp)
  obtain ⟨cs, hcs, hcb⟩ := ownsRow_own hops1 hog
  have k2 : KeepsT B [68] [] w1 (w1.setCell ⟨og, i, none⟩ v') := (KeepsT.refl _ _ _ w1).setCell hcs (by simp) hcb v'
  refine ⟨k2.cells _ _ _ _ (k1.cells _ _ _ _ h.row (by simp)) (by simp), ownsRow_keepsT (ownsRow_keepsT h.names k1 (by simp)) k2 (by simp), by simpa using ownsRow_setCell hops1 (j := i) v' hog,
    fun j u us hu hus => ?_, by simp [h.len], fun j l u u' g hjl hu hu' he => ?_, (h.index.keepsT k1 (by simp)).keepsT k2 (by simp), (h.written.keepsT k1 (by simp)).keepsT k2 (by simp), h.ne, h.base, h.bc⟩
  · by_cases hji : i = j
    · subst hji
      rw [List.getElem?_set_self hil] at hu
      rw [List.getElem?_set_self (by rw [← h.len]; exact hil)] at hus
      cases hu; cases hus
      simpa using ownsRow_keepsT hown k2 (by simp)
    · rw [List.getElem?_set_ne hji] at hu hus
      refine ownsRow_keepsT (ownsRow_block (h.each j u us hu hus) (fun g hgu => ?_)) k2 (by simp)
      obtain ⟨cs', hc', _⟩ := ownsRow_own (h.each j u us hu hus) hgu
      exact hg.block g (lt_of_get hc') (fun e => h.apart i j v u g hji hi hu e.symm hgu)
  · by_cases hji : i = j
    · subst hji
      rw [List.getElem?_set_self hil] at hu
      rw [List.getElem?_set_ne hjl] at hu'
      cases hu
      intro hgu
      rcases hat g he with e | e
      · exact h.apart i l v u' g hjl hi hu' e hgu
      · have hus : opss[l]? = some (opss[l]'(by rw [← h.len]; exact (List.getElem?_eq_some_iff.1 hu').1)) := List.getElem?_eq_getElem _
        obtain ⟨cs', hc', _⟩ := ownsRow_own (h.each l u' _ hu' hus) hgu
        have := lt_of_get hc'
        omega
    · rw [List.getElem?_set_ne hji] at hu
      by_cases hli : i = l
      · subst hli
        rw [List.getElem?_set_self hil] at hu'
        cases hu'
        intro hgu
        rcases hat g hgu with e | e
        · exact h.apart i j v u g hji hi hu e he
        · have hus : opss[j]? = some (opss[j]'(by rw [← h.len]; exact (List.getElem?_eq_some_iff.1 hu).1)) := List.getElem?_eq_getElem _
          obtain ⟨cs', hc', _⟩ := ownsRow_own (h.each j u _ hu hus) he
          have := lt_of_get hc'
          omega
      · rw [List.getElem?_set_ne hli] at hu'
        exact h.apart j l u u' g hjl hu hu' he

end
end Go.Proofs.Qxb6605907aGreatFmt
