import Derived.Test.Qxb6605907aGreatFmtGo0
namespace Go.Proofs.Qxb6605907aGreatFmt
open Go.RowKit

abbrev gTs : List Nat := [43, 46, 71]

section
variable {B : Nat} {w w1 : World} {hb wb : Nat} {init : ByteArray} {pv : Value} {names : List (List UInt8)} {opss : List (List OpP)} {L : List Value} {E : List (WKey × Value)}

theorem HSt.keepT (h : HSt B w hb wb init pv names opss L E) {Ts S : List Nat} (k : KeepsT B Ts S w w1) (hT : ∀ t ∈ gTs, t ∉ Ts) (h1 : wb ∉ S) : HSt B w1 hb wb init pv names opss L E :=
  ⟨k.cells _ _ _ _ h.row (hT _ (by simp)), ownsRow_keepsT h.procs k (hT _ (by simp)), fun i v os hv ho => ownsRow_keepsT (h.each i v os hv ho) k (hT _ (by simp)), h.len, h.apart, h.writes.keepsT k h1, h.ids, h.base⟩

theorem HSt.writes_set (h : HSt B w hb wb init pv names opss L E) {E' : List (WKey × Value)} (hm : MapK w1 wb E') (hg : w.grownBy w1 (some wb))
    (hi : ∀ e ∈ E', ∃ pi ix : Nat, e.2 = .agg #[.int .i64 (pi : Int), .int .i64 (ix : Int)] ∧ pi < names.length ∧ ix ≤ 4194304) : HSt B w1 hb wb init pv names opss L E' := by
  obtain ⟨o, ho, hc⟩ := h.writes.obj
  have k : KeepsT B [] [wb] w w1 := KeepsT.mapped hg ho hc (by simp) h.base.2
  exact ⟨k.cells _ _ _ _ h.row (by simp), ownsRow_keepsT h.procs k (by simp), fun i v os hv ho => ownsRow_keepsT (h.each i v os hv ho) k (by simp), h.len, h.apart, hm, hi, h.base⟩

theorem HSt.pkeep (h : HSt B w hb wb init pv names opss L E) (hg : w.grownBy w1 pv.ownBlock) : KeepsT B [46] [] w w1 :=
  KeepsT.grown hg (fun g e => by obtain ⟨cs, hc, hb⟩ := ownsRow_own h.procs e; exact ⟨cs, _, _, hc, by simp, hb⟩)
theorem HSt.ekeep (h : HSt B w hb wb init pv names opss L E) {i : Nat} {v : Value} {os : List OpP} (hi : L[i]? = some v) (ho : opss[i]? = some os) (hg : w.grownBy w1 v.ownBlock) : KeepsT B [71] [] w w1 :=
  KeepsT.grown hg (fun g e => by obtain ⟨cs, hc, hb⟩ := ownsRow_own (h.each i v os hi ho) e; exact ⟨cs, _, _, hc, by simp, hb⟩)

theorem pRow_snoc {names : List (List UInt8)} {L : List Value} (hl : names.length = L.length) (x : List UInt8) (v : Value) : pRow (names ++ [x]) (L ++ [v]) = pRow names L ++ [.string (baOf x), v] := by
  rw [pRow, List.zip_append hl, List.flatMap_append]
  rfl

theorem pRow_set {names : List (List UInt8)} {L : List Value} (hl : names.length = L.length) (i : Nat) (v : Value) : pRow names (L.set i v) = (pRow names L).set (i * 2 + 1) v := by
  induction names generalizing L i with
  | nil => rfl
  | cons n r ih =>
    cases L with
    | nil => simp at hl
    | cons u L =>
      cases i with
      | zero => rfl
      | succ i =>
        have := ih (L := L) (by simpa using hl) i
        rw [show (i + 1) * 2 + 1 = (i * 2 + 1) + 1 + 1 by omega, List.set_cons_succ]
        show _ :: _ :: pRow r (L.set i v) = (_ :: _ :: pRow r L).set _ _
        rw [this]
        rfl

theorem HSt.procs_new (h : HSt B w hb wb init pv names opss L E) {v' : Value} {x : List UInt8} (hown : w1.ownsRow B 46 2 v' (names.length + 1) (pRow names L ++ [.string (baOf x), .slice none 0 0])) (hg : w.grownBy w1 pv.ownBlock) :
    HSt B (w1.setCell ⟨hb, 1, none⟩ v') hb wb init v' (names ++ [x]) (opss ++ [[]]) (L ++ [.slice none 0 0]) E := by
  have k1 := h.pkeep hg
  have hr1 := k1.cells _ _ _ _ h.row (by simp)
  have k2 : KeepsT B [43] [] w1 (w1.setCell ⟨hb, 1, none⟩ v') := (KeepsT.refl _ _ _ w1).setCell hr1 (by simp) h.base.1 v'
  refine ⟨row_set hr1 1 v', ?_, fun i v os hv ho => ?_, by simp [h.len], fun i j v u g hij hv hu he => ?_, (h.writes.keepsT k1 (by simp)).keepsT k2 (by simp), fun e he => ?_, h.base⟩
  · rw [pRow_snoc h.len.2, List.length_append]
    exact ownsRow_keepsT hown k2 (by simp)
  · by_cases hi : i < L.length
    · rw [List.getElem?_append_left hi] at hv
      rw [List.getElem?_append_left (by rw [← h.len.1]; exact hi)] at ho
      exact ownsRow_keepsT (ownsRow_keepsT (h.each i v os hv ho) k1 (by simp)) k2 (by simp)
    · have hi' : i = L.length := by have := (List.getElem?_eq_some_iff.1 hv).1; simp at this; omega
      subst hi'
      simp at hv
      rw [h.len.1] at ho
      simp at ho
      subst hv; subst ho
      exact ⟨rfl, Or.inl ⟨rfl, rfl⟩⟩
  · by_cases hi : i < L.length
    · rw [List.getElem?_append_left hi] at hv
      by_cases hj : j < L.length
      · rw [List.getElem?_append_left hj] at hu
        exact h.apart i j v u g hij hv hu he
      · have hj' : j = L.length := by have := (List.getElem?_eq_some_iff.1 hu).1; simp at this; omega
        subst hj'
        simp at hu
        subst hu
        simp [Value.ownBlock]
    · have hi' : i = L.length := by have := (List.getElem?_eq_some_iff.1 hv).1; simp at this; omega
      subst hi'
      simp at hv
      subst hv
      simp [Value.ownBlock] at he
  · obtain ⟨pi, ix, h1, h2, h3⟩ := h.ids e he
    exact ⟨pi, ix, h1, by rw [List.length_append]; omega, h3⟩

theorem HSt.ops_add (h : HSt B w hb wb init pv names opss L E) {i : Nat} {v v' : Value} {os : List OpP} {o : OpP} {pg : Nat} (hi : L[i]? = some v) (ho : opss[i]? = some os) (hpg : pv.ownBlock = some pg)
    (hown : w1.ownsRow B 71 3 v' (os.length + 1) (os.flatMap gCells ++ gCells o)) (hg : w.grownBy w1 v.ownBlock) (hat : ∀ g, v'.ownBlock = some g → v.ownBlock = some g ∨ w.heap.size ≤ g) :
    HSt B (w1.setCell ⟨pg, i * 2 + 1, none⟩ v') hb wb init pv names (opss.set i (os ++ [o])) (L.set i v') E := by
  have hil := (List.getElem?_eq_some_iff.1 hi).1
  have k1 := h.ekeep hi ho hg
  have hpr1 := ownsRow_keepsT h.procs k1 (by simp)
  obtain ⟨cs, hcs, hcb⟩ := ownsRow_own hpr1 hpg
  have k2 : KeepsT B [46] [] w1 (w1.setCell ⟨pg, i * 2 + 1, none⟩ v') := (KeepsT.refl _ _ _ w1).setCell hcs (by simp) hcb v'
  refine ⟨k2.cells _ _ _ _ (k1.cells _ _ _ _ h.row (by simp)) (by simp), ?_, fun j u us hu hus => ?_, by simp [h.len], fun j l u u' g hjl hu hu' he => ?_, (h.writes.keepsT k1 (by simp)).keepsT k2 (by simp), h.ids, h.base⟩
  · rw [pRow_set h.len.2]
    exact ownsRow_setCell hpr1 (j := i * 2 + 1) v' hpg
  · by_cases hji : i = j
    · subst hji
      rw [List.getElem?_set_self hil] at hu
      rw [List.getElem?_set_self (by rw [← h.len.1]; exact hil)] at hus
      cases hu; cases hus
      simpa using ownsRow_keepsT hown k2 (by simp)
    · rw [List.getElem?_set_ne hji] at hu hus
      refine ownsRow_keepsT (ownsRow_block (h.each j u us hu hus) (fun g hgu => ?_)) k2 (by simp)
      obtain ⟨cs', hc', _⟩ := ownsRow_own (h.each j u us hu hus) hgu
      exact hg.block g (lt_of_get hc') (fun e => h.apart i j v u g hji hi hu e.symm hgu)
  · by_cases hji : i = j
    · subst hji
      rw [List.getElem?_set_self hil] at hu
      rw [List.getElem?_set_ne hjl] at hu'
      cases hu
      intro hgu
      rcases hat g he with e | e
      · exact h.apart i l v u' g hjl hi hu' e hgu
      · have hus : opss[l]? = some (opss[l]'(by rw [← h.len.1]; exact (List.getElem?_eq_some_iff.1 hu').1)) := List.getElem?_eq_getElem _
        obtain ⟨cs', hc', _⟩ := ownsRow_own (h.each l u' _ hu' hus) hgu
        have := lt_of_get hc'
        omega
    · rw [List.getElem?_set_ne hji] at hu
      by_cases hli : i = l
      · subst hli
        rw [List.getElem?_set_self hil] at hu'
        cases hu'
        intro hgu
        rcases hat g hgu with e | e
        · exact h.apart i j v u g hji hi hu e he
        · have hus : opss[j]? = some (opss[j]'(by rw [← h.len.1]; exact (List.getElem?_eq_some_iff.1 hu).1)) := List.getElem?_eq_getElem _
          obtain ⟨cs', hc', _⟩ := ownsRow_own (h.each j u _ hu hus) he
          have := lt_of_get hc'
          omega
      · rw [List.getElem?_set_ne hli] at hu'
        exact h.apart j l u u' g hjl hu hu' he

end

/-- The pairs written, as the keys of the history's map. -/
def wkOf (l : List (List UInt8 × List UInt8)) : List WKey := l.map (fun p => (baOf p.1, baOf p.2))

theorem wk_find (v u : List UInt8) : ∀ (l : List (List UInt8 × List UInt8)) (E : List (WKey × Value)) (j : Nat), E.map (·.1) = wkOf l →
    (l.contains (v, u) = true → ∃ i e, findE (baOf v, baOf u) E j = some (i, e) ∧ ∃ k, (k, e) ∈ E) ∧ (l.contains (v, u) = false → findE (baOf v, baOf u) E j = none)
  | [], E, j, h => by
    cases E with
    | nil => exact ⟨fun h => by simp at h, fun _ => rfl⟩
    | cons a b => simp [wkOf] at h
  | p :: r, [], j, h => by simp [wkOf] at h
  | p :: r, a :: E, j, h => by
    simp only [wkOf, List.map_cons, List.cons.injEq] at h
    have ih := wk_find v u r E (j + 1) h.2
    simp only [findE]
    by_cases hp : p = (v, u)
    · subst hp
      rw [if_pos h.1]
      exact ⟨fun _ => ⟨j, a.2, rfl, a.1, by simp⟩, fun hc => by simp at hc⟩
    · have hne : ¬ (a.1 = (baOf v, baOf u)) := fun e => by
        rw [h.1] at e
        simp only [Prod.mk.injEq, baOf_inj] at e
        exact hp (Prod.ext e.1 e.2)
      rw [if_neg hne]
      have hc : (p :: r).contains (v, u) = r.contains (v, u) := by
        rw [List.contains_cons]
        have : ((v, u) == p) = false := by simp only [beq_eq_false_iff_ne, ne_eq]; exact fun e => hp e.symm
        rw [this, Bool.false_or]
      rw [hc]
      refine ⟨fun h1 => ?_, ih.2⟩
      obtain ⟨i, e, h2, k, h3⟩ := ih.1 h1
      exact ⟨i, e, h2, k, by simp [h3]⟩

/-- The history holds this history. -/
def GOk (B : Nat) (w : World) (hb wb : Nat) (init : List UInt8) (h : HP) : Prop :=
  ∃ pv L E, HSt B w hb wb (baOf init) pv (h.procs.map (·.1)) (h.procs.map (·.2)) L E ∧ E.map (·.1) = wkOf h.written

theorem GOk.keepT {B : Nat} {w w1 : World} {hb wb : Nat} {init : List UInt8} {h : HP} (k : GOk B w hb wb init h) {Ts S : List Nat} (hk : KeepsT B Ts S w w1) (hT : ∀ t ∈ gTs, t ∉ Ts) (h1 : wb ∉ S) : GOk B w1 hb wb init h := by
  obtain ⟨pv, L, E, hs, he⟩ := k
  exact ⟨pv, L, E, hs.keepT hk hT h1, he⟩

end Go.Proofs.Qxb6605907aGreatFmt
