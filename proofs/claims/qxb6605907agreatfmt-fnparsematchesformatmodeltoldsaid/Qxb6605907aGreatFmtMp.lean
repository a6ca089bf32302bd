import Derived.Test.Qxb6605907aGreatFmtRows
import Derived.WalkKit
import Derived.WalkSpells
import Derived.WalkLawsBesides
import Derived.MapKept
import Derived.WideKeyRuns
namespace Go.Proofs.Qxb6605907aGreatFmt
open Go.RowKit

theorem ba_beq (x s : ByteArray) : (x == s) = decide (x = s) := by
  by_cases h : x = s
  · subst h
    rw [decide_eq_true rfl]
    show (x.data == x.data) = true
    simp
  · rw [decide_eq_false h]
    show (x.data == s.data) = false
    rw [beq_eq_false_iff_ne]
    intro e
    exact h (by cases x; cases s; cases e; rfl)

/-- A MAP WITH STRINGS FOR KEYS, AS ITS ENTRIES LIE, in the order in which they came. -/
def MapS (w : World) (b : Nat) (E : List (ByteArray × Value)) : Prop :=
  ∃ es clock, w.heap[b]? = some (.map es clock) ∧ es.toList.map (fun e => (e.key, e.val)) = E.map (fun e => (.string e.1, e.2))

/-- Where a key stands, and what lies there. -/
def findE {K V : Type} [DecidableEq K] (k : K) : List (K × V) → Nat → Option (Nat × V)
  | [], _ => none
  | e :: r, i => if e.1 = k then some (i, e.2) else findE k r (i + 1)

theorem findNow_str (x : ByteArray) : ∀ (es : List MapEntry) (E : List (ByteArray × Value)) (i : Nat), es.map (fun e => (e.key, e.val)) = E.map (fun e => (.string e.1, e.2)) →
    Instr.findNow .string (.string x) es i = some (findE x E i)
  | [], E, _, h => by
    cases E with
    | nil => rfl
    | cons a b => simp at h
  | e :: r, [], i, h => by simp at h
  | e :: r, a :: E, i, h => by
    simp only [List.map_cons, List.cons.injEq, Prod.mk.injEq] at h
    obtain ⟨⟨hk, hv⟩, hr⟩ := h
    have ih := findNow_str x r E (i + 1) hr
    simp only [Instr.findNow, hk, Instr.sameNow, findE, ba_beq]
    by_cases hx : a.1 = x
    · rw [if_pos hx, decide_eq_true hx.symm]
      simp [hv]
    · rw [if_neg hx, decide_eq_false (fun e => hx e.symm)]
      exact ih

theorem lookupS {P : Program} {w : World} {b : Nat} {E : List (ByteArray × Value)} {t k e : TypeId} (h : MapS w b E) (ht : P.underlying t = some (.map k e)) (hk : P.underlying k = some .string) (x : ByteArray) {z : Value}
    (hz : ∀ w, (zeroValue e).run P w = .ok z w) (c : Bool) :
    (Instr.lookup t (.map (some b)) (.string x) c).run P w = .ok (if c then .tuple #[((findE x E 0).map (·.2)).getD z, .bool (findE x E 0).isSome] else ((findE x E 0).map (·.2)).getD z) w := by
  obtain ⟨es, clock, hb, hE⟩ := h
  have hfk := MapKept.run_findKey (P := P) (w := w) hk (findNow_str x es.toList E 0 hE)
  have hck := fun em => MapKept.run_checkKey (P := P) (w := w) hk (k := .string x) (by simp [MapKept.IsKey]) em 9999
  have hgo := MapKept.run_getObj_map (P := P) hb
  unfold Instr.lookup
  simp only [Sem.run_bind, run_underlying ht, Result.andThen_ok, hgo, Sem.run_pure]
  rw [show (10000 : Nat) = 9999 + 1 from rfl, hck]
  simp only [Result.andThen_ok, hfk]
  cases findE x E 0 with
  | none => simp [hz]
  | some a => simp

/-- A store into such a map: at a key that stands there the value turns; a new key comes last. -/
theorem updateS {P : Program} {w : World} {b : Nat} {E : List (ByteArray × Value)} {t k e : TypeId} (h : MapS w b E) (ht : P.underlying t = some (.map k e)) (hk : P.underlying k = some .string) (x : ByteArray) (v : Value)
    (hnew : findE x E 0 = none) :
    ∃ w', (Instr.mapUpdate t (.map (some b)) (.string x) v).run P w = .ok () w' ∧ MapS w' b (E ++ [(x, v)]) ∧ w.grownBy w' (some b) := by
  obtain ⟨es, clock, hb, hE⟩ := h
  have hfk := MapKept.run_findKey (P := P) (w := w) hk (findNow_str x es.toList E 0 hE)
  have hck := fun em => MapKept.run_checkKey (P := P) (w := w) hk (k := .string x) (by simp [MapKept.IsKey]) em 9999
  have hgo := MapKept.run_getObj_map (P := P) hb
  have hst := MapKept.run_setObj_map (P := P) (.map (es.push { key := .string x, val := v, born := clock }) (clock + 1)) hb
  have hrun : (Instr.mapUpdate t (.map (some b)) (.string x) v).run P w = .ok () { w with heap := w.heap.setIfInBounds b (.map (es.push { key := .string x, val := v, born := clock }) (clock + 1)) } := by
    unfold Instr.mapUpdate
    simp only [Sem.run_bind, run_underlying ht, Result.andThen_ok, hgo]
    rw [show (10000 : Nat) = 9999 + 1 from rfl, hck]
    simp only [Result.andThen_ok, hfk, hnew]
    exact hst
  have hs := MapKept.heap_set (o' := .map (es.push { key := .string x, val := v, born := clock }) (clock + 1)) hb
  refine ⟨_, hrun, ⟨_, _, hs.1, by simp [hE]⟩, ⟨rfl, rfl, rfl, by simp, fun j _ hj => hs.2 j (fun e => hj (by rw [e]))⟩⟩

end Go.Proofs.Qxb6605907aGreatFmt
