import Derived.Test.Qxb6605907aGreatFmtMp
import Derived.Laws.StructEq
import Derived.Lib.Strings
import Derived.DeepKeys3
namespace Go.Proofs.Qxb6605907aGreatFmt
open Go.RowKit

theorem ba_toList (a c : ByteArray) : (a.toList = c.toList) = (a = c) := by
  rw [Lib.toList_data, Lib.toList_data]
  apply propext
  constructor
  · intro h
    cases a; cases c
    simpa using h
  · intro h; rw [h]

theorem eq_key (w : World) (a b c d : ByteArray) :
    (Op.equal 122 (.agg #[.string a, .string b]) (.agg #[.string c, .string d])).run Tryz.prog w = .ok (decide (a = c) && decide (b = d)) w := by
  have h1 : Tryz.prog.underlying 122 = some (.struct (Tryz.prog.fieldsOf 122)) := by kernel_rfl
  have h2 : Tryz.prog.stoodInHeld 122 = false := by kernel_rfl
  rw [Op.equal, show Op.maxDepth = 9999 + 1 from rfl, run_equalIn_agg w 9999 122 _ _ h1 h2]
  have h3 : Tryz.prog.fieldsOf 122 = #[{ name := "variable", type := 9, offset := 0, embedded := false, tag := "", pkgPath := "example.com/antecede/antecede/internal/history", byteOffset := 0 }, { name := "value", type := 9, offset := 1, embedded := false, tag := "", pkgPath := "example.com/antecede/antecede/internal/history", byteOffset := 16 }] := by kernel_rfl
  rw [h3]
  simp [Op.eqFields, go_sem, Tryz.underlying9, Tryz.sizeOf9, Tryz.isAgg9]
  simp only [ba_toList]
  by_cases h5 : a = c
  · by_cases h6 : b = d
    · simp [h5, h6]
    · simp [h5, h6]
  · simp [h5]

abbrev WKey := ByteArray × ByteArray
def keyV (k : WKey) : Value := .agg #[.string k.1, .string k.2]

/-- THE MAP OF WRITES, AS ITS ENTRIES LIE. -/
def MapK (w : World) (b : Nat) (E : List (WKey × Value)) : Prop :=
  ∃ es clock, w.heap[b]? = some (.map es clock) ∧ es.toList.map (fun e => (e.key, e.val)) = E.map (fun e => (keyV e.1, e.2))

theorem findAsking_key (w : World) (k : WKey) : ∀ (es : List MapEntry) (E : List (WKey × Value)) (i : Nat), es.map (fun e => (e.key, e.val)) = E.map (fun e => (keyV e.1, e.2)) →
    (Instr.findAsking 122 (keyV k) es i).run Tryz.prog w = .ok (findE k E i) w
  | [], E, _, h => by
    cases E with
    | nil => rfl
    | cons a b => simp at h
  | e :: r, [], i, h => by simp at h
  | e :: r, a :: E, i, h => by
    simp only [List.map_cons, List.cons.injEq, Prod.mk.injEq] at h
    obtain ⟨⟨hk, hv⟩, hr⟩ := h
    have ih := findAsking_key w k r E (i + 1) hr
    simp only [Instr.findAsking, Sem.run_bind, hk, keyV] at ih ⊢
    rw [eq_key]
    simp only [Result.andThen_ok, findE]
    by_cases hx : a.1 = k
    · have : (decide (k.1 = a.1.1) && decide (k.2 = a.1.2)) = true := by rw [hx]; simp
      rw [this, if_pos hx]
      simp [hv]
    · have : (decide (k.1 = a.1.1) && decide (k.2 = a.1.2)) = false := by
        rw [Bool.and_eq_false_iff]
        by_cases h1 : k.1 = a.1.1
        · right
          exact decide_eq_false (fun h2 => hx (Prod.ext h1.symm h2.symm))
        · left
          exact decide_eq_false h1
      rw [this, if_neg hx]
      exact ih

theorem run_findKey_key (w : World) (k : WKey) (es : Array MapEntry) (E : List (WKey × Value)) (h : es.toList.map (fun e => (e.key, e.val)) = E.map (fun e => (keyV e.1, e.2))) :
    (Instr.findKey 122 (keyV k) es.toList).run Tryz.prog w = .ok (findE k E 0) w := by
  have hf := run_findKey_eq (P := Tryz.prog) (w := w) (k := 122) (by kernel_rfl) (keyV k) es.toList
  rw [hf]
  exact findAsking_key w k es.toList E 0 h

theorem checkKey_key (w : World) (k : WKey) (em : Bool) : (Instr.checkKey em 10000 122 (keyV k)).run Tryz.prog w = .ok () w := by
  have h9 : ∀ (s : ByteArray) (em : Bool) (w : World), (Instr.checkKey em 9999 9 (.string s)).run Tryz.prog w = .ok () w := fun s em w => MapKept.run_checkKey Tryz.underlying9 (k := .string s) (by simp [MapKept.IsKey]) em 9998
  have hp0 : ∀ (a b : ByteArray) w, (part 9 #[.string a, .string b] 0).run Tryz.prog w = .ok (.string a) w := fun a b w => by simp [go_sem, Tryz.isAgg9]
  have hp1 : ∀ (a b : ByteArray) w, (part 9 #[.string a, .string b] 1).run Tryz.prog w = .ok (.string b) w := fun a b w => by simp [go_sem, Tryz.isAgg9]
  rw [show (10000 : Nat) = 9999 + 1 from rfl]
  unfold Instr.checkKey
  simp [keyV, run_underlying Tryz.underlying122, h9, hp0, hp1, Result.andThen]

theorem lookupK {w : World} {b : Nat} {E : List (WKey × Value)} (h : MapK w b E) (k : WKey) :
    (Instr.lookup 41 (.map (some b)) (keyV k) true).run Tryz.prog w = .ok (.tuple #[((findE k E 0).map (·.2)).getD (.agg #[.int .i64 0, .int .i64 0]), .bool (findE k E 0).isSome]) w := by
  obtain ⟨es, clock, hb, hE⟩ := h
  have hfk := run_findKey_key w k es E hE
  have hck := checkKey_key w k
  have hgo := MapKept.run_getObj_map (P := Tryz.prog) hb
  have hz : ∀ w, (zeroValue 118).run Tryz.prog w = .ok (.agg #[.int .i64 0, .int .i64 0]) w := Tryz.zeroValue118
  unfold Instr.lookup
  simp only [Sem.run_bind, run_underlying Tryz.underlying41, Result.andThen_ok, hgo, Sem.run_pure, hck, hfk]
  cases findE k E 0 with
  | none => simp [hz]
  | some a => simp

theorem updateK {w : World} {b : Nat} {E : List (WKey × Value)} (h : MapK w b E) (k : WKey) (v : Value) (hnew : findE k E 0 = none) :
    ∃ w', (Instr.mapUpdate 41 (.map (some b)) (keyV k) v).run Tryz.prog w = .ok () w' ∧ MapK w' b (E ++ [(k, v)]) ∧ w.grownBy w' (some b) := by
  obtain ⟨es, clock, hb, hE⟩ := h
  have hfk := run_findKey_key w k es E hE
  have hck := checkKey_key w k
  have hgo := MapKept.run_getObj_map (P := Tryz.prog) hb
  have hst := MapKept.run_setObj_map (P := Tryz.prog) (.map (es.push { key := keyV k, val := v, born := clock }) (clock + 1)) hb
  have hrun : (Instr.mapUpdate 41 (.map (some b)) (keyV k) v).run Tryz.prog w = .ok () { w with heap := w.heap.setIfInBounds b (.map (es.push { key := keyV k, val := v, born := clock }) (clock + 1)) } := by
    unfold Instr.mapUpdate
    simp only [Sem.run_bind, run_underlying Tryz.underlying41, Result.andThen_ok, hgo, hck, hfk, hnew]
    exact hst
  have hs := MapKept.heap_set (o' := .map (es.push { key := keyV k, val := v, born := clock }) (clock + 1)) hb
  exact ⟨_, hrun, ⟨_, _, hs.1, by simp [hE]⟩, ⟨rfl, rfl, rfl, by simp, fun j _ hj => hs.2 j (fun e => hj (by rw [e]))⟩⟩

end Go.Proofs.Qxb6605907aGreatFmt
