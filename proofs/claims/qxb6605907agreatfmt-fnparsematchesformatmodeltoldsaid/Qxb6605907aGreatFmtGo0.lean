import Derived.Test.Qxb6605907aGreatFmtFt2
import Derived.Test.Qxb6605907aGreatFmtHp
import Derived.Test.Qxb6605907aGreatFmtF5
import Derived.Deep.RegionHeld3
namespace Go.Proofs.Qxb6605907aGreatFmt
open Go.RowKit

/-! ### The history's state -/
def gCells (o : OpP) : List Value := [.int .u8 (gKind o.write), .string (baOf o.v), .string (baOf o.value)]
/-- A process as it lies in h.Procs: its name, its operations' slice. -/
def pCells (p : List UInt8 × Value) : List Value := [.string (baOf p.1), p.2]
def pRow (names : List (List UInt8)) (L : List Value) : List Value := (names.zip L).flatMap pCells

structure HSt (B : Nat) (w : World) (hb wb : Nat) (init : ByteArray) (pv : Value) (names : List (List UInt8)) (opss : List (List OpP)) (L : List Value) (E : List (WKey × Value)) : Prop where
  row : w.heap[hb]? = some (.cells #[.string init, pv, .map (some wb)] 43 (0, 0))
  procs : w.ownsRow B 46 2 pv names.length (pRow names L)
  each : ∀ (i : Nat) (v : Value) (os : List OpP), L[i]? = some v → opss[i]? = some os → w.ownsRow B 71 3 v os.length (os.flatMap gCells)
  len : L.length = opss.length ∧ names.length = L.length
  apart : ∀ (i j : Nat) (v u : Value) (g : Nat), i ≠ j → L[i]? = some v → L[j]? = some u → v.ownBlock = some g → u.ownBlock ≠ some g
  writes : MapK w wb E
  ids : ∀ e ∈ E, ∃ pi ix : Nat, e.2 = .agg #[.int .i64 (pi : Int), .int .i64 (ix : Int)] ∧ pi < names.length ∧ ix ≤ 4194304
  base : B ≤ hb ∧ B ≤ wb

theorem pRow_get {names : List (List UInt8)} {L : List Value} (hl : names.length = L.length) {i : Nat} {x : List UInt8} {v : Value} (hx : names[i]? = some x) (hv : L[i]? = some v) :
    (pRow names L)[i * 2]? = some (.string (baOf x)) ∧ (pRow names L)[i * 2 + 1]? = some v := by
  induction names generalizing L i with
  | nil => simp at hx
  | cons n r ih =>
    cases L with
    | nil => simp at hl
    | cons u L =>
      cases i with
      | zero =>
        simp only [List.getElem?_cons_zero, Option.some.injEq] at hx hv
        subst hx; subst hv
        exact ⟨rfl, rfl⟩
      | succ i =>
        simp only [List.getElem?_cons_succ] at hx hv
        have := ih (L := L) (by simpa using hl) hx hv
        rw [show (i + 1) * 2 = i * 2 + 2 by omega]
        exact this

theorem pRow_len {names : List (List UInt8)} {L : List Value} (hl : names.length = L.length) : (pRow names L).length = names.length * 2 := by
  induction names generalizing L with
  | nil => rfl
  | cons n r ih =>
    cases L with
    | nil => simp at hl
    | cons u L =>
      have := ih (L := L) (by simpa using hl)
      simp only [pRow, List.zip_cons_cons, List.flatMap_cons, List.length_append, List.length_cons] at this ⊢
      rw [this]
      simp [pCells]
      omega

set_option maxRecDepth 100000 in
set_option maxHeartbeats 4000000 in
theorem name_spec (B hb wb : Nat) (init : ByteArray) (pv : Value) (names : List (List UInt8)) (opss : List (List OpP)) (L : List Value) (E : List (WKey × Value)) (w : World) (h : HSt B w hb wb init pv names opss L E)
    (pi ix : Nat) (hpi : pi < names.length) (hix : ix ≤ 4194304) :
    Calls Tryz.prog 60 #[.pointer (some ⟨hb, 0, none⟩), .agg #[.int .i64 (pi : Int), .int .i64 (ix : Int)]] w fun e w' => (∃ s, e = .returned (.string s)) ∧ Below w.heap.size w w' := by
  obtain ⟨v, hv⟩ : ∃ v, L[pi]? = some v := ⟨_, List.getElem?_eq_getElem (by rw [← h.len.2]; exact hpi)⟩
  obtain ⟨x, hx⟩ : ∃ x, names[pi]? = some x := ⟨_, List.getElem?_eq_getElem hpi⟩
  obtain ⟨pg, pcap, rfl, _, hpg⟩ := h.procs.form (by omega)
  have hc := (ownsRow_cell h.procs (g := pg) rfl (pRow_get h.len.2 hx hv).1).1
  have h1 : w.cell? ⟨hb, 1, none⟩ = some (.slice (some ⟨pg, 0, none⟩) names.length pcap) := by rw [row_cell h.row]; rfl
  have lh := lt_of_get h.row
  have hi0 : (0 : Int) ≤ (pi : Int) := Int.natCast_nonneg _
  have hi1 : (pi : Int) < (names.length : Int) := by omega
  have hw1 : IntKind.i64.wrap ((ix : Int) + 1) = (ix : Int) + 1 := IntWalk.i64_in _ (by omega)
  have hne1 := World.new_ne w ⟨hb, 1, none⟩ h1
  have hne2 := World.new_ne w _ hc
  clear h hv hx
  go_enter Tryz.func60, Tryz.ntmps60
  go_wp2_with fail
  go_region_held3 (fun w' => w'.cell? ⟨hb, 1, none⟩ = some (.slice (some ⟨pg, 0, none⟩) names.length pcap) ∧ w'.cell? ⟨pg, pi * 2, none⟩ = some (.string (baOf x)) ∧ w'.cell? ⟨w.heap.size, 0, none⟩ = some (.int .i64 (pi : Int)) ∧ w'.cell? ⟨w.heap.size, 1, none⟩ = some (.int .i64 (ix : Int))) (go_keep) ((refine rows_nm _ (baOf x) ((ix : Int) + 1) _ (by simp) (by simp) ?_; intro s))
  go_wp2
  go_ret
  exact ⟨⟨_, rfl⟩, (((Below.refl w.heap.size w).alloc (Nat.le_refl _) _).alloc (by rw [World.size_alloc]; omega) _).drew.drew⟩

end Go.Proofs.Qxb6605907aGreatFmt
