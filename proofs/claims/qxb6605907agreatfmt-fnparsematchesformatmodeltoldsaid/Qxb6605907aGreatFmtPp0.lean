import Derived.Test.Qxb6605907aGreatFmtGo1
import Derived.Test.Qxb6605907aGreatFmtEv
import Derived.Test.Qxb6605907aGreatFmtFs1
namespace Go.Proofs.Qxb6605907aGreatFmt
open Go.RowKit

abbrev pTs : List Nat := [78, 43, 46, 71]

/-- The parser's own block and its scanner's. -/
structure PSt (B : Nat) (w : World) (pb sc hb mb wb : Nat) (file : ByteArray) (line : Int) (ini st : Bool) : Prop where
  prow : w.heap[pb]? = some (.cells #[.pointer (some ⟨sc, 0, none⟩), .pointer (some ⟨hb, 0, none⟩), .map (some mb), .bool ini, .bool st] 78 (0, 0))
  srow : ∃ v1 v3 v4 v5, w.heap[sc]? = some (.cells #[.string file, v1, .int .i64 line, v3, v4, v5] 94 (0, 0))
  base : B ≤ pb ∧ B ≤ mb
  ne : mb ≠ wb

def POk (B : Nat) (w : World) (pb sc hb mb wb : Nat) (file : ByteArray) (line : Int) (ini st : Bool) (init : List UInt8) (h : HP) : Prop :=
  PSt B w pb sc hb mb wb file line ini st ∧ MapS w mb (idxOf 0 (h.procs.map (·.1))) ∧ GOk B w hb wb init h

section
variable {B : Nat} {w W W' : World} {pb sc hb mb wb : Nat} {file : ByteArray} {line : Int} {ini st : Bool} {init : List UInt8} {h h2 : HP} {Ts S : List Nat}

theorem PSt.keepT (p : PSt B W pb sc hb mb wb file line ini st) (k : KeepsT B Ts S W W') (h1 : 78 ∉ Ts) (h2 : 94 ∉ Ts) : PSt B W' pb sc hb mb wb file line ini st := by
  obtain ⟨v1, v3, v4, v5, hs⟩ := p.srow
  exact ⟨k.cells _ _ _ _ p.prow h1, ⟨v1, v3, v4, v5, k.cells _ _ _ _ hs h2⟩, p.base, p.ne⟩

theorem POk.keepT (p : POk B W pb sc hb mb wb file line ini st init h) (k : KeepsT B Ts S W W') (hT : ∀ t ∈ pTs, t ∉ Ts) (h78 : 94 ∉ Ts) (h1 : mb ∉ S) (h2 : wb ∉ S) : POk B W' pb sc hb mb wb file line ini st init h :=
  ⟨p.1.keepT k (hT _ (by simp)) h78, p.2.1.keepsT k h1, p.2.2.keepT k (fun t ht => hT t (by simp at ht ⊢; exact Or.inr ht)) h2⟩

/-- An operation has come. -/
theorem POk.added (p : POk B W pb sc hb mb wb file line ini st init h) (k : KeepsT B gTs [wb] W W') (hG : GOk B W' hb wb init h2) (hn : h2.procs.map (·.1) = h.procs.map (·.1)) : POk B W' pb sc hb mb wb file line ini st init h2 := by
  refine ⟨p.1.keepT k (by simp) (by simp), ?_, hG⟩
  rw [hn]
  exact p.2.1.keepsT k (by simp; exact p.1.ne)

theorem KeepsT.trans_new {S' : List Nat} (hk : KeepsT B Ts S w W) (k : KeepsT B [] S' W W') (hS : ∀ s ∈ S', w.heap.size ≤ s) : KeepsT B Ts S w W' :=
  ⟨k.os.trans hk.os, k.tape.trans hk.tape, k.output.trans hk.output, Nat.le_trans hk.size k.size,
    fun i cs T fr hi hT => k.cells i cs T fr (hk.cells i cs T fr hi hT) (by simp),
    fun i o hi ho hn => k.other i o (hk.other i o hi ho hn) ho (fun hm => by have := hS i hm; have := lt_of_get hi; omega),
    fun i hi hs => (k.low i hi (Nat.lt_of_lt_of_le hs hk.size)).trans (hk.low i hi hs)⟩

end

/-- Between two rounds of parseProc's loop. -/
structure Lv (W0 w : World) (pb sc hb mb wb N bs bf I0 : Nat) (file : ByteArray) (line : Int) (ini : Bool) (init : List UInt8) (x : ByteArray) (res : Value) (h1 : HP) (W : World) : Prop where
  pok : POk W0.heap.size W pb sc hb mb wb file line ini true init h1
  b0 : W.heap[N]? = some (.cells #[.pointer (some ⟨pb, 0, none⟩)] 35 (0, 0))
  b1 : W.heap[N + 1]? = some (.cells #[res] 24 (0, 0))
  b2 : W.heap[N + 2]? = some (.cells #[.int .i64 (I0 : Int)] 3 (0, 0))
  b3 : W.heap[bs]? = some (.cells #[.string x] 9 (0, 0))
  b4 : W.heap[bf]? = some (.cells #[.func (.func 37) #[] #[]] 98 (0, 0))
  low : Low W0 W
  keep : KeepsT W0.heap.size pTs [mb, wb] w W

section
variable {W0 w W W' : World} {pb sc hb mb wb N bs bf I0 : Nat} {file : ByteArray} {line : Int} {ini : Bool} {init : List UInt8} {x : ByteArray} {res : Value} {h1 h2 : HP} {S : List Nat}

theorem Lv.keep0 (v : Lv W0 w pb sc hb mb wb N bs bf I0 file line ini init x res h1 W) (k : KeepsT W0.heap.size [] S W W') (hm : mb ∉ S) (hw : wb ∉ S) (hS : ∀ s ∈ S, w.heap.size ≤ s) : Lv W0 w pb sc hb mb wb N bs bf I0 file line ini init x res h1 W' :=
  ⟨v.pok.keepT k (by simp) (by simp) hm hw, k.cells _ _ _ _ v.b0 (by simp), k.cells _ _ _ _ v.b1 (by simp), k.cells _ _ _ _ v.b2 (by simp), k.cells _ _ _ _ v.b3 (by simp), k.cells _ _ _ _ v.b4 (by simp), v.low.keepT k, v.keep.trans_new k hS⟩

theorem Lv.below (v : Lv W0 w pb sc hb mb wb N bs bf I0 file line ini init x res h1 W) (k : Below W.heap.size W W') : Lv W0 w pb sc hb mb wb N bs bf I0 file line ini init x res h1 W' :=
  v.keep0 (S := []) (KeepsT.of_below k (Nat.le_refl _)) (by simp) (by simp) (by simp)

theorem Lv.added (v : Lv W0 w pb sc hb mb wb N bs bf I0 file line ini init x res h1 W) (k : KeepsT W0.heap.size gTs [wb] W W') (hG : GOk W0.heap.size W' hb wb init h2) (hn : h2.procs.map (·.1) = h1.procs.map (·.1)) : Lv W0 w pb sc hb mb wb N bs bf I0 file line ini init x res h2 W' :=
  ⟨v.pok.added k hG hn, k.cells _ _ _ _ v.b0 (by simp), k.cells _ _ _ _ v.b1 (by simp), k.cells _ _ _ _ v.b2 (by simp), k.cells _ _ _ _ v.b3 (by simp), k.cells _ _ _ _ v.b4 (by simp), v.low.keepT k, v.keep.trans (k.mono (by simp) (by simp))⟩

/-- A store into the result's box. -/
theorem Lv.result (v : Lv W0 w pb sc hb mb wb N bs bf I0 file line ini init x res h1 W) (hN : w.heap.size ≤ N) (hB : W0.heap.size ≤ w.heap.size) (r : Value) : Lv W0 w pb sc hb mb wb N bs bf I0 file line ini init x r h1 (W.setCell ⟨N + 1, 0, none⟩ r) := by
  have k : KeepsT W0.heap.size [24] [] W (W.setCell ⟨N + 1, 0, none⟩ r) := (KeepsT.refl _ _ _ W).setCell v.b1 (by simp) (by omega) r
  refine ⟨v.pok.keepT k (by simp) (by simp) (by simp) (by simp), k.cells _ _ _ _ v.b0 (by simp), row_set v.b1 0 r, k.cells _ _ _ _ v.b2 (by simp), k.cells _ _ _ _ v.b3 (by simp), k.cells _ _ _ _ v.b4 (by simp), v.low.keepT k, ?_⟩
  refine ⟨k.os.trans v.keep.os, k.tape.trans v.keep.tape, k.output.trans v.keep.output, Nat.le_trans v.keep.size k.size, fun i cs T fr hi hT => ?_, fun i o hi ho hn => k.other i o (v.keep.other i o hi ho hn) ho (by simp), fun i hi hs => (k.low i hi (Nat.lt_of_lt_of_le hs v.keep.size)).trans (v.keep.low i hi hs)⟩
  refine (Below.heap_setCell W ⟨N + 1, 0, none⟩ r i ?_).trans (v.keep.cells i cs T fr hi hT)
  have := lt_of_get hi
  intro e
  dsimp only at e
  omega

theorem Lv.kf (v : Lv W0 w pb sc hb mb wb N bs bf I0 file line ini init x res h1 W) {res' : Value} (v' : Lv W0 w pb sc hb mb wb N bs bf I0 file line ini init x res' h2 W') (h0 : 2 < W0.heap.size) (h1' : 3 < W0.heap.size) : Kf bs bf W W' :=
  ⟨v'.b3.trans v.b3.symm, v'.b4.trans v.b4.symm, (v'.low.block _ h0).trans (v.low.block _ h0).symm, (v'.low.block _ h1').trans (v.low.block _ h1').symm⟩

end

theorem runP_snoc (init : List UInt8) (i : Nat) : ∀ (l : List (List UInt8)) (h h1 : HP) (f : List UInt8), runP init i h l = (h1, true) → runP init i h (l ++ [f]) = (match stepP init i h1 f with | none => (h1, false) | some h2 => (h2, true))
  | [], h, h1, f, e => by
    simp only [runP, Prod.mk.injEq, and_true] at e
    subst e
    simp only [List.nil_append, runP]
    cases stepP init i h f with
    | none => rfl
    | some h2 => rfl
  | a :: l, h, h1, f, e => by
    simp only [runP, List.cons_append] at e ⊢
    cases hs : stepP init i h a with
    | none => rw [hs] at e; simp at e
    | some h2 => rw [hs] at e; exact runP_snoc init i l h2 h1 f e

theorem runP_stop (init : List UInt8) (i : Nat) : ∀ (l r : List (List UInt8)) (h h1 : HP), runP init i h l = (h1, false) → runP init i h (l ++ r) = (h1, false)
  | [], r, h, h1, e => by simp [runP] at e
  | a :: l, r, h, h1, e => by
    simp only [runP, List.cons_append] at e ⊢
    cases hs : stepP init i h a with
    | none => rw [hs] at e; exact e
    | some h2 => rw [hs] at e; exact runP_stop init i l r h2 h1 e

theorem fieldsFuncSeq_spec (x : ByteArray) (w : World) : Calls Tryz.prog 36 #[.string x, .func (.func 37) #[] #[]] w fun e w' =>
    e = .returned (.func (.func 52) #[] #[.pointer (some ⟨w.heap.size, 0, none⟩), .pointer (some ⟨w.heap.size + 1, 0, none⟩)]) ∧ w' = (w.alloc (.cells #[.string x] 9)).alloc (.cells #[.func (.func 37) #[] #[]] 98) := by
  go_enter Tryz.func36, Tryz.ntmps36
  go_wp2
  go_ret
  exact ⟨rfl, rfl⟩

end Go.Proofs.Qxb6605907aGreatFmt
