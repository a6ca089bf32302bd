import Derived.Test.Qxb6605907aGreatFmtZl
import Derived.Test.Qxb6605907aGreatFmtScn5
import Derived.Test.Qxb6605907aGreatFmtNw
namespace Go.Proofs.Qxb6605907aGreatFmt
open Go.RowKit

theorem KeepsT.belowLow {W0 w w' : World} {Ts S : List Nat} (hb : Below W0.heap.size W0 w) (k : KeepsT W0.heap.size Ts S w w') : Below W0.heap.size W0 w' :=
  ⟨k.os.trans hb.os, k.tape.trans hb.tape, k.output.trans hb.output, Nat.le_trans hb.size k.size, fun i hi => (k.low i hi (Nat.lt_of_lt_of_le hi hb.size)).trans (hb.block i hi)⟩

/-- The two sentinels that a scan asks for. -/
structure EnvS (W0 : World) (ae af : Addr) : Prop where
  hE : W0.cell? ⟨0, 0, none⟩ = some (.iface 168 (.pointer (some ae)))
  hF : W0.cell? ⟨1, 0, none⟩ = some (.iface 168 (.pointer (some af)))
  hne : ae ≠ af
  hae : ∃ ca ta, W0.heap[ae.block]? = some (.cells ca ta (0, 0))
  haf : ∃ ca ta, W0.heap[af.block]? = some (.cells ca ta (0, 0))

abbrev scTs : List Nat := [94, 141, 87, 5]

/-- A parser and its scanner, side by side. -/
structure PL (W0 : World) (pb q p b s hb mb wb : Nat) (file t : ByteArray) (S : PS) (pos n : Nat) (tx : ByteArray) (done : Bool) (W : World) : Prop where
  pok : POk W0.heap.size W pb q hb mb wb file (n : Int) S.ini S.st S.init S.h
  sc : Sx.Sc q p b s file t pos n tx done W
  low : Low W0 W
  below : Below W0.heap.size W0 W
  base : W0.heap.size ≤ p ∧ W0.heap.size ≤ b ∧ W0.heap.size ≤ s ∧ W0.heap.size ≤ q
  ne : p ≠ b ∧ p ≠ s ∧ s ≠ b ∧ q ≠ p ∧ q ≠ b ∧ q ≠ s

theorem sc_rows {q p b s : Nat} {file t : ByteArray} {pos n : Nat} {tx : ByteArray} {done : Bool} {W : World} (h : Sx.Sc q p b s file t pos n tx done W) :
    ∀ k ∈ [p, b, s, q], ∃ cs T, W.heap[k]? = some (.cells cs T (0, 0)) ∧ T ∈ scTs := by
  obtain ⟨hq, ⟨r, m, i, ⟨lb, lr, pv, cur, hp, hs, hb, _⟩, _⟩, _⟩ := h
  intro k hk
  simp only [List.mem_cons, List.not_mem_nil, or_false] at hk
  rcases hk with rfl | rfl | rfl | rfl
  · exact ⟨_, _, hp, by simp⟩
  · exact ⟨_, _, hb, by simp⟩
  · exact ⟨_, _, hs, by simp⟩
  · exact ⟨_, _, hq, by simp⟩

theorem keepsT_of_keeps {B : Nat} {l : List Nat} {W W' : World} (hr : ∀ k ∈ l, ∃ cs T, W.heap[k]? = some (.cells cs T (0, 0)) ∧ T ∈ scTs) (hB : ∀ k ∈ l, B ≤ k) (k : Sx.Keeps l W W') : KeepsT B scTs [] W W' := by
  refine ⟨k.os, k.tape, k.output, k.size, fun i cs T fr hi hT => ?_, fun i o hi ho _ => ?_, fun i hi hs => k.block i hs (fun hm => by have := hB i hm; omega)⟩
  · rw [k.block i (lt_of_get hi) (fun hm => ?_)]
    · exact hi
    · obtain ⟨cs', T', h1, h2⟩ := hr i hm
      rw [hi] at h1
      cases h1
      exact hT h2
  · rw [k.block i (lt_of_get hi) (fun hm => ?_)]
    · exact hi
    · obtain ⟨cs', T', h1, h2⟩ := hr i hm
      rw [hi] at h1
      cases h1
      cases ho

theorem sc_keepT {q p b s : Nat} {file t : ByteArray} {pos n : Nat} {tx : ByteArray} {done : Bool} {B : Nat} {Ts S : List Nat} {W W' : World} (h : Sx.Sc q p b s file t pos n tx done W) (k : KeepsT B Ts S W W') (hT : ∀ T ∈ scTs, T ∉ Ts) :
    Sx.Sc q p b s file t pos n tx done W' := by
  obtain ⟨hq, ⟨r, m, i, ⟨lb, lr, pv, cur, hp, hs, hb, hrest⟩, hpos⟩, hend⟩ := h
  exact ⟨k.cells _ _ _ _ hq (hT _ (by simp)), ⟨r, m, i, ⟨lb, lr, pv, cur, k.cells _ _ _ _ hp (hT _ (by simp)), k.cells _ _ _ _ hs (hT _ (by simp)), k.cells _ _ _ _ hb (hT _ (by simp)), hrest⟩, hpos⟩, hend⟩

section
variable {W0 : World} {pb q p b s hb mb wb : Nat} {file t : ByteArray} {S S' : PS} {pos n pos' n' : Nat} {tx tx' : ByteArray} {done done' : Bool} {W W' : World}

theorem PL.env (x : PL W0 pb q p b s hb mb wb file t S pos n tx done W) (EV : EnvF W0) {ae af : Addr} (ES : EnvS W0 ae af) (ht : t.size ≤ 1048577) : Sx.Env p b s q ae af t W := by
  have lo : ∀ k, k < W0.heap.size → k ∉ [p, b, s, q] := fun k hk => by
    obtain ⟨h1, h2, h3, h4⟩ := x.base
    simp; omega
  obtain ⟨ca, ta, hae⟩ := ES.hae
  obtain ⟨cf, tf, haf⟩ := ES.haf
  have l0 := World.block_lt_of_cell? W0 _ ES.hE
  have l1 := World.block_lt_of_cell? W0 _ ES.hF
  have l2 := World.block_lt_of_cell? W0 _ (EV.utf.1 0 (by decide))
  have l3 := World.block_lt_of_cell? W0 _ (EV.utf.2 0 (by decide)).1
  exact ⟨ht, x.ne.1, x.ne.2.1, x.ne.2.2.1, x.ne.2.2.2.1, x.ne.2.2.2.2.1, x.ne.2.2.2.2.2, x.low.cell ES.hE, x.low.cell ES.hF, lo _ l0, lo _ l1, ES.hne,
    ⟨ca, ta, (x.low.block _ (lt_of_get hae)).trans hae⟩, ⟨cf, tf, (x.low.block _ (lt_of_get haf)).trans haf⟩, lo _ (lt_of_get hae), lo _ (lt_of_get haf), EV.utfAt x.low, lo _ l2, lo _ l3⟩

/-- A scan has gone on. -/
theorem PL.scanned (x : PL W0 pb q p b s hb mb wb file t S pos n tx done W) (k : Sx.Keeps [p, b, s, q] W W') (hsc : Sx.Sc q p b s file t pos' n' tx' done' W') : PL W0 pb q p b s hb mb wb file t S pos' n' tx' done' W' := by
  have kT : KeepsT W0.heap.size scTs [] W W' := keepsT_of_keeps (sc_rows x.sc) (fun k hk => by
    obtain ⟨h1, h2, h3, h4⟩ := x.base
    simp only [List.mem_cons, List.not_mem_nil, or_false] at hk
    rcases hk with rfl | rfl | rfl | rfl <;> assumption) k
  obtain ⟨⟨h1, h2, h3, h4⟩, h5, h6⟩ := x.pok
  refine ⟨⟨⟨kT.cells _ _ _ _ h1 (by simp), ⟨_, _, _, _, hsc.1⟩, h3, h4⟩, h5.keepsT kT (by simp), h6.keepT kT (by simp) (by simp)⟩, hsc, x.low.keepT kT, KeepsT.belowLow x.below kT, x.base, x.ne⟩

/-- A line has been taken. -/
theorem PL.lined (x : PL W0 pb q p b s hb mb wb file t S pos n tx done W) (hP : POk W0.heap.size W' pb q hb mb wb file (n : Int) S'.ini S'.st S'.init S'.h) (k : KeepsT W0.heap.size pTs [mb, wb] W W') : PL W0 pb q p b s hb mb wb file t S' pos n tx done W' :=
  ⟨hP, sc_keepT x.sc k (by simp), x.low.keepT k, KeepsT.belowLow x.below k, x.base, x.ne⟩

end
end Go.Proofs.Qxb6605907aGreatFmt
