import Derived.Test.Qxb6605907aGreatFmtBuf5
namespace Go.Proofs.Qxb6605907aGreatFmt.Sx
open Go.RowKit

theorem Keeps.of_grown {S : List Nat} {a b : World} {row : Option Nat} (h : a.grownBy b row) (hr : ∀ k, row = some k → a.heap.size ≤ k ∨ k ∈ S) : Keeps S a b :=
  ⟨h.os, h.tape, h.output, h.size, fun k hk hS => h.block k hk (fun e => by
    rcases hr k e.symm with h1 | h1
    · omega
    · exact hS h1)⟩

set_option maxRecDepth 100000 in
/-- bytes.Clone of a slice that is not nil. -/
theorem clone_spec (b off m c : Nat) (l : List UInt8) (w : World) (hm : l.length = m) (hm4 : m ≤ 4096)
    (hc : ∀ j x, l[j]? = some x → w.cell? ⟨b, off + j, none⟩ = some (.int .u8 (x.toNat : Int))) :
    Calls Tryz.prog 86 #[.slice (some ⟨b, off, none⟩) m c] w fun x w' => ∃ v, x = .returned v ∧
      w'.ownsRow w.heap.size 5 1 v m (Lib.byteCells l) ∧ (m = 0 ∨ ∃ g c', v = .slice (some ⟨g, 0, none⟩) m c') ∧ Below w.heap.size w w' := by
  obtain ⟨i0, hi, hz0, hz1, hz2⟩ := info_parts (show (Tryz.prog.info? 5).map (fun i => (i.zero, i.size, i.bytes)) = some (some (.int .u8 0), 1, 1) by kernel_rfl)
  have hown : (w.alloc (.cells #[] 5)).ownsRow w.heap.size 5 1 (.slice (some ⟨w.heap.size, 0, none⟩) 0 0) 0 [] :=
    ⟨rfl, Or.inr ⟨w.heap.size, 0, #[], rfl, Nat.le_refl _, heap_alloc_new w _, Nat.le_refl _, Nat.zero_le _, rfl, rfl⟩⟩
  have hnews : ∀ j u, (Lib.byteCells l)[j]? = some u → (w.alloc (.cells #[] 5)).cell? ((⟨b, off, none⟩ : Addr).add j) = some u := by
    intro j u hj
    have hadd : (⟨b, off, none⟩ : Addr).add j = ⟨b, off + j, none⟩ := by unfold Addr.add; split <;> simp_all
    simp only [Lib.byteCells, List.getElem?_map, Option.map_eq_some_iff] at hj
    obtain ⟨x, hx, rfl⟩ := hj
    have h1 := hc j x hx
    have hb : b < w.heap.size := by
      simp only [World.cell?] at h1
      cases hh : w.heap[b]? with
      | none => simp [hh] at h1
      | some o => exact (Array.getElem?_eq_some_iff.1 hh).1
    rw [hadd]
    simp only [World.cell?] at h1 ⊢
    rw [show (w.alloc (.cells #[] 5)).heap[b]? = w.heap[b]? from (Below.alloc (Below.refl w.heap.size w) (Nat.le_refl _) _).block b hb]
    exact h1
  have Hown := hide hown
  have Hnews := hide hnews
  have Hl : Hid ((Lib.byteCells l).length = m * 1) := by show _ = _; rw [Lib.byteCells_length, hm, Nat.mul_one]
  have heq : (binOp .eql 125 (.slice (some ⟨b, off, none⟩) m c) (.slice none 0 0)).run Tryz.prog w = .ok (.bool false) w := by
    simp only [binOp]
    simp [run_equal_slice_nil w 125 5 (some ⟨b, off, none⟩) m c Tryz.underlying125]
  clear hown hnews
  go_enter Tryz.func86, Tryz.ntmps86
  go_wp2_with (at_builtin; refine wpList_append_own _ rfl (.tmp 5) (.tmp 6) 125 rfl w.heap.size 5 i0 (.int .u8 0) 1 1 Tryz.underlying125 hi hz0 hz1 hz2 rfl (by decide) _ 0 [] rfl Hown.out ⟨b, off, none⟩ m c (Lib.byteCells l) rfl Hl.out Hnews.out (Lib.byteCells_one l) (by simp [maxLen]; omega) (by omega) (by simp) ?_; intro v' w' hv' hg' hn')
  go_ret
  refine ⟨v', rfl, by rw [Nat.zero_add] at hv'; exact hv', ?_, ((Below.refl w.heap.size w).alloc (Nat.le_refl _) _).trans ⟨hg'.os, hg'.tape, hg'.output, hg'.size, fun k hk => hg'.block k (by rw [World.size_alloc]; omega) (fun e => absurd (Option.some.inj e) (Nat.ne_of_lt hk))⟩⟩
  rw [Nat.zero_add] at hv'
  rcases hv'.2 with ⟨_, h⟩ | ⟨g, cap, cur, h, _⟩
  · exact Or.inl h
  · exact Or.inr ⟨g, cap, h⟩

end Go.Proofs.Qxb6605907aGreatFmt.Sx
