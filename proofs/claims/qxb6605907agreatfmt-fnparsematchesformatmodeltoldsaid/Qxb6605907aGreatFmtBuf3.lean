import Derived.Test.Qxb6605907aGreatFmtBuf2
namespace Go.Proofs.Qxb6605907aGreatFmt.Sx
open Go.RowKit

theorem method_read (a : Addr) (w : World) : (method 322 51 (.pointer (some a)) "Read").run Tryz.prog w = .ok (136, .pointer (some a)) w := by kernel_rfl

/-- What fill leaves. m bytes were held; the reader has come to i. -/
def FillPost (p b s m i : Nat) (lb lr ev : Value) (t : ByteArray) (cur : List UInt8) (w w' : World) : Prop :=
  (i < t.size ∧ ∃ k, Nat.min (t.size - i) (4096 - m) = k ∧
    w'.heap[p]? = some (.cells (rdCells b s 0 (m + k) .nilIface lb lr) 141 (0, 0)) ∧
    w'.heap[s]? = some (.cells #[.string t, .int .i64 (i + k : Nat), .int .i64 (-1)] 87 (0, 0)) ∧
    w'.heap[b]? = some (.cells (Lib.byteCells (splice cur m ((t.data.toList.drop i).take k))).toArray 5 (0, 0)) ∧ Keeps [p, b, s] w w') ∨
  (t.size ≤ i ∧
    w'.heap[p]? = some (.cells (rdCells b s 0 m (.iface 168 ev) lb lr) 141 (0, 0)) ∧
    w'.heap[b]? = some (.cells (Lib.byteCells cur).toArray 5 (0, 0)) ∧ Keeps [p, b] w w')

set_option maxRecDepth 100000 in
set_option maxHeartbeats 8000000 in
theorem fill_spec (p b s r n i m : Nat) (lb lr ev : Value) (t : ByteArray) (pv : Value) (cur cur1 : List UInt8) (w : World)
    (hp : w.heap[p]? = some (.cells (rdCells b s r n .nilIface lb lr) 141 (0, 0)))
    (hs : w.heap[s]? = some (.cells #[.string t, .int .i64 i, pv] 87 (0, 0))) (ht : t.size ≤ 1048577)
    (hb : w.heap[b]? = some (.cells (Lib.byteCells cur).toArray 5 (0, 0))) (hc : cur.length = 4096)
    (hrn : r ≤ n) (hn : n ≤ 4096) (hfull : n - r < 4096) (hpb : p ≠ b) (hps : p ≠ s) (hsb : s ≠ b)
    (hE : w.cell? ⟨0, 0, none⟩ = some (.iface 168 ev)) (h0p : 0 ≠ p) (h0b : 0 ≠ b)
    (hm : n - r = m) (hcur1 : splice cur 0 ((cur.drop r).take (n - r)) = cur1) :
    Calls Tryz.prog 98 #[.pointer (some ⟨p, 0, none⟩)] w fun x w' => x = .returned (.tuple #[]) ∧ FillPost p b s m i lb lr ev t cur1 w w' := by
  have c0 : w.cell? ⟨p, 0, none⟩ = some (.slice (some ⟨b, 0, none⟩) 4096 4096) := by rw [row_cell hp]; rfl
  have c2 : w.cell? ⟨p, 2, none⟩ = some (.int .i64 (r : Int)) := by rw [row_cell hp]; rfl
  have c3 : w.cell? ⟨p, 3, none⟩ = some (.int .i64 (n : Int)) := by rw [row_cell hp]; rfl
  have f2 : w.frozen? ⟨p, 2, none⟩ = false := row_frozen hp 2
  have f3 : w.frozen? ⟨p, 3, none⟩ = false := row_frozen hp 3
  go_enter Tryz.func98, Tryz.ntmps98
  go_upto_if 9 with fail
  go_cut [] (fun w' => w'.heap[p]? = some (.cells (rdCells b s 0 (n - r) .nilIface lb lr) 141 (0, 0)) ∧
    w'.heap[b]? = some (.cells (Lib.byteCells (splice cur 0 ((cur.drop r).take (n - r)))).toArray 5 (0, 0)) ∧ Keeps [p, b] w w')
  case first =>
    clear hm hcur1
    by_cases hr : 0 < r
    · have hr' : (0 : Int) < (r : Int) := by exact_mod_cast hr
      have hn' : (n : Int) ≤ 4096 := by exact_mod_cast hn
      have hrn' : (r : Int) ≤ (n : Int) := by exact_mod_cast hrn
      have hb1 : w.drew.heap[b]? = some (.cells (Lib.byteCells cur).toArray 5 (0, 0)) := hb
      obtain ⟨w1, HC0, b1, k1⟩ := move_run b r n cur w.drew hb1 hc hrn hn
      obtain ⟨A, hA⟩ : ∃ A, (if 4096 = r then some (⟨b, 0, none⟩ : Addr) else some ⟨b, r, none⟩) = A := ⟨_, rfl⟩
      rw [hA] at HC0
      have HC := hide HC0
      have k1' : Keeps [p, b] w w1 := ⟨k1.os, k1.tape, k1.output, k1.size, fun k hk hS => k1.block k hk (fun h => hS (by simp at h; simp [h]))⟩
      have p1 : w1.heap[p]? = some (.cells (rdCells b s r n .nilIface lb lr) 141 (0, 0)) := by
        rw [k1.block p (Array.getElem?_eq_some_iff.1 hp).1 (by simpa using hpb)]; exact hp
      have d0 : w1.cell? ⟨p, 0, none⟩ = some (.slice (some ⟨b, 0, none⟩) 4096 4096) := by rw [row_cell p1]; rfl
      have d2 : w1.cell? ⟨p, 2, none⟩ = some (.int .i64 (r : Int)) := by rw [row_cell p1]; rfl
      have d3 : w1.cell? ⟨p, 3, none⟩ = some (.int .i64 (n : Int)) := by rw [row_cell p1]; rfl
      have g2 : w1.frozen? ⟨p, 2, none⟩ = false := row_frozen p1 2
      have g3 : w1.frozen? ⟨p, 3, none⟩ = false := row_frozen p1 3
      have hend : ((w1.drew.setCell ⟨p, 3, none⟩ (.int .i64 ((n : Int) - (r : Int)))).setCell ⟨p, 2, none⟩ (.int .i64 0)).heap[p]? = some (.cells (rdCells b s 0 (n - r) .nilIface lb lr) 141 (0, 0)) ∧
          ((w1.drew.setCell ⟨p, 3, none⟩ (.int .i64 ((n : Int) - (r : Int)))).setCell ⟨p, 2, none⟩ (.int .i64 0)).heap[b]? = some (.cells (Lib.byteCells (splice cur 0 ((cur.drop r).take (n - r)))).toArray 5 (0, 0)) ∧
          Keeps [p, b] w ((w1.drew.setCell ⟨p, 3, none⟩ (.int .i64 ((n : Int) - (r : Int)))).setCell ⟨p, 2, none⟩ (.int .i64 0)) := by
        refine ⟨?_, row_keep (row_keep b1 _ _ (Ne.symm hpb)) _ _ (Ne.symm hpb), (k1'.drew.setCell ⟨p, 3, none⟩ _ (by simp)).setCell ⟨p, 2, none⟩ _ (by simp)⟩
        rw [row_set (row_set (w := w1.drew) p1 3 _) 2 _, rdCells, rdCells, Int.ofNat_sub hrn]
        rfl
      have Hend := hide hend
      clear hend HC0 b1 k1 k1' p1 hp hb hb1
      go_upto_region 1 with fail
      go_cut [] (fun w' => w' = w1)
      case first =>
        go_region_law (refine step_copy_run rfl (.tmp 13) (.tmp 26) 125 125 rfl _ _ (by simp [Act.eval, Act.put]) (by simp [Act.eval, Act.put]) HC.out ?_)
        all_goals (go_wp2; go_meet; rfl)
      case rest =>
        obtain rfl := hcut
        go_wp2
        go_region
        all_goals go_wp2
        all_goals go_meet
        all_goals exact Hend.out
    · obtain rfl : r = 0 := by omega
      go_wp2
      go_meet
      refine ⟨hp, ?_, Keeps.refl _ _⟩
      rw [hb, List.drop_zero, Nat.sub_zero, splice_self]
  case rest =>
    obtain ⟨wm, rfl⟩ : ∃ wm, wm = wc := ⟨_, rfl⟩
    obtain ⟨hp1, hb1, k1⟩ := hcut
    rw [hm] at hp1 hfull
    rw [hcur1] at hb1
    have hc1 : cur1.length = 4096 := by
      rw [← hcur1, length_splice _ _ _ (by simp only [List.length_take, List.length_drop]; omega), hc]
    have szp : p < w.heap.size := (Array.getElem?_eq_some_iff.1 hp).1
    have szs : s < w.heap.size := (Array.getElem?_eq_some_iff.1 hs).1
    have hs1 : wm.heap[s]? = some (.cells #[.string t, .int .i64 i, pv] 87 (0, 0)) := by
      rw [k1.block s szs (by simp [Ne.symm hps, hsb])]; exact hs
    have hE1 : wm.cell? ⟨0, 0, none⟩ = some (.iface 168 ev) := by
      have h0 : 0 < w.heap.size := by
        simp only [World.cell?] at hE
        cases hh : w.heap[0]? with
        | none => simp [hh] at hE
        | some o => exact (Array.getElem?_eq_some_iff.1 hh).1
      have : wm.heap[0]? = w.heap[0]? := k1.block 0 h0 (by simp [h0p, h0b])
      simp only [World.cell?, this] at hE ⊢
      exact hE
    have c0 : wm.cell? ⟨p, 0, none⟩ = some (.slice (some ⟨b, 0, none⟩) 4096 4096) := by rw [row_cell hp1]; rfl
    have c1 : wm.cell? ⟨p, 1, none⟩ = some (.iface 51 (.pointer (some ⟨s, 0, none⟩))) := by rw [row_cell hp1]; rfl
    have c3 : wm.cell? ⟨p, 3, none⟩ = some (.int .i64 (m : Int)) := by rw [row_cell hp1]; rfl
    have hm1 : ¬ ((4096 : Int) ≤ (m : Int)) := by omega
    have hm2 : decide ((4096 : Int) ≤ (m : Int)) = false := decide_eq_false hm1
    have hm3 : (m : Int) ≤ 4096 := by omega
    have hm4 : ¬ (4096 = m) := by omega
    have mR := method_read
    by_cases hi : i < t.size
    · obtain ⟨k, hk⟩ : ∃ k, Nat.min (t.size - i) (4096 - m) = k := ⟨_, rfl⟩
      have hk0 : 0 < k := by rw [← hk]; exact Nat.lt_min.2 ⟨by omega, by omega⟩
      have hkm : k ≤ 4096 - m := by rw [← hk]; exact Nat.min_le_right _ _
      have HR := hide (fun q => read_some s i b m (4096 - m) (4096 - m) k t pv cur1 (wm.drewN q) hs1 hi ht hb1 (by rw [hc1]; omega) (by omega) hsb hk)
      have k1h := hide k1
      have hp1h := hide hp1
      clear hp hs hb hE hp1 hs1 hb1 hE1 k1 c2 f2 f3
      go_upto_region 4 with fail
      go_quiet (fail)
      go_wp2
      refine wp_loop_rounds 1 ?_
      rw [rounds_succ]
      go_upto_region 9 with fail
      go_cut [3, 4] (fun x y w' => x = .int .i64 k ∧ y = .nilIface ∧ Hid (w'.heap[s]? = some (.cells #[.string t, .int .i64 (i + k : Nat), .int .i64 (-1)] 87 (0, 0)) ∧
        w'.heap[b]? = some (.cells (Lib.byteCells (splice cur1 m ((t.data.toList.drop i).take k))).toArray 5 (0, 0)) ∧ Keeps [s, b] wm w'))
      case first =>
        go_region_with (go_at_call 136; refine (HR.out _).mono ?_; rintro e w2 ⟨rfl, h2⟩)
        all_goals (go_wp2; go_meet; exact ⟨rfl, rfl, h2.1, h2.2.1, ⟨h2.2.2.os, h2.2.2.tape, h2.2.2.output, h2.2.2.size, h2.2.2.block⟩⟩)
      case rest =>
        obtain ⟨rfl, rfl, h2⟩ := hcut
        obtain ⟨hs2, hb2, k2⟩ := h2.out
        have szw : w.heap.size ≤ wm.heap.size := k1h.out.size
        have hp2 : wc.heap[p]? = some (.cells (rdCells b s 0 m .nilIface lb lr) 141 (0, 0)) := by
          rw [k2.block p (Nat.lt_of_lt_of_le szp szw) (by simp [hps, hpb])]; exact hp1h.out
        have k3 : Keeps [p, b, s] w wc := (k1h.out.mono (by simp)).trans (k2.mono (by simp))
        have d3 : wc.cell? ⟨p, 3, none⟩ = some (.int .i64 (m : Int)) := by rw [row_cell hp2]; rfl
        have g3 : wc.frozen? ⟨p, 3, none⟩ = false := row_frozen hp2 3
        have hend : FillPost p b s m i lb lr ev t cur1 w (wc.setCell ⟨p, 3, none⟩ (.int .i64 ((m + k : Nat) : Int))) :=
          Or.inl ⟨hi, k, hk, row_set hp2 3 _, row_keep hs2 _ _ (Ne.symm hps), row_keep hb2 _ _ (Ne.symm hpb), k3.setCell ⟨p, 3, none⟩ _ (by simp)⟩
        have Hend := hide hend
        have hk1 : ¬ ((k : Int) < 0) := by omega
        have hk2 : (0 : Int) < (k : Int) := by omega
        clear hend hs2 hb2 k2 k3 hp2
        go_wp2
        rw [← Int.natCast_add]
        exact bodyPost_ret (v := .tuple #[]) (by simp [results, Tryz.results98, go_sem]) rfl ⟨rfl, Hend.out⟩
    · have HR := hide (fun q => read_eof s i b m (4096 - m) (4096 - m) t pv ev (wm.drewN q) hs1 (by omega) hE1)
      have k1h := hide k1
      have hp1h := hide hp1
      have hb1h := hide hb1
      clear hp hs hb hE hp1 hs1 hb1 hE1 k1 c2 f2 f3
      go_upto_region 4 with fail
      go_quiet (fail)
      go_wp2
      refine wp_loop_rounds 1 ?_
      rw [rounds_succ]
      go_upto_region 9 with fail
      go_cut [3, 4] (fun x y w' => x = .int .i64 0 ∧ y = .iface 168 ev ∧ ∃ q, w' = wm.drewN q)
      case first =>
        go_region_with (go_at_call 136; refine (HR.out _).mono ?_; rintro e w2 ⟨rfl, q2, rfl⟩)
        all_goals (go_wp2; go_meet; exact ⟨rfl, rfl, _, rfl⟩)
      case rest =>
        obtain ⟨rfl, rfl, q, rfl⟩ := hcut
        have d3 : (wm.drewN q).cell? ⟨p, 3, none⟩ = some (.int .i64 (m : Int)) := c3
        have d4 : (wm.drewN q).cell? ⟨p, 4, none⟩ = some .nilIface := by
          show wm.cell? _ = _
          rw [row_cell hp1h.out]; rfl
        have g3 : wm.frozen? ⟨p, 3, none⟩ = false := row_frozen hp1h.out 3
        have g4 : wm.frozen? ⟨p, 4, none⟩ = false := row_frozen hp1h.out 4
        have hend : FillPost p b s m i lb lr ev t cur1 w (((wm.drewN q).setCell ⟨p, 3, none⟩ (.int .i64 (m : Int))).setCell ⟨p, 4, none⟩ (.iface 168 ev)) :=
          Or.inr ⟨by omega, row_set (row_set (w := wm.drewN q) hp1h.out 3 _) 4 _, row_keep (row_keep (w := wm.drewN q) hb1h.out _ _ (Ne.symm hpb)) _ _ (Ne.symm hpb),
            ((k1h.out.drewN q).setCell ⟨p, 3, none⟩ _ (by simp)).setCell ⟨p, 4, none⟩ _ (by simp)⟩
        have Hend := hide hend
        clear hend hp1h hb1h
        go_wp2
        exact bodyPost_ret (v := .tuple #[]) (by simp [results, Tryz.results98, go_sem]) rfl ⟨rfl, Hend.out⟩

end Go.Proofs.Qxb6605907aGreatFmt.Sx
