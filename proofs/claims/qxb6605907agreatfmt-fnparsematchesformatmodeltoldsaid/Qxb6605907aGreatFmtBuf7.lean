import Derived.Test.Qxb6605907aGreatFmtBuf6
namespace Go.Proofs.Qxb6605907aGreatFmt.Sx
open Go.RowKit

theorem run_neq_same (w : World) (a : Addr) : (binOp .neq 48 (.iface 168 (.pointer (some a))) (.iface 168 (.pointer (some a)))).run Tryz.prog w = .ok (.bool false) w := by
  obtain ⟨i, hi, hcmp⟩ := Option.map_eq_some_iff.1 (show (Tryz.prog.info? 168).map (·.comparable) = some true by kernel_rfl)
  obtain ⟨j, hj, hjs⟩ := Option.map_eq_some_iff.1 (show (Tryz.prog.info? 170).map (·.size) = some 1 by kernel_rfl)
  simp only [binOp]
  simp [Op.equal, Op.maxDepth, run_equalIn_iface_ptr_same w 9998 a Tryz.underlying48 Tryz.underlying168 hi hcmp hj]

theorem run_neq_other (w : World) (a b : Addr) (ca cb : Array Value) (ta tb : TypeId) (hne : a ≠ b) (ha : w.heap[a.block]? = some (.cells ca ta (0, 0))) (hb : w.heap[b.block]? = some (.cells cb tb (0, 0))) :
    (binOp .neq 48 (.iface 168 (.pointer (some a))) (.iface 168 (.pointer (some b)))).run Tryz.prog w = .ok (.bool true) w := by
  obtain ⟨i, hi, hcmp⟩ := Option.map_eq_some_iff.1 (show (Tryz.prog.info? 168).map (·.comparable) = some true by kernel_rfl)
  obtain ⟨j, hj, hjs⟩ := Option.map_eq_some_iff.1 (show (Tryz.prog.info? 170).map (·.size) = some 1 by kernel_rfl)
  simp only [binOp]
  simp [Op.equal, Op.maxDepth, run_equalIn_iface_ptr_other w 9998 Tryz.underlying48 Tryz.underlying168 hi hcmp hj (by rw [hjs]; decide) hne ha hb]

/-- THE PIECES THAT FILLED A BUFFER: copies of their own, 4096 bytes each. -/
def Frags (B : Nat) (t : ByteArray) (pos q : Nat) (vals : List Value) (w : World) : Prop :=
  vals.length = q ∧ ∀ j, j < q → ∃ g c cs, vals[j]? = some (.slice (some ⟨g, 0, none⟩) 4096 c) ∧ B ≤ g ∧ w.heap[g]? = some (.cells cs 5 (0, 0)) ∧
    ∀ u, u < 4096 → ∃ x : UInt8, t.data.toList[pos + 4096 * j + u]? = some x ∧ cs[u]? = some (.int .u8 (x.toNat : Int))

theorem Frags.kept {B : Nat} {t : ByteArray} {pos q : Nat} {vals : List Value} {w w' : World} (h : Frags B t pos q vals w)
    (hk : ∀ g cs, B ≤ g → w.heap[g]? = some (.cells cs 5 (0, 0)) → w'.heap[g]? = some (.cells cs 5 (0, 0))) : Frags B t pos q vals w' := by
  refine ⟨h.1, fun j hj => ?_⟩
  obtain ⟨g, c, cs, h1, h2, h3, h4⟩ := h.2 j hj
  exact ⟨g, c, cs, h1, h2, hk g cs h2 h3, h4⟩

theorem Frags.keeps {B p b s : Nat} {t : ByteArray} {pos q : Nat} {vals : List Value} {w w' : World} (h : Frags B t pos q vals w) (hp : p < B) (hb : b < B) (hs : s < B) (hk : Keeps [p, b, s] w w') : Frags B t pos q vals w' :=
  h.kept fun g cs hg hh => by rw [hk.block g (Array.getElem?_eq_some_iff.1 hh).1 (by simp; omega)]; exact hh

theorem ownsRow_keeps {B e size n p b s : Nat} {v : Value} {xs : List Value} {w w' : World} (h : w.ownsRow B e size v n xs) (hp : p < B) (hb : b < B) (hs : s < B) (hk : Keeps [p, b, s] w w') : w'.ownsRow B e size v n xs := by
  refine ⟨h.1, ?_⟩
  rcases h.2 with h1 | ⟨g, cap, cur, h1, h2, h3, h4⟩
  · exact Or.inl h1
  · exact Or.inr ⟨g, cap, cur, h1, h2, by rw [hk.block g (Array.getElem?_eq_some_iff.1 h3).1 (by simp; omega)]; exact h3, h4⟩

theorem St.same {p b s : Nat} {t : ByteArray} {e : Value} {r n i : Nat} {w w' : World} (h : St p b s t e r n i w) (hp : w'.heap[p]? = w.heap[p]?) (hb : w'.heap[b]? = w.heap[b]?) (hs : w'.heap[s]? = w.heap[s]?) : St p b s t e r n i w' := by
  obtain ⟨lb, lr, pv, cur, h1, h2, h3, h4⟩ := h
  exact ⟨lb, lr, pv, cur, hp.trans h1, hs.trans h2, hb.trans h3, h4⟩

/-- What collectFragments hands back. -/
def Collected (p b s : Nat) (t : ByteArray) (pos : Nat) (ev fv : Value) (B : Nat) (q k : Nat) (fb line e : Value) (w' : World) : Prop :=
  (∃ vals, w'.ownsRow B 125 1 fb q vals ∧ Frags B t pos q vals w') ∧ Got p b s t (pos + 4096 * q) ev fv k line e w' ∧
  (e = .nilIface ∨ e = .iface 168 ev) ∧ (∀ j, j < 4096 * q → t.data.toList[pos + j]? ≠ some 10)

set_option maxRecDepth 100000 in
set_option maxHeartbeats 4000000 in
theorem collect_spec (p b s pos r0 n0 i0 : Nat) (ae af : Addr) (ca cf : Array Value) (ta tf : TypeId) (t : ByteArray) (w : World)
    (h0 : St p b s t .nilIface r0 n0 i0 w) (hpos : i0 + r0 = pos + n0) (ht : t.size ≤ 1048577)
    (hpb : p ≠ b) (hps : p ≠ s) (hsb : s ≠ b)
    (hE : w.cell? ⟨0, 0, none⟩ = some (.iface 168 (.pointer (some ae)))) (h0p : 0 ≠ p) (h0b : 0 ≠ b) (h0s : 0 ≠ s)
    (hF : w.cell? ⟨1, 0, none⟩ = some (.iface 168 (.pointer (some af)))) (h1p : 1 ≠ p) (h1b : 1 ≠ b) (h1s : 1 ≠ s)
    (hne : ae ≠ af) (hae : w.heap[ae.block]? = some (.cells ca ta (0, 0))) (haf : w.heap[af.block]? = some (.cells cf tf (0, 0)))
    (hae' : ae.block ∉ [p, b, s]) (haf' : af.block ∉ [p, b, s]) :
    Calls Tryz.prog 61 #[.pointer (some ⟨p, 0, none⟩), .int .u8 10] w fun x w' =>
      ∃ q k fb line e, x = .returned (.tuple #[fb, line, .int .i64 ((4096 * q + k : Nat) : Int), e]) ∧
        Collected p b s t pos (.pointer (some ae)) (.pointer (some af)) w.heap.size q k fb line e w' ∧ Keeps [p, b, s] w w' := by
  have hpB : p < w.heap.size := by obtain ⟨_, _, _, _, h, _⟩ := h0; exact (Array.getElem?_eq_some_iff.1 h).1
  have hbB : b < w.heap.size := by obtain ⟨_, _, _, _, _, _, h, _⟩ := h0; exact (Array.getElem?_eq_some_iff.1 h).1
  have hsB : s < w.heap.size := by obtain ⟨_, _, _, _, _, h, _⟩ := h0; exact (Array.getElem?_eq_some_iff.1 h).1
  obtain ⟨i1, hi, hz0, hz1, hz2⟩ := info_parts (show (Tryz.prog.info? 125).map (fun i => (i.zero, i.size, i.bytes)) = some (some (.slice none 0 0), 1, 24) by kernel_rfl)
  obtain ⟨B, hB⟩ : ∃ B, w.heap.size = B := ⟨_, rfl⟩
  rw [hB] at hpB hbB hsB ⊢
  have HB := hide hB
  go_enter Tryz.func61, Tryz.ntmps61
  go_upto_block 0 with fail
  go_wp2
  go_loopw [4, 6, 7] (fun fb tot er wr => ∃ q vals, tot = .int .i64 ((4096 * q : Nat) : Int) ∧ er = .nilIface ∧ wr.ownsRow B 125 1 fb q vals ∧ Frags B t pos q vals wr ∧
      (∃ r n i, St p b s t .nilIface r n i wr ∧ i + r = pos + 4096 * q + n) ∧ (∀ j, j < 4096 * q → t.data.toList[pos + j]? ≠ some 10) ∧ Keeps [p, b, s] w wr)
    (fun _ tot _ _ => t.size - (intOf tot).toNat)
  case atStart => exact ⟨0, [], rfl, rfl, ⟨rfl, Or.inl ⟨rfl, rfl⟩⟩, ⟨rfl, fun j hj => absurd hj (Nat.not_lt_zero _)⟩, ⟨r0, n0, i0, h0, by omega⟩, fun j hj => absurd hj (by omega), Keeps.refl _ _⟩
  case round =>
    obtain ⟨q, vals, rfl, rfl, hown, hfr, ⟨r, n, i, hst, hps1⟩, hno, kp⟩ := hrel
    have hE1 : wr.cell? ⟨0, 0, none⟩ = some (.iface 168 (.pointer (some ae))) := kp.cell (by simp [h0p, h0b, h0s]) hE
    have hF1 : wr.cell? ⟨1, 0, none⟩ = some (.iface 168 (.pointer (some af))) := kp.cell (by simp [h1p, h1b, h1s]) hF
    have HR := hide (readSlice_spec p b s (pos + 4096 * q) r n i (.pointer (some ae)) (.pointer (some af)) t wr hst hps1 ht hpb hps hsb hE1 h0p h0b h0s hF1 h1p h1b h1s)
    have HOWN := hide hown
    have HFR := hide hfr
    have HNO := hide hno
    have KP := hide kp
    clear hst hown hfr hno kp h0 hE1 hF1
    go_upto_region 4 with (go_at_call 85; refine HR.out.mono ?_; rintro x w2 ⟨line, e, k, rfl, hg, kp2⟩)
    have hg' := hg
    obtain ⟨⟨off, c, rfl, hby⟩, hk4, hkt, hst2, he⟩ := hg'
    have HOWN2 := hide (ownsRow_keeps HOWN.out hpB hbB hsB kp2)
    have HFR2 := hide (HFR.out.keeps hpB hbB hsB kp2)
    have KP2 := hide (KP.out.trans kp2)
    have HGOT := hide hg
    have hq1 : 4096 * q + k ≤ 1048577 := by omega
    have hwr : IntKind.i64.wrap (4096 * (q : Int) + (k : Int)) = ((4096 * q + k : Nat) : Int) := by rw [IntWalk.i64_in _ (by omega)]; omega
    clear hg kp2
    rcases he with ⟨rfl, hk0, h10, hbef⟩ | ⟨rfl, rfl, hbef⟩ | ⟨rfl, hend, hbef⟩
    · clear hby hst2 h10 hbef
      go_wp2
      exact bodyPost_ret (v := .tuple #[u4, .slice (some ⟨b, off, none⟩) k c, .int .i64 ((4096 * q + k : Nat) : Int), .nilIface]) (by simp [results, Tryz.results61, go_sem]) rfl
        ⟨q, k, _, _, _, rfl, ⟨⟨vals, HOWN2.out, HFR2.out⟩, HGOT.out, Or.inl rfl, HNO.out⟩, KP2.out⟩
    · have hneq := run_neq_same w2 af
      have hF2 : w2.cell? ⟨1, 0, none⟩ = some (.iface 168 (.pointer (some af))) := KP2.out.cell (by simp [h1p, h1b, h1s]) hF
      obtain ⟨l, hl⟩ : ∃ l, (t.data.toList.drop (pos + 4096 * q)).take 4096 = l := ⟨_, rfl⟩
      have hll : l.length = 4096 := by rw [← hl, List.length_take, List.length_drop, size_list]; omega
      have hlj : ∀ j, j < 4096 → l[j]? = t.data.toList[pos + 4096 * q + j]? := fun j hj => by rw [← hl, List.getElem?_take, if_pos hj, List.getElem?_drop]
      have HCL := hide (clone_spec b off 4096 c l w2 hll (Nat.le_refl _) (fun j x hx => by
        have hj : j < 4096 := by have := (List.getElem?_eq_some_iff.1 hx).1; omega
        obtain ⟨y, hy, hcy⟩ := hby j hj
        rw [hlj j hj, hy] at hx
        cases hx
        exact hcy))
      have hszB : B ≤ w2.heap.size := by rw [← HB.out]; exact KP2.out.size
      have HST2 := hide hst2
      have HBEF := hide hbef
      have HLJ := hide hlj
      clear hby hst2 hbef hl hlj
      go_upto_region 8 with (go_at_call 86; refine HCL.out.mono ?_; rintro x w3 ⟨v, rfl, hv, hv', hbl⟩)
      obtain ⟨g, c', rfl⟩ : ∃ g c', v = .slice (some ⟨g, 0, none⟩) 4096 c' := by
        rcases hv' with h | h
        · exact absurd h (by decide)
        · exact h
      have hcl : ∃ cs, w2.heap.size ≤ g ∧ w3.heap[g]? = some (.cells cs 5 (0, 0)) ∧ ∀ u, u < 4096 → ∃ x : UInt8, t.data.toList[pos + 4096 * q + u]? = some x ∧ cs[u]? = some (.int .u8 (x.toNat : Int)) := by
        rcases hv.2 with ⟨h, _⟩ | ⟨g', cap, cur, h1, h2, h3, h4, h5, h6, h7⟩
        · exact absurd h (by simp)
        · cases h1
          refine ⟨cur, h2, h3, fun u hu => ?_⟩
          have hu' : u < l.length := by omega
          refine ⟨l[u], by rw [← HLJ.out u hu, List.getElem?_eq_getElem hu'], ?_⟩
          have : (cur.toList.take (4096 * 1))[u]? = (Lib.byteCells l)[u]? := by rw [h7]
          rw [List.getElem?_take, if_pos (by omega), Array.getElem?_toList] at this
          rw [this, Lib.byteCells, List.getElem?_map, List.getElem?_eq_getElem hu']
          rfl
      obtain ⟨cs, hg1, hg2, hg3⟩ := hcl
      have k23 : Keeps [p, b, s] w2 (w3.alloc (.cells #[.slice (some ⟨g, 0, none⟩) 4096 c'] 125)) := Keeps.of_below (hbl.trans ((Below.refl w3.heap.size w3).alloc (Nat.le_refl _) _ |>.mono hbl.size)) (Nat.le_refl _)
      have HOWN3 := hide (ownsRow_keeps HOWN2.out hpB hbB hsB k23)
      have HFR3 := hide (HFR2.out.keeps hpB hbB hsB k23)
      have hgl : g < w3.heap.size := (Array.getElem?_eq_some_iff.1 hg2).1
      have hg4 : (w3.alloc (.cells #[.slice (some ⟨g, 0, none⟩) 4096 c'] 125)).heap[g]? = some (.cells cs 5 (0, 0)) := by
        rw [heap_alloc_old w3 _ hgl]; exact hg2
      have hwq : IntKind.i64.wrap (4096 * (q : Int) + 4096) = ((4096 * (q + 1) : Nat) : Int) := by rw [IntWalk.i64_in _ (by omega)]; omega
      have hnews : ∀ j u, [Value.slice (some ⟨g, 0, none⟩) 4096 c'][j]? = some u → (w3.alloc (.cells #[.slice (some ⟨g, 0, none⟩) 4096 c'] 125)).cell? ((⟨w3.heap.size, 0, none⟩ : Addr).add j) = some u := cell_one_new _ _ _
      have HNEWS := hide hnews
      have HG2 := hide (And.intro hg1 (And.intro hg4 hg3))
      have K23 := hide k23
      have h3B : B ≤ w3.heap.size := Nat.le_trans hszB hbl.size
      clear hv hv' hnews k23 hg2 hg3 hg4 HOWN2 HFR2
      go_wp2_with (at_builtin; refine wpList_append_own _ rfl (.tmp 25) (.tmp 27) 124 rfl B 125 i1 (.slice none 0 0) 1 24 Tryz.underlying124 hi hz0 hz1 hz2 rfl (by decide) u4 q vals rfl HOWN3.out ⟨w3.heap.size, 0, none⟩ 1 1 [.slice (some ⟨g, 0, none⟩) 4096 c'] rfl rfl HNEWS.out (by simp [Value.oneCell']) (by simp [maxLen]; omega) (by omega) (by simp; omega) ?_; intro v4 w4 hv4 hgr4 hn4)
      obtain ⟨hg1, hg4, hg3⟩ := HG2.out
      have hrow : ∀ k cs', B ≤ k → (w3.alloc (.cells #[.slice (some ⟨g, 0, none⟩) 4096 c'] 125)).heap[k]? = some (.cells cs' 5 (0, 0)) → w4.heap[k]? = some (.cells cs' 5 (0, 0)) := by
        intro k cs' _ hk
        rw [hgr4.block k (Array.getElem?_eq_some_iff.1 hk).1 ?_]
        · exact hk
        · intro e
          rcases HOWN3.out.2 with ⟨h, _⟩ | ⟨g', cap, cur, h1, h2, h3, _⟩
          · rw [h] at e; exact absurd e (by simp [Value.ownBlock])
          · rw [h1] at e
            obtain rfl : k = g' := Option.some.inj e
            rw [h3] at hk
            exact absurd hk (by simp)
      have klow : ∀ k, k < B → w4.heap[k]? = w2.heap[k]? := by
        intro k hk
        rw [hgr4.block k (by rw [World.size_alloc]; omega) ?_]
        · rw [heap_alloc_old w3 _ (by omega)]
          exact hbl.block k (by omega)
        · intro e
          rcases HOWN3.out.2 with ⟨h, _⟩ | ⟨g', cap, cur, h1, h2, h3, _⟩
          · rw [h] at e; exact absurd e (by simp [Value.ownBlock])
          · rw [h1] at e
            obtain rfl : k = g' := Option.some.inj e
            omega
      have hKP4 : Keeps [p, b, s] w w4 := by
        have k34 : Keeps [p, b, s] w2 (w3.alloc (.cells #[.slice (some ⟨g, 0, none⟩) 4096 c'] 125)) := K23.out
        refine ⟨hgr4.os.trans (k34.os.trans KP2.out.os), hgr4.tape.trans (k34.tape.trans KP2.out.tape), hgr4.output.trans (k34.output.trans KP2.out.output), ?_, fun k hk hS => ?_⟩
        · exact Nat.le_trans KP2.out.size (Nat.le_trans k34.size hgr4.size)
        · rw [klow k (by rw [← HB.out]; exact hk)]; exact KP2.out.block k hk hS
      have hFR4 : Frags B t pos (q + 1) (vals ++ [.slice (some ⟨g, 0, none⟩) 4096 c']) w4 := by
        have hf := HFR3.out.kept hrow
        refine ⟨by simp [hf.1], fun j hj => ?_⟩
        by_cases hjq : j < q
        · obtain ⟨g', c2, cs2, h1, h2⟩ := hf.2 j hjq
          exact ⟨g', c2, cs2, by rw [List.getElem?_append_left (by rw [hf.1]; exact hjq)]; exact h1, h2⟩
        · obtain rfl : j = q := by omega
          refine ⟨g, c', cs, by rw [List.getElem?_append_right (by rw [hf.1]; exact Nat.le_refl _), hf.1, Nat.sub_self]; rfl, by omega, hrow g cs (by omega) hg4, hg3⟩
      obtain ⟨r', n', i', hst', hps'⟩ := HST2.out
      have hST4 : St p b s t .nilIface r' n' i' w4 := hst'.same (klow p hpB) (klow b hbB) (klow s hsB)
      go_roundw
      case rel =>
        refine ⟨q + 1, _, rfl, rfl, hv4, hFR4, ⟨r', n', i', hST4, by omega⟩, fun j hj => ?_, hKP4⟩
        by_cases hjq : j < 4096 * q
        · exact HNO.out j hjq
        · have := HBEF.out (j - 4096 * q) (by omega)
          rwa [show pos + 4096 * q + (j - 4096 * q) = pos + j by omega] at this
      case measure => simp [intOf]; omega
    · have hneq := run_neq_other w2 ae af ca cf ta tf hne (by rw [KP2.out.block _ (Array.getElem?_eq_some_iff.1 hae).1 hae']; exact hae) (by rw [KP2.out.block _ (Array.getElem?_eq_some_iff.1 haf).1 haf']; exact haf)
      have hF2 : w2.cell? ⟨1, 0, none⟩ = some (.iface 168 (.pointer (some af))) := KP2.out.cell (by simp [h1p, h1b, h1s]) hF
      clear hby hst2 hend hbef
      go_wp2
      exact bodyPost_ret (v := .tuple #[u4, .slice (some ⟨b, off, none⟩) k c, .int .i64 ((4096 * q + k : Nat) : Int), .iface 168 (.pointer (some ae))]) (by simp [results, Tryz.results61, go_sem]) rfl
        ⟨q, k, _, _, _, rfl, ⟨⟨vals, HOWN2.out, HFR2.out⟩, HGOT.out, Or.inr rfl, HNO.out⟩, KP2.out⟩

end Go.Proofs.Qxb6605907aGreatFmt.Sx
