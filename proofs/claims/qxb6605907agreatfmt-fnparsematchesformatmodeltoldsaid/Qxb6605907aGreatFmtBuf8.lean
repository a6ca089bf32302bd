import Derived.Test.Qxb6605907aGreatFmtBuf7
namespace Go.Proofs.Qxb6605907aGreatFmt.Sx
open Go.RowKit

/-- (*strings.Builder).Write of bytes that lie below the builder. -/
theorem bwrite_spec (B b off m c : Nat) (l x : List UInt8) (g : Nat) (w : World) (h : Lib.IsBuilder 130 5 B b (Lib.byteCells l) w) (hx : x.length = m) (hg : g < B)
    (hc : ∀ j y, x[j]? = some y → w.cell? ⟨g, off + j, none⟩ = some (.int .u8 (y.toNat : Int))) (hlen : l.length + m ≤ 140737488355328) (hBw : B ≤ w.heap.size) :
    Calls Tryz.prog 63 #[.pointer (some ⟨b, 0, none⟩), .slice (some ⟨g, off, none⟩) m c] w fun e w' =>
      e = .returned (.tuple #[.int .i64 m, .nilIface]) ∧ Lib.IsBuilder 130 5 B b (Lib.byteCells (l ++ x)) w' ∧ Below B w w' := by
  have hnews : ∀ j u, (Lib.byteCells x)[j]? = some u → w.cell? ((⟨g, off, none⟩ : Addr).add j) = some u := by
    intro j u hj
    have hadd : (⟨g, off, none⟩ : Addr).add j = ⟨g, off + j, none⟩ := by unfold Addr.add; split <;> simp_all
    simp only [Lib.byteCells, List.getElem?_map, Option.map_eq_some_iff] at hj
    obtain ⟨y, hy, rfl⟩ := hj
    rw [hadd]
    exact hc j y hy
  refine (Any7.Builder_Write Tryz.lays7_35 Tryz.lays240 Tryz.Builder_Extra_165 rfl rfl rfl B b (Lib.byteCells l) ⟨g, off, none⟩ m c (Lib.byteCells x) w h (by rw [Lib.byteCells_length, hx]) hnews hg (Lib.byteCells_one x) (by rw [Lib.byteCells_length]; exact hlen) hBw).mono ?_
  rintro e w' ⟨rfl, hb, hbl⟩
  refine ⟨rfl, Or.inr ?_, hbl⟩
  have e1 : Lib.byteCells (l ++ x) = Lib.byteCells l ++ Lib.byteCells x := by simp [Lib.byteCells]
  rw [e1]
  exact hb

/-- WHAT ReadString HANDS BACK. -/
def Line (t : ByteArray) (pos : Nat) (ev : Value) (k : Nat) (e : Value) : Prop :=
  pos + k ≤ t.size ∧
  ((e = .nilIface ∧ 0 < k ∧ t.data.toList[pos + (k - 1)]? = some 10 ∧ ∀ j, j + 1 < k → t.data.toList[pos + j]? ≠ some 10) ∨
   (e = .iface 168 ev ∧ pos + k = t.size ∧ ∀ j, j < k → t.data.toList[pos + j]? ≠ some 10))

set_option maxRecDepth 100000 in
set_option maxHeartbeats 4000000 in
theorem readString_spec (p b s pos r0 n0 i0 : Nat) (ae af : Addr) (ca cf : Array Value) (ta tf : TypeId) (t : ByteArray) (w : World)
    (h0 : St p b s t .nilIface r0 n0 i0 w) (hpos : i0 + r0 = pos + n0) (ht : t.size ≤ 1048577)
    (hpb : p ≠ b) (hps : p ≠ s) (hsb : s ≠ b)
    (hE : w.cell? ⟨0, 0, none⟩ = some (.iface 168 (.pointer (some ae)))) (h0p : 0 ≠ p) (h0b : 0 ≠ b) (h0s : 0 ≠ s)
    (hF : w.cell? ⟨1, 0, none⟩ = some (.iface 168 (.pointer (some af)))) (h1p : 1 ≠ p) (h1b : 1 ≠ b) (h1s : 1 ≠ s)
    (hne : ae ≠ af) (hae : w.heap[ae.block]? = some (.cells ca ta (0, 0))) (haf : w.heap[af.block]? = some (.cells cf tf (0, 0)))
    (hae' : ae.block ∉ [p, b, s]) (haf' : af.block ∉ [p, b, s]) :
    Calls Tryz.prog 42 #[.pointer (some ⟨p, 0, none⟩), .int .u8 10] w fun x w' =>
      ∃ k e, x = .returned (.tuple #[.string ⟨((t.data.toList.drop pos).take k).toArray⟩, e]) ∧ Line t pos (.pointer (some ae)) k e ∧
        (∃ r n i, St p b s t .nilIface r n i w' ∧ i + r = pos + k + n) ∧ Keeps [p, b, s] w w' := by
  have HC := hide (collect_spec p b s pos r0 n0 i0 ae af ca cf ta tf t w h0 hpos ht hpb hps hsb hE h0p h0b h0s hF h1p h1b h1s hne hae haf hae' haf')
  have hpB : p < w.heap.size := by obtain ⟨_, _, _, _, h, _⟩ := h0; exact (Array.getElem?_eq_some_iff.1 h).1
  have hbB : b < w.heap.size := by obtain ⟨_, _, _, _, _, _, h, _⟩ := h0; exact (Array.getElem?_eq_some_iff.1 h).1
  have hsB : s < w.heap.size := by obtain ⟨_, _, _, _, _, h, _⟩ := h0; exact (Array.getElem?_eq_some_iff.1 h).1
  clear h0 hE hF hae haf
  go_enter Tryz.func42, Tryz.ntmps42
  go_upto_region 2 with (go_at_call 61; refine HC.out.mono ?_; rintro x w1 ⟨q, k, fb, line, e, rfl, hcol, kp⟩)
  obtain ⟨⟨vals, hown, hfr⟩, ⟨⟨off, c, rfl, hby⟩, hk4, hkt, hst, he⟩, hev, hno⟩ := hcol
  have hq1 : 4096 * q + k ≤ 1048577 := by omega
  obtain ⟨B, hB⟩ : ∃ B, w1.heap.size = B := ⟨_, rfl⟩
  have hwB : w.heap.size ≤ B := by rw [← hB]; exact kp.size
  -- the fragments as a slice
  obtain ⟨fa, cap, rfl, hfa⟩ : ∃ fa cap, fb = .slice fa q cap ∧ ∀ j, j < q → ∃ g g' c', fa = some ⟨g, 0, none⟩ ∧ g < B ∧ g' < B ∧ w1.cell? ⟨g, j, none⟩ = some (.slice (some ⟨g', 0, none⟩) 4096 c') ∧
      ∀ u, u < 4096 → ∃ x : UInt8, t.data.toList[pos + 4096 * j + u]? = some x ∧ w1.cell? ⟨g', u, none⟩ = some (.int .u8 (x.toNat : Int)) := by
    rcases hown.2 with ⟨rfl, rfl⟩ | ⟨g, cap, cur, rfl, h2, h3, h4, h5, h6, h7⟩
    · exact ⟨none, 0, rfl, fun j hj => absurd hj (Nat.not_lt_zero _)⟩
    · refine ⟨_, _, rfl, fun j hj => ?_⟩
      obtain ⟨g', c', cs, e1, e2, e3, e4⟩ := hfr.2 j hj
      refine ⟨g, g', c', rfl, by rw [← hB]; exact (Array.getElem?_eq_some_iff.1 h3).1, by rw [← hB]; exact (Array.getElem?_eq_some_iff.1 e3).1, ?_, fun u hu => ?_⟩
      · rw [row_cell h3, ← Array.getElem?_toList]
        have : (cur.toList.take (q * 1))[j]? = vals[j]? := by rw [h7]
        rw [List.getElem?_take, if_pos (by omega)] at this
        rw [this]; exact e1
      · obtain ⟨x, hx, hcx⟩ := e4 u hu
        exact ⟨x, hx, by rw [row_cell e3]; exact hcx⟩
  have hgr := (Any.Builder_Grow_fresh Tryz.lays165 Tryz.Builder_Extra_165 B B (4096 * q + k) (w1.alloc (.cells #[.pointer none, .slice none 0 0] 130)) (Nat.le_refl _) (by rw [← hB]; exact heap_alloc_new w1 _) (by rw [World.size_alloc]; omega) (by omega))
  rw [show (((4096 * q + k : Nat) : Int)) = 4096 * (q : Int) + (k : Int) by omega] at hgr
  have HGR := hide hgr
  clear hgr
  have HFA := hide hfa
  have HBY := hide hby
  have HST := hide hst
  have HE := hide he
  have HEV := hide hev
  have HNO := hide hno
  have KP := hide kp
  clear hown hfr hfa hby hst he hev hno kp
  go_upto_region 4 with (go_at_call 62; refine HGR.out.mono ?_; rintro x w2 ⟨rfl, hb2, hbl2⟩)
  have h2 : Lib.IsBuilder 130 5 B B (Lib.byteCells ((t.data.toList.drop pos).take (4096 * 0))) w2 := Or.inr (by rw [Nat.mul_zero, List.take_zero]; exact hb2)
  have hbl : Below B w1 w2 := ((Below.refl B w1).alloc (by omega) _).trans hbl2
  have hszB : B ≤ w2.heap.size := by rw [← hB]; exact hbl.size
  clear hb2 hbl2
  go_wp2
  go_loopw [25] (fun j wr => ∃ jn : Nat, jn ≤ q ∧ j = .int .i64 jn ∧ Lib.IsBuilder 130 5 B B (Lib.byteCells ((t.data.toList.drop pos).take (4096 * jn))) wr ∧ Below B w1 wr ∧ B ≤ wr.heap.size) (fun j _ => q - (intOf j).toNat)
  case atStart => exact ⟨0, Nat.zero_le _, rfl, h2, hbl, hszB⟩
  case round =>
    obtain ⟨j, hjq, rfl, hib, hbl, hszr⟩ := hrel
    clear h2 hszB
    by_cases hlt : j < q
    · obtain ⟨g, g', c', rfl, hg, hg', hcell, hbytes⟩ := HFA.out j hlt
      have hcell' : wr.cell? ⟨g, j, none⟩ = some (.slice (some ⟨g', 0, none⟩) 4096 c') := by
        rw [hbl.cell hg]; exact hcell
      obtain ⟨x, hx⟩ : ∃ x, (t.data.toList.drop (pos + 4096 * j)).take 4096 = x := ⟨_, rfl⟩
      have hll : x.length = 4096 := by rw [← hx, List.length_take, List.length_drop, size_list]; omega
      have hW := bwrite_spec B B 0 4096 c' ((t.data.toList.drop pos).take (4096 * j)) x g' wr hib hll hg' (fun u y hy => by
        have hu : u < 4096 := by have := (List.getElem?_eq_some_iff.1 hy).1; omega
        obtain ⟨z, hz, hcz⟩ := hbytes u hu
        rw [← hx, List.getElem?_take, if_pos hu, List.getElem?_drop, hz] at hy
        cases hy
        rw [hbl.cell hg', Nat.zero_add]; exact hcz) (by rw [List.length_take]; omega) hszr
      have ex : (t.data.toList.drop pos).take (4096 * j) ++ x = (t.data.toList.drop pos).take (4096 * (j + 1)) := by
        rw [← hx, ← List.drop_drop, Nat.mul_add, Nat.mul_one, List.take_add]
      rw [ex] at hW
      have HW := hide hW
      have HBL := hide hbl
      have hlt' : (j : Int) < (q : Int) := by omega
      clear hW hx ex hib hbytes hcell hbl
      go_wp2_with (go_at_call 63; refine HW.out.mono ?_; rintro x w3 ⟨rfl, hb3, hbl3⟩)
      go_roundw
      case rel => exact ⟨j + 1, hlt, by go_num, hb3, HBL.out.trans hbl3, Nat.le_trans hszr hbl3.size⟩
      case measure => simp [intOf]; omega
    · obtain rfl : j = q := by omega
      obtain ⟨x, hx⟩ : ∃ x, (t.data.toList.drop (pos + 4096 * j)).take k = x := ⟨_, rfl⟩
      have hll : x.length = k := by rw [← hx, List.length_take, List.length_drop, size_list]; omega
      have hW := bwrite_spec B B off k c ((t.data.toList.drop pos).take (4096 * j)) x b wr hib hll (by omega) (fun u y hy => by
        have hu : u < k := by have := (List.getElem?_eq_some_iff.1 hy).1; omega
        obtain ⟨z, hz, hcz⟩ := HBY.out u hu
        rw [← hx, List.getElem?_take, if_pos hu, List.getElem?_drop, hz] at hy
        cases hy
        rw [hbl.cell (by omega : b < B)]; exact hcz) (by rw [List.length_take]; omega) hszr
      have ex : (t.data.toList.drop pos).take (4096 * j) ++ x = (t.data.toList.drop pos).take (4096 * j + k) := by
        rw [← hx, ← List.drop_drop, List.take_add]
      rw [ex] at hW
      have HW := hide hW
      have HBL := hide hbl
      clear hW hx ex hib hbl
      go_upto_region 10 with (go_at_call 63; refine HW.out.mono ?_; rintro x w3 ⟨rfl, hb3, hbl3⟩)
      have HS := hide (Any.Builder_String_any Tryz.lays169 Tryz.Builder_Extra_169 B B ((t.data.toList.drop pos).take (4096 * j + k)) w3 hb3 (Nat.le_trans hszr hbl3.size))
      have HBL3 := hide (HBL.out.trans hbl3)
      clear hb3 hbl3
      go_wp2_with (go_at_call 64; refine HS.out.mono ?_; rintro x w4 ⟨rfl, hbl4⟩)
      have hbl5 := HBL3.out.trans hbl4
      obtain ⟨r, n, i, hst, hps1⟩ := HST.out
      have kp5 : Keeps [p, b, s] w w4 := KP.out.trans (Keeps.of_below hbl5 (by omega))
      refine bodyPost_ret (v := .tuple #[.string ⟨((t.data.toList.drop pos).take (4096 * j + k)).toArray⟩, e]) (by simp [results, Tryz.results42, go_sem]) rfl ⟨4096 * j + k, e, rfl, ⟨by omega, ?_⟩, ⟨r, n, i, hst.same (hbl5.block p (by omega)) (hbl5.block b (by omega)) (hbl5.block s (by omega)), by omega⟩, kp5⟩
      rcases HE.out with ⟨h1, h2, h3, h4⟩ | ⟨h1, h2, h3⟩ | ⟨h1, h2, h3⟩
      · refine Or.inl ⟨h1, by omega, by rw [show pos + (4096 * j + k - 1) = pos + 4096 * j + (k - 1) by omega]; exact h3, fun u hu => ?_⟩
        by_cases hu1 : u < 4096 * j
        · exact HNO.out u hu1
        · have := h4 (u - 4096 * j) (by omega)
          rwa [show pos + 4096 * j + (u - 4096 * j) = pos + u by omega] at this
      · rcases HEV.out with h | h
        · rw [h1] at h; exact absurd h (by simp)
        · rw [h1] at h
          exact absurd (by simpa using h : af = ae) (Ne.symm hne)
      · refine Or.inr ⟨h1, by omega, fun u hu => ?_⟩
        by_cases hu1 : u < 4096 * j
        · exact HNO.out u hu1
        · have := h3 (u - 4096 * j) (by omega)
          rwa [show pos + 4096 * j + (u - 4096 * j) = pos + u by omega] at this

end Go.Proofs.Qxb6605907aGreatFmt.Sx
