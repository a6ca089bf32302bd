import Derived.Test.Qxb6605907aGreatFmtScn3
namespace Go.Proofs.Qxb6605907aGreatFmt.Sx
open Go.RowKit

/-- Where the reader stands, off the cells. -/
def mpos (s p : Nat) (w : World) : Nat :=
  (match w.cell? ⟨s, 1, none⟩ with | some v => (intOf v).toNat | none => 0) + (match w.cell? ⟨p, 2, none⟩ with | some v => (intOf v).toNat | none => 0) - (match w.cell? ⟨p, 3, none⟩ with | some v => (intOf v).toNat | none => 0)

theorem mpos_of {p b s pos r m i : Nat} {t : ByteArray} {e : Value} {w : World} (h : St p b s t e r m i w) (hpos : i + r = pos + m) : mpos s p w = pos := by
  obtain ⟨lb, lr, pv, cur, hp, hs, _⟩ := h
  have c1 : w.cell? ⟨s, 1, none⟩ = some (.int .i64 (i : Int)) := by rw [row_cell hs]; rfl
  have c2 : w.cell? ⟨p, 2, none⟩ = some (.int .i64 (r : Int)) := by rw [row_cell hp]; rfl
  have c3 : w.cell? ⟨p, 3, none⟩ = some (.int .i64 (m : Int)) := by rw [row_cell hp]; rfl
  simp [mpos, c1, c2, c3, intOf]
  omega

theorem St.kept {p b s q r m i : Nat} {t : ByteArray} {e : Value} {w w' : World} (h : St p b s t e r m i w) (k : Keeps [q] w w') (hqp : q ≠ p) (hqb : q ≠ b) (hqs : q ≠ s) : St p b s t e r m i w' := by
  have h' := h
  obtain ⟨lb, lr, pv, cur, hp, hs, hb, _⟩ := h'
  exact h.same (k.block p (Array.getElem?_eq_some_iff.1 hp).1 (by simpa using Ne.symm hqp)) (k.block b (Array.getElem?_eq_some_iff.1 hb).1 (by simpa using Ne.symm hqb)) (k.block s (Array.getElem?_eq_some_iff.1 hs).1 (by simpa using Ne.symm hqs))

/-- What is left of a scan once a line is read: from 's.line++' on. -/
theorem line_done {T : List UInt8} {n pos k : Nat} (hk0 : 0 < k) (hk : pos + k ≤ T.length)
    (h : (T[pos + (k - 1)]? = some 10 ∧ ∀ j, j + 1 < k → T[pos + j]? ≠ some 10) ∨ (pos + k = T.length ∧ ∀ j, j < k → T[pos + j]? ≠ some 10)) :
    Lib.trimSuffix ((T.drop pos).take k) [10] = raw (T.drop pos) ∧ lines (T.drop pos) = raw (T.drop pos) :: lines (T.drop (pos + k)) ∧
      entries n (lines (T.drop pos)) = if clean (raw (T.drop pos)) = [] then entries (n + 1) (lines (T.drop (pos + k))) else (n + 1, clean (raw (T.drop pos))) :: entries (n + 1) (lines (T.drop (pos + k))) := by
  have hl : (T.drop pos).length = T.length - pos := List.length_drop
  have hne : T.drop pos ≠ [] := fun e => by rw [e] at hl; simp at hl; omega
  obtain ⟨h1, h2⟩ := raw_of (T.drop pos) k (by omega) (by
    simp only [List.getElem?_drop, hl]
    rcases h with ⟨h1, h2⟩ | ⟨h1, h2⟩
    · exact Or.inl ⟨hk0, h1, h2⟩
    · exact Or.inr ⟨by omega, h2⟩)
  have h3 : lines (T.drop pos) = raw (T.drop pos) :: lines (T.drop (pos + k)) := by rw [lines_step _ hne, h2, List.drop_drop]
  refine ⟨h1, h3, ?_⟩
  rw [h3]
  rfl

theorem emptyL (x : ByteArray) (h : x.data.toList = []) : x.toList.isEmpty = true := by rw [Lib.toList_data, h]; rfl
theorem nonemptyL (x : ByteArray) (h : x.data.toList ≠ []) : x.toList.isEmpty = false := by
  rw [Lib.toList_data]
  cases hx : x.data.toList with
  | nil => exact absurd hx h
  | cons a l => rfl

/-- WHAT A SCAN LEAVES. -/
def Scanned (q p b s : Nat) (path t : ByteArray) (w : World) (tot : Nat) (E : List (Nat × List UInt8)) (x : Ending) (w' : World) : Prop :=
  ∃ ok pos n text done, x = .returned (.bool ok) ∧ Sc q p b s path t pos n text done w' ∧ Keeps [p, b, s, q] w w' ∧
      n + (lines (t.data.toList.drop pos)).length = tot ∧
      ((ok = true ∧ E = (n, text.data.toList) :: entries n (lines (t.data.toList.drop pos))) ∨ (ok = false ∧ E = [] ∧ pos = t.size))

set_option maxRecDepth 100000 in
set_option maxHeartbeats 4000000 in
theorem scanner_scan (q p b s pos0 n0 : Nat) (ae af : Addr) (path t text0 : ByteArray) (done0 : Bool) (w : World) (hsc : Sc q p b s path t pos0 n0 text0 done0 w) (env : Env p b s q ae af t w) :
    Calls Tryz.prog 28 #[.pointer (some ⟨q, 0, none⟩)] w fun x w' => Scanned q p b s path t w (n0 + (lines (t.data.toList.drop pos0)).length) (entries n0 (lines (t.data.toList.drop pos0))) x w' := by
  obtain ⟨tot, htot⟩ : ∃ tot, n0 + (lines (t.data.toList.drop pos0)).length = tot := ⟨_, rfl⟩
  obtain ⟨E, hE⟩ : ∃ E, entries n0 (lines (t.data.toList.drop pos0)) = E := ⟨_, rfl⟩
  rw [htot, hE]
  have HENV := hide env
  have HSC := hide hsc
  clear env hsc
  go_enter Tryz.func28, Tryz.ntmps28
  go_wp2
  go_loopw [2] (fun _ wr => ∃ pos n text done, Sc q p b s path t pos n text done wr ∧ Keeps [p, b, s, q] w wr ∧ n + (lines (t.data.toList.drop pos)).length = tot ∧ entries n (lines (t.data.toList.drop pos)) = E) (fun _ wr => t.size - mpos s p wr)
  case atStart => exact ⟨pos0, n0, text0, done0, HSC.out, Keeps.refl _ _, htot, hE⟩
  case round =>
    obtain ⟨pos, n, text, done, hsc, kp, htot1, hE1⟩ := hrel
    have env1 := HENV.out.keeps kp
    have HSC1 := hide hsc
    obtain ⟨hq, ⟨r, m, i, hst, hps1⟩, hpos, hnp, hdn⟩ := hsc
    have c5 : wr.cell? ⟨q, 5, none⟩ = some (.bool done) := by rw [row_cell hq]; rfl
    have f5 : wr.frozen? ⟨q, 5, none⟩ = false := row_frozen hq 5
    have c1 : wr.cell? ⟨q, 1, none⟩ = some (.pointer (some ⟨p, 0, none⟩)) := by rw [row_cell hq]; rfl
    cases done with
    | true =>
      have hpe := hdn rfl
      have hnil : t.data.toList.drop pos = [] := List.drop_eq_nil_of_le (by rw [size_list]; omega)
      have hEn : E = [] := by rw [← hE1, hnil]; rfl
      have HF := hide (show Scanned q p b s path t w tot E (.returned (.bool false)) wr from ⟨false, pos, n, text, true, rfl, HSC1.out, kp, htot1, Or.inr ⟨rfl, hEn, hpe⟩⟩)
      clear hq hst hnil hEn hE1 htot1 kp env1 hE htot
      go_wp2
      exact bodyPost_ret (v := .bool false) (by simp [results, Tryz.results28, go_sem]) rfl HF.out
    | false =>
      obtain ⟨ca, ta, hae⟩ := env1.hae
      obtain ⟨cf, tf, haf⟩ := env1.haf
      have h0 := env1.h0
      have h1 := env1.h1
      have ha' := env1.hae'
      have hf' := env1.haf'
      simp only [List.mem_cons, List.not_mem_nil, or_false, not_or] at h0 h1 ha' hf'
      have HR := hide (readString_spec p b s pos r m i ae af ca cf ta tf t wr hst hps1 env1.ht env1.hpb env1.hps env1.hsb env1.hE h0.1 h0.2.1 h0.2.2.1 env1.hF h1.1 h1.2.1 h1.2.2.1 env1.hne hae haf (by simp [ha']) (by simp [hf']))
      have htsz := env1.ht
      have HMP := hide (mpos_of hst hps1)
      have HQ := hide hq
      have KP := hide kp
      have ENV := hide env1
      have HT1 := hide htot1
      have HE1 := hide hE1
      clear hq hst kp env1 hae haf htot1 hE1 hE htot
      go_upto_region 3 with (go_at_call 42; refine HR.out.mono ?_; rintro x w2 ⟨k, e, rfl, hln, hst2, kp2⟩)
      generalize hL0 : (⟨(List.take k (List.drop pos t.data.toList)).toArray⟩ : ByteArray) = L0
      obtain ⟨hkt, hcase⟩ := hln
      have hL0l : L0.data.toList = (t.data.toList.drop pos).take k := by rw [← hL0]
      have hL0s : L0.size = k := by
        rw [← size_list, hL0l, List.length_take, List.length_drop, size_list]; omega
      have kq2 : Keeps [p, b, s, q] wr w2 := kp2.mono (by simp)
      have ENV2 := hide (ENV.out.keeps kq2)
      have hq2 : w2.heap[q]? = some (.cells (scCells path p n text .nilIface false) 94 (0, 0)) := by
        rw [kp2.block q (Array.getElem?_eq_some_iff.1 HQ.out).1 (by simp [ENV.out.hqp, ENV.out.hqb, ENV.out.hqs])]; exact HQ.out
      have KP2 := hide (KP.out.trans kq2)
      have HQ2 := hide hq2
      have HST2 := hide hst2
      have d5 : w2.cell? ⟨q, 5, none⟩ = some (.bool false) := by rw [row_cell hq2]; rfl
      have e5 : w2.frozen? ⟨q, 5, none⟩ = false := row_frozen hq2 5
      have hE2 : w2.cell? ⟨0, 0, none⟩ = some (.iface 168 (.pointer (some ae))) := ENV2.out.hE
      have hq0 : ¬ (0 = q) := h0.2.2.2
      have hq0' : ¬ (q = 0) := fun e => hq0 e.symm
      have HIS := hide (is_same ae (w2.setCell ⟨q, 5, none⟩ (.bool true)))
      clear hq2 hst2 kq2 kp2 hL0
      rcases hcase with ⟨rfl, hk0, h10, hbef⟩ | ⟨rfl, hend, hbef⟩
      · have HLD := hide (line_done (n := n) hk0 (by rw [size_list]; exact hkt) (Or.inl ⟨h10, hbef⟩))
        clear h10 hbef
        go_upto_region 10 with fail
        have HQX : Hid (w2.heap[q]? = some (.cells (scCells path p n text .nilIface false) 94 (0, 0))) := HQ2
        have HSTX := HST2
        have KPX := KP2
        have ENVX := ENV2
        have HT1' := HT1
        have HQ3 : Hid (w2.heap[q]? = some (.cells (scCells path p n text .nilIface false) 94 (0, 0))) := HQX
        have c2 : w2.cell? ⟨q, 2, none⟩ = some (.int .i64 (n : Int)) := by rw [row_cell HQ3.out]; rfl
        have f2 : w2.frozen? ⟨q, 2, none⟩ = false := row_frozen HQ3.out 2
        have hwn : IntKind.i64.wrap ((n : Int) + 1) = (n : Int) + 1 := IntWalk.i64_in _ (by omega)
        go_upto_region 11 with fail
        generalize hwA : w2.setCell ⟨q, 2, none⟩ (.int .i64 ((n : Int) + 1)) = wA
        have hqA : wA.heap[q]? = some (.cells (scCells path p (n + 1) text .nilIface false) 94 (0, 0)) := by
          rw [← hwA, row_set HQ3.out 2 _]; rfl
        have kA : Keeps [q] w2 wA := by rw [← hwA]; exact (Keeps.refl _ _).setCell ⟨q, 2, none⟩ _ (by simp)
        have KPA : Hid (Keeps [p, b, s, q] w wA) := KPX.out.trans (kA.mono (by simp))
        have ENVA : Hid (Env p b s q ae af t wA) := ENVX.out.keeps (kA.mono (by simp))
        have HSTA : Hid (∃ r m i, St p b s t .nilIface r m i wA ∧ i + r = pos + k + m) := by
          obtain ⟨r, m, i, hst, hp⟩ := HSTX.out
          exact ⟨r, m, i, hst.kept kA ENVX.out.hqp ENVX.out.hqb ENVX.out.hqs, hp⟩
        have HQA := hide hqA
        obtain ⟨L1, hL1⟩ : ∃ L1 : ByteArray, (⟨(Lib.trimSuffix L0.data.toList [10]).toArray⟩ : ByteArray) = L1 := ⟨_, rfl⟩
        have hL1l : L1.data.toList = raw (t.data.toList.drop pos) := by rw [← hL1, hL0l]; exact HLD.out.1
        have hL1s : L1.size ≤ 1048577 := by
          rw [← size_list, hL1l]
          have : (raw (t.data.toList.drop pos)).length ≤ (t.data.toList.drop pos).length := (List.takeWhile_sublist _).length_le
          rw [List.length_drop, size_list] at this
          omega
        have HT1 := hide (trimSuffix_spec L0 ⟨#[10]⟩ wA (by omega))
        rw [show (⟨#[10]⟩ : ByteArray).data.toList = [10] from rfl, hL1] at HT1
        obtain ⟨L2, hL2⟩ : ∃ L2 : ByteArray, (⟨(Lib.trimSuffix L1.data.toList [13]).toArray⟩ : ByteArray) = L2 := ⟨_, rfl⟩
        have hL2l : L2.data.toList = Lib.trimSuffix (raw (t.data.toList.drop pos)) [13] := by rw [← hL2, ← hL1l]
        have hL2s : L2.size ≤ 1048577 := by
          rw [← size_list, hL2l]
          have : (Lib.trimSuffix (raw (t.data.toList.drop pos)) [13]).length ≤ (raw (t.data.toList.drop pos)).length := by
            unfold Lib.trimSuffix; split
            · rw [List.length_take]; omega
            · exact Nat.le_refl _
          rw [← size_list, hL1l] at hL1s
          omega
        have HT2 := hide (trimSuffix_spec L1 ⟨#[13]⟩ wA hL1s)
        rw [show (⟨#[13]⟩ : ByteArray).data.toList = [13] from rfl, hL2] at HT2
        have HIX := hide (Any.strings_IndexByte Tryz.lays137 L2 35 wA)
        obtain ⟨ix, hix⟩ : ∃ ix, Lib.indexByte L2.data.toList 35 = ix := ⟨_, rfl⟩
        rw [show ((35 : Int).toNat.toUInt8) = 35 from rfl, hix] at HIX
        have hge := Lib.indexByte_ge L2.data.toList 35
        rw [hix] at hge
        obtain ⟨L3, hL3, hL3l, hL3s⟩ : ∃ L3 : ByteArray, (if ix = -1 then L2 else L2.extract 0 ix.toNat) = L3 ∧ L3.data.toList = cutHash (Lib.trimSuffix (raw (t.data.toList.drop pos)) [13]) ∧ L3.size ≤ 1048577 := by
          refine ⟨_, rfl, ?_, ?_⟩
          · rw [← hL2l, cutHash, hix]
            split
            · rfl
            · rw [Lib.extract_data, List.drop_zero, Nat.sub_zero]
          · split
            · exact hL2s
            · rw [ByteArray.size_extract]; omega
        have HTF := hide (trimFunc_spec L3 wA hL3s ENVA.out.tabs)
        obtain ⟨L4, hL4⟩ : ∃ L4 : ByteArray, (⟨(trimB L3.data.toList).toArray⟩ : ByteArray) = L4 := ⟨_, rfl⟩
        have hL4l : L4.data.toList = clean (raw (t.data.toList.drop pos)) := by rw [← hL4, hL3l]; rfl
        rw [hL4] at HTF
        have hixl : ∀ o : Nat, ix = (o : Int) → o < L2.size := fun o ho => by
          rw [ho] at hix
          have := (List.getElem?_eq_some_iff.1 (Lib.indexByte_some hix).1).1
          rwa [size_list] at this
        have HL4 := hide hL4l
        have HL3 := hide hL3
        clear hqA kA hwA hL1 hL1l hL2 hL2l hL3l hL4 hL4l hix hL3
        have kin : ∀ w4, Below wA.heap.size wA w4 → Keeps [p, b, s, q] w (w4.setCell ⟨q, 3, none⟩ (.string L4)) ∧ Sc q p b s path t (pos + k) (n + 1) L4 false (w4.setCell ⟨q, 3, none⟩ (.string L4)) ∧
            w4.cell? ⟨q, 3, none⟩ = some (.string text) ∧ w4.frozen? ⟨q, 3, none⟩ = false ∧ mpos s p (w4.setCell ⟨q, 3, none⟩ (.string L4)) = pos + k := by
          intro w4 hb
          have hq4 : w4.heap[q]? = some (.cells (scCells path p (n + 1) text .nilIface false) 94 (0, 0)) := by
            rw [hb.block q (Array.getElem?_eq_some_iff.1 HQA.out).1]; exact HQA.out
          have k4 : Keeps [q] wA (w4.setCell ⟨q, 3, none⟩ (.string L4)) := (Keeps.of_below hb (Nat.le_refl _)).setCell ⟨q, 3, none⟩ _ (by simp)
          obtain ⟨r, m, i, hst, hp⟩ := HSTA.out
          have hst4 := hst.kept k4 ENVA.out.hqp ENVA.out.hqb ENVA.out.hqs
          refine ⟨KPA.out.trans (k4.mono (by simp)), ⟨by rw [row_set hq4 3 _]; rfl, ⟨r, m, i, hst4, hp⟩, hkt, by omega, by intro h; first | exact absurd h (by decide) | exact hend⟩, by rw [row_cell hq4]; rfl, row_frozen hq4 3, mpos_of hst4 hp⟩
        have KIN := hide kin
        have hlen : n + 1 + (lines (t.data.toList.drop (pos + k))).length = tot := by
          rw [← HT1'.out, HLD.out.2.1, List.length_cons]; omega
        have hent : E = if clean (raw (t.data.toList.drop pos)) = [] then entries (n + 1) (lines (t.data.toList.drop (pos + k))) else (n + 1, clean (raw (t.data.toList.drop pos))) :: entries (n + 1) (lines (t.data.toList.drop (pos + k))) := by
          rw [← HE1.out]; exact HLD.out.2.2
        have HENT := hide hent
        have HLEN := hide hlen
        clear kin hent hlen
        by_cases hneg : ix = -1
        · subst hneg
          have hL3' : L3 = L2 := by rw [← HL3.out, if_pos rfl]
          subst hL3'
          go_upto_region 17 with first | (go_at_call_of 44 L0; refine HT1.out.mono ?_; rintro x wA ⟨rfl, rfl⟩) | (go_at_call_of 44 L1; refine HT2.out.mono ?_; rintro x wA ⟨rfl, rfl⟩) | (go_at_call 45; refine HIX.out.mono ?_; rintro x wA ⟨rfl, rfl⟩) | (go_at_call 46; refine HTF.out.mono ?_; rintro x w4 ⟨rfl, hb4⟩; obtain ⟨k4, sc4, c34, f34, hm4⟩ := KIN.out w4 hb4)
          by_cases hcl : clean (raw (t.data.toList.drop pos)) = []
          · have hem := emptyL L4 (by rw [HL4.out]; exact hcl)
            go_wp2
            go_roundw
            case rel =>
              refine ⟨pos + k, n + 1, L4, false, sc4, k4, HLEN.out, ?_⟩
              have := HENT.out
              rw [if_pos hcl] at this
              exact this.symm
            case measure => rw [hm4, HMP.out]; omega
          · have hem := nonemptyL L4 (by rw [HL4.out]; exact hcl)
            go_wp2
            exact bodyPost_ret (v := .bool true) (by simp [results, Tryz.results28, go_sem]) rfl ⟨true, pos + k, n + 1, L4, false, rfl, sc4, k4, HLEN.out, Or.inl ⟨rfl, by rw [HENT.out, if_neg hcl, HL4.out]⟩⟩
        · obtain ⟨o, rfl⟩ : ∃ o : Nat, ix = (o : Int) := ⟨ix.toNat, by omega⟩
          have hol := hixl o rfl
          have hL3' : L2.extract 0 o = L3 := by rw [← HL3.out, if_neg hneg, Int.toNat_natCast]
          have hole : o ≤ L2.size := Nat.le_of_lt hol
          have hole' : (o : Int) ≤ (L2.size : Int) := by omega
          clear hixl hge
          go_upto_region 17 with first | (go_at_call_of 44 L0; refine HT1.out.mono ?_; rintro x wA ⟨rfl, rfl⟩) | (go_at_call_of 44 L1; refine HT2.out.mono ?_; rintro x wA ⟨rfl, rfl⟩) | (go_at_call 45; refine HIX.out.mono ?_; rintro x wA ⟨rfl, rfl⟩) | (go_at_call 46; refine HTF.out.mono ?_; rintro x w4 ⟨rfl, hb4⟩; obtain ⟨k4, sc4, c34, f34, hm4⟩ := KIN.out w4 hb4)
          by_cases hcl : clean (raw (t.data.toList.drop pos)) = []
          · have hem := emptyL L4 (by rw [HL4.out]; exact hcl)
            go_wp2
            go_roundw
            case rel =>
              refine ⟨pos + k, n + 1, L4, false, sc4, k4, HLEN.out, ?_⟩
              have := HENT.out
              rw [if_pos hcl] at this
              exact this.symm
            case measure => rw [hm4, HMP.out]; omega
          · have hem := nonemptyL L4 (by rw [HL4.out]; exact hcl)
            go_wp2
            exact bodyPost_ret (v := .bool true) (by simp [results, Tryz.results28, go_sem]) rfl ⟨true, pos + k, n + 1, L4, false, rfl, sc4, k4, HLEN.out, Or.inl ⟨rfl, by rw [HENT.out, if_neg hcl, HL4.out]⟩⟩
      · have HBEF := hide hbef
        clear hbef
        have HQX : Hid ((w2.setCell ⟨q, 5, none⟩ (.bool true)).heap[q]? = some (.cells (scCells path p n text .nilIface true) 94 (0, 0))) := by
          show _ = _
          rw [row_set HQ2.out 5 _]; rfl
        have k5 : Keeps [q] w2 (w2.setCell ⟨q, 5, none⟩ (.bool true)) := (Keeps.refl _ _).setCell ⟨q, 5, none⟩ _ (by simp)
        have KPX : Hid (Keeps [p, b, s, q] w (w2.setCell ⟨q, 5, none⟩ (.bool true))) := KP2.out.trans (k5.mono (by simp))
        have ENVX : Hid (Env p b s q ae af t (w2.setCell ⟨q, 5, none⟩ (.bool true))) := ENV2.out.keeps (k5.mono (by simp))
        have HSTX : Hid (∃ r m i, St p b s t .nilIface r m i (w2.setCell ⟨q, 5, none⟩ (.bool true)) ∧ i + r = pos + k + m) := by
          obtain ⟨r, m, i, hst, hp⟩ := HST2.out
          exact ⟨r, m, i, hst.kept k5 ENV2.out.hqp ENV2.out.hqb ENV2.out.hqs, hp⟩
        have HT1' := HT1
        clear k5
        by_cases hk0 : k = 0
        · have hem := emptyL L0 (by rw [hL0l, hk0, List.take_zero])
          have hnil : t.data.toList.drop pos = [] := List.drop_eq_nil_of_le (by rw [size_list]; omega)
          have HF := hide (show Scanned q p b s path t w tot E (.returned (.bool false)) (w2.setCell ⟨q, 5, none⟩ (.bool true)) from
            ⟨false, pos, n, text, true, rfl, ⟨HQX.out, by obtain ⟨r, m, i, hst, hp⟩ := HSTX.out; exact ⟨r, m, i, hst, by omega⟩, hpos, hnp, fun _ => by omega⟩, KPX.out, HT1'.out, Or.inr ⟨rfl, by rw [← HE1.out, hnil]; rfl, by omega⟩⟩)
          clear hnil
          go_wp2_with (go_at_call 43; refine HIS.out.mono ?_; rintro x w3 ⟨rfl, rfl⟩)
          exact bodyPost_ret (v := .bool false) (by simp [results, Tryz.results28, go_sem]) rfl HF.out
        · have hem0 := nonemptyL L0 (fun e => by have := congrArg List.length e; rw [size_list, hL0s] at this; exact hk0 this)
          have HLD := hide (line_done (n := n) (Nat.pos_of_ne_zero hk0) (by rw [size_list]; exact hkt) (Or.inr ⟨by rw [size_list]; exact hend, HBEF.out⟩))
          go_upto_region 10 with (go_at_call 43; refine HIS.out.mono ?_; rintro x w3 ⟨rfl, rfl⟩)
          clear hem0
          generalize hw3 : w2.setCell ⟨q, 5, none⟩ (.bool true) = w3 at HQX KPX ENVX HSTX ⊢
          have HQ3 : Hid (w3.heap[q]? = some (.cells (scCells path p n text .nilIface true) 94 (0, 0))) := HQX
          have c2 : w3.cell? ⟨q, 2, none⟩ = some (.int .i64 (n : Int)) := by rw [row_cell HQ3.out]; rfl
          have f2 : w3.frozen? ⟨q, 2, none⟩ = false := row_frozen HQ3.out 2
          have hwn : IntKind.i64.wrap ((n : Int) + 1) = (n : Int) + 1 := IntWalk.i64_in _ (by omega)
          go_upto_region 11 with fail
          generalize hwA : w3.setCell ⟨q, 2, none⟩ (.int .i64 ((n : Int) + 1)) = wA
          have hqA : wA.heap[q]? = some (.cells (scCells path p (n + 1) text .nilIface true) 94 (0, 0)) := by
            rw [← hwA, row_set HQ3.out 2 _]; rfl
          have kA : Keeps [q] w3 wA := by rw [← hwA]; exact (Keeps.refl _ _).setCell ⟨q, 2, none⟩ _ (by simp)
          have KPA : Hid (Keeps [p, b, s, q] w wA) := KPX.out.trans (kA.mono (by simp))
          have ENVA : Hid (Env p b s q ae af t wA) := ENVX.out.keeps (kA.mono (by simp))
          have HSTA : Hid (∃ r m i, St p b s t .nilIface r m i wA ∧ i + r = pos + k + m) := by
            obtain ⟨r, m, i, hst, hp⟩ := HSTX.out
            exact ⟨r, m, i, hst.kept kA ENVX.out.hqp ENVX.out.hqb ENVX.out.hqs, hp⟩
          have HQA := hide hqA
          obtain ⟨L1, hL1⟩ : ∃ L1 : ByteArray, (⟨(Lib.trimSuffix L0.data.toList [10]).toArray⟩ : ByteArray) = L1 := ⟨_, rfl⟩
          have hL1l : L1.data.toList = raw (t.data.toList.drop pos) := by rw [← hL1, hL0l]; exact HLD.out.1
          have hL1s : L1.size ≤ 1048577 := by
            rw [← size_list, hL1l]
            have : (raw (t.data.toList.drop pos)).length ≤ (t.data.toList.drop pos).length := (List.takeWhile_sublist _).length_le
            rw [List.length_drop, size_list] at this
            omega
          have HT1 := hide (trimSuffix_spec L0 ⟨#[10]⟩ wA (by omega))
          rw [show (⟨#[10]⟩ : ByteArray).data.toList = [10] from rfl, hL1] at HT1
          obtain ⟨L2, hL2⟩ : ∃ L2 : ByteArray, (⟨(Lib.trimSuffix L1.data.toList [13]).toArray⟩ : ByteArray) = L2 := ⟨_, rfl⟩
          have hL2l : L2.data.toList = Lib.trimSuffix (raw (t.data.toList.drop pos)) [13] := by rw [← hL2, ← hL1l]
          have hL2s : L2.size ≤ 1048577 := by
            rw [← size_list, hL2l]
            have : (Lib.trimSuffix (raw (t.data.toList.drop pos)) [13]).length ≤ (raw (t.data.toList.drop pos)).length := by
              unfold Lib.trimSuffix; split
              · rw [List.length_take]; omega
              · exact Nat.le_refl _
            rw [← size_list, hL1l] at hL1s
            omega
          have HT2 := hide (trimSuffix_spec L1 ⟨#[13]⟩ wA hL1s)
          rw [show (⟨#[13]⟩ : ByteArray).data.toList = [13] from rfl, hL2] at HT2
          have HIX := hide (Any.strings_IndexByte Tryz.lays137 L2 35 wA)
          obtain ⟨ix, hix⟩ : ∃ ix, Lib.indexByte L2.data.toList 35 = ix := ⟨_, rfl⟩
          rw [show ((35 : Int).toNat.toUInt8) = 35 from rfl, hix] at HIX
          have hge := Lib.indexByte_ge L2.data.toList 35
          rw [hix] at hge
          obtain ⟨L3, hL3, hL3l, hL3s⟩ : ∃ L3 : ByteArray, (if ix = -1 then L2 else L2.extract 0 ix.toNat) = L3 ∧ L3.data.toList = cutHash (Lib.trimSuffix (raw (t.data.toList.drop pos)) [13]) ∧ L3.size ≤ 1048577 := by
            refine ⟨_, rfl, ?_, ?_⟩
            · rw [← hL2l, cutHash, hix]
              split
              · rfl
              · rw [Lib.extract_data, List.drop_zero, Nat.sub_zero]
            · split
              · exact hL2s
              · rw [ByteArray.size_extract]; omega
          have HTF := hide (trimFunc_spec L3 wA hL3s ENVA.out.tabs)
          obtain ⟨L4, hL4⟩ : ∃ L4 : ByteArray, (⟨(trimB L3.data.toList).toArray⟩ : ByteArray) = L4 := ⟨_, rfl⟩
          have hL4l : L4.data.toList = clean (raw (t.data.toList.drop pos)) := by rw [← hL4, hL3l]; rfl
          rw [hL4] at HTF
          have hixl : ∀ o : Nat, ix = (o : Int) → o < L2.size := fun o ho => by
            rw [ho] at hix
            have := (List.getElem?_eq_some_iff.1 (Lib.indexByte_some hix).1).1
            rwa [size_list] at this
          have HL4 := hide hL4l
          have HL3 := hide hL3
          clear hqA kA hwA hL1 hL1l hL2 hL2l hL3l hL4 hL4l hix hL3
          have kin : ∀ w4, Below wA.heap.size wA w4 → Keeps [p, b, s, q] w (w4.setCell ⟨q, 3, none⟩ (.string L4)) ∧ Sc q p b s path t (pos + k) (n + 1) L4 true (w4.setCell ⟨q, 3, none⟩ (.string L4)) ∧
              w4.cell? ⟨q, 3, none⟩ = some (.string text) ∧ w4.frozen? ⟨q, 3, none⟩ = false ∧ mpos s p (w4.setCell ⟨q, 3, none⟩ (.string L4)) = pos + k := by
            intro w4 hb
            have hq4 : w4.heap[q]? = some (.cells (scCells path p (n + 1) text .nilIface true) 94 (0, 0)) := by
              rw [hb.block q (Array.getElem?_eq_some_iff.1 HQA.out).1]; exact HQA.out
            have k4 : Keeps [q] wA (w4.setCell ⟨q, 3, none⟩ (.string L4)) := (Keeps.of_below hb (Nat.le_refl _)).setCell ⟨q, 3, none⟩ _ (by simp)
            obtain ⟨r, m, i, hst, hp⟩ := HSTA.out
            have hst4 := hst.kept k4 ENVA.out.hqp ENVA.out.hqb ENVA.out.hqs
            refine ⟨KPA.out.trans (k4.mono (by simp)), ⟨by rw [row_set hq4 3 _]; rfl, ⟨r, m, i, hst4, hp⟩, hkt, by omega, by intro h; first | exact absurd h (by decide) | exact hend⟩, by rw [row_cell hq4]; rfl, row_frozen hq4 3, mpos_of hst4 hp⟩
          have KIN := hide kin
          have hlen : n + 1 + (lines (t.data.toList.drop (pos + k))).length = tot := by
            rw [← HT1'.out, HLD.out.2.1, List.length_cons]; omega
          have hent : E = if clean (raw (t.data.toList.drop pos)) = [] then entries (n + 1) (lines (t.data.toList.drop (pos + k))) else (n + 1, clean (raw (t.data.toList.drop pos))) :: entries (n + 1) (lines (t.data.toList.drop (pos + k))) := by
            rw [← HE1.out]; exact HLD.out.2.2
          have HENT := hide hent
          have HLEN := hide hlen
          clear kin hent hlen
          by_cases hneg : ix = -1
          · subst hneg
            have hL3' : L3 = L2 := by rw [← HL3.out, if_pos rfl]
            subst hL3'
            go_upto_region 17 with first | (go_at_call_of 44 L0; refine HT1.out.mono ?_; rintro x wA ⟨rfl, rfl⟩) | (go_at_call_of 44 L1; refine HT2.out.mono ?_; rintro x wA ⟨rfl, rfl⟩) | (go_at_call 45; refine HIX.out.mono ?_; rintro x wA ⟨rfl, rfl⟩) | (go_at_call 46; refine HTF.out.mono ?_; rintro x w4 ⟨rfl, hb4⟩; obtain ⟨k4, sc4, c34, f34, hm4⟩ := KIN.out w4 hb4)
            by_cases hcl : clean (raw (t.data.toList.drop pos)) = []
            · have hem := emptyL L4 (by rw [HL4.out]; exact hcl)
              go_wp2
              go_roundw
              case rel =>
                refine ⟨pos + k, n + 1, L4, true, sc4, k4, HLEN.out, ?_⟩
                have := HENT.out
                rw [if_pos hcl] at this
                exact this.symm
              case measure => rw [hm4, HMP.out]; omega
            · have hem := nonemptyL L4 (by rw [HL4.out]; exact hcl)
              go_wp2
              exact bodyPost_ret (v := .bool true) (by simp [results, Tryz.results28, go_sem]) rfl ⟨true, pos + k, n + 1, L4, true, rfl, sc4, k4, HLEN.out, Or.inl ⟨rfl, by rw [HENT.out, if_neg hcl, HL4.out]⟩⟩
          · obtain ⟨o, rfl⟩ : ∃ o : Nat, ix = (o : Int) := ⟨ix.toNat, by omega⟩
            have hol := hixl o rfl
            have hL3' : L2.extract 0 o = L3 := by rw [← HL3.out, if_neg hneg, Int.toNat_natCast]
            have hole : o ≤ L2.size := Nat.le_of_lt hol
            have hole' : (o : Int) ≤ (L2.size : Int) := by omega
            clear hixl hge
            go_upto_region 17 with first | (go_at_call_of 44 L0; refine HT1.out.mono ?_; rintro x wA ⟨rfl, rfl⟩) | (go_at_call_of 44 L1; refine HT2.out.mono ?_; rintro x wA ⟨rfl, rfl⟩) | (go_at_call 45; refine HIX.out.mono ?_; rintro x wA ⟨rfl, rfl⟩) | (go_at_call 46; refine HTF.out.mono ?_; rintro x w4 ⟨rfl, hb4⟩; obtain ⟨k4, sc4, c34, f34, hm4⟩ := KIN.out w4 hb4)
            by_cases hcl : clean (raw (t.data.toList.drop pos)) = []
            · have hem := emptyL L4 (by rw [HL4.out]; exact hcl)
              go_wp2
              go_roundw
              case rel =>
                refine ⟨pos + k, n + 1, L4, true, sc4, k4, HLEN.out, ?_⟩
                have := HENT.out
                rw [if_pos hcl] at this
                exact this.symm
              case measure => rw [hm4, HMP.out]; omega
            · have hem := nonemptyL L4 (by rw [HL4.out]; exact hcl)
              go_wp2
              exact bodyPost_ret (v := .bool true) (by simp [results, Tryz.results28, go_sem]) rfl ⟨true, pos + k, n + 1, L4, true, rfl, sc4, k4, HLEN.out, Or.inl ⟨rfl, by rw [HENT.out, if_neg hcl, HL4.out]⟩⟩

end Go.Proofs.Qxb6605907aGreatFmt.Sx
