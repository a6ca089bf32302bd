import Derived.Test.Qxb6605907aGreatFmtZs
namespace Go.Proofs.Qxb6605907aGreatFmt
open Go.RowKit

theorem EnvF.of_low {W0 w : World} (E : EnvF W0) (h : Low W0 w) : EnvF w := ⟨E.maxAt h, E.utfAt h, E.prAt h⟩

theorem EnvS.of_low {W0 w : World} {ae af : Addr} (E : EnvS W0 ae af) (h : Low W0 w) : EnvS w ae af := by
  obtain ⟨ca, ta, hae⟩ := E.hae
  obtain ⟨cf, tf, haf⟩ := E.haf
  exact ⟨h.cell E.hE, h.cell E.hF, E.hne, ⟨ca, ta, (h.block _ (lt_of_get hae)).trans hae⟩, ⟨cf, tf, (h.block _ (lt_of_get haf)).trans haf⟩⟩

/-- What Parse answers. -/
def ParseOut (W0 : World) (file : ByteArray) (R : PS × Option Nat) (e : Ending) (w' : World) : Prop :=
  Below W0.heap.size W0 w' ∧
  ((R.2 = none ∧ ∃ hb wb c, e = .returned (.tuple #[.pointer (some ⟨hb, 0, none⟩), .nilIface]) ∧ GOk W0.heap.size w' hb wb R.1.init R.1.h ∧ HOk R.1.h c ∧ c ≤ 1048578) ∨
   (∃ n eb s, R.2 = some n ∧ e = .returned (.tuple #[.pointer none, .iface 24 (.pointer (some ⟨eb, 0, none⟩))]) ∧ w'.heap[eb]? = some (.cells #[.string file, .int .i64 (n : Int), .string s] 31 (0, 0))))

set_option maxRecDepth 100000 in
set_option maxHeartbeats 4000000 in
theorem parse_spec (W0 : World) (EV : EnvF W0) {ae af : Addr} (ES : EnvS W0 ae af) (file t : ByteArray) (ht : t.size ≤ 1048577) :
    Calls Tryz.prog 15 #[.string file, .iface 51 (.pointer (some ⟨W0.heap.size, 0, none⟩))] (W0.alloc (.cells #[.string t, .int .i64 0, .int .i64 (-1)] 87)) fun e w' =>
      ParseOut W0 file (runL ps0 (Sx.entries 0 (Sx.lines t.data.toList))) e w' := by
  have hmm := @run_makeMap Tryz.prog
  have hwt := wt_lines _ 0 t.data.toList (Nat.le_refl _)
  have hwt1 : wt (Sx.entries 0 (Sx.lines t.data.toList)) ≤ 1048578 := by
    rw [Sx.size_list] at hwt
    split at hwt <;> omega
  clear hwt
  obtain ⟨R, hR⟩ : ∃ R, runL ps0 (Sx.entries 0 (Sx.lines t.data.toList)) = R := ⟨_, rfl⟩
  rw [hR]
  obtain ⟨w, hw⟩ : ∃ w, W0.alloc (.cells #[.string t, .int .i64 0, .int .i64 (-1)] 87) = w := ⟨_, rfl⟩
  rw [hw]
  have hs0 : w.heap[W0.heap.size]? = some (.cells #[.string t, .int .i64 0, .int .i64 (-1)] 87 (0, 0)) := by rw [← hw]; exact heap_alloc_new W0 _
  have hz : w.heap.size = W0.heap.size + 1 := by rw [← hw, World.size_alloc]
  have hb0 : Below W0.heap.size W0 w := by rw [← hw]; exact (Below.refl _ W0).alloc (Nat.le_refl _) _
  clear hw
  obtain ⟨s, hs⟩ : ∃ s, W0.heap.size = s := ⟨_, rfl⟩
  have HN := hide (Sx.nscan_spec file s w)
  have HH := hide (fun (w2 : World) (h2 : W0.heap.size ≤ w2.heap.size) => new_spec W0.heap.size [110, 105, 108] w2 h2)
  obtain ⟨p, hp0⟩ : ∃ p, w.heap.size = p := ⟨_, rfl⟩
  have HEV := hide EV
  have HES := hide ES
  have HS0 := hide hs0
  have HB0 := hide hb0
  have HR := hide hR
  have HWT := hide hwt1
  rw [hs]
  rw [hp0] at HN
  clear EV ES hs0 hb0 hR hwt1
  go_enter Tryz.func15, Tryz.ntmps15
  go_wp2_with first
    | (go_at_call 25; refine HN.out.mono ?_; rintro x w1 ⟨q, rfl, hq, hp, hb1, hbq, hbl⟩; have hs1 := hbl.size)
    | (go_at_call 26; refine (HH.out w1 (by omega)).mono ?_; rintro x w2 ⟨hb, wb, rfl, hG, hlh, hlw, hb2⟩; have hs2 := hb2.size)
  obtain ⟨W, hW⟩ : ∃ W, (w2.alloc (.map #[] 0)).alloc (.cells #[.pointer (some ⟨q, 0, none⟩), .pointer (some ⟨hb, 0, none⟩), .map (some w2.heap.size), .bool false, .bool false] 78) = W := ⟨_, rfl⟩
  have hrowP : W.heap[w2.heap.size + 1]? = some (.cells #[.pointer (some ⟨q, 0, none⟩), .pointer (some ⟨hb, 0, none⟩), .map (some w2.heap.size), .bool false, .bool false] 78 (0, 0)) := by
    rw [← hW]
    have := heap_alloc_new (w2.alloc (.map #[] 0)) (.cells #[.pointer (some ⟨q, 0, none⟩), .pointer (some ⟨hb, 0, none⟩), .map (some w2.heap.size), .bool false, .bool false] 78)
    rw [World.size_alloc] at this
    exact this
  have hmap : W.heap[w2.heap.size]? = some (.map #[] 0) := by
    rw [← hW, heap_alloc_old _ _ (by rw [World.size_alloc]; omega)]
    exact World.alloc_heap_new w2 _
  have k3 : KeepsT W0.heap.size [] [] w2 W := by rw [← hW]; exact (KeepsT.refl _ _ _ w2).alloc _ |>.alloc _
  have hwl : wb < w2.heap.size := by
    obtain ⟨_, _, _, hs, _⟩ := hG
    obtain ⟨wo, hw1, _⟩ := hs.writes.obj
    exact lt_of_get hw1
  have kq := k3.cells _ _ _ _ ((hb2.block q (lt_of_get hq)).trans hq) (by simp)
  have kp := k3.cells _ _ _ _ ((hb2.block p (lt_of_get hp)).trans hp) (by simp)
  have kb := k3.cells _ _ _ _ ((hb2.block (p + 1) (lt_of_get hb1)).trans hb1) (by simp)
  have ks1 : w1.heap[s]? = some (.cells #[.string t, .int .i64 0, .int .i64 (-1)] 87 (0, 0)) := (hbl.block s (by omega)).trans (hs ▸ HS0.out)
  have ks := k3.cells _ _ _ _ ((hb2.block s (lt_of_get ks1)).trans ks1) (by simp)
  have lq := lt_of_get hq
  have bA : Below W0.heap.size W0 w2 := HB0.out.trans ((hbl.trans (hb2.mono (by omega))).mono (by omega))
  have HPL : Hid (PL W0 (w2.heap.size + 1) q p (p + 1) s hb w2.heap.size wb file t ps0 0 0 ⟨#[]⟩ false W) := by
    refine ⟨⟨⟨hrowP, ⟨_, _, _, _, kq⟩, ⟨by omega, by omega⟩, by omega⟩, ⟨#[], 0, hmap, rfl⟩, hG.keepT k3 (by simp) (by simp)⟩, ⟨kq, ⟨0, 0, 0, ⟨_, _, .int .i64 (-1), _, kp, ks, kb, List.length_replicate, Nat.le_refl _, Nat.zero_le _, Nat.zero_le _, Nat.zero_le _, rfl⟩, rfl⟩, Nat.zero_le _, Nat.le_refl _, fun h => absurd h (by decide)⟩, ⟨?_, ?_⟩, KeepsT.belowLow bA k3, ⟨by omega, by omega, by omega, by omega⟩, ⟨by omega, by omega, by omega, by omega, by omega, by omega⟩⟩
    · have := k3.size; omega
    · exact (KeepsT.belowLow bA k3).block
  obtain ⟨mb, hmb⟩ : ∃ mb, w2.heap.size = mb := ⟨_, rfl⟩
  rw [hW]
  rw [hmb] at HPL ⊢
  obtain ⟨pb, hpb⟩ : ∃ pb, mb + 1 = pb := ⟨_, rfl⟩
  rw [hpb] at HPL ⊢
  clear hW hrowP hmap k3 hwl kq kp kb ks1 ks bA hG hq hp hb1 hb2 hbl hlh hlw HN HH HS0 HB0 hmm
  go_loopw [7] (fun _ wr => ∃ S pos n tx done c, PL W0 pb q p (p + 1) s hb mb wb file t S pos n tx done wr ∧ runL S (Sx.entries n (Sx.lines (t.data.toList.drop pos))) = R ∧ HOk S.h c ∧ c + wt (Sx.entries n (Sx.lines (t.data.toList.drop pos))) ≤ 1048578)
    (fun _ wr => (Sx.entries 0 (Sx.lines (t.data.toList.drop (Sx.mpos s p wr)))).length)
  case atStart => exact ⟨ps0, 0, 0, _, _, 0, HPL.out, by rw [List.drop_zero]; exact HR.out, ⟨by simp [ps0], fun p hp => by simp [ps0] at hp, fun q hq => by simp [ps0] at hq⟩, by rw [List.drop_zero]; have := HWT.out; omega⟩
  case round =>
    obtain ⟨S, pos, n, tx, done, c, hPL, hrun, hO, hc⟩ := hrel
    have HMP : Hid (Sx.mpos s p wr = pos) := by
      obtain ⟨r, m, i, hst, hpos⟩ := hPL.sc.2.1
      exact Sx.mpos_of hst hpos
    have p0 : wr.cell? ⟨pb, 0, none⟩ = some (.pointer (some ⟨q, 0, none⟩)) := by rw [row_cell hPL.pok.1.prow]; rfl
    have HSC := hide (Sx.scanner_scan q p (p + 1) s pos n ae af file t tx done wr hPL.sc (hPL.env HEV.out HES.out ht))
    cases hE : Sx.entries n (Sx.lines (t.data.toList.drop pos)) with
    | nil =>
      rw [hE] at HSC hrun
      have HS2 : Hid (Calls Tryz.prog 28 #[.pointer (some ⟨q, 0, none⟩)] wr fun x w' => x = .returned (.bool false) ∧ ∃ pos' n' tx' done', PL W0 pb q p (p + 1) s hb mb wb file t S pos' n' tx' done' w') := by
        refine HSC.out.mono ?_
        rintro x w' ⟨ok, pos', n', tx', done', rfl, hsc', kp', _, hcase⟩
        rcases hcase with ⟨_, h⟩ | ⟨rfl, _, _⟩
        · cases h
        · exact ⟨rfl, pos', n', tx', done', hPL.scanned kp' hsc'⟩
      have HR1 := hide hrun
      have HO := hide hO
      clear hPL hrun hO HSC hE HPL HR HWT HMP
      go_upto_region 6 with (go_at_call 28; refine HS2.out.mono ?_; rintro x w3 ⟨rfl, pos', n', tx', done', hPL3⟩)
      have q0 : w3.cell? ⟨pb, 0, none⟩ = some (.pointer (some ⟨q, 0, none⟩)) := by rw [row_cell hPL3.pok.1.prow]; rfl
      have q1 : w3.cell? ⟨pb, 1, none⟩ = some (.pointer (some ⟨hb, 0, none⟩)) := by rw [row_cell hPL3.pok.1.prow]; rfl
      have HER := hide (Sx.err_spec q p n' file tx' done' w3 hPL3.sc.1)
      have HP3 := hide hPL3
      clear hPL3 HS2
      go_wp2_with (go_at_call 31; refine HER.out.mono ?_; rintro e w4 ⟨rfl, e1⟩; replace e1 := e1.symm; subst e1)
      have hr := HR1.out
      simp only [runL] at hr
      subst hr
      exact bodyPost_ret (v := .tuple #[.pointer (some ⟨hb, 0, none⟩), .nilIface]) (by simp [results, Tryz.results15, go_sem]) rfl ⟨HP3.out.below, Or.inl ⟨rfl, hb, wb, c, rfl, HP3.out.pok.2.2, HO.out, by omega⟩⟩
    | cons en E =>
      obtain ⟨m, l⟩ := en
      rw [hE] at HSC hrun hc
      rw [wt_cons] at hc
      dsimp only at hc
      have HSZ : Hid ((Sx.entries 0 (Sx.lines (t.data.toList.drop (Sx.mpos s p wr)))).length = E.length + 1) := by
        rw [Hid, HMP.out, entries_size 0 n, hE]; rfl
      have HS2 : Hid (Calls Tryz.prog 28 #[.pointer (some ⟨q, 0, none⟩)] wr fun x w' => x = .returned (.bool true) ∧ ∃ pos' done', PL W0 pb q p (p + 1) s hb mb wb file t S pos' m (baOf l) done' w' ∧ Sx.entries m (Sx.lines (t.data.toList.drop pos')) = E) := by
        refine HSC.out.mono ?_
        rintro x w' ⟨ok, pos', n', tx', done', rfl, hsc', kp', _, hcase⟩
        rcases hcase with ⟨rfl, h⟩ | ⟨_, h, _⟩
        · obtain ⟨h1, h2⟩ := List.cons.inj h
          have h3 : m = n' := congrArg Prod.fst h1
          have h5 : l = tx'.data.toList := congrArg Prod.snd h1
          have h4 : baOf l = tx' := by rw [h5]; rfl
          subst h3
          subst h4
          exact ⟨rfl, pos', done', hPL.scanned kp' hsc', h2.symm⟩
        · cases h
      have HO := hide hO
      have HR1 := hide hrun
      have HSP : Hid (∀ (w3 : World) (pos' : Nat) (done' : Bool), PL W0 pb q p (p + 1) s hb mb wb file t S pos' m (baOf l) done' w3 → Calls Tryz.prog 29 #[.pointer (some ⟨pb, 0, none⟩), .string (baOf l)] w3 fun e w' => LineOut W0 w3 pb q hb mb wb file (m : Int) (lineP S l) e w') := fun w3 pos' done' x =>
        parseLine_spec W0 HEV.out pb q hb mb wb c file (m : Int) S.ini S.st S.init l S.h w3 x.low x.pok HO.out (by omega) (by omega)
      clear hPL hrun hO HSC hE HPL HR HWT
      cases hl : (lineP S l).2 with
      | true =>
        have HR2 : Hid (runL (lineP S l).1 E = R) := by
          have := HR1.out
          simp only [runL, hl, if_true] at this
          exact this
        have HO2 := hide (lineP_ok S l c HO.out)
        go_upto_region 3 with (go_at_call 28; refine HS2.out.mono ?_; rintro x w3 ⟨rfl, pos', done', hPL3, hE3⟩)
        have q0 : w3.cell? ⟨pb, 0, none⟩ = some (.pointer (some ⟨q, 0, none⟩)) := by rw [row_cell hPL3.pok.1.prow]; rfl
        have HTX := hide (Sx.text_spec q p m file (baOf l) .nilIface done' w3 hPL3.sc.1)
        have HLN : Hid (Calls Tryz.prog 29 #[.pointer (some ⟨pb, 0, none⟩), .string (baOf l)] w3 fun e w' => e = .returned (.pointer none) ∧ PL W0 pb q p (p + 1) s hb mb wb file t (lineP S l).1 pos' m (baOf l) done' w') := by
          refine (HSP.out w3 pos' done' hPL3).mono ?_
          rintro e w' ⟨h1, _, h3, h4⟩
          exact ⟨h1 hl, hPL3.lined h3 h4⟩
        have HE3 := hide hE3
        obtain ⟨S', hS'⟩ : ∃ S', (lineP S l).1 = S' := ⟨_, rfl⟩
        rw [hS'] at HLN HR2 HO2
        clear hPL3 hE3 HS2 HSP HR1 HO hl hS'
        go_wp2_with first
          | (go_at_call 30; refine HTX.out.mono ?_; rintro e w4 ⟨rfl, e1⟩; replace e1 := e1.symm; subst e1)
          | (go_at_call 29; refine HLN.out.mono ?_; rintro e w5 ⟨rfl, hPL5⟩; have HP5 := hide hPL5; clear hPL5)
        go_roundw
        case rel => exact ⟨S', pos', m, _, done', c + (l.length + 1), HP5.out, by rw [HE3.out]; exact HR2.out, HO2.out, by rw [HE3.out]; omega⟩
        case measure =>
          have h5 : Sx.mpos s p w5 = pos' := by
            obtain ⟨r, m, i, hst, hpos⟩ := HP5.out.sc.2.1
            exact Sx.mpos_of hst hpos
          rw [h5, HSZ.out, entries_size 0 m, HE3.out]
          omega
      | false =>
        have HR2 : Hid (((lineP S l).1, some m) = R) := by
          have := HR1.out
          simp only [runL, hl] at this
          exact this
        go_upto_region 3 with (go_at_call 28; refine HS2.out.mono ?_; rintro x w3 ⟨rfl, pos', done', hPL3, hE3⟩)
        have q0 : w3.cell? ⟨pb, 0, none⟩ = some (.pointer (some ⟨q, 0, none⟩)) := by rw [row_cell hPL3.pok.1.prow]; rfl
        have HTX := hide (Sx.text_spec q p m file (baOf l) .nilIface done' w3 hPL3.sc.1)
        have HLN : Hid (Calls Tryz.prog 29 #[.pointer (some ⟨pb, 0, none⟩), .string (baOf l)] w3 fun e w' => ∃ eb sx, e = .returned (.pointer (some ⟨eb, 0, none⟩)) ∧ w'.heap[eb]? = some (.cells #[.string file, .int .i64 (m : Int), .string sx] 31 (0, 0)) ∧ Below W0.heap.size W0 w') := by
          refine (HSP.out w3 pos' done' hPL3).mono ?_
          rintro e w' ⟨_, h2, h3, h4⟩
          obtain ⟨eb, sx, h5, h6⟩ := h2 hl
          exact ⟨eb, sx, h5, h6, (hPL3.lined h3 h4).below⟩
        obtain ⟨S', hS'⟩ : ∃ S', (lineP S l).1 = S' := ⟨_, rfl⟩
        rw [hS'] at HR2
        clear hPL3 hE3 HS2 HSP HR1 HO hl hS'
        go_wp2_with first
          | (go_at_call 30; refine HTX.out.mono ?_; rintro e w4 ⟨rfl, e1⟩; replace e1 := e1.symm; subst e1)
          | (go_at_call 29; refine HLN.out.mono ?_; rintro e w5 ⟨eb, sx, rfl, hr5, hb5⟩)
        have hr := HR2.out
        subst hr
        exact bodyPost_ret (v := .tuple #[.pointer none, .iface 24 (.pointer (some ⟨eb, 0, none⟩))]) (by simp [results, Tryz.results15, go_sem]) rfl ⟨hb5, Or.inr ⟨m, eb, sx, rfl, rfl, hr5⟩⟩

end Go.Proofs.Qxb6605907aGreatFmt
