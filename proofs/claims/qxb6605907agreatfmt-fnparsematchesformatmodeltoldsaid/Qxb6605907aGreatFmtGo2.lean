import Derived.Test.Qxb6605907aGreatFmtGo1
import Derived.Test.Qxb6605907aGreatFmtMq
import Derived.Deep.RegionLaw
namespace Go.Proofs.Qxb6605907aGreatFmt
open Go.RowKit

theorem KeepsT.cell {B : Nat} {S : List Nat} {w w' : World} (k : KeepsT B [] S w w') {b j : Nat} {v : Value} (hp : w.cell? ⟨b, j, none⟩ = some v) : w'.cell? ⟨b, j, none⟩ = some v := by
  cases ho : w.heap[b]? with
  | none => simp [World.cell?, ho] at hp
  | some ob =>
    cases ob with
    | cells cs t fr =>
      have h3 := k.cells _ _ _ _ ho (by simp)
      have e : w'.cell? ⟨b, j, none⟩ = w.cell? ⟨b, j, none⟩ := by simp only [World.cell?, ho, h3]
      rw [e]; exact hp
    | _ => simp [World.cell?, ho] at hp

def addBad (init : List UInt8) (h : HP) (o : OpP) : Bool := o.write && (o.value == init || h.written.contains (o.v, o.value))

set_option maxRecDepth 100000 in
set_option maxHeartbeats 8000000 in
theorem add_spec (B hb wb i c : Nat) (init : List UInt8) (h : HP) (o : OpP) (w : World) (hG : GOk B w hb wb init h) (hO : HOk h c) (hc : c ≤ 2097152) (hi : i < h.procs.length) (hov : o.v.length ≤ 1048577) (hou : o.value.length ≤ 1048577) :
    Calls Tryz.prog 41 #[.pointer (some ⟨hb, 0, none⟩), .int .i64 (i : Int), gOp o] w fun e w' =>
      (addBad init h o = true → ∃ eb s, e = .returned (.iface 168 (.pointer (some ⟨eb, 0, none⟩))) ∧ w'.heap[eb]? = some (.cells #[.string s] 170 (0, 0)) ∧ GOk B w' hb wb init h) ∧
      (addBad init h o = false → e = .returned .nilIface ∧ GOk B w' hb wb init (addOp h i o)) ∧ KeepsT B gTs [wb] w w' := by
  obtain ⟨pv, L, E, hS, hE⟩ := hG
  have hnl : (h.procs.map (·.1)).length = h.procs.length := List.length_map _
  have hol : (h.procs.map (·.2)).length = h.procs.length := List.length_map _
  obtain ⟨pg, pcap, hpv, _, hpg⟩ := hS.procs.form (by rw [hnl]; omega)
  rw [hnl] at hpv
  subst hpv
  obtain ⟨v0, hv0⟩ : ∃ v0, L[i]? = some v0 := ⟨_, List.getElem?_eq_getElem (by rw [hS.len.1, hol]; exact hi)⟩
  obtain ⟨os0, hos0⟩ : ∃ os0, (h.procs.map (·.2))[i]? = some os0 := ⟨_, List.getElem?_eq_getElem (by rw [hol]; exact hi)⟩
  obtain ⟨x0, hx0⟩ : ∃ x0, (h.procs.map (·.1))[i]? = some x0 := ⟨_, List.getElem?_eq_getElem (by rw [hnl]; exact hi)⟩
  have hosl : os0.length ≤ c := by
    have hh := hos0
    rw [List.getElem?_map] at hh
    cases hp : h.procs[i]? with
    | none => rw [hp] at hh; cases hh
    | some p => rw [hp] at hh; cases hh; exact hO.each p (List.mem_of_getElem? hp)
  have hev := hS.each i v0 os0 hv0 hos0
  obtain ⟨lv0, cv0, rfl⟩ := ownsRow_form hev
  have q1 : w.cell? ⟨hb, 1, none⟩ = some (.slice (some ⟨pg, 0, none⟩) h.procs.length pcap) := by rw [row_cell hS.row]; rfl
  have q2 := (ownsRow_cell hS.procs (g := pg) rfl (pRow_get hS.len.2 hx0 hv0).2).1
  have lh := lt_of_get hS.row
  have lp := World.block_lt_of_cell? w _ q2
  have hi0 : (0 : Int) ≤ (i : Int) := Int.natCast_nonneg _
  have hi1 : (i : Int) < (h.procs.length : Int) := by omega
  obtain ⟨N, hN⟩ : ∃ N, w.heap.size = N := ⟨_, rfl⟩
  have lh2 : hb < N := by omega
  have lp2 : pg < N := by omega
  have lh3 : hb < N + 1 := by omega
  have lp3 : pg < N + 1 := by omega
  obtain ⟨kd, hkd⟩ : ∃ kd, gKind o.write = kd := ⟨_, rfl⟩
  have HKD := hide hkd
  rw [gOp, hkd]
  have hS0 := hS.keepT (KeepsT.refl B [] [] w |>.alloc (.cells #[.int .u8 kd, .string (baOf o.v), .string (baOf o.value)] 71) |>.alloc (.cells #[.int .i64 (i : Int), .int .i64 (os0.length : Int)] 118)) (by simp) (by simp)
  have hK0 : KeepsT B gTs [wb] w ((w.alloc (.cells #[.int .u8 kd, .string (baOf o.v), .string (baOf o.value)] 71)).alloc (.cells #[.int .i64 (i : Int), .int .i64 (os0.length : Int)] 118)) := (KeepsT.refl B gTs [wb] w).alloc _ |>.alloc _
  have hr0 : ((w.alloc (.cells #[.int .u8 kd, .string (baOf o.v), .string (baOf o.value)] 71)).alloc (.cells #[.int .i64 (i : Int), .int .i64 (os0.length : Int)] 118)).heap[N]? = some (.cells #[.int .u8 kd, .string (baOf o.v), .string (baOf o.value)] 71 (0, 0)) := by
    rw [heap_alloc_old _ _ (by rw [World.size_alloc, hN]; omega), ← hN]; exact heap_alloc_new w _
  have hr1 : ((w.alloc (.cells #[.int .u8 kd, .string (baOf o.v), .string (baOf o.value)] 71)).alloc (.cells #[.int .i64 (i : Int), .int .i64 (os0.length : Int)] 118)).heap[N + 1]? = some (.cells #[.int .i64 (i : Int), .int .i64 (os0.length : Int)] 118 (0, 0)) := by
    have := heap_alloc_new (w.alloc (.cells #[.int .u8 kd, .string (baOf o.v), .string (baOf o.value)] 71)) (.cells #[.int .i64 (i : Int), .int .i64 (os0.length : Int)] 118)
    rw [World.size_alloc, hN] at this
    exact this
  have HLO : Hid (∀ g, (Value.slice lv0 os0.length cv0).ownBlock = some g → g ≠ N) := fun g hg => by
    obtain ⟨cs, hcc, _⟩ := ownsRow_own hev hg
    have := lt_of_get hcc
    omega
  have HS0 := hide hS0
  have HK0 := hide hK0
  have HR0 := hide hr0
  have HR1 := hide hr1
  have HE := hide hE
  have HV0 := hide hv0
  have HOS0 := hide hos0
  have HX0 := hide hx0
  have HO := hide hO
  clear hkd hS hE hS0 hK0 hr0 hr1 hev hv0 hos0 hx0 hO
  go_enter Tryz.func41, Tryz.ntmps41
  go_upto_if 24 with fail
  obtain ⟨W, hW⟩ : ∃ W, (w.alloc (.cells #[.int .u8 kd, .string (baOf o.v), .string (baOf o.value)] 71)).alloc (.cells #[.int .i64 (i : Int), .int .i64 (os0.length : Int)] 118) = W := ⟨_, rfl⟩
  rw [hW] at HS0 HK0 HR0 HR1 ⊢
  clear hW q1 q2
  have HFIN : Hid (∀ e w', (∃ eb s, e = Ending.returned (.iface 168 (.pointer (some ⟨eb, 0, none⟩))) ∧ w'.heap[eb]? = some (.cells #[.string s] 170 (0, 0))) → Below W.heap.size W w' → addBad init h o = true →
      (addBad init h o = true → ∃ eb s, e = .returned (.iface 168 (.pointer (some ⟨eb, 0, none⟩))) ∧ w'.heap[eb]? = some (.cells #[.string s] 170 (0, 0)) ∧ GOk B w' hb wb init h) ∧
      (addBad init h o = false → e = .returned .nilIface ∧ GOk B w' hb wb init (addOp h i o)) ∧ KeepsT B gTs [wb] w w') := fun e w' he hbl hbad => by
    obtain ⟨eb, s, h1, h2⟩ := he
    have kk : KeepsT B [] [] W w' := KeepsT.of_below hbl (Nat.le_refl _)
    exact ⟨fun _ => ⟨eb, s, h1, h2, ⟨_, _, _, HS0.out.keepT kk (by simp) (by simp), HE.out⟩⟩, fun hf => absurd (hbad.symm.trans hf) (by decide), HK0.out.trans (kk.mono (by simp) (by simp))⟩
  go_cut [] (fun w' => addBad init h o = false ∧ w'.heap[N]? = some (.cells #[.int .u8 kd, .string (baOf o.v), .string (baOf o.value)] 71 (0, 0)) ∧ (∃ E', HSt B w' hb wb (baOf init) (.slice (some ⟨pg, 0, none⟩) h.procs.length pcap) (h.procs.map (·.1)) (h.procs.map (·.2)) L E' ∧ E'.map (·.1) = wkOf (addOp h i o).written) ∧ KeepsT B gTs [wb] w w')
  case first =>
    cases hw : o.write with
    | false =>
      have hk0 : kd = 0 := by rw [← HKD.out, hw]; rfl
      have HB : Hid (addBad init h o = false) := by show _ = _; simp [addBad, hw]
      have HWR : Hid (E.map (·.1) = wkOf (addOp h i o).written) := by show _ = _; rw [HE.out]; simp [addOp, hw]
      subst hk0
      go_wp2
      go_meet
      exact ⟨HB.out, HR0.out, ⟨E, HS0.out, HWR.out⟩, HK0.out⟩
    | true =>
      have hk1 : kd = 1 := by rw [← HKD.out, hw]; rfl
      subst hk1
      have c2 : W.cell? ⟨N, 2, none⟩ = some (.string (baOf o.value)) := by rw [row_cell HR0.out]; rfl
      have d0 : W.cell? ⟨hb, 0, none⟩ = some (.string (baOf init)) := by rw [row_cell HS0.out.row]; rfl
      go_wp2
      go_quiet (fail)
      clear c2 d0
      obtain ⟨V, hV⟩ : ∃ V, W.drewN nq = V := ⟨_, rfl⟩
      have HBV : Hid (Below W.heap.size W V) := by rw [← hV]; exact ⟨rfl, rfl, rfl, Nat.le_refl _, fun _ _ => rfl⟩
      rw [hV]
      clear hV
      have HKV := hide (show KeepsT B [] [] W V from KeepsT.of_below HBV.out (Nat.le_refl _))
      have HSV := hide (HS0.out.keepT HKV.out (by simp) (by simp))
      have HV0r := hide (HKV.out.cells _ _ _ _ HR0.out (by simp))
      have HV1r := hide (HKV.out.cells _ _ _ _ HR1.out (by simp))
      have lN := lt_of_get HV0r.out
      have lN1 := lt_of_get HV1r.out
      have c0 : V.cell? ⟨N, 0, none⟩ = some (.int .u8 1) := by rw [row_cell HV0r.out]; rfl
      have c1 : V.cell? ⟨N, 1, none⟩ = some (.string (baOf o.v)) := by rw [row_cell HV0r.out]; rfl
      have c2 : V.cell? ⟨N, 2, none⟩ = some (.string (baOf o.value)) := by rw [row_cell HV0r.out]; rfl
      have d0 : V.cell? ⟨N + 1, 0, none⟩ = some (.int .i64 (i : Int)) := by rw [row_cell HV1r.out]; rfl
      have d1 : V.cell? ⟨N + 1, 1, none⟩ = some (.int .i64 (os0.length : Int)) := by rw [row_cell HV1r.out]; rfl
      have e2 : V.cell? ⟨hb, 2, none⟩ = some (.map (some wb)) := by rw [row_cell HSV.out.row]; rfl
      have HNM := hide (fun (W' : World) (hb' : Below V.heap.size V W') => name_spec B hb wb (baOf init) _ _ _ L E W' (HSV.out.keepT (show KeepsT B [] [] V W' from KeepsT.of_below hb' (Nat.le_refl _)) (by simp) (by simp)) i os0.length (by rw [List.length_map]; exact hi) (by omega))
      have hsv : (baOf o.v).size ≤ 1048577 := by rw [baOf_size]; exact hov
      have hsu : (baOf o.value).size ≤ 1048577 := by rw [baOf_size]; exact hou
      by_cases hvi : o.value = init
      · have ht : ((baOf o.value).toList == (baOf init).toList) = true := by rw [hvi]; simp
        have HBAD : Hid (addBad init h o = true) := by show _ = _; simp [addBad, hw, hvi]
        clear hvi
        go_upto_if 31 with fail
        rw [ht]
        go_wp2_with fail
        go_region_held3 (fun w' => w'.cell? ⟨N, 0, none⟩ = some (.int .u8 1) ∧ w'.cell? ⟨N, 1, none⟩ = some (.string (baOf o.v)) ∧ w'.cell? ⟨N, 2, none⟩ = some (.string (baOf o.value)) ∧ w'.cell? ⟨N + 1, 0, none⟩ = some (.int .i64 (i : Int)) ∧ w'.cell? ⟨N + 1, 1, none⟩ = some (.int .i64 (os0.length : Int)))
          (first
            | go_keep
            | (go_split_ands
               refine ⟨?_, ?_, ?_, ?_, ?_⟩
               · (rw [hbn.cell (p := ⟨N, 0, none⟩) lN]; assumption)
               · (rw [hbn.cell (p := ⟨N, 1, none⟩) lN]; assumption)
               · (rw [hbn.cell (p := ⟨N, 2, none⟩) lN]; assumption)
               · (rw [hbn.cell (p := ⟨N + 1, 0, none⟩) lN1]; assumption)
               · (rw [hbn.cell (p := ⟨N + 1, 1, none⟩) lN1]; assumption)))
          (first
            | (go_at_call 60; refine (HNM.out V.drew ⟨rfl, rfl, rfl, Nat.le_refl _, fun _ _ => rfl⟩).mono ?_; rintro x wn ⟨⟨sn, rfl⟩, hbn'⟩; have hbn : Below V.heap.size V wn := ⟨hbn'.os, hbn'.tape, hbn'.output, hbn'.size, hbn'.block⟩)
            | (go_at_call 59; refine (errorf_in _ sn (baOf o.value) (baOf o.v) (baOf o.value) 1 _ hsv hsu (by simp) (by simp) (by simp)).mono ?_; rintro x we ⟨eb, se, rfl, hre, hle, hbe⟩; have hbn : Below V.heap.size V we := (hbn.alloc hbn.size _).trans (hbe.mono (by rw [World.size_alloc]; have := hbn.size; omega))))
        go_wp2
        go_ret
        exact HFIN.out _ _ ⟨eb, se, rfl, hre⟩ (HBV.out.trans (hbn.mono HBV.out.size)) HBAD.out
      · have ht : ((baOf o.value).toList == (baOf init).toList) = false := by
          rw [beq_eq_false_iff_ne, Lib.toList_data, Lib.toList_data, baOf_data, baOf_data]; exact hvi
        have HVI := hide hvi
        clear hvi
        have hwf := wk_find o.v o.value h.written E 0 HE.out
        have HLK : Hid (∀ W', Below V.heap.size V W' → (Instr.lookup 41 (.map (some wb)) (.agg #[.string (baOf o.v), .string (baOf o.value)]) true).run Tryz.prog W' = .ok (.tuple #[((findE (baOf o.v, baOf o.value) E 0).map (·.2)).getD (.agg #[.int .i64 0, .int .i64 0]), .bool (findE (baOf o.v, baOf o.value) E 0).isSome]) W') := fun W' hb' =>
          lookupK (HSV.out.writes.keepsT (show KeepsT B [] [] V W' from KeepsT.of_below hb' (Nat.le_refl _)) (by simp)) (baOf o.v, baOf o.value)
        go_upto_if 31 with fail
        rw [ht]
        go_upto_region 6 with fail
        obtain ⟨kb, hkb⟩ : ∃ kb, V.heap.size = kb := ⟨_, rfl⟩
        have hrk := heap_alloc_new V (.cells #[.string (baOf o.v), .string (baOf o.value)] 122)
        rw [hkb] at hrk ⊢
        have HBX : Hid (Below V.heap.size V (V.alloc (.cells #[.string (baOf o.v), .string (baOf o.value)] 122))) := (Below.refl V.heap.size V).alloc (Nat.le_refl _) _
        have hxs : (V.alloc (.cells #[.string (baOf o.v), .string (baOf o.value)] 122)).heap.size = kb + 1 := by rw [World.size_alloc, hkb]
        obtain ⟨X, hX⟩ : ∃ X, V.alloc (.cells #[.string (baOf o.v), .string (baOf o.value)] 122) = X := ⟨_, rfl⟩
        rw [hX] at hrk HBX hxs ⊢
        have HRK := hide hrk
        have x0 : X.cell? ⟨kb, 0, none⟩ = some (.string (baOf o.v)) := by rw [row_cell hrk]; rfl
        have x1 : X.cell? ⟨kb, 1, none⟩ = some (.string (baOf o.value)) := by rw [row_cell hrk]; rfl
        have cx0 : X.cell? ⟨N, 0, none⟩ = some (.int .u8 1) := (HBX.out.cell (p := ⟨N, 0, none⟩) lN).trans c0
        have cx1 : X.cell? ⟨N, 1, none⟩ = some (.string (baOf o.v)) := (HBX.out.cell (p := ⟨N, 1, none⟩) lN).trans c1
        have cx2 : X.cell? ⟨N, 2, none⟩ = some (.string (baOf o.value)) := (HBX.out.cell (p := ⟨N, 2, none⟩) lN).trans c2
        have dx0 : X.cell? ⟨N + 1, 0, none⟩ = some (.int .i64 (i : Int)) := (HBX.out.cell (p := ⟨N + 1, 0, none⟩) lN1).trans d0
        have dx1 : X.cell? ⟨N + 1, 1, none⟩ = some (.int .i64 (os0.length : Int)) := (HBX.out.cell (p := ⟨N + 1, 1, none⟩) lN1).trans d1
        have lV : hb < V.heap.size := Nat.lt_trans lh2 lN
        have ex2 : X.cell? ⟨hb, 2, none⟩ = some (.map (some wb)) := (HBX.out.cell (p := ⟨hb, 2, none⟩) lV).trans e2
        have lX0 : N < X.heap.size := by omega
        have lX1 : N + 1 < X.heap.size := by omega
        have lX2 : kb < X.heap.size := by omega
        have lX3 : hb < X.heap.size := by omega
        clear hX hrk hxs hkb c0 c1 c2 d0 d1 e2
        cases hct : h.written.contains (o.v, o.value) with
        | true =>
          have HBAD : Hid (addBad init h o = true) := by show _ = _; simp only [addBad, hw, hct, Bool.or_true, Bool.and_true]
          obtain ⟨ii, ee, hfe, kk, hmem⟩ := hwf.1 hct
          obtain ⟨pi, ix, hee, hpi, hix⟩ := HSV.out.ids _ hmem
          dsimp only at hee
          subst hee
          rw [hfe] at HLK
          simp only [Option.map_some, Option.getD_some, Option.isSome_some] at HLK
          have HLX : Hid (X.heap.size = X.heap.size ∧ ∀ W', Below V.heap.size V W' → (Instr.lookup 41 (.map (some wb)) (.agg #[.string (baOf o.v), .string (baOf o.value)]) true).run Tryz.prog W' = .ok (.tuple #[.agg #[.int .i64 (pi : Int), .int .i64 (ix : Int)], .bool true]) W') := ⟨rfl, HLK.out⟩
          have HNM2 := hide (fun (W' : World) (hb' : Below V.heap.size V W') => name_spec B hb wb (baOf init) _ _ _ L E W' (HSV.out.keepT (show KeepsT B [] [] V W' from KeepsT.of_below hb' (Nat.le_refl _)) (by simp) (by simp)) pi ix hpi hix)
          have hlkX := HLK.out X.drew HBX.out.drew
          clear hwf hct hfe hmem hpi hix
          go_region_held3 (fun w' => w'.cell? ⟨hb, 2, none⟩ = some (.map (some wb)) ∧ w'.cell? ⟨kb, 0, none⟩ = some (.string (baOf o.v)) ∧ w'.cell? ⟨kb, 1, none⟩ = some (.string (baOf o.value)) ∧ (Instr.lookup 41 (.map (some wb)) (.agg #[.string (baOf o.v), .string (baOf o.value)]) true).run Tryz.prog w' = .ok (.tuple #[.agg #[.int .i64 (pi : Int), .int .i64 (ix : Int)], .bool true]) w')
            (first
              | (go_split_ands
                 refine ⟨by go_keep, by go_keep, by go_keep, ?_⟩
                 first | assumption | exact HLX.out.2 _ HBX.out.drew | exact HLX.out.2 _ (HBX.out.alloc HBX.out.size _).drew))
            (fail)
          all_goals
            have hYf := heap_alloc_new X (.cells #[.int .i64 (pi : Int), .int .i64 (ix : Int)] 118)
            have HBY : Hid (Below V.heap.size V (X.alloc (.cells #[.int .i64 (pi : Int), .int .i64 (ix : Int)] 118)).drew) := (HBX.out.alloc HBX.out.size _).drew
            obtain ⟨fb, hfb⟩ : ∃ fb, X.heap.size = fb := ⟨_, rfl⟩
            rw [hfb] at hYf ⊢
            obtain ⟨Y, hY⟩ : ∃ Y, (X.alloc (.cells #[.int .i64 (pi : Int), .int .i64 (ix : Int)] 118)).drew = Y := ⟨_, rfl⟩
            have hYf' : Y.heap[fb]? = some (.cells #[.int .i64 (pi : Int), .int .i64 (ix : Int)] 118 (0, 0)) := by rw [← hY]; exact hYf
            have hBXY : Below X.heap.size X Y := by rw [← hY]; exact ((Below.refl X.heap.size X).alloc (Nat.le_refl _) _).drew
            rw [hY] at HBY ⊢
            have y0 : Y.cell? ⟨fb, 0, none⟩ = some (.int .i64 (pi : Int)) := by rw [row_cell hYf']; rfl
            have y1 : Y.cell? ⟨fb, 1, none⟩ = some (.int .i64 (ix : Int)) := by rw [row_cell hYf']; rfl
            have cy0 : Y.cell? ⟨N, 0, none⟩ = some (.int .u8 1) := (hBXY.cell (p := ⟨N, 0, none⟩) lX0).trans cx0
            have cy1 : Y.cell? ⟨N, 1, none⟩ = some (.string (baOf o.v)) := (hBXY.cell (p := ⟨N, 1, none⟩) lX0).trans cx1
            have cy2 : Y.cell? ⟨N, 2, none⟩ = some (.string (baOf o.value)) := (hBXY.cell (p := ⟨N, 2, none⟩) lX0).trans cx2
            have dy0 : Y.cell? ⟨N + 1, 0, none⟩ = some (.int .i64 (i : Int)) := (hBXY.cell (p := ⟨N + 1, 0, none⟩) lX1).trans dx0
            have dy1 : Y.cell? ⟨N + 1, 1, none⟩ = some (.int .i64 (os0.length : Int)) := (hBXY.cell (p := ⟨N + 1, 1, none⟩) lX1).trans dx1
            have lY0 : N < Y.heap.size := Nat.lt_of_lt_of_le lX0 hBXY.size
            have lY1 : N + 1 < Y.heap.size := Nat.lt_of_lt_of_le lX1 hBXY.size
            have lYf := lt_of_get hYf'
            have hbY : Below Y.heap.size Y Y := Below.refl _ _
            clear hY hYf hYf' hBXY hfb hlkX ex2 x0 x1 cx0 cx1 cx2 dx0 dx1
            go_wp2_with fail
            go_region_held3 (fun w' => w'.cell? ⟨N, 0, none⟩ = some (.int .u8 1) ∧ w'.cell? ⟨N, 1, none⟩ = some (.string (baOf o.v)) ∧ w'.cell? ⟨N, 2, none⟩ = some (.string (baOf o.value)) ∧ w'.cell? ⟨N + 1, 0, none⟩ = some (.int .i64 (i : Int)) ∧ w'.cell? ⟨N + 1, 1, none⟩ = some (.int .i64 (os0.length : Int)) ∧ w'.cell? ⟨fb, 0, none⟩ = some (.int .i64 (pi : Int)) ∧ w'.cell? ⟨fb, 1, none⟩ = some (.int .i64 (ix : Int)))
              (first
                | (go_split_ands
                   refine ⟨?_, ?_, ?_, ?_, ?_, ?_, ?_⟩
                   · (rw [hbn.cell (p := ⟨N, 0, none⟩) lY0]; assumption)
                   · (rw [hbn.cell (p := ⟨N, 1, none⟩) lY0]; assumption)
                   · (rw [hbn.cell (p := ⟨N, 2, none⟩) lY0]; assumption)
                   · (rw [hbn.cell (p := ⟨N + 1, 0, none⟩) lY1]; assumption)
                   · (rw [hbn.cell (p := ⟨N + 1, 1, none⟩) lY1]; assumption)
                   · (rw [hbn.cell (p := ⟨fb, 0, none⟩) lYf]; assumption)
                   · (rw [hbn.cell (p := ⟨fb, 1, none⟩) lYf]; assumption))
                | go_keep)
              (first
                | (go_at_call_of 60 os0; refine (HNM.out _ HBY.out.drew).mono ?_; rintro x wn ⟨⟨sn, rfl⟩, hbn'⟩; have hbn : Below Y.heap.size Y wn := ⟨hbn'.os, hbn'.tape, hbn'.output, hbn'.size, hbn'.block⟩)
                | (go_at_call_of 60 pi; refine (HNM2.out _ (HBY.out.trans (hbn.mono HBY.out.size))).mono ?_; rintro x wm ⟨⟨sm, rfl⟩, hbm⟩; have hbn : Below Y.heap.size Y wm := hbn.trans (hbm.mono hbn.size))
                | (go_at_call 59; refine (errorf_ag _ sn (baOf o.v) (baOf o.value) sm (baOf o.v) (baOf o.value) 1 _ hsv hsu (by simp) (by simp) (by simp) (by simp) (by simp)).mono ?_; rintro x we ⟨eb, se, rfl, hre, hle, hbe⟩; have hbn : Below Y.heap.size Y we := (hbn.alloc hbn.size _).trans (hbe.mono (by rw [World.size_alloc]; have := hbn.size; omega))))
            go_wp2
            go_ret
            exact HFIN.out _ _ ⟨eb, se, rfl, hre⟩ (HBV.out.trans ((HBY.out.trans (hbn.mono HBY.out.size)).mono HBV.out.size)) HBAD.out
        | false =>
          have HBF : Hid (addBad init h o = false) := by
            show _ = _
            have : (o.value == init) = false := by simpa using HVI.out
            simp only [addBad, hw, hct, this, Bool.or_false, Bool.and_false]
          have hfn := hwf.2 hct
          rw [hfn] at HLK
          simp only [Option.map_none, Option.getD_none, Option.isSome_none] at HLK
          have HFN := hide hfn
          have hlkX := HLK.out X.drew HBX.out.drew
          clear hwf hct hfn
          go_region_held3 (fun w' => w'.cell? ⟨hb, 2, none⟩ = some (.map (some wb)) ∧ w'.cell? ⟨kb, 0, none⟩ = some (.string (baOf o.v)) ∧ w'.cell? ⟨kb, 1, none⟩ = some (.string (baOf o.value)) ∧ (Instr.lookup 41 (.map (some wb)) (.agg #[.string (baOf o.v), .string (baOf o.value)]) true).run Tryz.prog w' = .ok (.tuple #[.agg #[.int .i64 0, .int .i64 0], .bool false]) w')
            (first
              | (go_split_ands
                 refine ⟨by go_keep, by go_keep, by go_keep, ?_⟩
                 first | assumption | exact HLK.out _ HBX.out.drew | exact HLK.out _ (HBX.out.alloc HBX.out.size _).drew))
            (fail)
          all_goals
            have HBY : Hid (Below V.heap.size V (X.alloc (.cells #[.int .i64 0, .int .i64 0] 118)).drew) := (HBX.out.alloc HBX.out.size _).drew
            obtain ⟨Y, hY⟩ : ∃ Y, (X.alloc (.cells #[.int .i64 0, .int .i64 0] 118)).drew = Y := ⟨_, rfl⟩
            have hBXY : Below X.heap.size X Y := by rw [← hY]; exact ((Below.refl X.heap.size X).alloc (Nat.le_refl _) _).drew
            rw [hY] at HBY ⊢
            have y0 : Y.cell? ⟨kb, 0, none⟩ = some (.string (baOf o.v)) := (hBXY.cell (p := ⟨kb, 0, none⟩) lX2).trans x0
            have y1 : Y.cell? ⟨kb, 1, none⟩ = some (.string (baOf o.value)) := (hBXY.cell (p := ⟨kb, 1, none⟩) lX2).trans x1
            have dy0 : Y.cell? ⟨N + 1, 0, none⟩ = some (.int .i64 (i : Int)) := (hBXY.cell (p := ⟨N + 1, 0, none⟩) lX1).trans dx0
            have dy1 : Y.cell? ⟨N + 1, 1, none⟩ = some (.int .i64 (os0.length : Int)) := (hBXY.cell (p := ⟨N + 1, 1, none⟩) lX1).trans dx1
            have ey2 : Y.cell? ⟨hb, 2, none⟩ = some (.map (some wb)) := (hBXY.cell (p := ⟨hb, 2, none⟩) lX3).trans ex2
            have lY1 : N + 1 < Y.drew.heap.size := Nat.lt_of_lt_of_le lX1 hBXY.size
            have lY2 : kb < Y.drew.heap.size := Nat.lt_of_lt_of_le lX2 hBXY.size
            have lY3 : hb < Y.drew.heap.size := Nat.lt_of_lt_of_le lX3 hBXY.size
            have kVY : KeepsT B [] [] V Y.drew := KeepsT.of_below HBY.out.drew (Nat.le_refl _)
            have HSY := hide (HSV.out.keepT kVY (by simp) (by simp))
            obtain ⟨w3, hmu, hm3, hg3⟩ := updateK HSY.out.writes (baOf o.v, baOf o.value) (.agg #[.int .i64 (i : Int), .int .i64 (os0.length : Int)]) HFN.out
            simp only [keyV] at hmu
            have hS3 := HSY.out.writes_set hm3 hg3 (fun e he => by
              rcases List.mem_append.1 he with he | he
              · exact HSY.out.ids e he
              · rw [List.mem_singleton] at he
                subst he
                exact ⟨i, os0.length, rfl, by rw [List.length_map]; exact hi, by omega⟩)
            obtain ⟨om, hom1, hom2⟩ := HSY.out.writes.obj
            have k3 : KeepsT B [] [wb] Y.drew w3 := KeepsT.mapped hg3 hom1 hom2 (by simp) HSY.out.base.2
            have z0 := k3.cell (show Y.drew.cell? ⟨kb, 0, none⟩ = _ from y0)
            have z1 := k3.cell (show Y.drew.cell? ⟨kb, 1, none⟩ = _ from y1)
            have z2 := k3.cell (show Y.drew.cell? ⟨N + 1, 0, none⟩ = _ from dy0)
            have z3 := k3.cell (show Y.drew.cell? ⟨N + 1, 1, none⟩ = _ from dy1)
            have z4 := k3.cell (show Y.drew.cell? ⟨hb, 2, none⟩ = _ from ey2)
            have HMEET : Hid (addBad init h o = false ∧ w3.heap[N]? = some (.cells #[.int .u8 1, .string (baOf o.v), .string (baOf o.value)] 71 (0, 0)) ∧ (∃ E', HSt B w3 hb wb (baOf init) (.slice (some ⟨pg, 0, none⟩) h.procs.length pcap) (h.procs.map (·.1)) (h.procs.map (·.2)) L E' ∧ E'.map (·.1) = wkOf (addOp h i o).written) ∧ KeepsT B gTs [wb] w w3) := by
              refine ⟨HBF.out, k3.cells _ _ _ _ (kVY.cells _ _ _ _ HV0r.out (by simp)) (by simp), ⟨_, hS3, ?_⟩, (HK0.out.trans (HKV.out.mono (by simp) (by simp))).trans ((kVY.mono (by simp) (by simp)).trans (k3.mono (by simp) (by simp)))⟩
              rw [List.map_append, HE.out]
              simp [addOp, hw, wkOf]
            clear hY hBXY hlkX ex2 x0 x1 cx0 cx1 cx2 dx0 dx1 hm3 hg3 hS3 hom1 hom2 k3 kVY
            go_wp2_with fail
            go_region_held3 (fun w' => w'.cell? ⟨hb, 2, none⟩ = some (.map (some wb)) ∧ w'.cell? ⟨kb, 0, none⟩ = some (.string (baOf o.v)) ∧ w'.cell? ⟨kb, 1, none⟩ = some (.string (baOf o.value)) ∧ w'.cell? ⟨N + 1, 0, none⟩ = some (.int .i64 (i : Int)) ∧ w'.cell? ⟨N + 1, 1, none⟩ = some (.int .i64 (os0.length : Int)))
              (first
                | (refine ⟨?_, ?_, ?_, ?_, ?_⟩ <;> assumption)
                | go_keep)
              (fail)
            go_wp2
            go_meet
            exact HMEET.out
  case rest =>
    obtain ⟨hbf, hrN, ⟨E', hS1, hE1⟩, hK1⟩ := hcut
    have HBF := hide hbf
    have HK1 := hide hK1
    have HE1 := hide hE1
    have hv0 := HV0.out
    have hos0 := HOS0.out
    have hevs := hS1.each i _ os0 hv0 hos0
    have hgt := pRow_get hS1.len.2 HX0.out hv0
    have q1 : wc.cell? ⟨hb, 1, none⟩ = some (.slice (some ⟨pg, 0, none⟩) h.procs.length pcap) := by rw [row_cell hS1.row]; rfl
    have q2 := (ownsRow_cell hS1.procs (g := pg) rfl hgt.2).1
    have q3 := (ownsRow_cell hS1.procs (g := pg) rfl hgt.2).2
    have r0 : wc.cell? ⟨N, 0, none⟩ = some (.int .u8 kd) := by rw [row_cell hrN]; rfl
    have r1 : wc.cell? ⟨N, 1, none⟩ = some (.string (baOf o.v)) := by rw [row_cell hrN]; rfl
    have r2 : wc.cell? ⟨N, 2, none⟩ = some (.string (baOf o.value)) := by rw [row_cell hrN]; rfl
    have lm := lt_of_get hS1.row
    have lo := World.block_lt_of_cell? wc _ q2
    have lb := lt_of_get hrN
    obtain ⟨i70, hi70, hz700, hz701, hz702⟩ := info_parts (show (Tryz.prog.info? 71).map (fun i => (i.zero, i.size, i.bytes)) = some (some (.agg #[.int .u8 0, .string ⟨#[]⟩, .string ⟨#[]⟩]), 3, 40) by kernel_rfl)
    have hmax : os0.length + 1 ≤ maxLen := by simp [maxLen]; omega
    have hby : (os0.length + 1) * 40 ≤ 140737488355328 := by omega
    have HEV := hide ((hevs.alloc (.cells #[.int .u8 kd, .string (baOf o.v), .string (baOf o.value)] 71)).drew)
    have HNW3 := hide (World.news_of_block (w := (wc.alloc (.cells #[.int .u8 kd, .string (baOf o.v), .string (baOf o.value)] 71)).drew) (B := wc.heap.size) (cs := #[.int .u8 kd, .string (baOf o.v), .string (baOf o.value)]) (t := 71) (fr := (0, 0)) (heap_alloc_new wc _))
    have HB3 : Hid (B ≤ (wc.alloc (.cells #[.int .u8 kd, .string (baOf o.v), .string (baOf o.value)] 71)).drew.heap.size) := by show B ≤ (wc.alloc _).heap.size; rw [World.size_alloc]; have := hS1.base.1; omega
    have hsA := hS1.keepT (KeepsT.refl B [] [] wc |>.alloc (.cells #[.int .u8 kd, .string (baOf o.v), .string (baOf o.value)] 71) |>.drew) (by simp) (by simp)
    have HFAR : Hid (∀ w1, (wc.alloc (.cells #[.int .u8 kd, .string (baOf o.v), .string (baOf o.value)] 71)).drew.grownBy w1 (Value.slice lv0 os0.length cv0).ownBlock → w1.cell? ⟨pg, i * 2 + 1, none⟩ = some (.slice lv0 os0.length cv0) ∧ w1.frozen? ⟨pg, i * 2 + 1, none⟩ = false ∧ w1.cell? ⟨hb, 1, none⟩ = some (.slice (some ⟨pg, 0, none⟩) h.procs.length pcap)) := fun w1 hgrow => by
      have kA := hsA.ekeep hv0 hos0 hgrow
      have hq := ownsRow_cell (ownsRow_keepsT hsA.procs kA (by simp)) (g := pg) rfl hgt.2
      exact ⟨hq.1, hq.2, by rw [row_cell (kA.cells _ _ _ _ hsA.row (by simp))]; rfl⟩
    have HEND : Hid (∀ gg gcap w1, w1.ownsRow B 71 3 (.slice (some ⟨gg, 0, none⟩) (os0.length + 1) gcap) (os0.length + 1) (os0.flatMap gCells ++ gCells o) → (wc.alloc (.cells #[.int .u8 kd, .string (baOf o.v), .string (baOf o.value)] 71)).drew.grownBy w1 (Value.slice lv0 os0.length cv0).ownBlock → ((Value.slice lv0 os0.length cv0).ownBlock = some gg ∨ gg = wc.heap.size + 1) →
        GOk B (w1.setCell ⟨pg, i * 2 + 1, none⟩ (.slice (some ⟨gg, 0, none⟩) (os0.length + 1) gcap)) hb wb init (addOp h i o) ∧ KeepsT B gTs [wb] w (w1.setCell ⟨pg, i * 2 + 1, none⟩ (.slice (some ⟨gg, 0, none⟩) (os0.length + 1) gcap))) := fun gg gcap w1 hown1 hgrow hat => by
      have kA := hsA.ekeep hv0 hos0 hgrow
      have hsz : (wc.alloc (.cells #[.int .u8 kd, .string (baOf o.v), .string (baOf o.value)] 71)).drew.heap.size = wc.heap.size + 1 := World.size_alloc _ _
      have hfin := hsA.ops_add hv0 hos0 (pg := pg) rfl hown1 hgrow (fun g hg => by
        have : gg = g := Option.some.inj hg
        subst this
        rcases hat with h | h
        · exact Or.inl h
        · right; rw [hsz]; omega)
      obtain ⟨ogc, hogc, hogb⟩ := ownsRow_own (ownsRow_keepsT hsA.procs kA (by simp)) (g := pg) rfl
      refine ⟨?_, (((HK1.out.alloc _).drew).trans (kA.mono (by simp) (by simp))).setCell hogc (by simp) hogb _⟩
      unfold GOk
      rw [addOp_names, addOp_ops h i o os0 hos0]
      exact ⟨_, _, _, hfin, HE1.out⟩
    have HGC : Hid (gCells o = [.int .u8 kd, .string (baOf o.v), .string (baOf o.value)]) := by show _ = _; rw [gCells, HKD.out]
    rw [HGC.out] at HEND
    clear hbf hrN hS1 hE1 hK1 hv0 hos0 hevs hgt hsA HFIN
    go_wp2_with fail
    go_cut [] (fun w' => GOk B w' hb wb init (addOp h i o) ∧ KeepsT B gTs [wb] w w')
    case first =>
      go_region_law (refine step_append_lies _ (by rfl) (.tmp 94) (.tmp 96) 44 (by rfl) B 71 i70 (.agg #[.int .u8 0, .string ⟨#[]⟩, .string ⟨#[]⟩]) 3 40 Tryz.underlying44 hi70 hz700 hz701 hz702 rfl (by omega) (.slice lv0 os0.length cv0) os0.length (os0.flatMap gCells) (by rfl) HEV.out ⟨wc.heap.size, 0, none⟩ 1 1 [.int .u8 kd, .string (baOf o.v), .string (baOf o.value)] (by rfl) (by rfl) HNW3.out (by simp [Value.oneCell']) (by omega) hmax hby HB3.out (wc.heap.size + 1) (by simp) ?_; intro gg gcap w1 hown1 hgrow hat hlt1; obtain ⟨g1, g2, g3⟩ := HFAR.out w1 hgrow)
      all_goals
        go_wp2
        go_meet
        exact HEND.out _ _ _ hown1 hgrow hat
    case rest =>
      obtain ⟨hg, hk⟩ := hcut
      go_wp2
      go_ret
      exact ⟨fun hb => absurd (HBF.out.symm.trans hb) (by decide), fun _ => ⟨rfl, hg⟩, hk⟩

end Go.Proofs.Qxb6605907aGreatFmt
