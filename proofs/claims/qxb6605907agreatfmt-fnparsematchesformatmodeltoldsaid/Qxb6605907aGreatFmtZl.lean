import Derived.Test.Qxb6605907aGreatFmtZi
import Derived.Test.Qxb6605907aGreatFmtScn3
import Derived.Test.Qxb6605907aGreatFmtZo
import Derived.Test.Qxb6605907aGreatFmtPp
namespace Go.Proofs.Qxb6605907aGreatFmt
open Go.RowKit

theorem below_drewN (w : World) (n : Nat) : Below w.heap.size w (w.drewN n) := ⟨rfl, rfl, rfl, Nat.le_refl _, fun _ _ => rfl⟩

theorem blankRN_byte (b : UInt8) : blankRN b.toNat = blankB b := by
  simp only [blankRN, blankB]
  have h1 : (b == 32) = decide (b.toNat = 32) := by
    rw [Bool.eq_iff_iff]; simp [← UInt8.toNat_inj]
  have h2 : (b == 9) = decide (b.toNat = 9) := by
    rw [Bool.eq_iff_iff]; simp [← UInt8.toNat_inj]
  rw [h1, h2]

theorem lineP_none (s : PS) (l : List UInt8) (h : iniLine l = none) :
    lineP s l = if (Lib.cut l [58]).2.2 && isName (Lib.cut l [58]).1 then ({ s with st := true, h := (procP s.init s.h (Lib.cut l [58]).1 (Lib.cut l [58]).2.1).1 }, (procP s.init s.h (Lib.cut l [58]).1 (Lib.cut l [58]).2.1).2) else (s, false) := by
  simp only [lineP, h]
theorem lineP_some (s : PS) (l tok : List UInt8) (h : iniLine l = some tok) : lineP s l = iniP s tok := by
  simp only [lineP, h, iniP]

set_option maxRecDepth 100000 in
set_option maxHeartbeats 4000000 in
theorem parseLine_spec (W0 : World) (EV : EnvF W0) (pb sc hb mb wb c : Nat) (file : ByteArray) (line : Int) (ini st : Bool) (init l : List UInt8) (h : HP) (w : World) (hl : Low W0 w)
    (hP : POk W0.heap.size w pb sc hb mb wb file line ini st init h) (hO : HOk h c) (hc : c + l.length + 1 ≤ 2097152) (hll : l.length ≤ 1048577) :
    Calls Tryz.prog 29 #[.pointer (some ⟨pb, 0, none⟩), .string (baOf l)] w fun e w' => LineOut W0 w pb sc hb mb wb file line (lineP ⟨init, ini, st, h⟩ l) e w' := by
  have p0 : w.cell? ⟨pb, 0, none⟩ = some (.pointer (some ⟨sc, 0, none⟩)) := by rw [row_cell hP.1.prow]; rfl
  have lpb := lt_of_get hP.1.prow
  have HP := hide hP
  have HEV := hide EV
  have HL := hide hl
  have HO := hide hO
  obtain ⟨mx, hmx⟩ := EV.maxAt hl
  have HMX := hide hmx
  obtain ⟨v1, v3, v4, v5, hs⟩ := hP.1.srow
  have HS := hide hs
  have bad : ∀ (e : Ending) (w' : World) (eb : Nat) (s : ByteArray), e = .returned (.pointer (some ⟨eb, 0, none⟩)) → w'.heap[eb]? = some (.cells #[.string file, .int .i64 line, .string s] 31 (0, 0)) → Below w.heap.size w w' → lineP ⟨init, ini, st, h⟩ l = (⟨init, ini, st, h⟩, false) → LineOut W0 w pb sc hb mb wb file line (lineP ⟨init, ini, st, h⟩ l) e w' := by
    intro e w' eb s he hr hb hi
    rw [hi]
    exact ⟨fun e => (by cases e), fun _ => ⟨eb, s, he, hr⟩, HP.out.below hb, KeepsT.of_below hb (Nat.le_refl _)⟩
  have BAD := hide bad
  have HLN := hide (fun hi => lineP_none ⟨init, ini, st, h⟩ l hi)
  have HQA := hide (Any.strings_CutPrefix Tryz.lays103 (baOf l) ⟨iniBytes.toArray⟩ w)
  rw [baOf_data] at HQA
  change Hid (Calls Tryz.prog 47 #[.string (baOf l), .string ⟨#[105, 110, 105, 116, 105, 97, 108]⟩] w fun e w' => e = .returned (.tuple #[.string (baOf (Lib.trimPrefix l iniBytes)), .bool (Lib.hasPrefix l iniBytes)]) ∧ w' = w) at HQA
  clear bad hP EV hl hs hmx hO
  cases hpf : Lib.hasPrefix l iniBytes with
  | false =>
    have IL : Hid (iniLine l = none) := by simp [Hid, iniLine, hpf]
    rw [hpf] at HQA
    clear hpf
    obtain ⟨rs, hrs⟩ : ∃ rs, Lib.trimPrefix l iniBytes = rs := ⟨_, rfl⟩
    rw [hrs] at HQA
    clear hrs
    go_enter Tryz.func29, Tryz.ntmps29
    go_upto_region 4 with (go_at_call 47; refine HQA.out.mono ?_; rintro e wa ⟨rfl, e1⟩; replace e1 := e1.symm; subst e1)
    have HC := hide (Any.strings_Cut Tryz.lays145 (baOf l) ⟨#[58]⟩ mx w (by rw [baOf_size]; omega) HMX.out)
    rw [baOf_data] at HC
    change Hid (Calls Tryz.prog 49 #[.string (baOf l), .string ⟨#[58]⟩] w fun e w' => e = .returned (.tuple #[.string (baOf (Lib.cut l [58]).1), .string (baOf (Lib.cut l [58]).2.1), .bool (Lib.cut l [58]).2.2]) ∧ ∃ n, w' = w.drewN n) at HC
    have HLP0 := HLN.out IL.out
    have hle := cut_len l
    obtain ⟨cc, hcc⟩ : ∃ cc, Lib.cut l [58] = cc := ⟨_, rfl⟩
    rw [hcc] at HC HLP0 hle
    clear hcc
    obtain ⟨cv, cu, cb⟩ := cc
    dsimp only at HC HLP0 hle
    cases cb with
    | false =>
      have HLP : Hid (lineP ⟨init, ini, st, h⟩ l = (⟨init, ini, st, h⟩, false)) := hide (HLP0.trans (by simp))
      clear HLP0
      go_upto_region 6 with (go_at_call 49; refine HC.out.mono ?_; rintro e w5 ⟨rfl, n, e5⟩; have hb5 : Below w.heap.size w w5 := (by rw [e5]; exact below_drewN w n); clear e5)
      have q0 : w5.cell? ⟨pb, 0, none⟩ = some (.pointer (some ⟨sc, 0, none⟩)) := by rw [row_cell (HP.out.below hb5).1.prow]; rfl
      have lpb5 : pb < w5.heap.size := Nat.lt_of_lt_of_le lpb hb5.size
      have HQ := hide (fun (W' : World) (hb' : Below w.heap.size w W') => quote_spec W0 HEV.out (baOf l) W' (HL.out.below hb') (by rw [baOf_size]; exact hll))
      go_region_held3 (fun w' => w'.cell? ⟨pb, 0, none⟩ = some (.pointer (some ⟨sc, 0, none⟩)))
        (first
          | go_keep
          | exact c7
          | (rw [hb6.cell (p := ⟨pb, 0, none⟩) lpb5]; first | assumption | go_keep))
        (first
          | (go_at_call 40; refine (HQ.out _ (by first | exact hb5 | exact hb5.drew)).mono ?_; rintro e w6 ⟨⟨q, rfl⟩, hb6⟩
             have hb56 : Below w.heap.size w w6 := hb5.drew.trans (hb6.mono hb5.size)
             have lpb6 : pb < w6.heap.size := Nat.lt_of_lt_of_le lpb hb56.size
             have lsc6 : sc < w6.heap.size := Nat.lt_of_lt_of_le (lt_of_get HS.out) hb56.size
             have HS6 := hide ((hb56.block sc (lt_of_get HS.out)).trans HS.out))
          | (go_at_call 39; refine (errorf_wa sc file v1 v3 v4 v5 line _ q _ (by rw [Below.heap_alloc _ _ _ lsc6]; exact HS6.out) (by simp)).mono ?_; rintro e w7 ⟨eb, s, rfl, hr, _, hb7⟩
             have hb57 : Below w.heap.size w w7 := (hb56.alloc hb56.size _).trans (hb7.mono (by rw [World.size_alloc]; exact Nat.le_succ_of_le hb56.size))
             have c7 := (hb57.cell (p := ⟨pb, 0, none⟩) lpb).trans p0))
      go_wp2
      go_ret
      exact BAD.out _ _ eb s rfl hr hb57 HLP.out

    | true =>
      have HIN := hide (fun (W' : World) => isName_spec (baOf cv) W')
      rw [baOf_data] at HIN
      cases hn : isName cv with
      | false =>
        rw [hn] at HIN
        have HLP : Hid (lineP ⟨init, ini, st, h⟩ l = (⟨init, ini, st, h⟩, false)) := hide (HLP0.trans (by simp [hn]))
        clear HLP0
        go_upto_region 6 with first | (go_at_call 49; refine HC.out.mono ?_; rintro e w4 ⟨rfl, n, e5⟩; have hb4 : Below w.heap.size w w4 := (by rw [e5]; exact below_drewN w n); clear e5) | (go_at_call 50; refine (HIN.out _).mono ?_; rintro e w5 ⟨rfl, hb5'⟩; have hb5 : Below w.heap.size w w5 := hb4.trans (hb5'.mono hb4.size))
        have q0 : w5.cell? ⟨pb, 0, none⟩ = some (.pointer (some ⟨sc, 0, none⟩)) := by rw [row_cell (HP.out.below hb5).1.prow]; rfl
        have lpb5 : pb < w5.heap.size := Nat.lt_of_lt_of_le lpb hb5.size
        have HQ := hide (fun (W' : World) (hb' : Below w.heap.size w W') => quote_spec W0 HEV.out (baOf l) W' (HL.out.below hb') (by rw [baOf_size]; exact hll))
        go_region_held3 (fun w' => w'.cell? ⟨pb, 0, none⟩ = some (.pointer (some ⟨sc, 0, none⟩)))
          (first
            | go_keep
            | exact c7
            | (rw [hb6.cell (p := ⟨pb, 0, none⟩) lpb5]; first | assumption | go_keep))
          (first
            | (go_at_call 40; refine (HQ.out _ (by first | exact hb5 | exact hb5.drew)).mono ?_; rintro e w6 ⟨⟨q, rfl⟩, hb6⟩
               have hb56 : Below w.heap.size w w6 := hb5.drew.trans (hb6.mono hb5.size)
               have lpb6 : pb < w6.heap.size := Nat.lt_of_lt_of_le lpb hb56.size
               have lsc6 : sc < w6.heap.size := Nat.lt_of_lt_of_le (lt_of_get HS.out) hb56.size
               have HS6 := hide ((hb56.block sc (lt_of_get HS.out)).trans HS.out))
            | (go_at_call 39; refine (errorf_wa sc file v1 v3 v4 v5 line _ q _ (by rw [Below.heap_alloc _ _ _ lsc6]; exact HS6.out) (by simp)).mono ?_; rintro e w7 ⟨eb, s, rfl, hr, _, hb7⟩
               have hb57 : Below w.heap.size w w7 := (hb56.alloc hb56.size _).trans (hb7.mono (by rw [World.size_alloc]; exact Nat.le_succ_of_le hb56.size))
               have c7 := (hb57.cell (p := ⟨pb, 0, none⟩) lpb).trans p0))
        go_wp2
        go_ret
        exact BAD.out _ _ eb s rfl hr hb57 HLP.out

      | true =>
        rw [hn] at HIN
        have HLP : Hid (lineP ⟨init, ini, st, h⟩ l = (⟨init, ini, true, (procP init h cv cu).1⟩, (procP init h cv cu).2)) := hide (HLP0.trans (by simp [hn]))
        clear HLP0
        go_upto_region 7 with first | (go_at_call 49; refine HC.out.mono ?_; rintro e w4 ⟨rfl, n, e5⟩; have hb4 : Below w.heap.size w w4 := (by rw [e5]; exact below_drewN w n); clear e5) | (go_at_call 50; refine (HIN.out _).mono ?_; rintro e w5 ⟨rfl, hb5'⟩; have hb5 : Below w.heap.size w w5 := hb4.trans (hb5'.mono hb4.size))
        have HPP := hide (parseProc_spec W0 HEV.out pb sc hb mb wb c file line ini st init cv cu h w5 (HL.out.below hb5) (HP.out.below hb5) HO.out (by omega) (by omega))
        clear HQA
        obtain ⟨RR, hRR⟩ : ∃ RR, procP init h cv cu = RR := ⟨_, rfl⟩
        rw [hRR] at HPP HLP
        clear hRR
        obtain ⟨h2, ok⟩ := RR
        dsimp only at HPP HLP
        have HK5 := hide (show KeepsT W0.heap.size pTs [mb, wb] w w5 from KeepsT.of_below hb5 (Nat.le_refl _))
        cases ok with
        | true =>
          go_wp2_with (go_at_call 27; refine HPP.out.mono ?_; rintro e w8 ⟨hE, _, hP8, k8⟩; obtain rfl := hE rfl)
          go_ret
          rw [HLP.out]
          exact ⟨fun _ => rfl, fun e => (by cases e), hP8, HK5.out.trans k8⟩
        | false =>
          go_wp2_with (go_at_call 27; refine HPP.out.mono ?_; rintro e w8 ⟨_, hE, hP8, k8⟩; obtain ⟨eb, s, rfl, hr⟩ := hE rfl)
          go_ret
          rw [HLP.out]
          exact ⟨fun e => (by cases e), fun _ => ⟨eb, s, rfl, hr⟩, hP8, HK5.out.trans k8⟩

  | true =>
    have htp : Lib.trimPrefix l iniBytes = l.drop 7 := by rw [Lib.trimPrefix, hpf]; rfl
    rw [hpf, htp] at HQA
    cases hrs : l.drop 7 with
    | nil =>
      rw [hrs] at HQA
      have IL : Hid (iniLine l = none) := by simp [Hid, iniLine, hrs]
      have hem : (baOf ([] : List UInt8)).toList.isEmpty = true := emptyL _ (baOf_data [])
      clear hrs htp hpf
      go_enter Tryz.func29, Tryz.ntmps29
      go_upto_region 4 with (go_at_call 47; refine HQA.out.mono ?_; rintro e wa ⟨rfl, e1⟩; replace e1 := e1.symm; subst e1)
      have HC := hide (Any.strings_Cut Tryz.lays145 (baOf l) ⟨#[58]⟩ mx w (by rw [baOf_size]; omega) HMX.out)
      rw [baOf_data] at HC
      change Hid (Calls Tryz.prog 49 #[.string (baOf l), .string ⟨#[58]⟩] w fun e w' => e = .returned (.tuple #[.string (baOf (Lib.cut l [58]).1), .string (baOf (Lib.cut l [58]).2.1), .bool (Lib.cut l [58]).2.2]) ∧ ∃ n, w' = w.drewN n) at HC
      have HLP0 := HLN.out IL.out
      have hle := cut_len l
      obtain ⟨cc, hcc⟩ : ∃ cc, Lib.cut l [58] = cc := ⟨_, rfl⟩
      rw [hcc] at HC HLP0 hle
      clear hcc
      obtain ⟨cv, cu, cb⟩ := cc
      dsimp only at HC HLP0 hle
      cases cb with
      | false =>
        have HLP : Hid (lineP ⟨init, ini, st, h⟩ l = (⟨init, ini, st, h⟩, false)) := hide (HLP0.trans (by simp))
        clear HLP0
        go_upto_region 6 with (go_at_call 49; refine HC.out.mono ?_; rintro e w5 ⟨rfl, n, e5⟩; have hb5 : Below w.heap.size w w5 := (by rw [e5]; exact below_drewN w n); clear e5)
        have q0 : w5.cell? ⟨pb, 0, none⟩ = some (.pointer (some ⟨sc, 0, none⟩)) := by rw [row_cell (HP.out.below hb5).1.prow]; rfl
        have lpb5 : pb < w5.heap.size := Nat.lt_of_lt_of_le lpb hb5.size
        have HQ := hide (fun (W' : World) (hb' : Below w.heap.size w W') => quote_spec W0 HEV.out (baOf l) W' (HL.out.below hb') (by rw [baOf_size]; exact hll))
        go_region_held3 (fun w' => w'.cell? ⟨pb, 0, none⟩ = some (.pointer (some ⟨sc, 0, none⟩)))
          (first
            | go_keep
            | exact c7
            | (rw [hb6.cell (p := ⟨pb, 0, none⟩) lpb5]; first | assumption | go_keep))
          (first
            | (go_at_call 40; refine (HQ.out _ (by first | exact hb5 | exact hb5.drew)).mono ?_; rintro e w6 ⟨⟨q, rfl⟩, hb6⟩
               have hb56 : Below w.heap.size w w6 := hb5.drew.trans (hb6.mono hb5.size)
               have lpb6 : pb < w6.heap.size := Nat.lt_of_lt_of_le lpb hb56.size
               have lsc6 : sc < w6.heap.size := Nat.lt_of_lt_of_le (lt_of_get HS.out) hb56.size
               have HS6 := hide ((hb56.block sc (lt_of_get HS.out)).trans HS.out))
            | (go_at_call 39; refine (errorf_wa sc file v1 v3 v4 v5 line _ q _ (by rw [Below.heap_alloc _ _ _ lsc6]; exact HS6.out) (by simp)).mono ?_; rintro e w7 ⟨eb, s, rfl, hr, _, hb7⟩
               have hb57 : Below w.heap.size w w7 := (hb56.alloc hb56.size _).trans (hb7.mono (by rw [World.size_alloc]; exact Nat.le_succ_of_le hb56.size))
               have c7 := (hb57.cell (p := ⟨pb, 0, none⟩) lpb).trans p0))
        go_wp2
        go_ret
        exact BAD.out _ _ eb s rfl hr hb57 HLP.out

      | true =>
        have HIN := hide (fun (W' : World) => isName_spec (baOf cv) W')
        rw [baOf_data] at HIN
        cases hn : isName cv with
        | false =>
          rw [hn] at HIN
          have HLP : Hid (lineP ⟨init, ini, st, h⟩ l = (⟨init, ini, st, h⟩, false)) := hide (HLP0.trans (by simp [hn]))
          clear HLP0
          go_upto_region 6 with first | (go_at_call 49; refine HC.out.mono ?_; rintro e w4 ⟨rfl, n, e5⟩; have hb4 : Below w.heap.size w w4 := (by rw [e5]; exact below_drewN w n); clear e5) | (go_at_call 50; refine (HIN.out _).mono ?_; rintro e w5 ⟨rfl, hb5'⟩; have hb5 : Below w.heap.size w w5 := hb4.trans (hb5'.mono hb4.size))
          have q0 : w5.cell? ⟨pb, 0, none⟩ = some (.pointer (some ⟨sc, 0, none⟩)) := by rw [row_cell (HP.out.below hb5).1.prow]; rfl
          have lpb5 : pb < w5.heap.size := Nat.lt_of_lt_of_le lpb hb5.size
          have HQ := hide (fun (W' : World) (hb' : Below w.heap.size w W') => quote_spec W0 HEV.out (baOf l) W' (HL.out.below hb') (by rw [baOf_size]; exact hll))
          go_region_held3 (fun w' => w'.cell? ⟨pb, 0, none⟩ = some (.pointer (some ⟨sc, 0, none⟩)))
            (first
              | go_keep
              | exact c7
              | (rw [hb6.cell (p := ⟨pb, 0, none⟩) lpb5]; first | assumption | go_keep))
            (first
              | (go_at_call 40; refine (HQ.out _ (by first | exact hb5 | exact hb5.drew)).mono ?_; rintro e w6 ⟨⟨q, rfl⟩, hb6⟩
                 have hb56 : Below w.heap.size w w6 := hb5.drew.trans (hb6.mono hb5.size)
                 have lpb6 : pb < w6.heap.size := Nat.lt_of_lt_of_le lpb hb56.size
                 have lsc6 : sc < w6.heap.size := Nat.lt_of_lt_of_le (lt_of_get HS.out) hb56.size
                 have HS6 := hide ((hb56.block sc (lt_of_get HS.out)).trans HS.out))
              | (go_at_call 39; refine (errorf_wa sc file v1 v3 v4 v5 line _ q _ (by rw [Below.heap_alloc _ _ _ lsc6]; exact HS6.out) (by simp)).mono ?_; rintro e w7 ⟨eb, s, rfl, hr, _, hb7⟩
                 have hb57 : Below w.heap.size w w7 := (hb56.alloc hb56.size _).trans (hb7.mono (by rw [World.size_alloc]; exact Nat.le_succ_of_le hb56.size))
                 have c7 := (hb57.cell (p := ⟨pb, 0, none⟩) lpb).trans p0))
          go_wp2
          go_ret
          exact BAD.out _ _ eb s rfl hr hb57 HLP.out

        | true =>
          rw [hn] at HIN
          have HLP : Hid (lineP ⟨init, ini, st, h⟩ l = (⟨init, ini, true, (procP init h cv cu).1⟩, (procP init h cv cu).2)) := hide (HLP0.trans (by simp [hn]))
          clear HLP0
          go_upto_region 7 with first | (go_at_call 49; refine HC.out.mono ?_; rintro e w4 ⟨rfl, n, e5⟩; have hb4 : Below w.heap.size w w4 := (by rw [e5]; exact below_drewN w n); clear e5) | (go_at_call 50; refine (HIN.out _).mono ?_; rintro e w5 ⟨rfl, hb5'⟩; have hb5 : Below w.heap.size w w5 := hb4.trans (hb5'.mono hb4.size))
          have HPP := hide (parseProc_spec W0 HEV.out pb sc hb mb wb c file line ini st init cv cu h w5 (HL.out.below hb5) (HP.out.below hb5) HO.out (by omega) (by omega))
          clear HQA
          obtain ⟨RR, hRR⟩ : ∃ RR, procP init h cv cu = RR := ⟨_, rfl⟩
          rw [hRR] at HPP HLP
          clear hRR
          obtain ⟨h2, ok⟩ := RR
          dsimp only at HPP HLP
          have HK5 := hide (show KeepsT W0.heap.size pTs [mb, wb] w w5 from KeepsT.of_below hb5 (Nat.le_refl _))
          cases ok with
          | true =>
            go_wp2_with (go_at_call 27; refine HPP.out.mono ?_; rintro e w8 ⟨hE, _, hP8, k8⟩; obtain rfl := hE rfl)
            go_ret
            rw [HLP.out]
            exact ⟨fun _ => rfl, fun e => (by cases e), hP8, HK5.out.trans k8⟩
          | false =>
            go_wp2_with (go_at_call 27; refine HPP.out.mono ?_; rintro e w8 ⟨_, hE, hP8, k8⟩; obtain ⟨eb, s, rfl, hr⟩ := hE rfl)
            go_ret
            rw [HLP.out]
            exact ⟨fun e => (by cases e), fun _ => ⟨eb, s, rfl, hr⟩, hP8, HK5.out.trans k8⟩

    | cons b r =>
      rw [hrs] at HQA
      obtain ⟨y, hy⟩ : ∃ y, baOf (b :: r) = y := ⟨_, rfl⟩
      have hyd : y.data.toList = b :: r := by rw [← hy]; exact baOf_data _
      have hem : y.toList.isEmpty = false := nonemptyL y (by rw [hyd]; simp)
      have hsz : 0 < y.size := by rw [← size_list, hyd]; simp
      have hy0 : y[0] = b := by
        have := getL y 0 hsz
        rw [hyd] at this
        simpa using this.symm
      have hylen : y.size ≤ 1048577 := by
        rw [← size_list, hyd, ← hrs, List.length_drop]; omega
      have hw32 : wrap32 ((y[0].toNat : Nat) : Int) = ((y[0].toNat : Nat) : Int) := IntWalk.wrap32_in _ (by have := y[0].toNat_lt; omega)
      have HBL := hide (isBlank_spec y[0].toNat w)
      rw [hy0, blankRN_byte] at HBL
      rw [hy] at HQA
      cases hbl : blankB b with
      | false =>
        rw [hbl] at HBL
        rw [← hy0] at HBL
        have IL : Hid (iniLine l = none) := by simp [Hid, iniLine, hpf, hrs, hbl]
        clear hrs htp hpf hy0
        go_enter Tryz.func29, Tryz.ntmps29
        go_upto_region 4 with first | (go_at_call 47; refine HQA.out.mono ?_; rintro e wa ⟨rfl, e1⟩; replace e1 := e1.symm; subst e1) | (go_at_call 37; refine HBL.out.mono ?_; rintro e wa ⟨rfl, e1⟩; replace e1 := e1.symm; subst e1)
        have HC := hide (Any.strings_Cut Tryz.lays145 (baOf l) ⟨#[58]⟩ mx w (by rw [baOf_size]; omega) HMX.out)
        rw [baOf_data] at HC
        change Hid (Calls Tryz.prog 49 #[.string (baOf l), .string ⟨#[58]⟩] w fun e w' => e = .returned (.tuple #[.string (baOf (Lib.cut l [58]).1), .string (baOf (Lib.cut l [58]).2.1), .bool (Lib.cut l [58]).2.2]) ∧ ∃ n, w' = w.drewN n) at HC
        have HLP0 := HLN.out IL.out
        have hle := cut_len l
        obtain ⟨cc, hcc⟩ : ∃ cc, Lib.cut l [58] = cc := ⟨_, rfl⟩
        rw [hcc] at HC HLP0 hle
        clear hcc
        obtain ⟨cv, cu, cb⟩ := cc
        dsimp only at HC HLP0 hle
        cases cb with
        | false =>
          have HLP : Hid (lineP ⟨init, ini, st, h⟩ l = (⟨init, ini, st, h⟩, false)) := hide (HLP0.trans (by simp))
          clear HLP0
          go_upto_region 6 with (go_at_call 49; refine HC.out.mono ?_; rintro e w5 ⟨rfl, n, e5⟩; have hb5 : Below w.heap.size w w5 := (by rw [e5]; exact below_drewN w n); clear e5)
          have q0 : w5.cell? ⟨pb, 0, none⟩ = some (.pointer (some ⟨sc, 0, none⟩)) := by rw [row_cell (HP.out.below hb5).1.prow]; rfl
          have lpb5 : pb < w5.heap.size := Nat.lt_of_lt_of_le lpb hb5.size
          have HQ := hide (fun (W' : World) (hb' : Below w.heap.size w W') => quote_spec W0 HEV.out (baOf l) W' (HL.out.below hb') (by rw [baOf_size]; exact hll))
          go_region_held3 (fun w' => w'.cell? ⟨pb, 0, none⟩ = some (.pointer (some ⟨sc, 0, none⟩)))
            (first
              | go_keep
              | exact c7
              | (rw [hb6.cell (p := ⟨pb, 0, none⟩) lpb5]; first | assumption | go_keep))
            (first
              | (go_at_call 40; refine (HQ.out _ (by first | exact hb5 | exact hb5.drew)).mono ?_; rintro e w6 ⟨⟨q, rfl⟩, hb6⟩
                 have hb56 : Below w.heap.size w w6 := hb5.drew.trans (hb6.mono hb5.size)
                 have lpb6 : pb < w6.heap.size := Nat.lt_of_lt_of_le lpb hb56.size
                 have lsc6 : sc < w6.heap.size := Nat.lt_of_lt_of_le (lt_of_get HS.out) hb56.size
                 have HS6 := hide ((hb56.block sc (lt_of_get HS.out)).trans HS.out))
              | (go_at_call 39; refine (errorf_wa sc file v1 v3 v4 v5 line _ q _ (by rw [Below.heap_alloc _ _ _ lsc6]; exact HS6.out) (by simp)).mono ?_; rintro e w7 ⟨eb, s, rfl, hr, _, hb7⟩
                 have hb57 : Below w.heap.size w w7 := (hb56.alloc hb56.size _).trans (hb7.mono (by rw [World.size_alloc]; exact Nat.le_succ_of_le hb56.size))
                 have c7 := (hb57.cell (p := ⟨pb, 0, none⟩) lpb).trans p0))
          go_wp2
          go_ret
          exact BAD.out _ _ eb s rfl hr hb57 HLP.out

        | true =>
          have HIN := hide (fun (W' : World) => isName_spec (baOf cv) W')
          rw [baOf_data] at HIN
          cases hn : isName cv with
          | false =>
            rw [hn] at HIN
            have HLP : Hid (lineP ⟨init, ini, st, h⟩ l = (⟨init, ini, st, h⟩, false)) := hide (HLP0.trans (by simp [hn]))
            clear HLP0
            go_upto_region 6 with first | (go_at_call 49; refine HC.out.mono ?_; rintro e w4 ⟨rfl, n, e5⟩; have hb4 : Below w.heap.size w w4 := (by rw [e5]; exact below_drewN w n); clear e5) | (go_at_call 50; refine (HIN.out _).mono ?_; rintro e w5 ⟨rfl, hb5'⟩; have hb5 : Below w.heap.size w w5 := hb4.trans (hb5'.mono hb4.size))
            have q0 : w5.cell? ⟨pb, 0, none⟩ = some (.pointer (some ⟨sc, 0, none⟩)) := by rw [row_cell (HP.out.below hb5).1.prow]; rfl
            have lpb5 : pb < w5.heap.size := Nat.lt_of_lt_of_le lpb hb5.size
            have HQ := hide (fun (W' : World) (hb' : Below w.heap.size w W') => quote_spec W0 HEV.out (baOf l) W' (HL.out.below hb') (by rw [baOf_size]; exact hll))
            go_region_held3 (fun w' => w'.cell? ⟨pb, 0, none⟩ = some (.pointer (some ⟨sc, 0, none⟩)))
              (first
                | go_keep
                | exact c7
                | (rw [hb6.cell (p := ⟨pb, 0, none⟩) lpb5]; first | assumption | go_keep))
              (first
                | (go_at_call 40; refine (HQ.out _ (by first | exact hb5 | exact hb5.drew)).mono ?_; rintro e w6 ⟨⟨q, rfl⟩, hb6⟩
                   have hb56 : Below w.heap.size w w6 := hb5.drew.trans (hb6.mono hb5.size)
                   have lpb6 : pb < w6.heap.size := Nat.lt_of_lt_of_le lpb hb56.size
                   have lsc6 : sc < w6.heap.size := Nat.lt_of_lt_of_le (lt_of_get HS.out) hb56.size
                   have HS6 := hide ((hb56.block sc (lt_of_get HS.out)).trans HS.out))
                | (go_at_call 39; refine (errorf_wa sc file v1 v3 v4 v5 line _ q _ (by rw [Below.heap_alloc _ _ _ lsc6]; exact HS6.out) (by simp)).mono ?_; rintro e w7 ⟨eb, s, rfl, hr, _, hb7⟩
                   have hb57 : Below w.heap.size w w7 := (hb56.alloc hb56.size _).trans (hb7.mono (by rw [World.size_alloc]; exact Nat.le_succ_of_le hb56.size))
                   have c7 := (hb57.cell (p := ⟨pb, 0, none⟩) lpb).trans p0))
            go_wp2
            go_ret
            exact BAD.out _ _ eb s rfl hr hb57 HLP.out

          | true =>
            rw [hn] at HIN
            have HLP : Hid (lineP ⟨init, ini, st, h⟩ l = (⟨init, ini, true, (procP init h cv cu).1⟩, (procP init h cv cu).2)) := hide (HLP0.trans (by simp [hn]))
            clear HLP0
            go_upto_region 7 with first | (go_at_call 49; refine HC.out.mono ?_; rintro e w4 ⟨rfl, n, e5⟩; have hb4 : Below w.heap.size w w4 := (by rw [e5]; exact below_drewN w n); clear e5) | (go_at_call 50; refine (HIN.out _).mono ?_; rintro e w5 ⟨rfl, hb5'⟩; have hb5 : Below w.heap.size w w5 := hb4.trans (hb5'.mono hb4.size))
            have HPP := hide (parseProc_spec W0 HEV.out pb sc hb mb wb c file line ini st init cv cu h w5 (HL.out.below hb5) (HP.out.below hb5) HO.out (by omega) (by omega))
            clear HQA
            obtain ⟨RR, hRR⟩ : ∃ RR, procP init h cv cu = RR := ⟨_, rfl⟩
            rw [hRR] at HPP HLP
            clear hRR
            obtain ⟨h2, ok⟩ := RR
            dsimp only at HPP HLP
            have HK5 := hide (show KeepsT W0.heap.size pTs [mb, wb] w w5 from KeepsT.of_below hb5 (Nat.le_refl _))
            cases ok with
            | true =>
              go_wp2_with (go_at_call 27; refine HPP.out.mono ?_; rintro e w8 ⟨hE, _, hP8, k8⟩; obtain rfl := hE rfl)
              go_ret
              rw [HLP.out]
              exact ⟨fun _ => rfl, fun e => (by cases e), hP8, HK5.out.trans k8⟩
            | false =>
              go_wp2_with (go_at_call 27; refine HPP.out.mono ?_; rintro e w8 ⟨_, hE, hP8, k8⟩; obtain ⟨eb, s, rfl, hr⟩ := hE rfl)
              go_ret
              rw [HLP.out]
              exact ⟨fun e => (by cases e), fun _ => ⟨eb, s, rfl, hr⟩, hP8, HK5.out.trans k8⟩

      | true =>
        rw [hbl] at HBL
        rw [← hy0] at HBL
        have IL : Hid (iniLine l = some (Sx.trimB (b :: r))) := by simp [Hid, iniLine, hpf, hrs, hbl]
        have HTR := hide (Sx.trimFunc_spec y w hylen (HEV.out.utfAt HL.out))
        rw [hyd] at HTR
        have htl : (Sx.trimB (b :: r)).length ≤ 1048577 := by
          have := trimB_len (b :: r)
          rw [← size_list, hyd] at hylen
          omega
        clear hrs htp hpf hy0
        go_enter Tryz.func29, Tryz.ntmps29
        go_upto_region 3 with first | (go_at_call 47; refine HQA.out.mono ?_; rintro e wa ⟨rfl, e1⟩; replace e1 := e1.symm; subst e1) | (go_at_call 37; refine HBL.out.mono ?_; rintro e wa ⟨rfl, e1⟩; replace e1 := e1.symm; subst e1)
        have HLP := hide (lineP_some ⟨init, ini, st, h⟩ l _ IL.out)
        obtain ⟨tk, htk⟩ : ∃ tk, Sx.trimB (b :: r) = tk := ⟨_, rfl⟩
        rw [htk] at HTR HLP htl
        change Hid (Calls Tryz.prog 46 #[.string y, .func (.func 37) #[] #[]] w fun e w' => e = .returned (.string (baOf tk)) ∧ Below w.heap.size w w') at HTR
        have HPI := hide (fun (W' : World) (hb' : Below w.heap.size w W') => parseInitial_spec W0 HEV.out pb sc hb mb wb file line ini st init tk h W' (HL.out.below hb') (HP.out.below hb') htl)
        clear htk IL
        obtain ⟨RR, hRR⟩ : ∃ RR, iniP ⟨init, ini, st, h⟩ tk = RR := ⟨_, rfl⟩
        rw [hRR] at HPI HLP
        clear hRR
        obtain ⟨s2, ok⟩ := RR
        cases ok with
        | true =>
          go_wp2_with first | (go_at_call 46; refine HTR.out.mono ?_; rintro e w5 ⟨rfl, hb5⟩) | (go_at_call 48; refine (HPI.out _ hb5).mono ?_; rintro e w8 ⟨hE, _, hP8, k8⟩; obtain rfl := hE rfl)
          go_ret
          rw [HLP.out]
          exact ⟨fun _ => rfl, fun e => (by cases e), hP8, (show KeepsT W0.heap.size pTs [mb, wb] w w5 from KeepsT.of_below hb5 (Nat.le_refl _)).trans k8⟩
        | false =>
          go_wp2_with first | (go_at_call 46; refine HTR.out.mono ?_; rintro e w5 ⟨rfl, hb5⟩) | (go_at_call 48; refine (HPI.out _ hb5).mono ?_; rintro e w8 ⟨_, hE, hP8, k8⟩; obtain ⟨eb, s, rfl, hr⟩ := hE rfl)
          go_ret
          rw [HLP.out]
          exact ⟨fun e => (by cases e), fun _ => ⟨eb, s, rfl, hr⟩, hP8, (show KeepsT W0.heap.size pTs [mb, wb] w w5 from KeepsT.of_below hb5 (Nat.le_refl _)).trans k8⟩

end Go.Proofs.Qxb6605907aGreatFmt
