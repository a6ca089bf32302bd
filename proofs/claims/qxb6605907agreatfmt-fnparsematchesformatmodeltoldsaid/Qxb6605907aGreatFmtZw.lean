import Derived.Test.Qxb6605907aGreatFmtZv
import Derived.BigQuiet
namespace Go.Proofs.Qxb6605907aGreatFmt
open Go.RowKit

/-- What zzParseModel answers. -/
def ModelOut (w : World) (R : PS × Option Nat) (e : Ending) (w' : World) : Prop :=
  Below w.heap.size w w' ∧ ∃ m,
    (R.2 = none ∧ e = .returned (.tuple #[.pointer (some ⟨m, 0, none⟩), .bool true, .int .i64 0]) ∧ ∃ C im wm, MOk w.heap.size C w' m im wm R.1.init R.1.h) ∨
    (∃ n : Nat, R.2 = some n ∧ e = .returned (.tuple #[.pointer (some ⟨m, 0, none⟩), .bool false, .int .i64 (n : Int)]))

theorem KM.trans {B C im wm : Nat} {w w' w'' : World} (h : KM B C im wm w w') (k : KM B C im wm w' w'') : KM B C im wm w w'' := ⟨h.1.trans k.1, h.2.trans k.2⟩

theorem line_none (s : PS) (l : List UInt8) (h : iniLine l = none) :
    lineP s l = if (Lib.cut l [58]).2.2 && isName (Lib.cut l [58]).1 then ({ s with st := true, h := (procP s.init s.h (Lib.cut l [58]).1 (Lib.cut l [58]).2.1).1 }, (procP s.init s.h (Lib.cut l [58]).1 (Lib.cut l [58]).2.1).2) else (s, false) := by
  simp only [lineP, h]
theorem line_some (s : PS) (l tok : List UInt8) (h : iniLine l = some tok) :
    lineP s l = if s.ini || s.st then (s, false) else if isValue tok then ({ s with init := tok, ini := true }, true) else (s, false) := by
  simp only [lineP, h]

/-- Between two lines. -/
structure ML (w wA : World) (E0 : List (Nat × List UInt8)) (R : PS × Option Nat) (m im wm j : Nat) (S : PS) (wr : World) : Prop where
  le : j ≤ E0.length
  run : runL S (E0.drop j) = R
  mok : MOk w.heap.size wA.heap.size wr m im wm S.init S.h
  cap : ∃ c, HOk S.h c ∧ c + wt (E0.drop j) ≤ 1048578
  keep : KM w.heap.size wA.heap.size im wm wA wr

section
variable {w wA wr w' : World} {E0 : List (Nat × List UInt8)} {R : PS × Option Nat} {m im wm j : Nat} {S S' : PS}

theorem ML.nums (x : ML w wA E0 R m im wm j S wr) {B1 n : Nat} {v : Value} {xs : List Value} (h : wA.ownsRow B1 3 1 v n xs) : wr.ownsRow B1 3 1 v n xs := ownsRow_keepsT h x.keep.1 (by simp)
theorem ML.texts (x : ML w wA E0 R m im wm j S wr) {B1 n : Nat} {v : Value} {xs : List Value} (h : wA.ownsRow B1 9 1 v n xs) : wr.ownsRow B1 9 1 v n xs :=
  ownsRow_block h (fun g hg => by
    obtain ⟨cs, hc, _⟩ := ownsRow_own h hg
    rw [hc]
    exact x.keep.2 g cs _ (lt_of_get hc) hc)
theorem ML.below (x : ML w wA E0 R m im wm j S wr) (hb : Below w.heap.size w wA) : Below w.heap.size w wr :=
  ⟨x.keep.1.os.trans hb.os, x.keep.1.tape.trans hb.tape, x.keep.1.output.trans hb.output, Nat.le_trans hb.size x.keep.1.size, fun i hi => (x.keep.1.low i hi (Nat.lt_of_lt_of_le hi hb.size)).trans (hb.block i hi)⟩

theorem ML.line (_x : ML w wA E0 R m im wm j S wr) {n : Nat} {l : List UInt8} (hj : E0[j]? = some (n, l)) : E0.drop j = (n, l) :: E0.drop (j + 1) := by
  obtain ⟨h, e⟩ := List.getElem?_eq_some_iff.1 hj
  rw [List.drop_eq_getElem_cons h, e]

theorem ML.short (x : ML w wA E0 R m im wm j S wr) {n : Nat} {l : List UInt8} (hj : E0[j]? = some (n, l)) : ∃ c, HOk S.h c ∧ c + (l.length + 1) ≤ 1048578 := by
  obtain ⟨c, h1, h2⟩ := x.cap
  rw [x.line hj, wt_cons] at h2
  exact ⟨c, h1, by dsimp only at h2; omega⟩

/-- The line is taken. -/
theorem ML.next (x : ML w wA E0 R m im wm j S wr) {n : Nat} {l : List UInt8} (hj : E0[j]? = some (n, l)) (hl : lineP S l = (S', true)) (hM : MOk w.heap.size wA.heap.size w' m im wm S'.init S'.h) (hk : KM w.heap.size wA.heap.size im wm wr w') : ML w wA E0 R m im wm (j + 1) S' w' := by
  obtain ⟨h, _⟩ := List.getElem?_eq_some_iff.1 hj
  have hr := x.run
  obtain ⟨c, h1, h2⟩ := x.cap
  rw [x.line hj] at hr h2
  rw [wt_cons] at h2
  simp only [runL, hl, if_true] at hr
  have h3 := lineP_ok S l c h1
  rw [hl] at h3
  exact ⟨h, hr, hM, ⟨_, h3, by dsimp only at h2; omega⟩, x.keep.trans hk⟩

/-- The line is refused. -/
theorem ML.bad (x : ML w wA E0 R m im wm j S wr) {n : Nat} {l : List UInt8} (hj : E0[j]? = some (n, l)) (hl : (lineP S l).2 = false) : R.2 = some n := by
  have hr := x.run
  rw [x.line hj] at hr
  simp only [runL, hl] at hr
  rw [← hr]
  rfl

theorem out_bad {n : Nat} (hb : Below w.heap.size w w') (hR : R.2 = some n) (k : Nat) : ModelOut w R (.returned (.tuple #[.pointer (some ⟨m, 0, none⟩), .bool false, .int .i64 (n : Int)])) (w'.drewN k) :=
  ⟨⟨hb.os, hb.tape, hb.output, hb.size, hb.block⟩, m, Or.inr ⟨n, hR, rfl⟩⟩

end

set_option maxRecDepth 100000 in
set_option maxHeartbeats 20000000 in
theorem parseModel_spec (x0 : ByteArray) (w : World) (hx : x0.size ≤ 1048577) :
    Calls Tryz.prog 7 #[.string x0] w fun e w' => ModelOut w (runL ps0 (Sx.entries 0 (Sx.lines x0.data.toList))) e w' := by
  have HNM := hide (newModel_spec w.heap.size [110, 105, 108] w (Nat.le_refl _))
  have HLG := hide (fun w1 => Sx.logical_spec x0 w1 hx)
  have hwt := wt_lines _ 0 x0.data.toList (Nat.le_refl _)
  have hwt1 : wt (Sx.entries 0 (Sx.lines x0.data.toList)) ≤ 1048578 := by
    rw [Sx.size_list] at hwt
    split at hwt <;> omega
  have hwt2 : (Sx.entries 0 (Sx.lines x0.data.toList)).length ≤ 1048578 := by
    have h1 := Sx.entries_length 0 (Sx.lines x0.data.toList)
    have h2 := Sx.lines_length x0.data.toList.length x0.data.toList (Nat.le_refl _)
    rw [Sx.size_list] at h2
    omega
  clear hwt
  obtain ⟨E0, hE0⟩ : ∃ E0, Sx.entries 0 (Sx.lines x0.data.toList) = E0 := ⟨_, rfl⟩
  simp only [hE0] at HLG
  obtain ⟨LL, hLL⟩ : ∃ LL, (Sx.lines x0.data.toList).length = LL := ⟨_, rfl⟩
  simp only [hLL] at HLG
  rw [hE0] at hwt1 hwt2 ⊢
  obtain ⟨R, hR⟩ : ∃ R, runL ps0 E0 = R := ⟨_, rfl⟩
  rw [hR]
  have HR := hide hR
  have HWT := hide hwt1
  clear hR hwt1 hE0 hLL
  go_enter Tryz.func7, Tryz.ntmps7
  go_wp2_with first
    | (go_at_call 17; refine HNM.out.mono ?_; rintro e w1 ⟨m, im, wm, rfl, hM, him, hwm, hb1⟩; have HM1 := hide hM; clear hM)
    | (go_at_call 18; refine (HLG.out w1).mono ?_; rintro e w2 ⟨v5, v6, rfl, h5, h6, hb2⟩; have H5 := hide h5; have H6 := hide h6; clear h5 h6)
  obtain ⟨p5, c5, e5⟩ := ownsRow_form H5.out
  obtain ⟨p6, c6, e6⟩ := ownsRow_form H6.out
  subst e5
  subst e6
  have hs1 := hb1.size
  have hs2 := hb2.size
  have HBA : Hid (Below w.heap.size w w2) := hb1.trans (hb2.mono hs1)
  have HML : Hid (ML w w2 E0 R m im wm 0 ps0 w2) := by
    refine ⟨Nat.zero_le _, by rw [List.drop_zero]; exact HR.out, (HM1.out w2.heap.size (by omega)).keepT (show KeepsT w.heap.size [] [] w1 w2 from KeepsT.of_below hb2 (Nat.le_refl _)) (by simp) (by simp) (by simp), ⟨0, ⟨by simp [ps0], fun p hp => by simp [ps0] at hp, fun q hq => by simp [ps0] at hq⟩, by rw [List.drop_zero]; have := HWT.out; omega⟩, KM.refl _ _ _ _ _⟩
  clear hb1 hb2 HNM HLG HM1 HWT HR him hwm
  go_loopw [9, 10, 11] (fun v9 v10 v11 wr => ∃ j S, v9 = .bool (PS.ini S) ∧ v10 = .bool S.st ∧ v11 = .int .i64 (j : Nat) ∧ ML w w2 E0 R m im wm j S wr) (fun _ _ v11 _ => E0.length - (intOf v11).toNat)
  case atStart => exact ⟨0, ps0, rfl, rfl, rfl, HML.out⟩
  case round =>
    clear HML
    obtain ⟨j, S, rfl, rfl, rfl, hml⟩ := hrel
    have HML := hide hml
    have hjl := hml.le
    by_cases hlt : j < E0.length
    · obtain ⟨n, l, hj⟩ : ∃ n l, E0[j]? = some (n, l) := ⟨_, _, List.getElem?_eq_getElem hlt⟩
      obtain ⟨g5, d1, he5, _, _⟩ := (hml.nums H5.out).form (by omega)
      obtain ⟨g6, d2, he6, _, _⟩ := (hml.texts H6.out).form (by omega)
      obtain rfl : p5 = some ⟨g5, 0, none⟩ := by cases he5; rfl
      obtain rfl : p6 = some ⟨g6, 0, none⟩ := by cases he6; rfl
      have d5 := (ownsRow_cell (hml.nums H5.out) (g := g5) (j := j) (u := .int .i64 (n : Int)) rfl (by rw [Sx.eInts, List.getElem?_map, hj]; rfl)).1
      have d6 := (ownsRow_cell (hml.texts H6.out) (g := g6) (j := j) (u := .string (baOf l)) rfl (by rw [Sx.eStrs, List.getElem?_map, hj]; rfl)).1
      have hi0 : (0 : Int) ≤ (j : Int) := Int.natCast_nonneg _
      have hi1 : (j : Int) < (E0.length : Int) := by omega
      obtain ⟨c, hO, hc⟩ := hml.short hj
      have HO := hide hO
      have HJ := hide hj
      have hxs : (baOf l).size = l.length := baOf_size l
      have hxd : (baOf l).data.toList = l := baOf_data l
      have HE7 : Hid ((baOf l).extract 0 7 = baOf (l.take 7)) := ba_of (by rw [Lib.extract_data, hxd]; simp)
      have HED : Hid (∀ k, (baOf l).extract k (baOf l).size = baOf (l.drop k)) := fun k => ba_of (by rw [Lib.extract_data, hxd, List.take_of_length_le (by rw [List.length_drop, hxs]; exact Nat.le_refl _)])
      have HET : Hid (∀ k, (baOf l).extract 0 k = baOf (l.take k)) := fun k => ba_of (by rw [Lib.extract_data, hxd]; simp)
      have HXD := hide hxd
      obtain ⟨x, hxe⟩ : ∃ x, baOf l = x := ⟨_, rfl⟩
      rw [hxe] at d6 hxs HE7 HED HET HXD
      have HGX : Hid (∀ (h7 : 7 < l.length) (h8 : 7 < x.size), x[7] = l[7]) := fun h7 h8 => by
        have h9 := Sx.getL x 7 h8
        rw [HXD.out, List.getElem?_eq_getElem h7] at h9
        exact (Option.some.inj h9).symm
      have HBR := hide (hml.below HBA.out)
      have HXS := hide hxs
      clear he5 he6 hml hj hxd hO hxe hxs
      cases hil : iniLine l with
      | some tok =>
        obtain ⟨h7, hp, hb, htok⟩ := iniLine_at l tok hil
        have h7x : 7 < x.size := by rw [HXS.out]; omega
        have h7' : (7 : Int) < (x.size : Int) := by rw [HXS.out]; omega
        have hpe : ((x.extract 0 7).toList == [105, 110, 105, 116, 105, 97, 108]) = true := by
          rw [HE7.out, hp, Lib.toList_data, baOf_data]; rfl
        have hbx : blankB x[7] = true := by rw [HGX.out h7 h7x]; exact hb
        have HB := hide (zzIsBlank_spec x[7].toNat wr)
        rw [← blankB_N, hbx] at HB
        have HT := hide (Sx.zzTrim_spec (x.extract 7 x.size) wr (by rw [HED.out 7, baOf_size, List.length_drop]; omega))
        rw [HED.out 7, baOf_data, ← htok, ← HED.out 7] at HT
        have htl : tok.length ≤ 1048577 := by
          rw [htok]
          have := trimB_len (l.drop 7)
          rw [List.length_drop] at this
          omega
        have HV := hide (zzIsValue_spec (baOf tok) wr (by rw [baOf_size]; omega))
        rw [baOf_data] at HV
        have HLS := hide (line_some S l tok hil)
        clear hp hb htok hil htl hbx
        obtain ⟨b9, h9⟩ : ∃ b, S.ini = b := ⟨_, rfl⟩
        obtain ⟨b10, h10⟩ : ∃ b, S.st = b := ⟨_, rfl⟩
        rw [h9, h10] at HLS
        rw [h9, h10]
        cases b9 with
        | true =>
          have HBD := hide (HML.out.bad HJ.out (by rw [HLS.out]; rfl))
          go_wp2_with (go_at_call 19; refine HB.out.mono ?_; rintro e wx ⟨rfl, e1⟩; replace e1 := e1.symm; subst e1)
          go_quiet (fail)
          go_wp2
          exact bodyPost_ret (v := .tuple #[.pointer (some ⟨m, 0, none⟩), .bool false, .int .i64 (n : Int)]) (by simp [results, Tryz.results7, go_sem]) rfl (out_bad HBR.out HBD.out _)
        | false =>
          cases b10 with
          | true =>
            have HBD := hide (HML.out.bad HJ.out (by rw [HLS.out]; rfl))
            go_wp2_with (go_at_call 19; refine HB.out.mono ?_; rintro e wx ⟨rfl, e1⟩; replace e1 := e1.symm; subst e1)
            go_quiet (fail)
            go_wp2
            exact bodyPost_ret (v := .tuple #[.pointer (some ⟨m, 0, none⟩), .bool false, .int .i64 (n : Int)]) (by simp [results, Tryz.results7, go_sem]) rfl (out_bad HBR.out HBD.out _)
          | false =>
            cases hv : isValue tok with
            | false =>
              rw [hv] at HV
              have HBD := hide (HML.out.bad HJ.out (by rw [HLS.out, hv]; rfl))
              go_wp2_with first
                | (go_at_call 19; refine HB.out.mono ?_; rintro e wx ⟨rfl, e1⟩; replace e1 := e1.symm; subst e1)
                | (go_at_call 20; refine HT.out.mono ?_; rintro e wx ⟨rfl, e1⟩; replace e1 := e1.symm; subst e1)
                | (go_at_call 21; refine HV.out.mono ?_; rintro e wx ⟨rfl, e1⟩; replace e1 := e1.symm; subst e1)
              go_quiet (fail)
              go_wp2
              exact bodyPost_ret (v := .tuple #[.pointer (some ⟨m, 0, none⟩), .bool false, .int .i64 (n : Int)]) (by simp [results, Tryz.results7, go_sem]) rfl (out_bad HBR.out HBD.out _)
            | true =>
              rw [hv] at HV
              have HLT : Hid (lineP S l = (⟨tok, true, false, S.h⟩, true)) := by
                rw [Hid, HLS.out, hv]; rfl
              have HSI := hide (HML.out.mok.setInit tok)
              obtain ⟨nv, ov, L, hS⟩ := HML.out.mok
              have m0 : wr.cell? ⟨m, 0, none⟩ = some (.string (baOf S.init)) := by rw [row_cell hS.row]; rfl
              have f0 : wr.frozen? ⟨m, 0, none⟩ = false := row_frozen hS.row 0
              clear hS
              go_wp2_with first
                | (go_at_call 19; refine HB.out.mono ?_; rintro e wx ⟨rfl, e1⟩; replace e1 := e1.symm; subst e1)
                | (go_at_call 20; refine HT.out.mono ?_; rintro e wx ⟨rfl, e1⟩; replace e1 := e1.symm; subst e1)
                | (go_at_call 21; refine HV.out.mono ?_; rintro e wx ⟨rfl, e1⟩; replace e1 := e1.symm; subst e1)
              go_roundw
              case rel => exact ⟨j + 1, ⟨tok, true, false, S.h⟩, rfl, rfl, by go_num, HML.out.next HJ.out HLT.out HSI.out.1 HSI.out.2⟩
              case measure => simp [intOf]; omega
      | none =>
        have HIN := hide (iniLine_not l hil)
        have HLN := hide (line_none S l hil)
        rw [cut_index] at HLN
        obtain ⟨b9, h9⟩ : ∃ b, S.ini = b := ⟨_, rfl⟩
        obtain ⟨b10, h10⟩ : ∃ b, S.st = b := ⟨_, rfl⟩
        rw [h9, h10]
        clear hil
        go_upto_region 9 with fail
        go_cut [44] (fun v w' => v = .bool false ∧ w' = wr)
        case first =>
          rcases HIN.out with h7 | ⟨h7, hp | ⟨hp, hb⟩⟩
          · have h7' : ¬ ((7 : Int) < (x.size : Int)) := by rw [HXS.out]; omega
            have h8 : decide ((7 : Int) < (x.size : Int)) = false := decide_eq_false h7'
            go_wp2
            go_meet
            exact ⟨rfl, rfl⟩
          · have h7' : (7 : Int) < (x.size : Int) := by rw [HXS.out]; omega
            have hpe : ((x.extract 0 7).toList == [105, 110, 105, 116, 105, 97, 108]) = false := by
              rw [HE7.out, beq_eq_false_iff_ne, Lib.toList_data, baOf_data]
              exact hp
            clear hp
            go_wp2
            go_meet
            exact ⟨rfl, rfl⟩
          · have h7x : 7 < x.size := by rw [HXS.out]; omega
            have h7' : (7 : Int) < (x.size : Int) := by rw [HXS.out]; omega
            have hpe : ((x.extract 0 7).toList == [105, 110, 105, 116, 105, 97, 108]) = true := by
              rw [HE7.out, hp, Lib.toList_data, baOf_data]; rfl
            have hbx : blankB x[7] = false := by rw [HGX.out h7 h7x]; exact hb
            have HB := hide (zzIsBlank_spec x[7].toNat wr)
            rw [← blankB_N, hbx] at HB
            clear hp hb hbx
            go_wp2_with (go_at_call 19; refine HB.out.mono ?_; rintro e wx ⟨rfl, e1⟩; replace e1 := e1.symm; subst e1)
            go_meet
            exact ⟨rfl, rfl⟩
        case rest =>
          obtain ⟨rfl, hcw⟩ := hcut
          replace hcw := hcw.symm
          subst hcw
          have HIX := hide (zzIndexColon_spec x wr (by rw [HXS.out]; omega))
          rw [HXD.out] at HIX
          by_cases ho : Lib.indexByte l 58 = -1
          · rw [ho] at HIX
            have HBD := hide (HML.out.bad HJ.out (by rw [HLN.out, ho]; rfl))
            clear ho
            go_wp2_with (go_at_call 22; refine HIX.out.mono ?_; rintro e wx ⟨rfl, e1⟩; replace e1 := e1.symm; subst e1)
            go_quiet (fail)
            go_wp2
            exact bodyPost_ret (v := .tuple #[.pointer (some ⟨m, 0, none⟩), .bool false, .int .i64 (n : Int)]) (by simp [results, Tryz.results7, go_sem]) rfl (out_bad HBR.out HBD.out _)
          · obtain ⟨k, hk⟩ : ∃ k : Nat, Lib.indexByte l 58 = (k : Int) := ⟨(Lib.indexByte l 58).toNat, by have := Lib.indexByte_ge l 58; omega⟩
            have hkl : k < l.length := (List.getElem?_eq_some_iff.1 (Lib.indexByte_some hk).1).1
            rw [hk] at HIX
            have hki : (k : Int) < (x.size : Int) := by rw [HXS.out]; omega
            have hkn : ¬ ((k : Int) < 0) := by omega
            have hkd : decide ((k : Int) < 0) = false := decide_eq_false hkn
            have HNN := hide (zzIsName_spec (x.extract 0 k) wr (by rw [ByteArray.size_extract, HXS.out]; omega))
            rw [HET.out k, baOf_data, ← HET.out k] at HNN
            have HL2 : Hid (lineP S l = if isName (l.take k) then ({ S with st := true, h := (procP S.init S.h (l.take k) (l.drop (k + 1))).1 }, (procP S.init S.h (l.take k) (l.drop (k + 1))).2) else (S, false)) := by
              have hcx : (if (0 : Int) ≤ (k : Int) then (l.take (k : Int).toNat, l.drop ((k : Int).toNat + 1), true) else (l, [], false)) = (l.take k, l.drop (k + 1), true) := by rw [if_pos (by omega), Int.toNat_natCast]
              rw [Hid, HLN.out, hk, hcx]
              simp only [Bool.true_and]
            clear ho hk
            cases hn : isName (l.take k) with
            | false =>
              rw [hn] at HNN
              have HBD := hide (HML.out.bad HJ.out (by rw [HL2.out, hn]; rfl))
              go_wp2_with first
                | (go_at_call 22; refine HIX.out.mono ?_; rintro e wx ⟨rfl, e1⟩; replace e1 := e1.symm; subst e1)
                | (go_at_call 10; refine HNN.out.mono ?_; rintro e wx ⟨rfl, e1⟩; replace e1 := e1.symm; subst e1)
              go_quiet (fail)
              go_wp2
              exact bodyPost_ret (v := .tuple #[.pointer (some ⟨m, 0, none⟩), .bool false, .int .i64 (n : Int)]) (by simp [results, Tryz.results7, go_sem]) rfl (out_bad HBR.out HBD.out _)
            | true =>
              rw [hn] at HNN
              have hk1 : (k : Int) + 1 ≤ (x.size : Int) := by omega
              have hk2 : (k : Int) ≤ (x.size : Int) := by omega
              have hk3 : (0 : Int) ≤ (k : Int) := Int.natCast_nonneg _
              have hk4 : (0 : Int) ≤ (k : Int) + 1 := by omega
              have hk5 : IntKind.i64.wrap ((k : Int) + 1) = (k : Int) + 1 := IntWalk.i64_in _ (by omega)
              have HMP := hide (fun (W : World) (hM : MOk w.heap.size w2.heap.size W m im wm S.init S.h) (hC : w2.heap.size ≤ W.heap.size) =>
                zzModelProc_spec w.heap.size w2.heap.size m im wm c S.init (l.take k) (l.drop (k + 1)) S.h W hM HO.out (by rw [List.length_drop]; omega) (by rw [List.length_drop]; omega) hC)
              rw [← HET.out k, ← HED.out (k + 1)] at HMP
              have hsz2 := HML.out.keep.1.size
              have hsz3 : w2.heap.size ≤ wr.drew.heap.size := hsz2
              have HMK := hide HML.out.mok
              have HMK1 : Hid (MOk w.heap.size w2.heap.size wr.drew m im wm S.init S.h) := HMK.out.keepT (show KeepsT w.heap.size [] [] wr wr.drew from (KeepsT.refl _ _ _ wr).drew) (by simp) (by simp) (by simp)
              have HKR : Hid (KM w.heap.size w2.heap.size im wm wr wr.drew) := (KM.refl _ _ _ _ wr).drew
              cases hr : (procP S.init S.h (l.take k) (l.drop (k + 1))).2 with
              | true =>
                rw [hr] at HMP
                have HLT : Hid (lineP S l = ({ S with st := true, h := (procP S.init S.h (l.take k) (l.drop (k + 1))).1 }, true)) := by
                  rw [Hid, HL2.out, hn, if_pos rfl, hr]
                go_upto_region 21 with first
                  | (go_at_call 22; refine HIX.out.mono ?_; rintro e wx ⟨rfl, e1⟩; replace e1 := e1.symm; subst e1)
                  | (go_at_call 10; refine HNN.out.mono ?_; rintro e wx ⟨rfl, e1⟩; replace e1 := e1.symm; subst e1)
                go_region_held3 (fun _ => True) (exact trivial)
                  ((go_at_call 23; refine (HMP.out _ (by first | exact HMK.out | exact HMK1.out) (by first | exact hsz2 | exact hsz3)).mono ?_; rintro e w3 ⟨rfl, hM3, hK3⟩
                    have HM3 := hide hM3
                    have HK3 : Hid (KM w.heap.size w2.heap.size im wm wr w3) := (by first | exact hK3 | exact HKR.out.trans hK3)
                    clear hM3 hK3))
                go_wp2
                go_roundw
                case rel => exact ⟨j + 1, { S with st := true, h := (procP S.init S.h (l.take k) (l.drop (k + 1))).1 }, by rw [h9], rfl, by go_num, HML.out.next HJ.out HLT.out HM3.out HK3.out⟩
                case measure => simp [intOf]; omega
              | false =>
                rw [hr] at HMP
                have HBD := hide (HML.out.bad HJ.out (by rw [HL2.out, hn, if_pos rfl, hr]))
                go_upto_region 21 with first
                  | (go_at_call 22; refine HIX.out.mono ?_; rintro e wx ⟨rfl, e1⟩; replace e1 := e1.symm; subst e1)
                  | (go_at_call 10; refine HNN.out.mono ?_; rintro e wx ⟨rfl, e1⟩; replace e1 := e1.symm; subst e1)
                go_region_held3 (fun _ => True) (exact trivial)
                  ((go_at_call 23; refine (HMP.out _ (by first | exact HMK.out | exact HMK1.out) (by first | exact hsz2 | exact hsz3)).mono ?_; rintro e w3 ⟨rfl, hM3, hK3⟩
                    have HK3 : Hid (KM w.heap.size w2.heap.size im wm wr w3) := (by first | exact hK3 | exact HKR.out.trans hK3)
                    clear hM3 hK3))
                have q5 := (ownsRow_cell (ownsRow_keepsT (HML.out.nums H5.out) HK3.out.1 (by simp)) (g := g5) (j := j) (u := .int .i64 (n : Int)) rfl (by rw [Sx.eInts, List.getElem?_map, HJ.out]; rfl)).1
                have HB3 : Hid (Below w.heap.size w w3) := ⟨HK3.out.1.os.trans HBR.out.os, HK3.out.1.tape.trans HBR.out.tape, HK3.out.1.output.trans HBR.out.output, Nat.le_trans HBR.out.size HK3.out.1.size, fun i hi => (HK3.out.1.low i hi (Nat.lt_of_lt_of_le hi HBR.out.size)).trans (HBR.out.block i hi)⟩
                go_wp2
                go_quiet (fail)
                go_wp2
                exact bodyPost_ret (v := .tuple #[.pointer (some ⟨m, 0, none⟩), .bool false, .int .i64 (n : Int)]) (by simp [results, Tryz.results7, go_sem]) rfl (out_bad HB3.out HBD.out _)
    · obtain rfl : j = E0.length := by omega
      have hi1 : ¬ ((E0.length : Int) < (E0.length : Int)) := by omega
      have HRN : Hid (R = (S, none)) := by
        have := hml.run
        rw [List.drop_length] at this
        exact this.symm
      have HBR := hide (hml.below HBA.out)
      clear hml
      go_wp2
      rw [HRN.out]
      exact bodyPost_ret (v := .tuple #[.pointer (some ⟨m, 0, none⟩), .bool true, .int .i64 0]) (by simp [results, Tryz.results7, go_sem]) rfl ⟨HBR.out, m, Or.inl ⟨rfl, rfl, w2.heap.size, im, wm, HML.out.mok⟩⟩

end Go.Proofs.Qxb6605907aGreatFmt
