import Derived.Test.Qxb6605907aFmtLw0
import Derived.Test.Qxb6605907aFmtPp
import Derived.Test.Qxb6605907aFmtMq
namespace Go.Proofs.Qxb6605907aFmt
open Go.RowKit

/-- ZZParseProc. -/
theorem zzParseProc_spec (W0 : World) (EV : EnvF W0) (pb sc hb mb wb c : Nat) (file : ByteArray) (line : Int) (ini st : Bool) (init name ops : List UInt8) (h : HP) (w : World) (hl : Low W0 w)
    (hP : POk W0.heap.size w pb sc hb mb wb file line ini st init h) (hO : HOk h c) (hc : c + ops.length + 1 ≤ 2097152) (hlo : ops.length ≤ 1048576) :
    Calls Tryf.prog 8 #[.pointer (some ⟨pb, 0, none⟩), .string (baOf name), .string (baOf ops)] w fun e w' =>
      ((procP init h name ops).2 = true → e = .returned (.pointer none)) ∧
      ((procP init h name ops).2 = false → ∃ eb s, e = .returned (.pointer (some ⟨eb, 0, none⟩)) ∧ w'.heap[eb]? = some (.cells #[.string file, .int .i64 line, .string s] 60 (0, 0))) ∧
      POk W0.heap.size w' pb sc hb mb wb file line ini true init (procP init h name ops).1 ∧ KeepsT W0.heap.size pTs [mb, wb] w w' := by
  have HC := hide (parseProc_spec W0 EV pb sc hb mb wb c file line ini st init name ops h w hl hP hO hc hlo)
  obtain ⟨R, hR⟩ : ∃ R, procP init h name ops = R := ⟨_, rfl⟩
  rw [hR] at HC ⊢
  clear hR hP hO hl EV
  obtain ⟨h2, ok⟩ := R
  dsimp only at HC ⊢
  cases ok with
  | true =>
    have HC2 : Hid (Calls Tryf.prog 20 #[.pointer (some ⟨pb, 0, none⟩), .string (baOf name), .string (baOf ops)] w fun e w' => e = .returned (.pointer none) ∧ POk W0.heap.size w' pb sc hb mb wb file line ini true init h2 ∧ KeepsT W0.heap.size pTs [mb, wb] w w') :=
      HC.out.mono fun e w' ⟨h1, _, h3, h4⟩ => ⟨h1 rfl, h3, h4⟩
    clear HC
    go_enter Tryf.func8, Tryf.ntmps8
    go_wp2_with (go_at_call 20; refine HC2.out.mono ?_; rintro e w2 ⟨rfl, h3, h4⟩)
    go_ret
    exact ⟨fun _ => rfl, fun e => (by cases e), h3, h4⟩
  | false =>
    have HC2 : Hid (Calls Tryf.prog 20 #[.pointer (some ⟨pb, 0, none⟩), .string (baOf name), .string (baOf ops)] w fun e w' => ∃ eb s, e = .returned (.pointer (some ⟨eb, 0, none⟩)) ∧ w'.heap[eb]? = some (.cells #[.string file, .int .i64 line, .string s] 60 (0, 0)) ∧ POk W0.heap.size w' pb sc hb mb wb file line ini true init h2 ∧ KeepsT W0.heap.size pTs [mb, wb] w w') :=
      HC.out.mono fun e w' ⟨_, h2', h3, h4⟩ => by
        obtain ⟨eb, s, a1, a2⟩ := h2' rfl
        exact ⟨eb, s, a1, a2, h3, h4⟩
    clear HC
    go_enter Tryf.func8, Tryf.ntmps8
    go_wp2_with (go_at_call 20; refine HC2.out.mono ?_; rintro e w2 ⟨eb, s, rfl, hr, h3, h4⟩)
    go_ret
    exact ⟨fun e => (by cases e), fun _ => ⟨eb, s, rfl, hr⟩, h3, h4⟩

/-- The two sides side by side. -/
structure Both (W0 : World) (pb sc hb mb wb m im wm : Nat) (file : ByteArray) (ini st : Bool) (init : List UInt8) (h : HP) (w : World) : Prop where
  p : POk W0.heap.size w pb sc hb mb wb file 0 ini st init h
  m : MOk W0.heap.size w m im wm init h
  low : Low W0 w
  below : Below W0.heap.size W0 w
  ne : (im ∉ [mb, wb] ∧ wm ∉ [mb, wb]) ∧ (mb ∉ [im, wm] ∧ wb ∉ [im, wm])

theorem KeepsT.belowLow {W0 w w' : World} {Ts S : List Nat} (hb : Below W0.heap.size W0 w) (k : KeepsT W0.heap.size Ts S w w') : Below W0.heap.size W0 w' :=
  ⟨k.os.trans hb.os, k.tape.trans hb.tape, k.output.trans hb.output, Nat.le_trans hb.size k.size, fun i hi => (k.low i hi (Nat.lt_of_lt_of_le hi hb.size)).trans (hb.block i hi)⟩

/-- The parser has taken a line. -/
theorem Both.left {W0 : World} {pb sc hb mb wb m im wm : Nat} {file : ByteArray} {ini st : Bool} {init : List UInt8} {h : HP} {w w1 : World} (b : Both W0 pb sc hb mb wb m im wm file ini st init h w) (k : KeepsT W0.heap.size pTs [mb, wb] w w1) :
    MOk W0.heap.size w1 m im wm init h ∧ Low W0 w1 ∧ Below W0.heap.size W0 w1 :=
  ⟨b.m.keepT k (by simp) b.ne.1.1 b.ne.1.2, b.low.keepT k, KeepsT.belowLow b.below k⟩

/-- The first steps of the law: a fresh parser, a fresh model. -/
theorem Both.start {W0 w1 w2 : World} {pb sc hb mb wb m im wm : Nat} {file : ByteArray} {ini : Bool} {init : List UInt8} (hp : POk W0.heap.size w1 pb sc hb mb wb file 0 ini false init ⟨[], []⟩) (hb1 : Below W0.heap.size W0 w1)
    (hm : MOk W0.heap.size w2 m im wm init ⟨[], []⟩) (him : w1.heap.size ≤ im) (hwm : w1.heap.size ≤ wm) (hb2 : Below w1.heap.size w1 w2) : Both W0 pb sc hb mb wb m im wm file ini false init ⟨[], []⟩ w2 := by
  have k : KeepsT W0.heap.size [] [] w1 w2 := KeepsT.of_below hb2 (Nat.le_refl _)
  obtain ⟨o1, h1, _⟩ := hp.2.1.obj
  have lmb := lt_of_get h1
  have lwb : wb < w1.heap.size := by
    obtain ⟨_, _, _, hs, _⟩ := hp.2.2
    obtain ⟨o2, h2, _⟩ := hs.writes.obj
    exact lt_of_get h2
  exact ⟨hp.keepT k (by simp) (by simp) (by simp) (by simp), hm, ⟨Nat.le_trans hb1.size hb2.size, fun i hi => (hb2.block i (Nat.lt_of_lt_of_le hi hb1.size)).trans (hb1.block i hi)⟩, hb1.trans (hb2.mono hb1.size), ⟨⟨by simp; omega, by simp; omega⟩, ⟨by simp; omega, by simp; omega⟩⟩⟩

theorem Both.both {W0 : World} {pb sc hb mb wb m im wm : Nat} {file : ByteArray} {ini st : Bool} {init : List UInt8} {h h2 : HP} {w w1 w2 : World} (b : Both W0 pb sc hb mb wb m im wm file ini st init h w) (k1 : KeepsT W0.heap.size pTs [mb, wb] w w1)
    (hp : POk W0.heap.size w1 pb sc hb mb wb file 0 ini true init h2) (hm : MOk W0.heap.size w2 m im wm init h2) (k2 : KeepsT W0.heap.size mTs [im, wm] w1 w2) : Both W0 pb sc hb mb wb m im wm file ini true init h2 w2 :=
  ⟨hp.keepT k2 (by simp) (by simp) b.ne.2.1 b.ne.2.2, hm, (b.left k1).2.1.keepT k2, KeepsT.belowLow (b.left k1).2.2 k2, b.ne⟩

set_option maxRecDepth 100000 in
set_option maxHeartbeats 8000000 in
theorem law_spec (W0 : World) (EV : EnvF W0) (file : ByteArray) (il n1 o1 n2 o2 : List UInt8) :
    Calls Tryf.prog 3 #[.string file, .string (baOf il), .string (baOf n1), .string (baOf o1), .string (baOf n2), .string (baOf o2)] W0 fun e w' => e = .returned (.bool true) ∧ Below W0.heap.size W0 w' := by
  by_cases hs : file.size + (baOf il).size + (baOf n1).size + (baOf o1).size + (baOf n2).size + (baOf o2).size ≤ 1048576
  · have HBY := hide (zzBytes_true file (baOf il) (baOf n1) (baOf o1) (baOf n2) (baOf o2) W0 hs)
    have t6 : ¬ ((1048576 : Int) < (file.size : Int) + ((baOf il).size : Int) + ((baOf n1).size : Int) + ((baOf o1).size : Int) + ((baOf n2).size : Int) + ((baOf o2).size : Int)) := by omega
    have w2' : IntKind.i64.wrap ((file.size : Int) + ((baOf il).size : Int)) = (file.size : Int) + ((baOf il).size : Int) := IntWalk.i64_in _ (by omega)
    have w3' : IntKind.i64.wrap ((file.size : Int) + ((baOf il).size : Int) + ((baOf n1).size : Int)) = (file.size : Int) + ((baOf il).size : Int) + ((baOf n1).size : Int) := IntWalk.i64_in _ (by omega)
    have w4' : IntKind.i64.wrap ((file.size : Int) + ((baOf il).size : Int) + ((baOf n1).size : Int) + ((baOf o1).size : Int)) = (file.size : Int) + ((baOf il).size : Int) + ((baOf n1).size : Int) + ((baOf o1).size : Int) := IntWalk.i64_in _ (by omega)
    have w5' : IntKind.i64.wrap ((file.size : Int) + ((baOf il).size : Int) + ((baOf n1).size : Int) + ((baOf o1).size : Int) + ((baOf n2).size : Int)) = (file.size : Int) + ((baOf il).size : Int) + ((baOf n1).size : Int) + ((baOf o1).size : Int) + ((baOf n2).size : Int) := IntWalk.i64_in _ (by omega)
    have w6' : IntKind.i64.wrap ((file.size : Int) + ((baOf il).size : Int) + ((baOf n1).size : Int) + ((baOf o1).size : Int) + ((baOf n2).size : Int) + ((baOf o2).size : Int)) = (file.size : Int) + ((baOf il).size : Int) + ((baOf n1).size : Int) + ((baOf o1).size : Int) + ((baOf n2).size : Int) + ((baOf o2).size : Int) := IntWalk.i64_in _ (by omega)
    have HIV := hide (zzIsValue_spec (baOf il) W0 (by omega))
    rw [baOf_data] at HIV
    cases hiv : isValue il with
    | false =>
      rw [hiv] at HIV
      go_enter Tryf.func3, Tryf.ntmps3
      go_wp2_with first | (go_at_call 4; refine HBY.out.mono ?_; rintro e wa ⟨rfl, e1⟩; replace e1 := e1.symm; subst e1) | (go_at_call 5; refine HIV.out.mono ?_; rintro e wa ⟨rfl, e1⟩; replace e1 := e1.symm; subst e1)
      go_ret
      exact ⟨rfl, Below.refl _ _⟩
    | true =>
      rw [hiv] at HIV
      have hls : o1.length ≤ 1048576 ∧ o2.length ≤ 1048576 ∧ o1.length + o2.length ≤ 1048576 := by
        rw [baOf_size, baOf_size, baOf_size, baOf_size, baOf_size] at hs
        omega
      have HLS := hide hls
      have HEV := hide EV
      have HNP := hide (fun ini => newParser_spec W0 file il ini W0 (Nat.le_refl _))
      clear hls EV hs hiv
      go_enter Tryf.func3, Tryf.ntmps3
      go_upto_region 8 with first | (go_at_call 4; refine HBY.out.mono ?_; rintro e wa ⟨rfl, e1⟩; replace e1 := e1.symm; subst e1) | (go_at_call 5; refine HIV.out.mono ?_; rintro e wa ⟨rfl, e1⟩; replace e1 := e1.symm; subst e1) | (go_at_call 6; refine (HNP.out _).mono ?_; rintro e w1 ⟨pb, sc, hb, mb, wb, rfl, hP1, hmb, hwb, hb1⟩)
      have HNM := hide (newModel_spec W0.heap.size il w1 hb1.size)
      have HP1 := hide hP1
      have HB1' := hide hb1
      clear hP1 hb1 hmb hwb HNP
      go_upto_region 9 with (go_at_call 7; refine HNM.out.mono ?_; rintro e w2 ⟨m, im, wm, rfl, hM2, him, hwm, hb2⟩)
      have HB0 := hide (Both.start HP1.out HB1'.out hM2 him hwm hb2)
      clear HNM HP1 HB1' hM2 him hwm hb2
      have HO0 : Hid (HOk ⟨[], []⟩ 0) := hide ⟨Nat.le_refl _, fun p hp => (by simp at hp), fun q hq => (by simp at hq)⟩
      have HPP := hide (zzParseProc_spec W0 HEV.out pb sc hb mb wb 0 file 0 _ false il n1 o1 ⟨[], []⟩ w2 HB0.out.low HB0.out.p HO0.out (by have := HLS.out; omega) (by have := HLS.out; omega))
      have HMP := hide (fun (W' : World) (hm : MOk W0.heap.size W' m im wm il ⟨[], []⟩) => zzModelProc_spec W0.heap.size m im wm 0 il n1 o1 ⟨[], []⟩ W' hm HO0.out (by have := HLS.out; omega) (by have := HLS.out; omega))
      have HH1 := hide (procP_ok il ⟨[], []⟩ n1 o1 0 HO0.out)
      have HF1 := hide (procP_find il ⟨[], []⟩ n1 o1)
      obtain ⟨R, hR⟩ : ∃ R, procP il ⟨[], []⟩ n1 o1 = R := ⟨_, rfl⟩
      rw [hR] at HPP HH1 HF1
      simp only [hR] at HMP
      clear hR
      obtain ⟨h1, ok⟩ := R
      dsimp only at HPP HMP HH1 HF1
      cases ok with
      | false =>
        go_upto_region 10 with (go_at_call 8; refine HPP.out.mono ?_; rintro e w3 ⟨_, hE, hP3, k3⟩; obtain ⟨eb, s, rfl, hr⟩ := hE rfl; clear hE)
        have HMQ := hide (HMP.out w3 (HB0.out.left k3).1)
        go_upto_region 11 with (go_at_call 9; refine HMQ.out.mono ?_; rintro e w4 ⟨rfl, hM4, k4⟩)
        have HB1 := hide (HB0.out.both k3 hP3 hM4 k4)
        have HSE := hide (sameErr_bad eb file s 0 w4 (k4.cells _ _ _ _ hr (by simp)))
        clear k3 hP3 hM4 k4 hr HMQ HMP HPP
        go_upto_region 21 with (go_at_call 10; refine HSE.out.mono ?_; rintro e wx ⟨rfl, e1⟩; replace e1 := e1.symm; subst e1)
        have HI1 := hide (procIndex_spec HB1.out.p n1 _ HF1.out)
        obtain ⟨lk1, lk2⟩ := HB1.out.m.look n1 _ HF1.out
        go_upto_region 24 with (go_at_call 11; refine HI1.out.mono ?_; rintro e wx ⟨rfl, e1⟩; replace e1 := e1.symm; subst e1)
        clear lk1 lk2 HI1
        have HK4 := hide (fun (W' : World) (hb' : Below w4.heap.size w4 W') => (show KeepsT W0.heap.size [] [] w4 W' from KeepsT.of_below hb' (Nat.le_refl _)))
        have HP4 := hide (fun (W' : World) (hb' : Below w4.heap.size w4 W') => HB1.out.p.keepT (HK4.out W' hb') (by simp) (by simp) (by simp) (by simp))
        have HM4 := hide (fun (W' : World) (hb' : Below w4.heap.size w4 W') => HB1.out.m.keepT (HK4.out W' hb') (by simp) (by simp) (by simp))
        have HC12 := hide (fun (W' : World) (hb' : Below w4.heap.size w4 W') => procCount_spec (HP4.out W' hb'))
        have HC13 := hide (fun (W' : World) (hb' : Below w4.heap.size w4 W') => started_spec (HP4.out W' hb'))
        have HC15 := hide (fun (W' : World) (hb' : Below w4.heap.size w4 W') => parserHistory_spec (HP4.out W' hb'))
        have HC14 := hide (fun (W' : World) (hb' : Below w4.heap.size w4 W') => sameHistory_spec W0.heap.size hb wb m im wm (0 + 1 + o1.length) il _ W' (HP4.out W' hb').2.2 (HM4.out W' hb') HH1.out (by have := HLS.out; omega))
        obtain ⟨nv, ov, L, hms⟩ := HB1.out.m
        obtain ⟨np, ncap, rfl⟩ := ownsRow_form hms.names
        have cN : w4.cell? ⟨m, 1, none⟩ = some (.slice np h1.procs.length ncap) := by rw [row_cell hms.row]; simp
        have hml : m < w4.heap.size := lt_of_get hms.row
        clear hms
        have HBB := hide HB1.out.below
        have hbz : Below w4.heap.size w4 w4 := Below.refl _ _
        clear HEV HB0 HP4 HM4 HK4
        go_region_held3 (fun w' => w'.cell? ⟨m, 1, none⟩ = some (.slice np h1.procs.length ncap)) (first | go_keep | (rw [hb9.cell (p := ⟨m, 1, none⟩) hml]; first | assumption | exact cN | go_keep)) (first | (go_at_call 12; refine (HC12.out _ (by first | exact hbz | exact hbz.drew)).mono ?_; rintro e wx ⟨rfl, e1⟩; replace e1 := e1.symm; subst e1) | (go_at_call 13; refine (HC13.out _ (by first | exact hbz | exact hbz.drew)).mono ?_; rintro e wx ⟨rfl, e1⟩; replace e1 := e1.symm; subst e1) | (go_at_call 15; refine (HC15.out _ (by first | exact hbz | exact hbz.drew)).mono ?_; rintro e wx ⟨rfl, e1⟩; replace e1 := e1.symm; subst e1) | (go_at_call 14; refine (HC14.out _ (by first | exact hbz | exact hbz.drew)).mono ?_; rintro e w9 ⟨rfl, hb9⟩))
        go_wp2
        go_ret
        exact ⟨rfl, HBB.out.trans ((hbz.drew.trans hb9).mono HBB.out.size)⟩

      | true =>
        go_upto_region 10 with (go_at_call 8; refine HPP.out.mono ?_; rintro e w3 ⟨hE, _, hP3, k3⟩; obtain rfl := hE rfl; clear hE)
        have HMQ := hide (HMP.out w3 (HB0.out.left k3).1)
        go_upto_region 11 with (go_at_call 9; refine HMQ.out.mono ?_; rintro e w4 ⟨rfl, hM4, k4⟩)
        have HB1 := hide (HB0.out.both k3 hP3 hM4 k4)
        have HSE := hide (sameErr_ok file 0 w4)
        clear k3 hP3 hM4 k4 HMQ HMP HPP HB0
        go_upto_region 14 with (go_at_call 10; refine HSE.out.mono ?_; rintro e wx ⟨rfl, e1⟩; replace e1 := e1.symm; subst e1)
        clear HSE
        have HPP := hide (zzParseProc_spec W0 HEV.out pb sc hb mb wb (0 + 1 + o1.length) file 0 _ true il n2 o2 h1 w4 HB1.out.low HB1.out.p HH1.out (by have := HLS.out; omega) (by have := HLS.out; omega))
        have HMP := hide (fun (W' : World) (hm : MOk W0.heap.size W' m im wm il h1) => zzModelProc_spec W0.heap.size m im wm (0 + 1 + o1.length) il n2 o2 h1 W' hm HH1.out (by have := HLS.out; omega) (by have := HLS.out; omega))
        have HH2 := hide (procP_ok il h1 n2 o2 _ HH1.out)
        have HF2 := hide (procP_find il h1 n2 o2)
        have HF3 := hide (procP_keep il h1 n2 o2 n1 _ HF1.out)
        obtain ⟨R, hR⟩ : ∃ R, procP il h1 n2 o2 = R := ⟨_, rfl⟩
        rw [hR] at HPP HH2 HF2 HF3
        simp only [hR] at HMP
        clear hR
        obtain ⟨h2, ok⟩ := R
        dsimp only at HPP HMP HH2 HF2 HF3
        cases ok with
        | false =>
          go_upto_region 15 with (go_at_call 8; refine HPP.out.mono ?_; rintro e w5 ⟨_, hE, hP3, k3⟩; obtain ⟨eb, s, rfl, hr⟩ := hE rfl; clear hE)
          have HMQ := hide (HMP.out w5 (HB1.out.left k3).1)
          go_upto_region 16 with (go_at_call 9; refine HMQ.out.mono ?_; rintro e w6 ⟨rfl, hM4, k4⟩)
          have HB0 := hide (HB1.out.both k3 hP3 hM4 k4)
          have HB2 := HB0
          have HSE := hide (sameErr_bad eb file s 0 w6 (k4.cells _ _ _ _ hr (by simp)))
          clear k3 hP3 hM4 k4 hr HMQ HMP HPP HB1
          have HI2 := hide (procIndex_spec HB2.out.p n2 _ HF2.out)
          obtain ⟨lk3, lk4⟩ := HB2.out.m.look n2 _ HF2.out
          go_upto_region 21 with first | (go_at_call 10; refine HSE.out.mono ?_; rintro e wx ⟨rfl, e1⟩; replace e1 := e1.symm; subst e1) | (go_at_call 11; refine HI2.out.mono ?_; rintro e wx ⟨rfl, e1⟩; replace e1 := e1.symm; subst e1)
          clear lk3 lk4 HI2 HSE
          have HI1 := hide (procIndex_spec HB2.out.p n1 _ HF3.out)
          obtain ⟨lk1, lk2⟩ := HB2.out.m.look n1 _ HF3.out
          go_upto_region 24 with (go_at_call 11; refine HI1.out.mono ?_; rintro e wx ⟨rfl, e1⟩; replace e1 := e1.symm; subst e1)
          clear lk1 lk2 HI1
          have HK4 := hide (fun (W' : World) (hb' : Below w6.heap.size w6 W') => (show KeepsT W0.heap.size [] [] w6 W' from KeepsT.of_below hb' (Nat.le_refl _)))
          have HP4 := hide (fun (W' : World) (hb' : Below w6.heap.size w6 W') => HB2.out.p.keepT (HK4.out W' hb') (by simp) (by simp) (by simp) (by simp))
          have HM4 := hide (fun (W' : World) (hb' : Below w6.heap.size w6 W') => HB2.out.m.keepT (HK4.out W' hb') (by simp) (by simp) (by simp))
          have HC12 := hide (fun (W' : World) (hb' : Below w6.heap.size w6 W') => procCount_spec (HP4.out W' hb'))
          have HC13 := hide (fun (W' : World) (hb' : Below w6.heap.size w6 W') => started_spec (HP4.out W' hb'))
          have HC15 := hide (fun (W' : World) (hb' : Below w6.heap.size w6 W') => parserHistory_spec (HP4.out W' hb'))
          have HC14 := hide (fun (W' : World) (hb' : Below w6.heap.size w6 W') => sameHistory_spec W0.heap.size hb wb m im wm (0 + 1 + o1.length + 1 + o2.length) il _ W' (HP4.out W' hb').2.2 (HM4.out W' hb') HH2.out (by have := HLS.out; omega))
          obtain ⟨nv, ov, L, hms⟩ := HB2.out.m
          obtain ⟨np, ncap, rfl⟩ := ownsRow_form hms.names
          have cN : w6.cell? ⟨m, 1, none⟩ = some (.slice np h2.procs.length ncap) := by rw [row_cell hms.row]; simp
          have hml : m < w6.heap.size := lt_of_get hms.row
          clear hms
          have HBB := hide HB2.out.below
          have hbz : Below w6.heap.size w6 w6 := Below.refl _ _
          clear HEV HB0 HP4 HM4 HK4
          go_region_held3 (fun w' => w'.cell? ⟨m, 1, none⟩ = some (.slice np h2.procs.length ncap)) (first | go_keep | (rw [hb9.cell (p := ⟨m, 1, none⟩) hml]; first | assumption | exact cN | go_keep)) (first | (go_at_call 12; refine (HC12.out _ (by first | exact hbz | exact hbz.drew)).mono ?_; rintro e wx ⟨rfl, e1⟩; replace e1 := e1.symm; subst e1) | (go_at_call 13; refine (HC13.out _ (by first | exact hbz | exact hbz.drew)).mono ?_; rintro e wx ⟨rfl, e1⟩; replace e1 := e1.symm; subst e1) | (go_at_call 15; refine (HC15.out _ (by first | exact hbz | exact hbz.drew)).mono ?_; rintro e wx ⟨rfl, e1⟩; replace e1 := e1.symm; subst e1) | (go_at_call 14; refine (HC14.out _ (by first | exact hbz | exact hbz.drew)).mono ?_; rintro e w9 ⟨rfl, hb9⟩))
          go_wp2
          go_ret
          exact ⟨rfl, HBB.out.trans ((hbz.drew.trans hb9).mono HBB.out.size)⟩

        | true =>
          go_upto_region 15 with (go_at_call 8; refine HPP.out.mono ?_; rintro e w5 ⟨hE, _, hP3, k3⟩; obtain rfl := hE rfl; clear hE)
          have HMQ := hide (HMP.out w5 (HB1.out.left k3).1)
          go_upto_region 16 with (go_at_call 9; refine HMQ.out.mono ?_; rintro e w6 ⟨rfl, hM4, k4⟩)
          have HB0 := hide (HB1.out.both k3 hP3 hM4 k4)
          have HB2 := HB0
          have HSE := hide (sameErr_ok file 0 w6)
          clear k3 hP3 hM4 k4 HMQ HMP HPP HB1
          have HI2 := hide (procIndex_spec HB2.out.p n2 _ HF2.out)
          obtain ⟨lk3, lk4⟩ := HB2.out.m.look n2 _ HF2.out
          go_upto_region 21 with first | (go_at_call 10; refine HSE.out.mono ?_; rintro e wx ⟨rfl, e1⟩; replace e1 := e1.symm; subst e1) | (go_at_call 11; refine HI2.out.mono ?_; rintro e wx ⟨rfl, e1⟩; replace e1 := e1.symm; subst e1)
          clear lk3 lk4 HI2 HSE
          have HI1 := hide (procIndex_spec HB2.out.p n1 _ HF3.out)
          obtain ⟨lk1, lk2⟩ := HB2.out.m.look n1 _ HF3.out
          go_upto_region 24 with (go_at_call 11; refine HI1.out.mono ?_; rintro e wx ⟨rfl, e1⟩; replace e1 := e1.symm; subst e1)
          clear lk1 lk2 HI1
          have HK4 := hide (fun (W' : World) (hb' : Below w6.heap.size w6 W') => (show KeepsT W0.heap.size [] [] w6 W' from KeepsT.of_below hb' (Nat.le_refl _)))
          have HP4 := hide (fun (W' : World) (hb' : Below w6.heap.size w6 W') => HB2.out.p.keepT (HK4.out W' hb') (by simp) (by simp) (by simp) (by simp))
          have HM4 := hide (fun (W' : World) (hb' : Below w6.heap.size w6 W') => HB2.out.m.keepT (HK4.out W' hb') (by simp) (by simp) (by simp))
          have HC12 := hide (fun (W' : World) (hb' : Below w6.heap.size w6 W') => procCount_spec (HP4.out W' hb'))
          have HC13 := hide (fun (W' : World) (hb' : Below w6.heap.size w6 W') => started_spec (HP4.out W' hb'))
          have HC15 := hide (fun (W' : World) (hb' : Below w6.heap.size w6 W') => parserHistory_spec (HP4.out W' hb'))
          have HC14 := hide (fun (W' : World) (hb' : Below w6.heap.size w6 W') => sameHistory_spec W0.heap.size hb wb m im wm (0 + 1 + o1.length + 1 + o2.length) il _ W' (HP4.out W' hb').2.2 (HM4.out W' hb') HH2.out (by have := HLS.out; omega))
          obtain ⟨nv, ov, L, hms⟩ := HB2.out.m
          obtain ⟨np, ncap, rfl⟩ := ownsRow_form hms.names
          have cN : w6.cell? ⟨m, 1, none⟩ = some (.slice np h2.procs.length ncap) := by rw [row_cell hms.row]; simp
          have hml : m < w6.heap.size := lt_of_get hms.row
          clear hms
          have HBB := hide HB2.out.below
          have hbz : Below w6.heap.size w6 w6 := Below.refl _ _
          clear HEV HB0 HP4 HM4 HK4
          go_region_held3 (fun w' => w'.cell? ⟨m, 1, none⟩ = some (.slice np h2.procs.length ncap)) (first | go_keep | (rw [hb9.cell (p := ⟨m, 1, none⟩) hml]; first | assumption | exact cN | go_keep)) (first | (go_at_call 12; refine (HC12.out _ (by first | exact hbz | exact hbz.drew)).mono ?_; rintro e wx ⟨rfl, e1⟩; replace e1 := e1.symm; subst e1) | (go_at_call 13; refine (HC13.out _ (by first | exact hbz | exact hbz.drew)).mono ?_; rintro e wx ⟨rfl, e1⟩; replace e1 := e1.symm; subst e1) | (go_at_call 15; refine (HC15.out _ (by first | exact hbz | exact hbz.drew)).mono ?_; rintro e wx ⟨rfl, e1⟩; replace e1 := e1.symm; subst e1) | (go_at_call 14; refine (HC14.out _ (by first | exact hbz | exact hbz.drew)).mono ?_; rintro e w9 ⟨rfl, hb9⟩))
          go_wp2
          go_ret
          exact ⟨rfl, HBB.out.trans ((hbz.drew.trans hb9).mono HBB.out.size)⟩
  · have HBY := hide (zzBytes_false file (baOf il) (baOf n1) (baOf o1) (baOf n2) (baOf o2) W0 hs)
    clear hs EV
    go_enter Tryf.func3, Tryf.ntmps3
    go_wp2_with (go_at_call 4; refine HBY.out.mono ?_; rintro e wa ⟨rfl, e1⟩; replace e1 := e1.symm; subst e1)
    go_ret
    exact ⟨rfl, Below.refl _ _⟩

end Go.Proofs.Qxb6605907aFmt
