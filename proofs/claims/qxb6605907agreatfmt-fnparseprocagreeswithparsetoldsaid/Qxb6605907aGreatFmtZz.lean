import Derived.Test.Qxb6605907aGreatFmtZt
import Derived.Test.Qxb6605907aGreatFmtZx
import Derived.Test.Qxb6605907aGreatFmtZh
import Derived.Test.Qxb6605907aGreatFmtZn
namespace Go.Proofs.Qxb6605907aGreatFmt
open Go.RowKit

set_option maxRecDepth 100000 in
theorem zz3_true (a b c : ByteArray) (w : World) (h : a.size + b.size + c.size ≤ 1048576) :
    Calls Tryz.prog 9 #[.string a, .string b, .string c] w fun e w' => e = .returned (.bool true) ∧ w' = w := by
  have ha : ¬ ((1048576 : Int) < (a.size : Int)) := by omega
  have hb : ¬ ((1048576 : Int) < (b.size : Int)) := by omega
  have hc : ¬ ((1048576 : Int) < (c.size : Int)) := by omega
  have s2 : ¬ ((1048576 : Int) < (a.size : Int) + (b.size : Int)) := by omega
  have w2 : IntKind.i64.wrap ((a.size : Int) + (b.size : Int)) = (a.size : Int) + (b.size : Int) := IntWalk.i64_in _ (by omega)
  have s3 : ¬ ((1048576 : Int) < (a.size : Int) + (b.size : Int) + (c.size : Int)) := by omega
  have w3 : IntKind.i64.wrap ((a.size : Int) + (b.size : Int) + (c.size : Int)) = (a.size : Int) + (b.size : Int) + (c.size : Int) := IntWalk.i64_in _ (by omega)
  go_enter Tryz.func9, Tryz.ntmps9
  go_wp2
  go_ret
  exact ⟨rfl, rfl⟩

set_option maxRecDepth 100000 in
theorem zz3_false (a b c : ByteArray) (w : World) (h : ¬ (a.size + b.size + c.size ≤ 1048576)) :
    Calls Tryz.prog 9 #[.string a, .string b, .string c] w fun e w' => e = .returned (.bool false) ∧ w' = w := by
  by_cases ha : (1048576 : Int) < (a.size : Int)
  · go_enter Tryz.func9, Tryz.ntmps9
    go_wp2
    go_ret
    exact ⟨rfl, rfl⟩
  · by_cases hb : (1048576 : Int) < (b.size : Int)
    · go_enter Tryz.func9, Tryz.ntmps9
      go_wp2
      go_ret
      exact ⟨rfl, rfl⟩
    · have w2 : IntKind.i64.wrap ((a.size : Int) + (b.size : Int)) = (a.size : Int) + (b.size : Int) := IntWalk.i64_in _ (by omega)
      by_cases s2 : (1048576 : Int) < (a.size : Int) + (b.size : Int)
      · go_enter Tryz.func9, Tryz.ntmps9
        go_wp2
        go_ret
        exact ⟨rfl, rfl⟩
      · by_cases hc : (1048576 : Int) < (c.size : Int)
        · go_enter Tryz.func9, Tryz.ntmps9
          go_wp2
          go_ret
          exact ⟨rfl, rfl⟩
        · have w3 : IntKind.i64.wrap ((a.size : Int) + (b.size : Int) + (c.size : Int)) = (a.size : Int) + (b.size : Int) + (c.size : Int) := IntWalk.i64_in _ (by omega)
          have s3 : (1048576 : Int) < (a.size : Int) + (b.size : Int) + (c.size : Int) := by omega
          go_enter Tryz.func9, Tryz.ntmps9
          go_wp2
          go_ret
          exact ⟨rfl, rfl⟩

theorem history_spec (pb sc hb mb : Nat) (b1 b2 : Bool) (w : World) (hr : w.heap[pb]? = some (.cells #[.pointer (some ⟨sc, 0, none⟩), .pointer (some ⟨hb, 0, none⟩), .map (some mb), .bool b1, .bool b2] 78 (0, 0))) :
    Calls Tryz.prog 13 #[.pointer (some ⟨pb, 0, none⟩)] w fun e w' => e = .returned (.pointer (some ⟨hb, 0, none⟩)) ∧ w' = w := by
  have c1 : w.cell? ⟨pb, 1, none⟩ = some (.pointer (some ⟨hb, 0, none⟩)) := by rw [row_cell hr]; rfl
  go_enter Tryz.func13, Tryz.ntmps13
  go_wp2
  go_ret
  exact ⟨rfl, rfl⟩

/-- ZZParseProc, as parseProc. -/
theorem zzParseProc_spec (W0 : World) (EV : EnvF W0) (pb sc hb mb wb c : Nat) (file : ByteArray) (line : Int) (ini st : Bool) (init name ops : List UInt8) (h : HP) (w : World) (hl : Low W0 w)
    (hP : POk W0.heap.size w pb sc hb mb wb file line ini st init h) (hO : HOk h c) (hc : c + ops.length + 1 ≤ 2097152) (hlo : ops.length ≤ 1048577) :
    Calls Tryz.prog 12 #[.pointer (some ⟨pb, 0, none⟩), .string (baOf name), .string (baOf ops)] w fun e w' =>
      ((procP init h name ops).2 = true → e = .returned (.pointer none)) ∧
      ((procP init h name ops).2 = false → ∃ eb s, e = .returned (.pointer (some ⟨eb, 0, none⟩)) ∧ w'.heap[eb]? = some (.cells #[.string file, .int .i64 line, .string s] 31 (0, 0))) ∧
      POk W0.heap.size w' pb sc hb mb wb file line ini true init (procP init h name ops).1 ∧ KeepsT W0.heap.size pTs [mb, wb] w w' := by
  have HC := hide (parseProc_spec W0 EV pb sc hb mb wb c file line ini st init name ops h w hl hP hO hc hlo)
  obtain ⟨R, hR⟩ : ∃ R, procP init h name ops = R := ⟨_, rfl⟩
  rw [hR] at HC ⊢
  clear hR hP hO hl EV
  obtain ⟨h2, ok⟩ := R
  dsimp only at HC ⊢
  cases ok with
  | true =>
    have HC2 : Hid (Calls Tryz.prog 27 #[.pointer (some ⟨pb, 0, none⟩), .string (baOf name), .string (baOf ops)] w fun e w' => e = .returned (.pointer none) ∧ POk W0.heap.size w' pb sc hb mb wb file line ini true init h2 ∧ KeepsT W0.heap.size pTs [mb, wb] w w') :=
      HC.out.mono fun e w' ⟨h1, _, h3, h4⟩ => ⟨h1 rfl, h3, h4⟩
    clear HC
    go_enter Tryz.func12, Tryz.ntmps12
    go_wp2_with (go_at_call 27; refine HC2.out.mono ?_; rintro e w2 ⟨rfl, h3, h4⟩)
    go_ret
    exact ⟨fun _ => rfl, fun e => (by cases e), h3, h4⟩
  | false =>
    have HC2 : Hid (Calls Tryz.prog 27 #[.pointer (some ⟨pb, 0, none⟩), .string (baOf name), .string (baOf ops)] w fun e w' => ∃ eb s, e = .returned (.pointer (some ⟨eb, 0, none⟩)) ∧ w'.heap[eb]? = some (.cells #[.string file, .int .i64 line, .string s] 31 (0, 0)) ∧ POk W0.heap.size w' pb sc hb mb wb file line ini true init h2 ∧ KeepsT W0.heap.size pTs [mb, wb] w w') :=
      HC.out.mono fun e w' ⟨_, h2', h3, h4⟩ => by
        obtain ⟨eb, s, a1, a2⟩ := h2' rfl
        exact ⟨eb, s, a1, a2, h3, h4⟩
    clear HC
    go_enter Tryz.func12, Tryz.ntmps12
    go_wp2_with (go_at_call 27; refine HC2.out.mono ?_; rintro e w2 ⟨eb, s, rfl, hr, h3, h4⟩)
    go_ret
    exact ⟨fun e => (by cases e), fun _ => ⟨eb, s, rfl, hr⟩, h3, h4⟩

set_option maxRecDepth 100000 in
set_option maxHeartbeats 4000000 in
/-- parseProc on a fresh parser and Parse of the one line NAME:OPS say the same. -/
theorem agrees_spec (file : ByteArray) (nm op : List UInt8) (w : World) (EV : EnvF w) {ae af : Addr} (ES : EnvS w ae af) :
    Calls Tryz.prog 4 #[.string file, .string (baOf nm), .string (baOf op)] w fun e w' => e = .returned (.bool true) ∧ Below w.heap.size w w' := by
  by_cases hs : file.size + (baOf nm).size + (baOf op).size ≤ 1048576
  · have HB := hide (zz3_true file (baOf nm) (baOf op) w hs)
    have hsn : (baOf nm).size = nm.length := baOf_size nm
    have hso : (baOf op).size = op.length := baOf_size op
    have h3 : ¬ ((1048576 : Int) < (file.size : Int) + ((baOf nm).size : Int) + ((baOf op).size : Int)) := by omega
    have h4 : IntKind.i64.wrap ((file.size : Int) + ((baOf nm).size : Int)) = (file.size : Int) + ((baOf nm).size : Int) := IntWalk.i64_in _ (by omega)
    have h5 : IntKind.i64.wrap ((file.size : Int) + ((baOf nm).size : Int) + ((baOf op).size : Int)) = (file.size : Int) + ((baOf nm).size : Int) + ((baOf op).size : Int) := IntWalk.i64_in _ (by omega)
    have HN := hide (zzIsName_spec (baOf nm) w (by omega))
    rw [baOf_data] at HN
    have HEV := hide EV
    have HES := hide ES
    clear EV ES
    cases hn : isName nm with
    | false =>
      rw [hn] at HN
      go_enter Tryz.func4, Tryz.ntmps4
      go_wp2_with first
        | (go_at_call 9; refine HB.out.mono ?_; rintro e wx ⟨rfl, e1⟩; replace e1 := e1.symm; subst e1)
        | (go_at_call 10; refine HN.out.mono ?_; rintro e wx ⟨rfl, e1⟩; replace e1 := e1.symm; subst e1)
      go_ret
      exact ⟨rfl, Below.refl _ _⟩
    | true =>
      rw [hn] at HN
      have HNM := hide hn
      have HXG : Hid (∀ k (h : k < (baOf op).size), op[k]? = some (baOf op)[k]) := fun k h => by have := Sx.getL (baOf op) k h; rw [baOf_data] at this; exact this
      clear hn
      obtain ⟨x, hx⟩ : ∃ x, baOf op = x := ⟨_, rfl⟩
      have HX := hide hx
      rw [hx] at HB hso h3 h5 HXG hs ⊢
      clear hx
      go_enter Tryz.func4, Tryz.ntmps4
      go_upto_block 0 with first
        | (go_at_call 9; refine HB.out.mono ?_; rintro e wx ⟨rfl, e1⟩; replace e1 := e1.symm; subst e1)
        | (go_at_call 10; refine HN.out.mono ?_; rintro e wx ⟨rfl, e1⟩; replace e1 := e1.symm; subst e1)
      go_cut [7] (fun _ w' => w' = w ∧ ∀ y ∈ op, y ≠ 10 ∧ y ≠ 13 ∧ y ≠ 35)
      case first =>
        go_wp2
        go_loop [7] (fun t => ∃ k : Nat, k ≤ x.size ∧ t = .int .i64 k ∧ ∀ j y, j < k → op[j]? = some y → y ≠ 10 ∧ y ≠ 13 ∧ y ≠ 35) (fun t => x.size - (intOf t).toNat)
        case atStart => exact ⟨0, Nat.zero_le _, rfl, fun j y hj => absurd hj (Nat.not_lt_zero _)⟩
        case round =>
          obtain ⟨k, hk, rfl, hno⟩ := hrel
          have HNO := hide hno
          clear hno
          by_cases hlt : k < x.size
          · have HXK := hide (HXG.out k hlt)
            have hk0 : (0 : Int) ≤ (k : Int) := Int.natCast_nonneg _
            have hk1 : (k : Int) < (x.size : Int) := by omega
            cases h10 : ((x[k].toNat : Int) == 10) with
            | true =>
              go_wp2
              go_ret
              exact ⟨rfl, Below.refl _ _⟩
            | false =>
              cases h13 : ((x[k].toNat : Int) == 13) with
              | true =>
                go_wp2
                go_ret
                exact ⟨rfl, Below.refl _ _⟩
              | false =>
                cases h35 : ((x[k].toNat : Int) == 35) with
                | true =>
                  go_wp2
                  go_ret
                  exact ⟨rfl, Below.refl _ _⟩
                | false =>
                  have HX2 : Hid (∀ j y, j < k + 1 → op[j]? = some y → y ≠ 10 ∧ y ≠ 13 ∧ y ≠ 35) := by
                    intro j y hj hy
                    by_cases hjk : j < k
                    · exact HNO.out j y hjk hy
                    · obtain rfl : j = k := by omega
                      rw [HXK.out] at hy
                      have hy' := Option.some.inj hy
                      rw [hy'] at h10 h13 h35
                      refine ⟨fun e => ?_, fun e => ?_, fun e => ?_⟩
                      · rw [e] at h10; exact absurd h10 (by decide)
                      · rw [e] at h13; exact absurd h13 (by decide)
                      · rw [e] at h35; exact absurd h35 (by decide)
                  go_wp2
                  go_round
                  case rel => exact ⟨k + 1, hlt, by go_num, HX2.out⟩
                  case measure => simp [intOf]; omega
          · have HALL : Hid (∀ y ∈ op, y ≠ 10 ∧ y ≠ 13 ∧ y ≠ 35) := by
              intro y hy
              obtain ⟨j, hj⟩ := List.mem_iff_getElem?.1 hy
              exact HNO.out j y (by have := (List.getElem?_eq_some_iff.1 hj).1; omega) hj
            have hlt' : ¬ ((k : Int) < (x.size : Int)) := by omega
            go_wp2
            go_meet
            exact ⟨rfl, HALL.out⟩
      case rest =>
        obtain ⟨hcw, hall⟩ := hcut
        replace hcw := hcw.symm
        subst hcw
        have HRUN := hide (one_run HNM.out hall)
        have HPR := hide (one_proc nm op)
        have hcat : baOf nm ++ { data := #[58] } ++ x = baOf (nm ++ 58 :: op) := ba_of (by rw [← HX.out]; simp [baOf])
        have hc1 : (baOf nm).size + 1 ≤ 9223372036854775807 := by omega
        have hc2 : (baOf nm).size + 1 + x.size ≤ 9223372036854775807 := by omega
        have HNP := hide (newParser_spec w file [110, 105, 108] false w (Nat.le_refl _))
        have hO0 : HOk ⟨[], []⟩ 0 := ⟨by simp, fun p hp => by simp at hp, fun q hq => by simp at hq⟩
        have HPP := hide (fun (pb sc hb mb wb : Nat) (w1 : World) (hl : Low w w1) (hP : POk w.heap.size w1 pb sc hb mb wb file 0 false false [110, 105, 108] ⟨[], []⟩) =>
          zzParseProc_spec w HEV.out pb sc hb mb wb 0 file 0 false false [110, 105, 108] nm op ⟨[], []⟩ w1 hl hP hO0 (by omega) (by omega))
        rw [HX.out] at HPP
        have HTX := hide (fun (w2 : World) (hl : Low w w2) => parseText_spec w2 (HEV.out.of_low hl) (HES.out.of_low hl) file (baOf (nm ++ 58 :: op)) (by rw [baOf_size, List.length_append, List.length_cons]; omega))
        rw [baOf_data, HRUN.out] at HTX
        clear hall hO0 HRUN HB HN h3 h4 h5
        cases hr : (procP [110, 105, 108] ⟨[], []⟩ nm op).2 with
        | false =>
          have HPP1 : Hid (∀ (pb sc hb mb wb : Nat) (w1 : World), Low w w1 → POk w.heap.size w1 pb sc hb mb wb file 0 false false [110, 105, 108] ⟨[], []⟩ →
              Calls Tryz.prog 12 #[.pointer (some ⟨pb, 0, none⟩), .string (baOf nm), .string x] w1 fun e w' => ∃ eb s, e = .returned (.pointer (some ⟨eb, 0, none⟩)) ∧ w'.heap[eb]? = some (.cells #[.string file, .int .i64 0, .string s] 31 (0, 0)) ∧ KeepsT w.heap.size pTs [mb, wb] w1 w') := by
            intro pb sc hb mb wb w1 hl hP
            refine (HPP.out pb sc hb mb wb w1 hl hP).mono ?_
            rintro e w' ⟨_, hbad, _, hk⟩
            obtain ⟨eb, s, h1, h2⟩ := hbad hr
            exact ⟨eb, s, h1, h2, hk⟩
          have HTX1 : Hid (∀ w2 : World, Low w w2 → Calls Tryz.prog 6 #[.string file, .string (baOf (nm ++ 58 :: op))] w2 fun e w' => ∃ ec s, e = .returned (.tuple #[.pointer none, .pointer (some ⟨ec, 0, none⟩), .bool true]) ∧ w'.heap[ec]? = some (.cells #[.string file, .int .i64 1, .string s] 31 (0, 0)) ∧ Below w2.heap.size w2 w') := by
            intro w2 hl
            refine (HTX.out w2 hl).mono ?_
            rintro e w' ⟨hb3, ⟨h, _⟩ | ⟨n, ec, s2, h, h1, h2⟩⟩
            · rw [hr] at h; cases h
            · rw [hr] at h
              obtain rfl : 1 = n := by simpa using h
              exact ⟨ec, s2, h1, h2, hb3⟩
          have hself : (file.toList == file.toList) = true := by simp
          clear HPP HTX hr
          go_upto_region 16 with first
            | (go_at_call 11; refine HNP.out.mono ?_; rintro e w1 ⟨pb, sc, hb, mb, wb, rfl, hP, _, _, hb1⟩; have HP1 := hide hP; clear hP
               have HL1 : Hid (Low w w1) := (Low.refl w).below hb1)
            | (go_at_call 12; refine (HPP1.out pb sc hb mb wb w1 HL1.out HP1.out).mono ?_; rintro e w2 ⟨eb, s, rfl, hr2, hk2⟩
               have HL2 : Hid (Low w w2) := HL1.out.keepT hk2
               have HB2 : Hid (Below w.heap.size w w2) := KeepsT.belowLow hb1 hk2
               clear hk2)
            | (go_at_call 6; refine (HTX1.out w2 HL2.out).mono ?_; rintro e w3 ⟨ec, s2, rfl, hr3, hb3⟩)
          have k0 := (hb3.block eb (lt_of_get hr2)).trans hr2
          have c0 : w3.cell? ⟨eb, 0, none⟩ = some (.string file) := by rw [row_cell k0]; rfl
          have c1 : w3.cell? ⟨eb, 1, none⟩ = some (.int .i64 0) := by rw [row_cell k0]; rfl
          have d0 : w3.cell? ⟨ec, 0, none⟩ = some (.string file) := by rw [row_cell hr3]; rfl
          have d1 : w3.cell? ⟨ec, 1, none⟩ = some (.int .i64 1) := by rw [row_cell hr3]; rfl
          have HBB : Hid (Below w.heap.size w w3) := HB2.out.trans (hb3.mono HB2.out.size)
          clear k0 hr2 hr3 hb3 hb1
          go_wp2
          go_ret
          exact ⟨rfl, HBB.out⟩
        | true =>
          obtain ⟨h2, hh2⟩ : ∃ h2, (procP [110, 105, 108] ⟨[], []⟩ nm op).1 = h2 := ⟨_, rfl⟩
          simp only [hh2] at HPP HTX HPR
          have HPP1 : Hid (∀ (pb sc hb mb wb : Nat) (w1 : World), Low w w1 → POk w.heap.size w1 pb sc hb mb wb file 0 false false [110, 105, 108] ⟨[], []⟩ →
              Calls Tryz.prog 12 #[.pointer (some ⟨pb, 0, none⟩), .string (baOf nm), .string x] w1 fun e w' => e = .returned (.pointer none) ∧ POk w.heap.size w' pb sc hb mb wb file 0 false true [110, 105, 108] h2 ∧ KeepsT w.heap.size pTs [mb, wb] w1 w') := by
            intro pb sc hb mb wb w1 hl hP
            refine (HPP.out pb sc hb mb wb w1 hl hP).mono ?_
            rintro e w' ⟨hgood, _, hP2, hk⟩
            exact ⟨hgood hr, hP2, hk⟩
          have HTX1 : Hid (∀ w2 : World, Low w w2 → Calls Tryz.prog 6 #[.string file, .string (baOf (nm ++ 58 :: op))] w2 fun e w' => ∃ tb, e = .returned (.tuple #[.pointer (some ⟨tb, 0, none⟩), .pointer none, .bool false]) ∧ Below w2.heap.size w2 w' ∧ ∃ xb c, GOk w2.heap.size w' tb xb [110, 105, 108] h2 ∧ HOk h2 c ∧ c ≤ 1048578) := by
            intro w2 hl
            refine (HTX.out w2 hl).mono ?_
            rintro e w' ⟨hb3, ⟨_, tb, xb, c, h1, hG3, hO3, hc3⟩ | ⟨n, ec, s2, h, _⟩⟩
            · exact ⟨tb, h1, hb3, xb, c, hG3, hO3, hc3⟩
            · rw [hr] at h; cases h
          clear hh2 hr HPP HTX
          go_upto_region 17 with first
            | (go_at_call 11; refine HNP.out.mono ?_; rintro e w1 ⟨pb, sc, hb, mb, wb, rfl, hP, _, _, hb1⟩; have HP1 := hide hP; clear hP
               have HL1 : Hid (Low w w1) := (Low.refl w).below hb1)
            | (go_at_call 12; refine (HPP1.out pb sc hb mb wb w1 HL1.out HP1.out).mono ?_; rintro e w2 ⟨rfl, hP2, hk2⟩
               have HP2 := hide hP2
               have HL2 : Hid (Low w w2) := HL1.out.keepT hk2
               have HB2 : Hid (Below w.heap.size w w2) := KeepsT.belowLow hb1 hk2
               clear hk2 hP2)
            | (go_at_call 6; refine (HTX1.out w2 HL2.out).mono ?_; rintro e w3 ⟨tb, rfl, hb3, hg⟩; have HG3 := hide hg; clear hg)
          obtain ⟨xb, c, hG3, hO3, hc3⟩ := HG3.out
          have HP3 := hide (HP2.out.below hb3)
          have HHS := hide (history_spec pb sc hb mb false true w3 HP3.out.1.prow)
          have HEQ := hide (equalHistories_spec w2.heap.size w.heap.size tb xb hb wb c [110, 105, 108] h2 w3 hG3 HP3.out.2.2 hO3 (by omega))
          have HGE : Hid (∀ w4, Below w3.heap.size w3 w4 → ∃ pg pc, w4.cell? ⟨hb, 1, none⟩ = some (.slice (some ⟨pg, 0, none⟩) 1 pc) ∧ w4.cell? ⟨pg, 0, none⟩ = some (.string (baOf nm))) := by
            intro w4 hb4
            obtain ⟨pv, L, E, hS, _⟩ := (HP3.out.below hb4).2.2
            have hpr := HPR.out
            have hlen : (h2.procs.map (·.1)).length = 1 := by rw [hpr]; rfl
            obtain ⟨pg, pc, e, _⟩ := hS.procs.form (by rw [hlen]; decide)
            rw [hlen] at e
            subst e
            obtain ⟨v0, hv0⟩ : ∃ v0, L[0]? = some v0 := ⟨_, List.getElem?_eq_getElem (by rw [hS.len.1, List.length_map, ← List.length_map (f := fun p => p.1), hlen]; decide)⟩
            have hgt := pRow_get hS.len.2 (i := 0) (show (h2.procs.map (·.1))[0]? = some nm by rw [hpr]; rfl) hv0
            have d0 := (ownsRow_cell hS.procs (g := pg) rfl hgt.1).1
            exact ⟨pg, pc, by rw [row_cell hS.row]; rfl, by simpa using d0⟩
          have HBB : Hid (Below w.heap.size w w3) := HB2.out.trans (hb3.mono HB2.out.size)
          have hself : ((baOf nm).toList == (baOf nm).toList) = true := by simp
          clear hG3 hO3 hb3 hb1
          go_wp2_with first
            | (go_at_call 13; refine HHS.out.mono ?_; rintro e wx ⟨rfl, e1⟩; replace e1 := e1.symm; subst e1)
            | (go_at_call 14; refine HEQ.out.mono ?_; rintro e w4 ⟨rfl, hb4⟩; obtain ⟨pg, pc, q1, q2⟩ := HGE.out w4 hb4)
          go_ret
          exact ⟨rfl, HBB.out.trans (hb4.mono HBB.out.size)⟩
  · have HB := hide (zz3_false file (baOf nm) (baOf op) w hs)
    go_enter Tryz.func4, Tryz.ntmps4
    go_wp2_with (go_at_call 9; refine HB.out.mono ?_; rintro e wx ⟨rfl, e1⟩; replace e1 := e1.symm; subst e1)
    go_ret
    exact ⟨rfl, Below.refl _ _⟩

end Go.Proofs.Qxb6605907aGreatFmt
