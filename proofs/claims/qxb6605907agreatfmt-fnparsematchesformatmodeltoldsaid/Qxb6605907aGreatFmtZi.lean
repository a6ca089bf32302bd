import Derived.Test.Qxb6605907aGreatFmtZf
import Derived.Test.Qxb6605907aGreatFmtZp
import Derived.Test.Qxb6605907aGreatFmtSh2
import Derived.Test.Qxb6605907aGreatFmtPp0
namespace Go.Proofs.Qxb6605907aGreatFmt
open Go.RowKit

/-- What a line leaves. -/
def LineOut (W0 w : World) (pb sc hb mb wb : Nat) (file : ByteArray) (line : Int) (R : PS × Bool) (e : Ending) (w' : World) : Prop :=
  (R.2 = true → e = .returned (.pointer none)) ∧
  (R.2 = false → ∃ eb s, e = .returned (.pointer (some ⟨eb, 0, none⟩)) ∧ w'.heap[eb]? = some (.cells #[.string file, .int .i64 line, .string s] 31 (0, 0))) ∧
  POk W0.heap.size w' pb sc hb mb wb file line R.1.ini R.1.st R.1.init R.1.h ∧ KeepsT W0.heap.size pTs [mb, wb] w w'

section
variable {B : Nat} {w w' : World} {pb sc hb mb wb : Nat} {file : ByteArray} {line : Int} {ini st : Bool} {init : List UInt8} {h : HP}

theorem POk.below (p : POk B w pb sc hb mb wb file line ini st init h) (k : Below w.heap.size w w') : POk B w' pb sc hb mb wb file line ini st init h :=
  p.keepT (show KeepsT B [] [] w w' from KeepsT.of_below k (Nat.le_refl _)) (by simp) (by simp) (by simp) (by simp)

theorem POk.setInit (p : POk B w pb sc hb mb wb file line ini st init h) (tok : List UInt8) :
    POk B (w.setCell ⟨hb, 0, none⟩ (.string (baOf tok))) pb sc hb mb wb file line ini st tok h ∧ KeepsT B pTs [] w (w.setCell ⟨hb, 0, none⟩ (.string (baOf tok))) := by
  obtain ⟨hp, hm, pv, L, E, hS, hE⟩ := p
  have k : KeepsT B [43] [] w (w.setCell ⟨hb, 0, none⟩ (.string (baOf tok))) := (KeepsT.refl _ _ _ w).setCell hS.row (by simp) hS.base.1 _
  refine ⟨⟨hp.keepT k (by simp) (by simp), hm.keepsT k (by simp), pv, L, E, ?_, hE⟩, k.mono (by simp) (by simp)⟩
  exact ⟨row_set hS.row 0 _, ownsRow_keepsT hS.procs k (by simp), fun i v os hv ho => ownsRow_keepsT (hS.each i v os hv ho) k (by simp), hS.len, hS.apart, hS.writes.keepsT k (by simp), hS.ids, hS.base⟩

theorem POk.setIni (p : POk B w pb sc hb mb wb file line ini st init h) (b : Bool) :
    POk B (w.setCell ⟨pb, 3, none⟩ (.bool b)) pb sc hb mb wb file line b st init h ∧ KeepsT B pTs [] w (w.setCell ⟨pb, 3, none⟩ (.bool b)) := by
  obtain ⟨hp, hm, pv, L, E, hS, hE⟩ := p
  have k : KeepsT B [78] [] w (w.setCell ⟨pb, 3, none⟩ (.bool b)) := (KeepsT.refl _ _ _ w).setCell hp.prow (by simp) hp.base.1 _
  obtain ⟨v1, v3, v4, v5, hs⟩ := hp.srow
  exact ⟨⟨⟨row_set hp.prow 3 _, ⟨v1, v3, v4, v5, k.cells _ _ _ _ hs (by simp)⟩, hp.base, hp.ne⟩, hm.keepsT k (by simp), pv, L, E, hS.keepT k (by simp) (by simp), hE⟩, k.mono (by simp) (by simp)⟩

end

/-- The line's token, taken. -/
def iniP (s : PS) (tok : List UInt8) : PS × Bool := if s.ini || s.st then (s, false) else if isValue tok then ({ s with init := tok, ini := true }, true) else (s, false)

set_option maxRecDepth 100000 in
theorem parseInitial_spec (W0 : World) (EV : EnvF W0) (pb sc hb mb wb : Nat) (file : ByteArray) (line : Int) (ini st : Bool) (init tok : List UInt8) (h : HP) (w : World) (hl : Low W0 w)
    (hP : POk W0.heap.size w pb sc hb mb wb file line ini st init h) (hx : tok.length ≤ 1048577) :
    Calls Tryz.prog 48 #[.pointer (some ⟨pb, 0, none⟩), .string (baOf tok)] w fun e w' => LineOut W0 w pb sc hb mb wb file line (iniP ⟨init, ini, st, h⟩ tok) e w' := by
  have p0 : w.cell? ⟨pb, 0, none⟩ = some (.pointer (some ⟨sc, 0, none⟩)) := by rw [row_cell hP.1.prow]; rfl
  have p1 : w.cell? ⟨pb, 1, none⟩ = some (.pointer (some ⟨hb, 0, none⟩)) := by rw [row_cell hP.1.prow]; rfl
  have p3 : w.cell? ⟨pb, 3, none⟩ = some (.bool ini) := by rw [row_cell hP.1.prow]; rfl
  have p4 : w.cell? ⟨pb, 4, none⟩ = some (.bool st) := by rw [row_cell hP.1.prow]; rfl
  have lpb := lt_of_get hP.1.prow
  have HP := hide hP
  have HEV := hide EV
  have HL := hide hl
  obtain ⟨v1, v3, v4, v5, hs⟩ := hP.1.srow
  have HON := hide (errorf_on sc file v1 v3 v4 v5 line w hs)
  have HS := hide hs
  have bad : ∀ (e : Ending) (w' : World) (eb : Nat) (s : ByteArray), e = .returned (.pointer (some ⟨eb, 0, none⟩)) → w'.heap[eb]? = some (.cells #[.string file, .int .i64 line, .string s] 31 (0, 0)) → Below w.heap.size w w' → iniP ⟨init, ini, st, h⟩ tok = (⟨init, ini, st, h⟩, false) → LineOut W0 w pb sc hb mb wb file line (iniP ⟨init, ini, st, h⟩ tok) e w' := by
    intro e w' eb s he hr hb hi
    rw [hi]
    exact ⟨fun e => (by cases e), fun _ => ⟨eb, s, he, hr⟩, HP.out.below hb, KeepsT.of_below hb (Nat.le_refl _)⟩
  have BAD := hide bad
  clear bad hP EV hl hs
  cases hini : ini with
  | true =>
    subst hini
    have hi : iniP ⟨init, true, st, h⟩ tok = (⟨init, true, st, h⟩, false) := by simp [iniP]
    have HI := hide hi
    clear hi
    go_enter Tryz.func48, Tryz.ntmps48
    go_wp2_with (go_at_call 39; refine HON.out.mono ?_; rintro e w2 ⟨eb, s, rfl, hr, _, hb2⟩)
    go_ret
    exact BAD.out _ _ eb s rfl hr hb2 HI.out
  | false =>
    subst hini
    cases hst : st with
    | true =>
      subst hst
      have HI : Hid (iniP ⟨init, false, true, h⟩ tok = (⟨init, false, true, h⟩, false)) := by simp [Hid, iniP]
      go_enter Tryz.func48, Tryz.ntmps48
      go_wp2_with (go_at_call 39; refine HON.out.mono ?_; rintro e w2 ⟨eb, s, rfl, hr, _, hb2⟩)
      go_ret
      exact BAD.out _ _ eb s rfl hr hb2 HI.out
    | false =>
      subst hst
      have HIV := hide (isValue_spec (baOf tok) w)
      rw [baOf_data] at HIV
      cases hv : isValue tok with
      | true =>
        rw [hv] at HIV
        have HI : Hid (iniP ⟨init, false, false, h⟩ tok = (⟨tok, true, false, h⟩, true)) := by simp [Hid, iniP, hv]
        clear BAD HON HS
        go_enter Tryz.func48, Tryz.ntmps48
        go_upto_region 5 with (go_at_call 56; refine HIV.out.mono ?_; rintro e w2 ⟨rfl, hb2⟩)
        have HP2 := hide (HP.out.below hb2)
        have q1 : w2.cell? ⟨pb, 1, none⟩ = some (.pointer (some ⟨hb, 0, none⟩)) := by rw [row_cell HP2.out.1.prow]; rfl
        have HP3 := hide (HP2.out.setInit tok)
        have HP4 := hide (HP3.out.1.setIni true)
        obtain ⟨pv, L, E, hS, hE⟩ := HP2.out.2.2
        have q2 : w2.cell? ⟨hb, 0, none⟩ = some (.string (baOf init)) := by rw [row_cell hS.row]; rfl
        have f2 : w2.frozen? ⟨hb, 0, none⟩ = false := row_frozen hS.row 0
        have q3 : (w2.setCell ⟨hb, 0, none⟩ (.string (baOf tok))).cell? ⟨pb, 3, none⟩ = some (.bool false) := by rw [row_cell HP3.out.1.1.prow]; rfl
        have f3 : (w2.setCell ⟨hb, 0, none⟩ (.string (baOf tok))).frozen? ⟨pb, 3, none⟩ = false := row_frozen HP3.out.1.1.prow 3
        have HK := hide (show KeepsT W0.heap.size pTs [mb, wb] w w2 from KeepsT.of_below hb2 (Nat.le_refl _))
        clear hS hE
        go_wp2
        go_ret
        rw [HI.out]
        exact ⟨fun _ => rfl, fun e => (by cases e), HP4.out.1, (HK.out.trans (HP3.out.2.mono (by simp) (by simp))).trans (HP4.out.2.mono (by simp) (by simp))⟩
      | false =>
        rw [hv] at HIV
        have HI : Hid (iniP ⟨init, false, false, h⟩ tok = (⟨init, false, false, h⟩, false)) := by simp [Hid, iniP, hv]
        go_enter Tryz.func48, Tryz.ntmps48
        go_upto_region 4 with (go_at_call 56; refine HIV.out.mono ?_; rintro e w2 ⟨rfl, hb2⟩)
        have HP2 := hide (HP.out.below hb2)
        have q0 : w2.cell? ⟨pb, 0, none⟩ = some (.pointer (some ⟨sc, 0, none⟩)) := by rw [row_cell HP2.out.1.prow]; rfl
        have HQ := hide (fun (W' : World) (hb' : Below w.heap.size w W') => quote_spec W0 HEV.out (baOf tok) W' (HL.out.below hb') (by rw [baOf_size]; exact hx))
        have lpb2 : pb < w2.heap.size := Nat.lt_of_lt_of_le lpb hb2.size
        go_region_held3 (fun w' => w'.cell? ⟨pb, 0, none⟩ = some (.pointer (some ⟨sc, 0, none⟩)))
          (first
            | go_keep
            | exact c4
            | (rw [hb3.cell (p := ⟨pb, 0, none⟩) lpb2]; first | assumption | go_keep))
          (first
            | (go_at_call 40; refine (HQ.out _ (by first | exact hb2 | exact hb2.drew)).mono ?_; rintro e w3 ⟨⟨q, rfl⟩, hb3⟩
               have hb23 : Below w.heap.size w w3 := hb2.drew.trans (hb3.mono hb2.size)
               have lpb3 : pb < w3.heap.size := Nat.lt_of_lt_of_le lpb hb23.size
               have lsc3 : sc < w3.heap.size := Nat.lt_of_lt_of_le (lt_of_get HS.out) hb23.size
               have HS3 := hide ((hb23.block sc (lt_of_get HS.out)).trans HS.out))
            | (go_at_call 39; refine (errorf_tk sc file v1 v3 v4 v5 line _ q _ (by rw [Below.heap_alloc _ _ _ lsc3]; exact HS3.out) (by simp)).mono ?_; rintro e w4 ⟨eb, s, rfl, hr, _, hb4⟩
               have hb24 : Below w.heap.size w w4 := (hb23.alloc hb23.size _).trans (hb4.mono (by rw [World.size_alloc]; exact Nat.le_succ_of_le hb23.size))
               have c4 := (hb24.cell (p := ⟨pb, 0, none⟩) lpb).trans p0))
        go_wp2
        go_ret
        exact BAD.out _ _ eb s rfl hr hb24 HI.out

end Go.Proofs.Qxb6605907aGreatFmt
