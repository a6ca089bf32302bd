import Derived.Test.Qxb6605907aGreatFmtFs0
import Derived.RangeFuncNested
import Derived.RangeFuncBound
import Derived.RangeFuncCalls
import Derived.RangeFuncLeaves
import Derived.Shelf.Abstract
import Derived.Shelf.RegionOpen
import Derived.WalkKit
import Derived.OwnWalkIn
import Derived.TacticsInMore
import Derived.LoopNIn
import Derived.LoopIn
namespace Go.Proofs.Qxb6605907aGreatFmt
open Go.RowKit Go.Shelf
attribute [local go_sem] Oper.semAt_some

/-- A field as the iterator hands it over. -/
abbrev Fld := { x : ByteArray // x.size ≤ 1048577 }
def fL (x : Fld) : List UInt8 := x.1.data.toList

/-- What the iterator reads between two rounds is as it was. -/
def Kf (bs bf : Nat) (A B : World) : Prop := B.heap[bs]? = A.heap[bs]? ∧ B.heap[bf]? = A.heap[bf]? ∧ B.heap[2]? = A.heap[2]? ∧ B.heap[3]? = A.heap[3]?

theorem Kf.refl (bs bf : Nat) (A : World) : Kf bs bf A A := ⟨rfl, rfl, rfl, rfl⟩
theorem Kf.trans {bs bf : Nat} {A B C : World} (h : Kf bs bf A B) (k : Kf bs bf B C) : Kf bs bf A C := ⟨k.1.trans h.1, k.2.1.trans h.2.1, k.2.2.1.trans h.2.2.1, k.2.2.2.trans h.2.2.2⟩
theorem Kf.of_below {bs bf C : Nat} {A B : World} (h : Below C A B) (h1 : bs < C) (h2 : bf < C) (h3 : 2 < C) (h4 : 3 < C) : Kf bs bf A B := ⟨h.block _ h1, h.block _ h2, h.block _ h3, h.block _ h4⟩

theorem run_cell_of {w : World} {b : Nat} {v : Value} {t : TypeId} (h : w.heap[b]? = some (.cells #[v] t (0, 0))) : w.cell? ⟨b, 0, none⟩ = some v := by rw [row_cell h]; rfl

theorem utf8_kept {A B : World} (h : Lib.Utf8Tabs 2 3 A) (h0 : B.heap[2]? = A.heap[2]?) (h1 : B.heap[3]? = A.heap[3]?) : Lib.Utf8Tabs 2 3 B := by
  have e0 : ∀ c, B.cell? ⟨2, c, none⟩ = A.cell? ⟨2, c, none⟩ := fun c => by simp only [World.cell?, h0]
  have e1 : ∀ c, B.cell? ⟨3, c, none⟩ = A.cell? ⟨3, c, none⟩ := fun c => by simp only [World.cell?, h1]
  exact ⟨fun c hc => (e0 c).trans (h.1 c hc), fun i hi => ⟨(e1 _).trans (h.2 i hi).1, (e1 _).trans (h.2 i hi).2⟩⟩

def soInt (so : Option Nat) : Int := match so with
  | none => -1
  | some s => s

set_option maxRecDepth 100000 in
set_option maxHeartbeats 4000000 in
theorem fields_stops (n : Nat) (hn : 2 ≤ n) (bs bf : Nat) (x : ByteArray) (hx : x.size ≤ 1048577) (w : World)
    (hbs : w.heap[bs]? = some (.cells #[.string x] 9 (0, 0))) (hbf : w.heap[bf]? = some (.cells #[.func (.func 37) #[] #[]] 98 (0, 0))) (hU : Lib.Utf8Tabs 2 3 w) (hg0 : 2 < w.heap.size) (hg1 : 3 < w.heap.size) :
    SeqStopsK Fence.wide n Tryz.prog 52 #[.pointer (some ⟨bs, 0, none⟩), .pointer (some ⟨bf, 0, none⟩)] (fun f : Fld => #[.string f.1]) (Kf bs bf)
      (fun xs => xs.map fL = fields x.data.toList) (fun pre => pre.map fL <+: fields x.data.toList) (fields x.data.toList).length w := by
  intro l J Jx W hW hJ hJx hY h0
  have hn1 : 1 ≤ n := by omega
  have hbsW : W.heap[bs]? = some (.cells #[.string x] 9 (0, 0)) := (hW.block bs (Array.getElem?_eq_some_iff.1 hbs).1).trans hbs
  have hbfW : W.heap[bf]? = some (.cells #[.func (.func 37) #[] #[]] 98 (0, 0)) := (hW.block bf (Array.getElem?_eq_some_iff.1 hbf).1).trans hbf
  have hUW : Lib.Utf8Tabs 2 3 W := utf8_kept hU (hW.block _ hg0) (hW.block _ hg1)
  have hsW := hW.size
  have HF : Hid (∀ wr, Kf bs bf W wr → wr.cell? ⟨bs, 0, none⟩ = some (.string x) ∧ wr.cell? ⟨bf, 0, none⟩ = some (.func (.func 37) #[] #[]) ∧ Lib.Utf8Tabs 2 3 wr ∧ bs < wr.heap.size ∧ bf < wr.heap.size ∧ 2 < wr.heap.size ∧ 3 < wr.heap.size) := fun wr hk => by
    have e1 := hk.1.trans hbsW
    have e2 := hk.2.1.trans hbfW
    have lt : ∀ k, k < W.heap.size → wr.heap[k]? = W.heap[k]? → k < wr.heap.size := fun k hk1 e => by
      rw [Array.getElem?_eq_getElem hk1] at e
      exact (Array.getElem?_eq_some_iff.1 e).1
    exact ⟨run_cell_of e1, run_cell_of e2, utf8_kept hUW hk.2.2.1 hk.2.2.2, (Array.getElem?_eq_some_iff.1 e1).1, (Array.getElem?_eq_some_iff.1 e2).1, lt _ (by omega) hk.2.2.1, lt _ (by omega) hk.2.2.2⟩
  have HJ : Hid (∀ pre wr w2, J pre wr → Below wr.heap.size wr w2 → J pre w2) := fun pre wr w2 hj hb => hJ pre wr w2 none hj ⟨hb.os, hb.tape, hb.output, hb.size, fun k hk _ => hb.block k hk⟩ (fun r e => by cases e)
  have HY := hide hY
  have H0 := hide h0
  obtain ⟨T, hT⟩ : ∃ T, x.data.toList = T := ⟨_, rfl⟩
  have HL : Hid (T.length = x.size) := by rw [← hT]; exact size_list x
  have HG : Hid (∀ k (h : k < x.size), T[k]? = some x[k]) := fun k h => by rw [← hT]; exact getL x k h
  have HT := hide hT
  rw [hT] at HY ⊢
  clear hT hY h0 hJ hJx hU hW hbs hbf hbsW hbfW hUW hg0 hg1
  refine callsIn_of_wp Tryz.func52 rfl trivial ?_ rfl
  simp only [Tryz.ntmps52, List.size_toArray, List.length_cons, List.length_nil, Nat.reduceAdd, Nat.reduceSub, Array.replicate_succ, Array.replicate_zero, List.push_toArray, List.append_toArray, List.nil_append, List.cons_append]
  gi_wp2
  gi_loopw [4, 5] (fun sv iv wr => ∃ (so : Option Nat) (i : Nat) (pre : List Fld), sv = .int .i64 (soInt so) ∧ iv = .int .i64 i ∧ i ≤ x.size ∧ FsSt T so i (pre.map fL) ∧ J pre wr ∧ Kf bs bf W wr) (fun _ iv _ => x.size - (intOf iv).toNat)
  case atStart => exact ⟨none, 0, [], rfl, rfl, Nat.zero_le _, FsSt.start T, H0.out, Kf.refl _ _ _⟩
  case round =>
    obtain ⟨so, i, pre, rfl, rfl, hi, hst, hj, hk⟩ := hrel
    have HST := hide hst
    have HJP := hide hj
    have HK := hide hk
    obtain ⟨c1, c2, hUr, l1, l2, l3, l4⟩ := HF.out wr hk
    have HU := hide hUr
    have HI := hide hi
    clear hst hj hk hUr hi
    by_cases hlt : i < x.size
    · have HLT := hide hlt
      have HC := hide (HG.out i hlt)
      have HD := hide (Any.utf8_DecodeRuneInString Tryz.lays197 (x.extract i x.size) wr HU.out)
      change Hid (Calls Tryz.prog 53 #[.string (x.extract i x.size)] wr fun e w' => e = .returned (.tuple #[.int .i32 ((Lib.decodeGo (x.extract i x.size)).1 : Int), .int .i64 ((Lib.decodeGo (x.extract i x.size)).2 : Int)]) ∧ Below wr.heap.size wr w') at HD
      rw [decGo_at x i hlt] at HD
      have HAF : Hid (∀ w2, Below wr.heap.size wr w2 → w2.cell? ⟨bs, 0, none⟩ = some (.string x) ∧ w2.cell? ⟨bf, 0, none⟩ = some (.func (.func 37) #[] #[]) ∧ J pre w2 ∧ Kf bs bf W w2) := fun w2 hb => by
        have hk2 := HK.out.trans (Kf.of_below hb l1 l2 l3 l4)
        obtain ⟨d1, d2, _⟩ := HF.out w2 hk2
        exact ⟨d1, d2, HJ.out pre wr w2 HJP.out hb, hk2⟩
      cases hb : blankB x[i] with
      | true =>
        obtain ⟨hr, hw⟩ := dec_blank x i hlt _ (by rw [HT.out]; exact HC.out) hb
        rw [hw] at HD
        obtain ⟨R, hR⟩ : ∃ R, (Utf8.decode x i).1 = R := ⟨_, rfl⟩
        rw [hR] at HD hr
        have HB := hide (fun W' => isBlank_spec R W')
        rw [hr] at HB
        clear hR hw hr
        cases so with
        | none =>
          rw [show soInt none = -1 from rfl]
          have HS2 := hide (HST.out.skip HC.out hb)
          gi_wp2_with first | (refine ⟨trivial, ?_⟩; gi_at_call 53; refine (callsIn_wide.2 HD.out).mono ?_; rintro e w2 ⟨rfl, hb2⟩; obtain ⟨d1, d2, hj2, hk2⟩ := HAF.out w2 hb2) | (refine ⟨trivial, ?_⟩; gi_at_call 37; refine (callsIn_wide.2 (HB.out _)).mono ?_; rintro e w3 ⟨rfl, rfl⟩)
          go_roundw
          case rel => exact ⟨none, i + 1, pre, rfl, by go_num, HLT.out, HS2.out, hj2, hk2⟩
          case measure => simp [intOf]; omega
        | some s =>
          rw [show soInt (some s) = (s : Int) from rfl]
          have HS2 := hide (HST.out.close HC.out hb)
          have hsi : s < i := (HST.out.word s rfl).1
          have hfs : (x.extract s i).size ≤ 1048577 := by rw [ByteArray.size_extract]; omega
          have hfl : fL ⟨x.extract s i, hfs⟩ = (T.drop s).take (i - s) := by rw [fL, Lib.extract_data, HT.out]
          have HS3 : Hid (FsSt T none (i + 1) ((pre ++ [(⟨x.extract s i, hfs⟩ : Fld)]).map fL)) := by
            show FsSt _ _ _ _
            rw [List.map_append, List.map_singleton, hfl]
            exact HS2.out
          have HPL : Hid (pre.length < (fields T).length) := by
            show _ < _
            rw [HS3.out.came]
            simp
          have HYY : Hid (∀ w2, J pre w2 → YieldAt Fence.wide (n - 1) Tryz.prog l #[.string (x.extract s i)] w2 fun e W' => (e = .returned (.bool true) ∧ J (pre ++ [⟨x.extract s i, hfs⟩]) W' ∧ Kf bs bf w2 W') ∨ (e = .returned (.bool false) ∧ Jx (pre ++ [⟨x.extract s i, hfs⟩]) W')) := fun w2 hj => HY.out pre ⟨x.extract s i, hfs⟩ w2 hj HPL.out
          have HPF : Hid ((pre ++ [(⟨x.extract s i, hfs⟩ : Fld)]).map fL <+: fields T) := ⟨_, HS3.out.came.symm⟩
          clear hfl
          gi_wp2_with first | (refine ⟨trivial, ?_⟩; gi_at_call 53; refine (callsIn_wide.2 HD.out).mono ?_; rintro e w2 ⟨rfl, hb2⟩; obtain ⟨d1, d2, hj2, hk2⟩ := HAF.out w2 hb2; obtain ⟨fn, tmps, assign, body, hy, hR⟩ := HYY.out w2 hj2) | (refine ⟨trivial, ?_⟩; gi_at_call 37; refine (callsIn_wide.2 (HB.out _)).mono ?_; rintro e w3 ⟨rfl, rfl⟩)
          refine hR.mono ?_
          rintro e W3 (⟨rfl, hJ3, hk3⟩ | ⟨rfl, hJx3⟩)
          · gi_wp2
            go_roundw
            case rel => exact ⟨none, i + 1, _, rfl, by go_num, HLT.out, HS3.out, hJ3, hk2.trans hk3⟩
            case measure => simp [intOf]; omega
          · gi_wp2
            refine bodyPost_ret (results_none rfl _ _ _) rfl ?_
            exact ⟨⟨_, rfl⟩, .inr ⟨_, HPF.out, hJx3⟩⟩
      | false =>
        have hdw := dec_word x i hlt _ (by rw [HT.out]; exact HC.out) hb
        obtain ⟨R, hR⟩ : ∃ R, (Utf8.decode x i).1 = R := ⟨_, rfl⟩
        obtain ⟨K, hKK⟩ : ∃ K, (Utf8.decode x i).2 = K := ⟨_, rfl⟩
        rw [hR, hKK] at HD hdw
        obtain ⟨hr, hk1, hk2, hno⟩ := hdw
        rw [HT.out] at hno
        have HB := hide (fun W' => isBlank_spec R W')
        rw [hr] at HB
        have HS2 := hide (HST.out.step hk1 (by rw [HL.out]; exact hk2) hno)
        have hwr : IntKind.i64.wrap ((i : Int) + (K : Int)) = ((i + K : Nat) : Int) := by rw [IntWalk.i64_in _ (by omega)]; omega
        have HK1 := hide hk1
        have HK2 := hide hk2
        clear hR hKK hr hno
        cases so with
        | none =>
          rw [show soInt none = -1 from rfl]
          gi_wp2_with first | (refine ⟨trivial, ?_⟩; gi_at_call 53; refine (callsIn_wide.2 HD.out).mono ?_; rintro e w2 ⟨rfl, hb2⟩; obtain ⟨d1, d2, hj2, hk2⟩ := HAF.out w2 hb2) | (refine ⟨trivial, ?_⟩; gi_at_call 37; refine (callsIn_wide.2 (HB.out _)).mono ?_; rintro e w3 ⟨rfl, rfl⟩)
          go_roundw
          case rel => exact ⟨some i, i + K, pre, rfl, by go_num, HK2.out, HS2.out, hj2, by assumption⟩
          case measure => have := HK1.out; have := HK2.out; simp [intOf]; omega
        | some s =>
          rw [show soInt (some s) = (s : Int) from rfl]
          have hs0 : ¬ ((s : Int) < 0) := by omega
          gi_wp2_with first | (refine ⟨trivial, ?_⟩; gi_at_call 53; refine (callsIn_wide.2 HD.out).mono ?_; rintro e w2 ⟨rfl, hb2⟩; obtain ⟨d1, d2, hj2, hk2⟩ := HAF.out w2 hb2) | (refine ⟨trivial, ?_⟩; gi_at_call 37; refine (callsIn_wide.2 (HB.out _)).mono ?_; rintro e w3 ⟨rfl, rfl⟩)
          go_roundw
          case rel => exact ⟨some s, i + K, pre, rfl, by go_num, HK2.out, HS2.out, hj2, by assumption⟩
          case measure => have := HK1.out; have := HK2.out; simp [intOf]; omega
    · have hie : i = T.length := by have := HL.out; have := HI.out; omega
      have HIE := hide hie
      clear hie
      cases so with
      | none =>
        rw [show soInt none = -1 from rfl]
        have HE : Hid (pre.map fL = fields T) := by
          have h := HST.out
          rw [HIE.out] at h
          exact h.ends.symm
        gi_wp2
        go_end0
        exact ⟨⟨_, rfl⟩, .inl ⟨pre, HE.out, HJP.out⟩⟩
      | some s =>
        rw [show soInt (some s) = (s : Int) from rfl]
        have hsi : s < i := (HST.out.word s rfl).1
        have hfs : (x.extract s x.size).size ≤ 1048577 := by rw [ByteArray.size_extract]; omega
        have hfl : fL ⟨x.extract s x.size, hfs⟩ = T.drop s := by
          rw [fL, Lib.extract_data, HT.out, List.take_of_length_le (by rw [List.length_drop, HL.out]; exact Nat.le_refl _)]
        have HE : Hid ((pre ++ [(⟨x.extract s x.size, hfs⟩ : Fld)]).map fL = fields T) := by
          have h := HST.out
          rw [HIE.out] at h
          show _ = _
          rw [List.map_append, List.map_singleton, hfl, h.last]
        have HPL : Hid (pre.length < (fields T).length) := by
          show _ < _
          rw [← HE.out]
          simp
        obtain ⟨fn, tmps, assign, body, hy, hR⟩ := HY.out pre ⟨x.extract s x.size, hfs⟩ wr HJP.out HPL.out
        dsimp only at hy
        have hsx : s ≤ x.size := by have := HI.out; omega
        clear hfl
        gi_wp2
        refine hR.mono ?_
        rintro e W3 (⟨rfl, hJ3, hk3⟩ | ⟨rfl, hJx3⟩)
        · gi_wp2
          go_end0
          exact ⟨⟨_, rfl⟩, .inl ⟨_, HE.out, hJ3⟩⟩
        · gi_wp2
          go_end0
          exact ⟨⟨_, rfl⟩, .inr ⟨_, by rw [HE.out]; exact List.prefix_refl _, hJx3⟩⟩

end Go.Proofs.Qxb6605907aGreatFmt
