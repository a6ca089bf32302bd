import Derived.Test.Qxb6605907aGreatFmtScn7
namespace Go.Proofs.Qxb6605907aGreatFmt.Sx
open Go.RowKit

def eInts (E : List (Nat × List UInt8)) : List Value := E.map fun e => .int .i64 (e.1 : Int)
def eStrs (E : List (Nat × List UInt8)) : List Value := E.map fun e => .string ⟨e.2.toArray⟩

theorem eInts_snoc (E : List (Nat × List UInt8)) (n : Nat) (l : List UInt8) : eInts E ++ [.int .i64 (n : Int)] = eInts (E ++ [(n, l)]) := by simp [eInts]
theorem eStrs_snoc (E : List (Nat × List UInt8)) (n : Nat) (x : ByteArray) : eStrs E ++ [.string x] = eStrs (E ++ [(n, x.data.toList)]) := by simp [eStrs]

/-- zzLogicalLines's loop. -/
def Logical (x : ByteArray) (B : Nat) (w : World) (v5 v6 v7 v8 : Value) (wr : World) : Prop :=
  ∃ (i n : Nat) (E : List (Nat × List UInt8)), i ≤ x.size + 1 ∧ v8 = .int .i64 i ∧ v7 = .int .i64 n ∧ n ≤ i ∧
    wr.ownsRow B 3 1 v5 E.length (eInts E) ∧ wr.ownsRow B 9 1 v6 E.length (eStrs E) ∧ E.length ≤ n ∧
    E ++ entries n (lines (x.data.toList.drop i)) = entries 0 (lines x.data.toList) ∧ n + (lines (x.data.toList.drop i)).length = (lines x.data.toList).length ∧
    Below B w wr ∧ B ≤ wr.heap.size

set_option maxRecDepth 100000 in
set_option maxHeartbeats 4000000 in
theorem logical_spec (x : ByteArray) (w : World) (hx : x.size ≤ 1048577) :
    Calls Tryz.prog 18 #[.string x] w fun e w' => ∃ v5 v6, e = .returned (.tuple #[v5, v6, .int .i64 ((lines x.data.toList).length : Int)]) ∧
      w'.ownsRow w.heap.size 3 1 v5 (entries 0 (lines x.data.toList)).length (eInts (entries 0 (lines x.data.toList))) ∧
      w'.ownsRow w.heap.size 9 1 v6 (entries 0 (lines x.data.toList)).length (eStrs (entries 0 (lines x.data.toList))) ∧ Below w.heap.size w w' := by
  obtain ⟨i3, hi3, hz30, hz31, hz32⟩ := info_parts (show (Tryz.prog.info? 3).map (fun i => (i.zero, i.size, i.bytes)) = some (some (.int .i64 0), 1, 8) by kernel_rfl)
  obtain ⟨i9, hi9, hz90, hz91, hz92⟩ := info_parts (show (Tryz.prog.info? 9).map (fun i => (i.zero, i.size, i.bytes)) = some (some (.string ⟨#[]⟩), 1, 16) by kernel_rfl)
  obtain ⟨B, hB⟩ : ∃ B, w.heap.size = B := ⟨_, rfl⟩
  rw [hB]
  have HB := hide hB
  go_enter Tryz.func18, Tryz.ntmps18
  go_wp2
  go_loopw [5, 6, 7, 8] (fun v5 v6 v7 v8 wr => Logical x B w v5 v6 v7 v8 wr) (fun _ _ _ v8 _ => x.size + 1 - (intOf v8).toNat)
  case atStart => exact ⟨0, 0, [], Nat.zero_le _, rfl, rfl, Nat.le_refl _, ⟨rfl, Or.inl ⟨rfl, rfl⟩⟩, ⟨rfl, Or.inl ⟨rfl, rfl⟩⟩, Nat.le_refl _, by rw [List.drop_zero, List.nil_append], by rw [List.drop_zero, Nat.zero_add], Below.refl _ _, by rw [hB]; exact Nat.le_refl _⟩
  case round =>
    obtain ⟨i, n, E, hix, rfl, rfl, hni, ho5, ho6, hEn, hent, htot, hbl, hBr⟩ := hrel
    have HO5 := hide ho5
    have HO6 := hide ho6
    have HENT := hide hent
    have HTOT := hide htot
    have HBL := hide hbl
    clear ho5 ho6 hent htot hbl
    by_cases hlt : i < x.size
    · have hlt' : (i : Int) < (x.size : Int) := by omega
      go_upto_block 2 with fail
      go_cut [9] (fun v w' => ∃ j : Nat, v = .int .i64 j ∧ i ≤ j ∧ j ≤ x.size ∧ raw (x.data.toList.drop i) = (x.data.toList.drop i).take (j - i) ∧ aft (x.data.toList.drop i) = x.data.toList.drop (j + 1) ∧ w' = wr)
      case first =>
        go_wp2
        go_loop [9] (fun t => ∃ j : Nat, t = .int .i64 j ∧ i ≤ j ∧ j ≤ x.size ∧ ∀ u, i ≤ u → u < j → x.data.toList[u]? ≠ some 10) (fun t => x.size - (intOf t).toNat)
        case atStart => exact ⟨i, rfl, Nat.le_refl _, Nat.le_of_lt hlt, fun u h1 h2 => by omega⟩
        case round =>
          obtain ⟨j, rfl, hij, hj, hno⟩ := hrel
          have HNO := hide hno
          clear hno
          by_cases hjx : j < x.size
          · cases hb : ((x[j].toNat : Int) == 10) with
            | true =>
              have e : x[j] = 10 := UInt8.toNat_inj.1 (by rw [show (10 : UInt8).toNat = 10 from rfl]; have := beq_iff_eq.1 hb; omega)
              have HX := hide (raw_at x.data.toList i j hij (by rw [size_list]; exact hj) HNO.out (Or.inr (by rw [getL x j hjx, e])))
              clear e
              go_wp2
              go_meet
              exact ⟨j, rfl, hij, hj, HX.out.1, HX.out.2, rfl⟩
            | false =>
              have HX : Hid (∀ u, i ≤ u → u < j + 1 → x.data.toList[u]? ≠ some 10) := by
                intro u h1 h2
                by_cases hu : u < j
                · exact HNO.out u h1 hu
                · obtain rfl : u = j := by omega
                  rw [getL x u hjx]
                  intro h
                  have h' := Option.some.inj h
                  rw [h'] at hb
                  exact absurd hb (by decide)
              go_wp2
              go_round
              case rel => exact ⟨j + 1, by go_num, by omega, by omega, HX.out⟩
              case measure => simp [intOf]; omega
          · have hje : j = x.data.toList.length := by rw [size_list]; omega
            have HX := hide (raw_at x.data.toList i j hij (by rw [size_list]; exact hj) HNO.out (Or.inl hje))
            have hjx' : ¬ ((j : Int) < (x.size : Int)) := by omega
            clear hje
            go_wp2
            go_meet
            exact ⟨j, rfl, hij, hj, HX.out.1, HX.out.2, rfl⟩
      case rest =>
        obtain ⟨j, rfl, hij, hj, hraw, haft, rfl⟩ := hcut
        have hne : x.data.toList.drop i ≠ [] := fun e => by
          have := congrArg List.length e
          rw [List.length_drop, size_list] at this
          simp at this
          omega
        have hln : lines (x.data.toList.drop i) = raw (x.data.toList.drop i) :: lines (x.data.toList.drop (j + 1)) := by rw [lines_step _ hne, haft]
        have HENT2 : Hid (entries n (lines (x.data.toList.drop i)) = if clean (raw (x.data.toList.drop i)) = [] then entries (n + 1) (lines (x.data.toList.drop (j + 1))) else (n + 1, clean (raw (x.data.toList.drop i))) :: entries (n + 1) (lines (x.data.toList.drop (j + 1)))) := by
          show _ = _
          rw [hln]; rfl
        have HTOT2 : Hid (n + 1 + (lines (x.data.toList.drop (j + 1))).length = (lines x.data.toList).length) := by
          show _ = _
          rw [← HTOT.out, hln, List.length_cons]; omega
        obtain ⟨R1, hR1⟩ : ∃ R1, x.extract i j = R1 := ⟨_, rfl⟩
        have hR1l : R1.data.toList = raw (x.data.toList.drop i) := by rw [← hR1, Lib.extract_data, hraw]
        have hR1s : R1.size ≤ 1048577 := by rw [← hR1, ByteArray.size_extract]; omega
        have HO5a := hide (ownsRow_alloc HO5.out (.cells #[.int .i64 ((n : Int) + 1)] 3))
        have HN5 := hide (cell_one_new wc (.int .i64 ((n : Int) + 1)) 3)
        have HR1 := hide hR1l
        clear hne hln hraw haft hR1l
        have hij' : (i : Int) ≤ (j : Int) := by omega
        have hj' : (j : Int) ≤ (x.size : Int) := by omega
        have hw1 : IntKind.i64.wrap ((R1.size : Int) - 1) = (R1.size : Int) - 1 := IntWalk.i64_in _ (by omega)
        by_cases h0 : 0 < R1.size
        · have hw2 : ((R1.size : Int) - 1).toNat = R1.size - 1 := by omega
          have h0' : (0 : Int) < (R1.size : Int) := by omega
          have hw3 : R1.size - 1 < R1.size := by omega
          cases hb : ((R1[R1.size - 1].toNat : Int) == 13) with
          | true =>
            have e13 : R1[R1.size - 1] = 13 := UInt8.toNat_inj.1 (by rw [show (13 : UInt8).toNat = 13 from rfl]; have := beq_iff_eq.1 hb; omega)
            obtain ⟨R2, hR2⟩ : ∃ R2, R1.extract 0 (R1.size - 1) = R2 := ⟨_, rfl⟩
            have hR2l : R2.data.toList = Lib.trimSuffix (raw (x.data.toList.drop i)) [13] := by rw [← hR2, cr_cut R1 h0 e13, HR1.out]
            have hR2s : R2.size ≤ 1048577 := by rw [← hR2, ByteArray.size_extract]; omega
            clear e13
            go_upto_region 14 with fail
            have HIX := hide (zzIndexByte_spec R2 wc hR2s)
            obtain ⟨ix, hix⟩ : ∃ ix, Lib.indexByte R2.data.toList 35 = ix := ⟨_, rfl⟩
            rw [hix] at HIX
            have hge := Lib.indexByte_ge R2.data.toList 35
            rw [hix] at hge
            obtain ⟨L3, hL3, hL3l, hL3s⟩ : ∃ L3 : ByteArray, (if ix = -1 then R2 else R2.extract 0 ix.toNat) = L3 ∧ L3.data.toList = cutHash (Lib.trimSuffix (raw (x.data.toList.drop i)) [13]) ∧ L3.size ≤ 1048577 := by
              refine ⟨_, rfl, ?_, ?_⟩
              · rw [← hR2l, cutHash, hix]
                split
                · rfl
                · rw [Lib.extract_data, List.drop_zero, Nat.sub_zero]
              · split
                · exact hR2s
                · rw [ByteArray.size_extract]; omega
            have HTF := hide (zzTrim_spec L3 wc hL3s)
            obtain ⟨L4, hL4⟩ : ∃ L4 : ByteArray, (⟨(trimB L3.data.toList).toArray⟩ : ByteArray) = L4 := ⟨_, rfl⟩
            have hL4l : L4.data.toList = clean (raw (x.data.toList.drop i)) := by rw [← hL4, hL3l]; rfl
            rw [hL4] at HTF
            have hixl : ∀ o : Nat, ix = (o : Int) → o < R2.size := fun o ho => by
              rw [ho] at hix
              have := (List.getElem?_eq_some_iff.1 (Lib.indexByte_some hix).1).1
              rwa [size_list] at this
            have HL4 := hide hL4l
            have HL3 := hide hL3
            clear hL3l hL4 hL4l hix hL3
            by_cases hneg : ix = -1
            · subst hneg
              have hL3' : L3 = R2 := by rw [← HL3.out, if_pos rfl]
              subst hL3'
              clear hixl hge
              go_upto_region 18 with first | (go_at_call 22; refine HIX.out.mono ?_; rintro e wc ⟨rfl, rfl⟩) | (go_at_call 20; refine HTF.out.mono ?_; rintro e wc ⟨rfl, rfl⟩)
              by_cases hcl : clean (raw (x.data.toList.drop i)) = []
              · have hem := emptyL L4 (by rw [HL4.out]; exact hcl)
                go_wp2
                go_roundw
                case rel =>
                  refine ⟨j + 1, n + 1, E, by omega, by go_num, by go_num, by omega, HO5.out, HO6.out, by omega, ?_, HTOT2.out, HBL.out, hBr⟩
                  rw [← HENT.out, HENT2.out, if_pos hcl]
                case measure => simp [intOf]; omega
              · have hem := nonemptyL L4 (by rw [HL4.out]; exact hcl)
                go_upto_region 20 with (at_builtin; refine wpList_append_own _ rfl (.tmp 64) (.tmp 66) 55 rfl B 3 i3 (.int .i64 0) 1 8 Tryz.underlying55 hi3 hz30 hz31 hz32 rfl (by decide) u5 E.length (eInts E) rfl HO5a.out ⟨wc.heap.size, 0, none⟩ 1 1 [.int .i64 ((n : Int) + 1)] rfl rfl HN5.out (by simp [Value.oneCell']) (by simp [maxLen]; omega) (by omega) (by simp; omega) ?_; intro v5 w5 hv5 hg5 hn5)
                have h6 : (w5.alloc (.cells #[.string L4] 9)).ownsRow B 9 1 u6 E.length (eStrs E) := ownsRow_alloc (ownsRow_grown (ownsRow_alloc HO6.out _) hg5 (fun g hg => by
                  obtain ⟨cur, h1, _⟩ := ownsRow_row HO5a.out g hg
                  exact ⟨cur, 3, h1, by decide⟩)) _
                have hb5 : Below B w w5 := below_grown (HBL.out.alloc hBr _) hg5 (fun g hg => by obtain ⟨_, _, h⟩ := ownsRow_row HO5a.out g hg; exact h) (by rw [World.size_alloc]; omega)
                have hB5 : B ≤ w5.heap.size := Nat.le_trans (by rw [World.size_alloc]; omega) hg5.size
                have HV5 := hide hv5
                have H6 := hide h6
                have HB5 := hide hb5
                have HN6 := hide (cell_one_new w5 (.string L4) 9)
                clear hv5 h6 hb5 hn5
                go_wp2_with (at_builtin; refine wpList_append_own _ rfl (.tmp 68) (.tmp 70) 56 rfl B 9 i9 (.string ⟨#[]⟩) 1 16 Tryz.underlying56 hi9 hz90 hz91 hz92 rfl (by decide) u6 E.length (eStrs E) rfl H6.out ⟨w5.heap.size, 0, none⟩ 1 1 [.string L4] rfl rfl HN6.out (by simp [Value.oneCell']) (by simp [maxLen]; omega) (by omega) (by simp; omega) ?_; intro v6 w6 hv6 hg6 hn6)
                have hv5' : w6.ownsRow B 3 1 v5 (E.length + 1) (eInts E ++ [.int .i64 ((n : Int) + 1)]) := ownsRow_grown (ownsRow_alloc HV5.out _) hg6 (fun g hg => by
                  obtain ⟨cur, h1, _⟩ := ownsRow_row H6.out g hg
                  exact ⟨cur, 9, h1, by decide⟩)
                have hb6 : Below B w w6 := below_grown (HB5.out.alloc hB5 _) hg6 (fun g hg => by obtain ⟨_, _, h⟩ := ownsRow_row H6.out g hg; exact h) (by rw [World.size_alloc]; omega)
                have hB6 : B ≤ w6.heap.size := Nat.le_trans (by rw [World.size_alloc]; omega) hg6.size
                go_roundw
                case rel =>
                  refine ⟨j + 1, n + 1, E ++ [(n + 1, L4.data.toList)], by omega, by go_num, by go_num, by omega, ?_, ?_, ?_, ?_, HTOT2.out, hb6, hB6⟩
                  · rw [← eInts_snoc, List.length_append]; exact hv5'
                  · rw [← eStrs_snoc, List.length_append]; exact hv6
                  · rw [List.length_append, List.length_singleton]; omega
                  · rw [← HENT.out, HENT2.out, if_neg hcl, HL4.out, List.append_assoc]; rfl
                case measure => simp [intOf]; omega
            · obtain ⟨o, rfl⟩ : ∃ o : Nat, ix = (o : Int) := ⟨ix.toNat, by omega⟩
              have hol := hixl o rfl
              have hL3' : R2.extract 0 o = L3 := by rw [← HL3.out, if_neg hneg, Int.toNat_natCast]
              have hole : o ≤ R2.size := Nat.le_of_lt hol
              have hole' : (o : Int) ≤ (R2.size : Int) := by omega
              clear hixl hge
              go_upto_region 18 with first | (go_at_call 22; refine HIX.out.mono ?_; rintro e wc ⟨rfl, rfl⟩) | (go_at_call 20; refine HTF.out.mono ?_; rintro e wc ⟨rfl, rfl⟩)
              by_cases hcl : clean (raw (x.data.toList.drop i)) = []
              · have hem := emptyL L4 (by rw [HL4.out]; exact hcl)
                go_wp2
                go_roundw
                case rel =>
                  refine ⟨j + 1, n + 1, E, by omega, by go_num, by go_num, by omega, HO5.out, HO6.out, by omega, ?_, HTOT2.out, HBL.out, hBr⟩
                  rw [← HENT.out, HENT2.out, if_pos hcl]
                case measure => simp [intOf]; omega
              · have hem := nonemptyL L4 (by rw [HL4.out]; exact hcl)
                go_upto_region 20 with (at_builtin; refine wpList_append_own _ rfl (.tmp 64) (.tmp 66) 55 rfl B 3 i3 (.int .i64 0) 1 8 Tryz.underlying55 hi3 hz30 hz31 hz32 rfl (by decide) u5 E.length (eInts E) rfl HO5a.out ⟨wc.heap.size, 0, none⟩ 1 1 [.int .i64 ((n : Int) + 1)] rfl rfl HN5.out (by simp [Value.oneCell']) (by simp [maxLen]; omega) (by omega) (by simp; omega) ?_; intro v5 w5 hv5 hg5 hn5)
                have h6 : (w5.alloc (.cells #[.string L4] 9)).ownsRow B 9 1 u6 E.length (eStrs E) := ownsRow_alloc (ownsRow_grown (ownsRow_alloc HO6.out _) hg5 (fun g hg => by
                  obtain ⟨cur, h1, _⟩ := ownsRow_row HO5a.out g hg
                  exact ⟨cur, 3, h1, by decide⟩)) _
                have hb5 : Below B w w5 := below_grown (HBL.out.alloc hBr _) hg5 (fun g hg => by obtain ⟨_, _, h⟩ := ownsRow_row HO5a.out g hg; exact h) (by rw [World.size_alloc]; omega)
                have hB5 : B ≤ w5.heap.size := Nat.le_trans (by rw [World.size_alloc]; omega) hg5.size
                have HV5 := hide hv5
                have H6 := hide h6
                have HB5 := hide hb5
                have HN6 := hide (cell_one_new w5 (.string L4) 9)
                clear hv5 h6 hb5 hn5
                go_wp2_with (at_builtin; refine wpList_append_own _ rfl (.tmp 68) (.tmp 70) 56 rfl B 9 i9 (.string ⟨#[]⟩) 1 16 Tryz.underlying56 hi9 hz90 hz91 hz92 rfl (by decide) u6 E.length (eStrs E) rfl H6.out ⟨w5.heap.size, 0, none⟩ 1 1 [.string L4] rfl rfl HN6.out (by simp [Value.oneCell']) (by simp [maxLen]; omega) (by omega) (by simp; omega) ?_; intro v6 w6 hv6 hg6 hn6)
                have hv5' : w6.ownsRow B 3 1 v5 (E.length + 1) (eInts E ++ [.int .i64 ((n : Int) + 1)]) := ownsRow_grown (ownsRow_alloc HV5.out _) hg6 (fun g hg => by
                  obtain ⟨cur, h1, _⟩ := ownsRow_row H6.out g hg
                  exact ⟨cur, 9, h1, by decide⟩)
                have hb6 : Below B w w6 := below_grown (HB5.out.alloc hB5 _) hg6 (fun g hg => by obtain ⟨_, _, h⟩ := ownsRow_row H6.out g hg; exact h) (by rw [World.size_alloc]; omega)
                have hB6 : B ≤ w6.heap.size := Nat.le_trans (by rw [World.size_alloc]; omega) hg6.size
                go_roundw
                case rel =>
                  refine ⟨j + 1, n + 1, E ++ [(n + 1, L4.data.toList)], by omega, by go_num, by go_num, by omega, ?_, ?_, ?_, ?_, HTOT2.out, hb6, hB6⟩
                  · rw [← eInts_snoc, List.length_append]; exact hv5'
                  · rw [← eStrs_snoc, List.length_append]; exact hv6
                  · rw [List.length_append, List.length_singleton]; omega
                  · rw [← HENT.out, HENT2.out, if_neg hcl, HL4.out, List.append_assoc]; rfl
                case measure => simp [intOf]; omega
          | false =>
            have e13 : R1[R1.size - 1] ≠ 13 := fun e => by rw [e] at hb; exact absurd hb (by decide)
            have hR2l : R1.data.toList = Lib.trimSuffix (raw (x.data.toList.drop i)) [13] := by rw [← HR1.out]; exact cr_keep R1 (fun _ => e13)
            have hR2s : R1.size ≤ 1048577 := by omega
            clear e13
            go_upto_region 14 with fail
            have HIX := hide (zzIndexByte_spec R1 wc hR2s)
            obtain ⟨ix, hix⟩ : ∃ ix, Lib.indexByte R1.data.toList 35 = ix := ⟨_, rfl⟩
            rw [hix] at HIX
            have hge := Lib.indexByte_ge R1.data.toList 35
            rw [hix] at hge
            obtain ⟨L3, hL3, hL3l, hL3s⟩ : ∃ L3 : ByteArray, (if ix = -1 then R1 else R1.extract 0 ix.toNat) = L3 ∧ L3.data.toList = cutHash (Lib.trimSuffix (raw (x.data.toList.drop i)) [13]) ∧ L3.size ≤ 1048577 := by
              refine ⟨_, rfl, ?_, ?_⟩
              · rw [← hR2l, cutHash, hix]
                split
                · rfl
                · rw [Lib.extract_data, List.drop_zero, Nat.sub_zero]
              · split
                · exact hR2s
                · rw [ByteArray.size_extract]; omega
            have HTF := hide (zzTrim_spec L3 wc hL3s)
            obtain ⟨L4, hL4⟩ : ∃ L4 : ByteArray, (⟨(trimB L3.data.toList).toArray⟩ : ByteArray) = L4 := ⟨_, rfl⟩
            have hL4l : L4.data.toList = clean (raw (x.data.toList.drop i)) := by rw [← hL4, hL3l]; rfl
            rw [hL4] at HTF
            have hixl : ∀ o : Nat, ix = (o : Int) → o < R1.size := fun o ho => by
              rw [ho] at hix
              have := (List.getElem?_eq_some_iff.1 (Lib.indexByte_some hix).1).1
              rwa [size_list] at this
            have HL4 := hide hL4l
            have HL3 := hide hL3
            clear hL3l hL4 hL4l hix hL3
            by_cases hneg : ix = -1
            · subst hneg
              have hL3' : L3 = R1 := by rw [← HL3.out, if_pos rfl]
              subst hL3'
              clear hixl hge
              go_upto_region 18 with first | (go_at_call 22; refine HIX.out.mono ?_; rintro e wc ⟨rfl, rfl⟩) | (go_at_call 20; refine HTF.out.mono ?_; rintro e wc ⟨rfl, rfl⟩)
              by_cases hcl : clean (raw (x.data.toList.drop i)) = []
              · have hem := emptyL L4 (by rw [HL4.out]; exact hcl)
                go_wp2
                go_roundw
                case rel =>
                  refine ⟨j + 1, n + 1, E, by omega, by go_num, by go_num, by omega, HO5.out, HO6.out, by omega, ?_, HTOT2.out, HBL.out, hBr⟩
                  rw [← HENT.out, HENT2.out, if_pos hcl]
                case measure => simp [intOf]; omega
              · have hem := nonemptyL L4 (by rw [HL4.out]; exact hcl)
                go_upto_region 20 with (at_builtin; refine wpList_append_own _ rfl (.tmp 64) (.tmp 66) 55 rfl B 3 i3 (.int .i64 0) 1 8 Tryz.underlying55 hi3 hz30 hz31 hz32 rfl (by decide) u5 E.length (eInts E) rfl HO5a.out ⟨wc.heap.size, 0, none⟩ 1 1 [.int .i64 ((n : Int) + 1)] rfl rfl HN5.out (by simp [Value.oneCell']) (by simp [maxLen]; omega) (by omega) (by simp; omega) ?_; intro v5 w5 hv5 hg5 hn5)
                have h6 : (w5.alloc (.cells #[.string L4] 9)).ownsRow B 9 1 u6 E.length (eStrs E) := ownsRow_alloc (ownsRow_grown (ownsRow_alloc HO6.out _) hg5 (fun g hg => by
                  obtain ⟨cur, h1, _⟩ := ownsRow_row HO5a.out g hg
                  exact ⟨cur, 3, h1, by decide⟩)) _
                have hb5 : Below B w w5 := below_grown (HBL.out.alloc hBr _) hg5 (fun g hg => by obtain ⟨_, _, h⟩ := ownsRow_row HO5a.out g hg; exact h) (by rw [World.size_alloc]; omega)
                have hB5 : B ≤ w5.heap.size := Nat.le_trans (by rw [World.size_alloc]; omega) hg5.size
                have HV5 := hide hv5
                have H6 := hide h6
                have HB5 := hide hb5
                have HN6 := hide (cell_one_new w5 (.string L4) 9)
                clear hv5 h6 hb5 hn5
                go_wp2_with (at_builtin; refine wpList_append_own _ rfl (.tmp 68) (.tmp 70) 56 rfl B 9 i9 (.string ⟨#[]⟩) 1 16 Tryz.underlying56 hi9 hz90 hz91 hz92 rfl (by decide) u6 E.length (eStrs E) rfl H6.out ⟨w5.heap.size, 0, none⟩ 1 1 [.string L4] rfl rfl HN6.out (by simp [Value.oneCell']) (by simp [maxLen]; omega) (by omega) (by simp; omega) ?_; intro v6 w6 hv6 hg6 hn6)
                have hv5' : w6.ownsRow B 3 1 v5 (E.length + 1) (eInts E ++ [.int .i64 ((n : Int) + 1)]) := ownsRow_grown (ownsRow_alloc HV5.out _) hg6 (fun g hg => by
                  obtain ⟨cur, h1, _⟩ := ownsRow_row H6.out g hg
                  exact ⟨cur, 9, h1, by decide⟩)
                have hb6 : Below B w w6 := below_grown (HB5.out.alloc hB5 _) hg6 (fun g hg => by obtain ⟨_, _, h⟩ := ownsRow_row H6.out g hg; exact h) (by rw [World.size_alloc]; omega)
                have hB6 : B ≤ w6.heap.size := Nat.le_trans (by rw [World.size_alloc]; omega) hg6.size
                go_roundw
                case rel =>
                  refine ⟨j + 1, n + 1, E ++ [(n + 1, L4.data.toList)], by omega, by go_num, by go_num, by omega, ?_, ?_, ?_, ?_, HTOT2.out, hb6, hB6⟩
                  · rw [← eInts_snoc, List.length_append]; exact hv5'
                  · rw [← eStrs_snoc, List.length_append]; exact hv6
                  · rw [List.length_append, List.length_singleton]; omega
                  · rw [← HENT.out, HENT2.out, if_neg hcl, HL4.out, List.append_assoc]; rfl
                case measure => simp [intOf]; omega
            · obtain ⟨o, rfl⟩ : ∃ o : Nat, ix = (o : Int) := ⟨ix.toNat, by omega⟩
              have hol := hixl o rfl
              have hL3' : R1.extract 0 o = L3 := by rw [← HL3.out, if_neg hneg, Int.toNat_natCast]
              have hole : o ≤ R1.size := Nat.le_of_lt hol
              have hole' : (o : Int) ≤ (R1.size : Int) := by omega
              clear hixl hge
              go_upto_region 18 with first | (go_at_call 22; refine HIX.out.mono ?_; rintro e wc ⟨rfl, rfl⟩) | (go_at_call 20; refine HTF.out.mono ?_; rintro e wc ⟨rfl, rfl⟩)
              by_cases hcl : clean (raw (x.data.toList.drop i)) = []
              · have hem := emptyL L4 (by rw [HL4.out]; exact hcl)
                go_wp2
                go_roundw
                case rel =>
                  refine ⟨j + 1, n + 1, E, by omega, by go_num, by go_num, by omega, HO5.out, HO6.out, by omega, ?_, HTOT2.out, HBL.out, hBr⟩
                  rw [← HENT.out, HENT2.out, if_pos hcl]
                case measure => simp [intOf]; omega
              · have hem := nonemptyL L4 (by rw [HL4.out]; exact hcl)
                go_upto_region 20 with (at_builtin; refine wpList_append_own _ rfl (.tmp 64) (.tmp 66) 55 rfl B 3 i3 (.int .i64 0) 1 8 Tryz.underlying55 hi3 hz30 hz31 hz32 rfl (by decide) u5 E.length (eInts E) rfl HO5a.out ⟨wc.heap.size, 0, none⟩ 1 1 [.int .i64 ((n : Int) + 1)] rfl rfl HN5.out (by simp [Value.oneCell']) (by simp [maxLen]; omega) (by omega) (by simp; omega) ?_; intro v5 w5 hv5 hg5 hn5)
                have h6 : (w5.alloc (.cells #[.string L4] 9)).ownsRow B 9 1 u6 E.length (eStrs E) := ownsRow_alloc (ownsRow_grown (ownsRow_alloc HO6.out _) hg5 (fun g hg => by
                  obtain ⟨cur, h1, _⟩ := ownsRow_row HO5a.out g hg
                  exact ⟨cur, 3, h1, by decide⟩)) _
                have hb5 : Below B w w5 := below_grown (HBL.out.alloc hBr _) hg5 (fun g hg => by obtain ⟨_, _, h⟩ := ownsRow_row HO5a.out g hg; exact h) (by rw [World.size_alloc]; omega)
                have hB5 : B ≤ w5.heap.size := Nat.le_trans (by rw [World.size_alloc]; omega) hg5.size
                have HV5 := hide hv5
                have H6 := hide h6
                have HB5 := hide hb5
                have HN6 := hide (cell_one_new w5 (.string L4) 9)
                clear hv5 h6 hb5 hn5
                go_wp2_with (at_builtin; refine wpList_append_own _ rfl (.tmp 68) (.tmp 70) 56 rfl B 9 i9 (.string ⟨#[]⟩) 1 16 Tryz.underlying56 hi9 hz90 hz91 hz92 rfl (by decide) u6 E.length (eStrs E) rfl H6.out ⟨w5.heap.size, 0, none⟩ 1 1 [.string L4] rfl rfl HN6.out (by simp [Value.oneCell']) (by simp [maxLen]; omega) (by omega) (by simp; omega) ?_; intro v6 w6 hv6 hg6 hn6)
                have hv5' : w6.ownsRow B 3 1 v5 (E.length + 1) (eInts E ++ [.int .i64 ((n : Int) + 1)]) := ownsRow_grown (ownsRow_alloc HV5.out _) hg6 (fun g hg => by
                  obtain ⟨cur, h1, _⟩ := ownsRow_row H6.out g hg
                  exact ⟨cur, 9, h1, by decide⟩)
                have hb6 : Below B w w6 := below_grown (HB5.out.alloc hB5 _) hg6 (fun g hg => by obtain ⟨_, _, h⟩ := ownsRow_row H6.out g hg; exact h) (by rw [World.size_alloc]; omega)
                have hB6 : B ≤ w6.heap.size := Nat.le_trans (by rw [World.size_alloc]; omega) hg6.size
                go_roundw
                case rel =>
                  refine ⟨j + 1, n + 1, E ++ [(n + 1, L4.data.toList)], by omega, by go_num, by go_num, by omega, ?_, ?_, ?_, ?_, HTOT2.out, hb6, hB6⟩
                  · rw [← eInts_snoc, List.length_append]; exact hv5'
                  · rw [← eStrs_snoc, List.length_append]; exact hv6
                  · rw [List.length_append, List.length_singleton]; omega
                  · rw [← HENT.out, HENT2.out, if_neg hcl, HL4.out, List.append_assoc]; rfl
                case measure => simp [intOf]; omega
        · have hR2l : R1.data.toList = Lib.trimSuffix (raw (x.data.toList.drop i)) [13] := by rw [← HR1.out]; exact cr_keep R1 (fun h => absurd h h0)
          have hR2s : R1.size ≤ 1048577 := by omega
          have h0' : ¬ ((0 : Int) < (R1.size : Int)) := by omega
          go_upto_region 14 with fail
          have HIX := hide (zzIndexByte_spec R1 wc hR2s)
          obtain ⟨ix, hix⟩ : ∃ ix, Lib.indexByte R1.data.toList 35 = ix := ⟨_, rfl⟩
          rw [hix] at HIX
          have hge := Lib.indexByte_ge R1.data.toList 35
          rw [hix] at hge
          obtain ⟨L3, hL3, hL3l, hL3s⟩ : ∃ L3 : ByteArray, (if ix = -1 then R1 else R1.extract 0 ix.toNat) = L3 ∧ L3.data.toList = cutHash (Lib.trimSuffix (raw (x.data.toList.drop i)) [13]) ∧ L3.size ≤ 1048577 := by
            refine ⟨_, rfl, ?_, ?_⟩
            · rw [← hR2l, cutHash, hix]
              split
              · rfl
              · rw [Lib.extract_data, List.drop_zero, Nat.sub_zero]
            · split
              · exact hR2s
              · rw [ByteArray.size_extract]; omega
          have HTF := hide (zzTrim_spec L3 wc hL3s)
          obtain ⟨L4, hL4⟩ : ∃ L4 : ByteArray, (⟨(trimB L3.data.toList).toArray⟩ : ByteArray) = L4 := ⟨_, rfl⟩
          have hL4l : L4.data.toList = clean (raw (x.data.toList.drop i)) := by rw [← hL4, hL3l]; rfl
          rw [hL4] at HTF
          have hixl : ∀ o : Nat, ix = (o : Int) → o < R1.size := fun o ho => by
            rw [ho] at hix
            have := (List.getElem?_eq_some_iff.1 (Lib.indexByte_some hix).1).1
            rwa [size_list] at this
          have HL4 := hide hL4l
          have HL3 := hide hL3
          clear hL3l hL4 hL4l hix hL3
          by_cases hneg : ix = -1
          · subst hneg
            have hL3' : L3 = R1 := by rw [← HL3.out, if_pos rfl]
            subst hL3'
            clear hixl hge
            go_upto_region 18 with first | (go_at_call 22; refine HIX.out.mono ?_; rintro e wc ⟨rfl, rfl⟩) | (go_at_call 20; refine HTF.out.mono ?_; rintro e wc ⟨rfl, rfl⟩)
            by_cases hcl : clean (raw (x.data.toList.drop i)) = []
            · have hem := emptyL L4 (by rw [HL4.out]; exact hcl)
              go_wp2
              go_roundw
              case rel =>
                refine ⟨j + 1, n + 1, E, by omega, by go_num, by go_num, by omega, HO5.out, HO6.out, by omega, ?_, HTOT2.out, HBL.out, hBr⟩
                rw [← HENT.out, HENT2.out, if_pos hcl]
              case measure => simp [intOf]; omega
            · have hem := nonemptyL L4 (by rw [HL4.out]; exact hcl)
              go_upto_region 20 with (at_builtin; refine wpList_append_own _ rfl (.tmp 64) (.tmp 66) 55 rfl B 3 i3 (.int .i64 0) 1 8 Tryz.underlying55 hi3 hz30 hz31 hz32 rfl (by decide) u5 E.length (eInts E) rfl HO5a.out ⟨wc.heap.size, 0, none⟩ 1 1 [.int .i64 ((n : Int) + 1)] rfl rfl HN5.out (by simp [Value.oneCell']) (by simp [maxLen]; omega) (by omega) (by simp; omega) ?_; intro v5 w5 hv5 hg5 hn5)
              have h6 : (w5.alloc (.cells #[.string L4] 9)).ownsRow B 9 1 u6 E.length (eStrs E) := ownsRow_alloc (ownsRow_grown (ownsRow_alloc HO6.out _) hg5 (fun g hg => by
                obtain ⟨cur, h1, _⟩ := ownsRow_row HO5a.out g hg
                exact ⟨cur, 3, h1, by decide⟩)) _
              have hb5 : Below B w w5 := below_grown (HBL.out.alloc hBr _) hg5 (fun g hg => by obtain ⟨_, _, h⟩ := ownsRow_row HO5a.out g hg; exact h) (by rw [World.size_alloc]; omega)
              have hB5 : B ≤ w5.heap.size := Nat.le_trans (by rw [World.size_alloc]; omega) hg5.size
              have HV5 := hide hv5
              have H6 := hide h6
              have HB5 := hide hb5
              have HN6 := hide (cell_one_new w5 (.string L4) 9)
              clear hv5 h6 hb5 hn5
              go_wp2_with (at_builtin; refine wpList_append_own _ rfl (.tmp 68) (.tmp 70) 56 rfl B 9 i9 (.string ⟨#[]⟩) 1 16 Tryz.underlying56 hi9 hz90 hz91 hz92 rfl (by decide) u6 E.length (eStrs E) rfl H6.out ⟨w5.heap.size, 0, none⟩ 1 1 [.string L4] rfl rfl HN6.out (by simp [Value.oneCell']) (by simp [maxLen]; omega) (by omega) (by simp; omega) ?_; intro v6 w6 hv6 hg6 hn6)
              have hv5' : w6.ownsRow B 3 1 v5 (E.length + 1) (eInts E ++ [.int .i64 ((n : Int) + 1)]) := ownsRow_grown (ownsRow_alloc HV5.out _) hg6 (fun g hg => by
                obtain ⟨cur, h1, _⟩ := ownsRow_row H6.out g hg
                exact ⟨cur, 9, h1, by decide⟩)
              have hb6 : Below B w w6 := below_grown (HB5.out.alloc hB5 _) hg6 (fun g hg => by obtain ⟨_, _, h⟩ := ownsRow_row H6.out g hg; exact h) (by rw [World.size_alloc]; omega)
              have hB6 : B ≤ w6.heap.size := Nat.le_trans (by rw [World.size_alloc]; omega) hg6.size
              go_roundw
              case rel =>
                refine ⟨j + 1, n + 1, E ++ [(n + 1, L4.data.toList)], by omega, by go_num, by go_num, by omega, ?_, ?_, ?_, ?_, HTOT2.out, hb6, hB6⟩
                · rw [← eInts_snoc, List.length_append]; exact hv5'
                · rw [← eStrs_snoc, List.length_append]; exact hv6
                · rw [List.length_append, List.length_singleton]; omega
                · rw [← HENT.out, HENT2.out, if_neg hcl, HL4.out, List.append_assoc]; rfl
              case measure => simp [intOf]; omega
          · obtain ⟨o, rfl⟩ : ∃ o : Nat, ix = (o : Int) := ⟨ix.toNat, by omega⟩
            have hol := hixl o rfl
            exfalso
            omega
    · have hxl : x.data.toList.drop i = [] := List.drop_eq_nil_of_le (by rw [size_list]; omega)
      have hE : Hid (E = entries 0 (lines x.data.toList)) := by
        have := HENT.out
        rw [hxl] at this
        rw [← this]
        show E = E ++ []
        rw [List.append_nil]
      have hN : Hid (n = (lines x.data.toList).length) := by
        have := HTOT.out
        rw [hxl] at this
        exact this
      have hlt' : ¬ ((i : Int) < (x.size : Int)) := by omega
      clear hxl
      go_wp2
      refine bodyPost_ret (v := .tuple #[u5, u6, .int .i64 (n : Int)]) (by simp [results, Tryz.results18, go_sem]) rfl ⟨u5, u6, by rw [← hN.out], ?_, ?_, HBL.out⟩
      · rw [← hE.out]; exact HO5.out
      · rw [← hE.out]; exact HO6.out

end Go.Proofs.Qxb6605907aGreatFmt.Sx
