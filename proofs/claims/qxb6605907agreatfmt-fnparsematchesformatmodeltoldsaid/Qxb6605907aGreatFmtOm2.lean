import Derived.Test.Qxb6605907aGreatFmtOm
namespace Go.Proofs.Qxb6605907aGreatFmt
open Go.RowKit

/-- The world of the automaton's loop: the result's block, the operation's block. -/
structure OmW (w : World) (N : Nat) (W : Bool) (wr : World) : Prop where
  b0 : wr.heap[N]? = some (.cells #[.bool false, .string ⟨#[]⟩, .string ⟨#[]⟩] 73 (0, 0))
  b1 : wr.heap[N + 1]? = some (.cells #[.bool W, .string ⟨#[]⟩, .string ⟨#[]⟩] 73 (0, 0))
  below : Below N w wr

theorem u8_eq {a : UInt8} {n : Nat} (h : n < 256) : (a = UInt8.ofNat n) ↔ a.toNat = n := by
  constructor
  · rintro rfl; simp; omega
  · intro e; subst e; simp

set_option maxRecDepth 100000 in
set_option maxHeartbeats 4000000 in
theorem zzOpModel_spec (x : ByteArray) (w : World) (hx : x.size ≤ 1048577) :
    Calls Tryz.prog 33 #[.string x] w fun e w' => e = .returned (mRes (opP x.data.toList)) ∧ Below w.heap.size w w' := by
  obtain ⟨N, hN⟩ : ∃ N, w.heap.size = N := ⟨_, rfl⟩
  rw [hN]
  have HN := hide hN
  have HW0 : Hid (OmW w N false ((w.alloc (.cells #[.bool false, .string ⟨#[]⟩, .string ⟨#[]⟩] 73)).alloc (.cells #[.bool false, .string ⟨#[]⟩, .string ⟨#[]⟩] 73))) := by
    refine ⟨?_, ?_, ?_⟩
    · rw [heap_alloc_old _ _ (by rw [World.size_alloc, hN]; omega), ← hN]; exact heap_alloc_new w _
    · have := heap_alloc_new (w.alloc (.cells #[.bool false, .string ⟨#[]⟩, .string ⟨#[]⟩] 73)) (.cells #[.bool false, .string ⟨#[]⟩, .string ⟨#[]⟩] 73)
      rw [World.size_alloc, hN] at this
      exact this
    · rw [← hN]; exact ((Below.refl w.heap.size w).alloc (Nat.le_refl _) _).alloc (by rw [World.size_alloc]; omega) _
  obtain ⟨T, hT⟩ : ∃ T, x.data.toList = T := ⟨_, rfl⟩
  have HL : Hid (T.length = x.size) := by rw [← hT]; exact size_list x
  have HG : Hid (∀ k (h : k < x.size), T[k]? = some x[k]) := fun k h => by rw [← hT]; exact getL x k h
  have HT := hide hT
  rw [hT]
  clear hT
  go_enter Tryz.func33, Tryz.ntmps33
  go_wp2
  go_loopw [5, 6, 7, 8] (fun a b c d wr => ∃ (st vs ve k : Nat) (W : Bool), a = .int .i64 st ∧ b = .int .i64 vs ∧ c = .int .i64 ve ∧ d = .int .i64 k ∧ k ≤ x.size ∧ OpSt T st vs ve k W ∧ OmW w N W wr) (fun _ _ _ d _ => x.size - (intOf d).toNat)
  case atStart => exact ⟨0, 0, 0, 0, false, rfl, rfl, rfl, rfl, Nat.zero_le _, Or.inl ⟨rfl, rfl, rfl, rfl, rfl⟩, HW0.out⟩
  case round =>
    obtain ⟨st, vs, ve, k, W, rfl, rfl, rfl, rfl, hk, hst, hw⟩ := hrel
    have HK := hide hk
    have HST := hide hst
    have HW := hide hw
    have c00 : wr.cell? ⟨N, 0, none⟩ = some (.bool false) := by rw [row_cell hw.b0]; rfl
    have c01 : wr.cell? ⟨N, 1, none⟩ = some (.string ⟨#[]⟩) := by rw [row_cell hw.b0]; rfl
    have c02 : wr.cell? ⟨N, 2, none⟩ = some (.string ⟨#[]⟩) := by rw [row_cell hw.b0]; rfl
    have f00 : wr.frozen? ⟨N, 0, none⟩ = false := row_frozen hw.b0 0
    have f01 : wr.frozen? ⟨N, 1, none⟩ = false := row_frozen hw.b0 1
    have f02 : wr.frozen? ⟨N, 2, none⟩ = false := row_frozen hw.b0 2
    have c10 : wr.cell? ⟨N + 1, 0, none⟩ = some (.bool W) := by rw [row_cell hw.b1]; rfl
    have c11 : wr.cell? ⟨N + 1, 1, none⟩ = some (.string ⟨#[]⟩) := by rw [row_cell hw.b1]; rfl
    have c12 : wr.cell? ⟨N + 1, 2, none⟩ = some (.string ⟨#[]⟩) := by rw [row_cell hw.b1]; rfl
    have f10 : wr.frozen? ⟨N + 1, 0, none⟩ = false := row_frozen hw.b1 0
    have f11 : wr.frozen? ⟨N + 1, 1, none⟩ = false := row_frozen hw.b1 1
    have f12 : wr.frozen? ⟨N + 1, 2, none⟩ = false := row_frozen hw.b1 2
    clear hst hw hk
    by_cases hlt : k < x.size
    · have HC := hide (HG.out k hlt)
      have HLT := hide hlt
      rcases HST.out with ⟨rfl, hk, hvs, hve, rfl⟩ | ⟨rfl, hk, h⟩ | ⟨rfl, hk, h⟩ | ⟨rfl, hv, h⟩ | ⟨rfl, hv, hk, h⟩ | ⟨rfl, hv, hk, h⟩
      · have H := hide (OpSt.step0 (T := T) (c := x[k]) (by rw [← hk]; exact HC.out))
        have HE := hide (And.intro hk (And.intro hvs hve))
        clear hk hvs hve
        by_cases h1 : x[k].toNat = 119
        · go_wp2
          go_roundw
          case rel => 
            obtain ⟨rfl, rfl, rfl⟩ := HE.out
            exact ⟨1, 0, 0, 1, true, rfl, rfl, rfl, rfl, HLT.out, H.out.1 ((u8_eq (n := 119) (by decide)).2 h1), ⟨row_keep HW.out.b0 _ _ (by simp), row_set HW.out.b1 0 _, HW.out.below.setCell (p := ⟨N + 1, 0, none⟩) (Nat.le_succ _) _⟩⟩
          case measure => simp [intOf]; omega
        · by_cases h2 : x[k].toNat = 114
          · go_wp2
            go_roundw
            case rel => 
              obtain ⟨rfl, rfl, rfl⟩ := HE.out
              exact ⟨1, 0, 0, 1, false, rfl, rfl, rfl, rfl, HLT.out, H.out.2.1 ((u8_eq (n := 114) (by decide)).2 h2), HW.out⟩
            case measure => simp [intOf]; omega
          · go_wp2
            refine bodyPost_ret (v := mRes none) (by simp [results, Tryz.results33, go_sem, mRes, mNone, c00, c01, c02]) rfl ⟨?_, ?_⟩
            · rw [H.out.2.2 (fun e => h1 ((u8_eq (n := 119) (by decide)).1 e)) (fun e => h2 ((u8_eq (n := 114) (by decide)).1 e))]
            · exact (((HW.out.below.setCell (p := ⟨N, 0, none⟩) (Nat.le_refl _) _).setCell (p := ⟨N, 1, none⟩) (Nat.le_refl _) _).setCell (p := ⟨N, 2, none⟩) (Nat.le_refl _) _)
      · have H := hide (OpSt.step1 (T := T) (c := x[k]) (W := W) (by rw [← hk]; exact HC.out) (by rw [← hk]; exact h) vs ve)
        have HE := hide hk
        clear hk h
        by_cases h1 : x[k].toNat = 40
        · go_wp2
          go_roundw
          case rel => exact ⟨2, vs, ve, k + 1, W, rfl, rfl, rfl, by go_num, HLT.out, by rw [HE.out]; exact H.out.1 ((u8_eq (n := 40) (by decide)).2 h1), HW.out⟩
          case measure => simp [intOf]; omega
        · go_wp2
          refine bodyPost_ret (v := mRes none) (by simp [results, Tryz.results33, go_sem, mRes, mNone, c00, c01, c02]) rfl ⟨?_, ?_⟩
          · rw [H.out.2 (fun e => h1 ((u8_eq (n := 40) (by decide)).1 e))]
          · exact (((HW.out.below.setCell (p := ⟨N, 0, none⟩) (Nat.le_refl _) _).setCell (p := ⟨N, 1, none⟩) (Nat.le_refl _) _).setCell (p := ⟨N, 2, none⟩) (Nat.le_refl _) _)
      · have H := hide (OpSt.step2 (T := T) (c := x[k]) (W := W) (by rw [← hk]; exact HC.out) (by rw [← hk]; exact h) ve)
        have HE := hide hk
        clear hk h
        have HV := hide (zzLetter_spec x[k].toNat wr)
        cases h1 : letterN x[k].toNat with
        | true =>
          rw [h1] at HV
          go_wp2_with (go_at_call 34; refine HV.out.mono ?_; rintro e w ⟨rfl, rfl⟩)
          go_roundw
          case rel => exact ⟨3, k, ve, k + 1, W, rfl, rfl, rfl, by go_num, HLT.out, by rw [HE.out]; exact H.out.1 h1, HW.out⟩
          case measure => simp [intOf]; omega
        | false =>
          rw [h1] at HV
          go_wp2_with (go_at_call 34; refine HV.out.mono ?_; rintro e w ⟨rfl, rfl⟩)
          refine bodyPost_ret (v := mRes none) (by simp [results, Tryz.results33, go_sem, mRes, mNone, c00, c01, c02]) rfl ⟨?_, ?_⟩
          · rw [H.out.2 h1]
          · exact (((HW.out.below.setCell (p := ⟨N, 0, none⟩) (Nat.le_refl _) _).setCell (p := ⟨N, 1, none⟩) (Nat.le_refl _) _).setCell (p := ⟨N, 2, none⟩) (Nat.le_refl _) _)
      · have H := hide (OpSt.step3 HC.out hv h ve)
        have HE := hide hv
        clear hv h
        have HV := hide (zzNameByte_spec x[k].toNat wr)
        by_cases h2 : x[k].toNat = 41
        · go_wp2
          go_roundw
          case rel => exact ⟨4, vs, k, k + 1, W, rfl, rfl, rfl, by go_num, HLT.out, H.out.1 ((u8_eq (n := 41) (by decide)).2 h2), HW.out⟩
          case measure => simp [intOf]; omega
        · cases h1 : nameN x[k].toNat with
          | true =>
            rw [h1] at HV
            go_wp2_with (go_at_call 24; refine HV.out.mono ?_; rintro e w ⟨rfl, rfl⟩)
            go_roundw
            case rel => exact ⟨3, vs, ve, k + 1, W, rfl, rfl, rfl, by go_num, HLT.out, H.out.2.1 (fun e => h2 ((u8_eq (n := 41) (by decide)).1 e)) h1, HW.out⟩
            case measure => simp [intOf]; omega
          | false =>
            rw [h1] at HV
            go_wp2_with (go_at_call 24; refine HV.out.mono ?_; rintro e w ⟨rfl, rfl⟩)
            refine bodyPost_ret (v := mRes none) (by simp [results, Tryz.results33, go_sem, mRes, mNone, c00, c01, c02]) rfl ⟨?_, ?_⟩
            · rw [H.out.2.2 (fun e => h2 ((u8_eq (n := 41) (by decide)).1 e)) h1]
            · exact (((HW.out.below.setCell (p := ⟨N, 0, none⟩) (Nat.le_refl _) _).setCell (p := ⟨N, 1, none⟩) (Nat.le_refl _) _).setCell (p := ⟨N, 2, none⟩) (Nat.le_refl _) _)
      · have H := hide (OpSt.step4 HC.out hv hk h)
        clear hv hk h
        have HV := hide (zzValueByte_spec x[k].toNat wr)
        cases h1 : valueN x[k].toNat with
        | true =>
          rw [h1] at HV
          go_wp2_with (go_at_call 32; refine HV.out.mono ?_; rintro e w ⟨rfl, rfl⟩)
          go_roundw
          case rel => exact ⟨5, vs, ve, k + 1, W, rfl, rfl, rfl, by go_num, HLT.out, H.out.1 h1, HW.out⟩
          case measure => simp [intOf]; omega
        | false =>
          rw [h1] at HV
          go_wp2_with (go_at_call 32; refine HV.out.mono ?_; rintro e w ⟨rfl, rfl⟩)
          refine bodyPost_ret (v := mRes none) (by simp [results, Tryz.results33, go_sem, mRes, mNone, c00, c01, c02]) rfl ⟨?_, ?_⟩
          · rw [H.out.2 h1]
          · exact (((HW.out.below.setCell (p := ⟨N, 0, none⟩) (Nat.le_refl _) _).setCell (p := ⟨N, 1, none⟩) (Nat.le_refl _) _).setCell (p := ⟨N, 2, none⟩) (Nat.le_refl _) _)
      · have H := hide (OpSt.step5 HC.out hv hk h)
        clear hv hk h
        have HV := hide (zzValueByte_spec x[k].toNat wr)
        cases h1 : valueN x[k].toNat with
        | true =>
          rw [h1] at HV
          go_wp2_with (go_at_call 32; refine HV.out.mono ?_; rintro e w ⟨rfl, rfl⟩)
          go_roundw
          case rel => exact ⟨5, vs, ve, k + 1, W, rfl, rfl, rfl, by go_num, HLT.out, H.out.1 h1, HW.out⟩
          case measure => simp [intOf]; omega
        | false =>
          rw [h1] at HV
          go_wp2_with (go_at_call 32; refine HV.out.mono ?_; rintro e w ⟨rfl, rfl⟩)
          refine bodyPost_ret (v := mRes none) (by simp [results, Tryz.results33, go_sem, mRes, mNone, c00, c01, c02]) rfl ⟨?_, ?_⟩
          · rw [H.out.2 h1]
          · exact (((HW.out.below.setCell (p := ⟨N, 0, none⟩) (Nat.le_refl _) _).setCell (p := ⟨N, 1, none⟩) (Nat.le_refl _) _).setCell (p := ⟨N, 2, none⟩) (Nat.le_refl _) _)
    · have hkl : k = T.length := by have := HL.out; have := HK.out; omega
      have HEND := hide (OpSt.ends (by rw [← hkl]; exact HST.out))
      clear hkl
      by_cases h5 : st = 5
      · subst h5
        obtain ⟨hv, hve, hop⟩ := HEND.out.2 rfl
        rw [HL.out] at hve
        have HOP := hide hop
        clear hop
        have hw1 : IntKind.i64.wrap ((ve : Int) + 1) = (ve : Int) + 1 := IntWalk.i64_in _ (by omega)
        go_wp2
        have e1 : x.extract vs ve = baOf ((T.take ve).drop vs) := ba_of (by rw [Lib.extract_data, HT.out, List.drop_take])
        have e2 : x.extract (ve + 1) x.size = baOf (T.drop (ve + 1)) := ba_of (by rw [Lib.extract_data, HT.out, List.take_of_length_le (by rw [List.length_drop, HL.out]; exact Nat.le_refl _)])
        rw [e1, e2]
        refine bodyPost_ret (v := mRes (some ⟨W, (T.take ve).drop vs, T.drop (ve + 1)⟩)) (by simp [results, Tryz.results33, go_sem, mRes, mOp, c00, c01, c02]) rfl ⟨?_, ?_⟩
        · rw [HOP.out]
        · exact (((((HW.out.below.setCell (p := ⟨N + 1, 1, none⟩) (Nat.le_succ _) _).setCell (p := ⟨N + 1, 2, none⟩) (Nat.le_succ _) _).setCell (p := ⟨N, 0, none⟩) (Nat.le_refl _) _).setCell (p := ⟨N, 1, none⟩) (Nat.le_refl _) _).setCell (p := ⟨N, 2, none⟩) (Nat.le_refl _) _)
      · have h5' : ((st : Int) == 5) = false := by rw [beq_eq_false_iff_ne]; omega
        go_wp2
        refine bodyPost_ret (v := mRes none) (by simp [results, Tryz.results33, go_sem, mRes, mNone, c00, c01, c02]) rfl ⟨?_, ?_⟩
        · rw [HEND.out.1 h5]
        · exact (((HW.out.below.setCell (p := ⟨N, 0, none⟩) (Nat.le_refl _) _).setCell (p := ⟨N, 1, none⟩) (Nat.le_refl _) _).setCell (p := ⟨N, 2, none⟩) (Nat.le_refl _) _)

end Go.Proofs.Qxb6605907aGreatFmt
