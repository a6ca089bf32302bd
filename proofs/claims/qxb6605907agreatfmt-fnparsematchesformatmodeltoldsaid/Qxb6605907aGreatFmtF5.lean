import Derived.Test.Qxb6605907aGreatFmtF4
namespace Go.Proofs.Qxb6605907aGreatFmt
open Go.RowKit

/-- The two blocks of parseOp's frame. -/
structure PoW (w : World) (N : Nat) (k : Int) (wr : World) : Prop where
  b0 : wr.heap[N]? = some (.cells #[.int .u8 0, .string ⟨#[]⟩, .string ⟨#[]⟩] 71 (0, 0))
  b1 : wr.heap[N + 1]? = some (.cells #[.int .u8 k, .string ⟨#[]⟩, .string ⟨#[]⟩] 71 (0, 0))
  below : Below N w wr

theorem PoW.later {w wr wx : World} {N : Nat} {k : Int} (h : PoW w N k wr) (hb : Below wr.heap.size wr wx) : PoW w N k wx := by
  have l0 := (Array.getElem?_eq_some_iff.1 h.b0).1
  have l1 := (Array.getElem?_eq_some_iff.1 h.b1).1
  exact ⟨(hb.block N l0).trans h.b0, (hb.block (N + 1) l1).trans h.b1, h.below.trans (hb.mono (by omega))⟩

theorem PoW.start (w : World) (N : Nat) (hN : w.heap.size = N) (k : Int) : PoW w N k ((w.alloc (.cells #[.int .u8 0, .string ⟨#[]⟩, .string ⟨#[]⟩] 71)).alloc (.cells #[.int .u8 k, .string ⟨#[]⟩, .string ⟨#[]⟩] 71)) := by
  refine ⟨?_, ?_, ?_⟩
  · rw [heap_alloc_old _ _ (by rw [World.size_alloc, hN]; omega), ← hN]; exact heap_alloc_new w _
  · have := heap_alloc_new (w.alloc (.cells #[.int .u8 0, .string ⟨#[]⟩, .string ⟨#[]⟩] 71)) (.cells #[.int .u8 k, .string ⟨#[]⟩, .string ⟨#[]⟩] 71)
    rw [World.size_alloc, hN] at this
    exact this
  · rw [← hN]; exact ((Below.refl w.heap.size w).alloc (Nat.le_refl _) _).alloc (by rw [World.size_alloc]; omega) _

theorem PoW.cells {w wr : World} {N : Nat} {k : Int} (h : PoW w N k wr) :
    wr.cell? ⟨N, 0, none⟩ = some (.int .u8 0) ∧ wr.cell? ⟨N, 1, none⟩ = some (.string ⟨#[]⟩) ∧ wr.cell? ⟨N, 2, none⟩ = some (.string ⟨#[]⟩) ∧ wr.frozen? ⟨N, 0, none⟩ = false ∧ wr.frozen? ⟨N, 1, none⟩ = false ∧ wr.frozen? ⟨N, 2, none⟩ = false ∧
    wr.cell? ⟨N + 1, 0, none⟩ = some (.int .u8 k) ∧ wr.cell? ⟨N + 1, 1, none⟩ = some (.string ⟨#[]⟩) ∧ wr.cell? ⟨N + 1, 2, none⟩ = some (.string ⟨#[]⟩) ∧ wr.frozen? ⟨N + 1, 0, none⟩ = false ∧ wr.frozen? ⟨N + 1, 1, none⟩ = false ∧ wr.frozen? ⟨N + 1, 2, none⟩ = false :=
  ⟨by rw [row_cell h.b0]; rfl, by rw [row_cell h.b0]; rfl, by rw [row_cell h.b0]; rfl, row_frozen h.b0 0, row_frozen h.b0 1, row_frozen h.b0 2,
    by rw [row_cell h.b1]; rfl, by rw [row_cell h.b1]; rfl, by rw [row_cell h.b1]; rfl, row_frozen h.b1 0, row_frozen h.b1 1, row_frozen h.b1 2⟩

set_option maxRecDepth 100000 in
set_option maxHeartbeats 4000000 in
theorem parseOp_spec (x : ByteArray) (m : Int) (w : World) (hx : x.size ≤ 1048577) (hm : w.cell? ⟨4, 0, none⟩ = some (.int .i64 m)) :
    Calls Tryz.prog 38 #[.string x] w fun e w' => (∃ v, e = .returned v ∧ gRes (opP x.data.toList) v) ∧ Below w.heap.size w w' := by
  obtain ⟨N, hN⟩ : ∃ N, w.heap.size = N := ⟨_, rfl⟩
  have hg2 : 4 < w.heap.size := World.block_lt_of_cell? w _ hm
  have H1 := hide (fun W => Any.strings_HasPrefix Tryz.lays99 x ⟨#[119, 40]⟩ W)
  have H2 := hide (fun W => Any.strings_HasPrefix Tryz.lays99 x ⟨#[114, 40]⟩ W)
  have HS0 := hide (fun k => PoW.start w N hN k)
  rw [hN]
  have HN := hide hN
  rcases opP_heads x.data.toList with ⟨l, hl, hop⟩ | ⟨l, hl, hop⟩ | ⟨h1, h2, hop⟩
  · have hsz : 2 ≤ x.size := by rw [← size_list, hl]; simp
    have hls : l.length ≤ x.size := by rw [← size_list, hl]; simp; omega
    have hy : (x.extract 2 x.size).data.toList = l := by
      rw [Lib.extract_data, hl, List.take_of_length_le (by simp [← size_list, hl])]; rfl
    change Hid (∀ W, Calls Tryz.prog 54 #[.string x, .string ⟨#[119, 40]⟩] W fun e w' => e = .returned (.bool (Lib.hasPrefix x.data.toList [119, 40])) ∧ w' = W) at H1
    change Hid (∀ W, Calls Tryz.prog 54 #[.string x, .string ⟨#[114, 40]⟩] W fun e w' => e = .returned (.bool (Lib.hasPrefix x.data.toList [114, 40])) ∧ w' = W) at H2
    rw [show Lib.hasPrefix x.data.toList [119, 40] = true by rw [hl]; rfl] at H1
    have HP0 := hide (HS0.out 1)
    have HOP := hide hop
    clear hop hl
    go_enter Tryz.func38, Tryz.ntmps38
    go_upto_region 7 with (go_at_call 54; refine (H1.out _).mono ?_; rintro e wa ⟨rfl, rfl⟩)
    obtain ⟨W, hW⟩ : ∃ W, (w.alloc (.cells #[.int .u8 0, .string ⟨#[]⟩, .string ⟨#[]⟩] 71)).alloc (.cells #[.int .u8 1, .string ⟨#[]⟩, .string ⟨#[]⟩] 71) = W := ⟨_, rfl⟩
    rw [hW] at HP0 ⊢
    have hmW : W.cell? ⟨4, 0, none⟩ = some (.int .i64 m) := by
      rw [HP0.out.below.cell (p := ⟨4, 0, none⟩) (by rw [← hN]; exact hg2)]; exact hm
    have HC := hide (Any.strings_Cut Tryz.lays145 (x.extract 2 x.size) ⟨#[41]⟩ m W (by rw [ByteArray.size_extract]; omega) hmW)
    rw [hy] at HC
    have HPW : Hid (∀ W', Below W.heap.size W W' → PoW w N 1 W') := fun W' hb => HP0.out.later hb
    obtain ⟨q0, q1, q2, g0, g1, g2, q3, q4, q5, g3, g4, g5⟩ := HP0.out.cells
    clear hW hy hm hmW
    have htc := tailP_cut true l
    change Hid (Calls Tryz.prog 49 #[.string (x.extract 2 x.size), .string ⟨#[41]⟩] W fun e w' => e = .returned (.tuple #[.string (baOf (Lib.cut l [41]).1), .string (baOf (Lib.cut l [41]).2.1), .bool (Lib.cut l [41]).2.2]) ∧ ∃ n, w' = W.drewN n) at HC
    obtain ⟨cc, hcc⟩ : ∃ cc, Lib.cut l [41] = cc := ⟨_, rfl⟩
    rw [hcc] at HC htc
    clear hcc
    obtain ⟨cv, cu, cb⟩ := cc
    dsimp only at HC htc
    have HV := hide (fun W' => isVar_spec (baOf cv) W')
    have HU := hide (fun W' => isValue_spec (baOf cu) W')
    rw [baOf_data] at HV HU
    rcases htc with ⟨rfl, ht⟩ | ⟨rfl, ht⟩
    · cases hv : isVar cv with
      | false =>
        rw [hv] at HV
        rw [hv, Bool.false_and, if_neg (by decide)] at ht
        have HOP := hide (HOP.out.trans ht)
        clear ht
        go_wp2_with first | (go_at_call 49; refine HC.out.mono ?_; rintro e wa ⟨rfl, n, rfl⟩) | (go_at_call 55; refine (HV.out _).mono ?_; rintro e wb ⟨rfl, hbb⟩; have HPB := hide (HPW.out wb ⟨hbb.os, hbb.tape, hbb.output, hbb.size, hbb.block⟩); obtain ⟨q0, q1, q2, g0, g1, g2, q3, q4, q5, g3, g4, g5⟩ := HPB.out.cells)
        refine bodyPost_ret (v := .tuple #[.agg #[.int .u8 1, .string ⟨#[]⟩, .string ⟨#[]⟩], .bool false]) (by simp [results, Tryz.results38, go_sem, q0, q1, q2]) rfl ⟨⟨_, rfl, by rw [HOP.out]; exact ⟨1, rfl⟩⟩, ?_⟩
        exact (((HPB.out.below.setCell (p := ⟨N, 0, none⟩) (Nat.le_refl _) _).setCell (p := ⟨N, 1, none⟩) (Nat.le_refl _) _).setCell (p := ⟨N, 2, none⟩) (Nat.le_refl _) _)
      | true =>
        rw [hv] at HV
        cases hu : isValue cu with
        | false =>
          rw [hu] at HU
          rw [hv, hu, Bool.and_false, if_neg (by decide)] at ht
          have HOP := hide (HOP.out.trans ht)
          clear ht
          go_wp2_with first | (go_at_call 49; refine HC.out.mono ?_; rintro e wa ⟨rfl, n, rfl⟩) | (go_at_call 55; refine (HV.out _).mono ?_; rintro e wb ⟨rfl, hbb⟩; have HPB := hide (HPW.out wb ⟨hbb.os, hbb.tape, hbb.output, hbb.size, hbb.block⟩); obtain ⟨q0, q1, q2, g0, g1, g2, q3, q4, q5, g3, g4, g5⟩ := HPB.out.cells) | (go_at_call 56; refine (HU.out _).mono ?_; rintro e wc ⟨rfl, hbc⟩; have HPC := hide (HPB.out.later hbc); obtain ⟨q0, q1, q2, g0, g1, g2, q3, q4, q5, g3, g4, g5⟩ := HPC.out.cells)
          refine bodyPost_ret (v := .tuple #[.agg #[.int .u8 1, .string ⟨#[]⟩, .string ⟨#[]⟩], .bool false]) (by simp [results, Tryz.results38, go_sem, q0, q1, q2]) rfl ⟨⟨_, rfl, by rw [HOP.out]; exact ⟨1, rfl⟩⟩, ?_⟩
          exact (((HPC.out.below.setCell (p := ⟨N, 0, none⟩) (Nat.le_refl _) _).setCell (p := ⟨N, 1, none⟩) (Nat.le_refl _) _).setCell (p := ⟨N, 2, none⟩) (Nat.le_refl _) _)
        | true =>
          rw [hu] at HU
          rw [hv, hu, Bool.and_true, if_pos rfl] at ht
          have HOP := hide (HOP.out.trans ht)
          clear ht
          go_wp2_with first | (go_at_call 49; refine HC.out.mono ?_; rintro e wa ⟨rfl, n, rfl⟩) | (go_at_call 55; refine (HV.out _).mono ?_; rintro e wb ⟨rfl, hbb⟩; have HPB := hide (HPW.out wb ⟨hbb.os, hbb.tape, hbb.output, hbb.size, hbb.block⟩); obtain ⟨q0, q1, q2, g0, g1, g2, q3, q4, q5, g3, g4, g5⟩ := HPB.out.cells) | (go_at_call 56; refine (HU.out _).mono ?_; rintro e wc ⟨rfl, hbc⟩; have HPC := hide (HPB.out.later hbc); obtain ⟨q0, q1, q2, g0, g1, g2, q3, q4, q5, g3, g4, g5⟩ := HPC.out.cells)
          refine bodyPost_ret (v := .tuple #[gOp ⟨true, cv, cu⟩, .bool true]) (by simp [results, Tryz.results38, go_sem, q0, q1, q2, gOp, gKind]) rfl ⟨⟨_, rfl, by rw [HOP.out]; rfl⟩, ?_⟩
          exact (((((HPC.out.below.setCell (p := ⟨N + 1, 1, none⟩) (Nat.le_succ _) _).setCell (p := ⟨N + 1, 2, none⟩) (Nat.le_succ _) _).setCell (p := ⟨N, 0, none⟩) (Nat.le_refl _) _).setCell (p := ⟨N, 1, none⟩) (Nat.le_refl _) _).setCell (p := ⟨N, 2, none⟩) (Nat.le_refl _) _)
    · have HOP := hide (HOP.out.trans ht)
      clear ht
      go_wp2_with (go_at_call 49; refine HC.out.mono ?_; rintro e wa ⟨rfl, n, rfl⟩)
      refine bodyPost_ret (v := .tuple #[.agg #[.int .u8 1, .string ⟨#[]⟩, .string ⟨#[]⟩], .bool false]) (by simp [results, Tryz.results38, go_sem, q0, q1, q2]) rfl ⟨⟨_, rfl, by rw [HOP.out]; exact ⟨1, rfl⟩⟩, ?_⟩
      exact ((((HPW.out (W.drewN n) ⟨rfl, rfl, rfl, Nat.le_refl _, fun _ _ => rfl⟩).below.setCell (p := ⟨N, 0, none⟩) (Nat.le_refl _) _).setCell (p := ⟨N, 1, none⟩) (Nat.le_refl _) _).setCell (p := ⟨N, 2, none⟩) (Nat.le_refl _) _)
  · have hsz : 2 ≤ x.size := by rw [← size_list, hl]; simp
    have hls : l.length ≤ x.size := by rw [← size_list, hl]; simp; omega
    have hy : (x.extract 2 x.size).data.toList = l := by
      rw [Lib.extract_data, hl, List.take_of_length_le (by simp [← size_list, hl])]; rfl
    change Hid (∀ W, Calls Tryz.prog 54 #[.string x, .string ⟨#[119, 40]⟩] W fun e w' => e = .returned (.bool (Lib.hasPrefix x.data.toList [119, 40])) ∧ w' = W) at H1
    change Hid (∀ W, Calls Tryz.prog 54 #[.string x, .string ⟨#[114, 40]⟩] W fun e w' => e = .returned (.bool (Lib.hasPrefix x.data.toList [114, 40])) ∧ w' = W) at H2
    rw [show Lib.hasPrefix x.data.toList [119, 40] = false by rw [hl]; rfl] at H1
    rw [show Lib.hasPrefix x.data.toList [114, 40] = true by rw [hl]; rfl] at H2
    have HP0 := hide (HS0.out 0)
    have HOP := hide hop
    clear hop hl
    go_enter Tryz.func38, Tryz.ntmps38
    go_upto_region 5 with (go_at_call 54; refine (H1.out _).mono ?_; rintro e wa ⟨rfl, rfl⟩)
    go_upto_region 7 with (go_at_call 54; refine (H2.out _).mono ?_; rintro e wa ⟨rfl, rfl⟩)
    obtain ⟨W, hW⟩ : ∃ W, (w.alloc (.cells #[.int .u8 0, .string ⟨#[]⟩, .string ⟨#[]⟩] 71)).alloc (.cells #[.int .u8 0, .string ⟨#[]⟩, .string ⟨#[]⟩] 71) = W := ⟨_, rfl⟩
    rw [hW] at HP0 ⊢
    have hmW : W.cell? ⟨4, 0, none⟩ = some (.int .i64 m) := by
      rw [HP0.out.below.cell (p := ⟨4, 0, none⟩) (by rw [← hN]; exact hg2)]; exact hm
    have HC := hide (Any.strings_Cut Tryz.lays145 (x.extract 2 x.size) ⟨#[41]⟩ m W (by rw [ByteArray.size_extract]; omega) hmW)
    rw [hy] at HC
    have HPW : Hid (∀ W', Below W.heap.size W W' → PoW w N 0 W') := fun W' hb => HP0.out.later hb
    obtain ⟨q0, q1, q2, g0, g1, g2, q3, q4, q5, g3, g4, g5⟩ := HP0.out.cells
    clear hW hy hm hmW
    have htc := tailP_cut false l
    change Hid (Calls Tryz.prog 49 #[.string (x.extract 2 x.size), .string ⟨#[41]⟩] W fun e w' => e = .returned (.tuple #[.string (baOf (Lib.cut l [41]).1), .string (baOf (Lib.cut l [41]).2.1), .bool (Lib.cut l [41]).2.2]) ∧ ∃ n, w' = W.drewN n) at HC
    obtain ⟨cc, hcc⟩ : ∃ cc, Lib.cut l [41] = cc := ⟨_, rfl⟩
    rw [hcc] at HC htc
    clear hcc
    obtain ⟨cv, cu, cb⟩ := cc
    dsimp only at HC htc
    have HV := hide (fun W' => isVar_spec (baOf cv) W')
    have HU := hide (fun W' => isValue_spec (baOf cu) W')
    rw [baOf_data] at HV HU
    rcases htc with ⟨rfl, ht⟩ | ⟨rfl, ht⟩
    · cases hv : isVar cv with
      | false =>
        rw [hv] at HV
        rw [hv, Bool.false_and, if_neg (by decide)] at ht
        have HOP := hide (HOP.out.trans ht)
        clear ht
        go_wp2_with first | (go_at_call 49; refine HC.out.mono ?_; rintro e wa ⟨rfl, n, rfl⟩) | (go_at_call 55; refine (HV.out _).mono ?_; rintro e wb ⟨rfl, hbb⟩; have HPB := hide (HPW.out wb ⟨hbb.os, hbb.tape, hbb.output, hbb.size, hbb.block⟩); obtain ⟨q0, q1, q2, g0, g1, g2, q3, q4, q5, g3, g4, g5⟩ := HPB.out.cells)
        refine bodyPost_ret (v := .tuple #[.agg #[.int .u8 0, .string ⟨#[]⟩, .string ⟨#[]⟩], .bool false]) (by simp [results, Tryz.results38, go_sem, q0, q1, q2]) rfl ⟨⟨_, rfl, by rw [HOP.out]; exact ⟨0, rfl⟩⟩, ?_⟩
        exact (((HPB.out.below.setCell (p := ⟨N, 0, none⟩) (Nat.le_refl _) _).setCell (p := ⟨N, 1, none⟩) (Nat.le_refl _) _).setCell (p := ⟨N, 2, none⟩) (Nat.le_refl _) _)
      | true =>
        rw [hv] at HV
        cases hu : isValue cu with
        | false =>
          rw [hu] at HU
          rw [hv, hu, Bool.and_false, if_neg (by decide)] at ht
          have HOP := hide (HOP.out.trans ht)
          clear ht
          go_wp2_with first | (go_at_call 49; refine HC.out.mono ?_; rintro e wa ⟨rfl, n, rfl⟩) | (go_at_call 55; refine (HV.out _).mono ?_; rintro e wb ⟨rfl, hbb⟩; have HPB := hide (HPW.out wb ⟨hbb.os, hbb.tape, hbb.output, hbb.size, hbb.block⟩); obtain ⟨q0, q1, q2, g0, g1, g2, q3, q4, q5, g3, g4, g5⟩ := HPB.out.cells) | (go_at_call 56; refine (HU.out _).mono ?_; rintro e wc ⟨rfl, hbc⟩; have HPC := hide (HPB.out.later hbc); obtain ⟨q0, q1, q2, g0, g1, g2, q3, q4, q5, g3, g4, g5⟩ := HPC.out.cells)
          refine bodyPost_ret (v := .tuple #[.agg #[.int .u8 0, .string ⟨#[]⟩, .string ⟨#[]⟩], .bool false]) (by simp [results, Tryz.results38, go_sem, q0, q1, q2]) rfl ⟨⟨_, rfl, by rw [HOP.out]; exact ⟨0, rfl⟩⟩, ?_⟩
          exact (((HPC.out.below.setCell (p := ⟨N, 0, none⟩) (Nat.le_refl _) _).setCell (p := ⟨N, 1, none⟩) (Nat.le_refl _) _).setCell (p := ⟨N, 2, none⟩) (Nat.le_refl _) _)
        | true =>
          rw [hu] at HU
          rw [hv, hu, Bool.and_true, if_pos rfl] at ht
          have HOP := hide (HOP.out.trans ht)
          clear ht
          go_wp2_with first | (go_at_call 49; refine HC.out.mono ?_; rintro e wa ⟨rfl, n, rfl⟩) | (go_at_call 55; refine (HV.out _).mono ?_; rintro e wb ⟨rfl, hbb⟩; have HPB := hide (HPW.out wb ⟨hbb.os, hbb.tape, hbb.output, hbb.size, hbb.block⟩); obtain ⟨q0, q1, q2, g0, g1, g2, q3, q4, q5, g3, g4, g5⟩ := HPB.out.cells) | (go_at_call 56; refine (HU.out _).mono ?_; rintro e wc ⟨rfl, hbc⟩; have HPC := hide (HPB.out.later hbc); obtain ⟨q0, q1, q2, g0, g1, g2, q3, q4, q5, g3, g4, g5⟩ := HPC.out.cells)
          refine bodyPost_ret (v := .tuple #[gOp ⟨false, cv, cu⟩, .bool true]) (by simp [results, Tryz.results38, go_sem, q0, q1, q2, gOp, gKind]) rfl ⟨⟨_, rfl, by rw [HOP.out]; rfl⟩, ?_⟩
          exact (((((HPC.out.below.setCell (p := ⟨N + 1, 1, none⟩) (Nat.le_succ _) _).setCell (p := ⟨N + 1, 2, none⟩) (Nat.le_succ _) _).setCell (p := ⟨N, 0, none⟩) (Nat.le_refl _) _).setCell (p := ⟨N, 1, none⟩) (Nat.le_refl _) _).setCell (p := ⟨N, 2, none⟩) (Nat.le_refl _) _)
    · have HOP := hide (HOP.out.trans ht)
      clear ht
      go_wp2_with (go_at_call 49; refine HC.out.mono ?_; rintro e wa ⟨rfl, n, rfl⟩)
      refine bodyPost_ret (v := .tuple #[.agg #[.int .u8 0, .string ⟨#[]⟩, .string ⟨#[]⟩], .bool false]) (by simp [results, Tryz.results38, go_sem, q0, q1, q2]) rfl ⟨⟨_, rfl, by rw [HOP.out]; exact ⟨0, rfl⟩⟩, ?_⟩
      exact ((((HPW.out (W.drewN n) ⟨rfl, rfl, rfl, Nat.le_refl _, fun _ _ => rfl⟩).below.setCell (p := ⟨N, 0, none⟩) (Nat.le_refl _) _).setCell (p := ⟨N, 1, none⟩) (Nat.le_refl _) _).setCell (p := ⟨N, 2, none⟩) (Nat.le_refl _) _)
  · change Hid (∀ W, Calls Tryz.prog 54 #[.string x, .string ⟨#[119, 40]⟩] W fun e w' => e = .returned (.bool (Lib.hasPrefix x.data.toList [119, 40])) ∧ w' = W) at H1
    change Hid (∀ W, Calls Tryz.prog 54 #[.string x, .string ⟨#[114, 40]⟩] W fun e w' => e = .returned (.bool (Lib.hasPrefix x.data.toList [114, 40])) ∧ w' = W) at H2
    rw [h1] at H1
    rw [h2] at H2
    have HOP := hide hop
    clear hop h1 h2
    go_enter Tryz.func38, Tryz.ntmps38
    go_upto_region 5 with (go_at_call 54; refine (H1.out _).mono ?_; rintro e wa ⟨rfl, rfl⟩)
    go_wp2_with (go_at_call 54; refine (H2.out _).mono ?_; rintro e wa ⟨rfl, rfl⟩)
    refine bodyPost_ret (v := .tuple #[.agg #[.int .u8 0, .string ⟨#[]⟩, .string ⟨#[]⟩], .bool false]) (by simp [results, Tryz.results38, go_sem, ← HN.out]) rfl ⟨⟨_, rfl, by rw [HOP.out]; exact ⟨0, rfl⟩⟩, (HS0.out 0).below⟩

end Go.Proofs.Qxb6605907aGreatFmt
