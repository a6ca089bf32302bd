import Derived.Test.Qxb6605907aGreatFmtPb0
namespace Go.Proofs.Qxb6605907aGreatFmt
open Go.RowKit Go.Shelf
attribute [local go_sem] Oper.semAt_some

set_option maxRecDepth 100000 in
set_option maxHeartbeats 8000000 in
theorem body_ok (W0 : World) (EV : EnvF W0) (w W : World) (pb sc hb mb wb N bs I0 c BL l : Nat) (file : ByteArray) (line : Int) (ini : Bool) (init ops : List UInt8) (x : ByteArray) (h0 h1 : HP) (pre : List Fld) (y : Fld) (u0 u1 u2 u4 u5 u8 u10 u11 u12 u13 u14 u15 u16 u17 u18 u19 u20 u21 u22 u23 u24 u25 u26 u27 u28 u29 u30 u31 u32 u33 u34 u35 u36 u37 u38 u39 u40 u41 u42 u43 u44 u45 u46 u47 u48 u49 u50 u51 u52 u53 u54 u55 u56 u57 u58 u59 u60 u61 u62 u63 u64 u65 u66 u67 u68 u69 u70 u71 u72 u73 u74 u75 u76 u77 u78 u79 u80 u81 u82 u83 u84 u85 u86 u87 u88 u89 u90 u91 u92 : Value)
    (hg0 : 2 < W0.heap.size) (hg1 : 3 < W0.heap.size) (e1 : runP init I0 h0 (pre.map fL) = (h1, true)) (v1 : Lv W0 w pb sc hb mb wb N bs (bs + 1) I0 file line ini init x (.pointer none) h1 W) (o1 : HOk h1 (c + 1 + pre.length)) (i1 : I0 < h1.procs.length) (hc : c + ops.length + 1 ≤ 2097152) (hpl : pre.length < ops.length) (hwbL : wb < BL) (o : OpP) (hop : opP (fL y) = some o) (hbad : addBad init h1 o = false) :
    body20.wpIn (Fence.wide.inRound l) (8 - 1 - 1) Tryz.prog (ownPostG BL (Kf bs (bs + 1)) (LI W0 w pb sc hb mb wb N bs I0 c file line ini init x h0) (LX W0 w pb sc hb mb wb N bs I0 file line ini init x h0) (pre ++ [y]) W) ⟨#[u0, u1, u2, .pointer (some ⟨N, 0, none⟩), u4, u5, .pointer (some ⟨N + 1, 0, none⟩), .pointer (some ⟨N + 1 + 1, 0, none⟩), u8, .string y.1, u10, u11, u12, u13, u14, u15, u16, u17, u18, u19, u20, u21, u22, u23, u24, u25, u26, u27, u28, u29, u30, u31, u32, u33, u34, u35, u36, u37, u38, u39, u40, u41, u42, u43, u44, u45, u46, u47, u48, u49, u50, u51, u52, u53, u54, u55, u56, u57, u58, u59, u60, u61, u62, u63, u64, u65, u66, u67, u68, u69, u70, u71, u72, u73, u74, u75, u76, u77, u78, u79, u80, u81, u82, u83, u84, u85, u86, u87, u88, u89, u90, u91, u92], []⟩ W := by
  conv => arg 4; whnf
  have hmx : Tryz.prog.follows .mixedOrders = true := by kernel_rfl
  have hd : 1 ≤ 8 - 1 - 1 := by decide
  obtain ⟨m, hm⟩ := EV.maxAt v1.low
  have HPO := hide (parseOp_spec y.1 m W y.2 hm)
  have HV1 := hide v1
  have HO1 := hide o1
  have HI1 := hide i1
  have HRN := hide (runP_snoc init I0 (pre.map fL) h0 h1 (fL y) e1)
  have HMP : Hid ((pre ++ [y]).map fL = pre.map fL ++ [fL y]) := by show _ = _; rw [List.map_append, List.map_singleton]
  change Hid (Calls Tryz.prog 38 #[.string y.1] W fun e w' => (∃ v, e = .returned v ∧ gRes (opP (fL y)) v) ∧ Below W.heap.size W w') at HPO
  obtain ⟨yb, hyb⟩ : ∃ yb, y.1 = yb := ⟨_, rfl⟩
  have hybs : yb.size ≤ 1048577 := by rw [← hyb]; exact y.2
  rw [hyb] at HPO ⊢
  clear hyb v1 e1 o1 i1 hm
  rw [hop] at HPO
  simp only [gRes, gOp] at HPO
  have hos := opP_short hop
  have hfl : (fL y).length ≤ 1048577 := by
    have := y.2
    rw [fL, size_list]; exact this
  have hcb : c + 1 + pre.length ≤ 2097152 := by omega
  gi_wp2_with (refine ⟨trivial, ?_⟩; gi_at_call 38; refine (CallsIn.inRound l (callsIn_wide.2 HPO.out)).mono ?_; rintro e w2 ⟨⟨_, rfl, rfl⟩, hb2⟩)
  have HX : Hid (Below W.heap.size W (w2.alloc (.cells #[.int .u8 (gKind o.write), .string (baOf o.v), .string (baOf o.value)] 71))) := (hb2.alloc hb2.size _)
  have hro := heap_alloc_new w2 (.cells #[.int .u8 (gKind o.write), .string (baOf o.v), .string (baOf o.value)] 71)
  obtain ⟨ob, hob⟩ : ∃ ob, w2.heap.size = ob := ⟨_, rfl⟩
  rw [hob] at hro ⊢
  obtain ⟨X, hX⟩ : ∃ X, w2.alloc (.cells #[.int .u8 (gKind o.write), .string (baOf o.v), .string (baOf o.value)] 71) = X := ⟨_, rfl⟩
  rw [hX] at HX hro ⊢
  clear hX hb2 hob
  have HVX := hide (HV1.out.below HX.out)
  obtain ⟨c0, c1, c2, c3, c4, f4, l0, l1, l2, l3, l4⟩ := HVX.out.cells
  have o0 : X.cell? ⟨ob, 0, none⟩ = some (.int .u8 (gKind o.write)) := by rw [row_cell hro]; rfl
  have o1 : X.cell? ⟨ob, 1, none⟩ = some (.string (baOf o.v)) := by rw [row_cell hro]; rfl
  have o2 : X.cell? ⟨ob, 2, none⟩ = some (.string (baOf o.value)) := by rw [row_cell hro]; rfl
  have HVD := hide (HVX.out.below (Below.refl X.heap.size X).drew)
  have HAD := hide (add_spec W0.heap.size hb wb I0 (c + 1 + pre.length) init h1 o X.drew HVD.out.pok.2.2 HO1.out hcb HI1.out (by omega) (by omega))
  rw [gOp] at HAD
  have HKX : Hid (KeepsT W0.heap.size [] [] W X.drew) := KeepsT.of_below (HX.out.drew) (Nat.le_refl _)
  clear hro hos hfl
  have HAK : Hid (Calls Tryz.prog 41 #[.pointer (some ⟨hb, 0, none⟩), .int .i64 (I0 : Int), .agg #[.int .u8 (gKind o.write), .string (baOf o.v), .string (baOf o.value)]] X.drew fun e w' => e = .returned .nilIface ∧ GOk W0.heap.size w' hb wb init (addOp h1 I0 o) ∧ KeepsT W0.heap.size gTs [wb] X.drew w') :=
    HAD.out.mono fun e w' ⟨_, h2, h3⟩ => ⟨(h2 hbad).1, (h2 hbad).2, h3⟩
  have HF12 : Hid (∀ wa : World, GOk W0.heap.size wa hb wb init (addOp h1 I0 o) → KeepsT W0.heap.size gTs [wb] X.drew wa →
      KeepsFrom BL W wa ∧ Kf bs (bs + 1) W wa ∧ ∃ h1, runP init I0 h0 ((pre ++ [y]).map fL) = (h1, true) ∧ Lv W0 w pb sc hb mb wb N bs (bs + 1) I0 file line ini init x (.pointer none) h1 wa ∧ HOk h1 (c + 1 + (pre ++ [y]).length) ∧ I0 < h1.procs.length) := fun wa hG hk => by
    have hv := HVD.out.added hk hG (addOp_names h1 I0 o)
    refine ⟨keepsFrom_of (S := [wb]) (Ts := gTs) ((HKX.out.mono (by simp) (by simp)).trans hk) (by intro s hs; simp at hs; omega), HV1.out.kf hv hg0 hg1, addOp h1 I0 o, ?_, hv, ?_, by rw [addOp_len]; exact HI1.out⟩
    · rw [HMP.out, HRN.out]
      have hb' : (o.write && (o.value == init || h1.written.contains (o.v, o.value))) = false := hbad
      simp only [stepP, hop, hb']
      rfl
    · rw [List.length_append, List.length_singleton]
      exact HO1.out.add (opP_no41 hop)
  clear hbad HAD
  gi_region_with_o (refine ⟨trivial, ?_⟩; gi_at_call 41; refine (CallsIn.inRound l (callsIn_wide.2 HAK.out)).mono ?_; rintro e wa ⟨rfl, hG, hk⟩)
  all_goals
    gi_wp2
    exact HF12.out wa hG hk

end Go.Proofs.Qxb6605907aGreatFmt
