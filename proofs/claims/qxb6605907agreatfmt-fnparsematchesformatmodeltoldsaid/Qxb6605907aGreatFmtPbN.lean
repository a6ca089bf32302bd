import Derived.Test.Qxb6605907aGreatFmtPb0
namespace Go.Proofs.Qxb6605907aGreatFmt
open Go.RowKit Go.Shelf
attribute [local go_sem] Oper.semAt_some

set_option maxRecDepth 100000 in
set_option maxHeartbeats 8000000 in
theorem body_none (W0 : World) (EV : EnvF W0) (w W : World) (pb sc hb mb wb N bs I0 c BL l : Nat) (file : ByteArray) (line : Int) (ini : Bool) (init : List UInt8) (x : ByteArray) (h0 h1 : HP) (pre : List Fld) (y : Fld) (u0 u1 u2 u4 u5 u8 u10 u11 u12 u13 u14 u15 u16 u17 u18 u19 u20 u21 u22 u23 u24 u25 u26 u27 u28 u29 u30 u31 u32 u33 u34 u35 u36 u37 u38 u39 u40 u41 u42 u43 u44 u45 u46 u47 u48 u49 u50 u51 u52 u53 u54 u55 u56 u57 u58 u59 u60 u61 u62 u63 u64 u65 u66 u67 u68 u69 u70 u71 u72 u73 u74 u75 u76 u77 u78 u79 u80 u81 u82 u83 u84 u85 u86 u87 u88 u89 u90 u91 u92 : Value)
    (hB : W0.heap.size ≤ w.heap.size) (hN : w.heap.size = N) (e1 : runP init I0 h0 (pre.map fL) = (h1, true)) (v1 : Lv W0 w pb sc hb mb wb N bs (bs + 1) I0 file line ini init x (.pointer none) h1 W) (hop : opP (fL y) = none) :
    body20.wpIn (Fence.wide.inRound l) (8 - 1 - 1) Tryz.prog (ownPostG BL (Kf bs (bs + 1)) (LI W0 w pb sc hb mb wb N bs I0 c file line ini init x h0) (LX W0 w pb sc hb mb wb N bs I0 file line ini init x h0) (pre ++ [y]) W) ⟨#[u0, u1, u2, .pointer (some ⟨N, 0, none⟩), u4, u5, .pointer (some ⟨N + 1, 0, none⟩), .pointer (some ⟨N + 1 + 1, 0, none⟩), u8, .string y.1, u10, u11, u12, u13, u14, u15, u16, u17, u18, u19, u20, u21, u22, u23, u24, u25, u26, u27, u28, u29, u30, u31, u32, u33, u34, u35, u36, u37, u38, u39, u40, u41, u42, u43, u44, u45, u46, u47, u48, u49, u50, u51, u52, u53, u54, u55, u56, u57, u58, u59, u60, u61, u62, u63, u64, u65, u66, u67, u68, u69, u70, u71, u72, u73, u74, u75, u76, u77, u78, u79, u80, u81, u82, u83, u84, u85, u86, u87, u88, u89, u90, u91, u92], []⟩ W := by
  conv => arg 4; whnf
  have hmx : Tryz.prog.follows .mixedOrders = true := by kernel_rfl
  have hd : 1 ≤ 8 - 1 - 1 := by decide
  obtain ⟨m, hm⟩ := EV.maxAt v1.low
  have HPO := hide (parseOp_spec y.1 m W y.2 hm)
  have HV1 := hide v1
  have HRN := hide (runP_snoc init I0 (pre.map fL) h0 h1 (fL y) e1)
  have HMP : Hid ((pre ++ [y]).map fL = pre.map fL ++ [fL y]) := by show _ = _; rw [List.map_append, List.map_singleton]
  change Hid (Calls Tryz.prog 38 #[.string y.1] W fun e w' => (∃ v, e = .returned v ∧ gRes (opP (fL y)) v) ∧ Below W.heap.size W w') at HPO
  obtain ⟨yb, hyb⟩ : ∃ yb, y.1 = yb := ⟨_, rfl⟩
  have hybs : yb.size ≤ 1048577 := by rw [← hyb]; exact y.2
  rw [hyb] at HPO ⊢
  clear hyb v1 e1 hm
  rw [hop] at HPO
  have HST : Hid (runP init I0 h0 ((pre ++ [y]).map fL) = (h1, false)) := by
    show _ = _
    rw [HMP.out, HRN.out]
    simp [stepP, hop]
  gi_wp2_with (refine ⟨trivial, ?_⟩; gi_at_call 38; refine (CallsIn.inRound l (callsIn_wide.2 HPO.out)).mono ?_; rintro e w2 ⟨⟨_, rfl, kk, rfl⟩, hb2⟩)
  have HX : Hid (Below W.heap.size W (w2.alloc (.cells #[.int .u8 kk, .string ⟨#[]⟩, .string ⟨#[]⟩] 71))) := (hb2.alloc hb2.size _)
  obtain ⟨X, hX⟩ : ∃ X, w2.alloc (.cells #[.int .u8 kk, .string ⟨#[]⟩, .string ⟨#[]⟩] 71) = X := ⟨_, rfl⟩
  rw [hX] at HX ⊢
  clear hX hb2
  have HVX := hide (HV1.out.below HX.out)
  obtain ⟨c0, c1, c2, c3, c4, f4, l0, l1, l2, l3, l4⟩ := HVX.out.cells
  have HQ := hide (quote_spec W0 EV yb X.drew (HVX.out.below (Below.refl X.heap.size X).drew).low hybs)
  have HF11 : Hid (∀ (eb : Nat) (s : ByteArray) (we : World), Lv W0 w pb sc hb mb wb N bs (bs + 1) I0 file line ini init x (.pointer none) h1 we → Below W.heap.size W we → we.heap[eb]? = some (.cells #[.string file, .int .i64 line, .string s] 31 (0, 0)) →
      KeepsFrom BL W (we.setCell ⟨N + 1, 0, none⟩ (.pointer (some ⟨eb, 0, none⟩))) ∧ (Code.ret = Code.ret ∧ ∃ h1 eb' s, runP init I0 h0 ((pre ++ [y]).map fL) = (h1, false) ∧ Lv W0 w pb sc hb mb wb N bs (bs + 1) I0 file line ini init x (.pointer (some ⟨eb', 0, none⟩)) h1 (we.setCell ⟨N + 1, 0, none⟩ (.pointer (some ⟨eb, 0, none⟩))) ∧ (we.setCell ⟨N + 1, 0, none⟩ (.pointer (some ⟨eb, 0, none⟩))).heap[eb']? = some (.cells #[.string file, .int .i64 line, .string s] 31 (0, 0)))) := fun eb s we hv hbl hre => by
    refine ⟨keepsFrom_of (S := []) (Ts := [24]) ((KeepsT.of_below (B := W0.heap.size) hbl (Nat.le_refl _)).setCell hv.b1 (by simp) (by omega) _) (by simp), rfl, h1, eb, s, HST.out, hv.result (by omega) hB _, row_keep hre _ _ (fun e => ?_)⟩
    dsimp only at e
    have hb1 := hv.b1
    rw [← e, hre] at hb1
    cases hb1
  gi_region_with_o (first
    | (refine ⟨trivial, ?_⟩; gi_at_call 40; refine (CallsIn.inRound l (callsIn_wide.2 HQ.out)).mono ?_; rintro e wq ⟨⟨q, rfl⟩, hbq⟩; have HBQ : Hid (Below X.heap.size X wq) := ⟨hbq.os, hbq.tape, hbq.output, hbq.size, hbq.block⟩; have HVQ := hide (HVX.out.below HBQ.out); obtain ⟨d0, d1, d2, d3, d4, g4, m0, m1, m2, m3, m4⟩ := HVQ.out.cells; obtain ⟨s1, s3, s4, s5, hsr⟩ := HVQ.out.pok.1.srow; have HSA := hide (fun o : Obj => (heap_alloc_old wq o (lt_of_get hsr)).trans hsr); clear hsr hbq)
    | (refine ⟨trivial, ?_⟩; gi_at_call 39; refine (CallsIn.inRound l (callsIn_wide.2 (errorf_op sc file s1 s3 s4 s5 line wq.heap.size q _ (HSA.out _) (by simp)))).mono ?_; rintro e we ⟨eb, s, rfl, hre, hle, hbe⟩; have HBE : Hid (Below wq.heap.size wq we) := ((Below.refl wq.heap.size wq).alloc (Nat.le_refl _) (.cells #[.iface 9 (.string q)] 20) |>.trans (hbe.mono (by rw [World.size_alloc]; omega))); have HVE := hide (HVQ.out.below HBE.out); have HBW : Hid (Below W.heap.size W we) := HX.out.trans ((HBQ.out.trans (HBE.out.mono HBQ.out.size)).mono HX.out.size); obtain ⟨e0, e1, e2, e3, e4, k4, n0, n1, n2, n3, n4⟩ := HVE.out.cells; clear hbe))
  all_goals
    gi_wp2
    have hx := HF11.out eb s we HVE.out HBW.out hre
    exact ⟨hx.1, rfl, hx.2.2⟩

end Go.Proofs.Qxb6605907aGreatFmt
