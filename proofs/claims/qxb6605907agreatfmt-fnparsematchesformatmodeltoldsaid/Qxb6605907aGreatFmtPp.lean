import Derived.Test.Qxb6605907aGreatFmtPbN
import Derived.Test.Qxb6605907aGreatFmtPbO
import Derived.Test.Qxb6605907aGreatFmtPbB
import Derived.Test.Qxb6605907aGreatFmtMq
import Derived.Deep.RegionLaw
import Derived.Deep.RegionHeld3
import Derived.Deep.CutRange
namespace Go.Proofs.Qxb6605907aGreatFmt
open Go.RowKit Go.Shelf
attribute [local go_sem] Oper.semAt_some

/-- Behind the first half of parseProc: the process is opened. -/
structure Opn (W0 w : World) (pb sc hb mb wb N I0 : Nat) (file : ByteArray) (line : Int) (ini : Bool) (init : List UInt8) (h1 : HP) (W : World) : Prop where
  pok : POk W0.heap.size W pb sc hb mb wb file line ini true init h1
  b0 : W.heap[N]? = some (.cells #[.pointer (some ⟨pb, 0, none⟩)] 35 (0, 0))
  b1 : W.heap[N + 1]? = some (.cells #[.pointer none] 24 (0, 0))
  b2 : W.heap[N + 2]? = some (.cells #[.int .i64 (I0 : Int)] 3 (0, 0))
  keep : KeepsT W0.heap.size pTs [mb, wb] w W

set_option maxRecDepth 100000 in
set_option maxHeartbeats 8000000 in
theorem parseProc_spec (W0 : World) (EV : EnvF W0) (pb sc hb mb wb c : Nat) (file : ByteArray) (line : Int) (ini st : Bool) (init name ops : List UInt8) (h : HP) (w : World) (hl : Low W0 w)
    (hP : POk W0.heap.size w pb sc hb mb wb file line ini st init h) (hO : HOk h c) (hc : c + ops.length + 1 ≤ 2097152) (hlo : ops.length ≤ 1048577) :
    Calls Tryz.prog 27 #[.pointer (some ⟨pb, 0, none⟩), .string (baOf name), .string (baOf ops)] w fun e w' =>
      ((procP init h name ops).2 = true → e = .returned (.pointer none)) ∧
      ((procP init h name ops).2 = false → ∃ eb s, e = .returned (.pointer (some ⟨eb, 0, none⟩)) ∧ w'.heap[eb]? = some (.cells #[.string file, .int .i64 line, .string s] 31 (0, 0))) ∧
      POk W0.heap.size w' pb sc hb mb wb file line ini true init (procP init h name ops).1 ∧ KeepsT W0.heap.size pTs [mb, wb] w w' := by
  have hB := hl.size
  obtain ⟨B, hBB⟩ : ∃ B, W0.heap.size = B := ⟨_, rfl⟩
  have HBB := hide hBB
  obtain ⟨hps, hmap, pv, L, E, hS, hE⟩ := hP
  obtain ⟨N, hN⟩ : ∃ N, w.heap.size = N := ⟨_, rfl⟩
  have p0 : w.cell? ⟨pb, 4, none⟩ = some (.bool st) := by rw [row_cell hps.prow]; rfl
  have p2 : w.cell? ⟨pb, 2, none⟩ = some (.map (some mb)) := by rw [row_cell hps.prow]; rfl
  have pf : w.frozen? ⟨pb, 4, none⟩ = false := row_frozen hps.prow 4
  have lpb : pb < N := by have := lt_of_get hps.prow; omega
  have lpb1 : pb < N + 1 := by omega
  have lpb2 : pb < N + 1 + 1 := by omega
  -- the world behind region 2
  have kX : KeepsT W0.heap.size [78] [] w (w.setCell ⟨pb, 4, none⟩ (.bool true)) := (KeepsT.refl _ _ _ w).setCell hps.prow (by simp) hps.base.1 _
  have psX : PSt W0.heap.size (w.setCell ⟨pb, 4, none⟩ (.bool true)) pb sc hb mb wb file line ini true := by
    obtain ⟨v1, v3, v4, v5, hs⟩ := hps.srow
    exact ⟨row_set hps.prow 4 _, ⟨v1, v3, v4, v5, kX.cells _ _ _ _ hs (by simp)⟩, hps.base, hps.ne⟩
  have HPX : Hid (POk W0.heap.size (w.setCell ⟨pb, 4, none⟩ (.bool true)) pb sc hb mb wb file line ini true init h) :=
    ⟨psX, hmap.keepsT kX (by simp), ⟨pv, L, E, hS.keepT kX (by simp) (by simp), hE⟩⟩
  obtain ⟨F0, hF0⟩ : ∃ F0, findE (baOf name) (idxOf 0 (h.procs.map (·.1))) 0 = F0 := ⟨_, rfl⟩
  have HF : Hid (F0 = (findP h.procs name).map (fun i => (0 + i, .int .i64 ((0 + i : Nat) : Int)))) := by
    show _ = _
    rw [← hF0, idxOf_find, ← findP_names]
  have HF0 := hide hF0
  obtain ⟨iv, hiv⟩ : ∃ iv, (F0.map (·.2)).getD (.int .i64 0) = iv := ⟨_, rfl⟩
  obtain ⟨bv, hbv⟩ : ∃ bv, F0.isSome = bv := ⟨_, rfl⟩
  have hlk : ∀ o1 o2, (Instr.lookup 62 (.map (some mb)) (.string (baOf name)) true).run Tryz.prog (((w.setCell ⟨pb, 4, none⟩ (.bool true)).alloc o1).alloc o2) = .ok (.tuple #[iv, .bool bv]) (((w.setCell ⟨pb, 4, none⟩ (.bool true)).alloc o1).alloc o2) := fun o1 o2 => by
    have hm2 := (hmap.keepsT kX (by simp)).keepsT ((KeepsT.refl W0.heap.size [] [] (w.setCell ⟨pb, 4, none⟩ (.bool true))).alloc o1 |>.alloc o2) (by simp)
    have := lookupS (P := Tryz.prog) hm2 Tryz.underlying62 Tryz.underlying9 (baOf name) (z := .int .i64 0) Tryz.zeroValue3 true
    rw [hF0, if_pos rfl, hiv, hbv] at this
    exact this
  have HIV := hide hiv
  have HBV := hide hbv
  have HKX := hide kX
  have HOK := hide hO
  have HEV := hide EV
  have HLOW := hide hl
  have hivc : ∃ z : Int, iv = .int .i64 z := by
    rw [← hiv, HF.out]
    cases findP h.procs name with
    | none => exact ⟨0, rfl⟩
    | some i => exact ⟨_, rfl⟩
  obtain ⟨z, rfl⟩ := hivc
  clear hps hmap hS hE kX psX hF0 hiv hbv hO EV hl
  refine (callsIn_wide (n := 8)).1 ?_
  refine callsIn_of_wp_marks Tryz.func27 rfl trivial ?_ rfl
  refine wpIn_wide.2 ?_
  simp only [Tryz.ntmps27, List.size_toArray, List.length_cons, List.length_nil, Nat.reduceAdd, Nat.reduceSub, Array.replicate_succ, Array.replicate_zero, List.push_toArray, List.append_toArray, List.nil_append, List.cons_append]
  go_upto_if 26 with fail
  have HZX : Hid (Opn W0 w pb sc hb mb wb N 0 file line ini init h ((((w.setCell ⟨pb, 4, none⟩ (.bool true)).alloc (.cells #[.pointer (some ⟨pb, 0, none⟩)] 35)).alloc (.cells #[.pointer none] 24)).alloc (.cells #[.int .i64 z] 3)) ∨ True) := Or.inr trivial
  have hzs : (w.setCell ⟨pb, 4, none⟩ (.bool true)).heap.size = N := by simpa using hN
  have z0 : ((((w.setCell ⟨pb, 4, none⟩ (.bool true)).alloc (.cells #[.pointer (some ⟨pb, 0, none⟩)] 35)).alloc (.cells #[.pointer none] 24)).alloc (.cells #[.int .i64 z] 3)).heap[N]? = some (.cells #[.pointer (some ⟨pb, 0, none⟩)] 35 (0, 0)) := by
    rw [heap_alloc_old _ _ (by simp only [World.size_alloc, hzs]; omega), heap_alloc_old _ _ (by simp only [World.size_alloc, hzs]; omega), ← hzs]
    exact heap_alloc_new _ _
  have z1 : ((((w.setCell ⟨pb, 4, none⟩ (.bool true)).alloc (.cells #[.pointer (some ⟨pb, 0, none⟩)] 35)).alloc (.cells #[.pointer none] 24)).alloc (.cells #[.int .i64 z] 3)).heap[N + 1]? = some (.cells #[.pointer none] 24 (0, 0)) := by
    rw [heap_alloc_old _ _ (by simp only [World.size_alloc, hzs]; omega), ← hzs, ← World.size_alloc (w.setCell ⟨pb, 4, none⟩ (.bool true)) (.cells #[.pointer (some ⟨pb, 0, none⟩)] 35)]
    exact heap_alloc_new _ _
  have z2 : ((((w.setCell ⟨pb, 4, none⟩ (.bool true)).alloc (.cells #[.pointer (some ⟨pb, 0, none⟩)] 35)).alloc (.cells #[.pointer none] 24)).alloc (.cells #[.int .i64 z] 3)).heap[N + 1 + 1]? = some (.cells #[.int .i64 z] 3 (0, 0)) := by
    have := heap_alloc_new (((w.setCell ⟨pb, 4, none⟩ (.bool true)).alloc (.cells #[.pointer (some ⟨pb, 0, none⟩)] 35)).alloc (.cells #[.pointer none] 24)) (.cells #[.int .i64 z] 3)
    rw [World.size_alloc, World.size_alloc, hzs] at this
    exact this
  have kZ : KeepsT W0.heap.size [] [] (w.setCell ⟨pb, 4, none⟩ (.bool true)) ((((w.setCell ⟨pb, 4, none⟩ (.bool true)).alloc (.cells #[.pointer (some ⟨pb, 0, none⟩)] 35)).alloc (.cells #[.pointer none] 24)).alloc (.cells #[.int .i64 z] 3)) := (KeepsT.refl _ _ _ _).alloc _ |>.alloc _ |>.alloc _
  have HPZ := hide (HPX.out.keepT kZ (by simp) (by simp) (by simp) (by simp))
  have HKZ := hide ((HKX.out.mono (Ts' := pTs) (S' := [mb, wb]) (by simp) (by simp)).trans (kZ.mono (by simp) (by simp)))
  obtain ⟨Z, hZ⟩ : ∃ Z, (((w.setCell ⟨pb, 4, none⟩ (.bool true)).alloc (.cells #[.pointer (some ⟨pb, 0, none⟩)] 35)).alloc (.cells #[.pointer none] 24)).alloc (.cells #[.int .i64 z] 3) = Z := ⟨_, rfl⟩
  rw [hZ] at z0 z1 z2 HPZ HKZ ⊢
  have Z0 := hide z0
  have Z1 := hide z1
  have Z2 := hide z2
  clear hZ kZ HZX hlk z0 z1 z2 p0 p2 pf HPX HKX hzs
  have hopn : (openP h name).1 < (openP h name).2.procs.length := openP_lt h name
  go_cut [] from 27 to 57 (fun w' => Opn W0 w pb sc hb mb wb N (openP h name).1 file line ini init (openP h name).2 w')
  case first =>
    cases hf : findP h.procs name with
    | some i =>
      have HI := hide (show openP h name = (i, h) by simp [openP, hf])
      have hF := HF.out
      rw [hf] at hF
      have e1 : bv = true := by rw [← HBV.out, hF]; rfl
      have e2 : z = (i : Int) := by
        have := HIV.out
        rw [hF] at this
        simpa using this.symm
      subst e1
      subst e2
      clear hF hf
      go_wp2
      go_meet
      rw [HI.out]
      exact ⟨HPZ.out, Z0.out, Z1.out, Z2.out, HKZ.out⟩
    | none =>
      have HI := hide (show openP h name = (h.procs.length, { h with procs := h.procs ++ [(name, [])] }) by simp [openP, hf])
      have hF := HF.out
      rw [hf] at hF
      have e1 : bv = false := by rw [← HBV.out, hF]; rfl
      have HFN : Hid (findE (baOf name) (idxOf 0 (h.procs.map (·.1))) 0 = none) := by show _ = _; rw [HF0.out, hF]; rfl
      subst e1
      clear hF hf
      obtain ⟨hps, hmap, pvZ, LZ, EZ, hSZ, hEZ⟩ := HPZ.out
      have hnl : (h.procs.map (·.1)).length = h.procs.length := List.length_map _
      obtain ⟨pp, pcap, hpv⟩ := ownsRow_form hSZ.procs
      rw [hnl] at hpv
      subst hpv
      have p1 : Z.cell? ⟨pb, 1, none⟩ = some (.pointer (some ⟨hb, 0, none⟩)) := by rw [row_cell hps.prow]; rfl
      have p2 : Z.cell? ⟨pb, 2, none⟩ = some (.map (some mb)) := by rw [row_cell hps.prow]; rfl
      have q1 : Z.cell? ⟨hb, 1, none⟩ = some (.slice pp h.procs.length pcap) := by rw [row_cell hSZ.row]; rfl
      have d0 : Z.cell? ⟨N, 0, none⟩ = some (.pointer (some ⟨pb, 0, none⟩)) := by rw [row_cell Z0.out]; rfl
      have d2 : Z.cell? ⟨N + 1 + 1, 0, none⟩ = some (.int .i64 z) := by rw [row_cell Z2.out]; rfl
      have f2 : Z.frozen? ⟨N + 1 + 1, 0, none⟩ = false := row_frozen Z2.out 0
      have HPS := hide hps
      have HMAP := hide hmap
      have HSZ := hide hSZ
      have HEZ := hide hEZ
      clear hps hmap hSZ hEZ hnl
      go_upto_region 5 with fail
      have kY : KeepsT W0.heap.size [3] [] Z (Z.setCell ⟨N + 1 + 1, 0, none⟩ (.int .i64 (h.procs.length : Int))) := (KeepsT.refl _ _ _ Z).setCell Z2.out (by simp) (by omega) _
      have hS1 := HSZ.out.keepT kY (by simp) (by simp)
      have hps1 := HPS.out.keepT kY (by simp) (by simp)
      have hm1 := HMAP.out.keepsT kY (by simp)
      have y0 := kY.cells _ _ _ _ Z0.out (by simp)
      have y1 := kY.cells _ _ _ _ Z1.out (by simp)
      have y2 := row_set Z2.out 0 (.int .i64 (h.procs.length : Int))
      have HKY : Hid (KeepsT W0.heap.size pTs [mb, wb] w (Z.setCell ⟨N + 1 + 1, 0, none⟩ (.int .i64 (h.procs.length : Int)))) := by
        refine ⟨kY.os.trans HKZ.out.os, kY.tape.trans HKZ.out.tape, kY.output.trans HKZ.out.output, Nat.le_trans HKZ.out.size kY.size, fun i cs T fr hi hT => ?_, fun i o hi ho hn => kY.other i o (HKZ.out.other i o hi ho hn) ho (by simp), fun i hi hs => (kY.low i hi (Nat.lt_of_lt_of_le hs HKZ.out.size)).trans (HKZ.out.low i hi hs)⟩
        refine (Below.heap_setCell Z ⟨N + 1 + 1, 0, none⟩ _ i ?_).trans (HKZ.out.cells i cs T fr hi hT)
        have := lt_of_get hi
        intro e
        dsimp only at e
        omega
      obtain ⟨Y, hY⟩ : ∃ Y, Z.setCell ⟨N + 1 + 1, 0, none⟩ (.int .i64 (h.procs.length : Int)) = Y := ⟨_, rfl⟩
      rw [hY] at hS1 hps1 hm1 y0 y1 y2 HKY ⊢
      clear hY kY p1 p2 q1 d0 d2 f2
      change Y.heap[N + 1 + 1]? = some (.cells #[.int .i64 (h.procs.length : Int)] 3 (0, 0)) at y2
      have HFC := hide (HOK.out.count)
      have hcnt : h.procs.length ≤ c := HOK.out.count
      have kD : KeepsT W0.heap.size [] [] Y Y.drew := (KeepsT.refl _ _ _ Y).drew
      have HPU : Hid (W0.heap.size ≤ mb) := hps1.base.2
      obtain ⟨w3, hmu, hm3, hg3⟩ := updateS (P := Tryz.prog) (hm1.keepsT kD (by simp)) Tryz.underlying62 Tryz.underlying9 (baOf name) (.int .i64 (h.procs.length : Int)) HFN.out
      obtain ⟨om, hom1, hom2⟩ := (hm1.keepsT kD (by simp)).obj
      have k3 : KeepsT W0.heap.size [] [mb] Y.drew w3 := KeepsT.mapped hg3 hom1 hom2 (by simp) HPU.out
      have k3' : KeepsT W0.heap.size [] [mb] Y w3 := (kD.mono (by simp) (by simp)).trans k3
      have hS3 := hS1.keepT k3' (by simp) (by simp; exact hps1.ne.symm)
      have hps3 := hps1.keepT k3' (by simp) (by simp)
      have r0 := k3'.cells _ _ _ _ y0 (by simp)
      have r1 := k3'.cells _ _ _ _ y1 (by simp)
      have r2 := k3'.cells _ _ _ _ y2 (by simp)
      have HK3 := hide (HKY.out.trans (k3'.mono (by simp) (by simp)))
      have a0 : Y.cell? ⟨N, 0, none⟩ = some (.pointer (some ⟨pb, 0, none⟩)) := by rw [row_cell y0]; rfl
      have a1 : Y.cell? ⟨pb, 2, none⟩ = some (.map (some mb)) := by rw [row_cell hps1.prow]; rfl
      have a2 : Y.cell? ⟨N + 1 + 1, 0, none⟩ = some (.int .i64 (h.procs.length : Int)) := by rw [row_cell y2]; rfl
      have b0 : w3.cell? ⟨N, 0, none⟩ = some (.pointer (some ⟨pb, 0, none⟩)) := by rw [row_cell r0]; rfl
      have b1 : w3.cell? ⟨pb, 2, none⟩ = some (.map (some mb)) := by rw [row_cell hps3.prow]; rfl
      have b2 : w3.cell? ⟨N + 1 + 1, 0, none⟩ = some (.int .i64 (h.procs.length : Int)) := by rw [row_cell r2]; rfl
      have HS3 := hide hS3
      have HPS3 := hide hps3
      have HM3 := hide hm3
      have R0 := hide r0
      have R1 := hide r1
      have R2 := hide r2
      clear hS1 hps1 hm1 y0 y1 y2 kD hm3 hg3 hom1 hom2 k3 k3' hS3 hps3 r0 r1 r2
      go_region_held3 (fun w' => w'.cell? ⟨N, 0, none⟩ = some (.pointer (some ⟨pb, 0, none⟩)) ∧ w'.cell? ⟨pb, 2, none⟩ = some (.map (some mb)) ∧ w'.cell? ⟨N + 1 + 1, 0, none⟩ = some (.int .i64 (h.procs.length : Int)))
        (first
          | (refine ⟨?_, ?_, ?_⟩ <;> assumption)
          | go_keep)
        (fail)
      clear a0 a1 a2 b1 b2 hmu
      have b1 : w3.cell? ⟨pb, 1, none⟩ = some (.pointer (some ⟨hb, 0, none⟩)) := by rw [row_cell HPS3.out.prow]; rfl
      have c1 : w3.cell? ⟨hb, 1, none⟩ = some (.slice pp h.procs.length pcap) := by rw [row_cell HS3.out.row]; rfl
      have l0 := lt_of_get R0.out
      have l1 := lt_of_get HPS3.out.prow
      have l2 := lt_of_get HS3.out.row
      obtain ⟨i67, hi67, hz670, hz671, hz672⟩ := info_parts (show (Tryz.prog.info? 46).map (fun i => (i.zero, i.size, i.bytes)) = some (some (.agg #[.string ⟨#[]⟩, .slice none 0 0]), 2, 40) by kernel_rfl)
      have hmax : h.procs.length + 1 ≤ maxLen := by simp [maxLen]; omega
      have hby : (h.procs.length + 1) * 40 ≤ 140737488355328 := by omega
      have hsA := HS3.out.keepT (KeepsT.refl W0.heap.size [] [] w3 |>.alloc (.cells #[.string (baOf name), .slice none 0 0] 46) |>.drew) (by simp) (by simp)
      have hpo := hsA.procs
      rw [List.length_map] at hpo
      have HEVR := hide hpo
      have HNW3 := hide (World.news_of_block (w := (w3.alloc (.cells #[.string (baOf name), .slice none 0 0] 46)).drew) (B := w3.heap.size) (cs := #[.string (baOf name), .slice none 0 0]) (t := 46) (fr := (0, 0)) (heap_alloc_new w3 _))
      have HB3 : Hid (W0.heap.size ≤ (w3.alloc (.cells #[.string (baOf name), .slice none 0 0] 46)).drew.heap.size) := by show W0.heap.size ≤ (w3.alloc _).heap.size; rw [World.size_alloc]; have := HS3.out.base.1; omega
      have HFAR : Hid (∀ w1, (w3.alloc (.cells #[.string (baOf name), .slice none 0 0] 46)).drew.grownBy w1 (Value.slice pp h.procs.length pcap).ownBlock → w1.cell? ⟨hb, 1, none⟩ = some (.slice pp h.procs.length pcap) ∧ w1.frozen? ⟨hb, 1, none⟩ = false ∧ w1.cell? ⟨N, 0, none⟩ = some (.pointer (some ⟨pb, 0, none⟩)) ∧ w1.cell? ⟨pb, 1, none⟩ = some (.pointer (some ⟨hb, 0, none⟩))) := fun w1 hgrow => by
        have kA := hsA.pkeep hgrow
        have k0 : KeepsT W0.heap.size [] [] w3 (w3.alloc (.cells #[.string (baOf name), .slice none 0 0] 46)).drew := (KeepsT.refl _ _ _ w3).alloc _ |>.drew
        have hr := kA.cells _ _ _ _ hsA.row (by simp)
        exact ⟨by rw [row_cell hr]; rfl, row_frozen hr 1, by rw [row_cell (kA.cells _ _ _ _ (k0.cells _ _ _ _ R0.out (by simp)) (by simp))]; rfl, by rw [row_cell (kA.cells _ _ _ _ (k0.cells _ _ _ _ HPS3.out.prow (by simp)) (by simp))]; rfl⟩
      have HEND : Hid (∀ gg gcap w1, w1.ownsRow W0.heap.size 46 2 (.slice (some ⟨gg, 0, none⟩) (h.procs.length + 1) gcap) (h.procs.length + 1) (pRow (h.procs.map (·.1)) LZ ++ [.string (baOf name), .slice none 0 0]) → (w3.alloc (.cells #[.string (baOf name), .slice none 0 0] 46)).drew.grownBy w1 (Value.slice pp h.procs.length pcap).ownBlock →
          Opn W0 w pb sc hb mb wb N h.procs.length file line ini init { procs := h.procs ++ [(name, [])], written := h.written } (w1.setCell ⟨hb, 1, none⟩ (.slice (some ⟨gg, 0, none⟩) (h.procs.length + 1) gcap))) := fun gg gcap w1 hown1 hgrow => by
        have kA := hsA.pkeep hgrow
        have k0 : KeepsT W0.heap.size [] [] w3 (w3.alloc (.cells #[.string (baOf name), .slice none 0 0] 46)).drew := (KeepsT.refl _ _ _ w3).alloc _ |>.drew
        have hfin := hsA.procs_new (x := name) (v' := .slice (some ⟨gg, 0, none⟩) (h.procs.length + 1) gcap) (by rw [List.length_map]; exact hown1) hgrow
        have hr := kA.cells _ _ _ _ hsA.row (by simp)
        have kE : KeepsT W0.heap.size [43] [] w1 (w1.setCell ⟨hb, 1, none⟩ (.slice (some ⟨gg, 0, none⟩) (h.procs.length + 1) gcap)) := (KeepsT.refl _ _ _ w1).setCell hr (by simp) hsA.base.1 _
        have kAll : KeepsT W0.heap.size [43, 46] [] w3 (w1.setCell ⟨hb, 1, none⟩ (.slice (some ⟨gg, 0, none⟩) (h.procs.length + 1) gcap)) := ((k0.mono (by simp) (by simp)).trans (kA.mono (by simp) (by simp))).trans (kE.mono (by simp) (by simp))
        have hG : GOk W0.heap.size (w1.setCell ⟨hb, 1, none⟩ (.slice (some ⟨gg, 0, none⟩) (h.procs.length + 1) gcap)) hb wb init { procs := h.procs ++ [(name, [])], written := h.written } := by
          unfold GOk
          dsimp only
          rw [List.map_append, List.map_append]
          exact ⟨_, _, _, hfin, HEZ.out⟩
        have hM : MapS (w1.setCell ⟨hb, 1, none⟩ (.slice (some ⟨gg, 0, none⟩) (h.procs.length + 1) gcap)) mb (idxOf 0 ((h.procs ++ [(name, ([] : List OpP))]).map (·.1))) := by
          rw [List.map_append, List.map_singleton, idxOf_snoc, List.length_map, Nat.zero_add]
          exact HM3.out.keepsT kAll (by simp)
        exact ⟨⟨HPS3.out.keepT kAll (by simp) (by simp), hM, hG⟩, kAll.cells _ _ _ _ R0.out (by simp), kAll.cells _ _ _ _ R1.out (by simp), kAll.cells _ _ _ _ R2.out (by simp), HK3.out.trans (kAll.mono (by simp) (by simp))⟩
      clear hsA hpo
      go_wp2_with fail
      refine wp_region_noPanic ?_
      go_region_law (refine step_append_lies _ (by rfl) (.tmp 51) (.tmp 54) 40 (by rfl) W0.heap.size 46 i67 (.agg #[.string ⟨#[]⟩, .slice none 0 0]) 2 40 Tryz.underlying40 hi67 hz670 hz671 hz672 rfl (by omega) (.slice pp h.procs.length pcap) h.procs.length (pRow (h.procs.map (·.1)) LZ) (by rfl) HEVR.out ⟨w3.heap.size, 0, none⟩ 1 1 [.string (baOf name), .slice none 0 0] (by rfl) (by rfl) HNW3.out (by simp [Value.oneCell']) (by omega) hmax hby HB3.out (w3.heap.size + 1) (by simp) ?_; intro gg gcap w1 hown1 hgrow hat hlt1; obtain ⟨g1, g2, g3, g4⟩ := HFAR.out w1 hgrow)
      all_goals
        refine NoPanic.normal ?_
        go_wp2
        go_meet
        rw [HI.out]
        exact HEND.out _ _ _ hown1 hgrow
  case rest =>
    obtain ⟨hpok, r0, r1, r2, hkp⟩ := hcut
    have HPOK := hide hpok
    have R0 := hide r0
    have R1 := hide r1
    have R2 := hide r2
    have HKP := hide hkp
    have HC0 := hide (HOK.out.opened name)
    have HIL := hide hopn
    have HPR : Hid (procP init h name ops = runP init (openP h name).1 (openP h name).2 (fields ops)) := rfl
    obtain ⟨I0, hI0⟩ : ∃ I0, (openP h name).1 = I0 := ⟨_, rfl⟩
    obtain ⟨h0, hh0⟩ : ∃ h0, (openP h name).2 = h0 := ⟨_, rfl⟩
    rw [hI0, hh0] at HIL HPR
    rw [hh0] at HC0 HPOK
    rw [hI0] at R2
    have HXS : Hid ((baOf ops).size = ops.length) := baOf_size ops
    have HXD : Hid ((baOf ops).data.toList = ops) := baOf_data ops
    obtain ⟨x, hx⟩ : ∃ x, baOf ops = x := ⟨_, rfl⟩
    rw [hx] at HXS HXD ⊢
    have hxs : x.size ≤ 1048577 := by rw [HXS.out]; exact hlo
    have HSQ := hide (fieldsFuncSeq_spec x wc)
    clear hx hI0 hh0 hpok r0 r1 r2 hkp hopn HPZ HKZ Z0 Z1 Z2
    go_upto_block 0 with (go_at_call 36; refine HSQ.out.mono ?_; rintro e wx ⟨rfl, rfl⟩)
    refine (wpIn_wide (n := 8)).1 ?_
    have hb3 : ((wc.alloc (.cells #[.string x] 9)).alloc (.cells #[.func (.func 37) #[] #[]] 98)).heap[wc.heap.size]? = some (.cells #[.string x] 9 (0, 0)) := by
      rw [heap_alloc_old _ _ (by rw [World.size_alloc]; omega)]; exact heap_alloc_new wc _
    have hb4 : ((wc.alloc (.cells #[.string x] 9)).alloc (.cells #[.func (.func 37) #[] #[]] 98)).heap[wc.heap.size + 1]? = some (.cells #[.func (.func 37) #[] #[]] 98 (0, 0)) := by
      have := heap_alloc_new (wc.alloc (.cells #[.string x] 9)) (.cells #[.func (.func 37) #[] #[]] 98)
      rw [World.size_alloc] at this
      exact this
    have kWL : KeepsT W0.heap.size [] [] wc ((wc.alloc (.cells #[.string x] 9)).alloc (.cells #[.func (.func 37) #[] #[]] 98)) := (KeepsT.refl _ _ _ wc).alloc _ |>.alloc _
    have hlow : Low W0 wc := HLOW.out.keepT HKP.out
    have HLV : Hid (Lv W0 w pb sc hb mb wb N wc.heap.size (wc.heap.size + 1) I0 file line ini init x (.pointer none) h0 ((wc.alloc (.cells #[.string x] 9)).alloc (.cells #[.func (.func 37) #[] #[]] 98))) :=
      ⟨HPOK.out.keepT kWL (by simp) (by simp) (by simp) (by simp), kWL.cells _ _ _ _ R0.out (by simp), kWL.cells _ _ _ _ R1.out (by simp), kWL.cells _ _ _ _ R2.out (by simp), hb3, hb4, hlow.keepT kWL, HKP.out.trans (kWL.mono (by simp) (by simp))⟩
    obtain ⟨bs, hbs⟩ : ∃ bs, wc.heap.size = bs := ⟨_, rfl⟩
    have hszL : ((wc.alloc (.cells #[.string x] 9)).alloc (.cells #[.func (.func 37) #[] #[]] 98)).heap.size = bs + 2 := by rw [World.size_alloc, World.size_alloc, hbs]
    rw [hbs] at HLV ⊢
    obtain ⟨WL, hWL⟩ : ∃ WL, (wc.alloc (.cells #[.string x] 9)).alloc (.cells #[.func (.func 37) #[] #[]] 98) = WL := ⟨_, rfl⟩
    rw [hWL] at HLV hszL ⊢
    have hwL : w.heap.size ≤ WL.heap.size := by have := HKP.out.size; omega
    obtain ⟨mbo, hmb1, _⟩ := HLV.out.pok.2.1.obj
    have hmbL := lt_of_get hmb1
    have hwbL : wb < WL.heap.size := by
      obtain ⟨_, _, _, hs, _⟩ := HLV.out.pok.2.2
      obtain ⟨wbo, hwb1, _⟩ := hs.writes.obj
      exact lt_of_get hwb1
    have hU := HEV.out.utfAt HLV.out.low
    have hg0 : 2 < W0.heap.size := World.block_lt_of_cell? W0 ⟨2, 0, none⟩ (HEV.out.utf.1 0 (by decide))
    have hg1 : 3 < W0.heap.size := World.block_lt_of_cell? W0 ⟨3, 2 * 0, none⟩ (HEV.out.utf.2 0 (by decide)).1
    have hW0L : W0.heap.size ≤ WL.heap.size := HLV.out.low.size
    clear hb3 hb4 kWL hlow hbs hWL HPOK R0 R1 R2 HKP HSQ
    have HSEQ := hide (fields_stops 7 (by decide) bs (bs + 1) x hxs WL HLV.out.b3 HLV.out.b4 hU (by omega) (by omega))
    rw [HXD.out] at HSEQ
    gi_wp2
    refine wpIn_rangeFunc_ownG (F := Fence.wide) (n := 8) rfl (by decide) (gf := 52) (lb := #[.pointer (some ⟨bs, 0, none⟩), .pointer (some ⟨bs + 1, 0, none⟩)]) rfl trivial (enters_of Tryz.func52 (by kernel_rfl) rfl) HSEQ.out
      (fun h k => h.trans k) (Kf.put (by omega) (by omega) (by omega) (by omega)) (Below.refl _ _) (fun _ => rfl)
      (LI W0 w pb sc hb mb wb N bs I0 c file line ini init x h0)
      (LX W0 w pb sc hb mb wb N bs I0 file line ini init x h0)
      (fun pre W W' row hs hg hr => by
        obtain ⟨h1, e1, v1, o1, i1⟩ := hs
        exact ⟨h1, e1, v1.own hwL hW0L hmbL hwbL hg hr, o1, i1⟩)
      (fun cd pre W W' row hs hg hr => by
        obtain ⟨e0, h1, eb, s, e1, v1, r1⟩ := hs
        exact ⟨e0, h1, eb, s, e1, v1.own hwL hW0L hmbL hwbL hg hr, row_own r1 hg hr⟩)
      ⟨h0, rfl, HLV.out, HC0.out, HIL.out⟩ ?a1 ?assign ?body ?done ?stop
    case assign =>
      intro l y W K hK
      gi_wp2
      exact hK
    case body =>
      rintro l pre y W ⟨h1, e1, v1, o1, i1⟩ hlen
      have hpl : pre.length < ops.length := Nat.lt_of_lt_of_le hlen (fields_count ops)
      have HEE := HEV.out
      cases hop : opP (fL y) with
      | none => exact body_none W0 HEE w W pb sc hb mb wb N bs I0 c WL.heap.size l file line ini init x h0 h1 pre y _ _ _ _ _ _ _ _ _ _ _ _ _ _ _ _ _ _ _ _ _ _ _ _ _ _ _ _ _ _ _ _ _ _ _ _ _ _ _ _ _ _ _ _ _ _ _ _ _ _ _ _ _ _ _ _ _ _ _ _ _ _ _ _ _ _ _ _ _ _ _ _ _ _ _ _ _ _ _ _ _ _ _ _ _ _ _ _ _ hB hN e1 v1 hop
      | some o =>
        cases hbad : addBad init h1 o with
        | false => exact body_ok W0 HEE w W pb sc hb mb wb N bs I0 c WL.heap.size l file line ini init ops x h0 h1 pre y _ _ _ _ _ _ _ _ _ _ _ _ _ _ _ _ _ _ _ _ _ _ _ _ _ _ _ _ _ _ _ _ _ _ _ _ _ _ _ _ _ _ _ _ _ _ _ _ _ _ _ _ _ _ _ _ _ _ _ _ _ _ _ _ _ _ _ _ _ _ _ _ _ _ _ _ _ _ _ _ _ _ _ _ _ _ _ _ _ hg0 hg1 e1 v1 o1 i1 hc hpl hwbL o hop hbad
        | true => exact body_bad W0 HEE w W pb sc hb mb wb N bs I0 c WL.heap.size l file line ini init ops x h0 h1 pre y _ _ _ _ _ _ _ _ _ _ _ _ _ _ _ _ _ _ _ _ _ _ _ _ _ _ _ _ _ _ _ _ _ _ _ _ _ _ _ _ _ _ _ _ _ _ _ _ _ _ _ _ _ _ _ _ _ _ _ _ _ _ _ _ _ _ _ _ _ _ _ _ _ _ _ _ _ _ _ _ _ _ _ _ _ _ _ _ _ hB hN e1 v1 o1 i1 hc hpl hwbL o hop hbad
    case done =>
      rintro D ys W hD hys ⟨h1, e1, v1, o1, i1⟩ hK
      obtain ⟨c0, c1, c2, c3, c4, f4, l0, l1, l2, l3, l4⟩ := v1.cells
      have HV1 := hide v1
      have HE1 := hide e1
      have HYS := hide hys
      have HKD := hide hK
      clear v1 e1 hys
      gi_wp2
      go_wp2
      have hneD : D ≠ N + 1 := fun e => by
        have hb := HV1.out.b1
        rw [← e, hK] at hb
        cases hb
      have hK2 := row_keep hK ⟨N + 1, 0, none⟩ (.pointer none) hneD
      have v2 := HV1.out.result (by omega) hB (.pointer none)
      have v3 := v2.keep0 (S := [D]) (KeepsT.mapped (grownBy_putObj' _ D (.deferred none)) hK2 rfl (by simp) (by omega)) (by simp; omega) (by simp; omega) (by intro s hs; simp at hs; omega)
      refine ⟨by simp, .inl ⟨_, _, rfl, run_takeDeferred hK2, ?_⟩⟩
      have hcell := v3.cells.2.2.2.2.1
      have HP2 : Hid (procP init h name ops = (h1, true)) := by
        show _ = _
        rw [HPR.out, ← HYS.out]
        exact HE1.out
      rw [HP2.out]
      refine ⟨.pointer none, by simp [results, Tryz.results27, go_sem, hcell], fun _ => rfl, fun e => (by cases e), v3.pok, v3.keep⟩
    case stop =>
      rintro D cd pre W hD hpre ⟨rfl, h1, eb, s, e1, v1, r1⟩ hK
      obtain ⟨c0, c1, c2, c3, c4, f4, l0, l1, l2, l3, l4⟩ := v1.cells
      have HV1 := hide v1
      have HE1 := hide e1
      have HPRE := hide hpre
      have HR1 := hide r1
      clear v1 e1 hpre r1
      gi_wp2
      have v3 := HV1.out.keep0 (S := [D]) (KeepsT.mapped (grownBy_putObj' _ D (.deferred none)) hK rfl (by simp) (by omega)) (by simp; omega) (by simp; omega) (by intro s hs; simp at hs; omega)
      refine ⟨by simp, .inl ⟨_, _, rfl, run_takeDeferred hK, ?_⟩⟩
      have hcell := v3.cells.2.2.2.2.1
      have HP2 : Hid (procP init h name ops = (h1, false)) := by
        show _ = _
        obtain ⟨r, hr⟩ := HPRE.out
        rw [HPR.out, ← hr]
        exact runP_stop init I0 _ r h0 h1 HE1.out
      have hrow := (KeepsT.mapped (Ts := []) (S := [D]) (B := W0.heap.size) (grownBy_putObj' W D (.deferred none)) hK rfl (by simp) (by omega)).cells _ _ _ _ HR1.out (by simp)
      rw [HP2.out]
      refine ⟨.pointer (some ⟨eb, 0, none⟩), by simp [results, Tryz.results27, go_sem, hcell], fun e => (by cases e), fun _ => ⟨eb, s, rfl, hrow⟩, v3.pok, v3.keep⟩

end Go.Proofs.Qxb6605907aGreatFmt
