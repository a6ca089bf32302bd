import Derived.Test.Qxb6605907aGreatFmtPp0
import Derived.Test.Qxb6605907aGreatFmtMq
namespace Go.Proofs.Qxb6605907aGreatFmt
open Go.RowKit

theorem gGet : ∀ (os : List OpP) (j : Nat) (o : OpP), os[j]? = some o → (os.flatMap gCells)[j * 3]? = some (.int .u8 (gKind o.write)) ∧ (os.flatMap gCells)[j * 3 + 1]? = some (.string (baOf o.v)) ∧ (os.flatMap gCells)[j * 3 + 2]? = some (.string (baOf o.value))
  | [], j, o, h => by simp at h
  | a :: r, 0, o, h => by
    simp only [List.getElem?_cons_zero, Option.some.injEq] at h
    subst h
    exact ⟨rfl, rfl, rfl⟩
  | a :: r, j + 1, o, h => by
    simp only [List.getElem?_cons_succ] at h
    have := gGet r j o h
    rw [show (j + 1) * 3 = j * 3 + 3 by omega]
    exact this

theorem mGet : ∀ (os : List OpP) (j : Nat) (o : OpP), os[j]? = some o → (os.flatMap mCells)[j * 3]? = some (.bool o.write) ∧ (os.flatMap mCells)[j * 3 + 1]? = some (.string (baOf o.v)) ∧ (os.flatMap mCells)[j * 3 + 2]? = some (.string (baOf o.value))
  | [], j, o, h => by simp at h
  | a :: r, 0, o, h => by
    simp only [List.getElem?_cons_zero, Option.some.injEq] at h
    subst h
    exact ⟨rfl, rfl, rfl⟩
  | a :: r, j + 1, o, h => by
    simp only [List.getElem?_cons_succ] at h
    have := mGet r j o h
    rw [show (j + 1) * 3 = j * 3 + 3 by omega]
    exact this

set_option maxRecDepth 100000 in
set_option maxHeartbeats 4000000 in
theorem sameHistory_spec (B D C hb wb m im wm c : Nat) (init : List UInt8) (h : HP) (w : World) (hG : GOk B w hb wb init h) (hM : MOk D C w m im wm init h) (hO : HOk h c) (hc : c ≤ 2097152) :
    Calls Tryz.prog 8 #[.pointer (some ⟨hb, 0, none⟩), .pointer (some ⟨m, 0, none⟩)] w fun e w' => e = .returned (.bool true) ∧ Below w.heap.size w w' := by
  obtain ⟨pv, L, E, hS, hE⟩ := hG
  obtain ⟨nv, ov, ML, hMs⟩ := hM
  have hnl : (h.procs.map (·.1)).length = h.procs.length := List.length_map _
  have hol : (h.procs.map (·.2)).length = h.procs.length := List.length_map _
  obtain ⟨n, hn⟩ : ∃ n, h.procs.length = n := ⟨_, rfl⟩
  obtain ⟨pp, pcap, hpv⟩ := ownsRow_form hS.procs
  obtain ⟨np, ncap, hnv⟩ := ownsRow_form hMs.names
  obtain ⟨op, ocap, hov⟩ := ownsRow_form hMs.ops
  have hmll : ML.length = n := by rw [hMs.len, hol, hn]
  rw [hnl, hn] at hpv hnv
  rw [hmll] at hov
  subst hpv
  subst hnv
  subst hov
  have a0 : w.cell? ⟨hb, 0, none⟩ = some (.string (baOf init)) := by rw [row_cell hS.row]; rfl
  have a1 : w.cell? ⟨hb, 1, none⟩ = some (.slice pp n pcap) := by rw [row_cell hS.row]; rfl
  have b0 : w.cell? ⟨m, 0, none⟩ = some (.string (baOf init)) := by rw [row_cell hMs.row]; rfl
  have b1 : w.cell? ⟨m, 1, none⟩ = some (.slice np n ncap) := by rw [row_cell hMs.row]; rfl
  have b2 : w.cell? ⟨m, 2, none⟩ = some (.slice op n ocap) := by rw [row_cell hMs.row]; rfl
  have hself : ((baOf init).toList != (baOf init).toList) = false := by simp
  have hnc : n ≤ 2097152 := by have := hO.count; omega
  have HS := hide hS
  have HM := hide hMs
  have HO := hide hO
  have HN := hide hn
  clear hS hMs hE hnl hol hO hn
  go_enter Tryz.func8, Tryz.ntmps8
  go_wp2
  go_quiet (fail)
  go_wp2
  go_loopw [5] (fun v wr => ∃ i : Nat, v = .int .i64 i ∧ i ≤ n ∧ Below w.heap.size w wr) (fun v _ => n - (intOf v).toNat)
  case atStart => exact ⟨0, rfl, Nat.zero_le _, ⟨rfl, rfl, rfl, Nat.le_refl _, fun _ _ => rfl⟩⟩
  case round =>
    obtain ⟨i, rfl, hi, hbl⟩ := hrel
    have HBL := hide hbl
    clear a0 a1 b0 b1 b2
    have HS1 := hide (HS.out.keepT (show KeepsT B [] [] w wr from KeepsT.of_below hbl (Nat.le_refl _)) (by simp) (by simp))
    have HM1 := hide (HM.out.keepT (show KeepsT D [] [] w wr from KeepsT.of_below hbl (Nat.le_refl _)) (by simp) (by simp) (by simp))
    have a1 : wr.cell? ⟨hb, 1, none⟩ = some (.slice pp n pcap) := by rw [row_cell HS1.out.row]; rfl
    have b1 : wr.cell? ⟨m, 1, none⟩ = some (.slice np n ncap) := by rw [row_cell HM1.out.row]; rfl
    have b2 : wr.cell? ⟨m, 2, none⟩ = some (.slice op n ocap) := by rw [row_cell HM1.out.row]; rfl
    clear hbl
    by_cases hlt : i < n
    · have hip : i < h.procs.length := by rw [HN.out]; exact hlt
      obtain ⟨pr, hpr⟩ : ∃ pr, h.procs[i]? = some pr := ⟨_, List.getElem?_eq_getElem hip⟩
      have hx0 : (h.procs.map (·.1))[i]? = some pr.1 := by rw [List.getElem?_map, hpr]; rfl
      have hos0 : (h.procs.map (·.2))[i]? = some pr.2 := by rw [List.getElem?_map, hpr]; rfl
      obtain ⟨v0, hv0⟩ : ∃ v0, L[i]? = some v0 := ⟨_, List.getElem?_eq_getElem (by rw [HS1.out.len.1, List.length_map]; exact hip)⟩
      obtain ⟨u0, hu0⟩ : ∃ u0, ML[i]? = some u0 := ⟨_, List.getElem?_eq_getElem (by rw [hmll]; exact hlt)⟩
      have hosl : pr.2.length ≤ 2097152 := by have := HO.out.each pr (List.mem_of_getElem? hpr); omega
      obtain ⟨pg, e1, hpe, _, _⟩ := HS1.out.procs.form (by rw [List.length_map]; omega)
      obtain ⟨ng, e2, hne, _, _⟩ := HM1.out.names.form (by rw [List.length_map]; omega)
      obtain ⟨og, e3, hoe, _, _⟩ := HM1.out.ops.form (by omega)
      obtain rfl : pp = some ⟨pg, 0, none⟩ := by cases hpe; rfl
      obtain rfl : np = some ⟨ng, 0, none⟩ := by cases hne; rfl
      obtain rfl : op = some ⟨og, 0, none⟩ := by cases hoe; rfl
      clear hpe hne hoe
      have hgt := pRow_get HS1.out.len.2 hx0 hv0
      have HEG := hide (HS1.out.each i v0 pr.2 hv0 hos0)
      have HEM := hide (HM1.out.each i u0 pr.2 hu0 hos0)
      obtain ⟨gp, gc, rfl⟩ := ownsRow_form HEG.out
      obtain ⟨mp, mc, rfl⟩ := ownsRow_form HEM.out
      have d0 := (ownsRow_cell HS1.out.procs (g := pg) rfl hgt.1).1
      have d1 := (ownsRow_cell HS1.out.procs (g := pg) rfl hgt.2).1
      have d2 := (ownsRow_cell HM1.out.names (g := ng) (j := i) (u := .string (baOf pr.1)) rfl (by rw [List.getElem?_map, hx0]; rfl)).1
      have d3 := (ownsRow_cell HM1.out.ops (g := og) (j := i) rfl hu0).1
      have hi0 : (0 : Int) ≤ (i : Int) := Int.natCast_nonneg _
      have hi1 : (i : Int) < (n : Int) := by omega
      have hsn : ((baOf pr.1).toList != (baOf pr.1).toList) = false := by simp
      have HLV : Hid (L[i]? = some (.slice gp pr.2.length gc) ∧ ML[i]? = some (.slice mp pr.2.length mc) ∧ (h.procs.map (·.1))[i]? = some pr.1 ∧ (h.procs.map (·.2))[i]? = some pr.2) := ⟨hv0, hu0, hx0, hos0⟩
      clear hx0 hos0 hv0 hu0 hgt hip hpr
      go_wp2
      go_quiet (fail)
      go_wp2
      have HBQ : Hid (Below w.heap.size w (wr.drewN nq)) := ⟨HBL.out.os, HBL.out.tape, HBL.out.output, HBL.out.size, HBL.out.block⟩
      go_loopw [6] (fun v wx => ∃ j : Nat, v = .int .i64 j ∧ j ≤ pr.2.length ∧ Below w.heap.size w wx) (fun v _ => pr.2.length - (intOf v).toNat)
      case atStart => exact ⟨0, rfl, Nat.zero_le _, HBQ.out⟩
      case round =>
        obtain ⟨j, rfl, hj, hblx⟩ := hrel
        have HBX := hide hblx
        clear a1 b1 b2 d0 d1 d2 d3
        have kx : KeepsT B [] [] w wr := KeepsT.of_below hblx (Nat.le_refl _)
        have HSX := hide (HS.out.keepT kx (by simp) (by simp))
        have ky : KeepsT D [] [] w wr := KeepsT.of_below hblx (Nat.le_refl _)
        have HMX := hide (HM.out.keepT ky (by simp) (by simp) (by simp))
        clear kx ky hblx
        have hv0 := HLV.out.1
        have hu0 := HLV.out.2.1
        have hx0 := HLV.out.2.2.1
        have hos0 := HLV.out.2.2.2
        have hgt := pRow_get HSX.out.len.2 hx0 hv0
        have a1 : wr.cell? ⟨hb, 1, none⟩ = some (.slice (some ⟨pg, 0, none⟩) n pcap) := by rw [row_cell HSX.out.row]; rfl
        have b2 : wr.cell? ⟨m, 2, none⟩ = some (.slice (some ⟨og, 0, none⟩) n ocap) := by rw [row_cell HMX.out.row]; rfl
        have d1 := (ownsRow_cell HSX.out.procs (g := pg) rfl hgt.2).1
        have d3 := (ownsRow_cell HMX.out.ops (g := og) (j := i) rfl hu0).1
        have HEG2 := hide (HSX.out.each i _ pr.2 hv0 hos0)
        have HEM2 := hide (HMX.out.each i _ pr.2 hu0 hos0)
        have lhb := lt_of_get HSX.out.row
        have lm := lt_of_get HMX.out.row
        have lpg := World.block_lt_of_cell? wr _ d1
        have log := World.block_lt_of_cell? wr _ d3
        clear hv0 hu0 hx0 hos0 hgt
        by_cases hjl : j < pr.2.length
        · obtain ⟨o, ho⟩ : ∃ o, pr.2[j]? = some o := ⟨_, List.getElem?_eq_getElem hjl⟩
          obtain ⟨gg, e4, hge, _, _⟩ := HEG2.out.form (by omega)
          obtain ⟨mg, e5, hme, _, _⟩ := HEM2.out.form (by omega)
          obtain rfl : gp = some ⟨gg, 0, none⟩ := by cases hge; rfl
          obtain rfl : mp = some ⟨mg, 0, none⟩ := by cases hme; rfl
          clear hge hme
          have hg3 := gGet pr.2 j o ho
          have hm3 := mGet pr.2 j o ho
          have o0 := (ownsRow_cell HEG2.out (g := gg) rfl hg3.1).1
          have o1 := (ownsRow_cell HEG2.out (g := gg) rfl hg3.2.1).1
          have o2 := (ownsRow_cell HEG2.out (g := gg) rfl hg3.2.2).1
          have p0 := (ownsRow_cell HEM2.out (g := mg) rfl hm3.1).1
          have p1 := (ownsRow_cell HEM2.out (g := mg) rfl hm3.2.1).1
          have p2 := (ownsRow_cell HEM2.out (g := mg) rfl hm3.2.2).1
          have lgg := World.block_lt_of_cell? wr _ o0
          have lmg := World.block_lt_of_cell? wr _ p0
          have hj0 : (0 : Int) ≤ (j : Int) := Int.natCast_nonneg _
          have hj1 : (j : Int) < (pr.2.length : Int) := by omega
          have hs1 : ((baOf o.v).toList != (baOf o.v).toList) = false := by simp
          have hs2 : ((baOf o.value).toList != (baOf o.value).toList) = false := by simp
          clear hg3 hm3 ho
          have HFB : Hid (∀ o1 o2, Below w.heap.size w ((wr.alloc o1).alloc o2)) := fun o1 o2 => (HBX.out.alloc HBX.out.size _).alloc (by rw [World.size_alloc]; have := HBX.out.size; omega) _
          cases hw : o.write with
          | true =>
            rw [hw] at o0 p0
            simp only [gKind, if_true] at o0
            go_wp2
            go_roundw
            case rel => exact ⟨j + 1, by go_num, by omega, HFB.out _ _⟩
            case measure => simp [intOf]; omega
          | false =>
            rw [hw] at o0 p0
            simp only [gKind, Bool.false_eq_true, if_false] at o0
            go_wp2
            go_roundw
            case rel => exact ⟨j + 1, by go_num, by omega, HFB.out _ _⟩
            case measure => simp [intOf]; omega
        · go_wp2
          go_roundw
          case rel => exact ⟨i + 1, by go_num, by omega, HBX.out⟩
          case measure => simp [intOf]; omega
    · go_wp2
      go_ret
      exact ⟨rfl, HBL.out⟩

end Go.Proofs.Qxb6605907aGreatFmt
