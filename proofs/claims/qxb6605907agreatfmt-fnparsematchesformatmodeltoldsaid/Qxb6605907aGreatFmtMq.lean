import Derived.Test.Qxb6605907aGreatFmtHp
import Derived.Test.Qxb6605907aGreatFmtWd
import Derived.Test.Qxb6605907aGreatFmtOm2
import Derived.Deep.RegionLaw
namespace Go.Proofs.Qxb6605907aGreatFmt
open Go.RowKit

theorem zzIsBlank_spec (n : Nat) (w : World) : Calls Tryz.prog 19 #[.int .u8 (n : Int)] w fun e w' => e = .returned (.bool (decide (n = 32) || decide (n = 9))) ∧ w' = w := by
  by_cases h1 : n = 32
  · subst h1
    go_enter Tryz.func19, Tryz.ntmps19
    go_wp2
    go_ret
    exact ⟨rfl, rfl⟩
  · by_cases h2 : n = 9
    · subst h2
      go_enter Tryz.func19, Tryz.ntmps19
      go_wp2
      go_ret
      exact ⟨rfl, rfl⟩
    · have e1 : ((n : Int) == 32) = false := by rw [beq_eq_false_iff_ne]; omega
      have e2 : ((n : Int) == 9) = false := by rw [beq_eq_false_iff_ne]; omega
      rw [decide_eq_false h1, decide_eq_false h2]
      clear h1 h2
      go_enter Tryz.func19, Tryz.ntmps19
      go_wp2
      go_ret
      exact ⟨by rw [show (Ending.returned (Value.bool (false || false))) = Ending.returned (Value.bool false) from rfl, ← e2]; rfl, rfl⟩

theorem ownsRow_form {w : World} {B e size n : Nat} {v : Value} {xs : List Value} (h : w.ownsRow B e size v n xs) : ∃ p cap, v = .slice p n cap := by
  rcases h.2 with ⟨rfl, rfl⟩ | ⟨g, cap, cur, rfl, _⟩
  · exact ⟨none, 0, rfl⟩
  · exact ⟨_, cap, rfl⟩

/-- Rows of strings below C stay. -/
def Str (C : Nat) (w w' : World) : Prop := ∀ (i : Nat) (cs : Array Value) (fr : Nat × Nat), i < C → w.heap[i]? = some (.cells cs 9 fr) → w'.heap[i]? = some (.cells cs 9 fr)

theorem Str.of {B C : Nat} {Ts S : List Nat} {w w' : World} (k : KeepsT B Ts S w w') (h : 9 ∉ Ts) : Str C w w' := fun i cs fr _ hc => k.cells i cs _ fr hc h
theorem Str.trans {C : Nat} {w w' w'' : World} (h : Str C w w') (k : Str C w' w'') : Str C w w'' := fun i cs fr hi hc => k i cs fr hi (h i cs fr hi hc)

def KM (B C im wm : Nat) (w w' : World) : Prop := KeepsT B mTs [im, wm] w w' ∧ Str C w w'

section
variable {B C im wm : Nat} {Ts S : List Nat} {w w' w'' : World}
theorem KM.refl (B C im wm : Nat) (w : World) : KM B C im wm w w := ⟨KeepsT.refl _ _ _ _, fun _ _ _ _ h => h⟩
theorem KM.of (k : KeepsT B Ts S w w') (hT : ∀ t ∈ Ts, t ∈ mTs) (hS : ∀ t ∈ S, t ∈ [im, wm]) (h9 : 9 ∉ Ts) : KM B C im wm w w' := ⟨k.mono hT hS, Str.of k h9⟩
theorem KM.stepN (h : KM B C im wm w w') (k : KeepsT B Ts S w' w'') (s : Str C w' w'') (hT : ∀ t ∈ Ts, t ∈ mTs) (hS : ∀ t ∈ S, t ∈ [im, wm]) : KM B C im wm w w'' := ⟨h.1.trans (k.mono hT hS), h.2.trans s⟩
theorem KM.step (h : KM B C im wm w w') (k : KeepsT B Ts S w' w'') (hT : ∀ t ∈ Ts, t ∈ mTs) (hS : ∀ t ∈ S, t ∈ [im, wm]) (h9 : 9 ∉ Ts) : KM B C im wm w w'' := h.stepN k (Str.of k h9) hT hS
theorem KM.alloc (h : KM B C im wm w w') (o : Obj) : KM B C im wm w (w'.alloc o) := h.step ((KeepsT.refl B [] [] w').alloc o) (by simp) (by simp) (by simp)
theorem KM.drewN (h : KM B C im wm w w') (n : Nat) : KM B C im wm w (w'.drewN n) := ⟨h.1.drewN n, h.2⟩
theorem KM.drew (h : KM B C im wm w w') : KM B C im wm w w'.drew := ⟨h.1.drew, h.2⟩
theorem KM.setCell {g i : Nat} {cs : Array Value} {t : TypeId} {fr : Nat × Nat} (h : KM B C im wm w w') (hg : w'.heap[g]? = some (.cells cs t fr)) (ht : t ∈ mTs) (h9 : 9 ∉ [t]) (hB : B ≤ g) (v : Value) : KM B C im wm w (w'.setCell ⟨g, i, none⟩ v) :=
  h.step (Ts := [t]) (S := []) ((KeepsT.refl _ _ _ w').setCell hg (by simp) hB v) (fun x hx => by simp only [List.mem_singleton] at hx; subst hx; exact ht) (by simp) h9
end

section
variable {B C : Nat} {w w1 : World} {m im wm : Nat} {init : ByteArray} {nv ov : Value} {names : List (List UInt8)} {opss : List (List OpP)} {L : List Value} {idx wr : List (ByteArray × Value)}
theorem MSt.nkeep (h : MSt B C w m im wm init nv ov names opss L idx wr) (hg : w.grownBy w1 nv.ownBlock) : KeepsT B [9] [] w w1 :=
  KeepsT.grown hg (fun g e => by obtain ⟨cs, hc, hb⟩ := ownsRow_own h.names e; exact ⟨cs, _, _, hc, by simp, Nat.le_trans h.bc hb⟩)
theorem MSt.nstr (h : MSt B C w m im wm init nv ov names opss L idx wr) (hg : w.grownBy w1 nv.ownBlock) : Str C w w1 := fun i cs fr hi hc =>
  (hg.block i (lt_of_get hc) (fun e => by obtain ⟨_, _, hb⟩ := ownsRow_own h.names e.symm; omega)).trans hc
theorem MSt.okeep (h : MSt B C w m im wm init nv ov names opss L idx wr) (hg : w.grownBy w1 ov.ownBlock) : KeepsT B [68] [] w w1 :=
  KeepsT.grown hg (fun g e => by obtain ⟨cs, hc, hb⟩ := ownsRow_own h.ops e; exact ⟨cs, _, _, hc, by simp, hb⟩)
theorem MSt.ekeep (h : MSt B C w m im wm init nv ov names opss L idx wr) {i : Nat} {v : Value} {os : List OpP} (hi : L[i]? = some v) (ho : opss[i]? = some os) (hg : w.grownBy w1 v.ownBlock) : KeepsT B [73] [] w w1 :=
  KeepsT.grown hg (fun g e => by obtain ⟨cs, hc, hb⟩ := ownsRow_own (h.each i v os hi ho) e; exact ⟨cs, _, _, hc, by simp, hb⟩)
end

set_option maxRecDepth 100000 in
set_option maxHeartbeats 4000000 in
theorem zzModelProc_spec (B C m im wm c : Nat) (init name ops : List UInt8) (h : HP) (w : World) (hM : MOk B C w m im wm init h) (hO : HOk h c) (hc : c + ops.length ≤ 2097152) (hl : ops.length ≤ 1048577) (hC : C ≤ w.heap.size) :
    Calls Tryz.prog 23 #[.pointer (some ⟨m, 0, none⟩), .string (baOf name), .string (baOf ops)] w fun e w' =>
      e = .returned (.bool (procP init h name ops).2) ∧ MOk B C w' m im wm init (procP init h name ops).1 ∧ KM B C im wm w w' := by
  obtain ⟨nv, ov, L, hS⟩ := hM
  have HS := hide hS
  have c1 : w.cell? ⟨m, 1, none⟩ = some nv := by rw [row_cell hS.row]; rfl
  have c2 : w.cell? ⟨m, 2, none⟩ = some ov := by rw [row_cell hS.row]; rfl
  have c3 : w.cell? ⟨m, 3, none⟩ = some (.map (some im)) := by rw [row_cell hS.row]; rfl
  obtain ⟨F0, hF0⟩ : ∃ F0, findE (baOf name) (idxOf 0 (h.procs.map (·.1))) 0 = F0 := ⟨_, rfl⟩
  have HF : Hid (F0 = (findP h.procs name).map (fun i => (0 + i, .int .i64 ((0 + i : Nat) : Int)))) := by
    show _ = _
    rw [← hF0, idxOf_find, ← findP_names]
  have hlk := lookupS (P := Tryz.prog) hS.index Tryz.underlying62 Tryz.underlying9 (baOf name) (z := .int .i64 0) Tryz.zeroValue3 true
  rw [hF0, if_pos rfl] at hlk
  have HF0 := hide hF0
  obtain ⟨iv, hiv⟩ : ∃ iv, (F0.map (·.2)).getD (.int .i64 0) = iv := ⟨_, rfl⟩
  obtain ⟨bv, hbv⟩ : ∃ bv, F0.isSome = bv := ⟨_, rfl⟩
  rw [hiv, hbv] at hlk
  have HIV := hide hiv
  have HBV := hide hbv
  obtain ⟨RES, hRES⟩ : ∃ RES, procP init h name ops = RES := ⟨_, rfl⟩
  rw [hRES]
  have HR := hide hRES
  clear hRES hiv hbv hF0
  obtain ⟨i9, hi9, hz90, hz91, hz92⟩ := info_parts (show (Tryz.prog.info? 9).map (fun i => (i.zero, i.size, i.bytes)) = some (some (.string ⟨#[]⟩), 1, 16) by kernel_rfl)
  obtain ⟨i58, hi58, hz580, hz581, hz582⟩ := info_parts (show (Tryz.prog.info? 68).map (fun i => (i.zero, i.size, i.bytes)) = some (some (.slice none 0 0), 1, 24) by kernel_rfl)
  obtain ⟨i55, hi55, hz550, hz551, hz552⟩ := info_parts (show (Tryz.prog.info? 73).map (fun i => (i.zero, i.size, i.bytes)) = some (some (.agg #[.bool false, .string ⟨#[]⟩, .string ⟨#[]⟩]), 3, 40) by kernel_rfl)
  clear hS
  go_enter Tryz.func23, Tryz.ntmps23
  go_upto_if 24 with fail
  go_cut [7] (fun v w' => v = .int .i64 ((openP h name).1 : Int) ∧ MOk B C w' m im wm init (openP h name).2 ∧ KM B C im wm w w')
  case first =>
    cases hf : findP h.procs name with
    | some i =>
      have HI := hide (show openP h name = (i, h) by simp [openP, hf])
      have hF := HF.out
      rw [hf] at hF
      have e1 : bv = true := by rw [← HBV.out, hF]; rfl
      have e2 : iv = .int .i64 (i : Int) := by rw [← HIV.out, hF]; simp
      subst e1
      subst e2
      clear hF hf
      go_wp2
      go_meet
      rw [HI.out]
      exact ⟨rfl, ⟨nv, ov, L, HS.out⟩, KM.refl _ _ _ _ _⟩
    | none =>
      have HI := hide (show openP h name = (h.procs.length, { h with procs := h.procs ++ [(name, [])] }) by simp [openP, hf])
      have hF := HF.out
      rw [hf] at hF
      have e1 : bv = false := by rw [← HBV.out, hF]; rfl
      have e2 : iv = .int .i64 0 := by rw [← HIV.out, hF]; rfl
      subst e1
      subst e2
      have hfn : findE (baOf name) (idxOf 0 (h.procs.map (·.1))) 0 = none := by rw [HF0.out, hF]; rfl
      clear hF hf
      have hcnt := hO.count
      obtain ⟨n, hn0⟩ : ∃ n, h.procs.length = n := ⟨_, rfl⟩
      rw [hn0] at hcnt
      obtain ⟨w1, hmu, hm1, hg1⟩ := updateS (P := Tryz.prog) HS.out.index Tryz.underlying62 Tryz.underlying9 (baOf name) (.int .i64 (n : Int)) hfn
      have hS1 := HS.out.index_set hm1 hg1
      obtain ⟨om, hom1, hom2⟩ := HS.out.index.obj
      have HK1 := hide (show KM B C im wm w w1 from KM.of (show KeepsT B [] [im] w w1 from KeepsT.mapped hg1 hom1 hom2 (by simp) HS.out.base.2.1) (by simp) (by simp) (by simp))
      have d1 : w1.cell? ⟨m, 1, none⟩ = some nv := by rw [row_cell hS1.row]; rfl
      have hA := hS1.keepT (KeepsT.refl B [] [] w1 |>.alloc (.cells #[.string (baOf name)] 9)) (by simp) (by simp) (by simp)
      have HNW := hide (World.news_of_block (w := w1.alloc (.cells #[.string (baOf name)] 9)) (B := w1.heap.size) (cs := #[.string (baOf name)]) (t := 9) (fr := (0, 0)) (heap_alloc_new w1 _))
      have hlen : (h.procs.map (·.1)).length = n := by rw [List.length_map]; exact hn0
      have HLL : Hid (L.length = n) := by show L.length = n; rw [HS.out.len, List.length_map]; exact hn0
      have hOWN := hA.names
      rw [hlen] at hOWN
      have HOWN := hide hOWN
      have HA := hide hA
      have HN0 := hide hn0
      have HSZ : Hid (w1.heap.size < (w1.alloc (.cells #[.string (baOf name)] 9)).heap.size) := by show _ < _; rw [World.size_alloc]; omega
      have hnv : ∃ p capn, nv = .slice p n capn := by
        have hx := HS.out.names
        rw [hlen] at hx
        exact ownsRow_form hx
      have HB1 : Hid (C ≤ (w1.alloc (.cells #[.string (baOf name)] 9)).heap.size) := by show C ≤ _; rw [World.size_alloc]; have := HK1.out.1.size; omega
      have HFW : Hid (∀ w2, (w1.alloc (.cells #[.string (baOf name)] 9)).grownBy w2 nv.ownBlock → w2.cell? ⟨m, 1, none⟩ = some nv ∧ w2.frozen? ⟨m, 1, none⟩ = false) := fun w2 hg => by
        have hr := (HA.out.nkeep hg).cells _ _ _ _ HA.out.row (by simp)
        exact ⟨by rw [row_cell hr]; rfl, row_frozen hr 1⟩
      clear hfn hm1 hg1 hom1 hom2 hlen hS1 hA hOWN hn0
      obtain ⟨pn, capn, rfl⟩ := hnv
      go_upto_region 6 with (at_builtin; refine wpList_append_lies _ rfl (.tmp 40) (.tmp 42) 56 rfl C 9 i9 (.string ⟨#[]⟩) 1 16 Tryz.underlying56 hi9 hz90 hz91 hz92 rfl (by decide) _ n _ rfl HOWN.out ⟨w1.heap.size, 0, none⟩ 1 1 [nameV name] rfl rfl HNW.out (by simp [Value.oneCell', nameV]) (by decide) (by simp [maxLen]; omega) (by omega) HB1.out _ rfl ?_; intro g2 cap2 w2 hown2 hgr2 hat2 hlt2; obtain ⟨e1, e2⟩ := HFW.out w2 hgr2)
      have hS2 := HA.out.names_set (x := name) (v' := .slice (some ⟨g2, 0, none⟩) (n + 1) cap2) (by rw [List.length_map, HN0.out]; exact hown2) hgr2
      have k2 : KM B C im wm w (w2.setCell ⟨m, 1, none⟩ (.slice (some ⟨g2, 0, none⟩) (n + 1) cap2)) := by
        exact ((HK1.out.alloc _).stepN (HA.out.nkeep hgr2) (HA.out.nstr hgr2) (by simp) (by simp)).setCell ((HA.out.nkeep hgr2).cells _ _ _ _ HA.out.row (by simp)) (by simp) (by simp) HA.out.base.1 _
      obtain ⟨W2, hW2⟩ : ∃ W2, w2.setCell ⟨m, 1, none⟩ (.slice (some ⟨g2, 0, none⟩) (n + 1) cap2) = W2 := ⟨_, rfl⟩
      rw [hW2] at hS2 k2 ⊢
      clear hW2 hown2 hgr2 hat2 hlt2 e1 e2 HFW
      have HK2 := hide k2
      have o2 : W2.cell? ⟨m, 2, none⟩ = some ov := by rw [row_cell hS2.row]; rfl
      have hA2 := hS2.keepT (KeepsT.refl B [] [] W2 |>.alloc (.cells #[.slice none 0 0] 68)) (by simp) (by simp) (by simp)
      have HNW2 := hide (World.news_of_block (w := W2.alloc (.cells #[.slice none 0 0] 68)) (B := W2.heap.size) (cs := #[.slice none 0 0]) (t := 68) (fr := (0, 0)) (heap_alloc_new W2 _))
      have hOWN2 := hA2.ops
      rw [HLL.out] at hOWN2
      have HOWN2 := hide hOWN2
      have HA2 := hide hA2
      have HB2 : Hid (B ≤ (W2.alloc (.cells #[.slice none 0 0] 68)).heap.size) := by show B ≤ _; have := lt_of_get HA2.out.row; have := HA2.out.base.1; omega
      have HFW2 : Hid (∀ w3, (W2.alloc (.cells #[.slice none 0 0] 68)).grownBy w3 ov.ownBlock → w3.cell? ⟨m, 2, none⟩ = some ov ∧ w3.frozen? ⟨m, 2, none⟩ = false) := fun w3 hg => by
        have hr := (HA2.out.okeep hg).cells _ _ _ _ HA2.out.row (by simp)
        exact ⟨by rw [row_cell hr]; rfl, row_frozen hr 2⟩
      clear hA2 hOWN2 hS2 k2
      go_wp2_with (at_builtin; refine wpList_append_lies _ rfl (.tmp 50) (.tmp 51) 61 rfl B 68 i58 (.slice none 0 0) 1 24 Tryz.underlying61 hi58 hz580 hz581 hz582 rfl (by decide) _ n _ rfl HOWN2.out ⟨W2.heap.size, 0, none⟩ 1 1 [.slice none 0 0] rfl rfl HNW2.out (by simp [Value.oneCell']) (by decide) (by simp [maxLen]; omega) (by omega) HB2.out _ rfl ?_; intro g3 cap3 w3 hown3 hgr3 hat3 hlt3; obtain ⟨e1, e2⟩ := HFW2.out w3 hgr3)
      go_meet
      have hS3 := HA2.out.ops_new (v' := .slice (some ⟨g3, 0, none⟩) (n + 1) cap3) (by rw [HLL.out]; exact hown3) hgr3
      rw [HI.out]
      have hM3 : MOk B C (w3.setCell ⟨m, 2, none⟩ (.slice (some ⟨g3, 0, none⟩) (n + 1) cap3)) m im wm init { procs := h.procs ++ [(name, [])], written := h.written } := by
        have e3 : idxOf 0 ((h.procs ++ [(name, ([] : List OpP))]).map (·.1)) = idxOf 0 (h.procs.map (·.1)) ++ [(baOf name, .int .i64 (n : Int))] := by
          rw [List.map_append, List.map_singleton, idxOf_snoc, List.length_map, HN0.out, Nat.zero_add]
        unfold MOk
        dsimp only
        rw [e3, List.map_append, List.map_append]
        exact ⟨_, _, _, hS3⟩
      refine ⟨by rw [← HN0.out], hM3, ?_⟩
      · exact ((HK2.out.alloc _).step (HA2.out.okeep hgr3) (by simp) (by simp) (by simp)).setCell ((HA2.out.okeep hgr3).cells _ _ _ _ HA2.out.row (by simp)) (by simp) (by simp) HA2.out.base.1 _
  case rest =>
    obtain ⟨rfl, hM0, hK0⟩ := hcut
    have HM0 := hide hM0
    have HK0 := hide hK0
    have HO0 := hide (hO.opened name)
    have HI0 := hide (openP_lt h name)
    obtain ⟨I0, hI0⟩ : ∃ I0, (openP h name).1 = I0 := ⟨_, rfl⟩
    have HRS : Hid (runP init I0 (openP h name).2 (fields ops) = RES) := by show _ = _; rw [← hI0]; exact HR.out
    rw [hI0] at HI0 ⊢
    have HXS : Hid ((baOf ops).size = ops.length) := baOf_size ops
    have HXG : Hid (∀ k (h : k < (baOf ops).size), ops[k]? = some (baOf ops)[k]) := fun k h => by have := getL (baOf ops) k h; rw [baOf_data] at this; exact this
    obtain ⟨x, hx⟩ : ∃ x, baOf ops = x := ⟨_, rfl⟩
    have HX := hide hx
    rw [hx] at HXS HXG ⊢
    have hxs : x.size ≤ 1048577 := by rw [HXS.out]; exact hl
    clear hx hM0 hK0 hI0 hlk c1 c2 c3 hO
    go_wp2
    go_loopw [9] (fun v wr => ∃ (k : Nat) (h1 : HP), v = .int .i64 k ∧ k ≤ x.size ∧ runP init I0 h1 (fields (ops.drop k)) = RES ∧ MOk B C wr m im wm init h1 ∧ HOk h1 (c + 1 + k) ∧ I0 < h1.procs.length ∧ KM B C im wm w wr) (fun v _ => x.size - (intOf v).toNat)
    case atStart => exact ⟨0, (openP h name).2, rfl, Nat.zero_le _, by rw [List.drop_zero]; exact HRS.out, HM0.out, HO0.out, HI0.out, HK0.out⟩
    case round =>
      obtain ⟨k, h1, rfl, hk, hrun, hM1, hO1, hI1, hK1⟩ := hrel
      have HRUN := hide hrun
      have HM1 := hide hM1
      have HO1 := hide hO1
      have HI1 := hide hI1
      have HK1 := hide hK1
      clear hrun hM1 hO1 hI1 hK1
      by_cases hlt : k < x.size
      · have HLT := hide hlt
        have HC := hide (HXG.out k hlt)
        have HB := hide (zzIsBlank_spec x[k].toNat wr)
        rw [← blankB_N] at HB
        cases hb : blankB x[k] with
        | true =>
          rw [hb] at HB
          have HF : Hid (fields (ops.drop k) = fields (ops.drop (k + 1))) := by
            exact (congrArg fields (drop_cons HC.out)).trans (fields_blank _ hb)
          go_wp2_with (go_at_call 19; refine HB.out.mono ?_; rintro e wr ⟨rfl, rfl⟩)
          go_roundw
          case rel => exact ⟨k + 1, h1, by go_num, HLT.out, by rw [← HF.out]; exact HRUN.out, HM1.out, HO1.out.mono (by omega), HI1.out, HK1.out⟩
          case measure => simp [intOf]; omega
        | false =>
          rw [hb] at HB
          go_upto_block 2 with (go_at_call 19; refine HB.out.mono ?_; rintro e wr ⟨rfl, rfl⟩)
          go_cut [9] (fun v w' => ∃ j : Nat, v = .int .i64 j ∧ k < j ∧ j ≤ x.size ∧ fields (ops.drop k) = (ops.drop k).take (j - k) :: fields (ops.drop j) ∧ w' = wr)
          case first =>
            go_wp2
            go_loop [9] (fun t => ∃ j : Nat, t = .int .i64 j ∧ k ≤ j ∧ j ≤ x.size ∧ ∀ u y, k ≤ u → u < j → ops[u]? = some y → blankB y = false) (fun t => x.size - (intOf t).toNat)
            case atStart => exact ⟨k, rfl, Nat.le_refl _, Nat.le_of_lt hlt, fun u y h1 h2 => by omega⟩
            case round =>
              obtain ⟨j, rfl, hkj, hj, hno⟩ := hrel
              have HNO := hide hno
              clear hno
              by_cases hjx : j < x.size
              · have HCJ := hide (HXG.out j hjx)
                have HBJ := hide (zzIsBlank_spec x[j].toNat wr)
                rw [← blankB_N] at HBJ
                cases hbj : blankB x[j] with
                | true =>
                  rw [hbj] at HBJ
                  have HKJ : Hid (k < j) := by
                    show k < j
                    refine Nat.lt_of_le_of_ne hkj ?_
                    rintro rfl
                    exact absurd (hb.symm.trans hbj) (by decide)
                  have HW := hide (word_at ops k j HKJ.out (by rw [← HXS.out]; exact hj) HNO.out (Or.inr ⟨_, HCJ.out, hbj⟩))
                  go_wp2_with (go_at_call 19; refine HBJ.out.mono ?_; rintro e wr ⟨rfl, rfl⟩)
                  go_meet
                  exact ⟨j, rfl, HKJ.out, hj, HW.out, rfl⟩
                | false =>
                  rw [hbj] at HBJ
                  have HNN : Hid (∀ u y, k ≤ u → u < j + 1 → ops[u]? = some y → blankB y = false) := by
                    intro u y h1 h2 hy
                    by_cases hu : u < j
                    · exact HNO.out u y h1 hu hy
                    · obtain rfl : u = j := by omega
                      rw [HCJ.out] at hy
                      cases hy
                      exact hbj
                  go_wp2_with (go_at_call 19; refine HBJ.out.mono ?_; rintro e wr ⟨rfl, rfl⟩)
                  go_round
                  case rel => exact ⟨j + 1, by go_num, by omega, by omega, HNN.out⟩
                  case measure => simp [intOf]; omega
              · have HKJ : Hid (k < j) := by show k < j; omega
                have HW := hide (word_at ops k j HKJ.out (by rw [← HXS.out]; exact hj) HNO.out (Or.inl (by rw [← HXS.out]; omega)))
                have hjx' : ¬ ((j : Int) < (x.size : Int)) := by omega
                go_wp2
                go_meet
                exact ⟨j, rfl, HKJ.out, hj, HW.out, rfl⟩
          case rest =>
            obtain ⟨j, rfl, hkj, hj, hfl, rfl⟩ := hcut
            have HKJ := hide hkj
            have HJ := hide hj
            obtain ⟨u, hu⟩ : ∃ u, (ops.drop k).take (j - k) = u := ⟨_, rfl⟩
            have heu : x.extract k j = baOf u := ba_of (by rw [Lib.extract_data, ← HX.out, baOf_data, hu])
            have hul : u.length ≤ 1048577 := by rw [← hu, List.length_take, List.length_drop]; omega
            have HUK : Hid (u.length = j - k) := by show _ = _; rw [← hu, List.length_take, List.length_drop, ← HXS.out]; omega
            rw [hu] at hfl
            have HRU : Hid (runP init I0 h1 (u :: fields (ops.drop j)) = RES) := by show _ = _; rw [← hfl]; exact HRUN.out
            have HOP := hide (zzOpModel_spec (baOf u) wc (by rw [baOf_size]; exact hul))
            rw [baOf_data] at HOP
            clear hu hfl
            cases hop : opP u with
            | none =>
              rw [hop] at HOP
              have HE : Hid (RES = (h1, false)) := by
                show _ = _
                rw [← HRU.out]
                simp [runP, stepP, hop]
              simp only [mRes, mNone] at HOP
              go_wp2_with (go_at_call 33; refine HOP.out.mono ?_; rintro e w2 ⟨rfl, hb2⟩)
              go_ret
              rw [HE.out]
              have kk : KeepsT B [] [] wc (w2.alloc (.cells #[.bool false, .string ⟨#[]⟩, .string ⟨#[]⟩] 73)) := (KeepsT.of_below hb2 (Nat.le_refl _)).alloc _
              exact ⟨rfl, HM1.out.keepT kk (by simp) (by simp) (by simp), HK1.out.step kk (by simp) (by simp) (by simp)⟩
            | some o =>
              rw [hop] at HOP
              simp only [mRes, mOp] at HOP
              go_upto_region 17 with (go_at_call 33; refine HOP.out.mono ?_; rintro e w2 ⟨rfl, hb2⟩)
              obtain ⟨ob, hob⟩ : ∃ ob, w2.heap.size = ob := ⟨_, rfl⟩
              have hrow := heap_alloc_new w2 (.cells #[.bool o.write, .string (baOf o.v), .string (baOf o.value)] 73)
              rw [hob] at hrow ⊢
              have kk : KeepsT B [] [] wc (w2.alloc (.cells #[.bool o.write, .string (baOf o.v), .string (baOf o.value)] 73)) := (KeepsT.of_below hb2 (Nat.le_refl _)).alloc _
              obtain ⟨nv2, ov2, L2, hS1⟩ := HM1.out
              have hS2 := hS1.keepT kk (by simp) (by simp) (by simp)
              have HLO : Hid (∀ v g, L2[I0]? = some v → v.ownBlock = some g → g ≠ ob) := fun v g hv hg => by
                have hlt2 : I0 < (h1.procs.map (·.2)).length := by rw [List.length_map]; exact HI1.out
                obtain ⟨cs, hc, _⟩ := ownsRow_own (hS1.each I0 v _ hv (List.getElem?_eq_getElem hlt2)) hg
                have := lt_of_get hc
                have := hb2.size
                omega
              clear hS1
              have HK2 := hide (HK1.out.step kk (by simp) (by simp) (by simp))
              obtain ⟨W, hW⟩ : ∃ W, w2.alloc (.cells #[.bool o.write, .string (baOf o.v), .string (baOf o.value)] 73) = W := ⟨_, rfl⟩
              rw [hW] at hrow hS2 HK2 ⊢
              have HROW := hide hrow
              have p0 : W.cell? ⟨ob, 0, none⟩ = some (.bool o.write) := by rw [row_cell hrow]; rfl
              have p1 : W.cell? ⟨ob, 1, none⟩ = some (.string (baOf o.v)) := by rw [row_cell hrow]; rfl
              have p2 : W.cell? ⟨ob, 2, none⟩ = some (.string (baOf o.value)) := by rw [row_cell hrow]; rfl
              have HS2 := hide hS2
              have m0 : W.cell? ⟨m, 0, none⟩ = some (.string (baOf init)) := by rw [row_cell hS2.row]; rfl
              have m4 : W.cell? ⟨m, 4, none⟩ = some (.map (some wm)) := by rw [row_cell hS2.row]; rfl
              clear hW hob hb2 kk hrow hS2 HM1 HK1 HOP heu
              go_upto_if 90 with fail
              go_cut [] (fun w' => (o.write = true → o.value ≠ init ∧ h1.written.contains (o.v, o.value) = false) ∧ w'.heap[ob]? = some (.cells #[.bool o.write, .string (baOf o.v), .string (baOf o.value)] 73 (0, 0)) ∧ MSt B C w' m im wm (baOf init) nv2 ov2 (h1.procs.map (·.1)) (h1.procs.map (·.2)) L2 (idxOf 0 (h1.procs.map (·.1))) (wrOf (addOp h1 I0 o).written) ∧ KM B C im wm w w')
              case first =>
                cases hw : o.write with
                | false =>
                  rw [hw] at p0
                  have HWW : Hid ((addOp h1 I0 o).written = h1.written) := by show _ = _; simp [addOp, hw]
                  go_wp2
                  go_meet
                  rw [HWW.out, ← hw]
                  exact ⟨fun e => absurd (hw.symm.trans e) (by decide), HROW.out, HS2.out, HK2.out⟩
                | true =>
                  rw [hw] at p0
                  go_wp2
                  go_quiet (fail)
                  have HSV := hide (HS2.out.keepT (KeepsT.refl B [] [] W |>.drewN nq) (by simp) (by simp) (by simp))
                  have HKV := hide (HK2.out.drewN nq)
                  have HRV : Hid ((W.drewN nq).heap[ob]? = some (.cells #[.bool o.write, .string (baOf o.v), .string (baOf o.value)] 73 (0, 0))) := HROW.out
                  obtain ⟨V, hV⟩ : ∃ V, W.drewN nq = V := ⟨_, rfl⟩
                  rw [hV] at HSV HKV HRV ⊢
                  clear hV p0 p1 p2 m0 m4
                  have p1 : V.cell? ⟨ob, 1, none⟩ = some (.string (baOf o.v)) := by rw [row_cell HRV.out]; rfl
                  have p2 : V.cell? ⟨ob, 2, none⟩ = some (.string (baOf o.value)) := by rw [row_cell HRV.out]; rfl
                  have m4 : V.cell? ⟨m, 4, none⟩ = some (.map (some wm)) := by rw [row_cell HSV.out.row]; rfl
                  by_cases hvi : o.value = init
                  · have ht : ((baOf o.value).toList == (baOf init).toList) = true := by rw [hvi]; simp
                    have HE : Hid (RES = (h1, false)) := by
                      show _ = _
                      rw [← HRU.out]
                      simp [runP, stepP, hop, hw, hvi]
                    clear hvi
                    go_upto_if 97 with fail
                    rw [ht]
                    go_wp2
                    go_ret
                    rw [HE.out]
                    exact ⟨rfl, ⟨_, _, _, HSV.out⟩, HKV.out⟩
                  · have ht : ((baOf o.value).toList == (baOf init).toList) = false := by
                      rw [beq_eq_false_iff_ne, Lib.toList_data, Lib.toList_data, baOf_data, baOf_data]; exact hvi
                    have hkey : baOf o.v ++ { data := #[41] } ++ baOf o.value = baOf (o.v ++ 41 :: o.value) := ba_of (by
                      simp [baOf])
                    have hos := opP_short hop
                    have hs1 : (baOf o.v).size + 1 ≤ 9223372036854775807 := by rw [baOf_size]; omega
                    have hs2 : (baOf o.v).size + 1 + (baOf o.value).size ≤ 9223372036854775807 := by rw [baOf_size, baOf_size]; omega
                    have hwf := wrOf_find o.v o.value (opP_no41 hop) h1.written 0 HO1.out.no41
                    have hlk := lookupS (P := Tryz.prog) HSV.out.written Tryz.underlying63 Tryz.underlying9 (baOf (o.v ++ 41 :: o.value)) (z := .bool false) Tryz.zeroValue4 false
                    simp only [Bool.false_eq_true, if_false] at hlk
                    cases hct : h1.written.contains (o.v, o.value) with
                    | true =>
                      obtain ⟨i', hfi⟩ := hwf.1 hct
                      rw [hfi] at hlk
                      simp only [Option.map_some, Option.getD_some] at hlk
                      have HE : Hid (RES = (h1, false)) := by
                        show _ = _
                        rw [← HRU.out]
                        simp only [runP, stepP, hop, hw, hct, Bool.or_true, Bool.and_true, if_true]
                      clear hwf hfi hos hct
                      go_upto_if 97 with fail
                      rw [ht]
                      go_wp2
                      go_ret
                      rw [HE.out]
                      exact ⟨rfl, ⟨_, _, _, HSV.out⟩, HKV.out⟩
                    | false =>
                      have hfn := hwf.2 hct
                      rw [hfn] at hlk
                      simp only [Option.map_none, Option.getD_none] at hlk
                      obtain ⟨w3, hmu, hm3, hg3⟩ := updateS (P := Tryz.prog) HSV.out.written Tryz.underlying63 Tryz.underlying9 (baOf (o.v ++ 41 :: o.value)) (.bool true) hfn
                      have hS3 := HSV.out.written_set hm3 hg3
                      obtain ⟨om, hom1, hom2⟩ := HSV.out.written.obj
                      have k3 : KeepsT B [] [wm] V w3 := KeepsT.mapped hg3 hom1 hom2 (by simp) HSV.out.base.2.2
                      have HFIN : Hid ((o.write = true → o.value ≠ init ∧ h1.written.contains (o.v, o.value) = false) ∧ w3.heap[ob]? = some (.cells #[.bool o.write, .string (baOf o.v), .string (baOf o.value)] 73 (0, 0)) ∧ MSt B C w3 m im wm (baOf init) nv2 ov2 (h1.procs.map (·.1)) (h1.procs.map (·.2)) L2 (idxOf 0 (h1.procs.map (·.1))) (wrOf (addOp h1 I0 o).written) ∧ KM B C im wm w w3) := by
                        refine ⟨fun _ => ⟨hvi, hct⟩, k3.cells _ _ _ _ HRV.out (by simp), ?_, HKV.out.step k3 (by simp) (by simp) (by simp)⟩
                        have ew : wrOf (addOp h1 I0 o).written = wrOf h1.written ++ [(baOf (o.v ++ 41 :: o.value), .bool true)] := by simp [addOp, hw, wrOf]
                        rw [ew]
                        exact hS3
                      clear hwf hfn hos hct hm3 hg3 hS3 hom1 hom2 k3 hvi
                      go_upto_if 97 with fail
                      rw [ht]
                      go_wp2
                      go_meet
                      exact HFIN.out
              case rest =>
                obtain ⟨hok, hrow3, hS3, hK3⟩ := hcut
                have HK3 := hide hK3
                have HOK := hide hok
                have hop3 : (h1.procs.map (·.2)).length = h1.procs.length := List.length_map _
                have HI1' : I0 < L2.length := by rw [hS3.len, hop3]; exact HI1.out
                obtain ⟨v0, hv0⟩ : ∃ v0, L2[I0]? = some v0 := ⟨_, List.getElem?_eq_getElem HI1'⟩
                obtain ⟨os0, hos0⟩ : ∃ os0, (h1.procs.map (·.2))[I0]? = some os0 := ⟨_, List.getElem?_eq_getElem (by rw [hop3]; exact HI1.out)⟩
                have hosl : os0.length ≤ c + 1 + k := by
                  rw [List.getElem?_map] at hos0
                  cases hp : h1.procs[I0]? with
                  | none => rw [hp] at hos0; cases hos0
                  | some p => rw [hp] at hos0; cases hos0; exact HO1.out.each p (List.mem_of_getElem? hp)
                have hevs := hS3.each I0 v0 os0 hv0 hos0
                obtain ⟨og, ocap, hov⟩ : ∃ og ocap, ov2 = .slice (some ⟨og, 0, none⟩) L2.length ocap := by
                  obtain ⟨g, cap, e, _⟩ := hS3.ops.form (by omega)
                  exact ⟨g, cap, e⟩
                obtain ⟨lv0, cv0, hv0f⟩ := ownsRow_form hevs
                subst hov
                subst hv0f
                have q2 : wc.cell? ⟨m, 2, none⟩ = some (.slice (some ⟨og, 0, none⟩) L2.length ocap) := by rw [row_cell hS3.row]; rfl
                have q3 := (ownsRow_cell hS3.ops (g := og) (j := I0) rfl hv0).1
                have q4 := (ownsRow_cell hS3.ops (g := og) (j := I0) rfl hv0).2
                have r0 : wc.cell? ⟨ob, 0, none⟩ = some (.bool o.write) := by rw [row_cell hrow3]; rfl
                have r1 : wc.cell? ⟨ob, 1, none⟩ = some (.string (baOf o.v)) := by rw [row_cell hrow3]; rfl
                have r2 : wc.cell? ⟨ob, 2, none⟩ = some (.string (baOf o.value)) := by rw [row_cell hrow3]; rfl
                have hi1 : (0 : Int) ≤ (I0 : Int) := Int.natCast_nonneg _
                have hi2 : (I0 : Int) < (L2.length : Int) := by omega
                have am : (Value.slice lv0 os0.length cv0).ownBlock ≠ some m := fun e => by
                  obtain ⟨cs, hc, _⟩ := ownsRow_own hevs e
                  rw [hS3.row] at hc
                  cases hc
                have ao : (Value.slice lv0 os0.length cv0).ownBlock ≠ some og := fun e => by
                  obtain ⟨cs, hc, _⟩ := ownsRow_own hevs e
                  obtain ⟨cs', hc', _⟩ := ownsRow_own hS3.ops (g := og) rfl
                  rw [hc'] at hc
                  cases hc
                have ab : (Value.slice lv0 os0.length cv0).ownBlock ≠ some ob := fun e => HLO.out _ _ hv0 e rfl
                have lm := lt_of_get hS3.row
                have lo := World.block_lt_of_cell? wc _ q3
                have lb := lt_of_get hrow3
                have hmax : os0.length + 1 ≤ maxLen := by simp [maxLen]; omega
                have hby : (os0.length + 1) * 40 ≤ 140737488355328 := by omega
                have HEV := hide ((hevs.alloc (.cells #[.bool o.write, .string (baOf o.v), .string (baOf o.value)] 73)).drew)
                have HNW3 := hide (World.news_of_block (w := (wc.alloc (.cells #[.bool o.write, .string (baOf o.v), .string (baOf o.value)] 73)).drew) (B := wc.heap.size) (cs := #[.bool o.write, .string (baOf o.v), .string (baOf o.value)]) (t := 73) (fr := (0, 0)) (heap_alloc_new wc _))
                have fz := (ownsRow_cell (ownsRow_keepsT hS3.ops (KeepsT.refl B [] [] wc |>.alloc (.cells #[.bool o.write, .string (baOf o.v), .string (baOf o.value)] 73) |>.drew) (by simp)) (g := og) (j := I0) rfl hv0).2
                have HV0 := hide hv0
                have HOS0 := hide hos0
                have fc := (ownsRow_cell (ownsRow_keepsT hS3.ops (KeepsT.refl B [] [] wc |>.alloc (.cells #[.bool o.write, .string (baOf o.v), .string (baOf o.value)] 73) |>.drew) (by simp)) (g := og) (j := I0) rfl hv0).1
                obtain ⟨ogc, hogc, hogb⟩ := ownsRow_own hS3.ops (g := og) rfl
                have ne1 : m ≠ og := fun e => by have hr := hS3.row; rw [e, hogc] at hr; cases hr
                have ne2 : ob ≠ og := fun e => by have hr := hrow3; rw [e, hogc] at hr; cases hr
                have ne3 : og ≠ m := ne1.symm
                have ne4 : og ≠ ob := ne2.symm
                clear hogc
                have HB3 : Hid (B ≤ (wc.alloc (.cells #[.bool o.write, .string (baOf o.v), .string (baOf o.value)] 73)).drew.heap.size) := by show B ≤ (wc.alloc _).heap.size; rw [World.size_alloc]; have := hS3.base.1; omega
                have HFAR : Hid (∀ w1, (wc.alloc (.cells #[.bool o.write, .string (baOf o.v), .string (baOf o.value)] 73)).drew.grownBy w1 (Value.slice lv0 os0.length cv0).ownBlock → w1.cell? ⟨og, I0, none⟩ = some (.slice lv0 os0.length cv0) ∧ w1.frozen? ⟨og, I0, none⟩ = false ∧ w1.cell? ⟨m, 2, none⟩ = some (.slice (some ⟨og, 0, none⟩) L2.length ocap)) := fun w1 hgrow => by
                  have hsA := hS3.keepT (KeepsT.refl B [] [] wc |>.alloc (.cells #[.bool o.write, .string (baOf o.v), .string (baOf o.value)] 73) |>.drew) (by simp) (by simp) (by simp)
                  have kA := hsA.ekeep hv0 hos0 hgrow
                  have hq := ownsRow_cell (ownsRow_keepsT hsA.ops kA (by simp)) (g := og) (j := I0) rfl hv0
                  exact ⟨hq.1, hq.2, by rw [row_cell (kA.cells _ _ _ _ hsA.row (by simp))]; rfl⟩
                have HEND : Hid (∀ gg gcap w1, w1.ownsRow B 73 3 (.slice (some ⟨gg, 0, none⟩) (os0.length + 1) gcap) (os0.length + 1) (os0.flatMap mCells ++ mCells o) → (wc.alloc (.cells #[.bool o.write, .string (baOf o.v), .string (baOf o.value)] 73)).drew.grownBy w1 (Value.slice lv0 os0.length cv0).ownBlock → ((Value.slice lv0 os0.length cv0).ownBlock = some gg ∨ gg = wc.heap.size + 1) →
                    ∃ h2, runP init I0 h2 (fields (ops.drop j)) = RES ∧ MOk B C (w1.setCell ⟨og, I0, none⟩ (.slice (some ⟨gg, 0, none⟩) (os0.length + 1) gcap)) m im wm init h2 ∧ HOk h2 (c + 1 + j) ∧ I0 < h2.procs.length ∧ KM B C im wm w (w1.setCell ⟨og, I0, none⟩ (.slice (some ⟨gg, 0, none⟩) (os0.length + 1) gcap))) := fun gg gcap w1 hown1 hgrow hat => by
                  have hsA := hS3.keepT (KeepsT.refl B [] [] wc |>.alloc (.cells #[.bool o.write, .string (baOf o.v), .string (baOf o.value)] 73) |>.drew) (by simp) (by simp) (by simp)
                  have kA := hsA.ekeep hv0 hos0 hgrow
                  have hsz : (wc.alloc (.cells #[.bool o.write, .string (baOf o.v), .string (baOf o.value)] 73)).drew.heap.size = wc.heap.size + 1 := World.size_alloc _ _
                  have hfin := hsA.ops_add hv0 hos0 (og := og) rfl hown1 hgrow (fun g hg => by
                    have : gg = g := Option.some.inj hg
                    subst this
                    rcases hat with h | h
                    · exact Or.inl h
                    · right; rw [hsz]; omega)
                  obtain ⟨ogc, hogc, hogb⟩ := ownsRow_own (ownsRow_keepsT hsA.ops kA (by simp)) (g := og) rfl
                  refine ⟨addOp h1 I0 o, ?_, ?_, (HO1.out.add (opP_no41 hop)).mono (by have := HKJ.out; omega), by rw [addOp_len]; exact HI1.out, ?_⟩
                  · rw [← HRU.out]
                    simp only [runP, stepP, hop]
                    have hcond : (o.write && (o.value == init || h1.written.contains (o.v, o.value))) = false := by
                      cases hw : o.write with
                      | false => rfl
                      | true =>
                        obtain ⟨h1', h2'⟩ := hok hw
                        rw [h2', Bool.or_false, Bool.true_and]
                        simpa using h1'
                    rw [hcond]
                    rfl
                  · unfold MOk
                    rw [addOp_names, addOp_ops h1 I0 o os0 hos0]
                    exact ⟨_, _, _, hfin⟩
                  · exact (((hK3.alloc _).drew).step kA (by simp) (by simp) (by simp)).setCell hogc (by simp) (by simp) hogb _
                have HS3 := hide hS3
                clear hS3 hevs hrow3 HS2 p0 p1 p2 m0 m4 hos0 hv0 hop3 hK3 hok
                go_wp2_with fail
                go_region_law (refine step_append_lies _ (by rfl) (.tmp 126) (.tmp 128) 68 (by rfl) B 73 i55 (.agg #[.bool false, .string ⟨#[]⟩, .string ⟨#[]⟩]) 3 40 Tryz.underlying68 hi55 hz550 hz551 hz552 rfl (by omega) (.slice lv0 os0.length cv0) os0.length (os0.flatMap mCells) (by rfl) HEV.out ⟨wc.heap.size, 0, none⟩ 1 1 (mCells o) (by rfl) (by rfl) HNW3.out (by simp [Value.oneCell', mCells]) (by omega) hmax hby HB3.out (wc.heap.size + 1) (by simp) ?_; intro gg gcap w1 hown1 hgrow hat hlt1; obtain ⟨g1, g2, g3⟩ := HFAR.out w1 hgrow)
                all_goals
                  go_wp2
                  go_roundw
                  case rel =>
                    obtain ⟨h2, a1, a2, a3, a4, a5⟩ := HEND.out _ _ _ hown1 hgrow hat
                    exact ⟨j, h2, rfl, HJ.out, a1, a2, a3, a4, a5⟩
                  case measure =>
                    have hkj2 := HKJ.out
                    have hj2 := HJ.out
                    simp [intOf]; omega
      · have HE : Hid (RES = (h1, true)) := by
          show _ = _
          rw [← HRUN.out, List.drop_eq_nil_of_le (by rw [← HXS.out]; omega)]; rfl
        go_wp2
        go_ret
        rw [HE.out]
        exact ⟨rfl, HM1.out, HK1.out⟩

end Go.Proofs.Qxb6605907aGreatFmt
