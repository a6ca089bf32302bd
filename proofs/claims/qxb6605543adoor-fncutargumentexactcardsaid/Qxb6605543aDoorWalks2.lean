import Derived.Test.Qxb6605543aDoorProg
import Derived.Test.Qxb6605543aDoorPlain
import Derived.WalkKit
import Derived.WalkLawsBesides
import Derived.WalkSpells
import Derived.Laws.IdiomStrings
namespace Go.Proofs.Qxb6605543aDoor
open Go.RowKit

theorem Tryd.info5 : (Tryd.prog.info? 5).map (fun i => (i.zero, i.size, i.bytes)) = some (some (.int .u8 0), 1, 1) := by kernel_rfl

/-- The cells of a row of bytes. -/
def bcells (l : List UInt8) : List Value := l.map (fun b => .int .u8 (b.toNat : Int))
theorem bcells_len (l : List UInt8) : (bcells l).length = l.length := by simp [bcells]
theorem bcells_snoc (l : List UInt8) (c : UInt8) : bcells l ++ [.int .u8 (c.toNat : Int)] = bcells (l ++ [c]) := by simp [bcells]

theorem run_string_own (w : World) (B : Nat) (v : Value) (l : List UInt8) (h : w.ownsRow B 5 1 v l.length (bcells l)) :
    (convert 28 9 v).run Tryd.prog w = .ok (.string ⟨l.toArray⟩) w := by
  obtain ⟨hl, ⟨rfl, h0⟩ | ⟨g, cap, cur, rfl, _, hh, _, _, hsz, htk⟩⟩ := h
  · have : l = [] := List.length_eq_zero_iff.1 h0
    subst this
    rw [run_convert_bytes_string w 28 9 5 none 0 0 Tryd.underlying28 Tryd.underlying5 Tryd.underlying9]
    simp [Conv.bytesToString]
    rfl
  · refine run_convert_bytes_back w 28 9 5 ⟨g, 0, none⟩ cap l Tryd.underlying28 Tryd.underlying5 Tryd.underlying9 (fun j hj => ?_)
    have e : cur.toList[j]? = some (.int .u8 (l[j].toNat : Int)) := by
      have h1 : (bcells l)[j]? = some (.int .u8 (l[j].toNat : Int)) := by simp [bcells, List.getElem?_eq_getElem hj]
      rw [← htk, List.getElem?_take_of_lt (by omega)] at h1
      exact h1
    have ea : (⟨g, 0, none⟩ : Addr).add j = ⟨g, j, none⟩ := by
      unfold Addr.add
      split
      · rename_i h; subst h; rfl
      · simp
    rw [ea]
    simp only [World.cell?, hh]
    simpa using e

/-- What has been written behind k bytes. -/
def Qk (x : ByteArray) (k : Nat) : List UInt8 := Cut.quote (x.data.toList.take k)
theorem Qk_zero (x : ByteArray) : Qk x 0 = [] := by simp [Qk, Cut.quote]
theorem Qk_all (x : ByteArray) : Qk x x.size = Cut.quote x.data.toList := by
  unfold Qk
  rw [List.take_of_length_le (by rw [Array.length_toList]; exact Nat.le_refl _)]
theorem Qk_le (x : ByteArray) (k : Nat) : (Qk x k).length ≤ 2 * k := by
  have := Cut.quote_len_le (x.data.toList.take k)
  have h2 : (x.data.toList.take k).length ≤ k := List.length_take_le _ _
  unfold Qk; omega
theorem Qk_succ (x : ByteArray) (k : Nat) (h : k < x.size) : Qk x (k + 1) = Qk x k ++ (if x[k] = 34 ∨ x[k] = 92 then [92, x[k]] else [x[k]]) := by
  have e : x.data.toList.take (k + 1) = x.data.toList.take k ++ [x[k]] := by
    rw [List.take_succ_eq_append_getElem (by simpa using h)]; rfl
  unfold Qk
  rw [e, Cut.quote_snoc]

theorem own_step {w wr w1 : World} {v v' : Value} {B : Nat} {l : List UInt8} {o : Obj} (c : UInt8) (z : Int) (hz : z = (c.toNat : Int)) (hbel : Below B w wr) (hsz : B ≤ wr.heap.size)
    (hown : wr.ownsRow B 5 1 v l.length (bcells l)) (hown' : w1.ownsRow B 5 1 v' (l.length + 1) (bcells l ++ [.int .u8 z])) (hgrow : (wr.alloc o).grownBy w1 v.ownBlock) :
    w1.ownsRow B 5 1 v' (l ++ [c]).length (bcells (l ++ [c])) ∧ Below B w w1 ∧ B ≤ w1.heap.size := by
  subst hz
  refine ⟨?_, ?_, ?_⟩
  · rw [← bcells_snoc, List.length_append]; exact hown'
  · exact ((hbel.alloc hsz o)).grown hgrow (by simp; omega) (fun k hk => (hown.lt k hk).1)
  · have := hgrow.size; simp at this; omega

set_option maxHeartbeats 1000000 in
theorem quote_any (x : ByteArray) (w : World) (hx : x.size ≤ 1048576) :
    Calls Tryd.prog 11 #[.string x] w fun e w' => e = .returned (.string ⟨(Cut.quote x.data.toList).toArray⟩) ∧ Below w.heap.size w w' := by
  obtain ⟨i0, hi, hz0, hz1, hz2⟩ := info_parts Tryd.info5
  have HQ : Hid (Cut.quote x.data.toList = Qk x x.size) := (Qk_all x).symm
  obtain ⟨B, hB⟩ : ∃ B, B = w.heap.size := ⟨_, rfl⟩
  have hBle : B ≤ w.heap.size := by omega
  have HB : Hid (B = w.heap.size) := hB
  rw [← hB]
  clear hB
  go_enter Tryd.func11, Tryd.ntmps11
  go_wp2_with (at_make; refine wpList_make_own _ rfl _ _ 28 rfl B 5 i0 (.int .u8 0) 1 Tryd.underlying28 hi hz0 hz1 .i64 .i64 _ (2 * x.size) rfl rfl ?h1 ?h2 ?h3 ?h4 ?_)
  case h1 => omega
  case h2 => rw [hz2]; omega
  case h3 => unfold maxLen; omega
  case h4 => exact hBle
  intro w1 hown1 hgrow1
  have hb1 : Below B w w1 := (Below.refl _ _).grown hgrow1 hBle (fun k h => by cases h)
  have hB1 : B ≤ w1.heap.size := by have := hgrow1.size; omega
  clear hgrow1
  go_wp2
  go_loopw [3, 4] (fun v i wr => ∃ k : Nat, k ≤ x.size ∧ i = .int .i64 k ∧ wr.ownsRow B 5 1 v (Qk x k).length (bcells (Qk x k)) ∧ Below B w wr ∧ B ≤ wr.heap.size)
    (fun _ i _ => x.size - (intOf i).toNat)
  case atStart => exact ⟨0, Nat.zero_le _, rfl, by rw [Qk_zero]; exact hown1, hb1, hB1⟩
  case round =>
    obtain ⟨k, hk, rfl, hown, hbel, hsz⟩ := hrel
    have hql := Qk_le x k
    by_cases hlt : k < x.size
    · by_cases hq : (x[k].toNat : Int) = 34
      · have hq' : ((x[k].toNat : Int) == 34) = true := by simp [hq]
        have HX : Hid (Qk x (k + 1) = (Qk x k ++ [92]) ++ [x[k]]) := by
          have := Qk_succ x k hlt
          have e : x[k] = 34 := UInt8.toNat_inj.1 (by rw [show (34 : UInt8).toNat = 34 from rfl]; omega)
          rw [if_pos (Or.inl e)] at this
          show _ = _
          rw [this]; simp
        clear hq
        go_wp2_with (at_builtin; refine wpList_append_own _ rfl (.tmp 25) (.tmp 26) 28 rfl B 5 i0 (.int .u8 0) 1 1 Tryd.underlying28 hi hz0 hz1 hz2 rfl (by decide) _ _ _ rfl (hown.alloc _) ⟨wr.heap.size, 0, none⟩ 1 1 [.int .u8 92] rfl rfl (cell_one_new _ _ _) ?c2 ?c3 ?c4 ?c5 ?_)
        case c2 => intro u hu; simp at hu; subst hu; rfl
        case c3 => unfold maxLen; omega
        case c4 => omega
        case c5 => simp; omega
        intro v1 w2 hown2 hgrow2 _
        have R := own_step 92 92 rfl hbel hsz hown hown2 hgrow2
        obtain ⟨hown3, hbel3, hsz3⟩ := R
        clear hown hown2 hgrow2 hbel hown1 hb1
        have hql2 : (Qk x k ++ [92]).length ≤ 2 * k + 1 := by simp; omega
        generalize Qk x k ++ [92] = L at *
        go_wp2_with (at_builtin; refine wpList_append_own _ rfl (.tmp 28) (.tmp 32) 28 rfl B 5 i0 (.int .u8 0) 1 1 Tryd.underlying28 hi hz0 hz1 hz2 rfl (by decide) _ _ _ rfl (hown3.alloc _) ⟨w2.heap.size, 0, none⟩ 1 1 [.int .u8 (x[k].toNat : Int)] rfl rfl (cell_one_new _ _ _) ?d2 ?d3 ?d4 ?d5 ?_)
        case d2 => intro u hu; simp at hu; subst hu; rfl
        case d3 => unfold maxLen; omega
        case d4 => omega
        case d5 => simp; omega
        intro v2 w3 hown4 hgrow4 _
        obtain ⟨hown5, hbel5, hsz5⟩ := own_step x[k] _ rfl hbel3 hsz3 hown3 hown4 hgrow4
        clear hown3 hown4 hgrow4 hbel3
        go_wp2
        go_roundw
        case rel => exact ⟨k + 1, by omega, by go_num, by rw [HX.out]; exact hown5, hbel5, hsz5⟩
        case measure => simp [intOf]; omega
      · have hq' : ((x[k].toNat : Int) == 34) = false := by simp [hq]
        by_cases hr : (x[k].toNat : Int) = 92
        · have hr' : ((x[k].toNat : Int) == 92) = true := by simp [hr]
          have HX : Hid (Qk x (k + 1) = (Qk x k ++ [92]) ++ [x[k]]) := by
            have := Qk_succ x k hlt
            have e : x[k] = 92 := UInt8.toNat_inj.1 (by rw [show (92 : UInt8).toNat = 92 from rfl]; omega)
            rw [if_pos (Or.inr e)] at this
            show _ = _
            rw [this]; simp
          clear hq hr
          go_wp2_with (at_builtin; refine wpList_append_own _ rfl (.tmp 25) (.tmp 26) 28 rfl B 5 i0 (.int .u8 0) 1 1 Tryd.underlying28 hi hz0 hz1 hz2 rfl (by decide) _ _ _ rfl (hown.alloc _) ⟨wr.heap.size, 0, none⟩ 1 1 [.int .u8 92] rfl rfl (cell_one_new _ _ _) ?ec2 ?ec3 ?ec4 ?ec5 ?_)
          case ec2 => intro u hu; simp at hu; subst hu; rfl
          case ec3 => unfold maxLen; omega
          case ec4 => omega
          case ec5 => simp; omega
          intro v1 w2 hown2 hgrow2 _
          have R := own_step 92 92 rfl hbel hsz hown hown2 hgrow2
          obtain ⟨hown3, hbel3, hsz3⟩ := R
          clear hown hown2 hgrow2 hbel hown1 hb1
          have hql2 : (Qk x k ++ [92]).length ≤ 2 * k + 1 := by simp; omega
          generalize Qk x k ++ [92] = L at *
          go_wp2_with (at_builtin; refine wpList_append_own _ rfl (.tmp 28) (.tmp 32) 28 rfl B 5 i0 (.int .u8 0) 1 1 Tryd.underlying28 hi hz0 hz1 hz2 rfl (by decide) _ _ _ rfl (hown3.alloc _) ⟨w2.heap.size, 0, none⟩ 1 1 [.int .u8 (x[k].toNat : Int)] rfl rfl (cell_one_new _ _ _) ?ed2 ?ed3 ?ed4 ?ed5 ?_)
          case ed2 => intro u hu; simp at hu; subst hu; rfl
          case ed3 => unfold maxLen; omega
          case ed4 => omega
          case ed5 => simp; omega
          intro v2 w3 hown4 hgrow4 _
          obtain ⟨hown5, hbel5, hsz5⟩ := own_step x[k] _ rfl hbel3 hsz3 hown3 hown4 hgrow4
          clear hown3 hown4 hgrow4 hbel3
          go_wp2
          go_roundw
          case rel => exact ⟨k + 1, by omega, by go_num, by rw [HX.out]; exact hown5, hbel5, hsz5⟩
          case measure => simp [intOf]; omega
        · have hr' : ((x[k].toNat : Int) == 92) = false := by simp [hr]
          have HX : Hid (Qk x (k + 1) = Qk x k ++ [x[k]]) := by
            have := Qk_succ x k hlt
            have e1 : x[k] ≠ 34 := fun e => hq (by rw [e]; rfl)
            have e2 : x[k] ≠ 92 := fun e => hr (by rw [e]; rfl)
            rw [if_neg (fun h => h.elim e1 e2)] at this
            exact this
          clear hq hr
          generalize Qk x k = L at *
          go_wp2_with (at_builtin; refine wpList_append_own _ rfl (.tmp 28) (.tmp 32) 28 rfl B 5 i0 (.int .u8 0) 1 1 Tryd.underlying28 hi hz0 hz1 hz2 rfl (by decide) _ _ _ rfl (hown.alloc _) ⟨wr.heap.size, 0, none⟩ 1 1 [.int .u8 (x[k].toNat : Int)] rfl rfl (cell_one_new _ _ _) ?f2 ?f3 ?f4 ?f5 ?_)
          case f2 => intro u hu; simp at hu; subst hu; rfl
          case f3 => unfold maxLen; omega
          case f4 => omega
          case f5 => simp; omega
          intro v2 w3 hown4 hgrow4 _
          obtain ⟨hown5, hbel5, hsz5⟩ := own_step x[k] _ rfl hbel hsz hown hown4 hgrow4
          clear hown hown4 hgrow4 hbel hown1 hb1
          go_wp2
          go_roundw
          case rel => exact ⟨k + 1, by omega, by go_num, by rw [HX.out]; exact hown5, hbel5, hsz5⟩
          case measure => simp [intOf]; omega
    · have hke : k = x.size := by omega
      have hrun := run_string_own wr B _ _ hown
      clear hown hown1 hb1
      go_wp2
      go_ret
      rw [HQ.out]
      subst hke
      exact ⟨rfl, hbel⟩

end Go.Proofs.Qxb6605543aDoor
