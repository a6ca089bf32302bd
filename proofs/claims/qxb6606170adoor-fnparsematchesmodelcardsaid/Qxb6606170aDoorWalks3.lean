import Derived.Test.Qxb6606170aDoorWalks1
import Derived.Laws.IdiomStrings
namespace Go.Proofs.Qxb6606170aDoor
open Go.RowKit

theorem Tryd.info5 : (Tryd.prog.info? 5).map (fun i => (i.zero, i.size, i.bytes)) = some (some (.int .u8 0), 1, 1) := by kernel_rfl

/-- The cells of a row of bytes. -/
def bcells (l : List UInt8) : List Value := l.map (fun b => .int .u8 (b.toNat : Int))
theorem bcells_len (l : List UInt8) : (bcells l).length = l.length := by simp [bcells]

theorem run_string_own (w : World) (B : Nat) (v : Value) (l : List UInt8) (h : w.ownsRow B 5 1 v l.length (bcells l)) :
    (convert 48 9 v).run Tryd.prog w = .ok (.string ⟨l.toArray⟩) w := by
  obtain ⟨hl, ⟨rfl, h0⟩ | ⟨g, cap, cur, rfl, _, hh, _, _, hsz, htk⟩⟩ := h
  · have : l = [] := List.length_eq_zero_iff.1 h0
    subst this
    rw [run_convert_bytes_string w 48 9 5 none 0 0 Tryd.underlying48 Tryd.underlying5 Tryd.underlying9]
    simp [Conv.bytesToString]
    rfl
  · refine run_convert_bytes_back w 48 9 5 ⟨g, 0, none⟩ cap l Tryd.underlying48 Tryd.underlying5 Tryd.underlying9 (fun j hj => ?_)
    have e : cur.toList[j]? = some (.int .u8 (l[j].toNat : Int)) := by
      have h1 : (bcells l)[j]? = some (.int .u8 (l[j].toNat : Int)) := by simp [bcells, List.getElem?_eq_getElem hj]
      rw [← htk, List.getElem?_take_of_lt (by omega)] at h1
      exact h1
    have ea : (⟨g, 0, none⟩ : Addr).add j = ⟨g, j, none⟩ := by
      unfold Addr.add
      split
      · rename_i h; subst h; rfl
      · simp
    rw [ea]
    simp only [World.cell?, hh]
    simpa using e

/-- k zeros written, the rest as 'make' left it. -/
def Zk (n k : Nat) : List Value := List.replicate k (.int .u8 48) ++ List.replicate (n - k) (.int .u8 0)
theorem Zk_zero (n : Nat) : Zk n 0 = List.replicate n (.int .u8 0) := by simp [Zk]
theorem Zk_all (n : Nat) : Zk n n = bcells (Dec.zs n) := by simp [Zk, bcells, Dec.zs]
theorem Zk_at (n k : Nat) (h : k < n) : (Zk n k)[k]? = some (.int .u8 0) := by
  unfold Zk
  rw [List.getElem?_append_right (by simp), List.length_replicate, Nat.sub_self, List.getElem?_replicate, if_pos (by omega)]
theorem made_u8 (n : Nat) : (madeCells #[Value.int .u8 0] n).toList = Zk n 0 := by
  rw [Zk_zero]
  refine List.ext_getElem (by simp [madeCells]) (fun i h1 h2 => ?_)
  simp [madeCells, Nat.mod_one]
theorem Zk_set (n k : Nat) (h : k < n) : (Zk n k).set k (.int .u8 48) = Zk n (k + 1) := by
  unfold Zk
  obtain ⟨m, hm⟩ : ∃ m, n - k = m + 1 := ⟨n - k - 1, by omega⟩
  rw [List.set_append_right _ _ (by simp), List.length_replicate, Nat.sub_self, hm, List.replicate_succ, List.set_cons_zero, List.replicate_succ', List.append_assoc, show n - (k + 1) = m by omega]
  rfl

set_option maxHeartbeats 1000000 in
theorem zeros_any (n : Nat) (w : World) (hn : n ≤ 1048576) :
    Calls Tryd.prog 29 #[.int .i64 (n : Int)] w fun e w' => e = .returned (.string ⟨(Dec.zs n).toArray⟩) ∧ Below w.heap.size w w' := by
  obtain ⟨i0, hi, hz0, hz1, hz2⟩ := info_parts Tryd.info5
  obtain ⟨B, hB⟩ : ∃ B, B = w.heap.size := ⟨_, rfl⟩
  have hBle : B ≤ w.heap.size := by omega
  have hBge : w.heap.size ≤ B := by omega
  have HB : Hid (B = w.heap.size) := hB
  rw [← hB]
  clear hB
  go_enter Tryd.func29, Tryd.ntmps29
  go_wp2_with (at_make; refine wpList_make_full _ rfl _ _ 48 rfl B 5 i0 (.int .u8 0) 1 Tryd.underlying48 hi hz0 hz1 .i64 .i64 _ _ n rfl rfl ?h0 ?h1 ?h2 ?h3 ?h4 ?_)
  case h0 => rfl
  case h1 => rfl
  case h2 => rw [hz2]; omega
  case h3 => unfold maxLen; omega
  case h4 => exact hBle
  intro w1 hown1 hgrow1
  have hb1 : Below B w w1 := (Below.refl _ _).grown hgrow1 hBle (fun k h => by cases h)
  rw [made_u8, ← HB.out] at hown1
  clear hgrow1
  go_wp2
  rw [← HB.out]
  go_loopw [4] (fun i wr => ∃ k : Nat, k ≤ n ∧ i = .int .i64 k ∧ wr.ownsRow B 5 1 (.slice (some ⟨B, 0, none⟩) n n) n (Zk n k) ∧ Below B w wr)
    (fun i _ => n - (intOf i).toNat)
  case atStart => exact ⟨0, Nat.zero_le _, rfl, hown1, hb1⟩
  case round =>
    obtain ⟨k, hk, rfl, hown, hbel⟩ := hrel
    clear hown1 hb1
    by_cases hlt : k < n
    · have hc : wr.cell? ⟨B, k, none⟩ = some (.int .u8 0) := by rw [hown.cellAt k (by omega)]; exact Zk_at n k hlt
      have hf := hown.frozenAt k
      have hst := (hown.stored k (.int .u8 48)).1
      rw [Zk_set n k hlt] at hst
      have hb' : Below B w (wr.setCell ⟨B, k, none⟩ (.int .u8 48)) := hbel.setCell (Nat.le_refl B) _
      have HS := hide hst
      have HB' := hide hb'
      clear hst hb' hown hbel
      go_wp2
      go_roundw
      case rel => exact ⟨k + 1, by omega, by go_num, unhide HS, unhide HB'⟩
      case measure => simp [intOf]; omega
    · have hke : k = n := by omega
      have hrun := run_string_own wr B (.slice (some ⟨B, 0, none⟩) n n) (Dec.zs n) (by rw [Dec.zs_len, ← Zk_all, ← hke]; rw [hke] at hown ⊢; exact hown)
      clear hown
      go_wp2
      go_ret
      exact ⟨rfl, hbel⟩
end Go.Proofs.Qxb6606170aDoor
