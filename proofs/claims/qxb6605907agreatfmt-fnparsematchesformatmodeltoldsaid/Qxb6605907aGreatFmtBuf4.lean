import Derived.Test.Qxb6605907aGreatFmtBuf3
import Derived.Test.Qxb6605907aGreatFmtShelf
import Derived.Lib.IndexLaws
namespace Go.Proofs.Qxb6605907aGreatFmt.Sx
open Go.RowKit

/-- THE READER's STATE: the text t, of which i bytes have gone into the buffer; the buffer holds the last n - r of them, from place r on; e is the error it keeps. -/
def St (p b s : Nat) (t : ByteArray) (e : Value) (r n i : Nat) (w : World) : Prop :=
  ∃ (lb lr pv : Value) (cur : List UInt8),
    w.heap[p]? = some (.cells (rdCells b s r n e lb lr) 141 (0, 0)) ∧
    w.heap[s]? = some (.cells #[.string t, .int .i64 i, pv] 87 (0, 0)) ∧
    w.heap[b]? = some (.cells (Lib.byteCells cur).toArray 5 (0, 0)) ∧
    cur.length = 4096 ∧ r ≤ n ∧ n ≤ 4096 ∧ n - r ≤ i ∧ i ≤ t.size ∧
    (cur.drop r).take (n - r) = (t.data.toList.drop (i - (n - r))).take (n - r)

theorem size_list (t : ByteArray) : t.data.toList.length = t.size := by simp

/-- The k-th byte that is held. -/
theorem St.byte {p b s : Nat} {t : ByteArray} {e : Value} {r n i : Nat} {w : World} (h : St p b s t e r n i w) (j pos : Nat) (hj : r + j < n) (hpos : i + r = pos + n) :
    ∃ x, t.data.toList[pos + j]? = some x ∧ w.cell? ⟨b, r + j, none⟩ = some (.int .u8 (x.toNat : Int)) := by
  obtain ⟨lb, lr, pv, cur, _, _, hb, hc, hrn, hn, hni, hit, heq⟩ := h
  have hl : pos + j < t.data.toList.length := by rw [size_list]; omega
  refine ⟨t.data.toList[pos + j], List.getElem?_eq_getElem hl, ?_⟩
  have h1 : ((cur.drop r).take (n - r))[j]? = ((t.data.toList.drop (i - (n - r))).take (n - r))[j]? := by rw [heq]
  rw [List.getElem?_take, List.getElem?_take, if_pos (by omega), if_pos (by omega), List.getElem?_drop, List.getElem?_drop] at h1
  rw [row_cell hb, List.getElem?_toArray, Lib.byteCells, List.getElem?_map, h1, show i - (n - r) + j = pos + j by omega, List.getElem?_eq_getElem hl]
  rfl

theorem take_splice (cur x : List UInt8) (m k : Nat) (hx : x.length = k) (hl : m + k ≤ cur.length) : (splice cur m x).take (m + k) = cur.take m ++ x := by
  unfold splice
  have h1 : (cur.take m).length = m := by rw [List.length_take]; omega
  rw [← List.append_assoc, List.take_append_of_le_length (by rw [List.length_append, h1, hx]; omega), List.take_of_length_le (by rw [List.length_append, h1, hx]; omega)]

/-- fill, said of the state. -/
theorem St.fill {p b s m i r n : Nat} {lb lr ev pv : Value} {t : ByteArray} {cur : List UInt8} {w w' : World}
    (hs : w.heap[s]? = some (.cells #[.string t, .int .i64 i, pv] 87 (0, 0))) (hc : cur.length = 4096) (hrn : r ≤ n) (hn : n ≤ 4096) (hni : n - r ≤ i) (hit : i ≤ t.size) (hps : p ≠ s) (hsb : s ≠ b)
    (heq : (cur.drop r).take (n - r) = (t.data.toList.drop (i - (n - r))).take (n - r)) (hm : n - r = m) (hfull : m < 4096)
    (h : FillPost p b s m i lb lr ev t (splice cur 0 ((cur.drop r).take (n - r))) w w') :
    Keeps [p, b, s] w w' ∧ ((i < t.size ∧ ∃ k, 0 < k ∧ m + k ≤ 4096 ∧ St p b s t .nilIface 0 (m + k) (i + k) w') ∨ (i = t.size ∧ St p b s t (.iface 168 ev) 0 m i w')) := by
  have hlen : ((cur.drop r).take (n - r)).length = m := by rw [List.length_take, List.length_drop]; omega
  have hsp : (splice cur 0 ((cur.drop r).take (n - r))).length = 4096 := by rw [length_splice _ _ _ (by rw [hlen]; omega), hc]
  have htk : (splice cur 0 ((cur.drop r).take (n - r))).take m = (t.data.toList.drop (i - m)).take m := by
    have := take_splice cur ((cur.drop r).take (n - r)) 0 m hlen (by omega)
    rw [Nat.zero_add] at this
    rw [this, List.take_zero, List.nil_append, heq, hm]
  rcases h with ⟨hi, k, hk, hp', hs', hb', hk'⟩ | ⟨hi, hp', hb', hk'⟩
  · have hk0 : 0 < k := by rw [← hk]; exact Nat.lt_min.2 ⟨by omega, by omega⟩
    have hkm : k ≤ 4096 - m := by rw [← hk]; exact Nat.min_le_right _ _
    have hkt : k ≤ t.size - i := by rw [← hk]; exact Nat.min_le_left _ _
    have hx : ((t.data.toList.drop i).take k).length = k := by rw [List.length_take, List.length_drop, size_list]; omega
    refine ⟨hk', Or.inl ⟨hi, k, hk0, by omega, lb, lr, _, _, hp', hs', hb', ?_, Nat.zero_le _, by omega, by omega, by omega, ?_⟩⟩
    · rw [length_splice _ _ _ (by rw [hx, hsp]; omega), hsp]
    · rw [List.drop_zero, Nat.sub_zero, take_splice _ _ m k hx (by rw [hsp]; omega), htk, show i + k - (m + k) = i - m by omega]
      have e : (t.data.toList.drop i) = (t.data.toList.drop (i - m)).drop m := by rw [List.drop_drop]; congr 1; omega
      rw [e, ← List.take_add]
  · refine ⟨hk'.mono (by simp), Or.inr ⟨by omega, lb, lr, pv, _, hp', ?_, hb', hsp, Nat.zero_le _, by omega, by omega, hit, ?_⟩⟩
    · rw [hk'.block s (Array.getElem?_eq_some_iff.1 hs).1 (by simp [Ne.symm hps, hsb])]; exact hs
    · rw [List.drop_zero, Nat.sub_zero, htk]

end Go.Proofs.Qxb6605907aGreatFmt.Sx
