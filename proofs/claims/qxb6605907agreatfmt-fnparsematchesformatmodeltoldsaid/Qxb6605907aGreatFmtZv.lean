import Derived.Test.Qxb6605907aGreatFmtZn
import Derived.Test.Qxb6605907aGreatFmtZo
import Derived.Test.Qxb6605907aGreatFmtScn8
import Derived.Test.Qxb6605907aGreatFmtMq
import Derived.Test.Qxb6605907aGreatFmtNw
namespace Go.Proofs.Qxb6605907aGreatFmt
open Go.RowKit

theorem zzIndexColon_spec (x : ByteArray) (w : World) (hx : x.size ≤ 1048577) :
    Calls Tryz.prog 22 #[.string x, .int .u8 58] w fun e w' => e = .returned (.int .i64 (Lib.indexByte x.data.toList 58)) ∧ w' = w := by
  go_enter Tryz.func22, Tryz.ntmps22
  go_wp2
  go_loop [5] (fun t => ∃ k : Nat, k ≤ x.size ∧ t = .int .i64 k ∧ ∀ j, j < k → x.data.toList[j]? ≠ some 58) (fun t => x.size - (intOf t).toNat)
  case atStart => exact ⟨0, Nat.zero_le _, rfl, fun j hj => absurd hj (Nat.not_lt_zero _)⟩
  case round =>
    obtain ⟨k, hk, rfl, hno⟩ := hrel
    have HNO := hide hno
    clear hno
    by_cases hlt : k < x.size
    · cases hb : ((x[k].toNat : Int) == 58) with
      | true =>
        have e : x[k] = 58 := UInt8.toNat_inj.1 (by rw [show (58 : UInt8).toNat = 58 from rfl]; have := beq_iff_eq.1 hb; omega)
        have HX := hide (Sx.indexByte_at x.data.toList 58 k (by rw [Sx.getL x k hlt, e]) HNO.out)
        clear e
        go_wp2
        go_ret
        exact ⟨by rw [HX.out]; rfl, rfl⟩
      | false =>
        have HX : Hid (∀ j, j < k + 1 → x.data.toList[j]? ≠ some 58) := by
          intro j hj
          by_cases hjk : j < k
          · exact HNO.out j hjk
          · obtain rfl : j = k := by omega
            rw [Sx.getL x j hlt]
            intro h
            have h' := Option.some.inj h
            rw [h'] at hb
            exact absurd hb (by decide)
        go_wp2
        go_round
        case rel => exact ⟨k + 1, hlt, by go_num, HX.out⟩
        case measure => simp [intOf]; omega
    · have HX := hide (Sx.indexByte_no x.data.toList 58 (fun j hj => HNO.out j (by rw [Sx.size_list] at hj; omega)))
      go_wp2
      go_ret
      exact ⟨by rw [HX.out]; rfl, rfl⟩

theorem MOk.setInit {B C : Nat} {w : World} {m im wm : Nat} {init : List UInt8} {h : HP} (k : MOk B C w m im wm init h) (tok : List UInt8) :
    MOk B C (w.setCell ⟨m, 0, none⟩ (.string (baOf tok))) m im wm tok h ∧ KM B C im wm w (w.setCell ⟨m, 0, none⟩ (.string (baOf tok))) := by
  obtain ⟨nv, ov, L, hS⟩ := k
  have kk : KeepsT B [65] [] w (w.setCell ⟨m, 0, none⟩ (.string (baOf tok))) := (KeepsT.refl _ _ _ w).setCell hS.row (by simp) hS.base.1 _
  exact ⟨⟨nv, ov, L, ⟨row_set hS.row 0 _, ownsRow_keepsT hS.names kk (by simp), ownsRow_keepsT hS.ops kk (by simp), fun i v os hv ho => ownsRow_keepsT (hS.each i v os hv ho) kk (by simp), hS.len, hS.apart, hS.index.keepsT kk (by simp), hS.written.keepsT kk (by simp), hS.ne, hS.base, hS.bc⟩⟩, KM.of kk (by simp) (by simp) (by simp)⟩

theorem cut_index (l : List UInt8) : Lib.cut l [58] = if 0 ≤ Lib.indexByte l 58 then (l.take (Lib.indexByte l 58).toNat, l.drop ((Lib.indexByte l 58).toNat + 1), true) else (l, [], false) := by
  rw [Lib.cut, Lib.index_one]; rfl

theorem hasPrefix_take (l p : List UInt8) (h : Lib.hasPrefix l p = true) : l.take p.length = p := by
  obtain ⟨r, rfl⟩ := List.isPrefixOf_iff_prefix.1 h
  simp

theorem take_hasPrefix (l p : List UInt8) (h : l.take p.length = p) : Lib.hasPrefix l p = true := by
  refine List.isPrefixOf_iff_prefix.2 ?_
  have := List.take_prefix p.length l
  rw [h] at this
  exact this

theorem iniLine_at (l tok : List UInt8) (h : iniLine l = some tok) : ∃ h7 : 7 < l.length, l.take 7 = iniBytes ∧ blankB l[7] = true ∧ tok = Sx.trimB (l.drop 7) := by
  unfold iniLine at h
  split at h
  · rename_i hp
    cases hd : l.drop 7 with
    | nil => rw [hd] at h; cases h
    | cons b r =>
      rw [hd] at h
      dsimp only at h
      split at h
      · rename_i hb
        have h7 : 7 < l.length := by
          have := congrArg List.length hd
          rw [List.length_drop, List.length_cons] at this
          omega
        have e7 : l[7] = b := by
          have := List.drop_eq_getElem_cons h7
          rw [hd] at this
          exact (List.cons.inj this).1.symm
        exact ⟨h7, hasPrefix_take l iniBytes hp, by rw [e7]; exact hb, (Option.some.inj h).symm⟩
      · cases h
  · cases h

theorem iniLine_not (l : List UInt8) (h : iniLine l = none) : ¬ 7 < l.length ∨ ∃ h7 : 7 < l.length, l.take 7 ≠ iniBytes ∨ (l.take 7 = iniBytes ∧ blankB l[7] = false) := by
  by_cases h7 : 7 < l.length
  · refine Or.inr ⟨h7, ?_⟩
    by_cases hp : l.take 7 = iniBytes
    · refine Or.inr ⟨hp, ?_⟩
      have hp' : Lib.hasPrefix l iniBytes = true := take_hasPrefix l iniBytes hp
      unfold iniLine at h
      rw [if_pos hp', List.drop_eq_getElem_cons h7] at h
      dsimp only at h
      split at h
      · cases h
      · rename_i hb; simpa using hb
    · exact Or.inl hp
  · exact Or.inl h7

end Go.Proofs.Qxb6605907aGreatFmt
