import Derived.Test.Qxb6606170aDoorWalks6
namespace Go.Proofs.Qxb6606170aDoor
open Go.RowKit Go.Shelf

theorem strCells_eq (s : ByteArray) : Lib.strCells s = Lib.byteCells s.data.toList := rfl
theorem byteCells_app (a b : List UInt8) : Lib.byteCells a ++ Lib.byteCells b = Lib.byteCells (a ++ b) := by simp [Lib.byteCells]
theorem byteCells_len (a : List UInt8) : (Lib.byteCells a).length = a.length := by simp [Lib.byteCells]

/-- The builder at block b holds the bytes l. -/
def Bld (B b : Nat) (l : List UInt8) (w : World) : Prop := Lib.IsBuilder 54 5 B b (Lib.byteCells l) w

theorem grow_any (B n : Nat) (w : World) (hB : B = w.heap.size) (hn : n ≤ 1048576) :
    Calls Tryd.prog 42 #[.pointer (some ⟨B, 0, none⟩), .int .i64 n] (w.alloc (.cells #[.pointer none, .slice none 0 0] 54)) fun e w' => e = .returned (.tuple #[]) ∧ Bld B B [] w' ∧ Below B w w' ∧ B ≤ w'.heap.size := by
  have hbk : (w.alloc (.cells #[.pointer none, .slice none 0 0] 54)).heap[B]? = some (.cells #[.pointer none, .slice none 0 0] 54 (0, 0)) := by rw [hB]; exact heap_alloc_new w _
  refine (Any.Builder_Grow_fresh Tryd.lays165 Tryd.Builder_Extra_165 B B n _ (Nat.le_refl _) hbk (by simp; omega) (by omega)).mono ?_
  rintro e w' ⟨he, h1, h2⟩
  exact ⟨he, Or.inr h1, ((Below.refl B w).alloc (by omega) _).trans h2, by have := h2.size; simp at this; omega⟩

theorem writeString_any (B b : Nat) (l : List UInt8) (s : ByteArray) (w0 w : World) (h : Bld B b l w) (hb : Below B w0 w) (hBw : B ≤ w.heap.size) (hl : l.length ≤ 1048576) (hs : s.size ≤ 1048576) :
    Calls Tryd.prog 43 #[.pointer (some ⟨b, 0, none⟩), .string s] w fun e w' => e = .returned (.tuple #[.int .i64 s.size, .nilIface]) ∧ Bld B b (l ++ s.data.toList) w' ∧ Below B w0 w' ∧ B ≤ w'.heap.size := by
  refine (Any.Builder_WriteString Tryd.lays166 Tryd.Builder_Extra_166 B b _ s w h (by rw [byteCells_len]; omega) hBw).mono ?_
  rintro e w' ⟨he, h1, h2⟩
  exact ⟨he, by unfold Bld; rw [← byteCells_app]; exact Or.inr h1, hb.trans h2, by have := h2.size; omega⟩

theorem writePoint_any (B b : Nat) (l : List UInt8) (w0 w : World) (h : Bld B b l w) (hb : Below B w0 w) (hBw : B ≤ w.heap.size) (hl : l.length ≤ 1048576) :
    Calls Tryd.prog 45 #[.pointer (some ⟨b, 0, none⟩), .int .u8 46] w fun e w' => e = .returned .nilIface ∧ Bld B b (l ++ [46]) w' ∧ Below B w0 w' ∧ B ≤ w'.heap.size := by
  refine (Any.Builder_WriteByte Tryd.lays167 Tryd.Builder_Extra_167 B b _ 46 w h (by rw [byteCells_len]; omega) hBw).mono ?_
  rintro e w' ⟨he, h1, h2⟩
  exact ⟨he, by unfold Bld; rw [← byteCells_app]; exact Or.inr h1, hb.trans h2, by have := h2.size; omega⟩

theorem string_any (B b : Nat) (l : List UInt8) (w0 w : World) (h : Bld B b l w) (hb : Below B w0 w) (hBw : B ≤ w.heap.size) :
    Calls Tryd.prog 46 #[.pointer (some ⟨b, 0, none⟩)] w fun e w' => e = .returned (.string (ba l)) ∧ Below B w0 w' := by
  refine (Any.Builder_String_any Tryd.lays169 Tryd.Builder_Extra_169 B b l w h hBw).mono ?_
  rintro e w' ⟨he, h2⟩
  exact ⟨he, hb.trans h2⟩

theorem lt_of_some {w : World} {b : Nat} {o : Obj} (h : w.heap[b]? = some o) : b < w.heap.size := by
  rcases Nat.lt_or_ge b w.heap.size with h' | h'
  · exact h'
  · rw [Array.getElem?_eq_none h'] at h; cases h

theorem BuilderAt_kept {B b : Nat} {p : Value} {bs : List Value} {w w' : World} (h : Lib.BuilderAt 54 5 B b p bs w) (hb : Below w.heap.size w w') : Lib.BuilderAt 54 5 B b p bs w' := by
  obtain ⟨hB, v, hh, hown, hne⟩ := h
  refine ⟨hB, v, (hb.block b (lt_of_some hh)).trans hh, ?_, hne⟩
  obtain ⟨hl, h1 | ⟨g, cap, cur, h1, h2, h3, h4⟩⟩ := hown
  · exact ⟨hl, Or.inl h1⟩
  · exact ⟨hl, Or.inr ⟨g, cap, cur, h1, h2, (hb.block g (lt_of_some h3)).trans h3, h4⟩⟩
theorem Bld.kept {B b : Nat} {l : List UInt8} {w w' : World} (h : Bld B b l w) (hb : Below w.heap.size w w') : Bld B b l w' := by
  rcases h with h | h
  · exact Or.inl (BuilderAt_kept h hb)
  · exact Or.inr (BuilderAt_kept h hb)

theorem repeat_any (n : Nat) (w0 w : World) (B b : Nat) (l : List UInt8) (h : Bld B b l w) (hb : Below B w0 w) (hBw : B ≤ w.heap.size) (hn : n ≤ 1048576) :
    Calls Tryd.prog 44 #[.string ⟨#[48]⟩, .int .i64 n] w fun e w' => e = .returned (.string (ba (Dec.zs n))) ∧ Bld B b l w' ∧ Below B w0 w' ∧ B ≤ w'.heap.size := by
  refine (Any.strings_Repeat Tryd.lays105 Tryd.Builder_Extra_105 ⟨#[48]⟩ n w (by omega) (by show 1 * n ≤ _; omega)).mono ?_
  rintro e w' ⟨he, h2⟩
  refine ⟨?_, h.kept h2, hb.trans (h2.mono hBw), by have := h2.size; omega⟩
  rw [he]
  have := Lib.repeatL_replicate 48 1 n
  rw [show (⟨#[48]⟩ : ByteArray).data.toList = List.replicate 1 48 from rfl, this, Nat.mul_one]
  rfl

set_option maxHeartbeats 2000000 in
set_option maxRecDepth 100000 in
theorem plain_neg (d : ByteArray) (n : Nat) (w : World) (hd : d.size ≤ 262144) (hn : n ≤ 262144) :
    Calls Tryd.prog 24 #[.string d, .int .i64 (-(n : Int))] w fun r w' => r = .returned (.string (ba ([48, 46] ++ Dec.zs n ++ d.data.toList))) ∧ Below w.heap.size w w' := by
  obtain ⟨B, hB⟩ : ∃ B, B = w.heap.size := ⟨_, rfl⟩
  have HG := hide (grow_any B (d.size + n + 2) w hB (by omega))
  have HB := hide hB
  have HR := hide (fun (w' : World) (l : List UInt8) (h : Bld B B l w') (hb : Below B w w') (hBw : B ≤ w'.heap.size) => repeat_any n w w' B B l h hb hBw (by omega))
  have hzs : (ba (Dec.zs n)).size ≤ 262144 := by rw [ba_size, Dec.zs_len]; exact hn
  have HZ : Hid ((ba (Dec.zs n)).data.toList = Dec.zs n) := rfl
  have hzl : (Dec.zs n).length ≤ 262144 := by rw [Dec.zs_len]; exact hn
  generalize ba (Dec.zs n) = Zb at *
  rw [← HZ.out] at hzl ⊢
  have hds := size_len d
  have HDS := hide hds
  clear hds
  rw [← hB]
  have HE : Hid ((((d.size + n + 2 : Nat)) : Int) = (d.size : Int) + (n : Int) + 2) := by show (((d.size + n + 2 : Nat)) : Int) = _; omega
  rw [HE.out] at HG
  clear hB
  rcases Nat.eq_zero_or_pos n with h0 | h0
  · subst h0
    go_enter Tryd.func24, Tryd.ntmps24
    go_wp2_with fail
    rw [← HB.out]
    refine (unhide HG).mono ?_
    rintro r w1 ⟨rfl, hB1, hb1, hs1⟩
    go_wp2_with fail
    refine (writeString_any B B [] ⟨#[48, 46]⟩ w w1 hB1 hb1 hs1 (by simp) (by decide)).mono ?_
    rintro r w2 ⟨rfl, hB2, hb2, hs2⟩
    clear hB1 hb1 hs1
    go_wp2_with fail
    refine (unhide HR w2 _ hB2 hb2 hs2).mono ?_
    rintro r w3 ⟨rfl, hB3, hb3, hs3⟩
    clear hB2 hb2 hs2
    go_wp2_with fail
    refine (writeString_any B B _ Zb w w3 hB3 hb3 hs3 (by simp) (by omega)).mono ?_
    rintro r w4 ⟨rfl, hB4, hb4, hs4⟩
    clear hB3 hb3 hs3
    go_wp2_with fail
    refine (writeString_any B B _ d w w4 hB4 hb4 hs4 (by simp; omega) (by omega)).mono ?_
    rintro r w5 ⟨rfl, hB5, hb5, hs5⟩
    clear hB4 hb4 hs4
    go_wp2_with fail
    refine (string_any B B _ w w5 hB5 hb5 hs5).mono ?_
    rintro r w6 ⟨rfl, hb6⟩
    clear hB5 hb5 hs5
    go_wp2
    go_ret
    exact ⟨rfl, hb6⟩
  · have hgt : -(n : Int) < (n : Int) := by omega
    have hnn : ¬ ((n : Int) < 0) := by omega
    go_enter Tryd.func24, Tryd.ntmps24
    go_wp2_with fail
    rw [← HB.out]
    refine (unhide HG).mono ?_
    rintro r w1 ⟨rfl, hB1, hb1, hs1⟩
    go_wp2_with fail
    refine (writeString_any B B [] ⟨#[48, 46]⟩ w w1 hB1 hb1 hs1 (by simp) (by decide)).mono ?_
    rintro r w2 ⟨rfl, hB2, hb2, hs2⟩
    clear hB1 hb1 hs1
    go_wp2_with fail
    refine (unhide HR w2 _ hB2 hb2 hs2).mono ?_
    rintro r w3 ⟨rfl, hB3, hb3, hs3⟩
    clear hB2 hb2 hs2
    go_wp2_with fail
    refine (writeString_any B B _ Zb w w3 hB3 hb3 hs3 (by simp) (by omega)).mono ?_
    rintro r w4 ⟨rfl, hB4, hb4, hs4⟩
    clear hB3 hb3 hs3
    go_wp2_with fail
    refine (writeString_any B B _ d w w4 hB4 hb4 hs4 (by simp; omega) (by omega)).mono ?_
    rintro r w5 ⟨rfl, hB5, hb5, hs5⟩
    clear hB4 hb4 hs4
    go_wp2_with fail
    refine (string_any B B _ w w5 hB5 hb5 hs5).mono ?_
    rintro r w6 ⟨rfl, hb6⟩
    clear hB5 hb5 hs5
    go_wp2
    go_ret
    exact ⟨rfl, hb6⟩

set_option maxHeartbeats 2000000 in
set_option maxRecDepth 100000 in
theorem plain_great (d : ByteArray) (n : Nat) (w : World) (hn1 : 1 ≤ n) (hd : d.size ≤ n) (hn : n ≤ 500000) :
    Calls Tryd.prog 24 #[.string d, .int .i64 (n : Int)] w fun r w' => r = .returned (.string (ba (d.data.toList ++ Dec.zs (n - d.size)))) ∧ Below w.heap.size w w' := by
  obtain ⟨B, hB⟩ : ∃ B, B = w.heap.size := ⟨_, rfl⟩
  have HG := hide (grow_any B (d.size + n + 2) w hB (by omega))
  have HB := hide hB
  have HR := hide (fun (w' : World) (l : List UInt8) (h : Bld B B l w') (hb : Below B w w') (hBw : B ≤ w'.heap.size) => repeat_any (n - d.size) w w' B B l h hb hBw (by omega))
  have hzs : (ba (Dec.zs (n - d.size))).size ≤ 524288 := by rw [ba_size, Dec.zs_len]; omega
  have HZ : Hid ((ba (Dec.zs (n - d.size))).data.toList = Dec.zs (n - d.size)) := rfl
  generalize ba (Dec.zs (n - d.size)) = Zb at *
  rw [← HZ.out]
  have hds := size_len d
  have HDS := hide hds
  clear hds
  rw [← hB]
  have HE : Hid ((((d.size + n + 2 : Nat)) : Int) = (d.size : Int) + (n : Int) + 2) := by show (((d.size + n + 2 : Nat)) : Int) = _; omega
  rw [HE.out] at HG
  clear hB
  have hgt : ¬ ((n : Int) < -(n : Int)) := by omega
  have hnn : ¬ ((n : Int) < 0) := by omega
  go_enter Tryd.func24, Tryd.ntmps24
  go_wp2_with fail
  rw [← HB.out]
  refine (unhide HG).mono ?_
  rintro r w1 ⟨rfl, hB1, hb1, hs1⟩
  go_wp2_with fail
  refine (writeString_any B B [] d w w1 hB1 hb1 hs1 (by simp) (by omega)).mono ?_
  rintro r w2 ⟨rfl, hB2, hb2, hs2⟩
  clear hB1 hb1 hs1
  go_wp2_with fail
  rw [show ((n : Int) - (d.size : Int)) = ((n - d.size : Nat) : Int) by omega]
  refine (unhide HR w2 _ hB2 hb2 hs2).mono ?_
  rintro r w3 ⟨rfl, hB3, hb3, hs3⟩
  clear hB2 hb2 hs2
  go_wp2_with fail
  refine (writeString_any B B _ Zb w w3 hB3 hb3 hs3 (by rw [List.nil_append, ← HDS.out]; omega) (by omega)).mono ?_
  rintro r w4 ⟨rfl, hB4, hb4, hs4⟩
  clear hB3 hb3 hs3
  go_wp2_with fail
  refine (string_any B B _ w w4 hB4 hb4 hs4).mono ?_
  rintro r w6 ⟨rfl, hb6⟩
  clear hB4 hb4 hs4
  go_wp2
  go_ret
  exact ⟨rfl, hb6⟩

set_option maxHeartbeats 2000000 in
set_option maxRecDepth 100000 in
theorem plain_mid (d : ByteArray) (n : Nat) (w : World) (hn1 : 1 ≤ n) (hd : n < d.size) (hd2 : d.size ≤ 262144) :
    Calls Tryd.prog 24 #[.string d, .int .i64 (n : Int)] w fun r w' => r = .returned (.string (ba (d.data.toList.take n ++ [46] ++ d.data.toList.drop n))) ∧ Below w.heap.size w w' := by
  obtain ⟨B, hB⟩ : ∃ B, B = w.heap.size := ⟨_, rfl⟩
  have HG := hide (grow_any B (d.size + n + 2) w hB (by omega))
  have HB := hide hB
  have h1 : (d.extract 0 n).data.toList = d.data.toList.take n := by rw [ext_from]; rfl
  have h2 : (d.extract n d.size).data.toList = d.data.toList.drop n := by rw [ext_to_end]; rfl
  have h3 : (d.extract 0 n).size ≤ 262144 := by rw [size_len, h1, List.length_take, ← size_len]; omega
  have h4 : (d.extract n d.size).size ≤ 262144 := by rw [size_len, h2, List.length_drop, ← size_len]; omega
  rw [← h1, ← h2]
  have h5 : (d.extract 0 n).data.toList.length ≤ 262144 := by rw [← size_len]; exact h3
  clear h1 h2
  rw [← hB]
  have HE : Hid ((((d.size + n + 2 : Nat)) : Int) = (d.size : Int) + (n : Int) + 2) := by show (((d.size + n + 2 : Nat)) : Int) = _; omega
  rw [HE.out] at HG
  clear hB
  have hgt : ¬ ((n : Int) < -(n : Int)) := by omega
  have hnn : ¬ ((n : Int) < 0) := by omega
  go_enter Tryd.func24, Tryd.ntmps24
  go_wp2_with fail
  rw [← HB.out]
  refine (unhide HG).mono ?_
  rintro r w1 ⟨rfl, hB1, hb1, hs1⟩
  go_wp2_with fail
  refine (writeString_any B B [] (d.extract 0 n) w w1 hB1 hb1 hs1 (by simp) (by omega)).mono ?_
  rintro r w2 ⟨rfl, hB2, hb2, hs2⟩
  clear hB1 hb1 hs1
  go_wp2_with fail
  refine (writePoint_any B B _ w w2 hB2 hb2 hs2 (by rw [List.nil_append]; omega)).mono ?_
  rintro r w3 ⟨rfl, hB3, hb3, hs3⟩
  clear hB2 hb2 hs2
  go_wp2_with fail
  refine (writeString_any B B _ (d.extract n d.size) w w3 hB3 hb3 hs3 (by rw [List.nil_append, List.length_append]; simp; omega) (by omega)).mono ?_
  rintro r w4 ⟨rfl, hB4, hb4, hs4⟩
  clear hB3 hb3 hs3
  go_wp2_with fail
  refine (string_any B B _ w w4 hB4 hb4 hs4).mono ?_
  rintro r w6 ⟨rfl, hb6⟩
  clear hB4 hb4 hs4
  go_wp2
  go_ret
  have hf : d.data.toList.take n ++ 46 :: (d.data.toList.drop n).take (d.size - n) = (d.extract 0 n).data.toList ++ [46] ++ (d.extract n d.size).data.toList := by
    rw [ext_data, ext_data]; simp
  exact ⟨by rw [← hf]; rfl, hb6⟩

/-- 'plain' writes what 'Dec.plainD' writes. -/
theorem plain_any (d : ByteArray) (p : Int) (w : World) (hd : d.size ≤ 262144) (hp1 : -262144 ≤ p) (hp2 : p ≤ 500000) :
    Calls Tryd.prog 24 #[.string d, .int .i64 p] w fun r w' => r = .returned (.string (ba (Dec.plainD d.data.toList p))) ∧ Below w.heap.size w w' := by
  unfold Dec.plainD
  by_cases h1 : p ≤ 0
  · obtain ⟨n, rfl⟩ : ∃ n : Nat, p = -(n : Int) := ⟨(-p).toNat, by omega⟩
    rw [if_pos h1, show (-(-(n : Int))).toNat = n by omega]
    exact plain_neg d n w hd (by omega)
  · obtain ⟨n, rfl⟩ : ∃ n : Nat, p = (n : Int) := ⟨p.toNat, by omega⟩
    rw [if_neg h1]
    by_cases h2 : d.size ≤ n
    · rw [if_pos (by rw [← size_len]; omega), show ((n : Int) - (d.data.toList.length : Int)).toNat = n - d.size by rw [← size_len]; omega]
      exact plain_great d n w (by omega) h2 (by omega)
    · rw [if_neg (by rw [← size_len]; omega), Int.toNat_natCast]
      exact plain_mid d n w (by omega) (by omega) hd
end Go.Proofs.Qxb6606170aDoor
