import Derived.Test.Qxb6606170aDoorWalks12
namespace Go.Proofs.Qxb6606170aDoor
open Go.RowKit Go.Shelf

set_option maxHeartbeats 4000000 in
set_option maxRecDepth 100000 in
theorem modelParse_any (t b : ByteArray) (neg : Bool) (w : World) (hb : ba (Lib.trimPrefix t.data.toList [45]) = b) (hn : Lib.hasPrefix t.data.toList [45] = neg) (hs : b.size ≤ 65536) (hts : t.size ≤ 65537) :
    Calls Tryd.prog 13 #[.string t] w fun r w' => r = .returned (.tuple #[.string (outS neg b), .bool (outB b)]) ∧ Below w.heap.size w w' := by
  have HS := hide (fun w => split_strict b w (by omega))
  have HOB := hide (out_bad neg b)
  have HNP : Hid (neg = (at? t 0 == some 45)) := by rw [← hn, prefix_is]; exact rfl
  have HBT : Hid (neg = true → t.extract 1 t.size = b) := fun h => by
    rw [← hb]
    unfold Lib.trimPrefix
    rw [hn, h, if_pos rfl, ext_to_end]; rfl
  have HBF : Hid (neg = false → t = b) := fun h => by
    rw [← hb]
    unfold Lib.trimPrefix
    rw [hn, h, if_neg (by decide), ba_of]
  have hmv : i3 b = b.size → ∀ w, Calls Tryd.prog 9 #[.string (b.extract 0 (i1 b)), .string (fracA b), .bool (negB b), .string (expA b)] w fun r w' => r = .returned (.tuple #[.string (valS b), .bool (okB b)]) ∧ Below w.heap.size w w' := fun h w => by
    obtain ⟨p, hp, ht, hW, hF, hn', hD⟩ := lit_of b h
    refine modelValue_any (b.extract 0 (i1 b)) (fracA b) (expA b) (negB b) w ?_ ?_ ?_ (by rw [← hD]; exact hp.d)
    · rw [size_len, ext_data, List.length_take, List.length_drop, ← size_len]; omega
    · unfold fracA
      split
      · rw [size_len, ext_data, List.length_take, List.length_drop, ← size_len]; omega
      · decide
    · unfold expA
      split
      · rw [size_len, ext_data, List.length_take, List.length_drop, ← size_len]; omega
      · decide
  have HMV := hide hmv
  have hvs := val_size b hs
  clear hb hn hmv
  go_enter Tryd.func13, Tryd.ntmps13
  go_upto_region 3 with fail
  go_cut [21] (fun d w' => d = .bool neg ∧ w' = w)
  case first =>
    rcases Nat.lt_or_ge 0 t.size with h1 | h1
    · have HD : Hid (neg = ((t[0].toNat : Int) == 45)) := by
        show neg = _
        rw [HNP.out, at_eq t 0 h1 45]; rfl
      go_wp2
      go_meet
      exact ⟨by rw [HD.out], rfl⟩
    · have HD : Hid (neg = false) := by
        show neg = false
        rw [HNP.out, at_ge t 0 h1]; rfl
      go_wp2
      go_meet
      exact ⟨by rw [HD.out], rfl⟩
  case rest =>
    obtain ⟨rfl, rfl⟩ := hcut
    go_upto_if 21 with fail
    go_cut [4, 5] (fun y n w' => y = .string b ∧ n = .bool neg ∧ w' = wc)
    case first =>
      cases neg with
      | true =>
        have HE : Hid (t.extract 1 t.size = b) := HBT.out rfl
        have h1 : 1 ≤ t.size := by
          rcases Nat.lt_or_ge 0 t.size with h | h
          · exact h
          · have := HNP.out
            rw [at_ge t 0 h] at this
            cases this
        go_wp2
        go_meet
        exact ⟨by rw [HE.out], rfl, rfl⟩
      | false =>
        have HE : Hid (t = b) := HBF.out rfl
        go_wp2
        go_meet
        exact ⟨by rw [HE.out], rfl, rfl⟩
    case rest =>
      obtain ⟨rfl, rfl, rfl⟩ := hcut
      go_wp2_with fail
      refine (unhide HS _).mono ?_
      rintro r wc ⟨rfl, hsp⟩
      cases hg : good true b with
      | false =>
        rw [hg, if_neg (by decide)] at hsp
        subst hsp
        obtain ⟨e1, e2⟩ := HOB.out hg
        have HE1 := hide e1
        have HE2 := hide e2
        clear hg e1 e2
        go_wp2
        go_ret2
        exact ⟨by rw [HE1.out, HE2.out]; rfl, Below.refl _ _⟩
      | true =>
        rw [hg, if_pos rfl] at hsp
        subst hsp
        have h3 : i3 b = b.size := by
          have h4 := hg
          unfold good at h4
          simp at h4
          exact h4.2
        have HM2 := hide (HMV.out h3)
        have HOB2 : Hid (outB b = okB b) := by show outB b = _; unfold outB; rw [hg]; rfl
        have HOS : Hid (outS neg b = if okB b then (if neg then negS (valS b) else valS b) else ⟨#[]⟩) := by show outS neg b = _; unfold outS; rw [HOB2.out]
        clear hg h3 HMV HS HOB
        generalize valS b = V at *
        generalize okB b = ok at *
        generalize b.extract 0 (i1 b) = A at *
        generalize fracA b = G at *
        generalize expA b = X at *
        generalize negB b = ng at *
        go_wp2_with fail
        refine (unhide HM2 _).mono ?_
        rintro r w2 ⟨rfl, hb2⟩
        cases ok with
        | false =>
          go_wp2
          go_ret2
          exact ⟨by rw [HOS.out, HOB2.out]; rfl, hb2⟩
        | true =>
          cases neg with
          | false =>
            go_wp2
            go_ret2
            exact ⟨by rw [HOS.out, HOB2.out]; rfl, hb2⟩
          | true =>
            by_cases h0 : V.data.toList = [48]
            · have h1 : (V.toList == [48]) = true := by rw [Lib.toList_data, h0]; rfl
              have HX : Hid (negS V = V) := by show negS V = V; unfold negS; rw [if_pos h0]
              clear h0
              go_wp2
              go_ret2
              exact ⟨by rw [HOS.out, HOB2.out, HX.out]; rfl, hb2⟩
            · have h1 : (V.toList == [48]) = false := by rw [Lib.toList_data]; exact beq_eq_false_iff_ne.2 h0
              have HX : Hid (negS V = ⟨#[45]⟩ ++ V) := by show negS V = _; unfold negS; rw [if_neg h0]
              clear h0
              go_wp2
              go_ret2
              exact ⟨by rw [HOS.out, HOB2.out, HX.out]; rfl, hb2⟩

set_option maxHeartbeats 2000000 in
set_option maxRecDepth 100000 in
theorem parseLaw (s : ByteArray) (w : World) (hs : s.size ≤ maxLen) :
    Calls Tryd.prog 5 #[.string s] w fun e w' => e = .returned (.bool true) ∧ Below w.heap.size w w' := by
  have HZ := hide (zz_any 12 (Or.inr rfl) s w hs)
  obtain ⟨b, hb⟩ : ∃ b, ba (Lib.trimPrefix s.data.toList [45]) = b := ⟨_, rfl⟩
  obtain ⟨neg, hn⟩ : ∃ neg, Lib.hasPrefix s.data.toList [45] = neg := ⟨_, rfl⟩
  have hbs : s.size ≤ 65536 → b.size ≤ 65536 := fun h => by
    rw [← hb, ba_size]
    unfold Lib.trimPrefix
    split
    · rw [List.length_drop, ← size_len]; omega
    · rw [← size_len]; exact h
  have HM := hide (fun (h : s.size ≤ 65536) w => modelParse_any s b neg w hb hn (hbs h) (by omega))
  have HP := hide (fun (h : s.size ≤ 65536) w => parse_any s b neg w hb hn (hbs h))
  clear hb hn hbs
  generalize outS neg b = R at *
  generalize outB b = ok at *
  unfold maxLen at hs
  go_enter Tryd.func5, Tryd.ntmps5
  go_wp2_with fail
  refine (unhide HZ).mono ?_
  rintro e w ⟨b', rfl, rfl, hb⟩
  cases b' with
  | false => go_wp2; go_ret; exact ⟨rfl, Below.refl _ _⟩
  | true =>
    have hbs := hb rfl
    clear hb HZ
    by_cases hsm : s.size ≤ 65536
    · go_wp2_with fail
      refine (unhide HM hsm _).mono ?_
      rintro e w2 ⟨rfl, hb2⟩
      go_wp2_with fail
      refine (unhide HP hsm _).mono ?_
      rintro e w3 ⟨rfl, hb3⟩
      have hb23 := hb2.trans (hb3.mono hb2.size)
      clear hb2 hb3
      go_wp2
      go_ret
      exact ⟨rfl, hb23⟩
    · go_wp2; go_ret; exact ⟨rfl, Below.refl _ _⟩
end Go.Proofs.Qxb6606170aDoor
