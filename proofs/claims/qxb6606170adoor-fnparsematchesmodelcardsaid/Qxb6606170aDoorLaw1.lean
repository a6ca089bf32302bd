import Derived.Test.Qxb6606170aDoorLit
namespace Go.Proofs.Qxb6606170aDoor
open Go.RowKit

/-- The model and the program write the same. -/
theorem model_is_plain (p : Lit) : modelS p.W p.F (isNeg p.sign) p.D = p.plainS := by
  unfold modelS Lit.plainS
  rw [Dec.PlainD_eq]

set_option maxHeartbeats 2000000 in
set_option maxRecDepth 100000 in
theorem plainLaw (s : ByteArray) (w : World) (hs : s.size ≤ maxLen) :
    Calls Tryd.prog 3 #[.string s] w fun e w' => e = .returned (.bool true) ∧ Below w.heap.size w w' := by
  have HZ := hide (zz_any 7 (Or.inl rfl) s w hs)
  have HS := hide (split_loose s)
  have HM := hide (fun a f d neg w => modelValue_any a f d neg w)
  have HP := hide (Plain_any s)
  have HL := hide (lit_of s)
  unfold maxLen at hs
  go_enter Tryd.func3, Tryd.ntmps3
  go_wp2_with fail
  refine (unhide HZ).mono ?_
  rintro e w ⟨b, rfl, rfl, hb⟩
  cases b with
  | false => go_wp2; go_ret; exact ⟨rfl, Below.refl _ _⟩
  | true =>
    have hbs := hb rfl
    clear hb HZ
    by_cases hsm : s.size ≤ 65536
    · go_wp2_with fail
      refine (unhide HS _ (by omega)).mono ?_
      rintro e w ⟨rfl, hsp⟩
      cases hg : good false s with
      | false =>
        rw [hg, if_neg (by decide)] at hsp
        subst hsp
        clear hg
        go_wp2; go_ret; exact ⟨rfl, Below.refl _ _⟩
      | true =>
        rw [hg, if_pos rfl] at hsp
        subst hsp
        have h3 : i3 s = s.size := by
          unfold good at hg
          simp at hg
          exact hg
        obtain ⟨p, hp, ht, hW, hF, hn, hD⟩ := HL.out h3
        have hle1 := i1_le s
        have hAs : (s.extract 0 (i1 s)).size ≤ 65536 := by rw [size_len, ext_data, List.length_take, List.length_drop, ← size_len]; omega
        have hFs : (fracA s).size ≤ 65536 := by
          unfold fracA
          split
          · rw [size_len, ext_data, List.length_take, List.length_drop, ← size_len]; omega
          · decide
        have hDs : (expA s).size ≤ 65536 := by
          unfold expA
          split
          · rw [size_len, ext_data, List.length_take, List.length_drop, ← size_len]; omega
          · decide
        have HM2 := hide (fun w => unhide HM (s.extract 0 (i1 s)) (fracA s) (expA s) (negB s) w hAs hFs (by omega) (by rw [← hD]; exact hp.d))
        rw [← hW, ← hF, ← hD, ← hn, model_is_plain] at HM2
        have HP2 := hide (fun w => unhide HP p w hp ht hsm)
        rw [← hn]
        clear hg h3 hp ht hW hF hn hD hAs hFs hDs hle1 HS HM HP HL
        generalize p.plainS = R at *
        generalize Dec.expOk p.D = ok at *
        generalize isNeg p.sign = ng at *
        generalize s.extract 0 (i1 s) = A at *
        generalize fracA s = G at *
        generalize expA s = X at *
        go_wp2_with fail
        refine (unhide HM2 _).mono ?_
        rintro e w2 ⟨rfl, hb2⟩
        go_wp2_with fail
        refine (unhide HP2 _).mono ?_
        rintro e w3 ⟨rfl, hb3⟩
        have hb23 := hb2.trans (hb3.mono hb2.size)
        clear hb2 hb3
        go_wp2
        go_ret
        exact ⟨rfl, hb23⟩
    · go_wp2; go_ret; exact ⟨rfl, Below.refl _ _⟩
end Go.Proofs.Qxb6606170aDoor
