import Derived.Test.Qxb6606170aDoorWalks7
namespace Go.Proofs.Qxb6606170aDoor
open Go.RowKit Go.Shelf

/-- strings.HasPrefix at one byte. -/
theorem hasPrefix_any (s : ByteArray) (c : UInt8) (w : World) :
    Calls Tryd.prog 34 #[.string s, .string ⟨#[c]⟩] w fun e w' => e = .returned (.bool (Lib.hasPrefix s.data.toList [c])) ∧ w' = w :=
  Any.strings_HasPrefix Tryd.lays99 s ⟨#[c]⟩ w
theorem hasPrefix_at (l : List UInt8) (c : UInt8) : Lib.hasPrefix l [c] = (l.head? == some c) := by
  unfold Lib.hasPrefix
  cases l with
  | nil => rfl
  | cons a r =>
    have : ([c].isPrefixOf (a :: r)) = (c == a) := by
      show (c == a && [].isPrefixOf r) = (c == a)
      rw [List.isPrefixOf_nil_left, Bool.and_true]
    rw [this, List.head?_cons, Bool.eq_iff_iff]
    simp only [beq_iff_eq, Option.some.injEq]
    exact ⟨fun h => h.symm, fun h => h.symm⟩

theorem trimLeft_any (s : ByteArray) (w : World) :
    Calls Tryd.prog 22 #[.string s, .string ⟨#[48]⟩] w fun e w' => e = .returned (.string (ba (Dec.cutZ s.data.toList))) ∧ Below w.heap.size w w' :=
  Any.strings_TrimLeft_laid Tryd.lays161 (by kernel_rfl) s ⟨#[48]⟩ w (by decide) (ascii_of_all (by decide))
theorem trimRight_any (s : ByteArray) (w : World) (hs : s.size ≤ 1048576) :
    Calls Tryd.prog 23 #[.string s, .string ⟨#[48]⟩] w fun e w' => e = .returned (.string (ba (Dec.trimZ s.data.toList))) ∧ Below w.heap.size w w' :=
  Any.strings_TrimRight_laid Tryd.lays162 (by kernel_rfl) s ⟨#[48]⟩ w (by omega) (by decide) (ascii_of_all (by decide))

/-- How the exponent is written: its sign, then its digits. -/
def sgn : Option Bool → List UInt8
  | none => []
  | some true => [45]
  | some false => [43]
def isNeg : Option Bool → Bool
  | some true => true
  | _ => false

/-- The sign as a number. -/
def sgnZ : Option Bool → Int
  | some true => -1
  | _ => 1

set_option maxHeartbeats 2000000 in
set_option maxRecDepth 100000 in
theorem parseExp_any (x D : ByteArray) (σ : Option Bool) (w : World) (hx : x.data.toList = sgn σ ++ D.data.toList) (hd : D.size ≤ 262144) (hD : Dec.AllD D.data.toList) :
    Calls Tryd.prog 20 #[.string x] w fun r w' => r = .returned (.tuple #[.int .i64 (Dec.expV (isNeg σ) D.data.toList), .bool (Dec.expOk D.data.toList)]) ∧ Below w.heap.size w w' := by
  have hns : ∀ c : UInt8, Dec.isD c = false → σ = none → Lib.hasPrefix x.data.toList [c] = false := fun c hc hσ => by
    rw [hx, hσ, hasPrefix_at]
    show (([] ++ D.data.toList).head? == some c) = false
    rw [List.nil_append]
    cases hl : D.data.toList with
    | nil => rfl
    | cons a r =>
      have := hD a (by rw [hl]; simp)
      rw [List.head?_cons]
      refine beq_eq_false_iff_ne.2 (fun e => ?_)
      rw [Option.some.inj e, hc] at this
      cases this
  have HNS := hide hns
  have HX := hide hx
  have hxs : x.size ≤ 262145 := by
    rw [size_len, hx, List.length_append, ← size_len]
    rcases σ with _ | _ | _ <;> simp [sgn] <;> omega
  have HM := hide (hasPrefix_any x 45)
  have HP := hide (hasPrefix_any x 43)
  have HT := hide (trimLeft_any D)
  have kc := fun (w : World) (s : ByteArray) => run_bytes_of_string (P := Tryd.prog) w 9 48 5 s Tryd.underlying9 Tryd.underlying48 Tryd.underlying5
  have HD := hide hD
  clear hns hx hD
  go_enter Tryd.func20, Tryd.ntmps20
  go_upto_block 0 with fail
  go_cut [0, 4] (fun y s w' => y = .string D ∧ s = .int .i64 (sgnZ σ) ∧ w' = w)
  case first =>
    rcases σ with _ | σ
    · have e1 := HNS.out 45 (by decide) rfl
      have e2 := HNS.out 43 (by decide) rfl
      have HE : Hid (x = D) := ba_ext HX.out
      rw [e1] at HM
      rw [e2] at HP
      clear e1 e2
      go_wp2_with fail
      refine (unhide HM _).mono ?_
      rintro r w ⟨rfl, rfl⟩
      go_wp2_with fail
      refine (unhide HP _).mono ?_
      rintro r w ⟨rfl, rfl⟩
      go_wp2
      go_meet
      exact ⟨by rw [HE.out], rfl, rfl⟩
    · have h1 : 1 ≤ x.size := by
        rw [size_len, HX.out]
        cases σ <;> simp [sgn]
      have HE : Hid (x.extract 1 x.size = D) := by
        show x.extract 1 x.size = D
        rw [ext_to_end, HX.out]
        cases σ
        · exact ba_of D
        · exact ba_of D
      cases σ with
      | true =>
        have e1 : Lib.hasPrefix x.data.toList [45] = true := by rw [hasPrefix_at, HX.out]; rfl
        rw [e1] at HM
        clear e1
        go_wp2_with fail
        refine (unhide HM _).mono ?_
        rintro r w ⟨rfl, rfl⟩
        go_wp2
        go_meet
        exact ⟨by rw [HE.out], rfl, rfl⟩
      | false =>
        have e1 : Lib.hasPrefix x.data.toList [45] = false := by rw [hasPrefix_at, HX.out]; rfl
        have e2 : Lib.hasPrefix x.data.toList [43] = true := by rw [hasPrefix_at, HX.out]; rfl
        rw [e1] at HM
        rw [e2] at HP
        clear e1 e2
        go_wp2_with fail
        refine (unhide HM _).mono ?_
        rintro r w ⟨rfl, rfl⟩
        go_wp2_with fail
        refine (unhide HP _).mono ?_
        rintro r w ⟨rfl, rfl⟩
        go_wp2
        go_meet
        exact ⟨by rw [HE.out], rfl, rfl⟩
  case rest =>
    obtain ⟨rfl, rfl, rfl⟩ := hcut
    go_wp2_with fail
    refine (unhide HT _).mono ?_
    rintro r w1 ⟨rfl, hb⟩
    obtain ⟨S, hS⟩ : ∃ S, S = ba (Dec.cutZ D.data.toList) := ⟨_, rfl⟩
    rw [← hS]
    have hSl : S.data.toList = Dec.cutZ D.data.toList := by rw [hS]; rfl
    have HSl := hide hSl
    clear hS hSl
    have hSs : S.size ≤ 262144 := by
      have h2 : (Dec.cutZ D.data.toList).length ≤ D.data.toList.length := by rw [Dec.cutZ_eq]; exact (List.dropWhile_sublist _).length_le
      rw [← HSl.out, ← size_len, ← size_len] at h2
      omega
    have hSa : ∀ (j : Nat) (h : j < S.size), 48 ≤ S[j].toNat ∧ S[j].toNat ≤ 57 := fun j h => by
      have h1 := at_mem S j h
      rw [HSl.out] at h1
      exact (Dec.isD_iff _).1 (HD.out _ (Dec.cutZ_mem _ _ h1))
    have HSa := hide hSa
    clear hSa
    go_wp2
    generalize grownCap w1 S.size 0 5 = cap
    have hcell : ∀ j (h : j < S.size), (w1.alloc (.cells (bytesRow S cap) 5 ((bytesRow S cap).size, (bytesRow S cap).size + 1))).cell? ⟨w1.heap.size, j, none⟩ = some (.int .u8 (S[j].toNat : Int)) := fun j h => by
      rw [World.cell?_alloc_mark, bytesRow_at S cap j h]; rfl
    have HCe := hide hcell
    clear hcell kc
    have hb2 : Below wc.heap.size wc (w1.alloc (.cells (bytesRow S cap) 5 ((bytesRow S cap).size, (bytesRow S cap).size + 1))).drew := (hb.alloc hb.size _).drew
    generalize (w1.alloc (.cells (bytesRow S cap) 5 ((bytesRow S cap).size, (bytesRow S cap).size + 1))) = W at *
    go_loop [5, 7, 22] (fun n _ i => ∃ j : Nat, j ≤ S.size ∧ i = .int .i64 j ∧ n = .int .i64 (Dec.val (S.data.toList.take j) : Int) ∧ Dec.val (S.data.toList.take j) ≤ 1000) (fun _ _ i => S.size - (intOf i).toNat)
    case atStart => exact ⟨0, Nat.zero_le _, rfl, rfl, by simp [Dec.val]⟩
    case round =>
      obtain ⟨j, hj, rfl, rfl, hv⟩ := hrel
      by_cases hlt : j < S.size
      · have hce := HCe.out j hlt
        obtain ⟨hc1, hc2⟩ := HSa.out j hlt
        have HX2 : Hid ((Dec.val (S.data.toList.take (j + 1)) : Int) = (Dec.val (S.data.toList.take j) : Int) * 10 + ((S[j].toNat : Int) - 48)) := by
          show (Dec.val (S.data.toList.take (j + 1)) : Int) = _
          rw [take_snoc S j hlt, Dec.val_snoc]; omega
        by_cases hbig : Dec.val (S.data.toList.take (j + 1)) ≤ 1000
        · have hbig' : (Dec.val (S.data.toList.take j) : Int) * 10 + ((S[j].toNat : Int) - 48) ≤ 1000 := by have := HX2.out; omega
          have HBG := hide hbig
          clear hbig
          generalize Dec.val (S.data.toList.take j) = v at *
          go_wp2
          go_round
          case rel => exact ⟨j + 1, by omega, by go_num, by rw [HX2.out], HBG.out⟩
          case measure => simp [intOf]; omega
        · have hbig' : 1000 < (Dec.val (S.data.toList.take j) : Int) * 10 + ((S[j].toNat : Int) - 48) := by have := HX2.out; omega
          have HO : Hid (Dec.expOk D.data.toList = false) := by
            show Dec.expOk D.data.toList = false
            unfold Dec.expOk
            refine decide_eq_false ?_
            rw [← HSl.out]
            have h3 := Dec.val_mono (S.data.toList.take (j + 1)) (S.data.toList.drop (j + 1))
            rw [List.take_append_drop] at h3
            omega
          have HV : Hid (Dec.expV (isNeg σ) D.data.toList = 0) := by show Dec.expV (isNeg σ) D.data.toList = 0; unfold Dec.expV; rw [if_neg (by rw [HO.out]; decide)]
          clear hbig
          generalize Dec.val (S.data.toList.take j) = v at *
          go_wp2
          go_ret2
          exact ⟨by rw [HO.out, HV.out]; rfl, hb2⟩
      · have hfull : S.data.toList.take j = Dec.cutZ D.data.toList := by
          rw [← HSl.out]; exact List.take_of_length_le (by rw [← size_len]; omega)
        rw [hfull] at hv ⊢
        have HO : Hid (Dec.expOk D.data.toList = true) := by show Dec.expOk D.data.toList = true; unfold Dec.expOk; exact decide_eq_true hv
        have HV : Hid (Dec.expV (isNeg σ) D.data.toList = sgnZ σ * (Dec.val (Dec.cutZ D.data.toList) : Int)) := by
          show Dec.expV (isNeg σ) D.data.toList = _
          unfold Dec.expV
          rw [if_pos HO.out]
          rcases σ with _ | _ | _
          · simp [isNeg, sgnZ]
          · simp [isNeg, sgnZ]
          · simp [isNeg, sgnZ]
        clear hfull
        generalize Dec.val (Dec.cutZ D.data.toList) = v at *
        have hs1 : sgnZ σ = 1 ∨ sgnZ σ = -1 := by rcases σ with _ | _ | _ <;> simp [sgnZ]
        generalize sgnZ σ = z at *
        rcases hs1 with rfl | rfl
        · go_wp2
          go_ret2
          exact ⟨by rw [HO.out, HV.out]; simp, hb2⟩
        · go_wp2
          go_ret2
          exact ⟨by rw [HO.out, HV.out]; simp, hb2⟩
end Go.Proofs.Qxb6606170aDoor
