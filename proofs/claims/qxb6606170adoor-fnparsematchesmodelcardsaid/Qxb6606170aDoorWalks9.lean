import Derived.Test.Qxb6606170aDoorWalks8
namespace Go.Proofs.Qxb6606170aDoor
open Go.RowKit Go.Shelf

/-- A number literal in its parts: digits, a point and digits or not, an 'e' with a sign or not and digits or not. -/
structure Lit where
  W : List UInt8
  dot : Bool
  F : List UInt8
  e : Option (UInt8 × Option Bool)
  D : List UInt8
def Lit.mant (p : Lit) : List UInt8 := p.W ++ (if p.dot then 46 :: p.F else [])
def Lit.expo (p : Lit) : List UInt8 := match p.e with
  | none => []
  | some (_, σ) => sgn σ ++ p.D
def Lit.sign (p : Lit) : Option Bool := match p.e with
  | none => none
  | some (_, σ) => σ
def Lit.text (p : Lit) : List UInt8 := p.mant ++ (match p.e with
  | none => []
  | some (c, σ) => c :: (sgn σ ++ p.D))
structure Lit.Ok (p : Lit) : Prop where
  w : Dec.AllD p.W
  f : Dec.AllD p.F
  d : Dec.AllD p.D
  nof : p.dot = false → p.F = []
  noe : p.e = none → p.D = []
  c : ∀ c σ, p.e = some (c, σ) → c = 101 ∨ c = 69

theorem digit_facts (c : UInt8) (h : Dec.isD c = true) : c ≠ 46 ∧ c ≠ 101 ∧ c ≠ 69 ∧ c.toNat < 128 := by
  have := (Dec.isD_iff c).1 h
  exact ⟨fun e => by subst e; revert h; decide, fun e => by subst e; revert h; decide, fun e => by subst e; revert h; decide, by omega⟩

theorem mant_mem (p : Lit) (hp : p.Ok) (c : UInt8) (h : c ∈ p.mant) : c ≠ 101 ∧ c ≠ 69 ∧ c.toNat < 128 := by
  unfold Lit.mant at h
  rcases List.mem_append.1 h with h | h
  · have := digit_facts c (hp.w c h); exact ⟨this.2.1, this.2.2.1, this.2.2.2⟩
  · cases hd : p.dot with
    | false => rw [hd] at h; simp at h
    | true =>
      rw [hd, if_pos rfl] at h
      rcases List.mem_cons.1 h with rfl | h
      · decide
      · have := digit_facts c (hp.f c h); exact ⟨this.2.1, this.2.2.1, this.2.2.2⟩

theorem text_ascii (p : Lit) (hp : p.Ok) (c : UInt8) (h : c ∈ p.text) : c.toNat < 128 := by
  unfold Lit.text at h
  rcases List.mem_append.1 h with h | h
  · exact (mant_mem p hp c h).2.2
  · cases he : p.e with
    | none => rw [he] at h; cases h
    | some q =>
      obtain ⟨x, σ⟩ := q
      rw [he] at h
      rcases List.mem_cons.1 h with rfl | h
      · rcases hp.c _ _ he with h | h <;> subst h <;> decide
      · rcases List.mem_append.1 h with h | h
        · rcases σ with _ | _ | _
          · cases h
          · simp only [sgn, List.mem_singleton] at h; subst h; decide
          · simp only [sgn, List.mem_singleton] at h; subst h; decide
        · exact (digit_facts c (hp.d c h)).2.2.2

theorem indexAny_skip : ∀ (M R : List UInt8), (∀ c, c ∈ M → c ≠ 101 ∧ c ≠ 69) → Lib.indexAny (M ++ R) [101, 69] = if Lib.indexAny R [101, 69] == -1 then -1 else Lib.indexAny R [101, 69] + M.length
  | [], R, _ => by
    show Lib.indexAny R [101, 69] = _
    split
    · rename_i h; exact beq_iff_eq.1 h
    · simp
  | m :: M, R, h => by
    have ih := indexAny_skip M R (fun c hc => h c (by simp [hc]))
    obtain ⟨h1, h2⟩ := h m (by simp)
    have hc : [101, 69].contains m = false := by simp [h1, h2]
    show (if [101, 69].contains m then (0 : Int) else if Lib.indexAny (M ++ R) [101, 69] == -1 then -1 else Lib.indexAny (M ++ R) [101, 69] + 1) = _
    rw [hc, if_neg (by decide), ih]
    by_cases hr : Lib.indexAny R [101, 69] = -1
    · rw [hr]; rfl
    · have hge := Lib.indexAny_ge [101, 69] R
      have e1 : (Lib.indexAny R [101, 69] == -1) = false := beq_eq_false_iff_ne.2 hr
      simp only [e1, Bool.false_eq_true, if_false]
      rw [if_neg (by simp; omega), List.length_cons]
      omega

theorem indexAny_text (p : Lit) (hp : p.Ok) : Lib.indexAny p.text [101, 69] = if p.e = none then -1 else (p.mant.length : Int) := by
  unfold Lit.text
  rw [indexAny_skip _ _ (fun c hc => ⟨(mant_mem p hp c hc).1, (mant_mem p hp c hc).2.1⟩)]
  cases he : p.e with
  | none => rfl
  | some q =>
    obtain ⟨x, σ⟩ := q
    have hx : [101, 69].contains x = true := by rcases hp.c _ _ he with h | h <;> subst h <;> decide
    have : Lib.indexAny (x :: (sgn σ ++ p.D)) [101, 69] = 0 := by rw [Lib.indexAny, if_pos hx]
    show (if Lib.indexAny (x :: (sgn σ ++ p.D)) [101, 69] == -1 then (-1 : Int) else Lib.indexAny (x :: (sgn σ ++ p.D)) [101, 69] + p.mant.length) = _
    rw [this, if_neg (by decide), if_neg (by simp)]; omega

theorem ahead_mant (p : Lit) (hp : p.Ok) : ahead p.mant = p.W ∧ behind p.mant = p.F := by
  have key : ∀ W : List UInt8, Dec.AllD W → ∀ R, ahead (W ++ R) = W ++ ahead R ∧ behind (W ++ R) = behind R := by
    intro W
    induction W with
    | nil => intro _ R; exact ⟨rfl, rfl⟩
    | cons c r ih =>
      intro h R
      have ih := ih (fun d hd => h d (by simp [hd])) R
      have hc := (digit_facts c (h c (by simp))).1
      constructor
      · show ahead (c :: (r ++ R)) = c :: (r ++ ahead R)
        unfold ahead at ih ⊢
        rw [List.takeWhile_cons, if_pos (by simpa using hc), ih.1]
      · show behind (c :: (r ++ R)) = _
        unfold behind at ih ⊢
        rw [List.dropWhile_cons, if_pos (by simpa using hc), ih.2]
  have hk := key p.W hp.w (if p.dot then 46 :: p.F else [])
  unfold Lit.mant
  rw [hk.1, hk.2]
  cases hd : p.dot with
  | false =>
    rw [hp.nof hd]
    exact ⟨by simp [ahead], by simp [behind]⟩
  | true => exact ⟨by simp [ahead], by simp [behind]⟩

/-- What 'Plain' answers of a literal. -/
def Lit.plainS (p : Lit) : ByteArray := if Dec.expOk p.D then ba (Dec.PlainD p.W p.F (Dec.expV (isNeg p.sign) p.D)) else ⟨#[]⟩

set_option maxHeartbeats 2000000 in
set_option maxRecDepth 100000 in
theorem Plain_any (lit : ByteArray) (p : Lit) (w : World) (hp : p.Ok) (ht : lit.data.toList = p.text) (hs : lit.size ≤ 65536) :
    Calls Tryd.prog 10 #[.string lit] w fun r w' => r = .returned (.tuple #[.string p.plainS, .bool (Dec.expOk p.D)]) ∧ Below w.heap.size w w' := by
  have hI : ∀ w, Calls Tryd.prog 19 #[.string lit, .string ⟨#[101, 69]⟩] w fun e w' => e = .returned (.int .i64 (if p.e = none then -1 else (p.mant.length : Int))) ∧ Below w.heap.size w w' := fun w => by
    have h := Any.strings_IndexAny_laid Tryd.lays153 (by kernel_rfl) lit ⟨#[101, 69]⟩ w (by omega) (by decide) (fun j b hb => text_ascii p hp b (by rw [← ht]; exact List.mem_of_getElem? hb)) (ascii_of_all (by decide))
    rw [ht, show (⟨#[101, 69]⟩ : ByteArray).data.toList = [101, 69] from rfl, indexAny_text p hp] at h
    exact h
  obtain ⟨M, hM⟩ : ∃ M, M = ba p.mant := ⟨_, rfl⟩
  obtain ⟨X, hX⟩ : ∃ X, X = ba p.expo := ⟨_, rfl⟩
  obtain ⟨D, hDd⟩ : ∃ D, D = ba p.D := ⟨_, rfl⟩
  have hlen : p.text.length = lit.size := by rw [← ht, ← size_len]
  have hml : p.mant.length ≤ 65536 := by unfold Lit.text at hlen; rw [List.length_append] at hlen; omega
  have hDl : p.D.length ≤ 65536 := by
    unfold Lit.text at hlen
    rw [List.length_append] at hlen
    cases he : p.e with
    | none => rw [hp.noe he]; simp
    | some q =>
      rw [he] at hlen
      simp only [List.length_cons, List.length_append] at hlen
      omega
  have hMs : M.size ≤ 65536 := by rw [hM, ba_size]; exact hml
  have HE := hide (parseExp_any X D p.sign)
  have hXl : X.data.toList = sgn p.sign ++ D.data.toList := by
    rw [hX, hDd, ba_data, ba_data]
    unfold Lit.expo Lit.sign
    cases he : p.e with
    | none => rw [hp.noe he]; rfl
    | some q => rfl
  have HXl := hide hXl
  have HDa : Hid (Dec.AllD D.data.toList) := by rw [hDd]; exact hp.d
  have hDs : D.size ≤ 65536 := by rw [hDd, ba_size]; exact hDl
  have HC := hide (cut_any M)
  obtain ⟨hA1, hA2⟩ := ahead_mant p hp
  have hMd : M.data.toList = p.mant := by rw [hM]; rfl
  rw [hMd, hA1, hA2] at HC
  have hWF : p.W.length ≤ 65536 ∧ p.F.length ≤ 65536 := by
    have h1 : p.mant.length = p.W.length + (if p.dot then 46 :: p.F else []).length := by unfold Lit.mant; rw [List.length_append]
    cases hd : p.dot with
    | false => rw [hp.nof hd]; exact ⟨by omega, by simp⟩
    | true => rw [hd, if_pos rfl, List.length_cons] at h1; constructor <;> omega
  obtain ⟨hWl, hFl⟩ := hWF
  have HPS : Hid (p.plainS = if Dec.expOk D.data.toList then ba (Dec.PlainD p.W p.F (Dec.expV (isNeg p.sign) D.data.toList)) else ⟨#[]⟩) := by rw [hDd]; exact rfl
  have HOK : Hid (Dec.expOk p.D = Dec.expOk D.data.toList) := by rw [hDd]; exact rfl
  have hev := Dec.expV_le (isNeg p.sign) D.data.toList
  have hcut1 : p.e = none → lit = M ∧ X = ⟨#[]⟩ := fun he => by
    refine ⟨ba_ext ?_, ?_⟩
    · rw [ht, hM, ba_data]; unfold Lit.text; rw [he]; simp
    · rw [hX]; unfold Lit.expo; rw [he]; rfl
  have hcut2 : p.e ≠ none → lit.extract 0 p.mant.length = M ∧ lit.extract (p.mant.length + 1) lit.size = X ∧ p.mant.length < lit.size := fun he => by
    cases hq : p.e with
    | none => exact absurd hq he
    | some q =>
      obtain ⟨c, σ⟩ := q
      have e1 : lit.data.toList = p.mant ++ c :: (sgn σ ++ p.D) := by rw [ht]; unfold Lit.text; rw [hq]
      refine ⟨?_, ?_, ?_⟩
      · rw [ext_from, e1, hM, List.take_left']; rfl
      · rw [ext_to_end, e1, hX]
        unfold Lit.expo
        rw [hq, ← List.drop_drop, List.drop_left' rfl]; rfl
      · rw [size_len, e1, List.length_append, List.length_cons]; omega
  have HCU1 := hide hcut1
  have HCU2 := hide hcut2
  obtain ⟨z, hz⟩ : ∃ z : Int, z = if p.e = none then -1 else (p.mant.length : Int) := ⟨_, rfl⟩
  rw [← hz] at hI
  have HZ := hide hz
  clear hz
  have HI := hide hI
  have HWl := hide hWl
  have HFl := hide hFl
  rw [HOK.out, HPS.out]
  generalize Dec.expOk D.data.toList = ok at *
  generalize Dec.expV (isNeg p.sign) D.data.toList = x at *
  obtain ⟨hx1, hx2⟩ := hev
  clear hI hcut1 hcut2 hXl hMd hA1 hA2 HOK HPS hX hM hDd hlen ht hDl
  go_enter Tryd.func10, Tryd.ntmps10
  go_wp2_with fail
  refine (unhide HI _).mono ?_
  rintro r w1 ⟨rfl, hb1⟩
  go_upto_if 19 with fail
  go_cut [4, 5] (fun m x w' => m = .string M ∧ x = .string X ∧ Below w.heap.size w w')
  case first =>
    by_cases he : p.e = none
    · have hz : z = -1 := by rw [HZ.out, if_pos he]
      obtain ⟨h1, h2⟩ := HCU1.out he
      have H1 := hide h1
      have H2 := hide h2
      clear he h1 h2
      subst hz
      go_wp2
      go_meet
      exact ⟨by rw [H1.out], by rw [H2.out], hb1⟩
    · have hz : z = (p.mant.length : Int) := by rw [HZ.out, if_neg he]
      obtain ⟨h1, h2, h3⟩ := HCU2.out he
      have H1 := hide h1
      have H2 := hide h2
      clear he h1 h2
      subst hz
      generalize p.mant.length = n at *
      go_wp2
      go_region
      go_wp2
      go_meet
      exact ⟨by rw [H1.out], by rw [H2.out], hb1.drew⟩
  case rest =>
    obtain ⟨rfl, rfl, hb2⟩ := hcut
    go_wp2_with fail
    refine (unhide HE _ HXl.out (by omega) HDa.out).mono ?_
    rintro r w3 ⟨rfl, hb3⟩
    have hb23 : Below w.heap.size w w3 := hb2.trans (hb3.mono hb2.size)
    clear hb1 hb2 hb3
    cases ok with
    | false =>
      go_wp2
      go_ret2
      exact ⟨rfl, hb23⟩
    | true =>
      go_wp2_with fail
      refine (unhide HC _ (by omega)).mono ?_
      rintro r w4 ⟨b, rfl, hb4⟩
      have hb24 : Below w.heap.size w w4 := hb23.trans (hb4.mono hb23.size)
      clear hb23 hb4
      obtain ⟨A, hA⟩ : ∃ A, A = ba p.W := ⟨_, rfl⟩
      obtain ⟨G, hG⟩ : ∃ G, G = ba p.F := ⟨_, rfl⟩
      have hAs : A.size ≤ 65536 := by rw [hA, ba_size]; exact HWl.out
      have hGs : G.size ≤ 65536 := by rw [hG, ba_size]; exact HFl.out
      have hAl : A.data.toList = p.W := by rw [hA]; rfl
      have hGl : G.data.toList = p.F := by rw [hG]; rfl
      have hL : (A ++ G).data.toList = p.W ++ p.F := by rw [app_data, hAl, hGl]
      obtain ⟨S, hS⟩ : ∃ S, S = ba (Dec.cutZ (A ++ G).data.toList) := ⟨_, rfl⟩
      obtain ⟨T, hT⟩ : ∃ T, T = ba (Dec.trimZ S.data.toList) := ⟨_, rfl⟩
      have hSl : S.data.toList = Dec.cutZ (p.W ++ p.F) := by rw [hS, hL]; rfl
      have hTl : T.data.toList = Dec.trimZ (Dec.cutZ (p.W ++ p.F)) := by rw [hT, hSl]; rfl
      have hAG : (A ++ G).size = A.size + G.size := by rw [size_len, app_data, List.length_append, ← size_len, ← size_len]
      have hSs : S.size ≤ A.size + G.size := by
        rw [← hAG, size_len, size_len, hSl, hL, Dec.cutZ_eq]
        exact (List.dropWhile_sublist _).length_le
      have hTs : T.size ≤ S.size := by
        obtain ⟨t, h1, _⟩ := Dec.trimZ_split (Dec.cutZ (p.W ++ p.F))
        rw [size_len, size_len, hTl, hSl]
        conv => rhs; rw [h1]
        rw [List.length_append]; omega
      have HP : Hid (Dec.PlainD p.W p.F x = if T.data.toList = [] then [48] else Dec.plainD T.data.toList ((A.size : Int) + x - (((A.size : Int) + (G.size : Int)) - (S.size : Int)))) := by
        show Dec.PlainD p.W p.F x = _
        unfold Dec.PlainD Dec.point
        rw [hTl, size_len A, size_len G, size_len S, hAl, hGl, hSl, List.length_append]
        push_cast
        rfl
      have HTL := hide (trimLeft_any (A ++ G))
      rw [← hS] at HTL
      have HTR := hide (fun w => trimRight_any S w (by omega))
      rw [← hT] at HTR
      rw [← hA, ← hG]
      clear hA hG hAl hGl hL hS hT hSl hTl hAG
      go_wp2_with fail
      refine (unhide HTL _).mono ?_
      rintro r w5 ⟨rfl, hb5⟩
      have hb25 : Below w.heap.size w w5 := hb24.trans (hb5.mono hb24.size)
      clear hb24 hb5
      go_wp2_with fail
      refine (unhide HTR _).mono ?_
      rintro r w6 ⟨rfl, hb6⟩
      have hb26 : Below w.heap.size w w6 := hb25.trans (hb6.mono hb25.size)
      clear hb25 hb6
      by_cases hem : T.data.toList = []
      · have hem' : T.toList.isEmpty = true := by rw [Lib.toList_data, hem]; rfl
        rw [if_pos hem] at HP
        clear hem
        go_wp2
        go_ret2
        exact ⟨by rw [HP.out]; rfl, hb26⟩
      · have hem' : T.toList.isEmpty = false := by
          rw [Lib.toList_data]
          cases hl : T.data.toList with
          | nil => exact absurd hl hem
          | cons _ _ => rfl
        rw [if_neg hem] at HP
        clear hem
        go_wp2_with fail
        refine (plain_any T _ _ (by omega) (by omega) (by omega)).mono ?_
        rintro r w7 ⟨rfl, hb7⟩
        have hb27 : Below w.heap.size w w7 := hb26.trans (hb7.mono hb26.size)
        clear hb26 hb7
        go_wp2
        go_ret2
        exact ⟨by rw [HP.out]; rfl, hb27⟩
end Go.Proofs.Qxb6606170aDoor
