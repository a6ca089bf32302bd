import Derived.Test.Qxb6606170aDoorWalks10
import Derived.Test.Qxb6606170aDoorLaw1
namespace Go.Proofs.Qxb6606170aDoor
open Go.RowKit Go.Shelf

/-- What the model says of an unsigned literal, and whether it takes the exponent. -/
def valS (b : ByteArray) : ByteArray := modelS (b.extract 0 (i1 b)).data.toList (fracA b).data.toList (negB b) (expA b).data.toList
def okB (b : ByteArray) : Bool := Dec.expOk (expA b).data.toList
def outB (b : ByteArray) : Bool := good true b && okB b
def outS (neg : Bool) (b : ByteArray) : ByteArray := if outB b then (if neg then negS (valS b) else valS b) else ⟨#[]⟩

theorem at_zero (R b : ByteArray) (k : Nat) (h : R.data.toList = b.data.toList.drop k) : at? R 0 = at? b k := by
  unfold at?; rw [h, List.getElem?_drop]; rfl
theorem size_drop (R b : ByteArray) (k : Nat) (h : R.data.toList = b.data.toList.drop k) : R.size = b.size - k := by
  rw [size_len, h, List.length_drop, ← size_len]
theorem empty_of (R : ByteArray) (h : R.size = 0) : R.toList.isEmpty = true := by
  rw [Lib.toList_data, List.isEmpty_iff, ← List.length_eq_zero_iff, ← size_len]; exact h
theorem nonempty_of (R : ByteArray) (h : 0 < R.size) : R.toList.isEmpty = false := by
  rw [Lib.toList_data]
  cases hl : R.data.toList with
  | nil => rw [size_len, hl] at h; cases h
  | cons _ _ => rfl
theorem rst_drop (s : ByteArray) (i : Nat) : Dec.rst (s.data.toList.drop i) = s.data.toList.drop (sc s i) := by
  unfold sc
  rw [← List.drop_drop, drop_dig]
theorem tail_of (R b : ByteArray) (k : Nat) (h : R.data.toList = b.data.toList.drop k) : (R.extract 1 R.size).data.toList = b.data.toList.drop (k + 1) := by
  rw [ext_to_end, ba_data, h, List.drop_drop]
theorem prefix_is (R : ByteArray) (c : UInt8) : Lib.hasPrefix R.data.toList [c] = (at? R 0 == some c) := by
  rw [hasPrefix_at]
  unfold at?
  cases R.data.toList <;> rfl

theorem out_bad (neg : Bool) (b : ByteArray) (h : good true b = false) : outS neg b = ⟨#[]⟩ ∧ outB b = false := by
  have : outB b = false := by unfold outB; rw [h]; rfl
  exact ⟨by unfold outS; rw [this]; rfl, this⟩

/-- 'Plain' at a literal that is read whole. -/
theorem Plain_val (b : ByteArray) (w : World) (hg : i3 b = b.size) (hs : b.size ≤ 65536) :
    Calls Tryd.prog 10 #[.string b] w fun r w' => r = .returned (.tuple #[.string (valS b), .bool (okB b)]) ∧ Below w.heap.size w w' := by
  obtain ⟨p, hp, ht, hW, hF, hn, hD⟩ := lit_of b hg
  have := Plain_any b p w hp ht hs
  rw [← model_is_plain, hW, hF, hn, hD] at this
  exact this

theorem fmt_head (d : List UInt8) (e : Int) (hd : Dec.AllD d) : Lib.hasPrefix (Dec.fmtD d e) [45] = false := by
  have key : ∀ c r, Dec.isD c = true → Lib.hasPrefix (c :: r) [45] = false := fun c r hc => by
    rw [hasPrefix_at, List.head?_cons]
    refine beq_eq_false_iff_ne.2 (fun e => ?_)
    rw [Option.some.inj e] at hc
    revert hc; decide
  have hcut : ∀ c, c ∈ Dec.cutZ d → Dec.isD c = true := fun c hc => hd c (Dec.cutZ_mem _ _ hc)
  have hap : ∀ a r : List UInt8, a ≠ [] → (∀ c, c ∈ a → Dec.isD c = true) → Lib.hasPrefix (a ++ r) [45] = false := fun a r ha h => by
    cases a with
    | nil => exact absurd rfl ha
    | cons c a => exact key c (a ++ r) (h c (by simp))
  have hip : ∀ n, Dec.cutZ d ≠ [] → Dec.fmtIp (Dec.cutZ d) n ≠ [] ∧ ∀ c, c ∈ Dec.fmtIp (Dec.cutZ d) n → Dec.isD c = true := fun n hne => by
    unfold Dec.fmtIp
    split
    · rename_i h
      refine ⟨fun h2 => ?_, fun c hc => hcut c (List.mem_of_mem_take hc)⟩
      have := congrArg List.length h2
      rw [List.length_take] at this
      simp at this; omega
    · exact ⟨by simp, fun c hc => by rw [List.mem_singleton] at hc; subst hc; decide⟩
  unfold Dec.fmtD
  split
  · decide
  · rename_i hne
    split
    · exact hap _ _ hne hcut
    · split
      · have := hip (-e).toNat hne
        have h2 := hap _ [] this.1 this.2
        rw [List.append_nil] at h2
        exact h2
      · have := hip (-e).toNat hne
        rw [List.append_assoc]
        exact hap _ _ this.1 this.2

theorem val_head (b : ByteArray) (hg : i3 b = b.size) : Lib.hasPrefix (valS b).data.toList [45] = false := by
  obtain ⟨p, hp, ht, hW, hF, hn, hD⟩ := lit_of b hg
  unfold valS modelS
  split
  · rw [ba_data, ← hW, ← hF]
    refine fmt_head _ _ (fun c hc => ?_)
    rcases List.mem_append.1 hc with h | h
    · exact hp.w c h
    · exact hp.f c h
  · rfl

theorem trimZ_len (l : List UInt8) : (Dec.trimZ l).length ≤ l.length := by
  obtain ⟨t, h1, _⟩ := Dec.trimZ_split l
  conv => rhs; rw [h1]
  rw [List.length_append]; omega
theorem cutZ_len (l : List UInt8) : (Dec.cutZ l).length ≤ l.length := by
  rw [Dec.cutZ_eq]; exact (List.dropWhile_sublist _).length_le
theorem fmt_len (d : List UInt8) (e : Int) (hd : d.length ≤ 131072) (h1 : -131072 ≤ e) (h2 : e ≤ 1000) : (Dec.fmtD d e).length ≤ 1000000 := by
  have hc := cutZ_len d
  have hip : ∀ n, (Dec.fmtIp (Dec.cutZ d) n).length ≤ 131073 := fun n => by
    unfold Dec.fmtIp
    split
    · have := List.length_take_le ((Dec.cutZ d).length - n) (Dec.cutZ d); rw [List.length_take]; omega
    · simp
  have hfp : (Dec.trimZ (Dec.fmtFp (Dec.cutZ d) (-e).toNat)).length ≤ 262144 := by
    refine Nat.le_trans (trimZ_len _) ?_
    unfold Dec.fmtFp
    split
    · rw [List.length_drop]; omega
    · rw [List.length_append, Dec.zs_len]; omega
  unfold Dec.fmtD
  split
  · simp
  · split
    · rw [List.length_append, Dec.zs_len]; omega
    · split
      · have := hip (-e).toNat; omega
      · have := hip (-e).toNat
        rw [List.length_append, List.length_append]; simp; omega

theorem val_size (b : ByteArray) (hs : b.size ≤ 65536) : (valS b).size ≤ 1000000 := by
  unfold valS modelS
  split
  · rw [ba_size]
    have hv := Dec.expV_le (negB b) (expA b).data.toList
    have h1 : (b.extract 0 (i1 b)).data.toList.length ≤ 65536 := by rw [ext_data, List.length_take, List.length_drop, ← size_len]; omega
    have h2 : (fracA b).data.toList.length ≤ 65536 := by
      unfold fracA
      split
      · rw [ext_data, List.length_take, List.length_drop, ← size_len]; omega
      · decide
    exact fmt_len _ _ (by rw [List.length_append]; omega) (by omega) (by omega)
  · decide
end Go.Proofs.Qxb6606170aDoor
