import Derived.Test.Qxb6606170aDoorPlain
/-! The exponent, as a plain function of its digits. -/
namespace Go.Proofs.Qxb6606170aDoor.Dec

def val (l : List UInt8) : Nat := l.foldl (fun v c => v * 10 + (c.toNat - 48)) 0
theorem val_snoc (l : List UInt8) (c : UInt8) : val (l ++ [c]) = val l * 10 + (c.toNat - 48) := by simp [val]
theorem val_append_ge (a : List UInt8) : ∀ b : List UInt8, val a * 10 ^ b.length ≤ val (a ++ b) := by
  intro b
  induction b generalizing a with
  | nil => simp
  | cons c r ih =>
    have h := ih (a ++ [c])
    rw [List.append_assoc] at h
    have h2 : val a * 10 ≤ val (a ++ [c]) := by rw [val_snoc]; omega
    calc val a * 10 ^ (r.length + 1) = val a * 10 * 10 ^ r.length := by rw [Nat.pow_succ]; rw [Nat.mul_assoc, Nat.mul_comm 10]
      _ ≤ val (a ++ [c]) * 10 ^ r.length := Nat.mul_le_mul_right _ h2
      _ ≤ val (a ++ ([c] ++ r)) := h
theorem val_mono (a b : List UInt8) : val a ≤ val (a ++ b) := by
  have h := val_append_ge a b
  have : val a * 1 ≤ val a * 10 ^ b.length := Nat.mul_le_mul_left _ (Nat.one_le_pow _ _ (by decide))
  omega
def AllD (l : List UInt8) : Prop := ∀ c, c ∈ l → isD c = true
theorem isD_iff (c : UInt8) : isD c = true ↔ 48 ≤ c.toNat ∧ c.toNat ≤ 57 := by simp [isD]
theorem val_lt : ∀ (n : Nat) (l : List UInt8), l.length ≤ n → AllD l → val l < 10 ^ l.length
  | 0, l, h, _ => by
    have : l = [] := List.length_eq_zero_iff.1 (by omega)
    subst this; decide
  | n + 1, l, h, hd => by
    rcases List.eq_nil_or_concat l with rfl | ⟨r, c, hr⟩
    · decide
    · rw [List.concat_eq_append] at hr
      subst hr
      have ih := val_lt n r (by simp at h; omega) (fun d hd' => hd d (by simp [hd']))
      have hc := (isD_iff c).1 (hd c (by simp))
      rw [val_snoc, List.length_append]
      simp only [List.length_cons, List.length_nil, Nat.zero_add, Nat.pow_succ]
      omega
theorem val_big (c : UInt8) (r : List UInt8) (hc : isD c = true) (h48 : c ≠ 48) (hr : 4 ≤ r.length) : 1000 < val (c :: r) := by
  have h1 := (isD_iff c).1 hc
  have h2 : c.toNat ≠ 48 := fun e => h48 (UInt8.toNat_inj.1 e)
  have h := val_append_ge [c] r
  have h3 : val [c] = c.toNat - 48 := by simp [val]
  rw [h3] at h
  have h4 : 10 ^ 4 ≤ 10 ^ r.length := Nat.pow_le_pow_right (by decide) hr
  have h5 : 1 * 10 ^ r.length ≤ (c.toNat - 48) * 10 ^ r.length := Nat.mul_le_mul_right _ (by omega)
  have : (10 : Nat) ^ 4 = 10000 := by decide
  simp only [List.singleton_append] at h
  omega

def expOk (l : List UInt8) : Bool := decide (val (cutZ l) ≤ 1000)
def expV (neg : Bool) (l : List UInt8) : Int := if expOk l then (if neg then -(val (cutZ l) : Int) else (val (cutZ l) : Int)) else 0

theorem cutZ_mem (l : List UInt8) (c : UInt8) (h : c ∈ cutZ l) : c ∈ l := by
  rw [cutZ_eq] at h
  exact (List.dropWhile_sublist _).subset h
theorem cutZ_head (l : List UInt8) (c : UInt8) (r : List UInt8) (h : cutZ l = c :: r) : c ≠ 48 := by
  obtain ⟨n, _, g2⟩ := dropWhile_split l
  rw [← cutZ_eq] at g2
  exact g2 c r h
theorem expOk_long (l : List UInt8) (hd : AllD l) (h : 5 ≤ (cutZ l).length) : expOk l = false := by
  unfold expOk
  cases hc : cutZ l with
  | nil => rw [hc] at h; simp at h
  | cons c r =>
    rw [hc] at h
    have := val_big c r (hd c (cutZ_mem l c (by rw [hc]; simp))) (cutZ_head l c r hc) (by simp at h; omega)
    exact decide_eq_false (by omega)
theorem expV_le (neg : Bool) (l : List UInt8) : -1000 ≤ expV neg l ∧ expV neg l ≤ 1000 := by
  unfold expV
  split
  · rename_i h
    have : val (cutZ l) ≤ 1000 := by simpa [expOk] using h
    split <;> omega
  · omega
end Go.Proofs.Qxb6606170aDoor.Dec
