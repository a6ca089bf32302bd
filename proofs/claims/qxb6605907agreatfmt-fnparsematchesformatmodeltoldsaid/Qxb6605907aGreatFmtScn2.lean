import Derived.Test.Qxb6605907aGreatFmtScn1
import Derived.Test.Qxb6605907aGreatFmtScn0
namespace Go.Proofs.Qxb6605907aGreatFmt.Sx
open Go.RowKit Go.Extern

theorem isTypeOf (v : Value) (w : World) : (Extern.ReflectliteType.typeOf #[.iface 168 v]).run Tryz.prog w = .ok (.iface 151 (.agg #[.pointer (some ⟨12, 168, none⟩)])) w := by kernel_rfl
theorem isComparable (w : World) : ((Extern.ReflectliteType.method fun t => do Go.Extern.Rtype.noPackHeld "Comparable" t; pure (.bool (← typeInfo t).comparable)) #[.agg #[.pointer (some ⟨12, 168, none⟩)]]).run Tryz.prog w = .ok (.bool true) w := by kernel_rfl
theorem isMethodComparable (v : Value) (w : World) : (Go.method 322 151 v "Comparable").run Tryz.prog w = .ok (145, v) w := by kernel_rfl

set_option maxRecDepth 100000 in
/-- errors.Is(x, x), x a pointer to an errors.errorString. -/
theorem is_same (a : Addr) (w : World) :
    Calls Tryz.prog 43 #[.iface 168 (.pointer (some a)), .iface 168 (.pointer (some a))] w fun e w' => e = .returned (.bool true) ∧ w' = w := by
  obtain ⟨i, hi, hcmp⟩ := Option.map_eq_some_iff.1 (show (Tryz.prog.info? 168).map (·.comparable) = some true by kernel_rfl)
  obtain ⟨j, hj, hjs⟩ := Option.map_eq_some_iff.1 (show (Tryz.prog.info? 170).map (·.size) = some 1 by kernel_rfl)
  have h8 := @run_callFunc_extern Tryz.prog 65 _ Extern.ReflectliteType.typeOf Tryz.func65 (by kernel_rfl) (by kernel_rfl) (by kernel_rfl) (by kernel_rfl)
  have h32 := @run_callFunc_extern Tryz.prog 145 _ (Extern.ReflectliteType.method fun t => do Go.Extern.Rtype.noPackHeld "Comparable" t; pure (.bool (← typeInfo t).comparable)) Tryz.func145 (by kernel_rfl) (by kernel_rfl) (by kernel_rfl) (by kernel_rfl)
  have tT : ∀ v w, (callFunc 65 #[.iface 168 v]).run Tryz.prog w = .ok (.value (.iface 151 (.agg #[.pointer (some ⟨12, 168, none⟩)]))) w := fun v w => by rw [h8, isTypeOf]; rfl
  have cT : ∀ w, (callFunc 145 #[.agg #[.pointer (some ⟨12, 168, none⟩)]]).run Tryz.prog w = .ok (.value (.bool true)) w := fun w => by rw [h32, isComparable]; rfl
  have mR := isMethodComparable
  clear h8 h32
  have heq := run_eql_iface_ptr_same (P := Tryz.prog) w a Tryz.underlying48 Tryz.underlying168 hi hcmp hj
  go_enter Tryz.func43, Tryz.ntmps43
  go_wp2
  refine wp_loop_rounds 1 ?_
  rw [rounds_succ]
  go_wp2
  go_ret
  exact ⟨rfl, rfl⟩

theorem text_spec (q p n : Nat) (path text : ByteArray) (err : Value) (done : Bool) (w : World) (hq : w.heap[q]? = some (.cells (scCells path p n text err done) 94 (0, 0))) :
    Calls Tryz.prog 30 #[.pointer (some ⟨q, 0, none⟩)] w fun e w' => e = .returned (.string text) ∧ w' = w := by
  have c3 : w.cell? ⟨q, 3, none⟩ = some (.string text) := by rw [row_cell hq]; rfl
  go_enter Tryz.func30, Tryz.ntmps30
  go_wp2
  go_ret
  exact ⟨rfl, rfl⟩

theorem err_spec (q p n : Nat) (path text : ByteArray) (done : Bool) (w : World) (hq : w.heap[q]? = some (.cells (scCells path p n text .nilIface done) 94 (0, 0))) :
    Calls Tryz.prog 31 #[.pointer (some ⟨q, 0, none⟩)] w fun e w' => e = .returned .nilIface ∧ w' = w := by
  have c4 : w.cell? ⟨q, 4, none⟩ = some .nilIface := by rw [row_cell hq]; rfl
  go_enter Tryz.func31, Tryz.ntmps31
  go_wp2
  go_ret
  exact ⟨rfl, rfl⟩

theorem isBlank_spec (r : Nat) (w : World) :
    Calls Tryz.prog 37 #[.int .i32 r] w fun e w' => e = .returned (.bool (blankR r)) ∧ w' = w := by
  cases h1 : ((r : Int) == 32) with
  | true =>
    have : blankR r = true := by simp only [blankR, Bool.or_eq_true, beq_iff_eq] at h1 ⊢; omega
    rw [this]
    go_enter Tryz.func37, Tryz.ntmps37
    go_wp2
    go_ret
    exact ⟨rfl, rfl⟩
  | false =>
    have : blankR r = ((r : Int) == 9) := by
      simp only [beq_eq_false_iff_ne] at h1
      rw [Bool.eq_iff_iff]
      simp only [blankR, Bool.or_eq_true, beq_iff_eq]
      omega
    rw [this]
    go_enter Tryz.func37, Tryz.ntmps37
    go_wp2
    go_ret
    exact ⟨rfl, rfl⟩

end Go.Proofs.Qxb6605907aGreatFmt.Sx
