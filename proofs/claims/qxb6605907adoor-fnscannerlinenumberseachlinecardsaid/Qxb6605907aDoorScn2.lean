import Derived.Test.Qxb6605907aDoorScn1
import Derived.Test.Qxb6605907aDoorScn0
namespace Go.Proofs.Qxb6605907aDoor
open Go.RowKit Go.Extern

theorem isTypeOf (v : Value) (w : World) : (Extern.ReflectliteType.typeOf #[.iface 100 v]).run Tryd.prog w = .ok (.iface 75 (.agg #[.pointer (some ⟨7, 100, none⟩)])) w := by kernel_rfl
theorem isComparable (w : World) : ((Extern.ReflectliteType.method fun t => do Go.Extern.Rtype.noPackHeld "Comparable" t; pure (.bool (← typeInfo t).comparable)) #[.agg #[.pointer (some ⟨7, 100, none⟩)]]).run Tryd.prog w = .ok (.bool true) w := by kernel_rfl
theorem isMethodComparable (v : Value) (w : World) : (Go.method 240 75 v "Comparable").run Tryd.prog w = .ok (78, v) w := by kernel_rfl

set_option maxRecDepth 100000 in
/-- errors.Is(x, x), x a pointer to an errors.errorString. -/
theorem is_same (a : Addr) (w : World) :
    Calls Tryd.prog 18 #[.iface 100 (.pointer (some a)), .iface 100 (.pointer (some a))] w fun e w' => e = .returned (.bool true) ∧ w' = w := by
  obtain ⟨i, hi, hcmp⟩ := Option.map_eq_some_iff.1 (show (Tryd.prog.info? 100).map (·.comparable) = some true by kernel_rfl)
  obtain ⟨j, hj, hjs⟩ := Option.map_eq_some_iff.1 (show (Tryd.prog.info? 125).map (·.size) = some 1 by kernel_rfl)
  have h8 := @run_callFunc_extern Tryd.prog 29 _ Extern.ReflectliteType.typeOf Tryd.func29 (by kernel_rfl) (by kernel_rfl) (by kernel_rfl) (by kernel_rfl)
  have h32 := @run_callFunc_extern Tryd.prog 78 _ (Extern.ReflectliteType.method fun t => do Go.Extern.Rtype.noPackHeld "Comparable" t; pure (.bool (← typeInfo t).comparable)) Tryd.func78 (by kernel_rfl) (by kernel_rfl) (by kernel_rfl) (by kernel_rfl)
  have tT : ∀ v w, (callFunc 29 #[.iface 100 v]).run Tryd.prog w = .ok (.value (.iface 75 (.agg #[.pointer (some ⟨7, 100, none⟩)]))) w := fun v w => by rw [h8, isTypeOf]; rfl
  have cT : ∀ w, (callFunc 78 #[.agg #[.pointer (some ⟨7, 100, none⟩)]]).run Tryd.prog w = .ok (.value (.bool true)) w := fun w => by rw [h32, isComparable]; rfl
  have mR := isMethodComparable
  clear h8 h32
  have heq := run_eql_iface_ptr_same (P := Tryd.prog) w a Tryd.underlying33 Tryd.underlying100 hi hcmp hj
  go_enter Tryd.func18, Tryd.ntmps18
  go_wp2
  refine wp_loop_rounds 1 ?_
  rw [rounds_succ]
  go_wp2
  go_ret
  exact ⟨rfl, rfl⟩

theorem line_spec (q p n : Nat) (path text : ByteArray) (err : Value) (done : Bool) (w : World) (hq : w.heap[q]? = some (.cells (scCells path p n text err done) 42 (0, 0))) :
    Calls Tryd.prog 9 #[.pointer (some ⟨q, 0, none⟩)] w fun e w' => e = .returned (.int .i64 n) ∧ w' = w := by
  have c2 : w.cell? ⟨q, 2, none⟩ = some (.int .i64 (n : Int)) := by rw [row_cell hq]; rfl
  go_enter Tryd.func9, Tryd.ntmps9
  go_wp2
  go_ret
  exact ⟨rfl, rfl⟩

theorem text_spec (q p n : Nat) (path text : ByteArray) (err : Value) (done : Bool) (w : World) (hq : w.heap[q]? = some (.cells (scCells path p n text err done) 42 (0, 0))) :
    Calls Tryd.prog 10 #[.pointer (some ⟨q, 0, none⟩)] w fun e w' => e = .returned (.string text) ∧ w' = w := by
  have c3 : w.cell? ⟨q, 3, none⟩ = some (.string text) := by rw [row_cell hq]; rfl
  go_enter Tryd.func10, Tryd.ntmps10
  go_wp2
  go_ret
  exact ⟨rfl, rfl⟩

theorem err_spec (q p n : Nat) (path text : ByteArray) (done : Bool) (w : World) (hq : w.heap[q]? = some (.cells (scCells path p n text .nilIface done) 42 (0, 0))) :
    Calls Tryd.prog 11 #[.pointer (some ⟨q, 0, none⟩)] w fun e w' => e = .returned .nilIface ∧ w' = w := by
  have c4 : w.cell? ⟨q, 4, none⟩ = some .nilIface := by rw [row_cell hq]; rfl
  go_enter Tryd.func11, Tryd.ntmps11
  go_wp2
  go_ret
  exact ⟨rfl, rfl⟩

theorem isBlank_spec (r : Nat) (w : World) :
    Calls Tryd.prog 22 #[.int .i32 r] w fun e w' => e = .returned (.bool (blankR r)) ∧ w' = w := by
  cases h1 : ((r : Int) == 32) with
  | true =>
    have : blankR r = true := by simp only [blankR, Bool.or_eq_true, beq_iff_eq] at h1 ⊢; omega
    rw [this]
    go_enter Tryd.func22, Tryd.ntmps22
    go_wp2
    go_ret
    exact ⟨rfl, rfl⟩
  | false =>
    have : blankR r = ((r : Int) == 9) := by
      simp only [beq_eq_false_iff_ne] at h1
      rw [Bool.eq_iff_iff]
      simp only [blankR, Bool.or_eq_true, beq_iff_eq]
      omega
    rw [this]
    go_enter Tryd.func22, Tryd.ntmps22
    go_wp2
    go_ret
    exact ⟨rfl, rfl⟩

end Go.Proofs.Qxb6605907aDoor
