import Derived.Test.Qxb6605907aFmtPp0
namespace Go.Proofs.Qxb6605907aFmt
open Go.RowKit

theorem sameErr_ok (file : ByteArray) (line : Int) (w : World) : Calls Tryf.prog 10 #[.pointer none, .bool true, .string file, .int .i64 line] w fun e w' => e = .returned (.bool true) ∧ w' = w := by
  go_enter Tryf.func10, Tryf.ntmps10
  go_wp2
  go_ret
  exact ⟨rfl, rfl⟩

theorem sameErr_bad (eb : Nat) (file s : ByteArray) (line : Int) (w : World) (hr : w.heap[eb]? = some (.cells #[.string file, .int .i64 line, .string s] 60 (0, 0))) :
    Calls Tryf.prog 10 #[.pointer (some ⟨eb, 0, none⟩), .bool false, .string file, .int .i64 line] w fun e w' => e = .returned (.bool true) ∧ w' = w := by
  have c0 : w.cell? ⟨eb, 0, none⟩ = some (.string file) := by rw [row_cell hr]; rfl
  have c1 : w.cell? ⟨eb, 1, none⟩ = some (.int .i64 line) := by rw [row_cell hr]; rfl
  clear hr
  go_enter Tryf.func10, Tryf.ntmps10
  go_wp2
  go_ret
  exact ⟨rfl, rfl⟩

section
variable {B : Nat} {w : World} {pb sc hb mb wb : Nat} {file : ByteArray} {line : Int} {ini st : Bool} {init : List UInt8} {h : HP}

theorem procIndex_spec (p : POk B w pb sc hb mb wb file line ini st init h) (name : List UInt8) (i : Nat) (hi : findP h.procs name = some i) :
    Calls Tryf.prog 11 #[.pointer (some ⟨pb, 0, none⟩), .string (baOf name)] w fun e w' => e = .returned (.tuple #[.int .i64 (i : Int), .bool true]) ∧ w' = w := by
  have c2 : w.cell? ⟨pb, 2, none⟩ = some (.map (some mb)) := by rw [row_cell p.1.prow]; rfl
  have hlk := lookupS (P := Tryf.prog) p.2.1 Tryf.underlying36 Tryf.underlying9 (baOf name) (z := .int .i64 0) Tryf.zeroValue3 true
  rw [idxOf_find, ← findP_names, hi] at hlk
  simp only [Option.map_some, Option.getD_some, Option.isSome_some, Nat.zero_add, if_true] at hlk
  clear p
  go_enter Tryf.func11, Tryf.ntmps11
  go_wp2
  exact bodyPost_ret (v := .tuple #[.int .i64 (i : Int), .bool true]) (by simp [results, Tryf.results11, go_sem]) rfl ⟨rfl, rfl⟩

set_option maxRecDepth 100000 in
theorem procCount_spec (p : POk B w pb sc hb mb wb file line ini st init h) :
    Calls Tryf.prog 12 #[.pointer (some ⟨pb, 0, none⟩)] w fun e w' => e = .returned (.int .i64 (h.procs.length : Int)) ∧ w' = w := by
  have c2 : w.cell? ⟨pb, 2, none⟩ = some (.map (some mb)) := by rw [row_cell p.1.prow]; rfl
  obtain ⟨es, clock, hm, he⟩ := p.2.1
  have hsz : es.size = h.procs.length := by
    have := congrArg List.length he
    rw [List.length_map, List.length_map, idxOf_length, List.length_map] at this
    simpa using this
  have hgo := MapKept.run_getObj_map (P := Tryf.prog) hm
  have hlen : (Builtin.len_ #[36] 3 #[.map (some mb)]).run Tryf.prog w = .ok (.int .i64 (es.size : Int)) w := by
    unfold Builtin.len_
    simp [run_underlying Tryf.underlying36, hgo, goInt]
  rw [← hsz]
  clear p he hsz hm hgo
  go_enter Tryf.func12, Tryf.ntmps12
  go_wp2
  go_ret
  exact ⟨rfl, rfl⟩

theorem started_spec (p : POk B w pb sc hb mb wb file line ini st init h) :
    Calls Tryf.prog 13 #[.pointer (some ⟨pb, 0, none⟩)] w fun e w' => e = .returned (.bool st) ∧ w' = w := by
  have c4 : w.cell? ⟨pb, 4, none⟩ = some (.bool st) := by rw [row_cell p.1.prow]; rfl
  clear p
  go_enter Tryf.func13, Tryf.ntmps13
  go_wp2
  go_ret
  exact ⟨rfl, rfl⟩

theorem parserHistory_spec (p : POk B w pb sc hb mb wb file line ini st init h) :
    Calls Tryf.prog 15 #[.pointer (some ⟨pb, 0, none⟩)] w fun e w' => e = .returned (.pointer (some ⟨hb, 0, none⟩)) ∧ w' = w := by
  have c1 : w.cell? ⟨pb, 1, none⟩ = some (.pointer (some ⟨hb, 0, none⟩)) := by rw [row_cell p.1.prow]; rfl
  clear p
  go_enter Tryf.func15, Tryf.ntmps15
  go_wp2
  go_ret
  exact ⟨rfl, rfl⟩

end
end Go.Proofs.Qxb6605907aFmt
