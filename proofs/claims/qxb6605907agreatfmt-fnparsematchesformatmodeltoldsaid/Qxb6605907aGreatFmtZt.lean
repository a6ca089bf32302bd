import Derived.Test.Qxb6605907aGreatFmtZq
namespace Go.Proofs.Qxb6605907aGreatFmt
open Go.RowKit

theorem isError (v : Value) (w : World) : (Instr.typeAssert (.iface 24 v) 48 24 true).run Tryz.prog w = .ok (.tuple #[v, .bool true]) w := by kernel_rfl

/-- What ZZParseText answers. -/
def TextOut (W0 : World) (file : ByteArray) (R : PS × Option Nat) (e : Ending) (w' : World) : Prop :=
  Below W0.heap.size W0 w' ∧
  ((R.2 = none ∧ ∃ hb wb c, e = .returned (.tuple #[.pointer (some ⟨hb, 0, none⟩), .pointer none, .bool false]) ∧ GOk W0.heap.size w' hb wb R.1.init R.1.h ∧ HOk R.1.h c ∧ c ≤ 1048578) ∨
   (∃ n eb s, R.2 = some n ∧ e = .returned (.tuple #[.pointer none, .pointer (some ⟨eb, 0, none⟩), .bool true]) ∧ w'.heap[eb]? = some (.cells #[.string file, .int .i64 (n : Int), .string s] 31 (0, 0))))

set_option maxRecDepth 100000 in
theorem parseText_spec (W0 : World) (EV : EnvF W0) {ae af : Addr} (ES : EnvS W0 ae af) (file t : ByteArray) (ht : t.size ≤ 1048577) :
    Calls Tryz.prog 6 #[.string file, .string t] W0 fun e w' => TextOut W0 file (runL ps0 (Sx.entries 0 (Sx.lines t.data.toList))) e w' := by
  have HP := hide (parse_spec W0 EV ES file t ht)
  obtain ⟨R, hR⟩ : ∃ R, runL ps0 (Sx.entries 0 (Sx.lines t.data.toList)) = R := ⟨_, rfl⟩
  rw [hR] at HP ⊢
  clear hR
  have HSR := hide (Sx.strReader_spec t W0)
  have hie := isError
  cases hn : R.2 with
  | none =>
    have HP1 : Hid (Calls Tryz.prog 15 #[.string file, .iface 51 (.pointer (some ⟨W0.heap.size, 0, none⟩))] (W0.alloc (.cells #[.string t, .int .i64 0, .int .i64 (-1)] 87)) fun e w' => ∃ hb, e = .returned (.tuple #[.pointer (some ⟨hb, 0, none⟩), .nilIface]) ∧ Below W0.heap.size W0 w' ∧ ∃ wb c, GOk W0.heap.size w' hb wb R.1.init R.1.h ∧ HOk R.1.h c ∧ c ≤ 1048578) := by
      refine HP.out.mono ?_
      rintro e w' ⟨h1, ⟨_, hb, wb, c, h3, h4⟩ | ⟨n, eb, s, h2, _⟩⟩
      · exact ⟨hb, h3, h1, wb, c, h4⟩
      · rw [hn] at h2; cases h2
    have HNN := hide hn
    clear HP hn hie
    go_enter Tryz.func6, Tryz.ntmps6
    go_wp2_with first
      | (go_at_call 16; refine HSR.out.mono ?_; rintro x w1 ⟨rfl, rfl⟩)
      | (go_at_call 15; refine HP1.out.mono ?_; rintro x w2 ⟨hb, rfl, hb2, h4⟩; have H4 := hide h4; clear h4)
    obtain ⟨wb, c, h4⟩ := H4.out
    exact bodyPost_ret (v := .tuple #[.pointer (some ⟨hb, 0, none⟩), .pointer none, .bool false]) (by simp [results, Tryz.results6, go_sem]) rfl ⟨hb2, Or.inl ⟨HNN.out, hb, wb, c, rfl, h4⟩⟩
  | some n =>
    have HP1 : Hid (Calls Tryz.prog 15 #[.string file, .iface 51 (.pointer (some ⟨W0.heap.size, 0, none⟩))] (W0.alloc (.cells #[.string t, .int .i64 0, .int .i64 (-1)] 87)) fun e w' => ∃ eb, e = .returned (.tuple #[.pointer none, .iface 24 (.pointer (some ⟨eb, 0, none⟩))]) ∧ Below W0.heap.size W0 w' ∧ ∃ s, w'.heap[eb]? = some (.cells #[.string file, .int .i64 (n : Int), .string s] 31 (0, 0))) := by
      refine HP.out.mono ?_
      rintro e w' ⟨h1, ⟨h2, _⟩ | ⟨n', eb, s, h2, h3, h4⟩⟩
      · rw [hn] at h2; cases h2
      · rw [hn] at h2; cases h2
        exact ⟨eb, h3, h1, s, h4⟩
    have HNN := hide hn
    clear HP hn
    go_enter Tryz.func6, Tryz.ntmps6
    go_wp2_with first
      | (go_at_call 16; refine HSR.out.mono ?_; rintro x w1 ⟨rfl, rfl⟩)
      | (go_at_call 15; refine HP1.out.mono ?_; rintro x w2 ⟨eb, rfl, hb2, h4⟩; have H4 := hide h4; clear h4)
    obtain ⟨s, h4⟩ := H4.out
    exact bodyPost_ret (v := .tuple #[.pointer none, .pointer (some ⟨eb, 0, none⟩), .bool true]) (by simp [results, Tryz.results6, go_sem]) rfl ⟨hb2, Or.inr ⟨n, eb, s, HNN.out, rfl, h4⟩⟩

end Go.Proofs.Qxb6605907aGreatFmt
