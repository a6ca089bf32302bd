import Derived.Test.Qxb6605907aGreatFmtZt
import Derived.Test.Qxb6605907aGreatFmtZw
import Derived.Test.Qxb6605907aGreatFmtSh
namespace Go.Proofs.Qxb6605907aGreatFmt
open Go.RowKit

theorem zz2_true (a b : ByteArray) (w : World) (h : a.size + b.size ≤ 1048576) :
    Calls Tryz.prog 5 #[.string a, .string b] w fun e w' => e = .returned (.bool true) ∧ w' = w := by
  have h1 : ¬ ((1048576 : Int) < (a.size : Int)) := by omega
  have h2 : ¬ ((1048576 : Int) < (b.size : Int)) := by omega
  have h3 : ¬ ((1048576 : Int) < (a.size : Int) + (b.size : Int)) := by omega
  have h4 : IntKind.i64.wrap ((a.size : Int) + (b.size : Int)) = (a.size : Int) + (b.size : Int) := IntWalk.i64_in _ (by omega)
  go_enter Tryz.func5, Tryz.ntmps5
  go_wp2
  go_ret
  exact ⟨rfl, rfl⟩

theorem zz2_false (a b : ByteArray) (w : World) (h : ¬ (a.size + b.size ≤ 1048576)) :
    Calls Tryz.prog 5 #[.string a, .string b] w fun e w' => e = .returned (.bool false) ∧ w' = w := by
  by_cases h1 : (1048576 : Int) < (a.size : Int)
  · go_enter Tryz.func5, Tryz.ntmps5
    go_wp2
    go_ret
    exact ⟨rfl, rfl⟩
  · by_cases h2 : (1048576 : Int) < (b.size : Int)
    · go_enter Tryz.func5, Tryz.ntmps5
      go_wp2
      go_ret
      exact ⟨rfl, rfl⟩
    · have h3 : (1048576 : Int) < (a.size : Int) + (b.size : Int) := by omega
      have h4 : IntKind.i64.wrap ((a.size : Int) + (b.size : Int)) = (a.size : Int) + (b.size : Int) := IntWalk.i64_in _ (by omega)
      go_enter Tryz.func5, Tryz.ntmps5
      go_wp2
      go_ret
      exact ⟨rfl, rfl⟩

set_option maxRecDepth 100000 in
set_option maxHeartbeats 4000000 in
/-- Parse and the model of the format say the same of every text. -/
theorem format_spec (file t : ByteArray) (w : World) (EV : EnvF w) {ae af : Addr} (ES : EnvS w ae af) :
    Calls Tryz.prog 3 #[.string file, .string t] w fun e w' => e = .returned (.bool true) ∧ Below w.heap.size w w' := by
  by_cases hs : file.size + t.size ≤ 1048576
  · have HB := hide (zz2_true file t w hs)
    have HP := hide (parseText_spec w EV ES file t (by omega))
    have HM := hide (fun w1 => parseModel_spec t w1 (by omega))
    have h3 : ¬ ((1048576 : Int) < (file.size : Int) + (t.size : Int)) := by omega
    have h4 : IntKind.i64.wrap ((file.size : Int) + (t.size : Int)) = (file.size : Int) + (t.size : Int) := IntWalk.i64_in _ (by omega)
    obtain ⟨R, hR⟩ : ∃ R, runL ps0 (Sx.entries 0 (Sx.lines t.data.toList)) = R := ⟨_, rfl⟩
    simp only [hR] at HP HM
    clear hR EV ES
    cases hn : R.2 with
    | none =>
      have HP1 : Hid (Calls Tryz.prog 6 #[.string file, .string t] w fun e w' => ∃ hb, e = .returned (.tuple #[.pointer (some ⟨hb, 0, none⟩), .pointer none, .bool false]) ∧ Below w.heap.size w w' ∧ ∃ wb c, GOk w.heap.size w' hb wb R.1.init R.1.h ∧ HOk R.1.h c ∧ c ≤ 1048578) := by
        refine HP.out.mono ?_
        rintro e w' ⟨h1, ⟨_, hb, wb, c, h3, h4⟩ | ⟨n, eb, s, h2, _⟩⟩
        · exact ⟨hb, h3, h1, wb, c, h4⟩
        · rw [hn] at h2; cases h2
      have HM1 : Hid (∀ w1, Calls Tryz.prog 7 #[.string t] w1 fun e w' => ∃ m, e = .returned (.tuple #[.pointer (some ⟨m, 0, none⟩), .bool true, .int .i64 0]) ∧ Below w1.heap.size w1 w' ∧ ∃ C im wm, MOk w1.heap.size C w' m im wm R.1.init R.1.h) := fun w1 => by
        refine (HM.out w1).mono ?_
        rintro e w' ⟨h1, m, ⟨_, h3, h4⟩ | ⟨n, h2, _⟩⟩
        · exact ⟨m, h3, h1, h4⟩
        · rw [hn] at h2; cases h2
      clear HP HM hn
      go_enter Tryz.func3, Tryz.ntmps3
      go_upto_region 9 with first
        | (go_at_call 5; refine HB.out.mono ?_; rintro e wx ⟨rfl, e1⟩; replace e1 := e1.symm; subst e1)
        | (go_at_call 6; refine HP1.out.mono ?_; rintro e w1 ⟨hb, rfl, hb1, hg⟩; have HG := hide hg; clear hg)
        | (go_at_call 7; refine (HM1.out w1).mono ?_; rintro e w2 ⟨m, rfl, hb2, hm⟩; have HMM := hide hm; clear hm)
      obtain ⟨wb, c, hG, hO, hc⟩ := HG.out
      obtain ⟨C, im, wm, hM⟩ := HMM.out
      have HS := hide (sameHistory_spec w.heap.size w1.heap.size C hb wb m im wm c R.1.init R.1.h w2 (hG.keepT (show KeepsT w.heap.size [] [] w1 w2 from KeepsT.of_below hb2 (Nat.le_refl _)) (by simp) (by simp)) hM hO (by omega))
      have HBB : Hid (Below w.heap.size w w2) := hb1.trans (hb2.mono hb1.size)
      clear hG hO hM hb1 hb2
      go_wp2_with (go_at_call 8; refine HS.out.mono ?_; rintro e w3 ⟨rfl, hb3⟩)
      go_ret
      exact ⟨rfl, HBB.out.trans (hb3.mono HBB.out.size)⟩
    | some n =>
      have HP1 : Hid (Calls Tryz.prog 6 #[.string file, .string t] w fun e w' => ∃ eb, e = .returned (.tuple #[.pointer none, .pointer (some ⟨eb, 0, none⟩), .bool true]) ∧ Below w.heap.size w w' ∧ ∃ s, w'.heap[eb]? = some (.cells #[.string file, .int .i64 (n : Int), .string s] 31 (0, 0))) := by
        refine HP.out.mono ?_
        rintro e w' ⟨h1, ⟨h2, _⟩ | ⟨n', eb, s, h2, h3, h4⟩⟩
        · rw [hn] at h2; cases h2
        · rw [hn] at h2; cases h2
          exact ⟨eb, h3, h1, s, h4⟩
      have HM1 : Hid (∀ w1, Calls Tryz.prog 7 #[.string t] w1 fun e w' => ∃ m, e = .returned (.tuple #[.pointer (some ⟨m, 0, none⟩), .bool false, .int .i64 (n : Int)]) ∧ Below w1.heap.size w1 w') := fun w1 => by
        refine (HM.out w1).mono ?_
        rintro e w' ⟨h1, m, ⟨h2, _⟩ | ⟨n', h2, h3⟩⟩
        · rw [hn] at h2; cases h2
        · rw [hn] at h2; cases h2
          exact ⟨m, h3, h1⟩
      have hself : (file.toList == file.toList) = true := by simp
      clear HP HM hn
      go_enter Tryz.func3, Tryz.ntmps3
      go_upto_region 8 with first
        | (go_at_call 5; refine HB.out.mono ?_; rintro e wx ⟨rfl, e1⟩; replace e1 := e1.symm; subst e1)
        | (go_at_call 6; refine HP1.out.mono ?_; rintro e w1 ⟨eb, rfl, hb1, s, hr⟩)
        | (go_at_call 7; refine (HM1.out w1).mono ?_; rintro e w2 ⟨m, rfl, hb2⟩)
      have hr2 := (hb2.block eb (lt_of_get hr)).trans hr
      have c0 : w2.cell? ⟨eb, 0, none⟩ = some (.string file) := by rw [row_cell hr2]; rfl
      have c1 : w2.cell? ⟨eb, 1, none⟩ = some (.int .i64 (n : Int)) := by rw [row_cell hr2]; rfl
      have HBB : Hid (Below w.heap.size w w2) := hb1.trans (hb2.mono hb1.size)
      clear hr hr2 hb1 hb2
      go_wp2
      go_ret
      exact ⟨rfl, HBB.out⟩
  · have HB := hide (zz2_false file t w hs)
    go_enter Tryz.func3, Tryz.ntmps3
    go_wp2_with (go_at_call 5; refine HB.out.mono ?_; rintro e wx ⟨rfl, e1⟩; replace e1 := e1.symm; subst e1)
    go_ret
    exact ⟨rfl, Below.refl _ _⟩

end Go.Proofs.Qxb6605907aGreatFmt
