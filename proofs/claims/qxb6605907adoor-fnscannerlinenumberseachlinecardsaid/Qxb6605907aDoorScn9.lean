import Derived.Test.Qxb6605907aDoorScn8
namespace Go.Proofs.Qxb6605907aDoor
open Go.RowKit

theorem zzBytes_true (a b : ByteArray) (w : World) (h : a.size + b.size ≤ 1048576) :
    Calls Tryd.prog 5 #[.string a, .string b] w fun e w' => e = .returned (.bool true) ∧ w' = w := by
  have h1 : ¬ ((1048576 : Int) < (a.size : Int)) := by omega
  have h2 : ¬ ((1048576 : Int) < (b.size : Int)) := by omega
  have h3 : ¬ ((1048576 : Int) < (a.size : Int) + (b.size : Int)) := by omega
  have h4 : IntKind.i64.wrap ((a.size : Int) + (b.size : Int)) = (a.size : Int) + (b.size : Int) := IntWalk.i64_in _ (by omega)
  go_enter Tryd.func5, Tryd.ntmps5
  go_wp2
  go_ret
  exact ⟨rfl, rfl⟩

theorem zzBytes_false (a b : ByteArray) (w : World) (h : ¬ (a.size + b.size ≤ 1048576)) :
    Calls Tryd.prog 5 #[.string a, .string b] w fun e w' => e = .returned (.bool false) ∧ w' = w := by
  by_cases h1 : (1048576 : Int) < (a.size : Int)
  · go_enter Tryd.func5, Tryd.ntmps5
    go_wp2
    go_ret
    exact ⟨rfl, rfl⟩
  · by_cases h2 : (1048576 : Int) < (b.size : Int)
    · go_enter Tryd.func5, Tryd.ntmps5
      go_wp2
      go_ret
      exact ⟨rfl, rfl⟩
    · have h3 : (1048576 : Int) < (a.size : Int) + (b.size : Int) := by omega
      have h4 : IntKind.i64.wrap ((a.size : Int) + (b.size : Int)) = (a.size : Int) + (b.size : Int) := IntWalk.i64_in _ (by omega)
      go_enter Tryd.func5, Tryd.ntmps5
      go_wp2
      go_ret
      exact ⟨rfl, rfl⟩

/-- A slice of the call's own, told by its elements. -/
theorem own_slice {w : World} {B e n : Nat} {v : Value} {xs : List Value} (h : w.ownsRow B e 1 v n xs) :
    ∃ fa cap, v = .slice fa n cap ∧ ∀ k, k < n → ∃ g, fa = some ⟨g, 0, none⟩ ∧ B ≤ g ∧ g < w.heap.size ∧ w.cell? ⟨g, k, none⟩ = xs[k]? := by
  rcases h.2 with ⟨rfl, rfl⟩ | ⟨g, cap, cur, rfl, h2, h3, h4, h5, h6, h7⟩
  · exact ⟨none, 0, rfl, fun k hk => absurd hk (Nat.not_lt_zero _)⟩
  · refine ⟨_, _, rfl, fun k hk => ⟨g, rfl, h2, (Array.getElem?_eq_some_iff.1 h3).1, ?_⟩⟩
    rw [row_cell h3, ← Array.getElem?_toList, ← h7, List.getElem?_take, if_pos (by omega)]

set_option maxRecDepth 100000 in
set_option maxHeartbeats 4000000 in
theorem numbers_spec (path t : ByteArray) (ae af : Addr) (w : World)
    (hE : w.cell? ⟨0, 0, none⟩ = some (.iface 100 (.pointer (some ae)))) (hF : w.cell? ⟨1, 0, none⟩ = some (.iface 100 (.pointer (some af)))) (hne : ae ≠ af)
    (hae : ∃ ca ta, w.heap[ae.block]? = some (.cells ca ta (0, 0))) (haf : ∃ ca ta, w.heap[af.block]? = some (.cells ca ta (0, 0))) (tabs : Lib.Utf8Tabs 5 6 w) :
    Calls Tryd.prog 3 #[.string path, .string t] w fun e w' => e = .returned (.bool true) ∧ Below w.heap.size w w' := by
  by_cases hs : path.size + t.size ≤ 1048576
  · have HB := hide (zzBytes_true path t w hs)
    have hs' : ¬ ((1048576 : Int) < (path.size : Int) + (t.size : Int)) := by omega
    have hw : IntKind.i64.wrap ((path.size : Int) + (t.size : Int)) = (path.size : Int) + (t.size : Int) := IntWalk.i64_in _ (by omega)
    have HL := hide (logical_spec t w (by omega))
    have HEN := hide (And.intro hE (And.intro hF (And.intro hae (And.intro haf tabs))))
    clear hE hF hae haf tabs
    go_enter Tryd.func3, Tryd.ntmps3
    go_upto_region 6 with first | (go_at_call 5; refine HB.out.mono ?_; rintro e w ⟨rfl, rfl⟩) | (go_at_call 6; refine HL.out.mono ?_; rintro e w1 ⟨v5, v6, rfl, h5, h6, hb1⟩)
    have HN := hide (newScanner_spec path t w1)
    go_upto_region 7 with (go_at_call 7; refine HN.out.mono ?_; rintro e w2 ⟨q, p, b, s, rfl, hq, hst, hls, hsp, hpb, hbq, hb2⟩)
    obtain ⟨E0, hE0⟩ : ∃ E0, entries 0 (lines t.data.toList) = E0 := ⟨_, rfl⟩
    obtain ⟨tot, htot⟩ : ∃ tot, (lines t.data.toList).length = tot := ⟨_, rfl⟩
    rw [hE0] at h5 h6
    rw [htot]
    have hlen : E0.length ≤ t.size := by
      have h1 := entries_length 0 (lines t.data.toList)
      have h2 := lines_length t.data.toList.length t.data.toList (Nat.le_refl _)
      rw [size_list] at h2
      rw [hE0] at h1
      omega
    obtain ⟨f5, c5, rfl, hf5⟩ := own_slice h5
    obtain ⟨f6, c6, rfl, hf6⟩ := own_slice h6
    have hw1 : w.heap.size ≤ w1.heap.size := hb1.size
    have hw2 : w1.heap.size ≤ w2.heap.size := hb2.size
    have hb12 : Below w.heap.size w w2 := hb1.trans (hb2.mono hw1)
    obtain ⟨hE, hF, ⟨ca, ta, hae⟩, ⟨cf, tf, haf⟩, tabs⟩ := HEN.out
    have lt_of : ∀ {k o : Nat} {v : Value}, w.cell? ⟨k, o, none⟩ = some v → k < w.heap.size := fun {k o v} hc => by
      simp only [World.cell?] at hc
      cases hh : w.heap[k]? with
      | none => simp [hh] at hc
      | some o => exact (Array.getElem?_eq_some_iff.1 hh).1
    have hin : ∀ k, k < w.heap.size → k ∉ [p, b, s, q] := fun k hk => by simp; omega
    have l5 := lt_of (tabs.1 0 (by omega))
    have l6 := lt_of (tabs.2 0 (by omega)).1
    have env : Env p b s q ae af t w2 := {
      ht := by omega
      hpb := by omega
      hps := by omega
      hsb := by omega
      hqp := by omega
      hqb := by omega
      hqs := by omega
      hE := by rw [hb12.cell (lt_of hE)]; exact hE
      hF := by rw [hb12.cell (lt_of hF)]; exact hF
      h0 := hin _ (lt_of hE)
      h1 := hin _ (lt_of hF)
      hne := hne
      hae := ⟨ca, ta, by rw [hb12.block _ (Array.getElem?_eq_some_iff.1 hae).1]; exact hae⟩
      haf := ⟨cf, tf, by rw [hb12.block _ (Array.getElem?_eq_some_iff.1 haf).1]; exact haf⟩
      hae' := hin _ (Array.getElem?_eq_some_iff.1 hae).1
      haf' := hin _ (Array.getElem?_eq_some_iff.1 haf).1
      tabs := ⟨fun c hc => by rw [hb12.cell l5]; exact tabs.1 c hc, fun i hi => ⟨by rw [hb12.cell l6]; exact (tabs.2 i hi).1, by rw [hb12.cell l6]; exact (tabs.2 i hi).2⟩⟩
      h5 := hin _ l5
      h6 := hin _ l6 }
    have hsc0 : Sc q p b s path t 0 0 ⟨#[]⟩ false w2 := ⟨hq, ⟨0, 0, 0, hst, rfl⟩, Nat.zero_le _, Nat.le_refl _, fun h => absurd h (by decide)⟩
    have hbel : ∀ wr, Keeps [p, b, s, q] w2 wr → Below w.heap.size w wr := fun wr k =>
      hb12.trans ⟨k.os, k.tape, k.output, k.size, fun j hj => k.block j (by omega) (hin j hj)⟩
    have hcell : ∀ wr, Keeps [p, b, s, q] w2 wr → ∀ k, k < E0.length → (∃ g, f5 = some ⟨g, 0, none⟩ ∧ wr.cell? ⟨g, k, none⟩ = (eInts E0)[k]?) ∧ (∃ g, f6 = some ⟨g, 0, none⟩ ∧ wr.cell? ⟨g, k, none⟩ = (eStrs E0)[k]?) := by
      intro wr kk k hk
      obtain ⟨g, h1, _, h3, h4⟩ := hf5 k hk
      obtain ⟨g', h1', _, h3', h4'⟩ := hf6 k hk
      have key : ∀ {g0 : Nat} {l : List Value}, g0 < w1.heap.size → w1.cell? ⟨g0, k, none⟩ = l[k]? → k < l.length → wr.cell? ⟨g0, k, none⟩ = l[k]? := fun {g0 l} hg0 hc0 hkl => by
        rw [List.getElem?_eq_getElem hkl] at hc0 ⊢
        exact kk.cell (by simp; omega) (by rw [hb2.cell hg0]; exact hc0)
      exact ⟨⟨g, h1, key h3 h4 (by rw [eInts, List.length_map]; exact hk)⟩, ⟨g', h1', key h3' h4' (by rw [eStrs, List.length_map]; exact hk)⟩⟩
    have ENV := hide env
    have SC0 := hide hsc0
    have BEL := hide hbel
    have CELL := hide hcell
    have HE0 := hide hE0
    have HTOT := hide htot
    clear env hsc0 hbel hcell hE0 htot hE hF hae haf tabs lt_of hin l5 l6 hq hst h5 h6 hf5 hf6 hb1 hb2 hb12 HEN HL HN HB
    go_wp2
    go_loopw [9] (fun v wr => ∃ k pos n text done, k ≤ E0.length ∧ v = .int .i64 (k : Nat) ∧ Sc q p b s path t pos n text done wr ∧ Keeps [p, b, s, q] w2 wr ∧ n + (lines (t.data.toList.drop pos)).length = tot ∧ entries n (lines (t.data.toList.drop pos)) = E0.drop k)
      (fun v _ => E0.length - (intOf v).toNat)
    case atStart => exact ⟨0, 0, 0, _, _, Nat.zero_le _, rfl, SC0.out, Keeps.refl _ _, by rw [List.drop_zero, Nat.zero_add]; exact HTOT.out, by rw [List.drop_zero, List.drop_zero]; exact HE0.out⟩
    case round =>
      obtain ⟨k, pos, n, text, done, hk, rfl, hsc, kp, hln, hen⟩ := hrel
      have HS := hide (scanner_scan q p b s pos n ae af path t text done wr hsc (ENV.out.keeps kp))
      rw [hln, hen] at HS
      have KP := hide kp
      have hkt : (k : Int) ≤ (t.size : Int) := by omega
      clear hsc kp hln hen
      by_cases hlt : k < E0.length
      · have hdr : E0.drop k = E0[k] :: E0.drop (k + 1) := List.drop_eq_getElem_cons hlt
        have HS2 : Hid (Calls Tryd.prog 8 #[.pointer (some ⟨q, 0, none⟩)] wr fun x w' => ∃ pos' done', x = .returned (.bool true) ∧ Sc q p b s path t pos' E0[k].1 ⟨E0[k].2.toArray⟩ done' w' ∧ Keeps [p, b, s, q] wr w' ∧
            E0[k].1 + (lines (t.data.toList.drop pos')).length = tot ∧ entries E0[k].1 (lines (t.data.toList.drop pos')) = E0.drop (k + 1)) := by
          refine HS.out.mono ?_
          rintro x w' ⟨ok, pos', n', text', done', rfl, hsc', kp', hln', hcase⟩
          rcases hcase with ⟨rfl, h⟩ | ⟨_, h, _⟩
          · rw [hdr] at h
            obtain ⟨h1, h2⟩ := List.cons.inj h
            have h3 : E0[k].1 = n' := congrArg Prod.fst h1
            have h5 : E0[k].2 = text'.data.toList := congrArg Prod.snd h1
            have h4 : (⟨E0[k].2.toArray⟩ : ByteArray) = text' := congrArg (fun l => (⟨List.toArray l⟩ : ByteArray)) h5
            refine ⟨pos', done', rfl, ?_, kp', ?_, ?_⟩
            · rw [h3, h4]; exact hsc'
            · rw [h3]; exact hln'
            · rw [h3]; exact h2.symm
          · rw [hdr] at h; exact absurd h (List.cons_ne_nil _ _)
        obtain ⟨m, hm⟩ : ∃ m, E0[k].1 = m := ⟨_, rfl⟩
        obtain ⟨L, hL⟩ : ∃ L : ByteArray, (⟨E0[k].2.toArray⟩ : ByteArray) = L := ⟨_, rfl⟩
        rw [hm, hL] at HS2
        have hk5 : (eInts E0)[k]? = some (.int .i64 (m : Int)) := by rw [eInts, List.getElem?_map, List.getElem?_eq_getElem hlt, ← hm]; rfl
        have hk6 : (eStrs E0)[k]? = some (.string L) := by rw [eStrs, List.getElem?_map, List.getElem?_eq_getElem hlt, ← hL]; rfl
        have HK5 := hide hk5
        have HK6 := hide hk6
        clear hk5 hk6 hdr hm hL HS
        go_upto_region 10 with (go_at_call 8; refine HS2.out.mono ?_; rintro x w3 ⟨pos', done', rfl, hsc', kp', hln', hen'⟩)
        obtain ⟨⟨g5, rfl, hc5⟩, ⟨g6, rfl, hc6⟩⟩ := CELL.out w3 (KP.out.trans kp') k hlt
        rw [HK5.out] at hc5
        rw [HK6.out] at hc6
        have hq3 := hsc'.1
        have HLI : Hid (∀ u, Calls Tryd.prog 9 #[.pointer (some ⟨q, 0, none⟩)] (w3.drewN u) fun e w' => e = .returned (.int .i64 (m : Int)) ∧ w' = w3.drewN u) := fun u => line_spec q p m path L .nilIface done' (w3.drewN u) hq3
        have HTX : Hid (∀ u, Calls Tryd.prog 10 #[.pointer (some ⟨q, 0, none⟩)] (w3.drewN u) fun e w' => e = .returned (.string L) ∧ w' = w3.drewN u) := fun u => text_spec q p m path L .nilIface done' (w3.drewN u) hq3
        have hlt1 : ¬ ((E0.length : Int) ≤ (k : Int)) := by omega
        have hlt2 : decide ((E0.length : Int) ≤ (k : Int)) = false := decide_eq_false hlt1
        have hlt3 : (k : Int) < (E0.length : Int) := by omega
        have HREL := hide (And.intro hsc' (And.intro (KP.out.trans kp') (And.intro hln' hen')))
        clear hsc' kp' hln' hen' hq3 HS2
        go_quiet (first | (go_at_call 9; refine Calls.quiet_of_same (HLI.out _)) | (go_at_call 10; refine Calls.quiet_of_same (HTX.out _)))
        go_wp2
        go_roundw
        case rel =>
          obtain ⟨h1, h2, h3, h4⟩ := HREL.out
          exact ⟨k + 1, pos', m, L, done', hlt, by go_num, h1, h2.drewN _, h3, h4⟩
        case measure => simp [intOf]; omega
      · obtain rfl : k = E0.length := by omega
        have HS2 : Hid (Calls Tryd.prog 8 #[.pointer (some ⟨q, 0, none⟩)] wr fun x w' => ∃ text' done', x = .returned (.bool false) ∧ w'.heap[q]? = some (.cells (scCells path p tot text' .nilIface done') 42 (0, 0)) ∧ Keeps [p, b, s, q] wr w') := by
          refine HS.out.mono ?_
          rintro x w' ⟨ok, pos', n', text', done', rfl, hsc', kp', hln', hcase⟩
          rw [List.drop_length] at hcase
          rcases hcase with ⟨_, h⟩ | ⟨rfl, _, h⟩
          · exact absurd h (by simp)
          · rw [List.drop_eq_nil_of_le (by rw [size_list]; omega)] at hln'
            have : n' = tot := hln'
            subst this
            exact ⟨text', done', rfl, hsc'.1, kp'⟩
        clear HS
        go_upto_region 13 with (go_at_call 8; refine HS2.out.mono ?_; rintro x w3 ⟨text', done', rfl, hq3, kp'⟩)
        have HLI := hide (line_spec q p tot path text' .nilIface done' w3 hq3)
        have HER := hide (err_spec q p tot path text' done' w3 hq3)
        have HBE := hide (BEL.out w3 (KP.out.trans kp'))
        clear hq3 kp' HS2
        go_wp2_with first | (go_at_call 9; refine HLI.out.mono ?_; rintro e w3 ⟨rfl, rfl⟩) | (go_at_call 11; refine HER.out.mono ?_; rintro e w3 ⟨rfl, rfl⟩)
        exact bodyPost_ret (v := .bool true) (by simp [results, Tryd.results3, go_sem]) rfl ⟨rfl, HBE.out⟩
  · have HB := hide (zzBytes_false path t w hs)
    clear hE hF hae haf tabs
    go_enter Tryd.func3, Tryd.ntmps3
    go_wp2_with (go_at_call 5; refine HB.out.mono ?_; rintro e w ⟨rfl, rfl⟩)
    go_ret
    exact ⟨rfl, Below.refl _ _⟩

end Go.Proofs.Qxb6605907aDoor
