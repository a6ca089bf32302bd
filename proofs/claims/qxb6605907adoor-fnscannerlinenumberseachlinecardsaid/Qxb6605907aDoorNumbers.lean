import Derived.Test.Qxb6605907aDoorRows
import Derived.Test.Qxb6605907aDoorCards
import Derived.Test.Qxb6605907aDoorTie
import Derived.Test.Qxb6605907aDoorScn9
import Derived.ProofKit
import Derived.ChangeMaps5
import Derived.Lay
import Derived.LaidOnce
import Derived.LaidSub
import Derived.SevenTiedAt
import Derived.Stop.Joined
import Derived.Stop.LaidTwo
import Derived.PinnedBridge
namespace Go.Proofs.Qxb6605907aDoor
open Go.ChangeShapes Go.WideShapes Go.ChangeAt Go.RowKit
open Go.ChangeMaps (open_string shut_string)

theorem own : ownKnob Tryd.prog.godebug = none := by kernel_rfl
theorem star : "*" ++ "errors.errorString" = "*errors.errorString" := by decide
theorem row100 (u : TypeId) (h : Tryd.prog.typeName? 3 u = some "*errors.errorString") : u = 100 :=
  typeName_ptr_named (nm := "errors.errorString") (by rw [star]; kernel_rfl) (by kernel_rfl) (by decide) u (by rw [star]; exact h)
theorem gE : Tryd.prog.globalNamed "io.EOF" = some 0 := by kernel_rfl
theorem gF : Tryd.prog.globalNamed "bufio.ErrBufferFull" = some 1 := by kernel_rfl

/-- What the listed variables give the walk. -/
theorem laid_gives {W : World} (hL : laidMet Tryd.prog Rows.fnScannerLineNumbersEachLineRow.laid W) :
    ∃ ae af : Addr, W.cell? ⟨0, 0, none⟩ = some (.iface 100 (.pointer (some ae))) ∧ W.cell? ⟨1, 0, none⟩ = some (.iface 100 (.pointer (some af))) ∧ ae ≠ af ∧
      (∃ ca ta, W.heap[ae.block]? = some (.cells ca ta (0, 0))) ∧ (∃ ca ta, W.heap[af.block]? = some (.cells ca ta (0, 0))) ∧ Lib.Utf8Tabs 5 6 W := by
  have h2 := hL.filter (fun x => x.1 == "io.EOF" || x.1 == "bufio.ErrBufferFull")
  have e2 : Rows.fnScannerLineNumbersEachLineRow.laid.filter (fun x => x.1 == "io.EOF" || x.1 == "bufio.ErrBufferFull") = [("io.EOF", Rows.laid_io_EOF), ("bufio.ErrBufferFull", Rows.laid_bufio_ErrBufferFull)] := by
    simp [Rows.fnScannerLineNumbersEachLineRow]
  rw [e2] at h2
  obtain ⟨a0, a1, s0, s1, c0, c1, t0, t1, hv0, hv1, _, _, _, _, _, _, hne, hb0, hb1⟩ := laid_sentinels2 h2 gE (by kernel_rfl) gF (by kernel_rfl) Tryd.underlying33 row100 Tryd.underlying100 Tryd.underlying125 rfl rfl Tryd.underlying9 (by kernel_rfl) (by kernel_rfl)
  refine ⟨a0, a1, by simpa using World.var?_cell gE hv0 0, by simpa using World.var?_cell gF hv1 0, hne, ⟨c0, t0, hb0⟩, ⟨c1, t1, hb1⟩, ?_⟩
  exact utf8Tabs_of_reads { Tryd.lays237 with } ⟨by kernel_rfl, by kernel_rfl, by kernel_rfl, by kernel_rfl, by kernel_rfl, by kernel_rfl, by kernel_rfl⟩
    (by rw [← Pinned.utf8First_eq]; exact Lib.laidMet.reads hL (.tail _ (.tail _ (.tail _ (.tail _ (.tail _ (.head _))))))) (Lib.laidMet.reads hL (.head _))

set_option maxRecDepth 100000 in
theorem numbers_lifted (os : Os) (started : os.Started) (H : Type) (enc : TypeId × Value → H) :
    ReturnsInHanded {} Tryd.checked os 3 .any (fun w args => (Rows.fnScannerLineNumbersEachLineSpec.pre enc Tryd.prog Tryd.f3 [] false w args ∧ laidMetH Tryd.prog Rows.fnScannerLineNumbersEachLineRow.laid w) ∧ sizedMet enc Tryd.prog Tryd.f3 (OpenSpec.ofChange Rows.fnScannerLineNumbersEachLineSpec) false w args)
      (Rows.fnScannerLineNumbersEachLineSpec.post enc Tryd.prog Tryd.f3 false true false false) := by
  refine returnsInHanded_of_change_and (C := Tryd.checked) (X := fun w _ => laidMetH Tryd.prog Rows.fnScannerLineNumbersEachLineRow.laid w) (fun _ _ _ hh h => h.of_heap hh) own started (by kernel_rfl) Tryd.func3
    (ChangeSpec.witness_shaped (enc := enc) (C := Tryd.checked) (os := os) (X := fun w _ => laidMetH Tryd.prog Rows.fnScannerLineNumbersEachLineRow.laid w) false (World.laidAll Tryd.prog os Rows.fnScannerLineNumbersEachLineRow.laid) #[.string ⟨#[]⟩, .string ⟨#[]⟩] 8 (World.laidAll_os _ _ _)
      (World.shaped_of_ZipB (by kernel_rfl) (by kernel_rfl)) (by kernel_rfl) (by kernel_rfl) (by kernel_rfl)
      (by rw [MakeChecks.laidMetH_plain _ _ _ (by kernel_rfl)]; exact laidMet_laidAll _ (by kernel_rfl) (by kernel_rfl))) ?_
  intro W base args ds gs before hval0 hW _ _ hX _
  have hL : laidMet Tryd.prog Rows.fnScannerLineNumbersEachLineRow.laid W := by
    rw [MakeChecks.laidMetH_plain _ _ _ (by kernel_rfl)] at hX; exact hX
  have hval : ∀ (j : Nat) t v, Tryd.f3.params[j]? = some t → args[j]? = some v → Value.okWide Tryd.prog W .any base t v := hval0
  have hW' := hW
  obtain ⟨p, q, hA0, hV, rfl, _, _⟩ := hW
  have hA : DataW.TrodAll enc Tryd.prog W 0 (fun _ => true) true Tryd.f3.params.toList args.toList ds p := hA0
  rw [Tryd.params3] at hA hval
  obtain ⟨v0, v1, d0, d1, p0, p1, rfl, rfl, rfl, h0, h1⟩ := trodAll_two hA
  obtain ⟨rfl, rfl⟩ := trodVars_none hV
  obtain ⟨s, rfl, rfl, rfl, hs⟩ := open_string Tryd.underlying9 (hval 0 9 v0 rfl rfl) h0
  obtain ⟨t, rfl, rfl, rfl, ht⟩ := open_string Tryd.underlying9 (hval 1 9 v1 rfl rfl) h1
  clear hA0 hval0
  simp only [List.append_nil] at hW'
  obtain ⟨ae, af, hE, hF, hne, hae, haf, tabs⟩ := laid_gives hL
  refine (numbers_spec s t ae af W hE hF hne hae haf tabs).mono fun e W' ⟨he, hb⟩ => ?_
  subst he
  exact ⟨_, rfl, _, _, _, [], [], [], hW', trodAll_mk1 (shut_bool Tryd.underlying4 _), trodAll_mk2 (shut_string Tryd.underlying9 hs) (shut_string Tryd.underlying9 ht), rfl, hb.frame _, fun h => by cases h⟩

theorem numbers_holds : Rows.FnScannerLineNumbersEachLineSaid :=
  OpenClaim.holds_of_wide 3 Tryd.f3 rfl rfl rfl rfl rfl rfl rfl ⟨rfl, rfl, rfl, rfl, rfl⟩ rfl rfl rfl rfl rfl (by kernel_rfl) Tryd.func3 (by kernel_rfl)
    (of_decide_eq_true (by kernel_rfl)) (by unfold Func.isWrapper; first | (rw [if_pos (by decide +kernel)]; kernel_rfl) | (rw [if_neg (by decide +kernel)]; exact ⟨rfl, rfl⟩))
    (fun os started H enc _ => numbers_lifted os started H enc)

theorem numbers_card : Rows.FnScannerLineNumbersEachLineCardSaid :=
  Claim7.holds_tied_plain_at .later [] [.data, .sentinel, .sentinel, .sentinel, .sentinel, .pinned] true (true, "bd4567303020b5dc20367e88321782766c13a4dc6cde232123da0aa425d05070") true numbers_holds (fun _ h => by cases h) (by kernel_rfl) (fun _ h => by cases h) fnScannerLineNumbersEachLine_row_tie rfl ⟨rfl, rfl⟩ (by kernel_rfl) rfl
    (fun f fn hf hfn => by
      obtain rfl : f = 3 := Option.some.inj ((show Tryd.prog.funcNamed Rows.fnScannerLineNumbersEachLineRow.func = some 3 by kernel_rfl).symm.trans hf) |>.symm
      obtain rfl : fn = Tryd.f3 := (Option.some.inj (Tryd.func3.symm.trans hfn)).symm
      exact ⟨by kernel_rfl, fun j t ht => by
        rw [Tryd.params3] at ht
        have hm : t ∈ [9, 9] := by simpa using Array.mem_of_getElem? ht
        have hall : ([9, 9].all fun u => !Tryd.prog.wantsStandIn u) = true := by kernel_rfl
        exact (show Tryd.prog.wantsStandIn t = false by simpa using List.all_eq_true.1 hall t hm)⟩)
    (by kernel_rfl)
end Go.Proofs.Qxb6605907aDoor
