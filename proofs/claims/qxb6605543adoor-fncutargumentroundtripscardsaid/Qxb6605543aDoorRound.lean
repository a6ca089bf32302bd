import Derived.Test.Qxb6605543aDoorRows
import Derived.Test.Qxb6605543aDoorCards
import Derived.Test.Qxb6605543aDoorTie
import Derived.Test.Qxb6605543aDoorLaws1
import Derived.ProofKit
import Derived.ChangeMaps5
import Derived.Lay
import Derived.LaidOnce
import Derived.SevenTiedAt
import Derived.Stop.Joined
namespace Go.Proofs.Qxb6605543aDoor
open Go.ChangeShapes Go.WideShapes Go.ChangeAt Go.RowKit
open Go.ChangeMaps (open_string shut_string)

theorem own : ownKnob Tryd.prog.godebug = none := by kernel_rfl

theorem round_law (x t a : ByteArray) (w : World) (hx : x.size ≤ maxLen) (ht : t.size ≤ maxLen) (ha : a.size ≤ maxLen) :
    Calls Tryd.prog 4 #[.string x, .string t, .string a] w fun e w' => e = .returned (.bool true) ∧ Below w.heap.size w w' :=
  roundTrips_any x t a _ w hx ht ha rfl (fun h1 h2 => cuts_rt1 x t _ rfl h1 h2) (fun h1 h2 h3 => cuts_rt2 a t h1 h2 h3)

set_option maxRecDepth 100000 in
theorem round_lifted (os : Os) (started : os.Started) (H : Type) (enc : TypeId × Value → H) :
    ReturnsInHanded {} Tryd.checked os 4 .any (fun w args => (Rows.fnCutArgumentRoundTripsSpec.pre enc Tryd.prog Tryd.f4 [] false w args ∧ laidMetH Tryd.prog Rows.fnCutArgumentRoundTripsRow.laid w) ∧ sizedMet enc Tryd.prog Tryd.f4 (OpenSpec.ofChange Rows.fnCutArgumentRoundTripsSpec) false w args)
      (Rows.fnCutArgumentRoundTripsSpec.post enc Tryd.prog Tryd.f4 false true false false) := by
  refine returnsInHanded_of_change_and (C := Tryd.checked) (X := fun w _ => laidMetH Tryd.prog Rows.fnCutArgumentRoundTripsRow.laid w) (fun _ _ _ hh h => h.of_heap hh) own started (by kernel_rfl) Tryd.func4
    (ChangeSpec.witness_shaped (enc := enc) (C := Tryd.checked) (os := os) (X := fun w _ => laidMetH Tryd.prog Rows.fnCutArgumentRoundTripsRow.laid w) false (World.laidAll Tryd.prog os Rows.fnCutArgumentRoundTripsRow.laid) #[.string ⟨#[]⟩, .string ⟨#[]⟩, .string ⟨#[]⟩] 8 (World.laidAll_os _ _ _)
      (World.shaped_of_ZipB (by kernel_rfl) (by kernel_rfl)) (by kernel_rfl) (by kernel_rfl) (by kernel_rfl)
      (by rw [MakeChecks.laidMetH_plain _ _ _ (by kernel_rfl)]; exact laidMet_laidAll _ (by kernel_rfl) (by kernel_rfl))) ?_
  intro W base args ds gs before hval0 hW _ _ _ _
  have hval : ∀ (j : Nat) t v, Tryd.f4.params[j]? = some t → args[j]? = some v → Value.okWide Tryd.prog W .any base t v := hval0
  have hW' := hW
  obtain ⟨p, q, hA0, hV, rfl, _, _⟩ := hW
  have hA : DataW.TrodAll enc Tryd.prog W 0 (fun _ => true) true Tryd.f4.params.toList args.toList ds p := hA0
  rw [Tryd.params4] at hA hval
  obtain ⟨v0, v1, v2, d0, d1, d2, p0, p1, p2, rfl, rfl, rfl, h0, h1, h2⟩ := trodAll_three hA
  obtain ⟨rfl, rfl⟩ := trodVars_none hV
  obtain ⟨x, rfl, rfl, rfl, hx⟩ := open_string Tryd.underlying9 (hval 0 9 v0 rfl rfl) h0
  obtain ⟨t, rfl, rfl, rfl, ht⟩ := open_string Tryd.underlying9 (hval 1 9 v1 rfl rfl) h1
  obtain ⟨a, rfl, rfl, rfl, ha⟩ := open_string Tryd.underlying9 (hval 2 9 v2 rfl rfl) h2
  clear hA0 hval0
  simp only [List.append_nil] at hW'
  refine (round_law x t a W hx ht ha).mono fun e W' ⟨he, hb⟩ => ?_
  subst he
  exact ⟨_, rfl, _, _, _, [], [], [], hW', trodAll_mk1 (shut_bool Tryd.underlying4 _), trodAll_mk3 (shut_string Tryd.underlying9 hx) (shut_string Tryd.underlying9 ht) (shut_string Tryd.underlying9 ha), rfl, hb.frame _, fun h => by cases h⟩

theorem round_holds : Rows.FnCutArgumentRoundTripsSaid :=
  OpenClaim.holds_of_wide 4 Tryd.f4 rfl rfl rfl rfl rfl rfl rfl ⟨rfl, rfl, rfl, rfl, rfl⟩ rfl rfl rfl rfl rfl (by kernel_rfl) Tryd.func4 (by kernel_rfl)
    (of_decide_eq_true (by kernel_rfl)) (by unfold Func.isWrapper; first | (rw [if_pos (by decide +kernel)]; kernel_rfl) | (rw [if_neg (by decide +kernel)]; exact ⟨rfl, rfl⟩))
    (fun os started H enc _ => round_lifted os started H enc)

theorem round_card : Rows.FnCutArgumentRoundTripsCardSaid :=
  Claim7.holds_tied_plain_at .later [] [.data, .pinned] true (true, "eaa06ce8a3329fcaa65dbf67a1a3ccdc08a5a1086ea611d071884f5d07e2e601") true round_holds (fun _ h => by cases h) (by kernel_rfl) (fun _ h => by cases h) fnCutArgumentRoundTrips_row_tie rfl ⟨rfl, rfl⟩ (by kernel_rfl) rfl
    (fun f fn hf hfn => by
      obtain rfl : f = 4 := Option.some.inj ((show Tryd.prog.funcNamed Rows.fnCutArgumentRoundTripsRow.func = some 4 by kernel_rfl).symm.trans hf) |>.symm
      obtain rfl : fn = Tryd.f4 := (Option.some.inj (Tryd.func4.symm.trans hfn)).symm
      exact ⟨by kernel_rfl, fun j t ht => by
        rw [Tryd.params4] at ht
        have hm : t ∈ [9, 9, 9] := by simpa using Array.mem_of_getElem? ht
        have hall : ([9, 9, 9].all fun u => !Tryd.prog.wantsStandIn u) = true := by kernel_rfl
        exact (show Tryd.prog.wantsStandIn t = false by simpa using List.all_eq_true.1 hall t hm)⟩)
    (by kernel_rfl)
end Go.Proofs.Qxb6605543aDoor
