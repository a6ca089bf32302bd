import Derived.Test.Qxb6605907aFmtRows
import Derived.Test.Qxb6605907aFmtCards
import Derived.Test.Qxb6605907aFmtTie
import Derived.Test.Qxb6605907aFmtLw1
import Derived.ProofKit
import Derived.ChangeMaps5
import Derived.Carry
import Derived.OpenShut
import Derived.Lay
import Derived.LaidOnce
import Derived.LaidSub
import Derived.SevenTiedAt
import Derived.Stop.Joined
import Derived.Stop.JoinedTold
import Derived.Stop.LaidTwo
import Derived.PinnedBridge
import Derived.Shelf.Vars
namespace Go.Proofs.Qxb6605907aFmt
open Go.ChangeShapes Go.WideShapes Go.ChangeAt Go.RowKit
open Go.ChangeMaps (open_string shut_string)

theorem own : ownKnob Tryf.prog.godebug = none := by kernel_rfl

/-- What the listed variables and the world's shape give the walk. -/
theorem laid_gives {W : World} (hs : W.ShapedOpen Tryf.prog) (hL : laidMet Tryf.prog Rows.fnParseProcMatchesModelRow.laid W) : EnvF W := by
  refine ⟨cell_of_shapedOpen_int (zero := #[.int .i64 0]) (t := 3) hs (by decide +kernel) (by kernel_rfl) rfl (by kernel_rfl) (by kernel_rfl) Tryf.underlying3, ?_, Lib.goPrintTabs, ?_⟩
  · exact utf8Tabs_of_reads (ρ := Tryf.lays177_ren) { Tryf.lays177 with } ⟨by kernel_rfl, by kernel_rfl, by kernel_rfl, by kernel_rfl, by kernel_rfl, by kernel_rfl, by kernel_rfl⟩
      (by rw [← Pinned.utf8First_eq]; exact Lib.laidMet.reads hL (.tail _ (.tail _ (.tail _ (.tail _ (.tail _ (.tail _ (.head _)))))))) (Lib.laidMet.reads hL (.head _))
  · exact printTabs_of_reads (ρ := Tryf.lays177_ren) { Tryf.lays177 with } ⟨by kernel_rfl, by kernel_rfl, by kernel_rfl, by kernel_rfl, by kernel_rfl, by kernel_rfl, by kernel_rfl, by kernel_rfl, by kernel_rfl, by kernel_rfl⟩
      (by rw [← Pinned.isPrint16_eq]; exact Lib.laidMet.reads hL (.tail _ (.tail _ (.tail _ (.tail _ (.head _))))))
      (by rw [← Pinned.isNotPrint16_eq]; exact Lib.laidMet.reads hL (.tail _ (.tail _ (.head _))))
      (by rw [← Pinned.isPrint32_eq]; exact Lib.laidMet.reads hL (.tail _ (.tail _ (.tail _ (.tail _ (.tail _ (.head _)))))))
      (by rw [← Pinned.isNotPrint32_eq]; exact Lib.laidMet.reads hL (.tail _ (.tail _ (.tail _ (.head _)))))

theorem trodAll_six {H : Type} {enc : TypeId × Value → H} {P : Program} {w : World} {base : Nat} {spare : Nat → Bool} {held : Bool} {t1 t2 t3 t4 t5 t6 : TypeId} {args : Array Value} {ds : List (DataW H)} {ps : List MemPlace}
    (h : DataW.TrodAll enc P w base spare held [t1, t2, t3, t4, t5, t6] args.toList ds ps) :
    ∃ v1 v2 v3 v4 v5 v6 d1 d2 d3 d4 d5 d6 p1 p2 p3 p4 p5 p6, args = #[v1, v2, v3, v4, v5, v6] ∧ ds = [d1, d2, d3, d4, d5, d6] ∧ ps = p1 ++ (p2 ++ (p3 ++ (p4 ++ (p5 ++ (p6 ++ []))))) ∧
      DataW.Trod enc P w base spare held t1 v1 d1 p1 ∧ DataW.Trod enc P w base spare held t2 v2 d2 p2 ∧ DataW.Trod enc P w base spare held t3 v3 d3 p3 ∧ DataW.Trod enc P w base spare held t4 v4 d4 p4 ∧ DataW.Trod enc P w base spare held t5 v5 d5 p5 ∧ DataW.Trod enc P w base spare held t6 v6 d6 p6 := by
  obtain ⟨v1, r1, d1, e1, p1, q1, ha1, rfl, rfl, h1, k1⟩ := trodAll_cons h
  obtain ⟨v2, r2, d2, e2, p2, q2, rfl, rfl, rfl, h2, k2⟩ := trodAll_cons k1
  obtain ⟨v3, r3, d3, e3, p3, q3, rfl, rfl, rfl, h3, k3⟩ := trodAll_cons k2
  obtain ⟨v4, r4, d4, e4, p4, q4, rfl, rfl, rfl, h4, k4⟩ := trodAll_cons k3
  obtain ⟨v5, r5, d5, e5, p5, q5, rfl, rfl, rfl, h5, k5⟩ := trodAll_cons k4
  obtain ⟨v6, r6, d6, e6, p6, q6, rfl, rfl, rfl, h6, k6⟩ := trodAll_cons k5
  obtain ⟨rfl, rfl, rfl⟩ := trodAll_nil k6
  exact ⟨v1, v2, v3, v4, v5, v6, d1, d2, d3, d4, d5, d6, p1, p2, p3, p4, p5, p6, by rw [← Array.toArray_toList (xs := args), ha1], rfl, rfl, h1, h2, h3, h4, h5, h6⟩

set_option maxRecDepth 100000 in
theorem six_open {H : Type} {enc : TypeId × Value → H} {W : World} {base : Nat} {args : Array Value} {ds : List (DataW H)} {p : List MemPlace}
    (hval : ∀ (j : Nat) t v, (#[9, 9, 9, 9, 9, 9] : Array TypeId)[j]? = some t → args[j]? = some v → Value.okWide Tryf.prog W .any base t v)
    (hA : DataW.TrodAll enc Tryf.prog W 0 (fun _ => true) true [9, 9, 9, 9, 9, 9] args.toList ds p) :
    ∃ a b c d e f : ByteArray, args = #[.string a, .string b, .string c, .string d, .string e, .string f] ∧ p = [] ∧
      ds = [.lit (.string a.data.toList), .lit (.string b.data.toList), .lit (.string c.data.toList), .lit (.string d.data.toList), .lit (.string e.data.toList), .lit (.string f.data.toList)] ∧
      ∀ (W' : World) (sp : Nat → Bool) (held : Bool), DataW.TrodAll enc Tryf.prog W' 0 sp held [9, 9, 9, 9, 9, 9] [.string a, .string b, .string c, .string d, .string e, .string f] ds [] := by
  obtain ⟨v1, v2, v3, v4, v5, v6, d1, d2, d3, d4, d5, d6, p1, p2, p3, p4, p5, p6, rfl, rfl, rfl, h1, h2, h3, h4, h5, h6⟩ := trodAll_six hA
  obtain ⟨a, rfl, rfl, rfl, ha⟩ := open_string Tryf.underlying9 (hval 0 9 v1 rfl rfl) h1
  obtain ⟨b, rfl, rfl, rfl, hb⟩ := open_string Tryf.underlying9 (hval 1 9 v2 rfl rfl) h2
  obtain ⟨c, rfl, rfl, rfl, hc⟩ := open_string Tryf.underlying9 (hval 2 9 v3 rfl rfl) h3
  obtain ⟨d, rfl, rfl, rfl, hd⟩ := open_string Tryf.underlying9 (hval 3 9 v4 rfl rfl) h4
  obtain ⟨e, rfl, rfl, rfl, he⟩ := open_string Tryf.underlying9 (hval 4 9 v5 rfl rfl) h5
  obtain ⟨f, rfl, rfl, rfl, hf⟩ := open_string Tryf.underlying9 (hval 5 9 v6 rfl rfl) h6
  refine ⟨a, b, c, d, e, f, rfl, rfl, rfl, fun W' sp held => ?_⟩
  have k2 := trodAll_mk2 (shut_string (enc := enc) (w := W') (base := 0) (sp := sp) (held := held) Tryf.underlying9 he) (shut_string (enc := enc) (w := W') (base := 0) (sp := sp) (held := held) Tryf.underlying9 hf)
  exact trodAll_cons_mk (shut_string Tryf.underlying9 ha) (trodAll_cons_mk (shut_string Tryf.underlying9 hb) (trodAll_cons_mk (shut_string Tryf.underlying9 hc) (trodAll_cons_mk (shut_string Tryf.underlying9 hd) k2)))

abbrev args0 : Array Value := #[.string ⟨#[]⟩, .string ⟨#[]⟩, .string ⟨#[]⟩, .string ⟨#[]⟩, .string ⟨#[]⟩, .string ⟨#[]⟩]
noncomputable abbrev world0 (os : Os) : World := World.laidAll Tryf.prog os Rows.fnParseProcMatchesModelRow.laid
set_option maxRecDepth 100000 in
theorem wit_shaped (os : Os) : ((world0 os).forCall (fun _ _ => 0) ⟨#[], args0, []⟩).Shaped Tryf.prog := World.shaped_of_ZipB (by kernel_rfl) (by kernel_rfl)
set_option maxRecDepth 100000 in
theorem wit_ok (os : Os) : Input.okWideB Tryf.prog ((world0 os).forCall (fun _ _ => 0) ⟨#[], args0, []⟩) 3 ⟨#[], args0, []⟩ = true := by kernel_rfl
set_option maxRecDepth 100000 in
theorem wit_pre (os : Os) {H : Type} (enc : TypeId × Value → H) : (OpenSpec.ofChange Rows.fnParseProcMatchesModelSpec).preRow enc Tryf.prog Tryf.f3 [] false Rows.fnParseProcMatchesModelRow.laid ((world0 os).forCall (fun _ _ => 0) ⟨#[], args0, []⟩).memory args0 :=
  OpenSpec.preRow_of_B rfl 8 (by kernel_rfl) (by kernel_rfl) (by rw [MakeChecks.laidMetH_plain _ _ _ (by kernel_rfl)]; exact laidMet_laidAll _ (by kernel_rfl) (by kernel_rfl))
theorem wit_gen {H : Type} {enc : TypeId × Value → H} {C : Checked} {os : Os} {f : FuncId} {fn : Func} {s : OpenSpec} {laid : List (String × DataW Unit)} (w0 : World) (args : Array Value) (hos : w0.os = os)
    (hsh : (w0.forCall (fun _ _ => 0) ⟨#[], args, []⟩).Shaped C.prog) (hok : Input.okWideB C.prog (w0.forCall (fun _ _ => 0) ⟨#[], args, []⟩) f ⟨#[], args, []⟩ = true)
    (hrow : s.preRow enc C.prog fn [] false laid (w0.forCall (fun _ _ => 0) ⟨#[], args, []⟩).memory args) (F : Stop.Interp) :
    ∃ (w : World) (tape : Tape) (i : Input), w.os = os ∧ (w.forCall tape i).Shaped C.prog ∧ i.vars = [] ∧ Input.okWide C.prog (w.forCall tape i) .any w.heap.size f i ∧
      s.preRow enc C.prog fn [] false laid (w.forCall tape i).memory i.args ∧ ({} : Assume).holds C.prog (lone (Frame.enter C.prog f i.args .normal) [] (w.forCall tape i)) ∧ F.answers tape :=
  ⟨w0, F.over fun _ _ => 0, ⟨#[], args, []⟩, hos, hsh, rfl, (Input.okWide_of_okWideB hok).2, hrow, by
    simp only [Assume.holds]
    exact ⟨by simp, by simp, by simp, by simp, by simp⟩, F.over_answers _⟩

set_option maxRecDepth 100000 in
theorem told_lifted (os : Os) (started : os.Started) (H : Type) (enc : TypeId × Value → H) :
    ReturnsInTold none {} Tryf.checked os 3 .any Input.okWide ((OpenSpec.ofChange Rows.fnParseProcMatchesModelSpec).preRow enc Tryf.prog Tryf.f3 [] false Rows.fnParseProcMatchesModelRow.laid)
      (fun F => ((OpenSpec.ofChange Rows.fnParseProcMatchesModelSpec).at F).post enc Tryf.prog Tryf.f3 false true false false) (aloneAtReturn Tryf.prog) nothingAlways := by
  intro F
  show ReturnsInOpen {} (some F.told) Tryf.checked os 3 .any Input.okWide _ _ (aloneAtReturn Tryf.prog) nothingAlways
  refine returnsInOpen_of_calls_wide (C := Tryf.checked) (by kernel_rfl) own started (by kernel_rfl)
    (wit_gen (C := Tryf.checked) (world0 os) args0 (World.laidAll_os _ _ _) (wit_shaped os) (wit_ok os) (wit_pre os enc) F.told) ?_
  intro w tape i _ hsh _ hok hpre _ _
  obtain ⟨_, _, _, fn', hfn', _, _, _, _, hval⟩ := hok
  obtain rfl : fn' = Tryf.f3 := Option.some.inj (hfn'.symm.trans Tryf.func3)
  obtain ⟨⟨hp, hl⟩, _⟩ := hpre
  obtain ⟨ds, gs, before, hw, _, _⟩ := OpenSpec.pre_parts hp
  have hW := DataW.Whole.of_heap (w' := w.forCall tape i) (by rfl) hw
  have hlH : laidMetH Tryf.prog Rows.fnParseProcMatchesModelRow.laid (w.forCall tape i) := hl.of_heap (by rfl)
  rw [MakeChecks.laidMetH_plain _ _ _ (by kernel_rfl)] at hlH
  have EV := laid_gives hsh hlH
  clear hl hlH hsh hp hw hfn'
  obtain ⟨args, hargs⟩ : ∃ args, i.args = args := ⟨_, rfl⟩
  obtain ⟨W, hWW⟩ : ∃ W, w.forCall tape i = W := ⟨_, rfl⟩
  rw [hWW] at EV hW hval ⊢
  rw [hargs] at hW hval ⊢
  have hW' := hW
  obtain ⟨p, q, hA0, hV, rfl, _, _⟩ := hW
  have hA : DataW.TrodAll enc Tryf.prog W 0 (fun _ => true) true Tryf.f3.params.toList args.toList ds p := hA0
  rw [Tryf.params3] at hA hval
  obtain ⟨a, b, c, d, e, f, rfl, rfl, rfl, hsh⟩ := six_open hval hA
  obtain ⟨rfl, rfl⟩ := trodVars_none hV
  simp only [List.append_nil] at hW'
  have hb := law_spec W EV a b.data.toList c.data.toList d.data.toList e.data.toList f.data.toList
  rw [← ba_of (y := b) rfl, ← ba_of (y := c) rfl, ← ba_of (y := d) rfl, ← ba_of (y := e) rfl, ← ba_of (y := f) rfl] at hb
  refine hb.mono fun e W' ⟨he, hbw⟩ => ?_
  subst he
  exact ChangeSpec.post_blind ⟨_, _, _, [], [], [], hW', trodAll_mk1 (shut_bool Tryf.underlying4 _), hsh _ _ _, rfl, hbw.frame _, fun h => by cases h⟩

theorem Tryf.stops7 : Tryf.pinned.checked.prog.stops = ["fmt.Sprintf, its operands' methods called", "fmt.errorf, its operands' methods called"] := by kernel_rfl
theorem Tryf.stopKnobs7 : Tryf.pinned.checked.prog.stopKnobs = [] := by kernel_rfl
theorem Tryf.quiet7 (os : Os) : Stop.quiet Tryf.pinned.checked.prog os := by
  intro k hk
  rw [Tryf.stopKnobs7] at hk
  cases hk

theorem procMatches_told : Rows.FnParseProcMatchesModelToldSaid :=
  Claim7.holds_of_told_tied_any_at .later 3 Tryf.f3 "fmt.Sprintf, its operands' methods called" ["fmt.errorf, its operands' methods called"] [] (true, "a8ac59b0b19c2c9f0bd6b57c0e5986cd5b20e3fedb19bee332c495c40edeee8f") true false [.data, .pinned, .pinned, .pinned, .pinned, .pinned, .pinned] true
    (by kernel_rfl) rfl rfl rfl (by kernel_rfl) (by kernel_rfl) rfl ⟨rfl, rfl, rfl, rfl, rfl, rfl, rfl⟩ rfl rfl (by kernel_rfl) (by kernel_rfl) Tryf.func3 (by kernel_rfl)
    (of_decide_eq_true (by kernel_rfl)) (of_decide_eq_true (by kernel_rfl)) Tryf.stops7.symm rfl Tryf.stopKnobs7.symm (by kernel_rfl)
    (by kernel_rfl) (by kernel_rfl) (by kernel_rfl) (by kernel_rfl) (by kernel_rfl) (by kernel_rfl) (by kernel_rfl) (by kernel_rfl) (by kernel_rfl) rfl (by kernel_rfl) rfl rfl
    rfl rfl
    rfl (by kernel_rfl) (by kernel_rfl) (by kernel_rfl) (by decide) (by kernel_rfl) fnParseProcMatchesModel_row_tie
    (OpenClaim.moreEntering_of (by kernel_rfl) (by kernel_rfl) (by kernel_rfl) (by kernel_rfl) (by kernel_rfl) (by kernel_rfl) (by kernel_rfl) (by kernel_rfl) (by kernel_rfl) (by kernel_rfl))
    ⟨_, WideRow.started_initial, Tryf.quiet7 _⟩
    (fun os started _ H enc _ => told_lifted os started H enc)

end Go.Proofs.Qxb6605907aFmt
