import Derived.Test.Qxb6605907aGreatFmtRows
import Derived.Test.Qxb6605907aGreatFmtCards
import Derived.Test.Qxb6605907aGreatFmtTie
import Derived.Test.Qxb6605907aGreatFmtZy
import Derived.ProofKit
import Derived.ChangeMaps5
import Derived.Carry
import Derived.OpenShut
import Derived.Lay
import Derived.LaidOnce
import Derived.LaidSub
import Derived.SevenTiedAt
import Derived.Stop.Joined
import Derived.Stop.JoinedTold
import Derived.Stop.LaidTwo
import Derived.PinnedBridge
import Derived.Shelf.Vars
namespace Go.Proofs.Qxb6605907aGreatFmt
open Go.ChangeShapes Go.WideShapes Go.ChangeAt Go.RowKit
open Go.ChangeMaps (open_string shut_string)

theorem own : ownKnob Tryz.prog.godebug = none := by kernel_rfl
theorem star : "*" ++ "errors.errorString" = "*errors.errorString" := by decide
theorem rowErr (u : TypeId) (h : Tryz.prog.typeName? 3 u = some "*errors.errorString") : u = 168 :=
  typeName_ptr_named (nm := "errors.errorString") (by rw [star]; kernel_rfl) (by kernel_rfl) (by decide) u (by rw [star]; exact h)
theorem gE : Tryz.prog.globalNamed "io.EOF" = some 0 := by kernel_rfl
theorem gF : Tryz.prog.globalNamed "bufio.ErrBufferFull" = some 1 := by kernel_rfl

/-- What the listed variables and the world's shape give the walk. -/
theorem laid_gives {W : World} (hs : W.ShapedOpen Tryz.prog) (hL : laidMet Tryz.prog Rows.fnParseMatchesFormatModelRow.laid W) : EnvF W := by
  refine ⟨cell_of_shapedOpen_int (zero := #[.int .i64 0]) (t := 3) hs (by decide +kernel) (by kernel_rfl) rfl (by kernel_rfl) (by kernel_rfl) Tryz.underlying3, ?_, Lib.goPrintTabs, ?_⟩
  · exact utf8Tabs_of_reads (ρ := Tryz.lays177_ren) { Tryz.lays177 with } ⟨by kernel_rfl, by kernel_rfl, by kernel_rfl, by kernel_rfl, by kernel_rfl, by kernel_rfl, by kernel_rfl⟩
      (by rw [← Pinned.utf8First_eq]; exact Lib.laidMet.reads hL (.tail _ (.tail _ (.tail _ (.tail _ (.tail _ (.tail _ (.tail _ (.tail _ (.tail _ (.tail _ (.head _)))))))))))) (Lib.laidMet.reads hL (.head _))
  · exact printTabs_of_reads (ρ := Tryz.lays177_ren) { Tryz.lays177 with } ⟨by kernel_rfl, by kernel_rfl, by kernel_rfl, by kernel_rfl, by kernel_rfl, by kernel_rfl, by kernel_rfl, by kernel_rfl, by kernel_rfl, by kernel_rfl⟩
      (by rw [← Pinned.isPrint16_eq]; exact Lib.laidMet.reads hL (.tail _ (.tail _ (.tail _ (.tail _ (.tail _ (.tail _ (.tail _ (.tail _ (.head _))))))))))
      (by rw [← Pinned.isNotPrint16_eq]; exact Lib.laidMet.reads hL (.tail _ (.tail _ (.tail _ (.tail _ (.tail _ (.tail _ (.head _))))))))
      (by rw [← Pinned.isPrint32_eq]; exact Lib.laidMet.reads hL (.tail _ (.tail _ (.tail _ (.tail _ (.tail _ (.tail _ (.tail _ (.tail _ (.tail _ (.head _)))))))))))
      (by rw [← Pinned.isNotPrint32_eq]; exact Lib.laidMet.reads hL (.tail _ (.tail _ (.tail _ (.tail _ (.tail _ (.tail _ (.tail _ (.head _)))))))))

theorem laid_gives2 {W : World} (hL : laidMet Tryz.prog Rows.fnParseMatchesFormatModelRow.laid W) : ∃ ae af : Addr, EnvS W ae af := by
  have h2 := hL.filter (fun x => x.1 == "io.EOF" || x.1 == "bufio.ErrBufferFull")
  have e2 : Rows.fnParseMatchesFormatModelRow.laid.filter (fun x => x.1 == "io.EOF" || x.1 == "bufio.ErrBufferFull") = [("io.EOF", Rows.laid_io_EOF), ("bufio.ErrBufferFull", Rows.laid_bufio_ErrBufferFull)] := by
    simp [Rows.fnParseMatchesFormatModelRow]
  rw [e2] at h2
  obtain ⟨a0, a1, s0, s1, c0, c1, t0, t1, hv0, hv1, _, _, _, _, _, _, hne, hb0, hb1⟩ := laid_sentinels2 h2 gE (by kernel_rfl) gF (by kernel_rfl) Tryz.underlying48 rowErr Tryz.underlying168 Tryz.underlying170 rfl rfl Tryz.underlying9 (by kernel_rfl) (by kernel_rfl)
  exact ⟨a0, a1, by simpa using World.var?_cell gE hv0 0, by simpa using World.var?_cell gF hv1 0, hne, ⟨c0, t0, hb0⟩, ⟨c1, t1, hb1⟩⟩

set_option maxRecDepth 100000 in
theorem args_open {H : Type} {enc : TypeId × Value → H} {W : World} {base : Nat} {args : Array Value} {ds : List (DataW H)} {p : List MemPlace}
    (hval : ∀ (j : Nat) t v, (#[9, 9] : Array TypeId)[j]? = some t → args[j]? = some v → Value.okWide Tryz.prog W .any base t v)
    (hA : DataW.TrodAll enc Tryz.prog W 0 (fun _ => true) true [9, 9] args.toList ds p) :
    ∃ a b : ByteArray, args = #[.string a, .string b] ∧ p = [] ∧ ds = [.lit (.string a.data.toList), .lit (.string b.data.toList)] ∧
      ∀ (W' : World) (sp : Nat → Bool) (held : Bool), DataW.TrodAll enc Tryz.prog W' 0 sp held [9, 9] [.string a, .string b] ds [] := by
  obtain ⟨v0, v1, d0, d1, p0, p1, rfl, rfl, rfl, h0, h1⟩ := trodAll_two hA
  obtain ⟨a, rfl, rfl, rfl, ha⟩ := open_string Tryz.underlying9 (hval 0 9 v0 rfl rfl) h0
  obtain ⟨b, rfl, rfl, rfl, hb⟩ := open_string Tryz.underlying9 (hval 1 9 v1 rfl rfl) h1
  exact ⟨a, b, rfl, rfl, rfl, fun W' sp held => trodAll_mk2 (shut_string (enc := enc) (w := W') (base := 0) (sp := sp) (held := held) Tryz.underlying9 ha) (shut_string (enc := enc) (w := W') (base := 0) (sp := sp) (held := held) Tryz.underlying9 hb)⟩

abbrev args0 : Array Value := #[.string ⟨#[]⟩, .string ⟨#[]⟩]
noncomputable abbrev world0 (os : Os) : World := World.laidAll Tryz.prog os Rows.fnParseMatchesFormatModelRow.laid
set_option maxRecDepth 100000 in
theorem wit_shaped (os : Os) : ((world0 os).forCall (fun _ _ => 0) ⟨#[], args0, []⟩).Shaped Tryz.prog := World.shaped_of_ZipB (by kernel_rfl) (by kernel_rfl)
set_option maxRecDepth 100000 in
theorem wit_ok (os : Os) : Input.okWideB Tryz.prog ((world0 os).forCall (fun _ _ => 0) ⟨#[], args0, []⟩) 3 ⟨#[], args0, []⟩ = true := by kernel_rfl
set_option maxRecDepth 100000 in
theorem wit_pre (os : Os) {H : Type} (enc : TypeId × Value → H) : (OpenSpec.ofChange Rows.fnParseMatchesFormatModelSpec).preRow enc Tryz.prog Tryz.f3 [] false Rows.fnParseMatchesFormatModelRow.laid ((world0 os).forCall (fun _ _ => 0) ⟨#[], args0, []⟩).memory args0 :=
  OpenSpec.preRow_of_B rfl 8 (by kernel_rfl) (by kernel_rfl) (by rw [MakeChecks.laidMetH_plain _ _ _ (by kernel_rfl)]; exact laidMet_laidAll _ (by kernel_rfl) (by kernel_rfl))
theorem wit_gen {H : Type} {enc : TypeId × Value → H} {C : Checked} {os : Os} {f : FuncId} {fn : Func} {s : OpenSpec} {laid : List (String × DataW Unit)} (w0 : World) (args : Array Value) (hos : w0.os = os)
    (hsh : (w0.forCall (fun _ _ => 0) ⟨#[], args, []⟩).Shaped C.prog) (hok : Input.okWideB C.prog (w0.forCall (fun _ _ => 0) ⟨#[], args, []⟩) f ⟨#[], args, []⟩ = true)
    (hrow : s.preRow enc C.prog fn [] false laid (w0.forCall (fun _ _ => 0) ⟨#[], args, []⟩).memory args) (F : Stop.Interp) :
    ∃ (w : World) (tape : Tape) (i : Input), w.os = os ∧ (w.forCall tape i).Shaped C.prog ∧ i.vars = [] ∧ Input.okWide C.prog (w.forCall tape i) .any w.heap.size f i ∧
      s.preRow enc C.prog fn [] false laid (w.forCall tape i).memory i.args ∧ ({} : Assume).holds C.prog (lone (Frame.enter C.prog f i.args .normal) [] (w.forCall tape i)) ∧ F.answers tape :=
  ⟨w0, F.over fun _ _ => 0, ⟨#[], args, []⟩, hos, hsh, rfl, (Input.okWide_of_okWideB hok).2, hrow, by
    simp only [Assume.holds]
    exact ⟨by simp, by simp, by simp, by simp, by simp⟩, F.over_answers _⟩

set_option maxRecDepth 100000 in
theorem told_lifted (os : Os) (started : os.Started) (H : Type) (enc : TypeId × Value → H) :
    ReturnsInTold none {} Tryz.checked os 3 .any Input.okWide ((OpenSpec.ofChange Rows.fnParseMatchesFormatModelSpec).preRow enc Tryz.prog Tryz.f3 [] false Rows.fnParseMatchesFormatModelRow.laid)
      (fun F => ((OpenSpec.ofChange Rows.fnParseMatchesFormatModelSpec).at F).post enc Tryz.prog Tryz.f3 false true false false) (aloneAtReturn Tryz.prog) nothingAlways := by
  intro F
  show ReturnsInOpen {} (some F.told) Tryz.checked os 3 .any Input.okWide _ _ (aloneAtReturn Tryz.prog) nothingAlways
  refine returnsInOpen_of_calls_wide (C := Tryz.checked) (by kernel_rfl) own started (by kernel_rfl)
    (wit_gen (C := Tryz.checked) (world0 os) args0 (World.laidAll_os _ _ _) (wit_shaped os) (wit_ok os) (wit_pre os enc) F.told) ?_
  intro w tape i _ hsh _ hok hpre _ _
  obtain ⟨_, _, _, fn', hfn', _, _, _, _, hval⟩ := hok
  obtain rfl : fn' = Tryz.f3 := Option.some.inj (hfn'.symm.trans Tryz.func3)
  obtain ⟨⟨hp, hl⟩, _⟩ := hpre
  obtain ⟨ds, gs, before, hw, _, _⟩ := OpenSpec.pre_parts hp
  have hW := DataW.Whole.of_heap (w' := w.forCall tape i) (by rfl) hw
  have hlH : laidMetH Tryz.prog Rows.fnParseMatchesFormatModelRow.laid (w.forCall tape i) := hl.of_heap (by rfl)
  rw [MakeChecks.laidMetH_plain _ _ _ (by kernel_rfl)] at hlH
  have EV := laid_gives hsh hlH
  obtain ⟨ae, af, ES⟩ := laid_gives2 hlH
  clear hl hlH hsh hp hw hfn'
  obtain ⟨args, hargs⟩ : ∃ args, i.args = args := ⟨_, rfl⟩
  obtain ⟨W, hWW⟩ : ∃ W, w.forCall tape i = W := ⟨_, rfl⟩
  rw [hWW] at EV ES hW hval ⊢
  rw [hargs] at hW hval ⊢
  have hW' := hW
  obtain ⟨p, q, hA0, hV, rfl, _, _⟩ := hW
  have hA : DataW.TrodAll enc Tryz.prog W 0 (fun _ => true) true Tryz.f3.params.toList args.toList ds p := hA0
  rw [Tryz.params3] at hA hval
  obtain ⟨a, b, rfl, rfl, rfl, hsh⟩ := args_open hval hA
  obtain ⟨rfl, rfl⟩ := trodVars_none hV
  simp only [List.append_nil] at hW'
  have hb := format_spec a b W EV ES
  refine hb.mono fun e W' ⟨he, hbw⟩ => ?_
  subst he
  exact ChangeSpec.post_blind ⟨_, _, _, [], [], [], hW', trodAll_mk1 (shut_bool Tryz.underlying4 _), hsh _ _ _, rfl, hbw.frame _, fun h => by cases h⟩

theorem Tryz.stops7 : Tryz.pinned.checked.prog.stops = ["fmt.Sprintf, its operands' methods called", "fmt.errorf, its operands' methods called"] := by kernel_rfl
theorem Tryz.stopKnobs7 : Tryz.pinned.checked.prog.stopKnobs = [] := by kernel_rfl
theorem Tryz.quiet7 (os : Os) : Stop.quiet Tryz.pinned.checked.prog os := by
  intro k hk
  rw [Tryz.stopKnobs7] at hk
  cases hk

theorem format_told : Rows.FnParseMatchesFormatModelToldSaid :=
  Claim7.holds_of_told_tied_any_at .later 3 Tryz.f3 "fmt.Sprintf, its operands' methods called" ["fmt.errorf, its operands' methods called"] [] (true, "6637691bb2ac5d11e6927c5cf45470b3f0e2bf5ededebad782da17198481b676") true false [.data, .sentinel, .sentinel, .sentinel, .sentinel, .pinned, .pinned, .pinned, .pinned, .pinned, .pinned] true
    (by kernel_rfl) rfl rfl rfl (by kernel_rfl) (by kernel_rfl) rfl ⟨rfl, rfl, rfl, rfl, rfl, rfl, rfl⟩ rfl rfl (by kernel_rfl) (by kernel_rfl) Tryz.func3 (by kernel_rfl)
    (of_decide_eq_true (by kernel_rfl)) (of_decide_eq_true (by kernel_rfl)) Tryz.stops7.symm rfl Tryz.stopKnobs7.symm (by kernel_rfl)
    (by kernel_rfl) (by kernel_rfl) (by kernel_rfl) (by kernel_rfl) (by kernel_rfl) (by kernel_rfl) (by kernel_rfl) (by kernel_rfl) (by kernel_rfl) rfl (by kernel_rfl) rfl rfl
    rfl rfl
    rfl (by kernel_rfl) (by kernel_rfl) (by kernel_rfl) (by decide) (by kernel_rfl) fnParseMatchesFormatModel_row_tie
    (OpenClaim.moreEntering_of (by kernel_rfl) (by kernel_rfl) (by kernel_rfl) (by kernel_rfl) (by kernel_rfl) (by kernel_rfl) (by kernel_rfl) (by kernel_rfl) (by kernel_rfl) (by kernel_rfl))
    ⟨_, WideRow.started_initial, Tryz.quiet7 _⟩
    (fun os started _ H enc _ => told_lifted os started H enc)

end Go.Proofs.Qxb6605907aGreatFmt
