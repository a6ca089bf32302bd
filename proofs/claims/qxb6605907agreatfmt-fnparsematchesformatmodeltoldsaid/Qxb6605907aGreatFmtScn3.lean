import Derived.Test.Qxb6605907aGreatFmtScn2
import Derived.Test.Qxb6605907aGreatFmtScnP
import Derived.Lib.LaidU8
namespace Go.Proofs.Qxb6605907aGreatFmt.Sx
open Go.RowKit

/-- WHAT A SCAN LEANS ON BESIDE ITS OWN BLOCKS: the two sentinels, utf8's tables. -/
structure Env (p b s q : Nat) (ae af : Addr) (t : ByteArray) (w : World) : Prop where
  ht : t.size ≤ 1048577
  hpb : p ≠ b
  hps : p ≠ s
  hsb : s ≠ b
  hqp : q ≠ p
  hqb : q ≠ b
  hqs : q ≠ s
  hE : w.cell? ⟨0, 0, none⟩ = some (.iface 168 (.pointer (some ae)))
  hF : w.cell? ⟨1, 0, none⟩ = some (.iface 168 (.pointer (some af)))
  h0 : 0 ∉ [p, b, s, q]
  h1 : 1 ∉ [p, b, s, q]
  hne : ae ≠ af
  hae : ∃ ca ta, w.heap[ae.block]? = some (.cells ca ta (0, 0))
  haf : ∃ ca ta, w.heap[af.block]? = some (.cells ca ta (0, 0))
  hae' : ae.block ∉ [p, b, s, q]
  haf' : af.block ∉ [p, b, s, q]
  tabs : Lib.Utf8Tabs 2 3 w
  h5 : 2 ∉ [p, b, s, q]
  h6 : 3 ∉ [p, b, s, q]

theorem Env.keeps {p b s q : Nat} {ae af : Addr} {t : ByteArray} {w w' : World} (h : Env p b s q ae af t w) (k : Keeps [p, b, s, q] w w') : Env p b s q ae af t w' where
  ht := h.ht
  hpb := h.hpb
  hps := h.hps
  hsb := h.hsb
  hqp := h.hqp
  hqb := h.hqb
  hqs := h.hqs
  hE := k.cell h.h0 h.hE
  hF := k.cell h.h1 h.hF
  h0 := h.h0
  h1 := h.h1
  hne := h.hne
  hae := by
    obtain ⟨ca, ta, hh⟩ := h.hae
    exact ⟨ca, ta, by rw [k.block _ (Array.getElem?_eq_some_iff.1 hh).1 h.hae']; exact hh⟩
  haf := by
    obtain ⟨ca, ta, hh⟩ := h.haf
    exact ⟨ca, ta, by rw [k.block _ (Array.getElem?_eq_some_iff.1 hh).1 h.haf']; exact hh⟩
  hae' := h.hae'
  haf' := h.haf'
  tabs := by
    obtain ⟨h1, h2⟩ := h.tabs
    exact ⟨fun c hc => k.cell h.h5 (h1 c hc), fun i hi => ⟨k.cell h.h6 (h2 i hi).1, k.cell h.h6 (h2 i hi).2⟩⟩
  h5 := h.h5
  h6 := h.h6

/-- THE SCANNER's STATE: pos bytes have been read, n lines. -/
def Sc (q p b s : Nat) (path t : ByteArray) (pos n : Nat) (text : ByteArray) (done : Bool) (w : World) : Prop :=
  w.heap[q]? = some (.cells (scCells path p n text .nilIface done) 94 (0, 0)) ∧ (∃ r m i, St p b s t .nilIface r m i w ∧ i + r = pos + m) ∧ pos ≤ t.size ∧ n ≤ pos ∧ (done = true → pos = t.size)

theorem trimFunc_spec (x : ByteArray) (w : World) (hx : x.size ≤ 1048577) (hT : Lib.Utf8Tabs 2 3 w) :
    Calls Tryz.prog 46 #[.string x, .func (.func 37) #[] #[]] w fun e w' => e = .returned (.string ⟨(trimB x.data.toList).toArray⟩) ∧ Below w.heap.size w w' := by
  have eg : ∀ args w, (callFunc 37 args).run Tryz.prog w = .ok (.enter 37 args) w := enters_of Tryz.func37 (by kernel_rfl) rfl
  refine (Any.strings_TrimFunc Tryz.lays237 37 #[] eg blankR x w (by omega) hT (fun W r _ => (isBlank_spec r W).mono fun e w' ⟨he, hw⟩ => ⟨he, 0, hw⟩)).mono ?_
  rintro e w' ⟨rfl, hb⟩
  refine ⟨?_, hb⟩
  rw [← trimF_blank]

theorem trimSuffix_spec (x y : ByteArray) (w : World) (hx : x.size ≤ 1048577) :
    Calls Tryz.prog 44 #[.string x, .string y] w fun e w' => e = .returned (.string ⟨(Lib.trimSuffix x.data.toList y.data.toList).toArray⟩) ∧ w' = w :=
  Any.strings_TrimSuffix Tryz.lays102 x y w (by omega)

end Go.Proofs.Qxb6605907aGreatFmt.Sx
