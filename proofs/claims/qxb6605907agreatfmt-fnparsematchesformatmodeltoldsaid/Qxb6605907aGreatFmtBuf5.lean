import Derived.Test.Qxb6605907aGreatFmtBuf4
namespace Go.Proofs.Qxb6605907aGreatFmt.Sx
open Go.RowKit

/-- WHAT ReadSlice HANDS BACK: the bytes from pos on: up to a newline; a buffer full; the rest and io.EOF. -/
def Got (p b s : Nat) (t : ByteArray) (pos : Nat) (ev fv : Value) (k : Nat) (line e : Value) (w' : World) : Prop :=
  (∃ off c : Nat, line = .slice (some ⟨b, off, none⟩) k c ∧
    ∀ j, j < k → ∃ x : UInt8, t.data.toList[pos + j]? = some x ∧ w'.cell? ⟨b, off + j, none⟩ = some (.int .u8 (x.toNat : Int))) ∧
  k ≤ 4096 ∧ pos + k ≤ t.size ∧
  (∃ r n i, St p b s t .nilIface r n i w' ∧ i + r = pos + k + n) ∧
  ((e = .nilIface ∧ 0 < k ∧ t.data.toList[pos + (k - 1)]? = some 10 ∧ ∀ j, j + 1 < k → t.data.toList[pos + j]? ≠ some 10) ∨
   (e = .iface 168 fv ∧ k = 4096 ∧ ∀ j, j < k → t.data.toList[pos + j]? ≠ some 10) ∨
   (e = .iface 168 ev ∧ pos + k = t.size ∧ ∀ j, j < k → t.data.toList[pos + j]? ≠ some 10))

/-- The loop's state. -/
def Scans (p b s : Nat) (t : ByteArray) (pos : Nat) (ev : Value) (sv : Nat) (e : Value) (r n i : Nat) (w' : World) : Prop :=
  St p b s t e r n i w' ∧ i + r = pos + n ∧ r + sv ≤ n ∧ (∀ j, j < sv → t.data.toList[pos + j]? ≠ some 10) ∧
  (e = .nilIface ∨ (e = .iface 168 ev ∧ r = 0 ∧ i = t.size ∧ sv = n))

/-- The loop's measure. -/
def mz (t : ByteArray) (s p : Nat) (w : World) : Nat :=
  2 * (t.size - (match w.cell? ⟨s, 1, none⟩ with | some v => (intOf v).toNat | none => 0)) + (match w.cell? ⟨p, 4, none⟩ with | some .nilIface => 1 | _ => 0)

theorem mz_nil {p b s : Nat} {t : ByteArray} {r n i : Nat} {w : World} (h : St p b s t .nilIface r n i w) : mz t s p w = 2 * (t.size - i) + 1 := by
  obtain ⟨lb, lr, pv, cur, hp, hs, _⟩ := h
  have c1 : w.cell? ⟨s, 1, none⟩ = some (.int .i64 (i : Int)) := by rw [row_cell hs]; rfl
  have c4 : w.cell? ⟨p, 4, none⟩ = some .nilIface := by rw [row_cell hp]; rfl
  simp [mz, c1, c4, intOf]

theorem mz_eof {p b s : Nat} {t : ByteArray} {r n i : Nat} {u : TypeId} {v : Value} {w : World} (h : St p b s t (.iface u v) r n i w) : mz t s p w = 2 * (t.size - i) := by
  obtain ⟨lb, lr, pv, cur, hp, hs, _⟩ := h
  have c1 : w.cell? ⟨s, 1, none⟩ = some (.int .i64 (i : Int)) := by rw [row_cell hs]; rfl
  have c4 : w.cell? ⟨p, 4, none⟩ = some (.iface u v) := by rw [row_cell hp]; rfl
  simp [mz, c1, c4, intOf]

/-- bytes.IndexByte over what is held and not yet looked at. -/
theorem scan_spec (p b s pos r n i sv : Nat) (e : Value) (t : ByteArray) (w : World) (h : St p b s t e r n i w) (hpos : i + r = pos + n) (hsv : r + sv ≤ n) (q : Nat) :
    Calls Tryz.prog 95 #[.slice (if 4096 = r + sv then some ⟨b, 0, none⟩ else some ⟨b, r + sv, none⟩) (n - (r + sv)) (4096 - (r + sv)), .int .u8 10] (w.drewN q) fun x w' =>
      x = .returned (.int .i64 (Lib.indexByte ((t.data.toList.drop (pos + sv)).take (n - (r + sv))) 10)) ∧ w' = w.drewN q := by
  have hst := h
  obtain ⟨lb, lr, pv, cur, _, _, _, _, hrn, hn, hni, hit, _⟩ := h
  obtain ⟨l, hl⟩ : ∃ l, (t.data.toList.drop (pos + sv)).take (n - (r + sv)) = l := ⟨_, rfl⟩
  have hlen : l.length = n - (r + sv) := by rw [← hl, List.length_take, List.length_drop, size_list]; omega
  have hby : Lib.bytesOf (l.map fun x => (x.toNat : Int)) = l := by
    simp [Lib.bytesOf, List.map_map]
    conv => rhs; rw [← List.map_id l]
    apply List.map_congr_left
    intro x _
    simp
  rw [hl]
  obtain ⟨a, ha, hcell⟩ : ∃ a, (if 4096 = r + sv then some (⟨b, 0, none⟩ : Addr) else some ⟨b, r + sv, none⟩) = some a ∧
      ∀ j, j < n - (r + sv) → (w.drewN q).cell? (a.add j) = some (.int .u8 ((l.map fun x => (x.toNat : Int)).getD j 0)) := by
    by_cases h4 : 4096 = r + sv
    · exact ⟨_, if_pos h4, fun j hj => by omega⟩
    · refine ⟨_, if_neg h4, fun j hj => ?_⟩
      have hadd : (⟨b, r + sv, none⟩ : Addr).add j = ⟨b, r + (sv + j), none⟩ := by unfold Addr.add; split <;> simp_all [Nat.add_assoc]
      obtain ⟨x, hx, hc⟩ := hst.byte (sv + j) pos (by omega) hpos
      rw [hadd]
      show w.cell? _ = _
      rw [hc]
      have hlj : l[j]? = some x := by
        rw [← hl, List.getElem?_take, if_pos hj, List.getElem?_drop, Nat.add_assoc]; exact hx
      simp [List.getD, List.getElem?_map, hlj]
  rw [ha]
  have hc := Any.bytes_IndexByte_at Tryz.lays187 a (n - (r + sv)) (4096 - (r + sv)) (l.map fun x => (x.toNat : Int)) 10 (w.drewN q) (by rw [List.length_map, hlen]) hcell
  rw [hby] at hc
  exact hc

/-- The state once k bytes have been handed out. -/
theorem got_of {p b s pos r n i r' k c : Nat} {e e' ev fv lb lr : Value} {t : ByteArray} {w w' : World} (h : St p b s t e r n i w) (hpos : i + r = pos + n)
    (hp : w'.heap[p]? = some (.cells (rdCells b s r' n .nilIface lb lr) 141 (0, 0))) (hs : w'.heap[s]? = w.heap[s]?) (hb : w'.heap[b]? = w.heap[b]?)
    (h1 : r ≤ r') (h2 : r' ≤ n) (hk : r' - r = k)
    (he : (e' = .nilIface ∧ 0 < k ∧ t.data.toList[pos + (k - 1)]? = some 10 ∧ ∀ j, j + 1 < k → t.data.toList[pos + j]? ≠ some 10) ∨
      (e' = .iface 168 fv ∧ k = 4096 ∧ ∀ j, j < k → t.data.toList[pos + j]? ≠ some 10) ∨
      (e' = .iface 168 ev ∧ pos + k = t.size ∧ ∀ j, j < k → t.data.toList[pos + j]? ≠ some 10)) :
    Got p b s t pos ev fv k (.slice (some ⟨b, r, none⟩) k c) e' w' := by
  have hst := h
  obtain ⟨lb0, lr0, pv, cur, hp0, hs0, hb0, hc, hrn, hn, hni, hit, heq⟩ := h
  refine ⟨⟨r, c, rfl, fun j hj => ?_⟩, by omega, by omega, ⟨r', n, i, ⟨lb, lr, pv, cur, hp, hs.trans hs0, hb.trans hb0, hc, h2, hn, by omega, hit, ?_⟩, by omega⟩, he⟩
  · obtain ⟨x, hx, hcx⟩ := hst.byte j pos (by omega) hpos
    refine ⟨x, hx, ?_⟩
    rw [row_cell (hb.trans hb0), ← row_cell hb0]
    exact hcx
  · have h3 : ((cur.drop r).take (n - r)).drop (r' - r) = ((t.data.toList.drop (i - (n - r))).take (n - r)).drop (r' - r) := by rw [heq]
    rw [List.drop_take, List.drop_take, List.drop_drop, List.drop_drop, show r + (r' - r) = r' by omega, show n - r - (r' - r) = n - r' by omega, show i - (n - r) + (r' - r) = i - (n - r') by omega] at h3
    exact h3

/-- The last byte is noted: nothing of what counts turns. -/
theorem Got.note {p b s pos k : Nat} {ev fv line e : Value} {t : ByteArray} {w : World} (h : Got p b s t pos ev fv k line e w) (hpb : p ≠ b) (hps : p ≠ s) (v v' : Value) :
    Got p b s t pos ev fv k line e ((w.setCell ⟨p, 5, none⟩ v).setCell ⟨p, 6, none⟩ v') := by
  obtain ⟨⟨off, c, hl, hb⟩, h1, h2, ⟨r, n, i, ⟨lb, lr, pv, cur, hp, hs, hbb, hrest⟩, hpos⟩, he⟩ := h
  refine ⟨⟨off, c, hl, fun j hj => ?_⟩, h1, h2, ⟨r, n, i, ⟨v, v', pv, cur, ?_, row_keep (row_keep hs _ _ (Ne.symm hps)) _ _ (Ne.symm hps), row_keep (row_keep hbb _ _ (Ne.symm hpb)) _ _ (Ne.symm hpb), hrest⟩, hpos⟩, he⟩
  · obtain ⟨x, hx, hc⟩ := hb j hj
    refine ⟨x, hx, ?_⟩
    rw [row_cell hbb] at hc
    rw [row_cell (row_keep (row_keep hbb _ _ (Ne.symm hpb)) _ _ (Ne.symm hpb))]
    exact hc
  · rw [row_set (row_set hp 5 _) 6 _]; rfl

theorem Keeps.cell {S : List Nat} {w w' : World} (h : Keeps S w w') {k o : Nat} {v : Value} (hk : k ∉ S) (hc : w.cell? ⟨k, o, none⟩ = some v) : w'.cell? ⟨k, o, none⟩ = some v := by
  have h0 : k < w.heap.size := by
    simp only [World.cell?] at hc
    cases hh : w.heap[k]? with
    | none => simp [hh] at hc
    | some o => exact (Array.getElem?_eq_some_iff.1 hh).1
  simp only [World.cell?, h.block k h0 hk] at hc ⊢
  exact hc

theorem St.drewN {p b s : Nat} {t : ByteArray} {e : Value} {r n i : Nat} {w : World} (h : St p b s t e r n i w) (q : Nat) : St p b s t e r n i (w.drewN q) := h

/-- fill, in the loop. -/
theorem fill_scans (p b s pos r n i m : Nat) (ev : Value) (t : ByteArray) (w : World)
    (h : St p b s t .nilIface r n i w) (hpos : i + r = pos + n) (ht : t.size ≤ 1048577) (hpb : p ≠ b) (hps : p ≠ s) (hsb : s ≠ b)
    (hE : w.cell? ⟨0, 0, none⟩ = some (.iface 168 ev)) (h0p : 0 ≠ p) (h0b : 0 ≠ b) (hm : n - r = m) (hfull : m < 4096)
    (hno : ∀ j, j < m → t.data.toList[pos + j]? ≠ some 10) :
    Calls Tryz.prog 98 #[.pointer (some ⟨p, 0, none⟩)] w fun x w' => x = .returned (.tuple #[]) ∧
      ∃ r' n' i' e', Scans p b s t pos ev m e' r' n' i' w' ∧ Keeps [p, b, s] w w' ∧ mz t s p w' < mz t s p w := by
  have hst := h
  obtain ⟨lb, lr, pv, cur, hp, hs, hb, hc, hrn, hn, hni, hit, heq⟩ := h
  refine (fill_spec p b s r n i m lb lr ev t pv cur _ w hp hs ht hb hc hrn hn (by omega) hpb hps hsb hE h0p h0b hm rfl).mono ?_
  rintro x w' ⟨rfl, hf⟩
  obtain ⟨hk, hst'⟩ := St.fill hs hc hrn hn hni hit hps hsb heq hm hfull hf
  refine ⟨rfl, ?_⟩
  rcases hst' with ⟨hi, k, hk0, hk1, hst'⟩ | ⟨hi, hst'⟩
  · exact ⟨0, m + k, i + k, .nilIface, ⟨hst', by omega, by omega, hno, Or.inl rfl⟩, hk, by rw [mz_nil hst', mz_nil hst]; omega⟩
  · exact ⟨0, m, i, .iface 168 ev, ⟨hst', by omega, by omega, hno, Or.inr ⟨rfl, rfl, hi, rfl⟩⟩, hk, by rw [mz_eof hst', mz_nil hst]; omega⟩

set_option maxRecDepth 100000 in
set_option maxHeartbeats 8000000 in
theorem readSlice_spec (p b s pos r0 n0 i0 : Nat) (ev fv : Value) (t : ByteArray) (w : World)
    (h0 : St p b s t .nilIface r0 n0 i0 w) (hpos : i0 + r0 = pos + n0) (ht : t.size ≤ 1048577)
    (hpb : p ≠ b) (hps : p ≠ s) (hsb : s ≠ b)
    (hE : w.cell? ⟨0, 0, none⟩ = some (.iface 168 ev)) (h0p : 0 ≠ p) (h0b : 0 ≠ b) (h0s : 0 ≠ s)
    (hF : w.cell? ⟨1, 0, none⟩ = some (.iface 168 fv)) (h1p : 1 ≠ p) (h1b : 1 ≠ b) (h1s : 1 ≠ s) :
    Calls Tryz.prog 85 #[.pointer (some ⟨p, 0, none⟩), .int .u8 10] w fun x w' =>
      ∃ line e k, x = .returned (.tuple #[line, e]) ∧ Got p b s t pos ev fv k line e w' ∧ Keeps [p, b, s] w w' := by
  go_enter Tryz.func85, Tryz.ntmps85
  go_upto_block 0 with fail
  go_cut [4, 5, 6, 7] (fun line e _ _ w' => ∃ k, Got p b s t pos ev fv k line e w' ∧ Keeps [p, b, s] w w')
  case first =>
    go_wp2
    go_loopw [5, 6, 7] (fun er sv _ wr => ∃ (svn r n i : Nat) (e : Value), er = .nilIface ∧ sv = .int .i64 svn ∧ Scans p b s t pos ev svn e r n i wr ∧ Keeps [p, b, s] w wr) (fun _ _ _ wr => mz t s p wr)
    case atStart => exact ⟨0, r0, n0, i0, .nilIface, rfl, rfl, ⟨h0, hpos, by obtain ⟨_, _, _, _, _, _, _, _, h, _⟩ := h0; omega, fun j hj => absurd hj (Nat.not_lt_zero _), Or.inl rfl⟩, Keeps.refl _ _⟩
    case round =>
      obtain ⟨sv, r, n, i, e, rfl, rfl, hsc, kp⟩ := hrel
      obtain ⟨st, hps1, hsv, hno, hev⟩ := hsc
      have HI := hide (fun q => scan_spec p b s pos r n i sv e t wr st hps1 hsv q)
      have st' := st
      obtain ⟨lb, lr, pv, cur, hp, hs, hb, hc, hrn, hn, hni, hit, heq⟩ := st'
      obtain ⟨A, hA⟩ : ∃ A, (if 4096 = r + sv then some (⟨b, 0, none⟩ : Addr) else some ⟨b, r + sv, none⟩) = A := ⟨_, rfl⟩
      rw [hA] at HI
      have c0 : wr.cell? ⟨p, 0, none⟩ = some (.slice (some ⟨b, 0, none⟩) 4096 4096) := by rw [row_cell hp]; rfl
      have c2 : wr.cell? ⟨p, 2, none⟩ = some (.int .i64 (r : Int)) := by rw [row_cell hp]; rfl
      have c3 : wr.cell? ⟨p, 3, none⟩ = some (.int .i64 (n : Int)) := by rw [row_cell hp]; rfl
      have f2 : wr.frozen? ⟨p, 2, none⟩ = false := row_frozen hp 2
      have hn' : (n : Int) ≤ 4096 := by exact_mod_cast hn
      have hsv' : (r : Int) + (sv : Int) ≤ (n : Int) := by exact_mod_cast hsv
      have hw1 : IntKind.i64.wrap ((r : Int) + (sv : Int)) = (r : Int) + (sv : Int) := IntWalk.i64_in _ (by omega)
      have hw2 : ((r : Int) + (sv : Int)).toNat = r + sv := by omega
      obtain ⟨l, hl⟩ : ∃ l, (t.data.toList.drop (pos + sv)).take (n - (r + sv)) = l := ⟨_, rfl⟩
      have hll : l.length = n - (r + sv) := by rw [← hl, List.length_take, List.length_drop, size_list]; omega
      have hlj : ∀ j, j < n - (r + sv) → l[j]? = t.data.toList[pos + (sv + j)]? := fun j hj => by
        rw [← hl, List.getElem?_take, if_pos hj, List.getElem?_drop, Nat.add_assoc]
      rw [hl] at HI
      obtain ⟨ix, hix⟩ : ∃ ix, Lib.indexByte l 10 = ix := ⟨_, rfl⟩
      rw [hix] at HI
      have HP := hide hp
      have HS := hide hs
      have HB := hide hb
      have HEQ := hide heq
      have ST := hide st
      have KP := hide kp
      have HNO := hide hno
      have HLJ := hide hlj
      clear hp hs hb heq st kp hno hlj hl h0
      by_cases hneg : ix = -1
      · subst hneg
        have hall : ∀ j, j < n - r → t.data.toList[pos + j]? ≠ some 10 := fun j hj => by
          by_cases hjs : j < sv
          · exact HNO.out j hjs
          · have h1 := Lib.indexByte_none hix (j - sv)
            rw [HLJ.out (j - sv) (by omega), show sv + (j - sv) = j by omega] at h1
            exact h1
        have HALL := hide hall
        clear hix hall HLJ HNO
        obtain ⟨m, hm⟩ : ∃ m, n - r = m := ⟨_, rfl⟩
        rcases hev with rfl | ⟨rfl, hr0, hit', hsvn⟩
        · have c4 : wr.cell? ⟨p, 4, none⟩ = some .nilIface := by rw [row_cell HP.out]; rfl
          have HBU : Hid (∀ q q', Calls Tryz.prog 97 #[.pointer (some ⟨p, 0, none⟩)] (wr.drewN (q + q')) fun e w'' => e = .returned (.int .i64 ((n - r : Nat) : Int)) ∧ ∃ u, w'' = wr.drewN (q + u)) := fun q q' =>
            (buffered_spec p b s r n .nilIface lb lr (wr.drewN (q + q')) hrn hn HP.out).mono fun _ _ ⟨he, u, hu⟩ => ⟨he, q' + u, by rw [hu, World.drewN_drewN, Nat.add_assoc]⟩
          rw [hm] at HBU HALL
          by_cases hfull : m = 4096
          · have hF1 : wr.cell? ⟨1, 0, none⟩ = some (.iface 168 fv) := KP.out.cell (by simp [h1p, h1b, h1s]) hF
            have HG : Hid (∀ q, Got p b s t pos ev fv 4096 (.slice (some ⟨b, 0, none⟩) 4096 4096) (.iface 168 fv) ((wr.drewN q).setCell ⟨p, 2, none⟩ (.int .i64 (n : Int))) ∧
                Keeps [p, b, s] w ((wr.drewN q).setCell ⟨p, 2, none⟩ (.int .i64 (n : Int)))) := by
              intro q
              obtain rfl : r = 0 := by omega
              refine ⟨got_of ST.out hps1 (lb := lb) (lr := lr) (r' := n) ?_ (Below.heap_setCell _ _ _ _ (Ne.symm hps)) (Below.heap_setCell _ _ _ _ (Ne.symm hpb)) (by omega) (by omega) (by omega) (Or.inr (Or.inl ⟨rfl, rfl, by rw [hfull] at HALL; exact HALL.out⟩)), (KP.out.drewN q).setCell ⟨p, 2, none⟩ _ (by simp)⟩
              rw [row_set (w := wr.drewN q) HP.out 2 _]; rfl
            have hfl' : (4096 : Int) ≤ (m : Int) := by omega
            have hm' := hide hm
            have hfull' := hide hfull
            clear hm hfull
            go_wp2
            go_quiet ((go_at_call 95; refine Calls.quiet_of_same (HI.out _)))
            go_wp2
            go_quiet ((go_at_call 97; exact HBU.out _ _))
            go_wp2
            go_meet
            exact ⟨4096, HG.out _⟩
          · have hfl : m < 4096 := by omega
            have hfl' : ¬ ((4096 : Int) ≤ (m : Int)) := by omega
            have hE1 : wr.cell? ⟨0, 0, none⟩ = some (.iface 168 ev) := KP.out.cell (by simp [h0p, h0b, h0s]) hE
            have HFI := hide (fun q => fill_scans p b s pos r n i m ev t (wr.drewN q) ST.out hps1 ht hpb hps hsb hE1 h0p h0b hm hfl HALL.out)
            have hnr : IntKind.i64.wrap ((n : Int) - (r : Int)) = (m : Int) := by rw [IntWalk.i64_in _ (by omega)]; omega
            have hm' := hide hm
            clear hm
            go_wp2
            go_quiet ((go_at_call 95; refine Calls.quiet_of_same (HI.out _)))
            go_wp2
            go_quiet ((go_at_call 97; exact HBU.out _ _))
            go_wp2
            go_quiet (fail)
            go_wp2_with (go_at_call 98; refine (HFI.out _).mono ?_; rintro x w2 ⟨rfl, hx⟩)
            obtain ⟨r', n', i', e', hsc', kp', hmz⟩ := hx
            go_roundw
            case rel => exact ⟨m, r', n', i', e', rfl, rfl, hsc', (KP.out.drewN _).trans kp'⟩
            case measure => exact hmz
        · have c4 : wr.cell? ⟨p, 4, none⟩ = some (.iface 168 ev) := by rw [row_cell HP.out]; rfl
          have hrd : ∀ q, Calls Tryz.prog 96 #[.pointer (some ⟨p, 0, none⟩)] ((wr.drewN q).setCell ⟨p, 2, none⟩ (.int .i64 (n : Int))) fun x w' => x = .returned (.iface 168 ev) ∧
              Got p b s t pos ev fv (n - r) (.slice (some ⟨b, r, none⟩) (n - r) (4096 - r)) (.iface 168 ev) w' ∧ Keeps [p, b, s] w w' := by
            intro q
            have hp2 : ((wr.drewN q).setCell ⟨p, 2, none⟩ (.int .i64 (n : Int))).heap[p]? = some (.cells (rdCells b s n n (.iface 168 ev) lb lr) 141 (0, 0)) := by
              rw [row_set (w := wr.drewN q) HP.out 2 _]; rfl
            refine (readErr_spec p b s n n (.iface 168 ev) lb lr _ (Or.inr ⟨_, _, rfl⟩) hp2).mono ?_
            rintro x w2 ⟨rfl, hp3, kp3⟩
            have sz : ∀ {k : Nat} {o : Obj}, wr.heap[k]? = some o → k < ((wr.drewN q).setCell ⟨p, 2, none⟩ (.int .i64 (n : Int))).heap.size := fun hk => by
              rw [World.size_setCell]; exact (Array.getElem?_eq_some_iff.1 hk).1
            refine ⟨rfl, got_of ST.out hps1 (lb := lb) (lr := lr) (r' := n) hp3 ?_ ?_ (by omega) (by omega) rfl (Or.inr (Or.inr ⟨rfl, by omega, HALL.out⟩)), ((KP.out.drewN q).setCell ⟨p, 2, none⟩ _ (by simp)).trans (kp3.mono (by simp))⟩
            · rw [kp3.block s (sz HS.out) (by simpa using Ne.symm hps)]; exact Below.heap_setCell _ _ _ _ (Ne.symm hps)
            · rw [kp3.block b (sz HB.out) (by simpa using Ne.symm hpb)]; exact Below.heap_setCell _ _ _ _ (Ne.symm hpb)
          have HRD := hide hrd
          have hr4 : ¬ (4096 = r) := by omega
          have hrn' : (r : Int) ≤ (n : Int) := by omega
          have hm' := hide hm
          have hr0' := hide hr0
          have hsvn' := hide hsvn
          have hit'' := hide hit'
          clear hm hr0 hsvn hrd hit'
          go_wp2
          go_quiet ((go_at_call 95; refine Calls.quiet_of_same (HI.out _)))
          go_wp2
          go_quiet (fail)
          go_wp2_with (go_at_call 96; refine (HRD.out _).mono ?_; rintro x w2 ⟨rfl, hx⟩)
          go_meet
          exact ⟨_, hx⟩
      · have hge := Lib.indexByte_ge l 10
        rw [hix] at hge
        obtain ⟨o, rfl⟩ : ∃ o : Nat, ix = (o : Int) := ⟨ix.toNat, by omega⟩
        obtain ⟨ho1, ho2⟩ := Lib.indexByte_some hix
        have holt : o < n - (r + sv) := by
          have := (List.getElem?_eq_some_iff.1 ho1).1
          omega
        have hT : t.data.toList[pos + (sv + o)]? = some 10 := (HLJ.out o holt) ▸ ho1
        obtain ⟨z, hz⟩ : ∃ z, o + sv = z := ⟨_, rfl⟩
        have hz' : IntKind.i64.wrap ((o : Int) + (sv : Int)) = (z : Int) := by rw [IntWalk.i64_in _ (by omega)]; omega
        have hz1 : IntKind.i64.wrap ((r : Int) + (z : Int)) = (r : Int) + (z : Int) := IntWalk.i64_in _ (by omega)
        have hz2 : IntKind.i64.wrap ((r : Int) + (z : Int) + 1) = (r : Int) + (z : Int) + 1 := IntWalk.i64_in _ (by omega)
        have hz3 : ((r : Int) + (z : Int) + 1).toNat = r + z + 1 := by omega
        have hz4 : (r : Int) + (z : Int) + 1 ≤ 4096 := by omega
        have hz5 : ¬ (4096 = r) := by omega
        have hz6 : (r : Int) ≤ (r : Int) + (z : Int) + 1 := by omega
        have hnil : e = .nilIface := by
          rcases hev with h | ⟨_, h1, _, h2⟩
          · exact h
          · omega
        have HG : Hid (∀ q, Got p b s t pos ev fv (z + 1) (.slice (some ⟨b, r, none⟩) (z + 1) (4096 - r)) .nilIface ((wr.drewN q).setCell ⟨p, 2, none⟩ (.int .i64 ((r + z + 1 : Nat) : Int))) ∧
            Keeps [p, b, s] w ((wr.drewN q).setCell ⟨p, 2, none⟩ (.int .i64 ((r + z + 1 : Nat) : Int)))) := by
          intro q
          refine ⟨got_of ST.out hps1 (lb := lb) (lr := lr) (r' := r + z + 1) ?_ (Below.heap_setCell _ _ _ _ (Ne.symm hps)) (Below.heap_setCell _ _ _ _ (Ne.symm hpb)) (by omega) (by omega) (by omega) (Or.inl ⟨rfl, by omega, ?_, fun j hj => ?_⟩), (KP.out.drewN q).setCell ⟨p, 2, none⟩ _ (by simp)⟩
          · rw [row_set (w := wr.drewN q) HP.out 2 _, hnil]; rfl
          · rw [show pos + (z + 1 - 1) = pos + (sv + o) by omega]; exact hT
          · by_cases hjs : j < sv
            · exact HNO.out j hjs
            · have := ho2 (j - sv) (by omega)
              rw [HLJ.out (j - sv) (by omega), show sv + (j - sv) = j by omega] at this
              exact this
        have hgeq : (0 : Int) ≤ (o : Int) := by omega
        clear hix ho1 ho2 hT hge
        go_wp2
        go_quiet ((go_at_call 95; refine Calls.quiet_of_same (HI.out _)))
        go_wp2
        go_quiet (fail)
        go_wp2
        have ez : (r : Int) + ((z : Int) + 1) = ((r + z + 1 : Nat) : Int) := by omega
        have ez' : r + z + 1 - r = z + 1 := by omega
        rw [ez, ez']
        go_meet
        exact ⟨z + 1, HG.out _⟩
  case rest =>
    obtain ⟨k, hg, kp⟩ := hcut
    have HG := hide hg
    have KP := hide kp
    obtain ⟨⟨off, c, rfl, hby⟩, hk1, hk2, ⟨r, n, i, ⟨lb, lr, pv, cur, hp, hs, hbb, hrest⟩, hps1⟩, he⟩ := hg
    have c5 : wc.cell? ⟨p, 5, none⟩ = some lb := by rw [row_cell hp]; rfl
    have c6 : wc.cell? ⟨p, 6, none⟩ = some lr := by rw [row_cell hp]; rfl
    have f5 : wc.frozen? ⟨p, 5, none⟩ = false := row_frozen hp 5
    have f6 : wc.frozen? ⟨p, 6, none⟩ = false := row_frozen hp 6
    cases k with
    | zero =>
      clear hp hs hbb hrest he hby h0
      go_wp2
      exact bodyPost_ret (v := .tuple #[.slice (some ⟨b, off, none⟩) 0 c, u5]) (by simp [results, Tryz.results85, go_sem]) rfl ⟨_, _, 0, rfl, HG.out, KP.out⟩
    | succ k =>
      obtain ⟨x, hx, hcx⟩ := hby k (Nat.lt_succ_self _)
      have hkw : IntKind.i64.wrap (((k + 1 : Nat) : Int) - 1) = (k : Int) := by rw [IntWalk.i64_in _ (by omega)]; omega
      have hkw' : IntKind.i64.wrap ((k : Int) + 1 - 1) = (k : Int) := by rw [IntWalk.i64_in _ (by omega)]; omega
      have hxl := UInt8.toNat_lt x
      have HX := hide hx
      clear hp hs hbb hrest he hby h0 hx
      go_wp2
      exact bodyPost_ret (v := .tuple #[.slice (some ⟨b, off, none⟩) (k + 1) c, u5]) (by simp [results, Tryz.results85, go_sem]) rfl ⟨_, _, k + 1, rfl, HG.out.note hpb hps _ _, (KP.out.setCell ⟨p, 5, none⟩ _ (by simp)).setCell ⟨p, 6, none⟩ _ (by simp)⟩

end Go.Proofs.Qxb6605907aGreatFmt.Sx
