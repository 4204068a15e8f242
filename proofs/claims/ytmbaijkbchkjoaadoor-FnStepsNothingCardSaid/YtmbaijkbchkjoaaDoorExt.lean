/- objectFieldsVisibility of an object that is laid over another; of any object. -/
import Derived.Test.YtmbaijkbchkjoaaDoorObj
namespace Go.Proofs.YtmbaijkbchkjoaaDoor
open Go.RowKit Go.Maps Go.Sort
attribute [local go_sem] ee re rr se sr ss
theorem zeroH (w : World) : (zeroValue 44).run Tryd.prog w = .ok (.int .i64 0) w := by kernel_rfl

set_option maxRecDepth 100000 in
set_option maxHeartbeats 1600000 in
theorem vis_ext (p nl nr : Nat) (vl vr : Value) (z : Int) (FL FR : FF) (w : World) (h : w.heap[p]? = some (extObj vl vr z))
    (hL : ∀ w', Below w.heap.size w w' → Calls Tryd.prog 23 #[vl] w' (VisOk FL nl w'))
    (hR : ∀ w', Below w.heap.size w w' → Calls Tryd.prog 23 #[vr] w' (VisOk FR nr w')) (hn : nl + nr ≤ 2000) :
    Calls Tryd.prog 23 #[extV p] w (VisOk (FL.over FR) (nl + nr) w) := by
  have hmm := @run_makeMap Tryd.prog
  have hp := (Array.getElem?_eq_some_iff.1 h).1
  have hc1 : (w.alloc (.map #[] 0)).cell? ⟨p, 0, none⟩ = some vl := by
    rw [cell_of_row _ p 0 _ _ (0, 0) ((Below.heap_alloc w (.map #[] 0) p hp).trans h)]
    rfl
  have hb0 := (Below.refl w.heap.size w).alloc (Nat.le_refl _) (.map #[] 0)
  have HL := Lib.hid (hL _ hb0)
  have HR := Lib.hid hR
  have HB0 := Lib.hid hb0
  have HP := Lib.hid h
  clear hL hR hb0 h
  unfold extV
  go_enter Tryd.func23, Tryd.ntmps23
  go_wp2_with fail
  refine HL.out.mono ?_
  rintro e w1 ⟨bL, rfl, hmL, hbL, hb1⟩
  have HB1 := Lib.hid (HB0.out.trans (hb1.mono HB0.out.size))
  have hc2 : w1.cell? ⟨p, 1, none⟩ = some vr := by
    rw [cell_of_row _ p 1 _ _ (0, 0) ((HB1.out.block p hp).trans HP.out)]
    rfl
  have hbLlt := hmL.lt
  have hwbL : w.heap.size < bL := by simp at hbL; omega
  have HML := Lib.hid hmL
  have HR1 := Lib.hid (HR.out _ HB1.out)
  clear hc1 hmL hb1 HL HB0 hbL
  go_wp2_with fail
  refine HR1.out.mono ?_
  rintro e w2 ⟨bR, rfl, hmR, hbR, hb2⟩
  obtain ⟨D, hown, hrf⟩ := hmR
  obtain ⟨DL, hownL, hrfL⟩ := HML.out.below hb2
  have hsz2 := hb2.size
  have hszD := hown.size_le
  have hbRlt := hown.lt
  have HO := Lib.hid hown
  have HRF := Lib.hid hrf
  have HOL := Lib.hid hownL
  have HRFL := Lib.hid hrfL
  have HB2 := Lib.hid (HB1.out.trans (hb2.mono HB1.out.size))
  have hlr : bL ≠ bR := by omega
  clear hc2 hown hrf hownL hrfL hb2 HR HR1 HML
  go_wp2_with (first
    | (at_range; refine wpList_range_own _ rfl _ 56 rfl 9 44 law9 Tryd.underlying56 _ bR nr _ rfl HO.out ?_; intro w0 hrg0 hg0 hs0))
  go_frame
  have HB3 := Lib.hid (HB2.out.grown hg0 HB2.out.size (fun j hj => by cases hj))
  have HOL3 := Lib.hid (HOL.out.kept hg0 (by simp))
  clear hs0 hg0
  go_loopw [6, 7] (fun _ _ wr => ∃ (left : Lit → Bool) (cnt : Nat) (D' : DU), wr.ranges Tryd.prog 9 (plainElem Tryd.prog 44) bR w2.heap.size nr D left cnt ∧ cnt ≤ Maps.size D ∧
      wr.ownsMap Tryd.prog 9 (plainElem Tryd.prog 44) bL (nl + (Maps.size D - cnt)) D' ∧ RF D' (Part FL FR left) ∧ Below w.heap.size w wr)
    (fun _ _ wr => wr.rangeLeft bR w2.heap.size)
  case atStart =>
    exact ⟨_, _, DL, hrg0, Nat.le_refl _, HOL3.out.mono (by omega), by rw [Part.start HRF.out]; exact HRFL.out, HB3.out⟩
  case round =>
    obtain ⟨left, cnt, D', hrg, hcs, hout, hA, hnx⟩ := hrel
    have HA := Lib.hid hA
    clear hA
    go_wp2_with (first
      | (at_next; refine wpList_next_ranges _ rfl _ rfl 9 law9 (plainElem Tryd.prog 44) encStr (Value.int .i64) invStr invHide bR w2.heap.size nr _ _ _ rfl hrg ?_ ?_))
    · intro hc0 hl0
      have hfin := HA.out
      rw [Part.stop hl0] at hfin
      have HF := Lib.hid hfin
      clear hfin
      go_wp2
      go_ret
      exact ⟨bL, rfl, ⟨D', hout.mono (by omega), HF.out⟩, by omega, hnx⟩
    · intro x c kl yd yp w3 cnt1 hkey hlk hv hat hrg1 hlt hg1 hs1 hen
      obtain ⟨x', ex, rfl, hxm⟩ := Maps.keyOf_str Tryd.underlying9 hkey
      obtain rfl : x = x' := encStr_inj ex
      obtain ⟨c', ec, hz, hwc⟩ := plainElem_int_inv Tryd.underlying44 hv
      injection ec with _ hcc
      subst hcc
      obtain ⟨rfl, _⟩ := Prod.mk.inj hz
      have hFx := HRF.out.at_ hat
      have HFX := Lib.hid hFx
      have HLK := Lib.hid hlk
      have HOUT1 := Lib.hid (hout.kept hg1 (by simp; omega))
      have HB1' := Lib.hid (hnx.grown hg1 hnx.size (fun j hj => by cases hj; have := HB2.out.size; omega))
      have HRG1 := Lib.hid hrg1
      have HRG := Lib.hid hrg
      have HWC := Lib.hid hwc
      have HKEY := Lib.hid hkey
      have HSZ := Lib.hid hszD
      have hg2' : ∀ g, some bL = some g → w.heap.size ≤ g := fun g hg => by cases hg; omega
      have HG2 := Lib.hid hg2'
      clear hkey hlk hv hat hs1 ex hz hFx hwc hxm hszD hg2'
      by_cases hc1 : c = 1
      · subst hc1
        have hpl : Part FL FR left (.string x) = FL (.string x) := by unfold Part; rw [if_pos HLK.out]
        cases hfl : FL (.string x) with
        | some u =>
          have hhas : Maps.has D' (.string x) = true := by rw [HA.out.1, hpl, hfl]; rfl
          have hskip := part_skip (key_str x) HFX.out hfl HLK.out
          have HA1 := HA.out
          rw [← hskip] at HA1
          have HA1 := Lib.hid HA1
          clear hpl hfl hskip
          go_wp2_with (first
            | (at_lookup; refine wpList_lookup_own_ok_int _ rfl _ _ 56 rfl 9 44 .i64 law9 Tryd.underlying56 Tryd.underlying44 (zeroH _) bL _ _ rfl HOUT1.out _ _ rfl HKEY.out ?_; intro c0 hat0 hwc0; rw [hhas]))
          clear hhas
          go_roundw
          case rel => exact ⟨_, cnt1, _, HRG1.out, by omega, HOUT1.out.mono (by omega), HA1.out, HB1'.out⟩
          case measure => rw [HRG1.out.left_eq, HRG.out.left_eq]; exact hlt
        | none =>
          have hhas : Maps.has D' (.string x) = false := by rw [HA.out.1, hpl, hfl]; rfl
          have hput := part_put (left := left) (L := FL) (key_str x) HFX.out (.inr hfl)
          have hA1 := HA.out.put hout.isMap (key_str x) (v := 1)
          rw [hput] at hA1
          have HA1 := Lib.hid hA1
          clear hput hA1 hpl hfl
          go_wp2_with (first
            | (at_lookup; refine wpList_lookup_own_ok_int _ rfl _ _ 56 rfl 9 44 .i64 law9 Tryd.underlying56 Tryd.underlying44 (zeroH _) bL _ _ rfl HOUT1.out _ _ rfl HKEY.out ?_; intro c0 hat0 hwc0; rw [hhas])
            | (at_mapUpdate; refine wpList_mapUpdate_own _ rfl _ _ _ 56 rfl 9 44 law9 Tryd.underlying56 _ bL _ _ rfl HOUT1.out (by have := HSZ.out; unfold maxLen; omega) _ _ _ rfl rfl HKEY.out _ [] (plainElem_int Tryd.underlying44 HWC.out) ?_; intro w4 hout2 hg2; go_frame))
          have hrg2 := HRG1.out.kept hg2 (fun e => by have := Option.some.inj e; omega) (fun e => by have := Option.some.inj e; omega)
          have HRG2 := Lib.hid hrg2
          have HB4 := Lib.hid (HB1'.out.grown hg2 HB1'.out.size HG2.out)
          clear hrg2
          go_roundw
          case rel => exact ⟨_, cnt1, _, HRG2.out, by omega, hout2.mono (by omega), HA1.out, HB4.out⟩
          case measure => rw [HRG2.out.left_eq, HRG.out.left_eq]; exact hlt
      · have hput := part_put (left := left) (L := FL) (key_str x) HFX.out (.inl hc1)
        have hA1 := HA.out.put hout.isMap (key_str x) (v := c)
        rw [hput] at hA1
        have HA1 := Lib.hid hA1
        clear hput hA1
        go_wp2_with (first
          | (at_mapUpdate; refine wpList_mapUpdate_own _ rfl _ _ _ 56 rfl 9 44 law9 Tryd.underlying56 _ bL _ _ rfl HOUT1.out (by have := HSZ.out; unfold maxLen; omega) _ _ _ rfl rfl HKEY.out _ [] (plainElem_int Tryd.underlying44 HWC.out) ?_; intro w4 hout2 hg2; go_frame))
        have hrg2 := HRG1.out.kept hg2 (fun e => by have := Option.some.inj e; omega) (fun e => by have := Option.some.inj e; omega)
        have HRG2 := Lib.hid hrg2
        have HB4 := Lib.hid (HB1'.out.grown hg2 HB1'.out.size HG2.out)
        clear hrg2
        go_roundw
        case rel => exact ⟨_, cnt1, _, HRG2.out, by omega, hout2.mono (by omega), HA1.out, HB4.out⟩
        case measure => rw [HRG2.out.left_eq, HRG.out.left_eq]; exact hlt

/-- Of any object. -/
theorem vis_any {w : World} {v : Value} {F : FF} {n : Nat} (h : Ob w v F n) : n ≤ 2000 → ∀ w', Below w.heap.size w w' → Calls Tryd.prog 23 #[v] w' (VisOk F n w') := by
  induction h with
  | simple p bm n F h hm => exact fun hn w' hb => vis_simple p bm n F w' (heap_below h hb) (hm.below hb) hn
  | restr p bm n F v F' n' h hm _ _ => exact fun hn w' hb => vis_restr p bm n F v w' (heap_below h hb) (hm.below hb) hn
  | ext p vl vr z FL FR nl nr h _ _ ihl ihr =>
    exact fun hn w' hb => vis_ext p nl nr vl vr z FL FR w' (heap_below h hb) (fun w2 hb2 => ihl (by omega) w2 (hb.trans (hb2.mono hb.size))) (fun w2 hb2 => ihr (by omega) w2 (hb.trans (hb2.mono hb.size))) hn

set_option maxRecDepth 100000 in
theorem objVis_any (po n : Nat) (F : FF) (w : World) (h : VO w po F n) (hn : n ≤ 2000) :
    Calls Tryd.prog 20 #[.pointer (some ⟨po, 0, none⟩)] w (VisOk F n w) := by
  obtain ⟨c, v, h1, h2⟩ := h
  have hc : w.cell? ⟨po, 2, none⟩ = some v := by rw [cell_of_row _ po 2 _ _ (0, 0) h1]; rfl
  have C := Lib.hid (vis_any h2 hn w (Below.refl _ _))
  clear h1 h2
  go_enter Tryd.func20, Tryd.ntmps20
  go_wp2_with fail
  refine C.out.mono ?_
  rintro e w1 ⟨b, rfl, hm, hb, hb1⟩
  have HM := Lib.hid hm
  clear hm
  go_wp2_with fail
  go_ret
  exact ⟨b, rfl, HM.out, hb, hb1⟩
end Go.Proofs.YtmbaijkbchkjoaaDoor
