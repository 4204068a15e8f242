/- PartVisibility: the fields of the object that steps make, as a map. -/
import Derived.Test.YtmbaijkbchkjoaaDoorChain
namespace Go.Proofs.YtmbaijkbchkjoaaDoor
open Go.RowKit Go.Maps Go.Sort

/-- What PartVisibility hands back. -/
def PVOk (F : FF) (w : World) (e : Ending) (w' : World) : Prop := ∃ b n D, e = .returned (.map (some b)) ∧ n ≤ 240 ∧ w'.ownsMap Tryd.prog 9 (plainElem (H := Unit) Tryd.prog 3) b n D ∧ RF D F ∧ w.heap.size ≤ b ∧ Below w.heap.size w w'

set_option maxRecDepth 100000 in
set_option maxHeartbeats 1600000 in
theorem partV_any (A : Option Addr) (n c : Nat) (js : List St) (w : World) (h : JsAt w w.heap.size A n js) (hf : ∀ e ∈ js, Fine e) (hn : n ≤ 20) :
    Calls Tryd.prog 15 #[.slice A n c] w (PVOk (chainF js) w) := by
  have hmm := @run_makeMap Tryd.prog
  have hb0 := (Below.refl w.heap.size w).alloc (Nat.le_refl _) (.map #[] 0)
  have C1 := Lib.hid (chain_any A n c js _ (h.below hb0) hf hn)
  have HB0 := Lib.hid hb0
  have HM0 := Lib.hid (World.ownsMap_made w Tryd.prog 9 (plainElem (H := Unit) Tryd.prog 3))
  clear h hf hb0
  go_enter Tryd.func15, Tryd.ntmps15
  go_wp2_with fail
  refine C1.out.mono ?_
  rintro e w1 ⟨po, n', rfl, hn', hvo, hb1⟩
  have C2 := Lib.hid (objVis_any po n' _ w1 hvo (by omega))
  have HB1 := Lib.hid (HB0.out.trans (hb1.mono HB0.out.size))
  have HM1 := Lib.hid (own_below HM0.out hb1)
  clear hvo hb1 C1
  go_wp2_with fail
  refine C2.out.mono ?_
  rintro e w2 ⟨bm, rfl, ⟨D, hown, hrf⟩, hbm, hb2⟩
  have hsz := hown.size_le
  have HO := Lib.hid hown
  have HRF := Lib.hid hrf
  have HB2 := Lib.hid (HB1.out.trans (hb2.mono HB1.out.size))
  have HM2 := Lib.hid (own_below HM1.out hb2)
  have hwb : w.heap.size < bm := by have := HM1.out.lt; omega
  have hbl := hown.lt
  clear hown hrf hb2 C2 hbm
  go_wp2_with (first
    | (at_range; refine wpList_range_own _ rfl _ 56 rfl 9 44 law9 Tryd.underlying56 _ bm n' _ rfl HO.out ?_; intro w0 hrg0 hg0 hs0))
  go_frame
  have HB3 := Lib.hid (HB2.out.grown hg0 HB2.out.size (fun j hj => by cases hj))
  have HM3 := Lib.hid (HM2.out.kept hg0 (by simp))
  have HS2 := Lib.hid HB2.out.size
  clear hg0 hs0
  go_loopw [4] (fun _ wr => ∃ (left : Lit → Bool) (cnt : Nat) (D' : DU), wr.ranges Tryd.prog 9 (plainElem Tryd.prog 44) bm w2.heap.size n' D left cnt ∧ cnt ≤ Maps.size D ∧
      wr.ownsMap Tryd.prog 9 (plainElem Tryd.prog 3) w.heap.size (Maps.size D - cnt) D' ∧ RF D' (Part FF.none (chainF js) left) ∧ Below w.heap.size w wr)
    (fun _ wr => wr.rangeLeft bm w2.heap.size)
  case atStart =>
    exact ⟨_, _, .map [], hrg0, Nat.le_refl _, HM3.out.mono (Nat.zero_le _), by rw [Part.start HRF.out]; exact RF.empty, HB3.out⟩
  case round =>
    obtain ⟨left, cnt, D', hrg, hcs, hout, hA, hnx⟩ := hrel
    have HA := Lib.hid hA
    clear hA
    go_wp2_with (first
      | (at_next; refine wpList_next_ranges _ rfl _ rfl 9 law9 (plainElem Tryd.prog 44) encStr (Value.int .i64) invStr invHide bm w2.heap.size n' _ _ _ rfl hrg ?_ ?_))
    · intro hc0 hl0
      have hfin := HA.out
      rw [Part.stop hl0, FF.none_over] at hfin
      have HF := Lib.hid hfin
      clear hfin
      go_wp2
      go_ret
      exact ⟨w.heap.size, n', D', rfl, hn', hout.mono (by omega), HF.out, Nat.le_refl _, hnx⟩
    · intro x c kl yd yp w3 cnt1 hkey hlk hv hat hrg1 hlt hg1 hs1 hen
      obtain ⟨x', ex, rfl, hxm⟩ := Maps.keyOf_str Tryd.underlying9 hkey
      obtain rfl : x = x' := encStr_inj ex
      obtain ⟨c', ec, hz, hwc⟩ := plainElem_int_inv Tryd.underlying44 hv
      injection ec with _ hcc
      subst hcc
      obtain ⟨rfl, _⟩ := Prod.mk.inj hz
      have hFx := HRF.out.at_ hat
      have hput := part_put (left := left) (L := FF.none) (key_str x) hFx (.inr rfl)
      have hA1 := HA.out.put hout.isMap (key_str x) (v := c)
      rw [hput] at hA1
      have HA1 := Lib.hid hA1
      have HOUT1 := Lib.hid (hout.kept hg1 (by have := HS2.out; simp; have := HM2.out.lt; omega))
      have HB1' := Lib.hid (hnx.grown hg1 hnx.size (fun j hj => by cases hj; exact HS2.out))
      have HRG1 := Lib.hid hrg1
      have HRG := Lib.hid hrg
      have HWC := Lib.hid hwc
      have HKEY := Lib.hid hkey
      have HSZ := Lib.hid hsz
      have hne := HM2.out.lt
      clear hkey hlk hv hat hs1 ex hz hFx hput hA1 hwc hxm hsz
      go_wp2_with (first
        | (at_mapUpdate; refine wpList_mapUpdate_own _ rfl _ _ _ 40 rfl 9 3 law9 Tryd.underlying40 _ w.heap.size _ _ rfl HOUT1.out (by have := HSZ.out; unfold maxLen; omega) _ _ _ rfl rfl HKEY.out _ [] (plainElem_int Tryd.underlying3 HWC.out) ?_; intro w4 hout2 hg2; go_frame))
      have hg2' : ∀ g, some w.heap.size = some g → w.heap.size ≤ g := fun g hg => by cases hg; exact Nat.le_refl _
      have hrg2 := HRG1.out.kept hg2 (fun e => by have := Option.some.inj e; omega) (fun e => by have := Option.some.inj e; omega)
      have hb2 := HB1'.out.grown hg2 HB1'.out.size hg2'
      have HRG2 := Lib.hid hrg2
      have HB2 := Lib.hid hb2
      clear hrg2 hb2 hg2'
      go_roundw
      case rel => exact ⟨_, cnt1, _, HRG2.out, by omega, hout2.mono (by omega), HA1.out, HB2.out⟩
      case measure => rw [HRG2.out.left_eq, HRG.out.left_eq]; exact hlt
end Go.Proofs.YtmbaijkbchkjoaaDoor
