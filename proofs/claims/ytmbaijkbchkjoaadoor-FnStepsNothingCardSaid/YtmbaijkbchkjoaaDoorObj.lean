/- Objects as they lie in memory, and which fields they are said to have: objectFieldsVisibility. -/
import Derived.Test.YtmbaijkbchkjoaaDoorFM
import Derived.WalkKit
import Derived.WalkLawsBesides
import Derived.WalkSpells
import Derived.Lib.Hide
import Derived.Handy
namespace Go.Proofs.YtmbaijkbchkjoaaDoor
open Go.RowKit Go.Maps Go.Sort

def simpleV (p : Nat) : Value := .iface 82 (.pointer (some ⟨p, 0, none⟩))
def restrV (p : Nat) : Value := .iface 75 (.pointer (some ⟨p, 0, none⟩))
def extV (p : Nat) : Value := .iface 79 (.pointer (some ⟨p, 0, none⟩))
def simpleObj (bm : Nat) : Obj := .cells #[.map none, .map (some bm), .slice none 0 0, .slice none 0 0] 90
def restrObj (v : Value) (bm : Nat) : Obj := .cells #[v, .map (some bm)] 74
def extObj (l r : Value) (z : Int) : Obj := .cells #[l, r, .int .i64 z] 81
def valObj (c : Nat) (v : Value) : Obj := .cells #[.nilIface, .map (some c), v] 70

/-- An object (uncachedObject) that has the fields F, of at most n entries. -/
inductive Ob (w : World) : Value → FF → Nat → Prop
  | simple (p bm n : Nat) (F : FF) (h : w.heap[p]? = some (simpleObj bm)) (hm : MapS w bm n F) : Ob w (simpleV p) F n
  | restr (p bm n : Nat) (F : FF) (v : Value) (F' : FF) (n' : Nat) (h : w.heap[p]? = some (restrObj v bm)) (hm : MapF w bm n F) (ho : Ob w v F' n') : Ob w (restrV p) F n
  | ext (p : Nat) (vl vr : Value) (z : Int) (FL FR : FF) (nl nr : Nat) (h : w.heap[p]? = some (extObj vl vr z)) (hl : Ob w vl FL nl) (hr : Ob w vr FR nr) : Ob w (extV p) (FL.over FR) (nl + nr)
theorem heap_below {w w' : World} {p : Nat} {o : Obj} (h : w.heap[p]? = some o) (hb : Below w.heap.size w w') : w'.heap[p]? = some o := (hb.block p (Array.getElem?_eq_some_iff.1 h).1).trans h
theorem Ob.keep {w w' : World} {v : Value} {F : FF} {n : Nat} (h : Ob w v F n) (hb : Below w.heap.size w w') : Ob w' v F n := by
  induction h with
  | simple p bm n F h hm => exact .simple p bm n F (heap_below h hb) (hm.below hb)
  | restr p bm n F v F' n' h hm _ ih => exact .restr p bm n F v F' n' (heap_below h hb) (hm.below hb) ih
  | ext p vl vr z FL FR nl nr h _ _ ihl ihr => exact .ext p vl vr z FL FR nl nr (heap_below h hb) ihl ihr
/-- A value that is an object. -/
def VO (w : World) (po : Nat) (F : FF) (n : Nat) : Prop := ∃ c v, w.heap[po]? = some (valObj c v) ∧ Ob w v F n
theorem VO.below {w w' : World} {po : Nat} {F : FF} {n : Nat} (h : VO w po F n) (hb : Below w.heap.size w w') : VO w' po F n := by
  obtain ⟨c, v, h1, h2⟩ := h
  exact ⟨c, v, heap_below h1 hb, h2.keep hb⟩

theorem ee (v : Value) (w : World) : (Instr.typeAssert (.iface 79 v) 68 79 true).run Tryd.prog w = .ok (.tuple #[v, .bool true]) w := by kernel_rfl
theorem re (v : Value) (w : World) : (Instr.typeAssert (.iface 75 v) 68 79 true).run Tryd.prog w = .ok (.tuple #[.pointer none, .bool false]) w := by kernel_rfl
theorem rr (v : Value) (w : World) : (Instr.typeAssert (.iface 75 v) 68 75 true).run Tryd.prog w = .ok (.tuple #[v, .bool true]) w := by kernel_rfl
theorem se (v : Value) (w : World) : (Instr.typeAssert (.iface 82 v) 68 79 true).run Tryd.prog w = .ok (.tuple #[.pointer none, .bool false]) w := by kernel_rfl
theorem sr (v : Value) (w : World) : (Instr.typeAssert (.iface 82 v) 68 75 true).run Tryd.prog w = .ok (.tuple #[.pointer none, .bool false]) w := by kernel_rfl
theorem ss (v : Value) (w : World) : (Instr.typeAssert (.iface 82 v) 68 82 true).run Tryd.prog w = .ok (.tuple #[v, .bool true]) w := by kernel_rfl
attribute [local go_sem] ee re rr se sr ss

theorem RF.at_ {D : DU} {F : FF} {kl : Lit} {c : Int} (h : RF D F) (hat : ∀ zd, D.atKey kl zd = hideD c) : F kl = some c := by
  have h1 := h.1 kl
  rw [has_true_of_atKey hat] at h1
  obtain ⟨u, hu⟩ := Option.isSome_iff_exists.1 h1.symm
  have h2 := h.2 kl u .nil hu
  rw [hat .nil] at h2
  have h3 : c = u := by
    unfold hideD at h2
    injection h2 with h2
    injection h2
  rw [hu, h3]
theorem part_put {L R : FF} {left : Lit → Bool} {kl : Lit} {v : Int} (hk : WideAt.IsKeyLit kl) (hR : R kl = some v) (hc : v ≠ 1 ∨ L kl = none) : (Part L R left).put kl v = Part L R (fun z => left z && !z.sameKey kl) := by
  rw [Part.strike hk]
  funext k
  unfold FF.put
  by_cases e : k = kl
  · rw [if_pos e, if_pos e]
    unfold FF.over
    rcases hc with hc | hc
    · simp [hR, hc]
    · by_cases h1 : v = 1 <;> simp [hR, hc, h1]
  · rw [if_neg e, if_neg e]
theorem part_skip {L R : FF} {left : Lit → Bool} {kl : Lit} {u : Int} (hk : WideAt.IsKeyLit kl) (hR : R kl = some 1) (hL : L kl = some u) (hl : left kl = true) : Part L R (fun z => left z && !z.sameKey kl) = Part L R left := by
  rw [Part.strike hk]
  funext k
  by_cases e : k = kl
  · rw [if_pos e, e]
    unfold FF.over Part
    simp [hR, hl, hL]
  · rw [if_neg e]
theorem key_str (x : List UInt8) : WideAt.IsKeyLit (.string x) := trivial

/-- What the visibility of an object is told as. -/
def VisOk (F : FF) (n : Nat) (w : World) (e : Ending) (w' : World) : Prop := ∃ b, e = .returned (.map (some b)) ∧ MapF w' b n F ∧ w.heap.size ≤ b ∧ Below w.heap.size w w'

set_option maxRecDepth 100000 in
set_option maxHeartbeats 1600000 in
theorem vis_simple (p bm n : Nat) (F : FF) (w : World) (h : w.heap[p]? = some (simpleObj bm)) (hm : MapS w bm n F) (hn : n ≤ 2000) :
    Calls Tryd.prog 23 #[simpleV p] w (VisOk F n w) := by
  obtain ⟨D, hown, hrf⟩ := hm
  have hmm := @run_makeMap Tryd.prog
  have hbl := hown.lt
  have hp := (Array.getElem?_eq_some_iff.1 h).1
  have hc1 : (w.alloc (.map #[] 0)).cell? ⟨p, 1, none⟩ = some (.map (some bm)) := by
    rw [cell_of_row _ p 1 _ _ (0, 0) ((Below.heap_alloc w (.map #[] 0) p hp).trans h)]
    rfl
  have e1 : (w.alloc (.map #[] 0)).heap.size = w.heap.size + 1 := by simp
  have HO := Lib.hid hown
  have HRF := Lib.hid hrf
  have hsz := hown.size_le
  clear h hrf
  unfold simpleV
  go_enter Tryd.func23, Tryd.ntmps23
  go_wp2_with (first
    | (at_range; refine wpList_range_own _ rfl _ 86 rfl 9 94 law9 Tryd.underlying86 _ bm n _ rfl (HO.out.alloc _) ?_; intro w0 hrg0 hg0 hs0))
  go_frame
  rw [e1] at hrg0 hs0 ⊢
  have hg0' := hg0
  have HB0 := Lib.hid (((Below.refl w.heap.size w).alloc (Nat.le_refl _) (.map #[] 0)).grown hg0 (by simp) (fun j hj => by cases hj))
  have HM0 := Lib.hid (((World.ownsMap_made w Tryd.prog 9 (plainElem (H := Unit) Tryd.prog 44)).kept hg0 (by simp)))
  clear hc1 hg0 hg0' hs0
  go_loopw [14] (fun _ wr => ∃ (left : Lit → Bool) (cnt : Nat) (D' : DU), wr.ranges Tryd.prog 9 fieldElem bm (w.heap.size + 1) n D left cnt ∧ cnt ≤ Maps.size D ∧
      wr.ownsMap Tryd.prog 9 (plainElem Tryd.prog 44) w.heap.size (Maps.size D - cnt) D' ∧ RF D' (Part FF.none F left) ∧ Below w.heap.size w wr)
    (fun _ wr => wr.rangeLeft bm (w.heap.size + 1))
  case atStart =>
    exact ⟨_, _, .map [], hrg0, Nat.le_refl _, HM0.out.mono (Nat.zero_le _), by rw [Part.start HRF.out]; exact RF.empty, HB0.out⟩
  case round =>
    obtain ⟨left, cnt, D', hrg, hcs, hout, hA, hnx⟩ := hrel
    have HA := Lib.hid hA
    clear hA
    go_wp2_with (first
      | (at_next; refine wpList_next_ranges _ rfl _ rfl 9 law9 fieldElem encStr (fun c : Int => .agg #[.nilIface, .int .i64 c]) (fun key kl hk => by obtain ⟨x, hx, _⟩ := Maps.keyOf_str Tryd.underlying9 hk; exact ⟨x, hx⟩) (fun v y hv => by obtain ⟨c, rfl, _⟩ := fieldElem_inv hv; exact ⟨c, rfl⟩) bm (w.heap.size + 1) n _ _ _ rfl hrg ?_ ?_))
    · intro hc0 hl0
      have hfin := HA.out
      rw [Part.stop hl0, FF.none_over] at hfin
      have HF := Lib.hid hfin
      clear hfin
      go_wp2
      go_ret
      exact ⟨w.heap.size, rfl, ⟨D', hout.mono (by omega), HF.out⟩, Nat.le_refl _, hnx⟩
    · intro x c kl yd yp w1 cnt1 hkey hlk hv hat hrg1 hlt hg1 hs1 hen
      obtain ⟨x', ex, rfl, hxm⟩ := Maps.keyOf_str Tryd.underlying9 hkey
      obtain rfl : x = x' := encStr_inj ex
      obtain ⟨c', ec, hz, hwc⟩ := fieldElem_inv hv
      have hcc : c' = c := by
        injection ec with ec
        have := congrArg (fun a : Array Value => a.toList) ec
        simp at this
        exact this.symm
      subst hcc
      obtain ⟨rfl, _⟩ := Prod.mk.inj hz
      have hFx := HRF.out.at_ hat
      have hput := part_put (left := left) (L := FF.none) (key_str x) hFx (.inr rfl)
      have hA1 := HA.out.put hout.isMap (key_str x) (v := c')
      rw [hput] at hA1
      have HA1 := Lib.hid hA1
      have hout1 := hout.kept hg1 (by simp)
      have HOUT1 := Lib.hid hout1
      have HB1 := Lib.hid (hnx.grown hg1 hnx.size (fun j hj => by cases hj; exact Nat.le_succ _))
      have hsw := hnx.size
      have hsw1 : w1.heap.size = wr.heap.size := hs1
      have HS1 := Lib.hid hs1
      have HRG1 := Lib.hid hrg1
      have HRG := Lib.hid hrg
      have HWC := Lib.hid hwc
      have HKEY := Lib.hid hkey
      have HSZ := Lib.hid hsz
      clear hkey hlk hv hat hs1 hsw1 ex ec hz hFx hput hA1 hout1 hwc hxm hsz
      go_wp2_with (first
        | (at_mapUpdate; refine wpList_mapUpdate_own _ rfl _ _ _ 56 rfl 9 44 law9 Tryd.underlying56 _ w.heap.size _ _ rfl (HOUT1.out.alloc _) (by have := HSZ.out; unfold maxLen; omega) _ _ _ rfl rfl HKEY.out _ [] (plainElem_int Tryd.underlying44 HWC.out) ?_; intro w2 hout2 hg2; go_frame))
      have hg2' : ∀ g, some w.heap.size = some g → w.heap.size ≤ g := fun g hg => by cases hg; exact Nat.le_refl _
      have hrg2 := (HRG1.out.alloc (.cells #[.nilIface, .int .i64 c'] 94)).kept hg2 (fun e => by have := Option.some.inj e; omega) (fun e => by have := Option.some.inj e; omega)
      have hb2 := (HB1.out.alloc HB1.out.size (.cells #[.nilIface, .int .i64 c'] 94)).grown hg2 (by have := HB1.out.size; simp; omega) hg2'
      have HRG2 := Lib.hid hrg2
      have HB2 := Lib.hid hb2
      clear hrg2 hb2 hg2'
      go_roundw
      case rel => exact ⟨_, cnt1, _, HRG2.out, by omega, hout2.mono (by omega), HA1.out, HB2.out⟩
      case measure => rw [HRG2.out.left_eq, HRG.out.left_eq]; exact hlt

theorem invStr (key : Value) (kl : Lit) (hk : keyOf Tryd.prog 9 key = some kl) : ∃ x, key = encStr x := by
  obtain ⟨x, hx, _⟩ := Maps.keyOf_str Tryd.underlying9 hk
  exact ⟨x, hx⟩
theorem invHide (v : Value) (y : DU × List MemPlace) (hv : plainElem Tryd.prog 44 v = some y) : ∃ c, v = .int .i64 c := by
  obtain ⟨c, rfl, _⟩ := plainElem_int_inv Tryd.underlying44 hv
  exact ⟨c, rfl⟩

set_option maxRecDepth 100000 in
set_option maxHeartbeats 1600000 in
theorem vis_restr (p bm n : Nat) (F : FF) (v : Value) (w : World) (h : w.heap[p]? = some (restrObj v bm)) (hm : MapF w bm n F) (hn : n ≤ 2000) :
    Calls Tryd.prog 23 #[restrV p] w (VisOk F n w) := by
  obtain ⟨D, hown, hrf⟩ := hm
  have hmm := @run_makeMap Tryd.prog
  have hbl := hown.lt
  have hp := (Array.getElem?_eq_some_iff.1 h).1
  have hc1 : (w.alloc (.map #[] 0)).cell? ⟨p, 1, none⟩ = some (.map (some bm)) := by
    rw [cell_of_row _ p 1 _ _ (0, 0) ((Below.heap_alloc w (.map #[] 0) p hp).trans h)]
    rfl
  have e1 : (w.alloc (.map #[] 0)).heap.size = w.heap.size + 1 := by simp
  have HO := Lib.hid hown
  have HRF := Lib.hid hrf
  have hsz := hown.size_le
  clear h hrf
  unfold restrV
  go_enter Tryd.func23, Tryd.ntmps23
  go_wp2_with (first
    | (at_range; refine wpList_range_own _ rfl _ 56 rfl 9 44 law9 Tryd.underlying56 _ bm n _ rfl (HO.out.alloc _) ?_; intro w0 hrg0 hg0 hs0))
  go_frame
  rw [e1] at hrg0 hs0 ⊢
  have HB0 := Lib.hid (((Below.refl w.heap.size w).alloc (Nat.le_refl _) (.map #[] 0)).grown hg0 (by simp) (fun j hj => by cases hj))
  have HM0 := Lib.hid (((World.ownsMap_made w Tryd.prog 9 (plainElem (H := Unit) Tryd.prog 44)).kept hg0 (by simp)))
  clear hc1 hg0 hs0
  go_loopw [11] (fun _ wr => ∃ (left : Lit → Bool) (cnt : Nat) (D' : DU), wr.ranges Tryd.prog 9 (plainElem Tryd.prog 44) bm (w.heap.size + 1) n D left cnt ∧ cnt ≤ Maps.size D ∧
      wr.ownsMap Tryd.prog 9 (plainElem Tryd.prog 44) w.heap.size (Maps.size D - cnt) D' ∧ RF D' (Part FF.none F left) ∧ Below w.heap.size w wr)
    (fun _ wr => wr.rangeLeft bm (w.heap.size + 1))
  case atStart =>
    exact ⟨_, _, .map [], hrg0, Nat.le_refl _, HM0.out.mono (Nat.zero_le _), by rw [Part.start HRF.out]; exact RF.empty, HB0.out⟩
  case round =>
    obtain ⟨left, cnt, D', hrg, hcs, hout, hA, hnx⟩ := hrel
    have HA := Lib.hid hA
    clear hA
    go_wp2_with (first
      | (at_next; refine wpList_next_ranges _ rfl _ rfl 9 law9 (plainElem Tryd.prog 44) encStr (Value.int .i64) invStr invHide bm (w.heap.size + 1) n _ _ _ rfl hrg ?_ ?_))
    · intro hc0 hl0
      have hfin := HA.out
      rw [Part.stop hl0, FF.none_over] at hfin
      have HF := Lib.hid hfin
      clear hfin
      go_wp2
      go_ret
      exact ⟨w.heap.size, rfl, ⟨D', hout.mono (by omega), HF.out⟩, Nat.le_refl _, hnx⟩
    · intro x c kl yd yp w1 cnt1 hkey hlk hv hat hrg1 hlt hg1 hs1 hen
      obtain ⟨x', ex, rfl, hxm⟩ := Maps.keyOf_str Tryd.underlying9 hkey
      obtain rfl : x = x' := encStr_inj ex
      obtain ⟨c', ec, hz, hwc⟩ := plainElem_int_inv Tryd.underlying44 hv
      injection ec with _ hcc
      subst hcc
      obtain ⟨rfl, _⟩ := Prod.mk.inj hz
      have hFx := HRF.out.at_ hat
      have hput := part_put (left := left) (L := FF.none) (key_str x) hFx (.inr rfl)
      have hA1 := HA.out.put hout.isMap (key_str x) (v := c)
      rw [hput] at hA1
      have HA1 := Lib.hid hA1
      have HOUT1 := Lib.hid (hout.kept hg1 (by simp))
      have HB1 := Lib.hid (hnx.grown hg1 hnx.size (fun j hj => by cases hj; exact Nat.le_succ _))
      have hsw := hnx.size
      have HS1 := Lib.hid hs1
      have HRG1 := Lib.hid hrg1
      have HRG := Lib.hid hrg
      have HWC := Lib.hid hwc
      have HKEY := Lib.hid hkey
      have HSZ := Lib.hid hsz
      clear hkey hlk hv hat hs1 ex hz hFx hput hA1 hwc hxm hsz
      go_wp2_with (first
        | (at_mapUpdate; refine wpList_mapUpdate_own _ rfl _ _ _ 56 rfl 9 44 law9 Tryd.underlying56 _ w.heap.size _ _ rfl HOUT1.out (by have := HSZ.out; unfold maxLen; omega) _ _ _ rfl rfl HKEY.out _ [] (plainElem_int Tryd.underlying44 HWC.out) ?_; intro w2 hout2 hg2; go_frame))
      have hg2' : ∀ g, some w.heap.size = some g → w.heap.size ≤ g := fun g hg => by cases hg; exact Nat.le_refl _
      have hrg2 := HRG1.out.kept hg2 (fun e => by have := Option.some.inj e; omega) (fun e => by have := Option.some.inj e; omega)
      have hb2 := HB1.out.grown hg2 HB1.out.size hg2'
      have HRG2 := Lib.hid hrg2
      have HB2 := Lib.hid hb2
      clear hrg2 hb2 hg2'
      go_roundw
      case rel => exact ⟨_, cnt1, _, HRG2.out, by omega, hout2.mono (by omega), HA1.out, HB2.out⟩
      case measure => rw [HRG2.out.left_eq, HRG.out.left_eq]; exact hlt
end Go.Proofs.YtmbaijkbchkjoaaDoor
