/- simple, makeValueSimpleObject, makeValueExtendedObject, makeValueRestrictedObject. -/
import Derived.Test.YtmbaijkbchkjoaaDoorExt
import Derived.Deep.RegionHeld3
import Derived.Deep.DrawnRows
namespace Go.Proofs.YtmbaijkbchkjoaaDoor
open Go.RowKit Go.Maps Go.Sort

/-- The fields of one step: names and how they are seen. -/
noncomputable def simpleF (ns : List ByteArray) (hs : List Int) : FF := (ns.zip hs).foldl (fun F p => F.put (.string p.1.data.toList) p.2) FF.none
theorem simpleF_nil : simpleF [] [] = FF.none := rfl
theorem simpleF_step (ns : List ByteArray) (hs : List Int) (k : Nat) {s : ByteArray} {h : Int} (h1 : ns[k]? = some s) (h2 : hs[k]? = some h) :
    simpleF (ns.take (k + 1)) (hs.take (k + 1)) = (simpleF (ns.take k) (hs.take k)).put (.string s.data.toList) h := by
  have hl1 := (List.getElem?_eq_some_iff.1 h1).1
  have hl2 := (List.getElem?_eq_some_iff.1 h2).1
  unfold simpleF
  rw [List.take_add_one, List.take_add_one, h1, h2, Option.toList_some, Option.toList_some, List.zip_append (by simp; omega), List.foldl_append]
  rfl

theorem mkSimple (bm : Nat) (w : World) :
    Calls Tryd.prog 29 #[.map none, .map (some bm), .slice none 0 0, .slice none 0 0] w fun e w' => e = .returned (.pointer (some ⟨w.heap.size + 2, 0, none⟩)) ∧ w' = ((w.alloc (.map #[] 0)).alloc (simpleObj bm)).alloc (valObj w.heap.size (simpleV (w.heap.size + 1))) := by
  have hmm := @run_makeMap Tryd.prog
  go_enter Tryd.func29, Tryd.ntmps29
  go_wp2
  go_ret
  exact ⟨rfl, rfl⟩
/-- A value that is a flat object. -/
def VOS (w : World) (po : Nat) (F : FF) (n : Nat) : Prop := ∃ c p, w.heap[po]? = some (valObj c (simpleV p)) ∧ Ob w (simpleV p) F n
theorem VOS.vo {w : World} {po : Nat} {F : FF} {n : Nat} (h : VOS w po F n) : VO w po F n := by
  obtain ⟨c, p, h1, h2⟩ := h
  exact ⟨c, _, h1, h2⟩
theorem VOS.below {w w' : World} {po : Nat} {F : FF} {n : Nat} (h : VOS w po F n) (hb : Below w.heap.size w w') : VOS w' po F n := by
  obtain ⟨c, v, h1, h2⟩ := h
  exact ⟨c, v, heap_below h1 hb, h2.keep hb⟩
/-- A flat object that the call has made. -/
def VOk (F : FF) (n : Nat) (w : World) (e : Ending) (w' : World) : Prop := ∃ po, e = .returned (.pointer (some ⟨po, 0, none⟩)) ∧ VOS w' po F n ∧ Below w.heap.size w w'
theorem vo_simple (bm n : Nat) (F : FF) (w : World) (h : MapS w bm n F) : VOS (((w.alloc (.map #[] 0)).alloc (simpleObj bm)).alloc (valObj w.heap.size (simpleV (w.heap.size + 1)))) (w.heap.size + 2) F n := by
  have hb := (((Below.refl w.heap.size w).alloc (Nat.le_refl _) (.map #[] 0)).alloc (by simp) (simpleObj bm)).alloc (by simp; omega) (valObj w.heap.size (simpleV (w.heap.size + 1)))
  have h1 := heap_alloc_new ((w.alloc (.map #[] 0)).alloc (simpleObj bm)) (valObj w.heap.size (simpleV (w.heap.size + 1)))
  have h2 := heap_alloc_new (w.alloc (.map #[] 0)) (simpleObj bm)
  have e1 : (w.alloc (.map #[] 0)).heap.size = w.heap.size + 1 := by simp
  have e2 : ((w.alloc (.map #[] 0)).alloc (simpleObj bm)).heap.size = w.heap.size + 2 := by simp
  rw [e2] at h1
  rw [e1] at h2
  refine ⟨w.heap.size, w.heap.size + 1, h1, .simple _ bm n F ?_ (h.below hb)⟩
  rw [Below.heap_alloc _ _ _ (by rw [e2]; omega)]
  exact h2

set_option maxRecDepth 100000 in
set_option maxHeartbeats 1600000 in
theorem simple_any (rem : ByteArray) (A B : Option Addr) (n c m d : Nat) (is : Bool) (ns : List ByteArray) (hs : List Int) (w : World) (h1 : Reads w w.heap.size 1 A n (ns.map .string)) (h2 : Reads w w.heap.size 1 B m (hs.map (.int .i64)))
    (hmn : m = n) (hn : n ≤ 12) (hsz : ∀ s ∈ ns, s.size ≤ maxLen) (hwf : ∀ h ∈ hs, (Lit.int .i64 h).wf = true) :
    Calls Tryd.prog 24 #[.agg #[.string rem, .slice A n c, .slice B m d, .bool is]] w (VOk (simpleF ns hs) n w) := by
  subst hmn
  have hmm := @run_makeMap Tryd.prog
  have H1 := Lib.hid h1
  have H2 := Lib.hid h2
  have HSZ := Lib.hid hsz
  have HWF := Lib.hid hwf
  clear h1 h2 hsz hwf
  go_enter Tryd.func24, Tryd.ntmps24
  go_wp2_with fail
  go_loopw [10] (fun vi wr => ∃ (k : Nat) (D : DU), vi = .int .i64 k ∧ k ≤ m ∧ wr.heap[w.heap.size]? = some (.cells #[.string rem, .slice A m c, .slice B m d, .bool is] 52 (0, 0)) ∧ wr.ownsMap Tryd.prog 9 fieldElem (w.heap.size + 1) k D ∧ RF D (simpleF (ns.take k) (hs.take k)) ∧ Below w.heap.size w wr) (fun vi _ => m - (intOf vi).toNat)
  case atStart =>
    have e1 : (w.alloc (.cells #[.string rem, .slice A m c, .slice B m d, .bool is] 52)).heap.size = w.heap.size + 1 := by simp
    have hm0 := World.ownsMap_made (w.alloc (.cells #[.string rem, .slice A m c, .slice B m d, .bool is] 52)) Tryd.prog 9 fieldElem
    rw [e1] at hm0
    refine ⟨0, .map [], rfl, Nat.zero_le _, ?_, hm0, RF.empty, ((Below.refl _ _).alloc (Nat.le_refl _) _).alloc (by simp) _⟩
    rw [Below.heap_alloc _ _ _ (by simp)]
    exact heap_alloc_new w _
  case round =>
    obtain ⟨k, D, rfl, hk, hbox, hown, hrf, hb⟩ := hrel
    have HBOX := Lib.hid hbox
    have HOWN := Lib.hid hown
    have HRF := Lib.hid hrf
    have HB := Lib.hid hb
    by_cases hlt : k < m
    · obtain ⟨ad, u, hA, hab, hu, hcu⟩ := H1.out.at_ hlt
      obtain ⟨bd, v, hB, hbb, hv, hcv⟩ := H2.out.at_ hlt
      subst hA hB
      rw [List.getElem?_map] at hu hv
      obtain ⟨s, hs1, rfl⟩ := Option.map_eq_some_iff.1 hu
      obtain ⟨q, hq1, rfl⟩ := Option.map_eq_some_iff.1 hv
      have c1 := keeps hb hcu
      have c2 := keeps hb hcv
      have c3 : wr.cell? ⟨w.heap.size, 2, none⟩ = some (.slice (some bd) m d) := by rw [cell_of_row _ w.heap.size 2 _ _ (0, 0) HBOX.out]; rfl
      have hkm : (k : Int) < m := by omega
      have HSP := Lib.hid (HSZ.out s (List.mem_of_getElem? hs1))
      have HWQ := Lib.hid (HWF.out q (List.mem_of_getElem? hq1))
      have hput := HRF.out.put hown.isMap (key_str s.data.toList) (v := q)
      rw [← simpleF_step ns hs k hs1 hq1] at hput
      have HPUT := Lib.hid hput
      clear hu hv hs1 hq1 hcu hcv hput hbox hown hrf hb hab hbb
      go_wp2_with (first
        | (at_mapUpdate; refine wpList_mapUpdate_own _ rfl _ _ _ 86 rfl 9 94 law9 Tryd.underlying86 _ (w.heap.size + 1) _ _ rfl HOWN.out (by unfold maxLen; omega) _ _ _ rfl rfl (Go.WideMaps.keyOf_string_mk Tryd.underlying9 HSP.out) _ [] (fieldElem_mk HWQ.out) ?_; intro w2 hout2 hg2; go_frame))
      have hbox2 := (hg2.block w.heap.size (by have := (Array.getElem?_eq_some_iff.1 HBOX.out).1; exact this) (by simp)).trans HBOX.out
      have hb2 := HB.out.grown hg2 HB.out.size (fun g hg => by cases hg; omega)
      have X1 := Lib.hid hbox2
      have X2 := Lib.hid hb2
      clear hbox2 hb2
      go_roundw
      case rel => exact ⟨k + 1, _, by go_num, by omega, X1.out, hout2, HPUT.out, X2.out⟩
      case measure => simp [intOf]; omega
    · obtain rfl : k = m := by omega
      have hl1 : ns.length = k := by have := H1.out.1; simpa using this
      have hl2 : hs.length = k := by have := H2.out.1; simpa using this
      rw [List.take_of_length_le (by omega), List.take_of_length_le (by omega)] at HRF
      have HVO := Lib.hid (vo_simple (w.heap.size + 1) k (simpleF ns hs) wr ⟨D, HOWN.out, HRF.out⟩)
      clear hl1 hl2 hbox hown hrf hb
      go_wp2_with fail
      refine (mkSimple _ _).mono ?_
      rintro e w1 ⟨rfl, rfl⟩
      go_wp2_with fail
      go_ret
      exact ⟨_, rfl, HVO.out, ((HB.out.alloc HB.out.size _).alloc (by have := HB.out.size; simp; omega) _).alloc (by have := HB.out.size; simp; omega) _⟩

theorem Ob.form {w : World} {v : Value} {F : FF} {n : Nat} (h : Ob w v F n) : ∃ t p, v = .iface t (.pointer (some ⟨p, 0, none⟩)) := by
  cases h
  · exact ⟨_, _, rfl⟩
  · exact ⟨_, _, rfl⟩
  · exact ⟨_, _, rfl⟩
/-- What makeValueRestrictedObject hands back: its parts told. -/
def RestrOk (F : FF) (n : Nat) (w : World) (e : Ending) (w' : World) : Prop := ∃ po c p v bm, e = .returned (.pointer (some ⟨po, 0, none⟩)) ∧ w'.heap[po]? = some (valObj c (restrV p)) ∧ w'.heap[p]? = some (restrObj v bm) ∧ MapF w' bm n F ∧ Ob w v F n ∧ w.heap.size ≤ bm ∧ Below w.heap.size w w'

theorem two_below (w : World) (o1 o2 : Obj) : Below w.heap.size w ((w.alloc o1).alloc o2) := ((Below.refl _ _).alloc (Nat.le_refl _) _).alloc (by simp) _
theorem three_below (w : World) (o1 o2 o3 : Obj) : Below w.heap.size w (((w.alloc o1).alloc o2).alloc o3) := (two_below w o1 o2).alloc (by simp; omega) _
theorem heap_last (w : World) (o : Obj) (k : Nat) (hk : k = w.heap.size) : (w.alloc o).heap[k]? = some o := by rw [hk]; exact heap_alloc_new w o
theorem heap_earlier (w : World) (o o' : Obj) (k : Nat) (h : w.heap[k]? = some o') : (w.alloc o).heap[k]? = some o' := (Below.heap_alloc _ _ _ (Array.getElem?_eq_some_iff.1 h).1).trans h
theorem restr_fin1 (w w1 : World) (b n : Nat) (F : FF) (v : Value) (c : Nat) (hbw : Below w.heap.size w w1) (ho : Ob w v F n) (hm : MapF w1 b n F) (hb : w.heap.size ≤ b) :
    RestrOk F n w (.returned (.pointer (some ⟨w1.heap.size + 1, 0, none⟩))) ((w1.alloc (restrObj v b)).alloc (valObj c (restrV w1.heap.size))) :=
  ⟨w1.heap.size + 1, c, w1.heap.size, v, b, rfl, heap_last _ _ _ (by simp), heap_earlier _ _ _ _ (heap_last _ _ _ rfl), hm.below (two_below _ _ _), ho, hb, hbw.trans ((two_below _ _ _).mono hbw.size)⟩
theorem restr_fin2 (w w1 : World) (b n : Nat) (F : FF) (v : Value) (hbw : Below w.heap.size w w1) (ho : Ob w v F n) (hm : MapF w1 b n F) (hb : w.heap.size ≤ b) :
    RestrOk F n w (.returned (.pointer (some ⟨w1.heap.size + 1 + 1, 0, none⟩))) (((w1.alloc (.map #[] 0)).alloc (restrObj v b)).alloc (valObj w1.heap.size (restrV (w1.heap.size + 1)))) :=
  ⟨w1.heap.size + 1 + 1, _, w1.heap.size + 1, v, b, rfl, heap_last _ _ _ (by simp), heap_earlier _ _ _ _ (heap_last _ _ _ (by simp)), hm.below (three_below _ _ _ _), ho, hb, hbw.trans ((three_below _ _ _ _).mono hbw.size)⟩
theorem restr_fin3 (w w1 : World) (b n : Nat) (F : FF) (v : Value) (hbw : Below w.heap.size w w1) (ho : Ob w v F n) (hm : MapF w1 b n F) (hb : w.heap.size ≤ b) :
    RestrOk F n w (.returned (.pointer (some ⟨w1.heap.size + 1 + 1, 0, none⟩))) (((w1.alloc (restrObj v b)).alloc (.map #[] 0)).alloc (valObj (w1.heap.size + 1) (restrV w1.heap.size))) :=
  ⟨w1.heap.size + 1 + 1, _, w1.heap.size, v, b, rfl, heap_last _ _ _ (by simp), heap_earlier _ _ _ _ (heap_earlier _ _ _ _ (heap_last _ _ _ rfl)), hm.below (three_below _ _ _ _), ho, hb, hbw.trans ((three_below _ _ _ _).mono hbw.size)⟩

attribute [local go_sem ↓] Go.wp_at_zero Go.wp_at_succ
set_option maxRecDepth 100000 in
set_option maxHeartbeats 1600000 in
theorem restr_any (po n : Nat) (F : FF) (w : World) (h : VO w po F n) (hn : n ≤ 2000) :
    Calls Tryd.prog 25 #[.pointer (some ⟨po, 0, none⟩)] w (RestrOk F n w) := by
  have hmm := @run_makeMap Tryd.prog
  have H := Lib.hid h
  obtain ⟨c0, v, hh, hob⟩ := h
  obtain ⟨vt, vp, rfl⟩ := hob.form
  have hc : w.cell? ⟨po, 2, none⟩ = some (.iface vt (.pointer (some ⟨vp, 0, none⟩))) := by rw [cell_of_row _ po 2 _ _ (0, 0) hh]; rfl
  have HOB := Lib.hid hob
  clear hh hob
  go_enter Tryd.func25, Tryd.ntmps25
  go_wp2_with fail
  go_region_held3 (fun w' => w'.cell? ⟨po, 2, none⟩ = some (.iface vt (.pointer (some ⟨vp, 0, none⟩))))
    (first | exact hc | exact keeps ((Below.refl _ _).alloc (Nat.le_refl _) _).drew hc | exact keeps hb1 (keeps ((Below.refl _ _).alloc (Nat.le_refl _) _).drew hc) | exact keeps hb1 hc | go_keep)
    ((go_at_call 20; refine (objVis_any po n F _ ?_ hn).mono ?_; (first | exact H.out.below (Below.refl _ _).drew | exact H.out.below ((Below.refl _ _).alloc (Nat.le_refl _) _).drew); rintro _ w1 ⟨b, rfl, hm, hb, hb1⟩))
  all_goals
    go_wp2
    go_ret
  · have hbw : Below w.heap.size w w1 := ((Below.refl _ _).alloc (Nat.le_refl _) (.map #[] 0)).drew.trans (hb1.mono (by simp))
    exact restr_fin1 w w1 b n F _ _ hbw HOB.out hm (by simp at hb; omega)
  · have hbw : Below w.heap.size w w1 := (Below.refl _ _).drew.trans hb1
    exact restr_fin2 w w1 b n F _ hbw HOB.out hm hb
  · have hbw : Below w.heap.size w w1 := (Below.refl _ _).drew.trans hb1
    exact restr_fin3 w w1 b n F _ hbw HOB.out hm hb
end Go.Proofs.YtmbaijkbchkjoaaDoor
