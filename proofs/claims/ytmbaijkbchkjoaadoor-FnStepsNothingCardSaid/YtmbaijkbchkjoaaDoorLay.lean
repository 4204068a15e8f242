/- inheritanceSize; makeValueExtendedObject: an object laid over another. -/
import Derived.Test.YtmbaijkbchkjoaaDoorMake
namespace Go.Proofs.YtmbaijkbchkjoaaDoor
open Go.RowKit Go.Maps Go.Sort

/-- The method inheritanceSize at an object hands back some number; nothing turns. -/
def SzOk (w : World) (v : Value) : Prop := ∃ z : Int,
  (∀ p, v = simpleV p → Calls Tryd.prog 66 #[.pointer (some ⟨p, 0, none⟩)] w fun e w' => e = .returned (.int .i64 z) ∧ w = w') ∧
  (∀ p, v = extV p → Calls Tryd.prog 65 #[.pointer (some ⟨p, 0, none⟩)] w fun e w' => e = .returned (.int .i64 z) ∧ w = w') ∧
  (∀ p, v = restrV p → Calls Tryd.prog 64 #[.pointer (some ⟨p, 0, none⟩)] w fun e w' => e = .returned (.int .i64 z) ∧ w = w')

theorem sz_simple (p : Nat) (w : World) : Calls Tryd.prog 66 #[.pointer (some ⟨p, 0, none⟩)] w fun e w' => e = .returned (.int .i64 1) ∧ w = w' := by
  go_enter Tryd.func66, Tryd.ntmps66
  go_wp2
  go_ret
  exact ⟨rfl, rfl⟩
theorem sz_ext (p : Nat) (z : Int) (w : World) (h : w.cell? ⟨p, 2, none⟩ = some (.int .i64 z)) : Calls Tryd.prog 65 #[.pointer (some ⟨p, 0, none⟩)] w fun e w' => e = .returned (.int .i64 z) ∧ w = w' := by
  go_enter Tryd.func65, Tryd.ntmps65
  go_wp2
  go_ret
  exact ⟨rfl, rfl⟩
theorem sz_restr (p : Nat) (v : Value) (F : FF) (n : Nat) (w w0 : World) (h : w.cell? ⟨p, 0, none⟩ = some v) (ho : Ob w0 v F n) (hs : SzOk w v) :
    ∃ z : Int, Calls Tryd.prog 64 #[.pointer (some ⟨p, 0, none⟩)] w fun e w' => e = .returned (.int .i64 z) ∧ w = w' := by
  obtain ⟨z, h1, h2, h3⟩ := hs
  refine ⟨wrap64 (1 + z), ?_⟩
  cases ho
  · have C := Lib.hid (h1 _ rfl)
    unfold simpleV at h
    clear h1 h2 h3
    go_enter Tryd.func64, Tryd.ntmps64
    go_wp2_with fail
    refine C.out.mono ?_
    rintro e w' ⟨rfl, rfl⟩
    go_wp2_with fail
    go_ret
    exact ⟨rfl, rfl⟩
  · have C := Lib.hid (h3 _ rfl)
    unfold restrV at h
    clear h1 h2 h3
    go_enter Tryd.func64, Tryd.ntmps64
    go_wp2_with fail
    refine C.out.mono ?_
    rintro e w' ⟨rfl, rfl⟩
    go_wp2_with fail
    go_ret
    exact ⟨rfl, rfl⟩
  · have C := Lib.hid (h2 _ rfl)
    unfold extV at h
    clear h1 h2 h3
    go_enter Tryd.func64, Tryd.ntmps64
    go_wp2_with fail
    refine C.out.mono ?_
    rintro e w' ⟨rfl, rfl⟩
    go_wp2_with fail
    go_ret
    exact ⟨rfl, rfl⟩

theorem simple_inj {p q : Nat} (h : simpleV p = simpleV q) : p = q := by
  unfold simpleV at h
  injection h with _ h
  injection h with h
  injection h with h
  injection h
theorem ext_inj {p q : Nat} (h : extV p = extV q) : p = q := by
  unfold extV at h
  injection h with _ h
  injection h with h
  injection h with h
  injection h
theorem restr_inj {p q : Nat} (h : restrV p = restrV q) : p = q := by
  unfold restrV at h
  injection h with _ h
  injection h with h
  injection h with h
  injection h
theorem ne_se {p q : Nat} : simpleV p ≠ extV q := by
  intro h
  unfold simpleV extV at h
  injection h with h
  exact absurd h (by decide)
theorem ne_sr {p q : Nat} : simpleV p ≠ restrV q := by
  intro h
  unfold simpleV restrV at h
  injection h with h
  exact absurd h (by decide)
theorem ne_er {p q : Nat} : extV p ≠ restrV q := by
  intro h
  unfold extV restrV at h
  injection h with h
  exact absurd h (by decide)
theorem sz_any {w : World} {v : Value} {F : FF} {n : Nat} (h : Ob w v F n) : ∀ w', Below w.heap.size w w' → SzOk w' v := by
  induction h with
  | simple p bm n F h hm =>
    intro w' hb
    refine ⟨1, fun q hq => ?_, fun q hq => absurd hq ne_se, fun q hq => absurd hq ne_sr⟩
    obtain rfl := simple_inj hq
    exact sz_simple p w'
  | restr p bm n F v F' n' h hm ho ih =>
    intro w' hb
    have hc : w'.cell? ⟨p, 0, none⟩ = some v := by rw [cell_of_row _ p 0 _ _ (0, 0) (heap_below h hb)]; rfl
    obtain ⟨z, hz⟩ := sz_restr p v F' n' w' _ hc ho (ih w' hb)
    refine ⟨z, fun q hq => absurd hq.symm ne_sr, fun q hq => absurd hq.symm ne_er, fun q hq => ?_⟩
    obtain rfl := restr_inj hq
    exact hz
  | ext p vl vr z FL FR nl nr h _ _ _ _ =>
    intro w' hb
    have hc : w'.cell? ⟨p, 2, none⟩ = some (.int .i64 z) := by rw [cell_of_row _ p 2 _ _ (0, 0) (heap_below h hb)]; rfl
    refine ⟨z, fun q hq => absurd hq.symm ne_se, fun q hq => ?_, fun q hq => absurd hq ne_er⟩
    obtain rfl := ext_inj hq
    exact sz_ext p z w' hc

def SomeInt (w : World) (e : Ending) (w' : World) : Prop := ∃ z : Int, e = .returned (.int .i64 z) ∧ w = w'
theorem szc_simple {w w' : World} {p n : Nat} {F : FF} (h : Ob w (simpleV p) F n) (hb : Below w.heap.size w w') : Calls Tryd.prog 66 #[.pointer (some ⟨p, 0, none⟩)] w' (SomeInt w') := by
  obtain ⟨z, h1, _, _⟩ := sz_any h w' hb
  exact (h1 p rfl).mono fun e w2 ⟨he, hw⟩ => ⟨z, he, hw⟩
theorem szc_ext {w w' : World} {p n : Nat} {F : FF} (h : Ob w (extV p) F n) (hb : Below w.heap.size w w') : Calls Tryd.prog 65 #[.pointer (some ⟨p, 0, none⟩)] w' (SomeInt w') := by
  obtain ⟨z, _, h1, _⟩ := sz_any h w' hb
  exact (h1 p rfl).mono fun e w2 ⟨he, hw⟩ => ⟨z, he, hw⟩
theorem szc_restr {w w' : World} {p n : Nat} {F : FF} (h : Ob w (restrV p) F n) (hb : Below w.heap.size w w') : Calls Tryd.prog 64 #[.pointer (some ⟨p, 0, none⟩)] w' (SomeInt w') := by
  obtain ⟨z, _, _, h1⟩ := sz_any h w' hb
  exact (h1 p rfl).mono fun e w2 ⟨he, hw⟩ => ⟨z, he, hw⟩

/-- What an object laid over another is handed back as. -/
def LaidOk (F : FF) (n : Nat) (w : World) (e : Ending) (w' : World) : Prop := ∃ po, e = .returned (.pointer (some ⟨po, 0, none⟩)) ∧ VO w' po F n ∧ Below w.heap.size w w'

theorem lay_fin1 (w : World) (vl vr : Value) (z : Int) (FL FR : FF) (nl nr : Nat) (hl : Ob w vl FL nl) (hr : Ob w vr FR nr) :
    LaidOk (FL.over FR) (nl + nr) w (.returned (.pointer (some ⟨w.heap.size + 1 + 1, 0, none⟩))) (((w.alloc (.map #[] 0)).alloc (extObj vl vr z)).alloc (valObj w.heap.size (extV (w.heap.size + 1)))).drew := by
  have hb := (three_below w (.map #[] 0) (extObj vl vr z) (valObj w.heap.size (extV (w.heap.size + 1)))).drew
  exact ⟨w.heap.size + 1 + 1, rfl, ⟨w.heap.size, extV (w.heap.size + 1), heap_last _ _ _ (by simp), .ext _ vl vr z FL FR nl nr (heap_earlier _ _ _ _ (heap_last _ _ _ (by simp))) (hl.keep hb) (hr.keep hb)⟩, hb⟩
theorem lay_fin2 (w : World) (vl vr : Value) (z : Int) (FL FR : FF) (nl nr : Nat) (hl : Ob w vl FL nl) (hr : Ob w vr FR nr) :
    LaidOk (FL.over FR) (nl + nr) w (.returned (.pointer (some ⟨w.heap.size + 1 + 1, 0, none⟩))) (((w.alloc (extObj vl vr z)).alloc (.map #[] 0)).alloc (valObj (w.heap.size + 1) (extV w.heap.size))).drew := by
  have hb := (three_below w (extObj vl vr z) (.map #[] 0) (valObj (w.heap.size + 1) (extV w.heap.size))).drew
  exact ⟨w.heap.size + 1 + 1, rfl, ⟨w.heap.size + 1, extV w.heap.size, heap_last _ _ _ (by simp), .ext _ vl vr z FL FR nl nr (heap_earlier _ _ _ _ (heap_earlier _ _ _ _ (heap_last _ _ _ rfl))) (hl.keep hb) (hr.keep hb)⟩, hb⟩

attribute [local go_sem ↓] Go.wp_at_zero Go.wp_at_succ
set_option maxRecDepth 100000 in
set_option maxHeartbeats 3200000 in
theorem ext_simple (pl pr p nl nr : Nat) (FL FR : FF) (c0 : Nat) (w : World) (h0 : w.heap[pl]? = some (valObj c0 (simpleV p))) (hl : Ob w (simpleV p) FL nl) (hr : VOS w pr FR nr) :
    Calls Tryd.prog 26 #[.pointer (some ⟨pl, 0, none⟩), .pointer (some ⟨pr, 0, none⟩)] w (LaidOk (FL.over FR) (nl + nr) w) := by
  have hmm := @run_makeMap Tryd.prog
  obtain ⟨c1, p2, h1, hr⟩ := hr
  have k0 : w.cell? ⟨pl, 2, none⟩ = some (.iface 82 (.pointer (some ⟨p, 0, none⟩))) := by rw [cell_of_row _ pl 2 _ _ (0, 0) h0]; rfl
  have k1 : w.cell? ⟨pr, 2, none⟩ = some (.iface 82 (.pointer (some ⟨p2, 0, none⟩))) := by rw [cell_of_row _ pr 2 _ _ (0, 0) h1]; rfl
  have HL := Lib.hid hl
  have HR := Lib.hid hr
  clear h0 h1 hl hr
  go_enter Tryd.func26, Tryd.ntmps26
  go_wp2_with fail
  go_region_held3 (fun w' => w'.cell? ⟨pl, 2, none⟩ = some (.iface 82 (.pointer (some ⟨p, 0, none⟩))) ∧ w'.cell? ⟨pr, 2, none⟩ = some (.iface 82 (.pointer (some ⟨p2, 0, none⟩))))
    (first | exact ⟨k0, k1⟩ | (refine ⟨keeps ?_ k0, keeps ?_ k1⟩ <;> (repeat' first | exact Below.refl _ _ | apply Below.drew | (refine Below.alloc ?_ (by first | exact Nat.le_refl _ | (simp; done) | (simp; omega)) _))))
    ((first
      | (go_at_call 66; refine (szc_simple HL.out ?_).mono ?_; (repeat' first | exact Below.refl _ _ | apply Below.drew | (refine Below.alloc ?_ (by first | exact Nat.le_refl _ | (simp; done) | (simp; omega)) _)); rintro _ w1 ⟨z, rfl, rfl⟩)
      | (go_at_call 66; refine (szc_simple HR.out ?_).mono ?_; (repeat' first | exact Below.refl _ _ | apply Below.drew | (refine Below.alloc ?_ (by first | exact Nat.le_refl _ | (simp; done) | (simp; omega)) _)); rintro _ w1 ⟨z2, rfl, rfl⟩)))
  all_goals
    go_wp2
    go_ret
    first
      | exact lay_fin1 w _ _ _ FL FR nl nr HL.out HR.out
      | exact lay_fin2 w _ _ _ FL FR nl nr HL.out HR.out
end Go.Proofs.YtmbaijkbchkjoaaDoor
