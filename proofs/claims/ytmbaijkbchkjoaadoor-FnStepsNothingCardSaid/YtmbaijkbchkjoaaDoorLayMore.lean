/- makeValueExtendedObject, the left object restricted, or itself laid over another; any. -/
import Derived.Test.YtmbaijkbchkjoaaDoorLay
namespace Go.Proofs.YtmbaijkbchkjoaaDoor
open Go.RowKit Go.Maps Go.Sort
attribute [local go_sem ↓] Go.wp_at_zero Go.wp_at_succ

set_option maxRecDepth 100000 in
set_option maxHeartbeats 3200000 in
theorem ext_restr (pl pr p nl nr : Nat) (FL FR : FF) (c0 : Nat) (w : World) (h0 : w.heap[pl]? = some (valObj c0 (restrV p))) (hl : Ob w (restrV p) FL nl) (hr : VOS w pr FR nr) :
    Calls Tryd.prog 26 #[.pointer (some ⟨pl, 0, none⟩), .pointer (some ⟨pr, 0, none⟩)] w (LaidOk (FL.over FR) (nl + nr) w) := by
  have hmm := @run_makeMap Tryd.prog
  obtain ⟨c1, p2, h1, hr⟩ := hr
  have k0 : w.cell? ⟨pl, 2, none⟩ = some (.iface 75 (.pointer (some ⟨p, 0, none⟩))) := by rw [cell_of_row _ pl 2 _ _ (0, 0) h0]; rfl
  have k1 : w.cell? ⟨pr, 2, none⟩ = some (.iface 82 (.pointer (some ⟨p2, 0, none⟩))) := by rw [cell_of_row _ pr 2 _ _ (0, 0) h1]; rfl
  have HL := Lib.hid hl
  have HR := Lib.hid hr
  clear h0 h1 hl hr
  go_enter Tryd.func26, Tryd.ntmps26
  go_wp2_with fail
  go_region_held3 (fun w' => w'.cell? ⟨pl, 2, none⟩ = some (.iface 75 (.pointer (some ⟨p, 0, none⟩))) ∧ w'.cell? ⟨pr, 2, none⟩ = some (.iface 82 (.pointer (some ⟨p2, 0, none⟩))))
    (first | exact ⟨k0, k1⟩ | (refine ⟨keeps ?_ k0, keeps ?_ k1⟩ <;> (repeat' first | exact Below.refl _ _ | apply Below.drew | (refine Below.alloc ?_ (by first | exact Nat.le_refl _ | (simp; done) | (simp; omega)) _))))
    ((first
      | (go_at_call 64; refine (szc_restr HL.out ?_).mono ?_; (repeat' first | exact Below.refl _ _ | apply Below.drew | (refine Below.alloc ?_ (by first | exact Nat.le_refl _ | (simp; done) | (simp; omega)) _)); rintro _ w1 ⟨z, rfl, rfl⟩)
      | (go_at_call 66; refine (szc_simple HR.out ?_).mono ?_; (repeat' first | exact Below.refl _ _ | apply Below.drew | (refine Below.alloc ?_ (by first | exact Nat.le_refl _ | (simp; done) | (simp; omega)) _)); rintro _ w1 ⟨z2, rfl, rfl⟩)))
  all_goals
    go_wp2
    go_ret
    first
      | exact lay_fin1 w _ _ _ FL FR nl nr HL.out HR.out
      | exact lay_fin2 w _ _ _ FL FR nl nr HL.out HR.out

set_option maxRecDepth 100000 in
set_option maxHeartbeats 3200000 in
theorem ext_ext (pl pr p nl nr : Nat) (FL FR : FF) (c0 : Nat) (w : World) (h0 : w.heap[pl]? = some (valObj c0 (extV p))) (hl : Ob w (extV p) FL nl) (hr : VOS w pr FR nr) :
    Calls Tryd.prog 26 #[.pointer (some ⟨pl, 0, none⟩), .pointer (some ⟨pr, 0, none⟩)] w (LaidOk (FL.over FR) (nl + nr) w) := by
  have hmm := @run_makeMap Tryd.prog
  obtain ⟨c1, p2, h1, hr⟩ := hr
  have k0 : w.cell? ⟨pl, 2, none⟩ = some (.iface 79 (.pointer (some ⟨p, 0, none⟩))) := by rw [cell_of_row _ pl 2 _ _ (0, 0) h0]; rfl
  have k1 : w.cell? ⟨pr, 2, none⟩ = some (.iface 82 (.pointer (some ⟨p2, 0, none⟩))) := by rw [cell_of_row _ pr 2 _ _ (0, 0) h1]; rfl
  have HL := Lib.hid hl
  have HR := Lib.hid hr
  clear h0 h1 hl hr
  go_enter Tryd.func26, Tryd.ntmps26
  go_wp2_with fail
  go_region_held3 (fun w' => w'.cell? ⟨pl, 2, none⟩ = some (.iface 79 (.pointer (some ⟨p, 0, none⟩))) ∧ w'.cell? ⟨pr, 2, none⟩ = some (.iface 82 (.pointer (some ⟨p2, 0, none⟩))))
    (first | exact ⟨k0, k1⟩ | (refine ⟨keeps ?_ k0, keeps ?_ k1⟩ <;> (repeat' first | exact Below.refl _ _ | apply Below.drew | (refine Below.alloc ?_ (by first | exact Nat.le_refl _ | (simp; done) | (simp; omega)) _))))
    ((first
      | (go_at_call 65; refine (szc_ext HL.out ?_).mono ?_; (repeat' first | exact Below.refl _ _ | apply Below.drew | (refine Below.alloc ?_ (by first | exact Nat.le_refl _ | (simp; done) | (simp; omega)) _)); rintro _ w1 ⟨z, rfl, rfl⟩)
      | (go_at_call 66; refine (szc_simple HR.out ?_).mono ?_; (repeat' first | exact Below.refl _ _ | apply Below.drew | (refine Below.alloc ?_ (by first | exact Nat.le_refl _ | (simp; done) | (simp; omega)) _)); rintro _ w1 ⟨z2, rfl, rfl⟩)))
  all_goals
    go_wp2
    go_ret
    first
      | exact lay_fin1 w _ _ _ FL FR nl nr HL.out HR.out
      | exact lay_fin2 w _ _ _ FL FR nl nr HL.out HR.out

/-- An object, whatever it is, under a flat one. -/
theorem ext_any (pl pr nl nr : Nat) (FL FR : FF) (w : World) (hl : VO w pl FL nl) (hr : VOS w pr FR nr) :
    Calls Tryd.prog 26 #[.pointer (some ⟨pl, 0, none⟩), .pointer (some ⟨pr, 0, none⟩)] w (LaidOk (FL.over FR) (nl + nr) w) := by
  obtain ⟨c0, v, h0, ho⟩ := hl
  have ho' := ho
  cases ho with
  | simple p => exact ext_simple pl pr p nl nr FL FR c0 w h0 ho' hr
  | restr p => exact ext_restr pl pr p nl nr FL FR c0 w h0 ho' hr
  | ext p => exact ext_ext pl pr p _ nr _ FR c0 w h0 ho' hr
end Go.Proofs.YtmbaijkbchkjoaaDoor
