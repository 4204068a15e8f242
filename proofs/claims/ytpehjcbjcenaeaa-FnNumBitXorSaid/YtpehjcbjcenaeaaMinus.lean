/- builtinMinus, makeDoubleCheck, the errors of the interpreter; NumMinus. -/
import Derived.Test.YtpehjcbjcenaeaaNum
import Derived.Deep.RegionWith
namespace Go.Proofs.Ytpehjcbjcenaeaa
open Go.RowKit

/-- An interpreter without a call stack lies at the block. -/
def IT (w : World) (b : Nat) : Prop := w.cell? ⟨b, 5, none⟩ = some (.pointer none) ∧ w.cell? ⟨b, 7, none⟩ = some (.slice none 0 0)
theorem IT.below {w w' : World} {b : Nat} (h : IT w b) (hb : Below w.heap.size w w') : IT w' b := ⟨keeps hb h.1, keeps hb h.2⟩

set_option maxRecDepth 100000 in
theorem trace_any (b : Nat) (w : World) (h : IT w b) :
    Calls Try.prog 84 #[.pointer (some ⟨b, 0, none⟩)] w fun e w' => e = .returned (.slice none 0 0) ∧ w = w' := by
  obtain ⟨h5, h7⟩ := h
  go_enter Try.func84, Try.ntmps84
  go_wp2
  refine wp_loop_rounds 1 ?_
  rw [rounds_succ]
  go_wp2
  go_ret
  exact ⟨rfl, rfl⟩

theorem mkErr_any (s : ByteArray) (w : World) :
    Calls Try.prog 83 #[.string s, .slice none 0 0] w fun e w' => e = .returned (.agg #[.string s, .slice none 0 0]) ∧ Below w.heap.size w w' := by
  go_enter Try.func83, Try.ntmps83
  go_wp2
  exact bodyPost_ret (v := .agg #[.string s, .slice none 0 0]) (by simp [results, Try.results83, go_sem]) rfl ⟨rfl, (Below.refl _ _).alloc (Nat.le_refl _) _⟩

set_option maxRecDepth 100000 in
theorem error_any (b : Nat) (s : ByteArray) (w : World) (h : IT w b) :
    Calls Try.prog 79 #[.pointer (some ⟨b, 0, none⟩), .string s] w fun e w' => ∃ t v, e = .returned (.iface t v) ∧ Below w.heap.size w w' := by
  go_enter Try.func79, Try.ntmps79
  go_wp2_with fail
  refine (trace_any b _ h).mono ?_
  rintro e w1 ⟨rfl, rfl⟩
  go_wp2_with fail
  refine (mkErr_any s _).mono ?_
  rintro e w1 ⟨rfl, hb⟩
  go_wp2
  go_ret
  exact ⟨_, _, rfl, hb.alloc hb.size _⟩

/-- What an operation hands back: a new number; an error. -/
def NumYes (w : World) (r : Nat) (e : Ending) (w' : World) : Prop := ∃ p, e = .returned (.tuple #[.iface 103 (.pointer (some p)), .nilIface]) ∧ w'.cell? p = some (.float .f64 r) ∧ Below w.heap.size w w'
def NumNo (w : World) (e : Ending) (w' : World) : Prop := ∃ t v, e = .returned (.tuple #[.nilIface, .iface t v]) ∧ Below w.heap.size w w'

set_option maxRecDepth 100000 in
theorem check_yes (b : Nat) (r : Nat) (w : World) (hr : finW r = true) :
    Calls Try.prog 62 #[.pointer (some ⟨b, 0, none⟩), .float .f64 r] w (NumYes w r) := by
  rcases three r with ⟨h1, h2, h3⟩ | ⟨h1, h2, h3⟩ | ⟨h1, h2, h3⟩
  · go_enter Try.func62, Try.ntmps62
    go_wp2_with (first | (go_at_call 48; refine (isNaN_any _ _).mono ?_; rintro e w' ⟨rfl, rfl⟩) | (go_at_call 49; refine (isInf_any _ _).mono ?_; rintro e w' ⟨rfl, rfl⟩) | (go_at_call 63; refine (makeNum _ _).mono ?_; rintro e w1 ⟨p, rfl, hc, hb⟩))
    go_ret2
    exact ⟨p, rfl, hc, hb⟩
  all_goals (rw [h1] at hr; cases hr)
set_option maxRecDepth 100000 in
theorem check_no (b : Nat) (r : Nat) (w : World) (h : IT w b) (hr : finW r = false) :
    Calls Try.prog 62 #[.pointer (some ⟨b, 0, none⟩), .float .f64 r] w (NumNo w) := by
  have HI := Lib.hid h
  clear h
  rcases three r with ⟨h1, h2, h3⟩ | ⟨h1, h2, h3⟩ | ⟨h1, h2, h3⟩
  · rw [h1] at hr; cases hr
  all_goals
    go_enter Try.func62, Try.ntmps62
    go_wp2_with (first | (go_at_call 48; refine (isNaN_any _ _).mono ?_; rintro e w' ⟨rfl, rfl⟩) | (go_at_call 49; refine (isInf_any _ _).mono ?_; rintro e w' ⟨rfl, rfl⟩) | (go_at_call 79; refine (error_any b _ _ HI.out).mono ?_; rintro e w1 ⟨t, v, rfl, hb⟩))
    go_ret2
    exact ⟨t, v, rfl, hb⟩

set_option maxRecDepth 100000 in
set_option maxHeartbeats 800000 in
theorem minus_yes (b : Nat) (p q : Addr) (x y r : Nat) (w : World) (hp : w.cell? p = some (.float .f64 x)) (hq : w.cell? q = some (.float .f64 y)) (hr : floatBits .sub .f64 x y = some r) (hf : finW r = true) :
    Calls Try.prog 46 #[.pointer (some ⟨b, 0, none⟩), .iface 103 (.pointer (some p)), .iface 103 (.pointer (some q))] w (NumYes w r) := by
  have hrun := run_sub_some (P := Try.prog) 25 x y r hr
  have HF := Lib.hid hf
  clear hr hf
  go_enter Try.func46, Try.ntmps46
  go_wp2_with (go_at_call 61; refine (getNumber_any _ _ _).mono ?_; rintro e w' ⟨rfl, rfl⟩)
  go_region_held3 (fun w' => w'.cell? p = some (.float .f64 x) ∧ w'.cell? q = some (.float .f64 y)) (first | go_keep | (refine ⟨?_, ?_⟩ <;> (refine keeps hb ?_; assumption))) ((go_at_call 62; refine (check_yes b r _ HF.out).mono ?_; rintro e w1 ⟨p1, rfl, hc, hb⟩))
  all_goals
    go_wp2
    go_ret2
    exact ⟨_, rfl, hc, (Below.refl w.heap.size w).drew.trans hb⟩

set_option maxRecDepth 100000 in
set_option maxHeartbeats 800000 in
theorem minus_no (b : Nat) (p q : Addr) (x y r : Nat) (w : World) (h : IT w b) (hp : w.cell? p = some (.float .f64 x)) (hq : w.cell? q = some (.float .f64 y)) (hr : floatBits .sub .f64 x y = some r) (hf : finW r = false) :
    Calls Try.prog 46 #[.pointer (some ⟨b, 0, none⟩), .iface 103 (.pointer (some p)), .iface 103 (.pointer (some q))] w (NumNo w) := by
  have hrun := run_sub_some (P := Try.prog) 25 x y r hr
  have HF := Lib.hid hf
  have HI := Lib.hid h
  clear hr hf h
  go_enter Try.func46, Try.ntmps46
  go_wp2_with (go_at_call 61; refine (getNumber_any _ _ _).mono ?_; rintro e w' ⟨rfl, rfl⟩)
  go_region_held3 (fun w' => w'.cell? p = some (.float .f64 x) ∧ w'.cell? q = some (.float .f64 y)) (first | go_keep | (refine ⟨?_, ?_⟩ <;> (refine keeps hb ?_; assumption))) ((go_at_call 62; refine (check_no b r _ (by exact HI.out) HF.out).mono ?_; rintro e w1 ⟨t1, v1, rfl, hb⟩))
  all_goals
    go_wp2
    go_ret2
    exact ⟨_, _, rfl, (Below.refl w.heap.size w).drew.trans hb⟩

theorem fin_of_nan {r : Nat} (h : nanW r = true) : finW r = false := by
  rcases three r with ⟨h1, h2, h3⟩ | ⟨h1, h2, h3⟩ | ⟨h1, h2, h3⟩
  · rw [h2] at h; cases h
  · exact h1
  · exact h1
set_option maxRecDepth 100000 in
set_option maxHeartbeats 800000 in
theorem minus_nan (b : Nat) (p q : Addr) (x y : Nat) (w : World) (h : IT w b) (hp : w.cell? p = some (.float .f64 x)) (hq : w.cell? q = some (.float .f64 y)) (hr : floatBits .sub .f64 x y = none) :
    Calls Try.prog 46 #[.pointer (some ⟨b, 0, none⟩), .iface 103 (.pointer (some p)), .iface 103 (.pointer (some q))] w (NumNo w) := by
  have hrun := run_sub_none (P := Try.prog) 25 x y hr
  have HI := Lib.hid h
  clear hr h
  go_enter Try.func46, Try.ntmps46
  go_wp2_with (go_at_call 61; refine (getNumber_any _ _ _).mono ?_; rintro e w' ⟨rfl, rfl⟩)
  go_region_with (go_at_call 62; refine (check_no b _ _ (by exact HI.out) (fin_of_nan (nan_cut _ _ _))).mono ?_; rintro e w1 ⟨t1, v1, rfl, hb⟩)
  all_goals
    go_wp2
    go_ret2
    exact ⟨_, _, rfl, (Below.refl w.heap.size w).drew.drew.trans hb⟩
end Go.Proofs.Ytpehjcbjcenaeaa
