/- The closure of liftBitwise: two integers of less than 2^53; anything else. -/
import Derived.Test.YtpehjcbjcenaeaaBits
namespace Go.Proofs.Ytpehjcbjcenaeaa
open Go.RowKit

/-- An operation hands back a number or an error. -/
def NumAny (w : World) (e : Ending) (w' : World) : Prop := ∃ u1 u2, e = .returned (.tuple #[u1, u2]) ∧ Below w.heap.size w w' ∧
  ((∃ p r, u1 = .iface 103 (.pointer (some p)) ∧ u2 = .nilIface ∧ w'.cell? p = some (.float .f64 r)) ∨ ∃ t v, u1 = .nilIface ∧ u2 = .iface t v)
theorem NumYes.any {w w' : World} {r : Nat} {e : Ending} (h : NumYes w r e w') : NumAny w e w' := by
  obtain ⟨p, h1, h2, h3⟩ := h
  exact ⟨_, _, h1, h3, .inl ⟨p, r, rfl, rfl, h2⟩⟩
theorem NumNo.any {w w' : World} {e : Ending} (h : NumNo w e w') : NumAny w e w' := by
  obtain ⟨t, v, h1, h3⟩ := h
  exact ⟨_, _, h1, h3, .inr ⟨t, v, rfl, rfl⟩⟩
theorem check_any (b : Nat) (r : Nat) (w : World) (h : IT w b) :
    Calls Try.prog 62 #[.pointer (some ⟨b, 0, none⟩), .float .f64 r] w (NumAny w) := by
  cases hr : finW r
  · exact (check_no b r w h hr).mono fun e w' h => h.any
  · exact (check_yes b r w hr).mono fun e w' h => h.any

set_option maxRecDepth 100000 in
set_option maxHeartbeats 1000000 in
theorem lift_yes (b : Nat) (p q b1 b2 : Addr) (x y : Nat) (m n : Int) (w : World) (hp : w.cell? p = some (.float .f64 x)) (hq : w.cell? q = some (.float .f64 y)) (hc : CapXor w b1 b2)
    (g1 : (FloatKind.f64.format.order x 14069245235905429503 == some .lt) = false) (g2 : (FloatKind.f64.format.order x 4845873199050653695 == some .gt) = false)
    (g3 : (FloatKind.f64.format.order y 14069245235905429503 == some .lt) = false) (g4 : (FloatKind.f64.format.order y 4845873199050653695 == some .gt) = false)
    (hcx : ∀ w, (convert 25 2 (.float .f64 x)).run Try.prog w = .ok (.int .i64 m) w) (hcy : ∀ w, (convert 25 2 (.float .f64 y)).run Try.prog w = .ok (.int .i64 n) w)
    (hr : finW (floatOfInt .f64 (bits .xor .i64 m n)) = true) :
    Calls Try.prog 82 #[.pointer (some ⟨b, 0, none⟩), .iface 103 (.pointer (some p)), .iface 103 (.pointer (some q)), .pointer (some b1), .pointer (some b2)] w (NumYes w (floatOfInt .f64 (bits .xor .i64 m n))) := by
  have HR := Lib.hid hr
  obtain ⟨hc1, hc2⟩ := hc
  clear hr
  go_enter Try.func82, Try.ntmps82
  go_wp2_with (go_at_call 61; refine (getNumber_any _ _ _).mono ?_; rintro e w' ⟨rfl, rfl⟩)
  go_region_held3 (fun w' => w'.cell? p = some (.float .f64 x) ∧ w'.cell? q = some (.float .f64 y) ∧ w'.cell? b2 = some (.func (.func 69) #[] #[])) (first | go_keep | (refine ⟨?_, ?_, ?_⟩ <;> (refine keeps hb ?_; assumption))) ((first | (go_at_call 69; refine (xor_any _ _ _).mono ?_; rintro e w1 ⟨rfl, rfl⟩) | (go_at_call 62; refine (check_yes b _ _ HR.out).mono ?_; rintro e w1 ⟨p1, rfl, hcc, hb⟩)))
  all_goals
    go_wp2
    go_ret2
    exact ⟨_, rfl, hcc, (Below.refl w.heap.size w).drew.trans hb⟩
end Go.Proofs.Ytpehjcbjcenaeaa
