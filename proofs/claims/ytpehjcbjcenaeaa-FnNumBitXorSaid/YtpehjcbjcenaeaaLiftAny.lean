/- The closure of liftBitwise on any two numbers. -/
import Derived.Test.YtpehjcbjcenaeaaLift
namespace Go.Proofs.Ytpehjcbjcenaeaa
open Go.RowKit

set_option maxRecDepth 100000 in
set_option maxHeartbeats 1000000 in
theorem lift_out (b : Nat) (p q b1 b2 : Addr) (x y : Nat) (w : World) (hi : IT w b) (hp : w.cell? p = some (.float .f64 x)) (hq : w.cell? q = some (.float .f64 y))
    (h : (FloatKind.f64.format.order x 14069245235905429503 == some .lt) = true ∨ ((FloatKind.f64.format.order x 14069245235905429503 == some .lt) = false ∧ (FloatKind.f64.format.order x 4845873199050653695 == some .gt) = true) ∨
      ((FloatKind.f64.format.order x 14069245235905429503 == some .lt) = false ∧ (FloatKind.f64.format.order x 4845873199050653695 == some .gt) = false ∧
        ((FloatKind.f64.format.order y 14069245235905429503 == some .lt) = true ∨ ((FloatKind.f64.format.order y 14069245235905429503 == some .lt) = false ∧ (FloatKind.f64.format.order y 4845873199050653695 == some .gt) = true)))) :
    Calls Try.prog 82 #[.pointer (some ⟨b, 0, none⟩), .iface 103 (.pointer (some p)), .iface 103 (.pointer (some q)), .pointer (some b1), .pointer (some b2)] w (NumNo w) := by
  have HI := Lib.hid hi
  clear hi
  rcases h with g1 | ⟨g1, g2⟩ | ⟨g1, g2, g3 | ⟨g3, g4⟩⟩
  all_goals
    go_enter Try.func82, Try.ntmps82
    go_wp2_with (first | (go_at_call 61; refine (getNumber_any _ _ _).mono ?_; rintro e w' ⟨rfl, rfl⟩) | (go_at_call 84; refine (trace_any b _ HI.out).mono ?_; rintro e w1 ⟨rfl, rfl⟩) | (go_at_call 83; refine (mkErr_any _ _).mono ?_; rintro e w1 ⟨rfl, hb⟩))
    go_ret2
    exact ⟨_, _, rfl, hb⟩

theorem conv_none {P : Program} (s t : TypeId) (x : Nat) (hs : (P.underlying s).isSome = true) (hd : P.underlying t = some (.int .i64)) (h : floatToIntVal .f64 x .i64 = none) :
    ∃ f : World → Int, ∀ w, (convert s t (.float .f64 x)).run P w = .ok (.int .i64 (f w)) w.drew := by
  obtain ⟨u, hs'⟩ := Option.isSome_iff_exists.1 hs
  refine ⟨fun w => IntKind.i64.wrap ((Question.floatToInt .f64 x .i64).cut (w.tape w.drawn (.floatToInt .f64 x .i64))), fun w => ?_⟩
  unfold floatToIntVal at h
  cases he : (FloatKind.f64.decode x).toInt .zero with
  | none => cases u <;> simp [convert, run_underlying hs', run_underlying hd, Conv.floatToInt, he, Question.forced]
  | some n =>
    rw [he] at h
    by_cases hb : IntKind.i64.min ≤ n ∧ n ≤ IntKind.i64.max
    · simp only [if_pos hb] at h
      cases h
    · have hm : IntKind.i64.max = 9223372036854775807 := by decide +kernel
      cases u
      all_goals
        simp [convert, run_underlying hs', run_underlying hd, Conv.floatToInt, he, Question.forced]
        intro h1 h2
        exact absurd ⟨h1, by omega⟩ hb

/-- int64(x): a number, or what the tape answers. -/
def Converts (x : Nat) : Prop := (∃ n, ∀ w, (convert 25 2 (.float .f64 x)).run Try.prog w = .ok (.int .i64 n) w) ∨ (∃ f : World → Int, ∀ w, (convert 25 2 (.float .f64 x)).run Try.prog w = .ok (.int .i64 (f w)) w.drew)
theorem converts (x : Nat) : Converts x := by
  cases h : floatToIntVal .f64 x .i64 with
  | some n => exact .inl ⟨n, fun w => run_convert_float_int w 25 2 .f64 .i64 x n (by rw [Try.underlying25]; rfl) Try.underlying2 h⟩
  | none => exact .inr (conv_none 25 2 x (by rw [Try.underlying25]; rfl) Try.underlying2 h)

set_option maxRecDepth 100000 in
set_option maxHeartbeats 1000000 in
theorem lift_known (b : Nat) (p q b1 b2 : Addr) (x y : Nat) (m n : Int) (w : World) (hi : IT w b) (hp : w.cell? p = some (.float .f64 x)) (hq : w.cell? q = some (.float .f64 y)) (hc : CapXor w b1 b2)
    (g1 : (FloatKind.f64.format.order x 14069245235905429503 == some .lt) = false) (g2 : (FloatKind.f64.format.order x 4845873199050653695 == some .gt) = false)
    (g3 : (FloatKind.f64.format.order y 14069245235905429503 == some .lt) = false) (g4 : (FloatKind.f64.format.order y 4845873199050653695 == some .gt) = false)
    (hcx : ∀ w, (convert 25 2 (.float .f64 x)).run Try.prog w = .ok (.int .i64 m) w) (hcy : ∀ w, (convert 25 2 (.float .f64 y)).run Try.prog w = .ok (.int .i64 n) w) :
    Calls Try.prog 82 #[.pointer (some ⟨b, 0, none⟩), .iface 103 (.pointer (some p)), .iface 103 (.pointer (some q)), .pointer (some b1), .pointer (some b2)] w (NumAny w) := by
  have HI := Lib.hid hi
  obtain ⟨hc1, hc2⟩ := hc
  clear hi
  go_enter Try.func82, Try.ntmps82
  go_wp2_with (go_at_call 61; refine (getNumber_any _ _ _).mono ?_; rintro e w' ⟨rfl, rfl⟩)
  go_region_held3 (fun w' => w'.cell? p = some (.float .f64 x) ∧ w'.cell? q = some (.float .f64 y) ∧ w'.cell? b2 = some (.func (.func 69) #[] #[])) (first | go_keep | (refine ⟨?_, ?_, ?_⟩ <;> (refine keeps hb ?_; assumption))) ((first | (go_at_call 69; refine (xor_any _ _ _).mono ?_; rintro e w1 ⟨rfl, rfl⟩) | (go_at_call 62; refine (check_any b _ _ (by exact HI.out)).mono ?_; rintro e w1 ⟨u1, u2, rfl, hb, hor⟩)))
  all_goals
    go_wp2
    go_ret2
    exact ⟨_, _, rfl, (Below.refl w.heap.size w).drew.trans hb, hor⟩
end Go.Proofs.Ytpehjcbjcenaeaa
