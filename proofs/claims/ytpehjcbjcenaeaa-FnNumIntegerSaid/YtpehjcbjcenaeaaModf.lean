/- math.Copysign, math.Modf. -/
import Derived.Test.YtpehjcbjcenaeaaWhole
import Derived.Test.YtpehjcbjcenaeaaLogic
namespace Go.Proofs.Ytpehjcbjcenaeaa
open Go.RowKit

attribute [local go_sem] toBits ofBits
theorem copysign_any (x y : Nat) (w : World) :
    Calls Try.prog 81 #[.float .f64 x, .float .f64 y] w fun e w' => ∃ z, e = .returned (.float .f64 z) ∧ absW z = absW x ∧ w = w' := by
  obtain ⟨z, hz, ha⟩ := copysign_word x y
  go_enter Try.func81, Try.ntmps81
  go_wp2
  go_ret
  exact ⟨z, rfl, ha, rfl⟩

theorem modf_fin (x : Nat) (w : World) (h : finW x = true) :
    Calls Try.prog 66 #[.float .f64 x] w fun e w' => ∃ z, e = .returned (.tuple #[.float .f64 (truncW x), .float .f64 z]) ∧ (finW z = true ∧ (valW z = 0 ↔ ∃ k : Int, valW x = k * T)) ∧ w = w' := by
  obtain ⟨r, hr, hf, hv⟩ := sub_trunc x h
  have hrun := run_sub_some (P := Try.prog) 25 x (truncW x) r hr
  have HN := Lib.hid (nan_of_fin h)
  have HF := Lib.hid hf
  have HV := Lib.hid hv
  clear hr h hf hv
  go_enter Try.func66, Try.ntmps66
  go_wp2_with fail
  refine (trunc_num x _ HN.out).mono ?_
  rintro e w1 ⟨rfl, rfl⟩
  go_wp2_with fail
  refine (copysign_any r x _).mono ?_
  rintro e w1 ⟨z, rfl, ha, rfl⟩
  go_wp2
  go_ret2
  obtain ⟨s1, s2⟩ := same_abs ha
  exact ⟨z, rfl, ⟨s1.trans HF.out, s2.trans HV.out⟩, rfl⟩

theorem trunc_any (x : Nat) (w : World) : Calls Try.prog 54 #[.float .f64 x] w fun e w' => ∃ t, e = .returned (.float .f64 t) ∧ Below w.heap.size w w' := by
  cases h : nanW x
  · exact (trunc_num x w h).mono fun e w' ⟨h1, h2⟩ => ⟨_, h1, by rw [← h2]; exact Below.refl _ _⟩
  · exact (trunc_nan x w h).mono fun e w' ⟨t, h1, h2⟩ => ⟨t, h1, by rcases h2 with rfl | rfl; exact Below.refl _ _; exact (Below.refl _ _).drew⟩
theorem modf_any (x : Nat) (w : World) :
    Calls Try.prog 66 #[.float .f64 x] w fun e w' => ∃ t z, e = .returned (.tuple #[.float .f64 t, .float .f64 z]) ∧ Below w.heap.size w w' := by
  go_enter Try.func66, Try.ntmps66
  go_wp2_with fail
  refine (trunc_any x _).mono ?_
  rintro e w1 ⟨t, rfl, hb⟩
  cases hr : floatBits .sub .f64 x t with
  | some r =>
    have hrun := run_sub_some (P := Try.prog) 25 x t r hr
    clear hr
    go_wp2_with fail
    refine (copysign_any r x _).mono ?_
    rintro e w1 ⟨z, rfl, ha, rfl⟩
    go_wp2
    go_ret2
    exact ⟨t, z, rfl, hb⟩
  | none =>
    have hrun := run_sub_none (P := Try.prog) 25 x t hr
    clear hr
    go_wp2_with fail
    refine (copysign_any _ x _).mono ?_
    rintro e w1 ⟨z, rfl, ha, rfl⟩
    go_wp2
    go_ret2
    exact ⟨t, z, rfl, hb.drew⟩
end Go.Proofs.Ytpehjcbjcenaeaa
