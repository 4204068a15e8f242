/- The walk of FnNumInteger. -/
import Derived.Test.YtpehjcbjcenaeaaInteger
namespace Go.Proofs.Ytpehjcbjcenaeaa
open Go.RowKit

theorem finite_one (b x : Nat) (w : World) (h0 : w.cell? ⟨b, 0, none⟩ = some (.float .f64 x)) :
    Calls Try.prog 12 #[.slice (some ⟨b, 0, none⟩) 1 1] w fun e w' => e = .returned (.bool (finW x)) ∧ w = w' := by
  cases hx : finW x
  all_goals
    go_enter Try.func12, Try.ntmps12
    go_wp2_with fail
    refine wp_loop_rounds 2 ?_
    rw [rounds_succ]
    go_wp2_with (go_at_call 30; refine (finite_any _ _).mono ?_; rintro e w' ⟨rfl, rfl⟩)
    try (rw [rounds_succ]; go_wp2_with fail)
    go_ret
    exact ⟨rfl, rfl⟩

set_option maxRecDepth 100000 in
theorem law_int_big (x : Nat) (w : World) (hx : finW x = true) (hw : true = true ↔ ∃ k : Int, valW x = k * T) (hg : (FloatKind.f64.format.order (absW x) 4845873199050653696 == some .gt || FloatKind.f64.format.order (absW x) 4845873199050653696 == some .eq) = true) :
    Calls Try.prog 5 #[.float .f64 x] w fun e w' => e = .returned (.bool true) ∧ Below w.heap.size w w' := by
  have HX := Lib.hid hx
  have HI := Lib.hid (fun w => num_fin_Integer x true w hx hw)
  have HD := Lib.hid (fun w => num_fin_Decimal x true w hx hw)
  clear hx hw
  go_enter Try.func5, Try.ntmps5
  go_wp2_with fail
  refine (HI.out _).mono ?_
  rintro e w1 ⟨rfl, hb1⟩
  go_wp2_with fail
  refine (HD.out _).mono ?_
  rintro e w2 ⟨rfl, hb2⟩
  go_wp2_with fail
  refine (finite_one _ x _ (World.cell?_alloc_mark w2 _ _ (0, 0) 0)).mono ?_
  rintro e w3 ⟨rfl, rfl⟩
  rw [HX.out]
  go_wp2_with fail
  refine (abs_any x _).mono ?_
  rintro e w3 ⟨rfl, rfl⟩
  go_wp2
  go_ret
  have hs1 := hb1.size
  have hs2 := hb2.size
  exact ⟨rfl, (hb1.trans (hb2.mono hs1)).alloc (by omega) _⟩

set_option maxRecDepth 100000 in
theorem law_int_small (x r : Nat) (q : Int) (wx : Bool) (w : World) (hx : finW x = true) (hw : wx = true ↔ ∃ k : Int, valW x = k * T) (hg : (FloatKind.f64.format.order (absW x) 4845873199050653696 == some .gt || FloatKind.f64.format.order (absW x) 4845873199050653696 == some .eq) = false)
    (hcx : ∀ w, (convert 25 2 (.float .f64 x)).run Try.prog w = .ok (.int .i64 q) w) (hr : floatOfInt .f64 q = r) (he : (FloatKind.f64.format.order x r == some .eq) = wx) :
    Calls Try.prog 5 #[.float .f64 x] w fun e w' => e = .returned (.bool true) ∧ Below w.heap.size w w' := by
  have HX := Lib.hid hx
  have HI := Lib.hid (fun w => num_fin_Integer x wx w hx hw)
  have HD := Lib.hid (fun w => num_fin_Decimal x wx w hx hw)
  clear hx hw
  cases wx
  all_goals
    go_enter Try.func5, Try.ntmps5
    go_wp2_with fail
    refine (HI.out _).mono ?_
    rintro e w1 ⟨rfl, hb1⟩
    go_wp2_with fail
    refine (HD.out _).mono ?_
    rintro e w2 ⟨rfl, hb2⟩
    go_wp2_with fail
    refine (finite_one _ x _ (World.cell?_alloc_mark w2 _ _ (0, 0) 0)).mono ?_
    rintro e w3 ⟨rfl, rfl⟩
    rw [HX.out]
    go_wp2_with fail
    refine (abs_any x _).mono ?_
    rintro e w3 ⟨rfl, rfl⟩
    go_wp2
    go_ret
    have hs1 := hb1.size
    have hs2 := hb2.size
    exact ⟨rfl, (hb1.trans (hb2.mono hs1)).alloc (by omega) _⟩

theorem law_integer (x : Nat) (w : World) : Calls Try.prog 5 #[.float .f64 x] w fun e w' => e = .returned (.bool true) ∧ Below w.heap.size w w' := by
  cases hx : finW x
  · have HX := Lib.hid hx
    clear hx
    go_enter Try.func5, Try.ntmps5
    go_wp2_with fail
    refine (num_any_Integer x _).mono ?_
    rintro e w1 ⟨b1, rfl, hb1⟩
    go_wp2_with fail
    refine (num_any_Decimal x _).mono ?_
    rintro e w2 ⟨b2, rfl, hb2⟩
    go_wp2_with fail
    refine (finite_one _ x _ (World.cell?_alloc_mark w2 _ _ (0, 0) 0)).mono ?_
    rintro e w3 ⟨rfl, rfl⟩
    rw [HX.out]
    go_wp2
    go_ret
    have hs1 := hb1.size
    have hs2 := hb2.size
    exact ⟨rfl, (hb1.trans (hb2.mono hs1)).alloc (by omega) _⟩
  · have ha := val_abs x
    have haf : finW (absW x) = true := ha.1.trans hx
    have hT := T_pos
    cases hg : (FloatKind.f64.format.order (absW x) 4845873199050653696 == some .gt || FloatKind.f64.format.order (absW x) 4845873199050653696 == some .eq)
    · have hg' := hg
      rw [ge_fin haf val_over.1, val_over.2, ha.2, decide_eq_false_iff_not] at hg'
      obtain ⟨q, ht, htv, hi, hq, hqb⟩ := trunc_fin x hx
      have hlt := hqb 9007199254740992 (by omega) (by omega)
      have hc : floatToIntVal .f64 x .i64 = some q := by
        unfold floatToIntVal
        rw [hi]
        show (if IntKind.min .i64 ≤ q ∧ q ≤ IntKind.max .i64 then some q else none) = _
        have m1 : IntKind.min .i64 = -9223372036854775808 := by decide +kernel
        have m2 : IntKind.max .i64 = 9223372036854775807 := by decide +kernel
        rw [m1, m2, if_pos (by omega)]
      obtain ⟨hif, hiv⟩ := int_word q (by omega)
      refine law_int_small x _ q (decide (valW x = q * T)) w hx ?_ hg (fun w => run_convert_float_int w 25 2 .f64 .i64 x q (by rw [Try.underlying25]; rfl) Try.underlying2 hc) rfl ?_
      · rw [decide_eq_true_eq]
        exact ⟨fun h => ⟨q, h⟩, fun ⟨k, hk⟩ => by rw [hq k hk]; exact hk⟩
      · rw [eq_fin hx hif, hiv]
    · have hg' := hg
      rw [ge_fin haf val_over.1, val_over.2, ha.2, decide_eq_true_eq] at hg'
      refine law_int_big x w hx ⟨fun _ => big_whole x hx ?_, fun _ => rfl⟩ hg
      omega
end Go.Proofs.Ytpehjcbjcenaeaa
