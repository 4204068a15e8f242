/- PartFloor, NumFloor; the walk of FnNumFloor. -/
import Derived.Test.YtpehjcbjcenaeaaFloor
namespace Go.Proofs.Ytpehjcbjcenaeaa
open Go.RowKit

set_option maxRecDepth 100000 in
theorem partFloor_yes (x : Nat) (w : World) (hx : finW x = true) :
    Calls Try.prog 36 #[.float .f64 x] w fun e w' => e = .returned (.tuple #[.float .f64 (floorW x), .nilIface]) ∧ Below w.heap.size w w' := by
  have HX := Lib.hid hx
  clear hx
  go_enter Try.func36, Try.ntmps36
  go_wp2_with fail
  refine (mkFloor _).mono ?_
  rintro e w0 ⟨b1, rfl, hcap, hb0⟩
  have hcap1 := keeps ((Below.refl w0.heap.size w0).alloc (Nat.le_refl _) (.cells #[.nilIface, .map none, .map none, .pointer none, .pointer none, .pointer none, .pointer none, .slice none 0 0, .int .i64 0, .int .i64 0, .nilFunc, .nilFunc] 88)) hcap
  go_wp2_with fail
  refine (num_any x _).mono ?_
  rintro e w1 ⟨r1, rfl, hc1, hb1⟩
  have hcap2 := keeps hb1 hcap1
  go_wp2_with fail
  refine (liftNum_yes _ r1 b1 x _ hc1 hcap2 HX.out).mono ?_
  rintro e w3 ⟨r3, rfl, hc3, hb3⟩
  go_wp2_with fail
  refine (numOf_yes r3 _ _ hc3).mono ?_
  rintro e w4 ⟨rfl, rfl⟩
  go_wp2_with fail
  go_ret2
  have hs0 := hb0.size
  have hs := hb1.size
  simp at hs
  exact ⟨rfl, (hb0.trans (((Below.refl _ _).alloc (Nat.le_refl _) _).mono hs0)).trans ((hb1.mono (by simp; omega)).trans (hb3.mono (by omega)))⟩

theorem liftNum_any (b : Nat) (p b1 : Addr) (x : Nat) (w : World) (hi : IT w b) (hp : w.cell? p = some (.float .f64 x)) (hc : w.cell? b1 = some (.func (.func 71) #[] #[])) :
    Calls Try.prog 85 #[.pointer (some ⟨b, 0, none⟩), .iface 103 (.pointer (some p)), .pointer (some b1)] w (NumAny w) := by
  cases h : nanW x
  · exact liftNum_inf b p b1 x w hi hp hc h
  · exact liftNum_nan b p b1 x w hi hp hc h

set_option maxRecDepth 100000 in
theorem partFloor_any (x : Nat) (w : World) :
    Calls Try.prog 36 #[.float .f64 x] w fun e w' => ∃ r u, e = .returned (.tuple #[.float .f64 r, u]) ∧ (u = .nilIface ∨ ∃ t v, u = .iface t v) ∧ Below w.heap.size w w' := by
  go_enter Try.func36, Try.ntmps36
  go_wp2_with fail
  refine (mkFloor _).mono ?_
  rintro e w0 ⟨b1, rfl, hcap, hb0⟩
  have hcap1 := keeps ((Below.refl w0.heap.size w0).alloc (Nat.le_refl _) (.cells #[.nilIface, .map none, .map none, .pointer none, .pointer none, .pointer none, .pointer none, .slice none 0 0, .int .i64 0, .int .i64 0, .nilFunc, .nilFunc] 88)) hcap
  have hit := it_new w0 88
  go_wp2_with fail
  refine (num_any x _).mono ?_
  rintro e w1 ⟨r1, rfl, hc1, hb1⟩
  have hcap2 := keeps hb1 hcap1
  have hi1 := hit.below hb1
  go_wp2_with fail
  refine (liftNum_any _ r1 b1 x _ hi1 hc1 hcap2).mono ?_
  rintro e w3 ⟨u1, u2, rfl, hb3, hor⟩
  have hs0 := hb0.size
  have hs := hb1.size
  simp at hs
  have hall : Below w.heap.size w w3 := (hb0.trans (((Below.refl _ _).alloc (Nat.le_refl _) _).mono hs0)).trans ((hb1.mono (by simp; omega)).trans (hb3.mono (by omega)))
  rcases hor with ⟨p, r, rfl, rfl, hc3⟩ | ⟨t, v, rfl, rfl⟩
  · go_wp2_with fail
    refine (numOf_yes p _ _ hc3).mono ?_
    rintro e w4 ⟨rfl, rfl⟩
    go_wp2_with fail
    go_ret2
    exact ⟨_, _, rfl, .inl rfl, hall⟩
  · go_wp2_with fail
    refine (numOf_no t v _ _).mono ?_
    rintro e w4 ⟨rfl, rfl⟩
    go_wp2_with fail
    go_ret2
    exact ⟨_, _, rfl, .inr ⟨_, _, rfl⟩, hall⟩

theorem numFloor_yes (x : Nat) (w : World) (hx : finW x = true) :
    Calls Try.prog 19 #[.float .f64 x] w fun e w' => e = .returned (.tuple #[.float .f64 (floorW x), .bool true]) ∧ Below w.heap.size w w' := by
  go_enter Try.func19, Try.ntmps19
  go_wp2_with fail
  refine (partFloor_yes x _ hx).mono ?_
  rintro e w1 ⟨rfl, hb1⟩
  go_wp2_with fail
  refine (number_yes _ _).mono ?_
  rintro e w2 ⟨rfl, rfl⟩
  go_wp2_with fail
  go_ret2
  exact ⟨rfl, hb1⟩
theorem numFloor_any (x : Nat) (w : World) :
    Calls Try.prog 19 #[.float .f64 x] w fun e w' => ∃ r b, e = .returned (.tuple #[.float .f64 r, .bool b]) ∧ Below w.heap.size w w' := by
  go_enter Try.func19, Try.ntmps19
  go_wp2_with fail
  refine (partFloor_any x _).mono ?_
  rintro e w1 ⟨r, u, rfl, rfl | ⟨t, v, rfl⟩, hb1⟩
  · go_wp2_with fail
    refine (number_yes _ _).mono ?_
    rintro e w2 ⟨rfl, rfl⟩
    go_wp2_with fail
    go_ret2
    exact ⟨_, _, rfl, hb1⟩
  · go_wp2_with fail
    refine (number_no _ _ _ _).mono ?_
    rintro e w2 ⟨rfl, rfl⟩
    go_wp2_with fail
    go_ret2
    exact ⟨_, _, rfl, hb1⟩

theorem finite_1 (b x : Nat) (w : World) (h0 : w.cell? ⟨b, 0, none⟩ = some (.float .f64 x)) :
    Calls Try.prog 12 #[.slice (some ⟨b, 0, none⟩) 1 1] w fun e w' => e = .returned (.bool (finW x)) ∧ w = w' := by
  cases hx : finW x
  all_goals
    go_enter Try.func12, Try.ntmps12
    go_wp2_with fail
    refine wp_loop_rounds 2 ?_
    rw [rounds_succ]
    go_wp2_with (go_at_call 30; refine (finite_any _ _).mono ?_; rintro e w' ⟨rfl, rfl⟩)
    try (rw [rounds_succ]; go_wp2_with fail)
    go_ret
    exact ⟨rfl, rfl⟩

set_option maxRecDepth 100000 in
theorem law_floor_whole (x : Nat) (q : Int) (w : World) (hx : finW x = true) (hw : WholeAt (floorW x) q) (h1 : q * T ≤ valW x) (h2 : valW x < (q + 1) * T) :
    Calls Try.prog 7 #[.float .f64 x] w fun e w' => e = .returned (.bool true) ∧ Below w.heap.size w w' := by
  obtain ⟨r, hr, hrf, hrv⟩ := add_one (floorW x) q hw.1 hw.2.1 hw.2.2
  have hle : (FloatKind.f64.format.order (floorW x) x == some .lt || FloatKind.f64.format.order (floorW x) x == some .eq) = true := by
    rw [le_fin hw.1 hx, decide_eq_true_eq, hw.2.1]; exact h1
  have hgt : (FloatKind.f64.format.order r x == some .gt) = true := by
    rw [gt_fin hrf hx, decide_eq_true_eq, hrv]; exact h2
  have hop : ∀ w, (binOp .add 25 (.float .f64 (floorW x)) (.float .f64 4607182418800017408)).run Try.prog w = .ok (.float .f64 r) w := fun w => run_float_arith w .add 25 .f64 _ _ r hr
  have HX := Lib.hid hx
  have HW := Lib.hid hw
  have HL := Lib.hid hle
  have HG := Lib.hid hgt
  clear hx hw hr hrf hrv h1 h2 hle hgt
  go_enter Try.func7, Try.ntmps7
  go_wp2_with fail
  refine (numFloor_yes x _ HX.out).mono ?_
  rintro e w1 ⟨rfl, hb⟩
  go_wp2_with fail
  refine (finite_1 _ x _ (World.cell?_alloc_mark w1 _ _ (0, 0) 0)).mono ?_
  rintro e w2 ⟨rfl, rfl⟩
  rw [HX.out]
  go_wp2_with fail
  refine (whole_yes (floorW x) q _ HW.out).mono ?_
  rintro e w2 ⟨rfl, rfl⟩
  have hL := HL.out
  have hG := HG.out
  go_wp2
  go_ret
  exact ⟨by first | rfl | (rw [← HG.out]; rfl), hb.alloc hb.size _⟩

theorem law_floor_big (x : Nat) (w : World) (hx : finW x = true) (hw : ∀ z, ¬ WholeAt (floorW x) z) (he : (FloatKind.f64.format.order (floorW x) x == some .eq) = true) :
    Calls Try.prog 7 #[.float .f64 x] w fun e w' => e = .returned (.bool true) ∧ Below w.heap.size w w' := by
  have HX := Lib.hid hx
  have HW := Lib.hid hw
  have HE := Lib.hid he
  clear hx hw he
  go_enter Try.func7, Try.ntmps7
  go_wp2_with fail
  refine (numFloor_yes x _ HX.out).mono ?_
  rintro e w1 ⟨rfl, hb⟩
  go_wp2_with fail
  refine (finite_1 _ x _ (World.cell?_alloc_mark w1 _ _ (0, 0) 0)).mono ?_
  rintro e w2 ⟨rfl, rfl⟩
  rw [HX.out]
  go_wp2_with fail
  refine (whole_no (floorW x) _ HW.out).mono ?_
  rintro e w2 ⟨rfl, rfl⟩
  go_wp2
  go_ret
  exact ⟨by rw [← HE.out]; rfl, hb.alloc hb.size _⟩

theorem law_floor (x : Nat) (w : World) : Calls Try.prog 7 #[.float .f64 x] w fun e w' => e = .returned (.bool true) ∧ Below w.heap.size w w' := by
  cases hx : finW x
  · have HX := Lib.hid hx
    clear hx
    go_enter Try.func7, Try.ntmps7
    go_wp2_with fail
    refine (numFloor_any x _).mono ?_
    rintro e w1 ⟨r, b, rfl, hb⟩
    go_wp2_with fail
    refine (finite_1 _ x _ (World.cell?_alloc_mark w1 _ _ (0, 0) 0)).mono ?_
    rintro e w2 ⟨rfl, rfl⟩
    rw [HX.out]
    go_wp2
    go_ret
    exact ⟨rfl, hb.alloc hb.size _⟩
  · obtain ⟨q, hf, hv, h1, h2⟩ := floor_fin x hx
    by_cases hq : q.natAbs < 9007199254740992
    · exact law_floor_whole x q w hx ⟨hf, hv, hq⟩ h1 h2
    · refine law_floor_big x w hx ?_ ?_
      · rintro z ⟨_, hz, hz'⟩
        have hT := T_pos
        have : q = z := Int.eq_of_mul_eq_mul_right (by omega) (hv.symm.trans hz)
        omega
      · have hbig : ∃ z : Int, valW x = z * T := by
          refine big_whole x hx ?_
          rcases Int.lt_or_le q 0 with hq0 | hq0
          · refine .inr ?_
            have a3 : (q + 1) * T ≤ -4503599627370496 * (T : Int) := mul_T_le.2 (by omega)
            omega
          · refine .inl ?_
            have a3 : 4503599627370496 * (T : Int) ≤ q * T := mul_T_le.2 (by omega)
            omega
        obtain ⟨z, hz⟩ := hbig
        have e1 : q = z := by
          rw [hz, mul_T_le] at h1
          rw [hz, mul_T_lt] at h2
          omega
        rw [eq_fin hf hx, decide_eq_true_eq, hv, hz, e1]
end Go.Proofs.Ytpehjcbjcenaeaa
