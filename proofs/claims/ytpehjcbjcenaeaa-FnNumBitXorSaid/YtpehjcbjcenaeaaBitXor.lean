/- PartBitXor, NumBitXor, laws.bits; the walk of FnNumBitXor. -/
import Derived.Test.YtpehjcbjcenaeaaLiftNan
namespace Go.Proofs.Ytpehjcbjcenaeaa
open Go.RowKit

theorem fin_word (s : Bool) (rung : Nat) (h : rung < 9218868437227405312) : finW (FloatKind.f64.format.word s rung) = true := by
  have h1 : FloatKind.f64.format.word s rung % 9223372036854775808 = rung := by
    unfold Ieee.Format.word
    rw [sw]
    split <;> omega
  unfold finW
  rw [read_def, h1]
  by_cases h2 : rung < 4503599627370496
  · rw [if_pos h2]
  · rw [if_neg h2, if_pos h]
theorem cut_le (way : Ieee.Toward) (s : Bool) (n drop : Nat) (h : drop ≤ n.log2 + 2) : way.cut s n drop ≤ n / 2 ^ drop + 1 := by
  unfold Ieee.Toward.cut
  simp only [Nat.shiftLeft_eq, Nat.one_mul, Nat.min_eq_left h]
  exact Nat.add_le_add_left (Bool.toNat_le _) _
theorem fin_int (n : Int) (h : n.natAbs ≤ 9223372036854775808) : finW (floatOfInt .f64 n) = true := by
  by_cases hs : n.natAbs ≤ 9007199254740992
  · exact (int_word n hs).1
  · show finW (FloatKind.f64.format.nearest (n < 0) n.natAbs 0) = true
    generalize hm : n.natAbs = mag at *
    have h0 : mag ≠ 0 := by omega
    unfold Ieee.Format.nearest
    rw [if_neg h0, fb, lp, bi, ir]
    have hL1 : 2 ^ mag.log2 ≤ mag := Nat.log2_self_le h0
    have hL2 : mag < 2 ^ (mag.log2 + 1) := Nat.lt_log2_self
    have hL3 : mag.log2 < 64 := (Nat.log2_lt h0).2 (Nat.lt_of_le_of_lt h (by decide))
    have hL4 : 52 < mag.log2 := by
      refine Nat.lt_of_not_le fun h => ?_
      have : 2 ^ (mag.log2 + 1) ≤ 2 ^ 53 := Nat.pow_le_pow_right (by omega) (by omega)
      have e : (2 : Nat) ^ 53 = 9007199254740992 := rfl
      omega
    have hcut := cut_le .even (n < 0) mag (mag.log2 - 52) (by omega)
    have hdiv : mag / 2 ^ (mag.log2 - 52) < 9007199254740992 := by
      rw [Nat.div_lt_iff_lt_mul (Nat.two_pow_pos _), show 9007199254740992 = 2 ^ 53 from rfl, ← Nat.pow_add, show 53 + (mag.log2 - 52) = mag.log2 + 1 from by omega]
      exact hL2
    have hl : max ((0 : Int) + (mag.log2 : Int) - (52 : Nat)) (-1074) = (mag.log2 : Int) - 52 := by omega
    have e1 : ((0 : Int) - ((mag.log2 : Int) - 52)).toNat = 0 := by omega
    have e2 : ((mag.log2 : Int) - 52 - 0).toNat = mag.log2 - 52 := by omega
    rw [hl]
    dsimp only
    rw [e1, e2, Nat.shiftLeft_zero]
    refine fin_word _ _ ?_
    have e3 : ((mag.log2 : Int) - 52 - -1074).toNat ≤ 1085 := by omega
    have hk : Ieee.Toward.even.cut (decide (n < 0)) mag (mag.log2 - 52) ≤ 9007199254740992 := Nat.le_trans hcut hdiv
    generalize Ieee.Toward.even.cut (decide (n < 0)) mag (mag.log2 - 52) = kept at hk
    generalize ((mag.log2 : Int) - 52 - -1074).toNat = e at e3
    clear hcut hdiv hl e1 e2 hL1 hL2 hL3 hL4 hm h hs h0
    omega
theorem fin_xor (m n : Int) : finW (floatOfInt .f64 (bits .xor .i64 m n)) = true := by
  refine fin_int _ ?_
  show (IntKind.i64.wrap _).natAbs ≤ _
  rw [IntKind.wrap_i64]
  omega

set_option maxRecDepth 100000 in
theorem partXor_yes (x y : Nat) (m n : Int) (w : World)
    (g1 : (FloatKind.f64.format.order x 14069245235905429503 == some .lt) = false) (g2 : (FloatKind.f64.format.order x 4845873199050653695 == some .gt) = false)
    (g3 : (FloatKind.f64.format.order y 14069245235905429503 == some .lt) = false) (g4 : (FloatKind.f64.format.order y 4845873199050653695 == some .gt) = false)
    (hcx : ∀ w, (convert 25 2 (.float .f64 x)).run Try.prog w = .ok (.int .i64 m) w) (hcy : ∀ w, (convert 25 2 (.float .f64 y)).run Try.prog w = .ok (.int .i64 n) w) :
    Calls Try.prog 35 #[.float .f64 x, .float .f64 y] w fun e w' => e = .returned (.tuple #[.float .f64 (floatOfInt .f64 (bits .xor .i64 m n)), .nilIface]) ∧ Below w.heap.size w w' := by
  have G1 := Lib.hid g1
  have G2 := Lib.hid g2
  have G3 := Lib.hid g3
  have G4 := Lib.hid g4
  have H1 := Lib.hid hcx
  have H2 := Lib.hid hcy
  clear g1 g2 g3 g4 hcx hcy
  go_enter Try.func35, Try.ntmps35
  go_wp2_with fail
  refine (mkXor _).mono ?_
  rintro e w0 ⟨b1, b2, rfl, hcap, hb0⟩
  have hcap1 := hcap.below ((Below.refl w0.heap.size w0).alloc (Nat.le_refl _) (.cells #[.nilIface, .map none, .map none, .pointer none, .pointer none, .pointer none, .pointer none, .slice none 0 0, .int .i64 0, .int .i64 0, .nilFunc, .nilFunc] 88))
  go_wp2_with fail
  refine (num_any x _).mono ?_
  rintro e w1 ⟨r1, rfl, hc1, hb1⟩
  have hcap2 := hcap1.below hb1
  go_wp2_with fail
  refine (num_any y _).mono ?_
  rintro e w2 ⟨r2, rfl, hc2, hb2⟩
  have hc1' := keeps hb2 hc1
  have hcap3 := hcap2.below hb2
  go_wp2_with fail
  refine (lift_yes _ r1 r2 b1 b2 x y m n _ hc1' hc2 hcap3 G1.out G2.out G3.out G4.out H1.out H2.out (fin_xor m n)).mono ?_
  rintro e w3 ⟨r3, rfl, hc3, hb3⟩
  go_wp2_with fail
  refine (numOf_yes r3 _ _ hc3).mono ?_
  rintro e w4 ⟨rfl, rfl⟩
  go_wp2_with fail
  go_ret2
  have hs0 := hb0.size
  have hs := hb1.size
  have hs2 := hb2.size
  simp at hs
  exact ⟨rfl, (hb0.trans (((Below.refl _ _).alloc (Nat.le_refl _) _).mono hs0)).trans ((hb1.mono (by simp; omega)).trans ((hb2.mono (by omega)).trans (hb3.mono (by omega))))⟩

theorem lift_in (b : Nat) (p q b1 b2 : Addr) (x y : Nat) (w : World) (hi : IT w b) (hp : w.cell? p = some (.float .f64 x)) (hq : w.cell? q = some (.float .f64 y)) (hc : CapXor w b1 b2)
    (g1 : (FloatKind.f64.format.order x 14069245235905429503 == some .lt) = false) (g2 : (FloatKind.f64.format.order x 4845873199050653695 == some .gt) = false)
    (g3 : (FloatKind.f64.format.order y 14069245235905429503 == some .lt) = false) (g4 : (FloatKind.f64.format.order y 4845873199050653695 == some .gt) = false) :
    Calls Try.prog 82 #[.pointer (some ⟨b, 0, none⟩), .iface 103 (.pointer (some p)), .iface 103 (.pointer (some q)), .pointer (some b1), .pointer (some b2)] w (NumAny w) := by
  rcases converts x with ⟨m, hcx⟩ | ⟨m, hcx⟩
  · rcases converts y with ⟨n, hcy⟩ | ⟨n, hcy⟩
    · exact lift_known b p q b1 b2 x y m n w hi hp hq hc g1 g2 g3 g4 hcx hcy
    · exact lift_known_nan b p q b1 b2 x y m n w hi hp hq hc g1 g2 g3 g4 hcx hcy
  · rcases converts y with ⟨n, hcy⟩ | ⟨n, hcy⟩
    · exact lift_nan_known b p q b1 b2 x y m n w hi hp hq hc g1 g2 g3 g4 hcx hcy
    · exact lift_nan_nan b p q b1 b2 x y m n w hi hp hq hc g1 g2 g3 g4 hcx hcy

theorem lift_any (b : Nat) (p q b1 b2 : Addr) (x y : Nat) (w : World) (hi : IT w b) (hp : w.cell? p = some (.float .f64 x)) (hq : w.cell? q = some (.float .f64 y)) (hc : CapXor w b1 b2) :
    Calls Try.prog 82 #[.pointer (some ⟨b, 0, none⟩), .iface 103 (.pointer (some p)), .iface 103 (.pointer (some q)), .pointer (some b1), .pointer (some b2)] w (NumAny w) := by
  cases g1 : (FloatKind.f64.format.order x 14069245235905429503 == some .lt)
  · cases g2 : (FloatKind.f64.format.order x 4845873199050653695 == some .gt)
    · cases g3 : (FloatKind.f64.format.order y 14069245235905429503 == some .lt)
      · cases g4 : (FloatKind.f64.format.order y 4845873199050653695 == some .gt)
        · exact lift_in b p q b1 b2 x y w hi hp hq hc g1 g2 g3 g4
        · exact (lift_out b p q b1 b2 x y w hi hp hq (.inr (.inr ⟨g1, g2, .inr ⟨g3, g4⟩⟩))).mono fun e w' h => h.any
      · exact (lift_out b p q b1 b2 x y w hi hp hq (.inr (.inr ⟨g1, g2, .inl g3⟩))).mono fun e w' h => h.any
    · exact (lift_out b p q b1 b2 x y w hi hp hq (.inr (.inl ⟨g1, g2⟩))).mono fun e w' h => h.any
  · exact (lift_out b p q b1 b2 x y w hi hp hq (.inl g1)).mono fun e w' h => h.any

set_option maxRecDepth 100000 in
theorem partXor_any (x y : Nat) (w : World) :
    Calls Try.prog 35 #[.float .f64 x, .float .f64 y] w fun e w' => ∃ r u, e = .returned (.tuple #[.float .f64 r, u]) ∧ (u = .nilIface ∨ ∃ t v, u = .iface t v) ∧ Below w.heap.size w w' := by
  go_enter Try.func35, Try.ntmps35
  go_wp2_with fail
  refine (mkXor _).mono ?_
  rintro e w0 ⟨b1, b2, rfl, hcap, hb0⟩
  have hcap1 := hcap.below ((Below.refl w0.heap.size w0).alloc (Nat.le_refl _) (.cells #[.nilIface, .map none, .map none, .pointer none, .pointer none, .pointer none, .pointer none, .slice none 0 0, .int .i64 0, .int .i64 0, .nilFunc, .nilFunc] 88))
  have hit := it_new w0 88
  go_wp2_with fail
  refine (num_any x _).mono ?_
  rintro e w1 ⟨r1, rfl, hc1, hb1⟩
  have hcap2 := hcap1.below hb1
  have hi1 := hit.below hb1
  go_wp2_with fail
  refine (num_any y _).mono ?_
  rintro e w2 ⟨r2, rfl, hc2, hb2⟩
  have hc1' := keeps hb2 hc1
  have hcap3 := hcap2.below hb2
  have hi2 := hi1.below hb2
  go_wp2_with fail
  refine (lift_any _ r1 r2 b1 b2 x y _ hi2 hc1' hc2 hcap3).mono ?_
  rintro e w3 ⟨u1, u2, rfl, hb3, hor⟩
  have hs0 := hb0.size
  have hs := hb1.size
  have hs2 := hb2.size
  simp at hs
  have hall : Below w.heap.size w w3 := (hb0.trans (((Below.refl _ _).alloc (Nat.le_refl _) _).mono hs0)).trans ((hb1.mono (by simp; omega)).trans ((hb2.mono (by omega)).trans (hb3.mono (by omega))))
  rcases hor with ⟨p, r, rfl, rfl, hc3⟩ | ⟨t, v, rfl, rfl⟩
  · go_wp2_with fail
    refine (numOf_yes p _ _ hc3).mono ?_
    rintro e w4 ⟨rfl, rfl⟩
    go_wp2_with fail
    go_ret2
    exact ⟨_, _, rfl, .inl rfl, hall⟩
  · go_wp2_with fail
    refine (numOf_no t v _ _).mono ?_
    rintro e w4 ⟨rfl, rfl⟩
    go_wp2_with fail
    go_ret2
    exact ⟨_, _, rfl, .inr ⟨_, _, rfl⟩, hall⟩

theorem numXor_yes (x y : Nat) (m n : Int) (w : World)
    (g1 : (FloatKind.f64.format.order x 14069245235905429503 == some .lt) = false) (g2 : (FloatKind.f64.format.order x 4845873199050653695 == some .gt) = false)
    (g3 : (FloatKind.f64.format.order y 14069245235905429503 == some .lt) = false) (g4 : (FloatKind.f64.format.order y 4845873199050653695 == some .gt) = false)
    (hcx : ∀ w, (convert 25 2 (.float .f64 x)).run Try.prog w = .ok (.int .i64 m) w) (hcy : ∀ w, (convert 25 2 (.float .f64 y)).run Try.prog w = .ok (.int .i64 n) w) :
    Calls Try.prog 17 #[.float .f64 x, .float .f64 y] w fun e w' => e = .returned (.tuple #[.float .f64 (floatOfInt .f64 (bits .xor .i64 m n)), .bool true]) ∧ Below w.heap.size w w' := by
  have hP := Lib.hid (fun w => partXor_yes x y m n w g1 g2 g3 g4 hcx hcy)
  clear g1 g2 g3 g4 hcx hcy
  go_enter Try.func17, Try.ntmps17
  go_wp2_with fail
  refine (hP.out _).mono ?_
  rintro e w1 ⟨rfl, hb1⟩
  go_wp2_with fail
  refine (number_yes _ _).mono ?_
  rintro e w2 ⟨rfl, rfl⟩
  go_wp2_with fail
  go_ret2
  exact ⟨rfl, hb1⟩
theorem numXor_any (x y : Nat) (w : World) :
    Calls Try.prog 17 #[.float .f64 x, .float .f64 y] w fun e w' => ∃ r b, e = .returned (.tuple #[.float .f64 r, .bool b]) ∧ Below w.heap.size w w' := by
  go_enter Try.func17, Try.ntmps17
  go_wp2_with fail
  refine (partXor_any x y _).mono ?_
  rintro e w1 ⟨r, u, rfl, rfl | ⟨t, v, rfl⟩, hb1⟩
  · go_wp2_with fail
    refine (number_yes _ _).mono ?_
    rintro e w2 ⟨rfl, rfl⟩
    go_wp2_with fail
    go_ret2
    exact ⟨_, _, rfl, hb1⟩
  · go_wp2_with fail
    refine (number_no _ _ _ _).mono ?_
    rintro e w2 ⟨rfl, rfl⟩
    go_wp2_with fail
    go_ret2
    exact ⟨_, _, rfl, hb1⟩

set_option maxRecDepth 100000 in
theorem bits_yes (x y : Nat) (m n : Int) (w : World) (hx : WholeAt x m) (hy : WholeAt y n) :
    Calls Try.prog 18 #[.float .f64 (floatOfInt .f64 (bits .xor .i64 m n)), .bool true, .float .f64 x, .float .f64 y, .int .i64 16] w fun e w' => e = .returned (.bool true) ∧ w = w' := by
  have HX := Lib.hid hx
  have HY := Lib.hid hy
  have he := order_eq_self _ (nan_of_fin (fin_xor m n))
  have HE := Lib.hid he
  clear hx hy he
  go_enter Try.func18, Try.ntmps18
  go_wp2_with fail
  refine (whole_yes x m _ HX.out).mono ?_
  rintro e w1 ⟨rfl, rfl⟩
  go_wp2_with fail
  refine (whole_yes y n _ HY.out).mono ?_
  rintro e w1 ⟨rfl, rfl⟩
  go_wp2
  go_ret
  exact ⟨by rw [← HE.out]; rfl, rfl⟩
theorem bits_no (o x y : Nat) (b : Bool) (w : World) (h : (∀ z, ¬ WholeAt x z) ∨ ∃ z, WholeAt x z ∧ ∀ z, ¬ WholeAt y z) :
    Calls Try.prog 18 #[.float .f64 o, .bool b, .float .f64 x, .float .f64 y, .int .i64 16] w fun e w' => e = .returned (.bool true) ∧ w = w' := by
  rcases h with hx | ⟨z, hx, hy⟩
  · have HX := Lib.hid hx
    clear hx
    by_cases hy : ∃ z, WholeAt y z
    · obtain ⟨z, hy⟩ := hy
      have HY := Lib.hid hy
      clear hy
      go_enter Try.func18, Try.ntmps18
      go_wp2_with fail
      refine (whole_no x _ HX.out).mono ?_
      rintro e w1 ⟨rfl, rfl⟩
      go_wp2_with fail
      refine (whole_yes y z _ HY.out).mono ?_
      rintro e w1 ⟨rfl, rfl⟩
      go_wp2
      go_ret
      exact ⟨rfl, rfl⟩
    · have HY := Lib.hid (fun z hz => hy ⟨z, hz⟩ : ∀ z, ¬ WholeAt y z)
      clear hy
      go_enter Try.func18, Try.ntmps18
      go_wp2_with fail
      refine (whole_no x _ HX.out).mono ?_
      rintro e w1 ⟨rfl, rfl⟩
      go_wp2_with fail
      refine (whole_no y _ HY.out).mono ?_
      rintro e w1 ⟨rfl, rfl⟩
      go_wp2
      go_ret
      exact ⟨rfl, rfl⟩
  · have HX := Lib.hid hx
    have HY := Lib.hid hy
    clear hx hy
    go_enter Try.func18, Try.ntmps18
    go_wp2_with fail
    refine (whole_yes x z _ HX.out).mono ?_
    rintro e w1 ⟨rfl, rfl⟩
    go_wp2_with fail
    refine (whole_no y _ HY.out).mono ?_
    rintro e w1 ⟨rfl, rfl⟩
    go_wp2
    go_ret
    exact ⟨rfl, rfl⟩

/-- An integer of less than 2^53 passes the test of its range, and is converted. -/
theorem whole_range {x : Nat} {z : Int} (h : WholeAt x z) : (FloatKind.f64.format.order x 14069245235905429503 == some .lt) = false ∧ (FloatKind.f64.format.order x 4845873199050653695 == some .gt) = false ∧
    ∀ w, (convert 25 2 (.float .f64 x)).run Try.prog w = .ok (.int .i64 z) w := by
  obtain ⟨hf, hv, hz⟩ := h
  refine ⟨?_, ?_, ?_⟩
  · rw [lt_fin hf val_least.1, hv, val_least.2, decide_eq_false_iff_not, mul_T_lt]; omega
  · rw [gt_fin hf val_most.1, hv, val_most.2, decide_eq_false_iff_not, mul_T_lt]; omega
  · obtain ⟨q, _, _, hi, hq, _⟩ := trunc_fin x hf
    have hqz := hq z hv
    subst hqz
    have hc : floatToIntVal .f64 x .i64 = some q := by
      unfold floatToIntVal
      rw [hi]
      show (if IntKind.min .i64 ≤ q ∧ q ≤ IntKind.max .i64 then some q else none) = _
      have m1 : IntKind.min .i64 = -9223372036854775808 := by decide +kernel
      have m2 : IntKind.max .i64 = 9223372036854775807 := by decide +kernel
      rw [m1, m2, if_pos (by omega)]
    exact fun w => run_convert_float_int w 25 2 .f64 .i64 x q (by rw [Try.underlying25]; rfl) Try.underlying2 hc

set_option maxRecDepth 100000 in
theorem law_bitXor (x y : Nat) (w : World) : Calls Try.prog 6 #[.float .f64 x, .float .f64 y] w fun e w' => e = .returned (.bool true) ∧ Below w.heap.size w w' := by
  by_cases h : (∃ m, WholeAt x m) ∧ ∃ n, WholeAt y n
  · obtain ⟨⟨m, hx⟩, n, hy⟩ := h
    obtain ⟨g1, g2, g3⟩ := whole_range hx
    obtain ⟨k1, k2, k3⟩ := whole_range hy
    have hP := Lib.hid (fun w => numXor_yes x y m n w g1 g2 k1 k2 g3 k3)
    have hB := Lib.hid (fun w => bits_yes x y m n w hx hy)
    clear g1 g2 g3 k1 k2 k3 hx hy
    go_enter Try.func6, Try.ntmps6
    go_wp2_with fail
    refine (hP.out _).mono ?_
    rintro e w1 ⟨rfl, hb⟩
    go_wp2_with fail
    refine (hB.out _).mono ?_
    rintro e w2 ⟨rfl, rfl⟩
    go_wp2
    go_ret
    exact ⟨rfl, hb⟩
  · have h' : (∀ z, ¬ WholeAt x z) ∨ ∃ z, WholeAt x z ∧ ∀ z, ¬ WholeAt y z := by
      by_cases hx : ∃ m, WholeAt x m
      · obtain ⟨m, hm⟩ := hx
        exact .inr ⟨m, hm, fun n hn => h ⟨⟨m, hm⟩, n, hn⟩⟩
      · exact .inl fun z hz => hx ⟨z, hz⟩
    have hB := Lib.hid (fun o b w => bits_no o x y b w h')
    clear h h'
    go_enter Try.func6, Try.ntmps6
    go_wp2_with fail
    refine (numXor_any x y _).mono ?_
    rintro e w1 ⟨r, b, rfl, hb⟩
    go_wp2_with fail
    refine (hB.out _ _ _).mono ?_
    rintro e w2 ⟨rfl, rfl⟩
    go_wp2
    go_ret
    exact ⟨rfl, hb⟩
end Go.Proofs.Ytpehjcbjcenaeaa
