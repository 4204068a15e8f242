/- (printed by genint.py) builtinIsInteger, builtinIsDecimal; NumIsInteger, NumIsDecimal. -/
import Derived.Test.YtpehjcbjcenaeaaModf
import Derived.Test.YtpehjcbjcenaeaaLiftAny
namespace Go.Proofs.Ytpehjcbjcenaeaa
open Go.RowKit

theorem fn_fin_Integer (x : Nat) (wx : Bool) (w : World) (h : finW x = true) (hw : wx = true ↔ ∃ k : Int, valW x = k * T) :
    Calls Try.prog 65 #[.float .f64 x] w fun e w' => e = .returned (.bool wx) ∧ w = w' := by
  have H := Lib.hid h
  have HW := Lib.hid hw
  clear h hw
  go_enter Try.func65, Try.ntmps65
  go_wp2_with fail
  refine (modf_fin x _ H.out).mono ?_
  rintro e w1 ⟨z, rfl, ⟨hf, hv⟩, rfl⟩
  have hEQ : (FloatKind.f64.format.order z 0 == some .eq) = wx := by
    rw [eq_fin hf val_null.1, val_null.2]
    cases wx
    · have : ¬ valW z = 0 := fun e => absurd (HW.out.2 (hv.1 e)) (by simp)
      simp [this]
    · have : valW z = 0 := hv.2 (HW.out.1 rfl)
      simp [this]
  clear hf hv
  go_wp2
  go_ret
  exact ⟨by rw [← hEQ]; rfl, rfl⟩
theorem fn_any_Integer (x : Nat) (w : World) :
    Calls Try.prog 65 #[.float .f64 x] w fun e w' => ∃ b, e = .returned (.bool b) ∧ Below w.heap.size w w' := by
  go_enter Try.func65, Try.ntmps65
  go_wp2_with fail
  refine (modf_any x _).mono ?_
  rintro e w1 ⟨t, z, rfl, hb⟩
  go_wp2
  go_ret
  exact ⟨_, rfl, hb⟩

theorem mk_Integer (w : World) :
    Calls Try.prog 50 #[] w fun e w' => ∃ b1, e = .returned (.func (.func 80) #[] #[.pointer (some b1)]) ∧ w'.cell? b1 = some (.func (.func 65) #[] #[]) ∧ Below w.heap.size w w' := by
  go_enter Try.func50, Try.ntmps50
  go_wp2_with fail
  refine Calls.mono (R := fun e w' => ∃ b1, e = .returned (.func (.func 80) #[] #[.pointer (some b1)]) ∧ w'.cell? b1 = some (.func (.func 65) #[] #[]) ∧ Below w.heap.size w w') ?_ ?_
  · go_enter Try.func64, Try.ntmps64
    go_wp2
    go_ret
    exact ⟨_, rfl, World.cell?_alloc_mark _ _ _ (0, 0) 0, (Below.refl _ _).alloc (Nat.le_refl _) _⟩
  · rintro e w1 ⟨b1, rfl, hc, hb⟩
    go_wp2
    go_ret
    exact ⟨_, rfl, hc, hb⟩

set_option maxRecDepth 100000 in
theorem lift_fin_Integer (i : Value) (p b1 : Addr) (x : Nat) (wx : Bool) (w : World) (hp : w.cell? p = some (.float .f64 x)) (hc : w.cell? b1 = some (.func (.func 65) #[] #[])) (h : finW x = true) (hw : wx = true ↔ ∃ k : Int, valW x = k * T) :
    Calls Try.prog 80 #[i, .iface 103 (.pointer (some p)), .pointer (some b1)] w fun e w' => ∃ r, e = .returned (.tuple #[.iface 89 (.pointer (some r)), .nilIface]) ∧ w'.cell? r = some (.bool wx) ∧ Below w.heap.size w w' := by
  have H := Lib.hid h
  have HW := Lib.hid hw
  clear h hw
  go_enter Try.func80, Try.ntmps80
  go_wp2_with (go_at_call 61; refine (getNumber_any _ _ _).mono ?_; rintro e w' ⟨rfl, rfl⟩)
  go_region_held3 (fun w' => w'.cell? p = some (.float .f64 x) ∧ w'.cell? b1 = some (.func (.func 65) #[] #[])) (first | (go_keep; done) | (refine ⟨?_, ?_⟩ <;> (refine keeps hb ?_; assumption))) ((first | (go_at_call 65; refine (fn_fin_Integer _ wx _ H.out HW.out).mono ?_; rintro e w1 ⟨rfl, rfl⟩) | (go_at_call 43; refine (makeBool' _ _).mono ?_; rintro e w1 ⟨p1, rfl, hcc, hb⟩)))
  all_goals
    go_wp2
    go_ret2
    exact ⟨_, rfl, hcc, (Below.refl w.heap.size w).drew.trans hb⟩
set_option maxRecDepth 100000 in
theorem lift_any_Integer (i : Value) (p b1 : Addr) (x : Nat) (w : World) (hp : w.cell? p = some (.float .f64 x)) (hc : w.cell? b1 = some (.func (.func 65) #[] #[])) :
    Calls Try.prog 80 #[i, .iface 103 (.pointer (some p)), .pointer (some b1)] w fun e w' => ∃ r b, e = .returned (.tuple #[.iface 89 (.pointer (some r)), .nilIface]) ∧ w'.cell? r = some (.bool b) ∧ Below w.heap.size w w' := by
  go_enter Try.func80, Try.ntmps80
  go_wp2_with (go_at_call 61; refine (getNumber_any _ _ _).mono ?_; rintro e w' ⟨rfl, rfl⟩)
  go_region_held3 (fun w' => w'.cell? p = some (.float .f64 x) ∧ w'.cell? b1 = some (.func (.func 65) #[] #[])) (first | (go_keep; done) | (refine ⟨?_, ?_⟩ <;> first | (refine keeps hb2 ?_; assumption) | (refine keeps hb2 ?_; go_split_ands; assumption) | (refine keeps hb ?_; assumption))) ((first | (go_at_call 65; refine (fn_any_Integer _ _).mono ?_; rintro e w1 ⟨t1, rfl, hb⟩) | (go_at_call 43; refine (makeBool' _ _).mono ?_; rintro e w2 ⟨p1, rfl, hcc, hb2⟩)))
  all_goals
    go_wp2
    go_ret2
    exact ⟨_, _, rfl, hcc, ((Below.refl w.heap.size w).drew.trans hb).trans (hb2.mono hb.size)⟩

set_option maxRecDepth 100000 in
theorem part_fin_Integer (x : Nat) (wx : Bool) (w : World) (h : finW x = true) (hw : wx = true ↔ ∃ k : Int, valW x = k * T) :
    Calls Try.prog 31 #[.float .f64 x] w fun e w' => e = .returned (.tuple #[.bool wx, .nilIface]) ∧ Below w.heap.size w w' := by
  have H := Lib.hid h
  have HW := Lib.hid hw
  clear h hw
  go_enter Try.func31, Try.ntmps31
  go_wp2_with fail
  refine (mk_Integer _).mono ?_
  rintro e w0 ⟨b1, rfl, hcap, hb0⟩
  have hcap1 := keeps ((Below.refl w0.heap.size w0).alloc (Nat.le_refl _) (.cells #[.nilIface, .map none, .map none, .pointer none, .pointer none, .pointer none, .pointer none, .slice none 0 0, .int .i64 0, .int .i64 0, .nilFunc, .nilFunc] 88)) hcap
  go_wp2_with fail
  refine (num_any x _).mono ?_
  rintro e w1 ⟨r1, rfl, hc1, hb1⟩
  have hcap2 := keeps hb1 hcap1
  go_wp2_with fail
  refine (lift_fin_Integer _ r1 b1 x wx _ hc1 hcap2 H.out HW.out).mono ?_
  rintro e w3 ⟨r3, rfl, hc3, hb3⟩
  go_wp2_with fail
  refine (boolOf_any r3 _ _ hc3).mono ?_
  rintro e w4 ⟨rfl, rfl⟩
  go_wp2_with fail
  go_ret2
  have hs0 := hb0.size
  have hs := hb1.size
  simp at hs
  exact ⟨rfl, (hb0.trans (((Below.refl _ _).alloc (Nat.le_refl _) _).mono hs0)).trans ((hb1.mono (by simp; omega)).trans (hb3.mono (by omega)))⟩
set_option maxRecDepth 100000 in
theorem part_any_Integer (x : Nat) (w : World) :
    Calls Try.prog 31 #[.float .f64 x] w fun e w' => ∃ b, e = .returned (.tuple #[.bool b, .nilIface]) ∧ Below w.heap.size w w' := by
  go_enter Try.func31, Try.ntmps31
  go_wp2_with fail
  refine (mk_Integer _).mono ?_
  rintro e w0 ⟨b1, rfl, hcap, hb0⟩
  have hcap1 := keeps ((Below.refl w0.heap.size w0).alloc (Nat.le_refl _) (.cells #[.nilIface, .map none, .map none, .pointer none, .pointer none, .pointer none, .pointer none, .slice none 0 0, .int .i64 0, .int .i64 0, .nilFunc, .nilFunc] 88)) hcap
  go_wp2_with fail
  refine (num_any x _).mono ?_
  rintro e w1 ⟨r1, rfl, hc1, hb1⟩
  have hcap2 := keeps hb1 hcap1
  go_wp2_with fail
  refine (lift_any_Integer _ r1 b1 x _ hc1 hcap2).mono ?_
  rintro e w3 ⟨r3, b, rfl, hc3, hb3⟩
  go_wp2_with fail
  refine (boolOf_any r3 _ _ hc3).mono ?_
  rintro e w4 ⟨rfl, rfl⟩
  go_wp2_with fail
  go_ret2
  have hs0 := hb0.size
  have hs := hb1.size
  simp at hs
  exact ⟨_, rfl, (hb0.trans (((Below.refl _ _).alloc (Nat.le_refl _) _).mono hs0)).trans ((hb1.mono (by simp; omega)).trans (hb3.mono (by omega)))⟩

theorem num_fin_Integer (x : Nat) (wx : Bool) (w : World) (h : finW x = true) (hw : wx = true ↔ ∃ k : Int, valW x = k * T) :
    Calls Try.prog 14 #[.float .f64 x] w fun e w' => e = .returned (.tuple #[.bool wx, .bool true]) ∧ Below w.heap.size w w' := by
  go_enter Try.func14, Try.ntmps14
  go_wp2_with fail
  refine (part_fin_Integer x wx _ h hw).mono ?_
  rintro e w1 ⟨rfl, hb1⟩
  go_wp2_with fail
  refine (truth_any _ _).mono ?_
  rintro e w2 ⟨rfl, rfl⟩
  go_wp2_with fail
  go_ret2
  exact ⟨rfl, hb1⟩
theorem num_any_Integer (x : Nat) (w : World) :
    Calls Try.prog 14 #[.float .f64 x] w fun e w' => ∃ b, e = .returned (.tuple #[.bool b, .bool true]) ∧ Below w.heap.size w w' := by
  go_enter Try.func14, Try.ntmps14
  go_wp2_with fail
  refine (part_any_Integer x _).mono ?_
  rintro e w1 ⟨b, rfl, hb1⟩
  go_wp2_with fail
  refine (truth_any _ _).mono ?_
  rintro e w2 ⟨rfl, rfl⟩
  go_wp2_with fail
  go_ret2
  exact ⟨_, rfl, hb1⟩

theorem fn_fin_Decimal (x : Nat) (wx : Bool) (w : World) (h : finW x = true) (hw : wx = true ↔ ∃ k : Int, valW x = k * T) :
    Calls Try.prog 67 #[.float .f64 x] w fun e w' => e = .returned (.bool (!wx)) ∧ w = w' := by
  have H := Lib.hid h
  have HW := Lib.hid hw
  clear h hw
  go_enter Try.func67, Try.ntmps67
  go_wp2_with fail
  refine (modf_fin x _ H.out).mono ?_
  rintro e w1 ⟨z, rfl, ⟨hf, hv⟩, rfl⟩
  have hEQ : (FloatKind.f64.format.order z 0 != some .eq) = (!wx) := by
    rw [ne_fin hf val_null.1, val_null.2]
    cases wx
    · have : ¬ valW z = 0 := fun e => absurd (HW.out.2 (hv.1 e)) (by simp)
      simp [this]
    · have : valW z = 0 := hv.2 (HW.out.1 rfl)
      simp [this]
  clear hf hv
  go_wp2
  go_ret
  exact ⟨by rw [← hEQ]; rfl, rfl⟩
theorem fn_any_Decimal (x : Nat) (w : World) :
    Calls Try.prog 67 #[.float .f64 x] w fun e w' => ∃ b, e = .returned (.bool b) ∧ Below w.heap.size w w' := by
  go_enter Try.func67, Try.ntmps67
  go_wp2_with fail
  refine (modf_any x _).mono ?_
  rintro e w1 ⟨t, z, rfl, hb⟩
  go_wp2
  go_ret
  exact ⟨_, rfl, hb⟩

theorem mk_Decimal (w : World) :
    Calls Try.prog 51 #[] w fun e w' => ∃ b1, e = .returned (.func (.func 80) #[] #[.pointer (some b1)]) ∧ w'.cell? b1 = some (.func (.func 67) #[] #[]) ∧ Below w.heap.size w w' := by
  go_enter Try.func51, Try.ntmps51
  go_wp2_with fail
  refine Calls.mono (R := fun e w' => ∃ b1, e = .returned (.func (.func 80) #[] #[.pointer (some b1)]) ∧ w'.cell? b1 = some (.func (.func 67) #[] #[]) ∧ Below w.heap.size w w') ?_ ?_
  · go_enter Try.func64, Try.ntmps64
    go_wp2
    go_ret
    exact ⟨_, rfl, World.cell?_alloc_mark _ _ _ (0, 0) 0, (Below.refl _ _).alloc (Nat.le_refl _) _⟩
  · rintro e w1 ⟨b1, rfl, hc, hb⟩
    go_wp2
    go_ret
    exact ⟨_, rfl, hc, hb⟩

set_option maxRecDepth 100000 in
theorem lift_fin_Decimal (i : Value) (p b1 : Addr) (x : Nat) (wx : Bool) (w : World) (hp : w.cell? p = some (.float .f64 x)) (hc : w.cell? b1 = some (.func (.func 67) #[] #[])) (h : finW x = true) (hw : wx = true ↔ ∃ k : Int, valW x = k * T) :
    Calls Try.prog 80 #[i, .iface 103 (.pointer (some p)), .pointer (some b1)] w fun e w' => ∃ r, e = .returned (.tuple #[.iface 89 (.pointer (some r)), .nilIface]) ∧ w'.cell? r = some (.bool (!wx)) ∧ Below w.heap.size w w' := by
  have H := Lib.hid h
  have HW := Lib.hid hw
  clear h hw
  go_enter Try.func80, Try.ntmps80
  go_wp2_with (go_at_call 61; refine (getNumber_any _ _ _).mono ?_; rintro e w' ⟨rfl, rfl⟩)
  go_region_held3 (fun w' => w'.cell? p = some (.float .f64 x) ∧ w'.cell? b1 = some (.func (.func 67) #[] #[])) (first | (go_keep; done) | (refine ⟨?_, ?_⟩ <;> (refine keeps hb ?_; assumption))) ((first | (go_at_call 67; refine (fn_fin_Decimal _ wx _ H.out HW.out).mono ?_; rintro e w1 ⟨rfl, rfl⟩) | (go_at_call 43; refine (makeBool' _ _).mono ?_; rintro e w1 ⟨p1, rfl, hcc, hb⟩)))
  all_goals
    go_wp2
    go_ret2
    exact ⟨_, rfl, hcc, (Below.refl w.heap.size w).drew.trans hb⟩
set_option maxRecDepth 100000 in
theorem lift_any_Decimal (i : Value) (p b1 : Addr) (x : Nat) (w : World) (hp : w.cell? p = some (.float .f64 x)) (hc : w.cell? b1 = some (.func (.func 67) #[] #[])) :
    Calls Try.prog 80 #[i, .iface 103 (.pointer (some p)), .pointer (some b1)] w fun e w' => ∃ r b, e = .returned (.tuple #[.iface 89 (.pointer (some r)), .nilIface]) ∧ w'.cell? r = some (.bool b) ∧ Below w.heap.size w w' := by
  go_enter Try.func80, Try.ntmps80
  go_wp2_with (go_at_call 61; refine (getNumber_any _ _ _).mono ?_; rintro e w' ⟨rfl, rfl⟩)
  go_region_held3 (fun w' => w'.cell? p = some (.float .f64 x) ∧ w'.cell? b1 = some (.func (.func 67) #[] #[])) (first | (go_keep; done) | (refine ⟨?_, ?_⟩ <;> first | (refine keeps hb2 ?_; assumption) | (refine keeps hb2 ?_; go_split_ands; assumption) | (refine keeps hb ?_; assumption))) ((first | (go_at_call 67; refine (fn_any_Decimal _ _).mono ?_; rintro e w1 ⟨t1, rfl, hb⟩) | (go_at_call 43; refine (makeBool' _ _).mono ?_; rintro e w2 ⟨p1, rfl, hcc, hb2⟩)))
  all_goals
    go_wp2
    go_ret2
    exact ⟨_, _, rfl, hcc, ((Below.refl w.heap.size w).drew.trans hb).trans (hb2.mono hb.size)⟩

set_option maxRecDepth 100000 in
theorem part_fin_Decimal (x : Nat) (wx : Bool) (w : World) (h : finW x = true) (hw : wx = true ↔ ∃ k : Int, valW x = k * T) :
    Calls Try.prog 32 #[.float .f64 x] w fun e w' => e = .returned (.tuple #[.bool (!wx), .nilIface]) ∧ Below w.heap.size w w' := by
  have H := Lib.hid h
  have HW := Lib.hid hw
  clear h hw
  go_enter Try.func32, Try.ntmps32
  go_wp2_with fail
  refine (mk_Decimal _).mono ?_
  rintro e w0 ⟨b1, rfl, hcap, hb0⟩
  have hcap1 := keeps ((Below.refl w0.heap.size w0).alloc (Nat.le_refl _) (.cells #[.nilIface, .map none, .map none, .pointer none, .pointer none, .pointer none, .pointer none, .slice none 0 0, .int .i64 0, .int .i64 0, .nilFunc, .nilFunc] 88)) hcap
  go_wp2_with fail
  refine (num_any x _).mono ?_
  rintro e w1 ⟨r1, rfl, hc1, hb1⟩
  have hcap2 := keeps hb1 hcap1
  go_wp2_with fail
  refine (lift_fin_Decimal _ r1 b1 x wx _ hc1 hcap2 H.out HW.out).mono ?_
  rintro e w3 ⟨r3, rfl, hc3, hb3⟩
  go_wp2_with fail
  refine (boolOf_any r3 _ _ hc3).mono ?_
  rintro e w4 ⟨rfl, rfl⟩
  go_wp2_with fail
  go_ret2
  have hs0 := hb0.size
  have hs := hb1.size
  simp at hs
  exact ⟨rfl, (hb0.trans (((Below.refl _ _).alloc (Nat.le_refl _) _).mono hs0)).trans ((hb1.mono (by simp; omega)).trans (hb3.mono (by omega)))⟩
set_option maxRecDepth 100000 in
theorem part_any_Decimal (x : Nat) (w : World) :
    Calls Try.prog 32 #[.float .f64 x] w fun e w' => ∃ b, e = .returned (.tuple #[.bool b, .nilIface]) ∧ Below w.heap.size w w' := by
  go_enter Try.func32, Try.ntmps32
  go_wp2_with fail
  refine (mk_Decimal _).mono ?_
  rintro e w0 ⟨b1, rfl, hcap, hb0⟩
  have hcap1 := keeps ((Below.refl w0.heap.size w0).alloc (Nat.le_refl _) (.cells #[.nilIface, .map none, .map none, .pointer none, .pointer none, .pointer none, .pointer none, .slice none 0 0, .int .i64 0, .int .i64 0, .nilFunc, .nilFunc] 88)) hcap
  go_wp2_with fail
  refine (num_any x _).mono ?_
  rintro e w1 ⟨r1, rfl, hc1, hb1⟩
  have hcap2 := keeps hb1 hcap1
  go_wp2_with fail
  refine (lift_any_Decimal _ r1 b1 x _ hc1 hcap2).mono ?_
  rintro e w3 ⟨r3, b, rfl, hc3, hb3⟩
  go_wp2_with fail
  refine (boolOf_any r3 _ _ hc3).mono ?_
  rintro e w4 ⟨rfl, rfl⟩
  go_wp2_with fail
  go_ret2
  have hs0 := hb0.size
  have hs := hb1.size
  simp at hs
  exact ⟨_, rfl, (hb0.trans (((Below.refl _ _).alloc (Nat.le_refl _) _).mono hs0)).trans ((hb1.mono (by simp; omega)).trans (hb3.mono (by omega)))⟩

theorem num_fin_Decimal (x : Nat) (wx : Bool) (w : World) (h : finW x = true) (hw : wx = true ↔ ∃ k : Int, valW x = k * T) :
    Calls Try.prog 15 #[.float .f64 x] w fun e w' => e = .returned (.tuple #[.bool (!wx), .bool true]) ∧ Below w.heap.size w w' := by
  go_enter Try.func15, Try.ntmps15
  go_wp2_with fail
  refine (part_fin_Decimal x wx _ h hw).mono ?_
  rintro e w1 ⟨rfl, hb1⟩
  go_wp2_with fail
  refine (truth_any _ _).mono ?_
  rintro e w2 ⟨rfl, rfl⟩
  go_wp2_with fail
  go_ret2
  exact ⟨rfl, hb1⟩
theorem num_any_Decimal (x : Nat) (w : World) :
    Calls Try.prog 15 #[.float .f64 x] w fun e w' => ∃ b, e = .returned (.tuple #[.bool b, .bool true]) ∧ Below w.heap.size w w' := by
  go_enter Try.func15, Try.ntmps15
  go_wp2_with fail
  refine (part_any_Decimal x _).mono ?_
  rintro e w1 ⟨b, rfl, hb1⟩
  go_wp2_with fail
  refine (truth_any _ _).mono ?_
  rintro e w2 ⟨rfl, rfl⟩
  go_wp2_with fail
  go_ret2
  exact ⟨_, rfl, hb1⟩

end Go.Proofs.Ytpehjcbjcenaeaa
