/- spec.Whole of what is no integer; liftBitwise, NumBitXor. -/
import Derived.Test.YtpehjcbjcenaeaaWhole
namespace Go.Proofs.Ytpehjcbjcenaeaa
open Go.RowKit

/-- A comparison by '<', '>' of words. -/
def ltW (x y : Nat) : Bool := FloatKind.f64.format.order x y == some .lt
def gtW (x y : Nat) : Bool := FloatKind.f64.format.order x y == some .gt

set_option maxRecDepth 100000 in
theorem integer_no (x : Nat) (w : World) (h : ∀ z, ¬ WholeAt x z) :
    Calls Try.prog 37 #[.float .f64 x] w fun e w' => e = .returned (.tuple #[.int .i64 0, .bool false]) ∧ w = w' := by
  cases g1 : (FloatKind.f64.format.order x 14069245235905429504 == some .gt)
  · clear h
    go_enter Try.func37, Try.ntmps37
    go_wp2
    go_ret2
    exact ⟨rfl, rfl⟩
  · cases g2 : (FloatKind.f64.format.order x 4845873199050653696 == some .lt)
    · clear h
      go_enter Try.func37, Try.ntmps37
      go_wp2
      go_ret2
      exact ⟨rfl, rfl⟩
    · have hf := fin_between g1 g2
      obtain ⟨q, ht, htv, hi, hq, _⟩ := trunc_fin x hf
      have h1 := g1
      have h2 := g2
      rw [gt_fin hf val_under.1, val_under.2, decide_eq_true_eq] at h1
      rw [lt_fin hf val_over.1, val_over.2, decide_eq_true_eq] at h2
      have g3 : (FloatKind.f64.format.order x (truncW x) != some .eq) = true := by
        rw [ne_fin hf ht, htv]
        have : valW x ≠ q * T := by
          intro e
          refine h q ⟨hf, e, ?_⟩
          rw [e, mul_T_lt] at h1 h2
          omega
        simp [this]
      have hn := Lib.hid (nan_of_fin hf)
      clear hf h1 h2 ht htv hi hq h
      go_enter Try.func37, Try.ntmps37
      go_wp2_with (go_at_call 54; refine (trunc_num _ _ hn.out).mono ?_; rintro e w' ⟨rfl, rfl⟩)
      go_ret2
      exact ⟨rfl, rfl⟩

theorem whole_yes (x : Nat) (z : Int) (w : World) (h : WholeAt x z) :
    Calls Try.prog 20 #[.float .f64 x] w fun e w' => e = .returned (.tuple #[.int .i64 z, .bool true]) ∧ w = w' := by
  go_enter Try.func20, Try.ntmps20
  go_wp2_with fail
  refine (integer_yes x z _ h).mono ?_
  rintro e w1 ⟨rfl, rfl⟩
  go_wp2
  go_ret2
  exact ⟨rfl, rfl⟩
theorem whole_no (x : Nat) (w : World) (h : ∀ z, ¬ WholeAt x z) :
    Calls Try.prog 20 #[.float .f64 x] w fun e w' => e = .returned (.tuple #[.int .i64 0, .bool false]) ∧ w = w' := by
  go_enter Try.func20, Try.ntmps20
  go_wp2_with fail
  refine (integer_no x _ h).mono ?_
  rintro e w1 ⟨rfl, rfl⟩
  go_wp2
  go_ret2
  exact ⟨rfl, rfl⟩

/-- What the closure of liftBitwise finds in its captured variables. -/
def CapXor (w : World) (b1 b2 : Addr) : Prop := w.cell? b1 = some (.bool false) ∧ w.cell? b2 = some (.func (.func 69) #[] #[])
theorem CapXor.below {w w' : World} {b1 b2 : Addr} (h : CapXor w b1 b2) (hb : Below w.heap.size w w') : CapXor w' b1 b2 := ⟨keeps hb h.1, keeps hb h.2⟩

theorem cell_two (w : World) (o : Obj) (v : Value) (t : TypeId) : ((w.alloc o).alloc (.cells #[v] t)).cell? ⟨w.heap.size + 1, 0, none⟩ = some v := by
  have h := World.cell?_alloc_mark (w.alloc o) #[v] t (0, 0) 0
  have e : (w.alloc o).heap.size = w.heap.size + 1 := by simp
  rw [e] at h
  exact h
theorem cell_one (w : World) (o : Obj) (v : Value) (t : TypeId) : ((w.alloc (.cells #[v] t)).alloc o).cell? ⟨w.heap.size, 0, none⟩ = some v :=
  keeps ((Below.refl _ _).alloc (Nat.le_refl _) o) (World.cell?_alloc_mark w #[v] t (0, 0) 0)
theorem mkXor (w : World) :
    Calls Try.prog 52 #[] w fun e w' => ∃ b1 b2, e = .returned (.func (.func 82) #[] #[.pointer (some b1), .pointer (some b2)]) ∧ CapXor w' b1 b2 ∧ Below w.heap.size w w' := by
  go_enter Try.func52, Try.ntmps52
  go_wp2_with fail
  refine Calls.mono (R := fun e w' => ∃ b1 b2, e = .returned (.func (.func 82) #[] #[.pointer (some b1), .pointer (some b2)]) ∧ CapXor w' b1 b2 ∧ Below w.heap.size w w') ?_ ?_
  · go_enter Try.func68, Try.ntmps68
    go_wp2
    go_ret
    exact ⟨_, _, rfl, ⟨cell_two _ _ _ _, cell_one _ _ _ _⟩, ((Below.refl _ _).alloc (Nat.le_refl _) _).alloc (by simp) _⟩
  · rintro e w1 ⟨b1, b2, rfl, hc, hb⟩
    go_wp2
    go_ret
    exact ⟨_, _, rfl, hc, hb⟩

theorem xor_any (m n : Int) (w : World) :
    Calls Try.prog 69 #[.int .i64 m, .int .i64 n] w fun e w' => e = .returned (.int .i64 (bits .xor .i64 m n)) ∧ w = w' := by
  go_enter Try.func69, Try.ntmps69
  go_wp2
  go_ret
  exact ⟨rfl, rfl⟩
end Go.Proofs.Ytpehjcbjcenaeaa
