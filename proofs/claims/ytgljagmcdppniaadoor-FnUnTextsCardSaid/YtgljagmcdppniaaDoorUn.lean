/- The contracts of the functions that FnUnTexts reaches: spec.Sign, spec.Unary, impl.unaryOp, impl.UnText, impl.UnOf, impl.unaryNumber, ast.UopMap, ast.UnaryOp.String. Condition: where the variable ast.uopStrings is read it holds its four texts. -/
import Derived.Test.YtgljagmcdppniaaDoorRows
import Derived.WalkKit
import Derived.WalkLawsBesides
import Derived.WalkSpells
import Derived.Deep.QuietTactic
import Derived.BigQuiet
import Derived.Lib.Hide
namespace Go.Proofs.YtgljagmcdppniaaDoor
open Go.RowKit

theorem unaryOp_yes (n : Int) (h1 : 1 ≤ n) (h4 : n ≤ 4) (w : World) :
    Calls Tryd.prog 8 #[.int .i64 n] w fun e w' => e = .returned (.tuple #[.int .i64 (n - 1), .bool true]) ∧ w = w' := by
  obtain rfl | rfl | rfl | rfl : n = 1 ∨ n = 2 ∨ n = 3 ∨ n = 4 := by omega
  all_goals
    go_enter Tryd.func8, Tryd.ntmps8
    go_wp2
    go_ret2
    exact ⟨rfl, rfl⟩

theorem unaryOp_no (n : Int) (h1 : n < 1 ∨ 4 < n) (w : World) :
    Calls Tryd.prog 8 #[.int .i64 n] w fun e w' => e = .returned (.tuple #[.int .i64 0, .bool false]) ∧ w = w' := by
  have g1 : (n == 1) = false := beq_eq_false_iff_ne.2 (by omega)
  have g2 : (n == 2) = false := beq_eq_false_iff_ne.2 (by omega)
  have g3 : (n == 3) = false := beq_eq_false_iff_ne.2 (by omega)
  have g4 : (n == 4) = false := beq_eq_false_iff_ne.2 (by omega)
  clear h1
  go_enter Tryd.func8, Tryd.ntmps8
  go_wp2
  go_ret2
  exact ⟨rfl, rfl⟩

theorem unaryNumber_any (n : Int) (h1 : 0 ≤ n) (h4 : n ≤ 3) (w : World) :
    Calls Tryd.prog 11 #[.int .i64 n] w fun e w' => e = .returned (.int .i64 (n + 1)) ∧ w = w' := by
  obtain rfl | rfl | rfl | rfl : n = 0 ∨ n = 1 ∨ n = 2 ∨ n = 3 := by omega
  all_goals
    go_enter Tryd.func11, Tryd.ntmps11
    go_wp2
    go_ret
    exact ⟨rfl, rfl⟩

/-- The sign of the operator n. -/
def signS (n : Int) : ByteArray := if n = 1 then ⟨#[33]⟩ else if n = 2 then ⟨#[126]⟩ else if n = 3 then ⟨#[43]⟩ else if n = 4 then ⟨#[45]⟩ else ⟨#[]⟩

theorem sign_any (n : Int) (h1 : 1 ≤ n) (h4 : n ≤ 4) (w : World) :
    Calls Tryd.prog 4 #[.int .i64 n] w fun e w' => e = .returned (.string (signS n)) ∧ Below w.heap.size w w' := by
  obtain rfl | rfl | rfl | rfl : n = 1 ∨ n = 2 ∨ n = 3 ∨ n = 4 := by omega
  all_goals
    go_enter Tryd.func4, Tryd.ntmps4
    go_wp2
    go_ret
    exact ⟨rfl, (Below.refl _ _).alloc (Nat.le_refl _) _⟩

/-- The operator that a text is: its number, 0 if it is none. -/
def Un5 (s : ByteArray) (k : Int) : Prop :=
  (k = 1 ∧ (s.toList == [33]) = true) ∨ (k = 2 ∧ (s.toList == [33]) = false ∧ (s.toList == [126]) = true) ∨ (k = 3 ∧ (s.toList == [33]) = false ∧ (s.toList == [126]) = false ∧ (s.toList == [43]) = true) ∨
  (k = 4 ∧ (s.toList == [33]) = false ∧ (s.toList == [126]) = false ∧ (s.toList == [43]) = false ∧ (s.toList == [45]) = true) ∨ (k = 0 ∧ (s.toList == [33]) = false ∧ (s.toList == [126]) = false ∧ (s.toList == [43]) = false ∧ (s.toList == [45]) = false)
theorem Un5.a {s : ByteArray} (h : (s.toList == [33]) = true) : Un5 s 1 := .inl ⟨rfl, h⟩
theorem Un5.b {s : ByteArray} (h : (s.toList == [33]) = false) (h2 : (s.toList == [126]) = true) : Un5 s 2 := .inr (.inl ⟨rfl, h, h2⟩)
theorem Un5.c {s : ByteArray} (h : (s.toList == [33]) = false) (h2 : (s.toList == [126]) = false) (h3 : (s.toList == [43]) = true) : Un5 s 3 := .inr (.inr (.inl ⟨rfl, h, h2, h3⟩))
theorem Un5.d {s : ByteArray} (h : (s.toList == [33]) = false) (h2 : (s.toList == [126]) = false) (h3 : (s.toList == [43]) = false) (h4 : (s.toList == [45]) = true) : Un5 s 4 := .inr (.inr (.inr (.inl ⟨rfl, h, h2, h3, h4⟩)))
theorem Un5.e {s : ByteArray} (h : (s.toList == [33]) = false) (h2 : (s.toList == [126]) = false) (h3 : (s.toList == [43]) = false) (h4 : (s.toList == [45]) = false) : Un5 s 0 := .inr (.inr (.inr (.inr ⟨rfl, h, h2, h3, h4⟩)))
theorem Un5.ex (s : ByteArray) : ∃ k, Un5 s k := by
  cases ha : (s.toList == [33])
  · cases hb : (s.toList == [126])
    · cases hc : (s.toList == [43])
      · cases hd : (s.toList == [45])
        · exact ⟨0, .e ha hb hc hd⟩
        · exact ⟨4, .d ha hb hc hd⟩
      · exact ⟨3, .c ha hb hc⟩
    · exact ⟨2, .b ha hb⟩
  · exact ⟨1, .a ha⟩
theorem Un5.le {s : ByteArray} {k : Int} (h : Un5 s k) : 0 ≤ k ∧ k ≤ 4 := by rcases h with h | h | h | h | h <;> (have := h.1; omega)
theorem Un5.sign (n : Int) (h1 : 1 ≤ n) (h4 : n ≤ 4) : Un5 (signS n) n := by
  obtain rfl | rfl | rfl | rfl : n = 1 ∨ n = 2 ∨ n = 3 ∨ n = 4 := by omega
  · exact .a (by decide +kernel)
  · exact .b (by decide +kernel) (by decide +kernel)
  · exact .c (by decide +kernel) (by decide +kernel) (by decide +kernel)
  · exact .d (by decide +kernel) (by decide +kernel) (by decide +kernel) (by decide +kernel)

theorem uopMap_yes (s : ByteArray) (k : Int) (h : Un5 s k) (hk : 1 ≤ k) (w : World) :
    Calls Tryd.prog 10 #[.string s] w fun e w' => e = .returned (.tuple #[.int .i64 (k - 1), .bool true]) ∧ w = w' := by
  rcases h with ⟨rfl, g1⟩ | ⟨rfl, g1, g2⟩ | ⟨rfl, g1, g2, g3⟩ | ⟨rfl, g1, g2, g3, g4⟩ | ⟨rfl, g1, g2, g3, g4⟩ <;> first | omega | skip
  all_goals
    go_enter Tryd.func10, Tryd.ntmps10
    go_wp2
    go_ret2
    exact ⟨rfl, rfl⟩
theorem uopMap_no (s : ByteArray) (h : Un5 s 0) (w : World) :
    Calls Tryd.prog 10 #[.string s] w fun e w' => e = .returned (.tuple #[.int .i64 0, .bool false]) ∧ w = w' := by
  obtain ⟨g1, g2, g3, g4⟩ : (s.toList == [33]) = false ∧ (s.toList == [126]) = false ∧ (s.toList == [43]) = false ∧ (s.toList == [45]) = false := by
    rcases h with h | h | h | h | h
    all_goals first | (exact h.2) | (exact absurd h.1 (by omega))
  clear h
  go_enter Tryd.func10, Tryd.ntmps10
  go_wp2
  go_ret2
  exact ⟨rfl, rfl⟩

theorem unOf_yes (s : ByteArray) (k : Int) (h : Un5 s k) (hk : 1 ≤ k) (w : World) :
    Calls Tryd.prog 6 #[.string s] w fun e w' => e = .returned (.tuple #[.int .i64 k, .bool true]) ∧ w = w' := by
  have h4 := h.le
  go_enter Tryd.func6, Tryd.ntmps6
  go_wp2_with (first | (go_at_call 10; refine (uopMap_yes s k h hk _).mono ?_; rintro e w' ⟨rfl, rfl⟩) | (go_at_call 11; refine (unaryNumber_any (k - 1) (by omega) (by omega) _).mono ?_; rintro e w' ⟨rfl, rfl⟩))
  go_ret2
  exact ⟨rfl, rfl⟩
theorem unOf_no (s : ByteArray) (h : Un5 s 0) (w : World) :
    Calls Tryd.prog 6 #[.string s] w fun e w' => e = .returned (.tuple #[.int .i64 0, .bool false]) ∧ w = w' := by
  go_enter Tryd.func6, Tryd.ntmps6
  go_wp2_with (go_at_call 10; refine (uopMap_no s h _).mono ?_; rintro e w' ⟨rfl, rfl⟩)
  go_ret2
  exact ⟨rfl, rfl⟩

theorem unary_any (s : ByteArray) (k : Int) (h : Un5 s k) (w : World) :
    Calls Tryd.prog 7 #[.string s] w fun e w' => e = .returned (.int .i64 k) ∧ Below w.heap.size w w' := by
  have f : ∀ l : List UInt8, (s.toList == l) = (l == s.toList) := fun l => Bool.beq_comm
  simp only [Un5, f] at h
  clear f
  rcases h with ⟨rfl, g1⟩ | ⟨rfl, g1, g2⟩ | ⟨rfl, g1, g2, g3⟩ | ⟨rfl, g1, g2, g3, g4⟩ | ⟨rfl, g1, g2, g3, g4⟩
  all_goals
    go_enter Tryd.func7, Tryd.ntmps7
    go_wp2
    refine wp_loop_rounds 5 ?_
    rw [rounds_succ]; go_wp2
    try (rw [rounds_succ]; go_wp2)
    try (rw [rounds_succ]; go_wp2)
    try (rw [rounds_succ]; go_wp2)
    try (rw [rounds_succ]; go_wp2)
    go_ret
    exact ⟨rfl, (Below.refl _ _).alloc (Nat.le_refl _) _⟩

/-- The variable ast.uopStrings holds its four texts. -/
def UT (w : World) : Prop := ∃ (a : Addr) (c : Nat), w.cell? ⟨0, 0, none⟩ = some (.slice (some a) 4 c) ∧ w.cell? a = some (.string ⟨#[33]⟩) ∧ w.cell? ⟨a.block, a.off + 1, none⟩ = some (.string ⟨#[126]⟩) ∧
  w.cell? ⟨a.block, a.off + 2, none⟩ = some (.string ⟨#[43]⟩) ∧ w.cell? ⟨a.block, a.off + 3, none⟩ = some (.string ⟨#[45]⟩)
theorem UT.below {w w' : World} (h : UT w) (hb : Below w.heap.size w w') : UT w' := by
  obtain ⟨a, c, h0, h1, h2, h3, h4⟩ := h
  have g : ∀ {p : Addr} {v : Value}, w.cell? p = some v → w'.cell? p = some v := fun hp => (hb.cell (World.block_lt_of_cell? w _ hp)).trans hp
  exact ⟨a, c, g h0, g h1, g h2, g h3, g h4⟩

theorem unString_any (n : Int) (h1 : 0 ≤ n) (h4 : n ≤ 3) (w : World) (hu : UT w) :
    Calls Tryd.prog 9 #[.int .i64 n] w fun e w' => e = .returned (.string (signS (n + 1))) ∧ w = w' := by
  obtain ⟨a, c, g, g0, g1, g2, g3⟩ := hu
  obtain rfl | rfl | rfl | rfl : n = 0 ∨ n = 1 ∨ n = 2 ∨ n = 3 := by omega
  all_goals
    go_enter Tryd.func9, Tryd.ntmps9
    go_wp2
    go_ret
    exact ⟨rfl, rfl⟩
theorem unString' (n : Int) (h1 : 1 ≤ n) (h4 : n ≤ 4) (w : World) (hu : UT w) :
    Calls Tryd.prog 9 #[.int .i64 (n - 1)] w fun e w' => e = .returned (.string (signS n)) ∧ w = w' := by
  have := unString_any (n - 1) (by omega) (by omega) w hu
  rwa [show n - 1 + 1 = n by omega] at this

theorem unText_yes (n : Int) (h1 : 1 ≤ n) (h4 : n ≤ 4) (w : World) (hu : UT w) :
    Calls Tryd.prog 5 #[.int .i64 n] w fun e w' => e = .returned (.string (signS n)) ∧ w = w' := by
  go_enter Tryd.func5, Tryd.ntmps5
  go_wp2_with (first | (go_at_call 8; refine (unaryOp_yes n h1 h4 _).mono ?_; rintro e w' ⟨rfl, rfl⟩) | (go_at_call 9; refine (unString' n h1 h4 _ hu).mono ?_; rintro e w' ⟨rfl, rfl⟩))
  go_ret
  exact ⟨rfl, rfl⟩
theorem unText_no (n : Int) (h1 : n < 1 ∨ 4 < n) (w : World) :
    Calls Tryd.prog 5 #[.int .i64 n] w fun e w' => e = .returned (.string ⟨#[]⟩) ∧ w = w' := by
  go_enter Tryd.func5, Tryd.ntmps5
  go_wp2_with (go_at_call 8; refine (unaryOp_no n h1 _).mono ?_; rintro e w' ⟨rfl, rfl⟩)
  go_ret
  exact ⟨rfl, rfl⟩

end Go.Proofs.YtgljagmcdppniaaDoor
