/- Contracts of math.Abs, IsNaN, IsInf, spec.Finite, laws.finite7, laws.same7. -/
import Derived.Test.YtchigdiclcgkbaaRows
import Derived.Test.YtchigdiclcgkbaaWords
import Derived.Test.YtchigdiclcgkbaaF64
import Derived.WalkKit
import Derived.WalkLawsBesides
import Derived.WalkSpells
import Derived.Lib.Hide
import Derived.Laws.FloatArith
import Derived.Deep.RegionHeld3
namespace Go.Proofs.Ytchigdiclcgkbaa
open Go.RowKit

theorem toBits (x : Nat) (w : World) : (callFunc 27 #[.float .f64 x]).run Try.prog w = .ok (.value (.int .u64 x)) w := by kernel_rfl
theorem ofBits (n : Int) (w : World) : (callFunc 26 #[.int .u64 n]).run Try.prog w = .ok (.value (.float .f64 n.toNat)) w := by kernel_rfl
attribute [local go_sem] toBits ofBits andNot_abs
set_option maxRecDepth 100000 in
theorem abs_any (x : Nat) (w : World) :
    Calls Try.prog 19 #[.float .f64 x] w fun e w' => e = .returned (.float .f64 (absW x)) ∧ w = w' := by
  go_enter Try.func19, Try.ntmps19
  go_wp2
  go_ret
  exact ⟨rfl, rfl⟩

theorem isNaN_any (x : Nat) (w : World) :
    Calls Try.prog 12 #[.float .f64 x] w fun e w' => e = .returned (.bool (nanW x)) ∧ w = w' := by
  have h := order_self x
  have H := Lib.hid h
  clear h
  go_enter Try.func12, Try.ntmps12
  go_wp2
  go_ret
  exact ⟨by rw [← H.out]; rfl, rfl⟩

set_option maxRecDepth 100000 in
theorem isInf_any (x : Nat) (w : World) :
    Calls Try.prog 13 #[.float .f64 x, .int .i64 0] w fun e w' => e = .returned (.bool (infW x)) ∧ w = w' := by
  have h := order_max x
  have H := Lib.hid h
  clear h
  go_enter Try.func13, Try.ntmps13
  go_wp2_with (go_at_call 19; refine (abs_any _ _).mono ?_; rintro e w' ⟨rfl, rfl⟩)
  go_ret
  exact ⟨by rw [← H.out]; rfl, rfl⟩

theorem finite_any (x : Nat) (w : World) :
    Calls Try.prog 8 #[.float .f64 x] w fun e w' => e = .returned (.bool (finW x)) ∧ w = w' := by
  rcases three x with ⟨h1, h2, h3⟩ | ⟨h1, h2, h3⟩ | ⟨h1, h2, h3⟩
  all_goals
    go_enter Try.func8, Try.ntmps8
    go_wp2_with (first | (go_at_call 12; refine (isNaN_any _ _).mono ?_; rintro e w' ⟨rfl, rfl⟩) | (go_at_call 13; refine (isInf_any _ _).mono ?_; rintro e w' ⟨rfl, rfl⟩))
    go_ret
    exact ⟨by rw [h1]; rfl, rfl⟩


/-- A slice of numbers. -/
def NumsAt (w : World) (A : Option Addr) (n : Nat) (xs : List Nat) : Prop := Reads w w.heap.size 1 A n (xs.map (Value.float .f64))
theorem NumsAt.len {w : World} {A : Option Addr} {n : Nat} {xs : List Nat} (h : NumsAt w A n xs) : xs.length = n := by have := h.1; simpa using this
theorem NumsAt.below {w w' : World} {A : Option Addr} {n : Nat} {xs : List Nat} (h : NumsAt w A n xs) (hb : Below w.heap.size w w') : NumsAt w' A n xs := (h.keep fun _ hp => hb.cell hp).more hb.size
theorem NumsAt.at_ {w : World} {A : Option Addr} {n : Nat} {xs : List Nat} (h : NumsAt w A n xs) {k : Nat} (hk : k < n) : ∃ ad x, A = some ad ∧ xs[k]? = some x ∧ w.cell? (ad.add k) = some (.float .f64 x) ∧ ad.block < w.heap.size := by
  obtain ⟨ad, u, hA, hlt, hx, hc⟩ := Reads.at_ h hk
  rw [List.getElem?_map] at hx
  obtain ⟨x, h1, rfl⟩ := Option.map_eq_some_iff.1 hx
  exact ⟨ad, x, hA, h1, hc, hlt⟩

theorem NumsAt.all {w : World} {n : Nat} {A : Option Addr} {zs : List Nat} (h : NumsAt w A n zs) (ha : ∀ (j : Nat) z, j < n → zs[j]? = some z → finW z = true) : ∀ z ∈ zs, finW z = true := by
  intro z hz
  obtain ⟨j, hj⟩ := List.getElem?_of_mem hz
  exact ha j z (by have := (List.getElem?_eq_some_iff.1 hj).1; have := h.len; omega) hj
def Fin7 (w : World) (n m : Nat) (xs ys : List Nat) (e : Ending) (w' : World) : Prop := w = w' ∧ ∃ b, e = .returned (.bool b) ∧ (b = true → n ≤ 200 ∧ m ≤ 200 ∧ (∀ x ∈ xs, finW x = true) ∧ ∀ y ∈ ys, finW y = true)

set_option maxRecDepth 100000 in
set_option maxHeartbeats 800000 in
theorem finite7_any (p : Nat) (A B : Option Addr) (n m c d : Nat) (xs ys : List Nat) (w : World) (hx : NumsAt w A n xs) (hy : NumsAt w B m ys) (hn : n ≤ 2147483647) (hm : m ≤ 2147483647)
    (h0 : w.cell? ⟨p, 0, none⟩ = some (.slice A n c)) (h1 : w.cell? ⟨p, 1, none⟩ = some (.slice B m d)) (k : Nat) :
    Calls Try.prog 4 #[.slice (some ⟨p, 0, none⟩) 2 k] w (Fin7 w n m xs ys) := by
  have HX := Lib.hid hx
  have HY := Lib.hid hy
  clear hx hy
  go_enter Try.func4, Try.ntmps4
  go_wp2_with fail
  go_loop [3] (fun i => ∃ j : Nat, j ≤ 2 ∧ i = .int .i64 j ∧ (1 ≤ j → n ≤ 200 ∧ ∀ x ∈ xs, finW x = true) ∧ (2 ≤ j → m ≤ 200 ∧ ∀ y ∈ ys, finW y = true)) (fun i => 2 - (intOf i).toNat)
  case atStart => exact ⟨0, by omega, rfl, fun h => absurd h (by omega), fun h => absurd h (by omega)⟩
  case round =>
    obtain ⟨j, hj, rfl, ha, hb⟩ := hrel
    have HA := Lib.hid ha
    have HB := Lib.hid hb
    clear ha hb
    rcases (show j = 0 ∨ j = 1 ∨ j = 2 by omega) with rfl | rfl | rfl
    · go_wp2_with fail
      go_loop [4] (fun i => ∃ q : Nat, q ≤ n ∧ i = .int .i64 q ∧ ∀ (j : Nat) z, j < q → xs[j]? = some z → finW z = true) (fun i => n - (intOf i).toNat)
      case atStart => exact ⟨0, Nat.zero_le _, rfl, fun j z hj => absurd hj (by omega)⟩
      case round =>
        obtain ⟨q, hq, rfl, hall⟩ := hrel
        have HL := Lib.hid hall
        clear hall
        by_cases hlt : q < n
        · obtain ⟨ad, x, hA, hxq, hc, _⟩ := HX.out.at_ hlt
          subst hA
          have HQ := Lib.hid hxq
          have C := Lib.hid (fun W => finite_any x W)
          obtain ⟨f, hf⟩ : ∃ f, finW x = f := ⟨_, rfl⟩
          rw [hf] at C
          have HF := Lib.hid hf
          clear hxq hf
          go_wp2_with fail
          refine (C.out w).mono ?_
          rintro _ _ ⟨rfl, rfl⟩
          cases f
          · go_wp2_with fail
            go_ret
            exact ⟨rfl, false, rfl, fun h => by cases h⟩
          · go_wp2_with fail
            go_round
            case rel =>
              refine ⟨q + 1, by omega, by go_num, fun i z hi hz => ?_⟩
              by_cases hiq : i < q
              · exact HL.out i z hiq hz
              · obtain rfl : i = q := by omega
                rw [HQ.out] at hz
                cases hz
                exact HF.out
            case measure => simp [intOf]; omega
        · obtain rfl : n = q := by omega
          have HALL := Lib.hid (HX.out.all HL.out)
          by_cases h200 : 200 < n
          · go_wp2_with fail
            go_ret
            exact ⟨rfl, false, rfl, fun h => by cases h⟩
          · go_wp2_with fail
            go_round
            case rel => exact ⟨1, by omega, by go_num, fun _ => ⟨by omega, HALL.out⟩, fun h => absurd h (by omega)⟩
            case measure => simp [intOf]
    · go_wp2_with fail
      go_loop [4] (fun i => ∃ q : Nat, q ≤ m ∧ i = .int .i64 q ∧ ∀ (j : Nat) z, j < q → ys[j]? = some z → finW z = true) (fun i => m - (intOf i).toNat)
      case atStart => exact ⟨0, Nat.zero_le _, rfl, fun j z hj => absurd hj (by omega)⟩
      case round =>
        obtain ⟨q, hq, rfl, hall⟩ := hrel
        have HL := Lib.hid hall
        clear hall
        by_cases hlt : q < m
        · obtain ⟨ad, x, hA, hxq, hc, _⟩ := HY.out.at_ hlt
          subst hA
          have HQ := Lib.hid hxq
          have C := Lib.hid (fun W => finite_any x W)
          obtain ⟨f, hf⟩ : ∃ f, finW x = f := ⟨_, rfl⟩
          rw [hf] at C
          have HF := Lib.hid hf
          clear hxq hf
          go_wp2_with fail
          refine (C.out w).mono ?_
          rintro _ _ ⟨rfl, rfl⟩
          cases f
          · go_wp2_with fail
            go_ret
            exact ⟨rfl, false, rfl, fun h => by cases h⟩
          · go_wp2_with fail
            go_round
            case rel =>
              refine ⟨q + 1, by omega, by go_num, fun i z hi hz => ?_⟩
              by_cases hiq : i < q
              · exact HL.out i z hiq hz
              · obtain rfl : i = q := by omega
                rw [HQ.out] at hz
                cases hz
                exact HF.out
            case measure => simp [intOf]; omega
        · obtain rfl : m = q := by omega
          have HALL := Lib.hid (HY.out.all HL.out)
          by_cases h200 : 200 < m
          · go_wp2_with fail
            go_ret
            exact ⟨rfl, false, rfl, fun h => by cases h⟩
          · go_wp2_with fail
            go_round
            case rel => exact ⟨2, by omega, by go_num, fun _ => HA.out (by omega), fun _ => ⟨by omega, HALL.out⟩⟩
            case measure => simp [intOf]
    · have h1 := HA.out (by omega)
      have h2 := HB.out (by omega)
      have H1 := Lib.hid h1
      have H2 := Lib.hid h2
      clear h1 h2
      go_wp2_with fail
      go_ret
      exact ⟨rfl, true, rfl, fun _ => ⟨H1.out.1, H2.out.1, H1.out.2, H2.out.2⟩⟩

set_option maxRecDepth 100000 in
set_option maxHeartbeats 800000 in
theorem same7_any (A B : Option Addr) (n c d : Nat) (xs : List Nat) (w : World) (hx : NumsAt w A n xs) (hy : NumsAt w B n xs) (hn : n ≤ 1000) (hf : ∀ x ∈ xs, finW x = true) :
    Calls Try.prog 7 #[.slice A n c, .slice B n d] w fun e w' => e = .returned (.bool true) ∧ Below w.heap.size w w' := by
  have HX := Lib.hid hx
  have HY := Lib.hid hy
  have HF := Lib.hid hf
  clear hx hy hf
  go_enter Try.func7, Try.ntmps7
  go_wp2_with fail
  go_loopw [5] (fun i wr => ∃ q : Nat, q ≤ n ∧ i = .int .i64 q ∧ Below w.heap.size w wr) (fun i _ => n - (intOf i).toNat)
  case atStart => exact ⟨0, Nat.zero_le _, rfl, Below.refl _ _⟩
  case round =>
    obtain ⟨q, hq, rfl, hb⟩ := hrel
    have HB := Lib.hid hb
    by_cases hlt : q < n
    · obtain ⟨ad, x, hA, hxq, hc, _⟩ := (HX.out.below hb).at_ hlt
      obtain ⟨bd, y, hB, hyq, hd, _⟩ := (HY.out.below hb).at_ hlt
      subst hA hB
      obtain rfl : x = y := by rw [hxq] at hyq; exact Option.some.inj hyq
      have hfx := HF.out x (List.mem_of_getElem? hxq)
      have hnan : nanW x = false := by
        rcases three x with h | h | h
        · exact h.2.1
        · rw [hfx] at h; cases h.1
        · rw [hfx] at h; cases h.1
      have ho : (FloatKind.f64.format.order x x != some .eq) = false := by rw [order_self]; exact hnan
      clear hb hxq hyq hfx hnan
      go_wp2_with go_region
      all_goals
        go_roundw
        case rel => exact ⟨q + 1, by omega, by go_num, HB.out.drew⟩
        case measure => simp [intOf]; omega
    · go_wp2_with fail
      go_ret
      exact ⟨rfl, hb⟩
end Go.Proofs.Ytchigdiclcgkbaa
