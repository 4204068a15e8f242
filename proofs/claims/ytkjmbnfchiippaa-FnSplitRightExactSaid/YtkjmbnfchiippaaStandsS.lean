/- spec.standsAt, spec.Overlaps. -/
import Derived.Test.YtkjmbnfchiippaaUnitsS
namespace Go.Proofs.Ytkjmbnfchiippaa
open Go.RowKit

theorem below_drewN {B : Nat} {a w : World} (h : Below B a w) : ∀ n : Nat, Below B a (w.drewN n)
  | 0 => h
  | n + 1 => (below_drewN h n).drew
theorem occ_go {l u : List Int} {k j : Nat} {x : Int} (h : (l.drop k).take j = u.take j) (hx : l[k + j]? = some x) (hy : u[j]? = some x) : (l.drop k).take (j + 1) = u.take (j + 1) := by
  rw [List.take_add_one, List.take_add_one, h, List.getElem?_drop, hx, hy]
theorem occ_not {l u : List Int} {k j : Nat} {x y : Int} (hx : l[k + j]? = some x) (hy : u[j]? = some y) (hne : x ≠ y) : ¬ Occ l u k := by
  intro h
  have hj := (List.getElem?_eq_some_iff.1 hy).1
  have h2 := congrArg (fun t : List Int => t[j]?) (show (l.drop k).take u.length = u from h)
  simp only [List.getElem?_take, List.getElem?_drop, if_pos hj] at h2
  rw [hx, hy] at h2
  exact hne (by injection h2)

set_option maxRecDepth 100000 in
set_option maxHeartbeats 800000 in
theorem stands_any (ad bd : Addr) (l u : List Int) (c d n m k : Nat) (w : World) (hl : IA w ad l) (hu : IA w bd u) (hn : n = l.length) (hm : m = u.length) (hk : k + m ≤ n) (hs : n ≤ 2000) :
    Calls Try.prog 15 #[.slice (some ad) n c, .int .i64 k, .slice (some bd) m d] w fun e w' => ∃ b q, e = .returned (.bool b) ∧ (b = true ↔ Occ l u k) ∧ w' = w.drewN q := by
  have HL := Lib.hid hl
  have HU := Lib.hid hu
  have HN := Lib.hid hn
  have HM := Lib.hid hm
  clear hl hu hn hm
  have hk' : (k : Int) + m ≤ n := by omega
  go_enter Try.func15, Try.ntmps15
  go_wp2_with fail
  go_loopw [7] (fun i wr => ∃ j q : Nat, j ≤ m ∧ i = .int .i64 j ∧ (l.drop k).take j = u.take j ∧ wr = w.drewN q) (fun i _ => m - (intOf i).toNat)
  case atStart => exact ⟨0, 0, Nat.zero_le _, rfl, rfl, rfl⟩
  case round =>
    obtain ⟨j, q, hj, rfl, hocc, rfl⟩ := hrel
    have HO := Lib.hid hocc
    clear hocc
    by_cases hlt : j < m
    · obtain ⟨x, hx⟩ : ∃ x, l[k + j]? = some x := ⟨_, List.getElem?_eq_getElem (by have := HN.out; omega)⟩
      obtain ⟨y, hy⟩ : ∃ y, u[j]? = some y := ⟨_, List.getElem?_eq_getElem (by have := HM.out; omega)⟩
      have cx : (w.drewN q).cell? (ad.add (k + j)) = some (.int .i64 x) := HL.out _ x hx
      have cy : (w.drewN q).cell? (bd.add j) = some (.int .i64 y) := HU.out j y hy
      have hj1 : (k : Int) + j < n := by omega
      have hj2 : (j : Int) < m := by omega
      have hj0 : (0 : Int) ≤ (k : Int) + j := by omega
      have hw : IntKind.i64.wrap ((k : Int) + j) = (k : Int) + j := by simp [IntKind.wrap, IntKind.bits, IntKind.signed]; omega
      have htn : ((k : Int) + j).toNat = k + j := by omega
      have CX := Lib.hid cx
      have CY := Lib.hid cy
      have HX := Lib.hid hx
      have HY := Lib.hid hy
      clear hx hy
      by_cases hxy : x = y
      · subst hxy
        go_wp2_with fail
        go_region_held3 (fun w' => w'.cell? (ad.add (k + j)) = some (.int .i64 x) ∧ w'.cell? (bd.add j) = some (.int .i64 x)) (first | exact ⟨CX.out, CY.out⟩ | go_keep) (fail)
        go_wp2_with fail
        go_roundw
        case rel => exact ⟨j + 1, q + 1, by omega, by go_num, occ_go HO.out HX.out HY.out, rfl⟩
        case measure => simp [intOf]; omega
      · go_wp2_with fail
        go_region_held3 (fun w' => w'.cell? (ad.add (k + j)) = some (.int .i64 x) ∧ w'.cell? (bd.add j) = some (.int .i64 y)) (first | exact ⟨CX.out, CY.out⟩ | go_keep) (fail)
        go_wp2_with fail
        go_ret
        exact ⟨false, q + 1, rfl, ⟨(fun h => by cases h), fun h => absurd h (occ_not HX.out HY.out hxy)⟩, rfl⟩
    · obtain rfl : j = m := by omega
      go_wp2_with fail
      go_ret
      refine ⟨true, q, rfl, ⟨fun _ => ?_, fun _ => rfl⟩, rfl⟩
      have := HO.out
      unfold Occ
      rw [HM.out, List.take_of_length_le (l := u) (Nat.le_refl _)] at this
      exact this

set_option maxRecDepth 100000 in
set_option maxHeartbeats 800000 in
theorem overlaps_any (ad : Addr) (u : List Int) (c n : Nat) (w : World) (hu : IA w ad u) (hn : n = u.length) (hc : n ≤ c) (hs : n ≤ 2000) :
    Calls Try.prog 8 #[.slice (some ad) n c] w fun e w' => ∃ b q, e = .returned (.bool b) ∧ (b = false → NB u) ∧ w' = w.drewN q := by
  have HU := Lib.hid hu
  have HN := Lib.hid hn
  clear hu hn
  go_enter Try.func8, Try.ntmps8
  go_wp2_with fail
  go_loopw [3] (fun i wr => ∃ k q : Nat, 1 ≤ k ∧ (k ≤ n ∨ k = 1) ∧ i = .int .i64 k ∧ (∀ j, 1 ≤ j → j < k → u.drop (u.length - j) ≠ u.take j) ∧ wr = w.drewN q) (fun i _ => n - (intOf i).toNat)
  case atStart => exact ⟨1, 0, Nat.le_refl _, .inr rfl, rfl, fun j h1 h2 => absurd h1 (by omega), rfl⟩
  case round =>
    obtain ⟨k, q, hk1, hk2, rfl, hno, rfl⟩ := hrel
    have H := Lib.hid hno
    clear hno
    by_cases hlt : k < n
    · have hkc : (k : Int) ≤ c := by omega
      have hsub : (n : Int) - k = ((n - k : Nat) : Int) := by omega
      have hz : 0 ≤ (n : Int) - k := by omega
      go_wp2_with fail
      try rw [hsub]
      refine (stands_any ad ad u (u.take k) c c n k (n - k) _ (HU.out.drewN q) ((HU.out.drewN q).take k) HN.out (by rw [List.length_take, ← HN.out]; omega) (by omega) hs).mono ?_
      rintro e w1 ⟨b, q1, rfl, hb, rfl⟩
      have HB := Lib.hid hb
      clear hb
      cases b with
      | true =>
        go_wp2_with fail
        go_ret
        exact ⟨true, q + q1, rfl, (fun h => by cases h), by simp⟩
      | false =>
        go_wp2_with fail
        go_roundw
        case rel =>
          refine ⟨k + 1, q + q1, by omega, by omega, by go_num, fun j h1 h2 => ?_, by simp⟩
          by_cases hj : j < k
          · exact H.out j h1 hj
          · obtain rfl : j = k := by omega
            intro he
            have hb := HB.out
            refine absurd (hb.2 ?_) (by simp)
            unfold Occ
            rw [List.length_take, Nat.min_eq_left (by rw [← HN.out]; omega), HN.out, he, List.take_take, Nat.min_self]
        case measure => simp [intOf]; omega
    · go_wp2_with fail
      go_ret
      exact ⟨false, q, rfl, fun _ j h1 h2 => H.out j h1 (by have := HN.out; omega), rfl⟩
end Go.Proofs.Ytkjmbnfchiippaa
