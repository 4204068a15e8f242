/- The walk of FnPlaceText. -/
import Derived.Test.YtdkhiflmmemaoaaDoorPlace
import Derived.Laws.Strings
namespace Go.Proofs.YtdkhiflmmemaoaaDoor
open Go.RowKit

theorem placeS_list {a c b d : Nat} (h : ¬ placeS a c = placeS b d) : ¬ (placeS a c).toList = (placeS b d).toList := by
  intro e
  rw [ByteArray.toList_eq, ByteArray.toList_eq] at e
  refine h ?_
  apply ByteArray.ext
  exact Array.toList_inj.1 e

theorem place_out (a c b d : Int) (w : World) (h : ¬ (1 ≤ a ∧ a ≤ 1000000000 ∧ 1 ≤ c ∧ c ≤ 1000000000 ∧ 1 ≤ b ∧ b ≤ 1000000000 ∧ 1 ≤ d ∧ d ≤ 1000000000)) :
    Calls Tryd.prog 3 #[.agg #[.int .i64 a, .int .i64 c], .agg #[.int .i64 b, .int .i64 d]] w fun e w' => e = .returned (.bool true) ∧ Below w.heap.size w w' := by
  by_cases k0 : a < 1
  · clear h
    go_enter Tryd.func3, Tryd.ntmps3
    go_wp2
    go_ret
    exact ⟨rfl, ((Below.refl _ _).alloc (Nat.le_refl _) _).alloc (by simp) _⟩
  by_cases k1 : 1000000000 < a
  · clear h
    go_enter Tryd.func3, Tryd.ntmps3
    go_wp2
    go_ret
    exact ⟨rfl, ((Below.refl _ _).alloc (Nat.le_refl _) _).alloc (by simp) _⟩
  by_cases k2 : c < 1
  · clear h
    go_enter Tryd.func3, Tryd.ntmps3
    go_wp2
    go_ret
    exact ⟨rfl, ((Below.refl _ _).alloc (Nat.le_refl _) _).alloc (by simp) _⟩
  by_cases k3 : 1000000000 < c
  · clear h
    go_enter Tryd.func3, Tryd.ntmps3
    go_wp2
    go_ret
    exact ⟨rfl, ((Below.refl _ _).alloc (Nat.le_refl _) _).alloc (by simp) _⟩
  by_cases k4 : b < 1
  · clear h
    go_enter Tryd.func3, Tryd.ntmps3
    go_wp2
    go_ret
    exact ⟨rfl, ((Below.refl _ _).alloc (Nat.le_refl _) _).alloc (by simp) _⟩
  by_cases k5 : 1000000000 < b
  · clear h
    go_enter Tryd.func3, Tryd.ntmps3
    go_wp2
    go_ret
    exact ⟨rfl, ((Below.refl _ _).alloc (Nat.le_refl _) _).alloc (by simp) _⟩
  by_cases k6 : d < 1
  · clear h
    go_enter Tryd.func3, Tryd.ntmps3
    go_wp2
    go_ret
    exact ⟨rfl, ((Below.refl _ _).alloc (Nat.le_refl _) _).alloc (by simp) _⟩
  by_cases k7 : 1000000000 < d
  · clear h
    go_enter Tryd.func3, Tryd.ntmps3
    go_wp2
    go_ret
    exact ⟨rfl, ((Below.refl _ _).alloc (Nat.le_refl _) _).alloc (by simp) _⟩
  exact absurd ⟨by omega, by omega, by omega, by omega, by omega, by omega, by omega, by omega⟩ h

set_option maxRecDepth 100000 in
set_option maxHeartbeats 1000000 in
theorem place_in (a c b d : Nat) (w : World) (ht : PT w) (h1 : 1 ≤ (a : Int)) (h2 : (a : Int) ≤ 1000000000) (h3 : 1 ≤ (c : Int)) (h4 : (c : Int) ≤ 1000000000) (h5 : 1 ≤ (b : Int)) (h6 : (b : Int) ≤ 1000000000) (h7 : 1 ≤ (d : Int)) (h8 : (d : Int) ≤ 1000000000) :
    Calls Tryd.prog 3 #[.agg #[.int .i64 a, .int .i64 c], .agg #[.int .i64 b, .int .i64 d]] w fun e w' => e = .returned (.bool true) ∧ Below w.heap.size w w' := by
  have t1 : PT ((w.alloc (.cells #[.int .i64 a, .int .i64 c] 23)).alloc (.cells #[.int .i64 b, .int .i64 d] 23)) := ht.below (((Below.refl _ _).alloc (Nat.le_refl _) _).alloc (by simp) _)
  have e1 : (w.alloc (.cells #[.int .i64 a, .int .i64 c] 23)).heap.size = w.heap.size + 1 := by simp
  have bb : Below (w.alloc (.cells #[.int .i64 a, .int .i64 c] 23)).heap.size (w.alloc (.cells #[.int .i64 a, .int .i64 c] 23)) ((w.alloc (.cells #[.int .i64 a, .int .i64 c] 23)).alloc (.cells #[.int .i64 b, .int .i64 d] 23)) := (Below.refl _ _).alloc (Nat.le_refl _) _
  have f1 := keeps bb (World.cell?_alloc_mark w #[.int .i64 a, .int .i64 c] 23 (0, 0) 0)
  have f2 := keeps bb (World.cell?_alloc_mark w #[.int .i64 a, .int .i64 c] 23 (0, 0) 1)
  have f3 := World.cell?_alloc_mark (w.alloc (.cells #[.int .i64 a, .int .i64 c] 23)) #[.int .i64 b, .int .i64 d] 23 (0, 0) 0
  have f4 := World.cell?_alloc_mark (w.alloc (.cells #[.int .i64 a, .int .i64 c] 23)) #[.int .i64 b, .int .i64 d] 23 (0, 0) 1
  rw [e1] at f3 f4
  have hall : Below w.heap.size w ((w.alloc (.cells #[.int .i64 a, .int .i64 c] 23)).alloc (.cells #[.int .i64 b, .int .i64 d] 23)) := ((Below.refl _ _).alloc (Nat.le_refl _) _).alloc (by simp) _
  have T1 := Lib.hid t1
  have F1 := Lib.hid f1
  have F2 := Lib.hid f2
  have F3 := Lib.hid f3
  have F4 := Lib.hid f4
  have HA := Lib.hid hall
  clear t1 e1 bb f1 f2 f3 f4 hall
  by_cases heq : a = b ∧ c = d
  · obtain ⟨rfl, rfl⟩ := heq
    go_enter Tryd.func3, Tryd.ntmps3
    go_wp2_with fail
    go_region_held3 (fun w' => w'.cell? ⟨w.heap.size, 0, none⟩ = some (.int .i64 a) ∧ w'.cell? ⟨w.heap.size, 1, none⟩ = some (.int .i64 c) ∧ w'.cell? ⟨w.heap.size + 1, 0, none⟩ = some (.int .i64 a) ∧ w'.cell? ⟨w.heap.size + 1, 1, none⟩ = some (.int .i64 c) ∧ PT w') (first | exact ⟨F1.out, F2.out, F3.out, F4.out, T1.out⟩ | (refine ⟨?_, ?_, ?_, ?_, ?_⟩ <;> first | (refine keeps hb ?_; assumption) | (refine keeps hb ?_; go_split_ands; assumption) | (refine PT.below ?_ hb; assumption) | (refine PT.below ?_ hb; go_split_ands; assumption))) ((go_at_call 4; refine (placeText _ _ (by assumption) (by assumption) _ (by first | assumption | (go_split_ands; assumption))).mono ?_; rintro e w1 ⟨rfl, hb⟩))
    all_goals
      rename_i w0 hb0 _
      go_wp2
      go_ret
      have hs0 := hb0.size
      exact ⟨by simp, (HA.out.drew.trans (hb0.mono HA.out.size)).trans (hb.mono (Nat.le_trans HA.out.size hs0))⟩
  · have hne' := placeS_list (fun e => heq (placeS_inj e) : ¬ placeS a c = placeS b d)
    by_cases hab : a = b
    · subst hab
      have hcd : ¬ c = d := fun e => heq ⟨rfl, e⟩
      have hcd' : ¬ (c : Int) = d := by omega
      have hcd'' : ((c : Int) == (d : Int)) = false := by simpa using hcd'
      clear heq
      go_enter Tryd.func3, Tryd.ntmps3
      go_wp2_with fail
      go_region_held3 (fun w' => w'.cell? ⟨w.heap.size, 0, none⟩ = some (.int .i64 a) ∧ w'.cell? ⟨w.heap.size, 1, none⟩ = some (.int .i64 c) ∧ w'.cell? ⟨w.heap.size + 1, 0, none⟩ = some (.int .i64 a) ∧ w'.cell? ⟨w.heap.size + 1, 1, none⟩ = some (.int .i64 d) ∧ PT w') (first | exact ⟨F1.out, F2.out, F3.out, F4.out, T1.out⟩ | (refine ⟨?_, ?_, ?_, ?_, ?_⟩ <;> first | (refine keeps hb ?_; assumption) | (refine keeps hb ?_; go_split_ands; assumption) | (refine PT.below ?_ hb; assumption) | (refine PT.below ?_ hb; go_split_ands; assumption))) ((go_at_call 4; refine (placeText _ _ (by assumption) (by assumption) _ (by first | assumption | (go_split_ands; assumption))).mono ?_; rintro e w1 ⟨rfl, hb⟩))
      all_goals
        rename_i w0 hb0 _
        go_wp2
        go_ret
        have hs0 := hb0.size
        exact ⟨by simpa using hne', (HA.out.drew.trans (hb0.mono HA.out.size)).trans (hb.mono (Nat.le_trans HA.out.size hs0))⟩
    · have hab' : ¬ (a : Int) = b := by omega
      have hab'' : ((a : Int) == (b : Int)) = false := by simpa using hab'
      clear heq
      go_enter Tryd.func3, Tryd.ntmps3
      go_wp2_with fail
      go_region_held3 (fun w' => w'.cell? ⟨w.heap.size, 0, none⟩ = some (.int .i64 a) ∧ w'.cell? ⟨w.heap.size, 1, none⟩ = some (.int .i64 c) ∧ w'.cell? ⟨w.heap.size + 1, 0, none⟩ = some (.int .i64 b) ∧ w'.cell? ⟨w.heap.size + 1, 1, none⟩ = some (.int .i64 d) ∧ PT w') (first | exact ⟨F1.out, F2.out, F3.out, F4.out, T1.out⟩ | (refine ⟨?_, ?_, ?_, ?_, ?_⟩ <;> first | (refine keeps hb ?_; assumption) | (refine keeps hb ?_; go_split_ands; assumption) | (refine PT.below ?_ hb; assumption) | (refine PT.below ?_ hb; go_split_ands; assumption))) ((go_at_call 4; refine (placeText _ _ (by assumption) (by assumption) _ (by first | assumption | (go_split_ands; assumption))).mono ?_; rintro e w1 ⟨rfl, hb⟩))
      all_goals
        rename_i w0 hb0 _
        go_wp2
        go_ret
        have hs0 := hb0.size
        exact ⟨by simpa using hne', (HA.out.drew.trans (hb0.mono HA.out.size)).trans (hb.mono (Nat.le_trans HA.out.size hs0))⟩

/-- The law returns true for every two places. -/
theorem law_place (a c b d : Int) (w : World) (ht : PT w) :
    Calls Tryd.prog 3 #[.agg #[.int .i64 a, .int .i64 c], .agg #[.int .i64 b, .int .i64 d]] w fun e w' => e = .returned (.bool true) ∧ Below w.heap.size w w' := by
  by_cases h : 1 ≤ a ∧ a ≤ 1000000000 ∧ 1 ≤ c ∧ c ≤ 1000000000 ∧ 1 ≤ b ∧ b ≤ 1000000000 ∧ 1 ≤ d ∧ d ≤ 1000000000
  · obtain ⟨h1, h2, h3, h4, h5, h6, h7, h8⟩ := h
    obtain ⟨a, rfl⟩ := Int.eq_ofNat_of_zero_le (show 0 ≤ a by omega)
    obtain ⟨c, rfl⟩ := Int.eq_ofNat_of_zero_le (show 0 ≤ c by omega)
    obtain ⟨b, rfl⟩ := Int.eq_ofNat_of_zero_le (show 0 ≤ b by omega)
    obtain ⟨d, rfl⟩ := Int.eq_ofNat_of_zero_le (show 0 ≤ d by omega)
    exact place_in a c b d w ht h1 h2 h3 h4 h5 h6 h7 h8
  · exact place_out a c b d w h
end Go.Proofs.YtdkhiflmmemaoaaDoor
