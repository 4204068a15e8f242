/- strconv.Itoa by its contract; Location.String; PlaceText. -/
import Derived.Test.YtdkhiflmmemaoaaDoorRows
import Derived.Test.YtdkhiflmmemaoaaDoorWords
import Derived.Test.YtdkhiflmmemaoaaDoorShelf
import Derived.Test.YtdkhiflmmemaoaaDoorDigits
import Derived.WalkKit
import Derived.WalkLawsBesides
import Derived.WalkSpells
import Derived.Lib.Hide
import Derived.Lib.AppendIntMem
import Derived.Laws.Concat
import Derived.Deep.RegionHeld3
namespace Go.Proofs.YtdkhiflmmemaoaaDoor
open Go.RowKit

theorem gT : Tryd.prog.globalNamed "internal/strconv.uint64pow10" = some 0 := by kernel_rfl
/-- The library's table lies. -/
def PT (w : World) : Prop := Lib.TabIs Tryd.prog w "internal/strconv.uint64pow10" .u64 Lib.pow10Tab
theorem PT.below {w w' : World} (h : PT w) (hb : Below w.heap.size w w') : PT w' := Lib.tabBelow_of_tabIs h w' hb

def numS (n : Nat) : ByteArray := ⟨(Lib.decDigits n).toArray⟩
theorem itoa_any (n : Nat) (hn : (n : Int) ≤ 1000000000) (w : World) (h : PT w) :
    Calls Tryd.prog 6 #[.int .i64 (n : Int)] w fun e w' => e = .returned (.string (numS n)) ∧ Below w.heap.size w w' := by
  refine (Go.Proofs.Tryd.strconv_Itoa (n : Int) (by omega) (by omega) w h).mono ?_
  rintro e w' ⟨rfl, k, os, rfl⟩
  exact ⟨by rw [Lib.itoa_nonneg]; rfl, Lib.below_grow _ _ (Nat.le_refl _) _ _⟩
theorem numS_size (n : Nat) (hn : (n : Int) ≤ 1000000000) : (numS n).size ≤ 21 := by
  have := Lib.itoa_length_le (n : Int) (by omega) (by omega)
  rw [Lib.itoa_nonneg] at this
  show (Lib.decDigits n).toArray.size ≤ 21
  simpa using this

theorem place_join (l c : Nat) : numS l ++ ⟨#[58]⟩ ++ numS c = placeS l c := by
  unfold numS placeS placeL
  apply ByteArray.ext
  simp

set_option maxRecDepth 100000 in
set_option maxHeartbeats 1000000 in
theorem locString (b : Nat) (l c : Nat) (hl : (l : Int) ≤ 1000000000) (hc : (c : Int) ≤ 1000000000) (w : World) (h0 : w.cell? ⟨b, 0, none⟩ = some (.int .i64 l)) (h1 : w.cell? ⟨b, 1, none⟩ = some (.int .i64 c)) (ht : PT w) :
    Calls Tryd.prog 5 #[.pointer (some ⟨b, 0, none⟩)] w fun e w' => e = .returned (.string (placeS l c)) ∧ Below w.heap.size w w' := by
  have s1 := numS_size l hl
  have s2 := numS_size c hc
  have c1 : ¬ (9223372036854775807 < (numS l).size + 1) := by omega
  have c2 : ¬ (9223372036854775807 < (numS l).size + 1 + (numS c).size) := by omega
  clear s1 s2
  go_enter Tryd.func5, Tryd.ntmps5
  go_wp2_with fail
  go_region_held3 (fun w' => w'.cell? ⟨b, 0, none⟩ = some (.int .i64 l) ∧ w'.cell? ⟨b, 1, none⟩ = some (.int .i64 c) ∧ PT w') (first | (go_keep; done) | (refine ⟨?_, ?_, ?_⟩ <;> first | assumption | (exact ht) | (refine keeps hb ?_; assumption) | (refine keeps hb ?_; go_split_ands; assumption) | (refine PT.below ?_ hb; assumption) | (refine PT.below ?_ hb; go_split_ands; assumption))) ((go_at_call 6; refine (itoa_any _ (by assumption) _ (by first | assumption | (go_split_ands; assumption))).mono ?_; rintro e w1 ⟨rfl, hb⟩))
  all_goals
    rename_i w0 hb0 _
    go_wp2
    go_ret
    have hs0 := hb0.size
    exact ⟨by rw [← place_join]; rfl, ((Below.refl w.heap.size w).drew.trans hb0).trans (hb.mono hs0)⟩

theorem placeText (l c : Nat) (hl : (l : Int) ≤ 1000000000) (hc : (c : Int) ≤ 1000000000) (w : World) (ht : PT w) :
    Calls Tryd.prog 4 #[.agg #[.int .i64 l, .int .i64 c]] w fun e w' => e = .returned (.string (placeS l c)) ∧ Below w.heap.size w w' := by
  go_enter Tryd.func4, Tryd.ntmps4
  go_wp2_with fail
  refine (locString _ l c hl hc _ ?_ ?_ ?_).mono ?_
  · have h := World.cell?_alloc_mark (w.alloc (.cells #[.int .i64 l, .int .i64 c] 23)) #[.int .i64 l, .int .i64 c] 26 (0, 0) 0
    have e : (w.alloc (.cells #[.int .i64 l, .int .i64 c] 23)).heap.size = w.heap.size + 1 := by simp
    rw [e] at h
    exact h
  · have h := World.cell?_alloc_mark (w.alloc (.cells #[.int .i64 l, .int .i64 c] 23)) #[.int .i64 l, .int .i64 c] 26 (0, 0) 1
    have e : (w.alloc (.cells #[.int .i64 l, .int .i64 c] 23)).heap.size = w.heap.size + 1 := by simp
    rw [e] at h
    exact h
  · exact ht.below (((Below.refl _ _).alloc (Nat.le_refl _) _).alloc (by simp) _)
  rintro e w1 ⟨rfl, hb⟩
  go_wp2
  go_ret
  exact ⟨rfl, (((Below.refl _ _).alloc (Nat.le_refl _) _).alloc (by simp) _).trans (hb.mono (by simp; omega))⟩
end Go.Proofs.YtdkhiflmmemaoaaDoor
