/- makeValueString, getRunes, stringCmp, stringEqual. -/
import Derived.Test.YtkjmbnfchiippaaRows
import Derived.Test.YtkjmbnfchiippaaRunes
import Derived.WalkKit
import Derived.WalkLawsBesides
import Derived.WalkSpells
import Derived.Lib.Hide
import Derived.Handy
import Derived.Deep.RegionHeld3
namespace Go.Proofs.Ytkjmbnfchiippaa
open Go.RowKit

/-- A flat string lies at r. -/
def FlatS (w : World) (r : Addr) (l : List Int) : Prop := ∃ A c, w.cell? r = some (.slice (some A) l.length c) ∧ ∀ j u, l[j]? = some u → w.cell? (A.add j) = some (.int .i32 u)
theorem FlatS.below {w w' : World} {r : Addr} {l : List Int} (h : FlatS w r l) (hb : Below w.heap.size w w') : FlatS w' r l := by
  obtain ⟨A, c, h1, h2⟩ := h
  exact ⟨A, c, keeps hb h1, fun j u hu => keeps hb (h2 j u hu)⟩

theorem FS_new (w : World) (l : List Int) (xs : Array Value) (cap : Nat) (t1 t2 : TypeId) :
    FlatS (((w.alloc (.cells ((l.map (Value.int .i32)).toArray ++ xs) t1)).alloc (.cells #[.slice (some ⟨w.heap.size, 0, none⟩) l.length cap] t2)).drew) ⟨w.heap.size + 1, 0, none⟩ l := by
  refine ⟨⟨w.heap.size, 0, none⟩, cap, ?_, fun j u hu => ?_⟩
  · have h := World.cell?_alloc_mark (w.alloc (.cells ((l.map (Value.int .i32)).toArray ++ xs) t1)) #[.slice (some ⟨w.heap.size, 0, none⟩) l.length cap] t2 (0, 0) 0
    have e : (w.alloc (.cells ((l.map (Value.int .i32)).toArray ++ xs) t1)).heap.size = w.heap.size + 1 := by simp
    rw [e] at h
    exact h
  · have hb : (w.alloc (.cells ((l.map (Value.int .i32)).toArray ++ xs) t1)).heap[w.heap.size]? = some (.cells ((l.map (Value.int .i32)).toArray ++ xs) t1) := by
      show (w.heap.push _)[w.heap.size]? = _
      simp
    have h := World.news_of_block hb j (.int .i32 u) (by
      obtain ⟨h1, h2⟩ := List.getElem?_eq_some_iff.1 hu
      rw [Array.toList_append, List.getElem?_append_left (by simpa using h1)]
      simp [hu])
    exact keeps (((Below.refl _ _).alloc (Nat.le_refl _) _).drew) h

theorem mkStr (s : ByteArray) (w : World) (hs : s.size ≤ 70368744177664) :
    Calls Try.prog 21 #[.string s] w fun e w' => ∃ r, e = .returned (.iface 86 (.pointer (some r))) ∧ FlatS w' r (runesOf s) ∧ Below w.heap.size w w' := by
  have hlen := runesOf_length s
  have hrun := run_runes_of_string (P := Try.prog) w 9 82 21 s Try.underlying9 Try.underlying82 Try.underlying21 (by rw [runes_cells]; simp; omega)
  rw [runes_cells] at hrun
  simp only [List.size_toArray, List.length_map] at hrun
  generalize hl : runesOf s = l at *
  clear hlen hl hs
  generalize grownCap w l.length 0 21 = cap at hrun
  go_enter Try.func21, Try.ntmps21
  go_wp2
  go_ret
  exact ⟨_, rfl, FS_new _ _ _ _ _ _, (((Below.refl _ _).alloc (Nat.le_refl _) _).alloc (by simp) _).drew⟩

theorem getRunes_any (r A : Addr) (n c : Nat) (w : World) (h : w.cell? r = some (.slice (some A) n c)) :
    Calls Try.prog 68 #[.pointer (some r)] w fun e w' => e = .returned (.slice (some A) n c) ∧ w = w' := by
  go_enter Try.func68, Try.ntmps68
  go_wp2
  go_ret
  exact ⟨rfl, rfl⟩

theorem intCmp_any (a b v : Int) (w : World) (hv : (if a < b then -1 else if b < a then 1 else 0) = v) :
    Calls Try.prog 29 #[.int .i64 a, .int .i64 b] w fun e w' => e = .returned (.int .i64 v) ∧ w = w' := by
  subst hv
  by_cases h1 : a < b
  · go_enter Try.func29, Try.ntmps29
    go_wp2
    go_ret
    exact ⟨rfl, rfl⟩
  · by_cases h2 : b < a
    all_goals
      go_enter Try.func29, Try.ntmps29
      go_wp2
      go_ret
      exact ⟨rfl, rfl⟩
theorem runeCmp_any (a b v : Int) (w : World) (hne : a ≠ b) (hv : (if a < b then -1 else 1) = v) :
    Calls Try.prog 28 #[.int .i32 a, .int .i32 b] w fun e w' => e = .returned (.int .i64 v) ∧ w = w' := by
  subst hv
  by_cases h1 : a < b
  · go_enter Try.func28, Try.ntmps28
    go_wp2
    go_ret
    exact ⟨rfl, rfl⟩
  · have h2 : b < a := by omega
    go_enter Try.func28, Try.ntmps28
    go_wp2
    go_ret
    exact ⟨rfl, rfl⟩
end Go.Proofs.Ytkjmbnfchiippaa
