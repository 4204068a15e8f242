/- makeValueString, getString, getGoString of flat strings. -/
import Derived.Test.YtkjmbnfchiippaaDoorRows
import Derived.Test.YtkjmbnfchiippaaDoorRunes
import Derived.WalkKit
import Derived.WalkLawsBesides
import Derived.WalkSpells
import Derived.Lib.Hide
import Derived.Handy
import Derived.Deep.RegionHeld3
import Derived.Laws.Cover4
namespace Go.Proofs.YtkjmbnfchiippaaDoor
open Go.RowKit

/-- A flat string lies at r. -/
def FlatS (w : World) (r : Addr) (l : List Int) : Prop := ∃ A c, w.cell? r = some (.slice (some A) l.length c) ∧ ∀ j u, l[j]? = some u → w.cell? (A.add j) = some (.int .i32 u)
theorem FlatS.below {w w' : World} {r : Addr} {l : List Int} (h : FlatS w r l) (hb : Below w.heap.size w w') : FlatS w' r l := by
  obtain ⟨A, c, h1, h2⟩ := h
  exact ⟨A, c, keeps hb h1, fun j u hu => keeps hb (h2 j u hu)⟩

theorem FS_new (w : World) (l : List Int) (xs : Array Value) (cap : Nat) (t1 t2 : TypeId) :
    FlatS (((w.alloc (.cells ((l.map (Value.int .i32)).toArray ++ xs) t1)).alloc (.cells #[.slice (some ⟨w.heap.size, 0, none⟩) l.length cap] t2)).drew) ⟨w.heap.size + 1, 0, none⟩ l := by
  refine ⟨⟨w.heap.size, 0, none⟩, cap, ?_, fun j u hu => ?_⟩
  · have h := World.cell?_alloc_mark (w.alloc (.cells ((l.map (Value.int .i32)).toArray ++ xs) t1)) #[.slice (some ⟨w.heap.size, 0, none⟩) l.length cap] t2 (0, 0) 0
    have e : (w.alloc (.cells ((l.map (Value.int .i32)).toArray ++ xs) t1)).heap.size = w.heap.size + 1 := by simp
    rw [e] at h
    exact h
  · have hb : (w.alloc (.cells ((l.map (Value.int .i32)).toArray ++ xs) t1)).heap[w.heap.size]? = some (.cells ((l.map (Value.int .i32)).toArray ++ xs) t1) := by
      show (w.heap.push _)[w.heap.size]? = _
      simp
    have h := World.news_of_block hb j (.int .i32 u) (by
      obtain ⟨h1, h2⟩ := List.getElem?_eq_some_iff.1 hu
      rw [Array.toList_append, List.getElem?_append_left (by simpa using h1)]
      simp [hu])
    exact keeps (((Below.refl _ _).alloc (Nat.le_refl _) _).drew) h

theorem mkStr (s : ByteArray) (w : World) (hs : s.size ≤ 70368744177664) :
    Calls Tryd.prog 14 #[.string s] w fun e w' => ∃ r, e = .returned (.iface 73 (.pointer (some r))) ∧ FlatS w' r (runesOf s) ∧ Below w.heap.size w w' := by
  have hlen := runesOf_length s
  have hrun := run_runes_of_string (P := Tryd.prog) w 9 78 21 s Tryd.underlying9 Tryd.underlying78 Tryd.underlying21 (by rw [runes_cells]; simp; omega)
  rw [runes_cells] at hrun
  simp only [List.size_toArray, List.length_map] at hrun
  generalize hl : runesOf s = l at *
  clear hlen hl hs
  generalize grownCap w l.length 0 21 = cap at hrun
  go_enter Tryd.func14, Tryd.ntmps14
  go_wp2
  go_ret
  exact ⟨_, rfl, FS_new _ _ _ _ _ _, (((Below.refl _ _).alloc (Nat.le_refl _) _).alloc (by simp) _).drew⟩

theorem as_str (v : Value) (w : World) : (Instr.typeAssert (.iface 73 v) 35 66 true).run Tryd.prog w = .ok (.tuple #[.iface 73 v, .bool true]) w := by kernel_rfl
attribute [local go_sem] as_str

theorem getString_any (i v : Value) (w : World) :
    Calls Tryd.prog 11 #[i, .iface 73 v] w fun e w' => e = .returned (.tuple #[.iface 73 v, .nilIface]) ∧ w = w' := by
  go_enter Tryd.func11, Tryd.ntmps11
  go_wp2
  go_ret2
  exact ⟨rfl, rfl⟩

theorem goString_any (r : Addr) (l : List Int) (w : World) (h : FlatS w r l) :
    Calls Tryd.prog 47 #[.pointer (some r)] w fun e w' => e = .returned (.string (runesBytes l)) ∧ w = w' := by
  obtain ⟨A, c, h1, h2⟩ := h
  have hl := run_loadCells_list (P := Tryd.prog) w A (l.map (Value.int .i32)) (fun j v hj => by
    rw [List.getElem?_map] at hj
    obtain ⟨u, h3, h4⟩ := Option.map_eq_some_iff.1 hj
    rw [h2 j u h3, ← h4])
  rw [List.length_map] at hl
  have hconv := run_convert_runes_string (P := Tryd.prog) w 78 9 21 (some A) l.length c Tryd.underlying78 Tryd.underlying21 Tryd.underlying9
  rw [run_runesToString w A l.length c l hl] at hconv
  clear hl h2
  go_enter Tryd.func47, Tryd.ntmps47
  go_wp2
  go_ret
  exact ⟨rfl, rfl⟩

theorem str_any (s : ByteArray) (w : World) (hs : s.size ≤ 70368744177664) :
    Calls Tryd.prog 10 #[.string s] w fun e w' => ∃ r, e = .returned (.iface 73 (.pointer (some r))) ∧ FlatS w' r (runesOf s) ∧ Below w.heap.size w w' := by
  go_enter Tryd.func10, Tryd.ntmps10
  go_wp2_with fail
  refine (mkStr s _ hs).mono ?_
  rintro e w1 ⟨r, rfl, hf, hb⟩
  go_wp2_with fail
  go_ret
  exact ⟨r, rfl, hf, hb⟩

end Go.Proofs.YtkjmbnfchiippaaDoor
