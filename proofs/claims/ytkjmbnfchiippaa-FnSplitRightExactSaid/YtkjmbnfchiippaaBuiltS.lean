/- builtinSplitLimitR: the string's parts from the right on, as an array of strings that are known. -/
import Derived.Test.YtkjmbnfchiippaaCountS
import Derived.Test.YtkjmbnfchiippaaGetInt
import Derived.Test.YtkjmbnfchiippaaShelfS
namespace Go.Proofs.Ytkjmbnfchiippaa
open Go.RowKit

/-- A flat string, all of it from block B on. -/
def FSB (w : World) (B : Nat) (r : Addr) (l : List Int) : Prop := B ≤ r.block ∧ ∃ A c, B ≤ A.block ∧ w.cell? r = some (.slice (some A) l.length c) ∧ ∀ j u, l[j]? = some u → w.cell? (A.add j) = some (.int .i32 u)
theorem FSB.fs {w : World} {B : Nat} {r : Addr} {l : List Int} (h : FSB w B r l) : FlatS w r l := by
  obtain ⟨_, A, c, _, h1, h2⟩ := h
  exact ⟨A, c, h1, h2⟩
theorem FSB.below {w w' : World} {B : Nat} {r : Addr} {l : List Int} (h : FSB w B r l) (hb : Below w.heap.size w w') : FSB w' B r l := by
  obtain ⟨h0, A, c, h1, h2, h3⟩ := h
  exact ⟨h0, A, c, h1, keeps hb h2, fun j u hu => keeps hb (h3 j u hu)⟩
theorem FSB.set {w : World} {B g k : Nat} {r : Addr} {l : List Int} (h : FSB w B r l) (hg : g < B) (v : Value) : FSB (w.setCell ⟨g, k, none⟩ v) B r l := by
  obtain ⟨h0, A, c, h1, h2, h3⟩ := h
  refine ⟨h0, A, c, h1, ?_, fun j u hu => ?_⟩
  · rw [World.cell?_setCell_other _ _ _ _ (fun e => by subst e; simp at h0; omega)]; exact h2
  · rw [World.cell?_setCell_other _ _ _ _ (fun e => by
      have e2 := congrArg Addr.block e
      rw [block_of_add] at e2
      simp at e2
      omega)]
    exact h3 j u hu

def thunkS (r : Addr) : Obj := .cells #[.pointer none, .nilIface, .iface 86 (.pointer (some r)), .nilIface] 100
/-- A thunk that holds a flat string. -/
def TS (w : World) (B : Nat) (v : Value) (l : List Int) : Prop := ∃ t r, v = .pointer (some ⟨t, 0, none⟩) ∧ B ≤ t ∧ w.heap[t]? = some (thunkS r) ∧ FSB w B r l
theorem TS.below {w w' : World} {B : Nat} {v : Value} {l : List Int} (h : TS w B v l) (hb : Below w.heap.size w w') : TS w' B v l := by
  obtain ⟨t, r, h1, h2, h3, h4⟩ := h
  exact ⟨t, r, h1, h2, (hb.block t (Array.getElem?_eq_some_iff.1 h3).1).trans h3, h4.below hb⟩
theorem TS.set {w : World} {B g k : Nat} {v : Value} {l : List Int} (h : TS w B v l) (hg : g < B) (u : Value) : TS (w.setCell ⟨g, k, none⟩ u) B v l := by
  obtain ⟨t, r, h1, h2, h3, h4⟩ := h
  exact ⟨t, r, h1, h2, (heap_setCell_other w _ t u (by simp; omega)).trans h3, h4.set hg u⟩

theorem FSB_new (w : World) (l : List Int) (xs : Array Value) (cap : Nat) (t1 t2 : TypeId) :
    FSB (((w.alloc (.cells ((l.map (Value.int .i32)).toArray ++ xs) t1)).alloc (.cells #[.slice (some ⟨w.heap.size, 0, none⟩) l.length cap] t2)).drew) w.heap.size ⟨w.heap.size + 1, 0, none⟩ l := by
  refine ⟨by simp, ⟨w.heap.size, 0, none⟩, cap, by simp, ?_, fun j u hu => ?_⟩
  · have h := World.cell?_alloc_mark (w.alloc (.cells ((l.map (Value.int .i32)).toArray ++ xs) t1)) #[.slice (some ⟨w.heap.size, 0, none⟩) l.length cap] t2 (0, 0) 0
    have e : (w.alloc (.cells ((l.map (Value.int .i32)).toArray ++ xs) t1)).heap.size = w.heap.size + 1 := by simp
    rw [e] at h
    exact h
  · have hb : (w.alloc (.cells ((l.map (Value.int .i32)).toArray ++ xs) t1)).heap[w.heap.size]? = some (.cells ((l.map (Value.int .i32)).toArray ++ xs) t1) := by
      show (w.heap.push _)[w.heap.size]? = _
      simp
    have h := World.news_of_block hb j (.int .i32 u) (by
      obtain ⟨h1, h2⟩ := List.getElem?_eq_some_iff.1 hu
      rw [Array.toList_append, List.getElem?_append_left (by simpa using h1)]
      simp [hu])
    exact keeps (((Below.refl _ _).alloc (Nat.le_refl _) _).drew) h

theorem mkStrB (s : ByteArray) (w : World) (hs : s.size ≤ 70368744177664) :
    Calls Try.prog 21 #[.string s] w fun e w' => ∃ r, e = .returned (.iface 86 (.pointer (some r))) ∧ FSB w' w.heap.size r (runesOf s) ∧ Below w.heap.size w w' := by
  have hlen := runesOf_length s
  have hrun := run_runes_of_string (P := Try.prog) w 9 82 21 s Try.underlying9 Try.underlying82 Try.underlying21 (by rw [runes_cells]; simp; omega)
  rw [runes_cells] at hrun
  simp only [List.size_toArray, List.length_map] at hrun
  generalize hl : runesOf s = l at *
  clear hlen hl hs
  generalize grownCap w l.length 0 21 = cap at hrun
  go_enter Try.func21, Try.ntmps21
  go_wp2
  go_ret
  exact ⟨_, rfl, FSB_new _ _ _ _ _ _, (((Below.refl _ _).alloc (Nat.le_refl _) _).alloc (by simp) _).drew⟩
theorem readyS (r : Addr) (w : World) :
    Calls Try.prog 35 #[.iface 86 (.pointer (some r))] w fun e w' => e = .returned (.pointer (some ⟨w.heap.size, 0, none⟩)) ∧ w' = w.alloc (thunkS r) := by
  go_enter Try.func35, Try.ntmps35
  go_wp2
  go_ret
  exact ⟨rfl, rfl⟩

/-- A row of thunks that hold flat strings; an array of them. -/
def TRow (w : World) (B : Nat) (us : List Value) (ls : List (List Int)) : Prop := us.length = ls.length ∧ ∀ (i : Nat) v l, us[i]? = some v → ls[i]? = some l → TS w B v l
def ARS (w : World) (r : Nat) (ls : List (List Int)) : Prop := ∃ ad n c us, w.cell? ⟨r, 0, none⟩ = some (.slice (some ad) n c) ∧ n = ls.length ∧ Reads w w.heap.size 1 (some ad) n us ∧ TRow w 0 us ls
theorem mkArrS (ad : Addr) (n : Nat) (w : World) :
    Calls Try.prog 36 #[.slice (some ad) n n] w fun e w' => e = .returned (.pointer (some ⟨w.heap.size, 0, none⟩)) ∧ w' = w.alloc (.cells #[.slice (some ad) n n] 93) := by
  go_enter Try.func36, Try.ntmps36
  go_wp2
  go_ret
  exact ⟨rfl, rfl⟩

theorem infoT : (Try.prog.info? 95).map (fun i => (i.zero, i.size, i.bytes)) = some (some (.pointer none), 1, 8) := by kernel_rfl
theorem infoSt : (Try.prog.info? 9).map (fun i => (i.zero, i.size, i.bytes)) = some (some (.string ⟨#[]⟩), 1, 16) := by kernel_rfl
theorem goString_valid (s : ByteArray) (r : Addr) (w : World) (h : FlatS w r (runesOf s)) (hv : Lib.validD s.data.toList = true) :
    Calls Try.prog 67 #[.pointer (some r)] w fun e w' => e = .returned (.string s) ∧ w = w' :=
  (goString_any r _ w h).mono fun e w' ⟨he, hw⟩ => ⟨by rw [he, runesBytes_valid s hv], hw⟩
end Go.Proofs.Ytkjmbnfchiippaa
