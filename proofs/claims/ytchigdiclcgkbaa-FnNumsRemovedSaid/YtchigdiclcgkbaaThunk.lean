/- Arrays of numbers that are known: what one is in memory; contracts of num, readyThunk, makeValueArray, nums, numsOf. -/
import Derived.Test.YtchigdiclcgkbaaFin
import Derived.Test.YtchigdiclcgkbaaApp
import Derived.Laws.CopyOwn
namespace Go.Proofs.Ytchigdiclcgkbaa
open Go.RowKit

theorem as_num (v : Value) (w : World) : (Instr.typeAssert (.iface 68 v) 44 68 true).run Try.prog w = .ok (.tuple #[v, .bool true]) w := by kernel_rfl
theorem as_num1 (v : Value) (w : World) : (Instr.typeAssert (.iface 68 v) 44 68 false).run Try.prog w = .ok v w := by kernel_rfl
theorem as_arr (v : Value) (w : World) : (Instr.typeAssert (.iface 40 v) 44 40 true).run Try.prog w = .ok (.tuple #[v, .bool true]) w := by kernel_rfl
theorem as_arr1 (v : Value) (w : World) : (Instr.typeAssert (.iface 40 v) 44 40 false).run Try.prog w = .ok v w := by kernel_rfl
attribute [local go_sem] as_num as_num1 as_arr as_arr1

def numObj (x : Nat) : Obj := .cells #[.float .f64 x] 78
def thunkObj (v : Value) : Obj := .cells #[.pointer none, .nilIface, v, .nilIface] 83
def numV (q : Nat) : Value := .iface 68 (.pointer (some ⟨q, 0, none⟩))

theorem makeNum_any (x : Nat) (w : World) :
    Calls Try.prog 25 #[.float .f64 x] w fun e w' => e = .returned (.pointer (some ⟨w.heap.size, 0, none⟩)) ∧ w' = w.alloc (numObj x) := by
  go_enter Try.func25, Try.ntmps25
  go_wp2
  go_ret
  exact ⟨rfl, rfl⟩
theorem num_any (x : Nat) (w : World) :
    Calls Try.prog 21 #[.float .f64 x] w fun e w' => e = .returned (numV w.heap.size) ∧ w' = w.alloc (numObj x) := by
  go_enter Try.func21, Try.ntmps21
  go_wp2_with fail
  refine (makeNum_any x _).mono ?_
  rintro e w1 ⟨rfl, rfl⟩
  go_wp2_with fail
  go_ret
  exact ⟨rfl, rfl⟩
theorem ready_any (t : TypeId) (u : Value) (w : World) :
    Calls Try.prog 20 #[.iface t u] w fun e w' => e = .returned (.pointer (some ⟨w.heap.size, 0, none⟩)) ∧ w' = w.alloc (thunkObj (.iface t u)) := by
  go_enter Try.func20, Try.ntmps20
  go_wp2
  go_ret
  exact ⟨rfl, rfl⟩

/-- A thunk that holds a number. -/
def TH (w : World) (u : Value) (x : Nat) : Prop := ∃ t q, u = .pointer (some ⟨t, 0, none⟩) ∧ w.heap[t]? = some (.cells #[.pointer none, .nilIface, numV q, .nilIface] 83 (0, 0)) ∧ w.heap[q]? = some (.cells #[.float .f64 x] 78 (0, 0))
theorem TH.below {w w' : World} {u : Value} {x : Nat} (h : TH w u x) (hb : Below w.heap.size w w') : TH w' u x := by
  obtain ⟨t, q, hu, h1, h2⟩ := h
  exact ⟨t, q, hu, by rw [hb.block t (Array.getElem?_eq_some_iff.1 h1).1]; exact h1, by rw [hb.block q (Array.getElem?_eq_some_iff.1 h2).1]; exact h2⟩
/-- A row of the thunks' pointers may grow or turn. -/
def RowOrNone (w : World) (o : Option Nat) : Prop := ∀ g, o = some g → ∃ c fz, w.heap[g]? = some (.cells c 76 fz)
theorem TH.grown {w w' : World} {u : Value} {x : Nat} {o : Option Nat} (h : TH w u x) (hg : w.grownBy w' o) (ho : RowOrNone w o) : TH w' u x := by
  obtain ⟨t, q, hu, h1, h2⟩ := h
  refine ⟨t, q, hu, ?_, ?_⟩
  · rw [hg.block t (Array.getElem?_eq_some_iff.1 h1).1 ?_]
    · exact h1
    · intro he
      obtain ⟨c, fz, hc⟩ := ho t he.symm
      rw [h1] at hc
      injection hc with hc
      injection hc with _ ht
      exact absurd ht (by decide)
  · rw [hg.block q (Array.getElem?_eq_some_iff.1 h2).1 ?_]
    · exact h2
    · intro he
      obtain ⟨c, fz, hc⟩ := ho q he.symm
      rw [h2] at hc
      injection hc with hc
      injection hc with _ ht
      exact absurd ht (by decide)
theorem own_row {w : World} {B : Nat} {v : Value} {n : Nat} {us : List Value} (h : w.ownsRow B 76 1 v n us) : RowOrNone w v.ownBlock := by
  intro g hg
  rcases h.2 with ⟨rfl, _⟩ | ⟨g', cap, cur, rfl, _, hgg, _⟩
  · simp [Value.ownBlock] at hg
  · simp [Value.ownBlock] at hg
    subst hg
    exact ⟨cur, _, hgg⟩

def Ths (w : World) (us : List Value) (xs : List Nat) : Prop := us.length = xs.length ∧ ∀ (i : Nat) u x, us[i]? = some u → xs[i]? = some x → TH w u x
theorem Ths.below {w w' : World} {us : List Value} {xs : List Nat} (h : Ths w us xs) (hb : Below w.heap.size w w') : Ths w' us xs := ⟨h.1, fun i u x h1 h2 => (h.2 i u x h1 h2).below hb⟩
theorem Ths.grown {w w' : World} {us : List Value} {xs : List Nat} {o : Option Nat} (h : Ths w us xs) (hg : w.grownBy w' o) (ho : RowOrNone w o) : Ths w' us xs := ⟨h.1, fun i u x h1 h2 => (h.2 i u x h1 h2).grown hg ho⟩
theorem Ths.nil (w : World) : Ths w [] [] := ⟨rfl, fun i u x h => by simp at h⟩
theorem Ths.app {w : World} {us vs : List Value} {xs ys : List Nat} (h : Ths w us xs) (k : Ths w vs ys) : Ths w (us ++ vs) (xs ++ ys) := by
  refine ⟨by simp [h.1, k.1], fun i u x h1 h2 => ?_⟩
  by_cases hi : i < us.length
  · rw [List.getElem?_append_left hi] at h1
    rw [List.getElem?_append_left (by have := h.1; omega)] at h2
    exact h.2 i u x h1 h2
  · rw [List.getElem?_append_right (by omega)] at h1
    rw [List.getElem?_append_right (by have := h.1; omega), ← h.1] at h2
    exact k.2 _ u x h1 h2
theorem Ths.take {w : World} {us : List Value} {xs : List Nat} (h : Ths w us xs) (k : Nat) : Ths w (us.take k) (xs.take k) := by
  refine ⟨by simp [h.1], fun i u x h1 h2 => ?_⟩
  rw [List.getElem?_take] at h1 h2
  by_cases hi : i < k
  · rw [if_pos hi] at h1 h2
    exact h.2 i u x h1 h2
  · rw [if_neg hi] at h1
    cases h1
theorem Ths.drop {w : World} {us : List Value} {xs : List Nat} (h : Ths w us xs) (k : Nat) : Ths w (us.drop k) (xs.drop k) := by
  refine ⟨by simp [h.1], fun i u x h1 h2 => ?_⟩
  rw [List.getElem?_drop] at h1 h2
  exact h.2 _ u x h1 h2
theorem Ths.one {w : World} {u : Value} {x : Nat} (h : TH w u x) : Ths w [u] [x] := ⟨rfl, fun i u' x' h1 h2 => by
  rcases i with _ | i
  · simp at h1 h2
    subst h1 h2
    exact h
  · simp at h1⟩
theorem Ths.cell1 {w : World} {us : List Value} {xs : List Nat} (h : Ths w us xs) : ∀ u ∈ us, u.oneCell' = true := fun u hu => by
  obtain ⟨i, hi⟩ := List.getElem?_of_mem hu
  have hl := (List.getElem?_eq_some_iff.1 hi).1
  obtain ⟨t, q, rfl, _⟩ := h.2 i u _ hi (List.getElem?_eq_getElem (by have := h.1; omega))
  rfl

/-- A slice of thunks; an array. -/
def SL (w : World) (A : Option Addr) (n : Nat) (xs : List Nat) : Prop := ∃ us, Reads w w.heap.size 1 A n us ∧ Ths w us xs
def AR (w : World) (r : Nat) (xs : List Nat) : Prop := ∃ A n c, w.cell? ⟨r, 0, none⟩ = some (.slice A n c) ∧ n = xs.length ∧ n ≤ c ∧ c ≤ maxLen ∧ r < w.heap.size ∧ SL w A n xs
theorem SL.below {w w' : World} {A : Option Addr} {n : Nat} {xs : List Nat} (h : SL w A n xs) (hb : Below w.heap.size w w') : SL w' A n xs := by
  obtain ⟨us, h1, h2⟩ := h
  exact ⟨us, (h1.keep fun _ hp => hb.cell hp).more hb.size, h2.below hb⟩
theorem AR.below {w w' : World} {r : Nat} {xs : List Nat} (h : AR w r xs) (hb : Below w.heap.size w w') : AR w' r xs := by
  obtain ⟨A, n, c, h1, h2, h3, h4, h5, h6⟩ := h
  exact ⟨A, n, c, (hb.cell (p := ⟨r, 0, none⟩) h5).trans h1, h2, h3, h4, Nat.lt_of_lt_of_le h5 hb.size, h6.below hb⟩

theorem infoP : (Try.prog.info? 76).map (fun i => (i.zero, i.size, i.bytes)) = some (some (.pointer none), 1, 8) := by kernel_rfl
theorem infoN : (Try.prog.info? 31).map (fun i => (i.zero, i.size, i.bytes)) = some (some (.float .f64 0), 1, 8) := by kernel_rfl
theorem sizeP : (Try.prog.info? 76).map (·.size) = some 1 := by kernel_rfl

set_option maxRecDepth 100000 in
set_option maxHeartbeats 800000 in
theorem mkArr_any (A : Option Addr) (n c : Nat) (xs : List Nat) (w : World) (h : SL w A n xs) (hn : n = xs.length) (hnc : n ≤ c) (hc : c ≤ maxLen) (hs : n ≤ 1000) :
    Calls Try.prog 22 #[.slice A n c] w fun e w' => ∃ r, e = .returned (.pointer (some ⟨r, 0, none⟩)) ∧ AR w' r xs ∧ Below w.heap.size w w' := by
  obtain ⟨iP, hiP, hzP0, hzP1, hzP2⟩ := info_parts infoP
  have H := Lib.hid h
  have HN := Lib.hid hn
  have HC := Lib.hid hc
  clear h hn hc
  by_cases hnc2 : n = c
  · subst hnc2
    go_enter Try.func22, Try.ntmps22
    go_wp2_with fail
    go_ret
    have hb := (Below.refl w.heap.size w).alloc (Nat.le_refl _) (.cells #[.slice A n n] 75)
    exact ⟨_, rfl, ⟨A, n, n, World.cell?_alloc_mark w _ _ (0, 0) 0, HN.out, Nat.le_refl _, HC.out, by simp, H.out.below hb⟩, hb⟩
  · have hne : (n == c) = false := by simp [hnc2]
    obtain ⟨us, hus, hth⟩ := H.out
    have hul : us.length = n := by have := hth.1; have := HN.out; omega
    have hr := run_make (P := Try.prog) w 73 76 iP (.pointer none) Try.underlying73 hiP hzP0 .i64 .i64 n n (by omega) (Int.le_refl _) (by rw [hzP2]; omega) (by omega)
    rw [Int.toNat_natCast, hzP1, Nat.mul_one] at hr
    obtain ⟨M, hM⟩ : ∃ M, madeCells (Value.pointer none).cells n = M := ⟨_, rfl⟩
    rw [hM] at hr
    have hMs : M.size = n := by rw [← hM]; exact size_madeCells _ _
    have hb1 := (Below.refl w.heap.size w).alloc (Nat.le_refl _) (.cells M 76)
    have HUL := Lib.hid hul
    have HU := Lib.hid hus
    have HT := Lib.hid hth
    have HM := Lib.hid hMs
    have HB1 := Lib.hid hb1
    clear hus hth hM hMs hul hb1 H hiP hzP0 hzP1 hzP2
    go_enter Try.func22, Try.ntmps22
    go_wp2_with (refine wpList_copy_splice (by rfl) (.tmp 13) (.tmp 14) 73 73 (by rfl) 76 Try.underlying73 sizeP _ _ n n n c (by rfl) (by rfl) w.heap.size 0 M.toList 76 ?_ us ?_ ?_ ?_ (Ths.cell1 HT.out) w.heap.size w HB1.out (Nat.le_refl _) ?_
                 · rw [Array.toArray_toList]; exact heap_alloc_new w _
                 · rw [HUL.out]; exact (Nat.min_self n).symm
                 · intro hpos
                   obtain ⟨ad, hA, hlt, hc⟩ := HU.out.2 (by have := HUL.out; omega)
                   exact ⟨rfl, ad, hA, fun j v hv => (HB1.out.cell (p := ad.add j) (by rw [block_of_add]; exact hlt)).trans (hc j v hv)⟩
                 · rw [HUL.out, Array.length_toList, HM.out]; omega
                 intro w2 hg2 hb2)
    have hrow : w2.heap[w.heap.size]? = some (.cells us.toArray 76 (0, 0)) := by
      rw [show w2.heap[w.heap.size]? = _ from hg2]
      unfold splice
      rw [List.take_zero, List.nil_append, List.drop_eq_nil_of_le (by rw [Array.length_toList, HM.out, HUL.out]; omega), List.append_nil]
    have HR := Lib.hid hrow
    have HB2 := Lib.hid hb2
    clear hg2 hb2 hrow
    go_wp2_with fail
    go_ret
    have hb3 := HB2.out.alloc HB2.out.size (.cells #[.slice (some ⟨w.heap.size, 0, none⟩) n n] 75)
    have hlt : w.heap.size < w2.heap.size := (Array.getElem?_eq_some_iff.1 HR.out).1
    refine ⟨_, rfl, ⟨_, n, n, World.cell?_alloc_mark w2 _ _ (0, 0) 0, HN.out, Nat.le_refl _, by unfold maxLen; omega, by simp, us, ⟨by rw [HUL.out]; omega, fun _ => ⟨_, rfl, by simp; omega, fun j u hj => ?_⟩⟩, HT.out.below hb3⟩, hb3⟩
    have h1 : (w2.alloc (.cells #[.slice (some ⟨w.heap.size, 0, none⟩) n n] 75)).heap[w.heap.size]? = some (.cells us.toArray 76 (0, 0)) := (Below.heap_alloc w2 _ _ hlt).trans HR.out
    have h2 := cell_of_row _ w.heap.size j _ _ (0, 0) h1
    rw [show (⟨w.heap.size, 0, none⟩ : Addr).add j = ⟨w.heap.size, j, none⟩ by unfold Addr.add; split <;> simp_all]
    rw [h2]
    simpa using hj
end Go.Proofs.Ytchigdiclcgkbaa
