/- Contracts of concatArrays, getArray, builtinRemoveAt, and of the doors NumsAdded and NumsRemoveAt. -/
import Derived.Test.YtchigdiclcgkbaaNums
import Derived.Test.YtchigdiclcgkbaaGetInt
import Derived.StillTailTactics
namespace Go.Proofs.Ytchigdiclcgkbaa
open Go.RowKit
attribute [local go_sem] as_num as_num1 as_arr as_arr1

theorem own_cap {w : World} {B : Nat} {e : TypeId} {s : Nat} {A : Option Addr} {n c : Nat} {us : List Value} (h : w.ownsRow B e s (.slice A n c) n us) : n ≤ c ∧ c ≤ maxLen := by
  rcases h.2 with ⟨he, h0⟩ | ⟨g, cap, cur, he, _, _, h1, h2, _⟩
  · injection he with _ _ h3
    subst h0 h3
    exact ⟨Nat.le_refl _, Nat.zero_le _⟩
  · injection he with _ _ h3
    subst h3
    exact ⟨h1, h2⟩

set_option maxRecDepth 100000 in
set_option maxHeartbeats 1600000 in
theorem concat_any (r1 r2 : Nat) (xs ys : List Nat) (w : World) (h1 : AR w r1 xs) (h2 : AR w r2 ys) (hx : xs.length ≤ 400) (hy : ys.length ≤ 400) :
    Calls Try.prog 15 #[.pointer (some ⟨r1, 0, none⟩), .pointer (some ⟨r2, 0, none⟩)] w fun e w' => ∃ r, e = .returned (.pointer (some ⟨r, 0, none⟩)) ∧ AR w' r (xs ++ ys) ∧ Below w.heap.size w w' := by
  obtain ⟨iP, hiP, hzP0, hzP1, hzP2⟩ := info_parts infoP
  obtain ⟨A, n, c, hc1, hnl, hnc, hcm, hr1, us, hus, hth⟩ := h1
  obtain ⟨B, m, d, hc2, hml, hmd, hdm, hr2, vs, hvs, hvh⟩ := h2
  have hn4 : n ≤ 400 := by omega
  have hm4 : m ≤ 400 := by omega
  have HUS := Lib.hid hus
  have HTH := Lib.hid hth
  have HVS := Lib.hid hvs
  have HVH := Lib.hid hvh
  have HNL := Lib.hid hnl
  have HML := Lib.hid hml
  have HC1 := Lib.hid hc1
  have HC2 := Lib.hid hc2
  clear hus hth hvs hvh hnl hml hnc hcm hmd hdm
  go_enter Try.func15, Try.ntmps15
  go_wp2_with fail
  go_still_tail 11, (by kernel_rfl)
  refine wpList_make_own w.drew (by rfl) (.const (.int .i64 0)) (.tmp 16) 73 (by rfl) w.heap.size 76 iP (.pointer none) 1 Try.underlying73 hiP hzP0 hzP1 .i64 .i64 _ (n + m) (by rfl) (by rfl) ?_ (by rw [hzP2]; omega) (by unfold maxLen; omega) (Nat.le_refl _) ?_
  · rw [IntKind.wrap_i64]; omega
  intro w1 hown1 hgr1
  have hb1 : Below w.heap.size w w1 := (Below.refl _ _).drew.grown hgr1 (Nat.le_refl _) (fun g hg => by cases hg)
  have hd1 := (hb1.cell (p := ⟨r1, 0, none⟩) hr1).trans HC1.out
  have HB1 := Lib.hid hb1
  have HO1 := Lib.hid hown1
  clear hgr1 hb1 hown1 hc1 hc2
  have hb2 : ∀ A2 c2 w2, Appended w1 w2 w.heap.size 76 1 (.slice (some ⟨w.heap.size, 0, none⟩) 0 (n + m)) A2 n c2 us → Below w.heap.size w w2 := fun _ _ _ hap => HB1.out.grown hap.grown HB1.out.size (fun g hg => (HO1.out.lt g hg).1)
  have HB := Lib.hid hb2
  clear hb2
  go_wp2_with (first
    | (refine wpList_append_any _ (by rfl) (.tmp 18) (.tmp 22) 73 (by rfl) w.heap.size 76 iP (.pointer none) 1 8 Try.underlying73 hiP hzP0 hzP1 hzP2 rfl (Nat.lt_add_one 0) (.slice (some ⟨w.heap.size, 0, none⟩) 0 (n + m)) 0 [] (by rfl) HO1.out w.heap.size A n c us (by rfl) (HUS.out.keep fun p hp => HB1.out.cell hp) (Ths.cell1 HTH.out) ?_ ?_ HB1.out.size n ?_ us ?_ ?_
       · (unfold maxLen; omega)
       · omega
       · omega
       · rfl
       intro A2 c2 w2 hap
       have hd2 := (Below.cell (HB.out _ _ _ hap) (p := ⟨r2, 0, none⟩) hr2).trans HC2.out
       have HA2 := Lib.hid hap
       clear hap)
    | (refine wpList_append_any _ (by rfl) (.tmp 24) (.tmp 28) 73 (by rfl) w.heap.size 76 iP (.pointer none) 1 8 Try.underlying73 hiP hzP0 hzP1 hzP2 rfl (Nat.lt_add_one 0) (.slice A2 n c2) n us (by rfl) HA2.out.own w.heap.size B m d vs (by rfl) (HVS.out.keep fun p hp => (HB.out _ _ _ HA2.out).cell hp) (Ths.cell1 HVH.out) ?_ ?_ (HB.out _ _ _ HA2.out).size (n + m) ?_ (us ++ vs) ?_ ?_
       · (unfold maxLen; omega)
       · omega
       · rfl
       · rfl
       intro A3 c3 w3 hap3
       have HA3 := Lib.hid hap3
       clear hap3))
  have hap2 := HA2.out
  have hap3 := HA3.out
  have hb2 := HB.out _ _ _ hap2
  have hth2 := (HTH.out.below HB1.out).grown hap2.grown (own_row HO1.out)
  have hvh2 := (HVH.out.below HB1.out).grown hap2.grown (own_row HO1.out)
  have hb3 := hb2.grown hap3.grown hb2.size (fun g hg => (hap2.own.lt g hg).1)
  have hth3 := (hth2.app hvh2).grown hap3.grown (own_row hap2.own)
  have hcap := own_cap hap3.own
  have hb4 := hb3.alloc hb3.size (.cells #[.slice A3 (n + m) c3] 75)
  have hb5 := (Below.refl w3.heap.size w3).alloc (Nat.le_refl _) (.cells #[.slice A3 (n + m) c3] 75)
  go_ret
  exact ⟨_, rfl, ⟨A3, n + m, c3, World.cell?_alloc_mark w3 _ _ (0, 0) 0, by rw [List.length_append, ← HNL.out, ← HML.out], hcap.1, hcap.2, by simp, SL.below ⟨us ++ vs, Reads.of_own hap3.own, hth3⟩ hb5⟩, hb4⟩

theorem getArray_any (i v : Value) (w : World) :
    Calls Try.prog 23 #[i, .iface 40 v] w fun e w' => e = .returned (.tuple #[v, .nilIface]) ∧ w = w' := by
  go_enter Try.func23, Try.ntmps23
  go_wp2
  go_ret2
  exact ⟨rfl, rfl⟩

theorem Reads.cutTo {w : World} {B : Nat} {A : Option Addr} {n k : Nat} {us : List Value} (h : Reads w B 1 A n us) (hk : k ≤ n) : Reads w B 1 A k (us.take k) := by
  refine ⟨by have := h.1; rw [List.length_take]; omega, fun h0 => ?_⟩
  obtain ⟨ad, hA, hlt, hc⟩ := h.2 (by omega)
  exact ⟨ad, hA, hlt, fun j u hj => hc j u (by
    rw [List.getElem?_take] at hj
    split at hj
    · exact hj
    · cases hj)⟩
theorem Reads.cutFrom {w : World} {B : Nat} {ad : Addr} {n k : Nat} {us : List Value} (h : Reads w B 1 (some ad) n us) (hk : k ≤ n) (hn : 0 < n) : Reads w B 1 (some (ad.add k)) (n - k) (us.drop k) := by
  refine ⟨by have := h.1; rw [List.length_drop]; omega, fun h0 => ?_⟩
  obtain ⟨ad', hA, hlt, hc⟩ := h.2 hn
  injection hA with hA
  subst hA
  exact ⟨_, rfl, by rw [block_of_add]; exact hlt, fun j u hj => by
    rw [add_of_add]
    exact hc _ u (by rwa [List.getElem?_drop] at hj)⟩

set_option maxRecDepth 100000 in
set_option maxHeartbeats 1600000 in
theorem removeAt_any (i : Value) (r q k x : Nat) (xs : List Nat) (w : World) (h : AR w r xs) (hx : xs.length ≤ 500) (hk : k < xs.length) (hxk : floatOfInt .f64 (k : Int) = x) (hq : w.cell? ⟨q, 0, none⟩ = some (.float .f64 x)) :
    Calls Try.prog 17 #[i, .iface 40 (.pointer (some ⟨r, 0, none⟩)), .iface 68 (.pointer (some ⟨q, 0, none⟩))] w fun e w' => ∃ r', e = .returned (.tuple #[.iface 40 (.pointer (some ⟨r', 0, none⟩)), .nilIface]) ∧ AR w' r' (xs.take k ++ xs.drop (k + 1)) ∧ Below w.heap.size w w' := by
  obtain ⟨iP, hiP, hzP0, hzP1, hzP2⟩ := info_parts infoP
  have G := Lib.hid (fun i => getInt_any i q k x w (by omega) hxk hq)
  obtain ⟨A, n, c, hc1, hnl, hnc, hcm, hr1, us, hus, hth⟩ := h
  have hn5 : n ≤ 500 := by omega
  have hkn : k < n := by omega
  obtain ⟨ad, _, hA, _⟩ := hus.at_ hkn
  subst hA
  have HUS := Lib.hid hus
  have HTH := Lib.hid hth
  have HNL := Lib.hid hnl
  have HC1 := Lib.hid hc1
  clear hus hth hnl hxk hq
  rcases (show k + 1 < c ∨ c = k + 1 by omega) with hkc | hkc
  · go_enter Try.func17, Try.ntmps17
    go_wp2_with fail
    refine (getArray_any _ _ _).mono ?_
    rintro e w1 ⟨rfl, rfl⟩
    clear hc1
    go_wp2_with fail
    refine (G.out _).mono ?_
    rintro e w1 ⟨rfl, hb1⟩
    have hd1 := (hb1.cell (p := ⟨r, 0, none⟩) hr1).trans HC1.out
    have HB1 := Lib.hid hb1
    have hcc : c ≤ 9223372036854775807 := by unfold maxLen at hcm; omega
    clear hb1
    have hb2 : ∀ A2 c2 w2, Appended w1 w2 w.heap.size 76 1 (.slice none 0 0) A2 k c2 (us.take k) → Below w.heap.size w w2 := fun _ _ _ hap => HB1.out.grown hap.grown HB1.out.size (fun g hg => by simp [Value.ownBlock] at hg)
    have HB := Lib.hid hb2
    clear hb2
    go_wp2_with (first
      | (refine wpList_append_any _ (by rfl) (.tmp 30) (.tmp 36) 73 (by rfl) w.heap.size 76 iP (.pointer none) 1 8 Try.underlying73 hiP hzP0 hzP1 hzP2 rfl (Nat.lt_add_one 0) (.slice none 0 0) 0 [] (by rfl) (World.ownsRow_nil _ _ _ _) w.heap.size (some ad) k c (us.take k) (by rfl) (Reads.cutTo (HUS.out.keep fun p hp => HB1.out.cell hp) (Nat.le_of_lt hkn)) (Ths.cell1 (HTH.out.take k)) ?_ ?_ HB1.out.size k ?_ (us.take k) ?_ ?_
         · (unfold maxLen; omega)
         · omega
         · omega
         · rfl
         intro A2 c2 w2 hap
         have hd2 := (Below.cell (HB.out _ _ _ hap) (p := ⟨r, 0, none⟩) hr1).trans HC1.out
         have HA2 := Lib.hid hap
         clear hap)
      | (refine wpList_append_any _ (by rfl) (.tmp 38) (.tmp 45) 73 (by rfl) w.heap.size 76 iP (.pointer none) 1 8 Try.underlying73 hiP hzP0 hzP1 hzP2 rfl (Nat.lt_add_one 0) (.slice A2 k c2) k (us.take k) (by rfl) HA2.out.own w.heap.size (some (ad.add (k + 1))) (n - (k + 1)) (c - (k + 1)) (us.drop (k + 1)) (by rfl) (Reads.cutFrom (HUS.out.keep fun p hp => (HB.out _ _ _ HA2.out).cell hp) hkn (by omega)) (Ths.cell1 (HTH.out.drop (k + 1))) ?_ ?_ (HB.out _ _ _ HA2.out).size (n - 1) ?_ (us.take k ++ us.drop (k + 1)) ?_ ?_
         · (unfold maxLen; omega)
         · omega
         · omega
         · rfl
         intro A3 c3 w3 hap3
         have HA3 := Lib.hid hap3
         clear hap3))
    have hap2 := HA2.out
    have hap3 := HA3.out
    have hb2 := HB.out _ _ _ hap2
    have hth1 := HTH.out.below HB1.out
    have hno : RowOrNone w1 (Value.slice none 0 0).ownBlock := fun g hg => by simp [Value.ownBlock] at hg
    have hth2 := (hth1.take k).grown hap2.grown hno
    have hvh2 := (hth1.drop (k + 1)).grown hap2.grown hno
    have hb3 := hb2.grown hap3.grown hb2.size (fun g hg => (hap2.own.lt g hg).1)
    have hth3 := (hth2.app hvh2).grown hap3.grown (own_row hap2.own)
    have hcap := own_cap hap3.own
    have hsl := Lib.hid (show SL w3 A3 (n - 1) (xs.take k ++ xs.drop (k + 1)) from ⟨_, Reads.of_own hap3.own, hth3⟩)
    have HCAP := Lib.hid hcap
    have HB3 := Lib.hid hb3
    clear hap2 hap3 hb2 hth1 hno hth2 hvh2 hb3 hth3 hcap hiP hzP0 hzP1 hzP2
    refine (mkArr_any A3 (n - 1) c3 _ w3 hsl.out (by rw [List.length_append, List.length_take, List.length_drop, ← HNL.out]; omega) HCAP.out.1 HCAP.out.2 (by omega)).mono ?_
    rintro e w4 ⟨r', rfl, har, hb4⟩
    have X1 := Lib.hid har
    have X2 := Lib.hid (HB3.out.trans (hb4.mono HB3.out.size))
    clear har hb4
    go_wp2_with fail
    go_ret2
    exact ⟨r', rfl, X1.out, X2.out⟩
  · subst hkc
    rw [show xs.drop (k + 1) = [] from List.drop_eq_nil_of_le (by rw [← HNL.out]; omega), List.append_nil]
    go_enter Try.func17, Try.ntmps17
    go_wp2_with fail
    refine (getArray_any _ _ _).mono ?_
    rintro e w1 ⟨rfl, rfl⟩
    clear hc1
    go_wp2_with fail
    refine (G.out _).mono ?_
    rintro e w1 ⟨rfl, hb1⟩
    have hd1 := (hb1.cell (p := ⟨r, 0, none⟩) hr1).trans HC1.out
    have HB1 := Lib.hid hb1
    have hcc : k + 1 ≤ 9223372036854775807 := by unfold maxLen at hcm; omega
    clear hb1
    have hb2 : ∀ A2 c2 w2, Appended w1 w2 w.heap.size 76 1 (.slice none 0 0) A2 k c2 (us.take k) → Below w.heap.size w w2 := fun _ _ _ hap => HB1.out.grown hap.grown HB1.out.size (fun g hg => by simp [Value.ownBlock] at hg)
    have HB := Lib.hid hb2
    clear hb2
    go_wp2_with (first
      | (refine wpList_append_any _ (by rfl) (.tmp 30) (.tmp 36) 73 (by rfl) w.heap.size 76 iP (.pointer none) 1 8 Try.underlying73 hiP hzP0 hzP1 hzP2 rfl (Nat.lt_add_one 0) (.slice none 0 0) 0 [] (by rfl) (World.ownsRow_nil _ _ _ _) w.heap.size (some ad) k (k + 1) (us.take k) (by rfl) (Reads.cutTo (HUS.out.keep fun p hp => HB1.out.cell hp) (Nat.le_of_lt hkn)) (Ths.cell1 (HTH.out.take k)) ?_ ?_ HB1.out.size k ?_ (us.take k) ?_ ?_
         · (unfold maxLen; omega)
         · omega
         · omega
         · rfl
         intro A2 c2 w2 hap
         have hd2 := (Below.cell (HB.out _ _ _ hap) (p := ⟨r, 0, none⟩) hr1).trans HC1.out
         have HA2 := Lib.hid hap
         clear hap)
      | (refine wpList_append_any _ (by rfl) (.tmp 38) (.tmp 45) 73 (by rfl) w.heap.size 76 iP (.pointer none) 1 8 Try.underlying73 hiP hzP0 hzP1 hzP2 rfl (Nat.lt_add_one 0) (.slice A2 k c2) k (us.take k) (by rfl) HA2.out.own w.heap.size (some ad) 0 0 [] (by rfl) ⟨rfl, fun h0 => absurd h0 (by omega)⟩ (by simp) ?_ ?_ (HB.out _ _ _ HA2.out).size k ?_ (us.take k) ?_ ?_
         · (unfold maxLen; omega)
         · omega
         · rfl
         · simp
         intro A3 c3 w3 hap3
         have HA3 := Lib.hid hap3
         clear hap3))
    have hap2 := HA2.out
    have hap3 := HA3.out
    have hb2 := HB.out _ _ _ hap2
    have hth1 := HTH.out.below HB1.out
    have hno : RowOrNone w1 (Value.slice none 0 0).ownBlock := fun g hg => by simp [Value.ownBlock] at hg
    have hth2 := (hth1.take k).grown hap2.grown hno
    have hb3 := hb2.grown hap3.grown hb2.size (fun g hg => (hap2.own.lt g hg).1)
    have hth3 := hth2.grown hap3.grown (own_row hap2.own)
    have hcap := own_cap hap3.own
    have hsl := Lib.hid (show SL w3 A3 k (xs.take k) from ⟨_, Reads.of_own hap3.own, hth3⟩)
    have HCAP := Lib.hid hcap
    have HB3 := Lib.hid hb3
    clear hap2 hap3 hb2 hth1 hno hth2 hb3 hth3 hcap hiP hzP0 hzP1 hzP2
    refine (mkArr_any A3 k c3 _ w3 hsl.out (by rw [List.length_take, ← HNL.out]; omega) HCAP.out.1 HCAP.out.2 (by omega)).mono ?_
    rintro e w4 ⟨r', rfl, har, hb4⟩
    have X1 := Lib.hid har
    have X2 := Lib.hid (HB3.out.trans (hb4.mono HB3.out.size))
    clear har hb4
    go_wp2_with fail
    go_ret2
    exact ⟨r', rfl, X1.out, X2.out⟩

theorem intVal_any (k x : Nat) (w : World) (hx : floatOfInt .f64 (k : Int) = x) :
    Calls Try.prog 18 #[.int .i64 k] w fun e w' => e = .returned (.pointer (some ⟨w.heap.size, 0, none⟩)) ∧ w' = w.alloc (numObj x) := by
  go_enter Try.func18, Try.ntmps18
  go_wp2_with fail
  refine (makeNum_any x _).mono ?_
  rintro e w1 ⟨rfl, rfl⟩
  go_wp2_with fail
  go_ret
  exact ⟨rfl, rfl⟩

theorem listed_any (A : Option Addr) (n c : Nat) (w : World) :
    Calls Try.prog 9 #[.slice A n c, .nilIface] w fun e w' => e = .returned (.tuple #[.slice A n c, .bool true]) ∧ w = w' := by
  go_enter Try.func9, Try.ntmps9
  go_wp2
  go_ret2
  exact ⟨rfl, rfl⟩

/-- What a door hands back. -/
def Row (w : World) (xs : List Nat) (e : Ending) (w' : World) : Prop := ∃ A n c, e = .returned (.tuple #[.slice A n c, .bool true]) ∧ n = xs.length ∧ NumsAt w' A n xs ∧ Below w.heap.size w w'
def RowE (w : World) (xs : List Nat) (e : Ending) (w' : World) : Prop := ∃ A n c, e = .returned (.tuple #[.slice A n c, .nilIface]) ∧ n = xs.length ∧ NumsAt w' A n xs ∧ Below w.heap.size w w'

set_option maxRecDepth 100000 in
theorem partAdded_any (A B : Option Addr) (n m c d : Nat) (xs ys : List Nat) (w : World) (hx : NumsAt w A n xs) (hy : NumsAt w B m ys) (hn : n ≤ 400) (hm : m ≤ 400) :
    Calls Try.prog 10 #[.slice A n c, .slice B m d] w (RowE w (xs ++ ys)) := by
  have hxl := hx.len
  have hyl := hy.len
  have HX := Lib.hid hx
  have HY := Lib.hid hy
  clear hx hy
  go_enter Try.func10, Try.ntmps10
  go_wp2_with fail
  refine (nums_any A n c xs w HX.out (by omega)).mono ?_
  rintro e w1 ⟨r1, rfl, ha1, hb1⟩
  have HA1 := Lib.hid ha1
  have HB1 := Lib.hid hb1
  clear ha1 hb1
  go_wp2_with fail
  refine (nums_any B m d ys w1 (HY.out.below HB1.out) (by omega)).mono ?_
  rintro e w2 ⟨r2, rfl, ha2, hb2⟩
  have HA2 := Lib.hid ha2
  have HA1' := Lib.hid (HA1.out.below hb2)
  have HB2 := Lib.hid (HB1.out.trans (hb2.mono HB1.out.size))
  clear ha2 hb2
  go_wp2_with fail
  refine (concat_any r1 r2 xs ys w2 HA1'.out HA2.out (by omega) (by omega)).mono ?_
  rintro e w3 ⟨r3, rfl, ha3, hb3⟩
  have HA3 := Lib.hid ha3
  have HB3 := Lib.hid (HB2.out.trans (hb3.mono HB2.out.size))
  clear ha3 hb3
  go_wp2_with fail
  refine (numsOf_any r3 (xs ++ ys) w3 HA3.out (by rw [List.length_append]; omega)).mono ?_
  rintro e w4 ⟨A4, n4, c4, rfl, hn4, h4, hb4⟩
  have HN4 := Lib.hid hn4
  have H4 := Lib.hid h4
  have HB4 := Lib.hid (HB3.out.trans (hb4.mono HB3.out.size))
  clear hn4 h4 hb4
  go_wp2_with fail
  go_ret2
  exact ⟨A4, n4, c4, rfl, HN4.out, H4.out, HB4.out⟩

set_option maxRecDepth 100000 in
theorem added_any (A B : Option Addr) (n m c d : Nat) (xs ys : List Nat) (w : World) (hx : NumsAt w A n xs) (hy : NumsAt w B m ys) (hn : n ≤ 400) (hm : m ≤ 400) :
    Calls Try.prog 5 #[.slice A n c, .slice B m d] w (Row w (xs ++ ys)) := by
  have C := Lib.hid (partAdded_any A B n m c d xs ys w hx hy hn hm)
  clear hx hy
  go_enter Try.func5, Try.ntmps5
  go_wp2_with fail
  refine C.out.mono ?_
  rintro e w4 ⟨A4, n4, c4, rfl, hn4, h4, hb4⟩
  have HN4 := Lib.hid hn4
  have H4 := Lib.hid h4
  have HB4 := Lib.hid hb4
  clear hn4 h4 hb4
  go_wp2_with fail
  refine (listed_any _ _ _ _).mono ?_
  rintro e w5 ⟨rfl, rfl⟩
  go_wp2_with fail
  go_ret2
  exact ⟨A4, n4, c4, rfl, HN4.out, H4.out, HB4.out⟩

set_option maxRecDepth 100000 in
theorem partRemoveAt_any (A : Option Addr) (n c k : Nat) (xs : List Nat) (w : World) (hx : NumsAt w A n xs) (hn : n ≤ 500) (hk : k < n) :
    Calls Try.prog 11 #[.slice A n c, .int .i64 k] w (RowE w (xs.take k ++ xs.drop (k + 1))) := by
  have hxl := hx.len
  have HX := Lib.hid hx
  obtain ⟨x, hxk⟩ : ∃ x, floatOfInt .f64 (k : Int) = x := ⟨_, rfl⟩
  have HK := Lib.hid hxk
  clear hx hxk
  go_enter Try.func11, Try.ntmps11
  go_wp2_with fail
  refine (nums_any A n c xs _ (HX.out.below ((Below.refl _ _).alloc (Nat.le_refl _) _)) (by omega)).mono ?_
  rintro e w1 ⟨r1, rfl, ha1, hb1⟩
  have HA1 := Lib.hid ha1
  have HB1 := Lib.hid (((Below.refl w.heap.size w).alloc (Nat.le_refl _) _).trans (hb1.mono (by simp)))
  clear ha1 hb1
  go_wp2_with fail
  refine (intVal_any k x w1 HK.out).mono ?_
  rintro e w2 ⟨rfl, rfl⟩
  have hbq := (Below.refl w1.heap.size w1).alloc (Nat.le_refl _) (numObj x)
  have HA2 := Lib.hid (HA1.out.below hbq)
  have HB2 := Lib.hid (HB1.out.alloc HB1.out.size (numObj x))
  have HQ := Lib.hid (show (w1.alloc (numObj x)).cell? ⟨w1.heap.size, 0, none⟩ = some (.float .f64 x) by
    rw [cell_of_row _ w1.heap.size 0 _ _ (0, 0) (heap_alloc_new w1 (numObj x))]; rfl)
  clear hbq
  obtain ⟨w2, hw2⟩ : ∃ w2, w1.alloc (numObj x) = w2 := ⟨_, rfl⟩
  rw [hw2] at HA2 HB2 HQ ⊢
  clear hw2
  go_wp2_with fail
  refine (removeAt_any _ r1 w1.heap.size k x xs w2 HA2.out (by omega) (by omega) HK.out HQ.out).mono ?_
  rintro e w3 ⟨r3, rfl, ha3, hb3⟩
  have HA3 := Lib.hid ha3
  have HB3 := Lib.hid (HB2.out.trans (hb3.mono HB2.out.size))
  clear ha3 hb3
  go_wp2_with fail
  refine (numsOf_any r3 _ w3 HA3.out (by rw [List.length_append, List.length_take, List.length_drop]; omega)).mono ?_
  rintro e w4 ⟨A4, n4, c4, rfl, hn4, h4, hb4⟩
  have HN4 := Lib.hid hn4
  have H4 := Lib.hid h4
  have HB4 := Lib.hid (HB3.out.trans (hb4.mono HB3.out.size))
  clear hn4 h4 hb4
  go_wp2_with fail
  go_ret2
  exact ⟨A4, n4, c4, rfl, HN4.out, H4.out, HB4.out⟩

set_option maxRecDepth 100000 in
theorem removed_any (A : Option Addr) (n c k : Nat) (xs : List Nat) (w : World) (hx : NumsAt w A n xs) (hn : n ≤ 500) (hk : k < n) :
    Calls Try.prog 6 #[.slice A n c, .int .i64 k] w (Row w (xs.take k ++ xs.drop (k + 1))) := by
  have C := Lib.hid (partRemoveAt_any A n c k xs w hx hn hk)
  clear hx
  go_enter Try.func6, Try.ntmps6
  go_wp2_with fail
  refine C.out.mono ?_
  rintro e w4 ⟨A4, n4, c4, rfl, hn4, h4, hb4⟩
  have HN4 := Lib.hid hn4
  have H4 := Lib.hid h4
  have HB4 := Lib.hid hb4
  clear hn4 h4 hb4
  go_wp2_with fail
  refine (listed_any _ _ _ _).mono ?_
  rintro e w5 ⟨rfl, rfl⟩
  go_wp2_with fail
  go_ret2
  exact ⟨A4, n4, c4, rfl, HN4.out, H4.out, HB4.out⟩
end Go.Proofs.Ytchigdiclcgkbaa
