/- Contracts of nums and numsOf: numbers into an array, and out of it. -/
import Derived.Test.YtchigdiclcgkbaaThunk
namespace Go.Proofs.Ytchigdiclcgkbaa
open Go.RowKit
attribute [local go_sem] as_num as_num1 as_arr as_arr1

theorem floats_cell (xs : List Nat) : ∀ u ∈ xs.map (Value.float .f64), u.oneCell' = true := by
  intro u hu
  obtain ⟨x, _, rfl⟩ := List.mem_map.1 hu
  rfl
theorem take_snocN (xs : List Nat) (k : Nat) {x : Nat} (h : xs[k]? = some x) : xs.take (k + 1) = xs.take k ++ [x] := by
  obtain ⟨hl, he⟩ := List.getElem?_eq_some_iff.1 h
  rw [List.take_succ_eq_append_getElem hl, he]

set_option maxRecDepth 100000 in
set_option maxHeartbeats 1600000 in
theorem nums_any (A : Option Addr) (n c : Nat) (xs : List Nat) (w : World) (h : NumsAt w A n xs) (hn : n ≤ 1000) :
    Calls Try.prog 16 #[.slice A n c] w fun e w' => ∃ r, e = .returned (.pointer (some ⟨r, 0, none⟩)) ∧ AR w' r xs ∧ Below w.heap.size w w' := by
  obtain ⟨iP, hiP, hzP0, hzP1, hzP2⟩ := info_parts infoP
  have H := Lib.hid h
  clear h
  go_enter Try.func16, Try.ntmps16
  go_wp2_with fail
  go_loopw [3, 8] (fun v i wr => ∃ (k : Nat) (A' : Option Addr) (c' : Nat) (us : List Value), k ≤ n ∧ i = .int .i64 k ∧ v = .slice A' k c' ∧ wr.ownsRow w.heap.size 76 1 (.slice A' k c') k us ∧ Ths wr us (xs.take k) ∧ Below w.heap.size w wr) (fun _ i _ => n - (intOf i).toNat)
  case atStart => exact ⟨0, none, 0, [], Nat.zero_le _, rfl, rfl, World.ownsRow_nil _ _ _ _, by simpa using Ths.nil w, Below.refl _ _⟩
  case round =>
    obtain ⟨k, A', c', us, hk, rfl, rfl, hrow, hth, hb⟩ := hrel
    have HR := Lib.hid hrow
    have HT := Lib.hid hth
    have HB := Lib.hid hb
    have hsz := hb.size
    clear hrow hth
    by_cases hlt : k < n
    · obtain ⟨ad, x, hA, hxk, hcx, _⟩ := (H.out.below hb).at_ hlt
      subst hA
      have HX := Lib.hid hxk
      clear hxk hb
      go_wp2_with fail
      refine (num_any x wr).mono ?_
      rintro e w1 ⟨rfl, rfl⟩
      unfold numV
      go_wp2_with fail
      refine (ready_any _ _ _).mono ?_
      rintro e w1 ⟨rfl, rfl⟩
      have hT1 : TH (((wr.alloc (numObj x)).alloc (thunkObj (numV wr.heap.size))).alloc (.cells #[.pointer (some ⟨wr.heap.size + 1, 0, none⟩)] 76)) (.pointer (some ⟨wr.heap.size + 1, 0, none⟩)) x := by
        refine ⟨wr.heap.size + 1, wr.heap.size, rfl, ?_, ?_⟩
        · rw [Below.heap_alloc _ _ _ (by simp)]
          have := heap_alloc_new (wr.alloc (numObj x)) (thunkObj (numV wr.heap.size))
          simpa [thunkObj] using this
        · rw [Below.heap_alloc _ _ _ (by simp; omega), Below.heap_alloc _ _ _ (by simp)]
          exact heap_alloc_new wr (numObj x)
      have hb3 : Below wr.heap.size wr (((wr.alloc (numObj x)).alloc (thunkObj (numV wr.heap.size))).alloc (.cells #[.pointer (some ⟨wr.heap.size + 1, 0, none⟩)] 76)) := (((Below.refl _ _).alloc (Nat.le_refl _) _).alloc (by simp) _).alloc (by simp; omega) _
      have hrow3 : (((wr.alloc (numObj x)).alloc (thunkObj (numV wr.heap.size))).alloc (.cells #[.pointer (some ⟨wr.heap.size + 1, 0, none⟩)] 76)).ownsRow w.heap.size 76 1 (.slice A' k c') k us := ((HR.out.alloc _).alloc _).alloc _
      have hblk : Reads (((wr.alloc (numObj x)).alloc (thunkObj (numV wr.heap.size))).alloc (.cells #[.pointer (some ⟨wr.heap.size + 1, 0, none⟩)] 76)) (wr.heap.size + 3) 1 (some ⟨wr.heap.size + 2, 0, none⟩) 1 [.pointer (some ⟨wr.heap.size + 1, 0, none⟩)] := by
        have h1 := heap_alloc_new ((wr.alloc (numObj x)).alloc (thunkObj (numV wr.heap.size))) (.cells #[.pointer (some ⟨wr.heap.size + 1, 0, none⟩)] 76)
        have h2 : ((wr.alloc (numObj x)).alloc (thunkObj (numV wr.heap.size))).heap.size = wr.heap.size + 2 := by simp
        rw [h2] at h1
        exact Reads.of_block h1 rfl
      have H4 := Lib.hid hblk
      have H1 := Lib.hid hT1
      have H3 := Lib.hid hb3
      have HR3 := Lib.hid hrow3
      clear hT1 hb3 hrow3 hblk
      unfold numV at H1 H3 HR3 H4
      go_wp2_with
        (refine wpList_append_any _ (by rfl) (.tmp 12) (.tmp 16) 73 (by rfl) w.heap.size 76 iP (.pointer none) 1 8 Try.underlying73 hiP hzP0 hzP1 hzP2 rfl (Nat.lt_add_one 0) (.slice A' k c') k us (by rfl) HR3.out (wr.heap.size + 3) (some ⟨wr.heap.size + 2, 0, none⟩) 1 1 [.pointer (some ⟨wr.heap.size + 1, 0, none⟩)] (by rfl) ?_ ?_ ?_ ?_ ?_ (k + 1) ?_ (us ++ [.pointer (some ⟨wr.heap.size + 1, 0, none⟩)]) ?_ ?_
         · exact H4.out
         · simp [Value.oneCell']
         · (unfold maxLen; omega)
         · omega
         · (simp; omega)
         · rfl
         · rfl
         intro A2 c2 w2 hap)
      have hth2 := ((HT.out.below H3.out).app (Ths.one H1.out)).grown hap.grown (own_row HR3.out)
      have hb2 := ((HB.out.trans (H3.out.mono hsz))).grown hap.grown (by simp; omega) (fun g hg => (HR3.out.lt g hg).1)
      have hown2 := hap.own
      rw [← take_snocN xs k HX.out] at hth2
      have X1 := Lib.hid hth2
      have X2 := Lib.hid hb2
      have X3 := Lib.hid hown2
      clear hap hth2 hb2 hown2
      go_wp2_with fail
      go_roundw
      case rel => exact ⟨k + 1, A2, c2, _, by omega, by go_num, rfl, X3.out, X1.out, X2.out⟩
      case measure => simp [intOf]; omega
    · obtain rfl : k = n := by omega
      have hlen := H.out.len
      have hall : xs.take k = xs := List.take_of_length_le (by omega)
      rw [hall] at HT
      have hcap : k ≤ c' ∧ c' ≤ maxLen := by
        rcases HR.out.2 with ⟨he, h0⟩ | ⟨g, cap, cur, he, _, _, h1, h2, _⟩
        · injection he with _ _ h3
          subst h0 h3
          exact ⟨Nat.le_refl _, Nat.zero_le _⟩
        · injection he with _ _ h3
          subst h3
          exact ⟨h1, h2⟩
      have HCAP := Lib.hid hcap
      clear hb hcap hiP hzP0 hzP1 hzP2
      go_wp2_with fail
      refine (mkArr_any A' k c' xs wr ⟨us, Reads.of_own HR.out, HT.out⟩ hlen.symm HCAP.out.1 HCAP.out.2 hn).mono ?_
      rintro e w2 ⟨r, rfl, har, hb2⟩
      have X1 := Lib.hid har
      have X2 := Lib.hid (HB.out.trans (hb2.mono hsz))
      clear har hb2
      go_wp2_with fail
      go_ret
      exact ⟨r, rfl, X1.out, X2.out⟩

set_option maxRecDepth 100000 in
set_option maxHeartbeats 1600000 in
theorem numsOf_any (r : Nat) (xs : List Nat) (w : World) (h : AR w r xs) (hn : xs.length ≤ 1000) :
    Calls Try.prog 14 #[.iface 40 (.pointer (some ⟨r, 0, none⟩)), .nilIface] w fun e w' => ∃ A n c, e = .returned (.tuple #[.slice A n c, .nilIface]) ∧ n = xs.length ∧ NumsAt w' A n xs ∧ Below w.heap.size w w' := by
  obtain ⟨iN, hiN, hzN0, hzN1, hzN2⟩ := info_parts infoN
  obtain ⟨A, n, c, hc0, hnl, _, _, _, us, hus, hth⟩ := h
  have HU := Lib.hid hus
  have HT := Lib.hid hth
  have HN := Lib.hid hnl
  have hn1 : n ≤ 1000 := by omega
  clear hus hth hnl
  go_enter Try.func14, Try.ntmps14
  go_wp2_with fail
  clear hc0
  go_loopw [6, 18] (fun v i wr => ∃ (k : Nat) (A' : Option Addr) (c' : Nat), k ≤ n ∧ i = .int .i64 k ∧ v = .slice A' k c' ∧ wr.ownsRow w.heap.size 31 1 (.slice A' k c') k ((xs.take k).map (.float .f64)) ∧ Below w.heap.size w wr) (fun _ i _ => n - (intOf i).toNat)
  case atStart => exact ⟨0, none, 0, Nat.zero_le _, rfl, rfl, World.ownsRow_nil _ _ _ _, Below.refl _ _⟩
  case round =>
    obtain ⟨k, A', c', hk, rfl, rfl, hrow, hb⟩ := hrel
    have HR := Lib.hid hrow
    have HB := Lib.hid hb
    have hsz := hb.size
    clear hrow
    by_cases hlt : k < n
    · obtain ⟨ad, u, hA, hadb, hu, hcu⟩ := HU.out.at_ hlt
      subst hA
      obtain ⟨x, hx⟩ : ∃ x, xs[k]? = some x := ⟨_, List.getElem?_eq_getElem (by have := HN.out; omega)⟩
      obtain ⟨t, q, rfl, ht, hq⟩ := HT.out.2 k u x hu hx
      have g0 : wr.cell? (ad.add k) = some (.pointer (some ⟨t, 0, none⟩)) := (hb.cell (p := ad.add k) (by rw [block_of_add]; exact hadb)).trans hcu
      have g1 : wr.cell? ⟨t, 2, none⟩ = some (.iface 68 (.pointer (some ⟨q, 0, none⟩))) := by
        rw [cell_of_row wr t 2 _ _ (0, 0) ((hb.block t (Array.getElem?_eq_some_iff.1 ht).1).trans ht)]; rfl
      have g2 : wr.cell? ⟨q, 0, none⟩ = some (.float .f64 x) := by
        rw [cell_of_row wr q 0 _ _ (0, 0) ((hb.block q (Array.getElem?_eq_some_iff.1 hq).1).trans hq)]; rfl
      have HX := Lib.hid hx
      clear hu hcu ht hq hx hb
      go_wp2_with
        (refine wpList_append_any _ (by rfl) (.tmp 22) (.tmp 31) 22 (by rfl) w.heap.size 31 iN (.float .f64 0) 1 8 Try.underlying22 hiN hzN0 hzN1 hzN2 rfl (Nat.lt_add_one 0) (.slice A' k c') k ((xs.take k).map (.float .f64)) (by rfl) (HR.out.alloc _) (wr.heap.size + 1) (some ⟨wr.heap.size, 0, none⟩) 1 1 ([x].map (.float .f64)) (by rfl) ?_ (floats_cell _) ?_ ?_ ?_ (k + 1) ?_ ((xs.take (k + 1)).map (.float .f64)) ?_ ?_
         · exact Reads.of_block (heap_alloc_new wr _) rfl
         · (unfold maxLen; omega)
         · omega
         · (simp; omega)
         · rfl
         · (rw [take_snocN xs k HX.out]; simp)
         intro A2 c2 w2 hap)
      have hb2 := (HB.out.alloc hsz _).grown hap.grown (by simp; omega) (fun g hg => (HR.out.lt g hg).1)
      have X2 := Lib.hid hb2
      have X3 := Lib.hid hap.own
      clear hap hb2
      go_wp2_with fail
      go_roundw
      case rel => exact ⟨k + 1, A2, c2, by omega, by go_num, rfl, X3.out, X2.out⟩
      case measure => simp [intOf]; omega
    · obtain rfl : k = n := by omega
      have hlen := HN.out
      have hall : xs.take k = xs := List.take_of_length_le (by omega)
      rw [hall] at HR
      clear hiN hzN0 hzN1 hzN2 hall hlen hb
      go_wp2_with fail
      go_ret2
      exact ⟨A', k, c', rfl, HN.out, Reads.of_own HR.out, HB.out⟩
end Go.Proofs.Ytchigdiclcgkbaa
