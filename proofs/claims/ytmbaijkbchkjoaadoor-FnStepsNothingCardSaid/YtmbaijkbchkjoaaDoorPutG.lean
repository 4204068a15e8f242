/- (printed by genput.py) laws.put7: a step put among steps. -/
import Derived.Test.YtmbaijkbchkjoaaDoorImplC
import Derived.Deep.RegionHeld3
import Derived.Deep.DrawnRows
namespace Go.Proofs.YtmbaijkbchkjoaaDoor
open Go.RowKit Go.Maps

theorem infoS : (Tryd.prog.info? 29).map (fun i => (i.zero, i.size, i.bytes)) = some (some (.agg #[.bool false, .string ⟨#[]⟩, .slice none 0 0, .slice none 0 0]), 4, 72) := by kernel_rfl
theorem cells_one {els : List St} : ∀ u ∈ els.flatMap St.cells, u.oneCell' = true := by
  intro u hu
  obtain ⟨e, _, he⟩ := List.mem_flatMap.1 hu
  simp only [St.cells, List.mem_cons, List.not_mem_nil, or_false] at he
  rcases he with rfl | rfl | rfl | rfl <;> rfl
theorem flat_take (els : List St) : ∀ k, (els.take k).flatMap St.cells = (els.flatMap St.cells).take (k * 4) := by
  induction els with
  | nil => simp
  | cons e es ih =>
    intro k
    cases k with
    | zero => simp
    | succ k =>
      have : (k + 1) * 4 = e.cells.length + k * 4 := by simp [four]; omega
      rw [List.take_succ_cons, List.flatMap_cons, List.flatMap_cons, this, List.take_length_add_append, ih]
theorem flat_drop (els : List St) : ∀ k, (els.drop k).flatMap St.cells = (els.flatMap St.cells).drop (k * 4) := by
  induction els with
  | nil => simp
  | cons e es ih =>
    intro k
    cases k with
    | zero => simp
    | succ k =>
      have : (k + 1) * 4 = e.cells.length + k * 4 := by simp [four]; omega
      rw [List.drop_succ_cons, List.flatMap_cons, this, List.drop_length_add_append, ih]

attribute [local go_sem ↓] Go.wp_at_zero Go.wp_at_succ
set_option maxRecDepth 100000 in
set_option maxHeartbeats 3200000 in
theorem put7_any (A M : Option Addr) (n c k mc : Nat) (els : List St) (x : St) (w : World) (h : StsAt w w.heap.size A n els) (hx : StsAt w w.heap.size M 1 [x]) (hk : k ≤ n) (hnc : n ≤ c) (hc : c ≤ maxLen) (hn : n ≤ 12) :
    Calls Tryd.prog 7 #[.slice A n c, .int .i64 k, .slice M 1 mc] w fun e w' => ∃ A' c', e = .returned (.slice A' (n + 1) c') ∧ StsAt w' w'.heap.size A' (n + 1) (els.take k ++ x :: els.drop k) ∧ Below w.heap.size w w' := by
  obtain ⟨iS, hiS, hzS0, hzS1, hzS2⟩ := info_parts infoS
  have HO : Hid ((w.alloc (.cells #[] 29)).ownsRow w.heap.size 29 4 (.slice (some ⟨w.heap.size, 0, none⟩) 0 0) 0 []) := by
    have := World.ownsRow_made (base := w.heap.size) (e := 29) (size := 4) w #[] 0 (by simp) (by simp [maxLen]) rfl
    show World.ownsRow _ _ _ _ _ _ _
    simpa using this
  have HR1 := Lib.hid ((h.1.take hk).alloc (Nat.le_refl _) (.cells #[] 29))
  have HCUT := Lib.hid (h.1.cut (cap := c) hk hnc)
  have HXR : Hid (Reads w w.heap.size 4 M 1 x.cells) := by
    have := hx.1
    show Reads _ _ _ _ _ _
    simpa using this
  have HT1 := Lib.hid (show ∀ u ∈ (els.flatMap St.cells).take (k * 4), u.oneCell' = true from fun u hu => cells_one u (List.mem_of_mem_take hu))
  have HT2 := Lib.hid (show ∀ u ∈ x.cells, u.oneCell' = true from fun u hu => cells_one (els := [x]) u (by simpa using hu))
  have HT3 := Lib.hid (show ∀ u ∈ (els.flatMap St.cells).drop (k * 4), u.oneCell' = true from fun u hu => cells_one u (List.mem_of_mem_drop hu))
  have HFL : Hid ((els.flatMap St.cells).take (k * 4) ++ x.cells ++ (els.flatMap St.cells).drop (k * 4) = (els.take k ++ x :: els.drop k).flatMap St.cells) := by
    show _ = _
    rw [List.flatMap_append, List.flatMap_cons, flat_take, flat_drop, List.append_assoc]
  have HLEN : Hid ((els.take k ++ x :: els.drop k).length = n + 1) := by
    show _ = _
    have := h.2.1
    simp
    omega
  have HOKS : Hid (∀ {w' : World}, Below w.heap.size w w' → ∀ e ∈ els.take k ++ x :: els.drop k, e.OK w' w'.heap.size) := by
    intro w' hb e he
    rcases List.mem_append.1 he with he | he
    · exact (h.2.2 e (List.mem_of_mem_take he)).carry hb
    · rcases List.mem_cons.1 he with rfl | he
      · exact (hx.2.2 e (by simp)).carry hb
      · exact (h.2.2 e (List.mem_of_mem_drop he)).carry hb
  clear h hx
  have k0 : (0 : Int) ≤ (k : Int) := by omega
  have k1 : (k : Int) ≤ (c : Int) := by omega
  have k2 : (k : Int) ≤ (n : Int) := by omega
  have k3 : (n : Int) ≤ (c : Int) := by omega
  go_enter Tryd.func7, Tryd.ntmps7
  rcases A with _ | ad
  · go_wp2_with
      (refine wpList_append_any _ (by rfl) (.tmp 8) (.tmp 11) 22 (by rfl) w.heap.size 29 iS (.agg #[.bool false, .string ⟨#[]⟩, .slice none 0 0, .slice none 0 0]) 4 72 Tryd.underlying22 hiS hzS0 hzS1 hzS2 rfl (by omega) (.slice (some ⟨w.heap.size, 0, none⟩) 0 0) 0 [] (by rfl) ?_ w.heap.size none k c ((els.flatMap St.cells).take (k * 4)) (by rfl) ?_ ?_ ?_ ?_ ?_ k ?_ ((els.flatMap St.cells).take (k * 4)) ?_ ?_
       · exact HO.out
       · exact HR1.out
       · exact HT1.out
       · (unfold maxLen; omega)
       · omega
       · (simp)
       · omega
       · rfl
       intro A1 c1 w1 hap
       have HAP := Lib.hid hap
       clear hap)
    have HB1 := Lib.hid (((Below.refl w.heap.size w).alloc (Nat.le_refl _) (.cells #[] 29)).grown HAP.out.grown (by simp) (fun g hg => (HO.out.lt g hg).1))
    refine wp_region_held_drew (S := fun _ => True) (by kernel_rfl) True.intro (fun hHeld => ?_)
    refine wpAnyH_take (i := 0) (v := ?_) rfl (by kernel_rfl) (by kernel_rfl) (by kernel_rfl) (fun _ _ _ h => h) (Or.inl ⟨by rfl, ?_⟩) (by assumption) ?_
    rotate_left
    · intro w hSw
      (try dsimp only at hSw)
      go_simp
      (try with_reducible rfl)
    (try simp only [Act.put, List.getElem_toArray, List.getElem_cons_zero, List.setIfInBounds_toArray, List.set_cons_zero, List.set_cons_succ])
    refine wpAnyH_take (i := 1) (v := ?_) rfl (by kernel_rfl) (by kernel_rfl) (by kernel_rfl) (fun _ _ _ h => h) (Or.inl ⟨by rfl, ?_⟩) (by assumption) ?_
    rotate_left
    · intro w hSw
      (try dsimp only at hSw)
      go_simp
      (try with_reducible rfl)
    (try simp only [Act.put, List.getElem_toArray, List.getElem_cons_succ, List.getElem_cons_zero, List.setIfInBounds_toArray, List.set_cons_zero, List.set_cons_succ])
    refine wpAnyH_take (i := 3) (v := ?_) rfl (by kernel_rfl) (by kernel_rfl) (by kernel_rfl) (fun _ _ _ h => h) (Or.inl ⟨by rfl, ?_⟩) (by assumption) ?_
    rotate_left
    · intro w hSw
      (try dsimp only at hSw)
      go_simp
      (try with_reducible rfl)
    (try simp only [Act.put, List.getElem_toArray, List.getElem_cons_succ, List.getElem_cons_zero, List.setIfInBounds_toArray, List.set_cons_zero, List.set_cons_succ])
    refine wpAnyH_take (i := 4) (v := ?_) rfl (by kernel_rfl) (by kernel_rfl) (by kernel_rfl) (fun _ _ _ h => h) (Or.inl ⟨by rfl, ?_⟩) (by assumption) ?_
    rotate_left
    · intro w hSw
      (try dsimp only at hSw)
      go_simp
      (try with_reducible rfl)
    (try simp only [Act.put, List.getElem_toArray, List.getElem_cons_succ, List.getElem_cons_zero, List.setIfInBounds_toArray, List.set_cons_zero, List.set_cons_succ])
    refine wpAnyH_take (i := 5) (v := ?_) rfl (by kernel_rfl) (by kernel_rfl) (by kernel_rfl) (fun _ _ _ h => h) (Or.inl ⟨by rfl, ?_⟩) (by assumption) ?_
    rotate_left
    · intro w hSw
      (try dsimp only at hSw)
      go_simp
      (try with_reducible rfl)
    (try simp only [Act.put, List.getElem_toArray, List.getElem_cons_succ, List.getElem_cons_zero, List.setIfInBounds_toArray, List.set_cons_zero, List.set_cons_succ])
    refine wpAnyH_ready (rs := [2]) (by kernel_rfl) (by simp) ?_
    refine AllReadyH.cons rfl (fun K hK => ?_) AllReadyH.nil
    refine step_append_any _ (by rfl) (.tmp 13) (.tmp 14) 22 (by rfl) w.heap.size 29 iS (.agg #[.bool false, .string ⟨#[]⟩, .slice none 0 0, .slice none 0 0]) 4 72 Tryd.underlying22 hiS hzS0 hzS1 hzS2 rfl (by omega) (.slice A1 k c1) k ((els.flatMap St.cells).take (k * 4)) (by rfl) ?_ w.heap.size M 1 mc x.cells (by rfl) ?_ ?_ ?_ ?_ ?_ (k + 1) ?_ ((els.flatMap St.cells).take (k * 4) ++ x.cells) ?_ ?_
    · exact HAP.out.own.drew
    · exact ((HXR.out.below HB1.out).drew)
    · exact HT2.out
    · (unfold maxLen; omega)
    · omega
    · exact HB1.out.size
    · omega
    · rfl
    intro A2 c2 w2 hap2
    have HAP2 := Lib.hid hap2
    clear hap2
    have HB2 := Lib.hid (HB1.out.drew.grown HAP2.out.grown (by exact HB1.out.size) (fun g hg => (HAP.out.own.lt g hg).1))
    refine hK.out _ _ True.intro (fun hHeld => ?_)
    clear hK K
    (try simp only [Act.put, List.getElem_toArray, List.getElem_cons_succ, List.getElem_cons_zero, List.setIfInBounds_toArray, List.set_cons_zero, List.set_cons_succ])
    refine wpAnyH_ready (rs := [6]) (by kernel_rfl) (by simp) ?_
    refine AllReadyH.cons rfl (fun K hK => ?_) AllReadyH.nil
    refine step_append_any _ (by rfl) (.tmp 15) (.tmp 18) 22 (by rfl) w.heap.size 29 iS (.agg #[.bool false, .string ⟨#[]⟩, .slice none 0 0, .slice none 0 0]) 4 72 Tryd.underlying22 hiS hzS0 hzS1 hzS2 rfl (by omega) (.slice A2 (k + 1) c2) (k + 1) ((els.flatMap St.cells).take (k * 4) ++ x.cells) (by rfl) ?_ w.heap.size none (n - k) (c - k) ((els.flatMap St.cells).drop (k * 4)) (by rfl) ?_ ?_ ?_ ?_ ?_ (n + 1) ?_ ((els.take k ++ x :: els.drop k).flatMap St.cells) ?_ ?_
    · exact HAP2.out.own
    · exact (by have := (HCUT.out.below HB2.out); simpa using this)
    · exact HT3.out
    · (unfold maxLen; omega)
    · omega
    · exact HB2.out.size
    · omega
    · exact HFL.out
    intro A3 c3 w3 hap3
    have HAP3 := Lib.hid hap3
    clear hap3
    have HB3 := Lib.hid (HB2.out.grown HAP3.out.grown (by exact HB2.out.size) (fun g hg => (HAP2.out.own.lt g hg).1))
    refine hK.out _ _ True.intro (fun hHeld => ?_)
    clear hK K
    (try simp only [Act.put, List.getElem_toArray, List.getElem_cons_succ, List.getElem_cons_zero, List.setIfInBounds_toArray, List.set_cons_zero, List.set_cons_succ])
    refine wpAnyH_take (i := 7) (v := ?_) rfl (by kernel_rfl) (by kernel_rfl) (by kernel_rfl) (fun _ _ _ h => h) (Or.inl ⟨by rfl, ?_⟩) (by assumption) ?_
    rotate_left
    · intro w hSw
      (try dsimp only at hSw)
      go_simp
      (try with_reducible rfl)
    (try simp only [Act.put, List.getElem_toArray, List.getElem_cons_succ, List.getElem_cons_zero, List.setIfInBounds_toArray, List.set_cons_zero, List.set_cons_succ])
    refine wpAnyH_done (by kernel_rfl) ?_ _
    go_wp2_with fail
    go_ret
    exact ⟨A3, c3, rfl, ⟨HAP3.out.own |> Reads.of_own, HLEN.out, fun e he => HOKS.out HB3.out e he⟩, HB3.out⟩
  · by_cases hck : c = k
    · obtain rfl : k = n := by omega
      obtain rfl : k = c := by omega
      rcases Nat.eq_zero_or_pos k with hz | hz
      · subst hz
        go_wp2_with
          (refine wpList_append_any _ (by rfl) (.tmp 8) (.tmp 11) 22 (by rfl) w.heap.size 29 iS (.agg #[.bool false, .string ⟨#[]⟩, .slice none 0 0, .slice none 0 0]) 4 72 Tryd.underlying22 hiS hzS0 hzS1 hzS2 rfl (by omega) (.slice (some ⟨w.heap.size, 0, none⟩) 0 0) 0 [] (by rfl) ?_ w.heap.size (some ad) 0 0 ((els.flatMap St.cells).take (0 * 4)) (by rfl) ?_ ?_ ?_ ?_ ?_ 0 ?_ ((els.flatMap St.cells).take (0 * 4)) ?_ ?_
           · exact HO.out
           · exact HR1.out
           · exact HT1.out
           · (unfold maxLen; omega)
           · omega
           · (simp)
           · omega
           · rfl
           intro A1 c1 w1 hap
           have HAP := Lib.hid hap
           clear hap)
        have HB1 := Lib.hid (((Below.refl w.heap.size w).alloc (Nat.le_refl _) (.cells #[] 29)).grown HAP.out.grown (by simp) (fun g hg => (HO.out.lt g hg).1))
        refine wp_region_held_drew (S := fun _ => True) (by kernel_rfl) True.intro (fun hHeld => ?_)
        refine wpAnyH_take (i := 0) (v := ?_) rfl (by kernel_rfl) (by kernel_rfl) (by kernel_rfl) (fun _ _ _ h => h) (Or.inl ⟨by rfl, ?_⟩) (by assumption) ?_
        rotate_left
        · intro w hSw
          (try dsimp only at hSw)
          go_simp
          (try with_reducible rfl)
        (try simp only [Act.put, List.getElem_toArray, List.getElem_cons_zero, List.setIfInBounds_toArray, List.set_cons_zero, List.set_cons_succ])
        refine wpAnyH_take (i := 1) (v := ?_) rfl (by kernel_rfl) (by kernel_rfl) (by kernel_rfl) (fun _ _ _ h => h) (Or.inl ⟨by rfl, ?_⟩) (by assumption) ?_
        rotate_left
        · intro w hSw
          (try dsimp only at hSw)
          go_simp
          (try with_reducible rfl)
        (try simp only [Act.put, List.getElem_toArray, List.getElem_cons_succ, List.getElem_cons_zero, List.setIfInBounds_toArray, List.set_cons_zero, List.set_cons_succ])
        refine wpAnyH_take (i := 3) (v := ?_) rfl (by kernel_rfl) (by kernel_rfl) (by kernel_rfl) (fun _ _ _ h => h) (Or.inl ⟨by rfl, ?_⟩) (by assumption) ?_
        rotate_left
        · intro w hSw
          (try dsimp only at hSw)
          go_simp
          (try with_reducible rfl)
        (try simp only [Act.put, List.getElem_toArray, List.getElem_cons_succ, List.getElem_cons_zero, List.setIfInBounds_toArray, List.set_cons_zero, List.set_cons_succ])
        refine wpAnyH_take (i := 4) (v := ?_) rfl (by kernel_rfl) (by kernel_rfl) (by kernel_rfl) (fun _ _ _ h => h) (Or.inl ⟨by rfl, ?_⟩) (by assumption) ?_
        rotate_left
        · intro w hSw
          (try dsimp only at hSw)
          go_simp
          (try with_reducible rfl)
        (try simp only [Act.put, List.getElem_toArray, List.getElem_cons_succ, List.getElem_cons_zero, List.setIfInBounds_toArray, List.set_cons_zero, List.set_cons_succ])
        refine wpAnyH_take (i := 5) (v := ?_) rfl (by kernel_rfl) (by kernel_rfl) (by kernel_rfl) (fun _ _ _ h => h) (Or.inl ⟨by rfl, ?_⟩) (by assumption) ?_
        rotate_left
        · intro w hSw
          (try dsimp only at hSw)
          go_simp
          (try with_reducible rfl)
        (try simp only [Act.put, List.getElem_toArray, List.getElem_cons_succ, List.getElem_cons_zero, List.setIfInBounds_toArray, List.set_cons_zero, List.set_cons_succ])
        refine wpAnyH_ready (rs := [2]) (by kernel_rfl) (by simp) ?_
        refine AllReadyH.cons rfl (fun K hK => ?_) AllReadyH.nil
        refine step_append_any _ (by rfl) (.tmp 13) (.tmp 14) 22 (by rfl) w.heap.size 29 iS (.agg #[.bool false, .string ⟨#[]⟩, .slice none 0 0, .slice none 0 0]) 4 72 Tryd.underlying22 hiS hzS0 hzS1 hzS2 rfl (by omega) (.slice A1 0 c1) 0 ((els.flatMap St.cells).take (0 * 4)) (by rfl) ?_ w.heap.size M 1 mc x.cells (by rfl) ?_ ?_ ?_ ?_ ?_ (0 + 1) ?_ ((els.flatMap St.cells).take (0 * 4) ++ x.cells) ?_ ?_
        · exact HAP.out.own.drew
        · exact ((HXR.out.below HB1.out).drew)
        · exact HT2.out
        · (unfold maxLen; omega)
        · omega
        · exact HB1.out.size
        · omega
        · rfl
        intro A2 c2 w2 hap2
        have HAP2 := Lib.hid hap2
        clear hap2
        have HB2 := Lib.hid (HB1.out.drew.grown HAP2.out.grown (by exact HB1.out.size) (fun g hg => (HAP.out.own.lt g hg).1))
        refine hK.out _ _ True.intro (fun hHeld => ?_)
        clear hK K
        (try simp only [Act.put, List.getElem_toArray, List.getElem_cons_succ, List.getElem_cons_zero, List.setIfInBounds_toArray, List.set_cons_zero, List.set_cons_succ])
        refine wpAnyH_ready (rs := [6]) (by kernel_rfl) (by simp) ?_
        refine AllReadyH.cons rfl (fun K hK => ?_) AllReadyH.nil
        refine step_append_any _ (by rfl) (.tmp 15) (.tmp 18) 22 (by rfl) w.heap.size 29 iS (.agg #[.bool false, .string ⟨#[]⟩, .slice none 0 0, .slice none 0 0]) 4 72 Tryd.underlying22 hiS hzS0 hzS1 hzS2 rfl (by omega) (.slice A2 (0 + 1) c2) (0 + 1) ((els.flatMap St.cells).take (0 * 4) ++ x.cells) (by rfl) ?_ w.heap.size (some ad) 0 0 ((els.flatMap St.cells).drop (0 * 4)) (by rfl) ?_ ?_ ?_ ?_ ?_ (0 + 1) ?_ ((els.take 0 ++ x :: els.drop 0).flatMap St.cells) ?_ ?_
        · exact HAP2.out.own
        · exact (by have := (HCUT.out.below HB2.out); simpa using this)
        · exact HT3.out
        · (unfold maxLen; omega)
        · omega
        · exact HB2.out.size
        · omega
        · exact HFL.out
        intro A3 c3 w3 hap3
        have HAP3 := Lib.hid hap3
        clear hap3
        have HB3 := Lib.hid (HB2.out.grown HAP3.out.grown (by exact HB2.out.size) (fun g hg => (HAP2.out.own.lt g hg).1))
        refine hK.out _ _ True.intro (fun hHeld => ?_)
        clear hK K
        (try simp only [Act.put, List.getElem_toArray, List.getElem_cons_succ, List.getElem_cons_zero, List.setIfInBounds_toArray, List.set_cons_zero, List.set_cons_succ])
        refine wpAnyH_take (i := 7) (v := ?_) rfl (by kernel_rfl) (by kernel_rfl) (by kernel_rfl) (fun _ _ _ h => h) (Or.inl ⟨by rfl, ?_⟩) (by assumption) ?_
        rotate_left
        · intro w hSw
          (try dsimp only at hSw)
          go_simp
          (try with_reducible rfl)
        (try simp only [Act.put, List.getElem_toArray, List.getElem_cons_succ, List.getElem_cons_zero, List.setIfInBounds_toArray, List.set_cons_zero, List.set_cons_succ])
        refine wpAnyH_done (by kernel_rfl) ?_ _
        go_wp2_with fail
        go_ret
        exact ⟨A3, c3, rfl, ⟨HAP3.out.own |> Reads.of_own, HLEN.out, fun e he => HOKS.out HB3.out e he⟩, HB3.out⟩
      · go_wp2_with
          (refine wpList_append_any _ (by rfl) (.tmp 8) (.tmp 11) 22 (by rfl) w.heap.size 29 iS (.agg #[.bool false, .string ⟨#[]⟩, .slice none 0 0, .slice none 0 0]) 4 72 Tryd.underlying22 hiS hzS0 hzS1 hzS2 rfl (by omega) (.slice (some ⟨w.heap.size, 0, none⟩) 0 0) 0 [] (by rfl) ?_ w.heap.size (some ad) k k ((els.flatMap St.cells).take (k * 4)) (by rfl) ?_ ?_ ?_ ?_ ?_ k ?_ ((els.flatMap St.cells).take (k * 4)) ?_ ?_
           · exact HO.out
           · exact HR1.out
           · exact HT1.out
           · (unfold maxLen; omega)
           · omega
           · (simp)
           · omega
           · rfl
           intro A1 c1 w1 hap
           have HAP := Lib.hid hap
           clear hap)
        have HB1 := Lib.hid (((Below.refl w.heap.size w).alloc (Nat.le_refl _) (.cells #[] 29)).grown HAP.out.grown (by simp) (fun g hg => (HO.out.lt g hg).1))
        refine wp_region_held_drew (S := fun _ => True) (by kernel_rfl) True.intro (fun hHeld => ?_)
        refine wpAnyH_take (i := 0) (v := ?_) rfl (by kernel_rfl) (by kernel_rfl) (by kernel_rfl) (fun _ _ _ h => h) (Or.inl ⟨by rfl, ?_⟩) (by assumption) ?_
        rotate_left
        · intro w hSw
          (try dsimp only at hSw)
          go_simp
          (try with_reducible rfl)
        (try simp only [Act.put, List.getElem_toArray, List.getElem_cons_zero, List.setIfInBounds_toArray, List.set_cons_zero, List.set_cons_succ])
        refine wpAnyH_take (i := 1) (v := ?_) rfl (by kernel_rfl) (by kernel_rfl) (by kernel_rfl) (fun _ _ _ h => h) (Or.inl ⟨by rfl, ?_⟩) (by assumption) ?_
        rotate_left
        · intro w hSw
          (try dsimp only at hSw)
          go_simp
          (try with_reducible rfl)
        (try simp only [Act.put, List.getElem_toArray, List.getElem_cons_succ, List.getElem_cons_zero, List.setIfInBounds_toArray, List.set_cons_zero, List.set_cons_succ])
        refine wpAnyH_take (i := 3) (v := ?_) rfl (by kernel_rfl) (by kernel_rfl) (by kernel_rfl) (fun _ _ _ h => h) (Or.inl ⟨by rfl, ?_⟩) (by assumption) ?_
        rotate_left
        · intro w hSw
          (try dsimp only at hSw)
          go_simp
          (try with_reducible rfl)
        (try simp only [Act.put, List.getElem_toArray, List.getElem_cons_succ, List.getElem_cons_zero, List.setIfInBounds_toArray, List.set_cons_zero, List.set_cons_succ])
        refine wpAnyH_take (i := 4) (v := ?_) rfl (by kernel_rfl) (by kernel_rfl) (by kernel_rfl) (fun _ _ _ h => h) (Or.inl ⟨by rfl, ?_⟩) (by assumption) ?_
        rotate_left
        · intro w hSw
          (try dsimp only at hSw)
          go_simp
          (try with_reducible rfl)
        (try simp only [Act.put, List.getElem_toArray, List.getElem_cons_succ, List.getElem_cons_zero, List.setIfInBounds_toArray, List.set_cons_zero, List.set_cons_succ])
        refine wpAnyH_take (i := 5) (v := ?_) rfl (by kernel_rfl) (by kernel_rfl) (by kernel_rfl) (fun _ _ _ h => h) (Or.inl ⟨by rfl, ?_⟩) (by assumption) ?_
        rotate_left
        · intro w hSw
          (try dsimp only at hSw)
          go_simp
          (try with_reducible rfl)
        (try simp only [Act.put, List.getElem_toArray, List.getElem_cons_succ, List.getElem_cons_zero, List.setIfInBounds_toArray, List.set_cons_zero, List.set_cons_succ])
        refine wpAnyH_ready (rs := [2]) (by kernel_rfl) (by simp) ?_
        refine AllReadyH.cons rfl (fun K hK => ?_) AllReadyH.nil
        refine step_append_any _ (by rfl) (.tmp 13) (.tmp 14) 22 (by rfl) w.heap.size 29 iS (.agg #[.bool false, .string ⟨#[]⟩, .slice none 0 0, .slice none 0 0]) 4 72 Tryd.underlying22 hiS hzS0 hzS1 hzS2 rfl (by omega) (.slice A1 k c1) k ((els.flatMap St.cells).take (k * 4)) (by rfl) ?_ w.heap.size M 1 mc x.cells (by rfl) ?_ ?_ ?_ ?_ ?_ (k + 1) ?_ ((els.flatMap St.cells).take (k * 4) ++ x.cells) ?_ ?_
        · exact HAP.out.own.drew
        · exact ((HXR.out.below HB1.out).drew)
        · exact HT2.out
        · (unfold maxLen; omega)
        · omega
        · exact HB1.out.size
        · omega
        · rfl
        intro A2 c2 w2 hap2
        have HAP2 := Lib.hid hap2
        clear hap2
        have HB2 := Lib.hid (HB1.out.drew.grown HAP2.out.grown (by exact HB1.out.size) (fun g hg => (HAP.out.own.lt g hg).1))
        refine hK.out _ _ True.intro (fun hHeld => ?_)
        clear hK K
        (try simp only [Act.put, List.getElem_toArray, List.getElem_cons_succ, List.getElem_cons_zero, List.setIfInBounds_toArray, List.set_cons_zero, List.set_cons_succ])
        refine wpAnyH_ready (rs := [6]) (by kernel_rfl) (by simp) ?_
        refine AllReadyH.cons rfl (fun K hK => ?_) AllReadyH.nil
        refine step_append_any _ (by rfl) (.tmp 15) (.tmp 18) 22 (by rfl) w.heap.size 29 iS (.agg #[.bool false, .string ⟨#[]⟩, .slice none 0 0, .slice none 0 0]) 4 72 Tryd.underlying22 hiS hzS0 hzS1 hzS2 rfl (by omega) (.slice A2 (k + 1) c2) (k + 1) ((els.flatMap St.cells).take (k * 4) ++ x.cells) (by rfl) ?_ w.heap.size (some ad) 0 0 ((els.flatMap St.cells).drop (k * 4)) (by rfl) ?_ ?_ ?_ ?_ ?_ (k + 1) ?_ ((els.take k ++ x :: els.drop k).flatMap St.cells) ?_ ?_
        · exact HAP2.out.own
        · exact (by have := (HCUT.out.below HB2.out); simpa using this)
        · exact HT3.out
        · (unfold maxLen; omega)
        · omega
        · exact HB2.out.size
        · omega
        · exact HFL.out
        intro A3 c3 w3 hap3
        have HAP3 := Lib.hid hap3
        clear hap3
        have HB3 := Lib.hid (HB2.out.grown HAP3.out.grown (by exact HB2.out.size) (fun g hg => (HAP2.out.own.lt g hg).1))
        refine hK.out _ _ True.intro (fun hHeld => ?_)
        clear hK K
        (try simp only [Act.put, List.getElem_toArray, List.getElem_cons_succ, List.getElem_cons_zero, List.setIfInBounds_toArray, List.set_cons_zero, List.set_cons_succ])
        refine wpAnyH_take (i := 7) (v := ?_) rfl (by kernel_rfl) (by kernel_rfl) (by kernel_rfl) (fun _ _ _ h => h) (Or.inl ⟨by rfl, ?_⟩) (by assumption) ?_
        rotate_left
        · intro w hSw
          (try dsimp only at hSw)
          go_simp
          (try with_reducible rfl)
        (try simp only [Act.put, List.getElem_toArray, List.getElem_cons_succ, List.getElem_cons_zero, List.setIfInBounds_toArray, List.set_cons_zero, List.set_cons_succ])
        refine wpAnyH_done (by kernel_rfl) ?_ _
        go_wp2_with fail
        go_ret
        exact ⟨A3, c3, rfl, ⟨HAP3.out.own |> Reads.of_own, HLEN.out, fun e he => HOKS.out HB3.out e he⟩, HB3.out⟩
    · have hck1 : k < c := by omega
      go_wp2_with
        (refine wpList_append_any _ (by rfl) (.tmp 8) (.tmp 11) 22 (by rfl) w.heap.size 29 iS (.agg #[.bool false, .string ⟨#[]⟩, .slice none 0 0, .slice none 0 0]) 4 72 Tryd.underlying22 hiS hzS0 hzS1 hzS2 rfl (by omega) (.slice (some ⟨w.heap.size, 0, none⟩) 0 0) 0 [] (by rfl) ?_ w.heap.size (some ad) k c ((els.flatMap St.cells).take (k * 4)) (by rfl) ?_ ?_ ?_ ?_ ?_ k ?_ ((els.flatMap St.cells).take (k * 4)) ?_ ?_
         · exact HO.out
         · exact HR1.out
         · exact HT1.out
         · (unfold maxLen; omega)
         · omega
         · (simp)
         · omega
         · rfl
         intro A1 c1 w1 hap
         have HAP := Lib.hid hap
         clear hap)
      have HB1 := Lib.hid (((Below.refl w.heap.size w).alloc (Nat.le_refl _) (.cells #[] 29)).grown HAP.out.grown (by simp) (fun g hg => (HO.out.lt g hg).1))
      refine wp_region_held_drew (S := fun _ => True) (by kernel_rfl) True.intro (fun hHeld => ?_)
      refine wpAnyH_take (i := 0) (v := ?_) rfl (by kernel_rfl) (by kernel_rfl) (by kernel_rfl) (fun _ _ _ h => h) (Or.inl ⟨by rfl, ?_⟩) (by assumption) ?_
      rotate_left
      · intro w hSw
        (try dsimp only at hSw)
        go_simp
        (try with_reducible rfl)
      (try simp only [Act.put, List.getElem_toArray, List.getElem_cons_zero, List.setIfInBounds_toArray, List.set_cons_zero, List.set_cons_succ])
      refine wpAnyH_take (i := 1) (v := ?_) rfl (by kernel_rfl) (by kernel_rfl) (by kernel_rfl) (fun _ _ _ h => h) (Or.inl ⟨by rfl, ?_⟩) (by assumption) ?_
      rotate_left
      · intro w hSw
        (try dsimp only at hSw)
        go_simp
        (try with_reducible rfl)
      (try simp only [Act.put, List.getElem_toArray, List.getElem_cons_succ, List.getElem_cons_zero, List.setIfInBounds_toArray, List.set_cons_zero, List.set_cons_succ])
      refine wpAnyH_take (i := 3) (v := ?_) rfl (by kernel_rfl) (by kernel_rfl) (by kernel_rfl) (fun _ _ _ h => h) (Or.inl ⟨by rfl, ?_⟩) (by assumption) ?_
      rotate_left
      · intro w hSw
        (try dsimp only at hSw)
        go_simp
        (try with_reducible rfl)
      (try simp only [Act.put, List.getElem_toArray, List.getElem_cons_succ, List.getElem_cons_zero, List.setIfInBounds_toArray, List.set_cons_zero, List.set_cons_succ])
      refine wpAnyH_take (i := 4) (v := ?_) rfl (by kernel_rfl) (by kernel_rfl) (by kernel_rfl) (fun _ _ _ h => h) (Or.inl ⟨by rfl, ?_⟩) (by assumption) ?_
      rotate_left
      · intro w hSw
        (try dsimp only at hSw)
        go_simp
        (try with_reducible rfl)
      (try simp only [Act.put, List.getElem_toArray, List.getElem_cons_succ, List.getElem_cons_zero, List.setIfInBounds_toArray, List.set_cons_zero, List.set_cons_succ])
      refine wpAnyH_take (i := 5) (v := ?_) rfl (by kernel_rfl) (by kernel_rfl) (by kernel_rfl) (fun _ _ _ h => h) (Or.inl ⟨by rfl, ?_⟩) (by assumption) ?_
      rotate_left
      · intro w hSw
        (try dsimp only at hSw)
        go_simp
        (try with_reducible rfl)
      (try simp only [Act.put, List.getElem_toArray, List.getElem_cons_succ, List.getElem_cons_zero, List.setIfInBounds_toArray, List.set_cons_zero, List.set_cons_succ])
      refine wpAnyH_ready (rs := [2]) (by kernel_rfl) (by simp) ?_
      refine AllReadyH.cons rfl (fun K hK => ?_) AllReadyH.nil
      refine step_append_any _ (by rfl) (.tmp 13) (.tmp 14) 22 (by rfl) w.heap.size 29 iS (.agg #[.bool false, .string ⟨#[]⟩, .slice none 0 0, .slice none 0 0]) 4 72 Tryd.underlying22 hiS hzS0 hzS1 hzS2 rfl (by omega) (.slice A1 k c1) k ((els.flatMap St.cells).take (k * 4)) (by rfl) ?_ w.heap.size M 1 mc x.cells (by rfl) ?_ ?_ ?_ ?_ ?_ (k + 1) ?_ ((els.flatMap St.cells).take (k * 4) ++ x.cells) ?_ ?_
      · exact HAP.out.own.drew
      · exact ((HXR.out.below HB1.out).drew)
      · exact HT2.out
      · (unfold maxLen; omega)
      · omega
      · exact HB1.out.size
      · omega
      · rfl
      intro A2 c2 w2 hap2
      have HAP2 := Lib.hid hap2
      clear hap2
      have HB2 := Lib.hid (HB1.out.drew.grown HAP2.out.grown (by exact HB1.out.size) (fun g hg => (HAP.out.own.lt g hg).1))
      refine hK.out _ _ True.intro (fun hHeld => ?_)
      clear hK K
      (try simp only [Act.put, List.getElem_toArray, List.getElem_cons_succ, List.getElem_cons_zero, List.setIfInBounds_toArray, List.set_cons_zero, List.set_cons_succ])
      refine wpAnyH_ready (rs := [6]) (by kernel_rfl) (by simp) ?_
      refine AllReadyH.cons rfl (fun K hK => ?_) AllReadyH.nil
      refine step_append_any _ (by rfl) (.tmp 15) (.tmp 18) 22 (by rfl) w.heap.size 29 iS (.agg #[.bool false, .string ⟨#[]⟩, .slice none 0 0, .slice none 0 0]) 4 72 Tryd.underlying22 hiS hzS0 hzS1 hzS2 rfl (by omega) (.slice A2 (k + 1) c2) (k + 1) ((els.flatMap St.cells).take (k * 4) ++ x.cells) (by rfl) ?_ w.heap.size (some (ad.add (k * 4))) (n - k) (c - k) ((els.flatMap St.cells).drop (k * 4)) (by rfl) ?_ ?_ ?_ ?_ ?_ (n + 1) ?_ ((els.take k ++ x :: els.drop k).flatMap St.cells) ?_ ?_
      · exact HAP2.out.own
      · exact (by have := (HCUT.out.below HB2.out); simpa [hck] using this)
      · exact HT3.out
      · (unfold maxLen; omega)
      · omega
      · exact HB2.out.size
      · omega
      · exact HFL.out
      intro A3 c3 w3 hap3
      have HAP3 := Lib.hid hap3
      clear hap3
      have HB3 := Lib.hid (HB2.out.grown HAP3.out.grown (by exact HB2.out.size) (fun g hg => (HAP2.out.own.lt g hg).1))
      refine hK.out _ _ True.intro (fun hHeld => ?_)
      clear hK K
      (try simp only [Act.put, List.getElem_toArray, List.getElem_cons_succ, List.getElem_cons_zero, List.setIfInBounds_toArray, List.set_cons_zero, List.set_cons_succ])
      refine wpAnyH_take (i := 7) (v := ?_) rfl (by kernel_rfl) (by kernel_rfl) (by kernel_rfl) (fun _ _ _ h => h) (Or.inl ⟨by rfl, ?_⟩) (by assumption) ?_
      rotate_left
      · intro w hSw
        (try dsimp only at hSw)
        go_simp
        (try with_reducible rfl)
      (try simp only [Act.put, List.getElem_toArray, List.getElem_cons_succ, List.getElem_cons_zero, List.setIfInBounds_toArray, List.set_cons_zero, List.set_cons_succ])
      refine wpAnyH_done (by kernel_rfl) ?_ _
      go_wp2_with fail
      go_ret
      exact ⟨A3, c3, rfl, ⟨HAP3.out.own |> Reads.of_own, HLEN.out, fun e he => HOKS.out HB3.out e he⟩, HB3.out⟩
end Go.Proofs.YtmbaijkbchkjoaaDoor
