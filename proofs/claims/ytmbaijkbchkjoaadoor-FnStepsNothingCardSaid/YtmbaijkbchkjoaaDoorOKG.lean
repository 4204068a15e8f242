/- spec.StepsOK, laws.fewSteps: where they say yes, the steps are ones that chain takes. -/
import Derived.Test.YtmbaijkbchkjoaaDoorFitsG
import Derived.Test.YtmbaijkbchkjoaaDoorShelfG
import Derived.Deep.RegionHeld3
import Derived.Deep.DrawnRows
import Derived.BigQuiet
namespace Go.Proofs.YtmbaijkbchkjoaaDoor
open Go.RowKit

/-- The library's tables lie. -/
def Tabs (w : World) : Prop := Lib.Utf8Tabs (Tryd.lays196_ren.g 3) (Tryd.lays196_ren.g 4) w
theorem Tabs.below {w w' : World} (h : Tabs w) (hb : Below w.heap.size w w') : Tabs w' :=
  ⟨fun c hc => keeps hb (h.1 c hc), fun i hi => ⟨keeps hb (h.2 i hi).1, keeps hb (h.2 i hi).2⟩⟩
theorem below_drewN {B : Nat} {a w : World} (h : Below B a w) (n : Nat) : Below B a (w.drewN n) := h.trans ⟨rfl, rfl, rfl, Nat.le_refl _, fun _ _ => rfl⟩
theorem valid_any (s : ByteArray) (w : World) (hs : s.size ≤ maxLen) (h : Tabs w) :
    Calls Tryd.prog 13 #[.string s] w (SomeBool w) :=
  (Any.utf8_ValidString Tryd.lays196 s w (by unfold maxLen at hs; omega) h).mono fun e w' ⟨he, hb⟩ => ⟨_, he, hb⟩
theorem no_bytes {s : ByteArray} (h : s.toList = []) : s = ⟨#[]⟩ := by
  rw [ByteArray.toList_eq] at h
  exact ByteArray.ext (Array.ext' h)
theorem row_at {w w' : World} {n k : Nat} {els : List St} {e : St} {ad : Addr} (h : StsAt w w.heap.size (some ad) n els) (hb : Below w.heap.size w w') (hk : els[k]? = some e) :
    w'.cell? (ad.add (k * 4)) = some (.bool e.is) ∧ w'.cell? ⟨(ad.add (k * 4)).block, (ad.add (k * 4)).off + 1, none⟩ = some (.string e.rem) ∧
      w'.cell? ⟨(ad.add (k * 4)).block, (ad.add (k * 4)).off + 2, none⟩ = some (.slice e.A e.n e.c) ∧ w'.cell? ⟨(ad.add (k * 4)).block, (ad.add (k * 4)).off + 3, none⟩ = some (.slice e.B e.m e.d) := by
  obtain ⟨ad', e', hA, _, he, h0, h1, h2, h3⟩ := four_cells four (h.below hb).1 h.2.1 (show k < n by have := (List.getElem?_eq_some_iff.1 hk).1; have := h.2.1; omega)
  cases hA
  rw [hk] at he
  cases he
  exact ⟨h0, h1, h2, h3⟩
theorem map_at {α : Type} {f : α → Value} {xs : List α} {i : Nat} {u : Value} (h : (xs.map f)[i]? = some u) : ∃ x, xs[i]? = some x ∧ u = f x := by
  rw [List.getElem?_map] at h
  obtain ⟨x, h1, h2⟩ := Option.map_eq_some_iff.1 h
  exact ⟨x, h1, h2.symm⟩
def GoodSt (e : St) : Prop := e.m = e.n ∧ ∀ h ∈ e.hs, h = 0 ∨ h = 1 ∨ h = 2

attribute [local go_sem ↓] Go.wp_at_zero Go.wp_at_succ
set_option maxRecDepth 100000 in
set_option maxHeartbeats 3200000 in
theorem stepsOK_any (A : Option Addr) (n c : Nat) (els : List St) (w : World) (h : StsAt w w.heap.size A n els) (hT : Tabs w) (hn : n ≤ 12) (h12 : ∀ e ∈ els, e.n ≤ 12) :
    Calls Tryd.prog 9 #[.slice A n c] w fun e w' => ∃ b, e = .returned (.bool b) ∧ (b = true → ∀ e ∈ els, GoodSt e) ∧ Below w.heap.size w w' := by
  have H := Lib.hid h
  have HT := Lib.hid hT
  have H12 := Lib.hid h12
  clear h hT h12
  go_enter Tryd.func9, Tryd.ntmps9
  go_wp2_with fail
  go_loopw [3] (fun vi wr => ∃ k : Nat, vi = .int .i64 k ∧ k ≤ n ∧ (∀ (i : Nat) e, i < k → els[i]? = some e → GoodSt e) ∧ Below w.heap.size w wr) (fun vi _ => n - (intOf vi).toNat)
  case atStart => exact ⟨0, rfl, Nat.zero_le _, fun i e hi => absurd hi (by omega), Below.refl _ _⟩
  case round =>
    obtain ⟨k, rfl, hk, hgood, hb⟩ := hrel
    obtain ⟨wq, rfl⟩ : ∃ wq, wq = wr := ⟨_, rfl⟩
    have HG := Lib.hid hgood
    have HB := Lib.hid hb
    clear hgood
    by_cases hlt : k < n
    · obtain ⟨ad, e, hA, hadb, hek, hc0, hc1, hc2, hc3⟩ := four_cells four (H.out.below hb).1 H.out.2.1 hlt
      subst hA
      have HEK := Lib.hid hek
      have hm := List.mem_of_getElem? hek
      have HOK := Lib.hid (H.out.2.2 e hm)
      have hen := H12.out e hm
      obtain ⟨eis, erem, eA, en, ec, ens, eB, em, ed, ehs⟩ := e
      have g0 : wq.cell? (ad.add (k * 4)) = some (.bool eis) := hc0
      have g1 : wq.cell? ⟨(ad.add (k * 4)).block, (ad.add (k * 4)).off + 1, none⟩ = some (.string erem) := hc1
      have g2 : wq.cell? ⟨(ad.add (k * 4)).block, (ad.add (k * 4)).off + 2, none⟩ = some (.slice eA en ec) := hc2
      have g3 : wq.cell? ⟨(ad.add (k * 4)).block, (ad.add (k * 4)).off + 3, none⟩ = some (.slice eB em ed) := hc3
      have G := Lib.hid (And.intro g0 (And.intro g1 (And.intro g2 g3)))
      have HTQ := Lib.hid (HT.out.below hb)
      have hen' : en ≤ 12 := hen
      have hkn : (k : Int) < n := by omega
      clear hek hm hc0 hc1 hc2 hc3 hb hen
      by_cases hmn : em = en
      · subst hmn
        have hmn' : ((em : Int) != (em : Int)) = false := by simp
        have HRS := Lib.hid (show erem.size ≤ maxLen from HOK.out.rsz)
        cases eis with
        | true =>
          by_cases hz : em = 0
          · have hz' : decide (0 < em) = false := by simp; omega
            go_wp2_with fail
            obtain ⟨g0, g1, g2, g3⟩ := G.out
            refine wp_region_held_drew (S := fun w' => w'.cell? (ad.add (k * 4)) = some (.bool true) ∧ w'.cell? ⟨(ad.add (k * 4)).block, (ad.add (k * 4)).off + 1, none⟩ = some (.string erem) ∧ w'.cell? ⟨(ad.add (k * 4)).block, (ad.add (k * 4)).off + 2, none⟩ = some (.slice eA em ec) ∧ w'.cell? ⟨(ad.add (k * 4)).block, (ad.add (k * 4)).off + 3, none⟩ = some (.slice eB em ed)) (by kernel_rfl) ?_ (fun hHeld => ?_)
            · (try dsimp only)
              exact G.out
            refine wpAnyH_take (i := 0) (v := ?_) rfl (by kernel_rfl) (by kernel_rfl) (by kernel_rfl) (fun _ _ _ h => h) (Or.inl ⟨by rfl, ?_⟩) (by assumption) ?_
            rotate_left
            · intro w hSw
              (try dsimp only at hSw)
              go_simp
              (try with_reducible rfl)
            (try simp only [Act.put, List.getElem_toArray, List.getElem_cons_zero, List.setIfInBounds_toArray, List.set_cons_zero, List.set_cons_succ])
            refine wpAnyH_take (i := 1) (v := ?_) rfl (by kernel_rfl) (by kernel_rfl) (by kernel_rfl) (fun _ _ _ h => h) (Or.inl ⟨by rfl, ?_⟩) (by assumption) ?_
            rotate_left
            · intro w hSw
              (try dsimp only at hSw)
              go_simp
              (try with_reducible rfl)
            (try simp only [Act.put, List.getElem_toArray, List.getElem_cons_succ, List.getElem_cons_zero, List.setIfInBounds_toArray, List.set_cons_zero, List.set_cons_succ])
            refine wpAnyH_take (i := 2) (v := ?_) rfl (by kernel_rfl) (by kernel_rfl) (by kernel_rfl) (fun _ _ _ h => h) (Or.inl ⟨by rfl, ?_⟩) (by assumption) ?_
            rotate_left
            · intro w hSw
              (try dsimp only at hSw)
              go_simp
              (try with_reducible rfl)
            (try simp only [Act.put, List.getElem_toArray, List.getElem_cons_succ, List.getElem_cons_zero, List.setIfInBounds_toArray, List.set_cons_zero, List.set_cons_succ])
            refine wpAnyH_take (i := 3) (v := ?_) rfl (by kernel_rfl) (by kernel_rfl) (by kernel_rfl) (fun _ _ _ h => h) (Or.inl ⟨by rfl, ?_⟩) (by assumption) ?_
            rotate_left
            · intro w hSw
              (try dsimp only at hSw)
              go_simp
              (try with_reducible rfl)
            (try simp only [Act.put, List.getElem_toArray, List.getElem_cons_succ, List.getElem_cons_zero, List.setIfInBounds_toArray, List.set_cons_zero, List.set_cons_succ])
            refine wpAnyH_take (i := 4) (v := ?_) rfl (by kernel_rfl) (by kernel_rfl) (by kernel_rfl) (fun _ _ _ h => h) (Or.inl ⟨by rfl, ?_⟩) (by assumption) ?_
            rotate_left
            · intro w hSw
              (try dsimp only at hSw)
              go_simp
              (try with_reducible rfl)
            (try simp only [Act.put, List.getElem_toArray, List.getElem_cons_succ, List.getElem_cons_zero, List.setIfInBounds_toArray, List.set_cons_zero, List.set_cons_succ])
            refine wpAnyH_take (i := 5) (v := ?_) rfl (by kernel_rfl) (by kernel_rfl) (by kernel_rfl) (fun _ _ _ h => h) (Or.inl ⟨by rfl, ?_⟩) (by assumption) ?_
            rotate_left
            · intro w hSw
              (try dsimp only at hSw)
              go_simp
              (try with_reducible rfl)
            (try simp only [Act.put, List.getElem_toArray, List.getElem_cons_succ, List.getElem_cons_zero, List.setIfInBounds_toArray, List.set_cons_zero, List.set_cons_succ])
            refine wpAnyH_take (i := 6) (v := ?_) rfl (by kernel_rfl) (by kernel_rfl) (by kernel_rfl) (fun _ _ _ h => h) (Or.inl ⟨by rfl, ?_⟩) (by assumption) ?_
            rotate_left
            · intro w hSw
              (try dsimp only at hSw)
              go_simp
              (try with_reducible rfl)
            (try simp only [Act.put, List.getElem_toArray, List.getElem_cons_succ, List.getElem_cons_zero, List.setIfInBounds_toArray, List.set_cons_zero, List.set_cons_succ])
            refine wpAnyH_take (i := 7) (v := ?_) rfl (by kernel_rfl) (by kernel_rfl) (by kernel_rfl) (fun _ _ _ h => h) (Or.inl ⟨by rfl, ?_⟩) (by assumption) ?_
            rotate_left
            · intro w hSw
              (try dsimp only at hSw)
              go_simp
              (try with_reducible rfl)
            (try simp only [Act.put, List.getElem_toArray, List.getElem_cons_succ, List.getElem_cons_zero, List.setIfInBounds_toArray, List.set_cons_zero, List.set_cons_succ])
            refine wpAnyH_take (i := 8) (v := ?_) rfl (by kernel_rfl) (by kernel_rfl) (by kernel_rfl) (fun _ _ _ h => h) (Or.inl ⟨by rfl, ?_⟩) (by assumption) ?_
            rotate_left
            · intro w hSw
              (try dsimp only at hSw)
              go_simp
              (try with_reducible rfl)
            (try simp only [Act.put, List.getElem_toArray, List.getElem_cons_succ, List.getElem_cons_zero, List.setIfInBounds_toArray, List.set_cons_zero, List.set_cons_succ])
            refine wpAnyH_take (i := 9) (v := ?_) rfl (by kernel_rfl) (by kernel_rfl) (by kernel_rfl) (fun _ _ _ h => h) (Or.inl ⟨by rfl, ?_⟩) (by assumption) ?_
            rotate_left
            · intro w hSw
              (try dsimp only at hSw)
              go_simp
              (try with_reducible rfl)
            (try simp only [Act.put, List.getElem_toArray, List.getElem_cons_succ, List.getElem_cons_zero, List.setIfInBounds_toArray, List.set_cons_zero, List.set_cons_succ])
            refine wpAnyH_take (i := 10) (v := ?_) rfl (by kernel_rfl) (by kernel_rfl) (by kernel_rfl) (fun _ _ _ h => h) (Or.inl ⟨by rfl, ?_⟩) (by assumption) ?_
            rotate_left
            · intro w hSw
              (try dsimp only at hSw)
              go_simp
              (try with_reducible rfl)
            (try simp only [Act.put, List.getElem_toArray, List.getElem_cons_succ, List.getElem_cons_zero, List.setIfInBounds_toArray, List.set_cons_zero, List.set_cons_succ])
            refine wpAnyH_take (i := 11) (v := ?_) rfl (by kernel_rfl) (by kernel_rfl) (by kernel_rfl) (fun _ _ _ h => h) (Or.inl ⟨by rfl, ?_⟩) (by assumption) ?_
            rotate_left
            · intro w hSw
              (try dsimp only at hSw)
              go_simp
              (try with_reducible rfl)
            (try simp only [Act.put, List.getElem_toArray, List.getElem_cons_succ, List.getElem_cons_zero, List.setIfInBounds_toArray, List.set_cons_zero, List.set_cons_succ])
            refine wpAnyH_take (i := 12) (v := ?_) rfl (by kernel_rfl) (by kernel_rfl) (by kernel_rfl) (fun _ _ _ h => h) (Or.inl ⟨by rfl, ?_⟩) (by assumption) ?_
            rotate_left
            · intro w hSw
              (try dsimp only at hSw)
              go_simp
              (try with_reducible rfl)
            (try simp only [Act.put, List.getElem_toArray, List.getElem_cons_succ, List.getElem_cons_zero, List.setIfInBounds_toArray, List.set_cons_zero, List.set_cons_succ])
            refine wpAnyH_take (i := 13) (v := ?_) rfl (by kernel_rfl) (by kernel_rfl) (by kernel_rfl) (fun _ _ _ h => h) (Or.inl ⟨by rfl, ?_⟩) (by assumption) ?_
            rotate_left
            · intro w hSw
              (try dsimp only at hSw)
              go_simp
              (try with_reducible rfl)
            (try simp only [Act.put, List.getElem_toArray, List.getElem_cons_succ, List.getElem_cons_zero, List.setIfInBounds_toArray, List.set_cons_zero, List.set_cons_succ])
            refine wpAnyH_take (i := 14) (v := ?_) rfl (by kernel_rfl) (by kernel_rfl) (by kernel_rfl) (fun _ _ _ h => h) (Or.inl ⟨by rfl, ?_⟩) (by assumption) ?_
            rotate_left
            · intro w hSw
              (try dsimp only at hSw)
              go_simp
              (try with_reducible rfl)
            (try simp only [Act.put, List.getElem_toArray, List.getElem_cons_succ, List.getElem_cons_zero, List.setIfInBounds_toArray, List.set_cons_zero, List.set_cons_succ])
            refine wpAnyH_take (i := 15) (v := ?_) rfl (by kernel_rfl) (by kernel_rfl) (by kernel_rfl) (fun _ _ _ h => h) (Or.inl ⟨by rfl, ?_⟩) (by assumption) ?_
            rotate_left
            · intro w hSw
              (try dsimp only at hSw)
              go_simp
              (try with_reducible rfl)
            (try simp only [Act.put, List.getElem_toArray, List.getElem_cons_succ, List.getElem_cons_zero, List.setIfInBounds_toArray, List.set_cons_zero, List.set_cons_succ])
            refine wpAnyH_take (i := 16) (v := ?_) rfl (by kernel_rfl) (by kernel_rfl) (by kernel_rfl) (fun _ _ _ h => h) (Or.inl ⟨by rfl, ?_⟩) (by assumption) ?_
            rotate_left
            · intro w hSw
              (try dsimp only at hSw)
              go_simp
              (try with_reducible rfl)
            (try simp only [Act.put, List.getElem_toArray, List.getElem_cons_succ, List.getElem_cons_zero, List.setIfInBounds_toArray, List.set_cons_zero, List.set_cons_succ])
            refine wpAnyH_take (i := 17) (v := ?_) rfl (by kernel_rfl) (by kernel_rfl) (by kernel_rfl) (fun _ _ _ h => h) (Or.inl ⟨by rfl, ?_⟩) (by assumption) ?_
            rotate_left
            · intro w hSw
              (try dsimp only at hSw)
              go_simp
              (try with_reducible rfl)
            (try simp only [Act.put, List.getElem_toArray, List.getElem_cons_succ, List.getElem_cons_zero, List.setIfInBounds_toArray, List.set_cons_zero, List.set_cons_succ])
            refine wpAnyH_take (i := 18) (v := ?_) rfl (by kernel_rfl) (by kernel_rfl) (by kernel_rfl) (fun _ _ _ h => h) (Or.inl ⟨by rfl, ?_⟩) (by assumption) ?_
            rotate_left
            · intro w hSw
              (try dsimp only at hSw)
              go_simp
              (try with_reducible rfl)
            (try simp only [Act.put, List.getElem_toArray, List.getElem_cons_succ, List.getElem_cons_zero, List.setIfInBounds_toArray, List.set_cons_zero, List.set_cons_succ])
            refine wpAnyH_take (i := 19) (v := ?_) rfl (by kernel_rfl) (by kernel_rfl) (by kernel_rfl) (fun _ _ _ h => h) (Or.inl ⟨by rfl, ?_⟩) (by assumption) ?_
            rotate_left
            · intro w hSw
              (try dsimp only at hSw)
              go_simp
              (try with_reducible rfl)
            (try simp only [Act.put, List.getElem_toArray, List.getElem_cons_succ, List.getElem_cons_zero, List.setIfInBounds_toArray, List.set_cons_zero, List.set_cons_succ])
            refine wpAnyH_take (i := 20) (v := ?_) rfl (by kernel_rfl) (by kernel_rfl) (by kernel_rfl) (fun _ _ _ h => h) (Or.inl ⟨by rfl, ?_⟩) (by assumption) ?_
            rotate_left
            · intro w hSw
              (try dsimp only at hSw)
              go_simp
              (try with_reducible rfl)
            (try simp only [Act.put, List.getElem_toArray, List.getElem_cons_succ, List.getElem_cons_zero, List.setIfInBounds_toArray, List.set_cons_zero, List.set_cons_succ])
            refine wpAnyH_take (i := 21) (v := ?_) rfl (by kernel_rfl) (by kernel_rfl) (by kernel_rfl) (fun _ _ _ h => h) (Or.inl ⟨by rfl, ?_⟩) (by assumption) ?_
            rotate_left
            · intro w hSw
              (try dsimp only at hSw)
              go_simp
              (try with_reducible rfl)
            (try simp only [Act.put, List.getElem_toArray, List.getElem_cons_succ, List.getElem_cons_zero, List.setIfInBounds_toArray, List.set_cons_zero, List.set_cons_succ])
            refine wpAnyH_take (i := 22) (v := ?_) rfl (by kernel_rfl) (by kernel_rfl) (by kernel_rfl) (fun _ _ _ h => h) (Or.inl ⟨by rfl, ?_⟩) (by assumption) ?_
            rotate_left
            · intro w hSw
              (try dsimp only at hSw)
              go_simp
              (try with_reducible rfl)
            (try simp only [Act.put, List.getElem_toArray, List.getElem_cons_succ, List.getElem_cons_zero, List.setIfInBounds_toArray, List.set_cons_zero, List.set_cons_succ])
            refine wpAnyH_take (i := 23) (v := ?_) rfl (by kernel_rfl) (by kernel_rfl) (by kernel_rfl) (fun _ _ _ h => h) (Or.inl ⟨by rfl, ?_⟩) (by assumption) ?_
            rotate_left
            · intro w hSw
              (try dsimp only at hSw)
              go_simp
              (try with_reducible rfl)
            (try simp only [Act.put, List.getElem_toArray, List.getElem_cons_succ, List.getElem_cons_zero, List.setIfInBounds_toArray, List.set_cons_zero, List.set_cons_succ])
            refine wpAnyH_take (i := 24) (v := ?_) rfl (by kernel_rfl) (by kernel_rfl) (by kernel_rfl) (fun _ _ _ h => h) (Or.inl ⟨by rfl, ?_⟩) (by assumption) ?_
            rotate_left
            · intro w hSw
              (try dsimp only at hSw)
              go_simp
              (try with_reducible rfl)
            (try simp only [Act.put, List.getElem_toArray, List.getElem_cons_succ, List.getElem_cons_zero, List.setIfInBounds_toArray, List.set_cons_zero, List.set_cons_succ])
            refine wpAnyH_take (i := 25) (v := ?_) rfl (by kernel_rfl) (by kernel_rfl) (by kernel_rfl) (fun _ _ _ h => h) (Or.inl ⟨by rfl, ?_⟩) (by assumption) ?_
            rotate_left
            · intro w hSw
              (try dsimp only at hSw)
              go_simp
              (try with_reducible rfl)
            (try simp only [Act.put, List.getElem_toArray, List.getElem_cons_succ, List.getElem_cons_zero, List.setIfInBounds_toArray, List.set_cons_zero, List.set_cons_succ])
            refine wpAnyH_take (i := 26) (v := ?_) rfl (by kernel_rfl) (by kernel_rfl) (by kernel_rfl) (fun _ _ _ h => h) (Or.inl ⟨by rfl, ?_⟩) (by assumption) ?_
            rotate_left
            · intro w hSw
              (try dsimp only at hSw)
              go_simp
              (try with_reducible rfl)
            (try simp only [Act.put, List.getElem_toArray, List.getElem_cons_succ, List.getElem_cons_zero, List.setIfInBounds_toArray, List.set_cons_zero, List.set_cons_succ])
            refine wpAnyH_take (i := 27) (v := ?_) rfl (by kernel_rfl) (by kernel_rfl) (by kernel_rfl) (fun _ _ _ h => h) (Or.inl ⟨by rfl, ?_⟩) (by assumption) ?_
            rotate_left
            · intro w hSw
              (try dsimp only at hSw)
              go_simp
              (try with_reducible rfl)
            (try simp only [Act.put, List.getElem_toArray, List.getElem_cons_succ, List.getElem_cons_zero, List.setIfInBounds_toArray, List.set_cons_zero, List.set_cons_succ])
            refine wpAnyH_take (i := 28) (v := ?_) rfl (by kernel_rfl) (by kernel_rfl) (by kernel_rfl) (fun _ _ _ h => h) (Or.inl ⟨by rfl, ?_⟩) (by assumption) ?_
            rotate_left
            · intro w hSw
              (try dsimp only at hSw)
              go_simp
              (try with_reducible rfl)
            (try simp only [Act.put, List.getElem_toArray, List.getElem_cons_succ, List.getElem_cons_zero, List.setIfInBounds_toArray, List.set_cons_zero, List.set_cons_succ])
            refine wpAnyH_take (i := 29) (v := ?_) rfl (by kernel_rfl) (by kernel_rfl) (by kernel_rfl) (fun _ _ _ h => h) (Or.inl ⟨by rfl, ?_⟩) (by assumption) ?_
            rotate_left
            · intro w hSw
              (try dsimp only at hSw)
              go_simp
              (try with_reducible rfl)
            (try simp only [Act.put, List.getElem_toArray, List.getElem_cons_succ, List.getElem_cons_zero, List.setIfInBounds_toArray, List.set_cons_zero, List.set_cons_succ])
            refine wpAnyH_take (i := 30) (v := ?_) rfl (by kernel_rfl) (by kernel_rfl) (by kernel_rfl) (fun _ _ _ h => h) (Or.inl ⟨by rfl, ?_⟩) (by assumption) ?_
            rotate_left
            · intro w hSw
              (try dsimp only at hSw)
              go_simp
              (try with_reducible rfl)
            (try simp only [Act.put, List.getElem_toArray, List.getElem_cons_succ, List.getElem_cons_zero, List.setIfInBounds_toArray, List.set_cons_zero, List.set_cons_succ])
            refine wpAnyH_take (i := 31) (v := ?_) rfl (by kernel_rfl) (by kernel_rfl) (by kernel_rfl) (fun _ _ _ h => h) (Or.inl ⟨by rfl, ?_⟩) (by assumption) ?_
            rotate_left
            · intro w hSw
              (try dsimp only at hSw)
              go_simp
              (try with_reducible rfl)
            (try simp only [Act.put, List.getElem_toArray, List.getElem_cons_succ, List.getElem_cons_zero, List.setIfInBounds_toArray, List.set_cons_zero, List.set_cons_succ])
            refine wpAnyH_take (i := 32) (v := ?_) rfl (by kernel_rfl) (by kernel_rfl) (by kernel_rfl) (fun _ _ _ h => h) (Or.inl ⟨by rfl, ?_⟩) (by assumption) ?_
            rotate_left
            · intro w hSw
              (try dsimp only at hSw)
              go_simp
              (try with_reducible rfl)
            (try simp only [Act.put, List.getElem_toArray, List.getElem_cons_succ, List.getElem_cons_zero, List.setIfInBounds_toArray, List.set_cons_zero, List.set_cons_succ])
            refine wpAnyH_take (i := 33) (v := ?_) rfl (by kernel_rfl) (by kernel_rfl) (by kernel_rfl) (fun _ _ _ h => h) (Or.inl ⟨by rfl, ?_⟩) (by assumption) ?_
            rotate_left
            · intro w hSw
              (try dsimp only at hSw)
              go_simp
              (try with_reducible rfl)
            (try simp only [Act.put, List.getElem_toArray, List.getElem_cons_succ, List.getElem_cons_zero, List.setIfInBounds_toArray, List.set_cons_zero, List.set_cons_succ])
            refine wpAnyH_take (i := 34) (v := ?_) rfl (by kernel_rfl) (by kernel_rfl) (by kernel_rfl) (fun _ _ _ h => h) (Or.inl ⟨by rfl, ?_⟩) (by assumption) ?_
            rotate_left
            · intro w hSw
              (try dsimp only at hSw)
              go_simp
              (try with_reducible rfl)
            (try simp only [Act.put, List.getElem_toArray, List.getElem_cons_succ, List.getElem_cons_zero, List.setIfInBounds_toArray, List.set_cons_zero, List.set_cons_succ])
            refine wpAnyH_take (i := 35) (v := ?_) rfl (by kernel_rfl) (by kernel_rfl) (by kernel_rfl) (fun _ _ _ h => h) (Or.inl ⟨by rfl, ?_⟩) (by assumption) ?_
            rotate_left
            · intro w hSw
              (try dsimp only at hSw)
              go_simp
              (try with_reducible rfl)
            (try simp only [Act.put, List.getElem_toArray, List.getElem_cons_succ, List.getElem_cons_zero, List.setIfInBounds_toArray, List.set_cons_zero, List.set_cons_succ])
            refine wpAnyH_take (i := 36) (v := ?_) rfl (by kernel_rfl) (by kernel_rfl) (by kernel_rfl) (fun _ _ _ h => h) (Or.inl ⟨by rfl, ?_⟩) (by assumption) ?_
            rotate_left
            · intro w hSw
              (try dsimp only at hSw)
              go_simp
              (try with_reducible rfl)
            (try simp only [Act.put, List.getElem_toArray, List.getElem_cons_succ, List.getElem_cons_zero, List.setIfInBounds_toArray, List.set_cons_zero, List.set_cons_succ])
            refine wpAnyH_take (i := 37) (v := undef) rfl (by kernel_rfl) (by kernel_rfl) (by kernel_rfl) (fun _ _ _ h => h) (Or.inr ⟨by rfl, by rfl⟩) (by assumption) ?_
            (try simp only [Act.put, List.getElem_toArray, List.getElem_cons_succ, List.getElem_cons_zero, List.setIfInBounds_toArray, List.set_cons_zero, List.set_cons_succ])
            refine wpAnyH_take (i := 38) (v := undef) rfl (by kernel_rfl) (by kernel_rfl) (by kernel_rfl) (fun _ _ _ h => h) (Or.inr ⟨by rfl, by rfl⟩) (by assumption) ?_
            (try simp only [Act.put, List.getElem_toArray, List.getElem_cons_succ, List.getElem_cons_zero, List.setIfInBounds_toArray, List.set_cons_zero, List.set_cons_succ])
            refine wpAnyH_take (i := 39) (v := undef) rfl (by kernel_rfl) (by kernel_rfl) (by kernel_rfl) (fun _ _ _ h => h) (Or.inr ⟨by rfl, by rfl⟩) (by assumption) ?_
            (try simp only [Act.put, List.getElem_toArray, List.getElem_cons_succ, List.getElem_cons_zero, List.setIfInBounds_toArray, List.set_cons_zero, List.set_cons_succ])
            refine wpAnyH_take (i := 40) (v := undef) rfl (by kernel_rfl) (by kernel_rfl) (by kernel_rfl) (fun _ _ _ h => h) (Or.inr ⟨by rfl, by rfl⟩) (by assumption) ?_
            (try simp only [Act.put, List.getElem_toArray, List.getElem_cons_succ, List.getElem_cons_zero, List.setIfInBounds_toArray, List.set_cons_zero, List.set_cons_succ])
            refine wpAnyH_take (i := 41) (v := undef) rfl (by kernel_rfl) (by kernel_rfl) (by kernel_rfl) (fun _ _ _ h => h) (Or.inr ⟨by rfl, by rfl⟩) (by assumption) ?_
            (try simp only [Act.put, List.getElem_toArray, List.getElem_cons_succ, List.getElem_cons_zero, List.setIfInBounds_toArray, List.set_cons_zero, List.set_cons_succ])
            refine wpAnyH_take (i := 42) (v := undef) rfl (by kernel_rfl) (by kernel_rfl) (by kernel_rfl) (fun _ _ _ h => h) (Or.inr ⟨by rfl, by rfl⟩) (by assumption) ?_
            (try simp only [Act.put, List.getElem_toArray, List.getElem_cons_succ, List.getElem_cons_zero, List.setIfInBounds_toArray, List.set_cons_zero, List.set_cons_succ])
            refine wpAnyH_take (i := 43) (v := ?_) rfl (by kernel_rfl) (by kernel_rfl) (by kernel_rfl) (fun _ _ _ h => h) (Or.inl ⟨by rfl, ?_⟩) (by assumption) ?_
            rotate_left
            · intro w hSw
              (try dsimp only at hSw)
              go_simp
              (try with_reducible rfl)
            (try simp only [Act.put, List.getElem_toArray, List.getElem_cons_succ, List.getElem_cons_zero, List.setIfInBounds_toArray, List.set_cons_zero, List.set_cons_succ])
            refine wpAnyH_take (i := 44) (v := ?_) rfl (by kernel_rfl) (by kernel_rfl) (by kernel_rfl) (fun _ _ _ h => h) (Or.inl ⟨by rfl, ?_⟩) (by assumption) ?_
            rotate_left
            · intro w hSw
              (try dsimp only at hSw)
              go_simp
              (try with_reducible rfl)
            (try simp only [Act.put, List.getElem_toArray, List.getElem_cons_succ, List.getElem_cons_zero, List.setIfInBounds_toArray, List.set_cons_zero, List.set_cons_succ])
            refine wpAnyH_take (i := 45) (v := ?_) rfl (by kernel_rfl) (by kernel_rfl) (by kernel_rfl) (fun _ _ _ h => h) (Or.inl ⟨by rfl, ?_⟩) (by assumption) ?_
            rotate_left
            · intro w hSw
              (try dsimp only at hSw)
              go_simp
              (try with_reducible rfl)
            (try simp only [Act.put, List.getElem_toArray, List.getElem_cons_succ, List.getElem_cons_zero, List.setIfInBounds_toArray, List.set_cons_zero, List.set_cons_succ])
            refine wpAnyH_take (i := 46) (v := ?_) rfl (by kernel_rfl) (by kernel_rfl) (by kernel_rfl) (fun _ _ _ h => h) (Or.inl ⟨by rfl, ?_⟩) (by assumption) ?_
            rotate_left
            · intro w hSw
              (try dsimp only at hSw)
              go_simp
              (try with_reducible rfl)
            (try simp only [Act.put, List.getElem_toArray, List.getElem_cons_succ, List.getElem_cons_zero, List.setIfInBounds_toArray, List.set_cons_zero, List.set_cons_succ])
            refine wpAnyH_take (i := 47) (v := ?_) rfl (by kernel_rfl) (by kernel_rfl) (by kernel_rfl) (fun _ _ _ h => h) (Or.inl ⟨by rfl, ?_⟩) (by assumption) ?_
            rotate_left
            · intro w hSw
              (try dsimp only at hSw)
              go_simp
              (try with_reducible rfl)
            (try simp only [Act.put, List.getElem_toArray, List.getElem_cons_succ, List.getElem_cons_zero, List.setIfInBounds_toArray, List.set_cons_zero, List.set_cons_succ])
            refine wpAnyH_take (i := 48) (v := ?_) rfl (by kernel_rfl) (by kernel_rfl) (by kernel_rfl) (fun _ _ _ h => h) (Or.inl ⟨by rfl, ?_⟩) (by assumption) ?_
            rotate_left
            · intro w hSw
              (try dsimp only at hSw)
              go_simp
              (try with_reducible rfl)
            (try simp only [Act.put, List.getElem_toArray, List.getElem_cons_succ, List.getElem_cons_zero, List.setIfInBounds_toArray, List.set_cons_zero, List.set_cons_succ])
            refine wpAnyH_take (i := 49) (v := ?_) rfl (by kernel_rfl) (by kernel_rfl) (by kernel_rfl) (fun _ _ _ h => h) (Or.inl ⟨by rfl, ?_⟩) (by assumption) ?_
            rotate_left
            · intro w hSw
              (try dsimp only at hSw)
              go_simp
              (try with_reducible rfl)
            (try simp only [Act.put, List.getElem_toArray, List.getElem_cons_succ, List.getElem_cons_zero, List.setIfInBounds_toArray, List.set_cons_zero, List.set_cons_succ])
            refine wpAnyH_take (i := 50) (v := ?_) rfl (by kernel_rfl) (by kernel_rfl) (by kernel_rfl) (fun _ _ _ h => h) (Or.inl ⟨by rfl, ?_⟩) (by assumption) ?_
            rotate_left
            · intro w hSw
              (try dsimp only at hSw)
              go_simp
              (try with_reducible rfl)
            (try simp only [Act.put, List.getElem_toArray, List.getElem_cons_succ, List.getElem_cons_zero, List.setIfInBounds_toArray, List.set_cons_zero, List.set_cons_succ])
            refine wpAnyH_ready (rs := [51]) (by kernel_rfl) (by simp) ?_
            refine AllReadyH.cons rfl (fun K hK => ?_) AllReadyH.nil
            go_simp
            refine (valid_any erem _ (by exact HRS.out) (by exact HTQ.out)).mono ?_
            rintro e w1 ⟨u1, rfl, hb1⟩
            go_wp2_with fail
            refine hK.out _ _ ?_ (fun hHeld => ?_)
            · (try dsimp only)
              exact ⟨keeps hb1 hHeld.1, keeps hb1 hHeld.2.1, keeps hb1 hHeld.2.2.1, keeps hb1 hHeld.2.2.2⟩
            clear hK K
            (try simp only [Act.put, List.getElem_toArray, List.getElem_cons_succ, List.getElem_cons_zero, List.setIfInBounds_toArray, List.set_cons_zero, List.set_cons_succ])
            refine wpAnyH_take (i := 52) (v := ?_) rfl (by kernel_rfl) (by kernel_rfl) (by kernel_rfl) (fun _ _ _ h => h) (Or.inl ⟨by rfl, ?_⟩) (by assumption) ?_
            rotate_left
            · intro w hSw
              (try dsimp only at hSw)
              go_simp
              (try with_reducible rfl)
            (try simp only [Act.put, List.getElem_toArray, List.getElem_cons_succ, List.getElem_cons_zero, List.setIfInBounds_toArray, List.set_cons_zero, List.set_cons_succ])
            refine wpAnyH_take (i := 53) (v := ?_) rfl (by kernel_rfl) (by kernel_rfl) (by kernel_rfl) (fun _ _ _ h => h) (Or.inl ⟨by rfl, ?_⟩) (by assumption) ?_
            rotate_left
            · intro w hSw
              (try dsimp only at hSw)
              go_simp
              (try with_reducible rfl)
            (try simp only [Act.put, List.getElem_toArray, List.getElem_cons_succ, List.getElem_cons_zero, List.setIfInBounds_toArray, List.set_cons_zero, List.set_cons_succ])
            refine wpAnyH_done (by kernel_rfl) ?_ _
            have HB1 := Lib.hid ((HB.out.drew).trans (hb1.mono (HB.out.size)))
            clear hHeld hb1
            cases u1 with
            | false =>
              go_wp2_with fail
              go_ret
              exact ⟨false, rfl, by simp, HB1.out⟩
            | true =>
              go_wp2_with fail
              go_loopw [4] (fun vi wr => ∃ j : Nat, vi = .int .i64 j ∧ j ≤ em ∧ Below w.heap.size w wr) (fun vi _ => em - (intOf vi).toNat)
              case atStart => exact ⟨0, rfl, Nat.zero_le _, HB1.out⟩
              case round =>
                obtain ⟨j, rfl, hj, hb2⟩ := hrel
                obtain ⟨wz, rfl⟩ : ∃ wz, wz = wr := ⟨_, rfl⟩
                have HB2 := Lib.hid hb2
                clear G HTQ HB1
                obtain ⟨g0, g1, g2, g3⟩ := row_at H.out hb2 HEK.out
                clear hb2
                dsimp only at g0 g1 g2 g3
                obtain rfl : j = em := by omega
                have hl : ehs.length = j := by have := HOK.out.hides.1; simpa using this
                have HL := Lib.hid hl
                have HZ := Lib.hid hz
                clear hl hz hz'
                go_wp2_with fail
                go_roundw
                case rel =>
                  refine ⟨k + 1, by go_num, by omega, fun x e hx hxe => ?_, HB2.out⟩
                  by_cases hxk : x < k
                  · exact HG.out x e hxk hxe
                  · obtain rfl : x = k := by omega
                    rw [HEK.out] at hxe
                    cases hxe
                    refine ⟨rfl, fun h hh => ?_⟩
                    obtain ⟨y, hy⟩ := List.getElem?_of_mem hh
                    have := (List.getElem?_eq_some_iff.1 hy).1; have := HL.out; have := HZ.out; simp only at *; omega
                case measure => simp [intOf]; omega
          · have hz' : 0 < em := by omega
            go_wp2_with fail
            go_quiet (fail)
            go_wp2_with fail
            go_ret
            exact ⟨false, rfl, by simp, below_drewN HB.out _⟩
        | false =>
          by_cases hz : erem = ⟨#[]⟩
          · subst hz
            go_wp2_with fail
            refine wp_region_held_drew (S := fun w' => w'.cell? (ad.add (k * 4)) = some (.bool false) ∧ w'.cell? ⟨(ad.add (k * 4)).block, (ad.add (k * 4)).off + 1, none⟩ = some (.string ⟨#[]⟩) ∧ w'.cell? ⟨(ad.add (k * 4)).block, (ad.add (k * 4)).off + 2, none⟩ = some (.slice eA em ec) ∧ w'.cell? ⟨(ad.add (k * 4)).block, (ad.add (k * 4)).off + 3, none⟩ = some (.slice eB em ed)) (by kernel_rfl) ?_ (fun hHeld => ?_)
            · (try dsimp only)
              exact G.out
            refine wpAnyH_take (i := 0) (v := ?_) rfl (by kernel_rfl) (by kernel_rfl) (by kernel_rfl) (fun _ _ _ h => h) (Or.inl ⟨by rfl, ?_⟩) (by assumption) ?_
            rotate_left
            · intro w hSw
              (try dsimp only at hSw)
              go_simp
              (try with_reducible rfl)
            (try simp only [Act.put, List.getElem_toArray, List.getElem_cons_zero, List.setIfInBounds_toArray, List.set_cons_zero, List.set_cons_succ])
            refine wpAnyH_take (i := 1) (v := ?_) rfl (by kernel_rfl) (by kernel_rfl) (by kernel_rfl) (fun _ _ _ h => h) (Or.inl ⟨by rfl, ?_⟩) (by assumption) ?_
            rotate_left
            · intro w hSw
              (try dsimp only at hSw)
              go_simp
              (try with_reducible rfl)
            (try simp only [Act.put, List.getElem_toArray, List.getElem_cons_succ, List.getElem_cons_zero, List.setIfInBounds_toArray, List.set_cons_zero, List.set_cons_succ])
            refine wpAnyH_take (i := 2) (v := ?_) rfl (by kernel_rfl) (by kernel_rfl) (by kernel_rfl) (fun _ _ _ h => h) (Or.inl ⟨by rfl, ?_⟩) (by assumption) ?_
            rotate_left
            · intro w hSw
              (try dsimp only at hSw)
              go_simp
              (try with_reducible rfl)
            (try simp only [Act.put, List.getElem_toArray, List.getElem_cons_succ, List.getElem_cons_zero, List.setIfInBounds_toArray, List.set_cons_zero, List.set_cons_succ])
            refine wpAnyH_take (i := 3) (v := ?_) rfl (by kernel_rfl) (by kernel_rfl) (by kernel_rfl) (fun _ _ _ h => h) (Or.inl ⟨by rfl, ?_⟩) (by assumption) ?_
            rotate_left
            · intro w hSw
              (try dsimp only at hSw)
              go_simp
              (try with_reducible rfl)
            (try simp only [Act.put, List.getElem_toArray, List.getElem_cons_succ, List.getElem_cons_zero, List.setIfInBounds_toArray, List.set_cons_zero, List.set_cons_succ])
            refine wpAnyH_take (i := 4) (v := ?_) rfl (by kernel_rfl) (by kernel_rfl) (by kernel_rfl) (fun _ _ _ h => h) (Or.inl ⟨by rfl, ?_⟩) (by assumption) ?_
            rotate_left
            · intro w hSw
              (try dsimp only at hSw)
              go_simp
              (try with_reducible rfl)
            (try simp only [Act.put, List.getElem_toArray, List.getElem_cons_succ, List.getElem_cons_zero, List.setIfInBounds_toArray, List.set_cons_zero, List.set_cons_succ])
            refine wpAnyH_take (i := 5) (v := ?_) rfl (by kernel_rfl) (by kernel_rfl) (by kernel_rfl) (fun _ _ _ h => h) (Or.inl ⟨by rfl, ?_⟩) (by assumption) ?_
            rotate_left
            · intro w hSw
              (try dsimp only at hSw)
              go_simp
              (try with_reducible rfl)
            (try simp only [Act.put, List.getElem_toArray, List.getElem_cons_succ, List.getElem_cons_zero, List.setIfInBounds_toArray, List.set_cons_zero, List.set_cons_succ])
            refine wpAnyH_take (i := 6) (v := ?_) rfl (by kernel_rfl) (by kernel_rfl) (by kernel_rfl) (fun _ _ _ h => h) (Or.inl ⟨by rfl, ?_⟩) (by assumption) ?_
            rotate_left
            · intro w hSw
              (try dsimp only at hSw)
              go_simp
              (try with_reducible rfl)
            (try simp only [Act.put, List.getElem_toArray, List.getElem_cons_succ, List.getElem_cons_zero, List.setIfInBounds_toArray, List.set_cons_zero, List.set_cons_succ])
            refine wpAnyH_take (i := 7) (v := ?_) rfl (by kernel_rfl) (by kernel_rfl) (by kernel_rfl) (fun _ _ _ h => h) (Or.inl ⟨by rfl, ?_⟩) (by assumption) ?_
            rotate_left
            · intro w hSw
              (try dsimp only at hSw)
              go_simp
              (try with_reducible rfl)
            (try simp only [Act.put, List.getElem_toArray, List.getElem_cons_succ, List.getElem_cons_zero, List.setIfInBounds_toArray, List.set_cons_zero, List.set_cons_succ])
            refine wpAnyH_take (i := 8) (v := ?_) rfl (by kernel_rfl) (by kernel_rfl) (by kernel_rfl) (fun _ _ _ h => h) (Or.inl ⟨by rfl, ?_⟩) (by assumption) ?_
            rotate_left
            · intro w hSw
              (try dsimp only at hSw)
              go_simp
              (try with_reducible rfl)
            (try simp only [Act.put, List.getElem_toArray, List.getElem_cons_succ, List.getElem_cons_zero, List.setIfInBounds_toArray, List.set_cons_zero, List.set_cons_succ])
            refine wpAnyH_take (i := 9) (v := ?_) rfl (by kernel_rfl) (by kernel_rfl) (by kernel_rfl) (fun _ _ _ h => h) (Or.inl ⟨by rfl, ?_⟩) (by assumption) ?_
            rotate_left
            · intro w hSw
              (try dsimp only at hSw)
              go_simp
              (try with_reducible rfl)
            (try simp only [Act.put, List.getElem_toArray, List.getElem_cons_succ, List.getElem_cons_zero, List.setIfInBounds_toArray, List.set_cons_zero, List.set_cons_succ])
            refine wpAnyH_take (i := 10) (v := ?_) rfl (by kernel_rfl) (by kernel_rfl) (by kernel_rfl) (fun _ _ _ h => h) (Or.inl ⟨by rfl, ?_⟩) (by assumption) ?_
            rotate_left
            · intro w hSw
              (try dsimp only at hSw)
              go_simp
              (try with_reducible rfl)
            (try simp only [Act.put, List.getElem_toArray, List.getElem_cons_succ, List.getElem_cons_zero, List.setIfInBounds_toArray, List.set_cons_zero, List.set_cons_succ])
            refine wpAnyH_take (i := 11) (v := ?_) rfl (by kernel_rfl) (by kernel_rfl) (by kernel_rfl) (fun _ _ _ h => h) (Or.inl ⟨by rfl, ?_⟩) (by assumption) ?_
            rotate_left
            · intro w hSw
              (try dsimp only at hSw)
              go_simp
              (try with_reducible rfl)
            (try simp only [Act.put, List.getElem_toArray, List.getElem_cons_succ, List.getElem_cons_zero, List.setIfInBounds_toArray, List.set_cons_zero, List.set_cons_succ])
            refine wpAnyH_take (i := 12) (v := ?_) rfl (by kernel_rfl) (by kernel_rfl) (by kernel_rfl) (fun _ _ _ h => h) (Or.inl ⟨by rfl, ?_⟩) (by assumption) ?_
            rotate_left
            · intro w hSw
              (try dsimp only at hSw)
              go_simp
              (try with_reducible rfl)
            (try simp only [Act.put, List.getElem_toArray, List.getElem_cons_succ, List.getElem_cons_zero, List.setIfInBounds_toArray, List.set_cons_zero, List.set_cons_succ])
            refine wpAnyH_take (i := 13) (v := ?_) rfl (by kernel_rfl) (by kernel_rfl) (by kernel_rfl) (fun _ _ _ h => h) (Or.inl ⟨by rfl, ?_⟩) (by assumption) ?_
            rotate_left
            · intro w hSw
              (try dsimp only at hSw)
              go_simp
              (try with_reducible rfl)
            (try simp only [Act.put, List.getElem_toArray, List.getElem_cons_succ, List.getElem_cons_zero, List.setIfInBounds_toArray, List.set_cons_zero, List.set_cons_succ])
            refine wpAnyH_take (i := 14) (v := ?_) rfl (by kernel_rfl) (by kernel_rfl) (by kernel_rfl) (fun _ _ _ h => h) (Or.inl ⟨by rfl, ?_⟩) (by assumption) ?_
            rotate_left
            · intro w hSw
              (try dsimp only at hSw)
              go_simp
              (try with_reducible rfl)
            (try simp only [Act.put, List.getElem_toArray, List.getElem_cons_succ, List.getElem_cons_zero, List.setIfInBounds_toArray, List.set_cons_zero, List.set_cons_succ])
            refine wpAnyH_take (i := 15) (v := ?_) rfl (by kernel_rfl) (by kernel_rfl) (by kernel_rfl) (fun _ _ _ h => h) (Or.inl ⟨by rfl, ?_⟩) (by assumption) ?_
            rotate_left
            · intro w hSw
              (try dsimp only at hSw)
              go_simp
              (try with_reducible rfl)
            (try simp only [Act.put, List.getElem_toArray, List.getElem_cons_succ, List.getElem_cons_zero, List.setIfInBounds_toArray, List.set_cons_zero, List.set_cons_succ])
            refine wpAnyH_take (i := 16) (v := ?_) rfl (by kernel_rfl) (by kernel_rfl) (by kernel_rfl) (fun _ _ _ h => h) (Or.inl ⟨by rfl, ?_⟩) (by assumption) ?_
            rotate_left
            · intro w hSw
              (try dsimp only at hSw)
              go_simp
              (try with_reducible rfl)
            (try simp only [Act.put, List.getElem_toArray, List.getElem_cons_succ, List.getElem_cons_zero, List.setIfInBounds_toArray, List.set_cons_zero, List.set_cons_succ])
            refine wpAnyH_take (i := 17) (v := ?_) rfl (by kernel_rfl) (by kernel_rfl) (by kernel_rfl) (fun _ _ _ h => h) (Or.inl ⟨by rfl, ?_⟩) (by assumption) ?_
            rotate_left
            · intro w hSw
              (try dsimp only at hSw)
              go_simp
              (try with_reducible rfl)
            (try simp only [Act.put, List.getElem_toArray, List.getElem_cons_succ, List.getElem_cons_zero, List.setIfInBounds_toArray, List.set_cons_zero, List.set_cons_succ])
            refine wpAnyH_take (i := 18) (v := ?_) rfl (by kernel_rfl) (by kernel_rfl) (by kernel_rfl) (fun _ _ _ h => h) (Or.inl ⟨by rfl, ?_⟩) (by assumption) ?_
            rotate_left
            · intro w hSw
              (try dsimp only at hSw)
              go_simp
              (try with_reducible rfl)
            (try simp only [Act.put, List.getElem_toArray, List.getElem_cons_succ, List.getElem_cons_zero, List.setIfInBounds_toArray, List.set_cons_zero, List.set_cons_succ])
            refine wpAnyH_take (i := 19) (v := ?_) rfl (by kernel_rfl) (by kernel_rfl) (by kernel_rfl) (fun _ _ _ h => h) (Or.inl ⟨by rfl, ?_⟩) (by assumption) ?_
            rotate_left
            · intro w hSw
              (try dsimp only at hSw)
              go_simp
              (try with_reducible rfl)
            (try simp only [Act.put, List.getElem_toArray, List.getElem_cons_succ, List.getElem_cons_zero, List.setIfInBounds_toArray, List.set_cons_zero, List.set_cons_succ])
            refine wpAnyH_take (i := 20) (v := undef) rfl (by kernel_rfl) (by kernel_rfl) (by kernel_rfl) (fun _ _ _ h => h) (Or.inr ⟨by rfl, by rfl⟩) (by assumption) ?_
            (try simp only [Act.put, List.getElem_toArray, List.getElem_cons_succ, List.getElem_cons_zero, List.setIfInBounds_toArray, List.set_cons_zero, List.set_cons_succ])
            refine wpAnyH_take (i := 21) (v := undef) rfl (by kernel_rfl) (by kernel_rfl) (by kernel_rfl) (fun _ _ _ h => h) (Or.inr ⟨by rfl, by rfl⟩) (by assumption) ?_
            (try simp only [Act.put, List.getElem_toArray, List.getElem_cons_succ, List.getElem_cons_zero, List.setIfInBounds_toArray, List.set_cons_zero, List.set_cons_succ])
            refine wpAnyH_take (i := 22) (v := undef) rfl (by kernel_rfl) (by kernel_rfl) (by kernel_rfl) (fun _ _ _ h => h) (Or.inr ⟨by rfl, by rfl⟩) (by assumption) ?_
            (try simp only [Act.put, List.getElem_toArray, List.getElem_cons_succ, List.getElem_cons_zero, List.setIfInBounds_toArray, List.set_cons_zero, List.set_cons_succ])
            refine wpAnyH_take (i := 23) (v := undef) rfl (by kernel_rfl) (by kernel_rfl) (by kernel_rfl) (fun _ _ _ h => h) (Or.inr ⟨by rfl, by rfl⟩) (by assumption) ?_
            (try simp only [Act.put, List.getElem_toArray, List.getElem_cons_succ, List.getElem_cons_zero, List.setIfInBounds_toArray, List.set_cons_zero, List.set_cons_succ])
            refine wpAnyH_take (i := 24) (v := undef) rfl (by kernel_rfl) (by kernel_rfl) (by kernel_rfl) (fun _ _ _ h => h) (Or.inr ⟨by rfl, by rfl⟩) (by assumption) ?_
            (try simp only [Act.put, List.getElem_toArray, List.getElem_cons_succ, List.getElem_cons_zero, List.setIfInBounds_toArray, List.set_cons_zero, List.set_cons_succ])
            refine wpAnyH_take (i := 25) (v := undef) rfl (by kernel_rfl) (by kernel_rfl) (by kernel_rfl) (fun _ _ _ h => h) (Or.inr ⟨by rfl, by rfl⟩) (by assumption) ?_
            (try simp only [Act.put, List.getElem_toArray, List.getElem_cons_succ, List.getElem_cons_zero, List.setIfInBounds_toArray, List.set_cons_zero, List.set_cons_succ])
            refine wpAnyH_take (i := 26) (v := undef) rfl (by kernel_rfl) (by kernel_rfl) (by kernel_rfl) (fun _ _ _ h => h) (Or.inr ⟨by rfl, by rfl⟩) (by assumption) ?_
            (try simp only [Act.put, List.getElem_toArray, List.getElem_cons_succ, List.getElem_cons_zero, List.setIfInBounds_toArray, List.set_cons_zero, List.set_cons_succ])
            refine wpAnyH_take (i := 27) (v := ?_) rfl (by kernel_rfl) (by kernel_rfl) (by kernel_rfl) (fun _ _ _ h => h) (Or.inl ⟨by rfl, ?_⟩) (by assumption) ?_
            rotate_left
            · intro w hSw
              (try dsimp only at hSw)
              go_simp
              (try with_reducible rfl)
            (try simp only [Act.put, List.getElem_toArray, List.getElem_cons_succ, List.getElem_cons_zero, List.setIfInBounds_toArray, List.set_cons_zero, List.set_cons_succ])
            refine wpAnyH_take (i := 28) (v := ?_) rfl (by kernel_rfl) (by kernel_rfl) (by kernel_rfl) (fun _ _ _ h => h) (Or.inl ⟨by rfl, ?_⟩) (by assumption) ?_
            rotate_left
            · intro w hSw
              (try dsimp only at hSw)
              go_simp
              (try with_reducible rfl)
            (try simp only [Act.put, List.getElem_toArray, List.getElem_cons_succ, List.getElem_cons_zero, List.setIfInBounds_toArray, List.set_cons_zero, List.set_cons_succ])
            refine wpAnyH_take (i := 29) (v := ?_) rfl (by kernel_rfl) (by kernel_rfl) (by kernel_rfl) (fun _ _ _ h => h) (Or.inl ⟨by rfl, ?_⟩) (by assumption) ?_
            rotate_left
            · intro w hSw
              (try dsimp only at hSw)
              go_simp
              (try with_reducible rfl)
            (try simp only [Act.put, List.getElem_toArray, List.getElem_cons_succ, List.getElem_cons_zero, List.setIfInBounds_toArray, List.set_cons_zero, List.set_cons_succ])
            refine wpAnyH_take (i := 30) (v := ?_) rfl (by kernel_rfl) (by kernel_rfl) (by kernel_rfl) (fun _ _ _ h => h) (Or.inl ⟨by rfl, ?_⟩) (by assumption) ?_
            rotate_left
            · intro w hSw
              (try dsimp only at hSw)
              go_simp
              (try with_reducible rfl)
            (try simp only [Act.put, List.getElem_toArray, List.getElem_cons_succ, List.getElem_cons_zero, List.setIfInBounds_toArray, List.set_cons_zero, List.set_cons_succ])
            refine wpAnyH_take (i := 31) (v := ?_) rfl (by kernel_rfl) (by kernel_rfl) (by kernel_rfl) (fun _ _ _ h => h) (Or.inl ⟨by rfl, ?_⟩) (by assumption) ?_
            rotate_left
            · intro w hSw
              (try dsimp only at hSw)
              go_simp
              (try with_reducible rfl)
            (try simp only [Act.put, List.getElem_toArray, List.getElem_cons_succ, List.getElem_cons_zero, List.setIfInBounds_toArray, List.set_cons_zero, List.set_cons_succ])
            refine wpAnyH_take (i := 32) (v := ?_) rfl (by kernel_rfl) (by kernel_rfl) (by kernel_rfl) (fun _ _ _ h => h) (Or.inl ⟨by rfl, ?_⟩) (by assumption) ?_
            rotate_left
            · intro w hSw
              (try dsimp only at hSw)
              go_simp
              (try with_reducible rfl)
            (try simp only [Act.put, List.getElem_toArray, List.getElem_cons_succ, List.getElem_cons_zero, List.setIfInBounds_toArray, List.set_cons_zero, List.set_cons_succ])
            refine wpAnyH_take (i := 33) (v := ?_) rfl (by kernel_rfl) (by kernel_rfl) (by kernel_rfl) (fun _ _ _ h => h) (Or.inl ⟨by rfl, ?_⟩) (by assumption) ?_
            rotate_left
            · intro w hSw
              (try dsimp only at hSw)
              go_simp
              (try with_reducible rfl)
            (try simp only [Act.put, List.getElem_toArray, List.getElem_cons_succ, List.getElem_cons_zero, List.setIfInBounds_toArray, List.set_cons_zero, List.set_cons_succ])
            refine wpAnyH_take (i := 34) (v := ?_) rfl (by kernel_rfl) (by kernel_rfl) (by kernel_rfl) (fun _ _ _ h => h) (Or.inl ⟨by rfl, ?_⟩) (by assumption) ?_
            rotate_left
            · intro w hSw
              (try dsimp only at hSw)
              go_simp
              (try with_reducible rfl)
            (try simp only [Act.put, List.getElem_toArray, List.getElem_cons_succ, List.getElem_cons_zero, List.setIfInBounds_toArray, List.set_cons_zero, List.set_cons_succ])
            refine wpAnyH_take (i := 35) (v := ?_) rfl (by kernel_rfl) (by kernel_rfl) (by kernel_rfl) (fun _ _ _ h => h) (Or.inl ⟨by rfl, ?_⟩) (by assumption) ?_
            rotate_left
            · intro w hSw
              (try dsimp only at hSw)
              go_simp
              (try with_reducible rfl)
            (try simp only [Act.put, List.getElem_toArray, List.getElem_cons_succ, List.getElem_cons_zero, List.setIfInBounds_toArray, List.set_cons_zero, List.set_cons_succ])
            refine wpAnyH_take (i := 36) (v := ?_) rfl (by kernel_rfl) (by kernel_rfl) (by kernel_rfl) (fun _ _ _ h => h) (Or.inl ⟨by rfl, ?_⟩) (by assumption) ?_
            rotate_left
            · intro w hSw
              (try dsimp only at hSw)
              go_simp
              (try with_reducible rfl)
            (try simp only [Act.put, List.getElem_toArray, List.getElem_cons_succ, List.getElem_cons_zero, List.setIfInBounds_toArray, List.set_cons_zero, List.set_cons_succ])
            refine wpAnyH_take (i := 37) (v := ?_) rfl (by kernel_rfl) (by kernel_rfl) (by kernel_rfl) (fun _ _ _ h => h) (Or.inl ⟨by rfl, ?_⟩) (by assumption) ?_
            rotate_left
            · intro w hSw
              (try dsimp only at hSw)
              go_simp
              (try with_reducible rfl)
            (try simp only [Act.put, List.getElem_toArray, List.getElem_cons_succ, List.getElem_cons_zero, List.setIfInBounds_toArray, List.set_cons_zero, List.set_cons_succ])
            refine wpAnyH_take (i := 38) (v := ?_) rfl (by kernel_rfl) (by kernel_rfl) (by kernel_rfl) (fun _ _ _ h => h) (Or.inl ⟨by rfl, ?_⟩) (by assumption) ?_
            rotate_left
            · intro w hSw
              (try dsimp only at hSw)
              go_simp
              (try with_reducible rfl)
            (try simp only [Act.put, List.getElem_toArray, List.getElem_cons_succ, List.getElem_cons_zero, List.setIfInBounds_toArray, List.set_cons_zero, List.set_cons_succ])
            refine wpAnyH_take (i := 39) (v := ?_) rfl (by kernel_rfl) (by kernel_rfl) (by kernel_rfl) (fun _ _ _ h => h) (Or.inl ⟨by rfl, ?_⟩) (by assumption) ?_
            rotate_left
            · intro w hSw
              (try dsimp only at hSw)
              go_simp
              (try with_reducible rfl)
            (try simp only [Act.put, List.getElem_toArray, List.getElem_cons_succ, List.getElem_cons_zero, List.setIfInBounds_toArray, List.set_cons_zero, List.set_cons_succ])
            refine wpAnyH_take (i := 40) (v := ?_) rfl (by kernel_rfl) (by kernel_rfl) (by kernel_rfl) (fun _ _ _ h => h) (Or.inl ⟨by rfl, ?_⟩) (by assumption) ?_
            rotate_left
            · intro w hSw
              (try dsimp only at hSw)
              go_simp
              (try with_reducible rfl)
            (try simp only [Act.put, List.getElem_toArray, List.getElem_cons_succ, List.getElem_cons_zero, List.setIfInBounds_toArray, List.set_cons_zero, List.set_cons_succ])
            refine wpAnyH_take (i := 41) (v := ?_) rfl (by kernel_rfl) (by kernel_rfl) (by kernel_rfl) (fun _ _ _ h => h) (Or.inl ⟨by rfl, ?_⟩) (by assumption) ?_
            rotate_left
            · intro w hSw
              (try dsimp only at hSw)
              go_simp
              (try with_reducible rfl)
            (try simp only [Act.put, List.getElem_toArray, List.getElem_cons_succ, List.getElem_cons_zero, List.setIfInBounds_toArray, List.set_cons_zero, List.set_cons_succ])
            refine wpAnyH_take (i := 42) (v := ?_) rfl (by kernel_rfl) (by kernel_rfl) (by kernel_rfl) (fun _ _ _ h => h) (Or.inl ⟨by rfl, ?_⟩) (by assumption) ?_
            rotate_left
            · intro w hSw
              (try dsimp only at hSw)
              go_simp
              (try with_reducible rfl)
            (try simp only [Act.put, List.getElem_toArray, List.getElem_cons_succ, List.getElem_cons_zero, List.setIfInBounds_toArray, List.set_cons_zero, List.set_cons_succ])
            refine wpAnyH_take (i := 43) (v := ?_) rfl (by kernel_rfl) (by kernel_rfl) (by kernel_rfl) (fun _ _ _ h => h) (Or.inl ⟨by rfl, ?_⟩) (by assumption) ?_
            rotate_left
            · intro w hSw
              (try dsimp only at hSw)
              go_simp
              (try with_reducible rfl)
            (try simp only [Act.put, List.getElem_toArray, List.getElem_cons_succ, List.getElem_cons_zero, List.setIfInBounds_toArray, List.set_cons_zero, List.set_cons_succ])
            refine wpAnyH_take (i := 44) (v := ?_) rfl (by kernel_rfl) (by kernel_rfl) (by kernel_rfl) (fun _ _ _ h => h) (Or.inl ⟨by rfl, ?_⟩) (by assumption) ?_
            rotate_left
            · intro w hSw
              (try dsimp only at hSw)
              go_simp
              (try with_reducible rfl)
            (try simp only [Act.put, List.getElem_toArray, List.getElem_cons_succ, List.getElem_cons_zero, List.setIfInBounds_toArray, List.set_cons_zero, List.set_cons_succ])
            refine wpAnyH_take (i := 45) (v := ?_) rfl (by kernel_rfl) (by kernel_rfl) (by kernel_rfl) (fun _ _ _ h => h) (Or.inl ⟨by rfl, ?_⟩) (by assumption) ?_
            rotate_left
            · intro w hSw
              (try dsimp only at hSw)
              go_simp
              (try with_reducible rfl)
            (try simp only [Act.put, List.getElem_toArray, List.getElem_cons_succ, List.getElem_cons_zero, List.setIfInBounds_toArray, List.set_cons_zero, List.set_cons_succ])
            refine wpAnyH_take (i := 46) (v := ?_) rfl (by kernel_rfl) (by kernel_rfl) (by kernel_rfl) (fun _ _ _ h => h) (Or.inl ⟨by rfl, ?_⟩) (by assumption) ?_
            rotate_left
            · intro w hSw
              (try dsimp only at hSw)
              go_simp
              (try with_reducible rfl)
            (try simp only [Act.put, List.getElem_toArray, List.getElem_cons_succ, List.getElem_cons_zero, List.setIfInBounds_toArray, List.set_cons_zero, List.set_cons_succ])
            refine wpAnyH_take (i := 47) (v := ?_) rfl (by kernel_rfl) (by kernel_rfl) (by kernel_rfl) (fun _ _ _ h => h) (Or.inl ⟨by rfl, ?_⟩) (by assumption) ?_
            rotate_left
            · intro w hSw
              (try dsimp only at hSw)
              go_simp
              (try with_reducible rfl)
            (try simp only [Act.put, List.getElem_toArray, List.getElem_cons_succ, List.getElem_cons_zero, List.setIfInBounds_toArray, List.set_cons_zero, List.set_cons_succ])
            refine wpAnyH_take (i := 48) (v := ?_) rfl (by kernel_rfl) (by kernel_rfl) (by kernel_rfl) (fun _ _ _ h => h) (Or.inl ⟨by rfl, ?_⟩) (by assumption) ?_
            rotate_left
            · intro w hSw
              (try dsimp only at hSw)
              go_simp
              (try with_reducible rfl)
            (try simp only [Act.put, List.getElem_toArray, List.getElem_cons_succ, List.getElem_cons_zero, List.setIfInBounds_toArray, List.set_cons_zero, List.set_cons_succ])
            refine wpAnyH_take (i := 49) (v := ?_) rfl (by kernel_rfl) (by kernel_rfl) (by kernel_rfl) (fun _ _ _ h => h) (Or.inl ⟨by rfl, ?_⟩) (by assumption) ?_
            rotate_left
            · intro w hSw
              (try dsimp only at hSw)
              go_simp
              (try with_reducible rfl)
            (try simp only [Act.put, List.getElem_toArray, List.getElem_cons_succ, List.getElem_cons_zero, List.setIfInBounds_toArray, List.set_cons_zero, List.set_cons_succ])
            refine wpAnyH_take (i := 50) (v := ?_) rfl (by kernel_rfl) (by kernel_rfl) (by kernel_rfl) (fun _ _ _ h => h) (Or.inl ⟨by rfl, ?_⟩) (by assumption) ?_
            rotate_left
            · intro w hSw
              (try dsimp only at hSw)
              go_simp
              (try with_reducible rfl)
            (try simp only [Act.put, List.getElem_toArray, List.getElem_cons_succ, List.getElem_cons_zero, List.setIfInBounds_toArray, List.set_cons_zero, List.set_cons_succ])
            refine wpAnyH_ready (rs := [51]) (by kernel_rfl) (by simp) ?_
            refine AllReadyH.cons rfl (fun K hK => ?_) AllReadyH.nil
            go_simp
            refine (valid_any ⟨#[]⟩ _ (by exact HRS.out) (by exact HTQ.out)).mono ?_
            rintro e w1 ⟨u1, rfl, hb1⟩
            go_wp2_with fail
            refine hK.out _ _ ?_ (fun hHeld => ?_)
            · (try dsimp only)
              exact ⟨keeps hb1 hHeld.1, keeps hb1 hHeld.2.1, keeps hb1 hHeld.2.2.1, keeps hb1 hHeld.2.2.2⟩
            clear hK K
            (try simp only [Act.put, List.getElem_toArray, List.getElem_cons_succ, List.getElem_cons_zero, List.setIfInBounds_toArray, List.set_cons_zero, List.set_cons_succ])
            refine wpAnyH_take (i := 52) (v := ?_) rfl (by kernel_rfl) (by kernel_rfl) (by kernel_rfl) (fun _ _ _ h => h) (Or.inl ⟨by rfl, ?_⟩) (by assumption) ?_
            rotate_left
            · intro w hSw
              (try dsimp only at hSw)
              go_simp
              (try with_reducible rfl)
            (try simp only [Act.put, List.getElem_toArray, List.getElem_cons_succ, List.getElem_cons_zero, List.setIfInBounds_toArray, List.set_cons_zero, List.set_cons_succ])
            refine wpAnyH_take (i := 53) (v := ?_) rfl (by kernel_rfl) (by kernel_rfl) (by kernel_rfl) (fun _ _ _ h => h) (Or.inl ⟨by rfl, ?_⟩) (by assumption) ?_
            rotate_left
            · intro w hSw
              (try dsimp only at hSw)
              go_simp
              (try with_reducible rfl)
            (try simp only [Act.put, List.getElem_toArray, List.getElem_cons_succ, List.getElem_cons_zero, List.setIfInBounds_toArray, List.set_cons_zero, List.set_cons_succ])
            refine wpAnyH_done (by kernel_rfl) ?_ _
            have HB1 := Lib.hid ((HB.out.drew).trans (hb1.mono (HB.out.size)))
            clear hHeld hb1
            cases u1 with
            | false =>
              go_wp2_with fail
              go_ret
              exact ⟨false, rfl, by simp, HB1.out⟩
            | true =>
              simp only [Bool.not_true]
              go_wp2_with fail
              go_loopw [4] (fun vi wr => ∃ j : Nat, vi = .int .i64 j ∧ j ≤ em ∧ (∀ (i : Nat) h, i < j → ehs[i]? = some h → h = 0 ∨ h = 1 ∨ h = 2) ∧ Below w.heap.size w wr) (fun vi _ => em - (intOf vi).toNat)
              case atStart => exact ⟨0, rfl, Nat.zero_le _, fun i h hi => absurd hi (by omega), HB1.out⟩
              case round =>
                obtain ⟨j, rfl, hj, hsee, hb2⟩ := hrel
                obtain ⟨wz, rfl⟩ : ∃ wz, wz = wr := ⟨_, rfl⟩
                have HS := Lib.hid hsee
                have HB2 := Lib.hid hb2
                clear hsee G HTQ HB1
                obtain ⟨g0, g1, g2, g3⟩ := row_at H.out hb2 HEK.out
                clear hb2
                dsimp only at g0 g1 g2 g3
                by_cases hjm : j < em
                · obtain ⟨na, u, hA, hab, hu, hcw⟩ := HOK.out.names.at_ hjm
                  obtain ⟨nm, hnm, rfl⟩ := map_at hu
                  obtain ⟨ha, u, hB, hbb, hu2, hcu2⟩ := ((HOK.out.hides).below HB2.out).at_ hjm
                  obtain ⟨hd, hhd, rfl⟩ := map_at hu2
                  dsimp only at hA hB hnm hhd
                  subst hA hB
                  have hcu := keeps HB2.out hcw
                  have HCW := Lib.hid hcw
                  have HHD := Lib.hid hhd
                  have HNS := Lib.hid (HOK.out.strs nm (List.mem_of_getElem? hnm))
                  have HTZ := Lib.hid (HT.out.below HB2.out)
                  have hjm' : (j : Int) < em := by omega
                  clear hu hu2 hab hbb hnm hhd hj hcw
                  by_cases h3 : hd = 0 ∨ hd = 1 ∨ hd = 2
                  · have H3 := Lib.hid h3
                    rcases h3 with h3 | h3 | h3
                    all_goals
                      subst h3
                      go_wp2_with fail
                      refine (valid_any nm _ (by exact HNS.out) (by exact HTZ.out)).mono ?_
                      rintro e w3 ⟨u3, rfl, hb3⟩
                      have HB3 := Lib.hid (HB2.out.trans (hb3.mono HB2.out.size))
                      clear hb3 g0 g1 g2 g3
                      cases u3 with
                      | false =>
                        go_wp2_with fail
                        go_ret
                        exact ⟨false, rfl, by simp, HB3.out⟩
                      | true =>
                        go_wp2_with fail
                        go_loopw [6] (fun vi wr => ∃ i : Nat, vi = .int .i64 i ∧ i ≤ j ∧ Below w.heap.size w wr) (fun vi _ => j - (intOf vi).toNat)
                        case atStart => exact ⟨0, rfl, Nat.zero_le _, HB3.out⟩
                        case round =>
                          obtain ⟨i, rfl, hi, hb4⟩ := hrel
                          obtain ⟨wy, rfl⟩ : ∃ wy, wy = wr := ⟨_, rfl⟩
                          have HB4 := Lib.hid hb4
                          obtain ⟨g0, g1, g2, g3⟩ := row_at H.out hb4 HEK.out
                          clear hb4 g0 g1 g3
                          dsimp only at g2
                          by_cases hij : i < j
                          · obtain ⟨na2, u, hA, hab, hu, hcu3⟩ := ((HOK.out.names).below HB4.out).at_ (show i < em by omega)
                            obtain ⟨nm2, hnm2, rfl⟩ := map_at hu
                            dsimp only at hA
                            cases hA
                            have hcu4 := keeps HB4.out HCW.out
                            have hij' : (i : Int) < j := by omega
                            have him' : (i : Int) < em := by omega
                            obtain ⟨q, hq⟩ : ∃ q, (nm2.toList == nm.toList) = q := ⟨_, rfl⟩
                            clear hab hu hcu hcu2 hnm2 hi
                            cases q with
                            | true =>
                              go_wp2_with fail
                              go_quiet (fail)
                              go_wp2_with fail
                              go_ret
                              exact ⟨false, rfl, by simp, below_drewN HB4.out _⟩
                            | false =>
                              go_wp2_with fail
                              go_quiet (fail)
                              go_wp2_with fail
                              go_roundw
                              case rel => exact ⟨i + 1, by go_num, by omega, below_drewN HB4.out _⟩
                              case measure => simp [intOf]; omega
                          · obtain rfl : i = j := by omega
                            clear hcu hcu2 g2
                            go_wp2_with fail
                            go_roundw
                            case rel =>
                              refine ⟨i + 1, by go_num, by omega, fun x h hx hxh => ?_, HB4.out⟩
                              by_cases hxi : x < i
                              · exact HS.out x h hxi hxh
                              · obtain rfl : x = i := by omega
                                have := HHD.out
                                rw [this] at hxh
                                cases hxh
                                simp
                            case measure => simp [intOf]; omega
                  · have x0 : (hd != 0) = true := by simp; omega
                    have x1 : (hd != 1) = true := by simp; omega
                    have x2 : (hd != 2) = true := by simp; omega
                    clear h3
                    go_wp2_with fail
                    go_ret
                    exact ⟨false, rfl, by simp, HB2.out⟩
                · obtain rfl : j = em := by omega
                  have hl : ehs.length = j := by have := HOK.out.hides.1; simpa using this
                  have HL := Lib.hid hl
                  clear hl
                  go_wp2_with fail
                  go_roundw
                  case rel =>
                    refine ⟨k + 1, by go_num, by omega, fun x e hx hxe => ?_, HB2.out⟩
                    by_cases hxk : x < k
                    · exact HG.out x e hxk hxe
                    · obtain rfl : x = k := by omega
                      rw [HEK.out] at hxe
                      cases hxe
                      refine ⟨rfl, fun h hh => ?_⟩
                      obtain ⟨y, hy⟩ := List.getElem?_of_mem hh
                      exact HS.out y h (by have := (List.getElem?_eq_some_iff.1 hy).1; have := HL.out; simp only at *; omega) hy
                  case measure => simp [intOf]; omega
          · have hz' : (erem.toList == []) = false := by
              cases hb : (erem.toList == []) with
              | false => rfl
              | true => exact absurd (no_bytes (by simpa using hb)) hz
            have hz2 : erem.toList.isEmpty = false := by simpa using hz'
            go_wp2_with fail
            go_quiet (fail)
            go_wp2_with fail
            go_ret
            exact ⟨false, rfl, by simp, below_drewN HB.out _⟩
      · have hmn' : ((en : Int) != (em : Int)) = true := by simp; omega
        go_wp2_with fail
        go_quiet (fail)
        go_wp2_with fail
        go_ret
        exact ⟨false, rfl, by simp, below_drewN HB.out _⟩
    · obtain rfl : k = n := by omega
      go_wp2_with fail
      go_ret
      refine ⟨true, rfl, fun _ e he => ?_, hb⟩
      obtain ⟨i, hi⟩ := List.getElem?_of_mem he
      exact HG.out i e (by have := (List.getElem?_eq_some_iff.1 hi).1; have := H.out.2.1; omega) hi
end Go.Proofs.YtmbaijkbchkjoaaDoor
