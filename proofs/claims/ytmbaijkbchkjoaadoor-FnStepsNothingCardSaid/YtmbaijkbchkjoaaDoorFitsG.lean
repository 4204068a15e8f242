/- Contracts of the size tests zzFits5, zzFits12, zzFits11: they return, and turn nothing that was there. -/
import Derived.Test.YtmbaijkbchkjoaaDoorSt
import Derived.WalkKit
import Derived.WalkLawsBesides
import Derived.WalkSpells
import Derived.Lib.Hide
namespace Go.Proofs.YtmbaijkbchkjoaaDoor
open Go.RowKit

/-- Some boolean is handed back; nothing that was there has turned. -/
def SomeBool (w : World) (e : Ending) (w' : World) : Prop := ∃ b : Bool, e = .returned (.bool b) ∧ Below w.heap.size w w'

theorem fits5 (A : Option Addr) (n c : Nat) (cs : List ByteArray) (w : World) (B : Nat) (h : Reads w B 1 A n (cs.map .string)) (hs : ∀ s ∈ cs, s.size ≤ maxLen) :
    Calls Tryd.prog 12 #[.slice A n c] w (SomeBool w) := by
  by_cases hbig : n ≤ 2147483647
  · have hd : decide ((2147483647 : Int) < (n : Int)) = false := by simp; omega
    go_enter Tryd.func12, Tryd.ntmps12
    go_wp2
    go_loop [10] (fun i => ∃ k : Nat, k ≤ n ∧ i = .int .i64 k) (fun i => n - (intOf i).toNat)
    case atStart => exact ⟨0, Nat.zero_le _, rfl⟩
    case round =>
      obtain ⟨k, hk, rfl⟩ := hrel
      by_cases hlt : k < n
      · obtain ⟨ad, u, rfl, _, hx, hcell⟩ := h.at_ hlt
        obtain ⟨s, hsm, rfl⟩ : ∃ s, s ∈ cs ∧ u = .string s := by
          rw [List.getElem?_map] at hx
          obtain ⟨s, h1, h2⟩ := Option.map_eq_some_iff.1 hx
          exact ⟨s, List.mem_of_getElem? h1, h2.symm⟩
        have hsz := hs s hsm
        unfold maxLen at hsz
        clear hx hd h
        go_wp2
        · go_ret
          exact ⟨_, rfl, Below.refl _ _⟩
        · go_round
          case rel => exact ⟨k + 1, by omega, by go_num⟩
          case measure => simp [intOf]; omega
      · clear h
        go_wp2
        go_ret
        exact ⟨_, rfl, Below.refl _ _⟩
  · go_enter Tryd.func12, Tryd.ntmps12
    go_wp2
    go_ret
    exact ⟨_, rfl, Below.refl _ _⟩

theorem fits12 (e : St) (w : World) (B : Nat) (h : e.OK w B) (hB : B ≤ w.heap.size) :
    Calls Tryd.prog 8 #[.agg #[.bool e.is, .string e.rem, .slice e.A e.n e.c, .slice e.B e.m e.d]] w (SomeBool w) := by
  have hr := h.rsz
  by_cases hbig : 2147483647 < e.rem.size
  · have hbig' : (2147483647 : Int) < e.rem.size := by omega
    go_enter Tryd.func8, Tryd.ntmps8
    go_wp2_with fail
    go_ret
    exact ⟨_, rfl, (Below.refl _ _).alloc (Nat.le_refl _) _⟩
  · have hbig' : ¬ (2147483647 : Int) < e.rem.size := by omega
    have C := Lib.hid (fits5 e.A e.n e.c e.ns _ B (h.names.alloc hB (.cells #[.bool e.is, .string e.rem, .slice e.A e.n e.c, .slice e.B e.m e.d] 29)) h.strs)
    have hx : ∀ w1, Below (w.alloc (.cells #[.bool e.is, .string e.rem, .slice e.A e.n e.c, .slice e.B e.m e.d] 29)).heap.size (w.alloc (.cells #[.bool e.is, .string e.rem, .slice e.A e.n e.c, .slice e.B e.m e.d] 29)) w1 → w1.cell? ⟨w.heap.size, 3, none⟩ = some (.slice e.B e.m e.d) := fun w1 hb => by
      rw [cell_of_row _ w.heap.size 3 _ _ (0, 0) ((hb.block w.heap.size (by simp)).trans (heap_alloc_new w _))]
      rfl
    have HX := Lib.hid hx
    clear h hx
    go_enter Tryd.func8, Tryd.ntmps8
    go_wp2_with fail
    refine C.out.mono ?_
    rintro _ w1 ⟨b, rfl, hb⟩
    have hb' : Below w.heap.size w w1 := ((Below.refl _ _).alloc (Nat.le_refl _) _).trans (hb.mono (by simp))
    have hc := HX.out w1 hb
    cases b
    · go_wp2_with fail
      go_ret
      exact ⟨_, rfl, hb'⟩
    · by_cases hm : 2147483647 < e.m
      · have hm' : (2147483647 : Int) < e.m := by omega
        go_wp2_with fail
        go_ret
        exact ⟨_, rfl, hb'⟩
      · have hm' : ¬ (2147483647 : Int) < e.m := by omega
        go_wp2_with fail
        go_ret
        exact ⟨_, rfl, hb'⟩

theorem fits11 (A : Option Addr) (n c : Nat) (els : List St) (w : World) (h : StsAt w w.heap.size A n els) :
    Calls Tryd.prog 4 #[.slice A n c] w (SomeBool w) := by
  by_cases hbig : n ≤ 2147483647
  · have hd : ¬ (2147483647 : Int) < (n : Int) := by omega
    have H := Lib.hid h
    clear h
    go_enter Tryd.func4, Tryd.ntmps4
    go_wp2
    go_loopw [10] (fun i wr => ∃ k : Nat, k ≤ n ∧ i = .int .i64 k ∧ Below w.heap.size w wr) (fun i _ => n - (intOf i).toNat)
    case atStart => exact ⟨0, Nat.zero_le _, rfl, Below.refl _ _⟩
    case round =>
      obtain ⟨k, hk, rfl, hb⟩ := hrel
      by_cases hlt : k < n
      · obtain ⟨ad, e, hA, hadb, hek, hc0, hc1, hc2, hc3⟩ := four_cells four (H.out.below hb).1 H.out.2.1 hlt
        have hok := (H.out.below hb).2.2 e (List.mem_of_getElem? hek)
        subst hA
        have hsz := hb.size
        have C := Lib.hid (fits12 e _ w.heap.size ((((H.out.2.2 e (List.mem_of_getElem? hek)).below hb)).keep fun p hp => World.cell?_alloc_lt wr (.cells #[.bool e.is, .string e.rem, .slice e.A e.n e.c, .slice e.B e.m e.d] 29) p (by omega)) (by simp; omega))
        have g0 : wr.cell? (ad.add (k * 4)) = some (.bool e.is) := hc0
        have g1 : wr.cell? ⟨(ad.add (k * 4)).block, (ad.add (k * 4)).off + 1, none⟩ = some (.string e.rem) := hc1
        have g2 : wr.cell? ⟨(ad.add (k * 4)).block, (ad.add (k * 4)).off + 2, none⟩ = some (.slice e.A e.n e.c) := hc2
        have g3 : wr.cell? ⟨(ad.add (k * 4)).block, (ad.add (k * 4)).off + 3, none⟩ = some (.slice e.B e.m e.d) := hc3
        have HB := Lib.hid hb
        have hkn : (k : Int) < n := by omega
        clear hd hc0 hc1 hc2 hc3 hok hek hb
        go_wp2_with fail
        refine C.out.mono ?_
        rintro _ w1 ⟨b, rfl, hb1⟩
        have hb' : Below w.heap.size w w1 := (HB.out.alloc hsz _).trans (hb1.mono (by simp; omega))
        clear C g0 g1 g2 g3
        cases b
        · go_wp2_with fail
          go_ret
          exact ⟨_, rfl, hb'⟩
        · go_wp2_with fail
          go_roundw
          case rel => exact ⟨k + 1, by omega, by go_num, hb'⟩
          case measure => simp [intOf]; omega
      · go_wp2
        go_ret
        exact ⟨_, rfl, hb⟩
  · have hd : (2147483647 : Int) < (n : Int) := by omega
    go_enter Tryd.func4, Tryd.ntmps4
    go_wp2
    go_ret
    exact ⟨_, rfl, Below.refl _ _⟩
end Go.Proofs.YtmbaijkbchkjoaaDoor
