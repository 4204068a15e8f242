/- The walk of FnFodderLines: for every list of elements it returns true, and turns nothing that was there. -/
import Derived.Test.YteiholpabgeajaaFodder
namespace Go.Proofs.Yteiholpabgeajaa
open Go.RowKit

theorem lines_one (A : Option Addr) (c : Nat) (e : El) (w : World) (h : ElsAt w w.heap.size A 1 [e]) (hg : e.Good) :
    Calls Try.prog 7 #[.slice A 1 c] w fun r w' => r = .returned (.tuple #[.int .i64 e.lines, .bool true]) ∧ Below w.heap.size w w' := by
  have := lines_any A 1 c [e] w h (fun x hx => by obtain rfl : x = e := by simpa using hx
                                                  exact hg) (by omega)
  rwa [show linesOf [e] = e.lines by simp [linesOf]] at this
theorem lines_kinds (e : El) (h : e.Good) : (e.kind ≤ 0 ∧ 0 ≤ e.kind ∧ 1 ≤ e.lines ∧ e.lines ≤ 1) ∨ (e.kind ≤ 1 ∧ 1 ≤ e.kind ∧ 0 ≤ e.lines ∧ e.lines ≤ 0) ∨ (e.kind ≤ 2 ∧ 2 ≤ e.kind ∧ e.n ≤ e.lines ∧ e.lines ≤ 1020) := by
  have hb := lines_bd e h
  unfold El.Good at h
  obtain ⟨h1, h2, _, _, h5, _, hk⟩ := h
  rcases hk with hk | hk | hk
  · refine .inl ⟨by omega, by omega, ?_⟩
    simp [El.lines, hk.1]
  · refine .inr (.inl ⟨by omega, by omega, ?_⟩)
    simp [El.lines, hk.1]
  · refine .inr (.inr ⟨by omega, by omega, ?_, hb.2⟩)
    simp [El.lines, hk.1]
    omega

set_option maxRecDepth 100000 in
set_option maxHeartbeats 1600000 in
theorem lawLines (A : Option Addr) (n c : Nat) (els : List El) (w : World) (h : ElsAt w w.heap.size A n els) (hnc : n ≤ c) :
    Calls Try.prog 3 #[.slice A n c] w fun r w' => r = .returned (.bool true) ∧ Below w.heap.size w w' := by
  go_enter Try.func3, Try.ntmps3
  go_wp2_with fail
  refine (fits7 A n c els w h).mono ?_
  rintro _ w1 ⟨b, rfl, hb1⟩
  cases b
  · go_wp2_with fail
    go_ret
    exact ⟨rfl, hb1⟩
  by_cases hn : n ≤ 100
  · have hd : decide ((100 : Int) < (n : Int)) = false := by simp; omega
    go_wp2_with fail
    go_loopw [3, 4] (fun t i wr => ∃ k : Nat, k ≤ n ∧ i = .int .i64 k ∧ t = .int .i64 (linesOf (els.take k)) ∧ (∀ e ∈ els.take k, e.Good) ∧ Below w.heap.size w wr) (fun _ i _ => n - (intOf i).toNat)
    case atStart => exact ⟨0, Nat.zero_le _, rfl, rfl, by simp, hb1⟩
    case round =>
      obtain ⟨k, hk, rfl, rfl, hgood, hb⟩ := hrel
      have hbd := linesOf_bd (els.take k) hgood
      have hlt2 : (els.take k).length ≤ k := List.length_take_le _ _
      have HG := Lib.hid hgood
      have H := Lib.hid h
      clear hgood
      by_cases hlt : k < n
      · obtain ⟨ad, e, rfl, hadb, hek, hok, hc0, hc1, hc2, hc3⟩ := (h.below hb).cellsAt hlt
        have hone := ((h.below hb).one hek)
        have hsz := hb.size
        have HE := Lib.hid hek
        have HO := Lib.hid hone
        clear h hek hd hone
        go_wp2_with fail
        refine (element_any e _ w.heap.size hok hsz).mono ?_
        rintro _ w2 ⟨b, rfl, hbG, hb2⟩
        have hb2' := hb.trans (hb2.mono hsz)
        cases b
        · clear hbG
          go_wp2_with fail
          go_ret
          exact ⟨rfl, hb2'⟩
        · have hG : e.Good := hbG.1 rfl
          have hld := lines_bd e hG
          have HGE := Lib.hid hG
          clear hbG hG
          have hkd := lines_kinds e HGE.out
          have hst := linesOf_take els k e HE.out
          have HS := Lib.hid hst
          clear hst
          go_wp2_with fail
          refine (lines_one _ _ e _ ((HO.out.below (hb2.mono hsz)).more hb2'.size) HGE.out).mono ?_
          rintro _ w3 ⟨rfl, hb3⟩
          have hb3' := hb2'.trans (hb3.mono hb2'.size)
          have hc0' := keeps hb3 (keeps hb2 hc0)
          have hc3' := keeps hb3 (keeps hb2 hc3)
          clear hc0 hc1 hc2 hc3 hok
          have hz : e.lines ≤ 0 → 0 ≤ e.lines → (e.lines != 0) = false := fun h1 h2 => by
            have : e.lines = 0 := by omega
            rw [this]; rfl
          rcases hkd with ⟨k1, k2, k3, k4⟩ | ⟨k1, k2, k3, k4⟩ | ⟨k1, k2, k3, k4⟩
          all_goals first | (have hz' := hz k4 k3; clear hz) | clear hz
          all_goals go_wp2_with fail
          all_goals
            go_roundw
            case rel =>
              refine ⟨k + 1, by omega, by go_num, by rw [HS.out], ?_, hb3'⟩
              intro x hx
              obtain ⟨hl, he⟩ := List.getElem?_eq_some_iff.1 HE.out
              rw [List.take_succ_eq_append_getElem hl, he] at hx
              rcases List.mem_append.1 hx with hx | hx
              · exact HG.out x hx
              · obtain rfl : x = e := by simpa using hx
                exact HGE.out
            case measure => simp [intOf]; omega
      · obtain rfl : k = n := by omega
        have hall : els.take k = els := List.take_of_length_le (by have := h.2.1; omega)
        have HA := Lib.hid hall
        have hgall : ∀ e ∈ els, e.Good := by
          have := HG.out
          rwa [hall] at this
        have hl := h.2.1
        have HGA := Lib.hid hgall
        have hels := (h.below hb).more hb.size
        clear hall hgall h hl
        go_wp2_with fail
        refine (lines_any A k c els _ hels HGA.out (by omega)).mono ?_
        rintro _ w3 ⟨rfl, hb3⟩
        have hb3' := hb.trans (hb3.mono hb.size)
        rw [HA.out]
        go_wp2_with fail
        go_ret
        exact ⟨rfl, hb3'⟩
  · go_wp2_with fail
    go_ret
    exact ⟨rfl, hb1⟩
end Go.Proofs.Yteiholpabgeajaa
