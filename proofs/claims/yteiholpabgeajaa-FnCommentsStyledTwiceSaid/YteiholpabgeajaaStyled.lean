/- The contract of impl.CommentsStyled. -/
import Derived.Test.YteiholpabgeajaaStyleLoop
import Derived.Test.YteiholpabgeajaaElements
namespace Go.Proofs.Yteiholpabgeajaa
open Go.RowKit

theorem bytes0 : byteOfCell Try.prog Try.prog.depth 48 0 = some 0 := by kernel_rfl
theorem cellsS : Try.prog.cellsOf 48 = 13 := by kernel_rfl
theorem part0 (w : World) (C : Array Value) : (partAt ⟨w.heap.size, 0, none⟩ 0 0).run Try.prog (w.alloc (.cells C 48)) = .ok ⟨w.heap.size, 0, none⟩ (w.alloc (.cells C 48)) := by
  have hs : (w.alloc (.cells C 48)).shape? w.heap.size = some (48, C.size) := by
    unfold World.shape?
    rw [heap_alloc_new w _]
  unfold partAt byteOf
  simp [hs, go_sem, Sem.run, viewAt, bytes0, cellsS, noView, shape, program]
attribute [local go_sem] part0

theorem can_lines {s : ByteArray} (h : LineC s) : ¬ s.toList = [] ∧ ¬ s.toList = [47] := by
  obtain ⟨x, t, hx, hor⟩ := h
  rw [ByteArray.toList_eq, hx]
  refine ⟨by simp, fun e => ?_⟩
  injection e with e1 e2
  subst e1 e2
  rcases hor with h | ⟨_, t', h⟩
  · exact absurd h (by decide)
  · cases h

theorem good_map (st : Int) {e : El} (hg : e.Good) (hl : e.cs.length = e.n) (hs : ∀ s, e.cs = [s] → (styB st s).size ≤ 200) : (styE st e).Good := by
  unfold styE
  split
  · rename_i hc
    obtain ⟨h1, h2, h3, h4, h5, h6, h7⟩ := hg
    refine ⟨h1, h2, h3, h4, h5, fun s hm => ?_, h7⟩
    rw [hc.2] at hl
    obtain ⟨s', hs'⟩ := List.length_eq_one_iff.1 hl
    rw [hs'] at hm
    obtain rfl : s = styB st s' := by simpa using hm
    exact hs s' hs'
  · exact hg

theorem mem_congr {es els : List El} (h : es.map El.data = els.map El.data) : ∀ e ∈ es, ∃ e0 ∈ els, e0.data = e.data := fun e he => by
  have : e.data ∈ els.map El.data := by rw [← h]; exact List.mem_map_of_mem he
  obtain ⟨e0, h0, h1⟩ := List.mem_map.1 this
  exact ⟨e0, h0, h1⟩
theorem can_congr {e e0 : El} (h : e0.data = e.data) (hc : CanStyle e0) : CanStyle e := by
  simp only [El.data, Prod.mk.injEq] at h
  obtain ⟨h1, _, _, h4⟩ := h
  intro hk c hcs
  exact hc (by rw [h1]; exact hk) c (by rw [h4]; exact hcs)
theorem styE_data (st : Int) {e e0 : El} (h : e.data = e0.data) (h1 : e.cs.length = e.n) (h2 : e0.cs.length = e0.n) : (styE st e).data = (styE st e0).data := by
  have hd := h
  simp only [El.data, Prod.mk.injEq] at h
  obtain ⟨g1, g2, g3, g4⟩ := h
  have hn : e.n = e0.n := by rw [← h1, ← h2, g4]
  unfold styE
  rw [g1, hn]
  split
  · simp only [El.data, g2, g3, g4]
  · exact hd
theorem map_styE (st : Int) {es els : List El} (h : es.map El.data = els.map El.data) (h1 : ∀ e ∈ es, e.cs.length = e.n) (h2 : ∀ e ∈ els, e.cs.length = e.n) : (es.map (styE st)).map El.data = (els.map (styE st)).map El.data := by
  have hl : es.length = els.length := by simpa using congrArg List.length h
  apply List.ext_getElem
  · simp [hl]
  · intro i hi hi'
    simp only [List.getElem_map]
    have he : i < es.length := by simpa using hi
    have he' : i < els.length := by simpa using hi'
    refine styE_data st ?_ (h1 _ (List.getElem_mem he)) (h2 _ (List.getElem_mem he'))
    have := congrArg (fun l => l[i]?) h
    simpa [he, he'] using this

set_option maxRecDepth 100000 in
set_option maxHeartbeats 3200000 in
theorem styled_any (A : Option Addr) (n c : Nat) (els : List El) (st : Int) (w : World) (h : ElsAt w w.heap.size A n els) (hg : ∀ e ∈ els, e.Good) (hcan : ∀ e ∈ els, CanStyle e) (hsm : ∀ e ∈ els, ∀ s, e.cs = [s] → (styB st s).size ≤ 200) (hn : n ≤ 200) (hst : st = 0 ∨ st = 1) :
    Calls Try.prog 10 #[.slice A n c, .int .i64 st] w fun r w' => ∃ A' c' es, r = .returned (.tuple #[.slice A' n c', .bool true]) ∧ es.map El.data = (els.map (styE st)).map El.data ∧ ElsAt w' w'.heap.size A' n es ∧ Below w.heap.size w w' := by
  have HST := Lib.hid hst
  have hlen := h.2.1
  have HLEN := Lib.hid hlen
  have HG := Lib.hid hg
  have HC := Lib.hid hcan
  have HSM := Lib.hid hsm
  have H := Lib.hid h
  clear hg hcan hsm h hlen hst
  go_enter Try.func10, Try.ntmps10
  go_wp2_with fail
  refine (fodder_any A n c els w H.out HG.out hn).mono ?_
  rintro r w1 ⟨A', c', es, rfl, hd, hcop, hb⟩
  have HD := Lib.hid hd
  have HCP := Lib.hid hcop
  have HB := Lib.hid hb
  have hz1 := hb.size
  clear hd hcop hb
  have hpf : (w1.alloc (.cells #[.slice A' n c'] 35)).heap[w1.heap.size]? = some (.cells #[.slice A' n c'] 35 (0, 0)) := heap_alloc_new w1 _
  have HPF := Lib.hid hpf
  clear hpf
  go_wp2_with fail
  go_loopw [7, 18] (fun v i wr => ∃ k : Nat, k ≤ n ∧ i = .int .i64 k ∧ v = .bool true ∧ Below (w1.heap.size + 1) (w1.alloc (.cells #[.slice A' n c'] 35)) wr) (fun _ i _ => n - (intOf i).toNat)
  case atStart => exact ⟨0, Nat.zero_le _, rfl, rfl, Below.refl _ _⟩
  case round =>
    obtain ⟨k, hk, rfl, rfl, hbel⟩ := hrel
    have hz2 := hbel.size
    have hz3 : (w1.alloc (.cells #[.slice A' n c'] 35)).heap.size = w1.heap.size + 1 := by simp
    rw [hz3] at hz2
    have HBE := Lib.hid hbel
    have hbw : Below w.heap.size w wr := (HB.out.alloc hz1 _).trans (hbel.mono (by omega))
    by_cases hlt : k < n
    · obtain ⟨ad, e, rfl, _, hek, hok, hc0, hc1, hc2, hc3⟩ := (H.out.below hbw).cellsAt hlt
      have hm := List.mem_of_getElem? hek
      have hgd := HG.out e hm
      have hmax : e.n ≤ 20 := hgd.2.2.2.2.1
      have hnx : Below (w1.heap.size + 1) (w1.alloc (.cells #[.slice A' n c'] 35)) (wr.alloc (.cells #[.int .i64 e.kind, .int .i64 e.blanks, .int .i64 e.indent, .slice e.A e.n e.c] 27)) := hbel.alloc (by omega) _
      have HNX := Lib.hid hnx
      have HOK := Lib.hid hok
      have HCE := Lib.hid (HC.out e hm)
      clear hbel hbw hnx hok hek hm hgd
      by_cases hk1 : e.kind = 1
      · rw [hk1] at hc0 HNX
        go_wp2_with fail
        go_roundw
        case rel => exact ⟨k + 1, by omega, by go_num, rfl, HNX.out⟩
        case measure => simp [intOf]; omega
      · have hkb : (e.kind == 1) = false := by simpa using hk1
        by_cases hn1 : e.n = 1
        · obtain ⟨cd, u, hcA, _, hx, hcell⟩ := HOK.out.com.at_ (show 0 < e.n by omega)
          obtain ⟨s, hsm, rfl⟩ : ∃ s, e.cs[0]? = some s ∧ u = .string s := by
            rw [List.getElem?_map] at hx
            obtain ⟨s, h1, h2⟩ := Option.map_eq_some_iff.1 hx
            exact ⟨s, h1, h2.symm⟩
          have hcs : e.cs = [s] := by
            have hl := HOK.out.len
            rw [hn1] at hl
            obtain ⟨s', hs'⟩ := List.length_eq_one_iff.1 hl
            rw [hs'] at hsm ⊢
            simp at hsm
            rw [hsm]
          obtain ⟨l1, l2⟩ := can_lines (HCE.out hk1 s hcs).1
          have l1' : s.toList.isEmpty = false := by simpa using l1
          have l2' : (s.toList == [47]) = false := by simpa using l2
          have hcell' : (wr.alloc (.cells #[.int .i64 e.kind, .int .i64 e.blanks, .int .i64 e.indent, .slice e.A e.n e.c] 27)).cell? cd = some (.string s) := keeps ((Below.refl _ _).alloc (Nat.le_refl _) _) (by simpa [Addr.add] using hcell)
          rw [hcA, hn1] at hcell' hc3 HNX
          clear hx hsm hcell hcs hcA
          go_wp2_with fail
          go_roundw
          case rel => exact ⟨k + 1, by omega, by go_num, rfl, HNX.out⟩
          case measure => simp [intOf]; omega
        · have hnb : ((e.n : Int) == 1) = false := by simp; omega
          go_wp2_with fail
          go_roundw
          case rel => exact ⟨k + 1, by omega, by go_num, rfl, HNX.out⟩
          case measure => simp [intOf]; omega
    · obtain rfl : k = n := by omega
      have HB3 := Lib.hid hbw
      have hpw : wr.heap[w1.heap.size]? = some (.cells #[.slice A' k c'] 35 (0, 0)) := (hbel.block _ (by omega)).trans HPF.out
      have HPW := Lib.hid hpw
      have hbc : Below w1.heap.size w1 (wr.alloc (.cells #[.int .i64 0, .int .i64 0, .int .i64 0, .int .i64 st, .bool false, .bool false, .bool false, .bool false, .bool false, .bool false, .bool false, .bool false, .bool false] 48)) := (((Below.refl _ _).alloc (Nat.le_refl _) _).trans (hbel.mono (by omega))).alloc (by omega) _
      have HCC := Lib.hid (HCP.out.below hbc)
      have hrc : RC (wr.alloc (.cells #[.int .i64 0, .int .i64 0, .int .i64 0, .int .i64 st, .bool false, .bool false, .bool false, .bool false, .bool false, .bool false, .bool false, .bool false, .bool false] 48)) wr.heap.size st := ⟨_, false, heap_alloc_new wr _, rfl, rfl⟩
      have HRC := Lib.hid hrc
      have hpf2 : (wr.alloc (.cells #[.int .i64 0, .int .i64 0, .int .i64 0, .int .i64 st, .bool false, .bool false, .bool false, .bool false, .bool false, .bool false, .bool false, .bool false, .bool false] 48)).heap[w1.heap.size]? = some (.cells #[.slice A' k c'] 35 (0, 0)) := (Below.heap_alloc wr _ _ (by omega)).trans hpw
      have HPF2 := Lib.hid hpf2
      have hlens := HCP.out.lens
      have hels : ∀ e ∈ els, e.cs.length = e.n := fun e he => (H.out.2.2 e he).len
      have hges := good_congr HD.out hlens hels HG.out
      have hces : ∀ e ∈ es, CanStyle e := fun e he => by
        obtain ⟨e0, h0, h1⟩ := mem_congr HD.out e he
        exact can_congr h1 (HC.out e0 h0)
      have hges2 : ∀ e ∈ es.map (styE st), e.Good := fun e he => by
        obtain ⟨e1, he1, rfl⟩ := List.mem_map.1 he
        obtain ⟨e0, h0, h1⟩ := mem_congr HD.out e1 he1
        refine good_map st (hges e1 he1) (hlens e1 he1) fun s hs => HSM.out e0 h0 s ?_
        simp only [El.data, Prod.mk.injEq] at h1
        rw [h1.2.2.2]
        exact hs
      have hdat := map_styE st HD.out hlens hels
      have HGE := Lib.hid hges
      have HCE := Lib.hid hces
      have HG2 := Lib.hid hges2
      have HDA := Lib.hid hdat
      clear hbel hbw hpw hbc hrc hpf2 hlens hels hges hces hges2 hdat
      go_wp2_with fail
      refine (fodLoop A' k c' w1.heap.size wr.heap.size w.heap.size es st _ HCC.out HRC.out HPF2.out (by omega) HST.out HCE.out HGE.out hn _ _).mono ?_
      rintro r w2 ⟨u, rfl, hcop2, hpf3, hb2⟩
      have hbw2 : Below w.heap.size w w2 := (HB3.out.alloc (by omega) _).trans hb2
      have HBW2 := Lib.hid hbw2
      have hc0 : w2.cell? ⟨w1.heap.size, 0, none⟩ = some (.slice A' k c') := by rw [cell_of_row w2 w1.heap.size 0 _ _ (0, 0) hpf3]; rfl
      have HC2 := Lib.hid hcop2
      clear hb2 hbw2 hpf3 hcop2
      go_wp2_with fail
      refine (elements_any A' k c' w.heap.size (es.map (styE st)) w2 HC2.out HG2.out hn).mono ?_
      rintro r w3 ⟨A3, c3, es3, rfl, hd3, hcop3, hb3⟩
      have hg3 := good_congr hd3 (fun e he => by have := (hcop3.com e he).1; simpa using this) HC2.out.lens HG2.out
      have HE3 := Lib.hid (hcop3.els hg3)
      have HD3 := Lib.hid (hd3.trans HDA.out)
      have HB4 := Lib.hid (HBW2.out.trans (hb3.mono HBW2.out.size))
      clear hd3 hcop3 hb3 hg3
      go_wp2_with fail
      go_ret2
      exact ⟨A3, c3, es3, rfl, HD3.out, HE3.out, HB4.out⟩
end Go.Proofs.Yteiholpabgeajaa
