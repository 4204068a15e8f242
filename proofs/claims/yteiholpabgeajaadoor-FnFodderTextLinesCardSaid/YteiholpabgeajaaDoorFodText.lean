/- Contracts of the unparser's string, impl.written, formatter.FodderText, impl.FodderText: the text of elements without blank lines has as many line feeds as are counted of them. -/
import Derived.Test.YteiholpabgeajaaDoorFodFill
namespace Go.Proofs.YteiholpabgeajaaDoor
open Go.RowKit

theorem string_fill (w wr : World) (m L : Nat) (h : Fill w m L wr) :
    Calls Tryd.prog 19 #[.pointer (some ⟨w.heap.size, 0, none⟩)] wr fun r w' => ∃ s : ByteArray, r = .returned (.string s) ∧ feeds s = m ∧ s.size ≤ L ∧ Below w.heap.size w w' := by
  obtain ⟨R, bs, hI, hm, hl, hb⟩ := h
  have HI := Lib.hid hI
  have HB := Lib.hid hb
  have HM := Lib.hid hm
  clear hI hb hm
  go_enter Tryd.func19, Tryd.ntmps19
  go_wp2_with fail
  refine (Tryd.Buffer_String_at 56 R w.heap.size w.heap.size 0 bs wr HI.out).mono ?_
  rintro e w2 ⟨rfl, k, rfl⟩
  have HB2 := Lib.hid (show Below w.heap.size w (wr.drewN k) from HB.out.trans ⟨rfl, rfl, rfl, Nat.le_refl _, fun _ _ => rfl⟩)
  go_wp2_with fail
  go_ret
  exact ⟨_, rfl, by rw [← HM.out]; rfl, by show bs.toArray.size ≤ L; simpa using hl, HB2.out⟩

set_option maxRecDepth 100000 in
set_option maxHeartbeats 1600000 in
theorem written_any (A : Option Addr) (n c : Nat) (els : List El) (w : World) (h : ElsAt w w.heap.size A n els) (hg : ∀ e ∈ els, e.Good) (hn : n ≤ 200) :
    Calls Tryd.prog 12 #[.slice A n c] w fun r w' => r = .returned (.bool true) ∧ Below w.heap.size w w' := by
  go_enter Tryd.func12, Tryd.ntmps12
  go_wp2_with fail
  go_loopw [7] (fun i wr => ∃ k : Nat, k ≤ n ∧ i = .int .i64 k ∧ Below w.heap.size w wr) (fun i _ => n - (intOf i).toNat)
  case atStart => exact ⟨0, Nat.zero_le _, rfl, Below.refl _ _⟩
  case round =>
    obtain ⟨k, hk, rfl, hb⟩ := hrel
    by_cases hlt : k < n
    · obtain ⟨ad, e, rfl, hadb, hek, hok, hc0, hc1, hc2, hc3⟩ := (h.below hb).cellsAt hlt
      have hge := hg e (List.mem_of_getElem? hek)
      unfold El.Good at hge
      obtain ⟨_, _, _, _, _, _, hkind⟩ := hge
      have hb' := hb.alloc hb.size (.cells #[.int .i64 e.kind, .int .i64 e.blanks, .int .i64 e.indent, .slice e.A e.n e.c] 26)
      have HB := Lib.hid hb'
      clear h hg hek hok hb hb'
      rcases hkind with ⟨h1, h2⟩ | ⟨h1, h2, h3, h4⟩ | ⟨h1, h2⟩
      · rw [h1] at hc0 HB
        go_wp2_with fail
        go_roundw
        case rel => exact ⟨k + 1, by omega, by go_num, HB.out⟩
        case measure => simp [intOf]; omega
      · rw [h1] at hc0 HB
        rw [h2] at hc3 HB
        rw [h3] at hc1 HB
        rw [h4] at hc2 HB
        go_wp2_with fail
        go_roundw
        case rel => exact ⟨k + 1, by omega, by go_num, HB.out⟩
        case measure => simp [intOf]; omega
      · rw [h1] at hc0 HB
        go_wp2_with fail
        go_roundw
        case rel => exact ⟨k + 1, by omega, by go_num, HB.out⟩
        case measure => simp [intOf]; omega
    · clear h hg
      go_wp2_with fail
      go_ret
      exact ⟨rfl, hb⟩

theorem Fill.fresh (w : World) (cs : Array Value) (lr : Int) (h0 : cs[0]? = some (.slice none 0 0)) (h1 : cs[1]? = some (.int .i64 0)) (h2 : cs[2]? = some (.int .i8 lr)) : Fill w 0 0 (w.alloc (.cells cs 56)) :=
  ⟨fun i => cs[i]?, [], LibA.zero_isBuffer (Nat.le_refl _) ⟨cs, heap_alloc_new w _, h0, h1, h2, fun _ _ => rfl⟩, rfl, Nat.le_refl _, (Below.refl _ _).alloc (Nat.le_refl _) _⟩

set_option maxRecDepth 100000 in
theorem ftext_any (A : Option Addr) (n c : Nat) (es : List El) (cr sp : Bool) (w : World) (B : Nat) (hB : B ≤ w.heap.size) (hcop : Copied w B (.slice A n c) n es)
    (hg : ∀ e ∈ es, e.Good) (h0 : ∀ e ∈ es, e.blanks = 0) (hl : ∀ e ∈ es, ∀ s ∈ e.cs, LineOK s) (hn : n ≤ 200) :
    Calls Tryd.prog 13 #[.slice A n c, .bool cr, .bool sp, .bool false] w fun r w' => ∃ s : ByteArray, r = .returned (.string s) ∧ (feeds s : Int) = linesOf es ∧ s.size ≤ maxLen ∧ Below w.heap.size w w' := by
  have C := Lib.hid (fun w1 hF => fodderFill_any w A n c es cr sp w1 B hB hcop hF hg h0 hl hn)
  clear hcop hg h0 hl hB hn
  go_enter Tryd.func13, Tryd.ntmps13
  go_wp2_with fail
  refine (C.out _ (Fill.fresh w _ 0 rfl rfl rfl)).mono ?_
  rintro r w2 ⟨rfl, m, L, hF, hL, hm⟩
  have HF := Lib.hid hF
  have HM := Lib.hid hm
  have HL := Lib.hid hL
  clear hF hm hL
  go_wp2_with fail
  refine (string_fill w w2 m L HF.out).mono ?_
  rintro r w3 ⟨s, rfl, hs, hz, hb⟩
  have HS := Lib.hid hs
  have HZ := Lib.hid hz
  have HB := Lib.hid hb
  clear hs hz hb
  go_wp2_with fail
  go_ret
  exact ⟨s, rfl, by rw [HS.out, HM.out], Nat.le_trans HZ.out (Nat.le_trans HL.out (by unfold maxLen; omega)), HB.out⟩

theorem data_blanks {es els : List El} (h : es.map El.data = els.map El.data) (hb : ∀ e ∈ els, e.blanks = 0) : ∀ e ∈ es, e.blanks = 0 := fun e he => by
  have hm : e.data ∈ els.map El.data := by rw [← h]; exact List.mem_map_of_mem he
  obtain ⟨x, hx, hxe⟩ := List.mem_map.1 hm
  have := congrArg (fun d => d.2.1) hxe
  simp only [El.data] at this
  rw [← this]
  exact hb x hx
theorem data_lines {es els : List El} (h : es.map El.data = els.map El.data) (hb : ∀ e ∈ els, ∀ s ∈ e.cs, LineOK s) : ∀ e ∈ es, ∀ s ∈ e.cs, LineOK s := fun e he => by
  have hm : e.data ∈ els.map El.data := by rw [← h]; exact List.mem_map_of_mem he
  obtain ⟨x, hx, hxe⟩ := List.mem_map.1 hm
  have := congrArg (fun d => d.2.2.2) hxe
  simp only [El.data] at this
  rw [← this]
  exact hb x hx

set_option maxRecDepth 100000 in
theorem text_any (A : Option Addr) (n c : Nat) (els : List El) (cr sp : Bool) (w : World) (h : ElsAt w w.heap.size A n els) (hg : ∀ e ∈ els, e.Good) (h0 : ∀ e ∈ els, e.blanks = 0) (hl : ∀ e ∈ els, ∀ s ∈ e.cs, LineOK s) (hn : n ≤ 200) :
    Calls Tryd.prog 6 #[.slice A n c, .bool cr, .bool sp, .bool false] w fun r w' => ∃ s : ByteArray, r = .returned (.tuple #[.string s, .bool true]) ∧ (feeds s : Int) = linesOf els ∧ s.size ≤ maxLen ∧ Below w.heap.size w w' := by
  have H := Lib.hid h
  have HG := Lib.hid hg
  have H0 := Lib.hid h0
  have HL := Lib.hid hl
  clear h hg h0 hl
  go_enter Tryd.func6, Tryd.ntmps6
  go_wp2_with fail
  refine (fodder_any A n c els w H.out HG.out hn).mono ?_
  rintro r w1 ⟨A', c', es, rfl, hd, hcop, hb⟩
  have HD := Lib.hid hd
  have HC := Lib.hid hcop
  have HB := Lib.hid hb
  have hels : ∀ e ∈ els, e.cs.length = e.n := fun e he => (H.out.2.2 e he).len
  have HE := Lib.hid hels
  clear hd hcop hb hels
  go_wp2_with fail
  refine (written_any A n c els w1 ((H.out.below HB.out).more HB.out.size) HG.out hn).mono ?_
  rintro r w2 ⟨rfl, hb2⟩
  have HB2 := Lib.hid hb2
  clear hb2
  go_wp2_with fail
  refine (ftext_any A' n c' es cr sp w2 w.heap.size (Nat.le_trans HB.out.size HB2.out.size) (HC.out.below HB2.out) (good_congr HD.out HC.out.lens HE.out HG.out) (data_blanks HD.out H0.out) (data_lines HD.out HL.out) hn).mono ?_
  rintro r w3 ⟨s, rfl, hs, hz, hb3⟩
  have HS := Lib.hid hs
  have HZ := Lib.hid hz
  have HB3 := Lib.hid ((HB.out.trans (HB2.out.mono HB.out.size)).trans (hb3.mono (Nat.le_trans HB.out.size HB2.out.size)))
  clear hs hz hb3
  go_wp2_with fail
  go_ret2
  exact ⟨s, rfl, by rw [HS.out]; exact linesOf_congr HD.out HC.out.lens HE.out, HZ.out, HB3.out⟩
end Go.Proofs.YteiholpabgeajaaDoor
