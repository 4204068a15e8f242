/- The contract of impl.elements: it copies fodder into elements. (After rA/XFodder's fodder_any.) -/
import Derived.Test.YteiholpabgeajaaFodder
namespace Go.Proofs.Yteiholpabgeajaa
open Go.RowKit

/-- Elements that the call itself has laid: a row of them, their comments in rows of their own. -/
structure CopiedE (w : World) (base : Nat) (v : Value) (n : Nat) (es : List El) : Prop where
  row : w.ownsRow base 27 4 v n (es.flatMap El.cells)
  len : es.length = n
  com : ∀ e ∈ es, w.ownsRow base 9 1 (.slice e.A e.n e.c) e.n (e.cs.map .string)
  dist : es.Pairwise fun a b => (Value.slice a.A a.n a.c).ownBlock ≠ (Value.slice b.A b.n b.c).ownBlock

theorem copiedE_step {wr w2 w3 : World} {B k : Nat} {A' A2 A3 : Option Addr} {c' c2 c3 ne : Nat} {es : List El} {kd bl nd : Int} {cse : List ByteArray} (X Y : Obj) (hB : B ≤ wr.heap.size)
    (hcop : CopiedE wr B (.slice A' k c') k es)
    (hap : Appended ((wr.alloc X).alloc (.cells #[] 9)).drew w2 B 9 1 (.slice (some ⟨wr.heap.size + 1, 0, none⟩) 0 0) A2 ne c2 (cse.map .string))
    (hap3 : Appended (w2.alloc Y) w3 B 27 4 (.slice A' k c') A3 (k + 1) c3 (es.flatMap El.cells ++ [.int .i64 kd, .int .i64 bl, .int .i64 nd, .slice A2 ne c2])) :
    CopiedE w3 B (.slice A3 (k + 1) c3) (k + 1) (es ++ [⟨kd, bl, nd, A2, ne, c2, cse⟩]) ∧ (∀ w : World, B ≤ w.heap.size → Below B w wr → Below B w w3) := by
  have far : ∀ {v : Value} {e : TypeId} {s n : Nat} {xs : List Value}, wr.ownsRow B e s v n xs → v.ownBlock = none ∨ v.ownBlock ≠ some (wr.heap.size + 1) := by
    intro v e s n xs h
    by_cases hq : v.ownBlock = none
    · exact .inl hq
    · refine .inr fun e => ?_
      have := (h.lt _ e).2
      omega
  have toW2 : ∀ {v : Value} {e : TypeId} {s n : Nat} {xs : List Value}, wr.ownsRow B e s v n xs → (w2.alloc Y).ownsRow B e s v n xs := fun h => ((((h.alloc X).alloc _).drew).kept hap.grown (far h)).alloc Y
  have hrow := toW2 hcop.row
  have hne : (9 : TypeId) ≠ 27 := by decide
  refine ⟨⟨?_, by simp [hcop.len], ?_, ?_⟩, ?_⟩
  · have := hap3.own
    simpa [List.flatMap_append, El.cells] using this
  · intro e he
    rcases List.mem_append.1 he with he | he
    · have h1 := toW2 (hcop.com e he)
      exact h1.kept hap3.grown (own_ne h1 hrow hne)
    · obtain rfl : e = ⟨kd, bl, nd, A2, ne, c2, cse⟩ := by simpa using he
      have h1 := hap.own.alloc Y
      exact h1.kept hap3.grown (own_ne h1 hrow hne)
  · rw [List.pairwise_append]
    refine ⟨hcop.dist, by simp, fun a ha b hb => ?_⟩
    obtain rfl : b = ⟨kd, bl, nd, A2, ne, c2, cse⟩ := by simpa using hb
    intro he
    have hl := hap.lies
    have hsz : (((wr.alloc X).alloc (.cells #[] 9)).drew).heap.size = wr.heap.size + 2 := by simp
    rw [hsz] at hl
    have ho := (hcop.com a ha).lt
    rw [he] at ho
    rcases hl with hl | hl
    · have := (ho (wr.heap.size + 1) hl).2; omega
    · have := (ho (wr.heap.size + 2) hl).2; omega
  · intro w hw hb
    have h1 : Below B w ((wr.alloc X).alloc (.cells #[] 9)).drew := ((hb.alloc hB X).alloc (by simp; omega) _).drew
    have h2 : Below B w w2 := h1.grown hap.grown (by simp; omega) (fun g hg => by have hg' : wr.heap.size + 1 = g := Option.some.inj hg; omega)
    have hs2 : B ≤ w2.heap.size := Nat.le_trans (by simp; omega) hap.grown.size
    exact (h2.alloc hs2 Y).grown hap3.grown (by simp; omega) (fun g hg => (hcop.row.lt g hg).1)

theorem infoE : (Try.prog.info? 27).map (fun i => (i.zero, i.size, i.bytes)) = some (some (.agg #[.int .i64 0, .int .i64 0, .int .i64 0, .slice none 0 0]), 4, 48) := by kernel_rfl
theorem infoS_ : (Try.prog.info? 9).map (fun i => (i.zero, i.size, i.bytes)) = some (some (.string ⟨#[]⟩), 1, 16) := by kernel_rfl

set_option maxRecDepth 100000 in
set_option maxHeartbeats 1600000 in
theorem elements_any (A : Option Addr) (n c B0 : Nat) (els : List El) (w : World) (h : Copied w B0 (.slice A n c) n els) (hg : ∀ e ∈ els, e.Good) (hn : n ≤ 200) :
    Calls Try.prog 18 #[.slice A n c] w fun r w' => ∃ A' c' es, r = .returned (.slice A' n c') ∧ es.map El.data = els.map El.data ∧ CopiedE w' w.heap.size (.slice A' n c') n es ∧ Below w.heap.size w w' := by
  obtain ⟨iF, hiF, hzF0, hzF1, hzF2⟩ := info_parts infoE
  obtain ⟨iS, hiS, hzS0, hzS1, hzS2⟩ := info_parts infoS_
  go_enter Try.func18, Try.ntmps18
  go_wp2_with fail
  go_loopw [3, 8] (fun v i wr => ∃ (k : Nat) (A' : Option Addr) (c' : Nat) (es : List El), k ≤ n ∧ i = .int .i64 k ∧ v = .slice A' k c' ∧ es.map El.data = (els.take k).map El.data ∧ CopiedE wr w.heap.size (.slice A' k c') k es ∧ Below w.heap.size w wr) (fun _ i _ => n - (intOf i).toNat)
  case atStart => exact ⟨0, none, 0, [], Nat.zero_le _, rfl, rfl, rfl, ⟨World.ownsRow_nil _ _ _ _, rfl, by simp, by simp⟩, Below.refl _ _⟩
  case round =>
    obtain ⟨k, A', c', es, hk, rfl, rfl, hdata, hcop, hb⟩ := hrel
    have HD := Lib.hid hdata
    clear hdata
    by_cases hlt : k < n
    · obtain ⟨ad, e, rfl, hek, hc0, hc1, hc2, hc3⟩ := (h.below hb).cellsAt hlt
      have hrd0 := (Reads.of_own (h.com e (List.mem_of_getElem? hek))).below hb
      have hge := hg e (List.mem_of_getElem? hek)
      have HE := Lib.hid hek
      have HG := Lib.hid hge
      have hsz := hb.size
      clear h hg hek hge
      obtain ⟨kd, bl, nd, Ae, ne, ce, cse⟩ := e
      simp only at hc0 hc1 hc2 hc3 hrd0
      have hne : ne ≤ 20 := by have := HG.out; unfold El.Good at this; exact this.2.2.2.2.1
      have hrd := hrd0
      have hrow := hcop.row
      have hlt' := hrow.lt
      have hA'ne : (Value.slice A' k c').ownBlock = none ∨ (Value.slice A' k c').ownBlock ≠ some (wr.heap.size + 1) := by
        by_cases hq : (Value.slice A' k c').ownBlock = none
        · exact .inl hq
        · refine .inr fun e => ?_
          have := (hlt' _ e).2
          omega
      have hA'ne3 : some wr.heap.size ≠ (Value.slice A' k c').ownBlock := fun e => by
        have := (hlt' _ e.symm).2
        omega
      have hB3 : ∀ X Y : Obj, wr.heap.size + 2 ≤ ((wr.alloc X).alloc Y).drew.heap.size := fun X Y => by simp
      have HN := Lib.hid hA'ne
      have HN3 := Lib.hid hA'ne3
      have HB3 := Lib.hid hB3
      clear hA'ne3 hB3
      have HL := Lib.hid hlt'
      have HC := Lib.hid hcop
      have ho : ∀ X : Obj, ((wr.alloc X).alloc (.cells #[] 9)).drew.ownsRow w.heap.size 9 1 (.slice (some ⟨wr.heap.size + 1, 0, none⟩) 0 0) 0 [] := fun X => by
        have := (World.ownsRow_made (base := w.heap.size) (e := 9) (size := 1) (wr.alloc X) #[] 0 (by simp; omega) (by simp [maxLen]) rfl).drew
        simpa using this
      have hrd2 : ∀ X Y : Obj, Reads ((wr.alloc X).alloc Y).drew w.heap.size 1 Ae ne (cse.map .string) := fun X Y => ((hrd.alloc hsz X).alloc (by simp; omega) Y).drew
      have hB2 : ∀ X Y : Obj, w.heap.size ≤ ((wr.alloc X).alloc Y).drew.heap.size := fun X Y => by simp; omega
      have hrow2 : ∀ X Y : Obj, ((wr.alloc X).alloc Y).drew.ownsRow w.heap.size 27 4 (.slice A' k c') k (es.flatMap El.cells) := fun X Y => ((hrow.alloc X).alloc Y).drew
      have HO := Lib.hid ho
      have HR := Lib.hid hrd2
      have HB2 := Lib.hid hB2
      have HW := Lib.hid hrow2
      clear hA'ne hlt' hcop ho hrd2 hB2 hrow2
      go_wp2_with fail
      go_region_held3 (fun w' => w'.cell? ⟨wr.heap.size, 0, none⟩ = some (.slice Ae ne ce) ∧ w'.cell? ⟨wr.heap.size, 1, none⟩ = some (.int .i64 kd) ∧ w'.cell? ⟨wr.heap.size, 2, none⟩ = some (.int .i64 bl) ∧ w'.cell? ⟨wr.heap.size, 3, none⟩ = some (.int .i64 nd))
        (first
          | go_keep
          | (go_split_ands
             refine ⟨?_, ?_, ?_, ?_⟩
             all_goals (rw [hap.grown.cell_far _ (by simp; omega) (by simp [Value.ownBlock])]; assumption))
          | (go_split_ands
             refine ⟨?_, ?_, ?_, ?_⟩
             all_goals (rw [hap3.grown.cell_far _ (by simp; omega) HN3.out]; assumption)))
        ((first
          | (refine step_append_any _ (by rfl) (.tmp 19) (.tmp 21) 25 (by rfl) w.heap.size 9 iS (.string ⟨#[]⟩) 1 16 Try.underlying25 hiS hzS0 hzS1 hzS2 rfl (Nat.lt_add_one 0) (.slice (some ⟨wr.heap.size + 1, 0, none⟩) 0 0) 0 [] (by rfl) ?_ w.heap.size Ae ne ce (cse.map .string) (by rfl) ?_ (strings_oneCell _) ?_ ?_ ?_ ne ?_ (cse.map .string) ?_ ?_
             · exact HO.out _
             · exact HR.out _ _
             · unfold maxLen; omega
             · omega
             · exact HB2.out _ _
             · omega
             · rfl
             intro A2 c2 w2 hap
             have hsz2 : w.heap.size ≤ w2.heap.size := Nat.le_trans (HB2.out _ _) hap.grown.size
             have hsz3 : wr.heap.size + 2 ≤ w2.heap.size := Nat.le_trans (HB3.out _ _) hap.grown.size)
          | (refine step_append_any _ (by rfl) (.tmp 12) (.tmp 24) 22 (by rfl) w.heap.size 27 iF (.agg #[.int .i64 0, .int .i64 0, .int .i64 0, .slice none 0 0]) 4 48 Try.underlying22 hiF hzF0 hzF1 hzF2 rfl (Nat.lt_add_left 3 (Nat.lt_add_one 0)) (.slice A' k c') k (es.flatMap El.cells) (by rfl) ?_ (w2.heap.size + 1) (some ⟨w2.heap.size, 0, none⟩) 1 1 [.int .i64 kd, .int .i64 bl, .int .i64 nd, .slice A2 ne c2] (by rfl) ?_ ?_ ?_ ?_ ?_ (k + 1) ?_ (es.flatMap El.cells ++ [.int .i64 kd, .int .i64 bl, .int .i64 nd, .slice A2 ne c2]) ?_ ?_
             · (exact ((HW.out _ _).kept hap.grown HN.out).alloc _)
             · (exact Reads.of_block (heap_alloc_new w2 _) rfl)
             · (simp [Value.oneCell'])
             · (unfold maxLen; omega)
             · (omega)
             · (simp; omega)
             · (omega)
             · (rfl)
             intro A3 c3 w3 hap3)))
      obtain ⟨hcop', hb'⟩ := copiedE_step _ _ hsz HC.out hap hap3
      have hb3 := hb' w (Nat.le_refl _) hb
      clear hap hap3 hrd hrd0 hrow
      go_wp2_with fail
      go_roundw
      case rel =>
        refine ⟨k + 1, A3, c3, _, by omega, by go_num, rfl, ?_, hcop', hb3⟩
        have hl : k < els.length := (List.getElem?_eq_some_iff.1 HE.out).1
        rw [List.take_succ_eq_append_getElem hl, List.map_append, List.map_append, HD.out]
        congr 1
        have := (List.getElem?_eq_some_iff.1 HE.out).2
        rw [this]
        rfl
      case measure => simp [intOf]; omega
    · have hlen := h.len
      obtain rfl : k = n := by omega
      have HL := Lib.hid hlen
      clear hlen h hg
      go_wp2_with fail
      go_ret
      exact ⟨A', c', es, rfl, by rw [HD.out, List.take_of_length_le (by have := HL.out; omega)], hcop, hb⟩


/-- What the call has laid reads as elements. -/
theorem CopiedE.els {w : World} {B n c : Nat} {A : Option Addr} {els : List El} (h : CopiedE w B (.slice A n c) n els) (hg : ∀ e ∈ els, e.Good) : ElsAt w w.heap.size A n els := by
  refine ⟨Reads.of_own h.row, h.len, fun e he => ?_⟩
  have hc := h.com e he
  have hgd := hg e he
  have hle : e.n ≤ e.c ∧ e.c ≤ maxLen := by
    rcases hc.2 with ⟨h1, h2⟩ | ⟨g, cap, cur, h1, _, _, h2, h3, _⟩
    · injection h1 with _ _ h3
      rw [h2, h3]
      exact ⟨Nat.le_refl _, Nat.zero_le _⟩
    · injection h1 with _ _ h4
      rw [h4]
      exact ⟨h2, h3⟩
  obtain ⟨g1, g2, g3, g4, g5, g6, g7⟩ := hgd
  exact ⟨Reads.of_own hc, hle.1, hle.2, fun s hs => by have := g6 s hs; unfold maxLen; omega, by omega, by omega, by omega, by omega, by omega, by omega⟩
end Go.Proofs.Yteiholpabgeajaa
