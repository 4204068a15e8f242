/- Contracts of laws.sameElement, laws.sameFodder, where both have the same data: they tell true. -/
import Derived.Test.YteiholpabgeajaaElem
import Derived.Deep.RegionHeld3
import Derived.Deep.QuietTactic
import Derived.BigQuiet
namespace Go.Proofs.Yteiholpabgeajaa
open Go.RowKit

set_option maxRecDepth 100000 in
set_option maxHeartbeats 800000 in
theorem sameEl (kd bl nd : Int) (aA bA : Option Addr) (n ac bc : Nat) (cs : List ByteArray) (w : World) (B : Nat) (ha : Reads w B 1 aA n (cs.map .string)) (hb : Reads w B 1 bA n (cs.map .string)) (hB : B ≤ w.heap.size) (hn : n ≤ maxLen) :
    Calls Try.prog 19 #[.agg #[.int .i64 kd, .int .i64 bl, .int .i64 nd, .slice aA n ac], .agg #[.int .i64 kd, .int .i64 bl, .int .i64 nd, .slice bA n bc]] w fun r w' => r = .returned (.bool true) ∧ Below w.heap.size w w' := by
  unfold maxLen at hn
  have hW : Below w.heap.size w ((w.alloc (.cells #[.int .i64 kd, .int .i64 bl, .int .i64 nd, .slice aA n ac] 27)).alloc (.cells #[.int .i64 kd, .int .i64 bl, .int .i64 nd, .slice bA n bc] 27)) := ((Below.refl _ _).alloc (Nat.le_refl _) _).alloc (by simp) _
  have c3 : ((w.alloc (.cells #[.int .i64 kd, .int .i64 bl, .int .i64 nd, .slice aA n ac] 27)).alloc (.cells #[.int .i64 kd, .int .i64 bl, .int .i64 nd, .slice bA n bc] 27)).cell? ⟨w.heap.size, 3, none⟩ = some (.slice aA n ac) :=
    keeps ((Below.refl _ _).alloc (Nat.le_refl _) _) (World.cell?_alloc_mark w #[.int .i64 kd, .int .i64 bl, .int .i64 nd, .slice aA n ac] 27 (0, 0) 3)
  have d3 : ((w.alloc (.cells #[.int .i64 kd, .int .i64 bl, .int .i64 nd, .slice aA n ac] 27)).alloc (.cells #[.int .i64 kd, .int .i64 bl, .int .i64 nd, .slice bA n bc] 27)).cell? ⟨w.heap.size + 1, 3, none⟩ = some (.slice bA n bc) := by
    have h := World.cell?_alloc_mark (w.alloc (.cells #[.int .i64 kd, .int .i64 bl, .int .i64 nd, .slice aA n ac] 27)) #[.int .i64 kd, .int .i64 bl, .int .i64 nd, .slice bA n bc] 27 (0, 0) 3
    have e : (w.alloc (.cells #[.int .i64 kd, .int .i64 bl, .int .i64 nd, .slice aA n ac] 27)).heap.size = w.heap.size + 1 := by simp
    rw [e] at h
    exact h
  have HW := Lib.hid hW
  have C3 := Lib.hid c3
  have D3 := Lib.hid d3
  have HA := Lib.hid (ha.below (hW.mono hB))
  have HB := Lib.hid ((hb.below (hW.mono hB)))
  clear hW c3 d3 ha hb
  go_enter Try.func19, Try.ntmps19
  go_wp2_with fail
  go_loopw [5] (fun i wr => ∃ k : Nat, k ≤ n ∧ i = .int .i64 k ∧ wr.cell? ⟨w.heap.size, 3, none⟩ = some (.slice aA n ac) ∧ wr.cell? ⟨w.heap.size + 1, 3, none⟩ = some (.slice bA n bc) ∧ Reads wr B 1 aA n (cs.map .string) ∧ Reads wr B 1 bA n (cs.map .string) ∧ Below w.heap.size w wr) (fun i _ => n - (intOf i).toNat)
  case atStart => exact ⟨0, Nat.zero_le _, rfl, C3.out, D3.out, HA.out, HB.out, HW.out⟩
  case round =>
    obtain ⟨k, hk, rfl, c3, d3, ha, hb, hbel⟩ := hrel
    clear C3 D3 HA HB HW
    have HA := Lib.hid ha
    have HB := Lib.hid hb
    have HL := Lib.hid hbel
    by_cases hlt : k < n
    · obtain ⟨ad, u, rfl, _, hx, hcell⟩ := ha.at_ hlt
      obtain ⟨bd, u', rfl, _, hx', hcell'⟩ := hb.at_ hlt
      obtain rfl : u = u' := by rw [hx] at hx'; exact Option.some.inj hx'
      obtain ⟨s, rfl⟩ : ∃ s, u = .string s := by
        rw [List.getElem?_map] at hx
        obtain ⟨s, h1, h2⟩ := Option.map_eq_some_iff.1 hx
        exact ⟨s, h2.symm⟩
      have C3 := Lib.hid c3
      have D3 := Lib.hid d3
      clear hx hx' ha hb hbel
      go_wp2_with fail
      go_quiet (fail)
      go_wp2_with fail
      go_roundw
      case rel => exact ⟨k + 1, by omega, by go_num, C3.out, D3.out, HA.out, HB.out, ⟨HL.out.os, HL.out.tape, HL.out.output, HL.out.size, HL.out.block⟩⟩
      case measure => simp [intOf]; omega
    · clear ha hb hbel
      go_wp2_with fail
      go_ret
      exact ⟨rfl, HL.out⟩

set_option maxRecDepth 100000 in
set_option maxHeartbeats 800000 in
theorem sameFod (A A' : Option Addr) (n c c' : Nat) (es es' : List El) (w : World) (h : ElsAt w w.heap.size A n es) (h' : ElsAt w w.heap.size A' n es') (hd : es.map El.data = es'.map El.data) (hn : n ≤ 200) :
    Calls Try.prog 11 #[.slice A n c, .slice A' n c'] w fun r w' => r = .returned (.bool true) ∧ Below w.heap.size w w' := by
  have HD := Lib.hid hd
  clear hd
  go_enter Try.func11, Try.ntmps11
  go_wp2_with fail
  go_loopw [5] (fun i wr => ∃ k : Nat, k ≤ n ∧ i = .int .i64 k ∧ Below w.heap.size w wr) (fun i _ => n - (intOf i).toNat)
  case atStart => exact ⟨0, Nat.zero_le _, rfl, Below.refl _ _⟩
  case round =>
    obtain ⟨k, hk, rfl, hbel⟩ := hrel
    have hsz := hbel.size
    by_cases hlt : k < n
    · obtain ⟨ad, e, rfl, hadb, hek, hok, hc0, hc1, hc2, hc3⟩ := (h.below hbel).cellsAt hlt
      obtain ⟨bd, e', rfl, hbdb, hek', hok', hd0, hd1, hd2, hd3⟩ := (h'.below hbel).cellsAt hlt
      have hee : e.data = e'.data := by
        have := congrArg (fun l => l[k]?) HD.out
        simpa [hek, hek'] using this
      obtain ⟨kd, bl, nd, eA, en, ec, cs⟩ := e
      obtain ⟨kd', bl', nd', eA', en', ec', cs'⟩ := e'
      simp only [El.data, Prod.mk.injEq] at hee
      obtain ⟨rfl, rfl, rfl, rfl⟩ := hee
      have hl1 := hok.len
      have hl2 := hok'.len
      simp only at hl1 hl2 hc0 hc1 hc2 hc3 hd0 hd1 hd2 hd3
      obtain rfl : en = en' := by rw [← hl1, ← hl2]
      have hmax : en ≤ maxLen := Nat.le_trans hok.le hok.max
      have R1 := Lib.hid hok.com
      have R2 := Lib.hid hok'.com
      have HM := Lib.hid hmax
      have HL := Lib.hid hbel
      clear hl1 hl2 hok hok' hek hek' hmax h h' hbel
      go_wp2_with fail
      go_region_held3 (fun w' => w'.cell? (ad.add (k * 4)) = some (.int .i64 kd) ∧ w'.cell? ⟨(ad.add (k * 4)).block, (ad.add (k * 4)).off + 1, none⟩ = some (.int .i64 bl) ∧ w'.cell? ⟨(ad.add (k * 4)).block, (ad.add (k * 4)).off + 2, none⟩ = some (.int .i64 nd) ∧ w'.cell? ⟨(ad.add (k * 4)).block, (ad.add (k * 4)).off + 3, none⟩ = some (.slice eA en ec) ∧
          w'.cell? (bd.add (k * 4)) = some (.int .i64 kd) ∧ w'.cell? ⟨(bd.add (k * 4)).block, (bd.add (k * 4)).off + 1, none⟩ = some (.int .i64 bl) ∧ w'.cell? ⟨(bd.add (k * 4)).block, (bd.add (k * 4)).off + 2, none⟩ = some (.int .i64 nd) ∧ w'.cell? ⟨(bd.add (k * 4)).block, (bd.add (k * 4)).off + 3, none⟩ = some (.slice eA' en ec') ∧
          Reads w' w.heap.size 1 eA en (cs.map .string) ∧ Reads w' w.heap.size 1 eA' en (cs.map .string) ∧ w.heap.size ≤ w'.heap.size)
        (first
          | exact ⟨hc0, hc1, hc2, hc3, hd0, hd1, hd2, hd3, R1.out, R2.out, hsz⟩
          | (go_split_ands
             refine ⟨keeps hb1 ?_, keeps hb1 ?_, keeps hb1 ?_, keeps hb1 ?_, keeps hb1 ?_, keeps hb1 ?_, keeps hb1 ?_, keeps hb1 ?_, ?_, ?_, ?_⟩
             all_goals first | assumption | exact Reads.below (by assumption) (hb1.mono (by assumption)) | exact Nat.le_trans (by assumption) hb1.size))
        ((go_at_call 19; refine (sameEl kd bl nd eA eA' en ec ec' cs _ w.heap.size (by go_split_ands; assumption) (by go_split_ands; assumption) (by go_split_ands; assumption) HM.out).mono ?_; rintro _ w1 ⟨rfl, hb1⟩))
      rename_i hb1 _
      go_wp2_with fail
      go_roundw
      case rel => exact ⟨k + 1, by omega, by go_num, HL.out.drew.trans (hb1.mono hsz)⟩
      case measure => simp [intOf]; omega
    · clear h h'
      go_wp2_with fail
      go_ret
      exact ⟨rfl, hbel⟩
end Go.Proofs.Yteiholpabgeajaa
