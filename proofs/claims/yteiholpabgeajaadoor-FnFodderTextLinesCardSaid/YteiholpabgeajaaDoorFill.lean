/- Contracts of the unparser's write (its buffer is a field), and what a text that is being written is: its line feeds are counted. Conditions: none of its own. -/
import Derived.Test.YteiholpabgeajaaDoorFodder
import Derived.Test.YteiholpabgeajaaDoorPlainD
import Derived.Test.YteiholpabgeajaaDoorShelfD
import Derived.Lib.BufferAt
import Derived.Lib.OthersKept
namespace Go.Proofs.YteiholpabgeajaaDoor
open Go.RowKit

theorem feedsL_app (a b : List UInt8) : feedsL (a ++ b) = feedsL a + feedsL b := by unfold feedsL; exact List.countP_append
/-- What has been written: a text with m line feeds, of at most L bytes. -/
def Fill (w : World) (m L : Nat) (wr : World) : Prop := ∃ (R : Nat → Option Value) (bs : List UInt8), LibA.IsBuffer 56 R 5 w.heap.size w.heap.size 0 (Lib.byteCells bs) wr ∧ feedsL bs = m ∧ bs.length ≤ L ∧ Below w.heap.size w wr
theorem Fill.below {w wr : World} {m L : Nat} (h : Fill w m L wr) : Below w.heap.size w wr := by obtain ⟨_, _, _, _, _, hb⟩ := h; exact hb
theorem Fill.alloc {w wr : World} {m L : Nat} (h : Fill w m L wr) (X : Obj) : Fill w m L (wr.alloc X) := by
  obtain ⟨R, bs, hI, hm, hl, hb⟩ := h
  exact ⟨R, bs, hI.alloc X, hm, hl, hb.alloc hb.size X⟩
theorem Fill.drew {w wr : World} {m L : Nat} (h : Fill w m L wr) : Fill w m L wr.drew := by
  obtain ⟨R, bs, hI, hm, hl, hb⟩ := h
  exact ⟨R, bs, hI.drew, hm, hl, hb.drew⟩
theorem Fill.more {w wr : World} {m L L' : Nat} (h : Fill w m L wr) (hL : L ≤ L') : Fill w m L' wr := by
  obtain ⟨R, bs, hI, hm, hl, hb⟩ := h
  exact ⟨R, bs, hI, hm, Nat.le_trans hl hL, hb⟩

theorem write_fill (w wr : World) (s : ByteArray) (m L : Nat) (h : Fill w m L wr) (hL : L + s.size ≤ 1000000000) :
    Calls Tryd.prog 21 #[.pointer (some ⟨w.heap.size, 0, none⟩), .string s] wr fun r w' => r = .returned (.tuple #[]) ∧ Fill w (m + feeds s) (L + s.size) w' ∧ Lib.OthersKept 5 (some w.heap.size) wr w' := by
  obtain ⟨R, bs, hI, hm, hl, hb⟩ := h
  have hz := hb.size
  have HI := Lib.hid hI
  have HB := Lib.hid hb
  have HM := Lib.hid hm
  clear hI hb hm
  go_enter Tryd.func21, Tryd.ntmps21
  go_wp2_with fail
  refine (Tryd.Buffer_WriteString_at 56 R w.heap.size w.heap.size 0 _ s wr HI.out hz (Lib.byteCells_one _) (by rw [Lib.byteCells_length]; omega)).mono ?_
  rintro e w2 ⟨rfl, hI2, hb2, hk⟩
  have HF := Lib.hid (show Fill w (m + feeds s) (L + s.size) w2 from ⟨R, bs ++ s.data.toList, by simpa [Lib.byteCells] using hI2, by rw [feedsL_app, HM.out]; rfl, by rw [List.length_append]; simp; omega, HB.out.trans hb2⟩)
  have HK := Lib.hid hk
  clear hI2 hb2 hk
  go_wp2_with fail
  go_end0
  exact ⟨rfl, HF.out, HK.out⟩

/-- Within a round: an element's copy lies at p. -/
def St (w : World) (e : El) (p m L : Nat) (wr : World) : Prop := Fill w m L wr ∧ wr.heap[p]? = some (.cells #[.slice e.A e.n e.c, .int .i64 e.kind, .int .i64 e.blanks, .int .i64 e.indent] 44 (0, 0))
theorem St.start {w wr : World} {m L : Nat} (h : Fill w m L wr) (e : El) : St w e wr.heap.size m L (wr.alloc (.cells #[.slice e.A e.n e.c, .int .i64 e.kind, .int .i64 e.blanks, .int .i64 e.indent] 44)) := ⟨h.alloc _, heap_alloc_new wr _⟩
theorem St.drew {w wr : World} {e : El} {p m L : Nat} (h : St w e p m L wr) : St w e p m L wr.drew := ⟨h.1.drew, h.2⟩
theorem St.more {w wr : World} {e : El} {p m L L' : Nat} (h : St w e p m L wr) (hL : L ≤ L') : St w e p m L' wr := ⟨h.1.more hL, h.2⟩
theorem St.facts {w wr : World} {e : El} {p m L : Nat} (h : St w e p m L wr) : wr.cell? ⟨p, 0, none⟩ = some (.slice e.A e.n e.c) ∧ wr.cell? ⟨p, 1, none⟩ = some (.int .i64 e.kind) ∧ wr.cell? ⟨p, 2, none⟩ = some (.int .i64 e.blanks) ∧ wr.cell? ⟨p, 3, none⟩ = some (.int .i64 e.indent) :=
  ⟨by rw [cell_of_row wr p 0 _ _ (0, 0) h.2]; rfl, by rw [cell_of_row wr p 1 _ _ (0, 0) h.2]; rfl, by rw [cell_of_row wr p 2 _ _ (0, 0) h.2]; rfl, by rw [cell_of_row wr p 3 _ _ (0, 0) h.2]; rfl⟩
theorem write_st (w wr : World) (e : El) (p : Nat) (s : ByteArray) (m L : Nat) (h : St w e p m L wr) (hL : L + s.size ≤ 1000000000) :
    Calls Tryd.prog 21 #[.pointer (some ⟨w.heap.size, 0, none⟩), .string s] wr fun r w' => r = .returned (.tuple #[]) ∧ St w e p (m + feeds s) (L + s.size) w' := by
  refine (write_fill w wr s m L h.1 hL).mono ?_
  rintro r w' ⟨hr, hF, hk⟩
  refine ⟨hr, hF, hk p _ h.2 ?_ ?_⟩
  · intro he
    obtain rfl := Option.some.inj he
    obtain ⟨R, bs, ⟨_, v, lr, hth, _⟩, _⟩ := h.1
    have := hth.tag h.2
    exact absurd this (by decide)
  · intro c fz hc
    injection hc with _ ht
    exact absurd ht (by decide)
theorem write_to {w wr : World} {e : El} {p m L : Nat} (s : ByteArray) (h : St w e p m L wr) (d m' z L' : Nat) (hd : feeds s = d) (hm : m + d = m') (hs : s.size ≤ z) (hL : L + z ≤ L') (h9 : L' ≤ 1000000000) :
    Calls Tryd.prog 21 #[.pointer (some ⟨w.heap.size, 0, none⟩), .string s] wr fun r w' => r = .returned (.tuple #[]) ∧ St w e p m' L' w' :=
  (write_st w wr e p s m L h (by omega)).mono fun r w' ⟨hr, hS⟩ => ⟨hr, by rw [← hm, ← hd]; exact hS.more (by omega)⟩
theorem write_sp {w wr : World} {e : El} {p m L : Nat} (h : St w e p m L wr) (L' : Nat) (hL : L + 1 ≤ L') (h9 : L' ≤ 1000000000) :
    Calls Tryd.prog 21 #[.pointer (some ⟨w.heap.size, 0, none⟩), .string ⟨#[32]⟩] wr fun r w' => r = .returned (.tuple #[]) ∧ St w e p m L' w' := write_to ⟨#[32]⟩ h 0 m 1 L' rfl rfl (Nat.le_refl _) hL h9
theorem write_sp2 {w wr : World} {e : El} {p m L : Nat} (h : St w e p m L wr) (L' : Nat) (hL : L + 2 ≤ L') (h9 : L' ≤ 1000000000) :
    Calls Tryd.prog 21 #[.pointer (some ⟨w.heap.size, 0, none⟩), .string ⟨#[32, 32]⟩] wr fun r w' => r = .returned (.tuple #[]) ∧ St w e p m L' w' := write_to ⟨#[32, 32]⟩ h 0 m 2 L' rfl rfl (Nat.le_refl _) hL h9
theorem write_nl {w wr : World} {e : El} {p m L : Nat} (h : St w e p m L wr) (L' : Nat) (hL : L + 1 ≤ L') (h9 : L' ≤ 1000000000) :
    Calls Tryd.prog 21 #[.pointer (some ⟨w.heap.size, 0, none⟩), .string ⟨#[10]⟩] wr fun r w' => r = .returned (.tuple #[]) ∧ St w e p (m + 1) L' w' := write_to ⟨#[10]⟩ h 1 (m + 1) 1 L' rfl rfl (Nat.le_refl _) hL h9
theorem write_line {w wr : World} {e : El} {p m L : Nat} (s : ByteArray) (h : St w e p m L wr) (hs : LineOK s) (hz : s.size ≤ 200) (L' : Nat) (hL : L + 200 ≤ L') (h9 : L' ≤ 1000000000) :
    Calls Tryd.prog 21 #[.pointer (some ⟨w.heap.size, 0, none⟩), .string s] wr fun r w' => r = .returned (.tuple #[]) ∧ St w e p m L' w' := write_to s h 0 m 200 L' hs.2 rfl hz hL h9
/-- Line i of an element's comment, in whatever world stands behind w. -/
theorem line_at {w : World} {e : El} {i : Nat} {B : Nat} (h : Reads w B 1 e.A e.n (e.cs.map .string)) (hB : B ≤ w.heap.size) (hi : i < e.n) :
    ∃ cd s, e.A = some cd ∧ e.cs[i]? = some s ∧ ∀ wr, Below w.heap.size w wr → wr.cell? (cd.add i) = some (.string s) := by
  obtain ⟨cd, u, hcA, hlt, hx, hcell⟩ := h.at_ hi
  obtain ⟨s, hsm, rfl⟩ : ∃ s, e.cs[i]? = some s ∧ u = .string s := by
    rw [List.getElem?_map] at hx
    obtain ⟨s, h1, h2⟩ := Option.map_eq_some_iff.1 hx
    exact ⟨s, h1, h2.symm⟩
  exact ⟨cd, s, hcA, hsm, fun wr hb => (hb.cell (p := cd.add i) (by rw [block_of_add]; omega)).trans hcell⟩
end Go.Proofs.YteiholpabgeajaaDoor
