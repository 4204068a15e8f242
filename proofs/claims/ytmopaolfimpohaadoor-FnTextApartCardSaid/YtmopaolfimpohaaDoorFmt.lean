/- bits.TrailingZeros of 16; formatBits, FormatInt to the base 16 of 0x10000 and a rune below 160. -/
import Derived.Test.YtmopaolfimpohaaDoorRows
import Derived.Test.YtmopaolfimpohaaDoorWords
import Derived.Test.YtmopaolfimpohaaDoorEsc
import Derived.WalkKit
import Derived.WalkLawsBesides
import Derived.WalkSpells
import Derived.Lib.Hide
import Derived.Laws.IdiomStrings
namespace Go.Proofs.YtmopaolfimpohaaDoor
open Go.RowKit

/-- What is read of the library's table. -/
def DB (w : World) : Prop := w.cell? ⟨5, 15, none⟩ = some (.int .u8 4)

theorem pow2_16 (w : World) : Calls Tryd.prog 30 #[.int .i64 16] w fun e w' => e = .returned (.bool true) ∧ w = w' := by
  go_enter Tryd.func30, Tryd.ntmps30
  go_wp2
  go_ret
  exact ⟨rfl, rfl⟩

theorem tz64 (w : World) (h : DB w) : Calls Tryd.prog 33 #[.int .u64 16] w fun e w' => e = .returned (.int .i64 4) ∧ w = w' := by
  unfold DB at h
  have e15 : IntKind.u64.wrap (bits .and .u64 16 (IntKind.u64.wrap (-16)) * 285870213051353865) / 288230376151711744 = 15 := by kernel_rfl
  go_enter Tryd.func33, Tryd.ntmps33
  go_wp2
  go_ret
  exact ⟨rfl, rfl⟩
theorem tz_16 (w : World) (h : DB w) : Calls Tryd.prog 31 #[.int .u64 16] w fun e w' => e = .returned (.int .i64 4) ∧ w = w' := by
  have H := Lib.hid h
  clear h
  go_enter Tryd.func31, Tryd.ntmps31
  go_wp2_with fail
  refine (tz64 _ H.out).mono ?_
  rintro e w' ⟨rfl, rfl⟩
  go_wp2_with fail
  go_ret
  exact ⟨rfl, rfl⟩

/-- The last five cells of a row of 65 bytes. -/
def Row5 (w : World) (B : Nat) (x0 x1 x2 x3 x4 : Int) : Prop :=
  w.cell? ⟨B, 60, none⟩ = some (.int .u8 x0) ∧ w.cell? ⟨B, 61, none⟩ = some (.int .u8 x1) ∧ w.cell? ⟨B, 62, none⟩ = some (.int .u8 x2) ∧ w.cell? ⟨B, 63, none⟩ = some (.int .u8 x3) ∧ w.cell? ⟨B, 64, none⟩ = some (.int .u8 x4) ∧ ∀ j, w.frozen? ⟨B, j, none⟩ = false
theorem adr_ne {B i j : Nat} (h : i ≠ j) : (⟨B, i, none⟩ : Addr) ≠ ⟨B, j, none⟩ := fun e => h (by injection e)
theorem cs_other {w : World} {B i j : Nat} {v u : Value} (hij : i ≠ j) (h : w.cell? ⟨B, j, none⟩ = some u) : (w.setCell ⟨B, i, none⟩ v).cell? ⟨B, j, none⟩ = some u :=
  (World.cell?_setCell_other w _ _ v (adr_ne hij)).trans h
theorem cs_same {w : World} {B i : Nat} {v u : Value} (h : w.cell? ⟨B, i, none⟩ = some u) : (w.setCell ⟨B, i, none⟩ v).cell? ⟨B, i, none⟩ = some v := by
  have := World.cell?_setCell_same' w ⟨B, i, none⟩ v (by rw [h]; rfl)
  exact this
section
variable {w : World} {B : Nat} {x0 x1 x2 x3 x4 v : Int}
theorem Row5.set4 (h : Row5 w B x0 x1 x2 x3 x4) : Row5 (w.setCell ⟨B, 64, none⟩ (.int .u8 v)) B x0 x1 x2 x3 v := by
  obtain ⟨h0, h1, h2, h3, h4, hf⟩ := h
  exact ⟨cs_other (by decide) h0, cs_other (by decide) h1, cs_other (by decide) h2, cs_other (by decide) h3, cs_same h4, fun j => by rw [World.frozen?_setCell]; exact hf j⟩
theorem Row5.set3 (h : Row5 w B x0 x1 x2 x3 x4) : Row5 (w.setCell ⟨B, 63, none⟩ (.int .u8 v)) B x0 x1 x2 v x4 := by
  obtain ⟨h0, h1, h2, h3, h4, hf⟩ := h
  exact ⟨cs_other (by decide) h0, cs_other (by decide) h1, cs_other (by decide) h2, cs_same h3, cs_other (by decide) h4, fun j => by rw [World.frozen?_setCell]; exact hf j⟩
theorem Row5.set2 (h : Row5 w B x0 x1 x2 x3 x4) : Row5 (w.setCell ⟨B, 62, none⟩ (.int .u8 v)) B x0 x1 v x3 x4 := by
  obtain ⟨h0, h1, h2, h3, h4, hf⟩ := h
  exact ⟨cs_other (by decide) h0, cs_other (by decide) h1, cs_same h2, cs_other (by decide) h3, cs_other (by decide) h4, fun j => by rw [World.frozen?_setCell]; exact hf j⟩
theorem Row5.set1 (h : Row5 w B x0 x1 x2 x3 x4) : Row5 (w.setCell ⟨B, 61, none⟩ (.int .u8 v)) B x0 v x2 x3 x4 := by
  obtain ⟨h0, h1, h2, h3, h4, hf⟩ := h
  exact ⟨cs_other (by decide) h0, cs_same h1, cs_other (by decide) h2, cs_other (by decide) h3, cs_other (by decide) h4, fun j => by rw [World.frozen?_setCell]; exact hf j⟩
theorem Row5.set0 (h : Row5 w B x0 x1 x2 x3 x4) : Row5 (w.setCell ⟨B, 60, none⟩ (.int .u8 v)) B v x1 x2 x3 x4 := by
  obtain ⟨h0, h1, h2, h3, h4, hf⟩ := h
  exact ⟨cs_same h0, cs_other (by decide) h1, cs_other (by decide) h2, cs_other (by decide) h3, cs_other (by decide) h4, fun j => by rw [World.frozen?_setCell]; exact hf j⟩
end

/-- Where the loop stands: the number that is left, the place, the cells. -/
def HexSt (c : Nat) (B : Nat) (u i : Value) (wr : World) : Prop :=
  ∃ x0 x1 x2 x3 x4 : Int, Row5 wr B x0 x1 x2 x3 x4 ∧
    ((u = .int .u64 (65536 + (c : Int)) ∧ i = .int .i64 65) ∨ (u = .int .u64 ((65536 + (c : Int)) / 16) ∧ i = .int .i64 64 ∧ x4 = (hexd (c % 16)).toNat) ∨
     (u = .int .u64 256 ∧ i = .int .i64 63 ∧ x4 = (hexd (c % 16)).toNat ∧ x3 = (hexd (c / 16)).toNat) ∨ (u = .int .u64 16 ∧ i = .int .i64 62 ∧ x4 = (hexd (c % 16)).toNat ∧ x3 = (hexd (c / 16)).toNat ∧ x2 = 48) ∨
     (u = .int .u64 1 ∧ i = .int .i64 61 ∧ x4 = (hexd (c % 16)).toNat ∧ x3 = (hexd (c / 16)).toNat ∧ x2 = 48 ∧ x1 = 48))

theorem and_lo : ∀ c : Fin 160, bits .and .u64 (65536 + (c.val : Int)) 15 = ((c.val % 16 : Nat) : Int) := by decide +kernel
theorem and_hi : ∀ c : Fin 160, bits .and .u64 ((65536 + (c.val : Int)) / 16) 15 = ((c.val / 16 : Nat) : Int) := by decide +kernel
def digs : ByteArray := ⟨#[48, 49, 50, 51, 52, 53, 54, 55, 56, 57, 97, 98, 99, 100, 101, 102, 103, 104, 105, 106, 107, 108, 109, 110, 111, 112, 113, 114, 115, 116, 117, 118, 119, 120, 121, 122]⟩
theorem digs_at (n : Nat) (h : n < 16) (h' : n < digs.size) : digs[n] = hexd n := by
  have : ∀ k : Fin 16, ∀ hk : k.val < digs.size, digs[k.val]'hk = hexd k.val := by decide +kernel
  exact this ⟨n, h⟩ h'
def hexS (c : Nat) : ByteArray := ⟨#[49, 48, 48, hexd (c / 16), hexd (c % 16)]⟩

set_option maxRecDepth 100000 in
set_option maxHeartbeats 800000 in
theorem formatBits_hex (c : Nat) (hc : c < 160) (w : World) (h : DB w) :
    Calls Tryd.prog 24 #[.slice none 0 0, .int .u64 (65536 + (c : Int)), .int .i64 16, .bool false, .bool false] w fun e w' => e = .returned (.tuple #[.slice none 0 0, .string (hexS c)]) ∧ Below w.heap.size w w' := by
  have H := Lib.hid h
  clear h
  have hz : ∀ W : World, (zeroValue 61).run Tryd.prog W = .ok (.agg (Array.replicate 65 (.int .u8 0))) W := fun W => by kernel_rfl
  go_enter Tryd.func24, Tryd.ntmps24
  go_wp2_with fail
  refine (pow2_16 _).mono ?_
  rintro e w' ⟨rfl, rfl⟩
  go_wp2_with fail
  refine (tz_16 _ ?_).mono ?_
  · exact keeps ((Below.refl _ _).alloc (Nat.le_refl _) _) H.out
  rintro e w' ⟨rfl, rfl⟩
  go_wp2_with fail
  clear hz
  go_loopw [1, 13] (fun u i wr => HexSt c w.heap.size u i wr ∧ Below w.heap.size w wr) (fun u _ _ => (intOf u).toNat)
  case atStart =>
    refine ⟨⟨0, 0, 0, 0, 0, ⟨?_, ?_, ?_, ?_, ?_, fun j => ?_⟩, .inl ⟨rfl, rfl⟩⟩, (Below.refl _ _).alloc (Nat.le_refl _) _⟩
    all_goals first | (rw [World.cell?_alloc_mark]; simp; done) | (rw [World.frozen?_alloc_mark]; simp)
  case round =>
    obtain ⟨⟨x0, x1, x2, x3, x4, hrow, hst⟩, hb⟩ := hrel
    have HR := Lib.hid hrow
    obtain ⟨c0, c1, c2, c3, c4, hf⟩ := hrow
    have f0 := hf 60
    have f1 := hf 61
    have f2 := hf 62
    have f3 := hf 63
    have f4 := hf 64
    clear hf
    rcases hst with ⟨rfl, rfl⟩ | ⟨rfl, rfl, e4⟩ | ⟨rfl, rfl, e4, e3⟩ | ⟨rfl, rfl, e4, e3, e2⟩ | ⟨rfl, rfl, e4, e3, e2, e1⟩
    · have ha := and_lo ⟨c, hc⟩
      simp only at ha
      go_wp2_with fail
      go_roundw
      case rel => exact ⟨⟨x0, x1, x2, x3, _, HR.out.set4, .inr (.inl ⟨rfl, rfl, by rw [← digs_at _ (by omega) (by show c % 16 < 36; omega)]; rfl⟩)⟩, hb.setCell (Nat.le_refl _) _⟩
      case measure => simp [intOf]; omega
    · have ha := and_hi ⟨c, hc⟩
      simp only at ha
      have E4 := Lib.hid e4
      clear e4
      go_wp2_with fail
      go_roundw
      case rel => exact ⟨⟨x0, x1, x2, _, x4, HR.out.set3, .inr (.inr (.inl ⟨by go_num, rfl, E4.out, by rw [← digs_at _ (by omega) (by show c / 16 < 36; omega)]; rfl⟩))⟩, hb.setCell (Nat.le_refl _) _⟩
      case measure => simp [intOf]; omega
    · have ha : bits .and .u64 256 15 = 0 := by decide
      have E4 := Lib.hid e4
      have E3 := Lib.hid e3
      clear e4 e3
      go_wp2_with fail
      go_roundw
      case rel => exact ⟨⟨x0, x1, _, x3, x4, HR.out.set2, .inr (.inr (.inr (.inl ⟨rfl, rfl, E4.out, E3.out, rfl⟩)))⟩, hb.setCell (Nat.le_refl _) _⟩
      case measure => simp [intOf]
    · have ha : bits .and .u64 16 15 = 0 := by decide
      have E4 := Lib.hid e4
      have E3 := Lib.hid e3
      have E2 := Lib.hid e2
      clear e4 e3 e2
      go_wp2_with fail
      go_roundw
      case rel => exact ⟨⟨x0, _, x2, x3, x4, HR.out.set1, .inr (.inr (.inr (.inr ⟨rfl, rfl, E4.out, E3.out, E2.out, rfl⟩)))⟩, hb.setCell (Nat.le_refl _) _⟩
      case measure => simp [intOf]
    · have hr0 := HR.out.set0 (v := 49)
      subst e4 e3 e2 e1
      have hcl : ∀ j (hj : j < [(49 : UInt8), 48, 48, hexd (c / 16), hexd (c % 16)].length), (wr.setCell ⟨w.heap.size, 60, none⟩ (.int .u8 49)).cell? ((⟨w.heap.size, 60, none⟩ : Addr).add j) = some (.int .u8 ([(49 : UInt8), 48, 48, hexd (c / 16), hexd (c % 16)][j].toNat : Int)) := by
        intro j hj
        obtain ⟨h0, h1, h2, h3, h4, _⟩ := hr0
        have hj5 : j = 0 ∨ j = 1 ∨ j = 2 ∨ j = 3 ∨ j = 4 := by simp at hj; omega
        rcases hj5 with rfl | rfl | rfl | rfl | rfl
        · exact h0
        · exact h1
        · exact h2
        · exact h3
        · exact h4
      have hconv := run_convert_bytes_back (P := Tryd.prog) _ 32 9 5 ⟨w.heap.size, 60, none⟩ 5 [(49 : UInt8), 48, 48, hexd (c / 16), hexd (c % 16)] Tryd.underlying32 Tryd.underlying5 Tryd.underlying9 hcl
      simp only [List.length_cons, List.length_nil, Nat.reduceAdd] at hconv
      have hd1 : (((⟨#[48, 49, 50, 51, 52, 53, 54, 55, 56, 57, 97, 98, 99, 100, 101, 102, 103, 104, 105, 106, 107, 108, 109, 110, 111, 112, 113, 114, 115, 116, 117, 118, 119, 120, 121, 122]⟩ : ByteArray)[1]'(by decide)).toNat : Int) = 49 := rfl
      have HB := Lib.hid (hb.setCell (p := ⟨w.heap.size, 60, none⟩) (Nat.le_refl _) (.int .u8 49))
      clear hcl hr0 HR
      go_wp2_with fail
      go_ret2
      exact ⟨rfl, HB.out⟩

theorem formatInt_in (c : Nat) (hc : c < 160) (w : World) (h : DB w) :
    Calls Tryd.prog 15 #[.int .i64 (65536 + (c : Int)), .int .i64 16] w fun e w' => e = .returned (.string (hexS c)) ∧ Below w.heap.size w w' := by
  have C := Lib.hid (formatBits_hex c hc w h)
  clear h
  go_enter Tryd.func15, Tryd.ntmps15
  go_wp2_with fail
  refine C.out.mono ?_
  rintro e w1 ⟨rfl, hb⟩
  go_wp2_with fail
  go_ret
  exact ⟨rfl, hb⟩
theorem formatInt_hex (c : Nat) (hc : c < 160) (w : World) (h : DB w) :
    Calls Tryd.prog 10 #[.int .i64 (65536 + (c : Int)), .int .i64 16] w fun e w' => e = .returned (.string (hexS c)) ∧ Below w.heap.size w w' := by
  have C := Lib.hid (formatInt_in c hc w h)
  clear h
  go_enter Tryd.func10, Tryd.ntmps10
  go_wp2_with fail
  refine C.out.mono ?_
  rintro e w1 ⟨rfl, hb⟩
  go_wp2_with fail
  go_ret
  exact ⟨rfl, hb⟩
end Go.Proofs.YtmopaolfimpohaaDoor
