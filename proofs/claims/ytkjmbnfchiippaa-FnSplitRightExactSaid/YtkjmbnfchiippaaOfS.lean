/- spec.OfUnits, laws.sameParts. -/
import Derived.Test.YtkjmbnfchiippaaEncS
import Derived.Lib.AppendStr
namespace Go.Proofs.Ytkjmbnfchiippaa
open Go.RowKit

def u8s (l : List UInt8) : List Value := l.map fun b => .int .u8 (b.toNat : Int)
theorem enc_le {r : Int} (h : Utf8.valid r = true) : (enc r).length ≤ 4 := by
  obtain ⟨n, rfl, hg⟩ := valid_good h
  have hc : n < 128 ∨ (128 ≤ n ∧ n < 2048) ∨ (2048 ≤ n ∧ n < 65536) ∨ (65536 ≤ n ∧ n ≤ 1114111) := by
    unfold GoodRune at hg
    omega
  rw [enc_def]
  rcases hc with h1 | h1 | h1 | h1
  · rw [enc1 n h h1]; simp
  · rw [enc2 n h h1.1 h1.2]; simp
  · rw [enc3 n h h1.1 h1.2]; simp
  · rw [enc4 n h h1.1]; simp
theorem encL_le : ∀ {l : List Int}, AllV l → (encL l).length ≤ 4 * l.length
  | [], _ => by simp [encL]
  | a :: l, h => by
    have h1 := enc_le (h a (List.mem_cons_self ..))
    have h2 := encL_le (l := l) fun r hr => h r (List.mem_cons_of_mem _ hr)
    rw [encL_cons, List.length_append, List.length_cons]
    omega
theorem strCells_enc {s : ByteArray} {r : Int} (h : s.data.toList = enc r) : Lib.strCells s = u8s (enc r) := by
  unfold Lib.strCells u8s
  rw [h]
theorem encL_snoc (l : List Int) (k : Nat) {r : Int} (h : l[k]? = some r) : u8s (encL (l.take (k + 1))) = u8s (encL (l.take k)) ++ u8s (enc r) := by
  rw [List.take_add_one, h, encL_app]
  simp [u8s, encL]
theorem own_below {w w' : World} {B : Nat} {e : TypeId} {s : Nat} {v : Value} {n : Nat} {xs : List Value} (h : w.ownsRow B e s v n xs) (hb : Below w.heap.size w w') : w'.ownsRow B e s v n xs :=
  ⟨h.1, h.2.imp id fun ⟨g, cap, cur, h1, h2, h3, h4⟩ => ⟨g, cap, cur, h1, h2, (hb.block g (Array.getElem?_eq_some_iff.1 h3).1).trans h3, h4⟩⟩
theorem info8 : (Try.prog.info? 5).map (fun i => (i.zero, i.size, i.bytes)) = some (some (.int .u8 0), 1, 1) := by kernel_rfl

/-- What OfUnits hands back. -/
def OfOk (p : List Int) (w : World) (e : Ending) (w' : World) : Prop := ∃ s : ByteArray, e = .returned (.string s) ∧ s.data.toList = encL p ∧ Below w.heap.size w w'

set_option maxRecDepth 100000 in
set_option maxHeartbeats 1600000 in
theorem of_any (ad : Addr) (n c : Nat) (p : List Int) (w : World) (h : IA w ad p) (hn : n = p.length) (hv : AllV p) (hs : n ≤ 2000) :
    Calls Try.prog 18 #[.slice (some ad) n c] w (OfOk p w) := by
  obtain ⟨iI, hiI, hzI0, hzI1, hzI2⟩ := info_parts info8
  have H := Lib.hid h
  have HN := Lib.hid hn
  have HV := Lib.hid hv
  clear h hn hv
  go_enter Try.func18, Try.ntmps18
  go_wp2_with fail
  go_loopw [3, 4] (fun v i wr => ∃ (k m c' : Nat) (A' : Addr), k ≤ n ∧ i = .int .i64 k ∧ v = .slice (some A') m c' ∧ m = (encL (p.take k)).length ∧ wr.ownsRow w.heap.size 5 1 (.slice (some A') m c') m (u8s (encL (p.take k))) ∧ Below w.heap.size w wr) (fun _ i _ => n - (intOf i).toNat)
  case atStart =>
    refine ⟨0, 0, 0, _, Nat.zero_le _, rfl, rfl, rfl, ?_, (Below.refl _ _).alloc (Nat.le_refl _) _⟩
    have := World.ownsRow_made (base := w.heap.size) (e := 5) (size := 1) w #[] 0 (by omega) (by simp [maxLen]) rfl
    simpa [u8s, encL] using this
  case round =>
    obtain ⟨k, m, c', A', hk, rfl, rfl, hm, hrow, hb⟩ := hrel
    have HR := Lib.hid hrow
    have HM := Lib.hid hm
    have HB := Lib.hid hb
    have hsz := hb.size
    have hm4 : m ≤ 8000 := by have := encL_le (HV.out.take k); rw [List.length_take] at this; omega
    clear hrow hm
    by_cases hlt : k < n
    · obtain ⟨r, hr⟩ : ∃ r, p[k]? = some r := ⟨_, List.getElem?_eq_getElem (by have := HN.out; omega)⟩
      have hcx : wr.cell? (ad.add k) = some (.int .i64 r) := keeps hb (H.out k r hr)
      have HX := Lib.hid hr
      have hvr := Lib.hid (HV.out r (List.mem_of_getElem? hr))
      clear hr hb
      go_wp2_with fail
      refine (encoded_any r wr hvr.out).mono ?_
      rintro e w1 ⟨s, rfl, hsl, hb1⟩
      have hlen : s.size = (enc r).length := by rw [← hsl]; simp
      have hp := enc_pos hvr.out
      have h4 := enc_le hvr.out
      have HSL := Lib.hid hsl
      have HLN := Lib.hid hlen
      have HB1 := Lib.hid (HB.out.trans (hb1.mono hsz))
      have hrow1 : w1.ownsRow w.heap.size 5 1 (.slice (some A') m c') m (u8s (encL (p.take k))) := own_below HR.out hb1
      have HR1 := Lib.hid hrow1
      have hsz1 := (HB.out.trans (hb1.mono hsz)).size
      have hss : s.size ≤ 4 ∧ 0 < s.size := by omega
      clear hsl hlen hb1 hrow1 hp h4
      go_wp2_with
        (refine Lib.wpList_append_own_string _ (by rfl) (.tmp 12) (.tmp 17) 79 9 (by rfl) w.heap.size 5 iI Try.underlying79 Try.underlying9 hiI hzI0 hzI1 hzI2 (.slice (some A') m c') m (u8s (encL (p.take k))) (by rfl) HR1.out s (by rfl) ?_ ?_ hsz1 ?_
         · (unfold maxLen; omega)
         · omega
         intro v2 w2 hown hgr hnil)
      have hb2 : Below w.heap.size w w2 := HB1.out.grown hgr hsz1 (fun g hg => (HR1.out.lt g hg).1)
      rw [strCells_enc HSL.out, ← encL_snoc p k HX.out] at hown
      obtain ⟨g, cap, hv2, _, _⟩ := hown.form (by omega)
      subst hv2
      have HO := Lib.hid hown
      have HB2 := Lib.hid hb2
      clear hown hgr hnil hb2
      go_roundw
      case rel => exact ⟨k + 1, m + s.size, cap, ⟨g, 0, none⟩, by omega, by go_num, rfl, by have := HO.out.1; simp [u8s] at this; omega, HO.out, HB2.out⟩
      case measure => simp [intOf]; omega
    · obtain rfl : k = n := by omega
      have hall : p.take k = p := List.take_of_length_le (by have := HN.out; omega)
      have hrow := HR.out
      have hml := HM.out
      rw [hall] at hrow hml
      have hcl : ∀ j (hj : j < (encL p).length), wr.cell? (A'.add j) = some (.int .u8 ((encL p)[j].toNat : Int)) := fun j hj => by
        obtain ⟨ad', he, _, hcc⟩ := (Reads.of_own hrow).2 (by omega)
        injection he with he
        subst he
        exact hcc j _ (by rw [u8s, List.getElem?_map, List.getElem?_eq_getElem hj]; rfl)
      have hconv := run_convert_bytes_back (P := Try.prog) wr 79 9 5 A' c' (encL p) Try.underlying79 Try.underlying5 Try.underlying9 hcl
      rw [← hml] at hconv
      obtain ⟨s, hs1, hs2⟩ : ∃ s : ByteArray, s = ⟨(encL p).toArray⟩ ∧ s.data.toList = encL p := ⟨_, rfl, rfl⟩
      rw [← hs1] at hconv
      have HS2 := Lib.hid hs2
      clear hcl hall hrow hml hs1 hs2
      go_wp2
      go_ret
      exact ⟨s, rfl, HS2.out, HB.out⟩
end Go.Proofs.Ytkjmbnfchiippaa
