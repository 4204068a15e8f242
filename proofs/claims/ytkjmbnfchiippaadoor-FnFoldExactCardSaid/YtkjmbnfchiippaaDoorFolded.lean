/- spec.Folded: the bytes, capitals turned; none that is no ASCII. -/
import Derived.Test.YtkjmbnfchiippaaDoorRows
import Derived.Test.YtkjmbnfchiippaaDoorApp
import Derived.WalkKit
import Derived.WalkLawsBesides
import Derived.WalkSpells
import Derived.Lib.Hide
import Derived.Laws.IdiomStrings
import Derived.Lib.Fold
namespace Go.Proofs.YtkjmbnfchiippaaDoor
open Go.RowKit

def lowB (c : UInt8) : UInt8 := if 65 ≤ c.toNat ∧ c.toNat ≤ 90 then (c.toNat + 32).toUInt8 else c
theorem lowB_nat (c : UInt8) : (lowB c).toNat = if 65 ≤ c.toNat ∧ c.toNat ≤ 90 then c.toNat + 32 else c.toNat := by
  unfold lowB
  split
  · rename_i h
    have : c.toNat + 32 < 256 := by omega
    simp [Nat.toUInt8, this]
  · rfl
/-- ASCII bytes alone. -/
def Asc (s : ByteArray) : Prop := ∀ (j : Nat) b, s.data.toList[j]? = some b → b.toNat < 128
def lowS (s : ByteArray) : ByteArray := ⟨(s.data.toList.map lowB).toArray⟩
theorem fold_eq (x y : UInt8) (hx : x.toNat < 128) (hy : y.toNat < 128) : Lib.foldEq x y = decide (lowB x = lowB y) := by
  unfold Lib.foldEq
  rw [Bool.eq_iff_iff, decide_eq_true_eq, decide_eq_true_eq, ← UInt8.toNat_inj, lowB_nat, lowB_nat]
  repeat' split
  all_goals omega
theorem equalFold_eq : ∀ l k : List UInt8, (∀ b ∈ l, b.toNat < 128) → (∀ b ∈ k, b.toNat < 128) → Lib.equalFold l k = decide (l.map lowB = k.map lowB)
  | [], [], _, _ => by simp [Lib.equalFold]
  | [], _ :: _, _, _ => by simp [Lib.equalFold]
  | _ :: _, [], _, _ => by simp [Lib.equalFold]
  | x :: s, y :: t, h1, h2 => by
    rw [Lib.equalFold, fold_eq x y (h1 x (List.mem_cons_self ..)) (h2 y (List.mem_cons_self ..)), equalFold_eq s t (fun b hb => h1 b (List.mem_cons_of_mem _ hb)) (fun b hb => h2 b (List.mem_cons_of_mem _ hb))]
    simp
theorem Asc.mem {s : ByteArray} (h : Asc s) : ∀ b ∈ s.data.toList, b.toNat < 128 := fun b hb => by
  obtain ⟨j, hj⟩ := List.getElem?_of_mem hb
  exact h j b hj
theorem lowS_eq (a b : ByteArray) : decide (lowS a = lowS b) = decide (a.data.toList.map lowB = b.data.toList.map lowB) := by
  rw [decide_eq_decide]
  unfold lowS
  refine ⟨fun h => ?_, fun h => by rw [h]⟩
  have := congrArg (fun s : ByteArray => s.data.toList) h
  simpa using this

def u8s (l : List UInt8) : List Value := l.map fun b => .int .u8 (b.toNat : Int)
theorem u8s_oneCell (l : List UInt8) : ∀ u ∈ u8s l, u.oneCell' = true := by
  intro u hu
  obtain ⟨n, _, rfl⟩ := List.mem_map.1 hu
  rfl
theorem infoB : (Tryd.prog.info? 5).map (fun i => (i.zero, i.size, i.bytes)) = some (some (.int .u8 0), 1, 1) := by kernel_rfl

/-- What Folded hands back. -/
def FoldedR (s : ByteArray) (w : World) (e : Ending) (w' : World) : Prop :=
  Below w.heap.size w w' ∧ ((Asc s ∧ e = .returned (.tuple #[.string (lowS s), .bool true])) ∨ e = .returned (.tuple #[.string ⟨#[]⟩, .bool false]))

set_option maxRecDepth 100000 in
set_option maxHeartbeats 800000 in
theorem folded_any (s : ByteArray) (w : World) (hs : s.size ≤ 2000) :
    Calls Tryd.prog 4 #[.string s] w (FoldedR s w) := by
  obtain ⟨iI, hiI, hzI0, hzI1, hzI2⟩ := info_parts infoB
  go_enter Tryd.func4, Tryd.ntmps4
  go_wp2_with fail
  go_loopw [4, 5] (fun v i wr => ∃ (k : Nat) (ad : Addr) (c' : Nat), k ≤ s.size ∧ i = .int .i64 k ∧ v = .slice (some ad) k c' ∧ wr.ownsRow w.heap.size 5 1 (.slice (some ad) k c') k (u8s ((s.data.toList.take k).map lowB)) ∧ (∀ (j : Nat) b, j < k → s.data.toList[j]? = some b → b.toNat < 128) ∧ Below w.heap.size w wr) (fun _ i _ => s.size - (intOf i).toNat)
  case atStart =>
    refine ⟨0, _, 0, Nat.zero_le _, rfl, rfl, ?_, fun j b hj => absurd hj (by omega), (Below.refl _ _).alloc (Nat.le_refl _) _⟩
    have := World.ownsRow_made (base := w.heap.size) (e := 5) (size := 1) w #[] 0 (by omega) (by simp [maxLen]) rfl
    simpa [u8s] using this
  case round =>
    obtain ⟨k, ad, c', hk, rfl, rfl, hrow, hasc, hbel⟩ := hrel
    have HA := Lib.hid hasc
    clear hasc
    have hsz := hbel.size
    by_cases hlt : k < s.size
    · obtain ⟨c, hc⟩ : ∃ c, s[k] = c := ⟨_, rfl⟩
      have hck : s.data.toList[k]? = some c := by rw [← hc]; exact List.getElem?_eq_getElem (by simpa using hlt)
      have hc256 := c.toNat_lt
      have hlow := lowB_nat c
      have htk : (s.data.toList.take (k + 1)).map lowB = (s.data.toList.take k).map lowB ++ [lowB c] := by
        rw [List.take_add_one, hck]
        simp
      have HK := Lib.hid hck
      have HT := Lib.hid htk
      have HL := Lib.hid hlow
      clear hck htk hlow
      by_cases h128 : 128 ≤ c.toNat
      · go_wp2
        go_ret2
        exact ⟨hbel, .inr rfl⟩
      · have hsel : (65 ≤ c.toNat ∧ c.toNat ≤ 90) ∨ c.toNat < 65 ∨ 90 < c.toNat := by omega
        obtain ⟨d, hd⟩ : ∃ d : Int, d = ((lowB c).toNat : Int) := ⟨_, rfl⟩
        have hrow' : ∀ X : Obj, (wr.alloc X).ownsRow w.heap.size 5 1 (.slice (some ad) k c') k (u8s ((s.data.toList.take k).map lowB)) := fun X => hrow.alloc X
        have HR := Lib.hid hrow'
        clear hrow'
        have HSZ := Lib.hid hs
        rcases hsel with ⟨h65, h90⟩ | h65 | h90
        · have hdv : d = (c.toNat : Int) + 32 := by rw [hd, HL.out, if_pos ⟨h65, h90⟩]; omega
          subst hdv
          have HD := Lib.hid hd
          clear hd
          go_wp2_with
            (refine wpList_append_any _ (by rfl) (.tmp 27) (.tmp 29) 27 (by rfl) w.heap.size 5 iI (.int .u8 0) 1 1 Tryd.underlying27 hiI hzI0 hzI1 hzI2 rfl (Nat.lt_add_one 0) (.slice (some ad) k c') k (u8s ((s.data.toList.take k).map lowB)) (by rfl) ?_ (wr.heap.size + 1) (some ⟨wr.heap.size, 0, none⟩) 1 1 [.int .u8 ((c.toNat : Int) + 32)] (by rfl) ?_ ?_ ?_ ?_ ?_ (k + 1) ?_ (u8s ((s.data.toList.take (k + 1)).map lowB)) ?_ ?_
             · exact HR.out _
             · exact Reads.of_block (heap_alloc_new wr _) rfl
             · (simp [Value.oneCell'])
             · (unfold maxLen; omega)
             · omega
             · (simp; omega)
             · rfl
             · (rw [HT.out, HD.out]; simp [u8s])
             intro A2 c2 w2 hap)
          have hb2 : Below w.heap.size w w2 := (hbel.alloc hsz _).grown hap.grown (by simp; omega) (fun g hg => (hrow.lt g hg).1)
          have hown2 := hap.own
          obtain ⟨g, cap, hv, _, _⟩ := hown2.form (by omega)
          have hA2 : A2 = some ⟨g, 0, none⟩ := by injection hv
          subst hA2
          clear hap hrow hv
          go_roundw
          case rel =>
            refine ⟨k + 1, ⟨g, 0, none⟩, c2, by omega, by go_num, rfl, hown2, fun j b hj hb => ?_, hb2⟩
            by_cases hjk : j < k
            · exact HA.out j b hjk hb
            · obtain rfl : j = k := by omega
              rw [HK.out] at hb
              cases hb
              omega
          case measure => simp [intOf]; omega
        all_goals
          have hdv : d = (c.toNat : Int) := by rw [hd, HL.out, if_neg (by omega)]
          subst hdv
          have HD := Lib.hid hd
          clear hd
          go_wp2_with
            (refine wpList_append_any _ (by rfl) (.tmp 27) (.tmp 29) 27 (by rfl) w.heap.size 5 iI (.int .u8 0) 1 1 Tryd.underlying27 hiI hzI0 hzI1 hzI2 rfl (Nat.lt_add_one 0) (.slice (some ad) k c') k (u8s ((s.data.toList.take k).map lowB)) (by rfl) ?_ (wr.heap.size + 1) (some ⟨wr.heap.size, 0, none⟩) 1 1 [.int .u8 (c.toNat : Int)] (by rfl) ?_ ?_ ?_ ?_ ?_ (k + 1) ?_ (u8s ((s.data.toList.take (k + 1)).map lowB)) ?_ ?_
             · exact HR.out _
             · exact Reads.of_block (heap_alloc_new wr _) rfl
             · (simp [Value.oneCell'])
             · (unfold maxLen; omega)
             · omega
             · (simp; omega)
             · rfl
             · (rw [HT.out, HD.out]; simp [u8s])
             intro A2 c2 w2 hap)
          have hb2 : Below w.heap.size w w2 := (hbel.alloc hsz _).grown hap.grown (by simp; omega) (fun g hg => (hrow.lt g hg).1)
          have hown2 := hap.own
          obtain ⟨g, cap, hv, _, _⟩ := hown2.form (by omega)
          have hA2 : A2 = some ⟨g, 0, none⟩ := by injection hv
          subst hA2
          clear hap hrow hv
          go_roundw
          case rel =>
            refine ⟨k + 1, ⟨g, 0, none⟩, c2, by omega, by go_num, rfl, hown2, fun j b hj hb => ?_, hb2⟩
            by_cases hjk : j < k
            · exact HA.out j b hjk hb
            · obtain rfl : j = k := by omega
              rw [HK.out] at hb
              cases hb
              omega
          case measure => simp [intOf]; omega
    · obtain rfl : k = s.size := by omega
      have hall : s.data.toList.take s.size = s.data.toList := List.take_of_length_le (by simp)
      rw [hall] at hrow
      have hlen : (s.data.toList.map lowB).length = s.size := by simp
      have hcl : ∀ j (hj : j < (s.data.toList.map lowB).length), wr.cell? (ad.add j) = some (.int .u8 ((s.data.toList.map lowB)[j].toNat : Int)) := fun j hj => by
        obtain ⟨ad', he, _, hcc⟩ := (Reads.of_own hrow).2 (by omega)
        injection he with he
        subst he
        exact hcc j _ (by rw [u8s, List.getElem?_map, List.getElem?_eq_getElem hj]; rfl)
      have hconv := run_convert_bytes_back (P := Tryd.prog) wr 27 9 5 ad c' (s.data.toList.map lowB) Tryd.underlying27 Tryd.underlying5 Tryd.underlying9 hcl
      rw [hlen] at hconv
      clear hcl hlen hall
      go_wp2
      go_ret2
      exact ⟨hbel, .inl ⟨fun j b hj => HA.out j b (by have := (List.getElem?_eq_some_iff.1 hj).1; simpa using this) hj, rfl⟩⟩
end Go.Proofs.YtkjmbnfchiippaaDoor
