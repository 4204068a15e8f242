/- Contracts of laws.plainComments, laws.signed. -/
import Derived.Test.YteiholpabgeajaaDoorPlainC
namespace Go.Proofs.YteiholpabgeajaaDoor
open Go.RowKit

/-! ### plainComments -/
def LineOK (s : ByteArray) : Prop := s.size ≠ 0 ∧ feeds s = 0
def Plain (els : List El) : Prop := (∀ e ∈ els, ∀ s ∈ e.cs, LineOK s) ∧ Fod els
def LinesTo (els : List El) (k : Nat) : Prop := ∀ (j : Nat) e, j < k → els[j]? = some e → ∀ s ∈ e.cs, LineOK s

set_option maxRecDepth 100000 in
set_option maxHeartbeats 1600000 in
theorem plain_any (A : Option Addr) (n c : Nat) (els : List El) (w : World) (h : ElsAt w w.heap.size A n els) (hnc : n ≤ maxLen) :
    Calls Tryd.prog 5 #[.slice A n c] w (Tells (Plain els) w) := by
  unfold maxLen at hnc
  have hlen := h.2.1
  have HLEN := Lib.hid hlen
  clear hlen
  go_enter Tryd.func5, Tryd.ntmps5
  go_wp2_with fail
  go_loop [3] (fun i => ∃ k : Nat, k ≤ n ∧ i = .int .i64 k ∧ LinesTo els k) (fun i => n - (intOf i).toNat)
  case atStart => exact ⟨0, Nat.zero_le _, rfl, fun j e hj => absurd hj (by omega)⟩
  case round =>
    obtain ⟨k, hk, rfl, hto⟩ := hrel
    have HT := Lib.hid hto
    clear hto
    by_cases hlt : k < n
    · obtain ⟨ad, e, rfl, hadb, hek, hok, hc0, hc1, hc2, hc3⟩ := h.cellsAt hlt
      have HE := Lib.hid hek
      have HO := Lib.hid hok
      have H := Lib.hid h
      have hmax : e.n ≤ maxLen := Nat.le_trans hok.le hok.max
      unfold maxLen at hmax
      clear hek hok h hc0 hc1 hc2
      go_wp2_with fail
      go_loop [4] (fun i => ∃ m : Nat, m ≤ e.n ∧ i = .int .i64 m ∧ ∀ (j : Nat) s, j < m → e.cs[j]? = some s → LineOK s) (fun i => e.n - (intOf i).toNat)
      case atStart => exact ⟨0, Nat.zero_le _, rfl, fun j s hj => absurd hj (by omega)⟩
      case round =>
        obtain ⟨m, hm, rfl, hall⟩ := hrel
        have HA := Lib.hid hall
        clear hall
        by_cases hlt2 : m < e.n
        · obtain ⟨cd, u, hcA, _, hx, hcell⟩ := HO.out.com.at_ hlt2
          rw [hcA] at hc3
          obtain ⟨s, hsm, rfl⟩ : ∃ s, e.cs[m]? = some s ∧ u = .string s := by
            rw [List.getElem?_map] at hx
            obtain ⟨s, h1, h2⟩ := Option.map_eq_some_iff.1 hx
            exact ⟨s, h1, h2.symm⟩
          have hsz := HO.out.strs s (List.mem_of_getElem? hsm)
          have HS := Lib.hid hsm
          have C := Lib.hid (fun W => feeds_any s W hsz)
          obtain ⟨f, hf⟩ : ∃ f : Nat, feeds s = f := ⟨_, rfl⟩
          rw [hf] at C
          have HF := Lib.hid hf
          clear hx hsm hsz hf hcA
          by_cases hs0 : s.size = 0
          · have hno : ¬ Plain els := fun hp => (hp.1 e (List.mem_of_getElem? HE.out) s (List.mem_of_getElem? HS.out)).1 hs0
            have HN := Lib.hid hno
            obtain rfl : s = ⟨#[]⟩ := by
              apply ByteArray.ext
              exact Array.eq_empty_of_size_eq_zero hs0
            clear hno hs0
            go_wp2_with fail
            go_ret
            exact ⟨false, rfl, ⟨fun h => (by cases h), fun h => absurd h HN.out⟩, Below.refl _ _⟩
          · have hs1 : ¬ s.toList = [] := by
              intro e0
              apply hs0
              have := congrArg List.length e0
              rw [ByteArray.toList_eq] at this
              simpa using this
            have hs2 : s.toList.isEmpty = false := by simpa using hs1
            have HS0 := Lib.hid hs0
            clear hs0
            go_wp2_with fail
            refine (C.out w).mono ?_
            rintro _ w' ⟨rfl, rfl⟩
            by_cases hf0 : f = 0
            · have hf1 : ¬ ((0 : Int) < (f : Int)) := by omega
              have hst : ∀ (j : Nat) t, j < m + 1 → e.cs[j]? = some t → LineOK t := fun j t hj ht => by
                by_cases hjm : j < m
                · exact HA.out j t hjm ht
                · obtain rfl : j = m := by omega
                  rw [HS.out] at ht
                  cases ht
                  exact ⟨HS0.out, by rw [HF.out, hf0]⟩
              have HST := Lib.hid hst
              clear hst hf0
              go_wp2_with fail
              go_round
              case rel => exact ⟨m + 1, by omega, by go_num, HST.out⟩
              case measure => simp [intOf]; omega
            · have hf1 : (0 : Int) < (f : Int) := by omega
              have hno : ¬ Plain els := fun hp => hf0 (by rw [← HF.out]; exact (hp.1 e (List.mem_of_getElem? HE.out) s (List.mem_of_getElem? HS.out)).2)
              have HN := Lib.hid hno
              clear hno hf0
              go_wp2_with fail
              go_ret
              exact ⟨false, rfl, ⟨fun h => (by cases h), fun h => absurd h HN.out⟩, Below.refl _ _⟩
        · have hst : LinesTo els (k + 1) := fun j x hj hx => by
            by_cases hjk : j < k
            · exact HT.out j x hjk hx
            · obtain rfl : j = k := by omega
              rw [HE.out] at hx
              cases hx
              intro s hs
              obtain ⟨i, hi⟩ := List.getElem?_of_mem hs
              exact HA.out i s (by have := (List.getElem?_eq_some_iff.1 hi).1; have := HO.out.len; omega) hi
          have HST := Lib.hid hst
          clear hst
          go_wp2_with fail
          go_round
          case rel => exact ⟨k + 1, by omega, by go_num, HST.out⟩
          case measure => simp [intOf]; omega
    · obtain rfl : k = n := by omega
      have H := Lib.hid h
      clear h
      go_wp2_with fail
      refine (lawFodder_any A k c els w H.out).mono ?_
      rintro _ w1 ⟨b, rfl, hb, hbel⟩
      have HB := Lib.hid hb
      clear hb
      go_wp2_with fail
      go_ret
      refine ⟨b, rfl, HB.out.trans ⟨fun hf => ⟨fun e he => ?_, hf⟩, fun hp => hp.2⟩, hbel⟩
      obtain ⟨i, hi⟩ := List.getElem?_of_mem he
      exact HT.out i e (by have := (List.getElem?_eq_some_iff.1 hi).1; have := HLEN.out; omega) hi
end Go.Proofs.YteiholpabgeajaaDoor
