/- Contracts of laws.element (it tells whether an element is as its kind says) and ast.FodderElementCountNewlines. -/
import Derived.Test.YteiholpabgeajaaDoorFits
namespace Go.Proofs.YteiholpabgeajaaDoor
open Go.RowKit

/-- The element is as its kind says. -/
def El.Good (e : El) : Prop := 0 ≤ e.blanks ∧ e.blanks ≤ 1000 ∧ 0 ≤ e.indent ∧ e.indent ≤ 1000 ∧ e.n ≤ 20 ∧ (∀ s ∈ e.cs, s.size ≤ 200) ∧
  ((e.kind = 0 ∧ e.n ≤ 1) ∨ (e.kind = 1 ∧ e.n = 1 ∧ e.blanks = 0 ∧ e.indent = 0) ∨ (e.kind = 2 ∧ 1 ≤ e.n))
def Tells (P : Prop) (w : World) (e : Ending) (w' : World) : Prop := ∃ b : Bool, e = .returned (.bool b) ∧ (b = true ↔ P) ∧ Below w.heap.size w w'

set_option maxHeartbeats 400000 in
theorem element_out (e : El) (w : World) (h : ¬ (0 ≤ e.blanks ∧ e.blanks ≤ 1000 ∧ 0 ≤ e.indent ∧ e.indent ≤ 1000 ∧ e.n ≤ 20)) :
    Calls Tryd.prog 16 #[.agg #[.int .i64 e.kind, .int .i64 e.blanks, .int .i64 e.indent, .slice e.A e.n e.c]] w (Tells e.Good w) := by
  have hg : (false = true ↔ e.Good) := ⟨fun h' => (by cases h'), fun hg => absurd ⟨hg.1, hg.2.1, hg.2.2.1, hg.2.2.2.1, hg.2.2.2.2.1⟩ h⟩
  have Hg := Lib.hid hg
  have hq : e.blanks < 0 ∨ 1000 < e.blanks ∨ e.indent < 0 ∨ 1000 < e.indent ∨ 20 < e.n := by omega
  clear hg h
  rcases hq with hq | hq | hq | hq | hq
  all_goals
    go_enter Tryd.func16, Tryd.ntmps16
    go_wp2
  all_goals (go_ret; exact ⟨false, rfl, Hg.out, (Below.refl _ _).alloc (Nat.le_refl _) _⟩)

def KindOK (kd bl nd : Int) (n : Nat) : Prop := (kd = 0 ∧ n ≤ 1) ∨ (kd = 1 ∧ n = 1 ∧ bl = 0 ∧ nd = 0) ∨ (kd = 2 ∧ 1 ≤ n)
set_option maxHeartbeats 400000 in
theorem element_in (kd bl nd : Int) (A : Option Addr) (n c : Nat) (cs : List ByteArray) (w : World) (B : Nat) (h : El.OK w B ⟨kd, bl, nd, A, n, c, cs⟩) (hB : B ≤ w.heap.size) (h1 : 0 ≤ bl) (h2 : bl ≤ 1000) (h3 : 0 ≤ nd) (h4 : nd ≤ 1000) (h5 : n ≤ 20) :
    Calls Tryd.prog 16 #[.agg #[.int .i64 kd, .int .i64 bl, .int .i64 nd, .slice A n c]] w (Tells (El.Good ⟨kd, bl, nd, A, n, c, cs⟩) w) := by
  have hG : El.Good ⟨kd, bl, nd, A, n, c, cs⟩ ↔ (∀ s ∈ cs, s.size ≤ 200) ∧ KindOK kd bl nd n :=
    ⟨fun h => ⟨h.2.2.2.2.2.1, h.2.2.2.2.2.2⟩, fun h => ⟨h1, h2, h3, h4, h5, h.1, h.2⟩⟩
  generalize El.Good ⟨kd, bl, nd, A, n, c, cs⟩ = G at hG ⊢
  have HG := Lib.hid hG
  clear hG
  have d1 : decide (bl < 0) = false := by simp; omega
  have d2 : decide (1000 < bl) = false := by simp; omega
  have d3 : decide (nd < 0) = false := by simp; omega
  have d4 : decide (1000 < nd) = false := by simp; omega
  have d5 : decide ((20 : Int) < (n : Int)) = false := by simp; omega
  have hlen : cs.length = n := h.len
  have HL := Lib.hid hlen
  clear hlen
  go_enter Tryd.func16, Tryd.ntmps16
  go_wp2_with fail
  go_loop [3] (fun i => ∃ k : Nat, k ≤ n ∧ i = .int .i64 k ∧ ∀ j s, j < k → cs[j]? = some s → s.size ≤ 200) (fun i => n - (intOf i).toNat)
  case atStart => exact ⟨0, Nat.zero_le _, rfl, fun j s hj => absurd hj (by omega)⟩
  case round =>
    obtain ⟨k, hk, rfl, hall⟩ := hrel
    have HA := Lib.hid hall
    clear hall d1 d2 d3 d4 d5
    by_cases hlt : k < n
    · obtain ⟨ad, u, rfl, _, hx, hcell⟩ := (h.com.alloc hB (.cells #[Value.int .i64 kd, Value.int .i64 bl, Value.int .i64 nd, Value.slice A n c] 26)).at_ hlt
      obtain ⟨s, hsm, rfl⟩ : ∃ s, cs[k]? = some s ∧ u = .string s := by
        rw [List.getElem?_map] at hx
        obtain ⟨s, h1, h2⟩ := Option.map_eq_some_iff.1 hx
        exact ⟨s, h1, h2.symm⟩
      have hsz := h.strs s (List.mem_of_getElem? hsm)
      unfold maxLen at hsz
      have HS := Lib.hid hsm
      clear hx hsm h
      go_wp2
      · have hbig : (200 : Int) < (s.size : Int) := by assumption
        go_ret
        refine ⟨false, rfl, ⟨fun h' => (by cases h'), fun hg => ?_⟩, (Below.refl _ _).alloc (Nat.le_refl _) _⟩
        have := (HG.out.1 hg).1 s (List.mem_of_getElem? HS.out)
        omega
      · have hle : (s.size : Int) ≤ 200 := by assumption
        go_round
        case rel =>
          refine ⟨k + 1, by omega, by go_num, fun j t hj ht => ?_⟩
          by_cases hjk : j < k
          · exact HA.out j t hjk ht
          · obtain rfl : j = k := by omega
            rw [HS.out] at ht
            cases ht
            omega
        case measure => simp [intOf]; omega
    · have hg : G ↔ KindOK kd bl nd n := by
        refine HG.out.trans ⟨fun h => h.2, fun h => ⟨fun s hs => ?_, h⟩⟩
        obtain ⟨j, hj⟩ := List.getElem?_of_mem hs
        have hjl := (List.getElem?_eq_some_iff.1 hj).1
        exact HA.out j s (by have := HL.out; omega) hj
      have Hg := Lib.hid hg
      clear hg h HG HA
      have fin : ∀ (b : Bool) (W' : World), Below w.heap.size w W' → (b = true ↔ KindOK kd bl nd n) → Tells G w (.returned (.bool b)) W' := fun b W' hb' hb => ⟨b, rfl, hb.trans Hg.out.symm, hb'⟩
      have Fin := Lib.hid fin
      clear fin
      have hkd : kd < 0 ∨ (0 ≤ kd ∧ kd ≤ 0) ∨ (1 ≤ kd ∧ kd ≤ 1) ∨ (2 ≤ kd ∧ kd ≤ 2) ∨ 2 < kd := by omega
      rcases hkd with hkd | ⟨hkd, hkd'⟩ | ⟨hkd, hkd'⟩ | ⟨hkd, hkd'⟩ | hkd
      · go_wp2
        go_ret
        exact Fin.out _ _ ((Below.refl _ _).alloc (Nat.le_refl _) _) (by unfold KindOK; simp; omega)
      · rcases (show n ≤ 1 ∨ 1 < n by omega) with hn | hn
        all_goals
          go_wp2
          go_ret
          exact Fin.out _ _ ((Below.refl _ _).alloc (Nat.le_refl _) _) (by unfold KindOK; simp; omega)
      · rcases (show n < 1 ∨ 1 < n ∨ (1 ≤ n ∧ n ≤ 1) by omega) with hn | hn | ⟨hn, hn'⟩
        · go_wp2
          go_ret
          exact Fin.out _ _ ((Below.refl _ _).alloc (Nat.le_refl _) _) (by unfold KindOK; simp; omega)
        · go_wp2
          go_ret
          exact Fin.out _ _ ((Below.refl _ _).alloc (Nat.le_refl _) _) (by unfold KindOK; simp; omega)
        · rcases (show 0 < bl ∨ bl ≤ 0 by omega) with hb | hb
          all_goals rcases (show 0 < nd ∨ nd ≤ 0 by omega) with hi | hi
          all_goals
            go_wp2
            go_ret
            exact Fin.out _ _ ((Below.refl _ _).alloc (Nat.le_refl _) _) (by unfold KindOK; simp; omega)
      · rcases (show n < 1 ∨ 1 ≤ n by omega) with hn | hn
        all_goals
          go_wp2
          go_ret
          exact Fin.out _ _ ((Below.refl _ _).alloc (Nat.le_refl _) _) (by unfold KindOK; simp; omega)
      · go_wp2
        go_ret
        exact Fin.out _ _ ((Below.refl _ _).alloc (Nat.le_refl _) _) (by unfold KindOK; simp; omega)

theorem element_any (e : El) (w : World) (B : Nat) (h : e.OK w B) (hB : B ≤ w.heap.size) :
    Calls Tryd.prog 16 #[.agg #[.int .i64 e.kind, .int .i64 e.blanks, .int .i64 e.indent, .slice e.A e.n e.c]] w (Tells e.Good w) := by
  by_cases hq : 0 ≤ e.blanks ∧ e.blanks ≤ 1000 ∧ 0 ≤ e.indent ∧ e.indent ≤ 1000 ∧ e.n ≤ 20
  · exact element_in e.kind e.blanks e.indent e.A e.n e.c e.cs w B h hB hq.1 hq.2.1 hq.2.2.1 hq.2.2.2.1 hq.2.2.2.2
  · exact element_out e w hq
end Go.Proofs.YteiholpabgeajaaDoor
