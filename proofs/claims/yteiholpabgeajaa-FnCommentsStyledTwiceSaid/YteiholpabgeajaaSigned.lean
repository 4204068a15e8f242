/- The contract of laws.signed: where it tells true, comments up to a line's end begin as such do. -/
import Derived.Test.YteiholpabgeajaaPlainD
namespace Go.Proofs.Yteiholpabgeajaa
open Go.RowKit

/-- The comment begins with # or //. -/
def LineC (s : ByteArray) : Prop := ∃ x t, s.data.toList = x :: t ∧ (x.toNat = 35 ∨ (x.toNat = 47 ∧ ∃ t', t = 47 :: t'))
def SignedEl (e : El) : Prop := e.kind ≠ 1 → ∀ c, e.cs = [c] → LineC c
def SignedTo (els : List El) (k : Nat) : Prop := ∀ (j : Nat) e, j < k → els[j]? = some e → SignedEl e
theorem SignedTo.step {els : List El} {k : Nat} {e : El} (h : SignedTo els k) (he : els[k]? = some e) (hs : SignedEl e) : SignedTo els (k + 1) := fun j x hj hx => by
  by_cases hjk : j < k
  · exact h j x hjk hx
  · obtain rfl : j = k := by omega
    rw [he] at hx
    cases hx
    exact hs

def SignR (els : List El) (w : World) (e : Ending) (w' : World) : Prop := ∃ b : Bool, e = .returned (.bool b) ∧ (b = true → ∀ e ∈ els, SignedEl e) ∧ w = w'

set_option maxRecDepth 100000 in
set_option maxHeartbeats 3200000 in
theorem signed_any (A : Option Addr) (n c : Nat) (els : List El) (w : World) (h : ElsAt w w.heap.size A n els) (hnc : n ≤ maxLen) :
    Calls Try.prog 9 #[.slice A n c] w (SignR els w) := by
  unfold maxLen at hnc
  have hlen := h.2.1
  have HLEN := Lib.hid hlen
  clear hlen
  go_enter Try.func9, Try.ntmps9
  go_wp2_with fail
  go_loop [3] (fun i => ∃ k : Nat, k ≤ n ∧ i = .int .i64 k ∧ SignedTo els k) (fun i => n - (intOf i).toNat)
  case atStart => exact ⟨0, Nat.zero_le _, rfl, fun j e hj => absurd hj (by omega)⟩
  case round =>
    obtain ⟨k, hk, rfl, hto⟩ := hrel
    have HT := Lib.hid hto
    clear hto
    by_cases hlt : k < n
    · obtain ⟨ad, e, rfl, hadb, hek, hok, hc0, hc1, hc2, hc3⟩ := h.cellsAt hlt
      have HE := Lib.hid hek
      have HO := Lib.hid hok
      have hmax : e.n ≤ maxLen := Nat.le_trans hok.le hok.max
      unfold maxLen at hmax
      have hel := hok.len
      have HEL := Lib.hid hel
      clear hek hok h hc1 hc2 hel
      by_cases hn0 : e.n = 0
      · have hst := HT.out.step HE.out (fun _ c hc => by have := HEL.out; rw [hc] at this; simp at this; omega)
        have HST := Lib.hid hst
        have hd : ((e.n : Int) == 0) = true := by simp; omega
        clear hst
        go_wp2_with fail
        go_round
        case rel => exact ⟨k + 1, by omega, by go_num, HST.out⟩
        case measure => simp [intOf]; omega
      · obtain ⟨cd, u, hcA, _, hx, hcell⟩ := HO.out.com.at_ (show 0 < e.n by omega)
        rw [hcA] at hc3
        obtain ⟨s, hsm, rfl⟩ : ∃ s, e.cs[0]? = some s ∧ u = .string s := by
          rw [List.getElem?_map] at hx
          obtain ⟨s, h1, h2⟩ := Option.map_eq_some_iff.1 hx
          exact ⟨s, h1, h2.symm⟩
        have hsz := HO.out.strs s (List.mem_of_getElem? hsm)
        unfold maxLen at hsz
        have HS := Lib.hid hsm
        clear hx hsm hcA
        have hcell' : w.cell? cd = some (.string s) := by simpa [Addr.add] using hcell
        clear hcell
        have hne : ∀ h : 0 < s.size, ¬ s.toList = [] := fun h e0 => by
          have := congrArg List.length e0
          rw [ByteArray.toList_eq] at this
          have h0 : s.size = 0 := by simpa using this
          omega
        have HNE := Lib.hid hne
        clear hne
        by_cases hS : SignedEl e
        · have hst := HT.out.step HE.out hS
          have HST := Lib.hid hst
          clear hst hS
          rcases (show s.size = 0 ∨ s.size = 1 ∨ 2 ≤ s.size by omega) with h0 | h0 | h0
          · obtain rfl : s = ⟨#[]⟩ := by
              apply ByteArray.ext
              exact Array.eq_empty_of_size_eq_zero h0
            clear h0 hsz
            go_wp2_with fail
            all_goals first | (go_ret; exact ⟨false, rfl, fun h => (by cases h), rfl⟩) | (go_round; (case rel => exact ⟨k + 1, by omega, by go_num, HST.out⟩); (case measure => simp [intOf]; omega))
          all_goals
            have hs1 := HNE.out (by omega)
            have hs2 : s.toList.isEmpty = false := by simpa using hs1
            have hs3 : 0 < s.size := by omega
            go_wp2_with fail
            all_goals first | (go_ret; exact ⟨false, rfl, fun h => (by cases h), rfl⟩) | (go_round; (case rel => exact ⟨k + 1, by omega, by go_num, HST.out⟩); (case measure => simp [intOf]; omega))
        · have hk1 : ¬ e.kind = 1 := fun hk => hS (fun h => absurd hk h)
          obtain ⟨hn1, hlc⟩ : e.n ≤ 1 ∧ ¬ LineC s := by
            unfold SignedEl at hS
            have h1 : ∃ c, e.cs = [c] ∧ ¬ LineC c := Classical.byContradiction fun hno => hS (fun _ c hc => Classical.byContradiction fun hl => hno ⟨c, hc, hl⟩)
            obtain ⟨c, hc, hl⟩ := h1
            have h2 := HEL.out
            have h3 := HS.out
            rw [hc] at h2 h3
            simp at h2 h3
            subst h3
            exact ⟨by omega, hl⟩
          have HLC := Lib.hid hlc
          have hkb : (e.kind == 1) = false := by simpa using hk1
          have hnb : decide ((1 : Int) < (e.n : Int)) = false := by simp; omega
          clear hS hlc
          rcases (show s.size = 0 ∨ s.size = 1 ∨ 2 ≤ s.size by omega) with h0 | h0 | h0
          · obtain rfl : s = ⟨#[]⟩ := by
              apply ByteArray.ext
              exact Array.eq_empty_of_size_eq_zero h0
            clear h0 hsz
            go_wp2_with fail
            all_goals (go_ret; exact ⟨false, rfl, fun h => (by cases h), rfl⟩)
          all_goals
            have hs1 := HNE.out (by omega)
            have hs2 : s.toList.isEmpty = false := by simpa using hs1
            have hs3 : 0 < s.size := by omega
            have h35 : ¬ ((s[0].toNat : Int) = 35) := fun h35 => HLC.out (by
              refine ⟨s[0], s.data.toList.drop 1, ?_, .inl (by omega)⟩
              have := List.drop_eq_getElem_cons (l := s.data.toList) (i := 0) (by simpa using hs3)
              exact this)
            have h35b : ((s[0].toNat : Int) == 35) = false := by simpa using h35
          · go_wp2_with fail
            all_goals (go_ret; exact ⟨false, rfl, fun h => (by cases h), rfl⟩)
          · have h47 : ¬ (s.extract 0 2).toList = [47, 47] := fun h47 => HLC.out (by
              rw [ByteArray.toList_eq] at h47
              have e2 : (s.extract 0 2).data.toList = s.data.toList.take 2 := by simp
              rw [e2] at h47
              have e3 := List.take_append_drop 2 s.data.toList
              rw [h47] at e3
              exact ⟨47, 47 :: s.data.toList.drop 2, e3.symm, .inr ⟨rfl, _, rfl⟩⟩)
            have h47b : ((s.extract 0 2).toList == [47, 47]) = false := by simpa using h47
            obtain ⟨v, h42⟩ : ∃ v, ((s.extract 0 2).toList == [47, 42]) = v := ⟨_, rfl⟩
            cases v
            all_goals
              go_wp2_with fail
              all_goals (go_ret; exact ⟨false, rfl, fun h => (by cases h), rfl⟩)
    · obtain rfl : k = n := by omega
      clear h
      go_wp2_with fail
      go_ret
      refine ⟨true, rfl, fun _ e he => ?_, rfl⟩
      obtain ⟨i, hi⟩ := List.getElem?_of_mem he
      exact HT.out i e (by have := (List.getElem?_eq_some_iff.1 hi).1; have := HLEN.out; omega) hi
end Go.Proofs.Yteiholpabgeajaa
