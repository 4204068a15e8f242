/- Contracts of the size tests zzFits5, zzFits7, zzFits8: they return, and turn nothing that was there. -/
import Derived.Test.YteiholpabgeajaaDoorEl
import Derived.WalkKit
import Derived.WalkLawsBesides
import Derived.WalkSpells
namespace Go.Proofs.YteiholpabgeajaaDoor
open Go.RowKit

/-- Some boolean is handed back; nothing that was there has turned. -/
def SomeBool (w : World) (e : Ending) (w' : World) : Prop := ∃ b : Bool, e = .returned (.bool b) ∧ Below w.heap.size w w'

theorem fits5 (A : Option Addr) (n c : Nat) (cs : List ByteArray) (w : World) (B : Nat) (h : Reads w B 1 A n (cs.map .string)) (hs : ∀ s ∈ cs, s.size ≤ maxLen) :
    Calls Tryd.prog 15 #[.slice A n c] w (SomeBool w) := by
  by_cases hbig : n ≤ 2147483647
  · have hd : decide ((2147483647 : Int) < (n : Int)) = false := by simp; omega
    go_enter Tryd.func15, Tryd.ntmps15
    go_wp2
    go_loop [10] (fun i => ∃ k : Nat, k ≤ n ∧ i = .int .i64 k) (fun i => n - (intOf i).toNat)
    case atStart => exact ⟨0, Nat.zero_le _, rfl⟩
    case round =>
      obtain ⟨k, hk, rfl⟩ := hrel
      by_cases hlt : k < n
      · obtain ⟨ad, u, rfl, _, hx, hcell⟩ := h.at_ hlt
        obtain ⟨s, hsm, rfl⟩ : ∃ s, s ∈ cs ∧ u = .string s := by
          rw [List.getElem?_map] at hx
          obtain ⟨s, h1, h2⟩ := Option.map_eq_some_iff.1 hx
          exact ⟨s, List.mem_of_getElem? h1, h2.symm⟩
        have hsz := hs s hsm
        unfold maxLen at hsz
        clear hx hd h
        go_wp2
        · go_ret
          exact ⟨_, rfl, Below.refl _ _⟩
        · go_round
          case rel => exact ⟨k + 1, by omega, by go_num⟩
          case measure => simp [intOf]; omega
      · clear h
        go_wp2
        go_ret
        exact ⟨_, rfl, Below.refl _ _⟩
  · go_enter Tryd.func15, Tryd.ntmps15
    go_wp2
    go_ret
    exact ⟨_, rfl, Below.refl _ _⟩

theorem fits8 (e : El) (w : World) (B : Nat) (h : e.OK w B) (hB : B ≤ w.heap.size) :
    Calls Tryd.prog 9 #[.agg #[.int .i64 e.kind, .int .i64 e.blanks, .int .i64 e.indent, .slice e.A e.n e.c]] w (SomeBool w) := by
  go_enter Tryd.func9, Tryd.ntmps9
  go_wp2_with fail
  refine (fits5 _ _ _ e.cs _ B (h.com.alloc hB _) h.strs).mono ?_
  rintro _ w1 ⟨b, rfl, hb⟩
  have hb' : Below w.heap.size w w1 := ((Below.refl _ _).alloc (Nat.le_refl _) _).trans (hb.mono (by simp))
  cases b
  all_goals
    go_wp2_with fail
    go_ret
    exact ⟨_, rfl, hb'⟩

theorem fits7 (A : Option Addr) (n c : Nat) (els : List El) (w : World) (h : ElsAt w w.heap.size A n els) :
    Calls Tryd.prog 4 #[.slice A n c] w (SomeBool w) := by
  by_cases hbig : n ≤ 2147483647
  · have hd : decide ((2147483647 : Int) < (n : Int)) = false := by simp; omega
    go_enter Tryd.func4, Tryd.ntmps4
    go_wp2
    go_loopw [10] (fun i wr => ∃ k : Nat, k ≤ n ∧ i = .int .i64 k ∧ Below w.heap.size w wr) (fun i _ => n - (intOf i).toNat)
    case atStart => exact ⟨0, Nat.zero_le _, rfl, Below.refl _ _⟩
    case round =>
      obtain ⟨k, hk, rfl, hb⟩ := hrel
      by_cases hlt : k < n
      · obtain ⟨ad, e, rfl, hadb, _, hok, hc0, hc1, hc2, hc3⟩ := (h.below hb).cellsAt hlt
        have hsz := hb.size
        clear hd h
        go_wp2_with fail
        refine (fits8 e _ w.heap.size (hok.keep fun p hp => World.cell?_alloc_lt wr _ p (by omega)) (by simp; omega)).mono ?_
        rintro _ w1 ⟨b, rfl, hb1⟩
        have hb' : Below w.heap.size w w1 := (hb.alloc hsz _).trans (hb1.mono (by simp; omega))
        cases b
        · go_wp2_with fail
          go_ret
          exact ⟨_, rfl, hb'⟩
        · go_wp2_with fail
          go_roundw
          case rel => exact ⟨k + 1, by omega, by go_num, hb'⟩
          case measure => simp [intOf]; omega
      · clear h
        go_wp2
        go_ret
        exact ⟨_, rfl, hb⟩
  · go_enter Tryd.func4, Tryd.ntmps4
    go_wp2
    go_ret
    exact ⟨_, rfl, Below.refl _ _⟩
end Go.Proofs.YteiholpabgeajaaDoor
