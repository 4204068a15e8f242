/- zzCount: at how many places a string that cannot overlap itself stands in another. -/
import Derived.Test.YtkjmbnfchiippaaStandsS
namespace Go.Proofs.Ytkjmbnfchiippaa
open Go.RowKit

theorem occ_extract (s c : ByteArray) (k : Nat) : s.extract k (k + c.size) = c ↔ Occ s.data.toList c.data.toList k := by
  unfold Occ
  have e : (s.extract k (k + c.size)).data.toList = (s.data.toList.drop k).take c.data.toList.length := by
    simp
  rw [← e]
  constructor
  · intro h; rw [h]
  · intro h
    apply ByteArray.ext
    apply Array.toList_inj.1
    exact h

set_option maxRecDepth 100000 in
set_option maxHeartbeats 800000 in
theorem count_any (s c : ByteArray) (w : World) (hc : 1 ≤ c.size) (hs : s.size ≤ 8000) (hcs : c.size ≤ 8000) (hnb : NB c.data.toList) :
    Calls Try.prog 33 #[.string s, .string c] w fun e w' => e = .returned (.int .i64 (occs s.data.toList c.data.toList : Nat)) ∧ w = w' := by
  have hne : c.data.toList ≠ [] := fun e => by
    have := congrArg List.length e
    rw [show c.data.toList.length = c.size by simp] at this
    simp only [List.length_nil] at this
    omega
  have hcl : c.data.toList.length = c.size := by simp
  have hsl : s.data.toList.length = s.size := by simp
  have HNB := Lib.hid hnb
  have HNE := Lib.hid hne
  have HCL := Lib.hid hcl
  have HSL := Lib.hid hsl
  clear hnb hne hcl hsl
  go_enter Try.func33, Try.ntmps33
  go_wp2_with fail
  go_loop [5, 6] (fun vn vi => ∃ k n : Nat, k ≤ s.size ∧ n ≤ k ∧ vi = .int .i64 k ∧ vn = .int .i64 n ∧ n = nocc s.data.toList c.data.toList k) (fun _ vi => s.size - (intOf vi).toNat)
  case atStart => exact ⟨0, 0, Nat.zero_le _, Nat.le_refl _, rfl, rfl, rfl⟩
  case round =>
    obtain ⟨k, n, hk, hnk, rfl, rfl, hn⟩ := hrel
    have HN := Lib.hid hn
    clear hn
    by_cases hlt : k + c.size ≤ s.size
    · obtain ⟨p, hp⟩ : ∃ p, p = k + c.size := ⟨_, rfl⟩
      have hpe : (k : Int) + c.size = p := by omega
      have hps : p ≤ s.size := by omega
      have hkp : k ≤ p := by omega
      have hp1 : k + 1 ≤ p := by omega
      by_cases ho : Occ s.data.toList c.data.toList k
      · have hex : ((s.extract k p).toList == c.toList) = true := by rw [hp, (occ_extract s c k).2 ho]; simp
        have hj := nocc_jump HNB.out HNE.out ho
        rw [HCL.out, ← hp, ← HN.out] at hj
        have HJ := Lib.hid hj
        clear hp hj ho
        go_wp2_with fail
        go_round
        case rel => exact ⟨p, n + 1, hps, by omega, by go_num, by go_num, HJ.out.symm⟩
        case measure => simp [intOf]; omega
      · have hex : ((s.extract k p).toList == c.toList) = false := by
          rw [beq_eq_false_iff_ne, ByteArray.toList_eq, ByteArray.toList_eq]
          intro he
          refine ho ((occ_extract s c k).1 ?_)
          rw [← hp]
          apply ByteArray.ext
          apply Array.toList_inj.1
          exact he
        have hj := nocc_miss ho
        rw [← HN.out] at hj
        have HJ := Lib.hid hj
        clear hp hj ho
        go_wp2_with fail
        go_round
        case rel => exact ⟨k + 1, n, by omega, by omega, by go_num, rfl, HJ.out.symm⟩
        case measure => simp [intOf]; omega
    · have hend := nocc_end HNE.out (by rw [HSL.out]; exact hk) (by rw [HSL.out, HCL.out]; omega)
      rw [← HN.out] at hend
      have HE := Lib.hid hend
      clear hend
      go_wp2_with fail
      go_ret
      exact ⟨by rw [← HE.out]; rfl, rfl⟩
end Go.Proofs.Ytkjmbnfchiippaa
