/- laws.sameParts, where the strings are the parts' bytes. -/
import Derived.Test.YtkjmbnfchiippaaOfS
namespace Go.Proofs.Ytkjmbnfchiippaa
open Go.RowKit

set_option maxRecDepth 100000 in
set_option maxHeartbeats 1600000 in
theorem same_any (A B : Option Addr) (n c N C : Nat) (xs : List ByteArray) (us : List Value) (ps : List (List Int)) (w : World)
    (hA : Reads w w.heap.size 1 A n (xs.map .string)) (hB : Reads w w.heap.size 1 B N us) (hp : Parts w us ps) (hN : N = ps.length)
    (hx : xs.map (fun s => s.data.toList) = ps.map encL) (hv : ∀ p ∈ ps, AllV p ∧ p.length ≤ 2000) (hs : N ≤ 3000) :
    Calls Try.prog 10 #[.slice A n c, .slice B N C] w fun e w' => e = .returned (.bool true) ∧ Below w.heap.size w w' := by
  have hnN : n = N := by
    have h1 := hA.1
    have h2 := congrArg List.length hx
    simp at h1 h2
    omega
  subst hnN
  have HA := Lib.hid hA
  have HB := Lib.hid hB
  have HP := Lib.hid hp
  have HN := Lib.hid hN
  have HX := Lib.hid hx
  have HV := Lib.hid hv
  clear hA hB hp hN hx hv
  go_enter Try.func10, Try.ntmps10
  go_wp2_with fail
  go_loopw [5] (fun i wr => ∃ k : Nat, k ≤ n ∧ i = .int .i64 k ∧ Below w.heap.size w wr) (fun i _ => n - (intOf i).toNat)
  case atStart => exact ⟨0, Nat.zero_le _, rfl, Below.refl _ _⟩
  case round =>
    obtain ⟨k, hk, rfl, hb⟩ := hrel
    have HW := Lib.hid hb
    by_cases hlt : k < n
    · obtain ⟨ad, x, hA, _, hxk, hcx⟩ := HA.out.at_ hlt
      obtain ⟨bd, y, hB, _, hyk, hcy⟩ := HB.out.at_ hlt
      subst hA hB
      obtain ⟨p, hpk⟩ : ∃ p, ps[k]? = some p := ⟨_, List.getElem?_eq_getElem (by have := HN.out; omega)⟩
      obtain ⟨pa, pc, rfl, hpa⟩ := HP.out.2 k _ p hyk hpk
      rw [List.getElem?_map] at hxk
      obtain ⟨s, hsk, rfl⟩ := Option.map_eq_some_iff.1 hxk
      have hse : s.data.toList = encL p := by
        have := congrArg (fun l : List (List UInt8) => l[k]?) HX.out
        simp only [List.getElem?_map, hsk, hpk] at this
        injection this
      obtain ⟨hpv, hpl⟩ := HV.out p (List.mem_of_getElem? hpk)
      obtain ⟨m, hm⟩ : ∃ m, m = p.length := ⟨_, rfl⟩
      rw [← hm] at hpl hcy
      have CX := Lib.hid (keeps hb hcx)
      have CY := Lib.hid (keeps hb hcy)
      have HPA := Lib.hid (hpa.below hb)
      have HPV := Lib.hid hpv
      have HM := Lib.hid hm
      have HSE := Lib.hid hse
      have hkn : (k : Int) < n := by omega
      clear hcx hcy hpa hpv hm hse hxk hyk hsk hpk hb
      go_wp2_with fail
      go_region_held3 (fun w' => w'.cell? (ad.add k) = some (.string s) ∧ w'.cell? (bd.add k) = some (.slice (some pa) m pc)) (first | exact ⟨CX.out, CY.out⟩ | exact ⟨keeps hb1 CX.out, keeps hb1 CY.out⟩)
        ((go_at_call 18; refine (of_any pa m pc p wr.drew HPA.out HM.out HPV.out hpl).mono ?_; rintro _ w1 ⟨t, rfl, ht, hb1⟩; obtain rfl : t = s := by (apply ByteArray.ext; apply Array.toList_inj.1; exact ht.trans HSE.out.symm)))
      have HB1 := Lib.hid (HW.out.drew.trans (hb1.mono HW.out.size))
      clear hb1
      go_wp2_with fail
      go_roundw
      case rel => exact ⟨k + 1, by omega, by go_num, HB1.out⟩
      case measure => simp [intOf]; omega
    · obtain rfl : k = n := by omega
      go_wp2_with fail
      go_ret
      exact ⟨rfl, HW.out⟩
end Go.Proofs.Ytkjmbnfchiippaa
