/- The contract of fodderFill: of elements without blank lines, whose lines have no line feeds, it writes as many line feeds as are counted of them. -/
import Derived.Test.YteiholpabgeajaaDoorFill
import Derived.Deep.RegionHeld3
namespace Go.Proofs.YteiholpabgeajaaDoor
open Go.RowKit

theorem line0_at {w : World} {e : El} {B : Nat} (h : Reads w B 1 e.A e.n (e.cs.map .string)) (hB : B ≤ w.heap.size) (hi : 0 < e.n) :
    ∃ cd s, e.A = some cd ∧ s ∈ e.cs ∧ ∀ wr, Below w.heap.size w wr → wr.cell? cd = some (.string s) := by
  obtain ⟨cd, s, hA, hs, hc⟩ := line_at h hB hi
  exact ⟨cd, s, hA, List.mem_of_getElem? hs, fun wr hb => by have := hc wr hb; rwa [show cd.add 0 = cd by simp [Addr.add]] at this⟩
theorem feeds_sp : feeds ⟨#[32]⟩ = 0 := rfl
theorem feeds_sp2 : feeds ⟨#[32, 32]⟩ = 0 := rfl
theorem feeds_nl : feeds ⟨#[10]⟩ = 1 := rfl

set_option maxRecDepth 100000 in
set_option maxHeartbeats 6400000 in
theorem fodderFill_any (w : World) (A : Option Addr) (n c : Nat) (es : List El) (cr sp : Bool) (w1 : World) (B : Nat) (hB : B ≤ w.heap.size) (hcop : Copied w B (.slice A n c) n es) (hF : Fill w 0 0 w1)
    (hg : ∀ e ∈ es, e.Good) (h0 : ∀ e ∈ es, e.blanks = 0) (hl : ∀ e ∈ es, ∀ s ∈ e.cs, LineOK s) (hn : n ≤ 200) :
    Calls Tryd.prog 18 #[.pointer (some ⟨w.heap.size, 0, none⟩), .slice A n c, .bool cr, .bool sp, .bool false] w1 fun r w' => r = .returned (.tuple #[]) ∧ ∃ m L, Fill w m L w' ∧ L ≤ 20000000 ∧ (m : Int) = linesOf es := by
  have HB0 := Lib.hid hB
  have HC := Lib.hid hcop
  have HF := Lib.hid hF
  have HG := Lib.hid hg
  have H0 := Lib.hid h0
  have HL := Lib.hid hl
  clear hB hcop hF hg h0 hl
  go_enter Tryd.func18, Tryd.ntmps18
  go_wp2_with fail
  go_loopw [2, 10, 23] (fun cr li i wr => ∃ (k : Nat) (b : Bool) (x : Int) (m : Nat), k ≤ n ∧ i = .int .i64 k ∧ cr = .bool b ∧ li = .int .i64 x ∧ 0 ≤ x ∧ x ≤ 1000 ∧ (m : Int) = linesOf (es.take k) ∧ Fill w m (50000 * k) wr) (fun _ _ i _ => n - (intOf i).toNat)
  case atStart => exact ⟨0, cr, 0, 0, Nat.zero_le _, rfl, rfl, rfl, by omega, by omega, rfl, HF.out.more (by omega)⟩
  case round =>
    obtain ⟨k, b, x, m, hk, rfl, rfl, rfl, hx0, hx, hm, hfill⟩ := hrel
    by_cases hlt : k < n
    · obtain ⟨ad, e, hA, hek, hc0, hc1, hc2, hc3⟩ := (HC.out.below hfill.below).cellsAt hlt
      subst hA
      have hmem := List.mem_of_getElem? hek
      have hge := HG.out e hmem
      have hbl := H0.out e hmem
      have hli := HL.out e hmem
      have hrd := Reads.of_own (HC.out.com e hmem)
      have hst := linesOf_take es k e hek
      rw [← hm] at hst
      have HST := Lib.hid hst
      have HRD := Lib.hid hrd
      have HLI := Lib.hid hli
      have hS0 := St.start hfill e
      obtain ⟨p, hp⟩ : ∃ p, wr.heap.size = p := ⟨_, rfl⟩
      rw [hp] at hS0
      have S0 := Lib.hid hS0
      have HBW := Lib.hid hfill.below
      clear hek hmem hli hrd hst hm hfill HF hS0
      unfold El.Good at hge
      obtain ⟨_, _, hi0, hi1, hn20, hsz, hkind⟩ := hge
      have HSZ := Lib.hid hsz
      clear hsz
      obtain ⟨kd, bl, nd, eA, en, ec, cs⟩ := e
      simp only at hkind hbl hi0 hi1 hn20 hc0 hc1 hc2 hc3
      subst hbl
      have HP := Lib.hid hp
      rcases hkind with ⟨rfl, hn1⟩ | ⟨rfl, rfl, _, rfl⟩ | ⟨rfl, hn1⟩
      · have hlines : linesOf (es.take (k + 1)) = ((m + 1 : Nat) : Int) := by
          have := HST.out
          simp only [El.lines] at this
          rw [this]
          simp
        have HLN := Lib.hid hlines
        clear hlines
        rcases Nat.lt_or_ge 0 en with hpos | hz
        · obtain ⟨cd, s, hcA, hs, hcell⟩ := line0_at HRD.out (Nat.le_refl _) hpos
          simp only at hcA
          subst hcA
          have HOK := Lib.hid (HLI.out s hs)
          have HSS := Lib.hid (HSZ.out s hs)
          have HCL := Lib.hid hcell
          clear hcell hs
          go_wp2_with fail
          refine (write_sp2 S0.out (50000 * k + 2) (by omega) (by omega)).mono ?_
          rintro _ w2 ⟨rfl, hS⟩
          obtain ⟨f0, f1, f2, f3⟩ := hS.facts
          simp only at f0 f1 f2 f3
          have S1 := Lib.hid hS
          clear hS
          have g0 := HCL.out w2 S1.out.1.below
          go_wp2_with fail
          clear g0
          refine (write_line s S1.out HOK.out HSS.out (50000 * k + 202) (by omega) (by omega)).mono ?_
          rintro _ w3 ⟨rfl, hS⟩
          obtain ⟨f0, f1, f2, f3⟩ := hS.facts
          simp only at f0 f1 f2 f3
          have S2 := Lib.hid hS
          clear hS
          go_wp2_with fail
          refine (write_nl S2.out (50000 * k + 203) (by omega) (by omega)).mono ?_
          rintro _ w4 ⟨rfl, hS⟩
          obtain ⟨f0, f1, f2, f3⟩ := hS.facts
          simp only at f0 f1 f2 f3
          have S3 := Lib.hid hS
          clear hS
          go_wp2_with fail
          clear f0 f1 f2 f3
          go_loopw [19] (fun i wx => i = .int .i64 0 ∧ St w ⟨0, 0, nd, some cd, en, ec, cs⟩ p (m + 1) (50000 * k + 203) wx) (fun _ _ => 0)
          case atStart => exact ⟨rfl, S3.out⟩
          case round =>
            obtain ⟨rfl, hS⟩ := hrel
            obtain ⟨f0, f1, f2, f3⟩ := hS.facts
            simp only at f0 f1 f2 f3
            have SB := Lib.hid hS
            clear hS
            go_wp2_with fail
            clear f0 f1 f2 f3
            go_loopw [20] (fun i wx => ∃ q : Nat, (q : Int) ≤ nd ∧ i = .int .i64 q ∧ St w ⟨0, 0, nd, some cd, en, ec, cs⟩ p (m + 1) (50000 * k + 203 + q) wx) (fun i _ => (nd - intOf i).toNat)
            case atStart => exact ⟨0, by omega, rfl, SB.out⟩
            case round =>
              obtain ⟨q, hq, rfl, hS⟩ := hrel
              obtain ⟨f0, f1, f2, f3⟩ := hS.facts
              simp only at f0 f1 f2 f3
              have SI := Lib.hid hS
              clear hS
              by_cases hqn : (q : Int) < nd
              · go_wp2_with fail
                refine (write_sp SI.out (50000 * k + 203 + (q + 1)) (by omega) (by omega)).mono ?_
                rintro _ w9 ⟨rfl, hS⟩
                have SI2 := Lib.hid hS
                clear hS
                go_wp2_with fail
                go_roundw
                case rel => exact ⟨q + 1, by omega, by go_num, SI2.out⟩
                case measure => simp [intOf]; omega
              · go_wp2_with fail
                go_roundw
                case rel => exact ⟨k + 1, false, nd, m + 1, by omega, by go_num, rfl, rfl, by omega, by omega, HLN.out.symm, SI.out.1.more (by omega)⟩
                case measure => simp [intOf]; omega
        · obtain rfl : en = 0 := by omega
          go_wp2_with fail
          refine (write_nl S0.out (50000 * k + 203) (by omega) (by omega)).mono ?_
          rintro _ w4 ⟨rfl, hS⟩
          obtain ⟨f0, f1, f2, f3⟩ := hS.facts
          simp only at f0 f1 f2 f3
          have S3 := Lib.hid hS
          clear hS
          go_wp2_with fail
          clear f0 f1 f2 f3
          go_loopw [19] (fun i wx => i = .int .i64 0 ∧ St w ⟨0, 0, nd, eA, 0, ec, cs⟩ p (m + 1) (50000 * k + 203) wx) (fun _ _ => 0)
          case atStart => exact ⟨rfl, S3.out⟩
          case round =>
            obtain ⟨rfl, hS⟩ := hrel
            obtain ⟨f0, f1, f2, f3⟩ := hS.facts
            simp only at f0 f1 f2 f3
            have SB := Lib.hid hS
            clear hS
            go_wp2_with fail
            clear f0 f1 f2 f3
            go_loopw [20] (fun i wx => ∃ q : Nat, (q : Int) ≤ nd ∧ i = .int .i64 q ∧ St w ⟨0, 0, nd, eA, 0, ec, cs⟩ p (m + 1) (50000 * k + 203 + q) wx) (fun i _ => (nd - intOf i).toNat)
            case atStart => exact ⟨0, by omega, rfl, SB.out⟩
            case round =>
              obtain ⟨q, hq, rfl, hS⟩ := hrel
              obtain ⟨f0, f1, f2, f3⟩ := hS.facts
              simp only at f0 f1 f2 f3
              have SI := Lib.hid hS
              clear hS
              by_cases hqn : (q : Int) < nd
              · go_wp2_with fail
                refine (write_sp SI.out (50000 * k + 203 + (q + 1)) (by omega) (by omega)).mono ?_
                rintro _ w9 ⟨rfl, hS⟩
                have SI2 := Lib.hid hS
                clear hS
                go_wp2_with fail
                go_roundw
                case rel => exact ⟨q + 1, by omega, by go_num, SI2.out⟩
                case measure => simp [intOf]; omega
              · go_wp2_with fail
                go_roundw
                case rel => exact ⟨k + 1, false, nd, m + 1, by omega, by go_num, rfl, rfl, by omega, by omega, HLN.out.symm, SI.out.1.more (by omega)⟩
                case measure => simp [intOf]; omega
      · have hlines : linesOf (es.take (k + 1)) = ((m : Nat) : Int) := by
          have := HST.out
          simp only [El.lines] at this
          rw [this]
          simp
        have HLN := Lib.hid hlines
        clear hlines
        obtain ⟨cd, s, hcA, hs, hcell⟩ := line0_at HRD.out (Nat.le_refl _) (by show 0 < 1; omega)
        simp only at hcA
        subst hcA
        have HOK := Lib.hid (HLI.out s hs)
        have HSS := Lib.hid (HSZ.out s hs)
        have HCL := Lib.hid hcell
        clear hcell hs
        cases b
        · have g0 := HCL.out _ S0.out.1.below
          go_wp2_with fail
          refine (write_line s S0.out HOK.out HSS.out (50000 * k + 202) (by omega) (by omega)).mono ?_
          rintro _ w3 ⟨rfl, hS⟩
          obtain ⟨f0, f1, f2, f3⟩ := hS.facts
          simp only at f0 f1 f2 f3
          have S2 := Lib.hid hS
          clear hS
          go_wp2_with fail
          go_roundw
          case rel => exact ⟨k + 1, true, x, m, by omega, by go_num, rfl, rfl, by omega, by omega, HLN.out.symm, S2.out.1.more (by omega)⟩
          case measure => simp [intOf]; omega
        · go_wp2_with fail
          refine (write_sp S0.out (50000 * k + 2) (by omega) (by omega)).mono ?_
          rintro _ w2 ⟨rfl, hS⟩
          obtain ⟨f0, f1, f2, f3⟩ := hS.facts
          simp only at f0 f1 f2 f3
          have S1 := Lib.hid hS
          clear hS
          have g0 := HCL.out w2 S1.out.1.below
          go_wp2_with fail
          clear g0
          refine (write_line s S1.out HOK.out HSS.out (50000 * k + 202) (by omega) (by omega)).mono ?_
          rintro _ w3 ⟨rfl, hS⟩
          obtain ⟨f0, f1, f2, f3⟩ := hS.facts
          simp only at f0 f1 f2 f3
          have S2 := Lib.hid hS
          clear hS
          go_wp2_with fail
          go_roundw
          case rel => exact ⟨k + 1, true, x, m, by omega, by go_num, rfl, rfl, by omega, by omega, HLN.out.symm, S2.out.1.more (by omega)⟩
          case measure => simp [intOf]; omega
      · have hlines : linesOf (es.take (k + 1)) = ((m + en : Nat) : Int) := by
          have := HST.out
          simp only [El.lines] at this
          rw [this]
          simp
        have HLN := Lib.hid hlines
        clear hlines
        go_wp2_with fail
        go_loopw [43] (fun i wx => ∃ j : Nat, j ≤ en ∧ i = .int .i64 j ∧ St w ⟨2, 0, nd, eA, en, ec, cs⟩ p (m + j) (50000 * k + 1300 * j) wx) (fun i _ => en - (intOf i).toNat)
        case atStart => exact ⟨0, by omega, rfl, S0.out.more (by omega)⟩
        case round =>
          obtain ⟨j, hj, rfl, hS⟩ := hrel
          obtain ⟨f0, f1, f2, f3⟩ := hS.facts
          simp only at f0 f1 f2 f3
          have SJ := Lib.hid hS
          clear hS
          by_cases hjn : j < en
          · obtain ⟨cd, s, hcA, hs, hcell⟩ := line_at (e := ⟨2, 0, nd, eA, en, ec, cs⟩) (i := j) HRD.out (Nat.le_refl _) hjn
            simp only at hcA
            subst hcA
            have hsm := List.mem_of_getElem? hs
            have hs0 : 0 < s.size := by have := (HLI.out s hsm).1; omega
            have HOK := Lib.hid (HLI.out s hsm)
            have HSS := Lib.hid (HSZ.out s hsm)
            have HCL := Lib.hid hcell
            have g0 := HCL.out _ SJ.out.1.below
            clear hcell hs hsm
            by_cases hj0 : j = 0
            · subst hj0
              rw [show cd.add 0 = cd by simp [Addr.add]] at g0
              go_wp2_with fail
              clear g0 f0 f1 f2 f3
              refine (write_line s SJ.out HOK.out HSS.out (50000 * k + 1300 * 0 + 1200) (by omega) (by omega)).mono ?_
              rintro _ w5 ⟨rfl, hS⟩
              obtain ⟨f0, f1, f2, f3⟩ := hS.facts
              simp only at f0 f1 f2 f3
              have S2 := Lib.hid hS
              clear hS
              go_wp2_with fail
              clear f0 f1 f2 f3
              refine (write_nl S2.out (50000 * k + 1300 * (0 + 1)) (by omega) (by omega)).mono ?_
              rintro _ w6 ⟨rfl, hS⟩
              obtain ⟨f0, f1, f2, f3⟩ := hS.facts
              simp only at f0 f1 f2 f3
              have S3 := Lib.hid hS
              clear hS
              go_wp2_with fail
              go_roundw
              case rel => exact ⟨0 + 1, by omega, by go_num, S3.out⟩
              case measure => simp [intOf]; omega
            · have hj1 : 0 < j := by omega
              go_wp2_with fail
              clear g0 f0 f1 f2 f3
              go_loopw [16] (fun i wx => ∃ q : Nat, (q : Int) ≤ x ∧ i = .int .i64 q ∧ St w ⟨2, 0, nd, some cd, en, ec, cs⟩ p (m + j) (50000 * k + 1300 * j + q) wx) (fun i _ => (x - intOf i).toNat)
              case atStart => exact ⟨0, by omega, rfl, SJ.out⟩
              case round =>
                obtain ⟨q, hq, rfl, hS⟩ := hrel
                obtain ⟨f0, f1, f2, f3⟩ := hS.facts
                simp only at f0 f1 f2 f3
                have SI := Lib.hid hS
                clear hS
                by_cases hqn : (q : Int) < x
                · go_wp2_with fail
                  refine (write_sp SI.out (50000 * k + 1300 * j + (q + 1)) (by omega) (by omega)).mono ?_
                  rintro _ w9 ⟨rfl, hS⟩
                  have SI2 := Lib.hid hS
                  clear hS
                  go_wp2_with fail
                  go_roundw
                  case rel => exact ⟨q + 1, by omega, by go_num, SI2.out⟩
                  case measure => simp [intOf]; omega
                · have g0 := HCL.out _ SI.out.1.below
                  go_wp2_with fail
                  clear g0 f0 f1 f2 f3
                  refine (write_line s SI.out HOK.out HSS.out (50000 * k + 1300 * j + 1200) (by omega) (by omega)).mono ?_
                  rintro _ w5 ⟨rfl, hS⟩
                  obtain ⟨f0, f1, f2, f3⟩ := hS.facts
                  simp only at f0 f1 f2 f3
                  have S2 := Lib.hid hS
                  clear hS
                  go_wp2_with fail
                  clear f0 f1 f2 f3
                  refine (write_nl S2.out (50000 * k + 1300 * (j + 1)) (by omega) (by omega)).mono ?_
                  rintro _ w6 ⟨rfl, hS⟩
                  obtain ⟨f0, f1, f2, f3⟩ := hS.facts
                  simp only at f0 f1 f2 f3
                  have S3 := Lib.hid hS
                  clear hS
                  go_wp2_with fail
                  go_roundw
                  case rel => exact ⟨j + 1, by omega, by go_num, S3.out⟩
                  case measure => simp [intOf]; omega
          · obtain rfl : en = j := by omega
            go_wp2_with fail
            clear f0 f1 f2 f3
            go_loopw [17] (fun i wx => i = .int .i64 0 ∧ St w ⟨2, 0, nd, eA, en, ec, cs⟩ p (m + en) (50000 * k + 1300 * en) wx) (fun _ _ => 0)
            case atStart => exact ⟨rfl, SJ.out⟩
            case round =>
              obtain ⟨rfl, hS⟩ := hrel
              obtain ⟨f0, f1, f2, f3⟩ := hS.facts
              simp only at f0 f1 f2 f3
              have SB := Lib.hid hS
              clear hS
              go_wp2_with fail
              clear f0 f1 f2 f3
              go_loopw [18] (fun i wx => ∃ q : Nat, (q : Int) ≤ nd ∧ i = .int .i64 q ∧ St w ⟨2, 0, nd, eA, en, ec, cs⟩ p (m + en) (50000 * k + 1300 * en + q) wx) (fun i _ => (nd - intOf i).toNat)
              case atStart => exact ⟨0, by omega, rfl, SB.out⟩
              case round =>
                obtain ⟨q, hq, rfl, hS⟩ := hrel
                obtain ⟨f0, f1, f2, f3⟩ := hS.facts
                simp only at f0 f1 f2 f3
                have SI := Lib.hid hS
                clear hS
                by_cases hqn : (q : Int) < nd
                · go_wp2_with fail
                  refine (write_sp SI.out (50000 * k + 1300 * en + (q + 1)) (by omega) (by omega)).mono ?_
                  rintro _ w9 ⟨rfl, hS⟩
                  have SI2 := Lib.hid hS
                  clear hS
                  go_wp2_with fail
                  go_roundw
                  case rel => exact ⟨q + 1, by omega, by go_num, SI2.out⟩
                  case measure => simp [intOf]; omega
                · go_wp2_with fail
                  go_roundw
                  case rel => exact ⟨k + 1, false, nd, m + en, by omega, by go_num, rfl, rfl, by omega, by omega, HLN.out.symm, SI.out.1.more (by omega)⟩
                  case measure => simp [intOf]; omega
    · obtain rfl : k = n := by omega
      have hlen := HC.out.len
      have hall : linesOf (es.take k) = linesOf es := by rw [List.take_of_length_le (by omega)]
      rw [hall] at hm
      have HM := Lib.hid hm
      have HFI := Lib.hid hfill
      clear hm hfill hlen hall
      cases sp
      · go_wp2_with fail
        go_end0
        exact ⟨rfl, m, _, HFI.out, by omega, HM.out⟩
      · cases b
        · go_wp2_with fail
          go_end0
          exact ⟨rfl, m, _, HFI.out, by omega, HM.out⟩
        · go_wp2_with fail
          refine (write_fill w wr ⟨#[32]⟩ m _ HFI.out (by show _ + 1 ≤ _; omega)).mono ?_
          rintro _ w2 ⟨rfl, hF2, _⟩
          have HF2 := Lib.hid hF2
          clear hF2
          go_wp2_with fail
          go_end0
          exact ⟨rfl, m, _, HF2.out, by show _ + 1 ≤ _; omega, HM.out⟩
    end Go.Proofs.YteiholpabgeajaaDoor
