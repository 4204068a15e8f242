/- jsonnet.chain: the object that steps make. -/
import Derived.Test.YtmbaijkbchkjoaaDoorLayMore
import Derived.Test.YtmbaijkbchkjoaaDoorSt
namespace Go.Proofs.YtmbaijkbchkjoaaDoor
open Go.RowKit Go.Maps Go.Sort

/-- What one step makes of the fields. -/
noncomputable def stepF (F : FF) (e : St) : FF := if e.is then F.del (.string e.rem.data.toList) else F.over (simpleF e.ns e.hs)
noncomputable def chainF (js : List St) : FF := js.foldl stepF FF.none
theorem chainF_nil : chainF [] = FF.none := rfl
theorem chainF_step (js : List St) (k : Nat) {e : St} (h : js[k]? = some e) : chainF (js.take (k + 1)) = stepF (chainF (js.take k)) e := by
  unfold chainF
  rw [List.take_add_one, h, List.foldl_append]
  rfl
/-- What is asked of a step: as many ways of being seen as names; few. -/
def Fine (e : St) : Prop := e.m = e.n ∧ e.n ≤ 12 ∧ ∀ h ∈ e.hs, (Lit.int .i64 h).wf = true

/-- A step in a variable of its own. -/
def varObj (e : St) : Obj := .cells #[.string e.rem, .slice e.A e.n e.c, .slice e.B e.m e.d, .bool e.is] 52
theorem del_run (w : World) (bm n : Nat) (D : DU) (s : ByteArray) (h : w.ownsMap Tryd.prog 9 (plainElem Tryd.prog 44) bm n D) (hs : s.size ≤ maxLen) :
    ∃ w', (Builtin.delete_ #[56, 9] 0 #[.map (some bm), .string s]).run Tryd.prog w = .ok (.tuple #[]) w' ∧ w'.ownsMap Tryd.prog 9 (plainElem Tryd.prog 44) bm n (D.del (.string s.data.toList)) ∧ w.mapTurned w' bm :=
  h.drop law9 Tryd.underlying56 (Go.WideMaps.keyOf_string_mk Tryd.underlying9 hs) 0

theorem rrF (v : Value) (w : World) : (Instr.typeAssert (.iface 75 v) 68 75 false).run Tryd.prog w = .ok v w := by kernel_rfl
attribute [local go_sem] rrF
attribute [local go_sem ↓] Go.wp_at_zero Go.wp_at_succ

/-- What chain hands back. -/
def ChainOk (F : FF) (w : World) (e : Ending) (w' : World) : Prop := ∃ po n', e = .returned (.pointer (some ⟨po, 0, none⟩)) ∧ n' ≤ 240 ∧ VO w' po F n' ∧ Below w.heap.size w w'

set_option maxRecDepth 100000 in
set_option maxHeartbeats 3200000 in
theorem chain_any (A : Option Addr) (n c : Nat) (js : List St) (w : World) (h : JsAt w w.heap.size A n js) (hf : ∀ e ∈ js, Fine e) (hn : n ≤ 20) :
    Calls Tryd.prog 21 #[.slice A n c] w (ChainOk (chainF js) w) := by
  have H := Lib.hid h
  have HF := Lib.hid hf
  have HN := Lib.hid h.2.1
  clear h hf
  have C0 := Lib.hid (simple_any ⟨#[]⟩ none none 0 0 0 0 false [] [] w Reads.none_ Reads.none_ rfl (by omega) (by simp) (by simp))
  go_enter Tryd.func21, Tryd.ntmps21
  go_wp2_with fail
  refine C0.out.mono ?_
  rintro e w1 ⟨po, rfl, hvo, hb1⟩
  have HVO := Lib.hid hvo.vo
  have HB1 := Lib.hid hb1
  clear hvo hb1 C0
  go_wp2_with fail
  go_loopw [3, 11] (fun vo vi wr => ∃ (k po n' : Nat), vo = .pointer (some ⟨po, 0, none⟩) ∧ vi = .int .i64 k ∧ k ≤ n ∧ n' ≤ 12 * k ∧ VO wr po (chainF (js.take k)) n' ∧ Below w.heap.size w wr) (fun _ vi _ => n - (intOf vi).toNat)
  case atStart => exact ⟨0, po, 0, rfl, rfl, Nat.zero_le _, Nat.le_refl _, HVO.out, HB1.out⟩
  case round =>
    obtain ⟨k, po, n', rfl, rfl, hk, hn', hvo, hb⟩ := hrel
    have HVO := Lib.hid hvo
    have HB := Lib.hid hb
    clear hvo
    by_cases hlt : k < n
    · obtain ⟨ad, e, hA, hadb, hek, hc0, hc1, hc2, hc3⟩ := four_cells jfour (H.out.below hb).1 HN.out hlt
      subst hA
      have HEK := Lib.hid hek
      have hm := List.mem_of_getElem? hek
      have HOK := Lib.hid ((H.out.below hb).2.2 e hm)
      have HFI := Lib.hid (HF.out e hm)
      have hstep := chainF_step js k hek
      have HST := Lib.hid hstep
      obtain ⟨eis, erem, eA, en, ec, ens, eB, em, ed, ehs⟩ := e
      have hkn : (k : Int) < n := by omega
      have g0 : wr.cell? (ad.add (k * 4)) = some (.string erem) := hc0
      have g1 : wr.cell? ⟨(ad.add (k * 4)).block, (ad.add (k * 4)).off + 1, none⟩ = some (.slice eA en ec) := hc1
      have g2 : wr.cell? ⟨(ad.add (k * 4)).block, (ad.add (k * 4)).off + 2, none⟩ = some (.slice eB em ed) := hc2
      have g3 : wr.cell? ⟨(ad.add (k * 4)).block, (ad.add (k * 4)).off + 3, none⟩ = some (.bool eis) := hc3
      clear hek hm hstep hb hc0 hc1 hc2 hc3
      have hbX := (Below.refl wr.heap.size wr).alloc (Nat.le_refl _) (varObj ⟨eis, erem, eA, en, ec, ens, eB, em, ed, ehs⟩)
      have HBX := Lib.hid (HB.out.alloc HB.out.size (varObj ⟨eis, erem, eA, en, ec, ens, eB, em, ed, ehs⟩))
      have HOKX := Lib.hid (HOK.out.carry hbX)
      have HVOX := Lib.hid (HVO.out.below hbX)
      clear hbX
      cases eis
      · have C1 := Lib.hid (simple_any erem eA eB en ec em ed false ens ehs _ HOKX.out.names HOKX.out.hides HFI.out.1 HFI.out.2.1 HOKX.out.strs HFI.out.2.2)
        have hen : en ≤ 12 := HFI.out.2.1
        by_cases hk0 : k = 0
        · have hk0' : ((k : Int) == 0) = true := by rw [hk0]; rfl
          have HK0 := Lib.hid hk0
          clear hk0
          go_wp2_with fail
          refine C1.out.mono ?_
          rintro _ w2 ⟨po2, rfl, hv2, hb2⟩
          have hv2' := hv2.vo
          have hst := HST.out
          rw [HK0.out] at hst
          have hFe : stepF (chainF (js.take 0)) ⟨false, erem, eA, en, ec, ens, eB, em, ed, ehs⟩ = simpleF ens ehs := FF.none_over _
          rw [hFe, ← HK0.out] at hst
          rw [← hst] at hv2'
          have HV2 := Lib.hid hv2'
          have HB2 := Lib.hid (HBX.out.trans (hb2.mono HBX.out.size))
          clear hv2 hv2' hb2 hst hFe
          go_wp2_with fail
          go_roundw
          case rel => exact ⟨k + 1, po2, en, rfl, by go_num, by omega, by omega, HV2.out, HB2.out⟩
          case measure => simp [intOf]; omega
        · have hk0' : ¬ (k : Int) = 0 := by omega
          go_wp2_with fail
          refine C1.out.mono ?_
          rintro _ w2 ⟨po2, rfl, hv2, hb2⟩
          have C2 := Lib.hid (ext_any po po2 n' en _ _ w2 (HVOX.out.below hb2) hv2)
          have HB2 := Lib.hid (HBX.out.trans (hb2.mono HBX.out.size))
          clear hv2 hb2
          go_wp2_with fail
          refine C2.out.mono ?_
          rintro _ w3 ⟨po3, rfl, hv3, hb3⟩
          have hst := HST.out
          have hFe : stepF (chainF (js.take k)) ⟨false, erem, eA, en, ec, ens, eB, em, ed, ehs⟩ = (chainF (js.take k)).over (simpleF ens ehs) := rfl
          rw [← hFe, ← hst] at hv3
          have HV3 := Lib.hid hv3
          have HB3 := Lib.hid (HB2.out.trans (hb3.mono HB2.out.size))
          clear hv3 hb3 hst hFe
          go_wp2_with fail
          go_roundw
          case rel => exact ⟨k + 1, po3, n' + en, rfl, by go_num, by omega, by omega, HV3.out, HB3.out⟩
          case measure => simp [intOf]; omega
      · have C1 := Lib.hid (restr_any po n' _ _ HVOX.out (by omega))
        go_wp2_with fail
        refine C1.out.mono ?_
        rintro _ w2 ⟨po2, c2, p2, v2, bm, rfl, hp2, hr2, hm2, ho2, hbm, hb2⟩
        obtain ⟨D, hown, hrf⟩ := hm2
        have hrs : erem.size ≤ maxLen := HOK.out.rsz
        obtain ⟨w3, hrun, hown3, hturn⟩ := del_run w2.drew bm n' D erem hown.drew hrs
        have hxs : (wr.alloc (varObj ⟨true, erem, eA, en, ec, ens, eB, em, ed, ehs⟩)).heap.size = wr.heap.size + 1 := by simp
        have hvar : w2.cell? ⟨wr.heap.size, 0, none⟩ = some (.string erem) := by
          rw [cell_of_row _ wr.heap.size 0 _ _ (0, 0) ((hb2.block wr.heap.size (by rw [hxs]; omega)).trans (heap_alloc_new wr (varObj ⟨true, erem, eA, en, ec, ens, eB, em, ed, ehs⟩)))]
          rfl
        have q1 : w2.cell? ⟨po2, 2, none⟩ = some (.iface 75 (.pointer (some ⟨p2, 0, none⟩))) := by rw [cell_of_row _ po2 2 _ _ (0, 0) hp2]; rfl
        have q2 : w2.cell? ⟨p2, 1, none⟩ = some (.map (some bm)) := by rw [cell_of_row _ p2 1 _ _ (0, 0) hr2]; rfl
        have hne1 : po2 ≠ bm := fun e => by
          obtain ⟨es, cl, h1, _⟩ := hown
          rw [← e, hp2] at h1
          cases h1
        have hne2 : p2 ≠ bm := fun e => by
          obtain ⟨es, cl, h1, _⟩ := hown
          rw [← e, hr2] at h1
          cases h1
        have hg3 := hturn.grown
        have hp3 : w3.heap[po2]? = some (valObj c2 (restrV p2)) := (hg3.block po2 (Array.getElem?_eq_some_iff.1 hp2).1 (fun e => hne1 (Option.some.inj e))).trans hp2
        have hr3 : w3.heap[p2]? = some (restrObj v2 bm) := (hg3.block p2 (Array.getElem?_eq_some_iff.1 hr2).1 (fun e => hne2 (Option.some.inj e))).trans hr2
        have q1' : w3.cell? ⟨po2, 2, none⟩ = some (.iface 75 (.pointer (some ⟨p2, 0, none⟩))) := by rw [cell_of_row _ po2 2 _ _ (0, 0) hp3]; rfl
        have q2' : w3.cell? ⟨p2, 1, none⟩ = some (.map (some bm)) := by rw [cell_of_row _ p2 1 _ _ (0, 0) hr3]; rfl
        have hvar' : w3.cell? ⟨wr.heap.size, 0, none⟩ = some (.string erem) := by
          rw [World.cell?_of_block (hg3.block wr.heap.size (by have := hb2.size; rw [hxs] at this; show _ < w2.heap.size; omega) (fun e => by have := Option.some.inj e; omega))]
          exact hvar
        have HQ := Lib.hid (And.intro q1' (And.intro q2' hvar'))
        clear q1' q2' hvar'
        have hb3 := hb2.drew.grown hg3 (by have := hb2.size; exact this) (fun g hg => by cases hg; exact hbm)
        have hv3 : VO w3 po2 ((chainF (js.take k)).del (.string erem.data.toList)) n' := ⟨c2, restrV p2, hp3, .restr p2 bm n' _ v2 _ n' hr3 ⟨_, hown3, hrf.del⟩ (ho2.keep hb3)⟩
        have hst := HST.out
        have hFe : stepF (chainF (js.take k)) ⟨true, erem, eA, en, ec, ens, eB, em, ed, ehs⟩ = (chainF (js.take k)).del (.string erem.data.toList) := rfl
        rw [← hFe, ← hst] at hv3
        have HV3 := Lib.hid hv3
        have HB3 := Lib.hid (HBX.out.trans (hb3.mono HBX.out.size))
        clear hown hrf hown3 hturn hp2 hr2 ho2 hbm hb2 hne1 hne2 hg3 hp3 hr3 hb3 hv3 hst hFe g0 g1 g2 g3 hxs
        go_wp2_with fail
        go_region_held3 (fun w' => w'.cell? ⟨po2, 2, none⟩ = some (.iface 75 (.pointer (some ⟨p2, 0, none⟩))) ∧ w'.cell? ⟨p2, 1, none⟩ = some (.map (some bm)) ∧ w'.cell? ⟨wr.heap.size, 0, none⟩ = some (.string erem)) (first | exact ⟨q1, q2, hvar⟩ | exact HQ.out) (fail)
        go_wp2_with fail
        go_roundw
        case rel => exact ⟨k + 1, po2, n', rfl, by go_num, by omega, by omega, HV3.out, HB3.out⟩
        case measure => simp [intOf]; omega
    · obtain rfl : k = n := by omega
      rw [List.take_of_length_le (by have := HN.out; omega)] at HVO
      go_wp2_with fail
      go_ret
      exact ⟨po, n', rfl, by omega, HVO.out, hb⟩
end Go.Proofs.YtmbaijkbchkjoaaDoor
