/- impl.chain: steps of impl as steps of package jsonnet. -/
import Derived.Test.YtmbaijkbchkjoaaDoorPartV
import Derived.Test.YtmbaijkbchkjoaaDoorApp
namespace Go.Proofs.YtmbaijkbchkjoaaDoor
open Go.RowKit Go.Maps Go.Sort

/-- What counts of a step. -/
abbrev D4 := Bool × ByteArray × List ByteArray × List Int
def St.data (e : St) : D4 := (e.is, e.rem, e.ns, e.hs)
/-- How a field is seen, in the words of package ast. -/
def hideOf (h : Int) : Int := if h = 0 then 1 else if h = 1 then 0 else 2
def St.idata (e : St) : D4 := (e.is, e.rem, e.ns, e.hs.map hideOf)
noncomputable def stepD (F : FF) (x : D4) : FF := if x.1 then F.del (.string x.2.1.data.toList) else F.over (simpleF x.2.2.1 x.2.2.2)
noncomputable def chainD (l : List D4) : FF := l.foldl stepD FF.none
theorem chain_data (js : List St) : chainF js = chainD (js.map St.data) := by
  unfold chainF chainD
  rw [List.foldl_map]
  rfl
/-- A step of impl that chain takes. -/
def IFine (e : St) : Prop := e.m = e.n ∧ e.n ≤ 12 ∧ ∀ h ∈ e.hs, h = 0 ∨ h = 1 ∨ h = 2

theorem hides_any (h v : Int) (w : World) (hh : h = 0 ∨ h = 1 ∨ h = 2) (hv : hideOf h = v) :
    Calls Tryd.prog 19 #[.int .i64 h] w fun e w' => e = .returned (.tuple #[.int .i64 v, .bool true]) ∧ w = w' := by
  subst hv
  rcases hh with rfl | rfl | rfl
  all_goals
    go_enter Tryd.func19, Tryd.ntmps19
    go_wp2
    go_ret2
    exact ⟨rfl, rfl⟩

theorem row_below {w w' : World} {B : Nat} {e : TypeId} {s : Nat} {v : Value} {n : Nat} {xs : List Value} (h : w.ownsRow B e s v n xs) (hb : Below w.heap.size w w') : w'.ownsRow B e s v n xs :=
  ⟨h.1, h.2.imp id fun ⟨g, cap, cur, h1, h2, h3, h4⟩ => ⟨g, cap, cur, h1, h2, (hb.block g (Array.getElem?_eq_some_iff.1 h3).1).trans h3, h4⟩⟩
theorem row_mono {w : World} {B B' : Nat} {e : TypeId} {s : Nat} {v : Value} {n : Nat} {xs : List Value} (h : w.ownsRow B e s v n xs) (hB : B' ≤ B) : w.ownsRow B' e s v n xs :=
  ⟨h.1, h.2.imp id fun ⟨g, cap, cur, h1, h2, h3⟩ => ⟨g, cap, cur, h1, by omega, h3⟩⟩
/-- Two rows of elements of two types lie apart. -/
theorem row_apart {w : World} {B B' : Nat} {e e' : TypeId} {s s' : Nat} {v u : Value} {n n' : Nat} {xs ys : List Value} (h : w.ownsRow B e s v n xs) (h' : w.ownsRow B' e' s' u n' ys) (hne : e ≠ e') : v.ownBlock = none ∨ v.ownBlock ≠ u.ownBlock := by
  rcases h.2 with ⟨rfl, _⟩ | ⟨g, cap, cur, rfl, _, h3, _⟩
  · exact .inl rfl
  · rcases h'.2 with ⟨rfl, _⟩ | ⟨g', cap', cur', rfl, _, h3', _⟩
    · exact .inr (by simp [Value.ownBlock])
    · refine .inr fun he => ?_
      simp only [Value.ownBlock, Option.some.injEq] at he
      subst he
      rw [h3] at h3'
      injection h3' with h3'
      injection h3' with _ h3'
      exact hne h3'
theorem infoC : (Tryd.prog.info? 52).map (fun i => (i.zero, i.size, i.bytes)) = some (some (.agg #[.string ⟨#[]⟩, .slice none 0 0, .slice none 0 0, .bool false]), 4, 72) := by kernel_rfl
theorem infoInt : (Tryd.prog.info? 3).map (fun i => (i.zero, i.size, i.bytes)) = some (some (.int .i64 0), 1, 8) := by kernel_rfl

/-- The steps made so far: what each holds; its ways of being seen are a row of the call's own. -/
def Done (w0 wr : World) (els js : List St) (k : Nat) : Prop := js.map St.data = (els.take k).map St.idata ∧ ∀ e ∈ js, Reads w0 w0.heap.size 1 e.A e.n (e.ns.map .string) ∧ wr.ownsRow w0.heap.size 3 1 (.slice e.B e.m e.d) e.m (e.hs.map (.int .i64)) ∧ e.m = e.n ∧ e.n ≤ 12 ∧ e.n ≤ e.c ∧ e.c ≤ maxLen ∧ e.rem.size ≤ maxLen ∧ (∀ s ∈ e.ns, s.size ≤ maxLen) ∧ (∀ h ∈ e.hs, h = 0 ∨ h = 1 ∨ h = 2)
theorem Done.below {w0 wr w' : World} {els js : List St} {k : Nat} (h : Done w0 wr els js k) (hb : Below wr.heap.size wr w') : Done w0 w' els js k :=
  ⟨h.1, fun e he => by
    obtain ⟨h1, h2, h3⟩ := h.2 e he
    exact ⟨h1, row_below h2 hb, h3⟩⟩
theorem Done.kept {w0 wr w' : World} {els js : List St} {k : Nat} {v : Value} {n : Nat} {xs : List Value} {B : Nat} (h : Done w0 wr els js k) (hv : wr.ownsRow B 52 4 v n xs) (hg : wr.grownBy w' v.ownBlock) : Done w0 w' els js k :=
  ⟨h.1, fun e he => by
    obtain ⟨h1, h2, h3⟩ := h.2 e he
    exact ⟨h1, h2.kept hg (row_apart h2 hv (by decide)), h3⟩⟩
theorem row_ok {w : World} {base : Nat} {e : TypeId} {A : Option Addr} {n c : Nat} {us : List Value} (h : w.ownsRow base e 1 (.slice A n c) n us) : n ≤ c ∧ c ≤ maxLen := by
  rcases h.2 with ⟨he, h0⟩ | ⟨g, cap, cur, he, _, _, h1, h2, _⟩
  · injection he with _ _ h3
    subst h0 h3
    exact ⟨Nat.le_refl _, Nat.zero_le _⟩
  · injection he with _ _ h3
    subst h3
    exact ⟨h1, h2⟩
theorem small_int {h : Int} (hh : h = 0 ∨ h = 1 ∨ h = 2) : -9223372036854775808 ≤ h ∧ h ≤ 9223372036854775807 := by omega
theorem Done.js {w0 wr : World} {els js : List St} {k : Nat} {A : Option Addr} {c : Nat} (h : Done w0 wr els js k) (hr : wr.ownsRow w0.heap.size 52 4 (.slice A k c) k (js.flatMap St.jcells)) (hl : js.length = k) (hb : Below w0.heap.size w0 wr) : JsAt wr wr.heap.size A k js ∧ ∀ e ∈ js, Fine e := by
  refine ⟨⟨Reads.of_own hr, hl, fun e he => ?_⟩, fun e he => ?_⟩
  · obtain ⟨h1, h2, h3, h4, h5, h6, h7, h8, h9⟩ := h.2 e he
    have h10 := row_ok h2
    exact ⟨(h1.keep fun _ hp => hb.cell hp).more hb.size, Reads.of_own h2, h5, h6, h10.1, h10.2, h7, h8, fun q hq => small_int (h9 q hq)⟩
  · obtain ⟨h1, h2, h3, h4, h5, h6, h7, h8, h9⟩ := h.2 e he
    refine ⟨h3, h4, fun q hq => ?_⟩
    rcases h9 q hq with rfl | rfl | rfl <;> decide

/-- What impl.chain hands back. -/
def IChOk (els : List St) (w : World) (e : Ending) (w' : World) : Prop := ∃ A n c js, e = .returned (.tuple #[.slice A n c, .bool true]) ∧ JsAt w' w'.heap.size A n js ∧ (∀ e ∈ js, Fine e) ∧ n = els.length ∧ js.map St.data = els.map St.idata ∧ Below w.heap.size w w'
theorem hideOf_in {h : Int} (hh : h = 0 ∨ h = 1 ∨ h = 2) : hideOf h = 0 ∨ hideOf h = 1 ∨ hideOf h = 2 := by
  rcases hh with rfl | rfl | rfl <;> decide
theorem hides_snoc (hs : List Int) (j : Nat) {h : Int} (hj : hs[j]? = some h) : ((hs.take (j + 1)).map hideOf).map (Value.int .i64) = ((hs.take j).map hideOf).map (Value.int .i64) ++ [.int .i64 (hideOf h)] := by
  rw [List.take_add_one, hj]
  simp
theorem int_cell (h : Int) : ∀ u ∈ [Value.int .i64 h], u.oneCell' = true := by
  intro u hu
  simp at hu
  subst hu
  rfl

set_option maxRecDepth 100000 in
set_option maxHeartbeats 3200000 in
theorem implChain_any (A : Option Addr) (n c : Nat) (els : List St) (w : World) (h : StsAt w w.heap.size A n els) (hf : ∀ e ∈ els, IFine e) (hn : n ≤ 20) :
    Calls Tryd.prog 14 #[.slice A n c] w (IChOk els w) := by
  obtain ⟨iI, hiI, hzI0, hzI1, hzI2⟩ := info_parts infoInt
  obtain ⟨iC, hiC, hzC0, hzC1, hzC2⟩ := info_parts infoC
  have H := Lib.hid h
  have HF := Lib.hid hf
  have HN := Lib.hid h.2.1
  clear h hf
  go_enter Tryd.func14, Tryd.ntmps14
  go_wp2_with fail
  go_loopw [4, 14] (fun vo vi wr => ∃ (k : Nat) (A' : Option Addr) (c' : Nat) (js : List St), vo = .slice A' k c' ∧ vi = .int .i64 k ∧ k ≤ n ∧ js.length = k ∧ wr.ownsRow w.heap.size 52 4 (.slice A' k c') k (js.flatMap St.jcells) ∧ Done w wr els js k ∧ Below w.heap.size w wr) (fun _ vi _ => n - (intOf vi).toNat)
  case atStart => exact ⟨0, none, 0, [], rfl, rfl, Nat.zero_le _, rfl, World.ownsRow_nil _ _ _ _, ⟨rfl, by simp⟩, Below.refl _ _⟩
  case round =>
    obtain ⟨k, A', c', js, rfl, rfl, hk, hjl, hrow, hdone, hb⟩ := hrel
    obtain ⟨wq, rfl⟩ : ∃ wq, wq = wr := ⟨_, rfl⟩
    have HROW := Lib.hid hrow
    have HD := Lib.hid hdone
    have HB := Lib.hid hb
    have HJL := Lib.hid hjl
    clear hrow hdone hjl
    by_cases hlt : k < n
    · obtain ⟨ad, e, hA, hadb, hek, hc0, hc1, hc2, hc3⟩ := four_cells four (H.out.below hb).1 HN.out hlt
      subst hA
      have HEK := Lib.hid hek
      have hm := List.mem_of_getElem? hek
      have HOK0 := Lib.hid (H.out.2.2 e hm)
      have HFI := Lib.hid (HF.out e hm)
      obtain ⟨eis, erem, eA, en, ec, ens, eB, em, ed, ehs⟩ := e
      have hkn : (k : Int) < n := by omega
      have g0 : wq.cell? (ad.add (k * 4)) = some (.bool eis) := hc0
      have g1 : wq.cell? ⟨(ad.add (k * 4)).block, (ad.add (k * 4)).off + 1, none⟩ = some (.string erem) := hc1
      have g2 : wq.cell? ⟨(ad.add (k * 4)).block, (ad.add (k * 4)).off + 2, none⟩ = some (.slice eA en ec) := hc2
      have g3 : wq.cell? ⟨(ad.add (k * 4)).block, (ad.add (k * 4)).off + 3, none⟩ = some (.slice eB em ed) := hc3
      have hmn : em = en := HFI.out.1
      have hen : en ≤ 12 := HFI.out.2.1
      subst hmn
      clear hek hm hb hc0 hc1 hc2 hc3
      go_wp2_with fail
      have e1 : (wq.alloc (.cells #[.bool eis, .string erem, .slice eA em ec, .slice eB em ed] 29)).heap.size = wq.heap.size + 1 := by simp
      have hx0 := heap_alloc_new (wq.alloc (.cells #[.bool eis, .string erem, .slice eA em ec, .slice eB em ed] 29)) (.cells #[.string erem, .slice eA em ec, .slice none 0 0, .bool eis] 52)
      rw [e1] at hx0
      have HX0 := Lib.hid hx0
      have HB0 := Lib.hid (two_below wq (.cells #[.bool eis, .string erem, .slice eA em ec, .slice eB em ed] 29) (.cells #[.string erem, .slice eA em ec, .slice none 0 0, .bool eis] 52))
      clear g0 g1 g2 g3 e1 hx0
      go_loopw [35] (fun vi w5 => ∃ (j : Nat) (Ah : Option Addr) (dh : Nat), vi = .int .i64 j ∧ j ≤ em ∧ w5.heap[wq.heap.size + 1]? = some (.cells #[.string erem, .slice eA em ec, .slice Ah j dh, .bool eis] 52 (0, 0)) ∧ w5.ownsRow (wq.heap.size + 2) 3 1 (.slice Ah j dh) j (((ehs.take j).map hideOf).map (.int .i64)) ∧ Below wq.heap.size wq w5) (fun vi _ => em - (intOf vi).toNat)
      case atStart => exact ⟨0, none, 0, rfl, Nat.zero_le _, HX0.out, World.ownsRow_nil _ _ _ _, HB0.out⟩
      case round =>
        obtain ⟨j, Ah, dh, rfl, hj, hx, hrow5, hb5⟩ := hrel
        have HX := Lib.hid hx
        have HR5 := Lib.hid hrow5
        have HB5 := Lib.hid hb5
        clear hx hrow5
        by_cases hjlt : j < em
        · obtain ⟨bd, u, hB, hbb, hu, hcu⟩ := HOK0.out.hides.at_ hjlt
          subst hB
          rw [List.getElem?_map] at hu
          obtain ⟨q, hq, rfl⟩ := Option.map_eq_some_iff.1 hu
          have hcq : wr.cell? (bd.add j) = some (.int .i64 q) := keeps hb5 (keeps HB.out hcu)
          have hq3 := HFI.out.2.2 q (List.mem_of_getElem? hq)
          obtain ⟨v, hv⟩ : ∃ v, hideOf q = v := ⟨_, rfl⟩
          have C := Lib.hid (hides_any q v wr hq3 hv)
          have hsn := hides_snoc ehs j hq
          rw [hv] at hsn
          have HSN := Lib.hid hsn
          have hx2 : wr.cell? ⟨wq.heap.size + 1, 2, none⟩ = some (.slice Ah j dh) := by rw [cell_of_row _ (wq.heap.size + 1) 2 _ _ (0, 0) HX.out]; rfl
          have hxlt : wq.heap.size + 1 < wr.heap.size := (Array.getElem?_eq_some_iff.1 HX.out).1
          have hjm : (j : Int) < em := by omega
          clear hbb hu hcu hq hq3 hv hsn hb5
          go_wp2_with fail
          refine C.out.mono ?_
          rintro _ w6 ⟨rfl, rfl⟩
          go_wp2_with
            (refine wpList_append_any _ (by rfl) (.tmp 47) (.tmp 49) 27 (by rfl) (wq.heap.size + 2) 3 iI (.int .i64 0) 1 8 Tryd.underlying27 hiI hzI0 hzI1 hzI2 rfl (Nat.lt_add_one 0) (.slice Ah j dh) j (((ehs.take j).map hideOf).map (.int .i64)) (by rfl) (HR5.out.alloc _) (wr.heap.size + 1) (some ⟨wr.heap.size, 0, none⟩) 1 1 [.int .i64 v] (by rfl) ?_ (int_cell v) ?_ ?_ ?_ (j + 1) ?_ (((ehs.take (j + 1)).map hideOf).map (.int .i64)) ?_ ?_
             · exact Reads.of_block (heap_alloc_new wr _) rfl
             · (unfold maxLen; omega)
             · omega
             · (simp; omega)
             · rfl
             · exact HSN.out.symm
             intro A2 c2 w6 hap
             have hpx : w6.heap[wq.heap.size + 1]? = some (.cells #[.string erem, .slice eA em ec, .slice Ah j dh, .bool eis] 52 (0, 0)) := (hap.grown.block (wq.heap.size + 1) (by simp; omega) (fun e => by have := (HR5.out.lt _ e.symm).1; omega)).trans ((Below.heap_alloc _ _ _ hxlt).trans HX.out)
             have hpc : w6.cell? ⟨wq.heap.size + 1, 2, none⟩ = some (.slice Ah j dh) := by rw [cell_of_row _ (wq.heap.size + 1) 2 _ _ (0, 0) hpx]; rfl
             have hpf := frozen_of_row w6 (wq.heap.size + 1) 2 _ _ hpx
             have HPX := Lib.hid hpx
             have HAP := Lib.hid hap
             clear hpx hap)
          have hsz5 := HB5.out.size
          have hb6 := (HB5.out.alloc hsz5 (.cells #[.int .i64 v] 3)).grown HAP.out.grown (by simp; omega) (fun g hg => by have := (HR5.out.lt g hg).1; omega)
          have hb7 := hb6.setCell (p := ⟨wq.heap.size + 1, 2, none⟩) (by simp) (.slice A2 (j + 1) c2)
          have hx7 := heap_setCell_same w6 (wq.heap.size + 1) 2 _ _ (.slice A2 (j + 1) c2) HPX.out
          have hr7 := ownsRow_setCell_below HAP.out.own (a := ⟨wq.heap.size + 1, 2, none⟩) (by simp) (.slice A2 (j + 1) c2)
          have X1 := Lib.hid hx7
          have X2 := Lib.hid hr7
          have X3 := Lib.hid hb7
          clear hb6 hb7 hx7 hr7 hpc hpf
          go_roundw
          case rel => exact ⟨j + 1, A2, c2, by go_num, by omega, X1.out, X2.out, X3.out⟩
          case measure => simp [intOf]; omega
        · obtain rfl : j = em := by omega
          have hehs : ehs.length = j := by have := HOK0.out.hides.1; simpa using this
          have hall : ehs.take j = ehs := List.take_of_length_le (by omega)
          have hr5 := HR5.out
          rw [hall] at hr5
          have HR6 := Lib.hid hr5
          have hx0 : wr.cell? ⟨wq.heap.size + 1, 0, none⟩ = some (.string erem) := by rw [cell_of_row _ (wq.heap.size + 1) 0 _ _ (0, 0) HX.out]; rfl
          have hx1 : wr.cell? ⟨wq.heap.size + 1, 1, none⟩ = some (.slice eA j ec) := by rw [cell_of_row _ (wq.heap.size + 1) 1 _ _ (0, 0) HX.out]; rfl
          have hx2 : wr.cell? ⟨wq.heap.size + 1, 2, none⟩ = some (.slice Ah j dh) := by rw [cell_of_row _ (wq.heap.size + 1) 2 _ _ (0, 0) HX.out]; rfl
          have hx3 : wr.cell? ⟨wq.heap.size + 1, 3, none⟩ = some (.bool eis) := by rw [cell_of_row _ (wq.heap.size + 1) 3 _ _ (0, 0) HX.out]; rfl
          have hrow5 := row_below HROW.out hb5
          have HROW5 := Lib.hid hrow5
          have hsz5 := hb5.size
          have hszq := HB.out.size
          clear hr5 hall hehs hrow5 hb5
          go_wp2_with
            (refine wpList_append_any _ (by rfl) (.tmp 53) (.tmp 55) 37 (by rfl) w.heap.size 52 iC (.agg #[.string ⟨#[]⟩, .slice none 0 0, .slice none 0 0, .bool false]) 4 72 Tryd.underlying37 hiC hzC0 hzC1 hzC2 rfl (by omega) (.slice A' k c') k (js.flatMap St.jcells) (by rfl) (HROW5.out.alloc _) (wr.heap.size + 1) (some ⟨wr.heap.size, 0, none⟩) 1 1 [.string erem, .slice eA j ec, .slice Ah j dh, .bool eis] (by rfl) ?_ ?_ ?_ ?_ ?_ (k + 1) ?_ ((js ++ [(⟨eis, erem, eA, j, ec, ens, Ah, j, dh, ehs.map hideOf⟩ : St)]).flatMap St.jcells) ?_ ?_
             · exact Reads.of_block (heap_alloc_new wr _) rfl
             · (simp [Value.oneCell'])
             · (unfold maxLen; omega)
             · omega
             · (simp; omega)
             · rfl
             · (simp [St.jcells])
             intro A2 c2 w6 hap)
          have hbX := (Below.refl wr.heap.size wr).alloc (Nat.le_refl _) (.cells #[.string erem, .slice eA j ec, .slice Ah j dh, .bool eis] 52)
          have hrowX := HROW5.out.alloc (.cells #[.string erem, .slice eA j ec, .slice Ah j dh, .bool eis] 52)
          have hd6 := ((HD.out.below HB5.out).below hbX).kept hrowX hap.grown
          have hrX := HR6.out.alloc (.cells #[.string erem, .slice eA j ec, .slice Ah j dh, .bool eis] 52)
          have hr6 := row_mono (hrX.kept hap.grown (row_apart hrX hrowX (by decide))) (show w.heap.size ≤ wq.heap.size + 2 by omega)
          have hbw := ((HB.out.trans (HB5.out.mono hszq)).alloc (by omega) (.cells #[.string erem, .slice eA j ec, .slice Ah j dh, .bool eis] 52)).grown hap.grown (by simp; omega) (fun g hg => (HROW5.out.lt g hg).1)
          have hdn : Done w w6 els (js ++ [(⟨eis, erem, eA, j, ec, ens, Ah, j, dh, ehs.map hideOf⟩ : St)]) (k + 1) := by
            refine ⟨?_, fun e he => ?_⟩
            · rw [List.map_append, hd6.1, List.take_add_one, HEK.out, List.map_append]
              rfl
            · rcases List.mem_append.1 he with he | he
              · exact hd6.2 e he
              · obtain rfl : e = _ := by simpa using he
                refine ⟨HOK0.out.names, hr6, rfl, hen, HOK0.out.nc, HOK0.out.cm, HOK0.out.rsz, HOK0.out.strs, fun q hq => ?_⟩
                obtain ⟨q0, hq0, rfl⟩ := List.mem_map.1 hq
                exact hideOf_in (HFI.out.2.2 q0 hq0)
          have X1 := Lib.hid hap.own
          have X2 := Lib.hid hdn
          have X3 := Lib.hid hbw
          clear hbX hrowX hd6 hrX hr6 hbw hdn hap
          go_roundw
          case rel => exact ⟨k + 1, A2, c2, _, rfl, by go_num, by omega, by rw [List.length_append, HJL.out]; rfl, X1.out, X2.out, X3.out⟩
          case measure => simp [intOf]; omega
    · obtain rfl : k = n := by omega
      go_wp2_with fail
      go_ret2
      obtain ⟨h1, h2⟩ := HD.out.js HROW.out HJL.out HB.out
      exact ⟨A', k, c', js, rfl, h1, h2, HN.out.symm, by have := HD.out.1; rwa [List.take_of_length_le (by have := HN.out; omega)] at this, HB.out⟩
end Go.Proofs.YtmbaijkbchkjoaaDoor
