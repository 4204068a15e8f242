/- liftNumeric on math.Floor, NumFloor. -/
import Derived.Test.YtpehjcbjcenaeaaLiftAny
namespace Go.Proofs.Ytpehjcbjcenaeaa
open Go.RowKit

theorem floor_below (x : Nat) (w : World) (h : nanW x = true) :
    Calls Try.prog 71 #[.float .f64 x] w fun e w' => ∃ t, e = .returned (.float .f64 t) ∧ Below w.heap.size w w' :=
  (floor_nan x w h).mono fun e w' ⟨t, h1, h2⟩ => ⟨t, h1, by rcases h2 with rfl | rfl; exact Below.refl _ _; exact (Below.refl _ _).drew⟩
theorem mkFloor (w : World) :
    Calls Try.prog 53 #[] w fun e w' => ∃ b1, e = .returned (.func (.func 85) #[] #[.pointer (some b1)]) ∧ w'.cell? b1 = some (.func (.func 71) #[] #[]) ∧ Below w.heap.size w w' := by
  go_enter Try.func53, Try.ntmps53
  go_wp2_with fail
  refine Calls.mono (R := fun e w' => ∃ b1, e = .returned (.func (.func 85) #[] #[.pointer (some b1)]) ∧ w'.cell? b1 = some (.func (.func 71) #[] #[]) ∧ Below w.heap.size w w') ?_ ?_
  · go_enter Try.func70, Try.ntmps70
    go_wp2
    go_ret
    exact ⟨_, rfl, World.cell?_alloc_mark _ _ _ (0, 0) 0, (Below.refl _ _).alloc (Nat.le_refl _) _⟩
  · rintro e w1 ⟨b1, rfl, hc, hb⟩
    go_wp2
    go_ret
    exact ⟨_, rfl, hc, hb⟩

set_option maxRecDepth 100000 in
theorem liftNum_yes (b : Nat) (p b1 : Addr) (x : Nat) (w : World) (hp : w.cell? p = some (.float .f64 x)) (hc : w.cell? b1 = some (.func (.func 71) #[] #[])) (hx : finW x = true) :
    Calls Try.prog 85 #[.pointer (some ⟨b, 0, none⟩), .iface 103 (.pointer (some p)), .pointer (some b1)] w (NumYes w (floorW x)) := by
  obtain ⟨q, hfl, _⟩ := floor_fin x hx
  have HN := Lib.hid (nan_of_fin hx)
  have HF := Lib.hid hfl
  clear hx hfl
  go_enter Try.func85, Try.ntmps85
  go_wp2_with (go_at_call 61; refine (getNumber_any _ _ _).mono ?_; rintro e w' ⟨rfl, rfl⟩)
  go_region_held3 (fun w' => w'.cell? p = some (.float .f64 x) ∧ w'.cell? b1 = some (.func (.func 71) #[] #[])) (first | go_keep | (refine ⟨?_, ?_⟩ <;> (refine keeps hb ?_; assumption))) ((first | (go_at_call 71; refine (floor_num _ _ HN.out).mono ?_; rintro e w1 ⟨rfl, rfl⟩) | (go_at_call 62; refine (check_yes b _ _ HF.out).mono ?_; rintro e w1 ⟨p1, rfl, hcc, hb⟩)))
  all_goals
    go_wp2
    go_ret2
    exact ⟨_, rfl, hcc, (Below.refl w.heap.size w).drew.trans hb⟩
set_option maxRecDepth 100000 in
theorem liftNum_inf (b : Nat) (p b1 : Addr) (x : Nat) (w : World) (hi : IT w b) (hp : w.cell? p = some (.float .f64 x)) (hc : w.cell? b1 = some (.func (.func 71) #[] #[])) (hx : nanW x = false) :
    Calls Try.prog 85 #[.pointer (some ⟨b, 0, none⟩), .iface 103 (.pointer (some p)), .pointer (some b1)] w (NumAny w) := by
  have HN := Lib.hid hx
  have HI := Lib.hid hi
  clear hx hi
  go_enter Try.func85, Try.ntmps85
  go_wp2_with (go_at_call 61; refine (getNumber_any _ _ _).mono ?_; rintro e w' ⟨rfl, rfl⟩)
  go_region_held3 (fun w' => w'.cell? p = some (.float .f64 x) ∧ w'.cell? b1 = some (.func (.func 71) #[] #[])) (first | go_keep | (refine ⟨?_, ?_⟩ <;> (refine keeps hb ?_; assumption))) ((first | (go_at_call 71; refine (floor_num _ _ HN.out).mono ?_; rintro e w1 ⟨rfl, rfl⟩) | (go_at_call 62; refine (check_any b _ _ (by exact HI.out)).mono ?_; rintro e w1 ⟨u1, u2, rfl, hb, hor⟩)))
  all_goals
    go_wp2
    go_ret2
    exact ⟨_, _, rfl, (Below.refl w.heap.size w).drew.trans hb, hor⟩
set_option maxRecDepth 100000 in
theorem liftNum_nan (b : Nat) (p b1 : Addr) (x : Nat) (w : World) (hi : IT w b) (hp : w.cell? p = some (.float .f64 x)) (hc : w.cell? b1 = some (.func (.func 71) #[] #[])) (hx : nanW x = true) :
    Calls Try.prog 85 #[.pointer (some ⟨b, 0, none⟩), .iface 103 (.pointer (some p)), .pointer (some b1)] w (NumAny w) := by
  have HN := Lib.hid hx
  have HI := Lib.hid hi
  clear hx hi
  go_enter Try.func85, Try.ntmps85
  go_wp2_with (go_at_call 61; refine (getNumber_any _ _ _).mono ?_; rintro e w' ⟨rfl, rfl⟩)
  go_region_held3 (fun w' => w'.cell? p = some (.float .f64 x) ∧ w'.cell? b1 = some (.func (.func 71) #[] #[])) (first | (go_keep; done) | (refine ⟨?_, ?_⟩ <;> first | (refine keeps hb2 ?_; assumption) | (refine keeps hb2 ?_; go_split_ands; assumption) | (refine keeps hb ?_; assumption))) ((first | (go_at_call 71; refine (floor_below _ _ HN.out).mono ?_; rintro e w1 ⟨t1, rfl, hb⟩; have HI1 := Lib.hid (IT.below (w := w.drew) (by exact HI.out) hb)) | (go_at_call 62; refine (check_any b _ _ (by exact HI1.out)).mono ?_; rintro e w2 ⟨u1, u2, rfl, hb2, hor⟩)))
  all_goals
    go_wp2
    go_ret2
    exact ⟨_, _, rfl, ((Below.refl w.heap.size w).drew.trans hb).trans (hb2.mono hb.size), hor⟩
end Go.Proofs.Ytpehjcbjcenaeaa
