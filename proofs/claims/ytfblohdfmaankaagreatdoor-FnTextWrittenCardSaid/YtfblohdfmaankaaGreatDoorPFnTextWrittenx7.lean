/- trimmed: of the kit's print those functions alone that FnTextWritten's proof uses -/
/- FnTextWritten: the Go functions that the law reaches as Lean functions, and that the Go code answers what these answer, for every input and in every world that the statements name. Written by this session's program extprint.py over hand-written contracts of some functions. -/
import Derived.Test.YtfblohdfmaankaaGreatDoorPFnTextWrittenx0
import Derived.Test.YtfblohdfmaankaaGreatDoorPFnTextWrittenx2
import Derived.Test.YtfblohdfmaankaaGreatDoorPFnTextWrittenx5
namespace Go.Proofs.YtfblohdfmaankaaGreatDoor.PFnTextWritten
open Go.RowKit Go.Proofs.YtfblohdfmaankaaGreatDoorW.PrintWords Go.Proofs.YtfblohdfmaankaaGreatDoorW.PrintLast Go.Proofs.YtfblohdfmaankaaGreatDoorW.PrintMore
attribute [local go_sem] max2_int min2_int max_two min_two max_three min_three max_four min_four   -- for this text's walks alone
set_option linter.unusedVariables false
set_option linter.unusedSimpArgs false

/-! ### spec_plainBlock: function 57 -/
mutual
def spec_plainBlock.j0 : Nat → List ByteArray → Int → Bool → Option (Bool)
  | 0, _, _, _ => none
  | k + 1, x3, x4, x22 => if x22 = true then (some false) else (spec_plainBlock.l0 k x3 x4 1)
def spec_plainBlock.l0 : Nat → List ByteArray → Int → Int → Option (Bool)
  | 0, _, _, _ => none
  | k + 1, x3, x4, x5 => if x5 < (x3.length : Int) then (if 0 ≤ x5 then ((spec_leading.f k (rdOf ByteArray.empty x3 x5)).bind fun t223 => (if t223 = ((rdOf ByteArray.empty x3 x5).size : Int) then (if ((rdOf ByteArray.empty x3 x5).size : Int) > 0 then (if ((rdOf ByteArray.empty x3 x5).size : Int) < x4 then (some false) else (spec_plainBlock.l0 k x3 x4 (wrap64 (x5 + 1)))) else (spec_plainBlock.l0 k x3 x4 (wrap64 (x5 + 1)))) else (spec_plainBlock.l0 k x3 x4 (wrap64 (x5 + 1))))) else (none)) else (some true)
end
def spec_plainBlock.f (k : Nat) (a0 : ByteArray) : Option (Bool) := (spec_Lines.f k a0).bind fun t215 => ((spec_common.f k t215).bind fun t218 => (if t218 > 0 then (if 0 < (t215.length : Int) then ((spec_leading.f k (rdOf ByteArray.empty t215 0)).bind fun t220 => (spec_plainBlock.j0 k t215 t218 (decide (t220 < ((rdOf ByteArray.empty t215 0).size : Int))))) else (none)) else (spec_plainBlock.j0 k t215 t218 false)))
theorem spec_plainBlock.mono_l : ∀ k, (∀ y0 y1 y2, LeO (spec_plainBlock.j0 k y0 y1 y2) (spec_plainBlock.j0 (k + 1) y0 y1 y2)) ∧ (∀ y0 y1 y2, LeO (spec_plainBlock.l0 k y0 y1 y2) (spec_plainBlock.l0 (k + 1) y0 y1 y2))
  | 0 => ⟨fun _ _ _ r h => by simp [spec_plainBlock.j0] at h, fun _ _ _ r h => by simp [spec_plainBlock.l0] at h⟩
  | k + 1 => by
    obtain ⟨ih0, ih1⟩ := spec_plainBlock.mono_l k
    refine ⟨?_, ?_⟩
    · intro y0 y1 y2
      unfold spec_plainBlock.j0
      repeat' first
      | (with_reducible exact ih0 _ _ _)
      | (with_reducible exact ih1 _ _ _)
      | (with_reducible exact spec_Lines.mono _ _)
      | (with_reducible exact spec_common.mono _ _)
      | (with_reducible exact spec_leading.mono _ _)
      | (with_reducible exact LeO.refl _)
      | (with_reducible exact LeO.none _)
      | (with_reducible refine LeO.ite ?_ ?_)
      | (with_reducible refine LeO.bind ?_ (fun _ => ?_))
      | exact ih0 _ _ _
      | exact ih1 _ _ _
      | exact spec_Lines.mono _ _
      | exact spec_common.mono _ _
      | exact spec_leading.mono _ _
      | exact LeO.none _
      | refine LeO.ite ?_ ?_
      | refine LeO.bind ?_ (fun _ => ?_)
    · intro y0 y1 y2
      unfold spec_plainBlock.l0
      repeat' first
      | (with_reducible exact ih0 _ _ _)
      | (with_reducible exact ih1 _ _ _)
      | (with_reducible exact spec_Lines.mono _ _)
      | (with_reducible exact spec_common.mono _ _)
      | (with_reducible exact spec_leading.mono _ _)
      | (with_reducible exact LeO.refl _)
      | (with_reducible exact LeO.none _)
      | (with_reducible refine LeO.ite ?_ ?_)
      | (with_reducible refine LeO.bind ?_ (fun _ => ?_))
      | exact ih0 _ _ _
      | exact ih1 _ _ _
      | exact spec_Lines.mono _ _
      | exact spec_common.mono _ _
      | exact spec_leading.mono _ _
      | exact LeO.none _
      | refine LeO.ite ?_ ?_
      | refine LeO.bind ?_ (fun _ => ?_)
theorem spec_plainBlock.mono : ∀ a0 k, LeO (spec_plainBlock.f k a0) (spec_plainBlock.f (k + 1) a0) := by
  intro a0 k
  obtain ⟨ih0, ih1⟩ := spec_plainBlock.mono_l k
  unfold spec_plainBlock.f
  repeat' first
      | (with_reducible exact ih0 _ _ _)
      | (with_reducible exact ih1 _ _ _)
      | (with_reducible exact spec_Lines.mono _ _)
      | (with_reducible exact spec_common.mono _ _)
      | (with_reducible exact spec_leading.mono _ _)
      | (with_reducible exact LeO.refl _)
      | (with_reducible exact LeO.none _)
      | (with_reducible refine LeO.ite ?_ ?_)
      | (with_reducible refine LeO.bind ?_ (fun _ => ?_))
      | exact ih0 _ _ _
      | exact ih1 _ _ _
      | exact spec_Lines.mono _ _
      | exact spec_common.mono _ _
      | exact spec_leading.mono _ _
      | exact LeO.none _
      | refine LeO.ite ?_ ?_
      | refine LeO.bind ?_ (fun _ => ?_)
set_option maxHeartbeats 8000000 in
set_option maxRecDepth 100000 in
theorem spec_plainBlock.calls (k : Nat) (a0 : ByteArray) (r : Bool) (w : World) (h : spec_plainBlock.f k a0 = some r) :
    Calls Tryz.prog 57 #[.string a0] w fun e w' => e = .returned (.bool r) ∧ Below w.heap.size w w' := by
  have HB := Aside0.mk (Below.refl w.heap.size w)
  have H : ((spec_Lines.f k a0).bind fun t215 => ((spec_common.f k t215).bind fun t218 => (if t218 > 0 then (if 0 < (t215.length : Int) then ((spec_leading.f k (rdOf ByteArray.empty t215 0)).bind fun t220 => (spec_plainBlock.j0 k t215 t218 (decide (t220 < ((rdOf ByteArray.empty t215 0).size : Int))))) else (none)) else (spec_plainBlock.j0 k t215 t218 false)))) = some r := h
  clear h
  replace H := Option.bind_eq_some_iff.mp H
  obtain ⟨t215, A20, H⟩ := H
  replace H : ((spec_common.f k t215).bind fun t218 => (if t218 > 0 then (if 0 < (t215.length : Int) then ((spec_leading.f k (rdOf ByteArray.empty t215 0)).bind fun t220 => (spec_plainBlock.j0 k t215 t218 (decide (t220 < ((rdOf ByteArray.empty t215 0).size : Int))))) else (none)) else (spec_plainBlock.j0 k t215 t218 false))) = some r := H
  have A2 := Aside0.mk A20
  clear A20
  replace H := Option.bind_eq_some_iff.mp H
  obtain ⟨t218, A30, H⟩ := H
  replace H : (if t218 > 0 then (if 0 < (t215.length : Int) then ((spec_leading.f k (rdOf ByteArray.empty t215 0)).bind fun t220 => (spec_plainBlock.j0 k t215 t218 (decide (t220 < ((rdOf ByteArray.empty t215 0).size : Int))))) else (none)) else (spec_plainBlock.j0 k t215 t218 false)) = some r := H
  have A3 := Aside0.mk A30
  clear A30
  have HC4 := Aside0.mk H
  clear H
  go_enter Tryz.func57, Tryz.ntmps57
  go_upto_region 3 with (first | (go_at_call 77; (with_reducible refine (spec_Lines.calls k a0 t215 _ A2.out).mono ?_); rintro e w5 ⟨v216, rfl, ho0, hb⟩; have n0_ := Aside0.mk (Kd.R_lower ho0 (below_size (by repeat (first | (with_reducible first | exact HB.out | apply below_alloc | apply pw_below_drewN | apply below_drew1) | exact HB.out)))); have n1_ := Aside0.mk (below_step (by repeat (first | (with_reducible first | exact HB.out | apply below_alloc | apply pw_below_drewN | apply below_drew1) | exact HB.out)) hb); clear HB; have HO217 := n0_; have HB := n1_; clear n0_ n1_; (try clear hb); (try clear hb2); (try clear hk); (try clear hi); (try clear ho0); obtain ⟨Ao6, co6, eo6⟩ := Kd.R_slice HO217.out; subst eo6) | (go_at_call 78; (with_reducible refine (spec_common.calls k _ _ t215 t218 _ ?side1 ?side2 A3.out).mono ?_); (case side1 => repeat (first | exact (Kd.R_reads' HO217.out).2.2 | (with_reducible refine Kd.C_alloc ?_ _) | (with_reducible refine Kd.C_drewN ?_ _) | (with_reducible refine Kd.C_drew ?_))); (case side2 => exact (Kd.R_reads' HO217.out).2.1); rintro e w7 ⟨rfl, hb⟩; have n0_ := Aside0.mk (Kd.R_below (by (with_reducible repeat (first | apply Kd.R_alloc | apply Kd.R_drewN | apply Kd.R_drew)); exact HO217.out) hb); have n1_ := Aside0.mk (below_step (by repeat (first | (with_reducible first | exact HB.out | apply below_alloc | apply pw_below_drewN | apply below_drew1) | exact HB.out)) hb); clear HO217; clear HB; have HO217 := n0_; have HB := n1_; clear n0_ n1_; (try clear hb); (try clear hb2); (try clear hk); (try clear hi)))
  repeat (go_quiet (first | (go_at_call 77; (with_reducible refine (spec_Lines.calls k a0 t215 _ A2.out).mono ?_); rintro e w5 ⟨v216, rfl, ho0, hb⟩; have n0_ := Aside0.mk (Kd.R_lower ho0 (below_size (by repeat (first | (with_reducible first | exact HB.out | apply below_alloc | apply pw_below_drewN | apply below_drew1) | exact HB.out)))); have n1_ := Aside0.mk (below_step (by repeat (first | (with_reducible first | exact HB.out | apply below_alloc | apply pw_below_drewN | apply below_drew1) | exact HB.out)) hb); clear HB; have HO217 := n0_; have HB := n1_; clear n0_ n1_; (try clear hb); (try clear hb2); (try clear hk); (try clear hi); (try clear ho0); obtain ⟨Ao6, co6, eo6⟩ := Kd.R_slice HO217.out; subst eo6) | (go_at_call 78; (with_reducible refine (spec_common.calls k _ _ t215 t218 _ ?side1 ?side2 A3.out).mono ?_); (case side1 => repeat (first | exact (Kd.R_reads' HO217.out).2.2 | (with_reducible refine Kd.C_alloc ?_ _) | (with_reducible refine Kd.C_drewN ?_ _) | (with_reducible refine Kd.C_drew ?_))); (case side2 => exact (Kd.R_reads' HO217.out).2.1); rintro e w7 ⟨rfl, hb⟩; have n0_ := Aside0.mk (Kd.R_below (by (with_reducible repeat (first | apply Kd.R_alloc | apply Kd.R_drewN | apply Kd.R_drew)); exact HO217.out) hb); have n1_ := Aside0.mk (below_step (by repeat (first | (with_reducible first | exact HB.out | apply below_alloc | apply pw_below_drewN | apply below_drew1) | exact HB.out)) hb); clear HO217; clear HB; have HO217 := n0_; have HB := n1_; clear n0_ n1_; (try clear hb); (try clear hb2); (try clear hk); (try clear hi))); go_upto_region 3 with (first | (go_at_call 77; (with_reducible refine (spec_Lines.calls k a0 t215 _ A2.out).mono ?_); rintro e w5 ⟨v216, rfl, ho0, hb⟩; have n0_ := Aside0.mk (Kd.R_lower ho0 (below_size (by repeat (first | (with_reducible first | exact HB.out | apply below_alloc | apply pw_below_drewN | apply below_drew1) | exact HB.out)))); have n1_ := Aside0.mk (below_step (by repeat (first | (with_reducible first | exact HB.out | apply below_alloc | apply pw_below_drewN | apply below_drew1) | exact HB.out)) hb); clear HB; have HO217 := n0_; have HB := n1_; clear n0_ n1_; (try clear hb); (try clear hb2); (try clear hk); (try clear hi); (try clear ho0); obtain ⟨Ao6, co6, eo6⟩ := Kd.R_slice HO217.out; subst eo6) | (go_at_call 78; (with_reducible refine (spec_common.calls k _ _ t215 t218 _ ?side1 ?side2 A3.out).mono ?_); (case side1 => repeat (first | exact (Kd.R_reads' HO217.out).2.2 | (with_reducible refine Kd.C_alloc ?_ _) | (with_reducible refine Kd.C_drewN ?_ _) | (with_reducible refine Kd.C_drew ?_))); (case side2 => exact (Kd.R_reads' HO217.out).2.1); rintro e w7 ⟨rfl, hb⟩; have n0_ := Aside0.mk (Kd.R_below (by (with_reducible repeat (first | apply Kd.R_alloc | apply Kd.R_drewN | apply Kd.R_drew)); exact HO217.out) hb); have n1_ := Aside0.mk (below_step (by repeat (first | (with_reducible first | exact HB.out | apply below_alloc | apply pw_below_drewN | apply below_drew1) | exact HB.out)) hb); clear HO217; clear HB; have HO217 := n0_; have HB := n1_; clear n0_ n1_; (try clear hb); (try clear hb2); (try clear hk); (try clear hi))))
  (try simp only [Act.put, List.setIfInBounds_toArray, List.set_cons_zero, List.set_cons_succ])
  go_cut [22] (fun v22 wc => ∃ (kq : Nat) (x22_3 : Bool), v22 = .bool x22_3 ∧ Aside0 (spec_plainBlock.j0 kq t215 t218 x22_3 = some r) ∧ Aside0 (kq ≤ k) ∧ Aside0 (Kd.R Kd.string 9 wc w.heap.size (fun _ => True) (.slice Ao6 t215.length co6) t215) ∧ Aside0 (Below w.heap.size w wc))
  case first =>
    have H := HC4.out
    clear HC4
    by_cases c8 : t218 > 0
    · rw [if_pos c8] at H
      have c8b0 : decide (0 < t218) = true := decide_eq_true c8
      clear c8
      (first | rw [c8b0] | (simp only [i64_w, i32_w]; rw [c8b0]) | skip)
      by_cases c9 : 0 < (t215.length : Int)
      · rw [if_pos c9] at H
        have c9b0 : decide (0 < (t215.length : Int)) = true := decide_eq_true c9
        have c9b1 : decide (0 < t215.length) = true := decide_eq_true (by omega)
        clear c9
        replace H := Option.bind_eq_some_iff.mp H
        obtain ⟨t220, A100, H⟩ := H
        replace H : (spec_plainBlock.j0 k t215 t218 (decide (t220 < ((rdOf ByteArray.empty t215 0).size : Int)))) = some r := H
        have A10 := Aside0.mk A100
        clear A100
        have H' := Aside0.mk H
        clear H
        have p219 : 0 ≤ (0 : Int) := (by omega)
        have q219 : 0 < (t215.length : Int) := of_decide_eq_true (by first | (with_reducible assumption) | assumption)
        obtain ⟨ad219, e219, hx219_0⟩ := Kd.at_string (Kd.R_reads' HO217.out).2.2 0 p219 q219
        cases e219
        have qi219 : (0 < t215.length) = True := eq_true (by omega)
        (try rw [show ((0 : Int)).toNat = 0 from rfl] at hx219_0)
        (try rw [Addr.add_zero'] at hx219_0)
        replace p219 := eq_true p219
        replace q219 := eq_true q219
        go_wp2_with (first | (go_at_call 79; (with_reducible refine (spec_leading.calls k (rdOf ByteArray.empty t215 0) t220 _ A10.out).mono ?_); rintro e w' ⟨rfl, ⟨nd, rfl⟩⟩; (try first | exact ⟨rfl, _, World.drewN_drewN _ _ _⟩ | exact ⟨rfl, _, Eq.trans (World.drewN_drewN _ _ _) (congrArg (World.drewN _) (Nat.add_assoc _ _ _))⟩); have p221 : 0 ≤ (0 : Int) := (by omega); have q221 : 0 < (t215.length : Int) := of_decide_eq_true (by first | (with_reducible assumption) | assumption); obtain ⟨ad221, e221, hx221_0⟩ := Kd.at_string (Kd.R_reads' HO217.out).2.2 0 p221 q221; obtain rfl : ad219 = ad221 := (by injection e221); have qi221 : (0 < t215.length) = True := eq_true (by omega); (try rw [show ((0 : Int)).toNat = 0 from rfl] at hx221_0); (try rw [Addr.add_zero'] at hx221_0); replace p221 := eq_true p221; replace q221 := eq_true q221))
        repeat (go_quiet (first | (go_at_call 79; (with_reducible refine (spec_leading.calls k (rdOf ByteArray.empty t215 0) t220 _ A10.out).mono ?_); rintro e w' ⟨rfl, ⟨nd, rfl⟩⟩; (try first | exact ⟨rfl, _, World.drewN_drewN _ _ _⟩ | exact ⟨rfl, _, Eq.trans (World.drewN_drewN _ _ _) (congrArg (World.drewN _) (Nat.add_assoc _ _ _))⟩); have p221 : 0 ≤ (0 : Int) := (by omega); have q221 : 0 < (t215.length : Int) := of_decide_eq_true (by first | (with_reducible assumption) | assumption); obtain ⟨ad221, e221, hx221_0⟩ := Kd.at_string (Kd.R_reads' HO217.out).2.2 0 p221 q221; obtain rfl : ad219 = ad221 := (by injection e221); have qi221 : (0 < t215.length) = True := eq_true (by omega); (try rw [show ((0 : Int)).toNat = 0 from rfl] at hx221_0); (try rw [Addr.add_zero'] at hx221_0); replace p221 := eq_true p221; replace q221 := eq_true q221)); try go_wp2_with (first | (go_at_call 79; (with_reducible refine (spec_leading.calls k (rdOf ByteArray.empty t215 0) t220 _ A10.out).mono ?_); rintro e w' ⟨rfl, ⟨nd, rfl⟩⟩; (try first | exact ⟨rfl, _, World.drewN_drewN _ _ _⟩ | exact ⟨rfl, _, Eq.trans (World.drewN_drewN _ _ _) (congrArg (World.drewN _) (Nat.add_assoc _ _ _))⟩); have p221 : 0 ≤ (0 : Int) := (by omega); have q221 : 0 < (t215.length : Int) := of_decide_eq_true (by first | (with_reducible assumption) | assumption); obtain ⟨ad221, e221, hx221_0⟩ := Kd.at_string (Kd.R_reads' HO217.out).2.2 0 p221 q221; obtain rfl : ad219 = ad221 := (by injection e221); have qi221 : (0 < t215.length) = True := eq_true (by omega); (try rw [show ((0 : Int)).toNat = 0 from rfl] at hx221_0); (try rw [Addr.add_zero'] at hx221_0); replace p221 := eq_true p221; replace q221 := eq_true q221)))
        go_meet
        case rel => exact ⟨_, (decide (t220 < ((rdOf ByteArray.empty t215 0).size : Int))), (by first | rfl | (simp; done) | (simp [*]; done)), H', ⟨by first | omega | exact Nat.le_refl _⟩, ⟨by (with_reducible repeat (first | apply Kd.R_alloc | apply Kd.R_drewN | apply Kd.R_drew)); exact HO217.out⟩, ⟨by repeat (first | (with_reducible first | exact HB.out | apply below_alloc | apply pw_below_drewN | apply below_drew1) | exact HB.out)⟩⟩
      · rw [if_neg c9] at H
        exact absurd H (by simp)
    · rw [if_neg c8] at H
      have c8b0 : decide (0 < t218) = false := decide_eq_false c8
      clear c8
      (first | rw [c8b0] | (simp only [i64_w, i32_w]; rw [c8b0]) | skip)
      have H' := Aside0.mk H
      clear H
      go_wp2
      repeat (go_quiet (fail); try go_wp2)
      go_meet
      case rel => exact ⟨_, (false), (by first | rfl | (simp; done) | (simp [*]; done)), H', ⟨by first | omega | exact Nat.le_refl _⟩, ⟨by (with_reducible repeat (first | apply Kd.R_alloc | apply Kd.R_drewN | apply Kd.R_drew)); exact HO217.out⟩, ⟨by repeat (first | (with_reducible first | exact HB.out | apply below_alloc | apply pw_below_drewN | apply below_drew1) | exact HB.out)⟩⟩
  case rest =>
    clear HC4
    try clear p2
    try clear q2
    try clear hx2
    try clear qi2
    try clear c5
    try clear c8
    try clear c8b0
    try clear c9
    try clear c9b0
    try clear c9b1
    try clear hx219_0
    try clear hx221_0
    try clear p219
    try clear p221
    try clear q219
    try clear q221
    obtain ⟨kq, x22_3, rfl, HA, HJ3, HO_3, HB⟩ := hcut
    cases kq with
    | zero => exact absurd HA.out (by simp [spec_plainBlock.j0])
    | succ kj3 =>
      have H := HA.out
      clear HA
      simp only [spec_plainBlock.j0] at H
      by_cases c11 : x22_3 = true
      · subst c11
        have H1 : (some false) = some r := by rw [if_pos rfl] at H; exact H
        clear H
        have H := H1
        clear H1
        obtain rfl := Option.some.inj H
        go_wp2
        repeat (go_quiet (fail); try go_wp2)
        go_ret
        exact ⟨by first | rfl | (simp [errW_none, errW_some] <;> rfl) | (simp [*, errW_none, errW_some] <;> rfl), by repeat (first | (with_reducible first | exact HB.out | apply below_alloc | apply pw_below_drewN | apply below_drew1) | exact HB.out)⟩
      · replace c11 := Bool.eq_false_iff.mpr c11
        subst c11
        have H1 : (spec_plainBlock.l0 kj3 t215 t218 1) = some r := by rw [if_neg (show ¬ (false = true) by decide)] at H; exact H
        clear H
        have H := H1
        clear H1
        have H' := Aside0.mk H
        clear H
        go_wp2
        repeat (go_quiet (fail); try go_wp2)
        go_loopg [5] kj3 (fun kq v5 w' => ∃ (x5_2 : Int), v5 = .int .i64 x5_2 ∧ Aside0 (spec_plainBlock.l0 kq t215 t218 x5_2 = some r) ∧ Aside0 (kq ≤ kj3) ∧ Aside0 (Kd.R Kd.string 9 w' w.heap.size (fun _ => True) (.slice Ao6 t215.length co6) t215) ∧ Aside0 (Below w.heap.size w w'))
        case atStart => exact ⟨(1), (by first | rfl | (simp; done) | (simp [*]; done)), H', ⟨Nat.le_refl _⟩, ⟨by (with_reducible repeat (first | apply Kd.R_alloc | apply Kd.R_drewN | apply Kd.R_drew)); exact HO_3.out⟩, ⟨by repeat (first | (with_reducible first | exact HB.out | apply below_alloc | apply pw_below_drewN | apply below_drew1) | exact HB.out)⟩⟩
        case round =>
          clear H'
          try clear c1
          try clear p2
          try clear q2
          try clear hx2
          try clear qi2
          try clear c5
          try clear c8
          try clear c8b0
          try clear c9
          try clear c9b0
          try clear c9b1
          try clear c11
          try clear hx219_0
          try clear hx221_0
          try clear p2
          try clear p219
          try clear p221
          try clear q2
          try clear q219
          try clear q221
          obtain ⟨x5_2, rfl, HA, HK2, HO_3, HB⟩ := hrel
          cases gk with
          | zero => exact absurd HA.out (by simp [spec_plainBlock.l0])
          | succ k2 =>
            have H := HA.out
            clear HA
            simp only [spec_plainBlock.l0] at H
            by_cases c12 : x5_2 < (t215.length : Int)
            · rw [if_pos c12] at H
              have c12b0 : decide (x5_2 < (t215.length : Int)) = true := decide_eq_true c12
              clear c12
              by_cases c13 : 0 ≤ x5_2
              · rw [if_pos c13] at H
                have c13b0 : decide (0 ≤ x5_2) = true := decide_eq_true c13
                clear c13
                replace H := Option.bind_eq_some_iff.mp H
                obtain ⟨t223, A140, H⟩ := H
                replace H : (if t223 = ((rdOf ByteArray.empty t215 x5_2).size : Int) then (if ((rdOf ByteArray.empty t215 x5_2).size : Int) > 0 then (if ((rdOf ByteArray.empty t215 x5_2).size : Int) < t218 then (some false) else (spec_plainBlock.l0 k2 t215 t218 (wrap64 (x5_2 + 1)))) else (spec_plainBlock.l0 k2 t215 t218 (wrap64 (x5_2 + 1)))) else (spec_plainBlock.l0 k2 t215 t218 (wrap64 (x5_2 + 1)))) = some r := H
                have A14 := Aside0.mk A140
                clear A140
                by_cases c15 : t223 = ((rdOf ByteArray.empty t215 x5_2).size : Int)
                · rw [if_pos c15] at H
                  have c15b0 : (t223 == ((rdOf ByteArray.empty t215 x5_2).size : Int)) = true := beq_iff_eq.mpr c15
                  have c15b1 : (t223 != ((rdOf ByteArray.empty t215 x5_2).size : Int)) = false := bne_eq_false_iff_eq.mpr c15
                  clear c15
                  by_cases c16 : ((rdOf ByteArray.empty t215 x5_2).size : Int) > 0
                  · rw [if_pos c16] at H
                    have c16b0 : decide (0 < ((rdOf ByteArray.empty t215 x5_2).size : Int)) = true := decide_eq_true c16
                    have c16b1 : decide (0 < (rdOf ByteArray.empty t215 x5_2).size) = true := decide_eq_true (by omega)
                    clear c16
                    by_cases c17 : ((rdOf ByteArray.empty t215 x5_2).size : Int) < t218
                    · rw [if_pos c17] at H
                      have c17b0 : decide (((rdOf ByteArray.empty t215 x5_2).size : Int) < t218) = true := decide_eq_true c17
                      clear c17
                      obtain rfl := Option.some.inj H
                      have p222 : 0 ≤ (x5_2 : Int) := of_decide_eq_true (by first | (with_reducible assumption) | assumption)
                      have q222 : x5_2 < (t215.length : Int) := of_decide_eq_true (by first | (with_reducible assumption) | assumption)
                      obtain ⟨ad222, e222, hx222_0⟩ := Kd.at_string (Kd.R_reads' HO_3.out).2.2 x5_2 p222 q222
                      cases e222
                      replace p222 := eq_true p222
                      replace q222 := eq_true q222
                      go_wp2_with (first | (go_at_call 79; (with_reducible refine (spec_leading.calls k2 (rdOf ByteArray.empty t215 x5_2) t223 _ A14.out).mono ?_); rintro e w' ⟨rfl, ⟨nd, rfl⟩⟩; (try first | exact ⟨rfl, _, World.drewN_drewN _ _ _⟩ | exact ⟨rfl, _, Eq.trans (World.drewN_drewN _ _ _) (congrArg (World.drewN _) (Nat.add_assoc _ _ _))⟩); have p224 : 0 ≤ (x5_2 : Int) := of_decide_eq_true (by first | (with_reducible assumption) | assumption); have q224 : x5_2 < (t215.length : Int) := of_decide_eq_true (by first | (with_reducible assumption) | assumption); obtain ⟨ad224, e224, hx224_0⟩ := Kd.at_string (Kd.R_reads' HO_3.out).2.2 x5_2 p224 q224; obtain rfl : ad222 = ad224 := (by injection e224); replace p224 := eq_true p224; replace q224 := eq_true q224; have p225 : 0 ≤ (x5_2 : Int) := of_decide_eq_true (by first | (with_reducible assumption) | assumption); have q225 : x5_2 < (t215.length : Int) := of_decide_eq_true (by first | (with_reducible assumption) | assumption); obtain ⟨ad225, e225, hx225_0⟩ := Kd.at_string (Kd.R_reads' HO_3.out).2.2 x5_2 p225 q225; obtain rfl : ad222 = ad225 := (by injection e225); replace p225 := eq_true p225; replace q225 := eq_true q225; have p226 : 0 ≤ (x5_2 : Int) := of_decide_eq_true (by first | (with_reducible assumption) | assumption); have q226 : x5_2 < (t215.length : Int) := of_decide_eq_true (by first | (with_reducible assumption) | assumption); obtain ⟨ad226, e226, hx226_0⟩ := Kd.at_string (Kd.R_reads' HO_3.out).2.2 x5_2 p226 q226; obtain rfl : ad222 = ad226 := (by injection e226); replace p226 := eq_true p226; replace q226 := eq_true q226))
                      repeat (go_quiet (first | (go_at_call 79; (with_reducible refine (spec_leading.calls k2 (rdOf ByteArray.empty t215 x5_2) t223 _ A14.out).mono ?_); rintro e w' ⟨rfl, ⟨nd, rfl⟩⟩; (try first | exact ⟨rfl, _, World.drewN_drewN _ _ _⟩ | exact ⟨rfl, _, Eq.trans (World.drewN_drewN _ _ _) (congrArg (World.drewN _) (Nat.add_assoc _ _ _))⟩); have p224 : 0 ≤ (x5_2 : Int) := of_decide_eq_true (by first | (with_reducible assumption) | assumption); have q224 : x5_2 < (t215.length : Int) := of_decide_eq_true (by first | (with_reducible assumption) | assumption); obtain ⟨ad224, e224, hx224_0⟩ := Kd.at_string (Kd.R_reads' HO_3.out).2.2 x5_2 p224 q224; obtain rfl : ad222 = ad224 := (by injection e224); replace p224 := eq_true p224; replace q224 := eq_true q224; have p225 : 0 ≤ (x5_2 : Int) := of_decide_eq_true (by first | (with_reducible assumption) | assumption); have q225 : x5_2 < (t215.length : Int) := of_decide_eq_true (by first | (with_reducible assumption) | assumption); obtain ⟨ad225, e225, hx225_0⟩ := Kd.at_string (Kd.R_reads' HO_3.out).2.2 x5_2 p225 q225; obtain rfl : ad222 = ad225 := (by injection e225); replace p225 := eq_true p225; replace q225 := eq_true q225; have p226 : 0 ≤ (x5_2 : Int) := of_decide_eq_true (by first | (with_reducible assumption) | assumption); have q226 : x5_2 < (t215.length : Int) := of_decide_eq_true (by first | (with_reducible assumption) | assumption); obtain ⟨ad226, e226, hx226_0⟩ := Kd.at_string (Kd.R_reads' HO_3.out).2.2 x5_2 p226 q226; obtain rfl : ad222 = ad226 := (by injection e226); replace p226 := eq_true p226; replace q226 := eq_true q226)); try go_wp2_with (first | (go_at_call 79; (with_reducible refine (spec_leading.calls k2 (rdOf ByteArray.empty t215 x5_2) t223 _ A14.out).mono ?_); rintro e w' ⟨rfl, ⟨nd, rfl⟩⟩; (try first | exact ⟨rfl, _, World.drewN_drewN _ _ _⟩ | exact ⟨rfl, _, Eq.trans (World.drewN_drewN _ _ _) (congrArg (World.drewN _) (Nat.add_assoc _ _ _))⟩); have p224 : 0 ≤ (x5_2 : Int) := of_decide_eq_true (by first | (with_reducible assumption) | assumption); have q224 : x5_2 < (t215.length : Int) := of_decide_eq_true (by first | (with_reducible assumption) | assumption); obtain ⟨ad224, e224, hx224_0⟩ := Kd.at_string (Kd.R_reads' HO_3.out).2.2 x5_2 p224 q224; obtain rfl : ad222 = ad224 := (by injection e224); replace p224 := eq_true p224; replace q224 := eq_true q224; have p225 : 0 ≤ (x5_2 : Int) := of_decide_eq_true (by first | (with_reducible assumption) | assumption); have q225 : x5_2 < (t215.length : Int) := of_decide_eq_true (by first | (with_reducible assumption) | assumption); obtain ⟨ad225, e225, hx225_0⟩ := Kd.at_string (Kd.R_reads' HO_3.out).2.2 x5_2 p225 q225; obtain rfl : ad222 = ad225 := (by injection e225); replace p225 := eq_true p225; replace q225 := eq_true q225; have p226 : 0 ≤ (x5_2 : Int) := of_decide_eq_true (by first | (with_reducible assumption) | assumption); have q226 : x5_2 < (t215.length : Int) := of_decide_eq_true (by first | (with_reducible assumption) | assumption); obtain ⟨ad226, e226, hx226_0⟩ := Kd.at_string (Kd.R_reads' HO_3.out).2.2 x5_2 p226 q226; obtain rfl : ad222 = ad226 := (by injection e226); replace p226 := eq_true p226; replace q226 := eq_true q226)))
                      go_ret
                      exact ⟨by first | rfl | (simp [errW_none, errW_some] <;> rfl) | (simp [*, errW_none, errW_some] <;> rfl), by repeat (first | (with_reducible first | exact HB.out | apply below_alloc | apply pw_below_drewN | apply below_drew1) | exact HB.out)⟩
                    · rw [if_neg c17] at H
                      have c17b0 : decide (((rdOf ByteArray.empty t215 x5_2).size : Int) < t218) = false := decide_eq_false c17
                      clear c17
                      have H' := Aside0.mk H
                      clear H
                      have p222 : 0 ≤ (x5_2 : Int) := of_decide_eq_true (by first | (with_reducible assumption) | assumption)
                      have q222 : x5_2 < (t215.length : Int) := of_decide_eq_true (by first | (with_reducible assumption) | assumption)
                      obtain ⟨ad222, e222, hx222_0⟩ := Kd.at_string (Kd.R_reads' HO_3.out).2.2 x5_2 p222 q222
                      cases e222
                      replace p222 := eq_true p222
                      replace q222 := eq_true q222
                      go_wp2_with (first | (go_at_call 79; (with_reducible refine (spec_leading.calls k2 (rdOf ByteArray.empty t215 x5_2) t223 _ A14.out).mono ?_); rintro e w' ⟨rfl, ⟨nd, rfl⟩⟩; (try first | exact ⟨rfl, _, World.drewN_drewN _ _ _⟩ | exact ⟨rfl, _, Eq.trans (World.drewN_drewN _ _ _) (congrArg (World.drewN _) (Nat.add_assoc _ _ _))⟩); have p224 : 0 ≤ (x5_2 : Int) := of_decide_eq_true (by first | (with_reducible assumption) | assumption); have q224 : x5_2 < (t215.length : Int) := of_decide_eq_true (by first | (with_reducible assumption) | assumption); obtain ⟨ad224, e224, hx224_0⟩ := Kd.at_string (Kd.R_reads' HO_3.out).2.2 x5_2 p224 q224; obtain rfl : ad222 = ad224 := (by injection e224); replace p224 := eq_true p224; replace q224 := eq_true q224; have p225 : 0 ≤ (x5_2 : Int) := of_decide_eq_true (by first | (with_reducible assumption) | assumption); have q225 : x5_2 < (t215.length : Int) := of_decide_eq_true (by first | (with_reducible assumption) | assumption); obtain ⟨ad225, e225, hx225_0⟩ := Kd.at_string (Kd.R_reads' HO_3.out).2.2 x5_2 p225 q225; obtain rfl : ad222 = ad225 := (by injection e225); replace p225 := eq_true p225; replace q225 := eq_true q225; have p226 : 0 ≤ (x5_2 : Int) := of_decide_eq_true (by first | (with_reducible assumption) | assumption); have q226 : x5_2 < (t215.length : Int) := of_decide_eq_true (by first | (with_reducible assumption) | assumption); obtain ⟨ad226, e226, hx226_0⟩ := Kd.at_string (Kd.R_reads' HO_3.out).2.2 x5_2 p226 q226; obtain rfl : ad222 = ad226 := (by injection e226); replace p226 := eq_true p226; replace q226 := eq_true q226))
                      repeat (go_quiet (first | (go_at_call 79; (with_reducible refine (spec_leading.calls k2 (rdOf ByteArray.empty t215 x5_2) t223 _ A14.out).mono ?_); rintro e w' ⟨rfl, ⟨nd, rfl⟩⟩; (try first | exact ⟨rfl, _, World.drewN_drewN _ _ _⟩ | exact ⟨rfl, _, Eq.trans (World.drewN_drewN _ _ _) (congrArg (World.drewN _) (Nat.add_assoc _ _ _))⟩); have p224 : 0 ≤ (x5_2 : Int) := of_decide_eq_true (by first | (with_reducible assumption) | assumption); have q224 : x5_2 < (t215.length : Int) := of_decide_eq_true (by first | (with_reducible assumption) | assumption); obtain ⟨ad224, e224, hx224_0⟩ := Kd.at_string (Kd.R_reads' HO_3.out).2.2 x5_2 p224 q224; obtain rfl : ad222 = ad224 := (by injection e224); replace p224 := eq_true p224; replace q224 := eq_true q224; have p225 : 0 ≤ (x5_2 : Int) := of_decide_eq_true (by first | (with_reducible assumption) | assumption); have q225 : x5_2 < (t215.length : Int) := of_decide_eq_true (by first | (with_reducible assumption) | assumption); obtain ⟨ad225, e225, hx225_0⟩ := Kd.at_string (Kd.R_reads' HO_3.out).2.2 x5_2 p225 q225; obtain rfl : ad222 = ad225 := (by injection e225); replace p225 := eq_true p225; replace q225 := eq_true q225; have p226 : 0 ≤ (x5_2 : Int) := of_decide_eq_true (by first | (with_reducible assumption) | assumption); have q226 : x5_2 < (t215.length : Int) := of_decide_eq_true (by first | (with_reducible assumption) | assumption); obtain ⟨ad226, e226, hx226_0⟩ := Kd.at_string (Kd.R_reads' HO_3.out).2.2 x5_2 p226 q226; obtain rfl : ad222 = ad226 := (by injection e226); replace p226 := eq_true p226; replace q226 := eq_true q226)); try go_wp2_with (first | (go_at_call 79; (with_reducible refine (spec_leading.calls k2 (rdOf ByteArray.empty t215 x5_2) t223 _ A14.out).mono ?_); rintro e w' ⟨rfl, ⟨nd, rfl⟩⟩; (try first | exact ⟨rfl, _, World.drewN_drewN _ _ _⟩ | exact ⟨rfl, _, Eq.trans (World.drewN_drewN _ _ _) (congrArg (World.drewN _) (Nat.add_assoc _ _ _))⟩); have p224 : 0 ≤ (x5_2 : Int) := of_decide_eq_true (by first | (with_reducible assumption) | assumption); have q224 : x5_2 < (t215.length : Int) := of_decide_eq_true (by first | (with_reducible assumption) | assumption); obtain ⟨ad224, e224, hx224_0⟩ := Kd.at_string (Kd.R_reads' HO_3.out).2.2 x5_2 p224 q224; obtain rfl : ad222 = ad224 := (by injection e224); replace p224 := eq_true p224; replace q224 := eq_true q224; have p225 : 0 ≤ (x5_2 : Int) := of_decide_eq_true (by first | (with_reducible assumption) | assumption); have q225 : x5_2 < (t215.length : Int) := of_decide_eq_true (by first | (with_reducible assumption) | assumption); obtain ⟨ad225, e225, hx225_0⟩ := Kd.at_string (Kd.R_reads' HO_3.out).2.2 x5_2 p225 q225; obtain rfl : ad222 = ad225 := (by injection e225); replace p225 := eq_true p225; replace q225 := eq_true q225; have p226 : 0 ≤ (x5_2 : Int) := of_decide_eq_true (by first | (with_reducible assumption) | assumption); have q226 : x5_2 < (t215.length : Int) := of_decide_eq_true (by first | (with_reducible assumption) | assumption); obtain ⟨ad226, e226, hx226_0⟩ := Kd.at_string (Kd.R_reads' HO_3.out).2.2 x5_2 p226 q226; obtain rfl : ad222 = ad226 := (by injection e226); replace p226 := eq_true p226; replace q226 := eq_true q226)))
                      go_roundg k2
                      case measure => have := HJ3.out; have := HK2.out; omega
                      case rel => exact ⟨(wrap64 (x5_2 + 1)), (by first | rfl | (simp; done) | (simp [*]; done)), H', ⟨by have := HJ3.out; have := HK2.out; omega⟩, ⟨by (with_reducible repeat (first | apply Kd.R_alloc | apply Kd.R_drewN | apply Kd.R_drew)); exact HO_3.out⟩, ⟨by repeat (first | (with_reducible first | exact HB.out | apply below_alloc | apply pw_below_drewN | apply below_drew1) | exact HB.out)⟩⟩
                  · rw [if_neg c16] at H
                    have c16b0 : decide (0 < ((rdOf ByteArray.empty t215 x5_2).size : Int)) = false := decide_eq_false c16
                    have c16b1 : decide (0 < (rdOf ByteArray.empty t215 x5_2).size) = false := decide_eq_false (by omega)
                    clear c16
                    have H' := Aside0.mk H
                    clear H
                    have p222 : 0 ≤ (x5_2 : Int) := of_decide_eq_true (by first | (with_reducible assumption) | assumption)
                    have q222 : x5_2 < (t215.length : Int) := of_decide_eq_true (by first | (with_reducible assumption) | assumption)
                    obtain ⟨ad222, e222, hx222_0⟩ := Kd.at_string (Kd.R_reads' HO_3.out).2.2 x5_2 p222 q222
                    cases e222
                    replace p222 := eq_true p222
                    replace q222 := eq_true q222
                    go_wp2_with (first | (go_at_call 79; (with_reducible refine (spec_leading.calls k2 (rdOf ByteArray.empty t215 x5_2) t223 _ A14.out).mono ?_); rintro e w' ⟨rfl, ⟨nd, rfl⟩⟩; (try first | exact ⟨rfl, _, World.drewN_drewN _ _ _⟩ | exact ⟨rfl, _, Eq.trans (World.drewN_drewN _ _ _) (congrArg (World.drewN _) (Nat.add_assoc _ _ _))⟩); have p224 : 0 ≤ (x5_2 : Int) := of_decide_eq_true (by first | (with_reducible assumption) | assumption); have q224 : x5_2 < (t215.length : Int) := of_decide_eq_true (by first | (with_reducible assumption) | assumption); obtain ⟨ad224, e224, hx224_0⟩ := Kd.at_string (Kd.R_reads' HO_3.out).2.2 x5_2 p224 q224; obtain rfl : ad222 = ad224 := (by injection e224); replace p224 := eq_true p224; replace q224 := eq_true q224; have p225 : 0 ≤ (x5_2 : Int) := of_decide_eq_true (by first | (with_reducible assumption) | assumption); have q225 : x5_2 < (t215.length : Int) := of_decide_eq_true (by first | (with_reducible assumption) | assumption); obtain ⟨ad225, e225, hx225_0⟩ := Kd.at_string (Kd.R_reads' HO_3.out).2.2 x5_2 p225 q225; obtain rfl : ad222 = ad225 := (by injection e225); replace p225 := eq_true p225; replace q225 := eq_true q225))
                    repeat (go_quiet (first | (go_at_call 79; (with_reducible refine (spec_leading.calls k2 (rdOf ByteArray.empty t215 x5_2) t223 _ A14.out).mono ?_); rintro e w' ⟨rfl, ⟨nd, rfl⟩⟩; (try first | exact ⟨rfl, _, World.drewN_drewN _ _ _⟩ | exact ⟨rfl, _, Eq.trans (World.drewN_drewN _ _ _) (congrArg (World.drewN _) (Nat.add_assoc _ _ _))⟩); have p224 : 0 ≤ (x5_2 : Int) := of_decide_eq_true (by first | (with_reducible assumption) | assumption); have q224 : x5_2 < (t215.length : Int) := of_decide_eq_true (by first | (with_reducible assumption) | assumption); obtain ⟨ad224, e224, hx224_0⟩ := Kd.at_string (Kd.R_reads' HO_3.out).2.2 x5_2 p224 q224; obtain rfl : ad222 = ad224 := (by injection e224); replace p224 := eq_true p224; replace q224 := eq_true q224; have p225 : 0 ≤ (x5_2 : Int) := of_decide_eq_true (by first | (with_reducible assumption) | assumption); have q225 : x5_2 < (t215.length : Int) := of_decide_eq_true (by first | (with_reducible assumption) | assumption); obtain ⟨ad225, e225, hx225_0⟩ := Kd.at_string (Kd.R_reads' HO_3.out).2.2 x5_2 p225 q225; obtain rfl : ad222 = ad225 := (by injection e225); replace p225 := eq_true p225; replace q225 := eq_true q225)); try go_wp2_with (first | (go_at_call 79; (with_reducible refine (spec_leading.calls k2 (rdOf ByteArray.empty t215 x5_2) t223 _ A14.out).mono ?_); rintro e w' ⟨rfl, ⟨nd, rfl⟩⟩; (try first | exact ⟨rfl, _, World.drewN_drewN _ _ _⟩ | exact ⟨rfl, _, Eq.trans (World.drewN_drewN _ _ _) (congrArg (World.drewN _) (Nat.add_assoc _ _ _))⟩); have p224 : 0 ≤ (x5_2 : Int) := of_decide_eq_true (by first | (with_reducible assumption) | assumption); have q224 : x5_2 < (t215.length : Int) := of_decide_eq_true (by first | (with_reducible assumption) | assumption); obtain ⟨ad224, e224, hx224_0⟩ := Kd.at_string (Kd.R_reads' HO_3.out).2.2 x5_2 p224 q224; obtain rfl : ad222 = ad224 := (by injection e224); replace p224 := eq_true p224; replace q224 := eq_true q224; have p225 : 0 ≤ (x5_2 : Int) := of_decide_eq_true (by first | (with_reducible assumption) | assumption); have q225 : x5_2 < (t215.length : Int) := of_decide_eq_true (by first | (with_reducible assumption) | assumption); obtain ⟨ad225, e225, hx225_0⟩ := Kd.at_string (Kd.R_reads' HO_3.out).2.2 x5_2 p225 q225; obtain rfl : ad222 = ad225 := (by injection e225); replace p225 := eq_true p225; replace q225 := eq_true q225)))
                    go_roundg k2
                    case measure => have := HJ3.out; have := HK2.out; omega
                    case rel => exact ⟨(wrap64 (x5_2 + 1)), (by first | rfl | (simp; done) | (simp [*]; done)), H', ⟨by have := HJ3.out; have := HK2.out; omega⟩, ⟨by (with_reducible repeat (first | apply Kd.R_alloc | apply Kd.R_drewN | apply Kd.R_drew)); exact HO_3.out⟩, ⟨by repeat (first | (with_reducible first | exact HB.out | apply below_alloc | apply pw_below_drewN | apply below_drew1) | exact HB.out)⟩⟩
                · rw [if_neg c15] at H
                  have c15b0 : (t223 == ((rdOf ByteArray.empty t215 x5_2).size : Int)) = false := beq_eq_false_iff_ne.mpr c15
                  have c15b1 : (t223 != ((rdOf ByteArray.empty t215 x5_2).size : Int)) = true := bne_iff_ne.mpr c15
                  have H' := Aside0.mk H
                  clear H
                  have p222 : 0 ≤ (x5_2 : Int) := of_decide_eq_true (by first | (with_reducible assumption) | assumption)
                  have q222 : x5_2 < (t215.length : Int) := of_decide_eq_true (by first | (with_reducible assumption) | assumption)
                  obtain ⟨ad222, e222, hx222_0⟩ := Kd.at_string (Kd.R_reads' HO_3.out).2.2 x5_2 p222 q222
                  cases e222
                  replace p222 := eq_true p222
                  replace q222 := eq_true q222
                  go_wp2_with (first | (go_at_call 79; (with_reducible refine (spec_leading.calls k2 (rdOf ByteArray.empty t215 x5_2) t223 _ A14.out).mono ?_); rintro e w' ⟨rfl, ⟨nd, rfl⟩⟩; (try first | exact ⟨rfl, _, World.drewN_drewN _ _ _⟩ | exact ⟨rfl, _, Eq.trans (World.drewN_drewN _ _ _) (congrArg (World.drewN _) (Nat.add_assoc _ _ _))⟩); have p224 : 0 ≤ (x5_2 : Int) := of_decide_eq_true (by first | (with_reducible assumption) | assumption); have q224 : x5_2 < (t215.length : Int) := of_decide_eq_true (by first | (with_reducible assumption) | assumption); obtain ⟨ad224, e224, hx224_0⟩ := Kd.at_string (Kd.R_reads' HO_3.out).2.2 x5_2 p224 q224; obtain rfl : ad222 = ad224 := (by injection e224); replace p224 := eq_true p224; replace q224 := eq_true q224))
                  repeat (go_quiet (first | (go_at_call 79; (with_reducible refine (spec_leading.calls k2 (rdOf ByteArray.empty t215 x5_2) t223 _ A14.out).mono ?_); rintro e w' ⟨rfl, ⟨nd, rfl⟩⟩; (try first | exact ⟨rfl, _, World.drewN_drewN _ _ _⟩ | exact ⟨rfl, _, Eq.trans (World.drewN_drewN _ _ _) (congrArg (World.drewN _) (Nat.add_assoc _ _ _))⟩); have p224 : 0 ≤ (x5_2 : Int) := of_decide_eq_true (by first | (with_reducible assumption) | assumption); have q224 : x5_2 < (t215.length : Int) := of_decide_eq_true (by first | (with_reducible assumption) | assumption); obtain ⟨ad224, e224, hx224_0⟩ := Kd.at_string (Kd.R_reads' HO_3.out).2.2 x5_2 p224 q224; obtain rfl : ad222 = ad224 := (by injection e224); replace p224 := eq_true p224; replace q224 := eq_true q224)); try go_wp2_with (first | (go_at_call 79; (with_reducible refine (spec_leading.calls k2 (rdOf ByteArray.empty t215 x5_2) t223 _ A14.out).mono ?_); rintro e w' ⟨rfl, ⟨nd, rfl⟩⟩; (try first | exact ⟨rfl, _, World.drewN_drewN _ _ _⟩ | exact ⟨rfl, _, Eq.trans (World.drewN_drewN _ _ _) (congrArg (World.drewN _) (Nat.add_assoc _ _ _))⟩); have p224 : 0 ≤ (x5_2 : Int) := of_decide_eq_true (by first | (with_reducible assumption) | assumption); have q224 : x5_2 < (t215.length : Int) := of_decide_eq_true (by first | (with_reducible assumption) | assumption); obtain ⟨ad224, e224, hx224_0⟩ := Kd.at_string (Kd.R_reads' HO_3.out).2.2 x5_2 p224 q224; obtain rfl : ad222 = ad224 := (by injection e224); replace p224 := eq_true p224; replace q224 := eq_true q224)))
                  go_roundg k2
                  case measure => have := HJ3.out; have := HK2.out; omega
                  case rel => exact ⟨(wrap64 (x5_2 + 1)), (by first | rfl | (simp; done) | (simp [*]; done)), H', ⟨by have := HJ3.out; have := HK2.out; omega⟩, ⟨by (with_reducible repeat (first | apply Kd.R_alloc | apply Kd.R_drewN | apply Kd.R_drew)); exact HO_3.out⟩, ⟨by repeat (first | (with_reducible first | exact HB.out | apply below_alloc | apply pw_below_drewN | apply below_drew1) | exact HB.out)⟩⟩
              · rw [if_neg c13] at H
                exact absurd H (by simp)
            · rw [if_neg c12] at H
              have c12b0 : decide (x5_2 < (t215.length : Int)) = false := decide_eq_false c12
              clear c12
              obtain rfl := Option.some.inj H
              go_wp2
              repeat (go_quiet (fail); try go_wp2)
              go_ret
              exact ⟨by first | rfl | (simp [errW_none, errW_some] <;> rfl) | (simp [*, errW_none, errW_some] <;> rfl), by repeat (first | (with_reducible first | exact HB.out | apply below_alloc | apply pw_below_drewN | apply below_drew1) | exact HB.out)⟩

-- NOT PRINTED: function 106 (spec_lexer_block)

/-! ### spec_textable: function 29 -/
def spec_textable.l0 : Nat → ByteArray → Int → Option (Bool)
  | 0, _, _ => none
  | k + 1, x0, x3 => if x3 < (x0.size : Int) then ((spec_Point.f k x0 x3).bind fun bt252 => (if bt252.2 = 0 then (some false) else (if bt252.1 = 0 then (some false) else (if bt252.1 > 65535 then (some false) else (spec_textable.l0 k x0 (wrap64 (x3 + bt252.2))))))) else (some true)
def spec_textable.f (k : Nat) (a0 : ByteArray) : Option (Bool) := spec_textable.l0 k a0 0
theorem spec_textable.mono_l : ∀ k, (∀ y0 y1, LeO (spec_textable.l0 k y0 y1) (spec_textable.l0 (k + 1) y0 y1))
  | 0 => fun _ _ r h => by simp [spec_textable.l0] at h
  | k + 1 => by
    have ih0 := spec_textable.mono_l k
    · intro y0 y1
      unfold spec_textable.l0
      repeat' first
      | (with_reducible exact ih0 _ _)
      | (with_reducible exact spec_Point.mono _ _ _)
      | (with_reducible exact LeO.refl _)
      | (with_reducible exact LeO.none _)
      | (with_reducible refine LeO.ite ?_ ?_)
      | (with_reducible refine LeO.bind ?_ (fun _ => ?_))
      | exact ih0 _ _
      | exact spec_Point.mono _ _ _
      | exact LeO.none _
      | refine LeO.ite ?_ ?_
      | refine LeO.bind ?_ (fun _ => ?_)
theorem spec_textable.mono : ∀ a0 k, LeO (spec_textable.f k a0) (spec_textable.f (k + 1) a0) := by
  intro a0 k
  have ih0 := spec_textable.mono_l k
  unfold spec_textable.f
  repeat' first
      | (with_reducible exact ih0 _ _)
      | (with_reducible exact spec_Point.mono _ _ _)
      | (with_reducible exact LeO.refl _)
      | (with_reducible exact LeO.none _)
      | (with_reducible refine LeO.ite ?_ ?_)
      | (with_reducible refine LeO.bind ?_ (fun _ => ?_))
      | exact ih0 _ _
      | exact spec_Point.mono _ _ _
      | exact LeO.none _
      | refine LeO.ite ?_ ?_
      | refine LeO.bind ?_ (fun _ => ?_)
set_option maxHeartbeats 8000000 in
set_option maxRecDepth 100000 in
theorem spec_textable.calls (k : Nat) (a0 : ByteArray) (r : Bool) (w : World) (h : spec_textable.f k a0 = some r) :
    Calls Tryz.prog 29 #[.string a0] w fun e w' => e = .returned (.bool r) ∧ Drawn0 w w' := by
  have H : (spec_textable.l0 k a0 0) = some r := h
  clear h
  have H' := Aside0.mk H
  clear H
  go_enter Tryz.func29, Tryz.ntmps29
  go_wp2
  go_loopg [3] k (fun kq v3 w' => ∃ (x3_1 : Int), v3 = .int .i64 x3_1 ∧ Aside0 (spec_textable.l0 kq a0 x3_1 = some r) ∧ Aside0 (kq ≤ k) ∧ Drawn0 w w')
  case atStart => exact ⟨(0), (by first | rfl | (simp; done) | (simp [*]; done)), H', ⟨Nat.le_refl _⟩, by repeat (first | exact Drawn0.refl _ | apply Drawn0.step)⟩
  case round =>
    clear H'
    obtain ⟨x3_1, rfl, HA, HK1, ⟨m1, rfl⟩⟩ := hrel
    cases gk with
    | zero => exact absurd HA.out (by simp [spec_textable.l0])
    | succ k1 =>
      have H := HA.out
      clear HA
      simp only [spec_textable.l0] at H
      by_cases c2 : x3_1 < (a0.size : Int)
      · rw [if_pos c2] at H
        have c2b0 : decide (x3_1 < (a0.size : Int)) = true := decide_eq_true c2
        clear c2
        replace H := Option.bind_eq_some_iff.mp H
        obtain ⟨⟨t252, t253⟩, A30, H⟩ := H
        replace H : (if t253 = 0 then (some false) else (if t252 = 0 then (some false) else (if t252 > 65535 then (some false) else (spec_textable.l0 k1 a0 (wrap64 (x3_1 + t253)))))) = some r := H
        have A3 := Aside0.mk A30
        clear A30
        by_cases c4 : t253 = 0
        · rw [if_pos c4] at H
          have c4b0 : (t253 == 0) = true := beq_iff_eq.mpr c4
          have c4b1 : (t253 != 0) = false := bne_eq_false_iff_eq.mpr c4
          clear c4
          obtain rfl := Option.some.inj H
          go_wp2_with (first | ((with_reducible refine gate_callee (f := 14) rfl ?_); refine goesL_ (some 13) rfl rfl Tryz.func14 (by kernel_rfl) rfl #[.string a0, .int .i64 x3_1] rfl (by (try simp only [List.map_toArray, List.map_cons, List.map_nil]); first | done | rfl | (simp only [List.length_drop, List.length_take]; rfl)) ?_; (with_reducible refine (spec_Point.calls k1 a0 x3_1 t252 t253 _ A3.out).mono ?_); rintro e w' ⟨rfl, ⟨nd, rfl⟩⟩; refine ⟨_, rfl, ?_⟩))
          go_ret
          exact ⟨by first | rfl | (simp; done) | (simp [*]; done), by repeat (first | exact Drawn0.refl _ | apply Drawn0.step)⟩
        · rw [if_neg c4] at H
          have c4b0 : (t253 == 0) = false := beq_eq_false_iff_ne.mpr c4
          have c4b1 : (t253 != 0) = true := bne_iff_ne.mpr c4
          by_cases c5 : t252 = 0
          · rw [if_pos c5] at H
            have c5b0 : (t252 == 0) = true := beq_iff_eq.mpr c5
            have c5b1 : (t252 != 0) = false := bne_eq_false_iff_eq.mpr c5
            clear c5
            obtain rfl := Option.some.inj H
            go_wp2_with (first | ((with_reducible refine gate_callee (f := 14) rfl ?_); refine goesL_ (some 13) rfl rfl Tryz.func14 (by kernel_rfl) rfl #[.string a0, .int .i64 x3_1] rfl (by (try simp only [List.map_toArray, List.map_cons, List.map_nil]); first | done | rfl | (simp only [List.length_drop, List.length_take]; rfl)) ?_; (with_reducible refine (spec_Point.calls k1 a0 x3_1 t252 t253 _ A3.out).mono ?_); rintro e w' ⟨rfl, ⟨nd, rfl⟩⟩; refine ⟨_, rfl, ?_⟩))
            go_ret
            exact ⟨by first | rfl | (simp; done) | (simp [*]; done), by repeat (first | exact Drawn0.refl _ | apply Drawn0.step)⟩
          · rw [if_neg c5] at H
            have c5b0 : (t252 == 0) = false := beq_eq_false_iff_ne.mpr c5
            have c5b1 : (t252 != 0) = true := bne_iff_ne.mpr c5
            by_cases c6 : t252 > 65535
            · rw [if_pos c6] at H
              have c6b0 : decide (65535 < t252) = true := decide_eq_true c6
              clear c6
              obtain rfl := Option.some.inj H
              go_wp2_with (first | ((with_reducible refine gate_callee (f := 14) rfl ?_); refine goesL_ (some 13) rfl rfl Tryz.func14 (by kernel_rfl) rfl #[.string a0, .int .i64 x3_1] rfl (by (try simp only [List.map_toArray, List.map_cons, List.map_nil]); first | done | rfl | (simp only [List.length_drop, List.length_take]; rfl)) ?_; (with_reducible refine (spec_Point.calls k1 a0 x3_1 t252 t253 _ A3.out).mono ?_); rintro e w' ⟨rfl, ⟨nd, rfl⟩⟩; refine ⟨_, rfl, ?_⟩))
              go_ret
              exact ⟨by first | rfl | (simp; done) | (simp [*]; done), by repeat (first | exact Drawn0.refl _ | apply Drawn0.step)⟩
            · rw [if_neg c6] at H
              have c6b0 : decide (65535 < t252) = false := decide_eq_false c6
              clear c6
              have H' := Aside0.mk H
              clear H
              go_wp2_with (first | ((with_reducible refine gate_callee (f := 14) rfl ?_); refine goesL_ (some 13) rfl rfl Tryz.func14 (by kernel_rfl) rfl #[.string a0, .int .i64 x3_1] rfl (by (try simp only [List.map_toArray, List.map_cons, List.map_nil]); first | done | rfl | (simp only [List.length_drop, List.length_take]; rfl)) ?_; (with_reducible refine (spec_Point.calls k1 a0 x3_1 t252 t253 _ A3.out).mono ?_); rintro e w' ⟨rfl, ⟨nd, rfl⟩⟩; refine ⟨_, rfl, ?_⟩))
              go_roundg k1
              case measure => have := HK1.out; omega
              case rel => exact ⟨(wrap64 (x3_1 + t253)), (by first | rfl | (simp; done) | (simp [*]; done)), H', ⟨by have := HK1.out; omega⟩, by repeat (first | exact Drawn0.refl _ | apply Drawn0.step)⟩
      · rw [if_neg c2] at H
        have c2b0 : decide (x3_1 < (a0.size : Int)) = false := decide_eq_false c2
        clear c2
        obtain rfl := Option.some.inj H
        go_wp2
        go_ret
        exact ⟨by first | rfl | (simp; done) | (simp [*]; done), by repeat (first | exact Drawn0.refl _ | apply Drawn0.step)⟩

end Go.Proofs.YtfblohdfmaankaaGreatDoor.PFnTextWritten
