/- FnBlockValue: the Go functions that the law reaches as Lean functions, and that the Go code answers what these answer, for every input and in every world that the statements name. Written by this session's program extprint.py over hand-written contracts of some functions. -/
import Derived.Test.YtmlochnckplalaaPFnBlockValuex0
namespace Go.Proofs.Ytmlochnckplalaa.PFnBlockValue
open Go.RowKit Go.Proofs.YtmlochnckplalaaW.PrintWords Go.Proofs.YtmlochnckplalaaW.PrintLast Go.Proofs.YtmlochnckplalaaW.PrintMore
attribute [local go_sem] max2_int min2_int max_two min_two max_three min_three max_four min_four   -- for this text's walks alone
set_option linter.unusedVariables false
set_option linter.unusedSimpArgs false

/-! ### spec_leading: function 24 -/
def spec_leading.l0 : Nat → ByteArray → Int → Option (Int)
  | 0, _, _ => none
  | k + 1, x0, x3 => if x3 < (x0.size : Int) then (if 0 ≤ x3 then (if (bt x0 x3) = 32 then (spec_leading.l0 k x0 (wrap64 (x3 + 1))) else (if (bt x0 x3) = 9 then (spec_leading.l0 k x0 (wrap64 (x3 + 1))) else (some x3))) else (none)) else (some x3)
def spec_leading.f (k : Nat) (a0 : ByteArray) : Option (Int) := spec_leading.l0 k a0 0
theorem spec_leading.mono_l : ∀ k, (∀ y0 y1, LeO (spec_leading.l0 k y0 y1) (spec_leading.l0 (k + 1) y0 y1))
  | 0 => fun _ _ r h => by simp [spec_leading.l0] at h
  | k + 1 => by
    have ih0 := spec_leading.mono_l k
    · intro y0 y1
      unfold spec_leading.l0
      repeat' first
      | (with_reducible exact ih0 _ _)
      | (with_reducible exact LeO.refl _)
      | (with_reducible exact LeO.none _)
      | (with_reducible refine LeO.ite ?_ ?_)
      | (with_reducible refine LeO.bind ?_ (fun _ => ?_))
      | exact ih0 _ _
      | exact LeO.none _
      | refine LeO.ite ?_ ?_
      | refine LeO.bind ?_ (fun _ => ?_)
theorem spec_leading.mono : ∀ a0 k, LeO (spec_leading.f k a0) (spec_leading.f (k + 1) a0) := by
  intro a0 k
  have ih0 := spec_leading.mono_l k
  unfold spec_leading.f
  repeat' first
      | (with_reducible exact ih0 _ _)
      | (with_reducible exact LeO.refl _)
      | (with_reducible exact LeO.none _)
      | (with_reducible refine LeO.ite ?_ ?_)
      | (with_reducible refine LeO.bind ?_ (fun _ => ?_))
      | exact ih0 _ _
      | exact LeO.none _
      | refine LeO.ite ?_ ?_
      | refine LeO.bind ?_ (fun _ => ?_)
set_option maxHeartbeats 8000000 in
set_option maxRecDepth 100000 in
theorem spec_leading.calls (k : Nat) (a0 : ByteArray) (r : Int) (w : World) (h : spec_leading.f k a0 = some r) :
    Calls Try.prog 24 #[.string a0] w fun e w' => e = .returned (.int .i64 r) ∧ Drawn0 w w' := by
  have H : (spec_leading.l0 k a0 0) = some r := h
  clear h
  have H' := Aside0.mk H
  clear H
  go_enter Try.func24, Try.ntmps24
  go_wp2
  go_loopg [3] k (fun kq v3 w' => ∃ (x3_1 : Int), v3 = .int .i64 x3_1 ∧ Aside0 (spec_leading.l0 kq a0 x3_1 = some r) ∧ Aside0 (kq ≤ k) ∧ Drawn0 w w')
  case atStart => exact ⟨(0), (by first | rfl | (simp; done) | (simp [*]; done)), H', ⟨Nat.le_refl _⟩, by repeat (first | exact Drawn0.refl _ | apply Drawn0.step)⟩
  case round =>
    clear H'
    obtain ⟨x3_1, rfl, HA, HK1, ⟨m1, rfl⟩⟩ := hrel
    cases gk with
    | zero => exact absurd HA.out (by simp [spec_leading.l0])
    | succ k1 =>
      have H := HA.out
      clear HA
      simp only [spec_leading.l0] at H
      by_cases c2 : x3_1 < (a0.size : Int)
      · rw [if_pos c2] at H
        have c2b0 : decide (x3_1 < (a0.size : Int)) = true := decide_eq_true c2
        clear c2
        by_cases c3 : 0 ≤ x3_1
        · rw [if_pos c3] at H
          have c3b0 : decide (0 ≤ x3_1) = true := decide_eq_true c3
          clear c3
          by_cases c5 : (bt a0 x3_1) = 32
          · rw [if_pos c5] at H
            have c5b0 : ((bt a0 x3_1) == 32) = true := beq_iff_eq.mpr c5
            have c5b1 : ((bt a0 x3_1) != 32) = false := bne_eq_false_iff_eq.mpr c5
            clear c5
            have H' := Aside0.mk H
            clear H
            have p4 : 0 ≤ (x3_1 : Int) := of_decide_eq_true (by first | (with_reducible assumption) | assumption)
            have q4 : x3_1 < (a0.size : Int) := of_decide_eq_true (by first | (with_reducible assumption) | assumption)
            have hx4 := bt_at a0 x3_1
            replace p4 := eq_true p4
            replace q4 := eq_true q4
            go_wp2
            go_roundg k1
            case measure => have := HK1.out; omega
            case rel => exact ⟨(wrap64 (x3_1 + 1)), (by first | rfl | (simp; done) | (simp [*]; done)), H', ⟨by have := HK1.out; omega⟩, by repeat (first | exact Drawn0.refl _ | apply Drawn0.step)⟩
          · rw [if_neg c5] at H
            have c5b0 : ((bt a0 x3_1) == 32) = false := beq_eq_false_iff_ne.mpr c5
            have c5b1 : ((bt a0 x3_1) != 32) = true := bne_iff_ne.mpr c5
            by_cases c7 : (bt a0 x3_1) = 9
            · rw [if_pos c7] at H
              have c7b0 : ((bt a0 x3_1) == 9) = true := beq_iff_eq.mpr c7
              have c7b1 : ((bt a0 x3_1) != 9) = false := bne_eq_false_iff_eq.mpr c7
              clear c7
              have H' := Aside0.mk H
              clear H
              have p4 : 0 ≤ (x3_1 : Int) := of_decide_eq_true (by first | (with_reducible assumption) | assumption)
              have q4 : x3_1 < (a0.size : Int) := of_decide_eq_true (by first | (with_reducible assumption) | assumption)
              have hx4 := bt_at a0 x3_1
              replace p4 := eq_true p4
              replace q4 := eq_true q4
              have p6 : 0 ≤ (x3_1 : Int) := of_decide_eq_true (by first | (with_reducible assumption) | assumption)
              have q6 : x3_1 < (a0.size : Int) := of_decide_eq_true (by first | (with_reducible assumption) | assumption)
              have hx6 := bt_at a0 x3_1
              replace p6 := eq_true p6
              replace q6 := eq_true q6
              go_wp2
              go_roundg k1
              case measure => have := HK1.out; omega
              case rel => exact ⟨(wrap64 (x3_1 + 1)), (by first | rfl | (simp; done) | (simp [*]; done)), H', ⟨by have := HK1.out; omega⟩, by repeat (first | exact Drawn0.refl _ | apply Drawn0.step)⟩
            · rw [if_neg c7] at H
              have c7b0 : ((bt a0 x3_1) == 9) = false := beq_eq_false_iff_ne.mpr c7
              have c7b1 : ((bt a0 x3_1) != 9) = true := bne_iff_ne.mpr c7
              obtain rfl := Option.some.inj H
              have p4 : 0 ≤ (x3_1 : Int) := of_decide_eq_true (by first | (with_reducible assumption) | assumption)
              have q4 : x3_1 < (a0.size : Int) := of_decide_eq_true (by first | (with_reducible assumption) | assumption)
              have hx4 := bt_at a0 x3_1
              replace p4 := eq_true p4
              replace q4 := eq_true q4
              have p6 : 0 ≤ (x3_1 : Int) := of_decide_eq_true (by first | (with_reducible assumption) | assumption)
              have q6 : x3_1 < (a0.size : Int) := of_decide_eq_true (by first | (with_reducible assumption) | assumption)
              have hx6 := bt_at a0 x3_1
              replace p6 := eq_true p6
              replace q6 := eq_true q6
              go_wp2
              go_ret
              exact ⟨by first | rfl | (simp; done) | (simp [*]; done), by repeat (first | exact Drawn0.refl _ | apply Drawn0.step)⟩
        · rw [if_neg c3] at H
          exact absurd H (by simp)
      · rw [if_neg c2] at H
        have c2b0 : decide (x3_1 < (a0.size : Int)) = false := decide_eq_false c2
        clear c2
        obtain rfl := Option.some.inj H
        go_wp2
        go_ret
        exact ⟨by first | rfl | (simp; done) | (simp [*]; done), by repeat (first | exact Drawn0.refl _ | apply Drawn0.step)⟩

/-! ### spec_common: function 23 -/
def spec_common.l0 : Nat → List ByteArray → Int → Int → Option (Int)
  | 0, _, _, _ => none
  | k + 1, x0, x3, x4 => if x4 < (x0.length : Int) then (if 0 ≤ x4 then ((spec_leading.f k (rdOf ByteArray.empty x0 x4)).bind fun t111 => (if t111 < ((rdOf ByteArray.empty x0 x4).size : Int) then (if x3 < 0 then (spec_common.l0 k x0 t111 (wrap64 (x4 + 1))) else (if t111 < x3 then (spec_common.l0 k x0 t111 (wrap64 (x4 + 1))) else (spec_common.l0 k x0 x3 (wrap64 (x4 + 1))))) else (spec_common.l0 k x0 x3 (wrap64 (x4 + 1))))) else (none)) else (some (mx x3 0))
def spec_common.f (k : Nat) (l0 : List ByteArray) : Option (Int) := spec_common.l0 k l0 (-1) 1
theorem spec_common.mono_l : ∀ k, (∀ y0 y1 y2, LeO (spec_common.l0 k y0 y1 y2) (spec_common.l0 (k + 1) y0 y1 y2))
  | 0 => fun _ _ _ r h => by simp [spec_common.l0] at h
  | k + 1 => by
    have ih0 := spec_common.mono_l k
    · intro y0 y1 y2
      unfold spec_common.l0
      repeat' first
      | (with_reducible exact ih0 _ _ _)
      | (with_reducible exact spec_leading.mono _ _)
      | (with_reducible exact LeO.refl _)
      | (with_reducible exact LeO.none _)
      | (with_reducible refine LeO.ite ?_ ?_)
      | (with_reducible refine LeO.bind ?_ (fun _ => ?_))
      | exact ih0 _ _ _
      | exact spec_leading.mono _ _
      | exact LeO.none _
      | refine LeO.ite ?_ ?_
      | refine LeO.bind ?_ (fun _ => ?_)
theorem spec_common.mono : ∀ a0 k, LeO (spec_common.f k a0) (spec_common.f (k + 1) a0) := by
  intro a0 k
  have ih0 := spec_common.mono_l k
  unfold spec_common.f
  repeat' first
      | (with_reducible exact ih0 _ _ _)
      | (with_reducible exact spec_leading.mono _ _)
      | (with_reducible exact LeO.refl _)
      | (with_reducible exact LeO.none _)
      | (with_reducible refine LeO.ite ?_ ?_)
      | (with_reducible refine LeO.bind ?_ (fun _ => ?_))
      | exact ih0 _ _ _
      | exact spec_leading.mono _ _
      | exact LeO.none _
      | refine LeO.ite ?_ ?_
      | refine LeO.bind ?_ (fun _ => ?_)
set_option maxHeartbeats 8000000 in
set_option maxRecDepth 100000 in
theorem spec_common.calls (k : Nat) (A0 : Option Addr) (c0 : Nat) (l0 : List ByteArray) (r : Int) (w : World) (hr0 : Kd.C Kd.string w A0 l0.length l0) (hc0 : l0.length ≤ c0) (h : spec_common.f k l0 = some r) :
    Calls Try.prog 23 #[.slice A0 l0.length c0] w fun e w' => e = .returned (.int .i64 r) ∧ Below w.heap.size w w' := by
  have HR0 := Aside0.mk hr0
  have HC0 := Aside0.mk hc0
  clear hr0 hc0
  have HB := Aside0.mk (Below.refl w.heap.size w)
  have H : (spec_common.l0 k l0 (-1) 1) = some r := h
  clear h
  have H' := Aside0.mk H
  clear H
  go_enter Try.func23, Try.ntmps23
  go_wp2
  go_loopg [3, 4] k (fun kq v3 v4 w' => ∃ (x3_1 : Int) (x4_1 : Int), v3 = .int .i64 x3_1 ∧ v4 = .int .i64 x4_1 ∧ Aside0 (spec_common.l0 kq l0 x3_1 x4_1 = some r) ∧ Aside0 (kq ≤ k) ∧ Aside0 (Below w.heap.size w w'))
  case atStart => exact ⟨((-1)), (1), (by first | rfl | (simp; done) | (simp [*]; done)), (by first | rfl | (simp; done) | (simp [*]; done)), H', ⟨Nat.le_refl _⟩, ⟨by repeat (first | (with_reducible first | exact HB.out | apply below_alloc | apply pw_below_drewN | apply below_drew1) | exact HB.out)⟩⟩
  case round =>
    clear H'
    obtain ⟨x3_1, x4_1, rfl, rfl, HA, HK1, HB⟩ := hrel
    cases gk with
    | zero => exact absurd HA.out (by simp [spec_common.l0])
    | succ k1 =>
      have H := HA.out
      clear HA
      simp only [spec_common.l0] at H
      by_cases c2 : x4_1 < (l0.length : Int)
      · rw [if_pos c2] at H
        have c2b0 : decide (x4_1 < (l0.length : Int)) = true := decide_eq_true c2
        clear c2
        by_cases c3 : 0 ≤ x4_1
        · rw [if_pos c3] at H
          have c3b0 : decide (0 ≤ x4_1) = true := decide_eq_true c3
          clear c3
          replace H := Option.bind_eq_some_iff.mp H
          obtain ⟨t111, A40, H⟩ := H
          replace H : (if t111 < ((rdOf ByteArray.empty l0 x4_1).size : Int) then (if x3_1 < 0 then (spec_common.l0 k1 l0 t111 (wrap64 (x4_1 + 1))) else (if t111 < x3_1 then (spec_common.l0 k1 l0 t111 (wrap64 (x4_1 + 1))) else (spec_common.l0 k1 l0 x3_1 (wrap64 (x4_1 + 1))))) else (spec_common.l0 k1 l0 x3_1 (wrap64 (x4_1 + 1)))) = some r := H
          have A4 := Aside0.mk A40
          clear A40
          by_cases c5 : t111 < ((rdOf ByteArray.empty l0 x4_1).size : Int)
          · rw [if_pos c5] at H
            have c5b0 : decide (t111 < ((rdOf ByteArray.empty l0 x4_1).size : Int)) = true := decide_eq_true c5
            clear c5
            by_cases c6 : x3_1 < 0
            · rw [if_pos c6] at H
              have c6b0 : decide (x3_1 < 0) = true := decide_eq_true c6
              clear c6
              have H' := Aside0.mk H
              clear H
              have p110 : 0 ≤ (x4_1 : Int) := of_decide_eq_true (by first | (with_reducible assumption) | assumption)
              have q110 : x4_1 < (l0.length : Int) := of_decide_eq_true (by first | (with_reducible assumption) | assumption)
              obtain ⟨ad110, e110, hx110_0⟩ := Kd.at_string HR0.out x4_1 p110 q110
              cases e110
              replace hx110_0 := (HB.out.cell (World.block_lt_of_cell? w _ hx110_0)).trans hx110_0
              replace p110 := eq_true p110
              replace q110 := eq_true q110
              go_wp2_with (first | ((with_reducible refine gate_callee (f := 24) rfl ?_); refine goesL_ (some 16) rfl rfl Try.func24 (by kernel_rfl) rfl #[.string (rdOf ByteArray.empty l0 x4_1)] rfl (by (try simp only [List.map_toArray, List.map_cons, List.map_nil]); first | done | rfl | (simp only [List.length_drop, List.length_take]; rfl)) ?_; (with_reducible refine (spec_leading.calls k1 (rdOf ByteArray.empty l0 x4_1) t111 _ A4.out).mono ?_); rintro e w' ⟨rfl, ⟨nd, rfl⟩⟩; refine ⟨_, rfl, ?_⟩; have p112 : 0 ≤ (x4_1 : Int) := of_decide_eq_true (by first | (with_reducible assumption) | assumption); have q112 : x4_1 < (l0.length : Int) := of_decide_eq_true (by first | (with_reducible assumption) | assumption); obtain ⟨ad112, e112, hx112_0⟩ := Kd.at_string HR0.out x4_1 p112 q112; obtain rfl : ad110 = ad112 := (by injection e112); replace hx112_0 := (HB.out.cell (World.block_lt_of_cell? w _ hx112_0)).trans hx112_0; replace p112 := eq_true p112; replace q112 := eq_true q112))
              go_roundg k1
              case measure => have := HK1.out; omega
              case rel => exact ⟨(t111), (wrap64 (x4_1 + 1)), (by first | rfl | (simp; done) | (simp [*]; done)), (by first | rfl | (simp; done) | (simp [*]; done)), H', ⟨by have := HK1.out; omega⟩, ⟨by repeat (first | (with_reducible first | exact HB.out | apply below_alloc | apply pw_below_drewN | apply below_drew1) | exact HB.out)⟩⟩
            · rw [if_neg c6] at H
              have c6b0 : decide (x3_1 < 0) = false := decide_eq_false c6
              clear c6
              by_cases c7 : t111 < x3_1
              · rw [if_pos c7] at H
                have c7b0 : decide (t111 < x3_1) = true := decide_eq_true c7
                clear c7
                have H' := Aside0.mk H
                clear H
                have p110 : 0 ≤ (x4_1 : Int) := of_decide_eq_true (by first | (with_reducible assumption) | assumption)
                have q110 : x4_1 < (l0.length : Int) := of_decide_eq_true (by first | (with_reducible assumption) | assumption)
                obtain ⟨ad110, e110, hx110_0⟩ := Kd.at_string HR0.out x4_1 p110 q110
                cases e110
                replace hx110_0 := (HB.out.cell (World.block_lt_of_cell? w _ hx110_0)).trans hx110_0
                replace p110 := eq_true p110
                replace q110 := eq_true q110
                go_wp2_with (first | ((with_reducible refine gate_callee (f := 24) rfl ?_); refine goesL_ (some 16) rfl rfl Try.func24 (by kernel_rfl) rfl #[.string (rdOf ByteArray.empty l0 x4_1)] rfl (by (try simp only [List.map_toArray, List.map_cons, List.map_nil]); first | done | rfl | (simp only [List.length_drop, List.length_take]; rfl)) ?_; (with_reducible refine (spec_leading.calls k1 (rdOf ByteArray.empty l0 x4_1) t111 _ A4.out).mono ?_); rintro e w' ⟨rfl, ⟨nd, rfl⟩⟩; refine ⟨_, rfl, ?_⟩; have p112 : 0 ≤ (x4_1 : Int) := of_decide_eq_true (by first | (with_reducible assumption) | assumption); have q112 : x4_1 < (l0.length : Int) := of_decide_eq_true (by first | (with_reducible assumption) | assumption); obtain ⟨ad112, e112, hx112_0⟩ := Kd.at_string HR0.out x4_1 p112 q112; obtain rfl : ad110 = ad112 := (by injection e112); replace hx112_0 := (HB.out.cell (World.block_lt_of_cell? w _ hx112_0)).trans hx112_0; replace p112 := eq_true p112; replace q112 := eq_true q112))
                go_roundg k1
                case measure => have := HK1.out; omega
                case rel => exact ⟨(t111), (wrap64 (x4_1 + 1)), (by first | rfl | (simp; done) | (simp [*]; done)), (by first | rfl | (simp; done) | (simp [*]; done)), H', ⟨by have := HK1.out; omega⟩, ⟨by repeat (first | (with_reducible first | exact HB.out | apply below_alloc | apply pw_below_drewN | apply below_drew1) | exact HB.out)⟩⟩
              · rw [if_neg c7] at H
                have c7b0 : decide (t111 < x3_1) = false := decide_eq_false c7
                clear c7
                have H' := Aside0.mk H
                clear H
                have p110 : 0 ≤ (x4_1 : Int) := of_decide_eq_true (by first | (with_reducible assumption) | assumption)
                have q110 : x4_1 < (l0.length : Int) := of_decide_eq_true (by first | (with_reducible assumption) | assumption)
                obtain ⟨ad110, e110, hx110_0⟩ := Kd.at_string HR0.out x4_1 p110 q110
                cases e110
                replace hx110_0 := (HB.out.cell (World.block_lt_of_cell? w _ hx110_0)).trans hx110_0
                replace p110 := eq_true p110
                replace q110 := eq_true q110
                go_wp2_with (first | ((with_reducible refine gate_callee (f := 24) rfl ?_); refine goesL_ (some 16) rfl rfl Try.func24 (by kernel_rfl) rfl #[.string (rdOf ByteArray.empty l0 x4_1)] rfl (by (try simp only [List.map_toArray, List.map_cons, List.map_nil]); first | done | rfl | (simp only [List.length_drop, List.length_take]; rfl)) ?_; (with_reducible refine (spec_leading.calls k1 (rdOf ByteArray.empty l0 x4_1) t111 _ A4.out).mono ?_); rintro e w' ⟨rfl, ⟨nd, rfl⟩⟩; refine ⟨_, rfl, ?_⟩; have p112 : 0 ≤ (x4_1 : Int) := of_decide_eq_true (by first | (with_reducible assumption) | assumption); have q112 : x4_1 < (l0.length : Int) := of_decide_eq_true (by first | (with_reducible assumption) | assumption); obtain ⟨ad112, e112, hx112_0⟩ := Kd.at_string HR0.out x4_1 p112 q112; obtain rfl : ad110 = ad112 := (by injection e112); replace hx112_0 := (HB.out.cell (World.block_lt_of_cell? w _ hx112_0)).trans hx112_0; replace p112 := eq_true p112; replace q112 := eq_true q112))
                go_roundg k1
                case measure => have := HK1.out; omega
                case rel => exact ⟨(x3_1), (wrap64 (x4_1 + 1)), (by first | rfl | (simp; done) | (simp [*]; done)), (by first | rfl | (simp; done) | (simp [*]; done)), H', ⟨by have := HK1.out; omega⟩, ⟨by repeat (first | (with_reducible first | exact HB.out | apply below_alloc | apply pw_below_drewN | apply below_drew1) | exact HB.out)⟩⟩
          · rw [if_neg c5] at H
            have c5b0 : decide (t111 < ((rdOf ByteArray.empty l0 x4_1).size : Int)) = false := decide_eq_false c5
            clear c5
            have H' := Aside0.mk H
            clear H
            have p110 : 0 ≤ (x4_1 : Int) := of_decide_eq_true (by first | (with_reducible assumption) | assumption)
            have q110 : x4_1 < (l0.length : Int) := of_decide_eq_true (by first | (with_reducible assumption) | assumption)
            obtain ⟨ad110, e110, hx110_0⟩ := Kd.at_string HR0.out x4_1 p110 q110
            cases e110
            replace hx110_0 := (HB.out.cell (World.block_lt_of_cell? w _ hx110_0)).trans hx110_0
            replace p110 := eq_true p110
            replace q110 := eq_true q110
            go_wp2_with (first | ((with_reducible refine gate_callee (f := 24) rfl ?_); refine goesL_ (some 16) rfl rfl Try.func24 (by kernel_rfl) rfl #[.string (rdOf ByteArray.empty l0 x4_1)] rfl (by (try simp only [List.map_toArray, List.map_cons, List.map_nil]); first | done | rfl | (simp only [List.length_drop, List.length_take]; rfl)) ?_; (with_reducible refine (spec_leading.calls k1 (rdOf ByteArray.empty l0 x4_1) t111 _ A4.out).mono ?_); rintro e w' ⟨rfl, ⟨nd, rfl⟩⟩; refine ⟨_, rfl, ?_⟩; have p112 : 0 ≤ (x4_1 : Int) := of_decide_eq_true (by first | (with_reducible assumption) | assumption); have q112 : x4_1 < (l0.length : Int) := of_decide_eq_true (by first | (with_reducible assumption) | assumption); obtain ⟨ad112, e112, hx112_0⟩ := Kd.at_string HR0.out x4_1 p112 q112; obtain rfl : ad110 = ad112 := (by injection e112); replace hx112_0 := (HB.out.cell (World.block_lt_of_cell? w _ hx112_0)).trans hx112_0; replace p112 := eq_true p112; replace q112 := eq_true q112))
            go_roundg k1
            case measure => have := HK1.out; omega
            case rel => exact ⟨(x3_1), (wrap64 (x4_1 + 1)), (by first | rfl | (simp; done) | (simp [*]; done)), (by first | rfl | (simp; done) | (simp [*]; done)), H', ⟨by have := HK1.out; omega⟩, ⟨by repeat (first | (with_reducible first | exact HB.out | apply below_alloc | apply pw_below_drewN | apply below_drew1) | exact HB.out)⟩⟩
        · rw [if_neg c3] at H
          exact absurd H (by simp)
      · rw [if_neg c2] at H
        have c2b0 : decide (x4_1 < (l0.length : Int)) = false := decide_eq_false c2
        clear c2
        obtain ⟨ji8, hji8⟩ : ∃ j_ : Int, (mx x3_1 0) = j_ := ⟨_, rfl⟩
        replace H : (some ji8) = some r := by first | (rw [hji8] at H; exact H) | (simp only [hji8] at H ⊢; exact H)
        have hji8_ : (if x3_1 < 0 then 0 else x3_1) = ji8 := hji8
        obtain rfl := Option.some.inj H
        go_wp2
        go_ret
        exact ⟨by first | rfl | (simp [errW_none, errW_some] <;> rfl) | (simp only [← hji8]; first | rfl | (simp [errW_none, errW_some] <;> rfl)) | (simp [*, errW_none, errW_some] <;> rfl), by repeat (first | (with_reducible first | exact HB.out | apply below_alloc | apply pw_below_drewN | apply below_drew1) | exact HB.out)⟩

end Go.Proofs.Ytmlochnckplalaa.PFnBlockValue
