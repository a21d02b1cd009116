/- FnBlockValue: the Go functions that the law reaches as Lean functions, and that the Go code answers what these answer, for every input and in every world that the statements name. Written by this session's program extprint.py over hand-written contracts of some functions. -/
import Derived.Test.YtmlochnckplalaaPFnBlockValuex0
import Derived.Test.YtmlochnckplalaaPFnBlockValuex1
namespace Go.Proofs.Ytmlochnckplalaa.PFnBlockValue
open Go.RowKit Go.Proofs.YtmlochnckplalaaW.PrintWords Go.Proofs.YtmlochnckplalaaW.PrintLast Go.Proofs.YtmlochnckplalaaW.PrintMore
attribute [local go_sem] max2_int min2_int max_two min_two max_three min_three max_four min_four   -- for this text's walks alone
set_option linter.unusedVariables false
set_option linter.unusedSimpArgs false

/-! ### spec_UTF8: function 19 -/
def spec_UTF8.l0 : Nat → ByteArray → Int → Option (Bool)
  | 0, _, _ => none
  | k + 1, x0, x3 => if x3 < (x0.size : Int) then ((spec_Point.f k x0 x3).bind fun bt101 => (if bt101.2 = 0 then (some false) else (spec_UTF8.l0 k x0 (wrap64 (x3 + bt101.2))))) else (some true)
def spec_UTF8.f (k : Nat) (a0 : ByteArray) : Option (Bool) := spec_UTF8.l0 k a0 0
theorem spec_UTF8.mono_l : ∀ k, (∀ y0 y1, LeO (spec_UTF8.l0 k y0 y1) (spec_UTF8.l0 (k + 1) y0 y1))
  | 0 => fun _ _ r h => by simp [spec_UTF8.l0] at h
  | k + 1 => by
    have ih0 := spec_UTF8.mono_l k
    · intro y0 y1
      unfold spec_UTF8.l0
      repeat' first
      | (with_reducible exact ih0 _ _)
      | (with_reducible exact spec_Point.mono _ _ _)
      | (with_reducible exact LeO.refl _)
      | (with_reducible exact LeO.none _)
      | (with_reducible refine LeO.ite ?_ ?_)
      | (with_reducible refine LeO.bind ?_ (fun _ => ?_))
      | exact ih0 _ _
      | exact spec_Point.mono _ _ _
      | exact LeO.none _
      | refine LeO.ite ?_ ?_
      | refine LeO.bind ?_ (fun _ => ?_)
theorem spec_UTF8.mono : ∀ a0 k, LeO (spec_UTF8.f k a0) (spec_UTF8.f (k + 1) a0) := by
  intro a0 k
  have ih0 := spec_UTF8.mono_l k
  unfold spec_UTF8.f
  repeat' first
      | (with_reducible exact ih0 _ _)
      | (with_reducible exact spec_Point.mono _ _ _)
      | (with_reducible exact LeO.refl _)
      | (with_reducible exact LeO.none _)
      | (with_reducible refine LeO.ite ?_ ?_)
      | (with_reducible refine LeO.bind ?_ (fun _ => ?_))
      | exact ih0 _ _
      | exact spec_Point.mono _ _ _
      | exact LeO.none _
      | refine LeO.ite ?_ ?_
      | refine LeO.bind ?_ (fun _ => ?_)
set_option maxHeartbeats 8000000 in
set_option maxRecDepth 100000 in
theorem spec_UTF8.calls (k : Nat) (a0 : ByteArray) (r : Bool) (w : World) (h : spec_UTF8.f k a0 = some r) :
    Calls Try.prog 19 #[.string a0] w fun e w' => e = .returned (.bool r) ∧ Drawn0 w w' := by
  have H : (spec_UTF8.l0 k a0 0) = some r := h
  clear h
  have H' := Aside0.mk H
  clear H
  go_enter Try.func19, Try.ntmps19
  go_wp2
  go_loopg [3] k (fun kq v3 w' => ∃ (x3_1 : Int), v3 = .int .i64 x3_1 ∧ Aside0 (spec_UTF8.l0 kq a0 x3_1 = some r) ∧ Aside0 (kq ≤ k) ∧ Drawn0 w w')
  case atStart => exact ⟨(0), (by first | rfl | (simp; done) | (simp [*]; done)), H', ⟨Nat.le_refl _⟩, by repeat (first | exact Drawn0.refl _ | apply Drawn0.step)⟩
  case round =>
    clear H'
    try clear c1
    obtain ⟨x3_1, rfl, HA, HK1, ⟨m1, rfl⟩⟩ := hrel
    cases gk with
    | zero => exact absurd HA.out (by simp [spec_UTF8.l0])
    | succ k1 =>
      have H := HA.out
      clear HA
      simp only [spec_UTF8.l0] at H
      by_cases c2 : x3_1 < (a0.size : Int)
      · rw [if_pos c2] at H
        have c2b0 : decide (x3_1 < (a0.size : Int)) = true := decide_eq_true c2
        clear c2
        replace H := Option.bind_eq_some_iff.mp H
        obtain ⟨⟨t101, t102⟩, A30, H⟩ := H
        replace H : (if t102 = 0 then (some false) else (spec_UTF8.l0 k1 a0 (wrap64 (x3_1 + t102)))) = some r := H
        have A3 := Aside0.mk A30
        clear A30
        by_cases c4 : t102 = 0
        · rw [if_pos c4] at H
          have c4b0 : (t102 == 0) = true := beq_iff_eq.mpr c4
          have c4b1 : (t102 != 0) = false := bne_eq_false_iff_eq.mpr c4
          clear c4
          obtain rfl := Option.some.inj H
          go_wp2_with (first | ((with_reducible refine gate_callee (f := 26) rfl ?_); refine goesL_ (some 13) rfl rfl Try.func26 (by kernel_rfl) rfl #[.string a0, .int .i64 x3_1] rfl (by (try simp only [List.map_toArray, List.map_cons, List.map_nil]); first | done | rfl | (simp only [List.length_drop, List.length_take]; rfl)) ?_; (with_reducible refine (spec_Point.calls k1 a0 x3_1 t101 t102 _ A3.out).mono ?_); rintro e w' ⟨rfl, ⟨nd, rfl⟩⟩; refine ⟨_, rfl, ?_⟩))
          go_ret
          exact ⟨by first | rfl | (simp; done) | (simp [*]; done), by repeat (first | exact Drawn0.refl _ | apply Drawn0.step)⟩
        · rw [if_neg c4] at H
          have c4b0 : (t102 == 0) = false := beq_eq_false_iff_ne.mpr c4
          have c4b1 : (t102 != 0) = true := bne_iff_ne.mpr c4
          have H' := Aside0.mk H
          clear H
          go_wp2_with (first | ((with_reducible refine gate_callee (f := 26) rfl ?_); refine goesL_ (some 13) rfl rfl Try.func26 (by kernel_rfl) rfl #[.string a0, .int .i64 x3_1] rfl (by (try simp only [List.map_toArray, List.map_cons, List.map_nil]); first | done | rfl | (simp only [List.length_drop, List.length_take]; rfl)) ?_; (with_reducible refine (spec_Point.calls k1 a0 x3_1 t101 t102 _ A3.out).mono ?_); rintro e w' ⟨rfl, ⟨nd, rfl⟩⟩; refine ⟨_, rfl, ?_⟩))
          go_roundg k1
          case measure => have := HK1.out; omega
          case rel => exact ⟨(wrap64 (x3_1 + t102)), (by first | rfl | (simp; done) | (simp [*]; done)), H', ⟨by have := HK1.out; omega⟩, by repeat (first | exact Drawn0.refl _ | apply Drawn0.step)⟩
      · rw [if_neg c2] at H
        have c2b0 : decide (x3_1 < (a0.size : Int)) = false := decide_eq_false c2
        clear c2
        obtain rfl := Option.some.inj H
        go_wp2
        go_ret
        exact ⟨by first | rfl | (simp; done) | (simp [*]; done), by repeat (first | exact Drawn0.refl _ | apply Drawn0.step)⟩

/-! ### laws_short9: function 11 -/
def laws_short9.f (k : Nat) (a0 : ByteArray) : Option (Bool) := if (a0.size : Int) ≤ 2000 then ((spec_UTF8.f k a0).bind fun t103 => (some t103)) else (some false)
theorem laws_short9.mono : ∀ a0 k, LeO (laws_short9.f k a0) (laws_short9.f (k + 1) a0) := by
  intro a0 k
  unfold laws_short9.f
  repeat' first
      | (with_reducible exact spec_UTF8.mono _ _)
      | (with_reducible exact LeO.refl _)
      | (with_reducible exact LeO.none _)
      | (with_reducible refine LeO.ite ?_ ?_)
      | (with_reducible refine LeO.bind ?_ (fun _ => ?_))
      | exact spec_UTF8.mono _ _
      | exact LeO.none _
      | refine LeO.ite ?_ ?_
      | refine LeO.bind ?_ (fun _ => ?_)
set_option maxHeartbeats 8000000 in
set_option maxRecDepth 100000 in
theorem laws_short9.calls (k : Nat) (a0 : ByteArray) (r : Bool) (w : World) (h : laws_short9.f k a0 = some r) :
    Calls Try.prog 11 #[.string a0] w fun e w' => e = .returned (.bool r) ∧ Drawn0 w w' := by
  have H : (if (a0.size : Int) ≤ 2000 then ((spec_UTF8.f k a0).bind fun t103 => (some t103)) else (some false)) = some r := h
  clear h
  by_cases c2 : (a0.size : Int) ≤ 2000
  · rw [if_pos c2] at H
    have c2b0 : decide ((a0.size : Int) ≤ 2000) = true := decide_eq_true c2
    have c2b1 : decide (a0.size ≤ 2000) = true := decide_eq_true (by omega)
    clear c2
    replace H := Option.bind_eq_some_iff.mp H
    obtain ⟨t103, A30, H⟩ := H
    replace H : (some t103) = some r := H
    have A3 := Aside0.mk A30
    clear A30
    obtain rfl := Option.some.inj H
    go_enter Try.func11, Try.ntmps11
    go_wp2_with (first | (go_at_call 19; (with_reducible refine (spec_UTF8.calls k a0 t103 _ A3.out).mono ?_); rintro e w' ⟨rfl, ⟨nd, rfl⟩⟩))
    go_ret
    exact ⟨by first | rfl | (simp; done) | (simp [*]; done), by repeat (first | exact Drawn0.refl _ | apply Drawn0.step)⟩
  · rw [if_neg c2] at H
    have c2b0 : decide ((a0.size : Int) ≤ 2000) = false := decide_eq_false c2
    have c2b1 : decide (a0.size ≤ 2000) = false := decide_eq_false (by omega)
    clear c2
    obtain rfl := Option.some.inj H
    go_enter Try.func11, Try.ntmps11
    go_wp2
    go_ret
    exact ⟨by first | rfl | (simp; done) | (simp [*]; done), by repeat (first | exact Drawn0.refl _ | apply Drawn0.step)⟩

end Go.Proofs.Ytmlochnckplalaa.PFnBlockValue
